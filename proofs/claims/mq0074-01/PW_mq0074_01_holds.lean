import PyProof.Rows.All
import KE.KLam
import KE.KIntText
import KE.KNestM
import Wide.FinOn
import OpenK.AllK
import Wide.All
import PySem.Challenge.RW_mq0074_01
set_option Elab.async false

section
open PySem PySem.W PyProof.Rows
set_option maxRecDepth 100000
set_option linter.all false
namespace Mine

/-- a word on the stack that stays true as it grows -/
structure Kp where
  P : List (Code × Pos) → Prop
  cons : ∀ {c l}, P l → P (c :: l)
  at' : ∀ {c p p' l}, P ((c, p) :: l) → P ((c, p') :: l)
def Kp.any : Kp := ⟨fun _ => True, fun _ => trivial, fun _ => trivial⟩
/-- the claim's caller stands in the stack -/
def Cal (l : List (Code × Pos)) : Prop := (l.map (·.1)).any Code.isCaller = true
def Kp.cal : Kp := ⟨Cal, fun {c l} h => by
  unfold Cal at h ⊢
  rw [List.map_cons, List.any_cons, h, Bool.or_true], fun h => h⟩
/-- as wpAny, where the stack is so -/
def wpR {α : Type} (K : Kp) (M : Model) (A : Around) (t : Sem α) (Q : α → Shared → Prop) (E : Value → Shared → Prop) (s : Shared) : Prop :=
  ∀ Γ p, Γ.In A → K.P ((Γ.code, p) :: Γ.below) → Sem.wp M Γ t (fun a _ s' => Q a s') (fun e _ s' => E e s') p s
def codeR (K : Kp) (M : Model) (A : Around) (c : Code) (R : Result → Shared → Prop) (s : Shared) : Prop :=
  ∀ (Γ : PySem.Ctx) (p : Pos), Γ.code = c → Γ.Below A → K.P Γ.below → wpCode M Γ R p s
theorem wpAny_of {α : Type} {M : Model} {A : Around} {t : Sem α} {Q : α → Shared → Prop} {E : Value → Shared → Prop} {s : Shared} (h : wpR .any M A t Q E s) : wpAny M A t Q E s := fun Γ p hΓ => h Γ p hΓ trivial
theorem codeAny_of {M : Model} {A : Around} {c : Code} {R : Result → Shared → Prop} {s : Shared} (h : codeR .any M A c R s) : codeAny M A c R s := fun Γ p hc hΓ => h Γ p hc hΓ trivial

section
variable {α β : Type} {K : Kp} {M : Model} {A : Around} {E : Value → Shared → Prop} {s : Shared}
theorem wpR_any {t : Sem α} {Q : α → Shared → Prop} (h : wpAny M A t Q E s) : wpR K M A t Q E s := fun Γ p hΓ _ => h Γ p hΓ
theorem wpR_pure {a : α} {Q : α → Shared → Prop} (h : Q a s) : wpR K M A (pure a) Q E s := fun _ _ _ _ => h
theorem wpR_mono {t : Sem α} {Q Q' : α → Shared → Prop} {E' : Value → Shared → Prop} (h : wpR K M A t Q E s)
    (hQ : ∀ a s, Q a s → Q' a s) (hE : ∀ e s, E e s → E' e s) : wpR K M A t Q' E' s :=
  fun Γ p hΓ hc => Sem.wp_mono M Γ t (fun a _ s => hQ a s) (fun e _ s => hE e s) p s (h Γ p hΓ hc)
theorem wpR_bind {m : Sem α} {f : α → Sem β} {Q : β → Shared → Prop} (h : wpR K M A m (fun a s' => wpR K M A (f a) Q E s') E s) : wpR K M A (m >>= f) Q E s := fun Γ p hΓ hc => by
  rw [Sem.wp_bind']
  exact Sem.wp_mono M Γ m (fun a p' s' h' => h' Γ p' hΓ (K.at' hc)) (fun _ _ _ h' => h') p s (h Γ p hΓ hc)
theorem wpR_abind {m : Sem α} {f : α → Sem β} {Q : β → Shared → Prop} (h : wpAny M A m (fun a s' => wpR K M A (f a) Q E s') E s) : wpR K M A (m >>= f) Q E s := wpR_bind (wpR_any h)
theorem wpR_onRaise {m : Sem α} {k : Value → Sem Unit} {Q : α → Shared → Prop}
    (h : wpR K M A m Q (fun e s' => wpAny M A (k e) (fun _ s'' => E e s'') E s') s) : wpR K M A (m.onRaise k) Q E s := fun Γ p hΓ hc => by
  rw [Sem.wp_onRaise]
  exact Sem.wp_mono M Γ m (fun _ _ _ h' => h') (fun e p' s' h' => h' Γ p' hΓ) p s (h Γ p hΓ hc)
theorem wpR_tryCatch {m : Sem α} {k : Value → Sem α} {Q : α → Shared → Prop} (h : wpR K M A m Q (fun e s' => wpR K M A (k e) Q E s') s) :
    wpR K M A (tryCatch m k) Q E s := fun Γ p hΓ hc => by
  rw [Sem.wp_tryCatch']
  exact Sem.wp_mono M Γ m (fun _ _ _ h' => h') (fun e p' s' h' => h' Γ p' hΓ (K.at' hc)) p s (h Γ p hΓ hc)
theorem wpR_attempt {m : Sem α} {Q : Except Value α → Shared → Prop} (h : wpR K M A m (fun a => Q (.ok a)) (fun e => Q (.error e)) s) :
    wpR K M A m.attempt Q E s := fun Γ p hΓ hc => by rw [Sem.wp_attempt]; exact h Γ p hΓ hc
theorem wpR_holding {vs : List Value} {m : Sem α} {Q : α → Shared → Prop} (h : wpR K M A m Q E s) : wpR K M A (holding vs m) Q E s :=
  fun Γ p hΓ hc => by rw [Sem.wp_holding]; exact h Γ p hΓ hc
theorem wpR_standAt {pos : Pos} {Q : Unit → Shared → Prop} (h : Q () s) : wpR K M A (standAt pos) Q E s := fun _ _ _ _ => h
theorem wpR_rule {tag : String} {Q : Unit → Shared → Prop} (h : Q () s) : wpR K M A (rule tag) Q E s := fun _ _ _ _ => h
theorem wpR_eq {t u : Sem α} {Q : α → Shared → Prop} (e : t = u) (h : wpR K M A u Q E s) : wpR K M A t Q E s := e ▸ h

theorem codeR_any {c : Code} {R : Result → Shared → Prop} (h : codeAny M A c R s) : codeR K M A c R s := fun Γ p hc hΓ _ => h Γ p hc hΓ
theorem codeR_mono {c : Code} {R R' : Result → Shared → Prop} (h : codeR K M A c R s) (hR : ∀ r s, R r s → R' r s) : codeR K M A c R' s :=
  fun Γ p hc hΓ hl => wpCode_mono hR (h Γ p hc hΓ hl)
theorem wpR_run {c : Code} {h : Option Value} {Q : Flow → Shared → Prop}
    (hc : codeR K M (A.mark h) c (fun r s' => match r with | .ok f => Q f s' | .error e => E e s') s) (hnb : h ≠ some byPass := by intro x; cases x) : wpR K M A (run c h) Q E s :=
  fun Γ p hΓ hl => by rw [Sem.wp_run]; exact hc _ p rfl (hΓ.enter c h p hnb) hl
theorem wpR_runValue {c : Code} {Q : Value → Shared → Prop}
    (hc : codeR K M A c (fun r s' => match r with | .ok (.ret v) => Q v s' | .ok _ => False | .error e => E e s') s) : wpR K M A (runValue c) Q E s :=
  fun Γ p hΓ hl => by rw [Sem.wp_runValue]; exact hc _ p rfl (hΓ.enter c none p (by intro x; cases x)) hl
theorem wpR_call {f : Value} {pos : List Value} {kw : List (Str × Value)} {Q : Value → Shared → Prop}
    (hc : codeR K M A (.call f ⟨pos, kw⟩) (fun r s' => match r with | .ok (.ret v) => Q v s' | .ok _ => False | .error e => E e s') s) : wpR K M A (call f pos kw) Q E s := wpR_runValue hc
theorem codeR_of_tree {c : Code} {R : Result → Shared → Prop}
    (h : wpR K M (A.under c) (M.den c) (fun fin s' => match fin with | .done f => R (.ok f) s' | .again c' => c'.quiet = true ∧ codeR K M A c' R s')
      (fun e s' => R (.error e) s') s) : codeR K M A c R s := fun Γ p hc hΓ hl => by
  rw [wpCode_iff_wp, hc]
  refine Sem.wp_mono M Γ _ (fun fin p' s' h' => ?_) (fun _ _ _ h' => h') p s (h Γ p (hc ▸ hΓ.in) (K.cons hl))
  cases fin with
  | done f => exact h'
  | again c' => exact ⟨h'.1, h'.2 (Γ.goto c') p' rfl (hΓ.goto c') hl⟩
theorem wpR_stack {Q : List (Code × Pos) → Shared → Prop} (h : ∀ st, K.P st → Q st s) : wpR K M A stack Q E s := fun Γ p _ hl => h _ hl
end

section
variable {K : Kp} {M : Model} {A : Around} {E : Value → Shared → Prop} {s : Shared} {env : Env}
theorem wpR_execs_cons {st rest} {Q : Flow → Shared → Prop} (h : wpR K M A (exec st env) (fun f s' => match f with | .next => wpR K M A (execs rest env) Q E s' | f => Q f s') E s) :
    wpR K M A (execs (st :: rest) env) Q E s := by
  rw [execs_cons]
  refine wpR_bind (wpR_mono h (fun f s' h' => ?_) fun _ _ x => x)
  cases f <;> first | exact h' | exact wpR_pure h'
theorem wpR_execs_nil {Q : Flow → Shared → Prop} (h : Q .next s) : wpR K M A (execs [] env) Q E s := wpR_any (wpAny_execs_nil h)
theorem wpR_If {test body orelse pos} {Q : Flow → Shared → Prop}
    (h : wpAny M A (isTrue test env (eval test env)) (fun b s₂ => if b then wpR K M A (execs body env) Q E s₂ else wpR K M A (execs orelse env) Q E s₂) E s) :
    wpR K M A (exec (.If test body orelse pos) env) Q E s := by
  rw [exec_If]
  refine wpR_bind (wpR_standAt (wpR_abind (wpAny_mono h (fun b s₂ h₂ => ?_) fun _ _ x => x)))
  cases b <;> exact h₂
theorem wpR_Assign_Name {x pos' value pos} {Q : Flow → Shared → Prop}
    (h : wpR K M A (eval value env) (fun v s₁ => wpAny M A (storeName env x v) (fun _ => Q .next) E s₁) E s)
    (hs : swapsWith value (some (.Name x pos')) pos.line env = pure false := by rfl) :
    wpR K M A (exec (.Assign [.Name x pos'] value pos) env) Q E s := by
  rw [exec_Assign_Name env x pos' value pos hs]
  refine wpR_bind (wpR_standAt (wpR_bind (wpR_mono h (fun v s₁ h₁ => ?_) fun _ _ x => x)))
  exact wpR_bind (wpR_standAt (wpR_abind (bindName_ (wpAny_mono h₁ (fun _ _ x => wpR_pure x) fun _ _ x => x))))
theorem wpR_runOwn {c : Code} {h : Option Value} {Q : Flow → Shared → Prop}
    (hc : codeR K M (A.mark h) c (fun r s' => match r with | .ok f => Q f s' | .error e => cameBackBy M A env E e s') s) (hnb : h ≠ some byPass := by intro x; cases x) :
    wpR K M A (runOwn c env h) Q E s := by
  unfold runOwn
  exact wpR_onRaise (wpR_run hc hnb)
theorem wpR_noted {α : Type} {m : Sem α} {Q : α → Shared → Prop} (h : wpR K M A m Q (notedBy M A env E) s) : wpR K M A (m.onRaise fun x => do noteFrame x env; theTreesLotGoes x) Q E s :=
  wpR_onRaise (wpR_mono h (fun _ _ q => q) fun _ _ hx => wpAny_bind (wpAny_mono hx (fun _ _ e => wpAny_theTreesLotGoes e) fun _ _ e => e))
theorem wpR_For {target iter body orelse pos} {Q : Flow → Shared → Prop}
    (h : wpAny M A (eval iter env) (fun x s₁ => wpAny M A (pyIter x) (fun it s₂ =>
      codeR K M A (.forLoop target it body orelse env) (fun r s' => match r with | .ok f => Q f s' | .error e => cameBackBy M A env E e s') s₂) E s₁) E s)
    (hs : ∀ x, foldedSetIterable iter env x = pure x := by intro _; rfl) :
    wpR K M A (exec (.For target iter body orelse pos) env) Q E s := by
  rw [exec_For]
  refine wpR_bind (wpR_standAt (wpR_abind (wpAny_mono h (fun x s₁ h₁ => ?_) fun _ _ x => x)))
  refine wpR_bind (wpR_eq (hs x) (wpR_pure (wpR_bind (wpR_standAt (wpR_bind (wpR_holding (wpR_any (wpAny_mono h₁ (fun it s₂ h₂ => wpR_runOwn h₂) fun _ _ x => x))))))))
end

section
variable {K : Kp} {prog : Program} {w : World} {A : Around} {R : Result → Shared → Prop} {s : Shared} {env : Env}
theorem codeR_forLoop {target it body orelse} (I : Nat → Shared → Prop)
    (turn : ∀ n s, I n s → wpAny (model prog w) A (pyNext it) (fun r s₁ => match r with
      | none => wpAny (model prog w) A (execs orelse env) (fun f s₃ => R (.ok f) s₃) (notedBy (model prog w) A env fun e s' => R (.error e) s') s₁
      | some v => wpAny (model prog w) A (assign target env v) (fun _ s₂ => wpR K (model prog w) A (execs body env) (fun f s₃ => match f with
          | .next | .cont => ∃ m, m < n ∧ I m s₃
          | .brk => R (.ok .next) s₃
          | .ret v => R (.ok (.ret v)) s₃) (notedBy (model prog w) A env fun e s' => R (.error e) s') s₂) (notedBy (model prog w) A env fun e s' => R (.error e) s') s₁) (notedBy (model prog w) A env fun e s' => R (.error e) s') s)
    (n : Nat) (h : I n s) (ht : ∀ v, letOwnedTupleGo target it v = pure () := by intro _; rfl) : codeR K (model prog w) A (.forLoop target it body orelse env) R s := by
  induction n using Nat.strongRecOn generalizing s with
  | ind n ih =>
    refine codeR_of_tree ?_
    show wpR K _ _ ((forTurn target it body orelse env).onRaise (fun x => do noteFrame x env; theTreesLotGoes x)) _ _ s
    refine wpR_noted ?_
    simp only [forTurn]
    refine wpR_bind (wpR_standAt (wpR_abind (wpAny_onRaise (wpAny_mono (turn n s h) (fun r s₁ h₁ => ?_) fun _ _ h' => wpAny_standAt h'))))
    cases r with
    | none => exact wpR_pure ⟨rfl, codeR_any (codeAny_block h₁)⟩
    | some v =>
      refine wpR_bind (wpR_eq (ht v) (wpR_pure ?_))
      refine wpR_abind (wpAny_mono h₁ (fun _ s₂ h₂ => wpR_bind (wpR_mono h₂ (fun f s₃ h₃ => ?_) fun _ _ h' => h')) fun _ _ h' => h')
      cases f with
      | next => obtain ⟨m, hm, hI⟩ := h₃; exact wpR_pure ⟨rfl, ih m hm hI⟩
      | cont => obtain ⟨m, hm, hI⟩ := h₃; exact wpR_pure ⟨rfl, ih m hm hI⟩
      | brk => exact wpR_pure h₃
      | ret v => exact wpR_pure h₃
theorem codeR_func {body}
    (h : wpR K (model prog w) (A.deeper env) (execs body env) (fun f s' => R (.ok (.ret (match f with | .ret v => v | _ => .none))) s')
      (fun e s' => wpAny (model prog w) (A.deeper env) (leaving env e) (fun _ s'' => R (.error e) s'') (fun e' s'' => R (.error e') s'') s') s) :
    codeR K (model prog w) A (.func body env) R s := by
  refine codeR_of_tree ?_
  show wpR K _ (A.deeper env) (do point; match ← (execs body env).onRaise (leaving env) with | .ret v => ret v | _ => ret .none) _ _ s
  refine wpR_abind (wpAny_point (wpR_bind (wpR_onRaise (wpR_mono h (fun f s' h' => ?_) fun _ _ h' => h'))))
  cases f <;> exact wpR_pure h'
end
end Mine

end

section
open PySem PySem.Spec PySem.Calls PySem.W PyProof.Rows
set_option maxRecDepth 100000
set_option linter.all false
namespace Mine

theorem wpR_caller {M : Model} {t : Sem Fin} {R : Result → Shared → Prop} {s : Shared}
    (h : wpR .cal M callerA t (fun fin s' => ∃ f, fin = .done f ∧ R (.ok f) s') (fun e s' => R (.error e) s') s) :
    Sem.wp M ⟨.builtin "claim.caller" {}, none, none, [], none⟩ t (Sem.finPost M ⟨.builtin "claim.caller" {}, none, none, [], none⟩ R) (fun e _ s' => R (.error e) s') default s := by
  refine Sem.wp_mono M _ t (fun fin p' s' h' => ?_) (fun _ _ _ h' => h') default s (h _ default caller_in rfl)
  obtain ⟨f, rfl, hf⟩ := h'
  exact hf

theorem callFromR {c : ClaimW} {tree : List Value → Sem Fin} {w : World} {s : Shared} {free : Addr → Prop} {gens : Prop} {kept : Heap → Prop} (hz : s.asleep) (hgens : s.gens = #[])
    (hspec : ∀ args, c.pre args = true → WData.layableAll args = true →
      ∀ ord : List DictEntry → List DictEntry, (∀ l, (ord l).Perm l) →
      ∃ vs s₁, layAllW c.records (classAt s.heap) w.params ord args s = some (vs, s₁) ∧
        wpR .cal (model c.prog w) callerA (tree vs) (fun fin s' => ∃ f, fin = .done f ∧ (c.Ends s args vs s₁ (.ok f) s' ∧ s'.os = s.os ∧ AllBare s'.gens ∧ kept s'.heap))
          (fun e s' => c.Ends s args vs s₁ (.error e) s' ∧ s'.os = s.os ∧ AllBare s'.gens ∧ kept s'.heap) s₁) :
    c.CallFrom (fun vs => ⟨tree vs, .builtin "claim.caller" {}, default, []⟩) w free gens kept s := by
  intro args hpre hlay ord hord
  obtain ⟨vs, s₁, hlaid, hcode⟩ := hspec args hpre hlay ord hord
  have hal := layAllW_rest _ _ _ hlaid
  obtain ⟨k, r, s'', s', hsched, hrun, hfo, hcase, hos, hkp⟩ := wp_halts_full (M := model c.prog w) (R := fun r s' => c.Ends s args vs s₁ r s' ∧ s'.os = s.os ∧ kept s'.heap)
    (Shared.asleep_of_life hal.2.2.2 hz)
    (wpR_caller (R := fun r s' => (c.Ends s args vs s₁ r s' ∧ s'.os = s.os ∧ kept s'.heap) ∧ leftWithCleanup s'.gens = false) (wpR_mono hcode
      (fun fin s' h => by obtain ⟨f, e, h1, h2, h3, h4⟩ := h; exact ⟨f, e, ⟨h1, h2, h4⟩, leftWithCleanup_false_of_bare h3⟩)
      (fun e s' h => by obtain ⟨h1, h2, h3, h4⟩ := h; exact ⟨⟨h1, h2, h4⟩, leftWithCleanup_false_of_bare h3⟩)))
  obtain ⟨eh, _, _, eo, _⟩ := Shared.forget_eq hfo
  have hcase := hcase.congr eh
  have hkp : kept s'.heap := by first | exact eh ▸ hkp | (rw [eh] at hkp; exact hkp) | (rw [← eh] at hkp; exact hkp)
  rw [← eo] at hos
  have hlife : s'.heap.life = s.heap.life := (runN_life _ _ _ hrun).trans hal.2.2.2
  refine ⟨vs, s₁, hlaid, k, _, s', hsched, ?_, (fun _ i x hx => by rw [hgens] at hx; simp at hx), hkp, by rw [hlife], Shared.rest_eq hos⟩
  rcases hcase with ⟨v, rfl, d1, d2, d3, d4, d5⟩ | ⟨e, ob, cls, rfl, d1, d2, d3, d4, d5⟩
  · exact .inl ⟨v, rfl, d1, d2, d3, fun b o y _ => d4 b o y, d5⟩
  · exact .inr ⟨e, ob, cls, rfl, d1, d2, d3, d4, fun b o y _ => d5 b o y⟩

abbrev WalkOR (q : Program) (loose : List PySem.Str) (XP : (PySem.Str → Option Value) → Heap → Prop) (YP : World → Heap → Prop) (r : RowW) (d : DefRec) (kwd : List (PySem.Str × Expr)) : Prop :=
  ∀ (w : World) (s₀ s₁ : Shared) (mg mb : PySem.Str → Option Value), Ground q loose r.records XP w s₀ mg mb s₁.heap → YP w s₁.heap → ∀ (a : Addr) (o : Obj) (pm cd doc dV kV : Value), s₁.heap.get? a = some o →
    o.data = .func { docDef d.name d.params d.body d.scope pm cd doc with defaults := dV, kwdefaults := kV } → s₁.heap.CodeRec cd d.name → Dflts mg s₁.heap d.params kwd dV kV → mg d.name = some (.ref a) → s₁.gens = #[] →
    ∀ (args : List WData) (vals : List Value) (as : List Addr), r.claim.pre args = true → WData.layableAll args = true → ReadsAllW r.records (classAt s₀.heap) s₁.heap vals args as → WellAll w.params s₁.heap vals args → (∀ a ∈ as, (a == sysModules) = false) →
      codeR .cal (model r.prog w) callerA (.call (.ref a) ⟨vals, []⟩) (fun x s' => GoodWG r.claim (classAt s₀.heap) (ExcName.means s₀.heap) args s₁ x s') s₁

namespace PySem.W
theorem holds_open {r : OpenRow} {q : Program} {loose : List PySem.Str} {Xt : Shared → Bool} {XP : (PySem.Str → Option Value) → Heap → Prop} {α : Type} {Yf : Shared → α} {Ya : World → α} {YP : World → Heap → Prop} {d : DefRec} {kwd : List (PySem.Str × Expr)} {N : Nat}
    (left : LeftO r.prog q loose Xt Yf Ya N) (hY : ∀ w s, Yf s = Ya w → YP w s.heap) (hYk : ∀ w h h', YP w h → (∀ b o, h.get? b = some o → h'.get? b = some o) → YP w h')
    (hX : ∀ s, Xt s = true → XP (s.heap.nsMap mainGlobals) s.heap) (hXk : ∀ mg h h', XP mg h → (∀ b o, h.get? b = some o → h'.get? b = some o) → XP mg h')
    (hdef : defOf q r.name = some (d, kwd)) (hp : r.prog.theDef r.name = some (d.params, d.body, d.scope)) (hk : kwWritten? d.params.kwonlyargs d.params.kw_defaults = some kwd) (hRf : ∀ s, Xt s = true → RecFacts r.records s.heap) (hwr : (!r.writes || r.records.isEmpty) = true)
    (k1 : r.wellSaid = true) (ok : (chainsOk q && opensWell r.prog && (frees r.toRowW && r.within.isEmpty)) = true) (hb : r.prog.bare) (hw : r.toRowW.promised)
    (call : WalkOR q loose XP YP r.toRowW d kwd) : r.Holds := by
  obtain ⟨ok, k5⟩ := Bool.and_eq_true_iff.mp ok
  obtain ⟨hch, o1⟩ := Bool.and_eq_true_iff.mp ok
  obtain ⟨k5, k6⟩ := Bool.and_eq_true_iff.mp k5
  obtain ⟨hsame, hu, ha, hap, hm⟩ := frees_parts k5
  refine ⟨k1, hw, ⟨hb, o1, by show r.toRowW.makers.map _ = []; rw [hm]; rfl⟩, hw.witness, fun w => ⟨(left.behind hX hch w).1, fun s' hs' => ?_⟩⟩
  obtain ⟨s₀, hf, hg0, s, hT, hz, hgens, hg, G00, y⟩ := (left.behind (XP := fun mg h => XP mg h ∧ RecFacts r.toRowW.records h) (fun s hs => ⟨hX s hs, hRf s hs⟩) hch w).2 s' hs'
  have G0 : Ground q loose [] XP w s (s.heap.nsMap mainGlobals) (s.heap.nsMap builtinsNs) s.heap := ⟨G00.T, G00.B, G00.D, G00.TE, G00.TD, G00.W, G00.X.1, G00.cls, G00.has, G00.apart, G00.once, G00.K⟩
  have RF := G00.X.2
  have hT' := hT
  refine ⟨s₀, hf, hg0, s, hT, fun n hn => ?_, RF.1, RF.2.1, ?_⟩
  · obtain rfl : n = r.name := by split at hn <;> simp_all
    exact pinned_of_view hg G0 hdef hp hk
  have hgens : s.gens = #[] := Array.eq_empty_of_size_eq_zero (beq_iff_eq.mp hgens)
  have G : Ground q loose r.toRowW.records XP w s _ _ s.heap := RF.ground G0
  refine callFromR (c := r.toRowW.claim) hz hgens fun args hpre hlay ord hord => ?_
  obtain ⟨⟨vs, s₁⟩, hlaid⟩ := Option.isSome_iff_exists.mp (layAllW_isSome (P := w.params) (ord := ord) G.has args r.toRowW.args s (pre_splitW hpre).1)
  have keeps := layAllW_keeps _ _ _ hlaid
  have hal := layAllW_rest _ _ _ hlaid
  obtain ⟨as, hrd, hin, hold⟩ := reads_layAllW hord _ _ _ hlaid hlay s₁.heap (fun _ _ e => e)
  have L : Laid r.toRowW.records w s s₁ args vs as := ⟨⟨ord, hord, hlaid⟩, hrd, hin, hold, keeps, hal.1.trans hgens, hal.2.2.1⟩
  have G₁ := G.keeps hXk keeps
  obtain ⟨a, o, pm, cd, doc, dV, kV, h1, h2, h3, h4, h5⟩ := G₁.fn hdef
  have h := call w s s₁ _ _ G₁ (hYk _ _ _ (hY w s y) keeps) a o pm cd doc dV kV h2 h3 h4 h5 (defOf_name hdef ▸ h1) L.gens args vs as hpre hlay L.reads L.well (L.low G.low)
  have hi := ident_freeW hu ha hap
  have hwi : r.toRowW.claim.within = [] := List.isEmpty_iff.mp k6
  refine ⟨vs, s₁, hlaid, wpR_abind (wpAny_nsGet G₁.T.g ?_)⟩
  rw [h1]
  refine wpR_bind (wpR_call (codeR_mono h fun x s' g => ?_))
  have fin : ∀ x', x = x' → r.toRowW.claim.Ends s args vs s₁ x' s' ∧ s'.os = s.os ∧ AllBare s'.gens ∧ (r.writes = true → namesKept r.toRowW.claim.prog r.keeps s.heap s'.heap ∧ ∀ x ∈ r.toRowW.claim.records, ∀ a, classAt s.heap x.1 = some a → recordClass s'.heap a x.1 (x.2.map (·.1)) = true) := by
    rintro _ rfl
    have z := g.laid (c := r.toRowW.claim) hsame hwi hi L
    exact ⟨z.1, z.2.1, z.2.2, fun q => ⟨namesKept_of hT' hg r.keeps keeps g.2.1.old, noTable hwr q⟩⟩
  cases x with
  | error e => exact fin _ rfl
  | ok f =>
    have q := g.1
    rcases q with ⟨v, d, as, e, _⟩ | ⟨e, ob, cls, e', _⟩
    · cases e; exact wpR_pure ⟨_, rfl, fin _ rfl⟩
    · cases e'
end PySem.W
end Mine

end

section
open PySem PySem.W PyProof.Rows
set_option maxRecDepth 100000
namespace Mine

abbrev Fz := Addr → Option Obj
def Fz.In (B : Fz) (h : Heap) : Prop := ∀ a o, B a = some o → h.get? a = some o
def Fz.le (B B' : Fz) : Prop := ∀ a o, B a = some o → B' a = some o
theorem Fz.le.rfl {B : Fz} : B.le B := fun _ _ h => h
theorem Fz.le.trans {B B' B'' : Fz} (h : B.le B') (k : B'.le B'') : B.le B'' := fun a o e => k a o (h a o e)
def Fz.set (B : Fz) (a : Addr) (o : Obj) : Fz := fun b => if b = a then some o else B b
theorem Fz.le_set {B : Fz} {a : Addr} {o : Obj} (h : B a = none) : B.le (B.set a o) := fun b x e => by
  unfold Fz.set
  by_cases hb : b = a
  · rw [hb, h] at e; cases e
  · rw [if_neg hb]; exact e
theorem Fz.set_self {B : Fz} {a : Addr} {o : Obj} : (B.set a o) a = some o := by simp [Fz.set]

mutual
inductive Rp (B : Fz) : Value → PyData → Prop
  | none : Rp B .none .none
  | bool (b : Bool) : Rp B (.bool b) (.bool b)
  | int (i : Int) (t : Tok) : Rp B (.int i t) (.int i)
  | str (x : Str) (t : Tok) : Rp B (.str x t) (.str x)
  | list {a : Addr} {o : Obj} {vs : Array Value} {n : Nat} {ds : List PyData} : B a = some o → o.cls = .type "list" → o.data = .seq vs n → RpAll B vs.toList ds → Rp B (.ref a) (.list ds)
  | tuple {a : Addr} {o : Obj} {vs : Array Value} {n : Nat} {ds : List PyData} : B a = some o → o.cls = .type "tuple" → o.data = .seq vs n → RpAll B vs.toList ds → Rp B (.ref a) (.tuple ds)
inductive RpAll (B : Fz) : List Value → List PyData → Prop
  | nil : RpAll B [] []
  | cons {v : Value} {vs : List Value} {d : PyData} {ds : List PyData} : Rp B v d → RpAll B vs ds → RpAll B (v :: vs) (d :: ds)
end
mutual
theorem Rp.mono {B B' : Fz} (h : B.le B') : ∀ {v d}, Rp B v d → Rp B' v d
  | _, _, .none => .none
  | _, _, .bool b => .bool b
  | _, _, .int i t => .int i t
  | _, _, .str x t => .str x t
  | _, _, .list a b c d => .list (h _ _ a) b c (RpAll.mono h d)
  | _, _, .tuple a b c d => .tuple (h _ _ a) b c (RpAll.mono h d)
theorem RpAll.mono {B B' : Fz} (h : B.le B') : ∀ {vs ds}, RpAll B vs ds → RpAll B' vs ds
  | _, _, .nil => .nil
  | _, _, .cons a b => .cons (Rp.mono h a) (RpAll.mono h b)
end
mutual
theorem Rp.reads {B : Fz} {h : Heap} (hb : B.In h) : ∀ {v d}, Rp B v d → ∃ as, Reads h v d as
  | _, _, .none => ⟨_, .none⟩
  | _, _, .bool b => ⟨_, .bool b⟩
  | _, _, .int i t => ⟨_, .int i t⟩
  | _, _, .str x t => ⟨_, .str x t⟩
  | _, _, .list a b c d => let ⟨_, r⟩ := RpAll.reads hb d; ⟨_, .list (hb _ _ a) b c r⟩
  | _, _, .tuple a b c d => let ⟨_, r⟩ := RpAll.reads hb d; ⟨_, .tuple (hb _ _ a) b c r⟩
theorem RpAll.reads {B : Fz} {h : Heap} (hb : B.In h) : ∀ {vs ds}, RpAll B vs ds → ∃ as, ReadsAll h vs ds as
  | _, _, .nil => ⟨_, .nil⟩
  | _, _, .cons a b => let ⟨_, r⟩ := Rp.reads hb a; let ⟨_, q⟩ := RpAll.reads hb b; ⟨_, .cons r q⟩
end
theorem RpAll.length {B : Fz} : ∀ {vs ds}, RpAll B vs ds → vs.length = ds.length
  | _, _, .nil => rfl
  | _, _, .cons _ b => by rw [List.length_cons, List.length_cons, RpAll.length b]
theorem RpAll.append {B : Fz} : ∀ {vs ds ws es}, RpAll B vs ds → RpAll B ws es → RpAll B (vs ++ ws) (ds ++ es)
  | _, _, _, _, .nil, k => k
  | _, _, _, _, .cons a b, k => .cons a (RpAll.append b k)
theorem RpAll.drop {B : Fz} : ∀ (n : Nat) {vs ds}, RpAll B vs ds → RpAll B (vs.drop n) (ds.drop n)
  | 0, _, _, h => h
  | _ + 1, _, _, .nil => .nil
  | n + 1, _, _, .cons _ b => RpAll.drop n b
theorem RpAll.take {B : Fz} : ∀ (n : Nat) {vs ds}, RpAll B vs ds → RpAll B (vs.take n) (ds.take n)
  | 0, _, _, _ => .nil
  | _ + 1, _, _, .nil => .nil
  | n + 1, _, _, .cons a b => .cons a (RpAll.take n b)
theorem RpAll.get {B : Fz} : ∀ {vs ds} {i : Nat} {d : PyData}, RpAll B vs ds → ds[i]? = some d → ∃ v, vs[i]? = some v ∧ Rp B v d
  | _, _, i, _, .nil, h => by simp at h
  | _, _, 0, _, .cons a _, h => by simp at h; subst h; exact ⟨_, by simp, a⟩
  | _, _, i + 1, _, .cons _ b, h => by
    obtain ⟨v, h1, h2⟩ := RpAll.get b (by simpa using h)
    exact ⟨v, by simpa using h1, h2⟩
theorem Rp.int_inv {B : Fz} {v : Value} {i : Int} (h : Rp B v (.int i)) : ∃ t, v = .int i t := by cases h; exact ⟨_, rfl⟩
theorem Rp.str_inv {B : Fz} {v : Value} {x : Str} (h : Rp B v (.str x)) : ∃ t, v = .str x t := by cases h; exact ⟨_, rfl⟩
theorem Rp.list_inv {B : Fz} {v : Value} {ds : List PyData} (h : Rp B v (.list ds)) : ∃ a o vs n, v = .ref a ∧ B a = some o ∧ o.cls = .type "list" ∧ o.data = .seq vs n ∧ RpAll B vs.toList ds := by
  cases h with | list a b c d => exact ⟨_, _, _, _, rfl, a, b, c, d⟩
theorem Rp.tuple_inv {B : Fz} {v : Value} {ds : List PyData} (h : Rp B v (.tuple ds)) : ∃ a o vs n, v = .ref a ∧ B a = some o ∧ o.cls = .type "tuple" ∧ o.data = .seq vs n ∧ RpAll B vs.toList ds := by
  cases h with | tuple a b c d => exact ⟨_, _, _, _, rfl, a, b, c, d⟩

structure Tr (F : List Addr) (s s' : Shared) : Prop where
  rest : ∃ h tk, s' = { s with heap := h, toks := tk }
  keep : ∀ b o, b ∉ F → s.heap.get? b = some o → s'.heap.get? b = some o
  slot : ∀ b o, s.heap.get? b = some o → ∃ sl, s'.heap.get? b = some { o with slots := sl }
theorem Tr.refl (F : List Addr) (s : Shared) : Tr F s s := ⟨⟨s.heap, s.toks, rfl⟩, fun _ _ _ h => h, fun _ o h => ⟨o.slots, h⟩⟩
theorem Tr.trans {F : List Addr} {s s' s'' : Shared} (h : Tr F s s') (k : Tr F s' s'') : Tr F s s'' := by
  obtain ⟨⟨h1, t1, rfl⟩, k1, l1⟩ := h
  obtain ⟨⟨h2, t2, rfl⟩, k2, l2⟩ := k
  refine ⟨⟨h2, t2, rfl⟩, fun b o hb e => k2 b o hb (k1 b o hb e), fun b o e => ?_⟩
  obtain ⟨sl, e1⟩ := l1 b o e
  obtain ⟨sl2, e2⟩ := l2 b _ e1
  exact ⟨sl2, e2⟩
theorem Tr.of_keep {F : List Addr} {s : Shared} {h : Heap} {tk : Nat} (k : ∀ b o, s.heap.get? b = some o → h.get? b = some o) : Tr F s { s with heap := h, toks := tk } :=
  ⟨⟨h, tk, rfl⟩, fun b o _ e => k b o e, fun b o e => ⟨o.slots, k b o e⟩⟩
theorem Tr.more {F F' : List Addr} {s s' : Shared} (hF : ∀ a ∈ F, a ∈ F') (h : Tr F s s') : Tr F' s s' := ⟨h.rest, fun b o hb e => h.keep b o (fun q => hb (hF b q)) e, h.slot⟩
theorem Tr.none {F : List Addr} {s s' : Shared} (h : Tr F s s') {a : Addr} (e : s'.heap.get? a = none) : s.heap.get? a = none := by
  cases q : s.heap.get? a with
  | none => rfl
  | some o => obtain ⟨sl, q'⟩ := h.slot a o q; rw [e] at q'; cases q'

structure Gr (F : List Addr) (B : Fz) (s : Shared) (B' : Fz) (s' : Shared) : Prop where
  tr : Tr F s s'
  le : B.le B'
  bin : B'.In s'.heap
  bnew : ∀ a o, B' a = some o → B a = some o ∨ s.heap.get? a = none
theorem Gr.trans {F : List Addr} {B B' B'' : Fz} {s s' s'' : Shared} (h : Gr F B s B' s') (k : Gr F B' s' B'' s'') : Gr F B s B'' s'' :=
  ⟨h.tr.trans k.tr, h.le.trans k.le, k.bin, fun a o e => by
    rcases k.bnew a o e with q | q
    · exact h.bnew a o q
    · exact .inr (h.tr.none q)⟩
theorem Gr.more {F F' : List Addr} {B B' : Fz} {s s' : Shared} (hF : ∀ a ∈ F, a ∈ F') (h : Gr F B s B' s') : Gr F' B s B' s' := ⟨h.tr.more hF, h.le, h.bin, h.bnew⟩
theorem Gr.refl {F : List Addr} {B : Fz} {s : Shared} (h : B.In s.heap) : Gr F B s B s := ⟨.refl F s, .rfl, h, fun _ _ e => .inl e⟩

structure Cx where
  prog : Program
  w : World
  A : Around
  F : List Addr
  B0 : Fz
  s0 : Shared
  env : Env

/-- the block's scope -/
structure Sc (C : Cx) (sc : Scope) : Prop where
  scope : C.env.scope = sc
  kind : sc.kind = .function
  glob : C.env.globals = mainGlobals
  bi : C.env.builtins = builtinsNs
theorem Sc.k {C : Cx} {sc : Scope} (S : Sc C sc) : C.env.scope.kind = .function := by rw [S.scope]; exact S.kind
theorem Sc.of {C : Cx} {sc : Scope} (S : Sc C sc) {x : Str} {k : NameKind} (h : sc.names.lookup x = some k) : C.env.kindOf x = some k := by unfold Env.kindOf; rw [S.scope]; exact h
theorem Sc.st {C : Cx} {sc : Scope} (S : Sc C sc) : (C.env.scope.kind == .class || (C.env.scope.kind == .module && C.env.locals != C.env.globals)) = false := by rw [S.k]; rfl
theorem Sc.ni {C : Cx} {sc : Scope} (S : Sc C sc) : interactive C.env = false := by unfold interactive; rw [S.k]; rfl

abbrev Own := List (Addr × (Obj → Prop))
def PL (items : Array Value) (o : Obj) : Prop := ∃ n, o = { cls := .type "list", data := .seq items n }

structure Fs (C : Cx) (m : Str → Option Value) (own : Own) (B : Fz) (s : Shared) : Prop where
  ns : s.heap.Ns C.env.locals m
  gr : Gr C.F C.B0 C.s0 B s
  lnew : C.s0.heap.get? C.env.locals = none
  lout : B C.env.locals = none
  mine : ∀ p ∈ own, (∃ o, s.heap.get? p.1 = some o ∧ p.2 o) ∧ p.1 ≠ C.env.locals ∧ B p.1 = none ∧ C.s0.heap.get? p.1 = none
  ond : (own.map (·.1)).Nodup
  fout : ∀ a ∈ C.F, C.B0 a = none ∧ ∃ o, C.s0.heap.get? a = some o

section
variable {C : Cx} {m : Str → Option Value} {own : Own} {B : Fz} {s : Shared}

theorem Fs.bin (H : Fs C m own B s) : B.In s.heap := H.gr.bin
theorem Fs.lt (H : Fs C m own B s) : C.env.locals < s.heap.objs.size := H.ns.lt
theorem Fs.next (H : Fs C m own B s) : B s.heap.objs.size = none := by
  cases q : B s.heap.objs.size with
  | none => rfl
  | some o => exact absurd (Heap.lt_size (H.bin _ _ q)) (Nat.lt_irrefl _)
theorem Fs.next0 (H : Fs C m own B s) : C.s0.heap.get? s.heap.objs.size = none := H.gr.tr.none (Heap.get?_none_of_le (Nat.le_refl _))
/-- nothing of the frame turns: more objects alone -/
theorem Fs.keeps (H : Fs C m own B s) {h : Heap} {tk : Nat} (k : ∀ b o, s.heap.get? b = some o → h.get? b = some o) : Fs C m own B { s with heap := h, toks := tk } :=
  ⟨H.ns.keeps k, H.gr.trans ⟨.of_keep k, .rfl, fun a o e => k a o (H.bin a o e), fun _ _ e => .inl e⟩, H.lnew, H.lout,
    fun p hp => let ⟨⟨o, a, b⟩, r⟩ := H.mine p hp; ⟨⟨o, k _ _ a, b⟩, r⟩, H.ond, H.fout⟩
theorem Fs.toks (H : Fs C m own B s) (tk : Nat) : Fs C m own B { s with toks := tk } := H.keeps (h := s.heap) fun _ _ e => e
theorem Fs.push (H : Fs C m own B s) (o : Obj) : Fs C m own B { s with heap := s.heap.push o } := H.keeps (tk := s.toks) fun _ _ e => Heap.get?_push_of_some _ e
theorem Fs.pushF (H : Fs C m own B s) (o : Obj) (hf : o.isFreed = false := by rfl) : Fs C m own (B.set s.heap.objs.size o) { s with heap := s.heap.push o } := by
  have k : ∀ b x, s.heap.get? b = some x → (s.heap.push o).get? b = some x := fun _ _ e => Heap.get?_push_of_some _ e
  have hle := Fz.le_set (o := o) H.next
  refine ⟨H.ns.keeps k, H.gr.trans ⟨.of_keep (tk := s.toks) k, hle, fun a x e => ?_, fun a x e => ?_⟩, H.lnew, ?_, fun p hp => ?_, H.ond, H.fout⟩
  · unfold Fz.set at e
    split at e
    · rename_i ha; cases e; rw [ha]; exact Heap.get?_push_size _ hf
    · exact k _ _ (H.bin a x e)
  · unfold Fz.set at e
    split at e
    · rename_i ha; rw [ha]; exact .inr (Heap.get?_none_of_le (Nat.le_refl _))
    · exact .inl e
  · unfold Fz.set; rw [if_neg (Nat.ne_of_lt H.lt)]; exact H.lout
  · obtain ⟨⟨x, a, b⟩, c, d, e⟩ := H.mine p hp
    exact ⟨⟨x, k _ _ a, b⟩, c, by unfold Fz.set; rw [if_neg (Nat.ne_of_lt (Heap.lt_size a))]; exact d, e⟩
theorem Fs.pushO (H : Fs C m own B s) (o : Obj) (P : Obj → Prop) (hP : P o) (hf : o.isFreed = false := by rfl) : Fs C m ((s.heap.objs.size, P) :: own) B { s with heap := s.heap.push o } := by
  have H' := H.push o
  refine ⟨H'.ns, H'.gr, H'.lnew, H'.lout, fun p hp => ?_, ?_, H.fout⟩
  · rcases List.mem_cons.mp hp with rfl | hp
    · exact ⟨⟨o, Heap.get?_push_size _ hf, hP⟩, Nat.ne_of_gt H.lt, H.next, H.next0⟩
    · exact H'.mine p hp
  · rw [List.map_cons, List.nodup_cons]
    refine ⟨fun hm => ?_, H.ond⟩
    obtain ⟨p, hp, e⟩ := List.mem_map.mp hm
    obtain ⟨⟨x, a, _⟩, _⟩ := H.mine p hp
    exact absurd (Heap.lt_size a) (by rw [show p.1 = s.heap.objs.size from e]; exact Nat.lt_irrefl _)
theorem Fs.freeze {a : Addr} {P : Obj → Prop} (H : Fs C m ((a, P) :: own) B s) : ∃ o, P o ∧ B a = none ∧ Fs C m own (B.set a o) s := by
  obtain ⟨⟨o, ho, hP⟩, hL, hB, h0⟩ := H.mine (a, P) (.head _)
  have hle := Fz.le_set (o := o) hB
  refine ⟨o, hP, hB, H.ns, ⟨H.gr.tr, H.gr.le.trans hle, fun b x e => ?_, fun b x e => ?_⟩, H.lnew, ?_, fun p hp => ?_, (List.nodup_cons.mp (by simpa using H.ond)).2, H.fout⟩
  · unfold Fz.set at e
    split at e
    · rename_i hb; cases e; rw [hb]; exact ho
    · exact H.bin b x e
  · unfold Fz.set at e
    split at e
    · rename_i hb; rw [hb]; exact .inr h0
    · exact H.gr.bnew b x e
  · unfold Fz.set; rw [if_neg (Ne.symm hL)]; exact H.lout
  · obtain ⟨q, c, d, e⟩ := H.mine p (.tail _ hp)
    refine ⟨q, c, ?_, e⟩
    unfold Fz.set
    rw [if_neg fun hq => ?_]
    · exact d
    · have := (List.nodup_cons.mp (show (a :: own.map (·.1)).Nodup from H.ond)).1
      exact this (List.mem_map.mpr ⟨p, hp, hq⟩)
theorem upd_get {m : Str → Option Value} {x : Str} {v : Value} : (fun y => if y = x then some v else m y) x = some v := by simp
/-- a name is stored -/
theorem Fs.store (H : Fs C m own B s) {h' : Heap} {tk : Nat} {m' : Str → Option Value} (hn : h'.Ns C.env.locals m') (hs : Heap.SameBut C.env.locals s.heap h') : Fs C m' own B { s with heap := h', toks := tk } := by
  have k : ∀ b o, b ≠ C.env.locals → s.heap.get? b = some o → h'.get? b = some o := fun b o hb e => (hs.2 b hb).trans e
  have old : ∀ b o, C.s0.heap.get? b = some o → b ≠ C.env.locals := fun b o e q => by rw [q, H.lnew] at e; cases e
  obtain ⟨⟨h1, t1, hr⟩, k1, l1⟩ := H.gr.tr
  refine ⟨hn, ⟨⟨⟨h', tk, ?_⟩, fun b o hb e => k b o (old b o e) (k1 b o hb e), fun b o e => ?_⟩, H.gr.le, fun a o e => k a o (fun q => ?_) (H.bin a o e), H.gr.bnew⟩, H.lnew, H.lout, fun p hp => ?_, H.ond, H.fout⟩
  · rw [hr]
  · obtain ⟨sl, e1⟩ := l1 b o e
    exact ⟨sl, k b _ (old b o e) e1⟩
  · rw [q, H.lout] at e; cases e
  · obtain ⟨⟨o, a, b⟩, c, d⟩ := H.mine p hp
    exact ⟨⟨o, k _ _ c a, b⟩, c, d⟩
theorem Fs.leave (H : Fs C m own B s) {h' : Heap} (hs : Heap.SameBut C.env.locals s.heap h') : Gr C.F C.B0 C.s0 B { s with heap := h' } := by
  have k : ∀ b o, b ≠ C.env.locals → s.heap.get? b = some o → h'.get? b = some o := fun b o hb e => (hs.2 b hb).trans e
  have old : ∀ b o, C.s0.heap.get? b = some o → b ≠ C.env.locals := fun b o e q => by rw [q, H.lnew] at e; cases e
  obtain ⟨⟨h1, t1, hr⟩, k1, l1⟩ := H.gr.tr
  refine ⟨⟨⟨h', s.toks, ?_⟩, fun b o hb e => k b o (old b o e) (k1 b o hb e), fun b o e => ?_⟩, H.gr.le, fun a o e => k a o (fun q => ?_) (H.bin a o e), H.gr.bnew⟩
  · rw [hr]
  · obtain ⟨sl, e1⟩ := l1 b o e
    exact ⟨sl, k b _ (old b o e) e1⟩
  · rw [q, H.lout] at e; cases e
/-- an own object is turned -/
theorem Fs.turn {a : Addr} {P P' : Obj → Prop} {pre post : Own} (H : Fs C m (pre ++ (a, P) :: post) B s) {h' : Heap} {tk : Nat} {o : Obj} (hs : Heap.SameBut a s.heap h') (ho : h'.get? a = some o) (hP : P' o) :
    Fs C m (pre ++ (a, P') :: post) B { s with heap := h', toks := tk } := by
  obtain ⟨_, hL, hB, h0⟩ := H.mine (a, P) (by simp)
  have k : ∀ b o, b ≠ a → s.heap.get? b = some o → h'.get? b = some o := fun b o hb e => (hs.2 b hb).trans e
  have old : ∀ b o, C.s0.heap.get? b = some o → b ≠ a := fun b o e q => by rw [q, h0] at e; cases e
  obtain ⟨⟨h1, t1, hr⟩, k1, l1⟩ := H.gr.tr
  have hnd := H.ond
  rw [List.map_append, List.map_cons, List.nodup_append] at hnd
  obtain ⟨n1, n2, n3⟩ := hnd
  refine ⟨H.ns.sameBut hs (Ne.symm hL), ⟨⟨⟨h', tk, ?_⟩, fun b o hb e => k b o (old b o e) (k1 b o hb e), fun b o e => ?_⟩, H.gr.le, fun b x e => k b x (fun q => ?_) (H.bin b x e), H.gr.bnew⟩, H.lnew, H.lout, fun p hp => ?_, ?_, H.fout⟩
  · rw [hr]
  · obtain ⟨sl, e1⟩ := l1 b o e
    exact ⟨sl, k b _ (old b o e) e1⟩
  · rw [q, hB] at e; cases e
  · rcases List.mem_append.mp hp with q | q
    · obtain ⟨⟨x, e1, e2⟩, r⟩ := H.mine p (by simp [q])
      refine ⟨⟨x, k _ _ (fun e => ?_) e1, e2⟩, r⟩
      exact n3 p.1 (List.mem_map.mpr ⟨p, q, rfl⟩) a (by simp) e
    · rcases List.mem_cons.mp q with rfl | q
      · exact ⟨⟨o, ho, hP⟩, hL, hB, h0⟩
      · obtain ⟨⟨x, e1, e2⟩, r⟩ := H.mine p (by simp [q])
        refine ⟨⟨x, k _ _ (fun e => ?_) e1, e2⟩, r⟩
        exact (List.nodup_cons.mp n2).1 (List.mem_map.mpr ⟨p, q, e⟩)
  · rw [List.map_append, List.map_cons, List.nodup_append]
    exact ⟨n1, n2, n3⟩
theorem Fs.lose {a : Addr} {P : Obj → Prop} {pre post : Own} (H : Fs C m (pre ++ (a, P) :: post) B s) {h' : Heap} {tk : Nat} (hs : Heap.ExtBut a s.heap h') :
    Fs C m (pre ++ post) B { s with heap := h', toks := tk } := by
  obtain ⟨_, hL, hB, h0⟩ := H.mine (a, P) (by simp)
  have k : ∀ b o, b ≠ a → s.heap.get? b = some o → h'.get? b = some o := fun b o hb e => hs b o hb e
  have old : ∀ b o, C.s0.heap.get? b = some o → b ≠ a := fun b o e q => by rw [q, h0] at e; cases e
  obtain ⟨⟨h1, t1, hr⟩, k1, l1⟩ := H.gr.tr
  have hnd := H.ond
  rw [List.map_append, List.map_cons, List.nodup_append] at hnd
  obtain ⟨n1, n2, n3⟩ := hnd
  have n2' := List.nodup_cons.mp n2
  refine ⟨H.ns.extBut hs (Ne.symm hL), ⟨⟨⟨h', tk, ?_⟩, fun b o hb e => k b o (old b o e) (k1 b o hb e), fun b o e => ?_⟩, H.gr.le, fun b x e => k b x (fun q => ?_) (H.bin b x e), H.gr.bnew⟩, H.lnew, H.lout, fun p hp => ?_, ?_, H.fout⟩
  · rw [hr]
  · obtain ⟨sl, e1⟩ := l1 b o e
    exact ⟨sl, k b _ (old b o e) e1⟩
  · rw [q, hB] at e; cases e
  · have hp' : p ∈ pre ++ (a, P) :: post := by
      rcases List.mem_append.mp hp with q | q
      · exact List.mem_append.mpr (.inl q)
      · exact List.mem_append.mpr (.inr (.tail _ q))
    obtain ⟨⟨x, e1, e2⟩, r⟩ := H.mine p hp'
    refine ⟨⟨x, k _ _ (fun e => ?_) e1, e2⟩, r⟩
    rcases List.mem_append.mp hp with q | q
    · exact n3 p.1 (List.mem_map.mpr ⟨p, q, rfl⟩) a (by simp) e
    · exact n2'.1 (List.mem_map.mpr ⟨p, q, e⟩)
  · rw [List.map_append, List.nodup_append]
    exact ⟨n1, n2'.2, fun x hx y hy => n3 x hx y (.tail _ hy)⟩
theorem Fs.adopt {c : Addr} {o : Obj} (H : Fs C m own B s) (hc : s.heap.get? c = some o) (hL : c ≠ C.env.locals) (hB : B c = none) (h0 : C.s0.heap.get? c = none) (hn : ∀ p ∈ own, p.1 ≠ c) : Fs C m ((c, fun _ => True) :: own) B s := by
  refine ⟨H.ns, H.gr, H.lnew, H.lout, fun p hp => ?_, ?_, H.fout⟩
  · rcases List.mem_cons.mp hp with rfl | hp
    · exact ⟨⟨o, hc, trivial⟩, hL, hB, h0⟩
    · exact H.mine p hp
  · rw [List.map_cons, List.nodup_cons]
    refine ⟨fun hm => ?_, H.ond⟩
    obtain ⟨p, hp, e⟩ := List.mem_map.mp hm
    exact hn p hp e
theorem ns_slots {h h' : Heap} {L : Addr} {m : Str → Option Value} (hn : h.Ns L m) (k : ∀ o, h.get? L = some o → ∃ sl, h'.get? L = some { o with slots := sl }) : h'.Ns L m := by
  obtain ⟨o, es, ep, ho, hd, r⟩ := hn
  obtain ⟨sl, e⟩ := k o ho
  exact ⟨_, es, ep, e, hd, r⟩
/-- behind a call -/
theorem Fs.call (H : Fs C m own B s) {B' : Fz} {s' : Shared} {F' : List Addr} (hF : ∀ a ∈ F', a = C.env.locals ∨ a ∈ C.F) (G : Gr F' B s B' s') : Fs C m own B' s' := by
  have there : ∀ a o, s.heap.get? a = some o → B a = none → B' a = none := fun a o e hb => by
    cases q : B' a with
    | none => rfl
    | some x =>
      rcases G.bnew a x q with h | h
      · rw [hb] at h; cases h
      · rw [e] at h; cases h
  obtain ⟨oL, es, ep, hL, _⟩ := id H.ns
  have old : ∀ b o, C.s0.heap.get? b = some o → b ≠ C.env.locals := fun b o e q => by rw [q, H.lnew] at e; cases e
  refine ⟨ns_slots H.ns fun o e => G.tr.slot _ o e, ⟨⟨?_, fun b o hb e => G.tr.keep b o (fun q => ?_) (H.gr.tr.keep b o hb e), fun b o e => ?_⟩, H.gr.le.trans G.le, G.bin, fun a o e => ?_⟩, H.lnew, there _ _ hL H.lout, fun p hp => ?_, H.ond, H.fout⟩
  · obtain ⟨h1, t1, e1⟩ := H.gr.tr.rest
    obtain ⟨h2, t2, e2⟩ := G.tr.rest
    exact ⟨h2, t2, by rw [e2, e1]⟩
  · rcases hF b q with q | q
    · exact old b o e q
    · exact hb q
  · obtain ⟨sl, e1⟩ := H.gr.tr.slot b o e
    obtain ⟨sl2, e2⟩ := G.tr.slot b _ e1
    exact ⟨sl2, e2⟩
  · rcases G.bnew a o e with q | q
    · exact H.gr.bnew a o q
    · exact .inr (H.gr.tr.none q)
  · obtain ⟨⟨o, e1, e2⟩, c, d, f⟩ := H.mine p hp
    refine ⟨⟨o, G.tr.keep _ _ (fun q => ?_) e1, e2⟩, c, there _ _ e1 d, f⟩
    rcases hF _ q with q | q
    · exact c q
    · obtain ⟨_, x, hx⟩ := H.fout _ q
      rw [f] at hx; cases hx
end
end Mine

end

section
open PySem PySem.W PyProof.Rows
set_option maxRecDepth 100000
set_option linter.all false
namespace Mine

def lk (l : List (Str × Value)) : Str → Option Value := fun y => l.lookup y
theorem lk_cons (x : Str) (v : Value) (l : List (Str × Value)) : (fun y => if y = x then some v else lk l y) = lk ((x, v) :: l) := by
  funext y
  unfold lk
  rw [List.lookup_cons]
  by_cases h : y = x
  · rw [if_pos h, h]; simp
  · rw [if_neg h]
    have : (y == x) = false := by simpa using h
    rw [this]

structure Ev (C : Cx) (m : Str → Option Value) (own : Own) (Bb : Fz) (e : Expr) (P : Value → Fz → Prop) : Prop where
  out : ∀ (E : Value → Shared → Prop) (B : Fz) (s : Shared), Bb.le B → Fs C m own B s → ∀ Q : Value → Shared → Prop,
    (∀ v B' s', B.le B' → Fs C m own B' s' → P v B' → Q v s') → wpAny (model C.prog C.w) C.A (eval e C.env) Q E s
/-- a test -/
structure Et (C : Cx) (m : Str → Option Value) (own : Own) (Bb : Fz) (e : Expr) (b : Bool) : Prop where
  out : ∀ (E : Value → Shared → Prop) (B : Fz) (s : Shared), Bb.le B → Fs C m own B s → ∀ Q : Bool → Shared → Prop,
    (∀ B' s', B.le B' → Fs C m own B' s' → Q b s') → wpAny (model C.prog C.w) C.A (isTrue e C.env (eval e C.env)) Q E s

abbrev Rd (d : PyData) : Value → Fz → Prop := fun v B => Rp B v d

section
variable {C : Cx} {sc : Scope} {m : Str → Option Value} {own : Own} {Bb : Fz}

theorem ev_int {i : Int} {k : Nat} {pos : Pos} : Ev C m own Bb (.Constant (.int i) k pos) (Rd (.int i)) :=
  Ev.mk fun E B s _ H Q k => wpAny_Constant_int (k _ B _ .rfl (H.toks _) (.int _ _))
theorem ev_str {x : Str} {k : Nat} {pos : Pos} : Ev C m own Bb (.Constant (.str x) k pos) (Rd (.str x)) :=
  Ev.mk fun E B s _ H Q k => Calls.Constant_str (k _ B _ .rfl (H.toks _) (.str _ _))
theorem ev_name {x : Str} {pos : Pos} {v : Value} {P : Value → Fz → Prop} (S : Sc C sc) (hv : m x = some v) (hP : ∀ B, Bb.le B → P v B)
    (hl : sc.names.lookup x = some .local := by rfl) (hd : (x == ("__debug__" : Str)) = false := by decide) : Ev C m own Bb (.Name x pos) P :=
  Ev.mk fun E B s hb H Q k => wpAny_Name (wpAny_loadName_local S.k (S.of hl) H.ns hv (k v B s .rfl H (hP B hb))) hd
theorem ev_var {x : Str} {pos : Pos} {v : Value} {d : PyData} (S : Sc C sc) (hv : m x = some v) (hR : Rp Bb v d)
    (hl : sc.names.lookup x = some .local := by rfl) (hd : (x == ("__debug__" : Str)) = false := by decide) : Ev C m own Bb (.Name x pos) (Rd d) :=
  ev_name S hv (fun _ h => hR.mono h) hl hd
theorem Ev.weaken {e : Expr} {P P' : Value → Fz → Prop} (h : Ev C m own Bb e P) (hP : ∀ v B, Bb.le B → P v B → P' v B) : Ev C m own Bb e P' :=
  Ev.mk fun E B s hb H Q k => h.out E B s hb H Q fun v B' s' hle H' hp => k v B' s' hle H' (hP v B' (hb.trans hle) hp)
theorem Ev.base {e : Expr} {P : Value → Fz → Prop} {Bb' : Fz} (h : Ev C m own Bb e P) (hb : Bb.le Bb') : Ev C m own Bb' e P :=
  Ev.mk fun E B s hb' H Q k => h.out E B s (hb.trans hb') H Q k

theorem ev_bin {l r : Expr} {op : Operator} {pos : Pos} {P1 P2 P : Value → Fz → Prop} (h1 : Ev C m own Bb l P1) (h2 : Ev C m own Bb r P2) (mo : ∀ v B B', B.le B' → P1 v B → P1 v B')
    (hop : ∀ v1 v2 (E : Value → Shared → Prop) B s, Bb.le B → Fs C m own B s → P1 v1 B → P2 v2 B → ∀ Q : Value → Shared → Prop, (∀ v B' s', B.le B' → Fs C m own B' s' → P v B' → Q v s') → wpAny (model C.prog C.w) C.A (binaryOp op v1 v2) Q E s) :
    Ev C m own Bb (.BinOp l op r pos) P := Ev.mk fun E B s hb H Q k =>
  wpAny_BinOp (h1.out E B s hb H _ fun v1 B1 s1 hle1 H1 p1 => h2.out E B1 s1 (hb.trans hle1) H1 _ fun v2 B2 s2 hle2 H2 p2 =>
    hop v1 v2 E B2 s2 (hb.trans (hle1.trans hle2)) H2 (mo _ _ _ hle2 p1) p2 Q fun v B' s' hle H' p => k v B' s' (hle1.trans (hle2.trans hle)) H' p)
theorem rd_mo {d : PyData} : ∀ v B B', Fz.le B B' → Rd d v B → Rd d v B' := fun _ _ _ h p => p.mono h

theorem ev_mod {l r : Expr} {pos : Pos} {a b : Int} (h1 : Ev C m own Bb l (Rd (.int a))) (h2 : Ev C m own Bb r (Rd (.int b))) (hb : b ≠ 0) : Ev C m own Bb (.BinOp l .Mod r pos) (Rd (.int (a.fmod b))) :=
  ev_bin h1 h2 rd_mo fun v1 v2 E B s _ H p1 p2 Q k => by
    obtain ⟨t, rfl⟩ := p1.int_inv; obtain ⟨u, rfl⟩ := p2.int_inv
    exact mod_int' hb (k _ B _ .rfl (H.toks _) (.int _ _))
theorem ev_fdiv {l r : Expr} {pos : Pos} {a b : Int} (h1 : Ev C m own Bb l (Rd (.int a))) (h2 : Ev C m own Bb r (Rd (.int b))) (hb : b ≠ 0) (hs : b.natAbs < 1073741824) : Ev C m own Bb (.BinOp l .FloorDiv r pos) (Rd (.int (a.fdiv b))) :=
  ev_bin h1 h2 rd_mo fun v1 v2 E B s _ H p1 p2 Q k => by
    obtain ⟨t, rfl⟩ := p1.int_inv; obtain ⟨u, rfl⟩ := p2.int_inv
    exact floordiv_int hb (k _ B _ .rfl (H.toks _) (.int _ _)) (hp := .inl (PyProof.noPylong_small hs))
theorem ev_add {l r : Expr} {pos : Pos} {a b : Int} (h1 : Ev C m own Bb l (Rd (.int a))) (h2 : Ev C m own Bb r (Rd (.int b))) : Ev C m own Bb (.BinOp l .Add r pos) (Rd (.int (a + b))) :=
  ev_bin h1 h2 rd_mo fun v1 v2 E B s _ H p1 p2 Q k => by
    obtain ⟨t, rfl⟩ := p1.int_inv; obtain ⟨u, rfl⟩ := p2.int_inv
    exact PyProof.Rows.add_int (k _ B _ .rfl (H.toks _) (.int _ _))
theorem ev_sub {l r : Expr} {pos : Pos} {a b : Int} (h1 : Ev C m own Bb l (Rd (.int a))) (h2 : Ev C m own Bb r (Rd (.int b))) : Ev C m own Bb (.BinOp l .Sub r pos) (Rd (.int (a - b))) :=
  ev_bin h1 h2 rd_mo fun v1 v2 E B s _ H p1 p2 Q k => by
    obtain ⟨t, rfl⟩ := p1.int_inv; obtain ⟨u, rfl⟩ := p2.int_inv
    exact PyProof.Rows.sub_int (k _ B _ .rfl (H.toks _) (.int _ _))
theorem ev_mul {l r : Expr} {pos : Pos} {a b : Int} (h1 : Ev C m own Bb l (Rd (.int a))) (h2 : Ev C m own Bb r (Rd (.int b))) (hm : IntMulOk a b) : Ev C m own Bb (.BinOp l .Mult r pos) (Rd (.int (a * b))) :=
  ev_bin h1 h2 rd_mo fun v1 v2 E B s _ H p1 p2 Q k => by
    obtain ⟨t, rfl⟩ := p1.int_inv; obtain ⟨u, rfl⟩ := p2.int_inv
    exact PyProof.Rows.mul_int (k _ B _ .rfl (H.toks _) (.int _ _)) hm
theorem ev_cat {l r : Expr} {pos : Pos} {a b : Str} (h1 : Ev C m own Bb l (Rd (.str a))) (h2 : Ev C m own Bb r (Rd (.str b))) (hs : a.length + b.length ≤ 1000000) : Ev C m own Bb (.BinOp l .Add r pos) (Rd (.str (a ++ b))) :=
  ev_bin h1 h2 rd_mo fun v1 v2 E B s _ H p1 p2 Q k => by
    obtain ⟨t, rfl⟩ := p1.str_inv; obtain ⟨u, rfl⟩ := p2.str_inv
    exact PyProof.Rows.add_str (fun t' tk => k _ B _ .rfl (H.toks _) (.str _ _)) (by rw [sizeLine_eq]; omega)

theorem et_cmp {l r : Expr} {op : CmpOp} {pos : Pos} {P1 P2 : Value → Fz → Prop} {b : Bool} (h1 : Ev C m own Bb l P1) (h2 : Ev C m own Bb r P2) (mo : ∀ v B B', B.le B' → P1 v B → P1 v B')
    (hop : ∀ v1 v2 (E : Value → Shared → Prop) B s, Bb.le B → Fs C m own B s → P1 v1 B → P2 v2 B → ∀ Q : Value → Shared → Prop, (∀ B' s', B.le B' → Fs C m own B' s' → Q (.bool b) s') → wpAny (model C.prog C.w) C.A (compareOp op v1 v2) Q E s)
    (hm : behindInMarks op r = false := by with_unfolding_all rfl) : Et C m own Bb (.Compare l [op] [r] pos) b := Et.mk fun E B s hb H Q k =>
  wpAny_isTrue_Compare1 (h1.out E B s hb H _ fun v1 B1 s1 hle1 H1 p1 => h2.out E B1 s1 (hb.trans hle1) H1 _ fun v2 B2 s2 hle2 H2 p2 =>
    hop v1 v2 E B2 s2 (hb.trans (hle1.trans hle2)) H2 (mo _ _ _ hle2 p1) p2 _ fun B' s' hle H' => wpAny_truthy_bool (k B' s' (hle1.trans (hle2.trans hle)) H')) hm
theorem et_lt {l r : Expr} {pos : Pos} {a b : Int} (h1 : Ev C m own Bb l (Rd (.int a))) (h2 : Ev C m own Bb r (Rd (.int b))) (hm : behindInMarks .Lt r = false := by with_unfolding_all rfl) : Et C m own Bb (.Compare l [.Lt] [r] pos) (decide (a < b)) :=
  et_cmp h1 h2 rd_mo (fun v1 v2 E B s _ H p1 p2 Q k => by
    obtain ⟨t, rfl⟩ := p1.int_inv; obtain ⟨u, rfl⟩ := p2.int_inv
    exact PyProof.Rows.lt_int (k B _ .rfl H)) hm
theorem et_ge {l r : Expr} {pos : Pos} {a b : Int} (h1 : Ev C m own Bb l (Rd (.int a))) (h2 : Ev C m own Bb r (Rd (.int b))) (hm : behindInMarks .GtE r = false := by with_unfolding_all rfl) : Et C m own Bb (.Compare l [.GtE] [r] pos) (decide (b ≤ a)) :=
  et_cmp h1 h2 rd_mo (fun v1 v2 E B s _ H p1 p2 Q k => by
    obtain ⟨t, rfl⟩ := p1.int_inv; obtain ⟨u, rfl⟩ := p2.int_inv
    exact PyProof.Rows.ge_int (k B _ .rfl H)) hm
theorem et_eq {l r : Expr} {pos : Pos} {a b : Int} (h1 : Ev C m own Bb l (Rd (.int a))) (h2 : Ev C m own Bb r (Rd (.int b))) (hm : behindInMarks .Eq r = false := by with_unfolding_all rfl) : Et C m own Bb (.Compare l [.Eq] [r] pos) (a == b) :=
  et_cmp h1 h2 rd_mo (fun v1 v2 E B s _ H p1 p2 Q k => by
    obtain ⟨t, rfl⟩ := p1.int_inv; obtain ⟨u, rfl⟩ := p2.int_inv
    exact PyProof.Rows.eq_int (k B _ .rfl H)) hm
theorem et_neS {l r : Expr} {pos : Pos} {a b : Str} (h1 : Ev C m own Bb l (Rd (.str a))) (h2 : Ev C m own Bb r (Rd (.str b))) (hm : behindInMarks .NotEq r = false := by with_unfolding_all rfl) : Et C m own Bb (.Compare l [.NotEq] [r] pos) (a != b) :=
  et_cmp h1 h2 rd_mo (fun v1 v2 E B s _ H p1 p2 Q k => by
    obtain ⟨t, rfl⟩ := p1.str_inv; obtain ⟨u, rfl⟩ := p2.str_inv
    exact PyProof.Rows.ne_str (k B _ .rfl H)) hm
theorem et_notInS {l r : Expr} {pos : Pos} {a b : Str} (h1 : Ev C m own Bb l (Rd (.str a))) (h2 : Ev C m own Bb r (Rd (.str b))) (hm : behindInMarks .NotIn r = false := by with_unfolding_all rfl) : Et C m own Bb (.Compare l [.NotIn] [r] pos) (!Txt.contains b a) :=
  et_cmp h1 h2 rd_mo (fun v1 v2 E B s _ H p1 p2 Q k => by
    obtain ⟨t, rfl⟩ := p1.str_inv; obtain ⟨u, rfl⟩ := p2.str_inv
    exact SB.notContains (k B _ .rfl H)) hm

/-- several expressions, one behind the other -/
inductive Evs (C : Cx) (m : Str → Option Value) (own : Own) (Bb : Fz) : List Expr → List PyData → Prop
  | nil : Evs C m own Bb [] []
  | cons {e : Expr} {es : List Expr} {d : PyData} {ds : List PyData} : Ev C m own Bb e (Rd d) → Evs C m own Bb es ds → (∀ r env, starEach (e :: r) env = (false, eval e env) :: starEach r env) → Evs C m own Bb (e :: es) (d :: ds)

theorem evs_spliced {pos : Pos} {es : List Expr} {ds : List PyData} (h : Evs C m own Bb es ds) : ∀ (E : Value → Shared → Prop) (B : Fz) (s : Shared), Bb.le B → Fs C m own B s → ∀ Q : List Value → Shared → Prop,
    (∀ vs B' s', B.le B' → Fs C m own B' s' → RpAll B' vs ds → Q vs s') → wpAny (model C.prog C.w) C.A (spliced (backTo pos (starEach es C.env))) Q E s := by
  induction h with
  | nil => intro E B s _ H Q k; exact Calls.spliced_nil (k [] B s .rfl H .nil)
  | cons h1 h2 hs ih =>
    intro E B s hb H Q k
    rw [hs]
    refine Calls.spliced_cons ?_
    rw [if_neg (by decide)]
    refine h1.out E B s hb H _ fun v B1 s1 hle1 H1 p1 => ?_
    exact ih E B1 s1 (hb.trans hle1) H1 _ fun vs B2 s2 hle2 H2 p2 => k _ B2 s2 (hle1.trans hle2) H2 (.cons (p1.mono hle2) p2)
end
end Mine

end

section
open PySem PySem.W PyProof.Rows PySem.Builtin.Str
set_option maxRecDepth 100000
set_option linter.all false
namespace Mine

def gNames : List (Str × Value) := [(Str.ofString "_comparable_version", .ref 44), (Str.ofString "_strip_exception_details", .ref 51), (Str.ofString "_law_part", .ref 58), (Str.ofString "_law_versions", .ref 63), (Str.ofString "_twin_re_1", .ref 36), (Str.ofString "_ver_stages", .ref 37)]
def bNames : List (Str × Value) := [(Str.ofString "len", .builtin "len"), (Str.ofString "range", .type "range"), (Str.ofString "sorted", .builtin "sorted"), (Str.ofString "max", .builtin "max"), (Str.ofString "str", .type "str"), (Str.ofString "int", .type "int"), (Str.ofString "ValueError", .type "ValueError")]

def fdB (i : Nat) : List Stmt := match (PySem.Challenge.pw_mq0074_01.main.body)[i]? with | some (.FunctionDef _ _ b ..) => b | _ => []
def fdS (i : Nat) : Scope := match (PySem.Challenge.pw_mq0074_01.main.body)[i]? with | some (.FunctionDef _ _ _ _ _ _ s ..) => s | _ => default
def fdA (i : Nat) : Arguments := match (PySem.Challenge.pw_mq0074_01.main.body)[i]? with | some (.FunctionDef _ a ..) => a | _ => default
/-- a def of the text stands there -/
def FnAt (h : Heap) (f c : Addr) (i : Nat) (name : Str) : Prop :=
  ∃ o pm, h.get? f = some o ∧ o.data = .func (Calls.docDef name (fdA i) (fdB i) (fdS i) pm (.ref c) .none) ∧ h.CodeRec (.ref c) name

/-- what the text's top has laid -/
structure GlobH (h : Heap) : Prop where
  g : ∃ mg, h.Ns mainGlobals mg ∧ (∀ p ∈ gNames, mg p.1 = some p.2) ∧ ∀ p ∈ bNames, mg p.1 = none
  b : ∃ mb, h.Ns builtinsNs mb ∧ ∀ p ∈ bNames, mb p.1 = some p.2
  lim : h.NoLimit
  f44 : FnAt h 44 43 4 (Str.ofString "_comparable_version")
  f51 : FnAt h 51 50 6 (Str.ofString "_strip_exception_details")
  f58 : FnAt h 58 57 8 (Str.ofString "_law_part")
  f63 : FnAt h 63 62 9 (Str.ofString "_law_versions")
def GB (B : Fz) : Prop := ∀ h, B.In h → GlobH h
theorem Fz.In.le {B B' : Fz} {h : Heap} (hb : B'.In h) (hl : B.le B') : B.In h := fun a o e => hb a o (hl a o e)
theorem GB.le {B B' : Fz} (G : GB B) (hl : B.le B') : GB B' := fun h hb => G h (hb.le hl)

section
variable {C : Cx} {sc : Scope} {m : Str → Option Value} {own : Own} {Bb : Fz}

theorem ev_global {x : Str} {pos : Pos} {v : Value} (S : Sc C sc) (G : GB Bb) (hx : (x, v) ∈ gNames)
    (hl : sc.names.lookup x = some .globalImplicit := by rfl) (hd : (x == ("__debug__" : Str)) = false := by decide) : Ev C m own Bb (.Name x pos) (fun u _ => u = v) :=
  Ev.mk fun E B s hb H Q k => by
    obtain ⟨mg, h1, h2, _⟩ := (G _ (H.bin.le hb)).g
    exact Calls.Name_function_global S.k (S.of hl) (Calls.loadGlobal_global (S.glob ▸ h1) (h2 _ hx) (k v B s .rfl H rfl)) hd
theorem ev_builtin {x : Str} {pos : Pos} {v : Value} (S : Sc C sc) (G : GB Bb) (hx : (x, v) ∈ bNames)
    (hl : sc.names.lookup x = some .globalImplicit := by rfl) (hd : (x == ("__debug__" : Str)) = false := by decide) : Ev C m own Bb (.Name x pos) (fun u _ => u = v) :=
  Ev.mk fun E B s hb H Q k => by
    obtain ⟨mg, h1, _, h3⟩ := (G _ (H.bin.le hb)).g
    obtain ⟨mb, h4, h5⟩ := (G _ (H.bin.le hb)).b
    exact Calls.Name_function_global S.k (S.of hl) (Calls.loadGlobal_builtin (S.glob ▸ h1) (h3 _ hx) (S.bi ▸ h4) (h5 _ hx) (k v B s .rfl H rfl)) hd

theorem ev_list {es : List Expr} {ds : List PyData} {pos : Pos} (h : Evs C m own Bb es ds) (hs : ds.length ≤ 1000) : Ev C m own Bb (.List es pos) (Rd (.list ds)) :=
  Ev.mk fun E B s hb H Q k => wpAny_List_spliced (evs_spliced h E B s hb H _ fun vs B' s' hle H' p => ⟨by rw [p.length, sizeLine_eq]; omega,
    k _ _ _ (hle.trans (Fz.le_set H'.next)) (H'.pushF _) (.list Fz.set_self rfl rfl (by simpa using p.mono (Fz.le_set H'.next)))⟩)
theorem ev_tuple {es : List Expr} {ds : List PyData} {n : Nat} {pos : Pos} (h : Evs C m own Bb es ds) (hs : ds.length ≤ 1000) : Ev C m own Bb (.Tuple es n pos) (Rd (.tuple ds)) :=
  Ev.mk fun E B s hb H Q k => wpAny_Tuple_spliced (evs_spliced h E B s hb H _ fun vs B' s' hle H' p => ⟨by rw [p.length, sizeLine_eq]; omega,
    k _ _ _ (hle.trans (Fz.le_set H'.next)) (H'.pushF _) (.tuple Fz.set_self rfl rfl (by simpa using p.mono (Fz.le_set H'.next)))⟩)

theorem ev_item {value idx : Expr} {pos : Pos} {ds : List PyData} {i : Int} {d : PyData} (h1 : Ev C m own Bb value (Rd (.list ds))) (h2 : Ev C m own Bb idx (Rd (.int i))) (h0 : 0 ≤ i) (hi : i < 2 ^ 63) (hd : ds[i.toNat]? = some d)
    (hs : ∀ o i, subscripted idx false o i = operate [o, i] (getItem o i) := by intro _ _; rfl) : Ev C m own Bb (.Subscript value idx pos) (Rd d) :=
  Ev.mk fun E B s hb H Q k => Subscript_ (h1.out E B s hb H _ fun v1 B1 s1 hle1 H1 p1 => h2.out E B1 s1 (hb.trans hle1) H1 _ fun v2 B2 s2 hle2 H2 p2 => by
    obtain ⟨a, o, vs, n, rfl, e1, e2, e3, e4⟩ := (p1.mono hle2).list_inv
    obtain ⟨t, rfl⟩ := p2.int_inv
    obtain ⟨v, hv, hr⟩ := e4.get hd
    have hl : s2.heap.IsList a vs := ⟨o, H2.bin _ _ e1, e2, n, e3⟩
    exact tail_any hl.typeIs slot_list_getitem.lookup (wpAny_getItem_list hl h0 hi (by simpa using hv) (k v B2 s2 (hle1.trans hle2) H2 hr)) (hs _ _))
theorem seqIndex_nat {i : Int} {n : Nat} (h0 : 0 ≤ i) (h : i.toNat < n) : seqIndex? i n = some i.toNat := by
  unfold seqIndex?
  have e : ¬ i < 0 := by omega
  dsimp only
  rw [if_neg e, if_pos (by simp; omega)]
theorem ev_itemT {value idx : Expr} {pos : Pos} {ds : List PyData} {i : Int} {d : PyData} (h1 : Ev C m own Bb value (Rd (.tuple ds))) (h2 : Ev C m own Bb idx (Rd (.int i))) (h0 : 0 ≤ i) (hi : i < 2 ^ 63) (hd : ds[i.toNat]? = some d)
    (hs : ∀ o i, subscripted idx false o i = operate [o, i] (getItem o i) := by intro _ _; rfl) : Ev C m own Bb (.Subscript value idx pos) (Rd d) :=
  Ev.mk fun E B s hb H Q k => Subscript_ (h1.out E B s hb H _ fun v1 B1 s1 hle1 H1 p1 => h2.out E B1 s1 (hb.trans hle1) H1 _ fun v2 B2 s2 hle2 H2 p2 => by
    obtain ⟨a, o, vs, n, rfl, e1, e2, e3, e4⟩ := (p1.mono hle2).tuple_inv
    obtain ⟨t, rfl⟩ := p2.int_inv
    obtain ⟨v, hv, hr⟩ := e4.get hd
    have hl : IsTup s2.heap a vs.toList.toArray := ⟨o, H2.bin _ _ e1, e2, n, by simpa using e3⟩
    have hlt : i.toNat < vs.toList.length := by
      rcases Nat.lt_or_ge i.toNat vs.toList.length with q | q
      · exact q
      · rw [List.getElem?_eq_none q] at hv; cases hv
    exact item_tupleT hl (by omega) hi (j := i.toNat) (seqIndex_nat h0 hlt) hv (k v B2 s2 (hle1.trans hle2) H2 hr) (hs _ _))


inductive Evp (C : Cx) (m : Str → Option Value) (own : Own) (Bb : Fz) : Option Expr → Option Int → Prop
  | none : Evp C m own Bb none none
  | some {e : Expr} {i : Int} : Ev C m own Bb e (Rd (.int i)) → Evp C m own Bb (some e) (some i)
theorem Evp.use {x : Option Expr} {p : Option Int} (h : Evp C m own Bb x p) (E : Value → Shared → Prop) (B : Fz) (s : Shared) (hb : Bb.le B) (H : Fs C m own B s) (Q : Value → Shared → Prop)
    (k : ∀ (u : Option (Int × Tok)) B' s', B.le B' → Fs C m own B' s' → u.map (·.1) = p → Q (partValue u) s') : wpAny (model C.prog C.w) C.A (evalPart x C.env) Q E s := by
  cases h with
  | none => exact wpAny_pure (k Option.none B s .rfl H rfl)
  | some h =>
    refine h.out E B s hb H _ fun v B' s' hle H' p => ?_
    obtain ⟨t, rfl⟩ := p.int_inv
    exact k (Option.some (_, t)) B' s' hle H' rfl
theorem isPart_of {u : Option (Int × Tok)} {p : Option Int} (h : u.map (·.1) = p) : IsPart (partValue u) p := by
  subst h
  cases u with
  | none => exact .none
  | some y => exact .int _ _

theorem RpAll.pick {B : Fz} {vs : Array Value} {ds : List PyData} (h : RpAll B vs.toList ds) (lo hi : Option Int) : RpAll B (slicePick vs lo hi none).toList ((ds.drop (kms_lo lo ds.length)).take (kms_hi hi ds.length - kms_lo lo ds.length)) := by
  rw [kms_pick_eq]
  unfold kms_pick
  rw [h.length]
  exact (h.drop _).take _
theorem ev_sliceL {value : Expr} {lower upper : Option Expr} {p pos : Pos} {ds : List PyData} {lo hi : Option Int} (h1 : Ev C m own Bb value (Rd (.list ds))) (h2 : Evp C m own Bb lower lo) (h3 : Evp C m own Bb upper hi) (hsz : ds.length ≤ 100000)
    (ht : ∀ o r, letTemporaryGo value o r = pure () := by intro _ _; rfl) :
    Ev C m own Bb (.Subscript value (.Slice lower upper none p) pos) (Rd (.list ((ds.drop (kms_lo lo ds.length)).take (kms_hi hi ds.length - kms_lo lo ds.length)))) :=
  Ev.mk fun E B s hb H Q k => wpAny_Subscript_list_slice (h1.out E B s hb H _ fun v1 B1 s1 hle1 H1 p1 => h2.use E B1 s1 (hb.trans hle1) H1 _ fun u2 B2 s2 hle2 H2 q2 => h3.use E B2 s2 (hb.trans (hle1.trans hle2)) H2 _ fun u3 B3 s3 hle3 H3 q3 => by
    obtain ⟨a, o, vs, n, rfl, e1, e2, e3, e4⟩ := (p1.mono (hle2.trans hle3)).list_inv
    have hl : s3.heap.IsList a vs := ⟨o, H3.bin _ _ e1, e2, n, e3⟩
    refine ⟨a, vs, lo, hi, rfl, hl, ?_, isPart_of q2, isPart_of q3, ?_⟩
    · have := e4.length; simp at this; rw [sizeLine_eq]; omega
    · have H4 := H3.push { cls := .type "slice", data := .fields #[partValue u2, partValue u3, .none] }
      have hsz : (s3.heap.push { cls := .type "slice", data := .fields #[partValue u2, partValue u3, .none] }).objs.size = s3.heap.objs.size + 1 := by rw [Heap.size_push]
      have H5 := H4.pushF { cls := .type "list", data := .seq (slicePick vs lo hi none) }
      dsimp only at H5
      rw [hsz] at H5
      have hn := H4.next
      dsimp only at hn
      rw [hsz] at hn
      exact k _ _ _ (hle1.trans (hle2.trans (hle3.trans (Fz.le_set hn)))) H5 (.list Fz.set_self rfl rfl ((e4.pick lo hi).mono (Fz.le_set hn)))) ht

theorem ev_sliceS {value : Expr} {lower upper : Option Expr} {p pos : Pos} {x : Str} {lo hi : Option Int} (h1 : Ev C m own Bb value (Rd (.str x))) (h2 : Evp C m own Bb lower lo) (h3 : Evp C m own Bb upper hi) (hx : x.length ≤ 1000000)
    (ht : ∀ o r, letTemporaryGo value o r = pure () := by intro _ _; rfl) :
    Ev C m own Bb (.Subscript value (.Slice lower upper none p) pos) (Rd (.str (Txt.slice x lo hi))) :=
  Ev.mk fun E B s hb H Q k => wpAny_Subscript_str_slice (h1.out E B s hb H _ fun v1 B1 s1 hle1 H1 p1 => h2.use E B1 s1 (hb.trans hle1) H1 _ fun u2 B2 s2 hle2 H2 q2 => h3.use E B2 s2 (hb.trans (hle1.trans hle2)) H2 _ fun u3 B3 s3 hle3 H3 q3 => by
    obtain ⟨t, rfl⟩ := p1.str_inv
    refine ⟨x, t, u2, u3, rfl, rfl, rfl, ?_⟩
    have H4 := H3.push { cls := .type "slice", data := .fields #[partValue u2, partValue u3, .none] }
    unfold sliceMade
    have hpk : slicePicked x u2 u3 none = strSliceIndices lo hi 1 x.length := by unfold slicePicked; rw [q2, q3]; rfl
    rw [hpk]
    have hT : Txt.slice x lo hi = if ((1 : Int) == 1 && (strSliceIndices lo hi 1 x.length).length == x.length) = true then x else ⟨((strSliceIndices lo hi 1 x.length).filterMap (x.cps[·]?)).toArray⟩ := rfl
    by_cases hc : ((1 : Int) == 1 && (strSliceIndices lo hi 1 x.length).length == x.length) = true
    · rw [if_pos hc] at hT
      have e : (if (((Option.map (·.1) (none : Option (Int × Tok))).getD 1 == 1 && (strSliceIndices lo hi 1 x.length).length == x.length)) = true then Made.val (.str x t) else Made.str ⟨((strSliceIndices lo hi 1 x.length).filterMap (x.cps[·]?)).toArray⟩) = Made.val (.str x t) := if_pos hc
      rw [e]
      exact k _ B3 _ (hle1.trans (hle2.trans hle3)) H4 (by rw [hT]; exact .str _ _)
    · rw [if_neg hc] at hT
      have e : (if (((Option.map (·.1) (none : Option (Int × Tok))).getD 1 == 1 && (strSliceIndices lo hi 1 x.length).length == x.length)) = true then Made.val (.str x t) else Made.str ⟨((strSliceIndices lo hi 1 x.length).filterMap (x.cps[·]?)).toArray⟩) = Made.str ⟨((strSliceIndices lo hi 1 x.length).filterMap (x.cps[·]?)).toArray⟩ := if_neg hc
      rw [e]
      have hle := Txt.slice_le x lo hi
      rw [hT] at hle
      exact ⟨by rw [sizeLine_eq]; exact Nat.le_trans hle (by omega), k _ B3 _ (hle1.trans (hle2.trans hle3)) (H4.toks _) (by rw [hT]; exact .str _ _)⟩) ht

/-- calls by name -/
theorem ev_callB {f : Str} {fp pos : Pos} {id : String} {e : Expr} {es : List Expr} {ds : List PyData} {P : Value → Fz → Prop} (hf : Ev C m own Bb (.Name f fp) (fun u _ => u = .builtin id)) (ha : Evs C m own Bb (e :: es) ds)
    (hc : ∀ vs (E : Value → Shared → Prop) B s, Bb.le B → Fs C m own B s → RpAll B vs ds → ∀ Q : Value → Shared → Prop, (∀ v B' s', B.le B' → Fs C m own B' s' → P v B' → Q v s') → wpAny (model C.prog C.w) C.A (call (.builtin id) vs) Q E s)
    (hplain : (backTo pos (starEach (e :: es) C.env)).any (·.1) = false := by rfl) (he : starEach (e :: es) C.env = (false, eval e C.env) :: starEach es C.env := by rfl) : Ev C m own Bb (.Call (.Name f fp) (e :: es) [] pos) P :=
  Ev.mk fun E B s hb H Q k => wpAny_Call_ofName (hf.out E B s hb H _ fun v B1 s1 hle1 H1 q => by
    subst q
    refine Calls.callWith_builtin hplain ?_
    have hx := evs_spliced (pos := pos) ha E B1 s1 (hb.trans hle1) H1 (fun vs s' => wpAny (model C.prog C.w) C.A (call (.builtin id) ([] ++ vs) []) Q E s') fun vs B2 s2 hle2 H2 p =>
      hc vs E B2 s2 (hb.trans (hle1.trans hle2)) H2 p Q fun v B' s' hle H' hp => k v B' s' (hle1.trans (hle2.trans hle)) H' hp
    rw [he] at hx ⊢
    exact Calls.evalArgs_plain hx)
theorem ev_callT {f : Str} {fp pos : Pos} {T : String} {e : Expr} {es : List Expr} {ds : List PyData} {P : Value → Fz → Prop} (hf : Ev C m own Bb (.Name f fp) (fun u _ => u = .type T)) (ha : Evs C m own Bb (e :: es) ds)
    (hc : ∀ vs (E : Value → Shared → Prop) B s, Bb.le B → Fs C m own B s → RpAll B vs ds → ∀ Q : Value → Shared → Prop, (∀ v B' s', B.le B' → Fs C m own B' s' → P v B' → Q v s') → wpAny (model C.prog C.w) C.A (call (.type T) vs) Q E s)
    (hplain : (backTo pos (starEach (e :: es) C.env)).any (·.1) = false := by rfl) (he : starEach (e :: es) C.env = (false, eval e C.env) :: starEach es C.env := by rfl) : Ev C m own Bb (.Call (.Name f fp) (e :: es) [] pos) P :=
  Ev.mk fun E B s hb H Q k => wpAny_Call_ofName (hf.out E B s hb H _ fun v B1 s1 hle1 H1 q => by
    subst q
    have hx := evs_spliced (pos := pos) ha E B1 s1 (hb.trans hle1) H1 (fun vs s' => wpAny (model C.prog C.w) C.A (call (.type T) ([] ++ vs) []) Q E s') fun vs B2 s2 hle2 H2 p =>
      hc vs E B2 s2 (hb.trans (hle1.trans hle2)) H2 p Q fun v B' s' hle H' hp => k v B' s' (hle1.trans (hle2.trans hle)) H' hp
    refine PySem.callWith_type hplain ?_
    rw [he] at hx ⊢
    exact Calls.evalArgs_plain hx)
theorem ev_callF {f : Str} {fp pos : Pos} {a : Addr} {o : Obj} {fd : FuncData} {e : Expr} {es : List Expr} {ds : List PyData} {P : Value → Fz → Prop} (hf : Ev C m own Bb (.Name f fp) (fun u _ => u = .ref a)) (hfo : ∀ h, Bb.In h → h.get? a = some o) (hfd : o.data = .func fd) (ha : Evs C m own Bb (e :: es) ds)
    (hc : ∀ vs (E : Value → Shared → Prop) B s, Bb.le B → Fs C m own B s → RpAll B vs ds → ∀ Q : Value → Shared → Prop, (∀ v B' s', B.le B' → Fs C m own B' s' → P v B' → Q v s') → wpAny (model C.prog C.w) C.A (call (.ref a) vs) Q E s)
    (he : starEach (e :: es) C.env = (false, eval e C.env) :: starEach es C.env := by rfl) : Ev C m own Bb (.Call (.Name f fp) (e :: es) [] pos) P :=
  Ev.mk fun E B s hb H Q k => wpAny_Call_ofName (hf.out E B s hb H _ fun v B1 s1 hle1 H1 q => by
    subst q
    refine Calls.callWith_function (o := o) (fd := fd) ?_
    have hx := evs_spliced (pos := pos) ha E B1 s1 (hb.trans hle1) H1 (fun vs s' => (s'.heap.get? a = some o ∧ o.data = .func fd) ∧ wpAny (model C.prog C.w) C.A (call (.ref a) ([] ++ vs) []) Q E s') fun vs B2 s2 hle2 H2 p =>
      ⟨⟨hfo _ (H2.bin.le (hb.trans (hle1.trans hle2))), hfd⟩, hc vs E B2 s2 (hb.trans (hle1.trans hle2)) H2 p Q fun v B' s' hle H' hp => k v B' s' (hle1.trans (hle2.trans hle)) H' hp⟩
    rw [he] at hx ⊢
    exact Calls.evalArgs_plain hx)
end
end Mine

end

section
open PySem PySem.W PyProof.Rows
set_option maxRecDepth 100000
set_option linter.all false
namespace Mine

/-- a suite of the block -/
structure Wx (C : Cx) (b : List Stmt) (Q : Flow → Shared → Prop) (E : Value → Shared → Prop) (s : Shared) : Prop where
  out : wpAny (model C.prog C.w) C.A (execs b C.env) Q E s
theorem Wx.mono {C : Cx} {b : List Stmt} {Q Q' : Flow → Shared → Prop} {E : Value → Shared → Prop} {s : Shared} (h : Wx C b Q E s) (k : ∀ f s', Q f s' → Q' f s') : Wx C b Q' E s := ⟨wpAny_mono h.out k fun _ _ x => x⟩

section
variable {C : Cx} {sc : Scope} {l : List (Str × Value)} {own : Own} {B : Fz} {s : Shared} {E : Value → Shared → Prop} {Q : Flow → Shared → Prop} {rest : List Stmt}

theorem st_cons {st : Stmt} (h : wpAny (model C.prog C.w) C.A (exec st C.env) (fun f s' => f = .next ∧ Wx C rest Q E s') E s) : Wx C (st :: rest) Q E s :=
  ⟨wpAny_execs_cons (wpAny_mono h (fun f s' h' => by obtain ⟨rfl, h'⟩ := h'; exact h'.out) fun _ _ x => x)⟩
theorem st_nil (h : Q .next s) : Wx C [] Q E s := ⟨wpAny_execs_nil h⟩

theorem st_store {x : Str} {v : Value} {R : Unit → Shared → Prop} (S : Sc C sc) (H : Fs C (lk l) own B s) (k : ∀ s', Fs C (lk ((x, v) :: l)) own B s' → R () s')
    (hl : sc.names.lookup x = some .local := by rfl) : wpAny (model C.prog C.w) C.A (storeName C.env x v) R E s :=
  wpAny_storeName_local (S.of hl) H.ns (fun h' hn hs => k _ (H.store (by rw [lk_cons] at hn; exact hn) hs)) S.st

theorem st_assign {x : Str} {p pos : Pos} {e : Expr} {P : Value → Fz → Prop} (S : Sc C sc) (H : Fs C (lk l) own B s) (he : Ev C (lk l) own B e P)
    (k : ∀ v B' s', B.le B' → Fs C (lk ((x, v) :: l)) own B' s' → P v B' → Wx C rest Q E s')
    (hs : swapsWith e (some (.Name x p)) pos.line C.env = pure false := by rfl) (hl : sc.names.lookup x = some .local := by rfl) :
    Wx C (.Assign [.Name x p] e pos :: rest) Q E s :=
  st_cons (wpAny_Assign_Name (he.out E B s .rfl H _ fun v B' s' hle H' hp' => st_store S H' (fun s'' H'' => ⟨rfl, k v B' s'' hle H'' hp'⟩) hl) hs)

/-- a new list of the frame's own -/
theorem st_newList {x : Str} {p pos lp : Pos} (S : Sc C sc) (H : Fs C (lk l) own B s)
    (k : ∀ a s', Fs C (lk ((x, .ref a) :: l)) ((a, PL #[]) :: own) B s' → Wx C rest Q E s')
    (hl : sc.names.lookup x = some .local := by rfl) :
    Wx C (.Assign [.Name x p] (.List [] lp) pos :: rest) Q E s :=
  st_cons (wpAny_Assign_Name (wpAny_List_spliced (Calls.spliced_nil ⟨Nat.zero_le _, st_store S (H.pushO _ (PL #[]) ⟨0, rfl⟩) (fun s'' H'' => ⟨rfl, k _ s'' H''⟩) hl⟩)))

theorem st_append {x : Str} {np apos pos xp : Pos} {e : Expr} {P : Value → Fz → Prop} {a : Addr} {items : Array Value} {pre post : Own} (S : Sc C sc) (H : Fs C (lk l) (pre ++ (a, PL items) :: post) B s) (hx : lk l x = some (.ref a)) (hsz : items.size ≤ 100000)
    (he : Ev C (lk l) (pre ++ (a, PL items) :: post) B e P)
    (k : ∀ v B' s', B.le B' → Fs C (lk l) (pre ++ (a, PL (items.push v)) :: post) B' s' → P v B' → Wx C rest Q E s')
    (hbase : attributeBase (.Name x np) "append" C.env (eval (.Name x np) C.env) = eval (.Name x np) C.env := by rfl)
    (hfew : ((backTo pos (starEach [e] C.env)).all (fun x => !x.1) && (backToKw pos (keywordEach [] C.env)).all (fun x => x.1.isSome)
      && decide (([e] : List Expr).length + ([] : List Keyword).length + (if ([] : List Keyword).isEmpty then 0 else 1) < 30)) = true := by rfl)
    (hline : (apos.endLine == pos.line) = true := by rfl) (htrees : backTo pos (starEach [e] C.env) = [(false, eval e C.env)] := by rfl)
    (hl : sc.names.lookup x = some .local := by rfl) (hd : (x == ("__debug__" : Str)) = false := by decide)
    (hs : swapsWith (.Call (.Attribute (.Name x np) "append" apos) [e] [] pos) none xp.line C.env = pure false := by rfl) :
    Wx C (.Expr (.Call (.Attribute (.Name x np) "append" apos) [e] [] pos) xp :: rest) Q E s := by
  refine st_cons (wpAny_Expr ?_ S.ni hs)
  refine wpAny_Call_append hbase hfew hline htrees ?_
  refine wpAny_Name (wpAny_loadName_local S.k (S.of hl) H.ns hx ?_) hd
  obtain ⟨⟨o, ho, n, rfl⟩, _⟩ := H.mine (a, PL items) (by simp)
  refine ⟨a, items, rfl, ⟨_, n, ho, rfl, rfl, rfl⟩, ?_⟩
  refine he.out E B s .rfl H _ fun v B' s' hle H' hp => ?_
  obtain ⟨⟨o, ho, n, rfl⟩, _⟩ := H'.mine (a, PL items) (by simp)
  refine wpAny_list_append_plain ⟨n, ho⟩ (fun h' hl hs' => ?_) (by rw [sizeLine_eq]; omega)
  obtain ⟨n', e'⟩ := hl
  exact ⟨rfl, k v B' _ hle (H'.turn (tk := s'.toks) hs' e' ⟨n', rfl⟩) hp⟩

theorem st_if {test : Expr} {body orelse : List Stmt} {pos : Pos} {b : Bool} (H : Fs C (lk l) own B s) (ht : Et C (lk l) own B test b)
    (k : ∀ B' s', B.le B' → Fs C (lk l) own B' s' → Wx C (if b then body else orelse) (fun f s'' => f = .next ∧ Wx C rest Q E s'') E s') :
    Wx C (.If test body orelse pos :: rest) Q E s :=
  st_cons (wpAny_If (ht.out E B s .rfl H _ fun B' s' hle H' => by
    have := (k B' s' hle H').out
    cases b <;> exact this))

theorem st_return {e : Expr} {pos : Pos} {P : Value → Fz → Prop} (H : Fs C (lk l) own B s) (he : Ev C (lk l) own B e P)
    (k : ∀ v B' s', B.le B' → Fs C (lk l) own B' s' → P v B' → Q (.ret v) s') : Wx C (.Return (some e) pos :: rest) Q E s :=
  Wx.mk <| wpAny_execs_cons (wpAny_Return_some (he.out E B s .rfl H _ fun v B' s' hle H' hp => k v B' s' hle H' hp))
end

/-- a list of n items -/
def Ls (N : Nat) (It : Nat → Value → Fz → Prop) (v : Value) (B : Fz) : Prop :=
  ∃ a o vs n, v = .ref a ∧ B a = some o ∧ o.cls = .type "list" ∧ o.data = .seq vs n ∧ vs.size = N ∧ ∀ i x, vs[i]? = some x → It i x B
def Mo (P : Value → Fz → Prop) : Prop := ∀ v B B', B.le B' → P v B → P v B'
theorem Ls.mono {N : Nat} {It : Nat → Value → Fz → Prop} (mo : ∀ i, Mo (It i)) : Mo (Ls N It) := fun v B B' h ⟨a, o, vs, n, e1, e2, e3, e4, e5, e6⟩ =>
  ⟨a, o, vs, n, e1, h _ _ e2, e3, e4, e5, fun i x hx => mo i x B B' h (e6 i x hx)⟩
theorem Ls.of_rp {v : Value} {B : Fz} {ds : List PyData} (h : Rp B v (.list ds)) : Ls ds.length (fun i x B => ∃ d, ds[i]? = some d ∧ Rp B x d) v B := by
  obtain ⟨a, o, vs, n, rfl, e1, e2, e3, e4⟩ := h.list_inv
  refine ⟨a, o, vs, n, rfl, e1, e2, e3, by have := e4.length; simpa using this, fun i x hx => ?_⟩
  have hl := e4.length
  have hi : i < vs.size := by
    rcases Nat.lt_or_ge i vs.size with q | q
    · exact q
    · rw [Array.getElem?_eq_none q] at hx; cases hx
  have hd : ds[i]? = some (ds[i]'(by simp at hl; omega)) := List.getElem?_eq_getElem _
  obtain ⟨v, h1, h2⟩ := e4.get hd
  have : v = x := by simp at h1; rw [hx] at h1; exact (Option.some.inj h1).symm
  subst this
  exact ⟨_, hd, h2⟩
theorem rpAll_of {B : Fz} : ∀ {vs : List Value} {ds : List PyData}, vs.length = ds.length → (∀ (i : Nat) (x : Value) (d : PyData), vs[i]? = some x → ds[i]? = some d → Rp B x d) → RpAll B vs ds
  | [], [], _, _ => .nil
  | [], _ :: _, h, _ => by simp at h
  | _ :: _, [], h, _ => by simp at h
  | v :: vs, d :: ds, h, k => .cons (k 0 v d rfl rfl) (rpAll_of (by simpa using h) fun i x d h1 h2 => k (i + 1) x d (by simpa using h1) (by simpa using h2))
theorem Ls.rp {v : Value} {B : Fz} {ds : List PyData} (h : Ls ds.length (fun i x B => ∃ d, ds[i]? = some d ∧ Rp B x d) v B) : Rp B v (.list ds) := by
  obtain ⟨a, o, vs, n, rfl, e1, e2, e3, e4, e5⟩ := h
  refine .list e1 e2 e3 (rpAll_of (by simpa using e4) fun i x d h1 h2 => ?_)
  obtain ⟨d', h3, h4⟩ := e5 i x (by simpa using h1)
  rw [h2] at h3; cases h3; exact h4

def LI (ax : Addr) (i : Nat) (o : Obj) : Prop := o.cls = .type "list_iterator" ∧ o.data = .fields #[.ref ax, .int i 0]

/-- the comprehension's own frame -/
def compCx (C : Cx) (B : Fz) (s : Shared) (D : Addr) (scope : Scope) : Cx := { C with F := [], B0 := B, s0 := s, env := compEnv scope D C.env }
theorem Sc.comp {C : Cx} {sc : Scope} (S : Sc C sc) {B : Fz} {s : Shared} {D : Addr} {scope : Scope} (hk : scope.kind = .function) : Sc (compCx C B s D scope) scope := ⟨rfl, hk, S.glob, S.bi⟩

/-- one turn of a comprehension: the item is bound, the element reckoned -/
structure Turn (C : Cx) (Bb : Fz) (target elt : Expr) (It Pr : Value → Fz → Prop) : Prop where
  out : ∀ (E : Value → Shared → Prop) (own : Own) (l : List (Str × Value)) (B : Fz) (s : Shared) (v : Value), Bb.le B → Fs C (lk l) own B s → It v B → ∀ Q : Value → Shared → Prop,
    (∀ y l' B' s', B.le B' → Fs C (lk l') own B' s' → Pr y B' → Q y s') → wpAny (model C.prog C.w) C.A (assign target C.env v) (fun _ s2 => wpAny (model C.prog C.w) C.A (eval elt C.env) Q E s2) E s

theorem turn_name {C : Cx} {sc : Scope} {Bb : Fz} {x : Str} {px : Pos} {elt : Expr} {It Pr : Value → Fz → Prop} (S : Sc C sc) (h : ∀ own l B v, Bb.le B → It v B → Ev C (lk ((x, v) :: l)) own B elt Pr)
    (hl : sc.names.lookup x = some .local := by rfl) : Turn C Bb (.Name x px) elt It Pr :=
  Turn.mk fun E own l B s v hb H hi Q k => wpAny_assign_Name (st_store S H (fun s' H' => (h own l B v hb hi).out E B s' .rfl H' Q fun y B' s'' hle H'' hp => k y _ B' s'' hle H'' hp) hl)

theorem letGo_any {prog : Program} {w : World} {A : Around} {E : Value → Shared → Prop} {s : Shared} {target : Expr} {I l : Addr} {i : Nat} {v : Value} {Q : Unit → Shared → Prop} (hit : s.heap.IsListIter I l i) (hQ : Q () s) :
    wpAny (model prog w) A (letOwnedTupleGo target (.ref I) v) Q E s := by
  have key : ∀ T : Addr, wpAny (model prog w) A (do
      let o ← load I
      match o.cls, o.data with
      | .type n, .fields vs =>
        if ["enumerate", "zip", "dict_itemiterator", "dict_reverseitemiterator", "odict_iterator", "itertools.zip_longest", "itertools.pairwise"].contains n && vs[0]? == some (rawInt T) then
          rule "for.unpacks-the-owned-tuple"
          updateField I 0 .none
      | _, _ => pure ()) Q E s := fun T => wpAny_letOwnedTupleGo_listiter (elts := []) (x1 := 0) (pos := default) (T := T) hit hQ
  cases target with
  | Tuple es k p => cases v <;> first | exact key _ | exact wpAny_pure hQ
  | List es p => cases v <;> first | exact key _ | exact wpAny_pure hQ
  | _ => exact wpAny_pure hQ

theorem codeAny_compLoop_go {prog : Program} {w : World} {A : Around} {R : Result → Shared → Prop} {s : Shared} {elt target iter : Expr} {scope : Scope} {pos : Pos} {it acc : Value} {env : Env} (I : Nat → Shared → Prop)
    (turn : ∀ n s, I n s → wpAny (model prog w) A (pyNext it) (fun r s₁ => match r with
      | none => R (.ok .next) s₁
      | some v => wpAny (model prog w) A (letOwnedTupleGo target it v) (fun _ s₀ => wpAny (model prog w) A (assign target env v) (fun _ s₂ => wpAny (model prog w) A (eval elt env) (fun x s₃ =>
          wpAny (model prog w) A (call (.builtin "list.append") [acc, x]) (fun _ s₄ => ∃ m, m < n ∧ I m s₄) (notedBy (model prog w) A env fun e s' => R (.error e) s') s₃)
          (notedBy (model prog w) A env fun e s' => R (.error e) s') s₂) (notedBy (model prog w) A env fun e s' => R (.error e) s') s₀) (notedBy (model prog w) A env fun e s' => R (.error e) s') s₁) (notedBy (model prog w) A env fun e s' => R (.error e) s') s)
    (n : Nat) (h : I n s) : codeAny (model prog w) A (.compLoop (.ListComp elt [⟨target, iter, [], 0⟩] scope pos) 0 it acc env) R s := by
  refine codeAny_loop rfl I (fun n s hI => ?_) n h
  show wpAny _ _ ((compTurn (.ListComp elt [⟨target, iter, [], 0⟩] scope pos) 0 it acc env).onRaise (fun x => do noteFrame x env; theTreesLotGoes x)) _ _ s
  refine wpAny_noted ?_
  rw [compTurn_list1]
  refine wpAny_bind (wpAny_standAt (wpAny_bind (wpAny_mono (turn n s hI) (fun r s₁ h₁ => ?_) fun _ _ h' => h')))
  cases r with
  | none => exact wpAny_pure h₁
  | some v =>
    refine wpAny_bind (wpAny_mono h₁ (fun _ s₀ h₀ => ?_) fun _ _ h' => h')
    refine wpAny_bind (wpAny_mono h₀ (fun _ s₂ h₂ => wpAny_bind (wpAny_bind (wpAny_mono h₂ (fun x s₃ h₃ => ?_) fun _ _ h' => h'))) fun _ _ h' => h')
    exact wpAny_bind (wpAny_mono h₃ (fun _ s₅ h₅ => wpAny_pure (wpAny_pure ⟨rfl, h₅⟩)) fun _ _ h' => h')

section
variable {C : Cx} {m : Str → Option Value} {own : Own}

theorem comp_loop {elt target iter : Expr} {scope : Scope} {pos : Pos} {ax D I : Addr} {N : Nat} {It Pr : Nat → Value → Fz → Prop} {B1 : Fz} {R : Result → Shared → Prop} {items : Array Value} {oa : Obj} {na : Nat}
    (moI : ∀ i, Mo (It i)) (moP : ∀ i, Mo (Pr i)) (hh : C.A.handled = none)
    (ha : B1 ax = some oa) (hcl : oa.cls = .type "list") (hda : oa.data = .seq items na) (hN : items.size = N) (hit : ∀ i x, items[i]? = some x → It i x B1) (hsz : N ≤ 100000)
    (turn : ∀ i, i < N → Turn C B1 target elt (It i) (Pr i))
    {s : Shared} (H : Fs C (lk []) [(D, PL #[]), (I, LI ax 0)] B1 s)
    (hR : ∀ l B s ys, B1.le B → Fs C (lk l) [(D, PL ys)] B s → ys.size = N → (∀ i y, ys[i]? = some y → Pr i y B) → R (.ok .next) s) :
    codeAny (model C.prog C.w) C.A (.compLoop (.ListComp elt [⟨target, iter, [], 0⟩] scope pos) 0 (.ref I) (.ref D) C.env) R s := by
  refine codeAny_compLoop_go (fun k s' => ∃ l B ys i, B1.le B ∧ Fs C (lk l) [(D, PL ys), (I, LI ax i)] B s' ∧ ys.size = i ∧ (∀ j y, ys[j]? = some y → Pr j y B) ∧ i ≤ N ∧ k = N + 1 - i) ?_ (N + 1)
    ⟨[], B1, #[], 0, .rfl, H, rfl, fun j y h => by simp at h, Nat.zero_le _, rfl⟩
  rintro k s' ⟨l, B, ys, i, hle, H', hy, hP, hi, rfl⟩
  obtain ⟨⟨oI, hoI, cI, dI⟩, nI⟩ := H'.mine (I, LI ax i) (by simp)
  have hIt : s'.heap.IsListIter I ax i := ⟨oI, hoI, cI, dI⟩
  have hl : s'.heap.IsList ax items := ⟨oa, H'.bin _ _ (hle _ _ ha), hcl, na, hda⟩
  cases hv : items[i]? with
  | none =>
    have hge : N ≤ i := by
      rcases Nat.lt_or_ge i N with q | q
      · rw [Array.getElem?_eq_getElem (by omega)] at hv; cases hv
      · exact q
    refine wpAny_pyNext_list_end hh hIt hl hv fun h₁ he₁ => ?_
    refine hR l B _ ys hle (H'.lose (pre := [(D, PL ys)]) (post := []) (tk := s'.toks) he₁) (by omega) hP
  | some v =>
    have hlt : i < N := by
      rcases Nat.lt_or_ge i N with q | q
      · exact q
      · rw [Array.getElem?_eq_none (by omega)] at hv; cases hv
    refine wpAny_pyNext_list_item hIt hl hv fun h₁ hit₁ hs₁ => ?_
    obtain ⟨o1, g1, c1, d1⟩ := hit₁
    have H1 : Fs C (lk l) [(D, PL ys), (I, LI ax (i + 1))] B { s' with heap := h₁ } := H'.turn (pre := [(D, PL ys)]) (post := []) (tk := s'.toks) hs₁ g1 ⟨c1, d1⟩
    refine letGo_any ⟨o1, g1, c1, d1⟩ ?_
    refine wpAny_mono ((turn i hlt).out _ _ l B _ v hle H1 (moI i v _ _ hle (hit i v hv)) (fun y s4 => ∃ l' B', B.le B' ∧ Fs C (lk l') [(D, PL ys), (I, LI ax (i + 1))] B' s4 ∧ Pr i y B')
      fun y l' B' s4 hle' H4 hp => ⟨l', B', hle', H4, hp⟩) (fun _ s2 h2 => ?_) fun _ _ e => e
    · refine wpAny_mono h2 (fun y s4 h4 => ?_) fun _ _ e => e
      obtain ⟨l', B', hle', H4, hp⟩ := h4
      obtain ⟨⟨o, ho, n, rfl⟩, _⟩ := H4.mine (D, PL ys) (by simp)
      refine wpAny_list_append_plain ⟨n, ho⟩ (fun h' hl' hs' => ?_) (by rw [sizeLine_eq]; omega)
      obtain ⟨n', e'⟩ := hl'
      have H5 := H4.turn (pre := []) (post := [(I, LI ax (i + 1))]) (P' := PL (ys.push y)) (tk := s4.toks) hs' e' ⟨n', rfl⟩
      refine ⟨N + 1 - (i + 1), by omega, l', B', ys.push y, i + 1, hle.trans hle', H5, by simp [hy], fun j z hz => ?_, hlt, rfl⟩
      rw [Array.getElem?_push] at hz
      split at hz
      · rename_i hj; cases hz; rw [hj, hy]; exact hp
      · exact moP j z _ _ hle' (hP j z hz)
end
end Mine

end

section
open PySem PySem.W PyProof.Rows
set_option maxRecDepth 100000
set_option linter.all false
namespace Mine

section
variable {C : Cx} {m : Str → Option Value} {own : Own}

theorem comp_block {elt target iter : Expr} {scope : Scope} {pos : Pos} {N : Nat} {It Pr : Nat → Value → Fz → Prop} {B1 : Fz} {s1 : Shared} {v1 : Value} {RR : Value → Env → Result → Shared → Prop} {E : Value → Shared → Prop}
    (moI : ∀ i, Mo (It i)) (moP : ∀ i, Mo (Pr i)) (hh : C.A.handled = none) (H : Fs C m own B1 s1) (hv : Ls N It v1 B1) (hsz : N ≤ 100000)
    (turn : ∀ D i, i < N → Turn (compCx C B1 s1 D scope) B1 target elt (It i) (Pr i))
    (hcell : ∀ y ∈ scope.names, y.2 ≠ .cell) (hkind : scope.kind = .function)
    (hRR : ∀ D c l B s ys, B1.le B → Fs (compCx C B1 s1 c scope) (lk l) [(D, PL ys)] B s → ys.size = N → (∀ i y, ys[i]? = some y → Pr i y B) → RR (.ref D) (compEnv scope c C.env) (.ok .next) s) :
    wpAny (model C.prog C.w) C.A (pyIter v1) (fun it s₂ => wpAny (model C.prog C.w) C.A (newList []) (fun acc s₃ =>
      wpAny (model C.prog C.w) C.A (newFunctionEnv scope C.env.globals [] [] C.env.qual none .none (some C.env)) (fun cenv s₄ =>
        codeAny (model C.prog C.w) C.A (.compStart (.ListComp elt [⟨target, iter, [], 0⟩] scope pos) 0 it acc { cenv with scope := scope }) (RR acc { cenv with scope := scope }) s₄) E s₃) E s₂) E s1 := by
  obtain ⟨ax, oa, items, na, rfl, ha, hcl, hda, hN, hit⟩ := hv
  have hl : s1.heap.IsList ax items := ⟨oa, H.bin _ _ ha, hcl, na, hda⟩
  refine wpAny_pyIter_list hl (wpAny_newObj_type (hd := by size_fits) (wpAny_newFunctionEnv hcell (by intro y hy; simp at hy) (fun h₁ hns₁ hsb₁ => ?_) hkind))
  dsimp only at hns₁ hsb₁ ⊢
  generalize hH1 : s1.heap.push { cls := .type "list_iterator", data := .fields #[.ref ax, .int 0 0] } = H1 at hns₁ hsb₁ ⊢
  have hD : H1.objs.size = s1.heap.objs.size + 1 := by rw [← hH1, Heap.size_push]
  generalize hH2 : H1.push { cls := .type "list", dict := none, data := .seq ([] : List Value).toArray } = H2 at hns₁ hsb₁ ⊢
  have hC : H2.objs.size = s1.heap.objs.size + 2 := by rw [← hH2, Heap.size_push, hD]
  have nI : s1.heap.objs.size ≠ H2.objs.size := by rw [hC]; exact Nat.ne_of_lt (by omega)
  have nD : H1.objs.size ≠ H2.objs.size := by rw [hC, hD]; exact Nat.ne_of_lt (by omega)
  have lC : s1.heap.objs.size ≤ H2.objs.size := by rw [hC]; exact Nat.le_add_right _ _
  have lD : s1.heap.objs.size ≤ H1.objs.size := by rw [hD]; exact Nat.le_add_right _ _
  have old : ∀ b o, s1.heap.get? b = some o → h₁.get? b = some o := fun b o e =>
    hsb₁.extBut b o (by have := Heap.lt_size e; rw [hC]; exact Nat.ne_of_lt (Nat.lt_succ_of_lt (Nat.lt_succ_of_lt this))) (Heap.get?_push_of_some _ (hH2 ▸ Heap.get?_push_of_some _ (hH1 ▸ Heap.get?_push_of_some _ e)))
  have gI : h₁.get? s1.heap.objs.size = some { cls := .type "list_iterator", data := .fields #[.ref ax, .int 0 0] } :=
    hsb₁.extBut _ _ nI (Heap.get?_push_of_some _ (hH2 ▸ Heap.get?_push_of_some _ (hH1 ▸ Heap.get?_push_size _ rfl)))
  have gD : h₁.get? H1.objs.size = some { cls := .type "list", dict := none, data := .seq #[] } :=
    hsb₁.extBut _ _ nD (Heap.get?_push_of_some _ (hH2 ▸ Heap.get?_push_size _ rfl))
  have fresh : ∀ a, s1.heap.objs.size ≤ a → s1.heap.get? a = none ∧ B1 a = none := fun a ha => by
    have h1 : s1.heap.get? a = none := Heap.get?_none_of_le ha
    refine ⟨h1, ?_⟩
    cases e : B1 a with
    | none => rfl
    | some o => have := H.bin _ _ e; rw [h1] at this; cases this
  have F0 : Fs (compCx C B1 s1 H2.objs.size scope) (lk []) [(H1.objs.size, PL #[]), (s1.heap.objs.size, LI ax 0)] B1 { s1 with heap := h₁, toks := s1.toks + ([] : List (Str × Value)).length } := by
    refine ⟨hns₁, ⟨.of_keep old, .rfl, fun a o e => old a o (H.bin a o e), fun a o e => .inl e⟩, (fresh _ lC).1, (fresh _ lC).2, fun p hp => ?_, ?_, fun a h => by cases h⟩
    · rcases List.mem_cons.mp hp with rfl | hp
      · exact ⟨⟨_, gD, 0, rfl⟩, nD, (fresh _ lD).2, (fresh _ lD).1⟩
      · obtain rfl := List.mem_singleton.mp hp
        exact ⟨⟨_, gI, rfl, rfl⟩, nI, (fresh _ (Nat.le_refl _)).2, (fresh _ (Nat.le_refl _)).1⟩
    · show [H1.objs.size, s1.heap.objs.size].Nodup
      rw [hD]; simp
  have loop : ∀ s₂ : Shared, s₂ = { s1 with heap := h₁, toks := s1.toks + ([] : List (Str × Value)).length } →
      codeAny (model C.prog C.w) C.A (.compLoop (.ListComp elt [⟨target, iter, [], 0⟩] scope pos) 0 (.ref s1.heap.objs.size) (.ref H1.objs.size) (compEnv scope H2.objs.size C.env))
        (RR (.ref H1.objs.size) (compEnv scope H2.objs.size C.env)) s₂ := by
    rintro s₂ rfl
    exact comp_loop (C := compCx C B1 s1 H2.objs.size scope) moI moP hh ha hcl hda hN hit hsz (fun i hi => turn _ i hi) F0 fun l B s ys hle HF hy hP => hRR _ _ l B s ys hle HF hy hP
  exact codeAny_compStart_list (loop _ rfl) (wpAny_pyIter_listiter ⟨_, gI, rfl, rfl⟩ (loop _ rfl))

theorem ev_comp {elt target iter : Expr} {scope : Scope} {pos : Pos} {N : Nat} {It Pr : Nat → Value → Fz → Prop} {Bb : Fz} (h1 : Ev C m own Bb iter (Ls N It))
    (turn : ∀ B s D i, i < N → Bb.le B → Turn (compCx C B s D scope) B target elt (It i) (Pr i)) (moI : ∀ i, Mo (It i)) (moP : ∀ i, Mo (Pr i)) (hh : C.A.handled = none) (hsz : N ≤ 100000)
    (hfree : ∀ y ∈ scope.names, y.2 ≠ .free := by decide) (hcell : ∀ y ∈ scope.names, y.2 ≠ .cell := by decide) (hkind : scope.kind = .function := by rfl)
    (hnames : ∀ y ∈ scope.names, y.2 = .local → scope.names.lookup y.1 = some .local := by decide) (hs : ∀ x, foldedSetIterable iter C.env x = pure x := by intro _; rfl) :
    Ev C m own Bb (.ListComp elt [⟨target, iter, [], 0⟩] scope pos) (Ls N Pr) := Ev.mk fun E B s hb H Q k => by
  refine wpAny_ListComp hfree hkind hnames (h1.out E B s hb H _ fun v1 B1 s1 hle1 H1 hv => ?_) hs
  refine comp_block moI moP hh H1 hv hsz (fun D i hi => turn B1 s1 D i hi (hb.trans hle1)) hcell hkind
    (RR := fun acc cenv r s' => ∃ m, s'.heap.Ns cenv.locals m ∧ ∀ h', Heap.SameBut cenv.locals s'.heap h' →
            match r with | .ok _ => Q acc { s' with heap := h' } | .error x => wpAny (model C.prog C.w) C.A (passOn "comprehension.variables-let-go" x cenv) Q E { s' with heap := h' })
    fun D c l B2 s2 ys hle2 HF hy hP => ?_
  obtain ⟨o, ⟨n, rfl⟩, hBD, HF'⟩ := HF.freeze
  refine ⟨_, HF.ns, fun h' hs' => ?_⟩
  have G := HF'.leave hs'
  have H2 := H1.call (F' := []) (by simp) G
  refine k _ _ _ (hle1.trans (hle2.trans (Fz.le_set hBD))) H2 ⟨D, _, ys, n, rfl, Fz.set_self, rfl, rfl, hy, fun i y h => moP i y _ _ (Fz.le_set hBD) (hP i y h)⟩

theorem st_assignComp {sc : Scope} {l : List (Str × Value)} {Q : Flow → Shared → Prop} {E : Value → Shared → Prop} {rest : List Stmt} {B : Fz} {s : Shared} {x : Str} {px spos : Pos} {elt target iter : Expr} {scope : Scope} {pos : Pos} {N : Nat} {It Pr : Nat → Value → Fz → Prop}
    (S : Sc C sc) (hh : C.A.handled = none) (H : Fs C (lk l) own B s) (h1 : Ev C (lk l) own B iter (Ls N It))
    (turn : ∀ B' s D i, i < N → B.le B' → Turn (compCx C B' s D scope) B' target elt (It i) (Pr i)) (moI : ∀ i, Mo (It i)) (moP : ∀ i, Mo (Pr i)) (hsz : N ≤ 100000)
    (k : ∀ v B' s', B.le B' → Fs C (lk ((x, v) :: l)) own B' s' → Ls N Pr v B' → Wx C rest Q E s')
    (hfree : ∀ y ∈ scope.names, y.2 ≠ .free := by decide) (hcell : ∀ y ∈ scope.names, y.2 ≠ .cell := by decide) (hkind : scope.kind = .function := by rfl)
    (hnames : ∀ y ∈ scope.names, y.2 = .local → scope.names.lookup y.1 = some .local := by decide) (hs : ∀ x, foldedSetIterable iter C.env x = pure x := by intro _; rfl)
    (hln : (px.line == pos.line) = true := by rfl) (hnn : (scope.names.any fun y => y.1 == x && (y.2 == .local || y.2 == .cell)) = false := by rfl) (hl : sc.names.lookup x = some .local := by rfl) :
    Wx C (.Assign [.Name x px] (.ListComp elt [⟨target, iter, [], 0⟩] scope pos) spos :: rest) Q E s := by
  have hsw : swapsWith (.ListComp elt [⟨target, iter, [], 0⟩] scope pos) (some (.Name x px)) spos.line C.env = pure true := by
    unfold swapsWith
    dsimp only [pure_bind, Expr.pos]
    rw [S.of hl, hln]
    unfold Env.blockKind
    rw [S.k, hnn]
    rfl
  refine st_cons ?_
  rw [exec_Assign_Name_used _ _ _ _ hsw]
  refine wpAny_bind (wpAny_standAt (wpAny_bind ?_))
  show wpAny _ _ (do let _ ← comprehension (.ListComp elt [⟨target, iter, [], 0⟩] scope pos) scope C.env _ (newList []) false (eval iter C.env) (some (assign (.Name x px) C.env))) _ _ s
  refine wpAny_bind (wpAny_mono (wpAny_comprehension_use (Q := fun _ s' => Wx C rest Q E s') rfl hs hfree hkind hnames (h1.out E B s .rfl H _ fun v1 B1 s1 hle1 H1 hv => ?_))
    (fun _ s' hq => wpAny_pure (wpAny_pure ⟨rfl, hq⟩)) fun _ _ e => e)
  refine comp_block moI moP hh H1 hv hsz (fun D i hi => turn B1 s1 D i hi hle1) hcell hkind (RR := fun acc cenv r s' => match r with
      | .ok _ => wpAny (model C.prog C.w) C.A (assign (.Name x px) C.env acc) (fun _ s'' => ∃ m, s''.heap.Ns cenv.locals m ∧ ∀ h', Heap.SameBut cenv.locals s''.heap h' → Wx C rest Q E { s'' with heap := h' }) E s'
      | .error x => ∃ m, s'.heap.Ns cenv.locals m ∧ ∀ h', Heap.SameBut cenv.locals s'.heap h' → wpAny (model C.prog C.w) C.A (passOn "comprehension.variables-let-go" x cenv) (fun _ s' => Wx C rest Q E s') E { s' with heap := h' })
    fun D c l2 B2 s2 ys hle2 HF hy hP => ?_
  obtain ⟨o, ⟨n, rfl⟩, hBD, HF'⟩ := HF.freeze
  have hc1 : s1.heap.get? c = none := HF.lnew
  have hcL : c ≠ C.env.locals := fun q => by
    obtain ⟨oL, es, ep, hL, _⟩ := H1.ns
    rw [q, hL] at hc1; cases hc1
  have G := HF'.leave (Heap.SameBut.refl _ s2.heap)
  have H2 : Fs C (lk l) own (B2.set D { cls := .type "list", data := .seq ys n }) s2 := H1.call (F' := []) (by simp) G
  refine wpAny_assign_Name (wpAny_storeName_local (S.of hl) H2.ns (fun h3 hn3 hs3 => ?_) S.st)
  have H3 := H2.store (tk := s2.toks + 1) (by rw [lk_cons] at hn3; exact hn3) hs3
  have hnc := HF.ns.sameBut hs3 hcL
  obtain ⟨oc, _, _, hoc, _⟩ := id hnc
  refine ⟨_, hnc, fun h' hs' => ?_⟩
  have H4 := H3.adopt (c := c) hoc hcL HF'.lout (H1.gr.tr.none hc1) fun p hp q => by
    obtain ⟨⟨o, e, _⟩, _⟩ := H1.mine p hp
    rw [q, hc1] at e; cases e
  have H5 := H4.lose (pre := []) (tk := s2.toks + 1) hs'.extBut
  exact k _ _ _ (hle1.trans (hle2.trans (Fz.le_set hBD))) H5 ⟨D, _, ys, n, rfl, Fz.set_self, rfl, rfl, hy, fun i y h => moP i y _ _ (Fz.le_set hBD) (hP i y h)⟩
end
end Mine

end

section
open PySem PySem.W PyProof.Rows
set_option maxRecDepth 100000
set_option linter.all false
namespace Mine

/-- a call that gives P back and leaves all else as it was -/
structure Gives1 (prog : Program) (w : World) (A : Around) (F : List Addr) (f : Addr) (args : List Value) (P : Value → Fz → Prop) (B : Fz) (s : Shared) : Prop where
  out : codeAny (model prog w) A (.call (.ref f) ⟨args, []⟩) (fun r s' => ∃ v B', r = .ok (.ret v) ∧ Gr F B s B' s' ∧ P v B') s

theorem enter {prog : Program} {w : World} {A : Around} {F : List Addr} {B : Fz} {s : Shared} {f c : Addr} {i : Nat} {name : Str} {args : List Value} {binds : List (Str × Value)} {P : Value → Fz → Prop}
    (hB : B.In s.heap) (hlim : s.heap.NoLimit) (hfn : FnAt s.heap f c i name) (hF : ∀ a ∈ F, B a = none ∧ ∃ o, s.heap.get? a = some o) (hroom : A.depth < recursionLimit)
    (hbind : ∀ pm, bindArgs (Calls.docDef name (fdA i) (fdB i) (fdS i) pm (.ref c) .none) ⟨args, []⟩ = pure binds) (hloc : ∀ x ∈ binds, (fdS i).names.lookup x.1 = some .local)
    (hh : A.handled = none)
    (h : ∀ (C : Cx) (E : Value → Shared → Prop) s', Sc C (fdS i) → C.B0 = B → C.s0 = s → C.F = F → C.A = A.deeper C.env → Fs C (lk binds.reverse) [] B s' →
      Wx C (fdB i) (fun fl s'' => ∃ v m own B', fl = .ret v ∧ Fs C m own B' s'' ∧ P v B') E s')
    (hco : (fdS i).isCoroutine = false := by rfl) (hgen : (fdS i).isGenerator = false := by rfl) (hk : (fdS i).kind = .function := by rfl) (hcell : ∀ x ∈ (fdS i).names, x.2 ≠ .cell := by decide) :
    Gives1 prog w A F f args P B s := by
  obtain ⟨o, pm, ho, hd, hcd⟩ := hfn
  refine Gives1.mk <| call_plain hroom ho hd hlim hcd (hbind pm) hloc (fun h₁ Fr₁ => ?_) hco hgen hk hcell
  have fresh : B s.heap.objs.size = none := by
    cases q : B s.heap.objs.size with
    | none => rfl
    | some o => exact absurd (Heap.lt_size (hB _ _ q)) (Nat.lt_irrefl _)
  refine wpAny_mono (Wx.out (h ⟨prog, w, A.deeper (envOf name (fdS i) s.heap.objs.size f (.ref c)), F, B, s, envOf name (fdS i) s.heap.objs.size f (.ref c)⟩ _ _ ⟨rfl, hk, rfl, rfl⟩ rfl rfl rfl rfl ⟨Fr₁.ns, ⟨.of_keep Fr₁.keep, .rfl, fun a o e => Fr₁.keep _ _ (hB a o e), fun a o e => .inl e⟩, Heap.get?_none_of_le (Nat.le_refl _), fresh, fun p hp => absurd hp (by simp), List.nodup_nil, hF⟩))
    (fun fl s'' h'' => ?_) fun _ _ x => x
  obtain ⟨v, m, own, B', rfl, g, p⟩ := h''
  exact ⟨v, B', rfl, g.gr, p⟩

section
variable {C : Cx} {sc : Scope} {m : Str → Option Value} {own : Own} {Bb : Fz}
theorem callWith_fn {M : Model} {A : Around} {E : Value → Shared → Prop} {s : Shared} {pos : Pos} {a : Addr} {first : List Value} {args : List (Bool × Sem Value)} {Q : Value → Shared → Prop} (hpl : args.any (·.1) = false) (hlen : args.length ≤ 30)
    (h : wpAny M A (evalArgs (.ref a) true args []) (fun x s₁ => (∃ o fd, s₁.heap.get? a = some o ∧ o.data = .func fd) ∧ wpAny M A (call (.ref a) (first ++ x.pos) x.kw) Q E s₁) E s) :
    wpAny M A (callWith pos (.ref a) first args []) Q E s := by
  unfold callWith
  refine wpAny_bind (wpAny_holding (wpAny_mono h (fun x s₁ h₁ => wpAny_bind (wpAny_standAt ?_)) fun _ _ x => x))
  obtain ⟨⟨o, fd, ho, hd⟩, h₁⟩ := h₁
  simp only [hpl, List.any_nil, Bool.or_false]
  refine wpAny_bind (m := keeperOf (.ref a)) ?_
  unfold keeperOf
  refine wpAny_bind (wpAny_load ho ?_)
  rw [hd]
  refine wpAny_pure ?_
  rw [if_neg (by simp only [List.length_nil]; omega)]
  refine wpAny_bind ?_
  unfold callMarked
  exact Calls.wpAny_keep (wpAny_mono h₁ (fun r s₂ hr => wpAny_bind (wpAny_holding (wpAny_point (wpAny_pure hr)))) fun _ _ x => x)

/-- a call of a def of the text by its name -/
theorem ev_fn {f : Str} {fp pos : Pos} {a c : Addr} {i : Nat} {name : Str} {e : Expr} {es : List Expr} {ds : List PyData} {P : Value → Fz → Prop} (S : Sc C sc) (G : GB Bb) (hx : (f, Value.ref a) ∈ gNames) (hfn : ∀ h, GlobH h → FnAt h a c i name) (ha : Evs C m own Bb (e :: es) ds)
    (hc : ∀ vs B s, Bb.le B → Fs C m own B s → RpAll B vs ds → Gives1 C.prog C.w C.A (C.env.locals :: C.F) a vs P B s)
    (he : starEach (e :: es) C.env = (false, eval e C.env) :: starEach es C.env := by rfl) (hpl : (backTo pos (starEach (e :: es) C.env)).any (·.1) = false := by rfl) (hlen : (starEach (e :: es) C.env).length ≤ 30 := by decide)
    (hl : sc.names.lookup f = some .globalImplicit := by rfl) (hd : (f == ("__debug__" : Str)) = false := by decide) : Ev C m own Bb (.Call (.Name f fp) (e :: es) [] pos) P :=
  Ev.mk fun E B s hb H Q k => wpAny_Call_ofName ((ev_global S G hx hl hd).out E B s hb H _ fun v B1 s1 hle1 H1 q => by
    subst q
    refine callWith_fn hpl (by show (List.map _ (starEach (e :: es) C.env)).length ≤ 30; rw [List.length_map]; exact hlen) ?_
    have hx := evs_spliced (pos := pos) ha E B1 s1 (hb.trans hle1) H1 (fun vs s' => (∃ o fd, s'.heap.get? a = some o ∧ o.data = .func fd) ∧ wpAny (model C.prog C.w) C.A (call (.ref a) ([] ++ vs) []) Q E s') fun vs B2 s2 hle2 H2 p => by
      obtain ⟨o2, pm2, ho2, hd2, _⟩ := hfn _ (G _ (H2.bin.le (hb.trans (hle1.trans hle2))))
      refine ⟨⟨o2, _, ho2, hd2⟩, wpAny_call (codeAny_mono (hc vs B2 s2 (hb.trans (hle1.trans hle2)) H2 p).out fun r s' hr => ?_)⟩
      obtain ⟨v, B', rfl, g, hp⟩ := hr
      exact k v B' s' (hle1.trans (hle2.trans g.le)) (H2.call (by simp) g) hp
    rw [he] at hx ⊢
    exact Calls.evalArgs_plain hx)
end
end Mine

end

section
open PySem PySem.W PyProof.Rows PySem.Builtin.Str
set_option maxRecDepth 100000
set_option linter.all false
namespace Mine

section
variable {C : Cx} {sc : Scope} {l : List (Str × Value)} {own : Own} {B : Fz} {s : Shared} {E : Value → Shared → Prop} {Q : Flow → Shared → Prop} {rest : List Stmt}
theorem st_ifJ {test : Expr} {body orelse : List Stmt} {pos : Pos} {b : Bool} (J : Shared → Prop) (H : Fs C (lk l) own B s) (ht : Et C (lk l) own B test b)
    (k1 : ∀ B' s', B.le B' → Fs C (lk l) own B' s' → Wx C (if b then body else orelse) (fun f s'' => f = .next ∧ J s'') E s') (k2 : ∀ s'', J s'' → Wx C rest Q E s'') :
    Wx C (.If test body orelse pos :: rest) Q E s :=
  st_if H ht fun B' s' hle H' => (k1 B' s' hle H').mono fun f s'' h => ⟨h.1, k2 s'' h.2⟩
end

section
variable {C : Cx} {sc : Scope} {m : Str → Option Value} {own : Own} {Bb : Fz}

theorem ev_strMul {l r : Expr} {pos : Pos} {x : Str} {n : Int} (h1 : Ev C m own Bb l (Rd (.str x))) (h2 : Ev C m own Bb r (Rd (.int n))) (hok : MulOk x n) : Ev C m own Bb (.BinOp l .Mult r pos) (Rd (.str (Txt.mul x n))) :=
  ev_bin h1 h2 rd_mo fun v1 v2 E B s _ H p1 p2 Q k => by
    obtain ⟨t, rfl⟩ := p1.str_inv; obtain ⟨u, rfl⟩ := p2.int_inv
    exact SB.mul hok fun t' tk => k _ B _ .rfl (H.toks _) (.str _ _)

theorem ev_catL {l r : Expr} {pos : Pos} {ds es : List PyData} (h1 : Ev C m own Bb l (Rd (.list ds))) (h2 : Ev C m own Bb r (Rd (.list es))) (hsz : ds.length + es.length ≤ 100000) : Ev C m own Bb (.BinOp l .Add r pos) (Rd (.list (ds ++ es))) :=
  ev_bin h1 h2 rd_mo fun v1 v2 E B s _ H p1 p2 Q k => by
    obtain ⟨a, ⟨c, dd, da, sl⟩, vs, n, rfl, e1, e2, e3, e4⟩ := p1.list_inv
    obtain ⟨b, ⟨c2, dd2, da2, sl2⟩, ws, n2, rfl, f1, f2, f3, f4⟩ := p2.list_inv
    simp only at e2 e3 f2 f3
    subst e2 e3 f2 f3
    have l1 := e4.length
    have l2 := f4.length
    simp at l1 l2
    refine concat_meets ⟨_, H.bin _ _ e1, rfl⟩ ⟨_, H.bin _ _ f1, rfl⟩ noFill_list_add seq_list_add PySem.F.slot_list_add PySem.F.entry_list_add (PySem.F.args_list_add_2 _ _) (list_addW a b vs ws n n2 dd dd2 sl sl2 (by rw [sizeLine_eq]; omega)) ⟨H.bin _ _ e1, H.bin _ _ f1, ?_⟩
    exact k _ _ _ (Fz.le_set H.next) (H.pushF _) (.list Fz.set_self rfl rfl (by simpa using (e4.append f4).mono (Fz.le_set H.next)))

theorem ev_strOf {f : Str} {fp pos : Pos} {e : Expr} {n : Int} (hf : Ev C m own Bb (.Name f fp) (fun u _ => u = .type "str")) (he : Ev C m own Bb e (Rd (.int n))) (hn : n.natAbs < 1000000)
    (hst : ∀ r env, starEach (e :: r) env = (false, eval e env) :: starEach r env := by intro _ _; rfl) (hplain : (backTo pos (starEach [e] C.env)).any (·.1) = false := by rfl) (he' : starEach [e] C.env = (false, eval e C.env) :: starEach [] C.env := by rfl) :
    Ev C m own Bb (.Call (.Name f fp) [e] [] pos) (Rd (.str (Str.ofString (toString n)))) :=
  ev_callT hf (.cons he .nil hst) (fun vs E B s _ H p Q k => by
    cases p with
    | cons p1 p2 =>
      cases p2
      obtain ⟨t, rfl⟩ := p1.int_inv
      refine P.str_of_int ?_ (k _ B _ .rfl (H.toks _) (.str _ _))
      exact shown (N := 1000000) (by omega) (by omega) (by decide +kernel)) hplain he'

/-- a method's call -/
theorem ev_meth {o : Expr} {name : Str} {apos pos : Pos} {e : Expr} {es : List Expr} {ds : List PyData} {d : PyData} {T id : String} {P : Value → Fz → Prop} (ho : Ev C m own Bb o (Rd d))
    (hT : ∀ v B (s : Shared), Rp B v d → B.In s.heap → s.TypeIs v T ∧ ∀ a, v = .ref a → ∃ ob, s.heap.get? a = some ob ∧ ob.dict = none)
    (pa : PlainAttrs T) (slot : Slot T name id) (hty : typeOf (.builtin id) = pure (.type "method_descriptor")) (ha : Evs C m own Bb (e :: es) ds)
    (hc : ∀ v vs (E : Value → Shared → Prop) B s, Bb.le B → Fs C m own B s → Rp B v d → RpAll B vs ds → ∀ Q : Value → Shared → Prop, (∀ v B' s', B.le B' → Fs C m own B' s' → P v B' → Q v s') → wpAny (model C.prog C.w) C.A (call (.builtin id) (v :: vs)) Q E s)
    (hbase : attributeBase o name C.env (eval o C.env) = eval o C.env := by rfl)
    (hfew : ((backTo pos (starEach (e :: es) C.env)).all (fun x => !x.1) && (backToKw pos (keywordEach [] C.env)).all (fun x => x.1.isSome)
      && decide ((e :: es).length + ([] : List Keyword).length + (if ([] : List Keyword).isEmpty then 0 else 1) < 30)) = true := by rfl)
    (hline : (apos.endLine == pos.line) = true := by rfl) (hplain : (backTo pos (starEach (e :: es) C.env)).any (·.1) = false := by rfl) (he : starEach (e :: es) C.env = (false, eval e C.env) :: starEach es C.env := by rfl) :
    Ev C m own Bb (.Call (.Attribute o name apos) (e :: es) [] pos) P :=
  Ev.mk fun E B s hb H Q k => wpAny_Call_method hbase hfew hline pa slot hty (ho.out E B s hb H _ fun v B1 s1 hle1 H1 p1 => by
    obtain ⟨t1, t2⟩ := hT v B1 s1 p1 H1.bin
    refine ⟨t1, t2, ?_⟩
    refine Calls.callWith_builtin hplain ?_
    have hx := evs_spliced (pos := pos) ha E B1 s1 (hb.trans hle1) H1 (fun vs s' => wpAny (model C.prog C.w) C.A (call (.builtin id) ([v] ++ vs) []) Q E s') fun vs B2 s2 hle2 H2 p =>
      hc v vs E B2 s2 (hb.trans (hle1.trans hle2)) H2 (p1.mono hle2) p Q fun v B' s' hle H' hp => k v B' s' (hle1.trans (hle2.trans hle)) H' hp
    rw [he] at hx ⊢
    exact Calls.evalArgs_plain hx)

theorem str_hT {x : Str} : ∀ v B (s : Shared), Rp B v (.str x) → Fz.In B s.heap → s.TypeIs v "str" ∧ ∀ a, v = .ref a → ∃ ob, s.heap.get? a = some ob ∧ ob.dict = none := fun v B s p _ => by
  obtain ⟨t, rfl⟩ := p.str_inv
  exact ⟨typeIs_str _ _ _, fun a e => by cases e⟩

theorem rpStrs {B : Fz} : ∀ {vs : List Value} {ys : List Str}, RpAll B vs (ys.map .str) → PyProof.Rows.StrsAre vs ys
  | _, [], h => by cases h; exact .nil
  | _, y :: ys, h => by
    cases h with
    | cons a b =>
      obtain ⟨t, rfl⟩ := a.str_inv
      exact .cons y t (rpStrs b)

theorem ev_join {o : Expr} {apos pos : Pos} {e : Expr} {x : Str} {ys : List Str} (ho : Ev C m own Bb o (Rd (.str x))) (he : Ev C m own Bb e (Rd (.list (ys.map .str)))) (hsep : x.length ≤ 16) (hw : (ys.map (·.length)).sum + ys.length ≤ 1048576)
    (hst : ∀ r env, starEach (e :: r) env = (false, eval e env) :: starEach r env := by intro _ _; rfl)
    (hbase : attributeBase o "join" C.env (eval o C.env) = eval o C.env := by rfl)
    (hfew : ((backTo pos (starEach [e] C.env)).all (fun x => !x.1) && (backToKw pos (keywordEach [] C.env)).all (fun x => x.1.isSome)
      && decide ([e].length + ([] : List Keyword).length + (if ([] : List Keyword).isEmpty then 0 else 1) < 30)) = true := by rfl)
    (hline : (apos.endLine == pos.line) = true := by rfl) (hplain : (backTo pos (starEach [e] C.env)).any (·.1) = false := by rfl) (he' : starEach [e] C.env = (false, eval e C.env) :: starEach [] C.env := by rfl) :
    Ev C m own Bb (.Call (.Attribute o "join" apos) [e] [] pos) (Rd (.str (Txt.join x ys))) :=
  ev_meth ho str_hT PySem.F.plainAttrs_str PySem.F.slot_str_join PySem.F.type_str_join (.cons he .nil hst) (fun v vs E B s _ H p1 p Q k => by
    obtain ⟨t, rfl⟩ := p1.str_inv
    cases p with
    | cons q1 q2 =>
      cases q2
      obtain ⟨a, ob, its, n, rfl, e1, e2, e3, e4⟩ := q1.list_inv
      exact join_listW ⟨ob, H.bin _ _ e1, e2, n, e3⟩ (rpStrs e4) hsep hw fun t' tk => k _ B _ .rfl (H.toks _) (.str _ _)) hbase hfew hline hplain he'

theorem ev_len {f : Str} {fp pos : Pos} {e : Expr} {x : Str} (hf : Ev C m own Bb (.Name f fp) (fun u _ => u = .builtin "len")) (he : Ev C m own Bb e (Rd (.str x))) (hx : x.length ≤ 1000000)
    (hst : ∀ r env, starEach (e :: r) env = (false, eval e env) :: starEach r env := by intro _ _; rfl) (hplain : (backTo pos (starEach [e] C.env)).any (·.1) = false := by rfl) (he' : starEach [e] C.env = (false, eval e C.env) :: starEach [] C.env := by rfl) :
    Ev C m own Bb (.Call (.Name f fp) [e] [] pos) (Rd (.int (x.length : Nat))) :=
  ev_callB hf (.cons he .nil hst) (fun vs E B s _ H p Q k => by
    cases p with
    | cons p1 p2 =>
      cases p2
      obtain ⟨t, rfl⟩ := p1.str_inv
      exact PyProof.Rows.len_str (by omega) (k _ B _ .rfl (H.toks _) (.int _ _))) hplain he'
theorem ev_lenL {f : Str} {fp pos : Pos} {e : Expr} {ds : List PyData} (hf : Ev C m own Bb (.Name f fp) (fun u _ => u = .builtin "len")) (he : Ev C m own Bb e (Rd (.list ds))) (hx : ds.length ≤ 1000000)
    (hst : ∀ r env, starEach (e :: r) env = (false, eval e env) :: starEach r env := by intro _ _; rfl) (hplain : (backTo pos (starEach [e] C.env)).any (·.1) = false := by rfl) (he' : starEach [e] C.env = (false, eval e C.env) :: starEach [] C.env := by rfl) :
    Ev C m own Bb (.Call (.Name f fp) [e] [] pos) (Rd (.int (ds.length : Nat))) :=
  ev_callB hf (.cons he .nil hst) (fun vs E B s _ H p Q k => by
    cases p with
    | cons p1 p2 =>
      cases p2
      obtain ⟨a, ob, its, n, rfl, e1, e2, e3, e4⟩ := p1.list_inv
      have hl := e4.length
      simp at hl
      refine Calls.call_len_list ⟨ob, H.bin _ _ e1, e2, n, e3⟩ (by omega) ?_
      rw [hl]
      exact k _ B _ .rfl (H.toks _) (.int _ _)) hplain he'
end
end Mine

end

section
open PySem PySem.W PyProof.Rows PySem.Builtin.Str
set_option maxRecDepth 100000
set_option linter.all false
namespace Mine

section
variable {C : Cx} {m : Str → Option Value} {own : Own} {Bb : Fz}
theorem fmodN (a b : Nat) : ((a : Int).fmod (b : Int)) = ((a % b : Nat) : Int) := by rw [Int.fmod_eq_emod_of_nonneg _ (by omega)]; rfl
theorem fdivN (a b : Nat) : ((a : Int).fdiv (b : Int)) = ((a / b : Nat) : Int) := by rw [Int.fdiv_eq_ediv_of_nonneg _ (by omega)]; rfl
theorem evn_mod {l r : Expr} {pos : Pos} {a b : Nat} (h1 : Ev C m own Bb l (Rd (.int a))) (h2 : Ev C m own Bb r (Rd (.int b))) (hb : 0 < b) : Ev C m own Bb (.BinOp l .Mod r pos) (Rd (.int ((a % b : Nat) : Int))) := by
  rw [← fmodN]; exact ev_mod h1 h2 (by omega)
theorem evn_div {l r : Expr} {pos : Pos} {a b : Nat} (h1 : Ev C m own Bb l (Rd (.int a))) (h2 : Ev C m own Bb r (Rd (.int b))) (hb : 0 < b) (hs : b < 1073741824) : Ev C m own Bb (.BinOp l .FloorDiv r pos) (Rd (.int ((a / b : Nat) : Int))) := by
  rw [← fdivN]; exact ev_fdiv h1 h2 (by omega) (by omega)
theorem evn_add {l r : Expr} {pos : Pos} {a b : Nat} (h1 : Ev C m own Bb l (Rd (.int a))) (h2 : Ev C m own Bb r (Rd (.int b))) : Ev C m own Bb (.BinOp l .Add r pos) (Rd (.int ((a + b : Nat) : Int))) := by
  rw [Int.natCast_add]; exact ev_add h1 h2
theorem evn_int {n k : Nat} {pos : Pos} : Ev C m own Bb (.Constant (.int (n : Int)) k pos) (Rd (.int (n : Int))) := ev_int
theorem etn_lt {l r : Expr} {pos : Pos} {a b : Nat} (h1 : Ev C m own Bb l (Rd (.int a))) (h2 : Ev C m own Bb r (Rd (.int b))) (hm : behindInMarks .Lt r = false := by with_unfolding_all rfl) : Et C m own Bb (.Compare l [.Lt] [r] pos) (decide (a < b)) := by
  have := et_lt (pos := pos) h1 h2 hm
  rw [show decide (a < b) = decide ((a : Int) < (b : Int)) by simp]; exact this
theorem etn_eq {l r : Expr} {pos : Pos} {a b : Nat} (h1 : Ev C m own Bb l (Rd (.int a))) (h2 : Ev C m own Bb r (Rd (.int b))) (hm : behindInMarks .Eq r = false := by with_unfolding_all rfl) : Et C m own Bb (.Compare l [.Eq] [r] pos) (decide (a = b)) := by
  have := et_eq (pos := pos) h1 h2 hm
  rw [show decide (a = b) = ((a : Int) == (b : Int)) by rw [Bool.eq_iff_iff]; simp; omega]; exact this
end

def wordsL : List Str := ["", "", "", "dev", "alpha", "a", "beta", "b", "c", "RC", "rc", "pl", "p", "z", "Rc", "é"]
def ranksL : List Int := [0, 0, 0, 10, 20, 20, 30, 30, 40, 50, 50, 200, 200, 0, 0, 0]
def signsL : List Str := ["", "_", "+", "-"]

def wrd (n : Nat) : Str := wordsL.getD (n % 16) (Str.ofString "")
def rnk (n : Nat) : Int := ranksL.getD (n % 16) 0
def sgn (k : Nat) : Str := signsL.getD (k % 4) (Str.ofString "")
def numS (n : Nat) : Str := Txt.mul (Str.ofString "0") ((n / 16 / 28 % 3 : Nat) : Int) ++ Str.ofString (toString ((n / 16 % 14 : Nat) : Int))
def hasW (n : Nat) : Bool := wrd n != Str.ofString ""
def hasN (n : Nat) : Bool := decide (n / 16 % 14 < 12)
def rotd (n : Nat) : Bool := decide (n / 16 / 14 % 2 = 1)
/-- a run of a part -/
structure Run where
  t : Int
  n : Int
  w : Str
def Run.dat (r : Run) : PyData := .tuple [.int r.t, .int r.n, .str r.w]
def text1 (n : Nat) : List Str := if hasW n then [wrd n] else []
def text2 (n : Nat) : List Str := text1 n ++ if hasN n then [numS n] else []
def texts (n : Nat) : List Str := if rotd n then (text2 n).drop 1 ++ (text2 n).take 1 else text2 n
def run1 (n : Nat) : List Run := if hasW n then [⟨rnk n, 0, wrd n⟩] else []
def run2 (n : Nat) : List Run := run1 n ++ if hasN n then [⟨100, ((n / 16 % 14 : Nat) : Int), Str.ofString ""⟩] else []
def runs (n : Nat) : List Run := if rotd n then (run2 n).drop 1 ++ (run2 n).take 1 else run2 n
def partText (n : Nat) : Str := sgn (n / 16 / 84) ++ Txt.join (sgn (n / 16 / 336)) (texts n) ++ sgn (n / 16 / 1344)
def partDat (n : Nat) : PyData := .tuple [.str (partText n), .list ((runs n).map Run.dat)]

theorem words_get (k : Nat) (hk : k < 16) : (wordsL.map PyData.str)[((k : Nat) : Int).toNat]? = some (.str (wordsL.getD k (Str.ofString ""))) := by
  rw [Int.toNat_natCast, List.getElem?_map, List.getD_eq_getElem?_getD, List.getElem?_eq_getElem (show k < wordsL.length from hk)]; rfl
theorem ranks_get (k : Nat) (hk : k < 16) : (ranksL.map PyData.int)[((k : Nat) : Int).toNat]? = some (.int (ranksL.getD k 0)) := by
  rw [Int.toNat_natCast, List.getElem?_map, List.getD_eq_getElem?_getD, List.getElem?_eq_getElem (show k < ranksL.length from hk)]; rfl
theorem signs_get (k : Nat) : (signsL.map PyData.str)[((k % 4 : Nat) : Int).toNat]? = some (.str (sgn k)) := by
  rw [Int.toNat_natCast, List.getElem?_map, List.getElem?_eq_getElem (show k % 4 < signsL.length from Nat.mod_lt _ (by decide))]
  unfold sgn
  rw [List.getD_eq_getElem?_getD, List.getElem?_eq_getElem (show k % 4 < signsL.length from Nat.mod_lt _ (by decide))]; rfl
theorem mod4_lt (k : Nat) : ((k % 4 : Nat) : Int) < 2 ^ 63 := by omega
theorem wrd_len (n : Nat) : (wrd n).length ≤ 5 := by
  have h : ∀ k : Fin 16, (wordsL.getD k.val (Str.ofString "")).length ≤ 5 := by decide +kernel
  exact h ⟨n % 16, Nat.mod_lt _ (by decide)⟩
theorem sgn_len (n : Nat) : (sgn n).length ≤ 1 := by
  have h : ∀ k : Fin 4, (signsL.getD k.val (Str.ofString "")).length ≤ 1 := by decide +kernel
  exact h ⟨n % 4, Nat.mod_lt _ (by decide)⟩
theorem mul_len (k : Nat) (hk : k < 3) : (Txt.mul (Str.ofString "0") (k : Int)).length ≤ 2 := by
  have h : ∀ k : Fin 3, (Txt.mul (Str.ofString "0") ((k.val : Nat) : Int)).length ≤ 2 := by decide +kernel
  exact h ⟨k, hk⟩
theorem num_len (k : Nat) (hk : k < 14) : (Str.ofString (toString ((k : Nat) : Int))).length ≤ 2 := by
  have h : ∀ k : Fin 14, (Str.ofString (toString ((k.val : Nat) : Int))).length ≤ 2 := by decide +kernel
  exact h ⟨k, hk⟩
theorem numS_len (n : Nat) : (numS n).length ≤ 4 := by
  unfold numS
  rw [Str.length_append]
  have := mul_len (n / 16 / 28 % 3) (Nat.mod_lt _ (by decide))
  have := num_len (n / 16 % 14) (Nat.mod_lt _ (by decide))
  omega
theorem texts_shape (n : Nat) : (texts n).length ≤ 2 ∧ ((texts n).map (·.length)).sum ≤ 9 := by
  have := wrd_len n
  have := numS_len n
  unfold texts text2 text1
  cases hasW n <;> cases hasN n <;> cases rotd n <;> simp <;> omega
theorem written_len (n : Nat) : (Txt.join (sgn (n / 16 / 336)) (texts n)).length ≤ 11 := by
  show (glued _ _).length ≤ _
  rw [StrLaws.glued_eq_join]
  have h := StrLaws.join_length_le (sgn (n / 16 / 336)) (texts n)
  have h1 := texts_shape n
  have h2 := sgn_len (n / 16 / 336)
  have : (texts n).length * (sgn (n / 16 / 336)).length ≤ 2 * 1 := Nat.mul_le_mul h1.1 h2
  omega
theorem partText_len (n : Nat) : (partText n).length ≤ 13 := by
  unfold partText
  rw [Str.length_append, Str.length_append]
  have := written_len n
  have := sgn_len (n / 16 / 84)
  have := sgn_len (n / 16 / 1344)
  omega
theorem sl_from1 {α : Type} (l : List α) : (l.drop (kms_lo (some 1) l.length)).take (kms_hi none l.length - kms_lo (some 1) l.length) = l.drop 1 := by
  cases l with
  | nil => rfl
  | cons a r =>
    have : kms_lo (some 1) (a :: r).length = 1 := by unfold kms_lo; simp
    rw [this]
    unfold kms_hi
    apply List.take_of_length_le
    simp
theorem sl_to {α : Type} (l : List α) (k : Nat) : (l.drop (kms_lo none l.length)).take (kms_hi (some (k : Int)) l.length - kms_lo none l.length) = l.take k := by
  unfold kms_lo kms_hi
  have : ¬ ((k : Int) < 0) := by omega
  simp [this, List.take_eq_take_iff]
theorem sl_run {α : Type} (l : List α) (j k : Nat) : (l.drop (kms_lo (some (j : Int)) l.length)).take (kms_hi (some (k : Int)) l.length - kms_lo (some (j : Int)) l.length) = (l.drop j).take (k - j) := by
  unfold kms_lo kms_hi
  have h1 : ¬ ((k : Int) < 0) := by omega
  have h2 : ¬ ((j : Int) < 0) := by omega
  simp only [h1, h2, if_false, Int.toNat_natCast]
  rcases Nat.lt_or_ge j l.length with q | q
  · rw [Nat.min_eq_left (Nat.le_of_lt q), List.take_eq_take_iff, List.length_drop]; omega
  · rw [Nat.min_eq_right q, List.drop_eq_nil_of_le (Nat.le_refl _), List.drop_eq_nil_of_le q]; simp

section
variable {C : Cx} {m : Str → Option Value} {own : Own} {Bb : Fz}
theorem ev_from1 {value : Expr} {p pos pc : Pos} {kc : Nat} {ds : List PyData} (h1 : Ev C m own Bb value (Rd (.list ds))) (hsz : ds.length ≤ 100000) (ht : ∀ o r, letTemporaryGo value o r = pure () := by intro _ _; rfl) :
    Ev C m own Bb (.Subscript value (.Slice (some (.Constant (.int 1) kc pc)) none none p) pos) (Rd (.list (ds.drop 1))) := by
  have := ev_sliceL (p := p) (pos := pos) h1 (.some (ev_int (i := 1) (k := kc) (pos := pc))) .none hsz ht
  rw [sl_from1] at this; exact this
theorem ev_to {value e : Expr} {p pos : Pos} {ds : List PyData} {k : Nat} (h1 : Ev C m own Bb value (Rd (.list ds))) (h2 : Ev C m own Bb e (Rd (.int (k : Nat)))) (hsz : ds.length ≤ 100000) (ht : ∀ o r, letTemporaryGo value o r = pure () := by intro _ _; rfl) :
    Ev C m own Bb (.Subscript value (.Slice none (some e) none p) pos) (Rd (.list (ds.take k))) := by
  have := ev_sliceL (p := p) (pos := pos) h1 .none (.some h2) hsz ht
  rw [sl_to] at this; exact this
theorem ev_run {value e f : Expr} {p pos : Pos} {ds : List PyData} {j k : Nat} (h1 : Ev C m own Bb value (Rd (.list ds))) (h2 : Ev C m own Bb e (Rd (.int (j : Nat)))) (h3 : Ev C m own Bb f (Rd (.int (k : Nat)))) (hsz : ds.length ≤ 100000) (ht : ∀ o r, letTemporaryGo value o r = pure () := by intro _ _; rfl) :
    Ev C m own Bb (.Subscript value (.Slice (some e) (some f) none p) pos) (Rd (.list ((ds.drop j).take (k - j)))) := by
  have := ev_sliceL (p := p) (pos := pos) h1 (.some h2) (.some h3) hsz ht
  rw [sl_run] at this; exact this
end

theorem part_spec {prog : Program} {w : World} {A : Around} {F : List Addr} {B : Fz} {s : Shared} {n : Nat} {t : Tok} (G : GB B) (hB : B.In s.heap) (hF : ∀ a ∈ F, B a = none ∧ ∃ o, s.heap.get? a = some o) (hroom : A.depth < 900) (hh : A.handled = none) :
    Gives1 prog w A F 58 [.int n t] (Rd (partDat n)) B s := by
  refine enter (name := Str.ofString "_law_part") (i := 8) (c := 57) hB (G _ hB).lim (G _ hB).f58 hF (by have : recursionLimit = 1000 := rfl; omega) (binds := [(Str.ofString "x", .int n t)]) (fun pm => rfl) (fun x hx => by obtain rfl := List.mem_singleton.mp hx; rfl) hh fun C E s' S hB0 hs0 hF0 hA0 H => ?_
  unfold fdB
  dsimp only [PySem.Challenge.pw_mq0074_01, List.getElem?_cons_succ, List.getElem?_cons_zero]
  refine st_assign (P := Rd (.list (wordsL.map .str))) S H ?_ ?_
  · refine ev_list ?_ (by decide)
    repeat' (refine .cons ev_str ?_ (fun _ _ => rfl))
    exact .nil
  intro v1 B1 s1 hle1 H1 p1
  refine st_assign (P := Rd (.list (ranksL.map .int))) S H1 ?_ ?_
  · refine ev_list ?_ (by decide)
    repeat' (refine .cons ev_int ?_ (fun _ _ => rfl))
    exact .nil
  intro v2 B2 s2 hle2 H2 p2
  refine st_assign (P := Rd (.list (signsL.map .str))) S H2 ?_ ?_
  · refine ev_list ?_ (by decide)
    repeat' (refine .cons ev_str ?_ (fun _ _ => rfl))
    exact .nil
  intro v3 B3 s3 hle3 H3 p3
  refine st_assign (P := Rd (.int ((n % 16 : Nat) : Int))) S H3 ?_ ?_
  · exact evn_mod (ev_var S rfl (.int _ _)) evn_int (by decide)
  intro v4 B4 s4 hle4 H4 p4
  refine st_assign (P := Rd (.int ((n / 16 : Nat) : Int))) S H4 ?_ ?_
  · exact evn_div (ev_var S rfl (.int _ _)) evn_int (by decide) (by decide)
  intro v5 B5 s5 hle5 H5 p5
  refine st_newList S H5 fun aT s6 H6 => ?_
  refine st_newList S H6 fun aR s7 H7 => ?_
  have le35 : B3.le B5 := hle4.trans hle5
  have le25 := hle3.trans le35
  have le15 := hle2.trans le25
  have GB5 : GB B5 := G.le (hle1.trans le15)
  have p1' := p1.mono le15
  have p2' := p2.mono le25
  have p3' := p3.mono le35
  have p4' := p4.mono hle5
  have p5' := p5
  have h16 : n % 16 < 16 := Nat.mod_lt _ (by decide)
  -- words[kind]
  have eW : ∀ (own : Own) (B' : Fz) (pw pk ps : Pos), B5.le B' → Ev C (lk ((Str.ofString "runs", Value.ref aR) :: (Str.ofString "texts", Value.ref aT) :: (Str.ofString "q", v5) :: (Str.ofString "kind", v4) :: (Str.ofString "signs", v3) :: (Str.ofString "ranks", v2) :: (Str.ofString "words", v1) :: [(Str.ofString "x", Value.int (↑n) t)].reverse)) own B'
      (.Subscript (.Name (Str.ofString "words") pw) (.Name (Str.ofString "kind") pk) ps) (Rd (.str (wrd n))) := fun own B' pw pk ps h =>
    ev_item (ev_var S rfl (p1'.mono h)) (ev_var S rfl (p4'.mono h)) (by omega) (by omega) (words_get _ h16)
  refine st_ifJ (b := hasW n) (fun s' => ∃ B' vT vR, B5.le B' ∧ Fs C (lk ((Str.ofString "runs", Value.ref aR) :: (Str.ofString "texts", Value.ref aT) :: (Str.ofString "q", v5) :: (Str.ofString "kind", v4) :: (Str.ofString "signs", v3) :: (Str.ofString "ranks", v2) :: (Str.ofString "words", v1) :: [(Str.ofString "x", Value.int (↑n) t)].reverse)) [(aR, PL vR), (aT, PL vT)] B' s' ∧ RpAll B' vT.toList ((text1 n).map .str) ∧ RpAll B' vR.toList ((run1 n).map Run.dat)) H7 ?_ ?_ ?_
  · exact et_neS (eW _ _ _ _ _ .rfl) ev_str
  · intro B' s8 hle8 H8
    unfold text1 run1
    cases hw : hasW n with
    | false => exact st_nil ⟨rfl, B', #[], #[], hle8, H8, .nil, .nil⟩
    | true =>
      show Wx C [_, _] _ _ _
      refine st_append (pre := [(aR, PL #[])]) (post := []) (P := Rd (.str (wrd n))) S H8 rfl (by simp) (eW _ _ _ _ _ hle8) ?_
      intro v9 B9 s9 hle9 H9 p9
      refine st_append (pre := []) (P := Rd (Run.dat ⟨rnk n, 0, wrd n⟩)) S H9 rfl (by simp) ?_ ?_
      · refine ev_tuple (.cons ?_ (.cons ev_int (.cons (eW _ _ _ _ _ (hle8.trans hle9)) .nil (fun _ _ => rfl)) (fun _ _ => rfl)) (fun _ _ => rfl)) (by simp)
        exact ev_item (ev_var S rfl (p2'.mono (hle8.trans hle9))) (ev_var S rfl (p4'.mono (hle8.trans hle9))) (by omega) (by omega) (ranks_get _ h16)
      · intro v10 B10 s10 hle10 H10 p10
        refine st_nil ⟨rfl, B10, #[v9], #[v10], hle8.trans (hle9.trans hle10), H10, .cons (p9.mono hle10) .nil, .cons p10 .nil⟩
  rintro s11 ⟨B11, vT, vR, hle11, H11, q11, r11⟩
  have GB11 : GB B11 := GB5.le hle11
  have p5q := p5'.mono hle11
  refine st_ifJ (b := hasN n) (fun s' => ∃ B' vT vR, B11.le B' ∧ Fs C (lk ((Str.ofString "runs", Value.ref aR) :: (Str.ofString "texts", Value.ref aT) :: (Str.ofString "q", v5) :: (Str.ofString "kind", v4) :: (Str.ofString "signs", v3) :: (Str.ofString "ranks", v2) :: (Str.ofString "words", v1) :: [(Str.ofString "x", Value.int (↑n) t)].reverse)) [(aR, PL vR), (aT, PL vT)] B' s' ∧ RpAll B' vT.toList ((text2 n).map .str) ∧ RpAll B' vR.toList ((run2 n).map Run.dat)) H11 ?_ ?_ ?_
  · exact etn_lt (evn_mod (ev_var S rfl p5q) evn_int (by decide)) evn_int
  · intro B' s8 hle8 H8
    unfold text2 run2
    cases hw : hasN n with
    | false => exact st_nil ⟨rfl, B', vT, vR, hle8, H8, by simpa using q11.mono hle8, by simpa using r11.mono hle8⟩
    | true =>
      show Wx C [_, _] _ _ _
      have szT : vT.size ≤ 2 := by
        have := q11.length
        unfold text1 at this
        split at this <;> simp at this <;> simp [this]
      have szR : vR.size ≤ 2 := by
        have := r11.length
        unfold run1 at this
        split at this <;> simp at this <;> simp [this]
      refine st_append (pre := [(aR, PL vR)]) (post := []) (P := Rd (.str (numS n))) S H8 rfl (by omega) ?_ ?_
      · refine ev_cat (ev_strMul ev_str (evn_mod (evn_div (ev_var S rfl (p5q.mono hle8)) evn_int (by decide) (by decide)) evn_int (by decide)) ?_) (ev_strOf (ev_builtin S (GB11.le hle8) (by decide)) (evn_mod (ev_var S rfl (p5q.mono hle8)) evn_int (by decide)) ?_) ?_
        · exact PyProof.Rows.mulOk_of 1 2 (by decide) (by have := Nat.mod_lt (n / 16 / 28) (show 3 > 0 by decide); omega) (by omega) (by decide) (by decide)
        · have := Nat.mod_lt (n / 16) (show 14 > 0 by decide); omega
        · have h1 := mul_len (n / 16 / 28 % 3) (Nat.mod_lt _ (by decide))
          have h2 := num_len (n / 16 % 14) (Nat.mod_lt _ (by decide))
          exact Nat.le_trans (Nat.add_le_add h1 h2) (by decide)
      intro v9 B9 s9 hle9 H9 p9
      refine st_append (pre := []) (P := Rd (Run.dat ⟨100, ((n / 16 % 14 : Nat) : Int), Str.ofString ""⟩)) S H9 rfl (by omega) ?_ ?_
      · exact ev_tuple (.cons ev_int (.cons (evn_mod (ev_var S rfl (p5q.mono (hle8.trans hle9))) evn_int (by decide)) (.cons ev_str .nil (fun _ _ => rfl)) (fun _ _ => rfl)) (fun _ _ => rfl)) (by simp)
      · intro v10 B10 s10 hle10 H10 p10
        refine st_nil ⟨rfl, B10, vT.push v9, vR.push v10, hle8.trans (hle9.trans hle10), H10, ?_, ?_⟩
        · rw [List.map_append, Array.toList_push]
          exact (q11.mono (hle8.trans (hle9.trans hle10))).append (.cons (p9.mono hle10) .nil)
        · rw [List.map_append, Array.toList_push]
          exact (r11.mono (hle8.trans (hle9.trans hle10))).append (.cons p10 .nil)
  rintro s12 ⟨B12, wT, wR, hle12, H12, q12, r12⟩
  obtain ⟨oR, ⟨nR, rfl⟩, hbR, H13⟩ := H12.freeze
  have le13 := Fz.le_set (o := { cls := .type "list", data := .seq wR nR }) hbR
  obtain ⟨oT, ⟨nT, rfl⟩, hbT, H14⟩ := H13.freeze
  have le14 := Fz.le_set (o := { cls := .type "list", data := .seq wT nT }) hbT
  have pR : Rp _ (.ref aR) (.list ((run2 n).map Run.dat)) := Rp.list (le14 _ _ (Fz.set_self (B := B12))) rfl rfl (r12.mono (le13.trans le14))
  have pT : Rp _ (.ref aT) (.list ((text2 n).map .str)) := Rp.list (Fz.set_self (a := aT) (o := { cls := .type "list", data := .seq wT nT })) rfl rfl (q12.mono (le13.trans le14))
  generalize hB14 : Fz.set _ aT _ = B14 at *
  have le1114 : B11.le B14 := hle12.trans (le13.trans le14)
  have lT : (text2 n).length ≤ 2 := by
    unfold text2 text1; cases hasW n <;> cases hasN n <;> simp
  have lR : (run2 n).length ≤ 2 := by
    unfold run2 run1; cases hasW n <;> cases hasN n <;> simp
  refine st_ifJ (b := rotd n) (fun s' => ∃ B' l v v', B14.le B' ∧ Fs C (lk l) [] B' s' ∧ lk l (Str.ofString "texts") = some v ∧ lk l (Str.ofString "runs") = some v' ∧ lk l (Str.ofString "q") = some v5 ∧ lk l (Str.ofString "signs") = some v3 ∧ Rp B' v (.list ((texts n).map .str)) ∧ Rp B' v' (.list ((runs n).map Run.dat))) H14 ?_ ?_ ?_
  · exact etn_eq (evn_mod (evn_div (ev_var S rfl (p5q.mono le1114)) evn_int (by decide) (by decide)) evn_int (by decide)) evn_int
  · intro B' s8 hle8 H8
    unfold texts runs
    cases hw : rotd n with
    | false => exact st_nil ⟨rfl, B', _, _, _, hle8, H8, rfl, rfl, rfl, rfl, pT.mono hle8, pR.mono hle8⟩
    | true =>
      show Wx C [_, _] _ _ _
      refine st_assign (P := Rd (.list (((text2 n).drop 1 ++ (text2 n).take 1).map .str))) S H8 ?_ ?_
      · rw [List.map_append, List.map_drop, List.map_take]
        exact ev_catL (ev_from1 (ev_var S rfl (pT.mono hle8)) (by simp; omega)) (ev_to (k := 1) (ev_var S rfl (pT.mono hle8)) ev_int (by simp; omega)) (by simp; omega)
      intro v9 B9 s9 hle9 H9 p9
      refine st_assign (P := Rd (.list (((run2 n).drop 1 ++ (run2 n).take 1).map Run.dat))) S H9 ?_ ?_
      · rw [List.map_append, List.map_drop, List.map_take]
        exact ev_catL (ev_from1 (ev_var S rfl (pR.mono (hle8.trans hle9))) (by simp; omega)) (ev_to (k := 1) (ev_var S rfl (pR.mono (hle8.trans hle9))) ev_int (by simp; omega)) (by simp; omega)
      intro v10 B10 s10 hle10 H10 p10
      exact st_nil ⟨rfl, B10, _, _, _, hle8.trans (hle9.trans hle10), H10, rfl, rfl, rfl, rfl, p9.mono hle10, p10⟩
  rintro s15 ⟨B15, l15, vt, vr, hle15, H15, k1, k2, k3, k4, pt, pr⟩
  have le515 : B11.le B15 := le1114.trans hle15
  have p3r := (p3'.mono hle11).mono le515
  refine st_assign (P := Rd (.str (Txt.join (sgn (n / 16 / 336)) (texts n)))) S H15 ?_ ?_
  · refine ev_join (ev_item (ev_var S k4 p3r) (evn_mod (evn_div (ev_var S k3 (p5q.mono le515)) evn_int (by decide) (by decide)) evn_int (by decide)) (by omega) (mod4_lt _) (signs_get _)) (ev_var S k1 pt) (Nat.le_trans (sgn_len _) (by decide)) ?_
    have := texts_shape n
    omega
  intro v16 B16 s16 hle16 H16 p16
  refine st_return (P := Rd (partDat n)) H16 ?_ ?_
  · have e3 : lk ((Str.ofString "written", v16) :: l15) (Str.ofString "q") = some v5 := k3
    have e4 : lk ((Str.ofString "written", v16) :: l15) (Str.ofString "signs") = some v3 := k4
    have e2 : lk ((Str.ofString "written", v16) :: l15) (Str.ofString "runs") = some vr := k2
    have h1 := sgn_len (n / 16 / 84)
    have h2 := sgn_len (n / 16 / 1344)
    have h3 := written_len n
    refine ev_tuple (.cons (ev_cat (ev_cat (ev_item (ev_var S e4 (p3r.mono hle16)) (evn_mod (evn_div (ev_var S e3 ((p5q.mono le515).mono hle16)) evn_int (by decide) (by decide)) evn_int (by decide)) (by omega) (mod4_lt _) (signs_get _)) (ev_var S rfl p16) (by omega)) (ev_item (ev_var S e4 (p3r.mono hle16)) (evn_mod (evn_div (ev_var S e3 ((p5q.mono le515).mono hle16)) evn_int (by decide) (by decide)) evn_int (by decide)) (by omega) (mod4_lt _) (signs_get _)) (by rw [Str.length_append]; omega)) (.cons (ev_var S e2 (pr.mono hle16)) .nil (fun _ _ => rfl)) (fun _ _ => rfl)) (by simp)
  · intro v B' s' hle H' p
    exact ⟨v, _, _, B', rfl, H', p⟩
end Mine

end

section
open PySem PySem.W PyProof.Rows PySem.Builtin.Str
set_option maxRecDepth 100000
set_option linter.all false
namespace Mine

def fnd (x y : Str) (hi : Nat) : Int := match occurrences x y 0 hi 1 with | i :: _ => (i : Int) | [] => -1
def rfnd (x y : Str) (hi : Nat) : Int := match lastOccurrence x y 0 hi with | some i => (i : Int) | none => -1

theorem gives_find4 (x y : Str) (hi : Nat) (t u v w : Tok) (h : hi ≤ x.length) : Gives (Builtin.«str.find» ⟨[.str x t, .str y u, .int 0 v, .int (hi : Int) w], []⟩) (.int (fnd x y hi)) := by
  show Gives (match occurrences x y (fromIndex x.length 0) (min (fromIndex x.length (hi : Int)) x.length) 1 with | k :: _ => retInt k | [] => (do rule "str.find.not-found"; retInt (-1))) _
  have e1 : fromIndex x.length 0 = 0 := rfl
  have e2 : fromIndex x.length (hi : Int) = hi := by unfold fromIndex; rw [if_neg (by omega)]; omega
  rw [e1, e2, Nat.min_eq_left h]
  unfold fnd
  cases occurrences x y 0 hi 1 with
  | nil => exact .rule (.of_eq rfl)
  | cons k _ => exact .of_eq rfl
theorem gives_rfind4 (x y : Str) (hi : Nat) (t u v w : Tok) (h : hi ≤ x.length) : Gives (Builtin.«str.rfind» ⟨[.str x t, .str y u, .int 0 v, .int (hi : Int) w], []⟩) (.int (rfnd x y hi)) := by
  show Gives (match lastOccurrence x y (fromIndex x.length 0) (min (fromIndex x.length (hi : Int)) x.length) with | some k => retInt k | none => (do rule "str.rfind.not-found"; retInt (-1))) _
  have e1 : fromIndex x.length 0 = 0 := rfl
  have e2 : fromIndex x.length (hi : Int) = hi := by unfold fromIndex; rw [if_neg (by omega)]; omega
  rw [e1, e2, Nat.min_eq_left h]
  unfold rfnd
  cases lastOccurrence x y 0 hi with
  | none => exact .rule (.of_eq rfl)
  | some k => exact .of_eq rfl

section
variable {C : Cx} {sc : Scope} {m : Str → Option Value} {own : Own} {Bb : Fz}
theorem ev_find {o : Expr} {apos pos : Pos} {e : Expr} {x y : Str} (ho : Ev C m own Bb o (Rd (.str x))) (he : Ev C m own Bb e (Rd (.str y)))
    (hst : ∀ r env, starEach (e :: r) env = (false, eval e env) :: starEach r env := by intro _ _; rfl)
    (hbase : attributeBase o "find" C.env (eval o C.env) = eval o C.env := by rfl)
    (hfew : ((backTo pos (starEach [e] C.env)).all (fun x => !x.1) && (backToKw pos (keywordEach [] C.env)).all (fun x => x.1.isSome)
      && decide ([e].length + ([] : List Keyword).length + (if ([] : List Keyword).isEmpty then 0 else 1) < 30)) = true := by rfl)
    (hline : (apos.endLine == pos.line) = true := by rfl) (hplain : (backTo pos (starEach [e] C.env)).any (·.1) = false := by rfl) (he' : starEach [e] C.env = (false, eval e C.env) :: starEach [] C.env := by rfl) :
    Ev C m own Bb (.Call (.Attribute o "find" apos) [e] [] pos) (Rd (.int (fnd x y x.length))) :=
  ev_meth ho str_hT PySem.F.plainAttrs_str PySem.F.slot_str_find PySem.F.type_str_find (.cons he .nil hst) (fun v vs E B s _ H p1 p Q k => by
    obtain ⟨t, rfl⟩ := p1.str_inv
    cases p with
    | cons q1 q2 =>
      cases q2
      obtain ⟨u, rfl⟩ := q1.str_inv
      exact SC.find (k _ B _ .rfl (H.toks _) (.int _ _))) hbase hfew hline hplain he'
theorem ev_find4 {o : Expr} {apos pos : Pos} {e e2 e3 : Expr} {x y : Str} {hi : Nat} (ho : Ev C m own Bb o (Rd (.str x))) (he : Ev C m own Bb e (Rd (.str y))) (h2 : Ev C m own Bb e2 (Rd (.int 0))) (h3 : Ev C m own Bb e3 (Rd (.int (hi : Int)))) (hhi : hi ≤ x.length)
    (hst : ∀ r env, starEach (e :: r) env = (false, eval e env) :: starEach r env := by intro _ _; rfl) (hst2 : ∀ r env, starEach (e2 :: r) env = (false, eval e2 env) :: starEach r env := by intro _ _; rfl) (hst3 : ∀ r env, starEach (e3 :: r) env = (false, eval e3 env) :: starEach r env := by intro _ _; rfl)
    (hbase : attributeBase o "find" C.env (eval o C.env) = eval o C.env := by rfl)
    (hfew : ((backTo pos (starEach [e, e2, e3] C.env)).all (fun x => !x.1) && (backToKw pos (keywordEach [] C.env)).all (fun x => x.1.isSome)
      && decide ([e, e2, e3].length + ([] : List Keyword).length + (if ([] : List Keyword).isEmpty then 0 else 1) < 30)) = true := by rfl)
    (hline : (apos.endLine == pos.line) = true := by rfl) (hplain : (backTo pos (starEach [e, e2, e3] C.env)).any (·.1) = false := by rfl) (he' : starEach [e, e2, e3] C.env = (false, eval e C.env) :: starEach [e2, e3] C.env := by rfl) :
    Ev C m own Bb (.Call (.Attribute o "find" apos) [e, e2, e3] [] pos) (Rd (.int (fnd x y hi))) :=
  ev_meth ho str_hT PySem.F.plainAttrs_str PySem.F.slot_str_find PySem.F.type_str_find (.cons he (.cons h2 (.cons h3 .nil hst3) hst2) hst) (fun v vs E B s _ H p1 p Q k => by
    obtain ⟨t, rfl⟩ := p1.str_inv
    cases p with
    | cons q1 q2 =>
      cases q2 with
      | cons q2 q3 =>
        cases q3 with
        | cons q3 q4 =>
          cases q4
          obtain ⟨u, rfl⟩ := q1.str_inv
          obtain ⟨u2, rfl⟩ := q2.int_inv
          obtain ⟨u3, rfl⟩ := q3.int_inv
          exact call_gives PySem.F.slot_str_find (typeIs_str _ _ _) PySem.F.entry_str_find (PySem.F.args_str_find_4 _ _ _ _) (gives_find4 x y hi t u u2 u3 hhi) (k _ B _ .rfl (H.toks _) (.int _ _))) hbase hfew hline hplain he'
theorem ev_rfind4 {o : Expr} {apos pos : Pos} {e e2 e3 : Expr} {x y : Str} {hi : Nat} (ho : Ev C m own Bb o (Rd (.str x))) (he : Ev C m own Bb e (Rd (.str y))) (h2 : Ev C m own Bb e2 (Rd (.int 0))) (h3 : Ev C m own Bb e3 (Rd (.int (hi : Int)))) (hhi : hi ≤ x.length)
    (hst : ∀ r env, starEach (e :: r) env = (false, eval e env) :: starEach r env := by intro _ _; rfl) (hst2 : ∀ r env, starEach (e2 :: r) env = (false, eval e2 env) :: starEach r env := by intro _ _; rfl) (hst3 : ∀ r env, starEach (e3 :: r) env = (false, eval e3 env) :: starEach r env := by intro _ _; rfl)
    (hbase : attributeBase o "rfind" C.env (eval o C.env) = eval o C.env := by rfl)
    (hfew : ((backTo pos (starEach [e, e2, e3] C.env)).all (fun x => !x.1) && (backToKw pos (keywordEach [] C.env)).all (fun x => x.1.isSome)
      && decide ([e, e2, e3].length + ([] : List Keyword).length + (if ([] : List Keyword).isEmpty then 0 else 1) < 30)) = true := by rfl)
    (hline : (apos.endLine == pos.line) = true := by rfl) (hplain : (backTo pos (starEach [e, e2, e3] C.env)).any (·.1) = false := by rfl) (he' : starEach [e, e2, e3] C.env = (false, eval e C.env) :: starEach [e2, e3] C.env := by rfl) :
    Ev C m own Bb (.Call (.Attribute o "rfind" apos) [e, e2, e3] [] pos) (Rd (.int (rfnd x y hi))) :=
  ev_meth ho str_hT PySem.F.plainAttrs_str PySem.F.slot_str_rfind PySem.F.type_str_rfind (.cons he (.cons h2 (.cons h3 .nil hst3) hst2) hst) (fun v vs E B s _ H p1 p Q k => by
    obtain ⟨t, rfl⟩ := p1.str_inv
    cases p with
    | cons q1 q2 =>
      cases q2 with
      | cons q2 q3 =>
        cases q3 with
        | cons q3 q4 =>
          cases q4
          obtain ⟨u, rfl⟩ := q1.str_inv
          obtain ⟨u2, rfl⟩ := q2.int_inv
          obtain ⟨u3, rfl⟩ := q3.int_inv
          exact call_gives PySem.F.slot_str_rfind (typeIs_str _ _ _) PySem.F.entry_str_rfind (PySem.F.args_str_rfind_4 _ _ _ _) (gives_rfind4 x y hi t u u2 u3 hhi) (k _ B _ .rfl (H.toks _) (.int _ _))) hbase hfew hline hplain he'
end

theorem fnd_spec (x : Str) (c hi : Nat) (hhi : hi ≤ x.length) :
    (fnd x ⟨#[c]⟩ hi = -1 ∧ ∀ i, i < hi → x.cps.toList[i]? ≠ some c) ∨ ∃ i : Nat, fnd x ⟨#[c]⟩ hi = i ∧ i < hi ∧ x.cps.toList[i]? = some c ∧ ∀ k, k < i → x.cps.toList[k]? ≠ some c := by
  unfold fnd
  have at1 : ∀ i, StrLaws.At x ⟨#[c]⟩ hi i ↔ (i < hi ∧ x.cps.toList[i]? = some c) := fun i => by
    unfold StrLaws.At
    have := StrLaws.subAt_one x c i
    constructor
    · rintro ⟨h1, h2⟩
      have h1' : i + 1 ≤ hi := h1
      exact ⟨by omega, this.mp ⟨by show i + 1 ≤ _; omega, h2⟩⟩
    · rintro ⟨h1, h2⟩
      exact ⟨by show i + 1 ≤ hi; omega, (this.mpr h2).2⟩
  rw [StrLaws.occ_eq]
  rcases StrLaws.occ_first x ⟨#[c]⟩ hi 1 (Nat.le_refl _) (List.range' 0 (hi + 1 - 0)) 0 (fun i _ => Nat.zero_le _) with ⟨h0, hn⟩ | ⟨pre, a, post, e, h0, ha, hn⟩
  · rw [h0]
    refine .inl ⟨rfl, fun i hi' he => hn i (by simp [List.mem_range']; omega) ((at1 i).mpr ⟨hi', he⟩)⟩
  · right
    obtain ⟨q1, q2⟩ := (at1 a).mp ha
    refine ⟨a, ?_, q1, q2, fun k hk he => hn k (StrLaws.range'_split e k hk) ((at1 k).mpr ⟨by omega, he⟩)⟩
    generalize (forIn (List.range' 0 (hi + 1 - 0)) ((#[] : Array Nat), 0) (StrLaws.occBody x ⟨#[c]⟩ hi 1)).run.fst = arr at h0
    have : arr.toList[0]? = some a := by simpa using h0
    cases hl : arr.toList with
    | nil => rw [hl] at this; cases this
    | cons b r => rw [hl] at this; simp at this; rw [this]
theorem rfnd_spec (x : Str) (c hi : Nat) (hhi : hi ≤ x.length) :
    (rfnd x ⟨#[c]⟩ hi = -1 ∧ ∀ i, i < hi → x.cps.toList[i]? ≠ some c) ∨ ∃ i : Nat, rfnd x ⟨#[c]⟩ hi = i ∧ i < hi ∧ x.cps.toList[i]? = some c ∧ ∀ k, i < k → k < hi → x.cps.toList[k]? ≠ some c := by
  unfold rfnd
  have at1 : ∀ i, StrLaws.At x ⟨#[c]⟩ hi i ↔ (i < hi ∧ x.cps.toList[i]? = some c) := fun i => by
    unfold StrLaws.At
    have := StrLaws.subAt_one x c i
    constructor
    · rintro ⟨h1, h2⟩
      have h1' : i + 1 ≤ hi := h1
      exact ⟨by omega, this.mp ⟨by show i + 1 ≤ _; omega, h2⟩⟩
    · rintro ⟨h1, h2⟩
      exact ⟨by show i + 1 ≤ hi; omega, (this.mpr h2).2⟩
  rw [StrLaws.last_eq]
  have key := StrLaws.last_run x ⟨#[c]⟩ hi (List.range' 0 (hi + 1 - 0)) [] none (fun _ h => nomatch h) (fun _ h => nomatch h) (by simpa using List.pairwise_lt_range' (s := 0) (n := hi + 1 - 0))
  have mem : ∀ i, StrLaws.At x ⟨#[c]⟩ hi i → i ∈ [] ++ List.range' 0 (hi + 1 - 0) := fun i h => by have := ((at1 i).mp h).1; simp [List.mem_range'] <;> omega
  cases hr : (forIn (List.range' 0 (hi + 1 - 0)) none (StrLaws.lastBody x ⟨#[c]⟩ hi)).run with
  | none => rw [hr] at key; exact .inl ⟨rfl, fun i h1 h2 => key i (mem i ((at1 i).mpr ⟨h1, h2⟩)) ((at1 i).mpr ⟨h1, h2⟩)⟩
  | some a =>
    rw [hr] at key
    obtain ⟨q1, q2⟩ := (at1 a).mp key.1
    exact .inr ⟨a, rfl, q1, q2, fun k h0 h1 h2 => key.2 k (mem k ((at1 k).mpr ⟨h1, h2⟩)) h0 ((at1 k).mpr ⟨h1, h2⟩)⟩

/-- what is behind the last dot -/
def lastPart (l : List Nat) : List Nat := (l.reverse.takeWhile (· != 46)).reverse
theorem lastPart_append {a b : List Nat} (hb : ∀ c ∈ b, c ≠ 46) (ha : a = [] ∨ ∃ r, a = r ++ [46]) : lastPart (a ++ b) = b := by
  unfold lastPart
  rw [List.reverse_append, List.takeWhile_append_of_pos (by intro c hc; have := hb c (List.mem_reverse.mp hc); simpa using this)]
  rcases ha with rfl | ⟨r, rfl⟩
  · simp
  · simp

section
variable {C : Cx} {sc : Scope} {l : List (Str × Value)} {own : Own} {B : Fz} {s : Shared} {E : Value → Shared → Prop} {Q : Flow → Shared → Prop} {rest : List Stmt}
theorem extBut_keep {h h' : Heap} (he : Heap.ExtBut h.objs.size h h') : ∀ b o, h.get? b = some o → h'.get? b = some o := fun b o e => he b o (Nat.ne_of_lt (Heap.lt_size e)) e
theorem rp_tup {B : Fz} {v : Value} {ds : List PyData} {h : Heap} (p : Rp B v (.tuple ds)) (hb : B.In h) : ∃ a vs, v = .ref a ∧ IsTup h a vs.toArray ∧ RpAll B vs ds := by
  obtain ⟨a, o, vs, n, rfl, e1, e2, e3, e4⟩ := p.tuple_inv
  exact ⟨a, vs.toList, rfl, ⟨o, hb _ _ e1, e2, n, by simpa using e3⟩, e4⟩
theorem unpackN {prog : Program} {w : World} {A : Around} {t : Addr} {items : Array Value} {n : Nat} {Q : List Value → Shared → Prop} (hh : A.handled = none) (ht : IsTup s.heap t items) (hn : n = items.size)
    (hQ : ∀ h', (∀ b o, s.heap.get? b = some o → h'.get? b = some o) → Q items.toList { s with heap := h' }) : wpAny (model prog w) A (unpackItems (.ref t) n none) Q E s := by
  subst hn
  exact unpackItems_tuple hh ht fun h' hx => hQ h' (extBut_keep hx)
theorem assign2 {x y : Str} {v1 v2 : Value} {Q : Unit → Shared → Prop} (S : Sc C sc) (H : Fs C (lk l) own B s) (k : ∀ s', Fs C (lk ((x, v1) :: (y, v2) :: l)) own B s' → Q () s')
    (hl1 : sc.names.lookup x = some .local) (hl2 : sc.names.lookup y = some .local) : wpAny (model C.prog C.w) C.A (assignInOrder [fun v => bindName C.env y v, fun v => bindName C.env x v] [v2, v1]) Q E s := by
  unfold assignInOrder
  refine wpAny_bind (wpAny_holding (bindName_ (st_store S H (fun s3 H3 => ?_) hl2)))
  unfold assignInOrder
  refine wpAny_bind (wpAny_holding (bindName_ (st_store S H3 (fun s4 H4 => ?_) hl1)))
  exact wpAny_pure (k s4 H4)
theorem st_swap2 {x y : Str} {px py tp vp pos : Pos} {k1 k2 : Nat} {es : List Expr} {d1 d2 : PyData} (S : Sc C sc) (hh : C.A.handled = none) (H : Fs C (lk l) own B s) (he : Ev C (lk l) own B (.Tuple es k2 vp) (Rd (.tuple [d1, d2])))
    (k : ∀ v1 v2 B' s', B.le B' → Fs C (lk ((x, v1) :: (y, v2) :: l)) own B' s' → Rp B' v1 d1 → Rp B' v2 d2 → Wx C rest Q E s')
    (hs : swapsWithSole [.Tuple [.Name x px, .Name y py] k1 tp] (.Tuple es k2 vp) pos.line C.env = pure false := by rfl)
    (hw : ∀ env : Env, env.scope = sc → swappedStores [.Tuple [.Name x px, .Name y py] k1 tp] (.Tuple es k2 vp) env = pure (some [x, y]) := by intro env h; cases env; cases h; rfl)
    (hl1 : sc.names.lookup x = some .local := by rfl) (hl2 : sc.names.lookup y = some .local := by rfl) :
    Wx C (.Assign [.Tuple [.Name x px, .Name y py] k1 tp] (.Tuple es k2 vp) pos :: rest) Q E s := by
  refine st_cons (Assign_Tuple_swapped (names := [x, y]) (he.out E B s .rfl H _ fun v B1 s1 hle1 H1 p1 => ?_) hs (hw _ S.scope))
  obtain ⟨a, vs, rfl, ht, hr⟩ := rp_tup p1 H1.bin
  cases hr with
  | cons r1 r2 =>
    cases r2 with
    | cons r2 r3 =>
      cases r3
      rename_i v1 v2
      refine unpackN hh ht rfl fun h' hx => ?_
      exact assign2 S (H1.keeps (tk := s1.toks) hx) (fun s4 H4 => ⟨rfl, k v1 v2 B1 s4 hle1 H4 r1 r2⟩) hl1 hl2
end
end Mine

end

section
open PySem PySem.W PyProof.Rows
set_option maxRecDepth 100000
namespace Mine

structure Wk (lt : Nat → Nat → Bool) : Prop where
  asym : ∀ i j, lt i j = true → lt j i = false
  nt : ∀ i j k, lt i j = true → lt i k = true ∨ lt k j = true

theorem Wk.irr {lt} (W : Wk lt) (i : Nat) : lt i i = false := by
  cases h : lt i i with
  | false => rfl
  | true => rw [W.asym i i h] at h; cases h

/-- the stable order: before -/
def Rr (lt : Nat → Nat → Bool) (a b : Nat) : Prop := (a < b ∧ lt b a = false) ∨ (b < a ∧ lt a b = true)

theorem Rr.nlt {lt} (W : Wk lt) {a b : Nat} (h : Rr lt a b) : lt b a = false := by
  rcases h with h | h
  · exact h.2
  · exact W.asym _ _ h.2

theorem map_swapIB {α β : Type} (f : α → β) (xs : Array α) (i j : Nat) : (xs.swapIfInBounds i j).map f = (xs.map f).swapIfInBounds i j := by
  apply Array.ext_getElem?
  intro k
  by_cases hi : i < xs.size
  · by_cases hj : j < xs.size
    · rw [Array.getElem?_map, getElem?_swapIB hi hj, getElem?_swapIB (by simpa using hi) (by simpa using hj)]
      repeat' split
      all_goals simp
    · rw [Array.swapIfInBounds_def, Array.swapIfInBounds_def]
      simp [hi, hj]
  · rw [Array.swapIfInBounds_def, Array.swapIfInBounds_def]
    simp [hi]

theorem map_mirror {α β : Type} (f : α → β) (xs : Array α) (i j d : Nat) : (mirror xs i j d).map f = mirror (xs.map f) i j d := by
  induction d with
  | zero => rfl
  | succ d ih => rw [mirror_succ, mirror_succ, map_swapIB, ih]
theorem map_bubble {α β : Type} (f : α → β) (xs : Array α) (i d : Nat) : (bubble xs i d).map f = bubble (xs.map f) i d := by
  induction d with
  | zero => rfl
  | succ d ih => rw [bubble_succ, bubble_succ, map_swapIB, ih]

def V (σ : Array Nat) (i : Nat) : Nat := σ.getD i 0
theorem V_some {σ : Array Nat} {i : Nat} (h : i < σ.size) : σ[i]? = some (V σ i) := by simp [V, Array.getD, h]
theorem V_of {σ : Array Nat} {i a : Nat} (h : σ[i]? = some a) : V σ i = a := by
  have hi : i < σ.size := by
    rcases Nat.lt_or_ge i σ.size with h' | h'
    · exact h'
    · rw [Array.getElem?_eq_none h'] at h; cases h
  rw [V_some hi] at h; exact Option.some.inj h

theorem V_bubble {σ : Array Nat} {src d : Nat} (hs : src < σ.size) (hd : d ≤ src) {k : Nat} (hk : k < σ.size) :
    V (bubble σ src d) k = if k = src - d then V σ src else if src - d < k ∧ k ≤ src then V σ (k - 1) else V σ k := by
  have e := getElem?_bubble hs d hd k
  apply V_of
  rw [e]
  repeat' split
  · exact V_some hs
  · exact V_some (by omega)
  · exact V_some hk
theorem V_mirror {σ : Array Nat} {i j : Nat} (hj : j ≤ σ.size) {k : Nat} (hk : k < σ.size) :
    V (mirror σ i j ((j - i) / 2)) k = if i ≤ k ∧ k < j then V σ (i + j - 1 - k) else V σ k := by
  have e := getElem?_mirror_all (i := i) hj k
  apply V_of
  rw [e]
  split
  · exact V_some (by omega)
  · exact V_some hk

structure SR (kind : SortKind) (f : Nat → Keyed) (N : Nat) (σ : Array Nat) (st : SortSt) : Prop where
  arr : arrOf st = σ.map f
  kind : kindOf st = kind
  failed : failedOf st = none
  pend : pendingOf st = #[]
  perm : σ.Perm (Array.range N)

theorem SR.size {kind f N σ st} (h : SR kind f N σ st) : σ.size = N := by rw [h.perm.size_eq]; simp
theorem SR.lt {kind f N σ st} (h : SR kind f N σ st) {i : Nat} (hi : i < N) : V σ i < N := by
  have hi' : i < σ.size := by rw [h.size]; exact hi
  have hm : V σ i ∈ (Array.range N).toList := (Array.perm_iff_toList_perm.mp h.perm).mem_iff.mp (by
    have := V_some hi'
    rw [← Array.getElem?_toList] at this
    exact List.mem_of_getElem? this)
  simpa using hm
theorem SR.mirror {kind f N σ st} (h : SR kind f N σ st) (i j d : Nat) : SR kind f N (mirror σ i j d) (setArr st (mirror (arrOf st) i j d)) :=
  ⟨by show PyProof.Rows.mirror (arrOf st) i j d = _; rw [h.arr, map_mirror], h.kind, h.failed, h.pend, (mirror_perm _ _ _ _).trans h.perm⟩
theorem SR.bubble {kind f N σ st} (h : SR kind f N σ st) (i d : Nat) : SR kind f N (bubble σ i d) (setArr st (bubble (arrOf st) i d)) :=
  ⟨by show PyProof.Rows.bubble (arrOf st) i d = _; rw [h.arr, map_bubble], h.kind, h.failed, h.pend, (bubble_perm _ _ _).trans h.perm⟩

/-- the first n places are sorted and hold the first n numbers, the others stand as they stood -/
structure Sd (lt : Nat → Nat → Bool) (N : Nat) (σ : Array Nat) (n : Nat) : Prop where
  low : ∀ i, i < n → V σ i < n
  up : ∀ i, n ≤ i → i < N → V σ i = i
  so : ∀ i j, i < j → j < n → Rr lt (V σ i) (V σ j)

section
variable {prog : Program} {w : World} {A : Around} {E : Value → Shared → Prop} {s : Shared} {kind : SortKind} {f : Nat → Keyed} {N : Nat} {lt : Nat → Nat → Bool}

/-- what a comparison of two of the keys gives -/
def Asks (prog : Program) (w : World) (A : Around) (s : Shared) (kind : SortKind) (f : Nat → Keyed) (N : Nat) (lt : Nat → Nat → Bool) : Prop :=
  ∀ i j, i < N → j < N → ∀ Q : Bool → Shared → Prop, Q (lt i j) s → wpAny (model prog w) A (keyLt' kind (f i).1 (f j).1) Q (fun _ _ => False) s

theorem wpS_lt {σ : Array Nat} {st : SortSt} {i j : Nat} {Q : Option Bool → SortSt → Prop} (hA : Asks prog w A s kind f N lt) (hS : SR kind f N σ st) (hi : i < N) (hj : j < N)
    (h : Q (some (lt (V σ i) (V σ j))) st) : wpS (model prog w) A E s (ltAt' i j) Q st := by
  rw [ltAt'_eq]
  refine wpS_bind (wpS_get ?_)
  show wpS _ _ _ _ (do let x ← elem' (arrOf st) i; let y ← elem' (arrOf st) j; lt' x y) Q st
  have ei : (arrOf st)[i]? = some (f (V σ i)) := by rw [hS.arr, Array.getElem?_map, V_some (by rw [hS.size]; exact hi)]; rfl
  have ej : (arrOf st)[j]? = some (f (V σ j)) := by rw [hS.arr, Array.getElem?_map, V_some (by rw [hS.size]; exact hj)]; rfl
  rw [elem'_eq, elem'_eq, ei, ej]
  refine wpS_bind (wpS_pure (wpS_bind (wpS_pure ?_)))
  rw [lt'_eq]
  refine wpS_bind (wpS_get ?_)
  rw [hS.kind]
  refine wpS_bind (wpS_lift (wpAny_attempt (wpAny_mono (hA _ _ (hS.lt hi) (hS.lt hj) (fun b s' => s' = s ∧ wpS (model prog w) A E s (match (Except.ok b : Except Value Bool) with
    | .ok b => pure (some b)
    | .error e => do modify (fun s => SortSt.mk' (kindOf s) (arrOf s) (pendingOf s) (gallopOf s) (some e)); return none) Q st) ⟨rfl, wpS_pure h⟩) (fun _ _ x => x) fun _ _ x => x.elim)))

theorem binarySort_ {σ : Array Nat} {st : SortSt} {ok : Nat} {Q : Bool → SortSt → Prop} (W : Wk lt) (hA : Asks prog w A s kind f N lt) (hok : ok ≤ N) (hS : SR kind f N σ st) (hs : Sd lt N σ ok) (h1 : 1 ≤ ok)
    (h : ∀ σ' st', SR kind f N σ' st' → Sd lt N σ' N → Q true st') : wpS (model prog w) A E s (binarySort' 0 N ok) Q st := by
  rw [binarySort'_eq]
  simp only [Nat.zero_add]
  refine wpS_bind (wpS_mono (wpS_forRange (I := fun k c st' => c = (none, ()) ∧ ∃ σ', SR kind f N σ' st' ∧ Sd lt N σ' (min k N))
    (Q := fun c st' => c = (none, ()) ∧ ∃ σ', SR kind f N σ' st' ∧ Sd lt N σ' N) ?step ?fin ?init) ?post)
  case post =>
    rintro c st' ⟨rfl, σ', hS', hs'⟩
    exact wpS_pure (h σ' st' hS' hs')
  case init => exact ⟨rfl, σ, hS, by rw [show min (max ok 1) N = ok by omega]; exact hs⟩
  case fin =>
    rintro c st' ⟨hc, σ', hS', hs'⟩
    refine ⟨hc, σ', hS', ?_⟩
    rwa [show min (max (max ok 1) N) N = N by omega] at hs'
  case step =>
    rintro k c st' hak hkn ⟨rfl, σ', hS', hs'⟩
    rw [show min k N = k by omega] at hs'
    have hVk : V σ' k = k := hs'.up k (Nat.le_refl _) hkn
    refine wpS_bind (wpS_mono (wpS_forRange (I := fun x c st'' => st'' = st' ∧ ∃ l r, c = (none, l, r) ∧ l ≤ r ∧ r ≤ k ∧ r - l ≤ k - x ∧
        (∀ i, i < l → lt k (V σ' i) = false) ∧ (∀ i, r ≤ i → i < k → lt k (V σ' i) = true))
      (Q := fun c st'' => st'' = st' ∧ ∃ l r, c = (none, l, r) ∧ l ≤ k ∧
        (∀ i, i < l → lt k (V σ' i) = false) ∧ (∀ i, l ≤ i → i < k → lt k (V σ' i) = true)) ?istep ?ifin ?iinit) ?ipost)
    case iinit => exact ⟨rfl, 0, k, rfl, by omega, by omega, by omega, fun i hi => by omega, fun i h1 h2 => by omega⟩
    case ifin =>
      rintro c st'' ⟨rfl, l, r, rfl, hlr, hrk, hm, hlo, hhi⟩
      have : l = r := by omega
      subst this
      exact ⟨rfl, l, l, rfl, hrk, hlo, hhi⟩
    case istep =>
      rintro x c st'' _ hxk ⟨rfl, l, r, rfl, hlr, hrk, hm, hlo, hhi⟩
      dsimp only
      by_cases hge : l ≥ r
      · rw [if_pos hge]
        have : l = r := by omega
        subst this
        exact wpS_pure ⟨rfl, l, l, rfl, hrk, hlo, hhi⟩
      · rw [if_neg hge]
        refine wpS_bind (wpS_lt hA hS' hkn (by omega) ?_)
        rw [hVk]
        cases hless : lt k (V σ' ((l + r) / 2)) with
        | true =>
          simp only [if_true]
          refine wpS_pure ⟨rfl, l, (l + r) / 2, rfl, by omega, by omega, by omega, hlo, fun i h1 h2 => ?_⟩
          by_cases hi : i = (l + r) / 2
          · rw [hi]; exact hless
          · rcases W.nt _ _ (V σ' i) hless with h' | h'
            · exact h'
            · rw [(hs'.so _ _ (show (l + r) / 2 < i by omega) h2).nlt W] at h'; cases h'
        | false =>
          simp only [Bool.false_eq_true, if_false]
          refine wpS_pure ⟨rfl, (l + r) / 2 + 1, r, rfl, by omega, by omega, by omega, fun i h1 => ?_, hhi⟩
          by_cases hi : i = (l + r) / 2
          · rw [hi]; exact hless
          · cases hc : lt k (V σ' i) with
            | false => rfl
            | true =>
              rcases W.nt _ _ (V σ' ((l + r) / 2)) hc with h' | h'
              · rw [hless] at h'; cases h'
              · rw [(hs'.so _ _ (show i < (l + r) / 2 by omega) (by omega)).nlt W] at h'; cases h'
    case ipost =>
      rintro c st'' ⟨rfl, l, r, rfl, hlk, hlo, hhi⟩
      show wpS _ _ _ _ (do moveDown' k l; pure (ForInStep.yield (none, ()))) _ _
      rw [moveDown'_eq]
      refine wpS_bind (wpS_modify (wpS_pure ⟨rfl, _, hS'.bubble k (k - l), ?_⟩))
      rw [show min (k + 1) N = k + 1 by omega]
      have hks : k < σ'.size := by rw [hS'.size]; exact hkn
      have hv : ∀ i, i < N → V (bubble σ' k (k - l)) i = if i = l then k else if l < i ∧ i ≤ k then V σ' (i - 1) else V σ' i := by
        intro i hi
        rw [V_bubble hks (by omega) (by rw [hS'.size]; exact hi), show k - (k - l) = l by omega, hVk]
      refine ⟨fun i hi => ?_, fun i h1 h2 => ?_, fun i j hij hj => ?_⟩
      · rw [hv i (by omega)]
        repeat' split
        · omega
        · have := hs'.low (i - 1) (by omega); omega
        · have := hs'.low i (by omega); omega
      · rw [hv i h2, if_neg (by omega), if_neg (by omega)]
        exact hs'.up i (by omega) h2
      · rw [hv i (by omega), hv j (by omega)]
        have below : ∀ p, p < k → lt k (V σ' p) = false → Rr lt (V σ' p) k := fun p hp h => .inl ⟨hs'.low p hp, h⟩
        have above : ∀ p, p < k → lt k (V σ' p) = true → Rr lt k (V σ' p) := fun p hp h => .inr ⟨hs'.low p hp, h⟩
        repeat' split
        all_goals first
          | (exfalso; omega)
          | exact above _ (by omega) (hhi _ (by omega) (by omega))
          | exact below _ (by omega) (hlo _ (by omega))
          | exact hs'.so _ _ (by omega) (by omega)
end
end Mine

end

section
open PySem PySem.W PyProof.Rows
set_option maxRecDepth 100000
namespace Mine

section
variable {prog : Program} {w : World} {A : Around} {E : Value → Shared → Prop} {s : Shared} {kind : SortKind} {f : Nat → Keyed} {N : Nat} {lt : Nat → Nat → Bool}

theorem asc_ {σ : Array Nat} {st : SortSt} {a : Nat} {Q : AscSt → SortSt → Prop} (W : Wk lt) (hA : Asks prog w A s kind f N lt) (ha : 1 ≤ a) (haN : a ≤ N) (hS : SR kind f N σ st) (hs : Sd lt N σ a)
    (h : ∀ n, a ≤ n → n ≤ N → Sd lt N σ n → (n = N ∨ lt n (V σ (n - 1)) = true) → Q (none, n) st) : wpS (model prog w) A E s (ascLoop a N) Q st := by
  unfold ascLoop
  refine wpS_forRange (I := fun x c st' => st' = st ∧ c = (none, x) ∧ Sd lt N σ x) ?step ?fin ⟨rfl, rfl, hs⟩
  case fin =>
    rintro c st' ⟨rfl, rfl, hs'⟩
    rw [show max a N = N by omega] at hs' ⊢
    exact h N haN (Nat.le_refl _) hs' (.inl rfl)
  case step =>
    rintro x c st' hax hxN ⟨rfl, rfl, hs'⟩
    dsimp only
    refine wpS_bind (wpS_lt hA hS hxN (by omega) ?_)
    have hVx : V σ x = x := hs'.up x (Nat.le_refl _) hxN
    rw [hVx]
    cases hless : lt x (V σ (x - 1)) with
    | true =>
      simp only [if_true]
      exact wpS_pure (h x hax (by omega) hs' (.inr hless))
    | false =>
      simp only [Bool.false_eq_true, if_false]
      refine wpS_pure ⟨rfl, rfl, fun i hi => ?_, fun i h1 h2 => hs'.up i (by omega) h2, fun i j hij hj => ?_⟩
      · by_cases hi' : i = x
        · rw [hi', hVx]; omega
        · have := hs'.low i (by omega); omega
      · by_cases hjx : j < x
        · exact hs'.so i j hij hjx
        · have hj' : j = x := by omega
          subst hj'
          rw [hVx]
          refine .inl ⟨hs'.low i (by omega), ?_⟩
          by_cases hi' : i = j - 1
          · rw [hi']; exact hless
          · cases hc : lt j (V σ i) with
            | false => rfl
            | true =>
              rcases W.nt _ _ (V σ (j - 1)) hc with h' | h'
              · rw [hless] at h'; cases h'
              · rw [(hs'.so i (j - 1) (by omega) (by omega)).nlt W] at h'; cases h'

/-- the first n places stand from behind -/
structure Sb (lt : Nat → Nat → Bool) (N : Nat) (σ : Array Nat) (n : Nat) : Prop where
  low : ∀ i, i < n → V σ i < n
  up : ∀ i, n ≤ i → i < N → V σ i = i
  so : ∀ i j, i < j → j < n → Rr lt (V σ j) (V σ i)

theorem tail_ {σ : Array Nat} {st : SortSt} {n : Nat} {Q : Option Nat → SortSt → Prop} (W : Wk lt) (hA : Asks prog w A s kind f N lt) (h1 : 1 ≤ n) (hnN : n ≤ N) (hS : SR kind f N σ st) (hb : Sb lt N σ n)
    (h : ∀ m σ' st', SR kind f N σ' st' → 1 ≤ m → m ≤ N → Sd lt N σ' m → Q (some m) st') : wpS (model prog w) A E s (tail3 n N) Q st := by
  unfold tail3
  refine wpS_bind (wpS_reverse ?_)
  have hS' := hS.mirror 0 n ((n - 0) / 2)
  have hsz : n ≤ σ.size := by rw [hS.size]; exact hnN
  have hv : ∀ i, i < N → V (mirror σ 0 n ((n - 0) / 2)) i = if i < n then V σ (n - 1 - i) else V σ i := by
    intro i hi
    rw [V_mirror hsz (by rw [hS.size]; exact hi)]
    by_cases h' : i < n
    · rw [if_pos ⟨Nat.zero_le _, h'⟩, if_pos h', Nat.zero_add]
    · rw [if_neg (by omega), if_neg h']
  refine wpS_bind (asc_ W hA h1 hnN hS' ⟨fun i hi => ?_, fun i hi1 hi2 => ?_, fun i j hij hj => ?_⟩ fun m hm1 hm2 hsm _ => wpS_pure (h m _ _ hS' (by omega) hm2 hsm))
  · rw [hv i (by omega), if_pos hi]; exact hb.low _ (by omega)
  · rw [hv i hi2, if_neg (by omega)]; exact hb.up i hi1 hi2
  · rw [hv i (by omega), hv j (by omega), if_pos (by omega), if_pos hj]
    exact hb.so _ _ (by omega) (by omega)

/-- the places below g stand from behind, those from g to n are alike and stand as they stood -/
structure Sg (lt : Nat → Nat → Bool) (N : Nat) (σ : Array Nat) (g n : Nat) : Prop where
  le : g < n
  low : ∀ i, i < g → V σ i < g
  up : ∀ i, g ≤ i → i < N → V σ i = i
  so : ∀ i j, i < j → j < g → Rr lt (V σ j) (V σ i)
  less : ∀ i, i < g → lt g (V σ i) = true
  same : ∀ i j, g ≤ i → i < n → g ≤ j → j < n → lt i j = false

theorem Wk.sub {lt} (W : Wk lt) {a b c : Nat} (h : lt a b = true) (e : lt a c = false) : lt c b = true := by
  rcases W.nt _ _ c h with h' | h'
  · rw [e] at h'; cases h'
  · exact h'
theorem Wk.trans {lt} (W : Wk lt) {a b c : Nat} (h : lt a b = true) (k : lt b c = true) : lt a c = true := by
  rcases W.nt _ _ c h with h' | h'
  · exact h'
  · rw [W.asym _ _ k] at h'; cases h'

theorem Sg.turn {σ : Array Nat} {g n : Nat} (W : Wk lt) (hN : n ≤ N) (hsz : σ.size = N) (h : Sg lt N σ g n) : Sb lt N (mirror σ g n ((n - g) / 2)) n := by
  have hv : ∀ i, i < N → V (mirror σ g n ((n - g) / 2)) i = if g ≤ i ∧ i < n then g + n - 1 - i else V σ i := by
    intro i hi
    rw [V_mirror (by omega) (by omega)]
    by_cases h' : g ≤ i ∧ i < n
    · rw [if_pos h', if_pos h']; exact h.up _ (by omega) (by omega)
    · rw [if_neg h', if_neg h']
  have hle := h.le
  refine ⟨fun i hi => ?_, fun i h1 h2 => ?_, fun i j hij hj => ?_⟩
  · rw [hv i (by omega)]
    split
    · omega
    · have := h.low i (by omega); omega
  · rw [hv i h2, if_neg (by omega)]; exact h.up i (by omega) h2
  · rw [hv i (by omega), hv j (by omega)]
    by_cases hjg : j < g
    · rw [if_neg (by omega), if_neg (by omega)]; exact h.so i j hij hjg
    · rw [if_pos (by omega)]
      by_cases hig : i < g
      · rw [if_neg (by omega)]
        refine .inr ⟨by have := h.low i hig; omega, ?_⟩
        exact W.sub (h.less i hig) (h.same _ _ (by omega) (by omega) (by omega) (by omega))
      · rw [if_pos (by omega)]
        exact .inl ⟨by omega, h.same _ _ (by omega) (by omega) (by omega) (by omega)⟩

theorem Sg.one {σ : Array Nat} {n : Nat} (h : Sg lt N σ n (n + 1)) (hn : n < N) : Sb lt N σ (n + 1) := by
  have hVn : V σ n = n := h.up n (Nat.le_refl _) hn
  refine ⟨fun i hi => ?_, fun i h1 h2 => h.up i (by omega) h2, fun i j hij hj => ?_⟩
  · by_cases hi' : i = n
    · rw [hi', hVn]; omega
    · have := h.low i (by omega); omega
  · by_cases hj' : j = n
    · rw [hj', hVn]
      exact .inr ⟨h.low i (by omega), h.less i (by omega)⟩
    · exact h.so i j hij (by omega)

/-- a smaller one behind -/
theorem Sb.next {σ : Array Nat} {n : Nat} (W : Wk lt) (h : Sb lt N σ n) (hl : ∀ i, i < n → lt n (V σ i) = true) : Sg lt N σ n (n + 1) :=
  ⟨by omega, h.low, h.up, h.so, hl, fun i j h1 h2 h3 h4 => by
    obtain rfl : i = j := by omega
    exact W.irr i⟩

theorem desc_ {σ : Array Nat} {st : SortSt} {n : Nat} {Q : DescSt → SortSt → Prop} (W : Wk lt) (hA : Asks prog w A s kind f N lt) (hnN : n + 1 ≤ N) (hS : SR kind f N σ st) (hg : Sg lt N σ n (n + 1))
    (h : ∀ m neq σ' st', SR kind f N σ' st' → m ≤ N → neq + 1 ≤ m → Sg lt N σ' (m - (neq + 1)) m → Q (none, m, neq) st') : wpS (model prog w) A E s (descLoop (n + 1) N) Q st := by
  unfold descLoop
  refine wpS_forRange (I := fun x c st' => ∃ neq σ', c = (none, x, neq) ∧ SR kind f N σ' st' ∧ neq + 1 ≤ x ∧ Sg lt N σ' (x - (neq + 1)) x) ?step ?fin ⟨0, σ, rfl, hS, by omega, by simpa using hg⟩
  case fin =>
    rintro c st' ⟨neq, σ', rfl, hS', hq, hg'⟩
    rw [show max (n + 1) N = N by omega] at hq hg' ⊢
    exact h N neq σ' st' hS' (Nat.le_refl _) hq hg'
  case step =>
    rintro x c st' hax hxN ⟨neq, σ', rfl, hS', hq, hg'⟩
    dsimp only
    have hVx : V σ' x = x := hg'.up x (by omega) hxN
    have hVx1 : V σ' (x - 1) = x - 1 := hg'.up (x - 1) (by omega) (by omega)
    refine wpS_bind (wpS_lt hA hS' hxN (by omega) ?_)
    rw [hVx, hVx1]
    cases hless : lt x (x - 1) with
    | true =>
      simp only [if_true]
      have grp : ∀ y, x - (neq + 1) ≤ y → y < x → lt x y = true := fun y h1 h2 => by
        rcases W.nt _ _ y hless with h' | h'
        · exact h'
        · rw [hg'.same _ _ h1 h2 (by omega) (by omega)] at h'; cases h'
      have bef : ∀ i, i < x - (neq + 1) → lt x (V σ' i) = true := fun i hi => W.trans (grp _ (Nat.le_refl _) (by omega)) (hg'.less i hi)
      by_cases hneq : neq > 0
      · rw [if_pos hneq]
        refine wpS_bind (wpS_reverse (wpS_pure ⟨0, _, rfl, hS'.mirror _ _ _, by omega, ?_⟩))
        have hsb := hg'.turn W (by omega) hS'.size
        refine Sb.next W hsb fun i hi => ?_
        rw [V_mirror (by rw [hS'.size]; omega) (by rw [hS'.size]; omega)]
        split
        · rw [hg'.up _ (by omega) (by omega)]; exact grp _ (by omega) (by omega)
        · exact bef i (by omega)
      · rw [if_neg hneq]
        have h0 : neq = 0 := by omega
        subst h0
        refine wpS_pure ⟨0, σ', rfl, hS', by omega, ?_⟩
        obtain ⟨y, rfl⟩ : ∃ y, x = y + 1 := ⟨x - 1, by omega⟩
        have hsb := Sg.one (n := y) (by simpa using hg') (by omega)
        refine Sb.next W hsb fun i hi => ?_
        by_cases hi' : i < y
        · exact bef i (by omega)
        · obtain rfl : i = y := by omega
          rw [hg'.up i (by omega) (by omega)]; exact hless
    | false =>
      simp only [Bool.false_eq_true, if_false]
      refine wpS_bind (wpS_lt hA hS' (by omega) hxN ?_)
      rw [hVx, hVx1]
      cases hlarger : lt (x - 1) x with
      | true =>
        simp only [if_true]
        exact wpS_pure (h x neq σ' st' hS' (by omega) hq hg')
      | false =>
        simp only [Bool.false_eq_true, if_false]
        refine wpS_pure ⟨neq + 1, σ', rfl, hS', by omega, ?_⟩
        rw [show x + 1 - (neq + 1 + 1) = x - (neq + 1) by omega]
        refine ⟨by omega, hg'.low, hg'.up, hg'.so, hg'.less, fun i j h1 h2 h3 h4 => ?_⟩
        cases hc : lt i j with
        | false => rfl
        | true =>
          exfalso
          by_cases hi : i = x
          · subst hi
            by_cases hj : j = i
            · subst hj; rw [W.irr] at hc; cases hc
            · rcases W.nt _ _ (i - 1) hc with h' | h'
              · rw [hless] at h'; cases h'
              · rw [hg'.same _ _ (by omega) (by omega) (by omega) (by omega)] at h'; cases h'
          · by_cases hj : j = x
            · subst hj
              rcases W.nt _ _ (j - 1) hc with h' | h'
              · rw [hg'.same _ _ (by omega) (by omega) (by omega) (by omega)] at h'; cases h'
              · rw [hlarger] at h'; cases h'
            · rw [hg'.same _ _ (by omega) (by omega) (by omega) (by omega)] at hc; cases hc

theorem descPart_ {σ : Array Nat} {st : SortSt} {n : Nat} {Q : Option Nat → SortSt → Prop} (W : Wk lt) (hA : Asks prog w A s kind f N lt) (hnN : n + 1 ≤ N) (hS : SR kind f N σ st) (hg : Sg lt N σ n (n + 1))
    (h : ∀ m σ' st', SR kind f N σ' st' → 1 ≤ m → m ≤ N → Sd lt N σ' m → Q (some m) st') : wpS (model prog w) A E s (descPart n N) Q st := by
  unfold descPart
  refine wpS_bind (wpS_lift (wpAny_rule ⟨rfl, ?_⟩))
  refine wpS_bind (desc_ W hA hnN hS hg fun m neq σ' st' hS' hm hq hg' => ?_)
  dsimp only
  by_cases hneq : neq > 0
  · rw [if_pos hneq]
    exact wpS_bind (wpS_reverse (tail_ W hA (by omega) hm (hS'.mirror _ _ _) (hg'.turn W hm hS'.size) h))
  · rw [if_neg hneq]
    have h0 : neq = 0 := by omega
    subst h0
    obtain ⟨y, rfl⟩ : ∃ y, m = y + 1 := ⟨m - 1, by omega⟩
    exact tail_ W hA (by omega) hm hS' (Sg.one (n := y) (by simpa using hg') (by omega)) h

theorem countRun_ {σ : Array Nat} {st : SortSt} {Q : Option Nat → SortSt → Prop} (W : Wk lt) (hA : Asks prog w A s kind f N lt) (h1 : 1 ≤ N) (hS : SR kind f N σ st) (hid : ∀ i, i < N → V σ i = i)
    (h : ∀ m σ' st', SR kind f N σ' st' → 1 ≤ m → m ≤ N → Sd lt N σ' m → Q (some m) st') : wpS (model prog w) A E s (countRun' 0 N) Q st := by
  rw [countRun0_eq]
  have hs1 : Sd lt N σ 1 := ⟨fun i hi => by rw [hid i (by omega)]; exact hi, fun i _ h2 => hid i h2, fun i j h1 h2 => by omega⟩
  refine wpS_bind (asc_ W hA (Nat.le_refl 1) h1 hS hs1 fun n hn1 hnN hsn hend => ?_)
  dsimp only
  by_cases hn : n = N
  · rw [if_pos (by simpa using hn)]
    exact wpS_pure (h n σ st hS (by omega) hnN hsn)
  · rw [if_neg (by simpa using hn)]
    have hlast : lt n (n - 1) = true := by
      rcases hend with h' | h'
      · exact absurd h' hn
      · rwa [hid _ (by omega)] at h'
    by_cases hn2 : n > 1
    · rw [if_pos hn2]
      refine wpS_bind (wpS_lt hA hS (by omega) (by omega) ?_)
      rw [hid 0 (by omega), hid (n - 1) (by omega)]
      cases hrose : lt 0 (n - 1) with
      | true =>
        simp only [if_true]
        exact wpS_pure (h n σ st hS (by omega) hnN hsn)
      | false =>
        simp only [Bool.false_eq_true, if_false]
        have up : ∀ i j, i < j → j < n → lt j i = false := fun i j hij hj => by
          have := (hsn.so i j hij hj).nlt W
          rwa [hid i (by omega), hid j (by omega)] at this
        have same : ∀ i j, i < n → j < n → lt i j = false := fun i j hi hj => by
          rcases Nat.lt_trichotomy i j with h' | h' | h'
          · cases hc : lt i j with
            | false => rfl
            | true =>
              exfalso
              have h2 : lt i (n - 1) = true := by
                by_cases hj' : j = n - 1
                · rw [← hj']; exact hc
                · rcases W.nt _ _ (n - 1) hc with h3 | h3
                  · exact h3
                  · rw [up j (n - 1) (by omega) (by omega)] at h3; cases h3
              by_cases hi0 : i = 0
              · rw [hi0, hrose] at h2; cases h2
              · rcases W.nt _ _ 0 h2 with h3 | h3
                · rw [up 0 i (by omega) hi] at h3; cases h3
                · rw [hrose] at h3; cases h3
          · rw [h']; exact W.irr j
          · exact up j i h' hi
        refine wpS_bind (wpS_reverse ?_)
        have hv : ∀ i, i < N → V (mirror σ 0 n ((n - 0) / 2)) i = if i < n then n - 1 - i else i := by
          intro i hi
          rw [V_mirror (by rw [hS.size]; exact hnN) (by rw [hS.size]; exact hi)]
          by_cases h' : i < n
          · rw [if_pos ⟨Nat.zero_le _, h'⟩, if_pos h', Nat.zero_add, hid _ (by omega)]
          · rw [if_neg (by omega), if_neg h', hid i hi]
        refine descPart_ W hA (by omega) (hS.mirror 0 n _) (Sb.next W ⟨fun i hi => ?_, fun i h1 h2 => ?_, fun i j hij hj => ?_⟩ fun i hi => ?_) h
        · rw [hv i (by omega), if_pos hi]; omega
        · rw [hv i h2, if_neg (by omega)]
        · rw [hv i (by omega), hv j (by omega), if_pos hj, if_pos (show i < n by omega)]
          exact .inl ⟨by omega, same _ _ (by omega) (by omega)⟩
        · rw [hv i (by omega), if_pos hi]
          rcases W.nt _ _ (n - 1 - i) hlast with h' | h'
          · exact h'
          · rw [same _ _ (by omega) (by omega)] at h'; cases h'
    · rw [if_neg hn2]
      obtain rfl : n = 1 := by omega
      refine descPart_ W hA (by omega) hS (Sb.next W ⟨fun i hi => by rw [hid i (by omega)]; exact hi, fun i _ h2 => hid i h2, fun i j h1 h2 => by omega⟩ fun i hi => ?_) h
      obtain rfl : i = 0 := by omega
      rw [hid 0 (by omega)]; exact hlast

def SDn (f : Nat → Keyed) (N : Nat) (lt : Nat → Nat → Bool) (st : SortSt) : Prop :=
  failedOf st = none ∧ pendingOf st = #[(0, N, 0)] ∧ ∃ σ, arrOf st = Array.map f σ ∧ Array.Perm σ (Array.range N) ∧ Sd lt N σ N

theorem SR.done {σ : Array Nat} {st : SortSt} (hS : SR kind f N σ st) (hs : Sd lt N σ N) : SDn f N lt (setPending st ((pendingOf st).push (0, N, 0))) :=
  ⟨hS.failed, by show (pendingOf st).push _ = _; rw [hS.pend]; rfl, σ, hS.arr, hS.perm, hs⟩

theorem sortRuns_ {σ : Array Nat} {st : SortSt} {Q : Unit → SortSt → Prop} (W : Wk lt) (hA : Asks prog w A s kind f N lt) (hS : SR kind f N σ st) (hid : ∀ i, i < N → V σ i = i) (h2 : 2 ≤ N) (h64 : N < 64)
    (h : ∀ st', failedOf st' = none → (∃ σ, arrOf st' = Array.map f σ ∧ Array.Perm σ (Array.range N) ∧ Sd lt N σ N) → Q () st') : wpS (model prog w) A E s sortRuns' Q st := by
  rw [sortRuns'_eq]
  refine wpS_bind (wpS_get ?_)
  dsimp only
  have hmr : minRun' N N 0 = N := by
    obtain ⟨k, hk⟩ : ∃ k, N = k + 1 := ⟨N - 1, by omega⟩
    have : minRun' (k + 1) N 0 = N := by rw [minRun'_succ, if_pos h64]; rfl
    rwa [← hk] at this
  have hsz : (arrOf st).size = N := by rw [hS.arr]; simp [hS.size]
  simp only [hsz, hmr]
  refine wpS_bind (wpS_mono (wpS_forRange
    (I := fun x c st' => (x = 0 ∧ c = (none, 0) ∧ st' = st) ∨ (1 ≤ x ∧ c = (none, N) ∧ SDn f N lt st'))
    (Q := fun c st' => c = (none, N) ∧ SDn f N lt st') ?step ?fin (.inl ⟨rfl, rfl, rfl⟩)) ?post)
  case fin =>
    rintro c st' (⟨hx, _, _⟩ | ⟨_, hc, hD⟩)
    · omega
    · exact ⟨hc, hD⟩
  case step =>
    rintro x c st' _ hx (⟨rfl, rfl, rfl⟩ | ⟨hx1, rfl, hD⟩)
    · dsimp only
      rw [if_neg (by omega)]
      simp only [Nat.sub_zero, Nat.min_self, Nat.zero_add]
      refine wpS_bind (countRun_ W hA (by omega) hS hid fun m σ2 st2 hS2 hm1 hm2 hs2 => ?_)
      dsimp only
      by_cases hlt : m < N
      · rw [if_pos hlt]
        refine wpS_bind (wpS_lift (wpAny_rule ⟨rfl, ?_⟩))
        refine wpS_bind (binarySort_ W hA hm2 hS2 hs2 hm1 fun σ3 st3 hS3 hs3 => ?_)
        simp only [Bool.not_true, Bool.false_eq_true, if_false]
        refine wpS_bind (wpS_get ?_)
        have hb : (pendingOf st3).back? = none := by rw [hS3.pend]; rfl
        rw [hb]
        dsimp only
        exact wpS_bind (wpS_modify (wpS_pure (.inr ⟨by omega, rfl, hS3.done hs3⟩)))
      · rw [if_neg hlt]
        have hm : m = N := by omega
        subst hm
        refine wpS_bind (wpS_get ?_)
        have hb : (pendingOf st2).back? = none := by rw [hS2.pend]; rfl
        rw [hb]
        dsimp only
        exact wpS_bind (wpS_modify (wpS_pure (.inr ⟨by omega, rfl, hS2.done hs2⟩)))
    · dsimp only
      rw [if_pos (Nat.le_refl _)]
      exact wpS_pure ⟨rfl, hD⟩
  case post =>
    rintro c st' ⟨rfl, hD⟩
    dsimp only
    refine wpS_bind (wpS_mono (wpS_forRange (I := fun _ c st'' => st'' = st' ∧ c = (none, ())) (Q := fun c st'' => st'' = st' ∧ c = (none, ())) ?_ (fun _ _ hh => hh) ⟨rfl, rfl⟩) ?_)
    · rintro x c st'' _ _ ⟨rfl, rfl⟩
      refine wpS_bind (wpS_get ?_)
      rw [if_pos (by rw [hD.2.1]; exact Nat.le_refl 1)]
      exact wpS_pure ⟨rfl, rfl⟩
    · rintro c st'' ⟨rfl, rfl⟩
      exact wpS_pure (h _ hD.1 hD.2.2)
end
end Mine

end

section
open PySem PySem.W PyProof.Rows PySem.SeqAt
open AutoSeq1 (wpAny_loadPart')
open MeetsSeq MeetsSeq2 MeetsSeq3 SeqRoads2
set_option maxRecDepth 100000
set_option linter.all false
namespace Mine

def LtAt (A : Around) (s : Shared) (y x : Value) (b : Bool) : Prop :=
  ∀ (prog : Program) (w : World) (E : Value → Shared → Prop) (Q : Value → Shared → Prop), Q (.bool b) s → wpAny (model prog w) A (richCompare .Lt y x) Q E s

/-- the first pair that differs decides -/
inductive Lexi (A : Around) (s : Shared) (xs ys : Array Value) : Nat → Bool → Prop
  | stop {i : Nat} : (xs[i]? = none ∨ ys[i]? = none) → Lexi A s xs ys i (decide (xs.size < ys.size))
  | same {i : Nat} {x y : Value} {b : Bool} : xs[i]? = some x → ys[i]? = some y → EqAt A s x y true → Lexi A s xs ys (i + 1) b → Lexi A s xs ys i b
  | diff {i : Nat} {x y : Value} {b : Bool} : xs[i]? = some x → ys[i]? = some y → EqAt A s x y false → LtAt A s x y b → Lexi A s xs ys i b

theorem lt_loop (l r : Addr) (xs ys : Array Value) (n n2 : Nat) (dd dd2 : Option Addr) (sl sl2 : Array (Option Value)) (b : Bool) (i : Nat) (A : Around) (s : Shared)
    (hl : s.heap.get? l = some { cls := .type "list", dict := dd, data := .seq xs n, slots := sl }) (hr : s.heap.get? r = some { cls := .type "list", dict := dd2, data := .seq ys n2, slots := sl2 })
    (hx : Lexi A.in1 s xs ys i b) : ∀ (prog : Program) (w : World) (R : Result → Shared → Prop), R (.ok (.ret (.bool b))) s →
      wpAny (model prog w) A.in1 (Builtin.«list.__eq__.loop» ⟨[.ref l, .ref r, rawInt i, rawInt 0], []⟩) (fun fin s' => match fin with | .done f => R (.ok f) s' | .again c' => c'.quiet = true ∧ codeAny (model prog w) A c' R s') (fun e s' => R (.error e) s') s := by
  induction hx with
  | @stop i h =>
    intro prog w R hR
    obtain ⟨hp, g, d, tk, os⟩ := s
    rcases h with h | h
    · have hi1 : xs[((i : Nat) : Int).toNat]? = none := by simpa using h
      wp_walk using wpAny_loadPart' hl, wpAny_loadPart' hr
      rw [hi1]
      cases hy : ys[((i : Nat) : Int).toNat]? <;> (wp_walk using wpAny_loadPart' hl, wpAny_loadPart' hr) <;> exact hR
    · have hi1 : ys[((i : Nat) : Int).toNat]? = none := by simpa using h
      wp_walk using wpAny_loadPart' hl, wpAny_loadPart' hr
      rw [hi1]
      cases hy : xs[((i : Nat) : Int).toNat]? <;> (wp_walk using wpAny_loadPart' hl, wpAny_loadPart' hr) <;> exact hR
  | @same i x y b h1 h2 he hx ih =>
    intro prog w R hR
    have hi1 : xs[((i : Nat) : Int).toNat]? = some x := by simpa using h1
    have hi2 : ys[((i : Nat) : Int).toNat]? = some y := by simpa using h2
    have hc : ((i : Int) + 1) = ((i + 1 : Nat) : Int) := by push_cast; rfl
    obtain ⟨hp, g, d, tk, os⟩ := s
    wp_walk using wpAny_loadPart' hl, wpAny_loadPart' hr
    rw [hi1, hi2]
    refine wpAny_bind (he prog w _ _ ?_)
    wp_walk
    rw [hc]
    exact ⟨plainId_quiet plain_eq_loop _, codeAny_builtin entry_eq_loop (by
        rw [Around.under_plainId plain_eq_loop _]
        exact ih prog w R hR)⟩
  | @diff i x y b h1 h2 he hlt =>
    intro prog w R hR
    have hi1 : xs[((i : Nat) : Int).toNat]? = some x := by simpa using h1
    have hi2 : ys[((i : Nat) : Int).toNat]? = some y := by simpa using h2
    obtain ⟨hp, g, d, tk, os⟩ := s
    wp_walk using wpAny_loadPart' hl, wpAny_loadPart' hr
    rw [hi1, hi2]
    refine wpAny_bind (he prog w _ _ ?_)
    wp_walk using wpAny_loadPart' hl, wpAny_loadPart' hr
    rw [hi1, hi2]
    refine wpAny_bind (hlt prog w _ _ ?_)
    wp_walk
    exact hR

theorem list_lt (l r : Addr) (xs ys : Array Value) (n n2 : Nat) (dd dd2 : Option Addr) (sl sl2 : Array (Option Value)) (b : Bool) :
    Meets (Builtin.«list.__lt__» ⟨[.ref l, .ref r], []⟩)
      (fun A R s => s.heap.get? l = some { cls := .type "list", dict := dd, data := .seq xs n, slots := sl } ∧ s.heap.get? r = some { cls := .type "list", dict := dd2, data := .seq ys n2, slots := sl2 } ∧
        Lexi A.in1 s xs ys 0 b ∧ R (.ok (.ret (.bool b))) s) := by
  intro prog w A R s h
  obtain ⟨hl, hr, hx, h⟩ := h
  have key := lt_loop l r xs ys n n2 dd dd2 sl sl2 b 0 A s hl hr hx prog w R h
  obtain ⟨hp, g, d, tk, os⟩ := s
  have f3 := AutoSeq1.sub_list_list
  wp_walk using wpAny_loadPart' hl, wpAny_loadPart' hr
  exact ⟨plainId_quiet plain_eq_loop _, codeAny_builtin entry_eq_loop (by
    rw [Around.under_plainId plain_eq_loop _]
    exact key)⟩

theorem tuple_lt (l r : Addr) (xs ys : Array Value) (n n2 : Nat) (dd dd2 : Option Addr) (sl sl2 : Array (Option Value)) (b : Bool) :
    Meets (Builtin.«tuple.__lt__» ⟨[.ref l, .ref r], []⟩)
      (fun A R s => s.heap.get? l = some { cls := .type "tuple", dict := dd, data := .seq xs n, slots := sl } ∧ s.heap.get? r = some { cls := .type "tuple", dict := dd2, data := .seq ys n2, slots := sl2 } ∧
        Lexi A.in1 s xs ys 0 b ∧ R (.ok (.ret (.bool b))) s) :=
  .of_wp fun prog w A R s h => by
    obtain ⟨hp, g, d, tk, os⟩ := s; obtain ⟨hl, hb, hx, h⟩ := h
    have f2 := AutoSeq1.sub_tuple_tuple
    wp_walk using wpAny_loadPart' hl, wpAny_loadPart' hb, wpAny_forIn_list _ (fun rest bb s' => bb.1 = none ∧ s' = ⟨hp, g, d, tk, os⟩ ∧ ∃ i, rest = (xs.toList.zip ys.toList).drop i ∧ Lexi A.in1 ⟨hp, g, d, tk, os⟩ xs ys i b) _
    case turn =>
      rintro ⟨y, x⟩ rest bb s' ⟨hb', rfl, i, hz, hX⟩
      have h0 : (xs.toList.zip ys.toList)[i]? = some (y, x) := by
        rw [← List.head?_drop, ← hz]; rfl
      have hrest : rest = (xs.toList.zip ys.toList).drop (i + 1) := by
        rw [← List.tail_drop, ← hz]; rfl
      rw [List.getElem?_zip_eq_some] at h0
      obtain ⟨g1, g2⟩ := h0
      simp only [Array.getElem?_toList] at g1 g2
      cases hX with
      | stop h' => rcases h' with h' | h' <;> simp_all
      | same h1 h2 he hX =>
        rw [g1] at h1; rw [g2] at h2; cases h1; cases h2
        refine wpAny_bind (he prog w _ _ ?_)
        wp_walk
        exact ⟨rfl, rfl, i + 1, hrest, hX⟩
      | diff h1 h2 he hlt =>
        rw [g1] at h1; rw [g2] at h2; cases h1; cases h2
        refine wpAny_bind (he prog w _ _ ?_)
        rw [if_pos (by rfl)]
        refine wpAny_bind (wpAny_rule ?_)
        refine wpAny_bind (hlt prog w _ _ ?_)
        wp_walk
        exact ⟨_, rfl, h⟩
    case fin =>
      rintro ⟨b1, b2⟩ s' ⟨hb', rfl, i, hz, hX⟩
      simp only at hb'
      subst hb'
      have hge : (xs.toList.zip ys.toList).length ≤ i := by
        rcases Nat.lt_or_ge i (xs.toList.zip ys.toList).length with h' | h'
        · rw [List.drop_eq_getElem_cons h'] at hz; cases hz
        · exact h'
      have hm : xs.size ≤ i ∨ ys.size ≤ i := by
        simp at hge; omega
      cases hX with
      | stop h' =>
        wp_walk
        exact ⟨_, rfl, by simpa [Builtin.Tuple.tupleCompareSizes] using h⟩
      | same h1 h2 he hX => rcases hm with q | q <;> simp_all
      | diff h1 h2 he hlt => rcases hm with q | q <;> simp_all
    case h =>
      exact ⟨rfl, rfl, 0, rfl, hx⟩
end Mine

end

section
open PySem PySem.W PyProof.Rows PySem.SeqAt
set_option maxRecDepth 100000
set_option linter.all false
namespace Mine

mutual
def plt : PyData → PyData → Bool
  | .int a, .int b => decide (a < b)
  | .str a, .str b => decide (a.cps.toList < b.cps.toList)
  | .list xs, .list ys => pltL xs ys
  | .tuple xs, .tuple ys => pltL xs ys
  | _, _ => false
def pltL : List PyData → List PyData → Bool
  | [], [] => false
  | [], _ :: _ => true
  | _ :: _, [] => false
  | x :: xs, y :: ys => if PyData.eqv x y = true then pltL xs ys else plt x y
end
-- the first pair that differs is of one kind
mutual
def pok : PyData → PyData → Bool
  | .int _, .int _ => true
  | .str _, .str _ => true
  | .list xs, .list ys => pokL xs ys
  | .tuple xs, .tuple ys => pokL xs ys
  | _, _ => false
def pokL : List PyData → List PyData → Bool
  | [], _ => true
  | _ :: _, [] => true
  | x :: xs, y :: ys => if PyData.eqv x y = true then pokL xs ys else pok x y
end

theorem eq_rp {B : Fz} {s : Shared} (hb : B.In s.heap) {A : Around} {v v' : Value} {d d' : PyData} (h : Rp B v d) (h' : Rp B v' d') (hc : d.canLay0 = true) (hc' : d'.canLay0 = true) (hu : A.units + d.depth + d'.depth < cLine) : EqAt A s v v' (PyData.eqv d d') := by
  obtain ⟨as, r⟩ := h.reads hb
  obtain ⟨bs, r'⟩ := h'.reads hb
  exact eqAt_reads d d' A s v v' as bs r r' hc hc' (by omega)

theorem depth_list (xs : List PyData) : (PyData.list xs).depth = PyData.depthAll xs + 1 := by first | rfl | simp [PyData.depth]
theorem depth_tuple (xs : List PyData) : (PyData.tuple xs).depth = PyData.depthAll xs + 1 := by first | rfl | simp [PyData.depth]
theorem depth_cons (x : PyData) (xs : List PyData) : PyData.depthAll (x :: xs) = max x.depth (PyData.depthAll xs) := by first | rfl | simp [PyData.depthAll]

mutual
theorem lt_rp {B : Fz} {s : Shared} (hb : B.In s.heap) : ∀ {v d}, Rp B v d → ∀ {v' d'}, Rp B v' d' → ∀ (A : Around), pok d d' = true → d.canLay0 = true → d'.canLay0 = true → A.units + d.depth + d'.depth < cLine → LtAt A s v v' (plt d d')
  | _, _, .none, _, _, h', A, hp, _, _, _ => by cases h' <;> simp [pok] at hp
  | _, _, .bool b, _, _, h', A, hp, _, _, _ => by cases h' <;> simp [pok] at hp
  | _, _, .int i t, _, _, h', A, hp, _, _, _ => by
    cases h' with
    | int j u => intro prog w E Q hq; exact PyProof.Rows.lt_int hq
    | _ => simp [pok] at hp
  | _, _, .str x t, _, _, h', A, hp, _, _, _ => by
    cases h' with
    | str y u => intro prog w E Q hq; exact PyProof.Rows.lt_str hq
    | _ => simp [pok] at hp
  | _, _, @Rp.list _ a o vs n ds h1 h2 h3 h4, _, _, h', A, hp, hc, hc', hu => by
    cases h' with
    | @list a' o' vs' n' ds' k1 k2 k3 k4 =>
      have hx := lexi_rp hb h4 k4 A.in1 (by simpa [pok] using hp) hc hc' (by rw [depth_list, depth_list] at hu; show A.units + 1 + _ + _ < _; omega) [] [] rfl
      obtain ⟨cls, dd, data, sl⟩ := o
      obtain ⟨cls2, dd2, data2, sl2⟩ := o'
      simp only at h2 h3 k2 k3
      subst h2 h3 k2 k3
      intro prog w E Q hq
      have e1 := hb _ _ h1
      have e2 := hb _ _ k1
      have e : plt (.list ds) (.list ds') = pltL ds ds' := by simp [plt]
      rw [e] at hq
      exact richCompare_meets_room (op := .Lt) ⟨_, e1, rfl⟩ ⟨_, e2, rfl⟩ F.slot_list_lt F.entry_list_lt (F.args_list_lt_2 _ _) (list_lt a a' vs vs' n n' dd dd2 sl sl2 (pltL ds ds'))
        ⟨e1, e2, by simpa using hx, show Value.bool (pltL ds ds') ≠ Value.notImplemented ∧ Q (.bool (pltL ds ds')) s from ⟨(fun x => nomatch x), hq⟩⟩ (by omega)
    | _ => simp [pok] at hp
  | _, _, @Rp.tuple _ a o vs n ds h1 h2 h3 h4, _, _, h', A, hp, hc, hc', hu => by
    cases h' with
    | @tuple a' o' vs' n' ds' k1 k2 k3 k4 =>
      have hx := lexi_rp hb h4 k4 A.in1 (by simpa [pok] using hp) hc hc' (by rw [depth_tuple, depth_tuple] at hu; show A.units + 1 + _ + _ < _; omega) [] [] rfl
      obtain ⟨cls, dd, data, sl⟩ := o
      obtain ⟨cls2, dd2, data2, sl2⟩ := o'
      simp only at h2 h3 k2 k3
      subst h2 h3 k2 k3
      intro prog w E Q hq
      have e1 := hb _ _ h1
      have e2 := hb _ _ k1
      have e : plt (.tuple ds) (.tuple ds') = pltL ds ds' := by simp [plt]
      rw [e] at hq
      exact richCompare_meets_room (op := .Lt) ⟨_, e1, rfl⟩ ⟨_, e2, rfl⟩ F.slot_tuple_lt F.entry_tuple_lt (F.args_tuple_lt_2 _ _) (tuple_lt a a' vs vs' n n' dd dd2 sl sl2 (pltL ds ds'))
        ⟨e1, e2, by simpa using hx, show Value.bool (pltL ds ds') ≠ Value.notImplemented ∧ Q (.bool (pltL ds ds')) s from ⟨(fun x => nomatch x), hq⟩⟩ (by omega)
    | _ => simp [pok] at hp
theorem lexi_rp {B : Fz} {s : Shared} (hb : B.In s.heap) : ∀ {vs xs}, RpAll B vs xs → ∀ {ws ys}, RpAll B ws ys → ∀ (A : Around), pokL xs ys = true → PyData.canLayAll0 xs = true → PyData.canLayAll0 ys = true → A.units + PyData.depthAll xs + PyData.depthAll ys < cLine →
    ∀ (pv pw : List Value), pv.length = pw.length → Lexi A s (pv ++ vs).toArray (pw ++ ws).toArray pv.length (pltL xs ys)
  | _, _, .nil, _, _, .nil, A, _, _, _, _, pv, pw, e => by
    have h := Lexi.stop (A := A) (s := s) (xs := (pv ++ []).toArray) (ys := (pw ++ []).toArray) (i := pv.length) (.inl (by simp))
    have : decide ((pv ++ ([] : List Value)).toArray.size < (pw ++ ([] : List Value)).toArray.size) = pltL [] [] := by simp [e, pltL]
    rw [this] at h; exact h
  | _, _, .nil, _, _, .cons (vs := ws) (v := y) _ _, A, _, _, _, _, pv, pw, e => by
    have h := Lexi.stop (A := A) (s := s) (xs := (pv ++ []).toArray) (ys := (pw ++ y :: ws).toArray) (i := pv.length) (.inl (by simp))
    have : decide ((pv ++ ([] : List Value)).toArray.size < (pw ++ y :: ws).toArray.size) = true := by simp [e]
    rw [this] at h
    simpa [pltL] using h
  | _, _, .cons (vs := vs) (v := x) _ _, _, _, .nil, A, _, _, _, _, pv, pw, e => by
    have h := Lexi.stop (A := A) (s := s) (xs := (pv ++ x :: vs).toArray) (ys := (pw ++ []).toArray) (i := pv.length) (.inr (by simp [e]))
    have : decide ((pv ++ x :: vs).toArray.size < (pw ++ ([] : List Value)).toArray.size) = false := by simp [e]
    rw [this] at h
    simpa [pltL] using h
  | _, _, .cons (v := x) (vs := vs) (d := dx) (ds := xs) r1 r2, _, _, .cons (v := y) (vs := ws) (d := dy) (ds := ys) k1 k2, A, hp, hcx, hcy, hu, pv, pw, e => by
    rw [depth_cons, depth_cons] at hu
    have c1 : dx.canLay0 = true ∧ PyData.canLayAll0 xs = true := by simpa [PyData.canLayAll0] using hcx
    have c2 : dy.canLay0 = true ∧ PyData.canLayAll0 ys = true := by simpa [PyData.canLayAll0] using hcy
    have g1 : (pv ++ x :: vs).toArray[pv.length]? = some x := by simp
    have g2 : (pw ++ y :: ws).toArray[pv.length]? = some y := by simp [e]
    have he := eq_rp hb r1 k1 (A := A) c1.1 c2.1 (by omega)
    cases hc : PyData.eqv dx dy with
    | true =>
      rw [hc] at he
      have hp' : pokL xs ys = true := by simpa [pokL, hc] using hp
      have := lexi_rp hb r2 k2 A hp' c1.2 c2.2 (by omega) (pv ++ [x]) (pw ++ [y]) (by simp [e])
      have e3 : pltL (dx :: xs) (dy :: ys) = pltL xs ys := by simp [pltL, hc]
      rw [e3]
      exact .same g1 g2 he (by simpa using this)
    | false =>
      rw [hc] at he
      have hp' : pok dx dy = true := by simpa [pokL, hc] using hp
      have e3 : pltL (dx :: xs) (dy :: ys) = plt dx dy := by simp [pltL, hc]
      rw [e3]
      exact .diff g1 g2 he (lt_rp hb r1 k1 A hp' c1.1 c2.1 (by omega))
end
end Mine

end

section
open PySem PySem.W PyProof.Rows PySem.SeqAt
set_option maxRecDepth 100000
set_option linter.all false
namespace Mine

section
variable {K : Kp} {prog : Program} {w : World} {A : Around} {R : Result → Shared → Prop} {E : Value → Shared → Prop} {s : Shared}
theorem codeR_call_builtin {id : String} {args : Args} {b : Builtin} (hq : plainId id = true) (hb : entryFor table id = some b)
    (h : wpAny (model prog w) A.in1 (checkBuiltinCall id args) (fun _ s₁ => wpR K (model prog w) A.in1 (b args)
      (fun fin s' => match fin with | .done f => R (.ok f) s' | .again c' => c'.quiet = true ∧ codeR K (model prog w) A c' R s') (fun e s' => R (.error e) s') s₁)
      (fun e s' => R (.error e) s') s) : codeR K (model prog w) A (.call (.builtin id) args) R s := by
  refine codeR_of_tree ?_
  show wpR K _ A.in1 (do checkBuiltinCall id args; again (.builtin id args)) _ _ s
  refine wpR_abind (wpAny_mono h (fun _ s₁ h₁ => wpR_pure (And.intro (plainId_quiet hq args) (codeR_of_tree ?_))) fun _ _ h' => h')
  show wpR K _ _ (match entryFor table id with | some b => b args | none => unsupported ((withoutEnding? id "#data").getD id)) _ _ s₁
  rw [hb, Around.under_plainId hq args]; exact h₁
theorem callR_function_kw {id : String} {b : Builtin} {args : List Value} {kw : List (Str × Value)} {Q : Value → Shared → Prop} (hk : builtinKind id = none) (hp : plainId id = true)
    (hb : entryFor table id = some b) (ha : argsOk id ⟨args, kw⟩)
    (hc : wpR K (model prog w) A.in1 (b ⟨args, kw⟩) (fun fin s' => ∃ v, fin = .done (.ret v) ∧ Q v s') E s) : wpR K (model prog w) A (call (.builtin id) args kw) Q E s := by
  refine wpR_call (codeR_call_builtin hp hb ?_)
  have hfin := wpR_mono hc (Q' := fun fin s' => match fin with
      | .done f => (match (Except.ok f : Result) with | .ok (.ret v) => Q v s' | .ok _ => False | .error e => E e s')
      | .again c' => c'.quiet = true ∧ codeR K (model prog w) A c' (fun r s' => match r with | .ok (.ret v) => Q v s' | .ok _ => False | .error e => E e s') s')
    (fun fin s' h' => by obtain ⟨v, rfl, hv⟩ := h'; exact hv) fun _ _ h' => h'
  simp only [checkBuiltinCall, hk]
  cases hsig : Manifest.signature? id with
  | none => exact wpAny_pure hfin
  | some sig =>
    have ha' : Bind.checkArgs id sig ⟨args, kw⟩ = pure () := by simpa only [argsOk, hsig] using ha
    dsimp only
    rw [ha']
    exact wpAny_pure hfin
theorem callR_entry_kw {T : String} {name : Str} {id : String} {b : Builtin} {self : Value} {rest : List Value} {kw : List (Str × Value)} {Q : Value → Shared → Prop}
    (h : Slot T name id) (hT : s.TypeIs self T) (hb : entryFor table id = some b)
    (hc : wpR K (model prog w) A.in1 (b ⟨self :: rest, kw⟩) (fun fin s' => ∃ v, fin = .done (.ret v) ∧ Q v s') E s) (ha : argsOk id ⟨self :: rest, kw⟩) :
    wpR K (model prog w) A (call (.builtin id) (self :: rest) kw) Q E s := by
  refine wpR_call (codeR_call_builtin h.plain hb (h.check _ _ _ _ _ _ _ _ hT ha (wpR_mono hc (fun fin s' h' => ?_) fun _ _ h' => h')))
  obtain ⟨v, rfl, hv⟩ := h'; exact hv

theorem foldR {body : Value → PUnit → Sem (ForInStep PUnit)} {M : Model} {Q : PUnit → Shared → Prop} (I : Nat → Shared → Prop) : ∀ (vs : List Value) (i : Nat) (s : Shared), I i s →
    (∀ j x s', vs[j]? = some x → I (i + j) s' → wpR K M A (body x ⟨⟩) (fun r s'' => r = .yield ⟨⟩ ∧ I (i + j + 1) s'') E s') →
    (∀ s', I (i + vs.length) s' → Q ⟨⟩ s') → wpR K M A (forIn vs PUnit.unit body) Q E s
  | [], i, s, hI, _, done => by
    rw [List.forIn_nil]
    exact wpR_pure (done s (by simpa using hI))
  | x :: vs, i, s, hI, step, done => by
    rw [List.forIn_cons]
    refine wpR_bind (wpR_mono (step 0 x s (by simp) hI) (fun r s' h' => ?_) fun _ _ e => e)
    obtain ⟨rfl, hI'⟩ := h'
    show wpR K M A (forIn vs PUnit.unit body) Q E s'
    refine foldR I vs (i + 1) s' hI' (fun j y s'' hy hJ => ?_) fun s'' hd => done s'' ?_
    · have e : i + (j + 1) = i + 1 + j := by omega
      have h1 := step (j + 1) y s'' (by simpa using hy) (by rw [e]; exact hJ)
      rw [e] at h1
      exact h1
    · have e : i + (x :: vs).length = i + 1 + vs.length := by rw [List.length_cons]; omega
      rw [e]
      exact hd
end

/-- as Gives1, where the stack is so -/
structure GivesR (K : Kp) (prog : Program) (w : World) (A : Around) (F : List Addr) (f : Value) (args : List Value) (P : Value → Fz → Prop) (B : Fz) (s : Shared) : Prop where
  out : codeR K (model prog w) A (.call f ⟨args, []⟩) (fun r s' => ∃ v B', r = .ok (.ret v) ∧ Gr F B s B' s' ∧ P v B') s
theorem Gives1.toR {K : Kp} {prog : Program} {w : World} {A : Around} {F : List Addr} {f : Addr} {args : List Value} {P : Value → Fz → Prop} {B : Fz} {s : Shared} (h : Gives1 prog w A F f args P B s) : GivesR K prog w A F (.ref f) args P B s := ⟨codeR_any h.out⟩

abbrev PX (o : Obj) : Obj → Prop := fun x => x = o

section
variable {C : Cx} {m : Str → Option Value} {own : Own} {B : Fz} {s : Shared}
theorem Fs.tail {p : Addr × (Obj → Prop)} (H : Fs C m (p :: own) B s) : Fs C m own B s :=
  ⟨H.ns, H.gr, H.lnew, H.lout, fun q hq => H.mine q (.tail _ hq), (List.nodup_cons.mp (by simpa using H.ond)).2, H.fout⟩
theorem Fs.weak {a : Addr} {P P' : Obj → Prop} (H : Fs C m ((a, P) :: own) B s) (h : ∀ o, P o → P' o) : Fs C m ((a, P') :: own) B s :=
  ⟨H.ns, H.gr, H.lnew, H.lout, fun q hq => by
    rcases List.mem_cons.mp hq with rfl | hq
    · obtain ⟨⟨o, e, p⟩, r⟩ := H.mine (a, P) (.head _)
      exact ⟨⟨o, e, h o p⟩, r⟩
    · exact H.mine q (.tail _ hq), H.ond, H.fout⟩
theorem Fs.at {a : Addr} {o : Obj} (H : Fs C m own B s) (h : (a, PX o) ∈ own) : s.heap.get? a = some o := by
  obtain ⟨⟨x, e, rfl⟩, _⟩ := H.mine _ h
  exact e
theorem Fs.ref {f : Value} {F : List Addr} (H : Fs C m own B s) : ∀ a ∈ C.env.locals :: C.F, B a = none ∧ ∃ o, s.heap.get? a = some o := fun a ha => by
  rcases List.mem_cons.mp ha with rfl | ha
  · obtain ⟨o, es, ep, ho, _⟩ := id H.ns
    exact ⟨H.lout, o, ho⟩
  · obtain ⟨h1, o, ho⟩ := H.fout a ha
    obtain ⟨sl, e⟩ := H.gr.tr.slot a o ho
    refine ⟨?_, _, e⟩
    cases q : B a with
    | none => rfl
    | some x =>
      rcases H.gr.bnew a x q with h | h
      · rw [h1] at h; cases h
      · rw [ho] at h; cases h
end

section
variable {K : Kp} {C : Cx} {m : Str → Option Value} {own : Own} {B : Fz} {s : Shared} {A : Around} {E : Value → Shared → Prop} {a kS : Addr} {keys : Array Value} {vs : List Value} {e e1 : Nat} {P : PySem.Fin → Shared → Prop}

theorem ks_tail {st : SortSt} (H : Fs C m ((kS, PX (seqObj "list" keys e)) :: (a, PX (seqObj "list" #[] e1)) :: own) B s) (hk : keys.size ≤ 1000) (hN : (arrOf st).size ≤ 1000) (hfl : failedOf st = none)
    (h : ∀ s' c, Fs C m ((a, PX (seqObj "list" ((arrOf st).map (·.2)) c)) :: own) B s' → P (.done (.ret .none)) s') : wpAny (model C.prog C.w) A (ksk_tail a false e1 (.ref kS) st) P E s := by
  have nk := H.at (.head _)
  have na := H.at (.tail _ (.head _))
  have s1 := Heap.SameBut.update s.heap kS (Obj.mapSeq fun _ => (#[] : Array Value))
  have nk1 := get?_update_seq nk fun _ => (#[] : Array Value)
  have H1 := H.turn (pre := []) (tk := s.toks) s1 nk1 (P' := fun _ => True) trivial
  have na1 := H1.at (a := a) (o := seqObj "list" #[] e1) (.tail _ (.head _))
  have s2 := Heap.SameBut.update (s.heap.update kS (Obj.mapSeq fun _ => (#[] : Array Value))) a (Obj.mapSeq fun _ => (arrOf st).map (·.2))
  have na2 := get?_update_seq na1 fun _ => (arrOf st).map (·.2)
  have H2 := H1.turn (pre := [(kS, fun _ => True)]) (tk := s.toks) s2 na2 (P' := PX _) rfl
  unfold ksk_tail
  dsimp only
  refine wpAny_bind (listUpdate_at nk rfl ?_ (by rw [sizeLine_eq]; omega) (Nat.zero_le _))
  refine wpAny_bind (wpAny_letGo ?_)
  refine wpAny_bind (seqEpoch_at na1 rfl ?_)
  simp only [Bool.false_eq_true, if_false]
  refine wpAny_bind (listUpdate_at na1 rfl ?_ (Nat.zero_le _) (by rw [Array.size_map, sizeLine_eq]; omega))
  rw [hfl]
  simp only [bne_self_eq_false, Bool.false_eq_true, if_false]
  exact wpAny_pure (h _ _ H2.tail)

theorem ks_end {ks : Nat → PyData} (H : Fs C m ((kS, PX (seqObj "list" keys e)) :: (a, PX (seqObj "list" #[] e1)) :: own) B s) (hsz : keys.size = vs.length) (h64 : vs.length < 64)
    (hk : ∀ i k, keys[i]? = some k → Rp B k (ks i)) (hl : ∀ i, ∃ xs, ks i = .list xs) (hok : ∀ i j, pok (ks i) (ks j) = true) (hcl : ∀ i, (ks i).canLay0 = true) (hd : ∀ i, (ks i).depth ≤ 64) (hu : A.units + 200 < cLine)
    (W : Wk fun i j => plt (ks i) (ks j))
    (h : ∀ s' c (σ : List Nat), Fs C m ((a, PX (seqObj "list" (σ.map fun i => vs.getD i .none).toArray c)) :: own) B s' → σ.Perm (List.range vs.length) → σ.Pairwise (Rr fun i j => plt (ks i) (ks j)) → P (.done (.ret .none)) s') :
    wpAny (model C.prog C.w) A (ksk_end a false vs.toArray e1 (.ref kS) keys) P E s := by
  have hzs : (keys.zip vs.toArray).size = vs.length := by rw [Array.size_zip, hsz, List.size_toArray, Nat.min_self]
  let f : Nat → Keyed := fun i => (keys.getD i .none, vs.getD i .none)
  have hf : keys.zip vs.toArray = (Array.range vs.length).map f := by
    apply Array.ext
    · rw [hzs]; simp
    · intro i h1 h2
      simp only [Array.getElem_zip, Array.getElem_map, Array.getElem_range, f]
      have h3 : i < keys.size := by rw [hzs] at h1; omega
      have h4 : i < vs.length := by rw [hzs] at h1; omega
      simp [Array.getD, h3, h4]
  have out : ∀ σ : Array Nat, (σ.map f).map (·.2) = (σ.toList.map fun i => vs.getD i .none).toArray := fun σ => by
    rw [Array.map_map]
    apply Array.ext'
    simp [f]
  unfold ksk_end
  dsimp only
  simp only [Bool.false_eq_true, if_false]
  by_cases h2 : vs.toArray.size < 2
  · rw [if_pos h2, if_pos h2]
    refine wpAny_bind (wpAny_pure ?_)
    rw [StateT.run_pure]
    refine wpAny_bind (wpAny_pure ?_)
    dsimp only
    refine ks_tail (st := SortSt.mk' general' (keys.zip vs.toArray) #[] 7 none) H (by omega) (by show (keys.zip vs.toArray).size ≤ _; omega) rfl fun s' c H' => ?_
    have e : (arrOf (SortSt.mk' general' (keys.zip vs.toArray) #[] 7 none)).map (·.2) = ((List.range vs.length).map fun i => vs.getD i .none).toArray := by
      show (keys.zip vs.toArray).map (·.2) = _
      rw [hf, out]; simp
    rw [e] at H'
    refine h s' c _ H' (List.Perm.refl _) ?_
    rw [List.size_toArray] at h2
    obtain q | q : vs.length = 0 ∨ vs.length = 1 := by omega
    · rw [q]; exact .nil
    · rw [q]; exact .cons (by simp) .nil
  · rw [if_neg h2, if_neg h2]
    rw [List.size_toArray] at h2
    have hkey : ∀ i, i < vs.length → Rp B (keys.getD i .none) (ks i) := fun i hi => by
      have : keys[i]? = some (keys.getD i .none) := by
        have h3 : i < keys.size := by omega
        simp [Array.getD, h3]
      exact hk i _ this
    have eks : keys.toList.toArray = keys := by simp
    have hkind : wpAny (model C.prog C.w) A (keyKind' keys) (fun κ s' => κ = oneType' ∧ s' = s) E s := by
      rw [← eks]
      refine kas_kind (T := .type "list") (by simp; omega) (fun v hv => ?_) (by decide) (by decide) ⟨rfl, rfl⟩
      obtain ⟨i, hi, e⟩ := List.mem_iff_getElem.mp hv
      have hr := hk i v (by simp at hi e; rw [← e]; simp [hi])
      obtain ⟨xs, ex⟩ := hl i
      rw [ex] at hr
      obtain ⟨b, o, us, n, rfl, e1, e2, e3, e4⟩ := hr.list_inv
      have := H.bin _ _ e1
      rw [← e2]
      exact (Looks.ld this).andThen .now
    refine wpAny_bind (wpAny_mono hkind (fun κ s' q => ?_) fun _ _ x => x)
    obtain ⟨rfl, rfl⟩ := q
    have asks : Asks C.prog C.w A s' oneType' f vs.length fun i j => plt (ks i) (ks j) := fun i j hi hj Q hQ => by
      show wpAny _ _ (keyLt' oneType' (keys.getD i .none) (keys.getD j .none)) _ _ _
      have hx := hkey i hi
      have hy := hkey j hj
      have di := hd i
      have dj := hd j
      obtain ⟨xs, ex⟩ := hl i
      obtain ⟨ys, ey⟩ := hl j
      have hlx := hok i j
      have c1 := hcl i
      have c2 := hcl j
      rw [ex] at hx di c1 hlx
      rw [ey] at hy dj c2 hlx
      have hQ' : Q (plt (.list xs) (.list ys)) s' := by simp only [ex, ey] at hQ; exact hQ
      generalize keys.getD i .none = kx at hx ⊢
      generalize keys.getD j .none = ky at hy ⊢
      cases hx with
      | @list al ol vl nl _ h1 h2 h3 h4 =>
        cases hy with
        | @list ar or vr nr _ k1 k2 k3 k4 =>
          obtain ⟨cls, dd, data, sl⟩ := ol
          obtain ⟨cls2, dd2, data2, sl2⟩ := or
          simp only at h2 h3 k2 k3
          subst h2 h3 k2 k3
          have g1 := H.bin _ _ h1
          have g2 := H.bin _ _ k1
          have ep : plt (.list xs) (.list ys) = pltL xs ys := by simp [plt]
          rw [ep] at hQ'
          rw [keyLt'_oneType, oneLt'_eq]
          simp only [if_true]
          refine wpAny_bind (wpAny_cRoomFor (by omega) ?_)
          refine wpAny_bind (wpAny_callSpecialIfBound?_slot (T := "list") ⟨_, g1, rfl⟩ F.slot_list_lt (call_meets F.slot_list_lt ⟨_, g1, rfl⟩ F.entry_list_lt (F.args_list_lt_2 _ _) (list_lt al ar vl vr nl nr dd dd2 sl sl2 (pltL xs ys)) ⟨g1, g2, ?_, ?_⟩))
          · have lx := lexi_rp H.bin h4 k4 A.in1 (by simpa [pok] using hlx) c1 c2 (by rw [depth_list] at di dj; show A.units + 1 + _ + _ < _; omega) [] [] rfl
            simpa using lx
          · exact wpAny_truthy_bool hQ'
    refine wpAny_bind (wpAny_mono (sortRuns_ (σ := Array.range vs.length) (st := SortSt.mk' oneType' (keys.zip vs.toArray) #[] 7 none)
      (Q := fun _ st' => failedOf st' = none ∧ ∃ σ, arrOf st' = Array.map f σ ∧ Array.Perm σ (Array.range vs.length) ∧ Sd (fun i j => plt (ks i) (ks j)) vs.length σ vs.length)
      W asks ⟨hf, rfl, rfl, rfl, Array.Perm.refl _⟩ (fun i hi => by simp [V, Array.getD, hi]) (by omega) h64 fun st' a1 a2 => ⟨a1, a2⟩) ?_ fun _ _ e => e)
    rintro ⟨⟨⟩, st'⟩ s'' ⟨rfl, hfl, σ, ha, hp, hs⟩
    dsimp only
    have hsz' : (arrOf st').size = vs.length := by rw [ha, Array.size_map, hp.size_eq]; simp
    refine ks_tail (st := st') H (by omega) (by omega) hfl fun s' c H' => ?_
    rw [ha, out] at H'
    have hps : σ.toList.Perm (List.range vs.length) := by
      have := Array.perm_iff_toList_perm.mp hp
      simpa using this
    refine h s' c _ H' hps ?_
    have hsg : σ.size = vs.length := by rw [hp.size_eq]; simp
    rw [List.pairwise_iff_getElem]
    intro i j hi hj hij
    have hi' : i < σ.size := by simpa using hi
    have hj' : j < σ.size := by simpa using hj
    have := hs.so i j hij (by omega)
    simpa [V, Array.getD, hi', hj'] using this

theorem ks_rest {ks : Nat → PyData} {f : Value} {n1 : Nat} (H : Fs C m ((kS, PX (seqObj "list" #[] n1)) :: (a, PX (seqObj "list" #[] e1)) :: own) B s) (h64 : vs.length < 64)
    (hl : ∀ i, ∃ xs, ks i = .list xs) (hok : ∀ i j, pok (ks i) (ks j) = true) (hcl : ∀ i, (ks i).canLay0 = true) (hd : ∀ i, (ks i).depth ≤ 64) (hu : A.units + 200 < cLine)
    (W : Wk fun i j => plt (ks i) (ks j))
    (turn : ∀ i v own' B' s', vs[i]? = some v → B.le B' → Fs C m own' B' s' → GivesR K C.prog C.w A (C.env.locals :: C.F) f [v] (Rd (ks i)) B' s')
    (h : ∀ B' s' c (σ : List Nat), B.le B' → Fs C m ((a, PX (seqObj "list" (σ.map fun i => vs.getD i .none).toArray c)) :: own) B' s' → σ.Perm (List.range vs.length) → σ.Pairwise (Rr fun i j => plt (ks i) (ks j)) → P (.done (.ret .none)) s') :
    wpR K (model C.prog C.w) A (ksk_rest a f false vs.toArray e1 (.ref kS)) P E s := by
  unfold ksk_rest
  refine wpR_bind (wpR_rule ?_)
  first
    | rw [List.forIn_toArray]
    | (rw [← Array.forIn_toList]; simp only [List.toList_toArray])
    | rw [← Array.forIn_toList]
  refine wpR_bind (foldR (fun i s' => ∃ B' kA e, B.le B' ∧ Fs C m ((kS, PX (seqObj "list" kA e)) :: (a, PX (seqObj "list" #[] e1)) :: own) B' s' ∧ kA.size = i ∧ ∀ j k, kA[j]? = some k → Rp B' k (ks j)) vs 0 s
    ⟨B, #[], n1, .rfl, H, rfl, fun j k hk => by simp at hk⟩ ?step ?done)
  case step =>
    rintro j x s' hx ⟨B', kA, e, hle, H', hz, hr⟩
    simp only [Nat.zero_add] at hz ⊢
    have hj : j < vs.length := (List.getElem?_eq_some_iff.mp hx).1
    refine wpR_bind (wpR_attempt (wpR_call (codeR_mono (turn j x _ B' s' hx hle H').out fun r s'' hr' => ?_)))
    obtain ⟨k, B2, rfl, G, hk⟩ := hr'
    have H2 := H'.call (by simp) G
    dsimp only
    have nk := H2.at (a := kS) (o := seqObj "list" kA e) (.head _)
    have s1 := Heap.SameBut.update s''.heap kS (Obj.mapSeq (·.push k))
    have nk1 := get?_update_seq nk (·.push k)
    have H3 := H2.turn (pre := []) (tk := s''.toks) s1 nk1 (P' := PX _) rfl
    refine wpR_bind (wpR_any (listUpdate_at nk rfl ?_ (by rw [sizeLine_eq]; omega) (Nat.le_trans (Nat.le_of_eq (Array.size_push ..)) (by rw [sizeLine_eq]; omega))))
    refine wpR_pure ⟨rfl, B2, _, _, hle.trans G.le, H3, by rw [Array.size_push, hz], fun i y hy => ?_⟩
    rw [Array.getElem?_push] at hy
    split at hy
    · rename_i hi; cases hy; rw [hi, hz]; exact hk
    · exact (hr i y hy).mono G.le
  case done =>
    rintro s' ⟨B', kA, e, hle, H', hz, hr⟩
    rw [Nat.zero_add] at hz
    refine wpR_bind (wpR_any (listItems_at (H'.at (.head _)) rfl ?_))
    exact wpR_any (ks_end H' hz h64 hr hl hok hcl hd hu W fun s2 c σ H2 p1 p2 => h B' s2 c σ hle H2 p1 p2)

/-- sorted(list, key=f) -/
theorem sortedR {ks : Nat → PyData} {f l : Addr} {ol : Obj} {nl : Nat} {Q : Value → Shared → Prop} (H : Fs C m own B s) (h1 : B l = some ol) (h2 : ol.cls = .type "list") (h3 : ol.data = .seq vs.toArray nl) (h64 : vs.length < 64)
    (hl : ∀ i, ∃ xs, ks i = .list xs) (hok : ∀ i j, pok (ks i) (ks j) = true) (hcl : ∀ i, (ks i).canLay0 = true) (hd : ∀ i, (ks i).depth ≤ 64) (hu : A.units + 300 < cLine)
    (W : Wk fun i j => plt (ks i) (ks j))
    (turn : ∀ i v own' B' s', vs[i]? = some v → B.le B' → Fs C m own' B' s' → GivesR K C.prog C.w A.in1.in1 (C.env.locals :: C.F) (.ref f) [v] (Rd (ks i)) B' s')
    (h : ∀ a B' s' o c (σ : List Nat), B.le B' → Fs C m own B' s' → B' a = some o → o = seqObj "list" (σ.map fun i => vs.getD i .none).toArray c → σ.Perm (List.range vs.length) → σ.Pairwise (Rr fun i j => plt (ks i) (ks j)) → Q (.ref a) s') :
    wpR K (model C.prog C.w) A (call (.builtin "sorted") [.ref l] [(Str.ofString "key", .ref f)]) Q E s := by
  have hL : s.heap.IsList l vs.toArray := ⟨ol, H.bin _ _ h1, h2, nl, h3⟩
  refine callR_function_kw kind_sorted plain_sorted entry_sorted (ksk_s1 _ _) ?_
  unfold Builtin.«sorted»
  refine wpR_bind (m := checkCount "sorted" 1 1 _) (wpR_pure ?_)
  refine wpR_abind (collect_list hL ?_ (by rw [sizeLine_eq]; omega))
  have g0 := Heap.get?_push_size s.heap (o := seqObj "list" #[] 0) rfl
  have H0 := H.pushO (seqObj "list" #[] 0) (fun _ => True) trivial
  have s0 := Heap.SameBut.update (s.heap.push (seqObj "list" #[] 0)) s.heap.objs.size (Obj.mapSeq (· ++ vs.toArray))
  have H1 := (H0.turn (pre := []) (tk := s.toks) s0 (get?_update_seq g0 (· ++ vs.toArray)) (P' := fun _ => True) trivial).tail
  refine wpR_abind (wpAny_newList ?_ (by rw [sizeLine_eq]; omega))
  have H2 := H1.pushO (seqObj "list" vs.toArray 0) (PX _) rfl
  refine wpR_bind (wpR_holding ?_)
  have na := H2.at (.head _)
  refine callR_entry_kw slot_list_sort ⟨_, na, rfl⟩ entry_list_sort ?body (ksk_l1 _ _)
  case body =>
    try dsimp only at H2
    try dsimp only at na
    try dsimp only
    generalize ((s.heap.push (seqObj "list" #[] 0)).update s.heap.objs.size (Obj.mapSeq (· ++ vs.toArray))).objs.size = a at H2 na ⊢
    generalize (((s.heap.push (seqObj "list" #[] 0)).update s.heap.objs.size (Obj.mapSeq (· ++ vs.toArray))).push (seqObj "list" vs.toArray 0)) = hh at H2 na ⊢
    rw [ksk_t1]
    unfold ksk_tree
    refine wpR_abind (listItems_at na rfl ?_)
    have s3 := Heap.SameBut.update hh a (Obj.mapSeq fun _ => (#[] : Array Value))
    have n3 := get?_update_seq na fun _ => (#[] : Array Value)
    have H3 := H2.turn (pre := []) (tk := s.toks) s3 n3 (P' := PX _) rfl
    refine wpR_abind (listUpdate_at na rfl ?_ (by rw [List.size_toArray, sizeLine_eq]; omega) (Nat.zero_le _))
    refine wpR_abind (seqEpoch_at n3 rfl ?_)
    refine wpR_abind (wpAny_newTuple ?_ (by show vs.length ≤ _; rw [sizeLine_eq]; omega))
    have H4 := H3.push { cls := .type "tuple", data := .seq vs.toArray }
    refine wpR_abind (wpAny_newList ?_ (Nat.zero_le _))
    have H5 := H4.pushO { cls := .type "list", data := .seq ([] : List Value).toArray } (PX (seqObj "list" #[] 0)) rfl
    refine wpR_holding ?_
    refine ks_rest H5 h64 hl hok hcl hd (by show A.units + 1 + 1 + _ < _; omega) W turn fun B' s' c σ hle H' p1 p2 => ⟨_, rfl, ?_⟩
    obtain ⟨o, ho, hB, Hf⟩ := H'.freeze
    exact wpR_pure ⟨_, rfl, h a _ s' o c σ (hle.trans (Fz.le_set hB)) Hf Fz.set_self ho p1 p2⟩
end
end Mine

end

section
open PySem PySem.W PyProof.Rows
set_option maxRecDepth 100000
set_option linter.all false
namespace Mine

section
variable {K : Kp} {prog : Program} {w : World} {A : Around} {R : Result → Shared → Prop} {s : Shared}
theorem codeR_call_fn {a : Addr} {args : Args} {o : Obj} {fd : FuncData} (hroom : A.depth < recursionLimit)
    (ho : s.heap.get? a = some o)
    (hd' : o.data = .func fd) (hco : fd.scope.isCoroutine = false) (hgen : fd.scope.isGenerator = false) (hcd : s.heap.CodeRec fd.code fd.qualname)
    (h : wpAny (model prog w) A.in1 (bindArgs fd args) (fun binds s₁ =>
      wpAny (model prog w) A.in1 (newFunctionEnv fd.scope fd.globals fd.closure binds (fd.qualname ++ ".<locals>.") (some a) fd.code none fd.builtins)
        (fun env s₂ => s₂.heap.NoLimit ∧ codeR K (model prog w) A (match fd.body with | .stmts b => .func b env | .expr e => .expr e env) R s₂) (fun e s' => R (.error e) s') s₁) (fun e s' => R (.error e) s') s) :
    codeR K (model prog w) A (.call (.ref a) args) R s := by
  refine codeR_of_tree ?_
  show wpR K _ A.in1 (callAny (.ref a) args) _ _ s
  simp only [callAny]
  refine wpR_abind (wpAny_load ho ?_)
  obtain ⟨c, oc, vs, tq, hc, hoc, hdc, hq⟩ := hcd
  simp only [hd', callFunction, hco, hgen, hc]
  rw [hc] at h
  refine wpR_any (wpAny_bind (m := field (.ref c) 1) (wpAny_field hoc hdc hq (wpAny_bind (wpAny_pure ?_))))
  refine wpAny_bind (wpAny_mono h (fun binds s₁ h₁ => wpAny_bind (wpAny_mono h₁ (fun env s₂ h₂ => wpAny_bind (wpAny_enterFrame h₂.1 hroom ?_)) fun _ _ h' => h')) fun _ _ h' => h')
  have h3 := h₂.2
  cases hb : fd.body with
  | stmts b => rw [hb] at h3; exact wpAny_pure (And.intro rfl h3)
  | expr e => rw [hb] at h3; exact wpAny_pure (And.intro rfl h3)
theorem codeR_expr {e : Expr} {env : Env}
    (h : wpR K (model prog w) (A.deeper env) (eval e env) (fun v s' => R (.ok (.ret v)) s')
      (fun e' s' => wpAny (model prog w) (A.deeper env) (leaving env e') (fun _ s'' => R (.error e') s'') (fun e'' s'' => R (.error e'') s'') s') s) :
    codeR K (model prog w) A (.expr e env) R s := by
  refine codeR_of_tree ?_
  show wpR K _ (A.deeper env) (do point; ret (← (eval e env).onRaise (leaving env))) _ _ s
  exact wpR_abind (wpAny_point (wpR_bind (wpR_onRaise (wpR_mono h (fun v s' h' => wpR_pure h') fun _ _ h' => h'))))
end

/-- a suite of the block, where the stack is so -/
structure Wr (K : Kp) (C : Cx) (b : List Stmt) (Q : Flow → Shared → Prop) (E : Value → Shared → Prop) (s : Shared) : Prop where
  out : wpR K (model C.prog C.w) C.A (execs b C.env) Q E s
theorem Wr.mono {K : Kp} {C : Cx} {b : List Stmt} {Q Q' : Flow → Shared → Prop} {E : Value → Shared → Prop} {s : Shared} (h : Wr K C b Q E s) (k : ∀ f s', Q f s' → Q' f s') : Wr K C b Q' E s := ⟨wpR_mono h.out k fun _ _ x => x⟩
theorem Wr.any {K : Kp} {C : Cx} {b : List Stmt} {Q : Flow → Shared → Prop} {E : Value → Shared → Prop} {s : Shared} (h : Wx C b Q E s) : Wr K C b Q E s := ⟨wpR_any h.out⟩
theorem Wr.cons {K : Kp} {C : Cx} {st : Stmt} {rest : List Stmt} {Q : Flow → Shared → Prop} {E : Value → Shared → Prop} {s : Shared} (h : wpR K (model C.prog C.w) C.A (exec st C.env) (fun f s' => f = .next ∧ Wr K C rest Q E s') E s) : Wr K C (st :: rest) Q E s :=
  ⟨wpR_execs_cons (wpR_mono h (fun f s' h' => by obtain ⟨rfl, h'⟩ := h'; exact h'.out) fun _ _ x => x)⟩
theorem wpAny_execs_one {M : Model} {A : Around} {E : Value → Shared → Prop} {s : Shared} {st : Stmt} {env : Env} {Q : Flow → Shared → Prop} (h : wpAny M A (execs [st] env) Q E s) : wpAny M A (exec st env) Q E s := by
  intro Γ p hΓ
  have h' := h Γ p hΓ
  rw [execs_cons, Sem.wp_bind'] at h'
  refine Sem.wp_mono M Γ _ (fun f p' s' hf => ?_) (fun _ _ _ x => x) p s h'
  cases f with
  | next => rw [arm_execs_nil] at hf; exact hf
  | _ => exact hf
/-- a statement by the rules of Wx -/
theorem Wr.step {K : Kp} {C : Cx} {st : Stmt} {rest : List Stmt} {Q : Flow → Shared → Prop} {E : Value → Shared → Prop} {s : Shared} (h : Wx C [st] (fun f s' => f = .next ∧ Wr K C rest Q E s') E s) : Wr K C (st :: rest) Q E s :=
  .cons (wpR_any (wpAny_execs_one h.out))
theorem Wr.nil {K : Kp} {C : Cx} {Q : Flow → Shared → Prop} {E : Value → Shared → Prop} {s : Shared} (h : Q .next s) : Wr K C [] Q E s := ⟨wpR_execs_nil h⟩

theorem enterR {K : Kp} {prog : Program} {w : World} {A : Around} {F : List Addr} {B : Fz} {s : Shared} {f c : Addr} {i : Nat} {name : Str} {args : List Value} {binds : List (Str × Value)} {P : Value → Fz → Prop}
    (hB : B.In s.heap) (hlim : s.heap.NoLimit) (hfn : FnAt s.heap f c i name) (hF : ∀ a ∈ F, B a = none ∧ ∃ o, s.heap.get? a = some o) (hroom : A.depth < recursionLimit)
    (hbind : ∀ pm, bindArgs (Calls.docDef name (fdA i) (fdB i) (fdS i) pm (.ref c) .none) ⟨args, []⟩ = pure binds) (hloc : ∀ x ∈ binds, (fdS i).names.lookup x.1 = some .local)
    (hh : A.handled = none)
    (h : ∀ (C : Cx) (E : Value → Shared → Prop) s', Sc C (fdS i) → C.B0 = B → C.s0 = s → C.F = F → C.A = A.deeper C.env → C.prog = prog → C.w = w → (C.env.frame = some C.env.locals ∧ C.env.code = .ref c ∧ C.env.qual = name ++ ".<locals>." ∧ C.env.cells = []) → Fs C (lk binds.reverse) [] B s' →
      Wr K C (fdB i) (fun fl s'' => ∃ v m own B', fl = .ret v ∧ Fs C m own B' s'' ∧ P v B') E s')
    (hco : (fdS i).isCoroutine = false := by rfl) (hgen : (fdS i).isGenerator = false := by rfl) (hk : (fdS i).kind = .function := by rfl) (hcell : ∀ x ∈ (fdS i).names, x.2 ≠ .cell := by decide) :
    GivesR K prog w A F (.ref f) args P B s := by
  obtain ⟨o, pm, ho, hd, hcd⟩ := hfn
  refine GivesR.mk (codeR_call_fn hroom ho hd hco hgen hcd ?_)
  rw [hbind]
  refine wpAny_pure (wpAny_newFunctionEnv hcell hloc (fun h₁ hns hsb => ⟨hlim.fresh _ hsb, ?_⟩) hk)
  show codeR K _ _ (.func (fdB i) (envOf name (fdS i) s.heap.objs.size f (.ref c))) _ _
  have fresh : B s.heap.objs.size = none := by
    cases q : B s.heap.objs.size with
    | none => rfl
    | some o => exact absurd (Heap.lt_size (hB _ _ q)) (Nat.lt_irrefl _)
  have keep : ∀ b o, s.heap.get? b = some o → h₁.get? b = some o := fun b o e => hsb.extBut b o (Nat.ne_of_lt (Heap.lt_size e)) (Heap.get?_push_of_some _ e)
  refine codeR_func (wpR_mono (Wr.out (h ⟨prog, w, A.deeper (envOf name (fdS i) s.heap.objs.size f (.ref c)), F, B, s, envOf name (fdS i) s.heap.objs.size f (.ref c)⟩ _ { s with heap := h₁, toks := s.toks + binds.length }
    ⟨rfl, hk, rfl, rfl⟩ rfl rfl rfl rfl rfl rfl ⟨rfl, rfl, rfl, rfl⟩ ⟨hns, ⟨.of_keep keep, .rfl, fun a o e => keep _ _ (hB a o e), fun a o e => .inl e⟩, Heap.get?_none_of_le (Nat.le_refl _), fresh, fun p hp => absurd hp (by simp), List.nodup_nil, hF⟩))
    (fun fl s'' h'' => ?_) fun _ _ x => x)
  obtain ⟨v, m, own, B', rfl, g, p⟩ := h''
  exact ⟨v, B', rfl, g.gr, p⟩

/-- a lambda that stands in B -/
def LamAt (B : Fz) (f : Addr) (qual : Str) (params : Arguments) (body : Expr) (scope : Scope) : Prop :=
  ∃ pm c' ctv oc vs t, B f = some (kla_obj (Str.ofString "<lambda>") qual params body scope [] pm c' ctv) ∧ B c' = some oc ∧ oc.data = .fields vs ∧ vs[1]? = some (.str qual t)
theorem LamAt.mono {B B' : Fz} (h : B.le B') {f : Addr} {qual : Str} {params : Arguments} {body : Expr} {scope : Scope} (k : LamAt B f qual params body scope) : LamAt B' f qual params body scope := by
  obtain ⟨pm, c', ctv, oc, vs, t, e1, e2, r⟩ := k
  exact ⟨pm, c', ctv, oc, vs, t, h _ _ e1, h _ _ e2, r⟩

theorem enterL {K : Kp} {prog : Program} {w : World} {A : Around} {F : List Addr} {B : Fz} {s : Shared} {f : Addr} {qual : Str} {params : Arguments} {body : Expr} {scope : Scope} {args : List Value} {binds : List (Str × Value)} {P : Value → Fz → Prop}
    (hB : B.In s.heap) (hlim : s.heap.NoLimit) (hfn : LamAt B f qual params body scope) (hF : ∀ a ∈ F, B a = none ∧ ∃ o, s.heap.get? a = some o) (hroom : A.depth < recursionLimit)
    (hbind : ∀ pm c' ctv, bindArgs (kla_fn (Str.ofString "<lambda>") qual params body scope [] pm (.ref c') ctv) ⟨args, []⟩ = pure binds) (hloc : ∀ x ∈ binds, scope.names.lookup x.1 = some .local)
    (hh : A.handled = none)
    (h : ∀ (C : Cx) (E : Value → Shared → Prop) s', Sc C scope → C.B0 = B → C.s0 = s → C.F = F → C.A = A.deeper C.env → C.prog = prog → C.w = w → C.env.frame = some C.env.locals → Fs C (lk binds.reverse) [] B s' →
      wpR K (model C.prog C.w) C.A (eval body C.env) (fun v s'' => ∃ m own B', Fs C m own B' s'' ∧ P v B') E s')
    (hco : scope.isCoroutine = false := by rfl) (hgen : scope.isGenerator = false := by rfl) (hk : scope.kind = .function := by rfl) (hcell : ∀ x ∈ scope.names, x.2 ≠ .cell := by decide) :
    GivesR K prog w A F (.ref f) args P B s := by
  obtain ⟨pm, c', ctv, oc, vs, t, e1, e2, e3, e4⟩ := hfn
  refine GivesR.mk (codeR_call_fn (fd := kla_fn (Str.ofString "<lambda>") qual params body scope [] pm (.ref c') ctv) hroom (hB _ _ e1) rfl hco hgen ⟨c', oc, vs, t, rfl, hB _ _ e2, e3, e4⟩ ?_)
  rw [hbind]
  refine wpAny_pure (wpAny_newFunctionEnv hcell hloc (fun h₁ hns hsb => ⟨hlim.fresh _ hsb, ?_⟩) hk)
  show codeR K _ _ (.expr body (envX qual scope s.heap.objs.size f (.ref c') [])) _ _
  have fresh : B s.heap.objs.size = none := by
    cases q : B s.heap.objs.size with
    | none => rfl
    | some o => exact absurd (Heap.lt_size (hB _ _ q)) (Nat.lt_irrefl _)
  have keep : ∀ b o, s.heap.get? b = some o → h₁.get? b = some o := fun b o e => hsb.extBut b o (Nat.ne_of_lt (Heap.lt_size e)) (Heap.get?_push_of_some _ e)
  refine codeR_expr (wpR_mono (h ⟨prog, w, A.deeper (envX qual scope s.heap.objs.size f (.ref c') []), F, B, s, envX qual scope s.heap.objs.size f (.ref c') []⟩ _ { s with heap := h₁, toks := s.toks + binds.length }
    ⟨rfl, hk, rfl, rfl⟩ rfl rfl rfl rfl rfl rfl rfl ⟨hns, ⟨.of_keep keep, .rfl, fun a o e => keep _ _ (hB a o e), fun a o e => .inl e⟩, Heap.get?_none_of_le (Nat.le_refl _), fresh, fun p hp => absurd hp (by simp), List.nodup_nil, hF⟩)
    (fun v s'' h'' => ?_) fun _ _ x => x)
  obtain ⟨m, own, B', g, p⟩ := h''
  exact ⟨v, B', rfl, g.gr, p⟩

section
variable {K : Kp} {C : Cx} {sc : Scope} {m : Str → Option Value} {own : Own} {Bb : Fz}
theorem wpR_keep {M : Model} {A : Around} {E : Value → Shared → Prop} {s : Shared} {α : Type} {vs : List Value} {t : Sem α} {Q : α → Shared → Prop} (h : wpR K M A t Q E s) : wpR K M A (t.keep vs) Q E s :=
  fun Γ p hΓ hc => by rw [Sem.wp_keep]; exact h Γ p hΓ hc
theorem callWithR_fn {M : Model} {A : Around} {E : Value → Shared → Prop} {s : Shared} {pos : Pos} {a : Addr} {first : List Value} {args : List (Bool × Sem Value)} {Q : Value → Shared → Prop} (hpl : args.any (·.1) = false) (hlen : args.length ≤ 30)
    (h : wpAny M A (evalArgs (.ref a) true args []) (fun x s₁ => (∃ o fd, s₁.heap.get? a = some o ∧ o.data = .func fd) ∧ wpR K M A (call (.ref a) (first ++ x.pos) x.kw) Q E s₁) E s) :
    wpR K M A (callWith pos (.ref a) first args []) Q E s := by
  unfold callWith
  refine wpR_bind (wpR_holding (wpR_any (wpAny_mono h (fun x s₁ h₁ => wpR_bind (wpR_standAt ?_)) fun _ _ x => x)))
  obtain ⟨⟨o, fd, ho, hd⟩, h₁⟩ := h₁
  simp only [hpl, List.any_nil, Bool.or_false]
  refine wpR_abind (m := keeperOf (.ref a)) ?_
  unfold keeperOf
  refine wpAny_bind (wpAny_load ho ?_)
  rw [hd]
  refine wpAny_pure ?_
  rw [if_neg (by simp only [List.length_nil]; omega)]
  refine wpR_bind ?_
  unfold callMarked
  exact wpR_keep (wpR_mono h₁ (fun r s₂ hr => wpR_any (wpAny_bind (wpAny_holding (wpAny_point (wpAny_pure hr))))) fun _ _ x => x)

theorem callWithR_kw {M : Model} {A : Around} {E : Value → Shared → Prop} {s : Shared} {pos : Pos} {id : String} {args : List (Bool × Sem Value)} {keywords : List (Option Str × Sem Value)} {Q : Value → Shared → Prop}
    (hplain : args.any (·.1) = false) (hkw : keywords.any (·.1.isNone) = false)
    (h : wpAny M A (evalArgs (.builtin id) true args keywords) (fun a s₁ => wpR K M A (call (.builtin id) a.pos a.kw) Q E s₁) E s) :
    wpR K M A (callWith pos (.builtin id) [] args keywords) Q E s := by
  unfold callWith
  refine wpR_bind (wpR_holding (wpR_any (wpAny_mono h (fun a s₁ h₁ => wpR_bind (wpR_standAt ?_)) fun _ _ x => x)))
  simp only [hplain, hkw, Bool.or_false]
  refine wpR_bind (wpR_pure ?_)
  exact wpR_bind (wpR_mono h₁ (fun r s₂ hr => wpR_any (wpAny_bind (wpAny_holding (wpAny_point (wpAny_pure hr))))) fun _ _ x => x)

theorem evR_fn {f : Str} {fp pos : Pos} {a c : Addr} {i : Nat} {name : Str} {e : Expr} {es : List Expr} {ds : List PyData} {P : Value → Fz → Prop} (S : Sc C sc) (G : GB Bb) (hx : (f, Value.ref a) ∈ gNames) (hfn : ∀ h, GlobH h → FnAt h a c i name) (ha : Evs C m own Bb (e :: es) ds)
    (hc : ∀ vs B s, Bb.le B → Fs C m own B s → RpAll B vs ds → GivesR K C.prog C.w C.A (C.env.locals :: C.F) (.ref a) vs P B s)
    (he : starEach (e :: es) C.env = (false, eval e C.env) :: starEach es C.env := by rfl) (hpl : (backTo pos (starEach (e :: es) C.env)).any (·.1) = false := by rfl) (hlen : (starEach (e :: es) C.env).length ≤ 30 := by decide)
    (hl : sc.names.lookup f = some .globalImplicit := by rfl) (hd : (f == ("__debug__" : Str)) = false := by decide)
    {E : Value → Shared → Prop} {B : Fz} {s : Shared} (hb : Bb.le B) (H : Fs C m own B s) {Q : Value → Shared → Prop} (k : ∀ v B' s', B.le B' → Fs C m own B' s' → P v B' → Q v s') :
    wpR K (model C.prog C.w) C.A (eval (.Call (.Name f fp) (e :: es) [] pos) C.env) Q E s := by
  rw [arm_eval_Call_Name']
  refine wpR_abind ((ev_global S G hx hl hd).out E B s hb H _ fun v B1 s1 hle1 H1 q => ?_)
  subst q
  refine callWithR_fn hpl (by show (List.map _ (starEach (e :: es) C.env)).length ≤ 30; rw [List.length_map]; exact hlen) ?_
  have hx := evs_spliced (pos := pos) ha E B1 s1 (hb.trans hle1) H1 (fun vs s' => (∃ o fd, s'.heap.get? a = some o ∧ o.data = .func fd) ∧ wpR K (model C.prog C.w) C.A (call (.ref a) ([] ++ vs) []) Q E s') fun vs B2 s2 hle2 H2 p => by
      obtain ⟨o2, pm2, ho2, hd2, _⟩ := hfn _ (G _ (H2.bin.le (hb.trans (hle1.trans hle2))))
      refine ⟨⟨o2, _, ho2, hd2⟩, wpR_call (codeR_mono (hc vs B2 s2 (hb.trans (hle1.trans hle2)) H2 p).out fun r s' hr => ?_)⟩
      obtain ⟨v, B', rfl, g, hp⟩ := hr
      exact k v B' s' (hle1.trans (hle2.trans g.le)) (H2.call (by simp) g) hp
  rw [he] at hx ⊢
  exact Calls.evalArgs_plain hx
end
end Mine

end

section
open PySem PySem.W PyProof.Rows PySem.NumText PySem.Calls
set_option maxRecDepth 100000
set_option linter.all false
namespace Mine

theorem markTheRefusal_cal {M : Model} {A : Around} {E : Value → Shared → Prop} {s : Shared} {own : List String} {e : Value} {Q : Unit → Shared → Prop} (h : Q () s) : wpR .cal M A (markTheRefusal own e) Q E s := by
  unfold markTheRefusal
  refine wpR_bind (wpR_stack fun st hst => ?_)
  have hf : pythonCodeMadeTheCall own (st.map (·.1)) = false := by
    unfold pythonCodeMadeTheCall
    have h1 : (st.map (·.1)).any Code.isCaller = true := hst
    show ((!(st.map (·.1)).any Code.isCaller) && _ && _) = false
    rw [h1]
    rfl
  rw [hf]
  exact wpR_pure h

/-- the text is no numeral -/
def NoNum (x : Str) : Prop := (int_private% "readNumeral") 0 10 (numSeenOf x) = int_private% "Numeral.invalid"

theorem intFromText_eq {x : Str} {t : Tok} (hs : (numSeenOf x).length ≤ 640) (hr : NoNum x) :
    (int_private% "intFromText") (.str x t) (numTextOf x) 10 = (do
      rule "int.__new__.invalid-literal"
      let shown ← pyRepr (.str x t)
      let m ← mkStr (((s!"invalid literal for int() with base {10}: " : String) ++ ⟨shown.cps.extract 0 200⟩ : Str))
      let refusal ← newExc (.type "ValueError") [m]
      markTheRefusal ["int.__new__"] refusal
      raiseNew refusal) := by
  have e : ∃ (T D : Sem Value), (int_private% "intFromText") (.str x t) (numTextOf x) 10 = (if (numSeenOf x).length ≤ 640 then T else D) ∧ T = (do
      rule "int.__new__.invalid-literal"
      let shown ← pyRepr (.str x t)
      let m ← mkStr (((s!"invalid literal for int() with base {10}: " : String) ++ ⟨shown.cps.extract 0 200⟩ : Str))
      let refusal ← newExc (.type "ValueError") [m]
      markTheRefusal ["int.__new__"] refusal
      raiseNew refusal) := by
    refine ⟨_, _, rfl, ?_⟩
    rw [show ((numTextOf x).takeWhile fun y => y != 0) = numSeenOf x from rfl, pure_bind]
    unfold NoNum at hr
    dsimp only
    rw [hr]
    rfl
  obtain ⟨T, D, e1, e2⟩ := e
  rw [e1, if_pos hs, e2]
theorem intFromText_refuses {A : Around} {E : Value → Shared → Prop} {s : Shared} {Q : Value → Shared → Prop} {prog : Program} {w : World} {x : Str} {t : Tok} (hl : x.length ≤ 640) (hn : NoNum x) (hr : (reprText x).length ≤ 1000)
    (hh : A.handled = none) (h : ∀ h' tk e, Heap.NewExcOf s.heap h' e "ValueError" → E (.ref e) { s with heap := h', toks := tk }) :
    wpR .cal (model prog w) A ((int_private% "intFromText") (.str x t) (numTextOf x) 10) Q E s := by
  rw [intFromText_eq (Nat.le_trans (seen_length x) hl) hn]
  refine wpR_bind (wpR_rule ?_)
  refine wpR_abind (wpAny_pyRepr_str ?_ (by rw [sizeLine_eq]; omega))
  refine wpR_abind (wpAny_mkStr ?_ ?_)
  · refine wpR_abind (wpAny_newExc_plain plainExc_ValueError (fun h' e hm => ?_) (by rw [sizeLine_eq]; show (1 : Nat) ≤ _; decide))
    refine wpR_bind (markTheRefusal_cal ?_)
    refine wpR_any (wpAny_raiseNew_none hh (h h' _ e ⟨hm.keeps, hm.new, ?_⟩))
    obtain ⟨t', he, _⟩ := hm.there
    exact ⟨_, _, he, rfl, rfl, rfl⟩
  · rw [Str.length_append]
    have : (Str.mk ((reprText x).cps.extract 0 200)).length ≤ (reprText x).length := by
      show ((reprText x).cps.extract 0 200).size ≤ (reprText x).cps.size
      rw [Array.size_extract]; omega
    have e : (Str.ofString (toString "invalid literal for int() with base " ++ toString (10 : Nat) ++ toString ": ")).length ≤ 100 := by decide +kernel
    have : (Str.ofString (toString "invalid literal for int() with base " ++ toString (10 : Nat) ++ toString ": ")).length + (Str.mk ((reprText x).cps.extract 0 200)).length ≤ 100 + 1000 := Nat.add_le_add e (by omega)
    rw [sizeLine_eq]
    exact Nat.le_trans this (by decide)

theorem new_eq {x : Str} {t u : Tok} : Builtin.«int.__new__» ⟨[.type "int", .str x t, .int 10 u], []⟩ = ((int_private% "intFromText") (.str x t) (numTextOf x) 10 >>= fun v => ret v) := by
  have f1 := F.conv_sub_int
  have f2 := F.madeHere_int
  unfold Builtin.«int.__new__»
  dsimp only
  rw [show isType (.type "int") = pure true from rfl, pure_bind, f1]
  simp only [pure_bind, Bool.not_true, Bool.false_eq_true, if_false, f2]
  rfl

theorem codeR_builtin {K : Kp} {prog : Program} {w : World} {A : Around} {R : Result → Shared → Prop} {s : Shared} {id : String} {args : Args} {b : Builtin} (hb : entryFor table id = some b)
    (h : wpR K (model prog w) (A.under (.builtin id args)) (b args)
      (fun fin s' => match fin with | .done f => R (.ok f) s' | .again c' => c'.quiet = true ∧ codeR K (model prog w) A c' R s') (fun e s' => R (.error e) s') s) :
    codeR K (model prog w) A (.builtin id args) R s := by
  refine codeR_of_tree ?_
  show wpR K _ _ (match entryFor table id with | some b => b args | none => unsupported ((withoutEnding? id "#data").getD id)) _ _ s
  rw [hb]; exact h
theorem newCall_int_2 (a b : Value) : checkBuiltinCall "int.__new__" ⟨[.type "int", a, b], []⟩ = pure () := by kernel_rfl
theorem typeCall_int_2 (a b : Value) : checkTypeCall "int" ⟨[a, b], []⟩ = pure () := by kernel_rfl
theorem init_2 (o a b : Value) : argsOk "object.__init__" ⟨[o, a, b], []⟩ := by unfold argsOk; kernel_rfl

section
variable {prog : Program} {w : World} {A : Around} {E : Value → Shared → Prop} {s : Shared} {Q : Value → Shared → Prop} {x : Str} {t u : Tok} {n : Int}
theorem gives_int10 (hl : x.length ≤ 640) (hn : PySem.intText? x = some n) : Gives (Builtin.«int.__new__» ⟨[.type "int", .str x t, .int 10 u], []⟩) (.int n) :=
  .of_wp fun M A E s Q h => by
    have hs : (numSeenOf x).length ≤ 640 := Nat.le_trans (seen_length x) hl
    have hr : (int_private% "readNumeral") 0 10 (numSeenOf x) = (int_private% "Numeral.value") n ∧ ((numSeenOf x).length == (numTextOf x).length) = true := by
      rcases read0 x hs with ⟨m, h1, h2, h3⟩ | ⟨h1, _⟩
      · rw [hn] at h1
        injection h1 with h1
        subst h1
        exact ⟨h3, h2⟩
      · rw [hn] at h1
        cases h1
    rw [new_eq]
    exact wpAny_bind (KIN.wp_text hs hr.1 hr.2 (wpAny_pure ⟨_, rfl, h⟩))
theorem call_int10 (hl : x.length ≤ 640) (hn : PySem.intText? x = some n) (h : Q (.int n s.toks) { s with toks := s.toks + 1 }) : wpAny (model prog w) A (call (.type "int") [.str x t, .int 10 u]) Q E s :=
  callType_new F.called_int F.newNe_int (typeCall_int_2 _ _) (newCall_int_2 _ _) (fun obj => init_2 _ _ _) F.entry_int_new (gives_int10 hl hn).meets (show (Made.int n).post _ s from ⟨rfl, h⟩)

theorem call_int10_refuses (hl : x.length ≤ 640) (hn : NoNum x) (hr : (reprText x).length ≤ 1000) (hh : A.handled = none)
    (h : ∀ h' tk e, Heap.NewExcOf s.heap h' e "ValueError" → E (.ref e) { s with heap := h', toks := tk }) : wpR .cal (model prog w) A (call (.type "int") [.str x t, .int 10 u]) Q E s := by
  refine wpR_call (codeR_of_tree ?_)
  show wpR _ _ _ (callAny (.type "int") _) _ _ _
  refine wpR_pure ⟨Code.quiet_builtin _ (by decide +kernel), codeR_builtin F.entry_type_call ?_⟩
  rw [Around.under_plain (weight_type_call_type "int" _ []) (units_type_call_type "int" _ [])]
  have e : ∃ tl : Value → Sem PySem.Fin, Builtin.«type.__call__» ⟨[.type "int", .str x t, .int 10 u], []⟩ = (holding [.builtin "int.__new__"] (call (.builtin "int.__new__") [.type "int", .str x t, .int 10 u]) >>= tl) := by
    apply Exists.intro
    unfold Builtin.«type.__call__»
    have h1 := F.called_int.notType
    have h2 := F.called_int.canCreate
    dsimp only
    simp only [h1, h2, Bool.false_eq_true, if_false, pure_bind, typeCall_int_2, F.mro_int, List.isEmpty_cons, F.called_int.made]
    rfl
  obtain ⟨tl, e⟩ := e
  rw [e]
  refine wpR_bind (wpR_holding (wpR_call (codeR_call_builtin (by decide +kernel) F.entry_int_new ?_)))
  rw [newCall_int_2]
  refine wpAny_pure ?_
  rw [new_eq]
  exact wpR_bind (intFromText_refuses hl hn hr hh h)
end
end Mine

end

section
open PySem PySem.W PyProof.Rows
set_option maxRecDepth 100000
set_option linter.all false
namespace Mine

structure Fms (C : Cx) : Prop where
  outer : ∃ outer, C.A.frames = some (C.env :: outer) ∧ ∀ e ∈ outer, e.scope.kind ≠ .module ∧ ∃ a ∈ C.F, e.frame = some a
  own : C.env.frame = some C.env.locals
  data : ∀ a ∈ C.F, ∃ o, C.s0.heap.get? a = some o ∧ ∀ vs, o.data ≠ .fields vs
structure Frs (A : Around) (F : List Addr) (s : Shared) : Prop where
  fr : ∃ l, A.frames = some l ∧ ∀ e ∈ l, e.scope.kind ≠ .module ∧ ∃ a ∈ F, e.frame = some a
  data : ∀ a ∈ F, ∃ o, s.heap.get? a = some o ∧ ∀ vs, o.data ≠ .fields vs
theorem Frs.in1 {A : Around} {F : List Addr} {s : Shared} (h : Frs A F s) : Frs A.in1 F s := ⟨h.fr, h.data⟩
theorem Fms.of {C : Cx} {A : Around} {F : List Addr} {s : Shared} (h : Frs A F s) (hA : C.A = A.deeper C.env) (hF : C.F = F) (hs : C.s0 = s) (ho : C.env.frame = some C.env.locals) : Fms C := by
  obtain ⟨l, e, k⟩ := h.fr
  refine ⟨⟨l, ?_, fun e he => hF ▸ k e he⟩, ho, fun a ha => hs ▸ h.data a (hF ▸ ha)⟩
  rw [hA]
  show A.frames.map _ = _
  rw [e]; rfl

section
variable {C : Cx} {m : Str → Option Value} {own : Own} {B : Fz} {s : Shared}
theorem Fs.noFields (H : Fs C m own B s) (Fm : Fms C) : ∀ a ∈ C.env.locals :: C.F, ∃ o, s.heap.get? a = some o ∧ ∀ vs, o.data ≠ .fields vs := fun a ha => by
  rcases List.mem_cons.mp ha with rfl | ha
  · obtain ⟨o, es, ep, ho, hd, _⟩ := id H.ns
    exact ⟨o, ho, fun vs q => by rw [hd] at q; cases q⟩
  · obtain ⟨o, ho, hn⟩ := Fm.data a ha
    obtain ⟨sl, e⟩ := H.gr.tr.slot a o ho
    exact ⟨_, e, hn⟩
theorem Fs.frs (H : Fs C m own B s) (Fm : Fms C) (hk : C.env.scope.kind ≠ .module) : Frs C.A (C.env.locals :: C.F) s := by
  obtain ⟨outer, e, k⟩ := Fm.outer
  refine ⟨⟨_, e, fun x hx => ?_⟩, H.noFields Fm⟩
  rcases List.mem_cons.mp hx with rfl | hx
  · exact ⟨hk, _, .head _, Fm.own⟩
  · obtain ⟨h1, a, h2, h3⟩ := k x hx
    exact ⟨h1, a, .tail _ h2, h3⟩

abbrev onA (C : Cx) (A : Around) : Cx := { C with A := A }
theorem Fs.on (H : Fs C m own B s) (A : Around) : Fs (onA C A) m own B s := ⟨H.ns, H.gr, H.lnew, H.lout, H.mine, H.ond, H.fout⟩
theorem Fs.off {A : Around} (H : Fs (onA C A) m own B s) : Fs C m own B s := ⟨H.ns, H.gr, H.lnew, H.lout, H.mine, H.ond, H.fout⟩
theorem Sc.on {sc : Scope} (S : Sc C sc) (A : Around) : Sc (onA C A) sc := ⟨S.scope, S.kind, S.glob, S.bi⟩

def frameList (C : Cx) (outer : List Env) : List Addr := (C.env :: outer).filterMap (·.frame)
theorem frames_in {outer : List Env} (Fm : Fms C) (k : ∀ e ∈ outer, e.scope.kind ≠ .module ∧ ∃ a ∈ C.F, e.frame = some a) : ∀ b ∈ frameList C outer, b ∈ C.env.locals :: C.F := fun b hb => by
  obtain ⟨e, he, hf⟩ := List.mem_filterMap.mp hb
  rcases List.mem_cons.mp he with rfl | he
  · rw [Fm.own] at hf; cases hf; exact .head _
  · obtain ⟨_, a, h2, h3⟩ := k e he
    rw [h3] at hf; cases hf; exact .tail _ h2
theorem funFrames {h : Heap} {base : Heap} : ∀ {l : List Env}, (∀ e ∈ l, e.scope.kind ≠ .module ∧ ∃ L o, e.frame = some L ∧ base.get? L = none ∧ h.get? L = some o ∧ ∀ vs, o.data ≠ .fields vs) → h.FunFrames base l
  | [], _ => trivial
  | e :: l, k => ⟨(k e (.head _)).1, (k e (.head _)).2, funFrames fun x hx => k x (.tail _ hx)⟩

/-- what the handling of an exception leaves of the frame -/
theorem Fs.after (H : Fs C m own B s) {outer : List Env} (Fm : Fms C) (k : ∀ e ∈ outer, e.scope.kind ≠ .module ∧ ∃ a ∈ C.F, e.frame = some a) {h' : Heap} {tk : Nat}
    (hst : (hideAll s.heap (frameList C outer)).StaysIn h') (hup : ∀ b o, s.heap.get? b = some o → (∀ vs, o.data ≠ .fields vs) → ∃ sl, h'.get? b = some { o with slots := sl }) : Fs C m own B { s with heap := h', toks := tk } := by
  have hin := frames_in Fm k
  have keep : ∀ b o, b ∉ C.env.locals :: C.F → s.heap.get? b = some o → h'.get? b = some o := fun b o hb e => hst b o (hideAll_get _ e fun q => hb (hin b q))
  refine H.call (F' := C.env.locals :: C.F) (by simp) ⟨⟨⟨h', tk, rfl⟩, keep, fun b o e => ?_⟩, .rfl, fun a o e => keep a o (fun q => ?_) (H.bin a o e), fun a o e => .inl e⟩
  · by_cases hb : b ∈ C.env.locals :: C.F
    · obtain ⟨o', e', hn⟩ := H.noFields Fm b hb
      rw [e] at e'; cases e'
      exact hup b o e hn
    · exact ⟨o.slots, keep b o hb e⟩
  · rw [(H.ref (f := .none) (F := []) a q).1] at e; cases e

theorem caught {K : Kp} {sc : Scope} {e : Addr} {h₁ : Heap} {tk : Nat} {np hp : Pos} {b₀ : Stmt} {suite : List Stmt} {rest : List ExceptHandler} {Q : Flow → Shared → Prop} {E : Value → Shared → Prop}
    (S : Sc C sc) (Fm : Fms C) (G : GB B) (H : Fs C m own B s) (hx : Heap.NewExcOf s.heap h₁ e "ValueError")
    (k : ∀ s' E', Fs (onA C (C.A.mark (some (.ref e)))) m own B s' → Wx (onA C (C.A.mark (some (.ref e)))) (b₀ :: suite) Q E' s')
    (hl : sc.names.lookup (Str.ofString "ValueError") = some .globalImplicit) :
    wpAny (model C.prog C.w) C.A (noteFrame (.ref e) C.env) (fun _ s₂ => wpAny (model C.prog C.w) C.A (setFlight (.ref e) none) (fun _ s₃ =>
      wpAny (model C.prog C.w) C.A (handleBy (.ref e) C.env (.ExceptHandler (some (.Name (Str.ofString "ValueError") np)) none (b₀ :: suite) hp :: rest)) Q E s₃) E s₂) E { s with heap := h₁, toks := tk } := by
  obtain ⟨outer, hfr, ko⟩ := Fm.outer
  obtain ⟨ob, vs, he, hcls, hd, h1⟩ := hx.there
  have hsz : 1 < vs.size := (Array.getElem?_eq_some_iff.mp h1).1
  have hin := frames_in Fm ko
  have hst1 : (hideAll s.heap (frameList C outer)).StaysIn h₁ := fun b o q => hx.keeps b o (of_hideAll _ q)
  have hen : (hideAll s.heap (frameList C outer)).get? e = none := by
    cases q : (hideAll s.heap (frameList C outer)).get? e with
    | none => rfl
    | some o => have := of_hideAll _ q; rw [hx.new] at this; cases this
  have hff : h₁.FunFrames (hideAll s.heap (frameList C outer)) (C.env :: outer) := funFrames fun x hx' => by
    have hm : ∀ a, x.frame = some a → a ∈ frameList C outer := fun a ha => List.mem_filterMap.mpr ⟨x, hx', ha⟩
    rcases List.mem_cons.mp hx' with rfl | hx2
    · obtain ⟨o, ho, hn⟩ := H.noFields Fm _ (.head _)
      exact ⟨by rw [S.k]; decide, _, o, Fm.own, hideAll_none _ (hm _ Fm.own), hx.keeps _ _ ho, hn⟩
    · obtain ⟨g1, a, g2, g3⟩ := ko x hx2
      obtain ⟨o, ho, hn⟩ := H.noFields Fm a (.tail _ g2)
      exact ⟨g1, a, o, g3, hideAll_none _ (hm a g3), hx.keeps _ _ ho, hn⟩
  have up1 : ∀ b o, s.heap.get? b = some o → (∀ vs, o.data ≠ .fields vs) → ∃ sl, h₁.get? b = some { o with slots := sl } := fun b o e _ => ⟨o.slots, hx.keeps b o e⟩
  obtain ⟨a0, h0⟩ : ∃ a0, vs[0]? = some a0 := ⟨_, Array.getElem?_eq_getElem (by omega)⟩
  unfold noteFrame
  simp only [Fm.own]
  refine wpAny_bind (wpAny_field he hd h1 ?_)
  rw [if_neg (by decide)]
  refine wpAny_entryW hfr hff Fm.own he hst1 hen hd hsz h0 fun h₂ hN => ?_
  obtain ⟨s2, f2, t2, u2⟩ := hN
  refine wpAny_setFlight_noneW s2 f2 t2 fun h₃ s3 f3 t3 u3 => ?_
  have up3 : ∀ b o, s.heap.get? b = some o → (∀ vs, o.data ≠ .fields vs) → ∃ sl, h₃.get? b = some { o with slots := sl } := fun b o e hn => by
    obtain ⟨sl, e1⟩ := up1 b o e hn
    obtain ⟨sl2, e2⟩ := u2 b _ e1 hn
    exact ⟨sl2, u3 b _ e2 hn⟩
  have H3 := H.after (tk := tk) Fm ko s3 up3
  obtain ⟨ob3, g1, g2⟩ := t3.at.there
  rw [hcls] at g2
  refine wpAny_handleBy_builtin (X := "ValueError") (T := "ValueError") (b := true) PySem.F.isExc_ValueError PySem.F.notTuple_ValueError (by rw [isSubtype_type]; kernel_rfl) ?_
  have gl := G _ H3.bin
  obtain ⟨mg, w1, _, w3⟩ := gl.g
  obtain ⟨mb, w4, w5⟩ := gl.b
  have hm : (Str.ofString "ValueError", Value.type "ValueError") ∈ bNames := by decide
  refine Calls.Name_function_global S.k (S.of hl) (Calls.loadGlobal_builtin (S.glob ▸ w1) (w3 _ hm) (S.bi ▸ w4) (w5 _ hm) ⟨rfl, ⟨ob3, g1, g2⟩, ?_⟩) (by decide)
  rw [if_pos rfl]
  refine wpAny_setFlight_noneW s3 f3 t3.at fun h₄ s4 f4 t4 u4 => ?_
  have H4 := H.after (tk := tk) Fm ko s4 fun b o e hn => by
    obtain ⟨sl, e1⟩ := up3 b o e hn
    exact ⟨sl, u4 b _ e1 hn⟩
  exact (k _ _ (H4.on _)).out

/-- an exception that a call of the frame has raised -/
def Raised (C : Cx) (m : Str → Option Value) (own : Own) (B : Fz) : Value → Shared → Prop := fun ev s1 =>
  ∃ e B' s' h1 tk, ev = .ref e ∧ B.le B' ∧ Fs C m own B' s' ∧ s1 = { s' with heap := h1, toks := tk } ∧ Heap.NewExcOf s'.heap h1 e "ValueError"
end

section
variable {K : Kp} {C : Cx} {sc : Scope} {l : List (Str × Value)} {own : Own} {B : Fz} {s : Shared} {E : Value → Shared → Prop} {Q : Flow → Shared → Prop} {rest : List Stmt}
theorem wr_try {body suite : List Stmt} {b₀ : Stmt} {np hp pos : Pos} (J : Shared → Prop) (S : Sc C sc) (Fm : Fms C) (G : GB B) (_H : Fs C (lk l) own B s)
    (hb : Wr K C body (fun f s1 => f = .next ∧ J s1) (Raised C (lk l) own B) s)
    (hk : ∀ e B' s' E', B.le B' → Fs (onA C (C.A.mark (some (.ref e)))) (lk l) own B' s' → Wx (onA C (C.A.mark (some (.ref e)))) (b₀ :: suite) (fun f s'' => f = .next ∧ J s'') E' s')
    (k : ∀ s'', J s'' → Wr K C rest Q E s'') (hl : sc.names.lookup (Str.ofString "ValueError") = some .globalImplicit := by rfl) :
    Wr K C (.Try body [.ExceptHandler (some (.Name (Str.ofString "ValueError") np)) none (b₀ :: suite) hp] [] [] pos :: rest) Q E s := by
  refine Wr.cons ?_
  rw [arm_exec_Try]
  refine wpR_bind (wpR_standAt ?_)
  unfold tryStmt
  simp only [List.isEmpty_nil, if_true, List.isEmpty_cons, Bool.false_and, Bool.false_eq_true, if_false]
  refine wpR_bind (wpR_attempt (wpR_mono hb.out (fun f s1 h1 => ?_) fun ev s1 h1 => ?_))
  · obtain ⟨rfl, hJ⟩ := h1
    exact wpR_execs_nil ⟨rfl, k _ hJ⟩
  · obtain ⟨e, B', s', h1, tk, rfl, hle, H', rfl, hx⟩ := h1
    refine wpR_any (wpAny_bind (wpAny_mono (caught (K := K) S Fm (G.le hle) H' hx (fun s2 E' H2 => (hk e B' s2 E' hle H2).mono fun f s3 h3 => ⟨h3.1, k _ h3.2⟩) hl (Q := fun f s'' => f = .next ∧ Wr K C rest Q E s'') (np := np) (hp := hp) (rest := [])) (fun _ s2 h2 => ?_) fun _ _ x => x))
    exact wpAny_bind h2
theorem wr_tryOk {body : List Stmt} {h₀ : ExceptHandler} {pos : Pos} (J : Shared → Prop) (hb : ∀ E', Wr K C body (fun f s1 => f = .next ∧ J s1) E' s) (k : ∀ s'', J s'' → Wr K C rest Q E s'') :
    Wr K C (.Try body [h₀] [] [] pos :: rest) Q E s := by
  refine Wr.cons ?_
  rw [arm_exec_Try]
  refine wpR_bind (wpR_standAt ?_)
  unfold tryStmt
  simp only [List.isEmpty_nil, if_true, List.isEmpty_cons, Bool.false_and, Bool.false_eq_true, if_false]
  refine wpR_bind (wpR_attempt (wpR_mono (hb fun _ _ => False).out (fun f s1 h1 => ?_) fun ev s1 h1 => h1.elim))
  obtain ⟨rfl, hJ⟩ := h1
  exact wpR_execs_nil ⟨rfl, k _ hJ⟩
end
end Mine

end

section
open PySem PySem.W PyProof.Rows
set_option maxRecDepth 100000
namespace Mine

def cdA : Array Nat := #[14, 4, 0, 1, 4294967295, 17, 0, 7, 14, 24, 10, 1, 4294967295, 13, 5, 22, 48, 57, 0, 1, 15, 17, 15, 13, 11, 9, 0, 26624, 2147483648, 0, 0, 0, 0, 0, 0, 15, 2, 0, 17, 1, 1]

def isDig (c : Nat) : Bool := 48 ≤ c && c ≤ 57
def isSep (c : Nat) : Bool := c == 46 || c == 95 || c == 43 || c == 45

theorem runFor_add (a b : Nat) (m : Sre.M) : Sre.M.runFor (a + b) m = Sre.M.runFor b (Sre.M.runFor a m) := by
  induction a generalizing m with
  | zero => simp [Sre.M.runFor]
  | succ a ih =>
    rw [Nat.succ_add, Sre.M.runFor, Sre.M.runFor]
    by_cases h : m.outcome.isSome
    · rw [if_pos h, if_pos h]
      cases b with
      | zero => rfl
      | succ b => rw [Sre.M.runFor, if_pos h]
    · rw [if_neg h, if_neg h, ih]

theorem runFor_done {m : Sre.M} (h : m.outcome.isSome) : ∀ n, Sre.M.runFor n m = m
  | 0 => rfl
  | n + 1 => by rw [Sre.M.runFor, if_pos h]

theorem runFor_step {m : Sre.M} (h : m.outcome = none) (n : Nat) : Sre.M.runFor (n + 1) m = Sre.M.runFor n m.step := by
  rw [Sre.M.runFor, if_neg (by simp [h])]

/-- a machine state on our code -/
@[reducible] def mk (text : Array Nat) (lim st pos pc : Nat) (marks : Array (Option Nat)) (handed : Nat) (om : Bool) (lm li : Int) (frames : List Sre.Frame) (weight : Nat) (ans : Option Bool) (seen : Sre.Seen) : Sre.M :=
  { code := cdA, text := text, lim := lim, start := st, lastStart := lim, wholeText := false, mustAdvance := false, pc := pc, pos := pos, handed := handed, outermost := om,
    marks := marks, lastmark := lm, lastindex := li, loops := #[], inner := none, frames := frames, weight := weight, answer := ans, seen := seen, outcome := none }

@[reducible] def fS (p : Nat) (om : Bool) : Sre.Frame := { wait := .nextStart, pc := 5, pos := p, outermost := om }
@[reducible] def kp : Sre.Kept := { lastmark := 0, lastindex := -1, whole := false, marks := #[] }
@[reducible] def fB (p : Nat) (om : Bool) (pc : Nat) : Sre.Frame := { wait := .nextBranch, pc := pc, pos := p, outermost := om, kept := kp }
@[reducible] def fG (p : Nat) (om : Bool) (n : Nat) : Sre.Frame := { wait := .giveBack, pc := 9, pos := p, outermost := om, count := n, kept := kp }

section
variable (text : Array Nat) (lim p : Nat) (marks : Array (Option Nat)) (handed : Nat) (om : Bool) (seen : Sre.Seen)

theorem go1 : (mk text lim p p 5 marks handed om (-1) (-1) [fS p om] 1 none seen).step = mk text lim p p 7 (marks.setIfInBounds 0 (some p)) handed om 0 (-1) [fS p om] 1 none (seen.add 17) := rfl
theorem go2 : (mk text lim p p 7 marks handed om 0 (-1) [fS p om] 1 none seen).step = mk text lim p p 9 marks p om 0 (-1) [fB p om 8, fS p om] 2 none (seen.add 7) := rfl

/-- the first way: digits -/
theorem go3_out (h : lim ≤ p) : ∃ sn, (mk text lim p p 9 marks handed om 0 (-1) [fB p om 8, fS p om] 2 none seen).step = mk text lim p p 9 marks handed om 0 (-1) [fB p om 8, fS p om] 2 (some false) sn := by
  refine ⟨seen.add 24, ?_⟩
  show (if ((1 : Nat) : Int) > ((lim : Int) - (p : Int)) then _ else _) = _
  rw [if_pos (by omega)]
  rfl
theorem go3 {n : Nat} {sn : Sre.Seen} (h : p < lim) (hr : Sre.run cdA text 13 (min 4294967295 ((lim : Int) - (p : Int)).toNat) p 0 ((seen.add 24).add 13) = .ok (n, sn)) (hn : 1 ≤ n) :
    (mk text lim p p 9 marks handed om 0 (-1) [fB p om 8, fS p om] 2 none seen).step = mk text lim p (p + n) 20 marks (p + n) om 0 (-1) [fG (p + n) om n, fB p om 8, fS p om] 3 none sn := by
  rw [show (mk text lim p p 9 marks handed om 0 (-1) [fB p om 8, fS p om] 2 none seen).step = (mk text lim p p 9 marks handed om 0 (-1) [fB p om 8, fS p om] 2 none seen).exec from rfl]
  unfold Sre.M.exec
  rw [show Sre.ops[(mk text lim p p 9 marks handed om 0 (-1) [fB p om 8, fS p om] 2 none seen).word 0]? = some Sre.Op.REPEAT_ONE from rfl]
  dsimp only
  rw [if_neg (by show ¬ (((1 : Nat) : Int) > _); omega)]
  generalize hg : Sre.run cdA text _ _ _ _ _ = r
  obtain rfl : r = .ok (n, sn) := hg.symm.trans hr
  dsimp only
  rw [if_neg (by show ¬ (n < 1); omega)]
  rfl
theorem go3_no {sn : Sre.Seen} (h : p < lim) (hr : Sre.run cdA text 13 (min 4294967295 ((lim : Int) - (p : Int)).toNat) p 0 ((seen.add 24).add 13) = .ok (0, sn)) :
    (mk text lim p p 9 marks handed om 0 (-1) [fB p om 8, fS p om] 2 none seen).step = mk text lim p p 9 marks handed om 0 (-1) [fB p om 8, fS p om] 2 (some false) sn := by
  rw [show (mk text lim p p 9 marks handed om 0 (-1) [fB p om 8, fS p om] 2 none seen).step = (mk text lim p p 9 marks handed om 0 (-1) [fB p om 8, fS p om] 2 none seen).exec from rfl]
  unfold Sre.M.exec
  rw [show Sre.ops[(mk text lim p p 9 marks handed om 0 (-1) [fB p om 8, fS p om] 2 none seen).word 0]? = some Sre.Op.REPEAT_ONE from rfl]
  dsimp only
  rw [if_neg (by show ¬ (((1 : Nat) : Int) > _); omega)]
  generalize hg : Sre.run cdA text _ _ _ _ _ = r
  obtain rfl : r = .ok (0, sn) := hg.symm.trans hr
  rfl

theorem go4 (n : Nat) : (mk text lim p (p + n) 20 marks handed om 0 (-1) [fG (p + n) om n, fB p om 8, fS p om] 3 none seen).step = mk text lim p (p + n) 38 marks handed om 0 (-1) [fG (p + n) om n, fB p om 8, fS p om] 3 none (seen.add 15) := rfl
theorem go5 (n : Nat) (fr : List Sre.Frame) (wt : Nat) : (mk text lim p n 38 marks handed om 0 (-1) fr wt none seen).step = mk text lim p n 40 (marks.setIfInBounds 1 (some n)) handed om 1 1 fr wt none (seen.add 17) := by
  rw [show (mk text lim p n 38 marks handed om 0 (-1) fr wt none seen).step = (mk text lim p n 38 marks handed om 0 (-1) fr wt none seen).exec from rfl]
  unfold Sre.M.exec
  rw [show Sre.ops[(mk text lim p n 38 marks handed om 0 (-1) fr wt none seen).word 0]? = some Sre.Op.MARK from rfl]
  dsimp only
  unfold Sre.M.mark
  rw [show ({ mk text lim p n 38 marks handed om 0 (-1) fr wt none seen with seen := seen.add ((mk text lim p n 38 marks handed om 0 (-1) fr wt none seen).word 0) } : Sre.M).word 1 = 1 from rfl]
  dsimp only
  rw [if_pos (by decide)]
  rfl
theorem go6 (n : Nat) (fr : List Sre.Frame) (wt : Nat) : (mk text lim p n 40 marks handed om 1 1 fr wt none seen).step = mk text lim p n 40 marks n om 1 1 fr wt (some true) (seen.add 1) := by
  cases om <;> rfl
theorem go7 (n q c w : Nat) : (mk text lim p q c marks handed om 1 1 [fG (p + n) om n, fB p om 8, fS p om] w (some true) seen).step = mk text lim p (p + n) 9 marks handed om 1 1 [fB p om 8, fS p om] (w - 1) (some true) seen := rfl
theorem go8 (q c w b : Nat) : (mk text lim p q c marks handed om 1 1 [fB p om b, fS p om] w (some true) seen).step = mk text lim p p b marks handed om 1 1 [fS p om] (w - 1) (some true) seen := rfl
theorem go9 (q c w : Nat) : (mk text lim p q c marks handed om 1 1 [fS p om] w (some true) seen).step = mk text lim p p 5 marks handed om 1 1 [] (w - 1) (some true) seen := rfl
theorem go10 (q c w : Nat) : (mk text lim p q c marks handed om 1 1 [] w (some true) seen).step = { mk text lim p q c marks handed om 1 1 [] w (some true) seen with outcome := some .matched } := rfl

/-- the second way: one sign -/
theorem go11 (q c : Nat) : (mk text lim p q c marks handed om 0 (-1) [fB p om 8, fS p om] 2 (some false) seen).step = mk text lim p p 23 marks p om 0 (-1) [fB p om 22, fS p om] 2 none seen := rfl
theorem go12_out (h : lim ≤ p) : (mk text lim p p 23 marks handed om 0 (-1) [fB p om 22, fS p om] 2 none seen).step = mk text lim p p 23 marks handed om 0 (-1) [fB p om 22, fS p om] 2 (some false) (seen.add 13) := by
  rw [show (mk text lim p p 23 marks handed om 0 (-1) [fB p om 22, fS p om] 2 none seen).step = (mk text lim p p 23 marks handed om 0 (-1) [fB p om 22, fS p om] 2 none seen).exec from rfl]
  unfold Sre.M.exec
  rw [show Sre.ops[(mk text lim p p 23 marks handed om 0 (-1) [fB p om 22, fS p om] 2 none seen).word 0]? = some Sre.Op.IN from rfl]
  dsimp only
  rw [if_pos h]
  rfl
theorem go12_no {sn : Sre.Seen} (h : p < lim) (ha : Sre.accepts cdA 23 (text.getD p 0) (seen.add 13) = .ok (false, sn)) : (mk text lim p p 23 marks handed om 0 (-1) [fB p om 22, fS p om] 2 none seen).step = mk text lim p p 23 marks handed om 0 (-1) [fB p om 22, fS p om] 2 (some false) sn := by
  rw [show (mk text lim p p 23 marks handed om 0 (-1) [fB p om 22, fS p om] 2 none seen).step = (mk text lim p p 23 marks handed om 0 (-1) [fB p om 22, fS p om] 2 none seen).exec from rfl]
  unfold Sre.M.exec
  rw [show Sre.ops[(mk text lim p p 23 marks handed om 0 (-1) [fB p om 22, fS p om] 2 none seen).word 0]? = some Sre.Op.IN from rfl]
  dsimp only
  rw [if_neg (by omega)]
  generalize hg : Sre.accepts cdA _ _ _ = r
  obtain rfl : r = .ok (false, sn) := hg.symm.trans ha
  rfl
theorem go12 {sn : Sre.Seen} (h : p < lim) (ha : Sre.accepts cdA 23 (text.getD p 0) (seen.add 13) = .ok (true, sn)) : (mk text lim p p 23 marks handed om 0 (-1) [fB p om 22, fS p om] 2 none seen).step = mk text lim p (p + 1) 35 marks handed om 0 (-1) [fB p om 22, fS p om] 2 none sn := by
  rw [show (mk text lim p p 23 marks handed om 0 (-1) [fB p om 22, fS p om] 2 none seen).step = (mk text lim p p 23 marks handed om 0 (-1) [fB p om 22, fS p om] 2 none seen).exec from rfl]
  unfold Sre.M.exec
  rw [show Sre.ops[(mk text lim p p 23 marks handed om 0 (-1) [fB p om 22, fS p om] 2 none seen).word 0]? = some Sre.Op.IN from rfl]
  dsimp only
  rw [if_neg (by omega)]
  generalize hg : Sre.accepts cdA _ _ _ = r
  obtain rfl : r = .ok (true, sn) := hg.symm.trans ha
  rfl
theorem go13 (fr : List Sre.Frame) (wt q : Nat) : (mk text lim p q 35 marks handed om 0 (-1) fr wt none seen).step = mk text lim p q 38 marks handed om 0 (-1) fr wt none (seen.add 15) := rfl
theorem go14 (q c : Nat) : (mk text lim p q c marks handed om 0 (-1) [fB p om 22, fS p om] 2 (some false) seen).step = mk text lim p p 22 marks handed om 0 (-1) [fS p om] 1 (some false) seen := rfl
theorem go15 (q c : Nat) (h : p < lim) : (mk text lim p q c marks handed om 0 (-1) [fS p om] 1 (some false) seen).step = mk text lim (p + 1) (p + 1) 5 marks (p + 1) false (-1) (-1) [fS (p + 1) false] 1 none seen := by
  show Sre.M.resume _ (fS p om) false = _
  unfold Sre.M.resume
  dsimp only
  rw [if_neg (by decide), if_pos h]
  rfl
theorem go15_end (q c : Nat) (h : lim ≤ p) : (mk text lim p q c marks handed om 0 (-1) [fS p om] 1 (some false) seen).step = mk text lim p p 5 marks handed om 0 (-1) [] 0 (some false) seen := by
  show Sre.M.resume _ (fS p om) false = _
  unfold Sre.M.resume
  dsimp only
  rw [if_neg (by decide), if_neg (by omega)]
  rfl
theorem go16 (q c w : Nat) (lm li : Int) : (mk text lim p q c marks handed om lm li [] w (some false) seen).step = { mk text lim p q c marks handed om lm li [] w (some false) seen with outcome := some .failed } := rfl
end
end Mine

end

section
open PySem PySem.W PyProof.Rows
set_option maxRecDepth 100000
namespace Mine

theorem acc13 (c : Nat) (seen : Sre.Seen) : ∃ sn, Sre.accepts cdA 13 c seen = .ok (isDig c, sn) := by
  unfold Sre.accepts
  rw [show Sre.ops[cdA.getD 13 0]? = some Sre.Op.IN from rfl]
  dsimp only
  rw [show cdA.size = 39 + 1 + 1 from rfl]
  unfold Sre.inSet
  dsimp only
  rw [show Sre.ops[cdA.getD (13 + 2 + 0) 0]? = some Sre.Op.RANGE from rfl]
  dsimp only
  show ∃ sn, (if isDig c = true then _ else _) = _
  cases h : isDig c with
  | true => exact ⟨_, rfl⟩
  | false =>
    rw [if_neg (by decide)]
    unfold Sre.inSet
    dsimp only
    rw [show Sre.ops[cdA.getD (13 + 2 + 3 + 0) 0]? = some Sre.Op.FAILURE from rfl]
    exact ⟨_, rfl⟩

theorem sep256 : ∀ c : Nat, c < 256 → (cdA.getD (23 + 2 + (1 + c / 32)) 0).testBit (c % 32) = isSep c := by decide +kernel

theorem acc23 (c : Nat) (seen : Sre.Seen) : ∃ sn, Sre.accepts cdA 23 c seen = .ok (isSep c, sn) := by
  unfold Sre.accepts
  rw [show Sre.ops[cdA.getD 23 0]? = some Sre.Op.IN from rfl]
  dsimp only
  rw [show cdA.size = 39 + 1 + 1 from rfl]
  unfold Sre.inSet
  dsimp only
  rw [show Sre.ops[cdA.getD (23 + 2 + 0) 0]? = some Sre.Op.CHARSET from rfl]
  dsimp only
  have e : (decide (c < 256) && (cdA.getD (23 + 2 + (1 + c / 32)) 0).testBit (c % 32)) = isSep c := by
    by_cases hc : c < 256
    · rw [sep256 c hc]; simp [hc]
    · have : isSep c = false := by unfold isSep; simp; omega
      rw [this]; simp [hc]
  rw [e]
  cases h : isSep c with
  | true => rw [if_pos rfl]; exact ⟨_, rfl⟩
  | false =>
    rw [if_neg (by decide)]
    unfold Sre.inSet
    dsimp only
    rw [show Sre.ops[cdA.getD (23 + 2 + 9 + 0) 0]? = some Sre.Op.FAILURE from rfl]
    exact ⟨_, rfl⟩

theorem run13 (text : Array Nat) : ∀ (n p found : Nat) (seen : Sre.Seen), ∃ sn, Sre.run cdA text 13 n p found seen = .ok (found + (((text.toList.drop p) ++ List.replicate n 0).take n |>.takeWhile isDig).length, sn)
  | 0, p, found, seen => ⟨seen, by simp [Sre.run]⟩
  | n + 1, p, found, seen => by
    obtain ⟨sn, h⟩ := acc13 (text.getD p 0) seen
    rw [Sre.run, h]
    show ∃ sn', (if isDig (text.getD p 0) = true then Sre.run cdA text 13 n (p + 1) (found + 1) sn else pure (found, sn)) = _
    by_cases hp : p < text.size
    · have e1 : text.toList.drop p = text.getD p 0 :: text.toList.drop (p + 1) := by
        rw [List.drop_eq_getElem_cons (by simpa using hp)]
        simp [Array.getD, hp]
      rw [e1, List.cons_append, List.take_succ_cons, List.takeWhile_cons]
      cases hd : isDig (text.getD p 0) with
      | false => exact ⟨sn, by simp; rfl⟩
      | true =>
        obtain ⟨sn', h'⟩ := run13 text n (p + 1) (found + 1) sn
        refine ⟨sn', ?_⟩
        rw [if_pos rfl, if_pos rfl, h']
        have e2 : (text.toList.drop (p + 1) ++ List.replicate (n + 1) 0).take n = (text.toList.drop (p + 1) ++ List.replicate n 0).take n := by
          rw [List.replicate_succ', ← List.append_assoc]
          rw [List.take_append_of_le_length (by simp)]
        rw [e2, List.length_cons]
        congr 2
        omega
    · have e0 : text.getD p 0 = 0 := by simp [Array.getD, hp]
      have e1 : text.toList.drop p = [] := by simp; omega
      rw [e0, e1]
      exact ⟨sn, by simp [List.replicate_succ, isDig]; rfl⟩

theorem run13' (text : Array Nat) (p : Nat) (hp : p ≤ text.size) (hs : text.size < 4294967295) (seen : Sre.Seen) :
    ∃ sn, Sre.run cdA text 13 (min 4294967295 ((text.size : Int) - (p : Int)).toNat) p 0 seen = .ok (((text.toList.drop p).takeWhile isDig).length, sn) := by
  have e : min 4294967295 ((text.size : Int) - (p : Int)).toNat = (text.toList.drop p).length := by simp; omega
  obtain ⟨sn, h⟩ := run13 text (min 4294967295 ((text.size : Int) - (p : Int)).toNat) p 0 seen
  refine ⟨sn, ?_⟩
  rw [h, e]
  simp

def nextM : List Nat → Option (Nat × Nat)
  | [] => none
  | c :: cs => if isDig c then some (0, 1 + (cs.takeWhile isDig).length) else if isSep c then some (0, 1) else (nextM cs).map fun x => (x.1 + 1, x.2)

structure Found (r : Sre.M) (b e : Nat) : Prop where
  out : r.outcome = some .matched
  start : r.start = b
  handed : r.handed = e
  lm : r.lastmark = 1
  m0 : r.marks.getD 0 none = some b
  m1 : r.marks.getD 1 none = some e

def SearchTo (m : Sre.M) (bound : Nat) (x : Option (Nat × Nat)) (p : Nat) : Prop :=
  ∃ N r, N ≤ bound ∧ Sre.M.runFor N m = r ∧ match x with
    | none => r.outcome = some .failed
    | some (o, l) => Found r (p + o) (p + o + l)

theorem SearchTo.step {m m' : Sre.M} {b p : Nat} {x} (h0 : m.outcome = none) (hs : m.step = m') (h : SearchTo m' b x p) : SearchTo m (b + 1) x p := by
  obtain ⟨N, r, hN, hr, h⟩ := h
  exact ⟨N + 1, r, by omega, by rw [runFor_step h0, hs, hr], h⟩
theorem SearchTo.mono {m : Sre.M} {b b' p : Nat} {x} (hb : b ≤ b') (h : SearchTo m b x p) : SearchTo m b' x p := by
  obtain ⟨N, r, hN, hr, h⟩ := h
  exact ⟨N, r, by omega, hr, h⟩

theorem search (text : Array Nat) (hs : text.size < 4294967295) : ∀ (cs : List Nat) (p : Nat) (marks : Array (Option Nat)) (handed : Nat) (om : Bool) (seen : Sre.Seen), marks.size = 2 → p ≤ text.size → text.toList.drop p = cs →
    SearchTo (mk text text.size p p 5 marks handed om (-1) (-1) [fS p om] 1 none seen) (20 * (cs.length + 1)) (nextM cs) p
  | [], p, marks, handed, om, seen, hm, hp, he => by
    have hge : text.size ≤ p := by have := congrArg List.length he; simp at this; omega
    refine SearchTo.mono (b := 9 + 1) (by simp) ?_
    refine .step rfl (go1 ..) (.step rfl (go2 ..) ?_)
    obtain ⟨sn, h3⟩ := go3_out text text.size p (marks.setIfInBounds 0 (some p)) p om ((seen.add 17).add 7) hge
    refine .step rfl h3 (.step rfl (go11 ..) (.step rfl (go12_out _ _ _ _ _ _ _ hge) (.step rfl (go14 ..) (.step rfl (go15_end _ _ _ _ _ _ _ _ _ hge) ?_))))
    refine ⟨1, _, by omega, runFor_step rfl 0, ?_⟩
    rw [go16]
    rfl
  | c :: cs, p, marks, handed, om, seen, hm, hp, he => by
    have hlt : p < text.size := by have := congrArg List.length he; simp at this; omega
    have hc : text.getD p 0 = c := by
      have := congrArg List.head? he
      rw [List.head?_drop] at this
      simp [hlt] at this
      simp [Array.getD, hlt, this]
    have he' : text.toList.drop (p + 1) = cs := by
      rw [show p + 1 = p + 1 from rfl, ← List.drop_drop, he]; rfl
    obtain ⟨sn, hr⟩ := run13' text p (Nat.le_of_lt hlt) hs ((((seen.add 17).add 7).add 24).add 13)
    rw [he] at hr
    by_cases hd : isDig c = true
    · have hn : nextM (c :: cs) = some (0, 1 + (cs.takeWhile isDig).length) := by rw [nextM, if_pos hd]
      rw [hn]
      have hl : ((c :: cs).takeWhile isDig).length = 1 + (cs.takeWhile isDig).length := by rw [List.takeWhile_cons, if_pos hd]; simp; omega
      rw [hl] at hr
      refine SearchTo.mono (b := 18) (by simp; omega) ?_
      refine .step rfl (go1 ..) (.step rfl (go2 ..) (.step rfl (go3 _ _ _ _ _ _ _ hlt hr (by omega)) (.step rfl (go4 ..) (.step rfl (go5 ..) (.step rfl (go6 ..) (.step rfl (go7 ..) (.step rfl (go8 ..) (.step rfl (go9 ..) ?_))))))))
      refine ⟨1, _, by omega, runFor_step rfl 0, ?_⟩
      rw [go10]
      refine ⟨rfl, rfl, rfl, rfl, ?_, ?_⟩ <;> simp [Sre.M.runFor, Array.getD, hm]
    · have hl : ((c :: cs).takeWhile isDig).length = 0 := by rw [List.takeWhile_cons, if_neg hd]; rfl
      rw [hl] at hr
      obtain ⟨sn2, ha⟩ := acc23 c (sn.add 13)
      by_cases hq : isSep c = true
      · have hn : nextM (c :: cs) = some (0, 1) := by rw [nextM, if_neg hd, if_pos hq]
        rw [hn]
        rw [hq] at ha
        refine SearchTo.mono (b := 18) (by simp; omega) ?_
        refine .step rfl (go1 ..) (.step rfl (go2 ..) (.step rfl (go3_no _ _ _ _ _ _ _ hlt hr) (.step rfl (go11 ..) (.step rfl (go12 _ _ _ _ _ _ _ hlt (by rw [hc]; exact ha)) (.step rfl (go13 ..) (.step rfl (go5 ..) (.step rfl (go6 ..) (.step rfl (go8 ..) (.step rfl (go9 ..) ?_)))))))))
        refine ⟨1, _, by omega, runFor_step rfl 0, ?_⟩
        rw [go10]
        refine ⟨rfl, rfl, rfl, rfl, ?_, ?_⟩ <;> simp [Sre.M.runFor, Array.getD, hm]
      · have hn : nextM (c :: cs) = (nextM cs).map fun x => (x.1 + 1, x.2) := by rw [nextM, if_neg hd, if_neg hq]
        rw [hn]
        rw [Bool.not_eq_true] at hq
        rw [hq] at ha
        have ih := search text hs cs (p + 1) (marks.setIfInBounds 0 (some p)) (p + 1) false sn2 (by simp [hm]) (by omega) he'
        refine SearchTo.mono (b := 20 * (cs.length + 1) + 7) (by simp; omega) ?_
        refine .step rfl (go1 ..) (.step rfl (go2 ..) (.step rfl (go3_no _ _ _ _ _ _ _ hlt hr) (.step rfl (go11 ..) (.step rfl (go12_no _ _ _ _ _ _ _ hlt (by rw [hc]; exact ha)) (.step rfl (go14 ..) (.step rfl (go15 _ _ _ _ _ _ _ _ _ hlt) ?_))))))
        obtain ⟨N, r, hN, hr', hx⟩ := ih
        refine ⟨N, r, hN, hr', ?_⟩
        cases hx' : nextM cs with
        | none => rw [hx'] at hx; exact hx
        | some y =>
          rw [hx'] at hx
          obtain ⟨o, l⟩ := y
          show Found r (p + (o + 1)) (p + (o + 1) + l)
          rw [show p + (o + 1) = p + 1 + o by omega]
          exact hx
end Mine

end

section
open PySem PySem.W PyProof.Rows
set_option maxRecDepth 100000
namespace Mine

section
variable {prog : Program} {w : World} {A : Around} {E : Value → Shared → Prop} {s : Shared}

theorem drive_ {r : Sre.M} (hr : r.outcome.isSome) : ∀ (t N : Nat) (m : Sre.M) (Q : Sre.M → Shared → Prop), N ≤ 4 * t → 1 ≤ t → Sre.M.runFor N m = r → Q r s → wpAny (model prog w) A (Builtin.Re.reDrive t m) Q E s
  | 0, _, _, _, _, h1, _, _ => absurd h1 (by decide)
  | t + 1, N, m, Q, hN, _, hm, hq => by
    unfold Builtin.Re.reDrive
    dsimp only
    have key : ∀ k, (Sre.M.runFor k m).outcome.isSome = true → Sre.M.runFor k m = r := by
      intro k hk
      rcases Nat.le_total k N with h | h
      · obtain ⟨d, rfl⟩ := Nat.le.dest h
        rw [runFor_add, runFor_done hk] at hm
        exact hm
      · obtain ⟨d, rfl⟩ := Nat.le.dest h
        rw [runFor_add, hm, runFor_done hr]
    by_cases hk : (Sre.M.runFor Builtin.Re.reTurnSteps m).outcome.isSome = true
    · rw [if_pos hk, key _ hk]
      exact wpAny_pure hq
    · rw [if_neg hk]
      refine wpAny_bind (wpAny_rule ?_)
      have h4 : 4 < N := by
        apply Classical.byContradiction
        intro hc
        apply hk
        obtain ⟨d, hd⟩ := Nat.le.dest (show N ≤ 4 by omega)
        show (Sre.M.runFor 4 m).outcome.isSome = true
        rw [← hd, runFor_add, hm, runFor_done hr]
        exact hr
      refine drive_ hr t (N - 4) _ Q (by omega) (by omega) ?_ hq
      show Sre.M.runFor (N - 4) (Sre.M.runFor 4 m) = r
      rw [← runFor_add, show 4 + (N - 4) = N by omega, hm]

theorem rules_ (l : List Nat) (p : Nat → Bool) (f : Nat → String) {Q : PUnit → Shared → Prop} (h : Q ⟨⟩ s) :
    wpAny (model prog w) A (forIn l PUnit.unit fun i _ => if p i = true then (do rule (f i); pure (ForInStep.yield PUnit.unit)) else pure (ForInStep.yield PUnit.unit)) Q E s := by
  refine wpAny_forIn_list _ (fun _ _ s' => s' = s) Q ?_ ?_ l _ rfl
  · rintro x rest b s' rfl
    cases hp : p x with
    | true => exact wpAny_bind (wpAny_rule (wpAny_pure rfl))
    | false => exact wpAny_pure rfl
  · rintro b s' rfl
    exact h

theorem runToEnd_ {m r : Sre.M} {N : Nat} {Q : Option Sre.M → Shared → Prop} (hr : Sre.M.runFor N m = r) (hN : N ≤ 1000000000) (ho : r.outcome = some .matched ∨ r.outcome = some .failed)
    (h : (r.outcome = some .matched → Q (some r) s) ∧ (r.outcome = some .failed → Q none s)) : wpAny (model prog w) A (Builtin.Re.reRunToEnd m) Q E s := by
  unfold Builtin.Re.reRunToEnd
  refine wpAny_bind (drive_ (r := r) (by rcases ho with h | h <;> rw [h] <;> rfl) (2 ^ 64) N m _ (Nat.le_trans hN (by decide)) (by decide) hr ?_)
  refine wpAny_bind (rules_ _ _ _ ?_)
  rcases ho with ho | ho
  · rw [ho]; exact wpAny_pure (h.1 ho)
  · rw [ho]; exact wpAny_pure (h.2 ho)

theorem nextFound_ {t : Builtin.Re.ReTarget} {p : Nat} {cs : List Nat} {Q : Option Sre.M → Shared → Prop} (hc : t.code = cdA) (hg : t.groups = 1) (hl : t.lim = t.text.size) (hs : t.text.size < 1000000) (hp : p ≤ t.text.size) (he : t.text.toList.drop p = cs)
    (h : match nextM cs with | none => Q none s | some (o, l) => ∀ r, Found r (p + o) (p + o + l) → Q (some r) s) : wpAny (model prog w) A (Builtin.Re.reNextFound t p false) Q E s := by
  unfold Builtin.Re.reNextFound
  rw [hc, hg, hl]
  by_cases hlt : p < t.text.size
  · have hS := search t.text (by omega) cs p (Array.replicate 2 none) p true (({} : Sre.Seen).add 14) (by simp) hp he
    have e : Sre.forSearch cdA t.text 1 p t.text.size false = mk t.text t.text.size p p 5 (Array.replicate 2 none) p true (-1) (-1) [fS p true] 1 none (({} : Sre.Seen).add 14) := by
      unfold Sre.forSearch
      dsimp only
      rw [if_neg (by show ¬ ((decide (p > t.text.size) || decide (t.text.size - p < 1)) = true); simp; omega)]
      rfl
    rw [← e] at hS
    generalize Sre.forSearch cdA t.text 1 p t.text.size false = m at hS ⊢
    obtain ⟨N, r, hN, hr, hx⟩ := hS
    have hcs : cs.length = t.text.size - p := by rw [← he]; simp
    have hb : N ≤ 1000000000 := by omega
    cases hn : nextM cs with
    | none =>
      rw [hn] at hx h
      have hx' : r.outcome = some .failed := hx
      have h' : Q none s := h
      refine runToEnd_ hr hb (.inr hx') ⟨fun hh => ?_, fun _ => h'⟩
      rw [hx'] at hh
      cases hh
    | some y =>
      obtain ⟨o, l⟩ := y
      rw [hn] at hx h
      have hx' : Found r (p + o) (p + o + l) := hx
      have ho := hx'.out
      refine runToEnd_ hr hb (.inl ho) ⟨fun _ => h r hx', fun hh => ?_⟩
      rw [ho] at hh
      cases hh
  · have hcs : cs = [] := by rw [← he]; simp; omega
    subst hcs
    have e : ∃ sn, Sre.forSearch cdA t.text 1 p t.text.size false = { code := cdA, text := t.text, lim := t.text.size, start := p, pc := 5, pos := p, handed := p, marks := Array.replicate 2 none, answer := some false, seen := sn } := by
      refine ⟨({} : Sre.Seen).add 14, ?_⟩
      unfold Sre.forSearch
      dsimp only
      rw [if_pos (by show (decide (p > t.text.size) || decide (t.text.size - p < 1)) = true; simp; omega)]
      rfl
    obtain ⟨sn, e⟩ := e
    rw [e]
    have ho : (Sre.M.runFor 1 { code := cdA, text := t.text, lim := t.text.size, start := p, pc := 5, pos := p, handed := p, marks := Array.replicate 2 none, answer := some false, seen := sn }).outcome = some .failed := rfl
    refine runToEnd_ (N := 1) rfl (by decide) (.inr ho) ⟨fun hh => ?_, fun _ => h⟩
    rw [ho] at hh
    cases hh

inductive SplitsTo : List Nat → List (List Nat) → Prop
  | stop {cs} : nextM cs = none → SplitsTo cs [cs]
  | more {cs o l rest} : nextM cs = some (o, l) → SplitsTo (cs.drop (o + l)) rest → SplitsTo cs (cs.take o :: (cs.drop o).take l :: rest)

theorem nextM_le : ∀ {cs : List Nat} {o l : Nat}, nextM cs = some (o, l) → 1 ≤ l ∧ o + l ≤ cs.length
  | [], _, _, h => by cases h
  | c :: cs, o, l, h => by
    unfold nextM at h
    split at h
    · cases h
      have := (List.takeWhile_sublist (p := isDig) (l := cs)).length_le
      simp; omega
    · split at h
      · cases h; simp
      · cases hn : nextM cs with
        | none => rw [hn] at h; cases h
        | some y =>
          rw [hn] at h
          obtain ⟨o', l'⟩ := y
          cases h
          have := nextM_le hn
          simp; omega

/-- the values are the texts -/
inductive StrsAre : List Value → List (List Nat) → Prop
  | nil : StrsAre [] []
  | cons {vs xs} (x : List Nat) (t : Tok) : StrsAre vs xs → StrsAre (.str ⟨x.toArray⟩ t :: vs) (x :: xs)
theorem StrsAre.append {vs xs ws ys} (h : StrsAre vs xs) (k : StrsAre ws ys) : StrsAre (vs ++ ws) (xs ++ ys) := by
  induction h with
  | nil => exact k
  | cons x t _ ih => exact .cons x t ih

theorem StrsAre.length {vs xs} (h : StrsAre vs xs) : vs.length = xs.length := by
  induction h with
  | nil => rfl
  | cons x t _ ih => simp [ih]
theorem SplitsTo.length {cs outs} (h : SplitsTo cs outs) : outs.length ≤ 2 * cs.length + 1 := by
  induction h with
  | stop _ => simp
  | more hn _ ih =>
    have := nextM_le hn
    simp at ih ⊢
    omega

theorem slice_ {text : Array Nat} {k b e : Nat} {Q : Value → Shared → Prop} (hk : k = 0) (hs : text.size < 1000000) (h : ∀ tk, Q (.str ⟨text.extract b e⟩ tk) { s with toks := tk + 1 }) :
    wpAny (model prog w) A (Builtin.Re.reSlice text k b e) Q E s := by
  unfold Builtin.Re.reSlice
  rw [hk, if_pos (by decide)]
  refine wpAny_mkStr (h _) ?_
  show (text.extract b e).size ≤ sizeLine
  rw [sizeLine_eq]; simp; omega
theorem group_ {t : Builtin.Re.ReTarget} {m : Sre.M} {b e : Nat} {d : Sem Value} {Q : Value → Shared → Prop} (hk : t.kind = 0) (hF : Found m b e) (hbe : b ≤ e) (hs : t.text.size < 1000000) (h : ∀ tk, Q (.str ⟨t.text.extract b e⟩ tk) { s with toks := tk + 1 }) :
    wpAny (model prog w) A (Builtin.Re.reMachineGroup t m (0 + 1) d) Q E s := by
  unfold Builtin.Re.reMachineGroup
  rw [hF.lm, if_neg (by decide)]
  rw [show 2 * (0 + 1 - 1) = 0 from rfl, show 0 + 1 = 1 from rfl, hF.m0, hF.m1]
  dsimp only
  rw [if_neg (by omega)]
  exact slice_ hk hs h

theorem split_body {t : Builtin.Re.ReTarget} {outs : List (List Nat)} {Q : PySem.Fin → Shared → Prop} (hc : t.code = cdA) (hg : t.groups = 1) (hk : t.kind = 0) (hl : t.lim = t.text.size) (hs : t.text.size < 1000000)
    (hsp : SplitsTo t.text.toList outs) {pat : Value} {x : Value} {wt : wpAny (model prog w) A (Builtin.Re.reWholeTarget pat x) (fun t' s' => t' = t ∧ s' = s) E s}
    (h : ∀ vs tk, StrsAre vs outs → Q (.done (.ret (.ref s.heap.objs.size))) { s with heap := s.heap.push { cls := .type "list", data := .seq vs.toArray }, toks := tk }) :
    wpAny (model prog w) A (Builtin.«re.Pattern.split» ⟨[pat, x], []⟩) Q E s := by
  unfold Builtin.«re.Pattern.split»
  dsimp only
  refine wpAny_bind ?_
  have e : Builtin.Re.reNamed "re.Pattern.split" "split" ["string", "maxsplit"] 1 [x] [] = pure [some x, none] := rfl
  rw [e]
  refine wpAny_pure ?_
  dsimp only
  refine wpAny_bind (wpAny_pure ?_)
  refine wpAny_bind (wpAny_mono wt ?_ fun _ _ e => e)
  rintro t' s' ⟨ht, hs'⟩
  rw [ht, hs']
  refine wpAny_bind (wpAny_forIn_list _ (fun rest b s' => ∃ vs tk p n ov pre, s' = { s with toks := tk } ∧ b = (vs.toArray, p, p, false, n, ov) ∧ StrsAre vs pre ∧ p ≤ t.text.size ∧
      ((ov = false ∧ t.text.size - p + 1 ≤ rest.length ∧ ∃ outs', SplitsTo (t.text.toList.drop p) outs' ∧ outs = pre ++ outs') ∨ (ov = true ∧ outs = pre ++ [t.text.toList.drop p]))) _ ?turn ?fin _ _
    ⟨[], s.toks, 0, 0, false, [], rfl, rfl, .nil, Nat.zero_le _, .inl ⟨rfl, ?len, outs, hsp, rfl⟩⟩)
  case len => simp [Builtin.Re.reMostMatches]; omega
  case turn =>
    rintro x rest b s' ⟨vs, tk, p, n, ov, pre, rfl, rfl, hv, hp, (⟨rfl, hlen, outs', hsp', ho⟩ | ⟨rfl, ho⟩)⟩
    · dsimp only
      rw [if_pos (by decide)]
      refine wpAny_bind ?_
      rw [if_neg (by simp)]
      refine nextFound_ hc hg hl hs hp rfl ?_
      cases hsp' with
      | stop hn =>
        rw [hn]
        exact wpAny_pure ⟨vs, tk, p, n, true, pre, rfl, rfl, hv, hp, .inr ⟨rfl, ho⟩⟩
      | more hn hr =>
        rename_i o l rest'
        rw [hn]
        intro r hF
        have hle := nextM_le hn
        have hlen' : (t.text.toList.drop p).length = t.text.size - p := by simp
        dsimp only
        rw [hg, hF.start]
        refine wpAny_bind (slice_ hk (by omega) fun tk1 => ?_)
        show wpAny _ _ (forIn [0] _ _ >>= _) _ _ _
        rw [List.forIn_cons]
        refine wpAny_bind (wpAny_bind (wpAny_bind (group_ hk hF (by omega) (by omega) fun tk2 => wpAny_pure ?_)))
        dsimp only
        rw [List.forIn_nil]
        refine wpAny_pure (wpAny_pure ?_)
        rw [hF.handed]
        have hne : (p + o + l == p + o) = false := by simp; omega
        refine ⟨vs ++ [.str ⟨t.text.extract p (p + o)⟩ tk1, .str ⟨t.text.extract (p + o) (p + o + l)⟩ tk2], _, p + o + l, n + 1, false, pre ++ [(t.text.toList.drop p).take o, ((t.text.toList.drop p).drop o).take l], rfl, ?_, ?_, by omega, .inl ⟨rfl, ?_, rest', ?_, ?_⟩⟩
        · rw [hne]; simp
        · have e1 : t.text.extract p (p + o) = ((t.text.toList.drop p).take o).toArray := by
            rw [← Array.toArray_toList (xs := t.text.extract p (p + o)), Array.toList_extract]; simp [List.extract]
          have e2 : t.text.extract (p + o) (p + o + l) = (((t.text.toList.drop p).drop o).take l).toArray := by
            rw [← Array.toArray_toList (xs := t.text.extract (p + o) (p + o + l)), Array.toList_extract]; simp [List.extract]
          rw [e1, e2]
          exact hv.append (.cons _ _ (.cons _ _ .nil))
        · simp at hlen; omega
        · rw [List.drop_drop] at hr
          rw [show p + o + l = p + (o + l) by omega]; exact hr
        · rw [ho]; simp
    · dsimp only
      rw [if_neg (by decide)]
      exact wpAny_pure ⟨vs, tk, p, n, true, pre, rfl, rfl, hv, hp, .inr ⟨rfl, ho⟩⟩
  case fin =>
    rintro b s' ⟨vs, tk, p, n, ov, pre, rfl, rfl, hv, hp, (⟨rfl, hlen, _⟩ | ⟨rfl, ho⟩)⟩
    · simp at hlen
    · dsimp only
      rw [if_neg (by decide)]
      rw [hl]
      refine wpAny_bind (slice_ hk (by omega) fun tk1 => ?_)
      refine wpAny_bind ?_
      have e1 : t.text.extract p t.text.size = (t.text.toList.drop p).toArray := by
        rw [← Array.toArray_toList (xs := t.text.extract p t.text.size), Array.toList_extract]
        simp only [List.extract]
        rw [List.take_of_length_le (by simp)]
      have hst : StrsAre (vs ++ [.str ⟨t.text.extract p t.text.size⟩ tk1]) outs := by
        rw [ho, e1]; exact hv.append (.cons _ _ .nil)
      have hsz : (vs ++ [Value.str ⟨t.text.extract p t.text.size⟩ tk1]).length ≤ sizeLine := by
        rw [hst.length]
        exact Nat.le_trans (hsp.length) (by rw [sizeLine_eq]; simp; omega)
      refine wpAny_newObj_type (wpAny_pure ?_) ?_
      · have := h (vs ++ [.str ⟨t.text.extract p t.text.size⟩ tk1]) (tk1 + 1) hst
        simpa using this
      · show (vs.toArray.push _).toList.toArray.size ≤ sizeLine
        simpa using hsz
end
end Mine

end

section
open PySem PySem.W PyProof.Rows
set_option maxRecDepth 100000
namespace Mine

def patObj (c : Addr) (t0 t1 : Tok) : Obj := { cls := .type "re.Pattern", data := .fields #[.str (Str.ofString "([0-9]+|[._+-])") t0, .int 32 t1, .int 1 0, .none, .none, .ref c, .int 0 0] }
def codeObj (n : Nat) : Obj := { cls := .type "tuple", data := .seq (cdA.toList.map fun (i : Nat) => Value.int (i : Int) 0).toArray n }

section
variable {prog : Program} {w : World} {A : Around} {E : Value → Shared → Prop} {s : Shared}

theorem whole_ {a c : Addr} {x : Str} {t t0 t1 : Tok} {n : Nat} (ha : s.heap.get? a = some (patObj c t0 t1)) (hc : s.heap.get? c = some (codeObj n)) :
    wpAny (model prog w) A (Builtin.Re.reWholeTarget (.ref a) (.str x t)) (fun t' s' => t' = { pattern := .ref a, string := .str x t, code := cdA, text := x.cps, kind := 0, groups := 1, pos := 0, lim := x.cps.size } ∧ s' = s) E s := by
  unfold Builtin.Re.reWholeTarget
  refine wpAny_bind (wpAny_fieldsOf ha rfl ?_)
  refine wpAny_bind ?_
  show wpAny _ _ (pure (x.cps, 0)) _ _ _
  refine wpAny_pure ?_
  dsimp only
  refine wpAny_bind (show wpAny _ _ (pure ()) _ _ _ from wpAny_pure ?_)
  refine wpAny_bind ?_
  show wpAny _ _ (Builtin.Re.reRawItems (.ref c)) _ _ _
  unfold Builtin.Re.reRawItems
  refine wpAny_bind (wpAny_seqItems hc rfl (wpAny_pure (wpAny_pure ⟨?_, rfl⟩)))
  congr 1
  show ((cdA.toList.map fun (i : Nat) => Value.int (i : Int) 0).toArray.map Builtin.Re.reRawOf).map (·.toNat) = cdA
  simp only [List.map_toArray]
  rfl

theorem slot_re_split : Slot "re.Pattern" "split" "re.Pattern.split" :=
  .of (owner := "re.Pattern") (n := "split") (by rw [typeLookup_type, builtinLookup_eq_fast]; kernel_rfl) (by decide +kernel) (by decide +kernel) (by decide +kernel)
    (by first | exact .inl (by decide +kernel) | exact .inr (by decide +kernel)) (by rw [isSubtype_type]; kernel_rfl)
theorem type_re_split : typeOf (.builtin "re.Pattern.split") = pure (.type "method_descriptor") := by show builtinType _ = _; rw [builtinType_eq_fast]; kernel_rfl
theorem entry_re_split : entryFor table "re.Pattern.split" = some Builtin.«re.Pattern.split» := entryFor_of_tree (by kernel_rfl)
theorem args_re_split (a b : Value) : argsOk "re.Pattern.split" ⟨[a, b], []⟩ := by
  unfold argsOk; kernel_rfl
theorem plainAttrs_re : PlainAttrs "re.Pattern" := ⟨⟨"object.__getattribute__", by rw [typeLookup_type, builtinLookup_eq_fast]; kernel_rfl, by decide +kernel⟩, by rw [typeLookup_type, builtinLookup_eq_fast]; kernel_rfl⟩

theorem split_call {a c : Addr} {x : Str} {t t0 t1 : Tok} {n : Nat} {outs : List (List Nat)} {Q : Value → Shared → Prop} (ha : s.heap.get? a = some (patObj c t0 t1)) (hc : s.heap.get? c = some (codeObj n)) (hs : x.cps.size < 1000000)
    (hsp : SplitsTo x.cps.toList outs)
    (h : ∀ vs tk, StrsAre vs outs → Q (.ref s.heap.objs.size) { s with heap := s.heap.push { cls := .type "list", data := .seq vs.toArray }, toks := tk }) :
    wpAny (model prog w) A (call (.builtin "re.Pattern.split") [.ref a, .str x t]) Q E s := by
  refine wpAny_call_entry slot_re_split ⟨_, ha, rfl⟩ entry_re_split ?_ (args_re_split _ _)
  refine split_body (t := { pattern := .ref a, string := .str x t, code := cdA, text := x.cps, kind := 0, groups := 1, pos := 0, lim := x.cps.size }) rfl rfl rfl rfl hs hsp (wt := whole_ ha hc) fun vs tk hv => ⟨_, rfl, h vs tk hv⟩
end
end Mine

end

section
open PySem PySem.W PyProof.Rows
set_option maxRecDepth 100000
set_option linter.all false
namespace Mine

def stagesL : List (Str × Int) := [(Str.ofString "dev", 10), (Str.ofString "alpha", 20), (Str.ofString "a", 20), (Str.ofString "beta", 30), (Str.ofString "b", 30), (Str.ofString "c", 40), (Str.ofString "RC", 50), (Str.ofString "rc", 50), (Str.ofString "pl", 200), (Str.ofString "p", 200)]
def stageOf (x : Str) : Int := (stagesL.lookup x).getD 0
/-- the tables of _comparable_version -/
structure GlobX (prog : Program) (w : World) (h : Heap) : Prop where
  code : ∃ n, h.get? 35 = some (codeObj n)
  pat : ∃ t0 t1, h.get? 36 = some (patObj 35 t0 t1)
  st : ∃ f, h.MapOf (PySem.strKind prog w) 37 f ∧ ∀ (x : Str) (u : Tok), ∃ t, (f x).getD (.int 0 u) = .int (stageOf x) t
def GX (prog : Program) (w : World) (B : Fz) : Prop := ∀ h, B.In h → GlobX prog w h
theorem GX.le {prog : Program} {w : World} {B B' : Fz} (G : GX prog w B) (hl : B.le B') : GX prog w B' := fun h hb => G h (hb.le hl)

section
variable {C : Cx} {sc : Scope} {m : Str → Option Value} {own : Own} {Bb : Fz}

theorem ev_methP {o : Expr} {name : Str} {apos pos : Pos} {e : Expr} {es : List Expr} {ds : List PyData} {T id : String} {P0 P : Value → Fz → Prop} (ho : Ev C m own Bb o P0)
    (hT : ∀ v B (s : Shared), Bb.le B → P0 v B → B.In s.heap → s.TypeIs v T ∧ ∀ a, v = .ref a → ∃ ob, s.heap.get? a = some ob ∧ ob.dict = none)
    (pa : PlainAttrs T) (slot : Slot T name id) (hty : typeOf (.builtin id) = pure (.type "method_descriptor")) (ha : Evs C m own Bb (e :: es) ds)
    (mo : ∀ v B B', B.le B' → P0 v B → P0 v B')
    (hc : ∀ v vs (E : Value → Shared → Prop) B s, Bb.le B → Fs C m own B s → P0 v B → RpAll B vs ds → ∀ Q : Value → Shared → Prop, (∀ v B' s', B.le B' → Fs C m own B' s' → P v B' → Q v s') → wpAny (model C.prog C.w) C.A (call (.builtin id) (v :: vs)) Q E s)
    (hbase : attributeBase o name C.env (eval o C.env) = eval o C.env := by rfl)
    (hfew : ((backTo pos (starEach (e :: es) C.env)).all (fun x => !x.1) && (backToKw pos (keywordEach [] C.env)).all (fun x => x.1.isSome)
      && decide ((e :: es).length + ([] : List Keyword).length + (if ([] : List Keyword).isEmpty then 0 else 1) < 30)) = true := by rfl)
    (hline : (apos.endLine == pos.line) = true := by rfl) (hplain : (backTo pos (starEach (e :: es) C.env)).any (·.1) = false := by rfl) (he : starEach (e :: es) C.env = (false, eval e C.env) :: starEach es C.env := by rfl) :
    Ev C m own Bb (.Call (.Attribute o name apos) (e :: es) [] pos) P :=
  Ev.mk fun E B s hb H Q k => wpAny_Call_method hbase hfew hline pa slot hty (ho.out E B s hb H _ fun v B1 s1 hle1 H1 p1 => by
    obtain ⟨t1, t2⟩ := hT v B1 s1 (hb.trans hle1) p1 H1.bin
    refine ⟨t1, t2, ?_⟩
    refine Calls.callWith_builtin hplain ?_
    have hx := evs_spliced (pos := pos) ha E B1 s1 (hb.trans hle1) H1 (fun vs s' => wpAny (model C.prog C.w) C.A (call (.builtin id) ([v] ++ vs) []) Q E s') fun vs B2 s2 hle2 H2 p =>
      hc v vs E B2 s2 (hb.trans (hle1.trans hle2)) H2 (mo _ _ _ hle2 p1) p Q fun v B' s' hle H' hp => k v B' s' (hle1.trans (hle2.trans hle)) H' hp
    rw [he] at hx ⊢
    exact Calls.evalArgs_plain hx)

theorem ev_stage {apos pos p1 p3 : Pos} {e : Expr} {x : Str} {k : Nat} (S : Sc C sc) (G : GB Bb) (X : GX C.prog C.w Bb) (he : Ev C m own Bb e (Rd (.str x)))
    (hl : sc.names.lookup (Str.ofString "_ver_stages") = some .globalImplicit := by rfl) (hst : ∀ r env, starEach (e :: r) env = (false, eval e env) :: starEach r env := by intro _ _; rfl)
    (hfew : ((backTo pos (starEach [e, .Constant (.int 0) k p3] C.env)).all (fun x => !x.1) && (backToKw pos (keywordEach [] C.env)).all (fun x => x.1.isSome)
      && decide (([e, .Constant (.int 0) k p3] : List Expr).length + ([] : List Keyword).length + (if ([] : List Keyword).isEmpty then 0 else 1) < 30)) = true := by rfl)
    (hline : (apos.endLine == pos.line) = true := by rfl) (hplain : (backTo pos (starEach [e, .Constant (.int 0) k p3] C.env)).any (·.1) = false := by rfl) (he' : starEach [e, .Constant (.int 0) k p3] C.env = (false, eval e C.env) :: starEach [.Constant (.int 0) k p3] C.env := by rfl) :
    Ev C m own Bb (.Call (.Attribute (.Name (Str.ofString "_ver_stages") p1) "get" apos) [e, .Constant (.int 0) k p3] [] pos) (Rd (.int (stageOf x))) :=
  ev_methP (P0 := fun v _ => v = .ref 37) (ev_global S G (by decide) hl)
    (fun v B s hb p hin => by
      subst p
      obtain ⟨f, hm, _⟩ := (X _ (hin.le hb)).st
      exact ⟨hm.typeIs, fun a e => hm.noDict a e⟩)
    PySem.F.plainAttrs_dict PySem.F.slot_dict_get PySem.F.type_dict_get (.cons he (.cons ev_int .nil (fun _ _ => rfl)) hst) (fun _ _ _ _ p => p)
    (fun v vs E B s hb H p1 p Q k => by
      subst p1
      cases p with
      | cons q1 q2 =>
        cases q2 with
        | cons q2 q3 =>
          cases q3
          obtain ⟨t, rfl⟩ := q1.str_inv
          obtain ⟨u, rfl⟩ := q2.int_inv
          obtain ⟨f, hm, hf⟩ := (X _ (H.bin.le hb)).st
          refine call_meetsIn PySem.F.slot_dict_get hm.typeIs PySem.F.entry_dict_get (PySem.F.args_dict_get_3 _ _ _) (meets_dict_get_default (PySem.strKind C.prog C.w) 37 (k := x) (by show Value.isStrOf x (.str x t) = true; simp [Value.isStrOf]) (by decide) (.int 0 u)) ⟨f, hm, ?_⟩
          obtain ⟨t', e⟩ := hf x u
          rw [e]
          exact k _ B _ .rfl (H.toks _) (.int _ _)) rfl hfew hline hplain he'

def OutsD (outs : List (List Nat)) : List PyData := outs.map fun o => .str ⟨o.toArray⟩
theorem strsAre_rp {B : Fz} : ∀ {vs : List Value} {outs : List (List Nat)}, Mine.StrsAre vs outs → RpAll B vs (OutsD outs)
  | _, _, .nil => .nil
  | _, _, .cons _ _ h => .cons (.str _ _) (strsAre_rp h)
theorem ev_split {o : Expr} {apos pos : Pos} {e : Expr} {x : Str} {outs : List (List Nat)} (X : GX C.prog C.w Bb) (ho : Ev C m own Bb o (fun v _ => v = .ref 36)) (he : Ev C m own Bb e (Rd (.str x))) (hs : x.cps.size < 1000000) (hsp : SplitsTo x.cps.toList outs)
    (hst : ∀ r env, starEach (e :: r) env = (false, eval e env) :: starEach r env := by intro _ _; rfl)
    (hbase : attributeBase o "split" C.env (eval o C.env) = eval o C.env := by rfl)
    (hfew : ((backTo pos (starEach [e] C.env)).all (fun x => !x.1) && (backToKw pos (keywordEach [] C.env)).all (fun x => x.1.isSome)
      && decide (([e] : List Expr).length + ([] : List Keyword).length + (if ([] : List Keyword).isEmpty then 0 else 1) < 30)) = true := by rfl)
    (hline : (apos.endLine == pos.line) = true := by rfl) (hplain : (backTo pos (starEach [e] C.env)).any (·.1) = false := by rfl) (he' : starEach [e] C.env = (false, eval e C.env) :: starEach [] C.env := by rfl) :
    Ev C m own Bb (.Call (.Attribute o "split" apos) [e] [] pos) (Rd (.list (OutsD outs))) :=
  ev_methP (P0 := fun v _ => v = .ref 36) ho
    (fun v B s hb p hin => by
      subst p
      obtain ⟨t0, t1, e⟩ := (X _ (hin.le hb)).pat
      exact ⟨⟨_, e, rfl⟩, fun a ea => by cases ea; exact ⟨_, e, rfl⟩⟩)
    plainAttrs_re slot_re_split type_re_split (.cons he .nil hst) (fun _ _ _ _ p => p)
    (fun v vs E B s hb H p1 p Q k => by
      subst p1
      cases p with
      | cons q1 q2 =>
        cases q2
        obtain ⟨t, rfl⟩ := q1.str_inv
        obtain ⟨t0, t1, e1⟩ := (X _ (H.bin.le hb)).pat
        obtain ⟨n, e2⟩ := (X _ (H.bin.le hb)).code
        refine split_call e1 e2 hs hsp fun vs tk hv => ?_
        exact k _ _ _ (Fz.le_set H.next) ((H.pushF _).toks tk) (.list Fz.set_self rfl rfl (by simpa using strsAre_rp hv))) hbase hfew hline hplain he'

theorem ev_tupleX {es : List Expr} {ds : List PyData} {n : Nat} {pos : Pos} (h : Evs C m own Bb es ds) (hs : ds.length ≤ 1000) : Ev C m own Bb (.Tuple es n pos) (fun v B => ∃ a vs, v = .ref a ∧ B a = some { cls := .type "tuple", data := .seq vs.toArray } ∧ RpAll B vs ds) :=
  Ev.mk fun E B s hb H Q k => wpAny_Tuple_spliced (evs_spliced h E B s hb H _ fun vs B' s' hle H' p => ⟨by rw [p.length, sizeLine_eq]; omega,
    k _ _ _ (hle.trans (Fz.le_set H'.next)) (H'.pushF _) ⟨_, vs, rfl, Fz.set_self, p.mono (Fz.le_set H'.next)⟩⟩)
end

section
variable {C : Cx} {sc : Scope} {l : List (Str × Value)} {own : Own} {B : Fz} {s : Shared} {E : Value → Shared → Prop} {Q : Flow → Shared → Prop} {rest : List Stmt}
/-- result.extend((..)) -/
theorem st_extend {x : Str} {np apos pos xp tp : Pos} {es : List Expr} {kt : Nat} {ds : List PyData} {a : Addr} {items : Array Value} {pre post : Own} (S : Sc C sc) (H : Fs C (lk l) (pre ++ (a, PL items) :: post) B s) (hx : lk l x = some (.ref a)) (hsz : items.size ≤ 100000)
    (he : Evs C (lk l) (pre ++ (a, PL items) :: post) B es ds) (hds : ds.length ≤ 1000)
    (k : ∀ vs B' s', B.le B' → Fs C (lk l) (pre ++ (a, PL (items ++ vs.toArray)) :: post) B' s' → RpAll B' vs ds → Wx C rest Q E s')
    (hbase : attributeBase (.Name x np) "extend" C.env (eval (.Name x np) C.env) = eval (.Name x np) C.env := by rfl)
    (hfew : ((backTo pos (starEach [.Tuple es kt tp] C.env)).all (fun x => !x.1) && (backToKw pos (keywordEach [] C.env)).all (fun x => x.1.isSome)
      && decide (([.Tuple es kt tp] : List Expr).length + ([] : List Keyword).length + (if ([] : List Keyword).isEmpty then 0 else 1) < 30)) = true := by rfl)
    (hline : (apos.endLine == pos.line) = true := by rfl) (hplain : (backTo pos (starEach [.Tuple es kt tp] C.env)).any (·.1) = false := by rfl)
    (hl : sc.names.lookup x = some .local := by rfl) (hd : (x == ("__debug__" : Str)) = false := by decide)
    (hs : swapsWith (.Call (.Attribute (.Name x np) "extend" apos) [.Tuple es kt tp] [] pos) none xp.line C.env = pure false := by rfl) :
    Wx C (.Expr (.Call (.Attribute (.Name x np) "extend" apos) [.Tuple es kt tp] [] pos) xp :: rest) Q E s := by
  refine st_cons (wpAny_Expr ?_ S.ni hs)
  refine wpAny_Call_method hbase hfew hline PySem.F.plainAttrs_list PySem.F.slot_list_extend PySem.F.type_list_extend ?_
  refine wpAny_Name (wpAny_loadName_local S.k (S.of hl) H.ns hx ?_) hd
  obtain ⟨⟨o, ho, n, rfl⟩, _⟩ := H.mine (a, PL items) (by simp)
  refine ⟨⟨_, ho, rfl⟩, fun b e => by cases e; exact ⟨_, ho, rfl⟩, ?_⟩
  refine Calls.callWith_builtin hplain ?_
  refine Calls.evalArgs_plain ?_
  refine Calls.spliced_cons ?_
  refine (ev_tupleX (n := kt) (pos := tp) he hds).out E B s .rfl H _ fun v B' s' hle H' hp => ?_
  refine Calls.spliced_nil ?_
  obtain ⟨b, vs, rfl, hb, hr⟩ := hp
  obtain ⟨⟨o, ho', n', rfl⟩, _⟩ := H'.mine (a, PL items) (by simp)
  have hvl := hr.length
  have hz : items.size + vs.toArray.size ≤ sizeLine := by
    have : vs.toArray.size = vs.length := by simp
    rw [this, sizeLine_eq]; omega
  show wpAny _ _ (call (.builtin "list.extend") [.ref a, .ref b]) _ _ _
  refine call_meets PySem.F.slot_list_extend ⟨_, ho', rfl⟩ PySem.F.entry_list_extend (PySem.F.args_list_extend_2 _ _) (AutoSeq1.list_extend_list_tuple_0 a items n' b vs.toArray 0 (extend_door hz) (by rw [sizeLine_eq]; omega) (Nat.le_trans hz (Nat.le_succ _))) ⟨ho', H'.bin _ _ hb, ?_⟩
  have s1 := Heap.SameBut.update s'.heap a (Obj.mapSeq fun x => x ++ vs.toArray)
  have n1 := get?_update_seq ho' fun x => x ++ vs.toArray
  exact ⟨rfl, k vs B' _ hle (H'.turn (tk := s'.toks) s1 n1 ⟨_, rfl⟩) hr⟩
end
end Mine

end

section
open PySem PySem.W PyProof.Rows
set_option maxRecDepth 100000
set_option linter.all false
namespace Mine

section
variable {K : Kp} {C : Cx} {sc : Scope} {l : List (Str × Value)} {own : Own} {B : Fz} {s : Shared} {E : Value → Shared → Prop} {Q : Flow → Shared → Prop} {rest : List Stmt}
theorem wr_for {x : Str} {px pos : Pos} {iter : Expr} {body : List Stmt} {N : Nat} {It : Nat → Value → Fz → Prop} (J : Nat → List (Str × Value) → Own → Fz → Prop)
    (S : Sc C sc) (hh : C.A.handled = none) (H : Fs C (lk l) own B s) (hi : Ev C (lk l) own B iter (Ls N It)) (moI : ∀ i, Mo (It i))
    (h0 : ∀ B', B.le B' → J 0 l own B')
    (turn : ∀ i l' own' B' s' v I ax E', i < N → B.le B' → J i l' own' B' → It i v B' → Fs C (lk ((x, v) :: l')) ((I, LI ax (i + 1)) :: own') B' s' →
      Wr K C body (fun f s'' => (f = .next ∨ f = .cont) ∧ ∃ l2 own2 B2, B'.le B2 ∧ Fs C (lk l2) ((I, LI ax (i + 1)) :: own2) B2 s'' ∧ J (i + 1) l2 own2 B2) E' s')
    (k : ∀ l' own' B' s', B.le B' → J N l' own' B' → Fs C (lk l') own' B' s' → Wr K C rest Q E s')
    (hl : sc.names.lookup x = some .local := by rfl) (hs : ∀ y, foldedSetIterable iter C.env y = pure y := by intro _; rfl) :
    Wr K C (.For (.Name x px) iter body [] pos :: rest) Q E s := by
  refine Wr.cons (wpR_For (hi.out E B s .rfl H _ fun v1 B1 s1 hle1 H1 hv => ?_) hs)
  obtain ⟨ax, oa, items, na, rfl, ha, hcl, hda, hN, hit⟩ := hv
  have hL : s1.heap.IsList ax items := ⟨oa, H1.bin _ _ ha, hcl, na, hda⟩
  refine wpAny_pyIter_list hL ?_
  have H2 := H1.pushO { cls := .type "list_iterator", data := .fields #[.ref ax, .int 0 0] } (LI ax 0) ⟨rfl, rfl⟩
  generalize s1.heap.objs.size = I at H2 ⊢
  refine codeR_forLoop (fun n s' => ∃ i l' own' B', n = N + 1 - i ∧ i ≤ N ∧ B1.le B' ∧ J i l' own' B' ∧ Fs C (lk l') ((I, LI ax i) :: own') B' s') ?_ (N + 1) ⟨0, l, own, B1, rfl, Nat.zero_le _, .rfl, h0 _ hle1, H2⟩
  rintro n s' ⟨i, l', own', B', rfl, hi', hle', hJ, H'⟩
  obtain ⟨⟨oI, hoI, cI, dI⟩, nI⟩ := H'.mine (I, LI ax i) (.head _)
  have hIt : s'.heap.IsListIter I ax i := ⟨oI, hoI, cI, dI⟩
  have hl' : s'.heap.IsList ax items := ⟨oa, H'.bin _ _ (hle' _ _ ha), hcl, na, hda⟩
  cases hv : items[i]? with
  | none =>
    have hge : i = N := by
      rcases Nat.lt_or_ge i N with q | q
      · rw [Array.getElem?_eq_getElem (by omega)] at hv; cases hv
      · omega
    subst hge
    refine wpAny_pyNext_list_end hh hIt hl' hv fun h₁ he₁ => ?_
    refine wpAny_execs_nil ⟨rfl, ?_⟩
    exact k _ _ _ _ (hle1.trans hle') hJ (H'.lose (pre := []) (tk := s'.toks) he₁)
  | some v =>
    have hlt : i < N := by
      rcases Nat.lt_or_ge i N with q | q
      · exact q
      · rw [Array.getElem?_eq_none (by omega)] at hv; cases hv
    refine wpAny_pyNext_list_item hIt hl' hv fun h₁ hit₁ hs₁ => ?_
    obtain ⟨o1, g1, c1, d1⟩ := hit₁
    have H3 := H'.turn (pre := []) (tk := s'.toks) hs₁ g1 (P' := LI ax (i + 1)) ⟨c1, d1⟩
    refine wpAny_assign_Name (st_store S H3 (fun s4 H4 => ?_) hl)
    refine wpR_mono (turn i l' own' B' s4 v I ax _ hlt (hle1.trans hle') hJ (moI i v _ _ hle' (hit i v hv)) H4).out (fun f s5 h5 => ?_) fun _ _ e => e
    obtain ⟨hf, l2, own2, B2, hle2, H5, hJ2⟩ := h5
    have : ∃ m, m < N + 1 - i ∧ ∃ i l' own' B', m = N + 1 - i ∧ i ≤ N ∧ B1.le B' ∧ J i l' own' B' ∧ Fs C (lk l') ((I, LI ax i) :: own') B' s5 :=
      ⟨N + 1 - (i + 1), by omega, i + 1, l2, own2, B2, rfl, hlt, hle'.trans hle2, hJ2, H5⟩
    rcases hf with rfl | rfl <;> exact this
end

/-- what a piece of the split gives -/
inductive Pc (o : List Nat) : List PyData → Prop
  | skip : Txt.contains (Str.ofString "._+-") ⟨o.toArray⟩ = true → Pc o []
  | num {n : Int} : Txt.contains (Str.ofString "._+-") ⟨o.toArray⟩ = false → PySem.intText? ⟨o.toArray⟩ = some n → Pc o [.int 100, .int n]
  | word : Txt.contains (Str.ofString "._+-") ⟨o.toArray⟩ = false → NoNum ⟨o.toArray⟩ → (reprText ⟨o.toArray⟩).length ≤ 1000 → Pc o [.int (stageOf ⟨o.toArray⟩), .str ⟨o.toArray⟩]
inductive Pcs : List (List Nat) → List PyData → Prop
  | nil : Pcs [] []
  | cons {o : List Nat} {os : List (List Nat)} {r rs : List PyData} : o.length ≤ 600 → Pc o r → Pcs os rs → Pcs (o :: os) (r ++ rs)

end Mine

end

section
open PySem PySem.W PyProof.Rows
set_option maxRecDepth 100000
set_option linter.all false
namespace Mine

section
variable {C : Cx} {sc : Scope} {m : Str → Option Value} {own : Own} {Bb : Fz}

theorem bind1 {l : List (Str × Value)} {B : Fz} {s : Shared} {E : Value → Shared → Prop} {x : Str} {px : Pos} {v : Value} {ts : List (Value → Sem Unit)} {vs : List Value} {Q : Unit → Shared → Prop} (S : Sc C sc) (H : Fs C (lk l) own B s)
    (k : ∀ s', Fs C (lk ((x, v) :: l)) own B s' → wpAny (model C.prog C.w) C.A (assignInOrder ts vs) Q E s') (hl : sc.names.lookup x = some .local) :
    wpAny (model C.prog C.w) C.A (assignInOrder ((fun v => assign (.Name x px) C.env v) :: ts) (v :: vs)) Q E s := by
  unfold assignInOrder
  exact wpAny_bind (wpAny_holding (wpAny_assign_Name (st_store S H k hl)))

theorem turn_pair {x y : Str} {px py tp : Pos} {kt : Nat} {elt : Expr} {d1 d2 : PyData} {Pr : Value → Fz → Prop} (S : Sc C sc) (hh : C.A.handled = none)
    (h : ∀ own l B v1 v2, Bb.le B → Rp B v1 d1 → Rp B v2 d2 → Ev C (lk ((y, v2) :: (x, v1) :: l)) own B elt Pr)
    (hl1 : sc.names.lookup x = some .local := by rfl) (hl2 : sc.names.lookup y = some .local := by rfl) : Turn C Bb (.Tuple [.Name x px, .Name y py] kt tp) elt (Rd (.tuple [d1, d2])) Pr :=
  Turn.mk fun E own l B s v hb H hi Q k => by
    obtain ⟨a, vs, rfl, ht, hr⟩ := rp_tup hi H.bin
    cases hr with
    | cons r1 r2 =>
      cases r2 with
      | cons r2 r3 =>
        cases r3
        rename_i v1 v2
        rw [arm_assign_Tuple]
        refine wpAny_bind (wpAny_standAt ?_)
        unfold unpack
        refine wpAny_bind (wpAny_holding (unpackN hh ht rfl fun h' hx => ?_))
        refine bind1 S (H.keeps (tk := s.toks) hx) (fun s3 H3 => ?_) hl1
        refine bind1 S H3 (fun s4 H4 => ?_) hl2
        unfold assignInOrder
        exact wpAny_pure ((h own l B v1 v2 hb r1 r2).out E B s4 .rfl H4 Q fun y B' s'' hle H'' hp => k y _ B' s'' hle H'' hp)
theorem turn_three {x y z : Str} {px py pz tp : Pos} {kt : Nat} {elt : Expr} {d1 d2 d3 : PyData} {Pr : Value → Fz → Prop} (S : Sc C sc) (hh : C.A.handled = none)
    (h : ∀ own l B v1 v2 v3, Bb.le B → Rp B v1 d1 → Rp B v2 d2 → Rp B v3 d3 → Ev C (lk ((z, v3) :: (y, v2) :: (x, v1) :: l)) own B elt Pr)
    (hl1 : sc.names.lookup x = some .local := by rfl) (hl2 : sc.names.lookup y = some .local := by rfl) (hl3 : sc.names.lookup z = some .local := by rfl) : Turn C Bb (.Tuple [.Name x px, .Name y py, .Name z pz] kt tp) elt (Rd (.tuple [d1, d2, d3])) Pr :=
  Turn.mk fun E own l B s v hb H hi Q k => by
    obtain ⟨a, vs, rfl, ht, hr⟩ := rp_tup hi H.bin
    cases hr with
    | cons r1 r2 =>
      cases r2 with
      | cons r2 r3 =>
        cases r3 with
        | cons r3 r4 =>
          cases r4
          rename_i v1 v2 v3
          rw [arm_assign_Tuple]
          refine wpAny_bind (wpAny_standAt ?_)
          unfold unpack
          refine wpAny_bind (wpAny_holding (unpackN hh ht rfl fun h' hx => ?_))
          refine bind1 S (H.keeps (tk := s.toks) hx) (fun s3 H3 => ?_) hl1
          refine bind1 S H3 (fun s4 H4 => ?_) hl2
          refine bind1 S H4 (fun s5 H5 => ?_) hl3
          unfold assignInOrder
          exact wpAny_pure ((h own l B v1 v2 v3 hb r1 r2 r3).out E B s5 .rfl H5 Q fun y B' s'' hle H'' hp => k y _ B' s'' hle H'' hp)

/-- a comprehension over a list of data -/
abbrev ItD (ds : List PyData) : Nat → Value → Fz → Prop := fun i x B => ∃ d, ds[i]? = some d ∧ Rp B x d
theorem ItD.mo {ds : List PyData} : ∀ i, Mo (ItD ds i) := fun i v B B' h ⟨d, e, r⟩ => ⟨d, e, r.mono h⟩
theorem turnD {B : Fz} {target elt : Expr} {ds es : List PyData} {i : Nat} (hlen : es.length = ds.length) (hi : i < ds.length) (h : ∀ d e, ds[i]? = some d → es[i]? = some e → Turn C B target elt (Rd d) (Rd e)) : Turn C B target elt (ItD ds i) (ItD es i) :=
  Turn.mk fun E own l B s v hb H hit Q k => by
    obtain ⟨d, hd, hr⟩ := hit
    have he : es[i]? = some (es[i]'(by omega)) := List.getElem?_eq_getElem _
    exact (h d _ hd he).out E own l B s v hb H hr Q fun y l' B' s' hle H' hp => k y l' B' s' hle H' ⟨_, he, hp⟩
theorem ev_compD {elt target iter : Expr} {scope : Scope} {pos : Pos} {ds es : List PyData} (h1 : Ev C m own Bb iter (Rd (.list ds))) (hlen : es.length = ds.length)
    (turn : ∀ (B : Fz) (s : Shared) (D : Addr) (i : Nat) (d e : PyData), ds[i]? = some d → es[i]? = some e → Bb.le B → Turn (compCx C B s D scope) B target elt (Rd d) (Rd e)) (hh : C.A.handled = none) (hsz : ds.length ≤ 100000)
    (hfree : ∀ y ∈ scope.names, y.2 ≠ .free := by decide) (hcell : ∀ y ∈ scope.names, y.2 ≠ .cell := by decide) (hkind : scope.kind = .function := by rfl)
    (hnames : ∀ y ∈ scope.names, y.2 = .local → scope.names.lookup y.1 = some .local := by decide) (hs : ∀ x, foldedSetIterable iter C.env x = pure x := by intro _; rfl) :
    Ev C m own Bb (.ListComp elt [⟨target, iter, [], 0⟩] scope pos) (Rd (.list es)) :=
  (ev_comp (N := ds.length) (It := ItD ds) (Pr := ItD es) (h1.weaken fun v B _ p => Ls.of_rp p) (fun B s D i hi hb => turnD hlen hi fun d e hd he => turn B s D i d e hd he hb) ItD.mo ItD.mo hh hsz hfree hcell hkind hnames hs).weaken
    fun v B _ p => Ls.rp (by rw [hlen]; exact p)

theorem ev_range {e : Expr} {rp cp : Pos} {N : Nat} (S : Sc C sc) (G : GB Bb) (he : Ev C m own Bb e (Rd (.int (N : Nat)))) (hl : sc.names.lookup (Str.ofString "range") = some .globalImplicit := by rfl)
    (hst : ∀ r env, starEach (e :: r) env = (false, eval e env) :: starEach r env := by intro _ _; rfl) (hplain : (backTo cp (starEach [e] C.env)).any (·.1) = false := by rfl) (he' : starEach [e] C.env = (false, eval e C.env) :: starEach [] C.env := by rfl) :
    Ev C m own Bb (.Call (.Name (Str.ofString "range") rp) [e] [] cp) (fun v B => ∃ r t u z, v = .ref r ∧ B r = some { cls := .type "range", data := .fields #[.int 0 t, .int (N : Nat) u, .int 1 z] }) :=
  ev_callT (T := "range") (ev_builtin S G (by decide) hl) (.cons he .nil hst) (fun vs E B s _ H p Q k => by
    cases p with
    | cons p1 p2 =>
      cases p2
      obtain ⟨t, rfl⟩ := p1.int_inv
      refine call_range_1 ?_
      exact k _ _ _ (Fz.le_set H.next) ((H.pushF _).toks _) ⟨_, _, _, _, rfl, Fz.set_self⟩) hplain he'
end

abbrev RIo (i N : Nat) : Obj := { cls := .type "range_iterator", data := .fields #[rawInt (i : Nat), rawInt ((N : Int) - (i : Nat)), rawInt 1] }

section
variable {K : Kp} {C : Cx} {sc : Scope} {l : List (Str × Value)} {own : Own} {B : Fz} {s : Shared} {E : Value → Shared → Prop} {Q : Flow → Shared → Prop} {rest : List Stmt}
theorem wr_forRange {x : Str} {px pos rp cp : Pos} {e : Expr} {body : List Stmt} {N : Nat} (J : Nat → List (Str × Value) → Own → Fz → Prop)
    (S : Sc C sc) (G : GB B) (hh : C.A.handled = none) (H : Fs C (lk l) own B s) (he : Ev C (lk l) own B e (Rd (.int (N : Nat)))) (hN : N ≤ 1000000)
    (h0 : ∀ B', B.le B' → J 0 l own B')
    (turn : ∀ i l' own' B' s' t I E', i < N → B.le B' → J i l' own' B' → Fs C (lk ((x, .int (i : Nat) t) :: l')) ((I, PX (RIo (i + 1) N)) :: own') B' s' →
      Wr K C body (fun f s'' => (f = .next ∨ f = .cont) ∧ ∃ l2 own2 B2, B'.le B2 ∧ Fs C (lk l2) ((I, PX (RIo (i + 1) N)) :: own2) B2 s'' ∧ J (i + 1) l2 own2 B2) E' s')
    (k : ∀ l' own' B' s', B.le B' → J N l' own' B' → Fs C (lk l') own' B' s' → Wr K C rest Q E s')
    (hl : sc.names.lookup x = some .local := by rfl) (hlr : sc.names.lookup (Str.ofString "range") = some .globalImplicit := by rfl)
    (hst : ∀ r env, starEach (e :: r) env = (false, eval e env) :: starEach r env := by intro _ _; rfl) (hplain : (backTo cp (starEach [e] C.env)).any (·.1) = false := by rfl) (he' : starEach [e] C.env = (false, eval e C.env) :: starEach [] C.env := by rfl)
    (hs : ∀ y, foldedSetIterable (.Call (.Name (Str.ofString "range") rp) [e] [] cp) C.env y = pure y := by intro _; rfl) :
    Wr K C (.For (.Name x px) (.Call (.Name (Str.ofString "range") rp) [e] [] cp) body [] pos :: rest) Q E s := by
  refine Wr.cons (wpR_For ((ev_range S G he hlr hst hplain he').out E B s .rfl H _ fun v1 B1 s1 hle1 H1 hv => ?_) hs)
  obtain ⟨r, t, u, z, rfl, hr⟩ := hv
  refine wpAny_pyIter_range (H1.bin _ _ hr) (small_one (by decide) (by decide) (by omega) (by omega)) ?_
  have e0 : Builtin.Range.rangeSize 0 (N : Nat) 1 = (N : Int) - (0 : Nat) := by rw [rangeSize_one]; split <;> omega
  rw [e0]
  have H2 := H1.pushO (RIo 0 N) (PX (RIo 0 N)) rfl
  generalize s1.heap.objs.size = I at H2 ⊢
  refine codeR_forLoop (fun n s' => ∃ i l' own' B', n = N + 1 - i ∧ i ≤ N ∧ B1.le B' ∧ J i l' own' B' ∧ Fs C (lk l') ((I, PX (RIo i N)) :: own') B' s') ?_ (N + 1) ⟨0, l, own, B1, rfl, Nat.zero_le _, .rfl, h0 _ hle1, H2⟩
  rintro n s' ⟨i, l', own', B', rfl, hi', hle', hJ, H'⟩
  have hit : IsRangeIter s'.heap I (i : Nat) ((N : Int) - (i : Nat)) 1 := H'.at (.head _)
  rcases Nat.lt_or_ge i N with hlt | hge
  · refine wpAny_pyNext_range_item hit (by omega) fun h₁ hit₁ hs₁ => ?_
    have e1 : ((i : Nat) : Int) + 1 = ((i + 1 : Nat) : Int) := by omega
    have e2 : (N : Int) - (i : Nat) - 1 = (N : Int) - ((i + 1 : Nat) : Int) := by omega
    rw [e1, e2] at hit₁
    have H3 := H'.turn (pre := []) (tk := s'.toks + 1) hs₁ hit₁ (P' := PX (RIo (i + 1) N)) rfl
    refine wpAny_assign_Name (st_store S H3 (fun s4 H4 => ?_) hl)
    refine wpR_mono (turn i l' own' B' s4 _ I _ hlt (hle1.trans hle') hJ H4).out (fun f s5 h5 => ?_) fun _ _ e => e
    obtain ⟨hf, l2, own2, B2, hle2, H5, hJ2⟩ := h5
    have : ∃ m, m < N + 1 - i ∧ ∃ i l' own' B', m = N + 1 - i ∧ i ≤ N ∧ B1.le B' ∧ J i l' own' B' ∧ Fs C (lk l') ((I, PX (RIo i N)) :: own') B' s5 :=
      ⟨N + 1 - (i + 1), by omega, i + 1, l2, own2, B2, rfl, hlt, hle'.trans hle2, hJ2, H5⟩
    rcases hf with rfl | rfl <;> exact this
  · have hiN : i = N := by omega
    subst hiN
    refine wpAny_pyNext_range_end hh hit (by omega) fun h₁ he₁ => ?_
    refine wpAny_execs_nil ⟨rfl, ?_⟩
    exact k _ _ _ _ (hle1.trans hle') hJ (H'.lose (pre := []) (tk := s'.toks) he₁)
end
end Mine

end

section
open PySem PySem.W PyProof.Rows
set_option maxRecDepth 100000
set_option linter.all false
namespace Mine

def messagesL : List Str := ["", ":", "\n", ": 1.9", "\n.a:b"]
def extraL : List Nat := [202, 16, 10, 448, 64672, 592, 144, 192]
def manyOf (n0 : Nat) : Nat := 2 + n0 % 3
def partsN (ns : List Nat) : List Nat := ns.drop 1 ++ extraL
def rowsN (ns : List Nat) : Nat := (partsN ns).length / manyOf (ns.headD 0)
def rowParts (ns : List Nat) (k : Nat) : List Nat := ((partsN ns).drop (k * manyOf (ns.headD 0))).take (manyOf (ns.headD 0))
def rowText (ns : List Nat) (k : Nat) : Str := Txt.join (Str.ofString ".") ((rowParts ns k).map partText)
def rowMsg (ns : List Nat) (k : Nat) : Str := messagesL.getD ((ns.headD 0 / 3 + k) % 5) (Str.ofString "")
def runsDat (n : Nat) : PyData := .list ((runs n).map Run.dat)
def rowDat (ns : List Nat) (k : Nat) : PyData := .tuple [.str (rowText ns k), .str (rowMsg ns k), .list ((rowParts ns k).map runsDat)]
def versDat (ns : List Nat) : PyData := .tuple [.int (manyOf (ns.headD 0) : Nat), .list ((List.range (rowsN ns)).map (rowDat ns))]
def natsD (ns : List Nat) : List PyData := ns.map fun n => .int (n : Nat)

theorem mod5_lt (k : Nat) : ((k % 5 : Nat) : Int) < 2 ^ 63 := by omega
theorem msg_get (k : Nat) : (messagesL.map PyData.str)[((k % 5 : Nat) : Int).toNat]? = some (.str (messagesL.getD (k % 5) (Str.ofString ""))) := by
  rw [Int.toNat_natCast, List.getElem?_map, List.getD_eq_getElem?_getD, List.getElem?_eq_getElem (show k % 5 < messagesL.length from Nat.mod_lt _ (by decide))]; rfl

section
variable {C : Cx} {m : Str → Option Value} {own : Own} {Bb : Fz}
theorem evn_mul {l r : Expr} {pos : Pos} {a b : Nat} (h1 : Ev C m own Bb l (Rd (.int a))) (h2 : Ev C m own Bb r (Rd (.int b))) (hb : b < 1000) : Ev C m own Bb (.BinOp l .Mult r pos) (Rd (.int ((a * b : Nat) : Int))) := by
  rw [Int.natCast_mul]; exact ev_mul h1 h2 (.of_right (intBits_le_64 (by omega) (by omega)))
end

theorem partText_get (ns : List Nat) : ∀ (l : List Nat) (i : Nat) (d : PyData), (l.map partDat)[i]? = some d → ∃ n, l[i]? = some n ∧ d = partDat n := fun l i d h => by
  rw [List.getElem?_map] at h
  cases q : l[i]? with
  | none => rw [q] at h; cases h
  | some n => rw [q] at h; cases h; exact ⟨n, rfl, rfl⟩

theorem vers_spec {prog : Program} {w : World} {A : Around} {F : List Addr} {B : Fz} {s : Shared} {ns : List Nat} {v : Value} (G : GB B) (hB : B.In s.heap) (hF : ∀ a ∈ F, B a = none ∧ ∃ o, s.heap.get? a = some o)
    (hroom : A.depth < 800) (hh : A.handled = none) (hv : Rp B v (.list (natsD ns))) (h0 : 0 < ns.length) (h13 : ns.length ≤ 13) :
    GivesR .any prog w A F (.ref 63) [v] (Rd (versDat ns)) B s := by
  obtain ⟨n0, ns', rfl⟩ : ∃ n0 ns', ns = n0 :: ns' := by cases ns with | nil => simp at h0 | cons a r => exact ⟨a, r, rfl⟩
  refine enterR (name := Str.ofString "_law_versions") (i := 9) (c := 62) hB (G _ hB).lim (G _ hB).f63 hF (by have : recursionLimit = 1000 := rfl; omega) (binds := [(Str.ofString "numbers", v)]) (fun pm => rfl) (fun x hx => by obtain rfl := List.mem_singleton.mp hx; rfl) hh fun C E s' S hB0 hs0 hF0 hA0 hpr hw hfr H => ?_
  have hhC : C.A.handled = none := by rw [hA0]; exact hh
  have hdC : C.A.depth < 900 := by rw [hA0]; show A.depth + 1 < 900; omega
  unfold fdB
  dsimp only [PySem.Challenge.pw_mq0074_01, List.getElem?_cons_succ, List.getElem?_cons_zero]
  refine Wr.step (st_assign (P := Rd (.list (messagesL.map .str))) S H ?_ ?_)
  · refine ev_list ?_ (by decide)
    repeat' (refine .cons ev_str ?_ (fun _ _ => rfl))
    exact .nil
  intro v1 B1 s1 hle1 H1 p1
  refine st_nil ⟨rfl, ?_⟩
  refine Wr.step (st_assign (P := Rd (.int ((manyOf n0 : Nat) : Int))) S H1 ?_ ?_)
  · exact evn_add (a := 2) evn_int (evn_mod (ev_item (ev_var S rfl (hv.mono hle1)) (ev_int (i := 0)) (by decide) (by decide) (by simp [natsD])) evn_int (by decide))
  intro v2 B2 s2 hle2 H2 p2
  refine st_nil ⟨rfl, ?_⟩
  have hv2 := hv.mono (hle1.trans hle2)
  have lp : (partsN (n0 :: ns')).length = ns'.length + 8 := by simp [partsN, extraL]
  refine Wr.step (st_assignComp (N := (partsN (n0 :: ns')).length) (It := ItD (natsD (partsN (n0 :: ns')))) (Pr := ItD ((partsN (n0 :: ns')).map partDat)) S hhC H2 ?_ ?_ ItD.mo ItD.mo (by simp at h13; omega) ?_)
  · have e : (natsD (partsN (n0 :: ns'))).length = (partsN (n0 :: ns')).length := by simp [natsD]
    rw [← e]
    refine Ev.weaken (P := Rd (.list (natsD (partsN (n0 :: ns'))))) ?_ fun _ _ _ p => Ls.of_rp p
    have : natsD (partsN (n0 :: ns')) = (natsD (n0 :: ns')).drop 1 ++ natsD extraL := by simp [natsD, partsN]
    rw [this]
    refine ev_catL (ev_from1 (ev_var S rfl hv2) (by simp [natsD] at h13 ⊢; omega)) ?_ (by simp [natsD, extraL] at h13 ⊢; omega)
    refine ev_list ?_ (by decide)
    repeat' (refine .cons ev_int ?_ (fun _ _ => rfl))
    exact .nil
  · intro B' s3 D i hi hle
    refine turnD (by simp [natsD]) (by simpa [natsD] using hi) fun d e hd he => ?_
    obtain ⟨n, hn, rfl⟩ : ∃ n, (partsN (n0 :: ns'))[i]? = some n ∧ d = .int (n : Nat) := by
      simp only [natsD, List.getElem?_map] at hd
      cases q : (partsN (n0 :: ns'))[i]? with
      | none => rw [q] at hd; cases hd
      | some n => rw [q] at hd; cases hd; exact ⟨n, rfl, rfl⟩
    have he' : e = partDat n := by simp [hn] at he; exact he.symm
    subst he'
    have G' : GB B' := G.le (hle1.trans (hle2.trans hle))
    refine turn_name (S.comp rfl) fun own l Bq y hb hy => ?_
    refine ev_fn (S.comp rfl) (G'.le hb) (a := 58) (c := 57) (i := 8) (name := Str.ofString "_law_part") (by decide) (fun h g => g.f58) (.cons (ev_var (S.comp rfl) rfl hy) .nil (fun _ _ => rfl)) (hlen := by show (1 : Nat) ≤ 30; decide) fun vs B4 s4 hb4 H4 p4 => ?_
    cases p4 with
    | cons q1 q2 =>
      cases q2
      obtain ⟨t, rfl⟩ := q1.int_inv
      exact part_spec (G'.le (hb.trans hb4)) H4.bin (H4.ref (f := .none) (F := [])) hdC hhC
  intro v3 B3 s3 hle3 H3 p3
  refine st_nil ⟨rfl, ?_⟩
  have p3' : Rp B3 v3 (.list ((partsN (n0 :: ns')).map partDat)) := Ls.rp (by rw [List.length_map]; exact p3)
  refine Wr.step (st_newList S H3 fun aR s4 H4 => ?_)
  refine st_nil ⟨rfl, ?_⟩
  have hm5 : manyOf n0 < 5 := by unfold manyOf; omega
  have hm2 : 2 ≤ manyOf n0 := by unfold manyOf; omega
  have hle23 := hle2.trans hle3
  refine wr_forRange (N := rowsN (n0 :: ns')) (fun i l' own' B' => ∃ vs, own' = [(aR, PL vs)] ∧ RpAll B' vs.toList ((List.range i).map (rowDat (n0 :: ns'))) ∧ lk l' (Str.ofString "rows") = some (.ref aR) ∧ lk l' (Str.ofString "parts") = some v3 ∧ lk l' (Str.ofString "many") = some v2 ∧ lk l' (Str.ofString "messages") = some v1 ∧ lk l' (Str.ofString "numbers") = some v)
    S (G.le (hle1.trans (hle2.trans hle3))) hhC H4 ?_ ?_ ?_ ?_ ?_
  · refine evn_div (ev_lenL (ds := (partsN (n0 :: ns')).map partDat) (ev_builtin S (G.le (hle1.trans (hle2.trans hle3))) (by decide)) (ev_var S rfl p3') (by simp; simp at h13; omega)) (ev_var S rfl (p2.mono hle3)) (by omega) (by omega) |>.weaken fun v B hb p => ?_
    simpa [rowsN] using p
  · unfold rowsN
    have := Nat.div_le_self (partsN (n0 :: ns')).length (manyOf ((n0 :: ns').headD 0))
    simp at h13; omega
  · exact fun B' h => ⟨#[], rfl, .nil, rfl, rfl, rfl, rfl, rfl⟩
  · rintro i l' own' B' s5 t I E' hi hle ⟨vs, rfl, hr, k1, k2, k3, k4, k5⟩ H5
    have hvs : vs.size = i := by have := hr.length; simpa using this
    have hi13 : i ≤ 30 := by
      have h1 : rowsN (n0 :: ns') ≤ (partsN (n0 :: ns')).length := Nat.div_le_self _ _
      simp at h13; omega
    have hle' := hle23.trans hle
    refine Wr.step (st_assign (P := Rd (.list ((rowParts (n0 :: ns') i).map partDat))) S H5 ?_ ?_)
    · have e : (rowParts (n0 :: ns') i).map partDat = (((partsN (n0 :: ns')).map partDat).drop (i * manyOf n0)).take (i * manyOf n0 + manyOf n0 - i * manyOf n0) := by
        rw [Nat.add_sub_cancel_left]; simp [rowParts]
      rw [e]
      have em := ev_var (C := C) (own := [(I, PX (RIo (i + 1) (rowsN (n0 :: ns')))), (aR, PL vs)]) (m := lk ((Str.ofString "k", .int (i : Nat) t) :: l')) (Bb := B') (x := Str.ofString "many") (pos := default) S k3 (p2.mono (hle3.trans hle))
      refine ev_run (ev_var S k2 (p3'.mono hle)) (evn_mul (ev_var S rfl (.int _ _)) (ev_var S k3 (p2.mono (hle3.trans hle))) (by omega)) (evn_add (evn_mul (ev_var S rfl (.int _ _)) (ev_var S k3 (p2.mono (hle3.trans hle))) (by omega)) (ev_var S k3 (p2.mono (hle3.trans hle)))) (by simp; simp at h13; omega)
    intro v6 B6 s6 hle6 H6 p6
    refine st_nil ⟨rfl, ?_⟩
    have lps : (rowParts (n0 :: ns') i).length ≤ 4 := by
      unfold rowParts
      rw [List.length_take]
      show min (manyOf n0) _ ≤ 4
      omega
    refine Wr.step (st_assign (P := Rd (.str (rowText (n0 :: ns') i))) S H6 ?_ ?_)
    · refine ev_join ev_str (ev_compD (ev_var S rfl p6) (by simp) (fun B7 s7 D j d e hd he hb => ?_) hhC (by simp; omega)) (by decide) ?_
      · obtain ⟨n, hn, rfl⟩ := partText_get (n0 :: ns') _ j d hd
        have he' : e = .str (partText n) := by simp [hn] at he; exact he.symm
        subst he'
        exact turn_pair (S.comp rfl) hhC fun own l B v1 v2 hb r1 r2 => ev_var (S.comp rfl) rfl r1
      · have hsum : ∀ l : List Nat, ((l.map partText).map (·.length)).sum ≤ 13 * l.length := fun l => by
          induction l with
          | nil => simp
          | cons a r ih => have := partText_len a; simp at ih ⊢; omega
        have := hsum (rowParts (n0 :: ns') i)
        simp only [List.length_map] at this ⊢
        omega
    intro v7 B7 s7 hle7 H7 p7
    refine st_nil ⟨rfl, ?_⟩
    have le17 := hle6.trans hle7
    refine Wr.step (st_assign (P := Rd (.str (rowMsg (n0 :: ns') i))) S H7 ?_ ?_)
    · exact ev_item (ev_var S k4 (p1.mono (hle'.trans le17))) (evn_mod (evn_add (evn_div (a := n0) (b := 3) (ev_item (ev_var S k5 (hv2.mono (hle3.trans (hle.trans le17)))) (ev_int (i := 0)) (by decide) (by decide) (by simp [natsD])) evn_int (by decide) (by decide)) (ev_var S rfl (.int _ _))) evn_int (by decide)) (by omega) (mod5_lt _) (msg_get _)
    intro v8 B8 s8 hle8 H8 p8
    refine st_nil ⟨rfl, ?_⟩
    refine Wr.step (st_append (pre := [(I, PX (RIo (i + 1) (rowsN (n0 :: ns'))))]) (post := []) (P := Rd (rowDat (n0 :: ns') i)) S H8 k1 (by omega) ?_ ?_)
    · refine ev_tuple (.cons (ev_var S rfl (p7.mono hle8)) (.cons (ev_var S rfl p8) (.cons (ev_compD (ev_var S rfl (p6.mono (hle7.trans hle8))) (by simp) (fun B9 s9 D j d e hd he hb => ?_) hhC (by simp; omega)) .nil (fun _ _ => rfl)) (fun _ _ => rfl)) (fun _ _ => rfl)) (by simp)
      obtain ⟨n, hn, rfl⟩ := partText_get (n0 :: ns') _ j d hd
      have he' : e = runsDat n := by simp [hn] at he; exact he.symm
      subst he'
      exact turn_pair (S.comp rfl) hhC fun own l B v1 v2 hb r1 r2 => ev_var (S.comp rfl) rfl r2
    intro v9 B9 s9 hle9 H9 p9
    have lle := le17.trans (hle8.trans hle9)
    exact st_nil ⟨rfl, Wr.nil ⟨.inl rfl, _, _, B9, lle, H9, _, rfl, by rw [List.range_succ, List.map_append]; simpa using (hr.mono lle).append (.cons p9 .nil), k1, k2, k3, k4, k5⟩⟩
  · rintro l' own' B' s5 hle ⟨vs, rfl, hr, k1, k2, k3, k4, k5⟩ H5
    obtain ⟨o, ⟨n, rfl⟩, hBa, Hf⟩ := H5.freeze
    have hrp : Rp (B'.set aR { cls := .type "list", data := .seq vs n }) (.ref aR) (.list ((List.range (rowsN (n0 :: ns'))).map (rowDat (n0 :: ns')))) := .list Fz.set_self rfl rfl (hr.mono (Fz.le_set hBa))
    refine Wr.any (st_return (P := Rd (versDat (n0 :: ns'))) Hf (ev_tuple (.cons (ev_var S k3 (p2.mono (hle3.trans (hle.trans (Fz.le_set hBa))))) (.cons (ev_var S k1 hrp) .nil (fun _ _ => rfl)) (fun _ _ => rfl)) (by simp)) ?_)
    intro v6 B6 s6 hle6 H6 p6
    exact ⟨_, _, _, _, rfl, H6, p6⟩
end Mine

end

section
open PySem PySem.W PyProof.Rows
set_option maxRecDepth 100000
set_option linter.all false
namespace Mine

theorem codeAmong_add {p : Pos} {a b : Int} {c cv : Value} (l : List Value) (h : TriplesOk l) (he : codeAmong p (l ++ [rawInt a, rawInt b, c]) = some cv) : codeAmong p l = some cv ∨ cv = c := by
  fun_induction TriplesOk l with
  | case1 =>
    simp only [List.nil_append, codeAmong, rawInt] at he
    split at he
    · cases he; exact .inr rfl
    · cases he
  | case2 a' t b' u x rest ih =>
    simp only [List.cons_append, codeAmong] at he ⊢
    split at he
    · rename_i hc; rw [if_pos hc]; exact .inl he
    · rename_i hc; rw [if_neg hc]; exact ih h he
  | case3 l h1 h2 => exact h.elim

/-- the lambdas' table of the law's code -/
def TabOk (Bq : Fz) (qual : Str) (ps : Array Value) : Prop :=
  TriplesOk ps.toList ∧ ∀ p cv, codeAmong p ps.toList = some cv → ∃ c' oc vs t, cv = .ref c' ∧ Bq c' = some oc ∧ oc.data = .fields vs ∧ vs[1]? = some (.str qual t)
theorem TabOk.le {B B' : Fz} {qual : Str} {ps : Array Value} (h : TabOk B qual ps) (hl : B.le B') : TabOk B' qual ps :=
  ⟨h.1, fun p cv e => let ⟨c', oc, vs, t, e1, e2, r⟩ := h.2 p cv e; ⟨c', oc, vs, t, e1, hl _ _ e2, r⟩⟩
theorem TabOk.nil (B : Fz) (qual : Str) : TabOk B qual #[] := ⟨trivial, fun p cv e => by cases e⟩
structure GlobL (h : Heap) : Prop where
  hd : CodeHd h 67 65
  bi : ∃ mg, h.Ns mainGlobals mg ∧ h.BuiltinsAt mg 65
def GL (B : Fz) : Prop := ∀ h, B.In h → GlobL h
theorem GL.le {B B' : Fz} (G : GL B) (hl : B.le B') : GL B' := fun h hb => G h (hb.le hl)

section
variable {C : Cx} {m : Str → Option Value} {own : Own} {B : Fz} {s : Shared}
theorem Fs.perm {own' : Own} (H : Fs C m own B s) (p : own.Perm own') : Fs C m own' B s :=
  ⟨H.ns, H.gr, H.lnew, H.lout, fun q hq => H.mine q (p.mem_iff.mpr hq), (p.map _).nodup_iff.mp H.ond, H.fout⟩
theorem Fs.take {c : Addr} {o : Obj} {P : Obj → Prop} (H : Fs C m own B s) (hc : s.heap.get? c = some o) (hP : P o) (hL : c ≠ C.env.locals) (hB : B c = none) (h0 : C.s0.heap.get? c = none) (hn : ∀ p ∈ own, p.1 ≠ c) : Fs C m ((c, P) :: own) B s := by
  have H1 := H.adopt hc hL hB h0 hn
  refine ⟨H1.ns, H1.gr, H1.lnew, H1.lout, fun p hp => ?_, H1.ond, H1.fout⟩
  rcases List.mem_cons.mp hp with rfl | hp
  · exact ⟨⟨o, hc, hP⟩, hL, hB, h0⟩
  · exact H.mine p hp
theorem Fs.fresh (H : Fs C m own B s) {c : Addr} (hc : s.heap.objs.size ≤ c) : c ≠ C.env.locals ∧ B c = none ∧ C.s0.heap.get? c = none ∧ ∀ p ∈ own, p.1 ≠ c := by
  have hn : s.heap.get? c = none := Heap.get?_none_of_le hc
  refine ⟨fun q => ?_, ?_, H.gr.tr.none hn, fun p hp q => ?_⟩
  · exact absurd H.lt (Nat.not_lt.mpr (q ▸ hc))
  · cases e : B c with
    | none => rfl
    | some o => have := H.bin _ _ e; rw [hn] at this; cases this
  · obtain ⟨⟨o, e, _⟩, _⟩ := H.mine p hp
    rw [q, hn] at e; cases e
/-- an own object is turned, and the heap grows -/
theorem Fs.grow {a : Addr} {P P' : Obj → Prop} (H : Fs C m ((a, P) :: own) B s) {h' : Heap} {tk : Nat} {o : Obj} (hx : Heap.ExtBut a s.heap h') (ho : h'.get? a = some o) (hP : P' o) : Fs C m ((a, P') :: own) B { s with heap := h', toks := tk } := by
  obtain ⟨_, hL, hB, h0⟩ := H.mine (a, P) (.head _)
  have hnd := List.nodup_cons.mp (show (a :: own.map (·.1)).Nodup from H.ond)
  exact (H.lose (pre := []) (tk := tk) hx).take ho hP hL hB h0 fun p hp q => hnd.1 (List.mem_map.mpr ⟨p, hp, q⟩)
/-- a new object is frozen -/
theorem Fs.fix {c : Addr} {o : Obj} (H : Fs C m own B s) (hc : s.heap.get? c = some o) (hL : c ≠ C.env.locals) (hB : B c = none) (h0 : C.s0.heap.get? c = none) (hn : ∀ p ∈ own, p.1 ≠ c) : Fs C m own (B.set c o) s := by
  obtain ⟨o', e, _, H'⟩ := (H.take (P := PX o) hc rfl hL hB h0 hn).freeze
  cases e; exact H'
end

abbrev tabOwn (pre : Own) (ps : Array Value) : Own := (65, PX (tabObj ps)) :: pre

/-- an expression of the law's frame that may make lambdas -/
structure EvL (K : Kp) (C : Cx) (m : Str → Option Value) (pre : Own) (Bb : Fz) (qual : Str) (e : Expr) (P : Value → Fz → Prop) : Prop where
  out : ∀ (E : Value → Shared → Prop) (B : Fz) (s : Shared) (ps : Array Value), Bb.le B → Fs C m (tabOwn pre ps) B s → TabOk B qual ps → ∀ Q : Value → Shared → Prop,
    (∀ v B' s' ps', B.le B' → Fs C m (tabOwn pre ps') B' s' → TabOk B' qual ps' → P v B' → Q v s') → wpR K (model C.prog C.w) C.A (eval e C.env) Q E s
theorem Ev.toL {K : Kp} {C : Cx} {m : Str → Option Value} {pre : Own} {Bb : Fz} {qual : Str} {e : Expr} {P : Value → Fz → Prop} (h : ∀ ps, Ev C m (tabOwn pre ps) Bb e P) : EvL K C m pre Bb qual e P :=
  ⟨fun E B s ps hb H T Q k => wpR_any ((h ps).out E B s hb H Q fun v B' s' hle H' p => k v B' s' ps hle H' (T.le hle) p)⟩

section
variable {C : Cx} {sc : Scope} {m : Str → Option Value} {pre : Own} {Bb : Fz}
theorem evL_lambda {K : Kp} {params : Arguments} {body : Expr} {scope : Scope} {pos : Pos} {qual : Str} (S : Sc C sc) (L : GL Bb) (hcode : C.env.code = .ref 67) (hq : C.env.qual ++ Str.ofString "<lambda>" = qual)
    (hcl : closureFor scope C.env = pure []) (hdef : defaultsOf params C.env = ([], [])) : EvL K C m pre Bb qual (.Lambda params body scope pos) (fun v B => ∃ f, v = .ref f ∧ LamAt B f qual params body scope) :=
  ⟨fun E B s ps hb H T Q k => wpR_any (by
    subst hq
    obtain ⟨hd, mg, hg, hbi⟩ := L _ (H.bin.le hb)
    have hP : s.heap.get? 65 = some (tabObj ps) := H.at (.head _)
    have hgP : mainGlobals ≠ 65 := by decide
    refine kla_eval hdef ?_
    cases hc : codeAmong pos ps.toList with
    | none =>
      refine kla_makeFunction (mg := mg) hcl S.glob hg hcode hd hP T.1 hc hgP hbi fun c' ctv h' tk hx hge hlt hrec htb => ?_
      obtain ⟨f1, f2, f3, f4⟩ := H.fresh hge
      have H1 := H.grow (tk := tk) hx htb (P' := PX _) rfl
      obtain ⟨c2, oc, vs, t, e2, hoc, hdd, hv⟩ := hrec
      cases e2
      have H2 := H1.fix (c := c') (o := oc) hoc f1 f2 f3 fun p hp => by
        rcases List.mem_cons.mp hp with rfl | hp
        · exact f4 (65, PX (tabObj ps)) (.head _)
        · exact f4 p (.tail _ hp)
      have hle2 := Fz.le_set (o := oc) f2
      have H3 := H2.pushF (kla_obj (Str.ofString "<lambda>") (C.env.qual ++ Str.ofString "<lambda>") params body scope [] ((mg "__name__").getD .none) c' ctv)
      have hle23 := Fz.le_set (o := kla_obj (Str.ofString "<lambda>") (C.env.qual ++ Str.ofString "<lambda>") params body scope [] ((mg "__name__").getD .none) c' ctv) H2.next
      have hle3 := hle2.trans hle23
      refine k _ _ _ (ps ++ #[rawInt pos.line, rawInt pos.col, .ref c']) hle3 H3 ⟨?_, fun p cv e => ?_⟩ ⟨_, rfl, _, c', ctv, oc, vs, t, Fz.set_self, hle23 _ _ Fz.set_self, hdd, hv⟩
      · rw [Array.toList_append]; exact TriplesOk_snoc _ _ _ _ T.1
      · rw [Array.toList_append] at e
        rcases codeAmong_add _ T.1 e with e | rfl
        · exact (T.le hle3).2 p cv e
        · exact ⟨c', oc, vs, t, rfl, hle23 _ _ Fz.set_self, hdd, hv⟩
    | some cv =>
      obtain ⟨c', oc, vs, t, rfl, e2, e3, e4⟩ := T.2 pos cv hc
      refine kla_makeFunctionHit (mg := mg) hcl S.glob hg hcode hd hP T.1 hc hbi fun ctv h' tk hk hsz => ?_
      have H1 := H.keeps (tk := tk) hk
      have H3 := H1.pushF (kla_obj (Str.ofString "<lambda>") (C.env.qual ++ Str.ofString "<lambda>") params body scope [] ((mg "__name__").getD .none) c' ctv)
      have hle3 := Fz.le_set (o := kla_obj (Str.ofString "<lambda>") (C.env.qual ++ Str.ofString "<lambda>") params body scope [] ((mg "__name__").getD .none) c' ctv) H1.next
      exact k _ _ _ ps hle3 H3 (T.le hle3) ⟨_, rfl, _, c', ctv, oc, vs, t, Fz.set_self, hle3 _ _ e2, e3, e4⟩)⟩
end
end Mine

end

section
open PySem PySem.W PyProof.Rows
set_option maxRecDepth 100000
set_option linter.all false
namespace Mine

theorem rpAll_pick {B : Fz} {vs : List Value} {ds : List PyData} (h : RpAll B vs ds) : ∀ {σ : List Nat}, (∀ i ∈ σ, i < ds.length) → RpAll B (σ.map fun i => vs.getD i .none) (σ.map fun i => ds.getD i .none)
  | [], _ => .nil
  | i :: σ, hi => by
    have h1 := hi i (.head _)
    have hd : ds[i]? = some (ds.getD i .none) := by rw [List.getD_eq_getElem?_getD, List.getElem?_eq_getElem h1]; rfl
    obtain ⟨v, hv, hr⟩ := h.get hd
    have e : vs.getD i .none = v := by rw [List.getD_eq_getElem?_getD, hv]; rfl
    simp only [List.map_cons]
    exact .cons (by rw [e]; exact hr) (rpAll_pick h fun j hj => hi j (.tail _ hj))

/-- what a stable sort by keys gives -/
abbrev SortD (ds : List PyData) (ks : Nat → PyData) : Value → Fz → Prop := fun v B =>
  ∃ σ : List Nat, σ.Perm (List.range ds.length) ∧ σ.Pairwise (Rr fun i j => plt (ks i) (ks j)) ∧ Rp B v (.list (σ.map fun i => ds.getD i .none))

section
variable {C : Cx} {sc : Scope} {m : Str → Option Value} {pre : Own} {Bb : Fz}
theorem evL_sorted {K : Kp} {fp kp lp pos : Pos} {e : Expr} {params : Arguments} {body : Expr} {scope : Scope} {qual : Str} {ds : List PyData} {ks : Nat → PyData} (S : Sc C sc) (G : GB Bb) (L : GL Bb) (hcode : C.env.code = .ref 67) (hq : C.env.qual ++ Str.ofString "<lambda>" = qual)
    (he : ∀ ps, Ev C m (tabOwn pre ps) Bb e (Rd (.list ds))) (h64 : ds.length < 64)
    (hl : ∀ i, ∃ xs, ks i = .list xs) (hok : ∀ i j, pok (ks i) (ks j) = true) (hcan : ∀ i, (ks i).canLay0 = true) (hd : ∀ i, (ks i).depth ≤ 64) (hu : C.A.units + 300 < cLine)
    (W : Wk fun i j => plt (ks i) (ks j))
    (turn : ∀ i d v f own' B' s', ds[i]? = some d → Rp B' v d → Bb.le B' → LamAt B' f qual params body scope → Fs C m own' B' s' → GivesR K C.prog C.w C.A.in1.in1 (C.env.locals :: C.F) (.ref f) [v] (Rd (ks i)) B' s')
    (hcl : closureFor scope C.env = pure [] := by rfl) (hdef : defaultsOf params C.env = ([], []) := by rfl)
    (hst : ∀ r env, starEach (e :: r) env = (false, eval e env) :: starEach r env := by intro _ _; rfl) (hplain : (backTo pos (starEach [e] C.env)).any (·.1) = false := by rfl) (he' : starEach [e] C.env = (false, eval e C.env) :: starEach [] C.env := by rfl)
    (hls : sc.names.lookup (Str.ofString "sorted") = some .globalImplicit := by rfl) :
    EvL K C m pre Bb qual (.Call (.Name (Str.ofString "sorted") fp) [e] [⟨some (Str.ofString "key"), .Lambda params body scope lp, kp⟩] pos) (SortD ds ks) :=
  ⟨fun E B s ps hb H T Q k => by
    rw [arm_eval_Call_Name']
    refine wpR_abind ((ev_builtin (x := Str.ofString "sorted") (v := .builtin "sorted") S G (by decide) hls).out E B s hb H _ fun u B1 s1 hle1 H1 q => ?_)
    subst q
    refine callWithR_kw hplain rfl ?_
    have hx := evs_spliced (pos := pos) (.cons (he ps) .nil hst) E B1 s1 (hb.trans hle1) H1
      (fun vs s' => wpAny (model C.prog C.w) C.A (evalAll ((backToKw pos (keywordEach [⟨some (Str.ofString "key"), .Lambda params body scope lp, kp⟩] C.env)).map (·.2)))
        (fun kvs s₂ => wpR K (model C.prog C.w) C.A (call (.builtin "sorted") vs (((backToKw pos (keywordEach [⟨some (Str.ofString "key"), .Lambda params body scope lp, kp⟩] C.env)).filterMap (·.1)).zip kvs)) Q E s₂) E s') fun vs B2 s2 hle2 H2 p => ?_
    · rw [he'] at hx ⊢
      exact evalArgs_kwB rfl hx
    · have hb2 := hb.trans (hle1.trans hle2)
      refine kws_cons (wpAny_of ((evL_lambda (K := .any) S (L.le hb2) hcode hq hcl hdef).out E B2 s2 ps .rfl H2 (T.le (hle1.trans hle2)) _ fun u B3 s3 ps3 hle3 H3 T3 hf => ?_))
      obtain ⟨f, rfl, hlam⟩ := hf
      refine kws_nil ?_
      cases p with
      | cons p1 p2 =>
        cases p2
        obtain ⟨a, o, its, n, rfl, e1, e2, e3, e4⟩ := (p1.mono hle3).list_inv
        show wpR K _ _ (call (.builtin "sorted") [.ref a] [(Str.ofString "key", .ref f)]) _ _ _
        have hlen : its.toList.length = ds.length := e4.length
        refine sortedR (vs := its.toList) (nl := n) H3 e1 e2 (by simpa using e3) (by omega) hl hok hcan hd hu W (fun i v own' B' s' hv hle H' => ?_) fun a' B' s' o' c σ hle H' ha ho hp hw => ?_
        · have hi : i < ds.length := by rw [← hlen]; exact (List.getElem?_eq_some_iff.mp hv).1
          have hdi : ds[i]? = some ds[i] := List.getElem?_eq_getElem hi
          obtain ⟨v', hv', hr⟩ := e4.get hdi
          rw [hv] at hv'; cases hv'
          exact turn i _ v f own' B' s' hdi (hr.mono hle) (hb2.trans (hle3.trans hle)) (hlam.mono hle) H'
        · subst ho
          rw [hlen] at hp
          refine k _ B' s' ps3 (hle1.trans (hle2.trans (hle3.trans hle))) H' (T3.le hle) ⟨σ, hp, hw, .list ha rfl rfl ?_⟩
          simpa using rpAll_pick (e4.mono hle) fun i hi => by simpa using hp.mem_iff.mp hi⟩

/-- x = .. -/
theorem wrL_assign {K : Kp} {l : List (Str × Value)} {B : Fz} {s : Shared} {E : Value → Shared → Prop} {Q : Flow → Shared → Prop} {rest : List Stmt} {ps : Array Value} {qual : Str} {x : Str} {p pos : Pos} {e : Expr} {P : Value → Fz → Prop} (S : Sc C sc) (H : Fs C (lk l) (tabOwn pre ps) B s) (T : TabOk B qual ps) (he : EvL K C (lk l) pre B qual e P)
    (k : ∀ v B' s' ps', B.le B' → Fs C (lk ((x, v) :: l)) (tabOwn pre ps') B' s' → TabOk B' qual ps' → P v B' → Wr K C rest Q E s')
    (hs : swapsWith e (some (.Name x p)) pos.line C.env = pure false := by rfl) (hl : sc.names.lookup x = some .local := by rfl) :
    Wr K C (.Assign [.Name x p] e pos :: rest) Q E s :=
  Wr.cons (wpR_Assign_Name (he.out E B s ps .rfl H T _ fun v B' s' ps' hle H' T' hp => st_store S H' (fun s'' H'' => ⟨rfl, k v B' s'' ps' hle H'' T' hp⟩) hl) hs)

theorem wpR_Compare1 {K : Kp} {M : Model} {A : Around} {E : Value → Shared → Prop} {s : Shared} {env : Env} {l r : Expr} {op : CmpOp} {pos : Pos} {Q : Value → Shared → Prop}
    (h : wpAny M A (eval l env) (fun a s₁ => wpR K M A (eval r env) (fun b s₂ => wpAny M A (compareOp op a b) Q E s₂) E s₁) E s)
    (hm : behindInMarks op r = false := by with_unfolding_all rfl) :
    wpR K M A (eval (.Compare l [op] [r] pos) env) Q E s := fun Γ p hΓ hc => by
  simp only [eval_Compare1, markedBehindIn_of_false hm, Sem.wp_bind', Sem.wp_holding, Sem.wp_cmd_standAt, Sem.wp_operate]
  exact Sem.wp_mono M Γ _ (fun a p₁ s₁ h₁ => Sem.wp_mono M Γ _ (fun b _ s₂ h₂ => h₂ Γ _ hΓ) (fun _ _ _ h' => h') _ _ (h₁ Γ p₁ hΓ (K.at' hc)))
    (fun _ _ _ h' => h') _ _ (h Γ p hΓ)
end
end Mine

end

section
open PySem PySem.W PyProof.Rows
set_option maxRecDepth 100000
set_option linter.all false
namespace Mine

theorem Pc.len {o r} (h : Pc o r) : r.length ≤ 2 := by cases h <;> simp
theorem Pcs.len : ∀ {os : List (List Nat)} {rs : List PyData}, Pcs os rs → rs.length ≤ 2 * os.length
  | _, _, .nil => by simp
  | _, _, .cons h1 h2 h3 => by
    have := h2.len; have := h3.len
    simp; omega

section
variable {K : Kp} {C : Cx} {sc : Scope} {l : List (Str × Value)} {own : Own} {B : Fz} {s : Shared} {E : Value → Shared → Prop} {Q : Flow → Shared → Prop} {rest : List Stmt}
theorem wr_if {test : Expr} {body orelse : List Stmt} {pos : Pos} {b : Bool} (H : Fs C (lk l) own B s) (ht : Et C (lk l) own B test b)
    (k : ∀ B' s', B.le B' → Fs C (lk l) own B' s' → Wr K C (if b then body else orelse) (fun f s'' => f = .next ∧ Wr K C rest Q E s'') E s') :
    Wr K C (.If test body orelse pos :: rest) Q E s :=
  Wr.cons (wpR_If (ht.out E B s .rfl H _ fun B' s' hle H' => by
    have := (k B' s' hle H').out
    cases b <;> exact this))
theorem Wr.seq {st : Stmt} {J : Shared → Prop} (h : Wr K C [st] (fun f s'' => f = .next ∧ J s'') E s) (k : ∀ s'', J s'' → Wr K C rest Q E s'') : Wr K C (st :: rest) Q E s := by
  refine Wr.cons (wpR_mono (?_ : wpR K (model C.prog C.w) C.A (exec st C.env) (fun f s'' => f = .next ∧ J s'') E s) (fun f s'' h2 => ⟨h2.1, k s'' h2.2⟩) fun _ _ x => x)
  intro Γ p hΓ hc
  have h' := h.out Γ p hΓ hc
  rw [execs_cons, Sem.wp_bind'] at h'
  refine Sem.wp_mono _ Γ _ (fun f p' s' hf => ?_) (fun _ _ _ x => x) p s h'
  cases f with
  | next => rw [arm_execs_nil] at hf; exact hf
  | _ => exact hf
theorem callWithR_type {M : Model} {A : Around} {pos : Pos} {T : String} {args : List (Bool × Sem Value)} {Q : Value → Shared → Prop} (hplain : args.any (·.1) = false)
    (h : wpAny M A (evalArgs (.type T) true args []) (fun a s₁ => wpR K M A (call (.type T) a.pos a.kw) Q E s₁) E s) : wpR K M A (callWith pos (.type T) [] args []) Q E s := by
  unfold callWith
  refine wpR_bind (wpR_holding (wpR_any (wpAny_mono h (fun a s₁ h₁ => wpR_bind (wpR_standAt ?_)) fun _ _ x => x)))
  simp only [hplain, List.any_nil, Bool.or_false]
  refine wpR_bind (wpR_pure ?_)
  exact wpR_bind (wpR_mono h₁ (fun r s₂ hr => wpR_any (wpAny_bind (wpAny_holding (wpAny_point (wpAny_pure hr))))) fun _ _ x => x)

/-- v = int(v, 10), which refuses -/
theorem wr_intRefused {px pos ip xp cp kp : Pos} {k : Nat} {v : Str} {t : Tok} {rest' : List Stmt} (S : Sc C sc) (G : GB B) (hh : C.A.handled = none) (H : Fs C (lk l) own B s) (hv : lk l (Str.ofString "v") = some (.str v t)) (hl600 : v.length ≤ 600) (hn : NoNum v) (hr : (reprText v).length ≤ 1000)
    (hk1 : sc.names.lookup (Str.ofString "v") = some .local := by rfl) (hk2 : sc.names.lookup (Str.ofString "int") = some .globalImplicit := by rfl) :
    Wr .cal C (.Assign [.Name (Str.ofString "v") px] (.Call (.Name (Str.ofString "int") ip) [.Name (Str.ofString "v") xp, .Constant (.int 10) k kp] [] cp) pos :: rest') Q (Raised C (lk l) own B) s := by
  refine Wr.cons (wpR_Assign_Name ?_)
  rw [arm_eval_Call_Name']
  refine wpR_abind ((ev_builtin (x := Str.ofString "int") (v := .type "int") S G (by decide) hk2).out _ B s .rfl H _ fun u B1 s1 hle1 H1 q => ?_)
  subst q
  refine callWithR_type rfl ?_
  have ha : Evs C (lk l) own B [.Name (Str.ofString "v") xp, .Constant (.int 10) k kp] [.str v, .int 10] := .cons (ev_var S hv (.str _ _) hk1) (.cons ev_int .nil (fun _ _ => rfl)) (fun _ _ => rfl)
  refine Calls.evalArgs_plain (evs_spliced (pos := cp) ha _ B1 s1 hle1 H1 _ fun vs B2 s2 hle2 H2 p => ?_)
  cases p with
  | cons p1 p2 =>
    cases p2 with
    | cons p2 p3 =>
      cases p3
      obtain ⟨t1, rfl⟩ := p1.str_inv
      obtain ⟨t2, rfl⟩ := p2.int_inv
      exact call_int10_refuses (by omega) hn hr hh fun h' tk e hx => ⟨e, B2, s2, h', tk, rfl, hle1.trans hle2, H2, rfl, hx⟩
theorem ev_int10 {m : Str → Option Value} {Bb : Fz} {ip cp kp : Pos} {k : Nat} {v : Str} {n : Int} {e : Expr} (S : Sc C sc) (G : GB Bb) (he : Ev C m own Bb e (Rd (.str v))) (hl : v.length ≤ 600) (hn : PySem.intText? v = some n)
    (hst : ∀ r env, starEach (e :: r) env = (false, eval e env) :: starEach r env := by intro _ _; rfl)
    (hplain : (backTo cp (starEach [e, .Constant (.int 10) k kp] C.env)).any (·.1) = false := by rfl) (he' : starEach [e, .Constant (.int 10) k kp] C.env = (false, eval e C.env) :: starEach [.Constant (.int 10) k kp] C.env := by rfl)
    (hk2 : sc.names.lookup (Str.ofString "int") = some .globalImplicit := by rfl) :
    Ev C m own Bb (.Call (.Name (Str.ofString "int") ip) [e, .Constant (.int 10) k kp] [] cp) (Rd (.int n)) :=
  ev_callT (T := "int") (ev_builtin S G (by decide) hk2) (.cons he (.cons ev_int .nil (fun _ _ => rfl)) hst) (fun vs E B s _ H p Q k => by
    cases p with
    | cons p1 p2 =>
      cases p2 with
      | cons p2 p3 =>
        cases p3
        obtain ⟨t1, rfl⟩ := p1.str_inv
        obtain ⟨t2, rfl⟩ := p2.int_inv
        exact call_int10 (by omega) hn (k _ B _ .rfl (H.toks _) (.int _ _))) hplain he'
end

theorem comp_spec {prog : Program} {w : World} {A : Around} {F : List Addr} {B : Fz} {s : Shared} {x : Str} {t : Tok} {outs : List (List Nat)} {rs : List PyData} (G : GB B) (X : GX prog w B) (hB : B.In s.heap) (hF : ∀ a ∈ F, B a = none ∧ ∃ o, s.heap.get? a = some o) (hFr : Frs A F s)
    (hroom : A.depth < 900) (hh : A.handled = none) (hx : x.cps.size < 10000) (hsp : SplitsTo x.cps.toList outs) (hp : Pcs outs rs) :
    GivesR .cal prog w A F (.ref 44) [.str x t] (Rd (.list rs)) B s := by
  refine enterR (name := Str.ofString "_comparable_version") (i := 4) (c := 43) hB (G _ hB).lim (G _ hB).f44 hF (by have : recursionLimit = 1000 := rfl; omega) (binds := [(Str.ofString "version", .str x t)]) (fun pm => rfl) (fun x hx => by obtain rfl := List.mem_singleton.mp hx; rfl) hh fun C E s' S hB0 hs0 hF0 hA0 hpr hw hfr H => ?_
  subst hpr hw
  have Fm : Fms C := .of hFr hA0 hF0 hs0 hfr.1
  have hhC : C.A.handled = none := by rw [hA0]; exact hh
  unfold fdB
  dsimp only [PySem.Challenge.pw_mq0074_01, List.getElem?_cons_succ, List.getElem?_cons_zero]
  refine Wr.step (st_assign (P := fun v _ => v = .ref 36) S H (ev_global S G (by decide)) ?_)
  rintro v1 B1 s1 hle1 H1 rfl
  refine st_nil ⟨rfl, ?_⟩
  refine Wr.step (st_newList S H1 fun aR s2 H2 => ?_)
  refine st_nil ⟨rfl, ?_⟩
  have hol := hsp.length
  have hol' : x.cps.toList.length = x.cps.size := Array.length_toList
  refine wr_for (N := (OutsD outs).length) (It := fun i x B => ∃ d, (OutsD outs)[i]? = some d ∧ Rp B x d)
    (fun i l' own' B' => ∃ vs a b, own' = [(aR, PL vs)] ∧ lk l' (Str.ofString "result") = some (.ref aR) ∧ rs = a ++ b ∧ Pcs (outs.drop i) b ∧ RpAll B' vs.toList a ∧ a.length ≤ 2 * i) S hhC H2 ?_ ?_ ?_ ?_ ?_
  · refine (ev_split (X.le hle1) (ev_name S (P := fun v _ => v = .ref 36) rfl fun _ _ => rfl) (ev_var S rfl (.str _ _)) (by omega) hsp).weaken fun v B' _ p => Ls.of_rp p
  · exact fun i v B B' h ⟨d, e, r⟩ => ⟨d, e, r.mono h⟩
  · exact fun B' h => ⟨#[], [], rs, rfl, rfl, rfl, hp, .nil, Nat.le_refl _⟩
  · rintro i l' own' B' s3 v I ax E' hi hle ⟨vs, a, b, rfl, hres, hrs, hpb, hra, hla⟩ ⟨d, hd, hrd⟩ H3
    have hiN : i < outs.length := by simpa [OutsD] using hi
    have ho : outs[i]? = some outs[i] := List.getElem?_eq_getElem hiN
    have hdr : outs.drop i = outs[i] :: outs.drop (i + 1) := List.drop_eq_getElem_cons hiN
    have hdd : d = .str ⟨(outs[i]).toArray⟩ := by
      simp [OutsD, ho] at hd; exact hd.symm
    subst hdd
    obtain ⟨tv, rfl⟩ := hrd.str_inv
    rw [hdr] at hpb
    generalize outs[i] = o at *
    have hvs : vs.size = a.length := by have := hra.length; simpa using this
    have G3 : GB B' := G.le (hle1.trans hle)
    have X3 : GX C.prog C.w B' := X.le (hle1.trans hle)
    cases hpb with
    | @cons _ _ r rb h600 hpc hpn =>
      refine wr_if (b := !Txt.contains (Str.ofString "._+-") ⟨o.toArray⟩) H3 (et_notInS (ev_var S rfl (.str _ _)) ev_str) fun B4 s4 hle4 H4 => ?_
      cases hpc with
      | skip hc =>
        rw [hc]
        refine Wr.nil ⟨rfl, Wr.nil ⟨.inl rfl, _, _, B4, hle4, H4, vs, a, rb, rfl, hres, by simpa using hrs, hpn, hra.mono hle4, by omega⟩⟩
      | @num n hc hn =>
        rw [hc]
        refine wr_tryOk (fun s'' => ∃ l2 B2 vt vv, B4.le B2 ∧ Fs C (lk l2) [(I, LI ax (i + 1)), (aR, PL vs)] B2 s'' ∧ lk l2 (Str.ofString "result") = some (.ref aR) ∧ lk l2 (Str.ofString "t") = some vt ∧ Rp B2 vt (.int 100) ∧ lk l2 (Str.ofString "v") = some vv ∧ Rp B2 vv (.int n))
          ?_ ?_
        · intro E6
          refine Wr.any ?_
          refine st_assign (P := Rd (.int n)) S H4 (ev_int10 S (G3.le hle4) (ev_var S rfl (.str _ _)) (by simpa [Str.length] using h600) hn) fun v5 B5 s5 hle5 H5 p5 => ?_
          refine st_assign (P := Rd (.int 100)) S H5 ev_int fun v6 B6 s6 hle6 H6 p6 => ?_
          exact st_nil ⟨rfl, _, B6, v6, v5, hle5.trans hle6, H6, hres, rfl, p6, rfl, p5.mono hle6⟩
        · rintro s5 ⟨l2, B5, vt, vv, hle5, H5, k1, k2, p2, k3, p3⟩
          refine Wr.any (st_extend (pre := [(I, LI ax (i + 1))]) (post := []) (ds := [.int 100, .int n]) S H5 k1 (by omega) (.cons (ev_var S k2 p2) (.cons (ev_var S k3 p3) .nil (fun _ _ => rfl)) (fun _ _ => rfl)) (by simp) fun ws B6 s6 hle6 H6 hr6 => ?_)
          have lle := hle4.trans (hle5.trans hle6)
          exact st_nil ⟨rfl, Wr.nil ⟨.inl rfl, _, _, B6, lle, H6, _, a ++ [.int 100, .int n], rb, rfl, k1, by rw [hrs]; simp, hpn, by simpa using (hra.mono lle).append hr6, by simp; omega⟩⟩
      | word hc hn hr =>
        rw [hc]
        refine wr_try (fun s'' => ∃ l2 B2 vt vv, B4.le B2 ∧ Fs C (lk l2) [(I, LI ax (i + 1)), (aR, PL vs)] B2 s'' ∧ lk l2 (Str.ofString "result") = some (.ref aR) ∧ lk l2 (Str.ofString "t") = some vt ∧ Rp B2 vt (.int (stageOf ⟨o.toArray⟩)) ∧ lk l2 (Str.ofString "v") = some vv ∧ Rp B2 vv (.str ⟨o.toArray⟩))
          S Fm (G3.le hle4) H4 ?_ ?_ ?_
        · exact wr_intRefused S (G3.le hle4) hhC H4 rfl (by simpa [Str.length] using h600) hn hr
        · intro e B5 s5 E5 hle5 H5
          refine st_assign (C := onA C (C.A.mark (some (.ref e)))) (P := Rd (.int (stageOf ⟨o.toArray⟩))) (S.on _) H5 (ev_stage (S.on _) (G3.le (hle4.trans hle5)) (X3.le (hle4.trans hle5)) (ev_var (S.on _) rfl (.str _ _))) fun v6 B6 s6 hle6 H6 p6 => ?_
          exact st_nil ⟨rfl, _, B6, v6, _, hle5.trans hle6, H6.off, hres, rfl, p6, rfl, .str _ _⟩
        · rintro s5 ⟨l2, B5, vt, vv, hle5, H5, k1, k2, p2, k3, p3⟩
          refine Wr.any (st_extend (pre := [(I, LI ax (i + 1))]) (post := []) (ds := [.int (stageOf ⟨o.toArray⟩), .str ⟨o.toArray⟩]) S H5 k1 (by omega) (.cons (ev_var S k2 p2) (.cons (ev_var S k3 p3) .nil (fun _ _ => rfl)) (fun _ _ => rfl)) (by simp) fun ws B6 s6 hle6 H6 hr6 => ?_)
          have lle := hle4.trans (hle5.trans hle6)
          exact st_nil ⟨rfl, Wr.nil ⟨.inl rfl, _, _, B6, lle, H6, _, a ++ [.int (stageOf ⟨o.toArray⟩), .str ⟨o.toArray⟩], rb, rfl, k1, by rw [hrs]; simp, hpn, by simpa using (hra.mono lle).append hr6, by simp; omega⟩⟩
  · rintro l' own' B' s3 hle ⟨vs, a, b, rfl, hres, hrs, hpb, hra, hla⟩ H3
    have hb : b = [] := by
      have : outs.drop (OutsD outs).length = [] := by simp [OutsD]
      rw [this] at hpb
      cases hpb; rfl
    subst hb
    rw [List.append_nil] at hrs
    subst hrs
    refine Wr.any (st_return (P := fun v _ => v = .ref aR) H3 (ev_name S hres fun _ _ => rfl) ?_)
    rintro v B4 s4 hle4 H4 rfl
    obtain ⟨o, ⟨n, rfl⟩, hBa, Hf⟩ := H4.freeze
    exact ⟨_, _, _, _, rfl, Hf, .list Fz.set_self rfl rfl (hra.mono (hle4.trans (Fz.le_set hBa)))⟩
end Mine

end

section
open PySem PySem.W PyProof.Rows
set_option maxRecDepth 100000
set_option linter.all false
namespace Mine

section
variable {C : Cx} {m : Str → Option Value} {own : Own}
theorem comp_block0 {elt target iter : Expr} {rest : List Comprehension} {scope : Scope} {pos : Pos} {ax : Addr} {oa : Obj} {items : Array Value} {na : Nat} {B1 : Fz} {s1 : Shared} {RR : Value → Env → Result → Shared → Prop} {E : Value → Shared → Prop}
    (hh : C.A.handled = none) (H : Fs C m own B1 s1) (ha : B1 ax = some oa) (hcl : oa.cls = .type "list") (hda : oa.data = .seq items na)
    (hcell : ∀ y ∈ scope.names, y.2 ≠ .cell) (hkind : scope.kind = .function)
    (hloop : ∀ D I c s, Fs (compCx C B1 s1 c scope) (lk []) [(D, PL #[]), (I, LI ax 0)] B1 s → codeAny (model C.prog C.w) C.A (.compLoop (.ListComp elt (⟨target, iter, [], 0⟩ :: rest) scope pos) 0 (.ref I) (.ref D) (compEnv scope c C.env)) (RR (.ref D) (compEnv scope c C.env)) s) :
    wpAny (model C.prog C.w) C.A (pyIter (.ref ax)) (fun it s₂ => wpAny (model C.prog C.w) C.A (newList []) (fun acc s₃ =>
      wpAny (model C.prog C.w) C.A (newFunctionEnv scope C.env.globals [] [] C.env.qual none .none (some C.env)) (fun cenv s₄ =>
        codeAny (model C.prog C.w) C.A (.compStart (.ListComp elt (⟨target, iter, [], 0⟩ :: rest) scope pos) 0 it acc { cenv with scope := scope }) (RR acc { cenv with scope := scope }) s₄) E s₃) E s₂) E s1 := by
  have hl : s1.heap.IsList ax items := ⟨oa, H.bin _ _ ha, hcl, na, hda⟩
  refine wpAny_pyIter_list hl (wpAny_newObj_type (hd := by size_fits) (wpAny_newFunctionEnv hcell (by intro y hy; simp at hy) (fun h₁ hns₁ hsb₁ => ?_) hkind))
  dsimp only at hns₁ hsb₁ ⊢
  generalize hH1 : s1.heap.push { cls := .type "list_iterator", data := .fields #[.ref ax, .int 0 0] } = H1 at hns₁ hsb₁ ⊢
  have hD : H1.objs.size = s1.heap.objs.size + 1 := by rw [← hH1, Heap.size_push]
  generalize hH2 : H1.push { cls := .type "list", dict := none, data := .seq ([] : List Value).toArray } = H2 at hns₁ hsb₁ ⊢
  have hC : H2.objs.size = s1.heap.objs.size + 2 := by rw [← hH2, Heap.size_push, hD]
  have nI : s1.heap.objs.size ≠ H2.objs.size := by rw [hC]; exact Nat.ne_of_lt (by omega)
  have nD : H1.objs.size ≠ H2.objs.size := by rw [hC, hD]; exact Nat.ne_of_lt (by omega)
  have lC : s1.heap.objs.size ≤ H2.objs.size := by rw [hC]; exact Nat.le_add_right _ _
  have lD : s1.heap.objs.size ≤ H1.objs.size := by rw [hD]; exact Nat.le_add_right _ _
  have old : ∀ b o, s1.heap.get? b = some o → h₁.get? b = some o := fun b o e =>
    hsb₁.extBut b o (by have := Heap.lt_size e; rw [hC]; exact Nat.ne_of_lt (Nat.lt_succ_of_lt (Nat.lt_succ_of_lt this))) (Heap.get?_push_of_some _ (hH2 ▸ Heap.get?_push_of_some _ (hH1 ▸ Heap.get?_push_of_some _ e)))
  have gI : h₁.get? s1.heap.objs.size = some { cls := .type "list_iterator", data := .fields #[.ref ax, .int 0 0] } :=
    hsb₁.extBut _ _ nI (Heap.get?_push_of_some _ (hH2 ▸ Heap.get?_push_of_some _ (hH1 ▸ Heap.get?_push_size _ rfl)))
  have gD : h₁.get? H1.objs.size = some { cls := .type "list", dict := none, data := .seq #[] } :=
    hsb₁.extBut _ _ nD (Heap.get?_push_of_some _ (hH2 ▸ Heap.get?_push_size _ rfl))
  have fresh : ∀ a, s1.heap.objs.size ≤ a → s1.heap.get? a = none ∧ B1 a = none := fun a ha => by
    have h1 : s1.heap.get? a = none := Heap.get?_none_of_le ha
    refine ⟨h1, ?_⟩
    cases e : B1 a with
    | none => rfl
    | some o => have := H.bin _ _ e; rw [h1] at this; cases this
  have F0 : Fs (compCx C B1 s1 H2.objs.size scope) (lk []) [(H1.objs.size, PL #[]), (s1.heap.objs.size, LI ax 0)] B1 { s1 with heap := h₁, toks := s1.toks + ([] : List (Str × Value)).length } := by
    refine ⟨hns₁, ⟨.of_keep old, .rfl, fun a o e => old a o (H.bin a o e), fun a o e => .inl e⟩, (fresh _ lC).1, (fresh _ lC).2, fun p hp => ?_, ?_, fun a h => by cases h⟩
    · rcases List.mem_cons.mp hp with rfl | hp
      · exact ⟨⟨_, gD, 0, rfl⟩, nD, (fresh _ lD).2, (fresh _ lD).1⟩
      · obtain rfl := List.mem_singleton.mp hp
        exact ⟨⟨_, gI, rfl, rfl⟩, nI, (fresh _ (Nat.le_refl _)).2, (fresh _ (Nat.le_refl _)).1⟩
    · show [H1.objs.size, s1.heap.objs.size].Nodup
      rw [hD]; simp
  have loop : ∀ s₂ : Shared, s₂ = { s1 with heap := h₁, toks := s1.toks + ([] : List (Str × Value)).length } →
      codeAny (model C.prog C.w) C.A (.compLoop (.ListComp elt (⟨target, iter, [], 0⟩ :: rest) scope pos) 0 (.ref s1.heap.objs.size) (.ref H1.objs.size) (compEnv scope H2.objs.size C.env))
        (RR (.ref H1.objs.size) (compEnv scope H2.objs.size C.env)) s₂ := by
    rintro s₂ rfl
    exact hloop _ _ _ _ F0
  exact codeAny_compStart_list (loop _ rfl) (wpAny_pyIter_listiter ⟨_, gI, rfl, rfl⟩ (loop _ rfl))

end

theorem compTurn_out (elt t1 i1 t2 i2 : Expr) (scope : Scope) (pos : Pos) (it acc : Value) (env : Env) :
    compTurn (.ListComp elt [⟨t1, i1, [], 0⟩, ⟨t2, i2, [], 0⟩] scope pos) 0 it acc env = (standAt i1.pos >>= fun _ => pyNext it >>= fun r => match r with
      | none => pure (.done .next)
      | some v => letOwnedTupleGo t1 it v >>= fun _ => assign t1 env v >>= fun _ =>
        eval i2 env >>= fun x => standAt i2.pos >>= fun _ => foldedSetIterable i2 env x >>= fun x => holding [x] (pyIter x) >>= fun it' => runOwn (.compStart (.ListComp elt [⟨t1, i1, [], 0⟩, ⟨t2, i2, [], 0⟩] scope pos) 1 it' acc env) env >>= fun _ =>
          again (.compLoop (.ListComp elt [⟨t1, i1, [], 0⟩, ⟨t2, i2, [], 0⟩] scope pos) 0 it acc env)) := by rfl
theorem compTurn_in (elt t1 i1 t2 i2 : Expr) (scope : Scope) (pos : Pos) (it acc : Value) (env : Env) :
    compTurn (.ListComp elt [⟨t1, i1, [], 0⟩, ⟨t2, i2, [], 0⟩] scope pos) 1 it acc env = (standAt i2.pos >>= fun _ => pyNext it >>= fun r => match r with
      | none => pure (.done .next)
      | some v => letOwnedTupleGo t2 it v >>= fun _ => assign t2 env v >>= fun _ =>
        (eval elt env >>= fun x => call (.builtin "list.append") [acc, x] >>= fun _ => pure ()) >>= fun _ =>
          again (.compLoop (.ListComp elt [⟨t1, i1, [], 0⟩, ⟨t2, i2, [], 0⟩] scope pos) 1 it acc env)) := by rfl

theorem codeAny_compStart1 {prog : Program} {w : World} {A : Around} {R : Result → Shared → Prop} {s : Shared} {elt t1 i1 t2 i2 : Expr} {scope : Scope} {pos : Pos} {it acc : Value} {env : Env}
    (h0 : codeAny (model prog w) A (.compLoop (.ListComp elt [⟨t1, i1, [], 0⟩, ⟨t2, i2, [], 0⟩] scope pos) 1 it acc env) R s)
    (h : wpAny (model prog w) A (pyIter it) (fun it' s' => codeAny (model prog w) A (.compLoop (.ListComp elt [⟨t1, i1, [], 0⟩, ⟨t2, i2, [], 0⟩] scope pos) 1 it' acc env) R s')
      (notedBy (model prog w) A env fun x s' => R (.error x) s') s) :
    codeAny (model prog w) A (.compStart (.ListComp elt [⟨t1, i1, [], 0⟩, ⟨t2, i2, [], 0⟩] scope pos) 1 it acc env) R s := by
  refine codeAny_of_tree ?_
  show wpAny _ _ ((compStart (.ListComp elt [⟨t1, i1, [], 0⟩, ⟨t2, i2, [], 0⟩] scope pos) 1 it acc env).onRaise (fun x => do noteFrame x env; standAt theWindowsPlace)) _ _ s
  refine wpAny_notedAt ?_
  unfold compStart
  show wpAny _ _ (ask >>= _) _ _ s
  refine wpAny_bind (wpAny_askSetting (wpAny_ite ?_))
  split
  · first
      | exact wpAny_bind (wpAny_pure (wpAny_pure (And.intro rfl h0)))
      | exact wpAny_pure (And.intro rfl h0)
  · first
      | exact wpAny_bind (wpAny_rule (wpAny_bind (wpAny_standAt (wpAny_bind (wpAny_mono h (fun it' s' h' => wpAny_pure (And.intro rfl h')) fun _ _ x => x)))))
      | (refine wpAny_bind (wpAny_rule ?_); show wpAny _ _ (standAt i2.pos >>= _) _ _ s; exact wpAny_bind (wpAny_standAt (wpAny_bind (wpAny_mono h (fun it' s' h' => wpAny_pure (And.intro rfl h')) fun _ _ x => x))))

section
variable {C : Cx} {sc : Scope} {B1 : Fz}
/-- [y for x in .. for y in x], the inner loop -/
theorem flat_in {x y : Str} {xp yp yp2 xp2 : Pos} {iter : Expr} {scope : Scope} {pos : Pos} {b D I0 I1 : Addr} {ob : Obj} {items : Array Value} {nb : Nat} {ds : List PyData} {R : Result → Shared → Prop} (S : Sc C sc) (hh : C.A.handled = none)
    (hb : B1 b = some ob) (hcl : ob.cls = .type "list") (hda : ob.data = .seq items nb) (hit : RpAll B1 items.toList ds) (hly : sc.names.lookup y = some .local) (hdb : (y == ("__debug__" : Str)) = false)
    {P0 : Obj → Prop} {s : Shared} {l : List (Str × Value)} {acc : List PyData} {ys : Array Value} (hacc : RpAll B1 ys.toList acc) (hsz : ys.size + ds.length ≤ 1000)
    (H : Fs C (lk l) [(I1, LI b 0), (D, PL ys), (I0, P0)] B1 s)
    (hR : ∀ l B s ys', B1.le B → Fs C (lk l) [(D, PL ys'), (I0, P0)] B s → RpAll B ys'.toList (acc ++ ds) → R (.ok .next) s) :
    codeAny (model C.prog C.w) C.A (.compLoop (.ListComp (.Name y yp) [⟨.Name x xp, iter, [], 0⟩, ⟨.Name y yp2, .Name x xp2, [], 0⟩] scope pos) 1 (.ref I1) (.ref D) C.env) R s := by
  have hlen : items.size = ds.length := by simpa using hit.length
  have hal : ys.size = acc.length := by simpa using hacc.length
  refine codeAny_loop rfl (fun k s' => ∃ j l' B' ys', k = ds.length + 1 - j ∧ j ≤ ds.length ∧ B1.le B' ∧ Fs C (lk l') [(I1, LI b j), (D, PL ys'), (I0, P0)] B' s' ∧ RpAll B' ys'.toList (acc ++ ds.take j)) (fun n s' hI => ?_) (ds.length + 1)
    ⟨0, l, B1, ys, rfl, Nat.zero_le _, .rfl, H, by simpa using hacc⟩
  obtain ⟨j, l', B', ys', rfl, hj, hle, H', hr⟩ := hI
  show wpAny _ _ ((compTurn _ 1 (.ref I1) (.ref D) C.env).onRaise (fun x => do noteFrame x C.env; theTreesLotGoes x)) _ _ s'
  refine wpAny_noted ?_
  rw [compTurn_in]
  refine wpAny_bind (wpAny_standAt (wpAny_bind ?_))
  obtain ⟨⟨oI, hoI, cI, dI⟩, nI⟩ := H'.mine (I1, LI b j) (.head _)
  have hIt : s'.heap.IsListIter I1 b j := ⟨oI, hoI, cI, dI⟩
  have hl' : s'.heap.IsList b items := ⟨ob, H'.bin _ _ (hle _ _ hb), hcl, nb, hda⟩
  have hys : ys'.size = acc.length + min j ds.length := by have := hr.length; simpa using this
  rcases Nat.lt_or_ge j ds.length with hlt | hge
  · have hv : items[j]? = some items[j] := Array.getElem?_eq_getElem (by omega)
    refine wpAny_pyNext_list_item hIt hl' hv fun h₁ hit₁ hs₁ => ?_
    obtain ⟨o1, g1, c1, d1⟩ := hit₁
    have H3 := H'.turn (pre := []) (tk := s'.toks) hs₁ g1 (P' := LI b (j + 1)) ⟨c1, d1⟩
    refine wpAny_bind (letGo_any ⟨o1, g1, c1, d1⟩ ?_)
    refine wpAny_bind (wpAny_assign_Name (st_store S H3 (fun s4 H4 => ?_) hly))
    have hdj : ds[j]? = some ds[j] := List.getElem?_eq_getElem hlt
    obtain ⟨v, hv', hvr⟩ := hit.get hdj
    have hv2 : items[j] = v := by
      have : items[j]? = some v := by simpa using hv'
      rw [hv] at this; exact Option.some.inj this
    have hlk : lk ((y, items[j]) :: l') y = some items[j] := by rw [← lk_cons]; exact upd_get
    refine wpAny_bind (wpAny_bind ((ev_name (C := C) (own := [(I1, LI b (j + 1)), (D, PL ys'), (I0, P0)]) (m := lk ((y, items[j]) :: l')) (Bb := B') (P := fun u _ => u = items[j]) S hlk (fun _ _ => rfl) hly hdb).out _ B' s4 .rfl H4 _ fun u B5 s5 hle5 H5 q => ?_))
    subst q
    obtain ⟨⟨o, ho, n, rfl⟩, _⟩ := H5.mine (D, PL ys') (by simp)
    refine wpAny_bind (wpAny_list_append_plain ⟨n, ho⟩ (fun h' hl2 hs' => ?_) (by rw [sizeLine_eq]; omega))
    obtain ⟨n', e'⟩ := hl2
    have H6 := H5.turn (pre := [(I1, LI b (j + 1))]) (post := [(I0, P0)]) (P' := PL (ys'.push items[j])) (tk := s5.toks) hs' e' ⟨n', rfl⟩
    refine wpAny_pure (wpAny_pure ⟨rfl, ?_⟩)
    refine ⟨ds.length + 1 - (j + 1), by omega, j + 1, _, B5, ys'.push items[j], rfl, hlt, hle.trans hle5, H6, ?_⟩
    rw [List.take_add_one, hdj, ← List.append_assoc, Array.toList_push]
    exact (hr.mono hle5).append (.cons (by rw [hv2]; exact hvr.mono (hle.trans hle5)) .nil)
  · have hje : j = ds.length := by omega
    subst hje
    refine wpAny_pyNext_list_end hh hIt hl' (Array.getElem?_eq_none (by omega)) fun h₁ he₁ => ?_
    refine wpAny_pure ?_
    rw [List.take_length] at hr
    exact hR l' B' _ ys' hle (H'.lose (pre := []) (tk := s'.toks) he₁) hr
end
end Mine

end

section
open PySem PySem.W PyProof.Rows
set_option maxRecDepth 100000
set_option linter.all false
namespace Mine

theorem flat_take {α : Type} {ls : List (List α)} {j : Nat} (h : j < ls.length) : (ls.take (j + 1)).flatten = (ls.take j).flatten ++ ls[j] := by
  rw [List.take_succ_eq_append_getElem h, List.flatten_append]; simp only [List.flatten_cons, List.flatten_nil, List.append_nil]

section
variable {C : Cx} {sc : Scope} {B1 : Fz}
theorem flat_out {x y : Str} {xp xp2 yp yp2 : Pos} {iter : Expr} {scope : Scope} {pos : Pos} {ax D I0 : Addr} {oa : Obj} {items : Array Value} {na : Nat} {ls : List (List PyData)} {R : Result → Shared → Prop} (S : Sc C sc) (hh : C.A.handled = none)
    (ha : B1 ax = some oa) (hcl : oa.cls = .type "list") (hda : oa.data = .seq items na) (hit : RpAll B1 items.toList (ls.map .list)) (hlx : sc.names.lookup x = some .local) (hdx : (x == ("__debug__" : Str)) = false) (hly : sc.names.lookup y = some .local) (hdy : (y == ("__debug__" : Str)) = false)
    (hsz : ls.flatten.length ≤ 1000) {s : Shared} (H : Fs C (lk []) [(D, PL #[]), (I0, LI ax 0)] B1 s)
    (hR : ∀ l B s ys', B1.le B → Fs C (lk l) [(D, PL ys')] B s → RpAll B ys'.toList ls.flatten → R (.ok .next) s) :
    codeAny (model C.prog C.w) C.A (.compLoop (.ListComp (.Name y yp) [⟨.Name x xp, iter, [], 0⟩, ⟨.Name y yp2, .Name x xp2, [], 0⟩] scope pos) 0 (.ref I0) (.ref D) C.env) R s := by
  have hlen : items.size = ls.length := by simpa using hit.length
  refine codeAny_loop rfl (fun k s' => ∃ j l' B' ys', k = ls.length + 1 - j ∧ j ≤ ls.length ∧ B1.le B' ∧ Fs C (lk l') [(D, PL ys'), (I0, LI ax j)] B' s' ∧ RpAll B' ys'.toList (ls.take j).flatten) (fun n s' hI => ?_) (ls.length + 1)
    ⟨0, [], B1, #[], rfl, Nat.zero_le _, .rfl, H, .nil⟩
  obtain ⟨j, l', B', ys', rfl, hj, hle, H', hr⟩ := hI
  show wpAny _ _ ((compTurn _ 0 (.ref I0) (.ref D) C.env).onRaise (fun x => do noteFrame x C.env; theTreesLotGoes x)) _ _ s'
  refine wpAny_noted ?_
  rw [compTurn_out]
  refine wpAny_bind (wpAny_standAt (wpAny_bind ?_))
  obtain ⟨⟨oI, hoI, cI, dI⟩, nI⟩ := H'.mine (I0, LI ax j) (.tail _ (.head _))
  have hIt : s'.heap.IsListIter I0 ax j := ⟨oI, hoI, cI, dI⟩
  have hl' : s'.heap.IsList ax items := ⟨oa, H'.bin _ _ (hle _ _ ha), hcl, na, hda⟩
  rcases Nat.lt_or_ge j ls.length with hlt | hge
  · have hv : items[j]? = some items[j] := Array.getElem?_eq_getElem (by omega)
    refine wpAny_pyNext_list_item hIt hl' hv fun h₁ hit₁ hs₁ => ?_
    obtain ⟨o1, g1, c1, d1⟩ := hit₁
    have H3 := H'.turn (pre := [(D, PL ys')]) (post := []) (tk := s'.toks) hs₁ g1 (P' := LI ax (j + 1)) ⟨c1, d1⟩
    refine wpAny_bind (letGo_any ⟨o1, g1, c1, d1⟩ ?_)
    refine wpAny_bind (wpAny_assign_Name (st_store S H3 (fun s4 H4 => ?_) hlx))
    have hdj : (ls.map PyData.list)[j]? = some (.list ls[j]) := by rw [List.getElem?_map, List.getElem?_eq_getElem hlt]; rfl
    obtain ⟨v, hv', hvr⟩ := hit.get hdj
    have hv2 : items[j] = v := by
      have : items[j]? = some v := by simpa using hv'
      rw [hv] at this; exact Option.some.inj this
    obtain ⟨b, ob, its, nb, e0, e1, e2, e3, e4⟩ := hvr.list_inv
    rw [hv2, e0] at H4
    have hlk : lk ((x, .ref b) :: l') x = some (.ref b) := by rw [← lk_cons]; exact upd_get
    refine wpAny_bind ((ev_name (C := C) (own := [(D, PL ys'), (I0, LI ax (j + 1))]) (m := lk ((x, .ref b) :: l')) (Bb := B') (P := fun u _ => u = .ref b) S hlk (fun _ _ => rfl) hlx hdx).out _ B' s4 .rfl H4 _ fun u B5 s5 hle5 H5 q => ?_)
    subst q
    refine wpAny_bind (wpAny_standAt (wpAny_bind ?_))
    show wpAny _ _ (pure (Value.ref b)) _ _ s5
    refine wpAny_pure (wpAny_bind (wpAny_holding ?_))
    have hb5 : B5 b = some ob := hle5 _ _ (hle _ _ e1)
    refine wpAny_pyIter_list ⟨ob, H5.bin _ _ hb5, e2, nb, e3⟩ ?_
    have H6 := H5.pushO { cls := .type "list_iterator", data := .fields #[.ref b, .int 0 0] } (LI b 0) ⟨rfl, rfl⟩
    refine wpAny_bind (wpAny_runOwn ?_ (by intro x; cases x))
    have hfl : (ls.take (j + 1)).flatten = (ls.take j).flatten ++ ls[j] := flat_take hlt
    have hfl2 : (ls.take (j + 1)).flatten.length ≤ 1000 := by
      have : ls.flatten = (ls.take (j + 1)).flatten ++ (ls.drop (j + 1)).flatten := by rw [← List.flatten_append, List.take_append_drop]
      rw [this, List.length_append] at hsz; omega
    have hys : ys'.size = (ls.take j).flatten.length := by simpa using hr.length
    have key : ∀ R' : Result → Shared → Prop, (∀ l7 B7 s7 ys7, B5.le B7 → Fs C (lk l7) [(D, PL ys7), (I0, LI ax (j + 1))] B7 s7 → RpAll B7 ys7.toList ((ls.take j).flatten ++ ls[j]) → R' (.ok .next) s7) →
        codeAny (model C.prog C.w) C.A (.compStart (.ListComp (.Name y yp) [⟨.Name x xp, iter, [], 0⟩, ⟨.Name y yp2, .Name x xp2, [], 0⟩] scope pos) 1 (.ref s5.heap.objs.size) (.ref D) C.env) R' { s5 with heap := s5.heap.push { cls := .type "list_iterator", data := .fields #[.ref b, .int 0 0] } } := fun R' hR' => by
      have inner := flat_in (x := x) (xp := xp) (yp := yp) (yp2 := yp2) (xp2 := xp2) (iter := iter) (scope := scope) (pos := pos) (B1 := B5) (R := R') S hh hb5 e2 e3 (e4.mono (hle.trans hle5)) hly hdy (hr.mono hle5) (by rw [hfl, List.length_append] at hfl2; omega) H6 hR'
      obtain ⟨⟨o7, g7, c7, d7⟩, _⟩ := H6.mine (s5.heap.objs.size, LI b 0) (.head _)
      exact codeAny_compStart1 inner (wpAny_pyIter_listiter ⟨o7, g7, c7, d7⟩ inner)
    refine key _ fun l7 B7 s7 ys7 hle7 H7 hr7 => ?_
    exact wpAny_pure ⟨rfl, ls.length + 1 - (j + 1), by omega, j + 1, l7, B7, ys7, rfl, hlt, hle.trans (hle5.trans hle7), H7, by rw [hfl]; exact hr7⟩
  · have hje : j = ls.length := by omega
    subst hje
    refine wpAny_pyNext_list_end hh hIt hl' (Array.getElem?_eq_none (by omega)) fun h₁ he₁ => ?_
    refine wpAny_pure ?_
    rw [List.take_length] at hr
    exact hR l' B' _ ys' hle (H'.lose (pre := [(D, PL ys')]) (post := []) (tk := s'.toks) he₁) hr
end

section
variable {C : Cx} {m : Str → Option Value} {own : Own} {Bb : Fz}
/-- [y for x in .. for y in x] -/
theorem ev_flat {sc : Scope} {x y : Str} {xp xp2 yp yp2 : Pos} {iter : Expr} {scope : Scope} {pos : Pos} {ls : List (List PyData)} (S : Sc C sc) (h1 : Ev C m own Bb iter (Rd (.list (ls.map .list)))) (hh : C.A.handled = none) (hsz : ls.flatten.length ≤ 1000)
    (hlx : scope.names.lookup x = some .local := by rfl) (hdx : (x == ("__debug__" : Str)) = false := by decide) (hly : scope.names.lookup y = some .local := by rfl) (hdy : (y == ("__debug__" : Str)) = false := by decide)
    (hfree : ∀ y ∈ scope.names, y.2 ≠ .free := by decide) (hcell : ∀ y ∈ scope.names, y.2 ≠ .cell := by decide) (hkind : scope.kind = .function := by rfl)
    (hnames : ∀ y ∈ scope.names, y.2 = .local → scope.names.lookup y.1 = some .local := by decide) (hs : ∀ x, foldedSetIterable iter C.env x = pure x := by intro _; rfl) :
    Ev C m own Bb (.ListComp (.Name y yp) [⟨.Name x xp, iter, [], 0⟩, ⟨.Name y yp2, .Name x xp2, [], 0⟩] scope pos) (Rd (.list ls.flatten)) := Ev.mk fun E B s hb H Q k => by
  refine wpAny_ListComp hfree hkind hnames (h1.out E B s hb H _ fun v1 B1 s1 hle1 H1 hv => ?_) hs
  obtain ⟨a, o, vs, n, rfl, e1, e2, e3, e4⟩ := hv.list_inv
  refine comp_block0 (RR := fun acc cenv r s' => ∃ m, s'.heap.Ns cenv.locals m ∧ ∀ h', Heap.SameBut cenv.locals s'.heap h' →
            match r with | .ok _ => Q acc { s' with heap := h' } | .error x => wpAny (model C.prog C.w) C.A (passOn "comprehension.variables-let-go" x cenv) Q E { s' with heap := h' })
    hh H1 e1 e2 e3 hcell hkind fun D I c s2 HF => ?_
  refine flat_out (C := compCx C B1 s1 c scope) (B1 := B1) (S.comp hkind) hh e1 e2 e3 e4 hlx hdx hly hdy hsz HF fun l B2 s2 ys hle2 HF hr => ?_
  · obtain ⟨o, ⟨n, rfl⟩, hBD, HF'⟩ := HF.freeze
    refine ⟨_, HF.ns, fun h' hs' => ?_⟩
    have G := HF'.leave hs'
    have H2 := H1.call (F' := []) (by simp) G
    exact k _ _ _ (hle1.trans (hle2.trans (Fz.le_set hBD))) H2 (.list Fz.set_self rfl rfl (hr.mono (Fz.le_set hBD)))
end
end Mine

end

section
open PySem PySem.W PyProof.Rows
set_option maxRecDepth 100000
set_option linter.all false
namespace Mine

section
variable {prog : Program} {w : World} {A : Around} {F : List Addr} {B : Fz} {s : Shared} {f : Addr} {qual : Str} {params : Arguments} {scope : Scope} {v : Value} {ds : List PyData} {xn : Str}
/-- lambda x: _comparable_version(x[i]) -/
theorem lam_comp {i : Int} {k0 : Nat} {p1 p2 p3 p4 p5 : Pos} {x : Str} {outs : List (List Nat)} {rs : List PyData} (G : GB B) (X : GX prog w B) (hB : B.In s.heap) (hF : ∀ a ∈ F, B a = none ∧ ∃ o, s.heap.get? a = some o) (hFr : Frs A F s)
    (hroom : A.depth < 890) (hh : A.handled = none) (hx : x.cps.size < 10000) (hsp : SplitsTo x.cps.toList outs) (hp : Pcs outs rs)
    (hlam : LamAt B f qual params (.Call (.Name (Str.ofString "_comparable_version") p1) [.Subscript (.Name xn p2) (.Constant (.int i) k0 p3) p4] [] p5) scope)
    (hv : Rp B v (.tuple ds)) (hi0 : 0 ≤ i) (hi : i < 2 ^ 63) (hd : ds[i.toNat]? = some (.str x))
    (hbind : ∀ pm c' ctv, bindArgs (kla_fn (Str.ofString "<lambda>") qual params (.Call (.Name (Str.ofString "_comparable_version") p1) [.Subscript (.Name xn p2) (.Constant (.int i) k0 p3) p4] [] p5) scope [] pm (.ref c') ctv) ⟨[v], []⟩ = pure [(xn, v)])
    (hl : scope.names.lookup xn = some .local) (hlc : scope.names.lookup (Str.ofString "_comparable_version") = some .globalImplicit) (hdb : (xn == ("__debug__" : Str)) = false)
    (hco : scope.isCoroutine = false) (hgen : scope.isGenerator = false) (hk : scope.kind = .function) (hcell : ∀ x ∈ scope.names, x.2 ≠ .cell) :
    GivesR .cal prog w A F (.ref f) [v] (Rd (.list rs)) B s := by
  refine enterL hB (G _ hB).lim hlam hF (by have : recursionLimit = 1000 := rfl; omega) hbind (fun x hx => by obtain rfl := List.mem_singleton.mp hx; exact hl) hh (fun C E s' S hB0 hs0 hF0 hA0 hpr hw hfr H => ?_) hco hgen hk hcell
  subst hpr hw
  have Fm : Fms C := .of hFr hA0 hF0 hs0 hfr
  have hhC : C.A.handled = none := by rw [hA0]; exact hh
  have hlk : lk [(xn, v)] xn = some v := by rw [← lk_cons]; exact upd_get
  refine evR_fn (P := Rd (.list rs)) (a := 44) (c := 43) (i := 4) (name := Str.ofString "_comparable_version") S G (by decide) (fun h g => g.f44) (.cons (ev_itemT (ev_var S hlk hv hl hdb) ev_int hi0 hi hd) .nil (fun _ _ => rfl)) (fun vs B4 s4 hb4 H4 p4 => ?_) (hlen := by show (1 : Nat) ≤ 30; decide) (hl := hlc) (Bb := B) (hb := .rfl) (H := H) (k := fun u B' s' hle H' p => ⟨_, _, B', H', p⟩)
  cases p4 with
  | cons q1 q2 =>
    cases q2
    obtain ⟨t, rfl⟩ := q1.str_inv
    exact comp_spec (G.le hb4) (X.le hb4) H4.bin (H4.ref (f := .none) (F := [])) (H4.frs Fm (by rw [S.k]; decide)) (by rw [hA0]; show A.depth + 1 < 900; omega) hhC hx hsp hp

/-- lambda x: x[i] -/
theorem lam_item {K : Kp} {i : Int} {k0 : Nat} {p2 p3 p4 : Pos} {d : PyData} (G : GB B) (hB : B.In s.heap) (hF : ∀ a ∈ F, B a = none ∧ ∃ o, s.heap.get? a = some o)
    (hroom : A.depth < 890) (hh : A.handled = none)
    (hlam : LamAt B f qual params (.Subscript (.Name xn p2) (.Constant (.int i) k0 p3) p4) scope)
    (hv : Rp B v (.tuple ds)) (hi0 : 0 ≤ i) (hi : i < 2 ^ 63) (hd : ds[i.toNat]? = some d)
    (hbind : ∀ pm c' ctv, bindArgs (kla_fn (Str.ofString "<lambda>") qual params (.Subscript (.Name xn p2) (.Constant (.int i) k0 p3) p4) scope [] pm (.ref c') ctv) ⟨[v], []⟩ = pure [(xn, v)])
    (hl : scope.names.lookup xn = some .local) (hdb : (xn == ("__debug__" : Str)) = false)
    (hco : scope.isCoroutine = false) (hgen : scope.isGenerator = false) (hk : scope.kind = .function) (hcell : ∀ x ∈ scope.names, x.2 ≠ .cell) :
    GivesR K prog w A F (.ref f) [v] (Rd d) B s := by
  refine enterL hB (G _ hB).lim hlam hF (by have : recursionLimit = 1000 := rfl; omega) hbind (fun x hx => by obtain rfl := List.mem_singleton.mp hx; exact hl) hh (fun C E s' S hB0 hs0 hF0 hA0 hpr hw hfr H => ?_) hco hgen hk hcell
  have hlk : lk [(xn, v)] xn = some v := by rw [← lk_cons]; exact upd_get
  exact wpR_any ((ev_itemT (own := []) (m := lk [(xn, v)]) (Bb := B) (ev_var S hlk hv hl hdb) ev_int hi0 hi hd).out _ B s' .rfl H _ fun u B' s'' hle H' p => ⟨_, _, B', H', p⟩)

/-- lambda x: [z for y in x[i] for z in y] -/
theorem lam_flat {K : Kp} {i : Int} {k0 : Nat} {p1 p2 p3 p4 p5 p6 p7 p8 : Pos} {yn zn : Str} {cs : Scope} {ls : List (List PyData)} (G : GB B) (hB : B.In s.heap) (hF : ∀ a ∈ F, B a = none ∧ ∃ o, s.heap.get? a = some o)
    (hroom : A.depth < 890) (hh : A.handled = none) (hsz : ls.flatten.length ≤ 1000)
    (hlam : LamAt B f qual params (.ListComp (.Name zn p1) [⟨.Name yn p2, .Subscript (.Name xn p3) (.Constant (.int i) k0 p4) p5, [], 0⟩, ⟨.Name zn p6, .Name yn p7, [], 0⟩] cs p8) scope)
    (hv : Rp B v (.tuple ds)) (hi0 : 0 ≤ i) (hi : i < 2 ^ 63) (hd : ds[i.toNat]? = some (.list (ls.map .list)))
    (hbind : ∀ pm c' ctv, bindArgs (kla_fn (Str.ofString "<lambda>") qual params (.ListComp (.Name zn p1) [⟨.Name yn p2, .Subscript (.Name xn p3) (.Constant (.int i) k0 p4) p5, [], 0⟩, ⟨.Name zn p6, .Name yn p7, [], 0⟩] cs p8) scope [] pm (.ref c') ctv) ⟨[v], []⟩ = pure [(xn, v)])
    (hl : scope.names.lookup xn = some .local) (hdb : (xn == ("__debug__" : Str)) = false)
    (hlx : cs.names.lookup yn = some .local) (hdx : (yn == ("__debug__" : Str)) = false) (hly : cs.names.lookup zn = some .local) (hdy : (zn == ("__debug__" : Str)) = false)
    (hfree : ∀ y ∈ cs.names, y.2 ≠ .free) (hcellc : ∀ y ∈ cs.names, y.2 ≠ .cell) (hkind : cs.kind = .function)
    (hnames : ∀ y ∈ cs.names, y.2 = .local → cs.names.lookup y.1 = some .local)
    (hco : scope.isCoroutine = false) (hgen : scope.isGenerator = false) (hk : scope.kind = .function) (hcell : ∀ x ∈ scope.names, x.2 ≠ .cell) :
    GivesR K prog w A F (.ref f) [v] (Rd (.list ls.flatten)) B s := by
  refine enterL hB (G _ hB).lim hlam hF (by have : recursionLimit = 1000 := rfl; omega) hbind (fun x hx => by obtain rfl := List.mem_singleton.mp hx; exact hl) hh (fun C E s' S hB0 hs0 hF0 hA0 hpr hw hfr H => ?_) hco hgen hk hcell
  have hhC : C.A.handled = none := by rw [hA0]; exact hh
  have hlk : lk [(xn, v)] xn = some v := by rw [← lk_cons]; exact upd_get
  exact wpR_any ((ev_flat (own := []) (m := lk [(xn, v)]) (Bb := B) S (ev_itemT (ev_var S hlk hv hl hdb) ev_int hi0 hi hd) hhC hsz hlx hdx hly hdy hfree hcellc hkind hnames).out _ B s' .rfl H _ fun u B' s'' hle H' p => ⟨_, _, B', H', p⟩)
end
end Mine

end

section
open PySem PySem.W PyProof.Rows
set_option maxRecDepth 100000
set_option linter.all false
namespace Mine

def lexB {α : Type} [DecidableEq α] (lt : α → α → Bool) : List α → List α → Bool
  | [], [] => false
  | [], _ :: _ => true
  | _ :: _, [] => false
  | x :: xs, y :: ys => if x = y then lexB lt xs ys else lt x y
structure Lin {α : Type} (lt : α → α → Bool) : Prop where
  asym : ∀ a b, lt a b = true → lt b a = false
  nt : ∀ a b c, lt a b = true → lt a c = true ∨ lt c b = true
  tri : ∀ a b, lt a b = false → lt b a = false → a = b
theorem Lin.irr {α : Type} {lt : α → α → Bool} (L : Lin lt) (a : α) : lt a a = false := by
  cases h : lt a a with
  | false => rfl
  | true => rw [L.asym _ _ h] at h; cases h
theorem linN : Lin fun a b : Nat => decide (a < b) :=
  ⟨fun a b h => by simp at h ⊢; omega, fun a b c h => by simp at h ⊢; omega, fun a b h k => by simp at h k; omega⟩
theorem Lin.lex {α : Type} [DecidableEq α] {lt : α → α → Bool} (L : Lin lt) : Lin (lexB lt) := by
  refine ⟨?_, ?_, ?_⟩
  · intro a
    induction a with
    | nil => intro b h; cases b <;> simp_all [lexB]
    | cons x xs ih =>
      intro b h
      cases b with
      | nil => simp [lexB] at h
      | cons y ys =>
        unfold lexB at h ⊢
        by_cases e : x = y
        · rw [if_pos e] at h; rw [if_pos e.symm]; exact ih _ h
        · rw [if_neg e] at h; rw [if_neg (Ne.symm e)]; exact L.asym _ _ h
  · intro a
    induction a with
    | nil =>
      intro b c h
      cases b with
      | nil => simp [lexB] at h
      | cons y ys =>
        cases c with
        | nil => exact .inr h
        | cons z zs => exact .inl rfl
    | cons x xs ih =>
      intro b c h
      cases b with
      | nil => simp [lexB] at h
      | cons y ys =>
        cases c with
        | nil => exact .inr rfl
        | cons z zs =>
          unfold lexB at h ⊢
          by_cases e : x = y
          · subst e
            rw [if_pos rfl] at h
            by_cases e2 : x = z
            · subst e2; rw [if_pos rfl, if_pos rfl]; exact ih _ _ h
            · rw [if_neg e2, if_neg (Ne.symm e2)]
              cases q : lt x z with
              | true => exact .inl rfl
              | false =>
                cases q2 : lt z x with
                | true => exact .inr rfl
                | false => exact absurd (L.tri _ _ q q2) e2
          · rw [if_neg e] at h
            by_cases e2 : x = z
            · subst e2; right; rw [if_neg e]; exact h
            · by_cases e3 : z = y
              · subst e3; left; rw [if_neg e2]; exact h
              · rw [if_neg e2, if_neg e3]; exact L.nt _ _ _ h
  · intro a
    induction a with
    | nil => intro b h k; cases b <;> simp_all [lexB]
    | cons x xs ih =>
      intro b h k
      cases b with
      | nil => simp [lexB] at k
      | cons y ys =>
        unfold lexB at h k
        by_cases e : x = y
        · rw [if_pos e] at h; rw [if_pos e.symm] at k; rw [e, ih _ h k]
        · rw [if_neg e] at h; rw [if_neg (Ne.symm e)] at k; exact absurd (L.tri _ _ h k) e

theorem Lin.wk {α : Type} {lt : α → α → Bool} (L : Lin lt) (f : Nat → α) : Wk fun i j => lt (f i) (f j) :=
  ⟨fun i j h => L.asym _ _ h, fun i j k h => L.nt _ _ _ h⟩

theorem Rr.anti {lt : Nat → Nat → Bool} (W : Wk lt) {a b : Nat} (h : Rr lt a b) (k : Rr lt b a) : a = b := by
  rcases h with ⟨h1, h2⟩ | ⟨h1, h2⟩ <;> rcases k with ⟨k1, k2⟩ | ⟨k1, k2⟩
  · omega
  · rw [h2] at k2; cases k2
  · rw [k2] at h2; cases h2
  · omega

theorem sort_unique {lt : Nat → Nat → Bool} (W : Wk lt) {σ τ : List Nat} (hp : σ.Perm τ) (h : σ.Pairwise (Rr lt)) (k : τ.Pairwise (Rr lt)) : σ = τ :=
  List.Perm.eq_of_pairwise (fun a b _ _ h k => Rr.anti W h k) h k hp

theorem pairwise_get {α : Type} {R : α → α → Prop} {l : List α} (h : l.Pairwise R) {i j : Nat} {a b : α} (hij : i < j) (ha : l[i]? = some a) (hb : l[j]? = some b) : R a b := by
  obtain ⟨h1, rfl⟩ := List.getElem?_eq_some_iff.mp ha
  obtain ⟨h2, rfl⟩ := List.getElem?_eq_some_iff.mp hb
  exact List.pairwise_iff_getElem.mp h i j h1 h2 hij

/-- one pass of the radix sort: keys by position, order of the ids before and after -/
theorem radix_step {τ σ : List Nat} {lt lt' : Nat → Nat → Bool} {cmp : Nat → Nat → Bool} (W' : Wk lt')
    (hτ : τ.Pairwise (Rr lt)) (hn : τ.Nodup) (hσ : σ.Pairwise (Rr fun i j => cmp (τ.getD i 0) (τ.getD j 0))) (hp : σ.Perm (List.range τ.length))
    (h1 : ∀ a ∈ τ, ∀ b ∈ τ, cmp a b = true → lt' a b = true) (h2 : ∀ a ∈ τ, ∀ b ∈ τ, cmp a b = false → cmp b a = false → (lt' a b = lt a b ∧ lt' b a = lt b a)) :
    (σ.map fun i => τ.getD i 0).Pairwise (Rr lt') ∧ (σ.map fun i => τ.getD i 0).Perm τ := by
  have hmem : ∀ i ∈ σ, i < τ.length := fun i hi => by simpa using hp.mem_iff.mp hi
  have hget : ∀ i, i < τ.length → τ[i]? = some (τ.getD i 0) := fun i hi => by rw [List.getD_eq_getElem?_getD, List.getElem?_eq_getElem hi]; rfl
  have hin : ∀ i, i < τ.length → τ.getD i 0 ∈ τ := fun i hi => List.mem_of_getElem? (hget i hi)
  refine ⟨?_, ?_⟩
  · rw [List.pairwise_map]
    refine List.Pairwise.imp_of_mem (fun {i j} hi hj h => ?_) hσ
    have li := hmem i hi
    have lj := hmem j hj
    have strict : cmp (τ.getD i 0) (τ.getD j 0) = true → Rr lt' (τ.getD i 0) (τ.getD j 0) := fun q => by
      have e := h1 _ (hin i li) _ (hin j lj) q
      rcases Nat.lt_trichotomy (τ.getD i 0) (τ.getD j 0) with c | c | c
      · exact .inl ⟨c, W'.asym _ _ e⟩
      · rw [c, W'.irr] at e; cases e
      · exact .inr ⟨c, e⟩
    rcases h with ⟨c1, c2⟩ | ⟨c1, c2⟩
    · cases q : cmp (τ.getD i 0) (τ.getD j 0) with
      | true => exact strict q
      | false =>
        obtain ⟨e1, e2⟩ := h2 _ (hin i li) _ (hin j lj) q c2
        have := pairwise_get hτ c1 (hget i li) (hget j lj)
        unfold Rr at this ⊢
        rw [e1, e2]; exact this
    · exact strict c2
  · have e : (List.range τ.length).map (fun i => τ.getD i 0) = τ := by
      apply List.ext_getElem?
      intro i
      rw [List.getElem?_map]
      rcases Nat.lt_or_ge i τ.length with q | q
      · rw [List.getElem?_range q, hget i q]; rfl
      · rw [List.getElem?_eq_none (by simpa using q), List.getElem?_eq_none q]; rfl
    have := hp.map fun i => τ.getD i 0
    rwa [e] at this
end Mine

end

section
open PySem PySem.W PyProof.Rows
set_option maxRecDepth 100000
set_option linter.all false
namespace Mine

def wcode (w : Str) : Nat := ([Str.ofString "", "a", "alpha", "b", "beta", "c", "dev", "p", "pl", "RC", "rc", "Rc", "z", "é"] : List Str).idxOf w
def rcode (r : Run) : Nat := r.t.toNat * 10000 + r.n.toNat * 100 + wcode r.w
def kT (r : Run) : PyData := .int r.t
def kV (r : Run) : PyData := if r.t = 100 then .int r.n else .str r.w
def wordRun (k : Nat) : Run := ⟨ranksL.getD k 0, 0, wordsL.getD k (Str.ofString "")⟩
def numRun (k : Nat) : Run := ⟨100, (k : Nat), Str.ofString ""⟩
def allRuns : List Run := (List.range 13).map (fun i => wordRun (i + 3)) ++ (List.range 14).map numRun

def cmpK (a b : Run) : Bool × Bool × Bool :=
  (if (kT a).eqv (kT b) then (if (kV a).eqv (kV b) then false else plt (kV a) (kV b)) else plt (kT a) (kT b),
   (kT a).eqv (kT b) && (kV a).eqv (kV b),
   if (kT a).eqv (kT b) then (if (kV a).eqv (kV b) then true else pok (kV a) (kV b)) else pok (kT a) (kT b))
theorem runs_cmp : ∀ a ∈ allRuns, ∀ b ∈ allRuns, cmpK a b = (decide (rcode a < rcode b), decide (rcode a = rcode b), true) ∧ (plt a.dat b.dat = decide (rcode a < rcode b) ∧ a.dat.eqv b.dat = decide (rcode a = rcode b) ∧ pok a.dat b.dat = true) := by
  have h : (allRuns.all fun a => allRuns.all fun b => decide (cmpK a b = (decide (rcode a < rcode b), decide (rcode a = rcode b), true)) && (plt a.dat b.dat == decide (rcode a < rcode b) && (a.dat.eqv b.dat == decide (rcode a = rcode b) && pok a.dat b.dat))) = true := by decide +kernel
  intro a ha b hb
  have := List.all_eq_true.mp (List.all_eq_true.mp h a ha) b hb
  simp only [Bool.and_eq_true, decide_eq_true_eq, beq_iff_eq] at this
  exact this

def keyC (rs : List Run) : List PyData := rs.flatMap fun r => [kT r, kV r]
def keyR (rs : List Run) : List PyData := rs.map Run.dat
abbrev Ok (rs : List Run) : Prop := ∀ r ∈ rs, r ∈ allRuns
abbrev lexN : List Nat → List Nat → Bool := lexB fun a b : Nat => decide (a < b)
def codes (rs : List Run) : List Nat := rs.map rcode

theorem keyC_lt : ∀ (rs qs : List Run), Ok rs → Ok qs → pltL (keyC rs) (keyC qs) = lexN (codes rs) (codes qs) ∧ pokL (keyC rs) (keyC qs) = true
  | [], [], _, _ => ⟨by simp [keyC, codes, pltL, lexB], by simp [keyC, pokL]⟩
  | [], q :: qs, _, _ => ⟨by simp [keyC, codes, pltL, lexB], by simp [keyC, pokL]⟩
  | r :: rs, [], _, _ => ⟨by simp [keyC, codes, pltL, lexB], by simp [keyC, pokL]⟩
  | r :: rs, q :: qs, h, k => by
    obtain ⟨i1, i2⟩ := keyC_lt rs qs (fun x hx => h x (.tail _ hx)) fun x hx => k x (.tail _ hx)
    have hc := (runs_cmp r (h r (.head _)) q (k q (.head _))).1
    have e1 : keyC (r :: rs) = kT r :: kV r :: keyC rs := rfl
    have e2 : keyC (q :: qs) = kT q :: kV q :: keyC qs := rfl
    have e3 : lexN (codes (r :: rs)) (codes (q :: qs)) = if rcode r = rcode q then lexN (codes rs) (codes qs) else decide (rcode r < rcode q) := by
      show lexB _ (rcode r :: codes rs) (rcode q :: codes qs) = _
      rw [lexB]
    rw [e1, e2, e3]
    unfold cmpK at hc
    simp only [Prod.mk.injEq] at hc
    obtain ⟨c1, c2, c3⟩ := hc
    simp only [pltL, pokL]
    cases q1 : (kT r).eqv (kT q) with
    | false =>
      rw [q1] at c1 c2 c3
      simp at c2 c1 c3
      rw [if_neg c2]
      exact ⟨by simpa using c1, by simpa using c3⟩
    | true =>
      rw [q1] at c1 c2 c3
      cases q2 : (kV r).eqv (kV q) with
      | false =>
        rw [q2] at c1 c2 c3
        simp at c2 c1 c3
        rw [if_neg c2]
        exact ⟨by simpa using c1, by simpa using c3⟩
      | true =>
        rw [q2] at c2
        simp at c2
        rw [if_pos c2]
        exact ⟨by simpa using i1, by simpa using i2⟩

theorem keyR_lt : ∀ (rs qs : List Run), Ok rs → Ok qs → pltL (keyR rs) (keyR qs) = lexN (codes rs) (codes qs) ∧ pokL (keyR rs) (keyR qs) = true ∧ PyData.eqvAll (keyR rs) (keyR qs) = decide (codes rs = codes qs)
  | [], [], _, _ => ⟨by simp [keyR, codes, pltL, lexB], by simp [keyR, pokL], by simp [keyR, PyData.eqvAll, codes]⟩
  | [], q :: qs, _, _ => ⟨by simp [keyR, codes, pltL, lexB], by simp [keyR, pokL], by simp [keyR, PyData.eqvAll, codes]⟩
  | r :: rs, [], _, _ => ⟨by simp [keyR, codes, pltL, lexB], by simp [keyR, pokL], by simp [keyR, PyData.eqvAll, codes]⟩
  | r :: rs, q :: qs, h, k => by
    obtain ⟨i1, i2, i3⟩ := keyR_lt rs qs (fun x hx => h x (.tail _ hx)) fun x hx => k x (.tail _ hx)
    obtain ⟨c1, c2, c3⟩ := (runs_cmp r (h r (.head _)) q (k q (.head _))).2
    have e1 : keyR (r :: rs) = r.dat :: keyR rs := rfl
    have e2 : keyR (q :: qs) = q.dat :: keyR qs := rfl
    have e3 : lexN (codes (r :: rs)) (codes (q :: qs)) = if rcode r = rcode q then lexN (codes rs) (codes qs) else decide (rcode r < rcode q) := by
      show lexB _ (rcode r :: codes rs) (rcode q :: codes qs) = _
      rw [lexB]
    have e4 : codes (r :: rs) = codes (q :: qs) ↔ rcode r = rcode q ∧ codes rs = codes qs := by
      show rcode r :: codes rs = rcode q :: codes qs ↔ _
      rw [List.cons.injEq]
    rw [e1, e2, e3]
    simp only [pltL, pokL, PyData.eqvAll]
    rw [i3, c2, c1, c3, i1, i2]
    by_cases q : rcode r = rcode q
    · simp [q, e4]
    · simp [q, e4]

def keyP (ps : List (List Run)) : List PyData := ps.map fun rs => .list (keyR rs)
theorem keyP_lt : ∀ (ps qs : List (List Run)), (∀ rs ∈ ps, Ok rs) → (∀ rs ∈ qs, Ok rs) → pltL (keyP ps) (keyP qs) = lexB lexN (ps.map codes) (qs.map codes) ∧ pokL (keyP ps) (keyP qs) = true
  | [], [], _, _ => ⟨by simp [keyP, pltL, lexB], by simp [keyP, pokL]⟩
  | [], q :: qs, _, _ => ⟨by simp [keyP, pltL, lexB], by simp [keyP, pokL]⟩
  | r :: rs, [], _, _ => ⟨by simp [keyP, pltL, lexB], by simp [keyP, pokL]⟩
  | r :: rs, q :: qs, h, k => by
    obtain ⟨i1, i2⟩ := keyP_lt rs qs (fun x hx => h x (.tail _ hx)) fun x hx => k x (.tail _ hx)
    obtain ⟨c1, c2, c3⟩ := keyR_lt r q (h r (.head _)) (k q (.head _))
    have e1 : keyP (r :: rs) = .list (keyR r) :: keyP rs := rfl
    have e2 : keyP (q :: qs) = .list (keyR q) :: keyP qs := rfl
    rw [e1, e2]
    have c4 : (PyData.list (keyR r)).eqv (.list (keyR q)) = decide (codes r = codes q) := by rw [← c3]; simp only [PyData.eqv]
    have c5 : plt (.list (keyR r)) (.list (keyR q)) = lexN (codes r) (codes q) := by rw [← c1]; simp only [plt]
    have c6 : pok (.list (keyR r)) (.list (keyR q)) = true := by rw [← c2]; simp only [pok]
    simp only [pltL, pokL, List.map_cons, lexB]
    rw [c4, c5, c6, i1, i2]
    by_cases q : codes r = codes q
    · simp [q]
    · simp [q]

theorem codes_inj : ∀ (rs qs : List Run), Ok rs → Ok qs → codes rs = codes qs → PyData.eqvAll (keyR rs) (keyR qs) = true := fun rs qs h k e => by
  rw [(keyR_lt rs qs h k).2.2]; exact decide_eq_true e

theorem word_mem (k : Nat) (h : 3 ≤ k) (h2 : k < 16) : wordRun k ∈ allRuns := by
  unfold allRuns
  refine List.mem_append_left _ (List.mem_map.mpr ⟨k - 3, List.mem_range.mpr (by omega), ?_⟩)
  rw [Nat.sub_add_cancel h]
theorem num_mem (k : Nat) (h : k < 14) : numRun k ∈ allRuns := List.mem_append_right _ (List.mem_map.mpr ⟨k, List.mem_range.mpr h, rfl⟩)
theorem hasW_ge {n : Nat} (h : hasW n = true) : 3 ≤ n % 16 := by
  have key : ∀ k : Fin 16, (wordsL.getD k.val (Str.ofString "") != Str.ofString "") = true → 3 ≤ k.val := by decide +kernel
  exact key ⟨n % 16, Nat.mod_lt _ (by decide)⟩ h
theorem runs_ok (n : Nat) : Ok (runs n) := by
  have h2 : Ok (run2 n) := by
    intro r hr
    unfold run2 run1 at hr
    rcases List.mem_append.mp hr with q | q
    · by_cases c : hasW n = true
      · rw [if_pos c] at q
        obtain rfl := List.mem_singleton.mp q
        exact word_mem (n % 16) (hasW_ge c) (Nat.mod_lt _ (by decide))
      · rw [if_neg c] at q; cases q
    · by_cases c : hasN n = true
      · rw [if_pos c] at q
        obtain rfl := List.mem_singleton.mp q
        exact num_mem (n / 16 % 14) (Nat.mod_lt _ (by decide))
      · rw [if_neg c] at q; cases q
  intro r hr
  unfold runs at hr
  split at hr
  · rcases List.mem_append.mp hr with q | q
    · exact h2 r (List.mem_of_mem_drop q)
    · exact h2 r (List.mem_of_mem_take q)
  · exact h2 r hr
theorem run_lay : ∀ r ∈ allRuns, (kT r).canLay0 = true ∧ (kV r).canLay0 = true ∧ r.dat.canLay0 = true := by
  have h : (allRuns.all fun r => (kT r).canLay0 && ((kV r).canLay0 && r.dat.canLay0)) = true := by decide +kernel
  intro r hr
  have := List.all_eq_true.mp h r hr
  simpa using this
theorem run_depth (r : Run) : (kT r).depth ≤ 3 ∧ (kV r).depth ≤ 3 ∧ r.dat.depth ≤ 3 := by
  refine ⟨by simp [kT, PyData.depth], ?_, by simp [Run.dat, PyData.depth, PyData.depthAll]⟩
  unfold kV; split <;> simp [PyData.depth]
theorem depthAll_le {k : Nat} : ∀ {l : List PyData}, (∀ d ∈ l, d.depth ≤ k) → PyData.depthAll l ≤ k
  | [], _ => by simp [PyData.depthAll]
  | d :: l, h => by rw [depth_cons]; exact Nat.max_le.mpr ⟨h d (.head _), depthAll_le fun x hx => h x (.tail _ hx)⟩
theorem layAll {l : List PyData} (h : ∀ d ∈ l, d.canLay0 = true) : PyData.canLayAll0 l = true := by
  induction l with
  | nil => rfl
  | cons d l ih => show (d.canLay0 && PyData.canLayAll0 l) = true; rw [h d (.head _), ih fun x hx => h x (.tail _ hx)]; rfl
theorem keyC_lay {rs : List Run} (h : Ok rs) : (PyData.list (keyC rs)).canLay0 = true ∧ (PyData.list (keyC rs)).depth ≤ 64 := by
  have mem : ∀ d ∈ keyC rs, ∃ r ∈ rs, d = kT r ∨ d = kV r := fun d hd => by
    obtain ⟨r, hr, hd⟩ := List.mem_flatMap.mp hd
    exact ⟨r, hr, by simpa using hd⟩
  refine ⟨layAll fun d hd => ?_, ?_⟩
  · obtain ⟨r, hr, rfl | rfl⟩ := mem d hd
    · exact (run_lay r (h r hr)).1
    · exact (run_lay r (h r hr)).2.1
  · rw [depth_list]
    have := depthAll_le (k := 3) (l := keyC rs) fun d hd => by
      obtain ⟨r, hr, rfl | rfl⟩ := mem d hd
      · exact (run_depth r).1
      · exact (run_depth r).2.1
    omega
theorem keyR_lay {rs : List Run} (h : Ok rs) : (PyData.list (keyR rs)).canLay0 = true ∧ (PyData.list (keyR rs)).depth ≤ 4 := by
  refine ⟨layAll fun d hd => ?_, ?_⟩
  · obtain ⟨r, hr, rfl⟩ := List.mem_map.mp hd
    exact (run_lay r (h r hr)).2.2
  · rw [depth_list]
    have := depthAll_le (k := 3) (l := keyR rs) fun d hd => by
      obtain ⟨r, hr, rfl⟩ := List.mem_map.mp hd
      exact (run_depth r).2.2
    omega
theorem keyP_lay {ps : List (List Run)} (h : ∀ rs ∈ ps, Ok rs) : (PyData.list (keyP ps)).canLay0 = true ∧ (PyData.list (keyP ps)).depth ≤ 64 := by
  refine ⟨layAll fun d hd => ?_, ?_⟩
  · obtain ⟨r, hr, rfl⟩ := List.mem_map.mp hd
    exact (keyR_lay (h r hr)).1
  · rw [depth_list]
    have := depthAll_le (k := 4) (l := keyP ps) fun d hd => by
      obtain ⟨r, hr, rfl⟩ := List.mem_map.mp hd
      exact (keyR_lay (h r hr)).2
    omega
end Mine

end

section
open PySem PySem.W PyProof.Rows
set_option maxRecDepth 100000
set_option linter.all false
namespace Mine

abbrev cl (x : Str) : List Nat := x.cps.toList
def Bound (cs : List Nat) : Prop := cs = [] ∨ ∃ c r, cs = c :: r ∧ (isDig c = true ∨ isSep c = true)
def NoDig (cs : List Nat) : Prop := ∀ c r, cs = c :: r → isDig c = false
def Plain (w : List Nat) : Prop := ∀ c ∈ w, isDig c = false ∧ isSep c = false

inductive Tx : List Nat → List PyData → Prop
  | nil : Tx [] []
  | sep {c : Nat} {cs : List Nat} {ks : List PyData} : isSep c = true → isDig c = false → Tx cs ks → Tx (c :: cs) ks
  | num {ds cs : List Nat} {ks : List PyData} {n : Int} : ds ≠ [] → (∀ c ∈ ds, isDig c = true) → NoDig cs → ds.length ≤ 600 → Txt.contains (Str.ofString "._+-") ⟨ds.toArray⟩ = false → PySem.intText? ⟨ds.toArray⟩ = some n → Tx cs ks → Tx (ds ++ cs) ([.int 100, .int n] ++ ks)
  | word {w cs : List Nat} {ks : List PyData} : Plain w → Bound cs → w.length ≤ 600 → Txt.contains (Str.ofString "._+-") ⟨w.toArray⟩ = false → NoNum ⟨w.toArray⟩ → (reprText ⟨w.toArray⟩).length ≤ 1000 → Tx cs ks → Tx (w ++ cs) ([.int (stageOf ⟨w.toArray⟩), .str ⟨w.toArray⟩] ++ ks)

theorem nextM_plain : ∀ {w : List Nat} (cs : List Nat), Plain w → nextM (w ++ cs) = (nextM cs).map fun x => (x.1 + w.length, x.2)
  | [], cs, _ => by
    simp only [List.nil_append, List.length_nil, Nat.add_zero]
    cases nextM cs <;> rfl
  | c :: w, cs, h => by
    have h1 := h c (.head _)
    show nextM (c :: (w ++ cs)) = _
    rw [nextM, if_neg (by rw [h1.1]; decide), if_neg (by rw [h1.2]; decide), nextM_plain cs fun x hx => h x (.tail _ hx)]
    cases nextM cs with
    | none => rfl
    | some x => simp [Nat.add_assoc]
theorem takeWhile_dig {ds cs : List Nat} (h : ∀ c ∈ ds, isDig c = true) (k : NoDig cs) : (ds ++ cs).takeWhile isDig = ds := by
  rw [List.takeWhile_append_of_pos h]
  cases cs with
  | nil => simp
  | cons c r => rw [List.takeWhile_cons, if_neg (by rw [k c r rfl]; decide)]; simp
theorem pc_empty : Pc [] [] := .skip (by decide +kernel)
theorem pc_sep {c : Nat} (h : isSep c = true) : Pc [c] [] := .skip (by
  have : c = 46 ∨ c = 95 ∨ c = 43 ∨ c = 45 := by simpa [isSep, or_assoc] using h
  rcases this with rfl | rfl | rfl | rfl <;> decide +kernel)

theorem Tx.split {cs : List Nat} {ks : List PyData} (h : Tx cs ks) : ∃ o outs r rs, SplitsTo cs (o :: outs) ∧ o.length ≤ 600 ∧ Pc o r ∧ Pcs outs rs ∧ ks = r ++ rs ∧ (Bound cs → o = [] ∧ r = [] ∧ ∀ x, nextM cs = some x → x.1 = 0) := by
  induction h with
  | nil => exact ⟨[], [], [], [], .stop rfl, by decide, pc_empty, .nil, rfl, fun _ => ⟨rfl, rfl, fun x h => by cases h⟩⟩
  | @sep c cs ks h1 h2 ht ih =>
    obtain ⟨o, outs, r, rs, i1, i2, i3, i4, i5, _⟩ := ih
    have hn : nextM (c :: cs) = some (0, 1) := by rw [nextM, if_neg (by rw [h2]; decide), if_pos h1]
    refine ⟨[], [c] :: o :: outs, [], [] ++ (r ++ rs), .more (o := 0) (l := 1) hn i1, by decide, pc_empty, .cons (by simp) (pc_sep h1) (.cons i2 i3 i4), by simpa using i5, fun _ => ⟨rfl, rfl, fun x hx => ?_⟩⟩
    rw [hn] at hx; cases hx; rfl
  | @num ds cs ks n h1 h2 h3 h4 h5 h6 ht ih =>
    obtain ⟨o, outs, r, rs, i1, i2, i3, i4, i5, _⟩ := ih
    have hn : nextM (ds ++ cs) = some (0, ds.length) := by
      cases ds with
      | nil => exact absurd rfl h1
      | cons c ds =>
        show nextM (c :: (ds ++ cs)) = _
        rw [nextM, if_pos (h2 c (.head _)), takeWhile_dig (fun x hx => h2 x (.tail _ hx)) h3]
        simp [Nat.add_comm]
    have e1 : (ds ++ cs).drop (0 + ds.length) = cs := by simp
    have e2 : ((ds ++ cs).drop 0).take ds.length = ds := by simp
    have i1' := SplitsTo.more (o := 0) (l := ds.length) hn (by rw [e1]; exact i1)
    rw [e2] at i1'
    refine ⟨[], ds :: o :: outs, [], [.int 100, .int n] ++ (r ++ rs), i1', by decide, pc_empty, .cons h4 (.num h5 h6) (.cons i2 i3 i4), by rw [i5]; rfl, fun _ => ⟨rfl, rfl, fun x hx => ?_⟩⟩
    rw [hn] at hx; cases hx; rfl
  | @word w cs ks h1 h2 h3 h4 h5 h6 ht ih =>
    obtain ⟨o, outs, r, rs, i1, i2, i3, i4, i5, i6⟩ := ih
    obtain ⟨ho, rfl, i7⟩ := i6 h2
    have hn := nextM_plain cs h1
    have hw : w = [] ∨ w ≠ [] := by cases w <;> simp
    have hb : Bound (w ++ cs) → w = [] := fun hb => by
      rcases hb with hb | ⟨c, r, e, hc⟩
      · exact (List.append_eq_nil_iff.mp hb).1
      · cases w with
        | nil => rfl
        | cons c' w' =>
          injection e with e1 e2
          have := h1 c' (.head _)
          rw [← e1, this.1, this.2] at hc
          simp at hc
    have hwc : w ≠ [] := fun e => by subst e; exact absurd h4 (by decide +kernel)
    refine ⟨w, outs, [.int (stageOf ⟨w.toArray⟩), .str ⟨w.toArray⟩], rs, ?_, h3, .word h4 h5 h6, i4, by rw [i5]; rfl, fun q => absurd (hb q) hwc⟩
    cases i1 with
    | stop hc =>
      rw [ho] at hn
      have := SplitsTo.stop hn
      rw [ho]
      simpa using this
    | @more _ o' l rest hc hr =>
      have o0 := i7 _ hc
      simp only at o0
      subst o0
      rw [hc] at hn
      have := SplitsTo.more (cs := w ++ cs) (o := w.length) (l := l) (by rw [hn]; simp) (by rw [List.drop_append, List.drop_eq_nil_of_le (by omega)]; simpa using hr)
      simpa using this
end Mine

end

section
open PySem PySem.W PyProof.Rows
set_option maxRecDepth 100000
set_option linter.all false
namespace Mine

theorem cl_append (a b : Str) : cl (a ++ b) = cl a ++ cl b := by show (a.cps ++ b.cps).toList = _; rw [Array.toList_append]
theorem cl_join (sep : Str) : ∀ (x : Str) (rest : List Str), cl (Txt.join sep (x :: rest)) = cl x ++ (rest.flatMap fun y => cl sep ++ cl y) := fun x rest => by
  show ((rest.foldl (fun acc p => acc ++ sep.cps ++ p.cps) x.cps) : Array Nat).toList = _
  have key : ∀ (l : List Str) (acc : Array Nat), (l.foldl (fun acc p => acc ++ sep.cps ++ p.cps) acc).toList = acc.toList ++ l.flatMap fun y => cl sep ++ cl y := by
    intro l
    induction l with
    | nil => intro acc; simp
    | cons y l ih => intro acc; rw [List.foldl_cons, ih]; simp
  exact key rest x.cps
theorem str_eta (x : Str) : (⟨(cl x).toArray⟩ : Str) = x := by cases x; rfl

theorem sgn_cl (k : Nat) : cl (sgn k) = [] ∨ ∃ c, cl (sgn k) = [c] ∧ isSep c = true ∧ isDig c = false ∧ c ≠ 46 := by
  have h : ∀ k : Fin 4, cl (signsL.getD k.val (Str.ofString "")) = [] ∨ cl (signsL.getD k.val (Str.ofString "")) = [95] ∨ cl (signsL.getD k.val (Str.ofString "")) = [43] ∨ cl (signsL.getD k.val (Str.ofString "")) = [45] := by decide +kernel
  rcases h ⟨k % 4, Nat.mod_lt _ (by decide)⟩ with q | q | q | q
  · exact .inl q
  · exact .inr ⟨_, q, by decide, by decide, by decide⟩
  · exact .inr ⟨_, q, by decide, by decide, by decide⟩
  · exact .inr ⟨_, q, by decide, by decide, by decide⟩
theorem tx_sgn {k : Nat} {cs : List Nat} {ks : List PyData} (h : Tx cs ks) : Tx (cl (sgn k) ++ cs) ks := by
  rcases sgn_cl k with e | ⟨c, e, h1, h2, _⟩
  · rw [e]; exact h
  · rw [e]; exact .sep h1 h2 h
theorem bound_sgn {k : Nat} {cs : List Nat} (h : Bound cs) : Bound (cl (sgn k) ++ cs) := by
  rcases sgn_cl k with e | ⟨c, e, h1, h2, _⟩
  · rw [e]; exact h
  · rw [e]; exact .inr ⟨c, cs, rfl, .inr h1⟩
theorem nodig_sgn {k : Nat} {cs : List Nat} (h : NoDig cs) : NoDig (cl (sgn k) ++ cs) := by
  rcases sgn_cl k with e | ⟨c, e, h1, h2, _⟩
  · rw [e]; exact h
  · rw [e]; intro c' r q; cases q; exact h2

theorem word_num (k : Nat) (h3 : 3 ≤ k) (h : k < 16) : NoNum (wordsL.getD k (Str.ofString "")) := by
  have : k = 3 ∨ k = 4 ∨ k = 5 ∨ k = 6 ∨ k = 7 ∨ k = 8 ∨ k = 9 ∨ k = 10 ∨ k = 11 ∨ k = 12 ∨ k = 13 ∨ k = 14 ∨ k = 15 := by omega
  rcases this with rfl | rfl | rfl | rfl | rfl | rfl | rfl | rfl | rfl | rfl | rfl | rfl | rfl <;> (unfold NoNum; kernel_rfl)
theorem word_facts (k : Nat) (h3 : 3 ≤ k) (h : k < 16) :
    (∀ c ∈ cl (wordsL.getD k (Str.ofString "")), isDig c = false ∧ isSep c = false) ∧ (cl (wordsL.getD k (Str.ofString ""))).length ≤ 600 ∧ Txt.contains (Str.ofString "._+-") (wordsL.getD k (Str.ofString "")) = false ∧
    (reprText (wordsL.getD k (Str.ofString ""))).length ≤ 1000 ∧ stageOf (wordsL.getD k (Str.ofString "")) = ranksL.getD k 0 ∧ ranksL.getD k 0 ≠ 100 ∧ (∀ c ∈ cl (wordsL.getD k (Str.ofString "")), c ≠ 58 ∧ c ≠ 10 ∧ c ≠ 46) := by
  have key : ∀ k : Fin 16, 3 ≤ k.val → ((cl (wordsL.getD k.val (Str.ofString ""))).all (fun c => !isDig c && !isSep c) = true ∧ (cl (wordsL.getD k.val (Str.ofString ""))).length ≤ 600 ∧ Txt.contains (Str.ofString "._+-") (wordsL.getD k.val (Str.ofString "")) = false ∧
    (reprText (wordsL.getD k.val (Str.ofString ""))).length ≤ 1000 ∧ stageOf (wordsL.getD k.val (Str.ofString "")) = ranksL.getD k.val 0 ∧ ranksL.getD k.val 0 ≠ 100 ∧ (cl (wordsL.getD k.val (Str.ofString ""))).all (fun c => decide (c ≠ 58 ∧ c ≠ 10 ∧ c ≠ 46)) = true) := by decide +kernel
  obtain ⟨a, b, c, d, e, f, g⟩ := key ⟨k, h⟩ h3
  refine ⟨fun x hx => ?_, b, c, d, e, f, fun x hx => ?_⟩
  · simpa using List.all_eq_true.mp a x hx
  · simpa using List.all_eq_true.mp g x hx
theorem tx_word {n : Nat} {cs : List Nat} {ks : List PyData} (hw : hasW n = true) (hb : Bound cs) (h : Tx cs ks) : Tx (cl (wrd n) ++ cs) (keyC [⟨rnk n, 0, wrd n⟩] ++ ks) := by
  have h3 := hasW_ge hw
  have h16 : n % 16 < 16 := Nat.mod_lt _ (by decide)
  obtain ⟨a, b, c, d, e, f, g⟩ := word_facts (n % 16) h3 h16
  have key := Tx.word (w := cl (wrd n)) (cs := cs) (ks := ks) a hb b (by rw [str_eta]; exact c) (by rw [str_eta]; exact word_num _ h3 h16) (by rw [str_eta]; exact d) h
  rw [str_eta] at key
  have e2 : keyC [⟨rnk n, 0, wrd n⟩] = [.int (stageOf (wrd n)), .str (wrd n)] := by
    show [kT ⟨rnk n, 0, wrd n⟩, kV ⟨rnk n, 0, wrd n⟩] = _
    have e3 : kV ⟨rnk n, 0, wrd n⟩ = .str (wrd n) := if_neg f
    rw [e3]
    show [PyData.int (rnk n), _] = _
    rw [show stageOf (wrd n) = rnk n from e]
  rw [e2]; exact key
theorem num_facts (z k : Nat) (hz : z < 3) (hk : k < 12) : (cl (Txt.mul (Str.ofString "0") (z : Nat) ++ Str.ofString (toString ((k : Nat) : Int)))) ≠ [] ∧ (∀ c ∈ cl (Txt.mul (Str.ofString "0") (z : Nat) ++ Str.ofString (toString ((k : Nat) : Int))), isDig c = true) ∧
    (cl (Txt.mul (Str.ofString "0") (z : Nat) ++ Str.ofString (toString ((k : Nat) : Int)))).length ≤ 600 ∧ Txt.contains (Str.ofString "._+-") (Txt.mul (Str.ofString "0") (z : Nat) ++ Str.ofString (toString ((k : Nat) : Int))) = false ∧
    PySem.intText? (Txt.mul (Str.ofString "0") (z : Nat) ++ Str.ofString (toString ((k : Nat) : Int))) = some (k : Int) := by
  have key : ∀ z : Fin 3, ∀ k : Fin 12, (cl (Txt.mul (Str.ofString "0") ((z.val : Nat) : Int) ++ Str.ofString (toString ((k.val : Nat) : Int)))) ≠ [] ∧ (cl (Txt.mul (Str.ofString "0") ((z.val : Nat) : Int) ++ Str.ofString (toString ((k.val : Nat) : Int)))).all isDig = true ∧
    (cl (Txt.mul (Str.ofString "0") ((z.val : Nat) : Int) ++ Str.ofString (toString ((k.val : Nat) : Int)))).length ≤ 600 ∧ Txt.contains (Str.ofString "._+-") (Txt.mul (Str.ofString "0") ((z.val : Nat) : Int) ++ Str.ofString (toString ((k.val : Nat) : Int))) = false ∧
    PySem.intText? (Txt.mul (Str.ofString "0") ((z.val : Nat) : Int) ++ Str.ofString (toString ((k.val : Nat) : Int))) = some ((k.val : Nat) : Int) := by decide +kernel
  obtain ⟨a, b, c, d, e⟩ := key ⟨z, hz⟩ ⟨k, hk⟩
  exact ⟨a, fun x hx => List.all_eq_true.mp b x hx, c, d, e⟩
theorem tx_num {n : Nat} {cs : List Nat} {ks : List PyData} (hw : hasN n = true) (hb : NoDig cs) (h : Tx cs ks) : Tx (cl (numS n) ++ cs) (keyC [⟨100, ((n / 16 % 14 : Nat) : Int), Str.ofString ""⟩] ++ ks) := by
  have hk : n / 16 % 14 < 12 := by simpa [hasN] using hw
  obtain ⟨a, b, c, d, e⟩ := num_facts (n / 16 / 28 % 3) (n / 16 % 14) (Nat.mod_lt _ (by decide)) hk
  exact Tx.num (ds := cl (numS n)) a b hb c (by rw [str_eta]; exact d) (by rw [str_eta]; exact e) h
theorem num_bound {n : Nat} {cs : List Nat} (hw : hasN n = true) : Bound (cl (numS n) ++ cs) := by
  have hk : n / 16 % 14 < 12 := by simpa [hasN] using hw
  obtain ⟨a, b, _⟩ := num_facts (n / 16 / 28 % 3) (n / 16 % 14) (Nat.mod_lt _ (by decide)) hk
  have a' : cl (numS n) ≠ [] := a
  have b' : ∀ c ∈ cl (numS n), isDig c = true := b
  cases q : cl (numS n) with
  | nil => exact absurd q a'
  | cons c r => exact .inr ⟨c, r ++ cs, rfl, .inl (b' c (by rw [q]; exact .head _))⟩
theorem word_nodig {n : Nat} {cs : List Nat} (hw : hasW n = true) : NoDig (cl (wrd n) ++ cs) := by
  obtain ⟨a, _, c, _⟩ := word_facts (n % 16) (hasW_ge hw) (Nat.mod_lt _ (by decide))
  have a' : ∀ c ∈ cl (wrd n), isDig c = false ∧ isSep c = false := a
  cases q : cl (wrd n) with
  | nil => exact absurd c (by rw [← str_eta (wordsL.getD (n % 16) (Str.ofString "")), show cl (wordsL.getD (n % 16) (Str.ofString "")) = [] from q]; decide +kernel)
  | cons c r => intro c' r' e; cases e; exact (a' c (by rw [q]; exact .head _)).1
theorem bound_nodig {cs : List Nat} (h : cs = [] ∨ ∃ r, cs = 46 :: r) : Bound cs ∧ NoDig cs := by
  rcases h with rfl | ⟨r, rfl⟩
  · exact ⟨.inl rfl, fun c r e => by cases e⟩
  · exact ⟨.inr ⟨46, r, rfl, .inr (by decide)⟩, fun c r e => by cases e; decide⟩

theorem keyC_append (a b : List Run) : keyC (a ++ b) = keyC a ++ keyC b := List.flatMap_append

theorem tx_part {n : Nat} {cs : List Nat} {ks : List PyData} (hb : cs = [] ∨ ∃ r, cs = 46 :: r) (h : Tx cs ks) : Tx (cl (partText n) ++ cs) (keyC (runs n) ++ ks) := by
  obtain ⟨h1, h2⟩ := bound_nodig hb
  unfold partText
  rw [cl_append, cl_append, List.append_assoc, List.append_assoc]
  refine tx_sgn ?_
  have hs : Tx (cl (sgn (n / 16 / 1344)) ++ cs) ks := tx_sgn h
  have b1 : Bound (cl (sgn (n / 16 / 1344)) ++ cs) := bound_sgn h1
  have b2 : NoDig (cl (sgn (n / 16 / 1344)) ++ cs) := nodig_sgn h2
  generalize cl (sgn (n / 16 / 1344)) ++ cs = cs' at hs b1 b2 ⊢
  unfold texts runs text2 run2 text1 run1
  cases hw : hasW n <;> cases hn : hasN n <;> cases hr : rotd n <;> simp only [if_true, if_false, Bool.false_eq_true, List.nil_append, List.append_nil, List.drop_nil, List.take_nil, List.drop_succ_cons, List.drop_zero, List.take_succ_cons, List.take_zero, List.cons_append, List.drop_one, List.tail_cons]
  · exact hs
  · exact hs
  · rw [cl_join]; simp only [List.flatMap_nil, List.append_nil]; exact tx_num hn b2 hs
  · rw [cl_join]; simp only [List.flatMap_nil, List.append_nil]; exact tx_num hn b2 hs
  · rw [cl_join]; simp only [List.flatMap_nil, List.append_nil]; exact tx_word hw b1 hs
  · rw [cl_join]; simp only [List.flatMap_nil, List.append_nil]; exact tx_word hw b1 hs
  · rw [cl_join]; simp only [List.flatMap_cons, List.flatMap_nil, List.append_nil, List.append_assoc]
    rw [show keyC [⟨rnk n, 0, wrd n⟩, ⟨100, ((n / 16 % 14 : Nat) : Int), Str.ofString ""⟩] ++ ks = keyC [⟨rnk n, 0, wrd n⟩] ++ (keyC [⟨100, ((n / 16 % 14 : Nat) : Int), Str.ofString ""⟩] ++ ks) from rfl]
    exact tx_word hw (bound_sgn (num_bound hn)) (tx_sgn (tx_num hn b2 hs))
  · rw [cl_join]; simp only [List.flatMap_cons, List.flatMap_nil, List.append_nil, List.append_assoc]
    rw [show keyC [⟨100, ((n / 16 % 14 : Nat) : Int), Str.ofString ""⟩, ⟨rnk n, 0, wrd n⟩] ++ ks = keyC [⟨100, ((n / 16 % 14 : Nat) : Int), Str.ofString ""⟩] ++ (keyC [⟨rnk n, 0, wrd n⟩] ++ ks) from rfl]
    exact tx_num hn (nodig_sgn (word_nodig hw)) (tx_sgn (tx_word hw b1 hs))

def joinP (ps : List Nat) : Str := Txt.join (Str.ofString ".") (ps.map partText)
theorem cl_dot : cl (Str.ofString ".") = [46] := by decide +kernel
theorem joinP_nil : joinP [] = Str.ofString "" := by rfl
theorem joinP_cl (p : Nat) (ps : List Nat) : cl (joinP (p :: ps)) = cl (partText p) ++ ps.flatMap fun q => 46 :: cl (partText q) := by
  unfold joinP
  rw [List.map_cons, cl_join, List.flatMap_map, cl_dot]
  simp
theorem tx_parts : ∀ ps : List Nat, Tx (ps.flatMap fun q => 46 :: cl (partText q)) (keyC (ps.flatMap runs))
  | [] => .nil
  | p :: ps => by
    rw [List.flatMap_cons, List.flatMap_cons, keyC_append]
    refine .sep (by decide) (by decide) (tx_part ?_ (tx_parts ps))
    cases ps with
    | nil => exact .inl rfl
    | cons q ps => exact .inr ⟨_, rfl⟩
theorem tx_join (ps : List Nat) : Tx (cl (joinP ps)) (keyC (ps.flatMap runs)) := by
  cases ps with
  | nil => exact .nil
  | cons p ps =>
    rw [joinP_cl, List.flatMap_cons, keyC_append]
    refine tx_part ?_ (tx_parts ps)
    cases ps with
    | nil => exact .inl rfl
    | cons q ps => exact .inr ⟨_, rfl⟩
theorem join_pcs (ps : List Nat) : ∃ outs, SplitsTo (cl (joinP ps)) outs ∧ Pcs outs (keyC (ps.flatMap runs)) := by
  obtain ⟨o, outs, r, rs, h1, h2, h3, h4, h5, _⟩ := (tx_join ps).split
  exact ⟨_, h1, by rw [h5]; exact .cons h2 h3 h4⟩
end Mine

end

section
open PySem PySem.W PyProof.Rows PySem.Builtin.Str
set_option maxRecDepth 100000
set_option linter.all false
namespace Mine

def sNl : Str := Str.ofString "\n"
def sCo : Str := Str.ofString ":"
def sDt : Str := Str.ofString "."
def en1 (x : Str) : Nat := if 0 ≤ fnd x sNl x.length then (fnd x sNl x.length).toNat else x.length
def en2 (x : Str) : Nat := if 0 ≤ fnd x sCo (en1 x) then (fnd x sCo (en1 x)).toNat else en1 x
def st3 (x : Str) : Nat := if 0 ≤ rfnd x sDt (en2 x) then (rfnd x sDt (en2 x)).toNat + 1 else 0
theorem sNl_eq : sNl = ⟨#[10]⟩ := by decide
theorem sCo_eq : sCo = ⟨#[58]⟩ := by decide
theorem sDt_eq : sDt = ⟨#[46]⟩ := by decide
theorem fnd_le (x : Str) (c hi : Nat) (hhi : hi ≤ x.length) : fnd x ⟨#[c]⟩ hi ≤ hi := by
  rcases fnd_spec x c hi hhi with ⟨h, _⟩ | ⟨i, h, h1, _⟩ <;> omega
theorem en1_le (x : Str) : en1 x ≤ x.length := by
  have := fnd_le x 10 x.length (Nat.le_refl _)
  unfold en1
  rw [sNl_eq]
  split <;> omega
theorem en2_le (x : Str) : en2 x ≤ en1 x := by
  have := fnd_le x 58 (en1 x) (en1_le x)
  unfold en2
  rw [sCo_eq]
  split <;> omega

theorem strip_spec {prog : Program} {w : World} {A : Around} {F : List Addr} {B : Fz} {s : Shared} {x : Str} {t : Tok} (G : GB B) (hB : B.In s.heap) (hF : ∀ a ∈ F, B a = none ∧ ∃ o, s.heap.get? a = some o) (hroom : A.depth < 900) (hh : A.handled = none) (hx : x.length ≤ 100000) :
    Gives1 prog w A F 51 [.str x t] (Rd (.str (Txt.slice x (some (st3 x : Nat)) (some (en2 x : Nat))))) B s := by
  refine enter (name := Str.ofString "_strip_exception_details") (i := 6) (c := 50) hB (G _ hB).lim (G _ hB).f51 hF (by have : recursionLimit = 1000 := rfl; omega) (binds := [(Str.ofString "msg", .str x t)]) (fun pm => rfl) (fun x hx => by obtain rfl := List.mem_singleton.mp hx; rfl) hh fun C E s' S hB0 hs0 hF0 hA0 H => ?_
  unfold fdB
  dsimp only [PySem.Challenge.pw_mq0074_01, List.getElem?_cons_succ, List.getElem?_cons_zero]
  refine st_swap2 (d1 := .int 0) (d2 := .int (x.length : Nat)) S (by rw [hA0]; exact hh) H ?_ ?_
  · exact ev_tuple (.cons ev_int (.cons (ev_len (ev_builtin S G (by decide)) (ev_var S rfl (.str _ _)) (by omega)) .nil (fun _ _ => rfl)) (fun _ _ => rfl)) (by simp)
  intro v1 v2 B1 s1 hle1 H1 p1 p2
  refine st_assign (P := Rd (.int (fnd x sNl x.length))) S H1 ?_ ?_
  · exact ev_find (ev_var S rfl (.str _ _)) ev_str
  intro v3 B3 s3 hle3 H3 p3
  refine st_ifJ (b := decide (0 ≤ fnd x sNl x.length)) (fun s' => ∃ B' l ve, B3.le B' ∧ Fs C (lk l) [] B' s' ∧ lk l (Str.ofString "msg") = some (.str x t) ∧ lk l (Str.ofString "start") = some v1 ∧ lk l (Str.ofString "end") = some ve ∧ Rp B' ve (.int (en1 x : Nat))) H3 ?_ ?_ ?_
  · exact et_ge (ev_var S rfl p3) ev_int
  · intro B' s4 hle4 H4
    by_cases hc : 0 ≤ fnd x sNl x.length
    · rw [if_pos (decide_eq_true hc)]
      refine st_assign (P := Rd (.int (fnd x sNl x.length))) S H4 (ev_var S rfl (p3.mono hle4)) ?_
      intro v5 B5 s5 hle5 H5 p5
      refine st_nil ⟨rfl, B5, _, v5, hle4.trans hle5, H5, rfl, rfl, rfl, ?_⟩
      have : ((en1 x : Nat) : Int) = fnd x sNl x.length := by unfold en1; rw [if_pos hc]; omega
      rw [this]; exact p5
    · rw [if_neg (by simpa using hc)]
      refine st_nil ⟨rfl, B', _, v2, hle4, H4, rfl, rfl, rfl, ?_⟩
      have : en1 x = x.length := by unfold en1; rw [if_neg hc]
      rw [this]; exact (p2.mono hle3).mono hle4
  rintro s6 ⟨B6, l6, ve6, hle6, H6, k1, k2, k3, p6⟩
  refine st_assign (P := Rd (.int (fnd x sCo (en1 x)))) S H6 ?_ ?_
  · exact ev_find4 (ev_var S k1 (.str _ _)) ev_str ev_int (ev_var S k3 p6) (en1_le x)
  intro v7 B7 s7 hle7 H7 p7
  refine st_ifJ (b := decide (0 ≤ fnd x sCo (en1 x))) (fun s' => ∃ B' l ve, B7.le B' ∧ Fs C (lk l) [] B' s' ∧ lk l (Str.ofString "msg") = some (.str x t) ∧ lk l (Str.ofString "start") = some v1 ∧ lk l (Str.ofString "end") = some ve ∧ Rp B' ve (.int (en2 x : Nat))) H7 ?_ ?_ ?_
  · exact et_ge (ev_var S rfl p7) ev_int
  · intro B' s4 hle4 H4
    by_cases hc : 0 ≤ fnd x sCo (en1 x)
    · rw [if_pos (decide_eq_true hc)]
      refine st_assign (P := Rd (.int (fnd x sCo (en1 x)))) S H4 (ev_var S rfl (p7.mono hle4)) ?_
      intro v5 B5 s5 hle5 H5 p5
      refine st_nil ⟨rfl, B5, _, v5, hle4.trans hle5, H5, k1, k2, rfl, ?_⟩
      have : ((en2 x : Nat) : Int) = fnd x sCo (en1 x) := by unfold en2; rw [if_pos hc]; omega
      rw [this]; exact p5
    · rw [if_neg (by simpa using hc)]
      refine st_nil ⟨rfl, B', _, ve6, hle4, H4, k1, k2, k3, ?_⟩
      have : en2 x = en1 x := by unfold en2; rw [if_neg hc]
      rw [this]; exact (p6.mono hle7).mono hle4
  rintro s8 ⟨B8, l8, ve8, hle8, H8, j1, j2, j3, p8⟩
  have le18 : B1.le B8 := hle3.trans (hle6.trans (hle7.trans hle8))
  refine st_assign (P := Rd (.int (rfnd x sDt (en2 x)))) S H8 ?_ ?_
  · exact ev_rfind4 (ev_var S j1 (.str _ _)) ev_str ev_int (ev_var S j3 p8) (Nat.le_trans (en2_le x) (en1_le x))
  intro v9 B9 s9 hle9 H9 p9
  refine st_ifJ (b := decide (0 ≤ rfnd x sDt (en2 x))) (fun s' => ∃ B' l vs, B9.le B' ∧ Fs C (lk l) [] B' s' ∧ lk l (Str.ofString "msg") = some (.str x t) ∧ lk l (Str.ofString "start") = some vs ∧ lk l (Str.ofString "end") = some ve8 ∧ Rp B' vs (.int (st3 x : Nat))) H9 ?_ ?_ ?_
  · exact et_ge (ev_var S rfl p9) ev_int
  · intro B' s4 hle4 H4
    by_cases hc : 0 ≤ rfnd x sDt (en2 x)
    · rw [if_pos (decide_eq_true hc)]
      refine st_assign (P := Rd (.int (rfnd x sDt (en2 x) + 1))) S H4 (ev_add (ev_var S rfl (p9.mono hle4)) ev_int) ?_
      intro v5 B5 s5 hle5 H5 p5
      refine st_nil ⟨rfl, B5, _, v5, hle4.trans hle5, H5, j1, rfl, j3, ?_⟩
      have : ((st3 x : Nat) : Int) = rfnd x sDt (en2 x) + 1 := by unfold st3; rw [if_pos hc]; omega
      rw [this]; exact p5
    · rw [if_neg (by simpa using hc)]
      refine st_nil ⟨rfl, B', _, v1, hle4, H4, j1, j2, j3, ?_⟩
      have : st3 x = 0 := by unfold st3; rw [if_neg hc]
      rw [this]; exact ((p1.mono le18).mono hle9).mono hle4
  rintro s10 ⟨B10, l10, vs10, hle10, H10, i1, i2, i3, p10⟩
  refine st_return (P := Rd (.str (Txt.slice x (some (st3 x : Nat)) (some (en2 x : Nat))))) H10 ?_ ?_
  · exact ev_sliceS (ev_var S i1 (.str _ _)) (.some (ev_var S i2 p10)) (.some (ev_var S i3 (p8.mono (hle9.trans hle10)))) (by omega)
  · intro v B' s' hle H' p
    exact ⟨v, _, _, B', rfl, H', p⟩

theorem getElem?_left {R T : List Nat} {i c : Nat} (h : (R ++ T)[i]? = some c) (hi : i < R.length) : c ∈ R := by
  rw [List.getElem?_append_left hi] at h
  exact List.mem_of_getElem? h
theorem strip_plain {x : Str} {R T a b : List Nat} (hx : x.cps.toList = R ++ T) (hR : ∀ c ∈ R, c ≠ 58 ∧ c ≠ 10) (hT : T = [] ∨ (T.head? = some 58 ∧ ∀ c ∈ T, c ≠ 10) ∨ T.head? = some 10)
    (hab : R = a ++ b) (hb : ∀ c ∈ b, c ≠ 46) (ha : a = [] ∨ ∃ r, a = r ++ [46]) : Txt.slice x (some (st3 x : Nat)) (some (en2 x : Nat)) = ⟨b.toArray⟩ := by
  have hlen : x.length = R.length + T.length := by
    have := congrArg List.length hx
    simpa [Str.length] using this
  have hT0 : ∀ c, T.head? = some c → (R ++ T)[R.length]? = some c := fun c h => by
    rw [List.getElem?_append_right (Nat.le_refl _), Nat.sub_self, ← List.head?_eq_getElem?]; exact h
  have he2 : en2 x = R.length := by
    have f1 := fnd_spec x 10 x.length (Nat.le_refl _)
    have f2 := fnd_spec x 58 (en1 x) (en1_le x)
    rw [← sNl_eq, hx] at f1
    rw [← sCo_eq, hx] at f2
    rcases hT with rfl | ⟨h1, h2⟩ | h1
    · have e1 : en1 x = R.length := by
        rcases f1 with ⟨g, _⟩ | ⟨i, g, g1, g2, _⟩
        · unfold en1; rw [g, if_neg (by decide)]; simpa using hlen
        · exact absurd rfl (hR 10 (getElem?_left g2 (by simpa [hlen] using g1))).2
      rcases f2 with ⟨g, _⟩ | ⟨i, g, g1, g2, _⟩
      · unfold en2; rw [g, if_neg (by decide)]; exact e1
      · exact absurd rfl (hR 58 (getElem?_left g2 (by omega))).1
    · have e1 : en1 x = x.length := by
        rcases f1 with ⟨g, _⟩ | ⟨i, g, g1, g2, _⟩
        · unfold en1; rw [g, if_neg (by decide)]
        · have hm := List.mem_of_getElem? g2
          rcases List.mem_append.mp hm with q | q
          · exact absurd rfl (hR 10 q).2
          · exact absurd rfl (h2 10 q)
      have hpos : 0 < T.length := by cases T with | nil => cases h1 | cons _ _ => simp
      rcases f2 with ⟨g, g0⟩ | ⟨i, g, g1, g2, g3⟩
      · exact absurd (hT0 58 h1) (g0 R.length (by omega))
      · have : ¬ i < R.length := fun q => absurd rfl (hR 58 (getElem?_left g2 q)).1
        have : ¬ R.length < i := fun q => g3 _ q (hT0 58 h1)
        unfold en2; rw [g, if_pos (by omega)]; omega
    · have hpos : 0 < T.length := by cases T with | nil => cases h1 | cons _ _ => simp
      have e1 : en1 x = R.length := by
        rcases f1 with ⟨g, g0⟩ | ⟨i, g, g1, g2, g3⟩
        · exact absurd (hT0 10 h1) (g0 R.length (by omega))
        · have : ¬ i < R.length := fun q => absurd rfl (hR 10 (getElem?_left g2 q)).2
          have : ¬ R.length < i := fun q => g3 _ q (hT0 10 h1)
          unfold en1; rw [g, if_pos (by omega)]; omega
      rcases f2 with ⟨g, _⟩ | ⟨i, g, g1, g2, _⟩
      · unfold en2; rw [g, if_neg (by decide)]; exact e1
      · exact absurd rfl (hR 58 (getElem?_left g2 (by omega))).1
  have hs3 : st3 x = a.length := by
    have f3 := rfnd_spec x 46 (en2 x) (Nat.le_trans (en2_le x) (en1_le x))
    rw [← sDt_eq, hx, he2, hab] at f3
    have hin : ∀ i, i < (a ++ b).length → ((a ++ b) ++ T)[i]? = (a ++ b)[i]? := fun i hi => List.getElem?_append_left hi
    have hlast : a ≠ [] → (a ++ b)[a.length - 1]? = some 46 := fun hne => by
      rcases ha with h | ⟨r, rfl⟩
      · exact absurd h hne
      · rw [List.getElem?_append_left (by simp)]; simp
    have hrest : ∀ i, a.length ≤ i → (a ++ b)[i]? ≠ some 46 := fun i hi he => by
      rw [List.getElem?_append_right hi] at he
      exact hb 46 (List.mem_of_getElem? he) rfl
    unfold st3
    rw [he2, hab]
    rcases f3 with ⟨g, g0⟩ | ⟨i, g, g1, g2, g3⟩
    · rw [g, if_neg (by decide)]
      cases a with
      | nil => rfl
      | cons c r => exact absurd (by rw [hin _ (by simp; omega)]; exact hlast (by simp)) (g0 ((c :: r).length - 1) (by simp; omega))
    · rw [hin i g1] at g2
      have h1 : i < a.length := by
        rcases Nat.lt_or_ge i a.length with q | q
        · exact q
        · exact absurd g2 (hrest i q)
      have h2 : ¬ i < a.length - 1 := fun q => g3 (a.length - 1) q (by simp; omega) (by rw [hin _ (by simp; omega)]; exact hlast (by intro h; simp [h] at h1))
      rw [g, if_pos (by omega)]; omega
  rw [hs3, he2]
  have h1 : a.length ≤ R.length := by rw [hab]; simp
  have h2 : R.length ≤ x.length := by omega
  have e : Txt.slice x (some (a.length : Nat)) (some (R.length : Nat)) = StrLaws.sliceText x (some (a.length : Nat)) (some (R.length : Nat)) := by
    unfold Txt.slice StrLaws.sliceText; rfl
  rw [e, StrLaws.sliceText_nat x h1 h2, hx, hab]
  simp
end Mine

end

section
open PySem PySem.W PyProof.Rows
set_option maxRecDepth 100000
set_option linter.all false
namespace Mine

abbrev OkC (c : Nat) : Prop := c ≠ 58 ∧ c ≠ 10 ∧ c ≠ 46
theorem sgn_ok (k : Nat) : ∀ c ∈ cl (sgn k), OkC c := fun c hc => by
  rcases sgn_cl k with e | ⟨d, e, h1, h2, h3⟩
  · rw [e] at hc; cases hc
  · rw [e] at hc
    obtain rfl := List.mem_singleton.mp hc
    have : c = 46 ∨ c = 95 ∨ c = 43 ∨ c = 45 := by simpa [isSep, or_assoc] using h1
    unfold OkC; omega
theorem dig_ok {c : Nat} (h : isDig c = true) : c ≠ 58 ∧ c ≠ 10 ∧ c ≠ 46 := by
  simp [isDig] at h; omega
theorem part_ok (n : Nat) : ∀ c ∈ cl (partText n), OkC c := by
  have hw : hasW n = true → ∀ c ∈ cl (wrd n), OkC c := fun h => (word_facts (n % 16) (hasW_ge h) (Nat.mod_lt _ (by decide))).2.2.2.2.2.2
  have hn : hasN n = true → ∀ c ∈ cl (numS n), OkC c := fun h c hc => by
    have hk : n / 16 % 14 < 12 := by simpa [hasN] using h
    exact dig_ok ((num_facts (n / 16 / 28 % 3) (n / 16 % 14) (Nat.mod_lt _ (by decide)) hk).2.1 c hc)
  have ht : ∀ t ∈ texts n, ∀ c ∈ cl t, OkC c := by
    have h2 : ∀ t ∈ text2 n, ∀ c ∈ cl t, OkC c := by
      intro t ht
      unfold text2 text1 at ht
      rcases List.mem_append.mp ht with q | q
      · by_cases h : hasW n = true
        · rw [if_pos h] at q; obtain rfl := List.mem_singleton.mp q; exact hw h
        · rw [if_neg h] at q; cases q
      · by_cases h : hasN n = true
        · rw [if_pos h] at q; obtain rfl := List.mem_singleton.mp q; exact hn h
        · rw [if_neg h] at q; cases q
    intro t ht
    unfold texts at ht
    split at ht
    · rcases List.mem_append.mp ht with q | q
      · exact h2 t (List.mem_of_mem_drop q)
      · exact h2 t (List.mem_of_mem_take q)
    · exact h2 t ht
  intro c hc
  unfold partText at hc
  rw [cl_append, cl_append] at hc
  rcases List.mem_append.mp hc with q | q
  · rcases List.mem_append.mp q with q | q
    · exact sgn_ok _ c q
    · cases e : texts n with
      | nil =>
        rw [e] at q
        have : cl (Txt.join (sgn (n / 16 / 336)) []) = [] := rfl
        rw [this] at q; cases q
      | cons x r =>
        rw [e] at q ht
        rw [cl_join] at q
        rcases List.mem_append.mp q with q | q
        · exact ht x (.head _) c q
        · obtain ⟨y, hy, q⟩ := List.mem_flatMap.mp q
          rcases List.mem_append.mp q with q | q
          · exact sgn_ok _ c q
          · exact ht y (.tail _ hy) c q
  · exact sgn_ok _ c q

theorem joinP_ok (ps : List Nat) : ∀ c ∈ cl (joinP ps), c ≠ 58 ∧ c ≠ 10 := by
  intro c hc
  cases ps with
  | nil => rw [joinP_nil] at hc; cases hc
  | cons p ps =>
    rw [joinP_cl] at hc
    rcases List.mem_append.mp hc with q | q
    · have := part_ok p c q; exact ⟨this.1, this.2.1⟩
    · obtain ⟨y, hy, q⟩ := List.mem_flatMap.mp q
      rcases List.mem_cons.mp q with rfl | q
      · decide
      · have := part_ok y c q; exact ⟨this.1, this.2.1⟩
theorem joinP_snoc (ps : List Nat) (p : Nat) : cl (joinP (ps ++ [p])) = (if ps = [] then [] else cl (joinP ps) ++ [46]) ++ cl (partText p) := by
  cases ps with
  | nil => rw [List.nil_append, joinP_cl]; simp
  | cons q ps => rw [List.cons_append, joinP_cl, joinP_cl]; simp

theorem msg_shape (ns : List Nat) (k : Nat) : cl (rowMsg ns k) = [] ∨ ((cl (rowMsg ns k)).head? = some 58 ∧ ∀ c ∈ cl (rowMsg ns k), c ≠ 10) ∨ (cl (rowMsg ns k)).head? = some 10 := by
  have h : ∀ j : Fin 5, cl (messagesL.getD j.val (Str.ofString "")) = [] ∨ ((cl (messagesL.getD j.val (Str.ofString ""))).head? = some 58 ∧ ∀ c ∈ cl (messagesL.getD j.val (Str.ofString "")), c ≠ 10) ∨ (cl (messagesL.getD j.val (Str.ofString ""))).head? = some 10 := by decide +kernel
  exact h ⟨(ns.headD 0 / 3 + k) % 5, Nat.mod_lt _ (by decide)⟩
theorem msg_len (ns : List Nat) (k : Nat) : (rowMsg ns k).length ≤ 10 := by
  have h : ∀ j : Fin 5, (messagesL.getD j.val (Str.ofString "")).length ≤ 10 := by decide +kernel
  exact h ⟨(ns.headD 0 / 3 + k) % 5, Nat.mod_lt _ (by decide)⟩

theorem strip_last (ns : List Nat) (k : Nat) (ps : List Nat) (p : Nat) :
    Txt.slice (joinP (ps ++ [p]) ++ rowMsg ns k) (some (st3 (joinP (ps ++ [p]) ++ rowMsg ns k) : Nat)) (some (en2 (joinP (ps ++ [p]) ++ rowMsg ns k) : Nat)) = partText p := by
  rw [strip_plain (cl_append _ _) (joinP_ok _) (msg_shape ns k) (joinP_snoc ps p) (fun c hc => (part_ok p c hc).2.2) ?_, str_eta]
  by_cases h : ps = []
  · rw [if_pos h]; exact .inl rfl
  · rw [if_neg h]; exact .inr ⟨_, rfl⟩

theorem len_cl (x : Str) : x.length = (cl x).length := by show x.cps.size = x.cps.toList.length; simp
theorem joinP_len (ps : List Nat) : (joinP ps).length ≤ 14 * ps.length := by
  cases ps with
  | nil => rw [joinP_nil]; decide
  | cons p ps =>
    have hp : ∀ l : List Nat, (l.flatMap fun q => 46 :: cl (partText q)).length ≤ 14 * l.length := by
      intro l
      induction l with
      | nil => simp
      | cons a l ih =>
        have := partText_len a
        rw [len_cl] at this
        rw [List.flatMap_cons, List.length_append, List.length_cons, List.length_cons]; omega
    have h0 := partText_len p
    have h1 := hp ps
    rw [len_cl] at h0 ⊢
    rw [joinP_cl, List.length_append, List.length_cons]; omega
theorem cut_init (ps : List Nat) (p : Nat) : Txt.slice (joinP (ps ++ [p])) none (some (max 0 (((joinP (ps ++ [p])).length : Int) - ((partText p).length : Int) - 1))) = joinP ps := by
  have e : ∀ x : Str, ∀ j : Int, Txt.slice x none (some j) = StrLaws.sliceText x none (some j) := fun x j => by unfold Txt.slice StrLaws.sliceText; rfl
  have hl : (joinP (ps ++ [p])).length = (if ps = [] then [] else cl (joinP ps) ++ [46]).length + (partText p).length := by
    rw [len_cl, joinP_snoc, List.length_append, len_cl]
  rw [e]
  by_cases h : ps = []
  · subst h
    rw [hl, if_pos rfl, StrLaws.sliceText_to ⟨by omega, by simp; omega⟩]
    have : (max 0 ((([] : List Nat).length + (partText p).length : Nat) - ((partText p).length : Int) - 1) - 0).toNat = 0 := by simp; omega
    rw [this]
    rw [joinP_nil]; simp; rfl
  · rw [if_neg h] at hl
    have h1 := len_cl (joinP ps)
    have h2 := len_cl (joinP (ps ++ [p]))
    simp only [List.length_append, List.length_cons, List.length_nil] at hl
    rw [StrLaws.sliceText_to ⟨by omega, by show _ ≤ ((cl (joinP (ps ++ [p]))).length : Int); omega⟩]
    have h3 : (max 0 (((joinP (ps ++ [p])).length : Int) - ((partText p).length : Int) - 1) - 0).toNat = (cl (joinP ps)).length := by omega
    rw [h3]
    show Str.mk (((cl (joinP (ps ++ [p]))).drop 0).take (cl (joinP ps)).length).toArray = _
    rw [joinP_snoc, if_neg h, List.drop_zero, List.append_assoc, List.take_left, str_eta]
end Mine

end

section
open PySem PySem.W PyProof.Rows
set_option maxRecDepth 100000
set_option linter.all false
namespace Mine

abbrev mny (ns : List Nat) : Nat := manyOf (ns.headD 0)
theorem mny_bound (ns : List Nat) : 2 ≤ mny ns ∧ mny ns ≤ 4 := by unfold mny manyOf; omega
theorem rowParts_le (ns : List Nat) (k : Nat) : (rowParts ns k).length ≤ mny ns := by unfold rowParts; rw [List.length_take]; exact Nat.min_le_left _ _
theorem rowParts_len {ns : List Nat} {k : Nat} (h : k < rowsN ns) : (rowParts ns k).length = mny ns := by
  unfold rowParts
  rw [List.length_take, List.length_drop]
  have hm := (mny_bound ns).1
  have h1 : (k + 1) * mny ns ≤ rowsN ns * mny ns := Nat.mul_le_mul_right _ h
  have h2 : rowsN ns * mny ns ≤ (partsN ns).length := Nat.div_mul_le_self _ _
  have h3 : (k + 1) * mny ns = k * mny ns + mny ns := Nat.succ_mul _ _
  show min (mny ns) ((partsN ns).length - k * mny ns) = mny ns
  omega
theorem rowsN_le {ns : List Nat} (h : ns.length ≤ 13) : rowsN ns ≤ 10 := by
  unfold rowsN
  have hl : (partsN ns).length ≤ 20 := by simp [partsN, extraL]; omega
  have hm := (mny_bound ns).1
  have h1 : (partsN ns).length / manyOf (ns.headD 0) ≤ (partsN ns).length / 2 := Nat.div_le_div_left hm (by decide)
  omega

abbrev lexP : List (List Nat) → List (List Nat) → Bool := lexB lexN
theorem linP : Lin lexP := linN.lex.lex
def pcodes (ps : List Nat) : List (List Nat) := ps.map fun p => codes (runs p)
def ltAt (ns : List Nat) (i a b : Nat) : Bool := lexP (pcodes ((rowParts ns a).drop (mny ns - i))) (pcodes ((rowParts ns b).drop (mny ns - i)))
theorem wkAt (ns : List Nat) (i : Nat) : Wk (ltAt ns i) := linP.wk fun a => pcodes ((rowParts ns a).drop (mny ns - i))
structure Arr (ns : List Nat) (i : Nat) (τ : List Nat) : Prop where
  perm : τ.Perm (List.range (rowsN ns))
  pw : τ.Pairwise (Rr (ltAt ns i))
theorem Arr.lt {ns : List Nat} {i : Nat} {τ : List Nat} (h : Arr ns i τ) {a : Nat} (ha : a ∈ τ) : a < rowsN ns := by simpa using h.perm.mem_iff.mp ha
theorem Arr.len {ns : List Nat} {i : Nat} {τ : List Nat} (h : Arr ns i τ) : τ.length = rowsN ns := by simpa using h.perm.length_eq
theorem arr0 (ns : List Nat) : Arr ns 0 (List.range (rowsN ns)) := by
  refine ⟨.refl _, List.pairwise_lt_range.imp fun {a b} h => .inl ⟨h, ?_⟩⟩
  unfold ltAt
  rw [Nat.sub_zero, List.drop_eq_nil_of_le (rowParts_le ns b), List.drop_eq_nil_of_le (rowParts_le ns a)]
  rfl
def partAt (ns : List Nat) (i a : Nat) : Nat := (rowParts ns a).getD (mny ns - 1 - i) 0
def keyAt (ns : List Nat) (i a : Nat) : PyData := .list (keyC (runs (partAt ns i a)))
theorem keyAt_lt (ns : List Nat) (i a b : Nat) : plt (keyAt ns i a) (keyAt ns i b) = lexN (codes (runs (partAt ns i a))) (codes (runs (partAt ns i b))) ∧ pok (keyAt ns i a) (keyAt ns i b) = true := by
  have := keyC_lt (runs (partAt ns i a)) (runs (partAt ns i b)) (runs_ok _) (runs_ok _)
  unfold keyAt
  simp only [plt, pok]
  exact this
theorem drop_part {ns : List Nat} {i a : Nat} (ha : a < rowsN ns) (hi : i < mny ns) : (rowParts ns a).drop (mny ns - (i + 1)) = partAt ns i a :: (rowParts ns a).drop (mny ns - i) := by
  have hl := rowParts_len ha
  have e1 : mny ns - (i + 1) = mny ns - 1 - i := by omega
  have e2 : mny ns - i = mny ns - 1 - i + 1 := by omega
  rw [e1, e2, List.drop_eq_getElem_cons (by omega)]
  unfold partAt
  rw [List.getD_eq_getElem?_getD, List.getElem?_eq_getElem (by omega)]; rfl
theorem ltAt_succ {ns : List Nat} {i a b : Nat} (ha : a < rowsN ns) (hb : b < rowsN ns) (hi : i < mny ns) :
    ltAt ns (i + 1) a b = if codes (runs (partAt ns i a)) = codes (runs (partAt ns i b)) then ltAt ns i a b else lexN (codes (runs (partAt ns i a))) (codes (runs (partAt ns i b))) := by
  unfold ltAt
  rw [drop_part ha hi, drop_part hb hi]
  unfold pcodes
  rw [List.map_cons, List.map_cons]
  show lexB lexN _ _ = _
  rw [lexB]
theorem Arr.step {ns : List Nat} {i : Nat} {τ σ : List Nat} (h : Arr ns i τ) (hi : i < mny ns) (hp : σ.Perm (List.range τ.length))
    (hσ : σ.Pairwise (Rr fun j k => plt (keyAt ns i (τ.getD j 0)) (keyAt ns i (τ.getD k 0)))) : Arr ns (i + 1) (σ.map fun j => τ.getD j 0) := by
  have hn : τ.Nodup := h.perm.nodup_iff.mpr List.nodup_range
  obtain ⟨r1, r2⟩ := radix_step (lt' := ltAt ns (i + 1)) (cmp := fun a b => plt (keyAt ns i a) (keyAt ns i b)) (wkAt ns (i + 1)) h.pw hn hσ hp
    (fun a ha b hb hc => by
      rw [(keyAt_lt ns i a b).1] at hc
      rw [ltAt_succ (h.lt ha) (h.lt hb) hi]
      split
      · rename_i q; rw [q] at hc; rw [show lexN (codes (runs (partAt ns i b))) (codes (runs (partAt ns i b))) = false from linN.lex.irr _] at hc; cases hc
      · exact hc)
    (fun a ha b hb hc hd => by
      rw [(keyAt_lt ns i a b).1] at hc
      rw [(keyAt_lt ns i b a).1] at hd
      have e := linN.lex.tri _ _ hc hd
      rw [ltAt_succ (h.lt ha) (h.lt hb) hi, ltAt_succ (h.lt hb) (h.lt ha) hi, if_pos e, if_pos e.symm]
      exact ⟨rfl, rfl⟩)
  exact ⟨r2.trans h.perm, r1⟩

def keyLast (ns : List Nat) (k : Nat) : PyData := .list ((rowParts ns k).map runsDat)
theorem keyLast_eq (ns : List Nat) (k : Nat) : keyLast ns k = .list (keyP ((rowParts ns k).map runs)) := by
  unfold keyLast keyP; rw [List.map_map]; rfl
theorem parts_ok (ps : List Nat) : ∀ rs ∈ ps.map runs, Ok rs := fun rs h => by obtain ⟨p, _, rfl⟩ := List.mem_map.mp h; exact runs_ok p
theorem keyLast_lt (ns : List Nat) (a b : Nat) : plt (keyLast ns a) (keyLast ns b) = ltAt ns (mny ns) a b ∧ pok (keyLast ns a) (keyLast ns b) = true := by
  have := keyP_lt ((rowParts ns a).map runs) ((rowParts ns b).map runs) (parts_ok _) (parts_ok _)
  rw [keyLast_eq, keyLast_eq]
  simp only [plt, pok]
  refine ⟨?_, this.2⟩
  rw [this.1]
  unfold ltAt pcodes
  rw [Nat.sub_self, List.drop_zero, List.drop_zero, List.map_map, List.map_map]; rfl
theorem Arr.last {ns : List Nat} {τ σ : List Nat} (h : Arr ns (mny ns) τ) (hp : σ.Perm (List.range (rowsN ns))) (hσ : σ.Pairwise (Rr fun j k => plt (keyLast ns j) (keyLast ns k))) : τ = σ := by
  have e : (fun j k => plt (keyLast ns j) (keyLast ns k)) = ltAt ns (mny ns) := by funext j k; exact (keyLast_lt ns j k).1
  rw [e] at hσ
  exact sort_unique (wkAt ns (mny ns)) (h.perm.trans hp.symm) h.pw hσ

/-- the two sorts of the first check -/
def flatR (ns : List Nat) (k : Nat) : List Run := (rowParts ns k).flatMap runs
def keyText (ns : List Nat) (k : Nat) : PyData := .list (keyC (flatR ns k))
def keyFlat (ns : List Nat) (k : Nat) : PyData := .list (keyR (flatR ns k))
theorem flat_ok (ns : List Nat) (k : Nat) : Ok (flatR ns k) := fun r h => by obtain ⟨p, _, hr⟩ := List.mem_flatMap.mp h; exact runs_ok p r hr
def ltFlat (ns : List Nat) (a b : Nat) : Bool := lexN (codes (flatR ns a)) (codes (flatR ns b))
theorem wkFlat (ns : List Nat) : Wk (ltFlat ns) := linN.lex.wk fun a => codes (flatR ns a)
theorem keyText_lt (ns : List Nat) (a b : Nat) : plt (keyText ns a) (keyText ns b) = ltFlat ns a b ∧ pok (keyText ns a) (keyText ns b) = true := by
  unfold keyText; simp only [plt, pok]; exact keyC_lt _ _ (flat_ok ns a) (flat_ok ns b)
theorem keyFlat_lt (ns : List Nat) (a b : Nat) : plt (keyFlat ns a) (keyFlat ns b) = ltFlat ns a b ∧ pok (keyFlat ns a) (keyFlat ns b) = true := by
  unfold keyFlat; simp only [plt, pok]
  have := keyR_lt _ _ (flat_ok ns a) (flat_ok ns b)
  exact ⟨this.1, this.2.1⟩
theorem told_same {ns : List Nat} {N : Nat} {σ τ : List Nat} (hp : σ.Perm (List.range N)) (kp : τ.Perm (List.range N)) (hσ : σ.Pairwise (Rr fun j k => plt (keyText ns j) (keyText ns k))) (hτ : τ.Pairwise (Rr fun j k => plt (keyFlat ns j) (keyFlat ns k))) : σ = τ := by
  have e1 : (fun j k => plt (keyText ns j) (keyText ns k)) = ltFlat ns := by funext j k; exact (keyText_lt ns j k).1
  have e2 : (fun j k => plt (keyFlat ns j) (keyFlat ns k)) = ltFlat ns := by funext j k; exact (keyFlat_lt ns j k).1
  rw [e1] at hσ; rw [e2] at hτ
  exact sort_unique (wkFlat ns) (hp.trans kp.symm) hσ hτ
theorem wk_text (ns : List Nat) : Wk fun i j => plt (keyText ns i) (keyText ns j) := by
  have : (fun i j => plt (keyText ns i) (keyText ns j)) = ltFlat ns := by funext i j; exact (keyText_lt ns i j).1
  rw [this]; exact wkFlat ns
theorem wk_flat (ns : List Nat) : Wk fun i j => plt (keyFlat ns i) (keyFlat ns j) := by
  have : (fun i j => plt (keyFlat ns i) (keyFlat ns j)) = ltFlat ns := by funext i j; exact (keyFlat_lt ns i j).1
  rw [this]; exact wkFlat ns
theorem wk_last (ns : List Nat) : Wk fun i j => plt (keyLast ns i) (keyLast ns j) := by
  have : (fun i j => plt (keyLast ns i) (keyLast ns j)) = ltAt ns (mny ns) := by funext i j; exact (keyLast_lt ns i j).1
  rw [this]; exact wkAt ns _
theorem wk_at (ns : List Nat) (i : Nat) (τ : List Nat) : Wk fun j k => plt (keyAt ns i (τ.getD j 0)) (keyAt ns i (τ.getD k 0)) := by
  have : (fun j k => plt (keyAt ns i (τ.getD j 0)) (keyAt ns i (τ.getD k 0))) = fun j k => lexN (codes (runs (partAt ns i (τ.getD j 0)))) (codes (runs (partAt ns i (τ.getD k 0)))) := by funext j k; exact (keyAt_lt ns i _ _).1
  rw [this]; exact linN.lex.wk fun j => codes (runs (partAt ns i (τ.getD j 0)))
theorem lay_text (ns : List Nat) (k : Nat) : (keyText ns k).canLay0 = true ∧ (keyText ns k).depth ≤ 64 := keyC_lay (flat_ok ns k)
theorem lay_at (ns : List Nat) (i k : Nat) : (keyAt ns i k).canLay0 = true ∧ (keyAt ns i k).depth ≤ 64 := keyC_lay (runs_ok _)
theorem lay_flat (ns : List Nat) (k : Nat) : (keyFlat ns k).canLay0 = true ∧ (keyFlat ns k).depth ≤ 64 := ⟨(keyR_lay (flat_ok ns k)).1, Nat.le_trans (keyR_lay (flat_ok ns k)).2 (by decide)⟩
theorem lay_last (ns : List Nat) (k : Nat) : (keyLast ns k).canLay0 = true ∧ (keyLast ns k).depth ≤ 64 := by rw [keyLast_eq]; exact keyP_lay (parts_ok _)

/-- the law's lists -/
def restAt (ns : List Nat) (i a : Nat) : Str := joinP ((rowParts ns a).take (mny ns - i))
def leftD (ns : List Nat) (i : Nat) (τ : List Nat) : List PyData := τ.map fun a => .tuple [rowDat ns a, .str (restAt ns i a)]
def cutD (ns : List Nat) (i : Nat) (τ : List Nat) : List PyData := τ.map fun a => .tuple [rowDat ns a, .str (restAt ns i a), .str (partText (partAt ns i a))]
def rowsD (ns : List Nat) : List PyData := (List.range (rowsN ns)).map (rowDat ns)
theorem rest0 (ns : List Nat) (a : Nat) : restAt ns 0 a = rowText ns a := by
  unfold restAt; rw [Nat.sub_zero, List.take_of_length_le (rowParts_le ns a)]; rfl
theorem restN (ns : List Nat) (a : Nat) : restAt ns (mny ns) a = Str.ofString "" := by
  unfold restAt; rw [Nat.sub_self, List.take_zero]; rfl
theorem rest_split {ns : List Nat} {i a : Nat} (ha : a < rowsN ns) (hi : i < mny ns) : (rowParts ns a).take (mny ns - i) = (rowParts ns a).take (mny ns - (i + 1)) ++ [partAt ns i a] := by
  have hl := rowParts_len ha
  have e2 : mny ns - i = mny ns - 1 - i + 1 := by omega
  have e1 : mny ns - (i + 1) = mny ns - 1 - i := by omega
  rw [e1, e2, List.take_succ_eq_append_getElem (by omega)]
  unfold partAt
  rw [List.getD_eq_getElem?_getD, List.getElem?_eq_getElem (by omega)]; rfl
theorem rest_strip {ns : List Nat} {i a : Nat} (ha : a < rowsN ns) (hi : i < mny ns) :
    Txt.slice (restAt ns i a ++ rowMsg ns a) (some (st3 (restAt ns i a ++ rowMsg ns a) : Nat)) (some (en2 (restAt ns i a ++ rowMsg ns a) : Nat)) = partText (partAt ns i a) := by
  unfold restAt; rw [rest_split ha hi]; exact strip_last ns a _ _
theorem rest_cut {ns : List Nat} {i a : Nat} (ha : a < rowsN ns) (hi : i < mny ns) :
    Txt.slice (restAt ns i a) none (some (max 0 (((restAt ns i a).length : Int) - ((partText (partAt ns i a)).length : Int) - 1))) = restAt ns (i + 1) a := by
  unfold restAt; rw [rest_split ha hi]; exact cut_init _ _
theorem rest_len (ns : List Nat) (i a : Nat) : (restAt ns i a).length ≤ 56 := by
  have := joinP_len ((rowParts ns a).take (mny ns - i))
  have h1 : ((rowParts ns a).take (mny ns - i)).length ≤ 4 := by
    rw [List.length_take]
    have := rowParts_le ns a
    have := (mny_bound ns).2
    omega
  unfold restAt; omega
theorem cut_sorted (ns : List Nat) (i : Nat) (τ σ : List Nat) (h : ∀ j ∈ σ, j < τ.length) : (σ.map fun j => (cutD ns i τ).getD j .none) = cutD ns i (σ.map fun j => τ.getD j 0) := by
  unfold cutD
  rw [List.map_map]
  refine List.map_congr_left fun j hj => ?_
  have := h j hj
  simp only [Function.comp]
  rw [List.getD_eq_getElem?_getD, List.getElem?_map, List.getElem?_eq_getElem this, List.getD_eq_getElem?_getD, List.getElem?_eq_getElem this]; rfl
theorem rows_sorted (ns : List Nat) (σ : List Nat) (h : ∀ j ∈ σ, j < rowsN ns) : (σ.map fun j => (rowsD ns).getD j .none) = σ.map (rowDat ns) := by
  refine List.map_congr_left fun j hj => ?_
  have := h j hj
  unfold rowsD
  rw [List.getD_eq_getElem?_getD, List.getElem?_map, List.getElem?_range this]; rfl
theorem text_cps (ns : List Nat) (k : Nat) : ∃ outs, SplitsTo (rowText ns k).cps.toList outs ∧ Pcs outs (keyC (flatR ns k)) := join_pcs (rowParts ns k)
theorem part_cps (p : Nat) : ∃ outs, SplitsTo (partText p).cps.toList outs ∧ Pcs outs (keyC (runs p)) := by
  have := join_pcs [p]
  have e : cl (joinP [p]) = cl (partText p) := by rw [joinP_cl]; simp
  rw [e] at this
  simpa using this
theorem text_len (ns : List Nat) (k : Nat) : (rowText ns k).length ≤ 56 := by rw [← rest0]; exact rest_len ns 0 k
end Mine

end

section
open PySem PySem.W PyProof.Rows PySem.SeqAt
set_option maxRecDepth 100000
set_option linter.all false
namespace Mine

theorem comp_first (e : Expr) (scope : Scope) (env : Env) (pos : Pos) (newAcc first : Sem Value) :
    comprehension e scope env pos newAcc false first = first >>= fun x => comprehension e scope env pos newAcc false (pure x) := by
  rfl

section
variable {K : Kp} {M : Model} {A : Around} {E : Value → Shared → Prop} {s : Shared} {env : Env}
theorem wpR_IfR {test : Expr} {body orelse : List Stmt} {pos : Pos} {Q : Flow → Shared → Prop}
    (h : wpR K M A (isTrue test env (eval test env)) (fun b s₂ => if b then wpR K M A (execs body env) Q E s₂ else wpR K M A (execs orelse env) Q E s₂) E s) :
    wpR K M A (exec (.If test body orelse pos) env) Q E s := by
  rw [exec_If]
  refine wpR_bind (wpR_standAt (wpR_bind (wpR_mono h (fun b s₂ h₂ => ?_) fun _ _ x => x)))
  cases b <;> exact h₂
theorem wpR_isTrue_Compare1 {l r : Expr} {op : CmpOp} {pos : Pos} {whole : Sem Value} {Q : Bool → Shared → Prop}
    (h : wpAny M A (eval l env) (fun a s₁ => wpR K M A (eval r env) (fun b s₂ => wpAny M A (compareOp op a b) (fun c s₃ => wpAny M A (truthy c) Q E s₃) E s₂) E s₁) E s)
    (hm : behindInMarks op r = false := by with_unfolding_all rfl) :
    wpR K M A (isTrue (.Compare l [op] [r] pos) env whole) Q E s := fun Γ p hΓ hc => by
  simp only [isTrue_Compare1, markedBehindIn_of_false hm, Sem.wp_bind', Sem.wp_holding, Sem.wp_cmd_standAt, Sem.wp_operate]
  exact Sem.wp_mono M Γ _ (fun a p₁ s₁ h₁ => Sem.wp_mono M Γ _ (fun b _ s₂ h₂ => Sem.wp_mono M Γ _ (fun c p₃ s₃ h₃ => h₃ Γ p₃ hΓ) (fun _ _ _ h' => h') _ _ (h₂ Γ _ hΓ)) (fun _ _ _ h' => h') _ _ (h₁ Γ p₁ hΓ (K.at' hc)))
    (fun _ _ _ h' => h') _ _ (h Γ p hΓ)
end

section
variable {C : Cx} {sc : Scope} {m : Str → Option Value} {own : Own} {Bb : Fz}
theorem ev_ifExp {test body orelse : Expr} {pos : Pos} {P : Value → Fz → Prop} {b : Bool} (ht : Et C m own Bb test b) (h : Ev C m own Bb (if b then body else orelse) P) : Ev C m own Bb (.IfExp test body orelse pos) P :=
  Ev.mk fun E B s hb H Q k => wpAny_IfExp (ht.out E B s hb H _ fun B' s' hle H' => by
    have := h.out E B' s' (hb.trans hle) H' Q fun v B2 s2 hle2 H2 p => k v B2 s2 (hle.trans hle2) H2 p
    cases b <;> exact this)
theorem et_neD {l r : Expr} {pos : Pos} {d1 d2 : PyData} (h1 : Ev C m own Bb l (Rd d1)) (h2 : Ev C m own Bb r (Rd d2)) (s1 : shaped d1 = true) (s2 : shaped d2 = true) (hu : C.A.units + 64 < cLine) (hm : behindInMarks .NotEq r = false := by with_unfolding_all rfl) :
    Et C m own Bb (.Compare l [.NotEq] [r] pos) (!PyData.eqv d1 d2) :=
  et_cmp h1 h2 rd_mo (fun v1 v2 E B s _ H p1 p2 Q k => by
    obtain ⟨as, r1⟩ := p1.reads H.bin
    obtain ⟨bs, r2⟩ := p2.reads H.bin
    exact ne_dataH r1 r2 s1 s2 hu (k B _ .rfl H)) hm
theorem ev_max0 {f : Str} {fp pos p0 : Pos} {k0 : Nat} {e : Expr} {j : Int} (hf : Ev C m own Bb (.Name f fp) (fun u _ => u = .builtin "max")) (he : Ev C m own Bb e (Rd (.int j))) (hh : C.A.handled = none)
    (hst : ∀ r env, starEach (e :: r) env = (false, eval e env) :: starEach r env := by intro _ _; rfl)
    (hplain : (backTo pos (starEach [.Constant (.int 0) k0 p0, e] C.env)).any (·.1) = false := by rfl) (he' : starEach [.Constant (.int 0) k0 p0, e] C.env = (false, eval (.Constant (.int 0) k0 p0) C.env) :: starEach [e] C.env := by rfl) :
    Ev C m own Bb (.Call (.Name f fp) [.Constant (.int 0) k0 p0, e] [] pos) (Rd (.int (max 0 j))) :=
  ev_callB hf (.cons ev_int (.cons he .nil hst) (fun _ _ => rfl)) (fun vs E B s _ H p Q k => by
    cases p with
    | cons p1 p2 =>
      cases p2 with
      | cons p2 p3 =>
        cases p3
        obtain ⟨t, rfl⟩ := p1.int_inv
        obtain ⟨u, rfl⟩ := p2.int_inv
        refine PySem.max_two_ints hh fun h' tk hk => ?_
        refine k _ B _ .rfl (H.keeps hk) ?_
        by_cases q : j > 0
        · rw [if_pos q, show max 0 j = j by omega]; exact .int _ _
        · rw [if_neg q, show max 0 j = 0 by omega]; exact .int _ _) hplain he'
/-- a call of a def whose contract is of any stack -/
theorem ev_fnAny {f : Str} {fp pos : Pos} {a c : Addr} {i : Nat} {name : Str} {e : Expr} {es : List Expr} {ds : List PyData} {P : Value → Fz → Prop} (S : Sc C sc) (G : GB Bb) (hx : (f, Value.ref a) ∈ gNames) (hfn : ∀ h, GlobH h → FnAt h a c i name) (ha : Evs C m own Bb (e :: es) ds)
    (hc : ∀ vs B s, Bb.le B → Fs C m own B s → RpAll B vs ds → GivesR .any C.prog C.w C.A (C.env.locals :: C.F) (.ref a) vs P B s)
    (he : starEach (e :: es) C.env = (false, eval e C.env) :: starEach es C.env := by rfl) (hpl : (backTo pos (starEach (e :: es) C.env)).any (·.1) = false := by rfl) (hlen : (starEach (e :: es) C.env).length ≤ 30 := by decide)
    (hl : sc.names.lookup f = some .globalImplicit := by rfl) (hd : (f == ("__debug__" : Str)) = false := by decide) : Ev C m own Bb (.Call (.Name f fp) (e :: es) [] pos) P :=
  Ev.mk fun E B s hb H Q k => wpAny_of (evR_fn (K := .any) S G hx hfn ha hc he hpl hlen hl hd hb H k)
end

section
variable {C : Cx} {sc : Scope} {l : List (Str × Value)} {own : Own} {B : Fz} {s : Shared} {E : Value → Shared → Prop} {Q : Flow → Shared → Prop} {rest : List Stmt}
theorem st_assign2 {x y : Str} {px py tp pos : Pos} {kt : Nat} {e : Expr} {d1 d2 : PyData} (S : Sc C sc) (hh : C.A.handled = none) (H : Fs C (lk l) own B s) (he : Ev C (lk l) own B e (Rd (.tuple [d1, d2])))
    (k : ∀ v1 v2 B' s', B.le B' → Fs C (lk ((y, v2) :: (x, v1) :: l)) own B' s' → Rp B' v1 d1 → Rp B' v2 d2 → Wx C rest Q E s')
    (hs : swapsWithSole [.Tuple [.Name x px, .Name y py] kt tp] e pos.line C.env = pure false := by rfl)
    (hw : swappedStores [.Tuple [.Name x px, .Name y py] kt tp] e C.env = pure none := by rfl)
    (hl1 : sc.names.lookup x = some .local := by rfl) (hl2 : sc.names.lookup y = some .local := by rfl) :
    Wx C (.Assign [.Tuple [.Name x px, .Name y py] kt tp] e pos :: rest) Q E s := by
  refine st_cons (Assign_Tuple (he.out E B s .rfl H _ fun v B' s' hle H' hi => ?_) hs hw)
  obtain ⟨a, vs, rfl, ht, hr⟩ := rp_tup hi H'.bin
  cases hr with
  | cons r1 r2 =>
    cases r2 with
    | cons r2 r3 =>
      cases r3
      rename_i v1 v2
      rw [arm_assign_Tuple]
      refine wpAny_bind (wpAny_standAt ?_)
      unfold unpack
      refine wpAny_bind (wpAny_holding (unpackN hh ht rfl fun h' hx => ?_))
      refine bind1 S (H'.keeps (tk := s'.toks) hx) (fun s3 H3 => ?_) hl1
      refine bind1 S H3 (fun s4 H4 => ?_) hl2
      unfold assignInOrder
      exact wpAny_pure ⟨rfl, k v1 v2 B' s4 hle H4 r1 r2⟩
end

section
variable {K : Kp} {C : Cx} {sc : Scope} {m : Str → Option Value} {pre : Own} {Bb : Fz} {qual : Str}
theorem evL_comp {elt target iter : Expr} {scope : Scope} {pos : Pos} {P0 P : Value → Fz → Prop} (h1 : EvL K C m pre Bb qual iter P0) (hh : C.A.handled = none)
    (h2 : ∀ v B, Bb.le B → P0 v B → ∃ ds es : List PyData, Rp B v (.list ds) ∧ es.length = ds.length ∧ ds.length ≤ 100000 ∧ (∀ u B', B.le B' → Rp B' u (.list es) → P u B') ∧
      ∀ (B' : Fz) (s : Shared) (D : Addr) (i : Nat) (d e : PyData), ds[i]? = some d → es[i]? = some e → B.le B' → Turn (compCx C B' s D scope) B' target elt (Rd d) (Rd e))
    (hfree : ∀ y ∈ scope.names, y.2 ≠ .free := by decide) (hcell : ∀ y ∈ scope.names, y.2 ≠ .cell := by decide) (hkind : scope.kind = .function := by rfl)
    (hnames : ∀ y ∈ scope.names, y.2 = .local → scope.names.lookup y.1 = some .local := by decide) (hs : ∀ x, foldedSetIterable iter C.env x = pure x := by intro _; rfl) :
    EvL K C m pre Bb qual (.ListComp elt [⟨target, iter, [], 0⟩] scope pos) P := ⟨fun E B s ps hb H T Q k => by
  rw [eval_ListComp]
  show wpR K (model C.prog C.w) C.A (comprehension (.ListComp elt [⟨target, iter, [], 0⟩] scope pos) scope C.env (firstIterPos [⟨target, iter, [], 0⟩] pos) (newList []) false (eval iter C.env)) Q E s
  rw [comp_first]
  refine wpR_bind (wpR_mono (h1.out E B s ps hb H T _ fun v B1 s1 ps1 hle1 H1 T1 hv => (show wpAny (model C.prog C.w) C.A (comprehension (.ListComp elt [⟨target, iter, [], 0⟩] scope pos) scope C.env (firstIterPos [⟨target, iter, [], 0⟩] pos) (newList []) false (pure v)) Q E s1 from ?_)) (fun _ _ h => wpR_any h) fun _ _ x => x)
  obtain ⟨ds, es, hd, hlen, hsz, hP, turn⟩ := h2 v B1 (hb.trans hle1) hv
  refine wpAny_comprehension rfl hs hfree hkind hnames (wpAny_pure ?_)
  refine comp_block (N := ds.length) (It := ItD ds) (Pr := ItD es) ItD.mo ItD.mo hh H1 (Ls.of_rp hd) hsz (fun D i hi => turnD hlen hi fun d e hd he => turn B1 s1 D i d e hd he .rfl) hcell hkind
    (RR := fun acc cenv r s' => ∃ m, s'.heap.Ns cenv.locals m ∧ ∀ h', Heap.SameBut cenv.locals s'.heap h' →
            match r with | .ok _ => Q acc { s' with heap := h' } | .error x => wpAny (model C.prog C.w) C.A (passOn "comprehension.variables-let-go" x cenv) Q E { s' with heap := h' })
    fun D c l B2 s2 ys hle2 HF hy hPr => ?_
  obtain ⟨o, ⟨n, rfl⟩, hBD, HF'⟩ := HF.freeze
  refine ⟨_, HF.ns, fun h' hs' => ?_⟩
  have G := HF'.leave hs'
  have H2 := H1.call (F' := []) (by simp) G
  have hle3 := hle2.trans (Fz.le_set (o := { cls := .type "list", data := .seq ys n }) hBD)
  have hres : Rp (B2.set D { cls := .type "list", data := .seq ys n }) (.ref D) (.list es) := Ls.rp ⟨D, _, ys, n, rfl, Fz.set_self, rfl, rfl, by omega, fun i y h => ItD.mo i y _ _ (Fz.le_set hBD) (hPr i y h)⟩
  exact k _ _ _ ps1 (hle1.trans hle3) H2 (T1.le hle3) (hP _ _ hle3 hres)⟩

theorem wrL_ifNe {l : List (Str × Value)} {B : Fz} {s : Shared} {E : Value → Shared → Prop} {Q : Flow → Shared → Prop} {rest : List Stmt} {ps : Array Value} {le re : Expr} {body : List Stmt} {pos cp : Pos} {P : Value → Fz → Prop} {d : PyData} (H : Fs C (lk l) (tabOwn pre ps) B s) (T : TabOk B qual ps)
    (hl : Ev C (lk l) (tabOwn pre ps) B le (Rd d)) (hr : EvL K C (lk l) pre B qual re P) (hP : ∀ v B', B.le B' → P v B' → Rp B' v d) (hd : shaped d = true) (he : PyData.eqv d d = true) (hu : C.A.units + 64 < cLine)
    (k : ∀ B' s' ps', B.le B' → Fs C (lk l) (tabOwn pre ps') B' s' → TabOk B' qual ps' → Wr K C rest Q E s') (hm : behindInMarks .NotEq re = false := by with_unfolding_all rfl) :
    Wr K C (.If (.Compare le [.NotEq] [re] cp) body [] pos :: rest) Q E s := by
  refine Wr.cons (wpR_IfR (wpR_isTrue_Compare1 (hl.out E B s .rfl H _ fun v1 B1 s1 hle1 H1 p1 => hr.out E B1 s1 ps hle1 H1 (T.le hle1) _ fun v2 B2 s2 ps2 hle2 H2 T2 p2 => ?_) hm))
  obtain ⟨as, r1⟩ := (p1.mono hle2).reads H2.bin
  obtain ⟨bs, r2⟩ := (hP _ _ (hle1.trans hle2) p2).reads H2.bin
  refine ne_dataH r1 r2 hd hd hu ?_
  rw [he]
  refine wpAny_truthy_bool ?_
  exact wpR_execs_nil ⟨rfl, k B2 _ ps2 (hle1.trans hle2) H2 T2⟩
end
end Mine

end

section
open PySem PySem.W PyProof.Rows PySem.SeqAt
set_option maxRecDepth 100000
set_option linter.all false
namespace Mine

theorem sgn_lt (k : Nat) : ∀ c ∈ cl (sgn k), c < 0x110000 := by
  have h : ∀ k : Fin 4, (cl (signsL.getD k.val (Str.ofString ""))).all (fun c => decide (c < 0x110000)) = true := by decide +kernel
  intro c hc
  simpa using List.all_eq_true.mp (h ⟨k % 4, Nat.mod_lt _ (by decide)⟩) c hc
theorem wrd_lt (n : Nat) : ∀ c ∈ cl (wrd n), c < 0x110000 := by
  have h : ∀ k : Fin 16, (cl (wordsL.getD k.val (Str.ofString ""))).all (fun c => decide (c < 0x110000)) = true := by decide +kernel
  intro c hc
  simpa using List.all_eq_true.mp (h ⟨n % 16, Nat.mod_lt _ (by decide)⟩) c hc
theorem numS_lt {n : Nat} (hn : hasN n = true) : ∀ c ∈ cl (numS n), c < 0x110000 := fun c hc => by
  have hk : n / 16 % 14 < 12 := by simpa [hasN] using hn
  have := (num_facts (n / 16 / 28 % 3) (n / 16 % 14) (Nat.mod_lt _ (by decide)) hk).2.1 c hc
  simp [isDig] at this; omega
theorem part_lt (n : Nat) : ∀ c ∈ cl (partText n), c < 0x110000 := by
  have ht : ∀ t ∈ texts n, ∀ c ∈ cl t, c < 0x110000 := by
    have h2 : ∀ t ∈ text2 n, ∀ c ∈ cl t, c < 0x110000 := by
      intro t ht
      unfold text2 text1 at ht
      rcases List.mem_append.mp ht with q | q
      · by_cases h : hasW n = true
        · rw [if_pos h] at q; obtain rfl := List.mem_singleton.mp q; exact wrd_lt n
        · rw [if_neg h] at q; cases q
      · by_cases h : hasN n = true
        · rw [if_pos h] at q; obtain rfl := List.mem_singleton.mp q; exact numS_lt h
        · rw [if_neg h] at q; cases q
    intro t ht
    unfold texts at ht
    split at ht
    · rcases List.mem_append.mp ht with q | q
      · exact h2 t (List.mem_of_mem_drop q)
      · exact h2 t (List.mem_of_mem_take q)
    · exact h2 t ht
  intro c hc
  unfold partText at hc
  rw [cl_append, cl_append] at hc
  rcases List.mem_append.mp hc with q | q
  · rcases List.mem_append.mp q with q | q
    · exact sgn_lt _ c q
    · cases e : texts n with
      | nil =>
        rw [e] at q
        have : cl (Txt.join (sgn (n / 16 / 336)) []) = [] := rfl
        rw [this] at q; cases q
      | cons x r =>
        rw [e] at q ht
        rw [cl_join] at q
        rcases List.mem_append.mp q with q | q
        · exact ht x (.head _) c q
        · obtain ⟨y, hy, q⟩ := List.mem_flatMap.mp q
          rcases List.mem_append.mp q with q | q
          · exact sgn_lt _ c q
          · exact ht y (.tail _ hy) c q
  · exact sgn_lt _ c q
theorem joinP_lt (ps : List Nat) : ∀ c ∈ cl (joinP ps), c < 0x110000 := by
  intro c hc
  cases ps with
  | nil => rw [joinP_nil] at hc; cases hc
  | cons p ps =>
    rw [joinP_cl] at hc
    rcases List.mem_append.mp hc with q | q
    · exact part_lt p c q
    · obtain ⟨y, hy, q⟩ := List.mem_flatMap.mp q
      rcases List.mem_cons.mp q with rfl | q
      · decide
      · exact part_lt y c q
theorem strOk_of {x : Str} (h : ∀ c ∈ cl x, c < 0x110000) : (PyData.str x).canLay0 = true := by
  show x.cps.all (· < 0x110000) = true
  rw [Array.all_eq_true_iff_forall_mem]
  intro c hc
  exact decide_eq_true (h c (by simpa using hc))
theorem msg_ok (ns : List Nat) (k : Nat) : (PyData.str (rowMsg ns k)).canLay0 = true := by
  have h : ∀ j : Fin 5, (PyData.str (messagesL.getD j.val (Str.ofString ""))).canLay0 = true := by decide +kernel
  exact h ⟨(ns.headD 0 / 3 + k) % 5, Nat.mod_lt _ (by decide)⟩
theorem row_lay (ns : List Nat) (k : Nat) : (rowDat ns k).canLay0 = true ∧ (rowDat ns k).depth ≤ 20 := by
  have e := keyLast_eq ns k
  have hp := keyP_lay (parts_ok (rowParts ns k))
  have hd : (PyData.list (keyP ((rowParts ns k).map runs))).depth ≤ 10 := by
    rw [depth_list]
    have := depthAll_le (k := 4) (l := keyP ((rowParts ns k).map runs)) fun d hd => by
      obtain ⟨r, hr, rfl⟩ := List.mem_map.mp hd
      exact (keyR_lay (parts_ok (rowParts ns k) r hr)).2
    omega
  rw [← e] at hp hd
  unfold rowDat
  refine ⟨layAll fun d hd => ?_, ?_⟩
  · simp only [List.mem_cons, List.not_mem_nil, or_false] at hd
    rcases hd with rfl | rfl | rfl
    · rw [show rowText ns k = joinP (rowParts ns k) from rfl]; exact strOk_of (joinP_lt _)
    · exact msg_ok ns k
    · exact hp.1
  · rw [depth_tuple, depth_cons, depth_cons, depth_cons]
    have h1 : (PyData.str (rowText ns k)).depth ≤ 10 := by simp [PyData.depth]
    have h2 : (PyData.str (rowMsg ns k)).depth ≤ 10 := by simp [PyData.depth]
    have h3 : (PyData.list ((rowParts ns k).map runsDat)).depth ≤ 10 := hd
    have h4 : PyData.depthAll [] ≤ 10 := by simp [PyData.depthAll]
    omega
theorem shaped_of {d : PyData} (h : d.canLay0 = true ∧ d.depth ≤ 64) : shaped d = true := by
  unfold shaped; rw [h.1]; exact decide_eq_true h.2
theorem rows_shaped (ns : List Nat) (σ : List Nat) : shaped (.list (σ.map (rowDat ns))) = true := by
  refine shaped_of ⟨layAll fun d hd => ?_, ?_⟩
  · obtain ⟨a, _, rfl⟩ := List.mem_map.mp hd; exact (row_lay ns a).1
  · rw [depth_list]
    have := depthAll_le (k := 20) (l := σ.map (rowDat ns)) fun d hd => by obtain ⟨a, _, rfl⟩ := List.mem_map.mp hd; exact (row_lay ns a).2
    omega
def endD (ns : List Nat) (τ : List Nat) : List PyData := τ.map fun a => .tuple [rowDat ns a, .str (Str.ofString "")]
theorem end_shaped (ns : List Nat) (τ : List Nat) : shaped (.list (endD ns τ)) = true := by
  have hs : (PyData.str (Str.ofString "")).canLay0 = true := by decide +kernel
  refine shaped_of ⟨layAll fun d hd => ?_, ?_⟩
  · obtain ⟨a, _, rfl⟩ := List.mem_map.mp hd
    refine layAll fun d hd => ?_
    simp only [List.mem_cons, List.not_mem_nil, or_false] at hd
    rcases hd with rfl | rfl
    · exact (row_lay ns a).1
    · exact hs
  · rw [depth_list]
    have := depthAll_le (k := 30) (l := endD ns τ) fun d hd => by
      obtain ⟨a, _, rfl⟩ := List.mem_map.mp hd
      have h1 := (row_lay ns a).2
      rw [depth_tuple, depth_cons, depth_cons]
      have h2 : (PyData.str (Str.ofString "")).depth ≤ 10 := by simp [PyData.depth]
      have h4 : PyData.depthAll [] ≤ 10 := by simp [PyData.depthAll]
      omega
    omega
theorem leftD_end (ns : List Nat) (τ : List Nat) : leftD ns (mny ns) τ = endD ns τ := by
  unfold leftD endD
  refine List.map_congr_left fun a _ => ?_
  rw [restN]
theorem ints_shaped (is : List Int) : shaped (.list (is.map .int)) = true := by
  refine shaped_of ⟨layAll fun d hd => ?_, ?_⟩
  · obtain ⟨a, _, rfl⟩ := List.mem_map.mp hd; rfl
  · rw [depth_list]
    have := depthAll_le (k := 20) (l := is.map PyData.int) fun d hd => by obtain ⟨a, _, rfl⟩ := List.mem_map.mp hd; simp [PyData.depth]
    omega
theorem eqv_self {d : PyData} (h : shaped d = true) : PyData.eqv d d = true := PySem.SeqAt.eqv_refl d (canLay_of_shaped h)
theorem flat_lists (ns : List Nat) (k : Nat) : (rowParts ns k).map runsDat = ((rowParts ns k).map fun p => keyR (runs p)).map .list := by rw [List.map_map]; rfl
theorem flat_flatten (ns : List Nat) (k : Nat) : ((rowParts ns k).map fun p => keyR (runs p)).flatten = keyR (flatR ns k) := by
  unfold flatR keyR
  rw [List.map_flatMap, List.flatMap_def]
theorem runs_len (n : Nat) : (runs n).length ≤ 2 := by
  unfold runs run2 run1
  cases hasW n <;> cases hasN n <;> cases rotd n <;> simp
theorem flat_len (ns : List Nat) (k : Nat) : (keyR (flatR ns k)).length ≤ 1000 := by
  have h : ∀ l : List Nat, (l.flatMap runs).length ≤ 2 * l.length := fun l => by
    induction l with
    | nil => simp
    | cons a l ih => have := runs_len a; rw [List.flatMap_cons, List.length_append, List.length_cons]; omega
  have h1 := h (rowParts ns k)
  have h2 := rowParts_le ns k
  have h3 := (mny_bound ns).2
  unfold keyR flatR
  rw [List.length_map]; omega
def drawnI (is : List Int) : List Int := if is = [] then [1, 32, 160, 26, 32, 144, 16171] else is.take 13
def nsOf (is : List Int) : List Nat := (drawnI is).map fun i => (i.fmod 86016).toNat
theorem nsOf_len (is : List Int) : 0 < (nsOf is).length ∧ (nsOf is).length ≤ 13 := by
  unfold nsOf drawnI
  rw [List.length_map]
  split
  · simp
  · rename_i h
    rw [List.length_take]
    have : is.length ≠ 0 := fun q => h (List.length_eq_zero_iff.mp q)
    omega
theorem nsOf_nat (is : List Int) : natsD (nsOf is) = (drawnI is).map fun i => .int (i.fmod 86016) := by
  unfold natsD nsOf
  rw [List.map_map]
  refine List.map_congr_left fun i _ => ?_
  have := Int.fmod_nonneg_of_pos i (show (0 : Int) < 86016 by decide)
  simp [Function.comp, Int.toNat_of_nonneg this]
end Mine

end

section
open PySem PySem.W PyProof.Rows PySem.SeqAt
set_option maxRecDepth 100000
set_option linter.all false
namespace Mine

abbrev lawQ : Str := (Str.ofString "law" ++ ".<locals>.") ++ Str.ofString "<lambda>"

section
variable {C : Cx} {m : Str → Option Value} {own : Own} {Bb : Fz}
/-- the script's first items, or the example -/
theorem ev_drawn {test sl ls : Expr} {pos : Pos} {is : List Int} (ht : Et C m own Bb test (!PyData.eqv (.list (is.map .int)) (.list []))) (h1 : Ev C m own Bb sl (Rd (.list ((is.map PyData.int).take 13)))) (h2 : Ev C m own Bb ls (Rd (.list (([1, 32, 160, 26, 32, 144, 16171] : List Int).map .int)))) :
    Ev C m own Bb (.IfExp test sl ls pos) (Rd (.list ((drawnI is).map .int))) := by
  refine ev_ifExp ht ?_
  cases is with
  | nil => exact h2
  | cons a r =>
    have e : (drawnI (a :: r)).map PyData.int = ((a :: r).map PyData.int).take 13 := by
      unfold drawnI; rw [if_neg (by simp), List.map_take]
    rw [e]
    have e2 : (!PyData.eqv (.list ((a :: r).map .int)) (.list [])) = true := by simp [PyData.eqv, PyData.eqvAll]
    rw [e2]; exact h1
end

theorem map_get {α : Type} {l : List α} {f : α → PyData} {j : Nat} {d : PyData} (h : (l.map f)[j]? = some d) : ∃ a, l[j]? = some a ∧ d = f a := by
  rw [List.getElem?_map] at h
  cases q : l[j]? with
  | none => rw [q] at h; cases h
  | some a => rw [q] at h; cases h; exact ⟨a, rfl, rfl⟩
theorem map_get2 {α : Type} {l : List α} {f : α → PyData} {j : Nat} {d : PyData} {a : α} (ha : l[j]? = some a) (h : (l.map f)[j]? = some d) : d = f a := by
  obtain ⟨b, hb, rfl⟩ := map_get h
  rw [ha] at hb; cases hb; rfl

section
variable {K : Kp} {C : Cx} {sc : Scope} {l : List (Str × Value)} {own : Own} {B : Fz} {s : Shared} {E : Value → Shared → Prop} {Q : Flow → Shared → Prop} {rest : List Stmt}
theorem st_assignCompD {x : Str} {px spos : Pos} {elt target iter : Expr} {scope : Scope} {pos : Pos} {ds es : List PyData}
    (S : Sc C sc) (hh : C.A.handled = none) (H : Fs C (lk l) own B s) (h1 : Ev C (lk l) own B iter (Rd (.list ds))) (hlen : es.length = ds.length)
    (turn : ∀ (B' : Fz) (s : Shared) (D : Addr) (i : Nat) (d e : PyData), ds[i]? = some d → es[i]? = some e → B.le B' → Turn (compCx C B' s D scope) B' target elt (Rd d) (Rd e)) (hsz : ds.length ≤ 100000)
    (k : ∀ v B' s', B.le B' → Fs C (lk ((x, v) :: l)) own B' s' → Rp B' v (.list es) → Wx C rest Q E s')
    (hfree : ∀ y ∈ scope.names, y.2 ≠ .free := by decide) (hcell : ∀ y ∈ scope.names, y.2 ≠ .cell := by decide) (hkind : scope.kind = .function := by rfl)
    (hnames : ∀ y ∈ scope.names, y.2 = .local → scope.names.lookup y.1 = some .local := by decide) (hs : ∀ x, foldedSetIterable iter C.env x = pure x := by intro _; rfl)
    (hln : (px.line == pos.line) = true := by rfl) (hnn : (scope.names.any fun y => y.1 == x && (y.2 == .local || y.2 == .cell)) = false := by rfl) (hl : sc.names.lookup x = some .local := by rfl) :
    Wx C (.Assign [.Name x px] (.ListComp elt [⟨target, iter, [], 0⟩] scope pos) spos :: rest) Q E s :=
  st_assignComp (N := ds.length) (It := ItD ds) (Pr := ItD es) S hh H (h1.weaken fun v B _ p => Ls.of_rp p) (fun B' s D i hi hb => turnD hlen hi fun d e hd he => turn B' s D i d e hd he hb) ItD.mo ItD.mo hsz
    (fun v B' s' hle H' p => k v B' s' hle H' (Ls.rp (by rw [hlen]; exact p))) hfree hcell hkind hnames hs hln hnn hl
theorem wpR_Return_some {M : Model} {A : Around} {env : Env} {e : Expr} {pos : Pos} (h : wpR K M A (eval e env) (fun v => Q (.ret v)) E s) : wpR K M A (exec (.Return (some e) pos) env) Q E s := fun Γ p hΓ hc => by
  simp only [exec_Return_some, Sem.wp_bind', Sem.wp_cmd_standAt, Sem.wp_pure']; exact h Γ _ hΓ (K.at' hc)
theorem wrL_returnEq {pre : Own} {qual : Str} {ps : Array Value} {le re : Expr} {pos cp : Pos} {P : Value → Fz → Prop} {d : PyData} (H : Fs C (lk l) (tabOwn pre ps) B s) (T : TabOk B qual ps)
    (hl : Ev C (lk l) (tabOwn pre ps) B le (Rd d)) (hr : EvL K C (lk l) pre B qual re P) (hP : ∀ v B', B.le B' → P v B' → Rp B' v d) (hd : shaped d = true) (he : PyData.eqv d d = true) (hu : C.A.units + 64 < cLine)
    (k : ∀ B' s' ps', B.le B' → Fs C (lk l) (tabOwn pre ps') B' s' → TabOk B' qual ps' → Q (.ret (.bool true)) s') (hm : behindInMarks .Eq re = false := by with_unfolding_all rfl) :
    Wr K C (.Return (some (.Compare le [.Eq] [re] cp)) pos :: rest) Q E s := by
  refine ⟨wpR_execs_cons (wpR_Return_some (wpR_Compare1 (hl.out E B s .rfl H _ fun v1 B1 s1 hle1 H1 p1 => hr.out E B1 s1 ps hle1 H1 (T.le hle1) _ fun v2 B2 s2 ps2 hle2 H2 T2 p2 => ?_) hm))⟩
  obtain ⟨as, r1⟩ := (p1.mono hle2).reads H2.bin
  obtain ⟨bs, r2⟩ := (hP _ _ (hle1.trans hle2) p2).reads H2.bin
  refine eq_dataH r1 r2 hd hd hu ?_
  rw [he]
  exact k B2 _ ps2 (hle1.trans hle2) H2 T2
end

theorem rowsD_get {ns : List Nat} {i : Nat} {d : PyData} (h : (rowsD ns)[i]? = some d) : i < rowsN ns ∧ d = rowDat ns i := by
  unfold rowsD at h
  rw [List.getElem?_map] at h
  rcases Nat.lt_or_ge i (rowsN ns) with q | q
  · rw [List.getElem?_range q] at h; exact ⟨q, by cases h; rfl⟩
  · rw [List.getElem?_eq_none (by simpa using q)] at h; cases h
theorem SortD.rows {ns : List Nat} {ks : Nat → PyData} {v : Value} {B : Fz} (h : SortD (rowsD ns) ks v B) : ∃ σ : List Nat, σ.Perm (List.range (rowsN ns)) ∧ σ.Pairwise (Rr fun i j => plt (ks i) (ks j)) ∧ Rp B v (.list (σ.map (rowDat ns))) := by
  obtain ⟨σ, h1, h2, h3⟩ := h
  rw [show (rowsD ns).length = rowsN ns by simp [rowsD]] at h1
  refine ⟨σ, h1, h2, ?_⟩
  rw [rows_sorted ns σ fun j hj => by simpa using h1.mem_iff.mp hj] at h3
  exact h3

theorem law_walk {C : Cx} {E : Value → Shared → Prop} {s : Shared} {B : Fz} {ps0 : Array Value} {v : Value} {is : List Int} (S : Sc C (fdS 10)) (G : GB B) (L : GL B) (X : GX C.prog C.w B) (Fm : Fms C) (hh : C.A.handled = none) (hdep : C.A.depth < 700) (hu : C.A.units + 400 < cLine)
    (hcode : C.env.code = .ref 67) (hqual : C.env.qual = Str.ofString "law" ++ ".<locals>.") (T : TabOk B lawQ ps0) (H : Fs C (lk [(Str.ofString "script", v)]) (tabOwn [] ps0) B s) (hv : Rp B v (.list (is.map .int))) (hlen : is.length ≤ 63) :
    Wr .cal C (fdB 10) (fun f s' => ∃ m ps B', f = .ret (.bool true) ∧ B.le B' ∧ Fs C m (tabOwn [] ps) B' s' ∧ TabOk B' lawQ ps) E s := by
  unfold fdB
  dsimp only [PySem.Challenge.pw_mq0074_01, List.getElem?_cons_succ, List.getElem?_cons_zero]
  have hq : C.env.qual ++ Str.ofString "<lambda>" = lawQ := by rw [hqual]
  refine Wr.step (st_assign (P := Rd (.list ((drawnI is).map .int))) S H ?_ ?_)
  · refine ev_drawn (et_neD (ev_var S rfl hv) (ev_list .nil (by decide)) (ints_shaped is) (by decide) (by omega)) (ev_to (k := 13) (ev_var S rfl hv) ev_int (by simp; omega)) (ev_list ?_ (by decide))
    repeat' (refine .cons ev_int ?_ (fun _ _ => rfl))
    exact .nil
  intro v1 B1 s1 hle1 H1 p1
  refine st_nil ⟨rfl, ?_⟩
  have hns := nsOf_len is
  have hnat := nsOf_nat is
  have hdl : (drawnI is).length = (nsOf is).length := by unfold nsOf; rw [List.length_map]
  generalize nsOf is = ns at hns hnat hdl
  refine Wr.step (st_assign2 (d1 := .int (mny ns : Nat)) (d2 := .list (rowsD ns)) S hh H1 ?_ ?_)
  · refine ev_fnAny (P := Rd (versDat ns)) (ds := [.list (natsD ns)]) (a := 63) (c := 62) (i := 9) (name := Str.ofString "_law_versions") S (G.le hle1) (by decide) (fun h g => g.f63) (.cons ?_ .nil (fun _ _ => rfl)) ?_ (hlen := by show (1 : Nat) ≤ 30; decide)
    · refine ev_compD (ds := (drawnI is).map .int) (es := natsD ns) (ev_var S rfl p1) (by rw [hnat]; simp) (fun B' s' D i d e hd he hb => ?_) hh (by simp; omega)
      rw [hnat] at he
      rw [List.getElem?_map] at hd he
      cases q : (drawnI is)[i]? with
      | none => rw [q] at hd; cases hd
      | some n =>
        rw [q] at hd he
        cases hd; cases he
        exact turn_name (S.comp rfl) fun own l Bq y hb hy => ev_mod (ev_var (S.comp rfl) rfl hy) ev_int (by decide)
    · intro vs B2 s2 hb2 H2 p2
      cases p2 with
      | cons q1 q2 =>
        cases q2
        exact vers_spec ((G.le hle1).le hb2) H2.bin (H2.ref (f := .none) (F := [])) (by omega) hh q1 hns.1 hns.2
  intro v2 v3 B2 s2 hle2 H2 p2 p3
  refine st_nil ⟨rfl, ?_⟩
  have hR10 := rowsN_le (ns := ns) (by omega)
  have hrl : (rowsD ns).length = rowsN ns := by simp [rowsD]
  have hle02 := hle1.trans hle2
  have G2 : GB B2 := G.le hle02
  have L2 : GL B2 := L.le hle02
  have X2 : GX C.prog C.w B2 := X.le hle02
  have hnm : C.env.scope.kind ≠ .module := by rw [S.k]; decide
  refine wrL_assign (pre := []) (P := SortD (rowsD ns) (keyText ns)) S H2 (T.le hle02) (evL_sorted S G2 L2 hcode hq (fun ps => ev_var S rfl p3) (by omega) (fun i => ⟨_, rfl⟩) (fun i j => (keyText_lt ns i j).2) (fun i => (lay_text ns i).1) (fun i => (lay_text ns i).2) (by omega) (wk_text ns) ?_) ?_
  · intro i d v f own' B' s' hd hv hb hlam H'
    obtain ⟨hi, rfl⟩ := rowsD_get hd
    obtain ⟨outs, ho1, ho2⟩ := text_cps ns i
    exact lam_comp (G2.le hb) (X2.le hb) H'.bin (H'.ref (f := .none) (F := [])) (H'.frs Fm hnm).in1.in1 (by show C.A.depth < 890; omega) hh (by have := text_len ns i; show (rowText ns i).length < 10000; omega) ho1 ho2 hlam hv (by decide) (by decide) rfl (fun _ _ _ => rfl) rfl rfl (by decide) rfl rfl rfl (by decide)
  intro v4 B3 s3 ps3 hle3 H3 T3 p4
  obtain ⟨σ, hσ1, hσ2, p4'⟩ := p4.rows
  have p3' := p3.mono hle3
  refine wrL_ifNe (pre := []) (P := SortD (rowsD ns) (keyFlat ns)) (d := .list (σ.map (rowDat ns))) H3 T3 (ev_var S rfl p4') (evL_sorted S (G2.le hle3) (L2.le hle3) hcode hq (fun ps => ev_var S rfl p3') (by omega) (fun i => ⟨_, rfl⟩) (fun i j => (keyFlat_lt ns i j).2) (fun i => (lay_flat ns i).1) (fun i => (lay_flat ns i).2) (by omega) (wk_flat ns) ?_) ?_ (rows_shaped ns σ) (eqv_self (rows_shaped ns σ)) (by omega) ?_
  · intro i d v f own' B' s' hd hv hb hlam H'
    obtain ⟨hi, rfl⟩ := rowsD_get hd
    have := lam_flat (K := .cal) (prog := C.prog) (w := C.w) (A := C.A.in1.in1) (F := C.env.locals :: C.F) (s := s') (ls := (rowParts ns i).map fun p => keyR (runs p)) (G2.le (hle3.trans hb)) H'.bin (H'.ref (f := .none) (F := [])) (by show C.A.depth < 890; omega) hh (by rw [flat_flatten]; exact flat_len ns i) hlam hv (by decide) (by decide) (by rw [← flat_lists]; rfl) (fun _ _ _ => rfl) rfl (by decide) rfl (by decide) rfl (by decide) (by decide) (by decide) rfl (by decide) rfl rfl rfl (by decide)
    rw [flat_flatten] at this
    exact this
  · intro u B' hb hu2
    obtain ⟨τ, hτ1, hτ2, p5⟩ := hu2.rows
    rw [told_same hσ1 hτ1 hσ2 hτ2]; exact p5
  intro B4 s4 ps4 hle4 H4 T4
  have p3b := p3'.mono hle4
  have hle24 := hle3.trans hle4
  refine Wr.step (st_assignCompD (ds := rowsD ns) (es := leftD ns 0 (List.range (rowsN ns))) S hh H4 (ev_var S rfl p3b) (by simp [rowsD, leftD]) ?_ (by omega) ?_)
  · intro B' s' D i d e hd he hb
    obtain ⟨hi, rfl⟩ := rowsD_get hd
    have := map_get2 (a := i) (List.getElem?_range hi) he
    subst this
    rw [rest0]
    exact turn_name (S.comp rfl) fun own l Bq y hb hy => ev_tuple (.cons (ev_var (S.comp rfl) rfl hy) (.cons (ev_itemT (ev_var (S.comp rfl) rfl hy) (ev_int (i := 0)) (by decide) (by decide) rfl) .nil (fun _ _ => rfl)) (fun _ _ => rfl)) (by simp)
  intro v5 B5 s5 hle5 H5 p5
  refine st_nil ⟨rfl, ?_⟩
  have hle25 := hle24.trans hle5
  have hm4 := (mny_bound ns).2
  refine wr_forRange (N := mny ns) (fun i l' own' B' => ∃ ps τ vL, own' = tabOwn [] ps ∧ TabOk B' lawQ ps ∧ Arr ns i τ ∧ lk l' (Str.ofString "left") = some vL ∧ Rp B' vL (.list (leftD ns i τ)) ∧ lk l' (Str.ofString "rows") = some v3)
    S (G2.le hle25) hh H5 (ev_var S rfl (p2.mono hle25)) (by omega) (fun B' hb => ⟨ps4, _, v5, rfl, T4.le (hle5.trans hb), arr0 ns, rfl, p5.mono hb, rfl⟩) ?_ ?_
  · rintro i l' own' B' s6 t I E' hi hle ⟨ps, τ, vL, rfl, T6, ha, k1, r1, k2⟩ H6
    have hle26 := hle25.trans hle
    have G6 := G2.le hle26
    have X6 := X2.le hle26
    have hτ := ha.len
    refine Wr.step (st_assignCompD (ds := leftD ns i τ) (es := cutD ns i τ) S hh H6 (ev_var S k1 r1) (by simp [leftD, cutD]) ?_ (by simp [leftD]; omega) ?_)
    · intro B7 s7 D j d e hd he hb
      obtain ⟨a, hj, rfl⟩ := map_get hd
      have := map_get2 hj he
      subst this
      have hR := ha.lt (List.mem_of_getElem? hj)
      have st := rest_strip hR hi
      refine turn_pair (S.comp rfl) hh fun own l Bq w1 w2 hb2 q1 q2 => ?_
      refine ev_tuple (.cons (ev_var (S.comp rfl) rfl q1) (.cons (ev_var (S.comp rfl) rfl q2) (.cons (ev_fn (P := Rd (.str (partText (partAt ns i a)))) (ds := [.str (restAt ns i a ++ rowMsg ns a)]) (S.comp rfl) (G6.le (hb.trans hb2)) (a := 51) (c := 50) (i := 6) (name := Str.ofString "_strip_exception_details") (by decide) (fun h g => g.f51)
        (.cons (ev_cat (ev_var (S.comp rfl) rfl q2) (ev_itemT (ev_var (S.comp rfl) rfl q1) (ev_int (i := 1)) (by decide) (by decide) rfl) ?_) .nil (fun _ _ => rfl)) ?_ (hlen := by show (1 : Nat) ≤ 30; decide)) .nil (fun _ _ => rfl)) (fun _ _ => rfl)) (fun _ _ => rfl)) (by simp)
      · have h1 := rest_len ns i a
        have h2 := msg_len ns a
        omega
      · intro vs B8 s8 hb8 H8 p8
        cases p8 with
        | cons z1 z2 =>
          cases z2
          obtain ⟨t8, rfl⟩ := z1.str_inv
          have h1 := rest_len ns i a
          have h2 := msg_len ns a
          have := strip_spec (prog := C.prog) (w := C.w) (x := restAt ns i a ++ rowMsg ns a) (t := t8) (((G6.le hb).le hb2).le hb8) H8.bin (H8.ref (f := .none) (F := [])) (A := C.A) (by omega) hh (by rw [Str.length_append]; omega)
          rw [st] at this
          exact this
    intro v7 B7 s7 hle7 H7 p7
    refine st_nil ⟨rfl, ?_⟩
    have G7 := G6.le hle7
    have H7' : Fs C _ (tabOwn [(I, PX (RIo (i + 1) (mny ns)))] ps) B7 s7 := H7.perm (List.Perm.swap _ _ _)
    refine wrL_assign (pre := [(I, PX (RIo (i + 1) (mny ns)))]) (P := SortD (cutD ns i τ) (fun j => keyAt ns i (τ.getD j 0))) S H7' (T6.le hle7) (evL_sorted S G7 ((L2.le hle26).le hle7) hcode hq (fun ps => ev_var S rfl p7) (by simp [cutD]; omega) (fun i => ⟨_, rfl⟩) (fun j k => (keyAt_lt ns i _ _).2) (fun j => (lay_at ns i _).1) (fun j => (lay_at ns i _).2) (by omega) (wk_at ns i τ) ?_) ?_
    · intro j d v f own' B8 s8 hd hv hb hlam H8
      obtain ⟨a, hj, rfl⟩ := map_get hd
      obtain ⟨outs, ho1, ho2⟩ := part_cps (partAt ns i a)
      have ea : τ.getD j 0 = a := by rw [List.getD_eq_getElem?_getD, hj]; rfl
      rw [ea]
      exact lam_comp (G7.le hb) ((X6.le hle7).le hb) H8.bin (H8.ref (f := .none) (F := [])) (H8.frs Fm hnm).in1.in1 (by show C.A.depth < 890; omega) hh (by have := partText_len (partAt ns i a); show (partText (partAt ns i a)).length < 10000; omega) ho1 ho2 hlam hv (by decide) (by decide) rfl (fun _ _ _ => rfl) rfl rfl (by decide) rfl rfl rfl (by decide)
    intro v8 B8 s8 ps8 hle8 H8 T8 p8
    obtain ⟨σ', hp1, hp2, p8'⟩ := p8
    have hcl : (cutD ns i τ).length = τ.length := by simp [cutD]
    rw [hcl] at hp1
    rw [cut_sorted ns i τ σ' fun j hj => by simpa using hp1.mem_iff.mp hj] at p8'
    have ha' := ha.step hi hp1 hp2
    refine Wr.step (st_assignCompD (ds := cutD ns i (σ'.map fun j => τ.getD j 0)) (es := leftD ns (i + 1) (σ'.map fun j => τ.getD j 0)) S hh H8 (ev_var S rfl p8') (by simp [leftD, cutD]) ?_ ?_ ?_)
    · intro B9 s9 D j d e hd he hb
      obtain ⟨a, hj, rfl⟩ := map_get hd
      have := map_get2 hj he
      subst this
      have hR := ha'.lt (List.mem_of_getElem? hj)
      have cu := rest_cut hR hi
      refine turn_three (S.comp rfl) hh fun own l Bq w1 w2 w3 hb2 q1 q2 q3 => ?_
      rw [← cu]
      have h1 := rest_len ns i a
      have h2 := partText_len (partAt ns i a)
      have G9 := ((G7.le hle8).le hb).le hb2
      refine ev_tuple (.cons (ev_var (S.comp rfl) rfl q1) (.cons (ev_sliceS (ev_var (S.comp rfl) rfl q2) .none (.some (ev_max0 (ev_builtin (S.comp rfl) G9 (by decide)) (ev_sub (ev_sub (ev_len (ev_builtin (S.comp rfl) G9 (by decide)) (ev_var (S.comp rfl) rfl q2) (by omega)) (ev_len (ev_builtin (S.comp rfl) G9 (by decide)) (ev_var (S.comp rfl) rfl q3) (by omega))) ev_int) hh)) (by omega)) .nil (fun _ _ => rfl)) (fun _ _ => rfl)) (by simp)
    · have := ha'.len; simp [cutD] at this ⊢; omega
    intro v9 B9 s9 hle9 H9 p9
    exact st_nil ⟨rfl, Wr.nil ⟨.inl rfl, _, _, B9, hle7.trans (hle8.trans hle9), H9.perm (List.Perm.swap _ _ _), ps8, _, v9, rfl, T8.le hle9, ha', rfl, p9, k2⟩⟩
  · rintro l' own' B' s6 hle ⟨ps, τ, vL, rfl, T6, ha, k1, r1, k2⟩ H6
    have hle26 := hle25.trans hle
    rw [leftD_end] at r1
    refine wrL_returnEq (pre := []) (P := Rd (.list (endD ns τ))) (d := .list (endD ns τ)) H6 T6 (ev_var S k1 r1) (evL_comp (P0 := SortD (rowsD ns) (keyLast ns)) (evL_sorted S (G2.le hle26) (L2.le hle26) hcode hq (fun ps => ev_var S k2 (p3.mono hle26)) (by omega) (fun i => ⟨_, rfl⟩) (fun i j => (keyLast_lt ns i j).2) (fun i => (lay_last ns i).1) (fun i => (lay_last ns i).2) (by omega) (wk_last ns) ?_) hh ?_) (fun v B' _ p => p) (end_shaped ns τ) (eqv_self (end_shaped ns τ)) (by omega) ?_
    · intro i d v f own' B7 s7 hd hv hb hlam H7
      obtain ⟨hi, rfl⟩ := rowsD_get hd
      exact lam_item (K := .cal) (d := keyLast ns i) ((G2.le hle26).le hb) H7.bin (H7.ref (f := .none) (F := [])) (by show C.A.depth < 890; omega) hh hlam hv (by decide) (by decide) rfl (fun _ _ _ => rfl) rfl (by decide) rfl rfl rfl (by decide)
    · intro u B7 hb hu2
      obtain ⟨σ', q1, q2, q3⟩ := hu2.rows
      have e := ha.last q1 q2
      subst e
      refine ⟨_, endD ns τ, q3, by simp [endD], by rw [List.length_map]; have := ha.len; omega, fun _ _ _ p => p, fun B8 s8 D j d e hd he hb8 => ?_⟩
      obtain ⟨a, hj, rfl⟩ := map_get hd
      have := map_get2 hj he
      subst this
      exact turn_name (S.comp rfl) fun own l Bq y hb hy => ev_tuple (.cons (ev_var (S.comp rfl) rfl hy) (.cons ev_str .nil (fun _ _ => rfl)) (fun _ _ => rfl)) (by simp)
    · intro B7 s7 ps7 hle7 H7 T7
      exact ⟨_, ps7, B7, rfl, hle02.trans (hle26.trans hle7), H7, T7⟩
end Mine

end

section
open PySem PySem.W PyProof.Rows
set_option maxRecDepth 100000
set_option linter.all false
namespace Mine

def objK (K : Frag) (a : Addr) : Obj := (K.lookup a).getD default
def pmK (K : Frag) (f : Addr) : Value := match (objK K f).data with | .func fd => fd.pyModule | _ => .none
def vsK (K : Frag) (c : Addr) : Array Value := match (objK K c).data with | .fields vs => vs | _ => #[]
def tokK (K : Frag) (c : Addr) : Tok := match (vsK K c).getD 1 .none with | .str _ t => t | _ => 0
structure FnK (K : Frag) (f c : Addr) (i : Nat) (name : Str) : Prop where
  f1 : K.lookup f = some (objK K f)
  f2 : (objK K f).data = .func (Calls.docDef name (fdA i) (fdB i) (fdS i) (pmK K f) (.ref c) .none)
  c1 : K.lookup c = some (objK K c)
  c2 : (objK K c).data = .fields (vsK K c)
  c3 : (vsK K c)[1]? = some (.str name (tokK K c))
theorem FnK.at {K : Frag} {f c : Addr} {i : Nat} {name : Str} {h : Heap} (x : FnK K f c i name) (X : K.In h) : FnAt h f c i name :=
  ⟨_, _, X _ _ x.f1, x.f2, ⟨c, _, _, _, rfl, X _ _ x.c1, x.c2, x.c3⟩⟩
def stEs (P : Params) : Array DictEntry := (stagesL.zipIdx.map fun x => ({ hash := PyData.keyHash P x.1.1, key := .str x.1.1 (331 + 2 * x.2), val := .int x.1.2 (332 + 2 * x.2) } : DictEntry)).toArray
structure KF (K : Frag) (P : Params) : Prop where
  g : gNames.map (fun p => nsIn K mainGlobals p.1) = gNames.map fun p => some (some p.2)
  b : bNames.map (fun p => nsIn K mainGlobals p.1) = bNames.map fun _ => some none
  f44 : FnK K 44 43 4 (Str.ofString "_comparable_version")
  f51 : FnK K 51 50 6 (Str.ofString "_strip_exception_details")
  f58 : FnK K 58 57 8 (Str.ofString "_law_part")
  f63 : FnK K 63 62 9 (Str.ofString "_law_versions")
  k35 : K.lookup 35 = some (codeObj 0)
  k36 : K.lookup 36 = some (patObj 35 285 329)
  k37 : K.lookup 37 = some ⟨.type "dict", none, .dict (stEs P) 10, #[]⟩

theorem map_eq_mem {α β : Type} {f g : α → β} {l : List α} (h : l.map f = l.map g) : ∀ p ∈ l, f p = g p := List.map_inj_left.mp h

theorem boot_names : ∀ p ∈ bNames, bootBuiltins p.1 = some p.2 ∧ p.1 ≠ ("__name__" : Str) := by
  have h : bNames.map (fun p => bootBuiltins p.1) = bNames.map fun p => some p.2 := by decide +kernel
  have h2 : ∀ p ∈ bNames, p.1 ≠ ("__name__" : Str) := by decide +kernel
  exact fun p hp => ⟨map_eq_mem h p hp, h2 p hp⟩

theorem GlobH.keeps {h h' : Heap} (x : GlobH h) (k : ∀ b o, h.get? b = some o → h'.get? b = some o) : GlobH h' := by
  have fn : ∀ {f c i name}, FnAt h f c i name → FnAt h' f c i name := fun ⟨o, pm, e, d, r⟩ => ⟨o, pm, k _ _ e, d, r.keeps k⟩
  obtain ⟨mg, g1, g2, g3⟩ := x.g
  obtain ⟨mb, b1, b2⟩ := x.b
  obtain ⟨mc, l1, l2⟩ := x.lim
  exact ⟨⟨mg, g1.keeps k, g2, g3⟩, ⟨mb, b1.keeps k, b2⟩, ⟨mc, l1.keeps k, l2⟩, fn x.f44, fn x.f51, fn x.f58, fn x.f63⟩

theorem find_stages (P : Params) (x : Str) (u : Tok) : ∃ t, ((findBy Value.isStrOf (stEs P) x).getD (.int 0 u)) = .int (stageOf x) t := by
  unfold findBy stEs stageOf
  rw [List.find?_toArray]
  have key : ∀ (l : List (Str × Int)) (j : Nat), ∃ t, (((((l.zipIdx j).map fun x => ({ hash := PyData.keyHash P x.1.1, key := .str x.1.1 (331 + 2 * x.2), val := .int x.1.2 (332 + 2 * x.2) } : DictEntry)).find? fun e => Value.isStrOf x e.key).map (·.val)).getD (.int 0 u)) = .int ((l.lookup x).getD 0) t := by
    intro l
    induction l with
    | nil => intro j; exact ⟨u, rfl⟩
    | cons a l ih =>
      intro j
      rw [List.zipIdx_cons, List.map_cons, List.find?_cons]
      obtain ⟨k, n⟩ := a
      show ∃ t, (Option.map _ (match (k == x) with | true => _ | false => _)).getD _ = _
      rw [List.lookup_cons]
      cases q : (k == x) with
      | true =>
        have e := eq_of_beq q
        subst e
        simp only [beq_self_eq_true]
        exact ⟨_, rfl⟩
      | false =>
        have q2 : (x == k) = false := by
          rw [Bool.eq_false_iff] at q ⊢
          exact fun h => q (by rw [eq_of_beq h]; exact beq_self_eq_true _)
        simp only [q2]
        exact ih (j + 1)
  exact key stagesL 0
theorem keys_lit (P : Params) : KeysLit P (stEs P).toList := by
  unfold stEs
  rw [List.toList_toArray]
  generalize stagesL.zipIdx = l
  induction l with
  | nil => trivial
  | cons a l ih => exact ⟨⟨_, _, rfl, rfl⟩, ih⟩

theorem rpInts {B : Fz} : ∀ {vs : List Value} {is : List Int}, IntsAre vs is → RpAll B vs (is.map .int)
  | _, _, .nil => .nil
  | _, _, .cons n t h => .cons (.int n t) (rpInts h)

section
variable {p : Program} {loose : List Str} {mean : ExcName → Option Value} {K : Frag} {w : World} {s₁ : Shared} {mg mb : Str → Option Value} {fa a : Addr} {o : Obj} {pm doc : Value} {vs : List Value} {is : List Int} {R : Result → Shared → Prop}

theorem law_join {prog : Program} (hK : KF K w.params) (hnt : ∀ q ∈ [35, 36, 37, 44, 43, 51, 50, 58, 57, 63, 62], q ≠ 65) (X : K.In s₁.heap) (T : Top p loose mean mg mb s₁.heap) (hT : TabsAt [(67, 65)] s₁.heap)
    (ho : s₁.heap.get? fa = some o) (hd : o.data = .func (Calls.docDef (Str.ofString "law") (fdA 10) (fdB 10) (fdS 10) pm (.ref 67) doc)) (hcd : s₁.heap.CodeRec (.ref 67) (Str.ofString "law"))
    (hL : s₁.heap.IsList a vs.toArray) (hI : IntsAre vs is) (hlen : is.length ≤ 63) (hgl : mainGlobals ≠ 65)
    (hR : ∀ s' ps, s'.heap.get? 65 = some (tabObj ps) → (∀ b o, b ≠ 65 → s₁.heap.get? b = some o → s'.heap.get? b = some o) → s'.os = s₁.os → s'.gens = s₁.gens → R (.ok (.ret (.bool true))) s') :
    codeR .cal (model prog w) callerA (.call (.ref fa) ⟨[.ref a], []⟩) R s₁ := by
  have gT := ghost_top hT T
  have keepG : ∀ b o, (ghostOf s₁.heap [(67, 65)]).get? b = some o → s₁.heap.get? b = some o := fun b o e => of_hideAll _ e
  have in65 : s₁.heap.get? 65 = some (tabObj #[]) := (hT (67, 65) (.head _)).2
  have lt65 : 65 < s₁.heap.objs.size := Heap.lt_size in65
  have ghost65 : (ghostOf s₁.heap [(67, 65)]).get? 65 = none := hideAll_none _ (List.mem_singleton.mpr rfl)
  have XG : ∀ b o, b ≠ 65 → K.lookup b = some o → (ghostOf s₁.heap [(67, 65)]).get? b = some o := fun b o hb e => ghost_ne (X b o e) (by simpa using hb)
  have fnG : ∀ {f c i name}, FnK K f c i name → f ≠ 65 → c ≠ 65 → FnAt (ghostOf s₁.heap [(67, 65)]) f c i name := fun x h1 h2 => ⟨_, _, XG _ _ h1 x.f1, x.f2, ⟨_, _, _, _, rfl, XG _ _ h2 x.c1, x.c2, x.c3⟩⟩
  have gl : GlobH (ghostOf s₁.heap [(67, 65)]) := by
    refine ⟨⟨mg, gT.g, fun q hq => mg_of X T.g (map_eq_mem hK.g q hq), fun q hq => mg_none_of X T.g (map_eq_mem hK.b q hq)⟩, ⟨mb, gT.b, fun q hq => ?_⟩, gT.nolimit, fnG hK.f44 (by decide) (by decide), fnG hK.f51 (by decide) (by decide), fnG hK.f58 (by decide) (by decide), fnG hK.f63 (by decide) (by decide)⟩
    obtain ⟨h1, h2⟩ := boot_names q hq
    rw [T.builtins _ h2]; exact h1
  have G : GB (ghostOf s₁.heap [(67, 65)]).get? := fun h hb => gl.keeps hb
  have L : GL (ghostOf s₁.heap [(67, 65)]).get? := fun h hb => by
    have hc := (ghost_code hT).1
    obtain ⟨bm, ob, a1, a2, a3, a4, a5, a6⟩ := gT.bmain
    refine ⟨hc.keeps hb, mg, gT.g.keeps hb, bm, ob, a1, a2, fun q => ?_, fun q => ?_, hb _ _ a3, a4, a5, a6⟩
    · obtain ⟨og, es, ep, e, hdd, _⟩ := gT.g
      rw [q, e] at a3; cases a3
      rw [hdd] at a6; cases a6
    · rw [q, ghost65] at a3; cases a3
  have Xs : GX prog w (ghostOf s₁.heap [(67, 65)]).get? := fun h hb => by
    refine ⟨⟨0, hb _ _ (XG 35 _ (by decide) hK.k35)⟩, ⟨285, 329, hb _ _ (XG 36 _ (by decide) hK.k36)⟩, ⟨_, ?_, fun x u => find_stages w.params x u⟩⟩
    have KI : Frag.In [((37 : Addr), (⟨.type "dict", none, .dict (stEs w.params) 10, #[]⟩ : Obj))] h := fun b o e => by
      rw [List.lookup_cons] at e
      cases q : (b == (37 : Addr)) with
      | true => rw [q] at e; cases e; rw [eq_of_beq q]; exact hb _ _ (XG 37 _ (by decide) hK.k37)
      | false => rw [q] at e; cases e
    exact mapOf_K KI (by rfl) (keys_lit w.params)
  refine codeR_call_fn (o := o) (fd := Calls.docDef (Str.ofString "law") (fdA 10) (fdB 10) (fdS 10) pm (.ref 67) doc) (by decide +kernel) ho hd rfl rfl hcd ?_
  have hbind : bindArgs (Calls.docDef (Str.ofString "law") (fdA 10) (fdB 10) (fdS 10) pm (.ref 67) doc) ⟨[.ref a], []⟩ = pure [(Str.ofString "script", .ref a)] := rfl
  rw [hbind]
  refine wpAny_pure (wpAny_newFunctionEnv (show ∀ x ∈ (fdS 10).names, x.2 ≠ .cell by decide) (fun x hx => by obtain rfl := List.mem_singleton.mp hx; rfl) (fun h₁ hns hsb => ⟨T.nolimit.fresh _ hsb, ?_⟩) rfl)
  show codeR .cal _ _ (.func (fdB 10) (envOf (Str.ofString "law") (fdS 10) s₁.heap.objs.size fa (.ref 67))) _ _
  have keep : ∀ b o, s₁.heap.get? b = some o → h₁.get? b = some o := fun b o e => hsb.extBut b o (Nat.ne_of_lt (Heap.lt_size e)) (Heap.get?_push_of_some _ e)
  have hnew : (ghostOf s₁.heap [(67, 65)]).get? s₁.heap.objs.size = none := ghost_fresh (Heap.get?_none_of_le (Nat.le_refl _))
  have F0 : Fs ⟨prog, w, callerA.deeper (envOf (Str.ofString "law") (fdS 10) s₁.heap.objs.size fa (.ref 67)), [], (ghostOf s₁.heap [(67, 65)]).get?, { s₁ with heap := ghostOf s₁.heap [(67, 65)] }, envOf (Str.ofString "law") (fdS 10) s₁.heap.objs.size fa (.ref 67)⟩
      (lk [(Str.ofString "script", .ref a)]) (tabOwn [] #[]) (ghostOf s₁.heap [(67, 65)]).get? { s₁ with heap := h₁, toks := s₁.toks + 1 } := by
    refine ⟨hns, ⟨⟨⟨h₁, s₁.toks + 1, rfl⟩, fun b o _ e => keep b o (keepG b o e), fun b o e => ⟨o.slots, keep b o (keepG b o e)⟩⟩, .rfl, fun b o e => keep b o (keepG b o e), fun b o e => .inl e⟩, hnew, hnew, fun q hq => ?_, by simp, fun b hb => by cases hb⟩
    obtain rfl := List.mem_singleton.mp hq
    exact ⟨⟨_, keep _ _ in65, rfl⟩, Nat.ne_of_lt lt65, ghost65, ghost65⟩
  refine codeR_func (wpR_mono (Wr.out (law_walk (is := is) (v := .ref a) (ps0 := #[]) ⟨rfl, rfl, rfl, rfl⟩ G L Xs ⟨⟨[], rfl, fun e he => by cases he⟩, rfl, fun b hb => by cases hb⟩ rfl (show callerA.depth + 1 < 700 by decide +kernel) (show callerA.units + 3 + 400 < cLine by decide +kernel) rfl rfl (TabOk.nil _ _) F0 ?_ hlen)) (fun fl s'' h'' => ?_) fun _ _ x => x)
  · obtain ⟨ol, e1, e2, n, e3⟩ := ghost_list hT hL
    exact .list e1 e2 e3 (by simpa using rpInts hI)
  · obtain ⟨m, ps, B', rfl, hle, H', T'⟩ := h''
    obtain ⟨h2, t2, hr⟩ := H'.gr.tr.rest
    refine hR s'' ps ?_ (fun b o hb e => H'.gr.tr.keep b o (by simp) (ghost_ne e (by simpa using hb))) (by rw [hr]) (by rw [hr])
    obtain ⟨⟨o6, e6, rfl⟩, _⟩ := H'.mine (65, PX (tabObj ps)) (.head _)
    exact e6
end
end Mine

end

section
open PySem PySem.W PyProof.Rows
set_option maxRecDepth 100000
namespace Mine
set_option maxHeartbeats 8000000 in
theorem holds0 : PySem.Challenge.rw_mq0074_01.Holds := by
  w_on
  o_law
  k_head
  case hw => w_witness2
  k_fill
  intro w s₀ s₁ mg mb G Y fa o pm cd doc dV kV ho hd hcd hD hmg hg args vals as hpre hlay hrd hwl hlo
  have KX := km_in_of Y
  km_tabs Y
  have X := (Ground.X G).1
  have V := (Ground.X G).2
  refine Ground.open G ?_
  intro T B D TE TW
  km_lay T hmg ho hd cd
  have e1 := Dflts.none hD rfl
  have e2 := Dflts.noKw hD
  subst e1 e2
  wrow_args hpre hlay hrd hwl hlo
  rename_i is _ _ _ _ _ _ _ a vs _ hL _ _ _ hI _ hlen _
  refine law_join (p := _) (loose := _) (mean := _) (K := _) (mb := mb) (vs := vs) (is := is) ?hK (by decide) KX T hT9 ho hd hcd hL hI (by omega) (by decide) fun s' ps h65 hk hos hgs => ?hR
  case hK =>
    refine ⟨?_, ?_, ⟨?_, ?_, ?_, ?_, ?_⟩, ⟨?_, ?_, ?_, ?_, ?_⟩, ⟨?_, ?_, ?_, ?_, ?_⟩, ⟨?_, ?_, ?_, ?_, ?_⟩, ?_, ?_, ?_⟩
    all_goals kernel_rfl
  case hR =>
    refine ⟨.inl ⟨.bool true, .bool true, [], rfl, fun _ => rfl, .bool true, ?_, fun _ => ⟨List.nodup_nil, fun b hb => by cases hb⟩⟩, ⟨fun b ob e => ?_, fun b ob e => ?_⟩, hos, .of_eq (hgs.trans hg)⟩
    · wrow_post
    · by_cases hb : b = 65
      · subst hb
        have h9 := hT9 (67, 65) (.head _)
        rw [h9.2] at e
        cases e
        exact .inr (.inl ⟨(h9.1.tab h9.2).isCodeTable, rfl, #[], ps, rfl, by rw [Array.empty_append]; exact h65⟩)
      · exact .inl (hk b ob hb e)
    · by_cases hb : b = 65
      · subst hb; exact ⟨_, h65⟩
      · exact ⟨_, hk b ob hb e⟩
end Mine

end

theorem PySem.Challenge.cw_mq0074_01_holds : PySem.Challenge.rw_mq0074_01.Holds := by
  exact Mine.holds0
