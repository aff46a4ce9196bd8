import PyProof.Rows.All
import Wide.All
import OpenK.AllK
import Wide.FinOn
import PySem.Challenge.RW_fh0025_01
set_option Elab.async false

/-! ## LAsk -/
section
open PySem PySem.W PyProof.Rows
namespace Mine
open Sem (wp)

theorem entry_gc_ask : entryFor table "gc.ask" = some Builtin.«gc.ask» := entryFor_of_fast (by kernel_rfl)

def isAsk : Code → Bool
  | .builtin id ⟨[.int i t], []⟩ => id == "gc.ask" && i == 13 && t == 0
  | _ => false
def askFin : Sem Fin := .pure (.done (.ret (.bool false)))
def askAgain : Sem Fin := .pure (.again (.builtin "lifetime.ask" ⟨[.int 13 0], []⟩))
def denA (c : Code) : Sem Fin := if isAsk c then askFin else denote table c
def modelA (prog : Program) (w : World) : Model := ⟨denA, prog, w⟩

theorem isAsk_code {c : Code} (h : isAsk c = true) : c = .builtin "gc.ask" ⟨[.int 13 0], []⟩ := by
  unfold isAsk at h
  split at h
  · simp only [Bool.and_eq_true, beq_iff_eq] at h
    obtain ⟨⟨rfl, rfl⟩, rfl⟩ := h
    rfl
  · cases h
theorem den_builtin {id : String} {args : Args} {b : Builtin} (hb : entryFor table id = some b) : denote table (.builtin id args) = b args := by
  show (match entryFor table id with | some b => b args | none => unsupported ((withoutEnding? id "#data").getD id)) = _
  rw [hb]
theorem denote_ask : denote table (.builtin "gc.ask" ⟨[.int 13 0], []⟩) = askAgain := (den_builtin entry_gc_ask).trans rfl
theorem den_model (prog : Program) (w : World) : (model prog w).den = denote table := rfl
theorem den_modelA (prog : Program) (w : World) : (modelA prog w).den = denA := rfl
theorem denA_ask {c : Code} (h : isAsk c = true) : denA c = askFin := by unfold denA; rw [if_pos h]
theorem denA_not {c : Code} (h : isAsk c = false) : denA c = denote table c := by unfold denA; rw [if_neg (by rw [h]; exact Bool.false_ne_true)]

theorem no_ask {prog : Program} {w : World} {Γ : Ctx} {p : Pos} {c : Code} {s s' : Shared} {e : End}
    (h : Runs (model prog w) Γ p ((model prog w).den c) [] s e s') : isAsk c = false := by
  cases hc : isAsk c with
  | false => rfl
  | true =>
    exfalso
    obtain rfl := isAsk_code hc
    rw [den_model, denote_ask] at h
    cases h with
    | again hq _ => exact absurd hq (by decide +kernel)

theorem den_A {prog : Program} {w : World} {c : Code} (h : isAsk c = false) : (model prog w).den c = (modelA prog w).den c := by rw [den_model, den_modelA, denA_not h]

theorem runs_A {prog : Program} {w : World} {Γ : Ctx} {p : Pos} {t : Sem Fin} {fs : List Frame} {s s' : Shared} {e : End}
    (h : Runs (model prog w) Γ p t fs s e s') : Runs (modelA prog w) Γ p t fs s e s' := by
  induction h with
  | done => exact .done
  | raise => exact .raise
  | again hq h ih => exact .again hq (den_A (no_ask h) ▸ ih)
  | rule _ ih => exact .rule ih
  | «at» _ ih => exact .at ih
  | load h _ ih => exact .load h ih
  | update h _ ih => exact .update h ih
  | loadIfAlive _ ih => exact .loadIfAlive ih
  | point _ ih => exact .point ih
  | alloc _ ih => exact .alloc ih
  | fresh _ ih => exact .fresh ih
  | ask _ ih => exact .ask ih
  | choose h _ ih => exact .choose h ih
  | os _ ih => exact .os ih
  | handled _ ih => exact .handled ih
  | genState h _ ih => exact .genState h ih
  | stack _ ih => exact .stack ih
  | thread _ ih => exact .thread ih
  | newGen _ ih => exact .newGen ih
  | call h _ ih1 ih2 => exact .call (den_A (no_ask h) ▸ ih1) ih2
  | callSusp h ih => exact .callSusp (den_A (no_ask h) ▸ ih)
  | yield => exact .yield
  | resumeFresh hg h hq _ ih1 ih2 => exact .resumeFresh hg (den_A (no_ask h) ▸ ih1) hq ih2
  | resumeSuspended hg _ hq _ ih1 ih2 => exact .resumeSuspended hg ih1 hq ih2
  | resumeJustStarted hg hv _ ih => exact .resumeJustStarted hg hv ih
  | resumeThrowFresh hg _ ih => exact .resumeThrowFresh hg ih
  | resumeRunning hg _ ih => exact .resumeRunning hg ih
  | resumeFinished hg _ ih => exact .resumeFinished hg ih
  | segRet _ _ ih1 ih2 => exact .segRet ih1 ih2
  | segGen _ _ ih1 ih2 => exact .segGen ih1 ih2
  | segSuspOut hs _ ih => exact .segSuspOut hs ih
  | segSuspGen hs _ hq _ ih1 ih2 => exact .segSuspGen hs ih1 hq ih2

theorem wakes_A {prog : Program} {w : World} {Γ : Ctx} {p : Pos} {g : Nat} {r : Resume} {s s' : Shared} {res : GenResult}
    (h : Wakes (model prog w) Γ p g r s res s') : Wakes (modelA prog w) Γ p g r s res s' := by
  unfold Wakes at h ⊢
  split at h
  · exact h.elim
  · split at h
    · obtain ⟨e₁, s₁, h1, hq, hr, hs⟩ := h
      rename_i c hg _
      exact ⟨e₁, s₁, den_A (no_ask h1) ▸ runs_A h1, hq, hr, hs⟩
    · exact h
    · exact h
  · obtain ⟨e₁, s₁, h1, hq, hr, hs⟩ := h
    exact ⟨e₁, s₁, runs_A h1, hq, hr, hs⟩
  · exact h
  · exact h

theorem wp_A {α : Type} {prog : Program} {w : World} {Γ : Ctx} (t : Sem α) : ∀ {Q : α → Pos → Shared → Prop} {E : Value → Pos → Shared → Prop} {p : Pos} {s : Shared},
    wp (model prog w) Γ t Q E p s → wp (modelA prog w) Γ t Q E p s := by
  induction t with
  | pure => exact id
  | raise => exact id
  | unsupported => exact id
  | finish => exact id
  | register => exact id
  | yield => exact id
  | fork => exact id
  | await => exact id
  | rule _ k ih => exact ih _
  | «at» _ k ih => exact ih _
  | load a _ k ih => intro Q E p s h; obtain ⟨o, ho, h⟩ := h; exact ⟨o, ho, ih o h⟩
  | update a _ f k ih => intro Q E p s h; obtain ⟨ho, h⟩ := h; exact ⟨ho, ih _ h⟩
  | loadIfAlive a k ih => exact ih _
  | point _ k ih => exact ih _
  | alloc o k ih => exact ih _
  | fresh k ih => exact ih _
  | ask k ih => exact ih _
  | choose src n k ih => intro Q E p s h; obtain ⟨ho, h⟩ := h; exact ⟨ho, ih _ h⟩
  | os q _ k ih => exact ih _
  | call c h g l k ih =>
    intro Q E p s hw
    obtain ⟨r, s', hr, hk⟩ := hw
    refine ⟨r, s', ?_, ih r hk⟩
    have h1 := runs_A hr
    rw [den_A (no_ask hr)] at h1; exact h1
  | handled own k ih => exact ih _
  | genState g k ih => intro Q E p s h; obtain ⟨o, ho, h⟩ := h; exact ⟨o, ho, ih _ h⟩
  | newGen c k ih => exact ih _
  | resume g r _ k ih => intro Q E p s h; obtain ⟨res, s', hw, h⟩ := h; exact ⟨res, s', wakes_A hw, ih _ h⟩
  | stack k ih => exact ih _
  | thread k ih => exact ih _

/-- every fact of the library's model is one of the altered model -/
theorem any_A {α : Type} {prog : Program} {w : World} {A : Around} {t : Sem α} {Q : α → Shared → Prop} {E : Value → Shared → Prop} {s : Shared}
    (h : wpAny (model prog w) A t Q E s) : wpAny (modelA prog w) A t Q E s := fun Γ p hΓ => wp_A t (h Γ p hΓ)
theorem code_A {prog : Program} {w : World} {A : Around} {c : Code} {R : Result → Shared → Prop} {s : Shared}
    (h : codeAny (model prog w) A c R s) : codeAny (modelA prog w) A c R s := fun Γ p hc hΓ => by
  obtain ⟨r, s', hr, hk⟩ := h Γ p hc hΓ
  refine ⟨r, s', ?_, hk⟩
  have h1 := runs_A hr
  rw [den_A (no_ask hr)] at h1; exact h1

/-- the ask itself -/
theorem ask_A {prog : Program} {w : World} {A : Around} {Q : Value → Shared → Prop} {E : Value → Shared → Prop} {s : Shared} (h : Q (.bool false) s) :
    wpAny (modelA prog w) A (runValue (.builtin "gc.ask" ⟨[rawInt 13], []⟩)) Q E s := by
  refine wpAny_runValue (codeAny_of_tree ?_)
  rw [den_modelA, denA_ask (c := .builtin "gc.ask" ⟨[rawInt 13], []⟩) (by decide +kernel)]
  exact wpAny_pure (M := modelA prog w) h
theorem noCollection_A {prog : Program} {w : World} {A : Around} {stop : String} {Q : Unit → Shared → Prop} {E : Value → Shared → Prop} {s : Shared} (h : Q () s) :
    wpAny (modelA prog w) A (noCollectionInside stop) Q E s := by
  unfold noCollectionInside
  refine wpAny_bind (ask_A ?_)
  rw [if_neg (by decide)]
  exact wpAny_pure h

/-- the machine under the altered denotation steps as the real one, or one step ahead of it at an ask -/
theorem step_A (prog : Program) (w : World) (s s' : Shared) (t t' : Thread) (h : step denA prog w s t = .go s' t') :
    step (denote table) prog w s t = .go s' t' ∨
      (step (denote table) prog w s t = .go s' { t' with cur := askAgain } ∧ t'.cur = askFin) := by
  obtain ⟨heap, gens, drawn, toks, os⟩ := s
  obtain ⟨cur, code, pos, stack⟩ := t
  have key : ∀ c, denote table c = denA c ∨ (denote table c = askAgain ∧ denA c = askFin) := by
    intro c
    cases hc : isAsk c with
    | false => exact .inl (denA_not hc).symm
    | true => obtain rfl := isAsk_code hc; exact .inr ⟨denote_ask, denA_ask rfl⟩
  cases cur with
  | pure fin =>
    cases fin with
    | done f => exact .inl h
    | again c =>
      simp only [step] at h ⊢
      injection h with h1 h2
      subst h1 h2
      rcases key c with e | ⟨e1, e2⟩
      · rw [e]; exact .inl rfl
      · rw [e1, e2]; exact .inr ⟨rfl, rfl⟩
  | call c hd g l k =>
    simp only [step] at h ⊢
    injection h with h1 h2
    subst h1 h2
    rcases key c with e | ⟨e1, e2⟩
    · rw [e]; exact .inl rfl
    · rw [e1, e2]; exact .inr ⟨rfl, rfl⟩
  | resume g r l k =>
    simp only [step] at h ⊢
    cases hg : gens[g]? with
    | none => simp only [hg] at h; cases h
    | some gs =>
      simp only [hg] at h ⊢
      cases gs with
      | fresh c =>
        cases r with
        | throw e => exact .inl h
        | send v =>
          cases v with
          | none =>
            simp only at h ⊢
            injection h with h1 h2
            subst h1 h2
            rcases key c with e | ⟨e1, e2⟩
            · rw [e]; exact .inl rfl
            · rw [e1, e2]; exact .inr ⟨rfl, rfl⟩
          | _ => exact .inl h
      | _ => exact .inl h
  | _ => exact .inl h

theorem step_A_halt (prog : Program) (w : World) (s s' : Shared) (t : Thread) (o : Outcome) (h : step denA prog w s t = .halt o s') :
    step (denote table) prog w s t = .halt o s' := by
  obtain ⟨heap, gens, drawn, toks, os⟩ := s
  obtain ⟨cur, code, pos, stack⟩ := t
  cases cur with
  | pure fin =>
    cases fin with
    | done f => exact h
    | again c => simp only [step] at h; cases h
  | call c hd g l k => simp only [step] at h; cases h
  | resume g r l k =>
    simp only [step] at h ⊢
    cases hg : gens[g]? with
    | none => simp only [hg] at h ⊢; exact h
    | some gs =>
      simp only [hg] at h ⊢
      cases gs with
      | fresh c =>
        cases r with
        | throw e => cases h
        | send v => cases v <;> simp only at h <;> cases h
      | _ => exact h
  | _ => exact h

/-- the sleeping collector's answer to the ask, by the real scheduler -/
theorem sstep_ask (prog : Program) (w : World) (s : Shared) (code : Code) (pos : Pos) (stack : List Frame) (hz : s.asleep) :
    sstep (denote table) prog w (.single s ⟨askAgain, code, pos, stack⟩) = .go (.single s ⟨askFin, code, pos, stack⟩) := by
  have hr := hz.1
  have hc := hz.2
  have hw : s.watching = false := by unfold Shared.watching; rw [hr]; rfl
  have h1 : (Config.single s ⟨askAgain, code, pos, stack⟩).collect? w.params = none := by simp [Config.collect?, Config.single, hw]
  have h2 : (Config.single s ⟨askAgain, code, pos, stack⟩).collectable = [] := by simp [Config.collectable, Config.single, hw]
  have hm : (Config.single s ⟨askAgain, code, pos, stack⟩).moves w.params.profile = [.run 0] := by
    simp [Config.moves, Config.single, movesFrom, Thread.moves, askAgain]
  have hpick : (Config.single s ⟨askAgain, code, pos, stack⟩).pick w = .ok (.run 0, .single s ⟨askAgain, code, pos, stack⟩) := by
    simp only [Config.pick, h1, h2, Config.pickThread, hm]
    cases w.params.lifetimes <;> simp
  have hask : askTurn w.params [] s ⟨askAgain, code, pos, stack⟩ [.int 13 0] = (s, ⟨askFin, code, pos, stack⟩) := by
    simp only [askTurn, hw]
    rw [if_pos (by simp)]
    rfl
  have hsp : Thread.special ⟨askAgain, code, pos, stack⟩ = true := by
    have : ("lifetime.ask".startsWith "lifetime.") = true := by decide +kernel
    simp [Thread.special, Thread.atCollectorCode, askAgain, this]
  have hlife : ∀ others, others = [] → lifeStep (denote table) prog w others s ⟨askAgain, code, pos, stack⟩ = .go s ⟨askFin, code, pos, stack⟩ := by
    rintro _ rfl
    simp only [lifeStep, hsp, if_true]
    have hct : collectorTurn? w.params [] s ⟨askAgain, code, pos, stack⟩ = some (s, ⟨askFin, code, pos, stack⟩) := by
      simp only [collectorTurn?, askAgain]
      exact congrArg some hask
    simp only [askAgain] at hct ⊢
    simp only [hct]
    simp [hc]
  simp only [sstep, hpick, Config.move]
  have hfin : Thread.finalizes ⟨askAgain, code, pos, stack⟩ = false := by simp [Thread.finalizes, askAgain]
  simp only [askAgain] at hfin hlife hsp ⊢
  simp only [Config.run, Config.single]
  simp [others_single, hfin, hlife, hsp]

theorem sched_A (prog : Program) (w : World) : ∀ (n : Nat) (s s' : Shared) (t : Thread) (o : Outcome), s.asleep →
    runN denA prog w n s t = .halted o s' → o.ends = true →
    (∀ k s₁ t₁, runN denA prog w k s t = .running s₁ t₁ → t₁.calm = true) →
    ∃ m, schedN (denote table) prog w m (.single s t) = .halted o s' := by
  intro n
  induction n with
  | zero => intro s s' t o _ h; cases h
  | succ n ih =>
    intro s s' t o hz h ho hc
    simp only [runN] at h
    have hcalm := hc 0 s t rfl
    have real := sstep_single (denote table) prog w s t hcalm hz
    cases hs : step denA prog w s t with
    | halt o₂ s₂ =>
      simp only [hs] at h
      injection h with h1 h2
      subst h1 h2
      have e := step_A_halt prog w s s₂ t o₂ hs
      rcases real with r | r
      · refine ⟨1, ?_⟩
        simp only [schedN, r, e, Step.lift]
      · rw [e] at r; injection r with r1 _; subst r1; exact absurd ho (by simp [Outcome.ends])
    | go s₂ t₂ =>
      simp only [hs] at h
      have hz₂ : s₂.asleep := by
        have hl := step_life denA prog w s s₂ t t₂ hs
        exact Shared.asleep_of_life hl hz
      obtain ⟨m, hm⟩ := ih s₂ s' t₂ o hz₂ h ho (fun k s₁ t₁ hk => hc (k + 1) s₁ t₁ (by simp only [runN, hs]; exact hk))
      rcases step_A prog w s s₂ t t₂ hs with e | ⟨e, ec⟩
      · rcases real with r | r
        · refine ⟨m + 1, ?_⟩
          simp only [schedN, r, e, Step.lift]; exact hm
        · rw [e] at r; cases r
      · rcases real with r | r
        · refine ⟨m + 2, ?_⟩
          obtain ⟨cur₂, code₂, pos₂, stack₂⟩ := t₂
          obtain rfl : cur₂ = askFin := ec
          simp only [schedN, r, e, Step.lift, sstep_ask prog w s₂ code₂ pos₂ stack₂ hz₂]; exact hm
        · rw [e] at r; cases r

end Mine

end

/-! ## LNoX -/
section
open PySem PySem.W PyProof.Rows PySem.Calls
namespace Mine
set_option maxRecDepth 100000
open Sem (wp)

/-- the one built-in that looks at the stack below it for itself -/
def isX : Code → Bool
  | .builtin id _ => id == "callable_iterator.__next__"
  | _ => false
def NoX (l : List (Code × Pos)) : Prop := ∀ x ∈ l, isX x.1 = false
theorem NoX.nil : NoX [] := fun _ h => absurd h (by simp)
theorem NoX.cons {c : Code} {p : Pos} {l : List (Code × Pos)} (h : isX c = false) (hl : NoX l) : NoX ((c, p) :: l) := fun x hx => by
  rcases List.mem_cons.mp hx with rfl | hx
  · exact h
  · exact hl x hx
theorem NoX.append {l l' : List (Code × Pos)} (h : NoX l) (hl : NoX l') : NoX (l ++ l') := fun x hx => by
  rcases List.mem_append.mp hx with hx | hx
  · exact h x hx
  · exact hl x hx
theorem NoX.left {l l' : List (Code × Pos)} (h : NoX (l ++ l')) : NoX l := fun x hx => h x (List.mem_append_left _ hx)
theorem NoX.right {l l' : List (Code × Pos)} (h : NoX (l ++ l')) : NoX l' := fun x hx => h x (List.mem_append_right _ hx)

/-- wpAny, where no walk of a callable_iterator is under way on the stack -/
def wpR {α : Type} (M : Model) (A : Around) (t : Sem α) (Q : α → Shared → Prop) (E : Value → Shared → Prop) (s : Shared) : Prop :=
  ∀ Γ p, Γ.In A → isX Γ.code = false → NoX Γ.below → wp M Γ t (fun a _ s' => Q a s') (fun e _ s' => E e s') p s
def codeR (M : Model) (A : Around) (c : Code) (R : Result → Shared → Prop) (s : Shared) : Prop :=
  ∀ Γ p, Γ.code = c → Γ.Below A → NoX Γ.below → wpCode M Γ R p s

section
variable {α β : Type} {M : Model} {A : Around} {E : Value → Shared → Prop} {s : Shared}
theorem wpR_of {t : Sem α} {Q : α → Shared → Prop} (h : wpAny M A t Q E s) : wpR M A t Q E s := fun Γ p hΓ _ _ => h Γ p hΓ
theorem codeR_of {c : Code} {R : Result → Shared → Prop} (h : codeAny M A c R s) : codeR M A c R s := fun Γ p hc hΓ _ => h Γ p hc hΓ
theorem wpR_pure {a : α} {Q : α → Shared → Prop} (h : Q a s) : wpR M A (pure a) Q E s := fun _ _ _ _ _ => h
theorem wpR_mono {t : Sem α} {Q Q' : α → Shared → Prop} {E' : Value → Shared → Prop} (h : wpR M A t Q E s)
    (hQ : ∀ a s, Q a s → Q' a s) (hE : ∀ e s, E e s → E' e s) : wpR M A t Q' E' s :=
  fun Γ p hΓ h1 h2 => Sem.wp_mono M Γ t (fun a _ s => hQ a s) (fun e _ s => hE e s) p s (h Γ p hΓ h1 h2)
theorem wpR_bind {m : Sem α} {f : α → Sem β} {Q : β → Shared → Prop} (h : wpR M A m (fun a s' => wpR M A (f a) Q E s') E s) :
    wpR M A (m >>= f) Q E s := fun Γ p hΓ h1 h2 => by
  rw [Sem.wp_bind']
  exact Sem.wp_mono M Γ m (fun a p' s' h' => h' Γ p' hΓ h1 h2) (fun _ _ _ h' => h') p s (h Γ p hΓ h1 h2)
/-- a leaf of the library's ahead of the rest -/
theorem wpR_step {m : Sem α} {f : α → Sem β} {Q : β → Shared → Prop} (h : wpAny M A m (fun a s' => wpR M A (f a) Q E s') E s) :
    wpR M A (m >>= f) Q E s := wpR_bind (wpR_of h)
theorem wpR_attempt {m : Sem α} {Q : Except Value α → Shared → Prop} (h : wpR M A m (fun a => Q (.ok a)) (fun e => Q (.error e)) s) :
    wpR M A m.attempt Q E s := fun Γ p hΓ h1 h2 => by rw [Sem.wp_attempt]; exact h Γ p hΓ h1 h2
theorem wpR_holding {vs : List Value} {m : Sem α} {Q : α → Shared → Prop} (h : wpR M A m Q E s) : wpR M A (holding vs m) Q E s :=
  fun Γ p hΓ h1 h2 => by rw [Sem.wp_holding]; exact h Γ p hΓ h1 h2
theorem wpR_onRaise {m : Sem α} {k : Value → Sem Unit} {Q : α → Shared → Prop}
    (h : wpR M A m Q (fun e s' => wpR M A (k e) (fun _ s'' => E e s'') E s') s) : wpR M A (m.onRaise k) Q E s := fun Γ p hΓ h1 h2 => by
  rw [Sem.wp_onRaise]
  exact Sem.wp_mono M Γ m (fun _ _ _ h' => h') (fun e p' s' h' => h' Γ p' hΓ h1 h2) p s (h Γ p hΓ h1 h2)
theorem wpR_of_eq {m : Sem α} {a : α} {Q : α → Shared → Prop} (he : m = pure a) (h : Q a s) : wpR M A m Q E s := by rw [he]; exact wpR_pure h
theorem wpR_neg {c : Prop} [Decidable c] {a b : Sem α} {Q : α → Shared → Prop} (hc : ¬ c) (h : wpR M A b Q E s) : wpR M A (if c then a else b) Q E s := by rw [if_neg hc]; exact h
theorem wpR_pos {c : Prop} [Decidable c] {a b : Sem α} {Q : α → Shared → Prop} (hc : c) (h : wpR M A a Q E s) : wpR M A (if c then a else b) Q E s := by rw [if_pos hc]; exact h
theorem codeR_mono {c : Code} {R R' : Result → Shared → Prop} (h : codeR M A c R s) (hR : ∀ r s, R r s → R' r s) : codeR M A c R' s :=
  fun Γ p hc hΓ h2 => wpCode_mono hR (h Γ p hc hΓ h2)
theorem wpR_run {c : Code} {h : Option Value} {Q : Flow → Shared → Prop}
    (hc : codeR M (A.mark h) c (fun r s' => match r with | .ok f => Q f s' | .error e => E e s') s) (hnb : h ≠ some byPass := by intro x; cases x) :
    wpR M A (run c h) Q E s :=
  fun Γ p hΓ h1 h2 => by rw [Sem.wp_run]; exact hc _ p rfl (hΓ.enter c h p hnb) (NoX.cons h1 h2)
theorem wpR_runValue {c : Code} {Q : Value → Shared → Prop}
    (hc : codeR M A c (fun r s' => match r with | .ok (.ret v) => Q v s' | .ok _ => False | .error e => E e s') s) :
    wpR M A (runValue c) Q E s := fun Γ p hΓ h1 h2 => by rw [Sem.wp_runValue]; exact hc _ p rfl (hΓ.enter c none p (by intro x; cases x)) (NoX.cons h1 h2)
theorem wpR_call {f : Value} {pos : List Value} {kw : List (Str × Value)} {Q : Value → Shared → Prop}
    (hc : codeR M A (.call f ⟨pos, kw⟩) (fun r s' => match r with | .ok (.ret v) => Q v s' | .ok _ => False | .error e => E e s') s) :
    wpR M A (call f pos kw) Q E s := wpR_runValue hc
/-- what an ended tree is worth to a code -/
abbrev finR (M : Model) (A : Around) (R : Result → Shared → Prop) : Fin → Shared → Prop :=
  fun fin s' => match fin with | .done f => R (.ok f) s' | .again c' => c'.quiet = true ∧ codeR M A c' R s'
theorem codeR_of_tree {c : Code} {R : Result → Shared → Prop} (hx : isX c = false)
    (h : wpR M (A.under c) (M.den c) (finR M A R) (fun e s' => R (.error e) s') s) : codeR M A c R s := fun Γ p hc hΓ h2 => by
  subst hc
  rw [wpCode_iff_wp]
  refine Sem.wp_mono M Γ _ ?_ (fun _ _ _ h => h) p s (h Γ p (hΓ.in) hx h2)
  intro fin p' s' hf
  cases fin with
  | done f => exact hf
  | again c' =>
    obtain ⟨hq, hk⟩ := hf
    exact ⟨hq, hk (Γ.goto c') p' rfl (hΓ.goto c') h2⟩
/-- the built-in itself: below it the stack is clear -/
theorem codeR_X {c : Code} {R : Result → Shared → Prop}
    (h : ∀ Γ p, Γ.In (A.under c) → Γ.code = c → NoX Γ.below → wp M Γ (M.den c) (fun fin _ s' => finR M A R fin s') (fun e _ s' => R (.error e) s') p s) : codeR M A c R s := fun Γ p hc hΓ h2 => by
  subst hc
  rw [wpCode_iff_wp]
  refine Sem.wp_mono M Γ _ ?_ (fun _ _ _ h => h) p s (h Γ p (hΓ.in) rfl h2)
  intro fin p' s' hf
  cases fin with
  | done f => exact hf
  | again c' =>
    obtain ⟨hq, hk⟩ := hf
    exact ⟨hq, hk (Γ.goto c') p' rfl (hΓ.goto c') h2⟩
end
end Mine

end

/-! ## LAskHead -/
section
open PySem PySem.W PyProof.Rows PySem.Calls
namespace Mine

theorem runN_lifeA {den : Code → Sem Fin} {prog : Program} {w : World} {n : Nat} {s s' : Shared} {t : Thread} {o : Outcome} (h : runN den prog w n s t = .halted o s') :
    s'.heap.life = s.heap.life := by
  induction n generalizing s t with
  | zero => cases h
  | succ n ih =>
    simp only [runN] at h
    cases hs : step den prog w s t with
    | go s₂ t₂ => rw [hs] at h; exact (ih h).trans (step_life den prog w s s₂ t t₂ hs)
    | halt o₂ s₂ => rw [hs] at h; cases h; rw [step_halt_same den prog w s s' t o hs]

theorem thread_ends_A {prog : Program} {w : World} {t : Sem Fin} {s : Shared} {R : Result → Shared → Prop} (hreg : s.asleep)
    (h : wpR (modelA prog w) callerA t (fun fin s' => ∃ f, fin = .done f ∧ (R (.ok f) s' ∧ leftWithCleanup s'.gens = false)) (fun e s' => R (.error e) s' ∧ leftWithCleanup s'.gens = false) s) :
    ∃ n r s' s'', s'.heap.life = s.heap.life ∧
      schedN (denote table) prog w n (.single s ⟨t, .builtin "claim.caller" {}, default, []⟩) = .halted (outcomeOf r) s' ∧ s'.forget = s''.forget ∧ R r s'' := by
  have h1 : Sem.wp (modelA prog w) ⟨.builtin "claim.caller" {}, none, none, [], none⟩ t
      (Sem.finPost (modelA prog w) ⟨.builtin "claim.caller" {}, none, none, [], none⟩ fun r s' => R r s' ∧ leftWithCleanup s'.gens = false)
      (fun e _ s' => R (.error e) s' ∧ leftWithCleanup s'.gens = false) default s := by
    refine Sem.wp_mono (modelA prog w) _ t ?_ ?_ default s (h _ default caller_in rfl NoX.nil)
    · rintro fin p' s' ⟨f, rfl, hr⟩
      exact hr
    · intro e p' s' hr
      exact hr
  obtain ⟨n, r, s', hn, hR⟩ := (wp_iff_halts (M := modelA prog w) t R default s).mp h1
  obtain ⟨s'', hr, hf, hc⟩ := runNI_real (modelA prog w).den (modelA prog w).prog (modelA prog w).w hn (outcomeOf_ends r)
  have hl := runN_lifeA hr
  obtain ⟨m, hm⟩ := sched_A prog w n s s'' _ (outcomeOf r) hreg hr (outcomeOf_ends r) hc
  exact ⟨m, r, s'', s', hl, hm, hf, hR⟩

theorem callFrom_A {c : ClaimW} {tree : List Value → Sem Fin} {w : World} {s : Shared} {free : Addr → Prop} {gens : Prop} {kept : Heap → Prop} (hz : s.asleep) (hgens : s.gens = #[])
    (hspec : ∀ args, c.pre args = true → WData.layableAll args = true →
      ∀ ord : List DictEntry → List DictEntry, (∀ l, (ord l).Perm l) →
      ∃ vs s₁, layAllW c.records (classAt s.heap) w.params ord args s = some (vs, s₁) ∧
        wpR (modelA c.prog w) callerA (tree vs) (fun fin s' => ∃ f, fin = .done f ∧ (c.Ends s args vs s₁ (.ok f) s' ∧ s'.os = s.os ∧ AllBare s'.gens ∧ kept s'.heap))
          (fun e s' => c.Ends s args vs s₁ (.error e) s' ∧ s'.os = s.os ∧ AllBare s'.gens ∧ kept s'.heap) s₁) :
    c.CallFrom (fun vs => ⟨tree vs, .builtin "claim.caller" {}, default, []⟩) w free gens kept s := by
  intro args hpre hlay ord hord
  obtain ⟨vs, s₁, hlaid, hcode⟩ := hspec args hpre hlay ord hord
  have hal := layAllW_rest _ _ _ hlaid
  obtain ⟨k, r, s', s'', hlife₁, hsched, hfo, hcase, hos, hkp⟩ := thread_ends_A (prog := c.prog) (w := w) (t := tree vs) (s := s₁)
    (R := fun r s' => c.Ends s args vs s₁ r s' ∧ s'.os = s.os ∧ kept s'.heap)
    (Shared.asleep_of_life hal.2.2.2 hz)
    (wpR_mono hcode (by
      rintro fin s' ⟨f, e, h1, h2, h3, h4⟩
      exact ⟨f, e, ⟨h1, h2, h4⟩, leftWithCleanup_false_of_bare h3⟩) (by
      rintro e s' ⟨h1, h2, h3, h4⟩
      exact ⟨⟨h1, h2, h4⟩, leftWithCleanup_false_of_bare h3⟩))
  obtain ⟨eh, _, _, eo, _⟩ := Shared.forget_eq hfo
  have hcase := hcase.congr eh
  have hkp : kept s'.heap := by rw [eh]; exact hkp
  rw [← eo] at hos
  have hlife : s'.heap.life = s.heap.life := hlife₁.trans hal.2.2.2
  refine ⟨vs, s₁, hlaid, k, _, s', hsched, ?_, (fun _ i x hx => by rw [hgens] at hx; simp at hx), hkp, by rw [hlife], Shared.rest_eq hos⟩
  rcases hcase with ⟨v, rfl, d1, d2, d3, d4, d5⟩ | ⟨e, ob, cls, rfl, d1, d2, d3, d4, d5⟩
  · exact .inl ⟨v, rfl, d1, d2, d3, fun b o y _ => d4 b o y, d5⟩
  · exact .inr ⟨e, ob, cls, rfl, d1, d2, d3, d4, fun b o y _ => d5 b o y⟩

/-- the walk that is asked of the law's def, over the altered model -/
abbrev WalkA (q : Program) (loose : List Str) (XP : (Str → Option Value) → Heap → Prop) (YP : World → Heap → Prop) (r : RowW) (d : DefRec) (kwd : List (Str × Expr)) : Prop :=
  ∀ (w : World) (s₀ s₁ : Shared) (mg mb : Str → Option Value), Ground q loose r.records XP w s₀ mg mb s₁.heap → YP w s₁.heap → ∀ (a : Addr) (o : Obj) (pm cd doc dV kV : Value), s₁.heap.get? a = some o →
    o.data = .func { docDef d.name d.params d.body d.scope pm cd doc with defaults := dV, kwdefaults := kV } → s₁.heap.CodeRec cd d.name → Dflts mg s₁.heap d.params kwd dV kV → mg d.name = some (.ref a) → s₁.gens = #[] →
    ∀ (args : List WData) (vals : List Value) (as : List Addr), r.claim.pre args = true → WData.layableAll args = true → ReadsAllW r.records (classAt s₀.heap) s₁.heap vals args as → WellAll w.params s₁.heap vals args → (∀ a ∈ as, (a == sysModules) = false) →
      wpR (modelA r.prog w) callerA (PySem.call (.ref a) vals) (fun v s' => GoodWG r.claim (classAt s₀.heap) (ExcName.means s₀.heap) args s₁ (.ok (.ret v)) s')
        (fun e s' => GoodWG r.claim (classAt s₀.heap) (ExcName.means s₀.heap) args s₁ (.error e) s') s₁

theorem lead_A {r : OpenRow} {q : Program} {loose : List Str} {Xt : Shared → Bool} {XP : (Str → Option Value) → Heap → Prop} {α : Type} {Yf : Shared → α} {Ya : World → α} {YP : World → Heap → Prop} {d : DefRec} {kwd : List (Str × Expr)} {N : Nat}
    (left : LeftO r.prog q loose Xt Yf Ya N) (hY : ∀ w s, Yf s = Ya w → YP w s.heap) (hYk : ∀ w h h', YP w h → (∀ b o, h.get? b = some o → h'.get? b = some o) → YP w h')
    (hX : ∀ s, Xt s = true → XP (s.heap.nsMap mainGlobals) s.heap) (hXk : ∀ mg h h', XP mg h → (∀ b o, h.get? b = some o → h'.get? b = some o) → XP mg h')
    (hdef : defOf q r.name = some (d, kwd)) (hp : r.prog.theDef r.name = some (d.params, d.body, d.scope)) (hk : kwWritten? d.params.kwonlyargs d.params.kw_defaults = some kwd) (hRf : ∀ s, Xt s = true → RecFacts r.records s.heap) (hwr : (!r.writes || r.records.isEmpty) = true)
    (k1 : r.wellSaid = true) (ok : (chainsOk q && opensWell r.prog && (frees r.toRowW && r.within.isEmpty)) = true) (hb : r.prog.bare) (hw : r.toRowW.promised)
    (call : WalkA q loose XP YP r.toRowW d kwd) : r.Holds := by
  refine ⟨k1, hw, ?_⟩
  obtain ⟨ok1, k5⟩ := Bool.and_eq_true_iff.mp ok
  obtain ⟨hch, o1⟩ := Bool.and_eq_true_iff.mp ok1
  obtain ⟨k5, k6⟩ := Bool.and_eq_true_iff.mp k5
  obtain ⟨hsame, hu, ha, hap, hm⟩ := frees_parts k5
  refine ⟨⟨hb, o1, by show r.toRowW.makers.map _ = []; rw [hm]; rfl⟩, hw.witness, fun w => ⟨(left.behind hX hch w).1, fun s' hs' => ?_⟩⟩
  obtain ⟨s₀, hf, hg0, s, hT, hz, hgens, hg, G00, y⟩ := (left.behind (XP := fun mg h => XP mg h ∧ RecFacts r.records h) (fun s hs => ⟨hX s hs, hRf s hs⟩) hch w).2 s' hs'
  have G0 : Ground q loose [] XP w s (s.heap.nsMap mainGlobals) (s.heap.nsMap builtinsNs) s.heap := ⟨G00.T, G00.B, G00.D, G00.TE, G00.TD, G00.W, G00.X.1, G00.cls, G00.has, G00.apart, G00.once, G00.K⟩
  have RF := G00.X.2
  have hgens : s.gens = #[] := Array.eq_empty_of_size_eq_zero (beq_iff_eq.mp hgens)
  have G : Ground q loose r.records XP w s _ _ s.heap := RF.ground G0
  refine ⟨s₀, hf, hg0, s, hT, fun n hn => ?_, RF.1, RF.2.1, ?_⟩
  · obtain rfl : n = r.name := by split at hn <;> simp_all
    exact pinned_of_view hg G0 hdef hp hk
  refine callFrom_A (c := r.toRowW.claim) hz hgens fun args hpre hlay ord hord => ?_
  obtain ⟨⟨vs, s₁⟩, hlaid⟩ := Option.isSome_iff_exists.mp (layAllW_isSome (P := w.params) (ord := ord) G.has args r.args s (pre_splitW hpre).1)
  have keeps := layAllW_keeps _ _ _ hlaid
  have hal := layAllW_rest _ _ _ hlaid
  obtain ⟨as, hrd, hin, hold⟩ := reads_layAllW hord _ _ _ hlaid hlay s₁.heap (fun _ _ e => e)
  have L : Laid r.records w s s₁ args vs as := ⟨⟨ord, hord, hlaid⟩, hrd, hin, hold, keeps, hal.1.trans hgens, hal.2.2.1⟩
  have G₁ := G.keeps hXk keeps
  obtain ⟨a, o, pm, cd, doc, dV, kV, h1, h2, h3, h4, h5⟩ := G₁.fn hdef
  have h := call w s s₁ _ _ G₁ (hYk _ _ _ (hY w s y) keeps) a o pm cd doc dV kV h2 h3 h4 h5 (defOf_name hdef ▸ h1) L.gens args vs as hpre hlay L.reads L.well (L.low G.low)
  have hi := ident_freeW hu ha hap
  have hwi : r.toRowW.claim.within = [] := List.isEmpty_iff.mp k6
  refine ⟨vs, s₁, hlaid, ?_⟩
  refine wpR_step (wpAny_nsGet G₁.T.g ?_)
  rw [h1]
  refine wpR_bind (wpR_mono h (fun v s' g => wpR_pure ⟨_, rfl, have z := g.laid (c := r.toRowW.claim) hsame hwi hi L; ⟨z.1, z.2.1, z.2.2, fun q => ⟨namesKept_of hT hg r.keeps keeps g.2.1.old, noTable hwr q⟩⟩⟩)
    fun e s' g => have z := g.laid (c := r.toRowW.claim) hsame hwi hi L; ⟨z.1, z.2.1, z.2.2, fun q => ⟨namesKept_of hT hg r.keeps keeps g.2.1.old, noTable hwr q⟩⟩)
end Mine

namespace Mine.Hd
/-- a program, told beside a fact of the context: the head-maker then goes piece by piece at once -/
abbrev Pin (_ : Decidable True) (p : Program) : Program := p
/-- a call to be walked, told beside the same fact -/
abbrev PinP (_ : Decidable True) (p : Prop) : Prop := p
namespace PySem.W
/-- under this road of names the library's head-maker finds it in place of its own -/
theorem holds_open {r : OpenRow} {q : Program} {loose : List Str} {Xt : Shared → Bool} {XP : (Str → Option Value) → Heap → Prop} {α : Type} {Yf : Shared → α} {Ya : World → α} {YP : World → Heap → Prop} {d : DefRec} {kwd : List (Str × Expr)} {N : Nat} [here : Decidable True]
    (left : LeftO (Pin here r.prog) q loose Xt Yf Ya N) (hY : ∀ w s, Yf s = Ya w → YP w s.heap) (hYk : ∀ w h h', YP w h → (∀ b o, h.get? b = some o → h'.get? b = some o) → YP w h')
    (hX : ∀ s, Xt s = true → XP (s.heap.nsMap mainGlobals) s.heap) (hXk : ∀ mg h h', XP mg h → (∀ b o, h.get? b = some o → h'.get? b = some o) → XP mg h')
    (hdef : defOf q r.name = some (d, kwd)) (hp : r.prog.theDef r.name = some (d.params, d.body, d.scope)) (hk : kwWritten? d.params.kwonlyargs d.params.kw_defaults = some kwd) (hRf : ∀ s, Xt s = true → RecFacts r.records s.heap) (hwr : (!r.writes || r.records.isEmpty) = true)
    (k1 : r.wellSaid = true) (ok : (chainsOk q && opensWell r.prog && (frees r.toRowW && r.within.isEmpty)) = true) (hb : r.prog.bare) (hw : r.toRowW.promised)
    (call : PinP here (WalkA q loose XP YP r.toRowW d kwd)) : r.Holds := lead_A left hY hYk hX hXk hdef hp hk hRf hwr k1 ok hb hw call
end PySem.W
end Mine.Hd

end

/-! ## LChk -/
section
open PySem PySem.W PyProof.Rows PySem.Calls PySem.Builtin.Re
namespace Mine
set_option maxRecDepth 100000
set_option linter.unusedVariables false

/-! the text's statements, and the five codes in them -/
def wordsOf (st : Stmt) : Array Nat := match st with
  | .Assign _ (.Call _ args _ _) _ => match args[2]? with
    | some (Expr.List es _) => (es.map fun e => match e with | Expr.Constant (Const.int i) _ _ => i.toNat | _ => 0).toArray
    | _ => #[]
  | _ => #[]
def topStmt (i : Nat) : Stmt := PySem.Challenge.pw_fh0025_01.main.body.getD i (.Pass default)
def exCode : Array Nat := wordsOf (topStmt 2)
def dcCode : Array Nat := wordsOf (topStmt 3)
def cmCode : Array Nat := wordsOf (topStmt 4)
def kwCode : Array Nat := wordsOf (topStmt 5)
def opCode : Array Nat := wordsOf (topStmt 6)

/-! what is looked at in the text and in the heap that the head leaves -/
def bodyOf (st : Stmt) : List Stmt := match st with | .FunctionDef (body := b) .. => b | _ => []
def scopeOf (st : Stmt) : Scope := match st with | .FunctionDef (scope := b) .. => b | _ => { kind := .function, names := [], isGenerator := false, isCoroutine := false, more := [] }
def paramsOf (st : Stmt) : Arguments := match st with | .FunctionDef (args := b) .. => b | _ => { posonlyargs := [], args := [], vararg := none, kwonlyargs := [], kw_defaults := [], kwarg := none, defaults := [] }
def posOfD (st : Stmt) : Pos := match st with | .FunctionDef (pos := b) .. => b | _ => default
def freeOk (q : Program) (loose : List Str) (x : Str) : Bool := !startupNames.contains x && !loose.contains x && !((recsOf q).map (·.name)).contains x && !((litsOf q).map (·.1)).contains x && !((clssOf q loose).map (·.name)).contains x
def nameCheck (K : Frag) (rx : Str) (P : Addr) : Bool := match K.lookup mainGlobals with
  | some o => (match o.data with | .dict es _ => (match nsFind es rx with | some (.ref a) => a == P | _ => false) | _ => false)
  | none => false
def rawIs (v : Value) (n : Nat) : Bool := match v with | .int i t => i == (n : Int) && t == 0 | _ => false
def natsEq : List Value → List Nat → Bool
  | [], [] => true
  | v :: vs, n :: ns => Nat.beq (reRawOf v).toNat n && natsEq vs ns
  | _, _ => false
theorem natsEq_eq : ∀ {vs : List Value} {ns : List Nat}, natsEq vs ns = true → vs.map (fun v => (reRawOf v).toNat) = ns
  | [], [], _ => rfl
  | v :: vs, n :: ns, h => by
    unfold natsEq at h
    rw [Bool.and_eq_true] at h
    rw [List.map_cons, natsEq_eq h.2, Nat.eq_of_beq_eq_true h.1]
theorem natsEq_arr {items : Array Value} {code : Array Nat} (h : natsEq items.toList code.toList = true) : (items.map reRawOf).map Int.toNat = code := by
  apply Array.toList_inj.mp
  rw [Array.toList_map, Array.toList_map, List.map_map, ← natsEq_eq h]
  rfl
def patCheck (K : Frag) (P t : Addr) (code : Array Nat) (groups : Nat) : Bool := match K.lookup P, K.lookup t with
  | some ⟨.type c, none, .fields ⟨[_, _, g, _, _, .ref t', z]⟩, ⟨[]⟩⟩, some ⟨.type c2, none, .seq items 0, ⟨[]⟩⟩ => c == "re.Pattern" && c2 == "tuple" && t' == t && rawIs g groups && rawIs z 0 && natsEq items.toList code.toList
  | _, _ => false
def defCheck (q : Program) (name : Str) (i : Nat) : Prop := (recsOf q).find? (fun e => e.name == name) = some ⟨name, paramsOf (topStmt i), bodyOf (topStmt i), scopeOf (topStmt i), posOfD (topStmt i)⟩
/-- what the head's view and heap must show -/
structure HdOk (q : Program) (loose : List Str) (K : Params → Frag) : Prop where
  nm1 : ∀ P, nameCheck (K P) "OPERATOR_REGEX" (56 : Nat) = true
  nm2 : ∀ P, nameCheck (K P) "KEYWORD_REGEX" (51 : Nat) = true
  nm3 : ∀ P, nameCheck (K P) "WHITESPACE_AFTER_COMMA_REGEX" (46 : Nat) = true
  nm4 : ∀ P, nameCheck (K P) "WHITESPACE_AFTER_DECORATOR_REGEX" (41 : Nat) = true
  nm5 : ∀ P, nameCheck (K P) "EXTRANEOUS_WHITESPACE_REGEX" (36 : Nat) = true
  pt1 : ∀ P, patCheck (K P) (56 : Nat) (55 : Nat) opCode 2 = true
  pt2 : ∀ P, patCheck (K P) (51 : Nat) (50 : Nat) kwCode 2 = true
  pt3 : ∀ P, patCheck (K P) (46 : Nat) (45 : Nat) cmCode 0 = true
  pt4 : ∀ P, patCheck (K P) (41 : Nat) (40 : Nat) dcCode 0 = true
  pt5 : ∀ P, patCheck (K P) (36 : Nat) (35 : Nat) exCode 0 = true
  fr0 : (["len", "abs", "range", "list"] : List Str).all (freeOk q (looseW q loose)) = true
  fd7 : defCheck q "extraneous_whitespace" 7
  fd8 : defCheck q "whitespace_around_keywords" 8
  fd9 : defCheck q "whitespace_around_operator" 9
  fd10 : defCheck q "whitespace_around_comma" 10
  fd12 : defCheck q "_law_gaps" 12
  fd13 : defCheck q "_law_next" 13
  fd14 : defCheck q "_law_gap" 14
  fd15 : defCheck q "_law_told" 15
  fd16 : defCheck q "law" 16
end Mine

end

/-! ## LHead -/
section
open PySem PySem.W PyProof.Rows
namespace Mine.Hd
set_option maxRecDepth 100000
set_option maxHeartbeats 8000000
set_option linter.unusedVariables false
/-- the head: the law holds where its def's walk is given for every view that shows what must be shown -/
theorem hd (h : ∀ (q : Program) (loose : List Str) (K : Params → Frag) (XP : (Str → Option Value) → Heap → Prop) (YP : World → Heap → Prop) (d : DefRec) (kwd : List (Str × Expr)), HdOk q loose K → (∀ w hp, YP w hp → (K w.params).In hp) → d.name = ("law" : Str) →
    WalkA q loose XP YP PySem.Challenge.rw_fh0025_01.row.toRowW d kwd) : PySem.Challenge.rw_fh0025_01.Holds := by
  w_on
  o_law
  let here : Decidable True := .isTrue (have _ := h; trivial)
  k_head
  case hw => w_witness2
  unfold PinP
  refine h _ _ _ _ _ _ _ ?ok (fun w hp Y => kIn_of Y) rfl
  constructor
  case nm1 => as_aux_lemma => intro P; kernel_rfl
  case nm2 => as_aux_lemma => intro P; kernel_rfl
  case nm3 => as_aux_lemma => intro P; kernel_rfl
  case nm4 => as_aux_lemma => intro P; kernel_rfl
  case nm5 => as_aux_lemma => intro P; kernel_rfl
  case pt1 => as_aux_lemma => intro P; kernel_rfl
  case pt2 => as_aux_lemma => intro P; kernel_rfl
  case pt3 => as_aux_lemma => intro P; kernel_rfl
  case pt4 => as_aux_lemma => intro P; kernel_rfl
  case pt5 => as_aux_lemma => intro P; kernel_rfl
  case fr0 => as_aux_lemma => decide +kernel
  case fd7 => as_aux_lemma => unfold defCheck; kernel_rfl
  case fd8 => as_aux_lemma => unfold defCheck; kernel_rfl
  case fd9 => as_aux_lemma => unfold defCheck; kernel_rfl
  case fd10 => as_aux_lemma => unfold defCheck; kernel_rfl
  case fd12 => as_aux_lemma => unfold defCheck; kernel_rfl
  case fd13 => as_aux_lemma => unfold defCheck; kernel_rfl
  case fd14 => as_aux_lemma => unfold defCheck; kernel_rfl
  case fd15 => as_aux_lemma => unfold defCheck; kernel_rfl
  case fd16 => as_aux_lemma => unfold defCheck; kernel_rfl
end Mine.Hd

end

/-! ## LSre -/
section
/-! The regex machine, stepped: plain lemmas, no program in sight. -/
namespace Mine
open PySem PySem.Sre

/-- what does not turn in a search -/
structure Cfg where
  code : Array Nat
  text : Array Nat
  lim : Nat
  lastStart : Nat
structure Regs where
  handed : Nat
  om : Bool
  marks : Array (Option Nat)
  lm : Int
  li : Int
  start : Nat
structure S where
  pc : Nat
  pos : Nat
  r : Regs
  fr : List Sre.Frame
  ans : Option Bool
def mkM (c : Cfg) (s : S) (sn : Seen) : M :=
  { code := c.code, text := c.text, lim := c.lim, start := s.r.start, lastStart := c.lastStart, pc := s.pc, pos := s.pos, handed := s.r.handed, outermost := s.r.om,
    marks := s.r.marks, lastmark := s.r.lm, lastindex := s.r.li, frames := s.fr, weight := s.fr.length, answer := s.ans, seen := sn }
def mkF (wait : Wait) (pc pos : Nat) (om : Bool) (count : Int) (lm li : Int) : Sre.Frame :=
  { wait, pc, pos, outermost := om, count, kept := { lastmark := lm, lastindex := li } }

def Leads (c : Cfg) (b : Nat) (s s' : S) : Prop :=
  ∀ sn, ∃ k, k ≤ b ∧ ∃ sn', ∀ n, M.runFor (n + k) (mkM c s sn) = M.runFor n (mkM c s' sn')
theorem Leads.refl (c : Cfg) (s : S) : Leads c 0 s s := fun sn => ⟨0, Nat.le_refl _, sn, fun _ => rfl⟩
theorem Leads.trans {c : Cfg} {a b : Nat} {s s' s'' : S} (h : Leads c a s s') (h' : Leads c b s' s'') : Leads c (a + b) s s'' := fun sn => by
  obtain ⟨k, hk, sn', e⟩ := h sn
  obtain ⟨k', hk', sn'', e'⟩ := h' sn'
  refine ⟨k' + k, by omega, sn'', fun n => ?_⟩
  rw [← Nat.add_assoc, e, e']
theorem runFor_done {m : M} (h : m.outcome.isSome = true) : ∀ n, M.runFor n m = m
  | 0 => rfl
  | n + 1 => by simp only [M.runFor, h, if_true]
theorem runFor_step {m : M} (h : m.outcome = none) (n : Nat) : M.runFor (n + 1) m = M.runFor n m.step := by
  simp only [M.runFor, h, Option.isSome_none, Bool.false_eq_true, if_false]
theorem Leads.one {c : Cfg} {s s' : S} (h : ∀ sn, ∃ sn', (mkM c s sn).step = mkM c s' sn') : Leads c 1 s s' := fun sn => by
  obtain ⟨sn', e⟩ := h sn
  exact ⟨1, Nat.le_refl _, sn', fun n => by rw [runFor_step rfl, e]⟩

/-- with frames and start kept: a no -/
def Fails (c : Cfg) (b : Nat) (s : S) : Prop :=
  ∃ s', Leads c b s s' ∧ s'.fr = s.fr ∧ s'.ans = some false ∧ s'.r.start = s.r.start ∧ s'.r.marks.size = s.r.marks.size
def Wins (c : Cfg) (b : Nat) (s : S) (P : M → Prop) : Prop :=
  ∀ sn, ∃ k, k ≤ b ∧ ∃ mf, mf.outcome = some .matched ∧ P mf ∧ ∀ n, M.runFor (n + k) (mkM c s sn) = mf
def Loses (c : Cfg) (b : Nat) (s : S) : Prop :=
  ∀ sn, ∃ k, k ≤ b ∧ ∃ mf, mf.outcome = some .failed ∧ ∀ n, M.runFor (n + k) (mkM c s sn) = mf
theorem Wins.of {c : Cfg} {a b : Nat} {s s' : S} {P : M → Prop} (h : Leads c a s s') (h' : Wins c b s' P) : Wins c (a + b) s P := fun sn => by
  obtain ⟨k, hk, sn', e⟩ := h sn
  obtain ⟨k', hk', mf, o, p, e'⟩ := h' sn'
  refine ⟨k' + k, by omega, mf, o, p, fun n => ?_⟩
  rw [← Nat.add_assoc, e, e']
theorem Wins.le {c : Cfg} {a b : Nat} {s : S} {P : M → Prop} (h : Wins c a s P) (hab : a ≤ b) : Wins c b s P := fun sn => by
  obtain ⟨k, hk, r⟩ := h sn
  exact ⟨k, Nat.le_trans hk hab, r⟩
theorem Loses.of {c : Cfg} {a b : Nat} {s s' : S} (h : Leads c a s s') (h' : Loses c b s') : Loses c (a + b) s := fun sn => by
  obtain ⟨k, hk, sn', e⟩ := h sn
  obtain ⟨k', hk', mf, o, e'⟩ := h' sn'
  refine ⟨k' + k, by omega, mf, o, fun n => ?_⟩
  rw [← Nat.add_assoc, e, e']
theorem Loses.le {c : Cfg} {a b : Nat} {s : S} (h : Loses c a s) (hab : a ≤ b) : Loses c b s := fun sn => by
  obtain ⟨k, hk, r⟩ := h sn
  exact ⟨k, Nat.le_trans hk hab, r⟩
theorem Leads.le {c : Cfg} {a b : Nat} {s s' : S} (h : Leads c a s s') (hab : a ≤ b) : Leads c b s s' := fun sn => by
  obtain ⟨k, hk, r⟩ := h sn
  exact ⟨k, Nat.le_trans hk hab, r⟩
theorem Fails.of {c : Cfg} {a b : Nat} {s s' : S} (h : Leads c a s s') (h' : Fails c b s') (hf : s'.fr = s.fr) (hs : s'.r.start = s.r.start) (hm : s'.r.marks.size = s.r.marks.size) : Fails c (a + b) s := by
  obtain ⟨x, l, f, an, st, m⟩ := h'
  exact ⟨x, h.trans l, f.trans hf, an, st.trans hs, m.trans hm⟩
theorem Fails.le {c : Cfg} {a b : Nat} {s : S} (h : Fails c a s) (hab : a ≤ b) : Fails c b s := by
  obtain ⟨x, l, r⟩ := h
  exact ⟨x, l.le hab, r⟩

/-- sets, with the marks of what was used left out -/
def inS (code : Array Nat) (c : Nat) : (fuel i : Nat) → (yes : Bool) → Option Bool
  | 0, _, _ => none
  | fuel + 1, i, yes =>
    let w (k : Nat) := code.getD (i + k) 0
    match ops[w 0]? with
    | some .FAILURE => some (!yes)
    | some .NEGATE => inS code c fuel (i + 1) (!yes)
    | some .LITERAL => if c == w 1 then some yes else inS code c fuel (i + 2) yes
    | some .RANGE => if w 1 ≤ c && c ≤ w 2 then some yes else inS code c fuel (i + 3) yes
    | some .CATEGORY => match category (w 1) c with
      | .ok true => some yes
      | .ok false => inS code c fuel (i + 2) yes
      | .error _ => none
    | some .CHARSET => if c < 256 && (w (1 + c / 32)).testBit (c % 32) then some yes else inS code c fuel (i + 9) yes
    | _ => none
theorem inS_set (code : Array Nat) (c : Nat) : ∀ (fuel i : Nat) (yes b : Bool) (seen : Seen), inS code c fuel i yes = some b → ∃ seen', inSet code c fuel i yes seen = .ok (b, seen') := by
  intro fuel
  induction fuel with
  | zero => intro i yes b seen h; cases h
  | succ fuel ih =>
    intro i yes b seen h
    simp only [inS] at h
    simp only [inSet]
    split at h
    · rename_i e; simp only [e]; cases h; exact ⟨_, rfl⟩
    · rename_i e; simp only [e]; exact ih _ _ _ _ h
    · rename_i e; simp only [e]
      split at h
      · rename_i e2; cases h; simp only [e2, if_true]; exact ⟨_, rfl⟩
      · rename_i e2; simp only [e2, if_false]; exact ih _ _ _ _ h
    · rename_i e; simp only [e]
      split at h
      · rename_i e2; cases h; simp only [e2, if_true]; exact ⟨_, rfl⟩
      · rename_i e2; simp only [e2, if_false]; exact ih _ _ _ _ h
    · rename_i e; simp only [e]
      split at h
      · rename_i e2; cases h; simp only [e2, bind, Except.bind, if_true]; exact ⟨_, rfl⟩
      · rename_i e2; simp only [e2, bind, Except.bind, Bool.false_eq_true, if_false]; exact ih _ _ _ _ h
      · cases h
    · rename_i e; simp only [e]
      split at h
      · rename_i e2; cases h; simp only [e2, if_true]; exact ⟨_, rfl⟩
      · rename_i e2; simp only [e2, if_false]; exact ih _ _ _ _ h
    · cases h

theorem step_exec {m : M} (ho : m.outcome = none) (ha : m.answer = none) (hp : m.pc < m.code.size) : m.step = m.exec := by
  simp only [M.step, ho, ha, Option.isSome_none, Bool.false_eq_true, if_false, hp, if_true]

section
variable {c : Cfg} {pc pos : Nat} {r : Regs} {fr : List Sre.Frame}

theorem op_at {w : Nat} {o : Op} (h : c.code.getD pc 0 = w) (ho : ops[w]? = some o) : ops[c.code.getD pc 0]? = some o := by rw [h]; exact ho

theorem lit_ok (hpc : pc < c.code.size) (hw : c.code.getD pc 0 = 16) (hp : pos < c.lim) (ht : c.text.getD pos 0 = c.code.getD (pc + 1) 0) :
    Leads c 1 ⟨pc, pos, r, fr, none⟩ ⟨pc + 2, pos + 1, r, fr, none⟩ := .one fun sn => by
  rw [step_exec rfl rfl hpc]
  have e : ops[(mkM c ⟨pc, pos, r, fr, none⟩ sn).word 0]? = some .LITERAL := by simp only [M.word, mkM, Nat.add_zero]; rw [hw]; rfl
  have e2 : ops[c.code.getD pc 0]? = some .LITERAL := by rw [hw]; rfl
  have hn : ¬ pos ≥ c.lim := Nat.not_le.mpr hp
  simp only [M.exec, e]
  simp only [mkM, hn, if_false, accepts, e2, ht, beq_self_eq_true, itemWidth]
  exact ⟨_, rfl⟩
theorem lit_no (hpc : pc < c.code.size) (hw : c.code.getD pc 0 = 16) (hp : pos < c.lim → c.text.getD pos 0 ≠ c.code.getD (pc + 1) 0) :
    Leads c 1 ⟨pc, pos, r, fr, none⟩ ⟨pc, pos, r, fr, some false⟩ := .one fun sn => by
  rw [step_exec rfl rfl hpc]
  have e : ops[(mkM c ⟨pc, pos, r, fr, none⟩ sn).word 0]? = some .LITERAL := by simp only [M.word, mkM, Nat.add_zero]; rw [hw]; rfl
  have e2 : ops[c.code.getD pc 0]? = some .LITERAL := by rw [hw]; rfl
  simp only [M.exec, e]
  by_cases hn : pos ≥ c.lim
  · simp only [mkM, hn, if_true]; exact ⟨_, rfl⟩
  · have hne : (c.text.getD pos 0 == c.code.getD (pc + 1) 0) = false := beq_eq_false_iff_ne.mpr (hp (Nat.lt_of_not_le hn))
    simp only [mkM, hn, if_false, accepts, e2, hne]
    exact ⟨_, rfl⟩
theorem in_ok (hpc : pc < c.code.size) (hw : c.code.getD pc 0 = 13) (hp : pos < c.lim) (ht : inS c.code (c.text.getD pos 0) c.code.size (pc + 2) true = some true) :
    Leads c 1 ⟨pc, pos, r, fr, none⟩ ⟨pc + (1 + c.code.getD (pc + 1) 0), pos + 1, r, fr, none⟩ := .one fun sn => by
  rw [step_exec rfl rfl hpc]
  have e : ops[(mkM c ⟨pc, pos, r, fr, none⟩ sn).word 0]? = some .IN := by simp only [M.word, mkM, Nat.add_zero]; rw [hw]; rfl
  have e2 : ops[c.code.getD pc 0]? = some .IN := by rw [hw]; rfl
  have hn : ¬ pos ≥ c.lim := Nat.not_le.mpr hp
  obtain ⟨sn2, e3⟩ := inS_set _ _ _ _ _ _ (sn.add 13) ht
  simp only [M.exec, e]
  simp only [mkM, M.word, Nat.add_zero, hw, hn, if_false, accepts, e2, e3, itemWidth]
  exact ⟨_, rfl⟩
theorem in_no (hpc : pc < c.code.size) (hw : c.code.getD pc 0 = 13) (ht : pos < c.lim → inS c.code (c.text.getD pos 0) c.code.size (pc + 2) true = some false) :
    Leads c 1 ⟨pc, pos, r, fr, none⟩ ⟨pc, pos, r, fr, some false⟩ := .one fun sn => by
  rw [step_exec rfl rfl hpc]
  have e : ops[(mkM c ⟨pc, pos, r, fr, none⟩ sn).word 0]? = some .IN := by simp only [M.word, mkM, Nat.add_zero]; rw [hw]; rfl
  have e2 : ops[c.code.getD pc 0]? = some .IN := by rw [hw]; rfl
  simp only [M.exec, e]
  by_cases hn : pos ≥ c.lim
  · simp only [mkM, hn, if_true]; exact ⟨_, rfl⟩
  · obtain ⟨sn2, e3⟩ := inS_set _ _ _ _ _ _ (sn.add 13) (ht (Nat.lt_of_not_le hn))
    simp only [mkM, M.word, Nat.add_zero, hw, hn, if_false, accepts, e2, e3]
    exact ⟨_, rfl⟩
theorem jump_ok (hpc : pc < c.code.size) (hw : c.code.getD pc 0 = 15) :
    Leads c 1 ⟨pc, pos, r, fr, none⟩ ⟨pc + 1 + c.code.getD (pc + 1) 0, pos, r, fr, none⟩ := .one fun sn => by
  rw [step_exec rfl rfl hpc]
  have e : ops[(mkM c ⟨pc, pos, r, fr, none⟩ sn).word 0]? = some .JUMP := by simp only [M.word, mkM, Nat.add_zero]; rw [hw]; rfl
  simp only [M.exec, e]
  exact ⟨_, rfl⟩
def clearTo (a : Array (Option Nat)) (lm : Int) (i : Nat) : Array (Option Nat) :=
  if (i : Int) ≤ lm + 1 then a
    else (List.range i).foldl (fun (a : Array (Option Nat)) (j : Nat) => if (j : Int) > lm then a.setIfInBounds j none else a) a
def Regs.marked (r : Regs) (i pos : Nat) : Regs :=
  { r with marks := (clearTo r.marks r.lm i).setIfInBounds i (some pos), lm := max r.lm (i : Int), li := if i % 2 == 1 then ((i / 2 + 1 : Nat) : Int) else r.li }
theorem mark_ok (hpc : pc < c.code.size) (hw : c.code.getD pc 0 = 17) :
    Leads c 1 ⟨pc, pos, r, fr, none⟩ ⟨pc + 2, pos, r.marked (c.code.getD (pc + 1) 0) pos, fr, none⟩ := .one fun sn => by
  rw [step_exec rfl rfl hpc]
  have e : ops[(mkM c ⟨pc, pos, r, fr, none⟩ sn).word 0]? = some .MARK := by simp only [M.word, mkM, Nat.add_zero]; rw [hw]; rfl
  simp only [M.exec, e]
  exact ⟨_, rfl⟩
theorem success_ok (hpc : pc < c.code.size) (hw : c.code.getD pc 0 = 1) :
    Leads c 1 ⟨pc, pos, r, fr, none⟩ ⟨pc, pos, { r with handed := pos }, fr, some true⟩ := .one fun sn => by
  rw [step_exec rfl rfl hpc]
  have e : ops[(mkM c ⟨pc, pos, r, fr, none⟩ sn).word 0]? = some .SUCCESS := by simp only [M.word, mkM, Nat.add_zero]; rw [hw]; rfl
  simp only [M.exec, e]
  simp only [mkM, Bool.false_and, Bool.or_false, Bool.and_false, Bool.false_eq_true, if_false]
  exact ⟨_, rfl⟩

theorem attempt_mk {s : S} {sn : Seen} {f : Sre.Frame} {target frm : Nat} {om : Bool} (hf : f.kept.marks = #[]) (hl : s.fr.length < 1000) :
    (mkM c s sn).attempt f target frm om = mkM c ⟨target, frm, { s.r with handed := frm, om := om }, f :: s.fr, s.ans⟩ sn := by
  have h1 : ¬ (s.fr.length + 1 + 0 > 16777216) := by omega
  simp only [M.attempt, mkM, hf, List.length_cons, List.size_toArray, List.length_nil, h1, if_false]
theorem keep_mk {s : S} {sn : Seen} : (mkM c s sn).keep (mkM c s sn).inner.isSome = { lastmark := s.r.lm, lastindex := s.r.li } := rfl

theorem alternative_go {sn : Seen} {alt : Nat} {lm li : Int} (h : c.code.getD alt 0 ≠ 0) (hl : fr.length < 1000) :
    (mkM c ⟨pc, pos, r, fr, none⟩ sn).alternative alt { lastmark := lm, lastindex := li } =
      mkM c ⟨alt + 1, pos, { r with handed := pos }, mkF .nextBranch alt pos r.om 0 lm li :: fr, none⟩ sn := by
  have h1 : (c.code.getD alt 0 == 0) = false := beq_eq_false_iff_ne.mpr h
  have e : (mkM c ⟨pc, pos, r, fr, none⟩ sn).alternative alt { lastmark := lm, lastindex := li } =
      M.attempt (mkM c ⟨pc, pos, r, fr, none⟩ sn) { (mkM c ⟨pc, pos, r, fr, none⟩ sn).frame .nextBranch with pc := alt, kept := { lastmark := lm, lastindex := li } } (alt + 1) pos r.om := by
    simp only [M.alternative]
    rw [show (mkM c ⟨pc, pos, r, fr, none⟩ sn).code = c.code from rfl, h1]
    rfl
  rw [e, attempt_mk rfl hl]
  rfl
theorem alternative_end {sn : Seen} {alt : Nat} {k : Sre.Kept} (h : c.code.getD alt 0 = 0) :
    (mkM c ⟨pc, pos, r, fr, none⟩ sn).alternative alt k = mkM c ⟨pc, pos, r, fr, some false⟩ sn := by
  simp only [M.alternative]
  rw [show (mkM c ⟨pc, pos, r, fr, none⟩ sn).code = c.code from rfl, h]
  rfl
theorem branch_ok (hpc : pc < c.code.size) (hw : c.code.getD pc 0 = 7) (hn : c.code.getD (pc + 1) 0 ≠ 0) (hl : fr.length < 1000) :
    Leads c 1 ⟨pc, pos, r, fr, none⟩ ⟨pc + 1 + 1, pos, { r with handed := pos }, mkF .nextBranch (pc + 1) pos r.om 0 r.lm r.li :: fr, none⟩ := .one fun sn => by
  rw [step_exec rfl rfl hpc]
  have e : ops[(mkM c ⟨pc, pos, r, fr, none⟩ sn).word 0]? = some .BRANCH := by simp only [M.word, mkM, Nat.add_zero]; rw [hw]; rfl
  simp only [M.exec, e]
  exact ⟨_, alternative_go (sn := sn.add ((mkM c ⟨pc, pos, r, fr, none⟩ sn).word 0)) hn hl⟩

/-- a frame pops: the machine as it stands behind it -/
theorem step_pop {f : Sre.Frame} {b : Bool} {sn : Seen} (hf : f.kept.marks = #[]) :
    (mkM c ⟨pc, pos, r, f :: fr, some b⟩ sn).step = (mkM c ⟨f.pc, f.pos, { r with om := f.outermost }, fr, none⟩ sn).resume f b := by
  simp only [M.step, mkM, Option.isSome_none, Bool.false_eq_true, if_false, hf]
  simp
theorem putBack_mk {s : S} {sn : Seen} {k : Sre.Kept} (hw : k.whole = false) : (mkM c s sn).putBack k = mkM c { s with r := { s.r with lm := k.lastmark, li := k.lastindex } } sn := by
  simp only [M.putBack, hw, Bool.false_eq_true, if_false, mkM]

def plainWait : Wait → Bool
  | .nextStart | .nextBranch | .giveBack => true
  | _ => false
def plainF (f : Sre.Frame) : Bool := plainWait f.wait && f.kept.marks.isEmpty && !f.kept.whole
theorem step_yes {f : Sre.Frame} {sn : Seen} (hf : plainF f = true) :
    (mkM c ⟨pc, pos, r, f :: fr, some true⟩ sn).step = mkM c ⟨f.pc, f.pos, { r with om := f.outermost }, fr, some true⟩ sn := by
  simp only [plainF, Bool.and_eq_true, Array.isEmpty_iff] at hf
  rw [step_pop hf.1.2]
  have h := hf.1.1
  cases hw : f.wait <;> rw [hw] at h <;> first | (simp only [M.resume, hw, if_true]; rfl) | cases h
theorem wins_up : ∀ (fr : List Sre.Frame) (pc pos : Nat) (r : Regs), fr.all plainF = true →
    Wins c (fr.length + 1) ⟨pc, pos, r, fr, some true⟩ fun m => m.start = r.start ∧ m.handed = r.handed ∧ m.marks = r.marks ∧ m.lastmark = r.lm ∧ m.lastindex = r.li
  | [], pc, pos, r, _ => fun sn => by
    refine ⟨1, by simp, { mkM c ⟨pc, pos, r, [], some true⟩ sn with outcome := some .matched }, rfl, ⟨rfl, rfl, rfl, rfl, rfl⟩, fun n => ?_⟩
    rw [runFor_step rfl]
    exact runFor_done rfl n
  | f :: fr, pc, pos, r, h => by
    simp only [List.all_cons, Bool.and_eq_true] at h
    have l : Leads c 1 ⟨pc, pos, r, f :: fr, some true⟩ ⟨f.pc, f.pos, { r with om := f.outermost }, fr, some true⟩ := .one fun sn => ⟨sn, step_yes h.1⟩
    have w := Wins.of l (wins_up fr f.pc f.pos { r with om := f.outermost } h.2)
    exact w.le (by simp only [List.length_cons]; omega)
theorem loses_nil : Loses c 1 ⟨pc, pos, r, [], some false⟩ := fun sn => by
  refine ⟨1, by simp, { mkM c ⟨pc, pos, r, [], some false⟩ sn with outcome := some .failed }, rfl, fun n => ?_⟩
  rw [runFor_step rfl]
  exact runFor_done rfl n

theorem branch_next {alt : Nat} {pos0 : Nat} {om : Bool} {lm li : Int} (hn : c.code.getD (alt + c.code.getD alt 0) 0 ≠ 0) (hl : fr.length < 1000) :
    Leads c 1 ⟨pc, pos, r, mkF .nextBranch alt pos0 om 0 lm li :: fr, some false⟩
      ⟨alt + c.code.getD alt 0 + 1, pos0, { r with handed := pos0, om := om, lm := lm, li := li }, mkF .nextBranch (alt + c.code.getD alt 0) pos0 om 0 lm li :: fr, none⟩ := .one fun sn => by
  rw [step_pop rfl]
  simp only [M.resume, mkF, Bool.false_eq_true, if_false]
  rw [putBack_mk rfl]
  exact ⟨sn, alternative_go (pc := alt) (r := { r with om := om, lm := lm, li := li }) hn hl⟩
theorem branch_out {alt : Nat} {pos0 : Nat} {om : Bool} {lm li : Int} (hn : c.code.getD (alt + c.code.getD alt 0) 0 = 0) :
    Leads c 1 ⟨pc, pos, r, mkF .nextBranch alt pos0 om 0 lm li :: fr, some false⟩ ⟨alt, pos0, { r with om := om, lm := lm, li := li }, fr, some false⟩ := .one fun sn => by
  rw [step_pop rfl]
  simp only [M.resume, mkF, Bool.false_eq_true, if_false]
  rw [putBack_mk rfl]
  exact ⟨sn, alternative_end (pc := alt) (r := { r with om := om, lm := lm, li := li }) hn⟩
end
end Mine

end

/-! ## LSre2 -/
section
namespace Mine
open PySem PySem.Sre

/-- how many signs in a row, n at most, are of a kind -/
def cntP (f : Nat → Bool) (t : Array Nat) : (n p : Nat) → Nat
  | 0, _ => 0
  | n + 1, p => if f (t.getD p 0) then cntP f t n (p + 1) + 1 else 0
theorem cntP_le (f : Nat → Bool) (t : Array Nat) : ∀ (n p : Nat), cntP f t n p ≤ n
  | 0, _ => Nat.le_refl _
  | n + 1, p => by
    unfold cntP
    split
    · have := cntP_le f t n (p + 1); omega
    · omega
theorem cntP_yes {f : Nat → Bool} {t : Array Nat} {n p : Nat} (h : f (t.getD p 0) = true) : cntP f t (n + 1) p = cntP f t n (p + 1) + 1 := by rw [cntP, if_pos h]
theorem cntP_no {f : Nat → Bool} {t : Array Nat} {n p : Nat} (h : f (t.getD p 0) = false) : cntP f t (n + 1) p = 0 := by rw [cntP, if_neg (by rw [h]; decide)]
theorem run_cnt {code text : Array Nat} {i : Nat} {f : Nat → Bool} (hi : code.getD i 0 = 13) (hf : ∀ ch, inS code ch code.size (i + 2) true = some (f ch)) :
    ∀ (n p found : Nat) (seen : Seen), ∃ seen', Sre.run code text i n p found seen = .ok (found + cntP f text n p, seen') := by
  intro n
  induction n with
  | zero => intro p found seen; exact ⟨seen, rfl⟩
  | succ n ih =>
    intro p found seen
    have e2 : ops[code.getD i 0]? = some .IN := by rw [hi]; rfl
    obtain ⟨s2, e3⟩ := inS_set _ _ _ _ _ _ seen (hf (text.getD p 0))
    simp only [Sre.run, accepts, e2, e3, bind, Except.bind]
    cases hc : f (text.getD p 0) with
    | true =>
      obtain ⟨s3, e4⟩ := ih (p + 1) (found + 1) s2
      refine ⟨s3, ?_⟩
      rw [if_pos rfl, e4, cntP_yes hc]
      congr 2
      omega
    | false =>
      refine ⟨s2, ?_⟩
      rw [if_neg (by decide), cntP_no hc]
      rfl

def Like (r r' : Regs) : Prop := r'.om = r.om ∧ r'.lm = r.lm ∧ r'.li = r.li ∧ r'.start = r.start ∧ r'.marks.size = r.marks.size
theorem Like.refl (r : Regs) : Like r r := ⟨rfl, rfl, rfl, rfl, rfl⟩
theorem Like.trans {r r' r'' : Regs} (h : Like r r') (h' : Like r' r'') : Like r r'' :=
  ⟨h'.1.trans h.1, h'.2.1.trans h.2.1, h'.2.2.1.trans h.2.2.1, h'.2.2.2.1.trans h.2.2.2.1, h'.2.2.2.2.trans h.2.2.2.2⟩
theorem Like.handed (r : Regs) (p : Nat) : Like r { r with handed := p } := ⟨rfl, rfl, rfl, rfl, rfl⟩

section
variable {c : Cfg} {pc pos : Nat} {r : Regs} {fr : List Sre.Frame}

theorem repeat_ok {f : Nat → Bool} {n : Nat} (hpc : pc < c.code.size) (hw : c.code.getD pc 0 = 24) (hi : c.code.getD (pc + 4) 0 = 13)
    (hf : ∀ ch, inS c.code ch c.code.size (pc + 4 + 2) true = some (f ch)) (hmost : c.lim ≤ c.code.getD (pc + 3) 0) (hp : pos ≤ c.lim)
    (hn : n = cntP f c.text (c.lim - pos) pos) (hl : c.code.getD (pc + 2) 0 ≤ n) (hfr : fr.length < 1000) :
    Leads c 1 ⟨pc, pos, r, fr, none⟩ ⟨pc + 1 + c.code.getD (pc + 1) 0, pos + n, { r with handed := pos + n }, mkF .giveBack pc (pos + n) r.om n r.lm r.li :: fr, none⟩ := .one fun sn => by
  rw [step_exec rfl rfl hpc]
  have e : ops[(mkM c ⟨pc, pos, r, fr, none⟩ sn).word 0]? = some .REPEAT_ONE := by simp only [M.word, mkM, Nat.add_zero]; rw [hw]; rfl
  have hle := cntP_le f c.text (c.lim - pos) pos
  have h1 : ¬ ((c.code.getD (pc + 2) 0 : Nat) : Int) > (c.lim : Int) - pos := by omega
  have hroom : ((c.lim : Int) - pos).toNat = c.lim - pos := by omega
  have hmin : min (c.code.getD (pc + 3) 0) (c.lim - pos) = c.lim - pos := by omega
  obtain ⟨sn2, e3⟩ := run_cnt (text := c.text) hi hf (c.lim - pos) pos 0 ((sn.add 24).add (c.code.getD (pc + 4) 0))
  rw [Nat.zero_add, ← hn] at e3
  have h2 : ¬ n < c.code.getD (pc + 2) 0 := Nat.not_lt.mpr hl
  simp only [M.exec, e]
  simp only [mkM, M.word, Nat.add_zero, hw, h1, if_false, hroom, hmin, Bool.false_eq_true, e3, h2]
  refine ⟨sn2, ?_⟩
  exact attempt_mk (c := c) (s := ⟨pc, pos + n, r, fr, none⟩) (f := mkF .giveBack pc (pos + n) r.om n r.lm r.li) rfl hfr
theorem repeat_no {f : Nat → Bool} (hpc : pc < c.code.size) (hw : c.code.getD pc 0 = 24) (hi : c.code.getD (pc + 4) 0 = 13)
    (hf : ∀ ch, inS c.code ch c.code.size (pc + 4 + 2) true = some (f ch)) (hmost : c.lim ≤ c.code.getD (pc + 3) 0) (hp : pos ≤ c.lim)
    (hl : cntP f c.text (c.lim - pos) pos < c.code.getD (pc + 2) 0) :
    Leads c 1 ⟨pc, pos, r, fr, none⟩ ⟨pc, pos, r, fr, some false⟩ := .one fun sn => by
  rw [step_exec rfl rfl hpc]
  have e : ops[(mkM c ⟨pc, pos, r, fr, none⟩ sn).word 0]? = some .REPEAT_ONE := by simp only [M.word, mkM, Nat.add_zero]; rw [hw]; rfl
  have hroom : ((c.lim : Int) - pos).toNat = c.lim - pos := by omega
  have hmin : min (c.code.getD (pc + 3) 0) (c.lim - pos) = c.lim - pos := by omega
  obtain ⟨sn2, e3⟩ := run_cnt (text := c.text) hi hf (c.lim - pos) pos 0 ((sn.add 24).add (c.code.getD (pc + 4) 0))
  rw [Nat.zero_add] at e3
  simp only [M.exec, e]
  by_cases h1 : ((c.code.getD (pc + 2) 0 : Nat) : Int) > (c.lim : Int) - pos
  · simp only [mkM, M.word, Nat.add_zero, h1, if_true]; exact ⟨_, rfl⟩
  · simp only [mkM, M.word, Nat.add_zero, hw, h1, if_false, hroom, hmin, Bool.false_eq_true, e3, hl, if_true]
    exact ⟨sn2, rfl⟩

/-- the machine behind a run of n, m of them kept -/
def G (c : Cfg) (pc pos : Nat) (r : Regs) (fr : List Sre.Frame) (m : Nat) : S :=
  ⟨pc + 1 + c.code.getD (pc + 1) 0, pos + m, { r with handed := pos + m }, mkF .giveBack pc (pos + m) r.om m r.lm r.li :: fr, none⟩
theorem G_down {m b : Nat} (hl : c.code.getD (pc + 2) 0 ≤ m) (hfr : fr.length < 1000) (h : Fails c b (G c pc pos r fr (m + 1))) :
    ∃ r', Like r r' ∧ Leads c (b + 1) (G c pc pos r fr (m + 1)) (G c pc pos r' fr m) := by
  obtain ⟨⟨pc', pos', r', fr', ans'⟩, l, hf, ha, hs, hm⟩ := h
  simp only [G] at hf hs hm
  simp only at hf ha hs hm
  subst hf ha
  refine ⟨{ r' with om := r.om, lm := r.lm, li := r.li }, ⟨rfl, rfl, rfl, hs, hm⟩, l.trans (.one fun sn => ?_)⟩
  rw [step_pop rfl]
  have h1 : ¬ (((m + 1 : Nat) : Int) - 1 < ((c.code.getD (pc + 2) 0 : Nat) : Int)) := by omega
  have h2 : (((m + 1 : Nat) : Int) - 1) = (m : Int) := by omega
  have h3 : pos + (m + 1) - 1 = pos + m := by omega
  simp only [M.resume, mkF, Bool.false_eq_true, if_false]
  rw [putBack_mk rfl]
  simp only [M.word, mkM, h1, if_false]
  refine ⟨sn, ?_⟩
  rw [h2, h3]
  exact attempt_mk (c := c) (s := ⟨pc, pos + m, { r' with om := r.om, lm := r.lm, li := r.li }, fr, none⟩) (f := mkF .giveBack pc (pos + m) r.om m r.lm r.li) rfl hfr
theorem G_out {m b : Nat} (hl : m ≤ c.code.getD (pc + 2) 0) (h : Fails c b (G c pc pos r fr m)) :
    ∃ r', Like r r' ∧ Leads c (b + 1) (G c pc pos r fr m) ⟨pc, pos + m, r', fr, some false⟩ := by
  obtain ⟨⟨pc', pos', r', fr', ans'⟩, l, hf, ha, hs, hm⟩ := h
  simp only [G] at hf hs hm
  simp only at hf ha hs hm
  subst hf ha
  refine ⟨{ r' with om := r.om, lm := r.lm, li := r.li }, ⟨rfl, rfl, rfl, hs, hm⟩, l.trans (.one fun sn => ?_)⟩
  rw [step_pop rfl]
  have h1 : ((m : Nat) : Int) - 1 < ((c.code.getD (pc + 2) 0 : Nat) : Int) := by omega
  simp only [M.resume, mkF, Bool.false_eq_true, if_false]
  rw [putBack_mk rfl]
  simp only [M.word, mkM, h1, if_true]
  exact ⟨sn, rfl⟩

/-- down from n to m, all above m failing -/
theorem G_reach {b : Nat} (hfr : fr.length < 1000) : ∀ (k m : Nat) (r : Regs), c.code.getD (pc + 2) 0 ≤ m →
    (∀ j, m < j → j ≤ m + k → ∀ r', Like r r' → Fails c b (G c pc pos r' fr j)) → ∃ r', Like r r' ∧ Leads c ((b + 1) * k) (G c pc pos r fr (m + k)) (G c pc pos r' fr m)
  | 0, m, r, _, _ => ⟨r, Like.refl r, Leads.refl _ _⟩
  | k + 1, m, r, hl, h => by
    obtain ⟨r1, L1, l1⟩ := G_down (m := m + k) (by omega) hfr (h (m + k + 1) (by omega) (by omega) r (Like.refl r))
    obtain ⟨r2, L2, l2⟩ := G_reach hfr k m r1 hl (fun j h1 h2 r' hr => h j h1 (by omega) r' (L1.trans hr))
    refine ⟨r2, L1.trans L2, ?_⟩
    have := l1.trans l2
    exact this.le (by rw [Nat.mul_succ]; omega)
theorem star_fails {f : Nat → Bool} {n b : Nat} (hpc : pc < c.code.size) (hw : c.code.getD pc 0 = 24) (hi : c.code.getD (pc + 4) 0 = 13)
    (hf : ∀ ch, inS c.code ch c.code.size (pc + 4 + 2) true = some (f ch)) (hmost : c.lim ≤ c.code.getD (pc + 3) 0) (hp : pos ≤ c.lim)
    (hn : n = cntP f c.text (c.lim - pos) pos) (hl : c.code.getD (pc + 2) 0 = 0) (hfr : fr.length < 1000)
    (h : ∀ j, j ≤ n → ∀ r', Like r r' → Fails c b (G c pc pos r' fr j)) : ∃ r', Like r r' ∧ ∃ pos', Leads c ((b + 1) * (n + 1) + 1) ⟨pc, pos, r, fr, none⟩ ⟨pc, pos', r', fr, some false⟩ := by
  have l0 := repeat_ok (r := r) (fr := fr) hpc hw hi hf hmost hp hn (by omega) hfr
  obtain ⟨r1, L1, l1⟩ := G_reach (pos := pos) (b := b) hfr n 0 r (by omega) (fun j _ h2 r' hr => h j (by omega) r' hr)
  rw [Nat.zero_add] at l1
  obtain ⟨r2, L2, l2⟩ := G_out (c := c) (pc := pc) (pos := pos) (r := r1) (fr := fr) (m := 0) (by omega) (h 0 (by omega) r1 L1)
  refine ⟨r2, L1.trans L2, _, ((l0.trans l1).trans l2).le (by rw [Nat.mul_succ]; omega)⟩
theorem star_wins {f : Nat → Bool} {n m b b' : Nat} {P : M → Prop} (hpc : pc < c.code.size) (hw : c.code.getD pc 0 = 24) (hi : c.code.getD (pc + 4) 0 = 13)
    (hf : ∀ ch, inS c.code ch c.code.size (pc + 4 + 2) true = some (f ch)) (hmost : c.lim ≤ c.code.getD (pc + 3) 0) (hp : pos ≤ c.lim)
    (hn : n = cntP f c.text (c.lim - pos) pos) (hmn : m ≤ n) (hl : c.code.getD (pc + 2) 0 ≤ m) (hfr : fr.length < 1000)
    (h : ∀ j, m < j → j ≤ n → ∀ r', Like r r' → Fails c b (G c pc pos r' fr j)) (hw' : ∀ r', Like r r' → Wins c b' (G c pc pos r' fr m) P) :
    Wins c ((b + 1) * n + 1 + b') ⟨pc, pos, r, fr, none⟩ P := by
  have l0 := repeat_ok (r := r) (fr := fr) hpc hw hi hf hmost hp hn (by omega) hfr
  obtain ⟨r1, L1, l1⟩ := G_reach (pos := pos) (b := b) hfr (n - m) m r hl (fun j h1 h2 r' hr => h j h1 (by omega) r' hr)
  rw [Nat.add_sub_cancel' hmn] at l1
  refine (Wins.of (l0.trans l1) (hw' r1 L1)).le ?_
  have : (b + 1) * (n - m) ≤ (b + 1) * n := Nat.mul_le_mul_left _ (by omega)
  omega

/-- a word's edge, unicode -/
def edge (c : Cfg) (pos : Nat) : Bool := c.lim != 0 && ((decide (pos > 0) && isWordUni (c.text.getD (pos - 1) 0)) != (decide (pos < c.lim) && isWordUni (c.text.getD pos 0)))
theorem at_ok (hpc : pc < c.code.size) (hw : c.code.getD pc 0 = 6) (hk : c.code.getD (pc + 1) 0 = 10) (h : edge c pos = true) :
    Leads c 1 ⟨pc, pos, r, fr, none⟩ ⟨pc + 2, pos, r, fr, none⟩ := .one fun sn => by
  rw [step_exec rfl rfl hpc]
  have e : ops[(mkM c ⟨pc, pos, r, fr, none⟩ sn).word 0]? = some .AT := by simp only [M.word, mkM, Nat.add_zero]; rw [hw]; rfl
  simp only [M.exec, e]
  simp only [mkM, M.word, hk, M.isAt, Nat.add_zero, hw]
  simp only [beq_true]
  exact ⟨_, (if_pos h).trans rfl⟩
theorem at_no (hpc : pc < c.code.size) (hw : c.code.getD pc 0 = 6) (hk : c.code.getD (pc + 1) 0 = 10) (h : edge c pos = false) :
    Leads c 1 ⟨pc, pos, r, fr, none⟩ ⟨pc, pos, r, fr, some false⟩ := .one fun sn => by
  rw [step_exec rfl rfl hpc]
  have e : ops[(mkM c ⟨pc, pos, r, fr, none⟩ sn).word 0]? = some .AT := by simp only [M.word, mkM, Nat.add_zero]; rw [hw]; rfl
  simp only [M.exec, e]
  simp only [mkM, M.word, hk, M.isAt, Nat.add_zero, hw]
  simp only [beq_true]
  exact ⟨_, (if_neg (by show ¬ edge c pos = true; rw [h]; decide)).trans rfl⟩

/-- not ahead of one sign -/
theorem notlit_in (hpc : pc < c.code.size) (hw : c.code.getD pc 0 = 5) (h2 : c.code.getD (pc + 2) 0 = 0) :
    Leads c 1 ⟨pc, pos, r, fr, none⟩ ⟨pc + 3, pos, { r with handed := pos, om := false }, mkF .lookNot pc pos r.om 0 r.lm r.li :: fr, none⟩ ∨ 1000 ≤ fr.length := by
  by_cases hfr : fr.length < 1000
  · left
    refine .one fun sn => ?_
    rw [step_exec rfl rfl hpc]
    have e : ops[(mkM c ⟨pc, pos, r, fr, none⟩ sn).word 0]? = some .ASSERT_NOT := by simp only [M.word, mkM, Nat.add_zero]; rw [hw]; rfl
    simp only [M.exec, e]
    simp only [mkM, M.word, h2, Nat.not_lt_zero, if_false, Nat.add_zero, hw, Nat.sub_zero]
    exact ⟨_, attempt_mk (c := c) (s := ⟨pc, pos, r, fr, none⟩) (f := mkF .lookNot pc pos r.om 0 r.lm r.li) rfl hfr⟩
  · right; omega
theorem notlit_no (hpc : pc + 5 < c.code.size) (hfr : fr.length < 1000) (hw : c.code.getD pc 0 = 5) (h2 : c.code.getD (pc + 2) 0 = 0) (h3 : c.code.getD (pc + 3) 0 = 16) (h5 : c.code.getD (pc + 5) 0 = 1)
    (hp : pos < c.lim) (ht : c.text.getD pos 0 = c.code.getD (pc + 4) 0) : Fails c 4 ⟨pc, pos, r, fr, none⟩ := by
  have l1 := (notlit_in (r := r) (pos := pos) (fr := fr) (by omega) hw h2).resolve_right (by omega)
  have l2 := lit_ok (c := c) (pc := pc + 3) (pos := pos) (r := { r with handed := pos, om := false }) (fr := mkF .lookNot pc pos r.om 0 r.lm r.li :: fr) (by omega) h3 hp ht
  have l3 := success_ok (c := c) (pc := pc + 3 + 2) (pos := pos + 1) (r := { r with handed := pos, om := false }) (fr := mkF .lookNot pc pos r.om 0 r.lm r.li :: fr) (by omega) h5
  have l4 : Leads c 1 ⟨pc + 3 + 2, pos + 1, { r with handed := pos + 1, om := false }, mkF .lookNot pc pos r.om 0 r.lm r.li :: fr, some true⟩ ⟨pc, pos, { r with handed := pos + 1 }, fr, some false⟩ := .one fun sn => by
    rw [step_pop rfl]
    exact ⟨sn, rfl⟩
  exact ⟨_, ((l1.trans l2).trans l3).trans l4, rfl, rfl, rfl, rfl⟩
theorem notlit_ok (hpc : pc + 5 < c.code.size) (hfr : fr.length < 1000) (hw : c.code.getD pc 0 = 5) (h2 : c.code.getD (pc + 2) 0 = 0) (h3 : c.code.getD (pc + 3) 0 = 16)
    (ht : pos < c.lim → c.text.getD pos 0 ≠ c.code.getD (pc + 4) 0) : Leads c 3 ⟨pc, pos, r, fr, none⟩ ⟨pc + 1 + c.code.getD (pc + 1) 0, pos, { r with handed := pos }, fr, none⟩ := by
  have l1 := (notlit_in (r := r) (pos := pos) (fr := fr) (by omega) hw h2).resolve_right (by omega)
  have l2 := lit_no (c := c) (pc := pc + 3) (pos := pos) (r := { r with handed := pos, om := false }) (fr := mkF .lookNot pc pos r.om 0 r.lm r.li :: fr) (by omega) h3 ht
  have l3 : Leads c 1 ⟨pc + 3, pos, { r with handed := pos, om := false }, mkF .lookNot pc pos r.om 0 r.lm r.li :: fr, some false⟩ ⟨pc + 1 + c.code.getD (pc + 1) 0, pos, { r with handed := pos }, fr, none⟩ := .one fun sn => by
    rw [step_pop rfl]
    simp only [M.resume, mkF, Bool.false_eq_true, if_false]
    rw [putBack_mk rfl]
    exact ⟨sn, rfl⟩
  exact (l1.trans l2).trans l3
end

/-- an attempt at s -/
def Att (pc : Nat) (marks : Array (Option Nat)) (s : Nat) (om : Bool) : S :=
  ⟨pc, s, ⟨s, om, marks, -1, -1, s⟩, [mkF .nextStart pc s om 0 (-1) (-1)], none⟩
structure Starts (c : Cfg) (pc : Nat) (adm : Nat → Bool) : Prop where
  go : ∀ (r : Regs) (pos s : Nat) (om : Bool) (sn : Seen),
    (∃ s' sn', s ≤ s' ∧ (s ≤ c.lim → s' ≤ c.lim) ∧ adm s' = true ∧ (∀ x, s ≤ x → x < s' → adm x = false) ∧ (mkM c ⟨pc, pos, r, [], none⟩ sn).attemptFrom s om = mkM c (Att pc r.marks s' om) sn') ∨
    ((∀ x, s ≤ x → adm x = false) ∧ ∃ sn', (mkM c ⟨pc, pos, r, [], none⟩ sn).attemptFrom s om = mkM c ⟨pc, pos, r, [], some false⟩ sn')
theorem attemptAt_mk {c : Cfg} {pc pos s : Nat} {r : Regs} {om : Bool} {sn : Seen} : (mkM c ⟨pc, pos, r, [], none⟩ sn).attemptAt s om = mkM c (Att pc r.marks s om) sn :=
  attempt_mk (c := c) (s := ⟨pc, s, ⟨r.handed, r.om, r.marks, -1, -1, s⟩, [], none⟩) (f := mkF .nextStart pc s om 0 (-1) (-1)) rfl (by show 0 < 1000; decide)
theorem Starts.plain {c : Cfg} {pc : Nat} (h : c.code.getD 2 0 ≠ 4) : Starts c pc fun _ => true where
  go := fun r pos s om sn => .inl ⟨s, sn, Nat.le_refl _, id, rfl, fun x h1 h2 => absurd h1 (Nat.not_le.mpr h2), by
    have e : (mkM c ⟨pc, pos, r, [], none⟩ sn).hasFirstSet = false := by
      simp only [M.hasFirstSet, mkM]
      rw [beq_eq_false_iff_ne.mpr h, Bool.and_false]
    simp only [M.attemptFrom, e, Bool.not_false, if_true]
    exact attemptAt_mk⟩
theorem admitted_mk {c : Cfg} {f : Nat → Bool} (hf : ∀ ch, inS c.code ch c.code.size 5 true = some (f ch)) (m : M) (hm : m.code = c.code ∧ m.text = c.text ∧ m.lim = c.lim) : ∀ (fuel s : Nat) (seen : Seen), c.lim < s + fuel →
    (∃ s' seen', s ≤ s' ∧ (decide (s' < c.lim) && f (c.text.getD s' 0)) = true ∧ (∀ x, s ≤ x → x < s' → (decide (x < c.lim) && f (c.text.getD x 0)) = false) ∧ M.admitted m fuel s seen = .ok (some s', seen')) ∨
    ((∀ x, s ≤ x → (decide (x < c.lim) && f (c.text.getD x 0)) = false) ∧ ∃ seen', M.admitted m fuel s seen = .ok (none, seen')) := by
  intro fuel
  induction fuel with
  | zero =>
    intro s seen h
    refine .inr ⟨fun x hx => ?_, seen, rfl⟩
    rw [decide_eq_false (by omega)]; rfl
  | succ fuel ih =>
    intro s seen h
    by_cases hs : s ≥ c.lim
    · refine .inr ⟨fun x hx => ?_, seen, ?_⟩
      · rw [decide_eq_false (by omega)]; rfl
      · simp only [M.admitted, hm.2.2, hs, if_true]
    · obtain ⟨s2, e3⟩ := inS_set _ _ _ _ _ _ seen (hf (c.text.getD s 0))
      simp only [M.admitted, hm.1, hm.2.1, hm.2.2, hs, if_false, e3]
      cases hc : f (c.text.getD s 0) with
      | true => exact .inl ⟨s, s2, Nat.le_refl _, by rw [decide_eq_true (by omega), hc]; rfl, fun x h1 h2 => absurd h1 (Nat.not_le.mpr h2), rfl⟩
      | false =>
        have here : (decide (s < c.lim) && f (c.text.getD s 0)) = false := by rw [hc, Bool.and_false]
        rcases ih (s + 1) s2 (by omega) with ⟨s', se', h1, h2, h3, h4⟩ | ⟨h1, se', h2⟩
        · refine .inl ⟨s', se', by omega, h2, fun x hx hx' => ?_, h4⟩
          rcases Nat.eq_or_lt_of_le hx with rfl | hlt
          · exact here
          · exact h3 x hlt hx'
        · refine .inr ⟨fun x hx => ?_, se', h2⟩
          rcases Nat.eq_or_lt_of_le hx with rfl | hlt
          · exact here
          · exact h1 x hlt
theorem Starts.set {c : Cfg} {pc : Nat} {f : Nat → Bool} (h0 : c.code.getD 0 0 = 14) (h : c.code.getD 2 0 = 4) (hf : ∀ ch, inS c.code ch c.code.size 5 true = some (f ch)) :
    Starts c pc fun s => decide (s < c.lim) && f (c.text.getD s 0) where
  go := fun r pos s om sn => by
    have e : (mkM c ⟨pc, pos, r, [], none⟩ sn).hasFirstSet = true := by
      simp only [M.hasFirstSet, mkM]
      rw [h, h0]; rfl
    simp only [M.attemptFrom, e, Bool.not_true, Bool.false_eq_true, if_false]
    rcases admitted_mk hf (mkM c ⟨pc, pos, r, [], none⟩ sn) ⟨rfl, rfl, rfl⟩ (c.lim + 1 - s) s sn (by omega) with ⟨s', se', h1, h2, h3, h4⟩ | ⟨h1, se', h2⟩
    · have hlt : s' < c.lim := by
        rw [Bool.and_eq_true] at h2; exact of_decide_eq_true h2.1
      refine .inl ⟨s', se', h1, fun _ => Nat.le_of_lt hlt, h2, h3, ?_⟩
      have h4' : M.admitted (mkM c ⟨pc, pos, r, [], none⟩ sn) ((mkM c ⟨pc, pos, r, [], none⟩ sn).lim + 1 - s) s (mkM c ⟨pc, pos, r, [], none⟩ sn).seen = .ok (some s', se') := h4
      simp only [h4']
      exact attemptAt_mk (sn := se')
    · refine .inr ⟨h1, se', ?_⟩
      have h4' : M.admitted (mkM c ⟨pc, pos, r, [], none⟩ sn) ((mkM c ⟨pc, pos, r, [], none⟩ sn).lim + 1 - s) s (mkM c ⟨pc, pos, r, [], none⟩ sn).seen = .ok (none, se') := h2
      simp only [h4']
      rfl

/-- a machine that a search stands at -/
def WinsM (b : Nat) (m : M) (P : M → Prop) : Prop := ∃ k, k ≤ b ∧ ∃ mf, mf.outcome = some .matched ∧ P mf ∧ ∀ n, M.runFor (n + k) m = mf
def LosesM (b : Nat) (m : M) : Prop := ∃ k, k ≤ b ∧ ∃ mf, mf.outcome = some .failed ∧ ∀ n, M.runFor (n + k) m = mf

section
variable {c : Cfg} {pc : Nat} {adm : Nat → Bool} {sz : Nat} {b : Nat}

/-- from a failed attempt at s the machine goes to the next start -/
theorem next_start {s b : Nat} {om : Bool} {marks : Array (Option Nat)} (h : Fails c b (Att pc marks s om)) (sn : Seen) :
    ∃ k, k ≤ b + 1 ∧ ∃ r sn', r.marks.size = marks.size ∧ ∀ n, M.runFor (n + k) (mkM c (Att pc marks s om) sn) =
      M.runFor n (if s < c.lastStart then (mkM c ⟨pc, s, r, [], none⟩ sn').attemptFrom (s + 1) false else mkM c ⟨pc, s, r, [], some false⟩ sn') := by
  obtain ⟨⟨pc', pos', r', fr', ans'⟩, l, hf, ha, hs, hm⟩ := h
  simp only [Att] at hf hs hm
  simp only at hf ha hs hm
  subst hf ha
  obtain ⟨k, hk, sn', e⟩ := l sn
  refine ⟨k + 1, by omega, { r' with om := om }, sn', hm, fun n => ?_⟩
  rw [show n + (k + 1) = (n + 1) + k by omega, e, runFor_step rfl, step_pop rfl]
  congr 1

theorem search_hit (X : Starts c pc adm) {lo e b' : Nat} {P : M → Prop} (he : e ≤ c.lastStart) (hel : e ≤ c.lim) (hadm : adm e = true)
    (hno : ∀ s, lo ≤ s → s < e → adm s = true → ∀ om marks, marks.size = sz → Fails c b (Att pc marks s om)) (hyes : ∀ om marks, marks.size = sz → Wins c b' (Att pc marks e om) P) :
    ∀ (d s : Nat) (r : Regs) (pos : Nat) (om : Bool) (sn : Seen), e - s = d → s ≤ e → lo ≤ s → r.marks.size = sz →
      WinsM ((b + 1) * d + b') ((mkM c ⟨pc, pos, r, [], none⟩ sn).attemptFrom s om) P := by
  intro d
  induction d using Nat.strongRecOn with
  | ind d ih =>
    intro s r pos om sn hd hs hlo hsz
    rcases X.go r pos s om sn with ⟨s', sn', h1, _, h2, h3, h4⟩ | ⟨h1, _⟩
    · rw [h4]
      have hle : s' ≤ e := by
        rcases Nat.lt_or_ge e s' with h | h
        · rw [h3 e hs h] at hadm; cases hadm
        · exact h
      rcases Nat.eq_or_lt_of_le hle with rfl | hlt
      · obtain ⟨k, hk, mf, o, p, e'⟩ := hyes om r.marks hsz sn'
        exact ⟨k, by omega, mf, o, p, e'⟩
      · obtain ⟨k, hk, r', sn2, hm, e'⟩ := next_start (hno s' (by omega) hlt h2 om r.marks hsz) sn'
        have hls : s' < c.lastStart := by omega
        simp only [hls, if_true] at e'
        obtain ⟨k2, hk2, mf, o, p, e2⟩ := ih (e - (s' + 1)) (by omega) (s' + 1) r' s' false sn2 rfl (by omega) (by omega) (hm.trans hsz)
        refine ⟨k2 + k, ?_, mf, o, p, fun n => by rw [← Nat.add_assoc, e', e2]⟩
        have : (b + 1) * (e - (s' + 1)) + (b + 1) ≤ (b + 1) * d := by
          rw [← Nat.mul_succ]; exact Nat.mul_le_mul_left _ (by omega)
        omega
    · rw [h1 e hs] at hadm; cases hadm
theorem search_none (X : Starts c pc adm) {lo : Nat} (hls : c.lastStart ≤ c.lim)
    (hno : ∀ s, lo ≤ s → s ≤ c.lim → adm s = true → ∀ om marks, marks.size = sz → Fails c b (Att pc marks s om)) :
    ∀ (d s : Nat) (r : Regs) (pos : Nat) (om : Bool) (sn : Seen), c.lastStart + 1 - s = d → lo ≤ s → s ≤ c.lim → r.marks.size = sz →
      LosesM ((b + 1) * (d + 1) + 1) ((mkM c ⟨pc, pos, r, [], none⟩ sn).attemptFrom s om) := by
  intro d
  induction d using Nat.strongRecOn with
  | ind d ih =>
    intro s r pos om sn hd hlo hs hsz
    rcases X.go r pos s om sn with ⟨s', sn', h1, h0, h2, h3, h4⟩ | ⟨h1, sn', h2⟩
    · rw [h4]
      obtain ⟨k, hk, r', sn2, hm, e'⟩ := next_start (hno s' (by omega) (h0 hs) h2 om r.marks hsz) sn'
      by_cases hls' : s' < c.lastStart
      · simp only [hls', if_true] at e'
        obtain ⟨k2, hk2, mf, o, e2⟩ := ih (c.lastStart + 1 - (s' + 1)) (by omega) (s' + 1) r' s' false sn2 rfl (by omega) (by omega) (hm.trans hsz)
        refine ⟨k2 + k, ?_, mf, o, fun n => by rw [← Nat.add_assoc, e', e2]⟩
        have : (b + 1) * (c.lastStart + 1 - (s' + 1) + 1) + (b + 1) ≤ (b + 1) * (d + 1) := by
          rw [← Nat.mul_succ]; exact Nat.mul_le_mul_left _ (by omega)
        omega
      · simp only [hls', if_false] at e'
        obtain ⟨k2, hk2, mf, o, e2⟩ := loses_nil (c := c) (pc := pc) (pos := s') (r := r') sn2
        refine ⟨k2 + k, ?_, mf, o, fun n => by rw [← Nat.add_assoc, e', e2]⟩
        have : (b + 1) * 1 ≤ (b + 1) * (d + 1) := Nat.mul_le_mul_left _ (by omega)
        omega
    · rw [h2]
      obtain ⟨k2, hk2, mf, o, e2⟩ := loses_nil (c := c) (pc := pc) (pos := pos) (r := r) sn'
      exact ⟨k2, by omega, mf, o, e2⟩
end
end Mine

end

/-! ## LSre3 -/
section
namespace Mine
open PySem PySem.Sre
set_option maxRecDepth 100000

/-- the length of a run -/
def runL (f : Nat → Bool) (l : List Nat) : Nat := (l.takeWhile f).length
theorem runL_nil (f : Nat → Bool) : runL f [] = 0 := rfl
theorem runL_yes {f : Nat → Bool} {ch : Nat} {r : List Nat} (h : f ch = true) : runL f (ch :: r) = runL f r + 1 := by simp [runL, h]
theorem runL_no {f : Nat → Bool} {ch : Nat} {r : List Nat} (h : f ch = false) : runL f (ch :: r) = 0 := by simp [runL, h]
theorem runL_le (f : Nat → Bool) (l : List Nat) : runL f l ≤ l.length := List.Sublist.length_le (List.takeWhile_sublist f)

structure Whole (c : Cfg) (code : Array Nat) : Prop where
  code : c.code = code
  lim : c.lim = c.text.size
  last : c.lastStart ≤ c.lim
  big : c.lim < 4294967295

theorem drop_cons {t : Array Nat} {p ch : Nat} {r : List Nat} (h : t.toList.drop p = ch :: r) : p < t.size ∧ t.getD p 0 = ch ∧ t.toList.drop (p + 1) = r := by
  have hl : p < t.size := by
    rcases Nat.lt_or_ge p t.size with h1 | h1
    · exact h1
    · rw [List.drop_of_length_le (by simpa using h1)] at h; cases h
  have h2 : t.toList.drop p = t.toList[p]'(by simpa using hl) :: t.toList.drop (p + 1) := List.drop_eq_getElem_cons (by simpa using hl)
  rw [h2] at h
  injection h with h3 h4
  refine ⟨hl, ?_, h4⟩
  rw [← h3]
  simp [Array.getD, hl]
theorem drop_nil {t : Array Nat} {p : Nat} (h : t.toList.drop p = []) : t.size ≤ p := by
  have := List.drop_eq_nil_iff.mp h
  simpa using this
theorem drop_more {t : Array Nat} {p k : Nat} {l : List Nat} (h : t.toList.drop p = l) : t.toList.drop (p + k) = l.drop k := by
  rw [← h, List.drop_drop]
theorem drop_len {t : Array Nat} {p : Nat} {l : List Nat} (h : t.toList.drop p = l) (hp : p ≤ t.size) : p + l.length = t.size := by
  rw [← h, List.length_drop, Array.length_toList]; omega
theorem cntP_run (f : Nat → Bool) (t : Array Nat) : ∀ (n p : Nat) (l : List Nat), t.toList.drop p = l → n = t.size - p → cntP f t n p = runL f l
  | 0, p, l, h, hn => by
    have : l = [] := by rw [← h]; exact List.drop_of_length_le (by rw [Array.length_toList]; omega)
    rw [this]; rfl
  | n + 1, p, l, h, hn => by
    cases l with
    | nil => have := drop_nil h; omega
    | cons ch r =>
      obtain ⟨h1, h2, h3⟩ := drop_cons h
      cases hc : f ch with
      | true => rw [cntP_yes (by rw [h2]; exact hc), runL_yes hc, cntP_run f t n (p + 1) r h3 (by omega)]
      | false => rw [cntP_no (by rw [h2]; exact hc), runL_no hc]

structure Hit where
  s : Nat
  e : Nat
  g : List Nat
def Hit.Is (h : Hit) (m : M) : Prop := m.start = h.s ∧ m.handed = h.e ∧ m.marks = (h.g.map some).toArray ∧ m.lastmark = (h.g.length : Int) - 1

def isSp (ch : Nat) : Bool := Unicode.isSpace ch
theorem cat_sp (ch : Nat) : category 12 ch = .ok (isSp ch) := by
  have : category 12 ch = (Except.ok (Unicode.isSpace ch) : Except String Bool).map (· != (12 % 2 == 1)) := rfl
  rw [this]
  simp [Except.map, isSp]

section
variable {c : Cfg} {pc pos : Nat} {r : Regs} {fr : List Sre.Frame}
theorem star_first {f : Nat → Bool} {n b' : Nat} {P : M → Prop} (hpc : pc < c.code.size) (hw : c.code.getD pc 0 = 24) (hi : c.code.getD (pc + 4) 0 = 13)
    (hf : ∀ ch, inS c.code ch c.code.size (pc + 4 + 2) true = some (f ch)) (hmost : c.lim ≤ c.code.getD (pc + 3) 0) (hp : pos ≤ c.lim)
    (hn : n = cntP f c.text (c.lim - pos) pos) (hl : c.code.getD (pc + 2) 0 ≤ n) (hfr : fr.length < 1000) (h : Wins c b' (G c pc pos r fr n) P) :
    Wins c (1 + b') ⟨pc, pos, r, fr, none⟩ P := Wins.of (repeat_ok hpc hw hi hf hmost hp hn hl hfr) h
end

/-- four marks in their order -/
theorem marks4 {m0 : Array (Option Nat)} {a b c' d : Nat} (h : m0.size = 4) :
    (((m0.setIfInBounds 0 (some a)).setIfInBounds 1 (some b)).setIfInBounds 2 (some c')).setIfInBounds 3 (some d) = ([a, b, c', d].map some).toArray := by
  obtain ⟨l⟩ := m0
  match l, h with
  | [x, y, z, w], _ => rfl

theorem all_plain_cons {f : Sre.Frame} {fr : List Sre.Frame} (h1 : plainF f = true) (h2 : fr.all plainF = true) : (f :: fr).all plainF = true := by
  rw [List.all_cons, h1, h2]; rfl

/-! the operators -/
def isOp (ch : Nat) : Bool := decide (ch < 256) && (opCode.getD (41 + (1 + ch / 32)) 0).testBit (ch % 32)
theorem op_size : opCode.size = 77 := by decide +kernel
theorem inS_cat {code : Array Nat} {ch i n : Nat} (h0 : code.getD i 0 = 8) (h1 : code.getD (i + 1) 0 = 12) (h2 : code.getD (i + 2) 0 = 0) : inS code ch (n + 2) i true = some (isSp ch) := by
  have e0 : ops[code.getD (i + 0) 0]? = some .CATEGORY := by rw [Nat.add_zero, h0]; rfl
  have e2 : ops[code.getD (i + 2 + 0) 0]? = some .FAILURE := by rw [Nat.add_zero, h2]; rfl
  simp only [inS, e0, e2, h1, cat_sp]
  cases isSp ch <;> rfl
theorem inS_head {code : Array Nat} {ch i n x : Nat} (h0 : code.getD i 0 = 21) (h1 : code.getD (i + 1) 0 = 16) (h2 : code.getD (i + 1 + 1) 0 = x) (h3 : code.getD (i + 1 + 2) 0 = 8) (h4 : code.getD (i + 1 + 2 + 1) 0 = 12) (h5 : code.getD (i + 1 + 2 + 2) 0 = 0) :
    inS code ch (n + 4) i true = some (!(ch == x || isSp ch)) := by
  have e0 : ops[code.getD (i + 0) 0]? = some .NEGATE := by rw [Nat.add_zero, h0]; rfl
  have e1 : ops[code.getD (i + 1 + 0) 0]? = some .LITERAL := by rw [Nat.add_zero, h1]; rfl
  have e3 : ops[code.getD (i + 1 + 2 + 0) 0]? = some .CATEGORY := by rw [Nat.add_zero, h3]; rfl
  have e5 : ops[code.getD (i + 1 + 2 + 2 + 0) 0]? = some .FAILURE := by rw [Nat.add_zero, h5]; rfl
  simp only [inS, e0, e1, e3, e5, h2, h4, cat_sp]
  cases ch == x <;> cases isSp ch <;> rfl
theorem inS_charset {code : Array Nat} {ch i n : Nat} (h0 : code.getD i 0 = 9) (h9 : code.getD (i + 9) 0 = 0) :
    inS code ch (n + 2) i true = some (decide (ch < 256) && (code.getD (i + (1 + ch / 32)) 0).testBit (ch % 32)) := by
  have e0 : ops[code.getD (i + 0) 0]? = some .CHARSET := by rw [Nat.add_zero, h0]; rfl
  have e9 : ops[code.getD (i + 9 + 0) 0]? = some .FAILURE := by rw [Nat.add_zero, h9]; rfl
  simp only [inS, e0, e9]
  cases decide (ch < 256) <;> cases (code.getD (i + (1 + ch / 32)) 0).testBit (ch % 32) <;> rfl
theorem inS_lits2 {code : Array Nat} {ch i n x y : Nat} (h0 : code.getD i 0 = 16) (h1 : code.getD (i + 1) 0 = x) (h2 : code.getD (i + 2) 0 = 16) (h3 : code.getD (i + 2 + 1) 0 = y) (h4 : code.getD (i + 2 + 2) 0 = 0) :
    inS code ch (n + 3) i true = some (ch == x || ch == y) := by
  have e0 : ops[code.getD (i + 0) 0]? = some .LITERAL := by rw [Nat.add_zero, h0]; rfl
  have e2 : ops[code.getD (i + 2 + 0) 0]? = some .LITERAL := by rw [Nat.add_zero, h2]; rfl
  have e4 : ops[code.getD (i + 2 + 2 + 0) 0]? = some .FAILURE := by rw [Nat.add_zero, h4]; rfl
  simp only [inS, e0, e2, e4, h1, h3]
  cases ch == x <;> cases ch == y <;> rfl
theorem inS_litrange {code : Array Nat} {ch i n x y z : Nat} (h0 : code.getD i 0 = 16) (h1 : code.getD (i + 1) 0 = x) (h2 : code.getD (i + 2) 0 = 22) (h3 : code.getD (i + 2 + 1) 0 = y) (h4 : code.getD (i + 2 + 2) 0 = z) (h5 : code.getD (i + 2 + 3) 0 = 0) :
    inS code ch (n + 3) i true = some (ch == x || (decide (y ≤ ch) && decide (ch ≤ z))) := by
  have e0 : ops[code.getD (i + 0) 0]? = some .LITERAL := by rw [Nat.add_zero, h0]; rfl
  have e2 : ops[code.getD (i + 2 + 0) 0]? = some .RANGE := by rw [Nat.add_zero, h2]; rfl
  have e4 : ops[code.getD (i + 2 + 3 + 0) 0]? = some .FAILURE := by rw [Nat.add_zero, h5]; rfl
  simp only [inS, e0, e2, e4, h1, h3, h4]
  cases ch == x <;> cases decide (y ≤ ch) <;> cases decide (ch ≤ z) <;> rfl
theorem op_sp (i : Nat) (h : i = 27 ∨ i = 70) (ch : Nat) : inS opCode ch opCode.size i true = some (isSp ch) := by
  rw [show opCode.size = 75 + 2 from op_size]
  rcases h with rfl | rfl
  · exact inS_cat (by decide +kernel) (by decide +kernel) (by decide +kernel)
  · exact inS_cat (by decide +kernel) (by decide +kernel) (by decide +kernel)
theorem op_head (i : Nat) (h : i = 13 ∨ i = 5) (ch : Nat) : inS opCode ch opCode.size i true = some (!(ch == 44 || isSp ch)) := by
  rw [show opCode.size = 73 + 4 from op_size]
  rcases h with rfl | rfl
  · exact inS_head (by decide +kernel) (by decide +kernel) (by decide +kernel) (by decide +kernel) (by decide +kernel) (by decide +kernel)
  · exact inS_head (by decide +kernel) (by decide +kernel) (by decide +kernel) (by decide +kernel) (by decide +kernel) (by decide +kernel)
theorem op_set (ch : Nat) : inS opCode ch opCode.size 41 true = some (isOp ch) := by
  rw [show opCode.size = 75 + 2 from op_size]
  exact inS_charset (by decide +kernel) (by decide +kernel)

def opLen (l : List Nat) : Option Nat :=
  if runL isOp l = 0 then (match l with | 58 :: 61 :: _ => some 2 | _ => none) else some (runL isOp l)
def opTry (s : Nat) : List Nat → Option Hit
  | [] => none
  | ch :: r => if ch == 44 || isSp ch then none else
    match opLen (r.drop (runL isSp r)) with
    | none => none
    | some k => some ⟨s, s + 1 + runL isSp r + k + runL isSp ((r.drop (runL isSp r)).drop k),
        [s + 1, s + 1 + runL isSp r, s + 1 + runL isSp r + k, s + 1 + runL isSp r + k + runL isSp ((r.drop (runL isSp r)).drop k)]⟩

section
variable {c : Cfg} (W : Whole c opCode)
include W
theorem op_end {q : Nat} {r : Regs} {fr : List Sre.Frame} {l : List Nat} (hq : q ≤ c.lim) (hl : c.text.toList.drop q = l) (hp : fr.all plainF = true) (hfr : fr.length < 100) (hlm : r.lm = 1) :
    Wins c 110 ⟨62, q, r, fr, none⟩ fun m => m.start = r.start ∧ m.handed = q + runL isSp l ∧ m.marks = (r.marks.setIfInBounds 2 (some q)).setIfInBounds 3 (some (q + runL isSp l)) ∧ m.lastmark = 3 := by
  have hs : c.code.size = 77 := by rw [W.code]; exact op_size
  have l1 := mark_ok (c := c) (pc := 62) (pos := q) (r := r) (fr := fr) (by omega) (by rw [W.code]; decide +kernel)
  rw [show c.code.getD (62 + 1) 0 = 2 by rw [W.code]; decide +kernel] at l1
  have hn : runL isSp l = cntP isSp c.text (c.lim - q) q := by rw [W.lim]; exact (cntP_run _ _ _ _ _ hl rfl).symm
  refine (Wins.of l1 (star_first (f := isSp) (n := runL isSp l) (b' := 105) (by omega) (by rw [W.code]; decide +kernel) (by rw [W.code]; decide +kernel) (fun ch => by rw [W.code]; exact op_sp 70 (.inr rfl) ch)
    (by rw [W.code, show opCode.getD (62 + 2 + 3) 0 = 4294967295 by decide +kernel]; have := W.big; omega) hq hn (by rw [W.code, show opCode.getD (62 + 2 + 2) 0 = 0 by decide +kernel]; omega) (by omega) ?_)).le (by omega)
  unfold G
  rw [show c.code.getD (62 + 2 + 1) 0 = 9 by rw [W.code]; decide +kernel]
  have l2 := mark_ok (c := c) (pc := 62 + 2 + 1 + 9) (pos := q + runL isSp l) (r := { r.marked 2 q with handed := q + runL isSp l }) (fr := mkF .giveBack (62 + 2) (q + runL isSp l) (r.marked 2 q).om (runL isSp l) (r.marked 2 q).lm (r.marked 2 q).li :: fr) (by omega) (by rw [W.code]; decide +kernel)
  rw [show c.code.getD (62 + 2 + 1 + 9 + 1) 0 = 3 by rw [W.code]; decide +kernel] at l2
  have l3 := success_ok (c := c) (pc := 62 + 2 + 1 + 9 + 2) (pos := q + runL isSp l) (r := ({ r.marked 2 q with handed := q + runL isSp l } : Regs).marked 3 (q + runL isSp l)) (fr := mkF .giveBack (62 + 2) (q + runL isSp l) (r.marked 2 q).om (runL isSp l) (r.marked 2 q).lm (r.marked 2 q).li :: fr) (by omega) (by rw [W.code]; decide +kernel)
  have w := wins_up (c := c) (mkF .giveBack (62 + 2) (q + runL isSp l) (r.marked 2 q).om (runL isSp l) (r.marked 2 q).lm (r.marked 2 q).li :: fr) (62 + 2 + 1 + 9 + 2) (q + runL isSp l)
    { ({ r.marked 2 q with handed := q + runL isSp l } : Regs).marked 3 (q + runL isSp l) with handed := q + runL isSp l } (all_plain_cons rfl hp)
  have w2 := Wins.of (l2.trans l3) w
  intro sn
  obtain ⟨k, hk, mf, o, ⟨p1, p2, p3, p4, _⟩, e⟩ := w2 sn
  refine ⟨k, ?_, mf, o, ⟨p1, p2, ?_, ?_⟩, e⟩
  · simp only [List.length_cons] at hk; omega
  · rw [p3]
    simp only [Regs.marked, clearTo, hlm]
    rw [if_pos (by decide), if_pos (by decide)]
  · rw [p4]
    simp only [Regs.marked, hlm]
    decide

theorem op_tail_win {q k : Nat} {r : Regs} {fr : List Sre.Frame} {l : List Nat} (hq : q ≤ c.lim) (hl : c.text.toList.drop q = l) (hp : fr.all plainF = true) (hfr : fr.length < 90) (hlm : r.lm = 0) (hk : opLen l = some k) :
    Wins c 120 ⟨31, q, r, fr, none⟩ fun m => m.start = r.start ∧ m.handed = q + k + runL isSp (l.drop k) ∧
      m.marks = ((r.marks.setIfInBounds 1 (some q)).setIfInBounds 2 (some (q + k))).setIfInBounds 3 (some (q + k + runL isSp (l.drop k))) ∧ m.lastmark = 3 := by
  have hs : c.code.size = 77 := by rw [W.code]; exact op_size
  have hlen := drop_len hl (by rw [← W.lim]; exact hq)
  have l1 := mark_ok (c := c) (pc := 31) (pos := q) (r := r) (fr := fr) (by omega) (by rw [W.code]; decide +kernel)
  rw [show c.code.getD (31 + 1) 0 = 1 by rw [W.code]; decide +kernel] at l1
  have l2 := branch_ok (c := c) (pc := 31 + 2) (pos := q) (r := r.marked 1 q) (fr := fr) (by omega) (by rw [W.code]; decide +kernel) (by rw [W.code]; decide +kernel) (by omega)
  have hn : runL isOp l = cntP isOp c.text (c.lim - q) q := by rw [W.lim]; exact (cntP_run _ _ _ _ _ hl rfl).symm
  have hm1 : (r.marked 1 q).lm = 1 := by simp only [Regs.marked, hlm]; decide
  have hmk : (r.marked 1 q).marks = r.marks.setIfInBounds 1 (some q) := by simp only [Regs.marked, clearTo, hlm]; simp
  unfold opLen at hk
  by_cases h0 : runL isOp l = 0
  · rw [if_pos h0] at hk
    -- the second way
    have hk' : ∃ rest, l = 58 :: 61 :: rest ∧ k = 2 := by
      split at hk
      · cases hk; exact ⟨_, rfl, rfl⟩
      · cases hk
    obtain ⟨rest, rfl, rfl⟩ := hk'
    obtain ⟨a1, a2, a3⟩ := drop_cons hl
    obtain ⟨b1, b2, b3⟩ := drop_cons a3
    have l3 := repeat_no (c := c) (pc := 31 + 2 + 1 + 1) (pos := q) (r := { r.marked 1 q with handed := q }) (f := isOp) (fr := mkF .nextBranch (31 + 2 + 1) q (r.marked 1 q).om 0 (r.marked 1 q).lm (r.marked 1 q).li :: fr)
      (by omega) (by rw [W.code]; decide +kernel) (by rw [W.code]; decide +kernel) (fun ch => by rw [W.code]; exact op_set ch)
      (by rw [W.code, show opCode.getD (31 + 2 + 1 + 1 + 3) 0 = 4294967295 by decide +kernel]; have := W.big; omega) hq (by rw [← hn, h0, W.code]; decide +kernel)
    have l4 := branch_next (c := c) (pc := 31 + 2 + 1 + 1) (pos := q) (r := { r.marked 1 q with handed := q }) (fr := fr) (alt := 31 + 2 + 1) (pos0 := q) (om := (r.marked 1 q).om) (lm := (r.marked 1 q).lm) (li := (r.marked 1 q).li)
      (by rw [W.code]; decide +kernel) (by omega)
    rw [show c.code.getD (31 + 2 + 1) 0 = 20 by rw [W.code]; decide +kernel] at l4
    have l5 := lit_ok (c := c) (pc := 31 + 2 + 1 + 20 + 1) (pos := q) (r := { ({ r.marked 1 q with handed := q } : Regs) with handed := q, om := (r.marked 1 q).om, lm := (r.marked 1 q).lm, li := (r.marked 1 q).li }) (fr := mkF .nextBranch (31 + 2 + 1 + 20) q (r.marked 1 q).om 0 (r.marked 1 q).lm (r.marked 1 q).li :: fr)
      (by omega) (by rw [W.code]; decide +kernel) (by rw [W.lim]; exact a1) (by rw [a2, W.code]; decide +kernel)
    have l6 := lit_ok (c := c) (pc := 31 + 2 + 1 + 20 + 1 + 2) (pos := q + 1) (r := { ({ r.marked 1 q with handed := q } : Regs) with handed := q, om := (r.marked 1 q).om, lm := (r.marked 1 q).lm, li := (r.marked 1 q).li }) (fr := mkF .nextBranch (31 + 2 + 1 + 20) q (r.marked 1 q).om 0 (r.marked 1 q).lm (r.marked 1 q).li :: fr)
      (by omega) (by rw [W.code]; decide +kernel) (by rw [W.lim]; exact b1) (by rw [b2, W.code]; decide +kernel)
    have l7 := jump_ok (c := c) (pc := 31 + 2 + 1 + 20 + 1 + 2 + 2) (pos := q + 1 + 1) (r := { ({ r.marked 1 q with handed := q } : Regs) with handed := q, om := (r.marked 1 q).om, lm := (r.marked 1 q).lm, li := (r.marked 1 q).li }) (fr := mkF .nextBranch (31 + 2 + 1 + 20) q (r.marked 1 q).om 0 (r.marked 1 q).lm (r.marked 1 q).li :: fr)
      (by omega) (by rw [W.code]; decide +kernel)
    rw [show c.code.getD (31 + 2 + 1 + 20 + 1 + 2 + 2 + 1) 0 = 2 by rw [W.code]; decide +kernel] at l7
    have w := op_end W (q := q + 1 + 1) (r := { ({ r.marked 1 q with handed := q } : Regs) with handed := q, om := (r.marked 1 q).om, lm := (r.marked 1 q).lm, li := (r.marked 1 q).li })
      (fr := mkF .nextBranch (31 + 2 + 1 + 20) q (r.marked 1 q).om 0 (r.marked 1 q).lm (r.marked 1 q).li :: fr) (l := rest) (by rw [W.lim]; omega) b3 (all_plain_cons rfl hp) (by simp only [List.length_cons]; omega) hm1
    have w2 := Wins.of ((((((l1.trans l2).trans l3).trans l4).trans l5).trans l6).trans l7) w
    intro sn
    obtain ⟨k', hk', mf, o, ⟨p1, p2, p3, p4⟩, e⟩ := w2 sn
    refine ⟨k', by omega, mf, o, ⟨p1, p2, ?_, p4⟩, e⟩
    rw [p3]
    simp only [hmk]
    rfl
  · rw [if_neg h0] at hk
    cases hk
    have l3 := repeat_ok (c := c) (pc := 31 + 2 + 1 + 1) (pos := q) (r := { r.marked 1 q with handed := q }) (f := isOp) (n := runL isOp l) (fr := mkF .nextBranch (31 + 2 + 1) q (r.marked 1 q).om 0 (r.marked 1 q).lm (r.marked 1 q).li :: fr)
      (by omega) (by rw [W.code]; decide +kernel) (by rw [W.code]; decide +kernel) (fun ch => by rw [W.code]; exact op_set ch)
      (by rw [W.code, show opCode.getD (31 + 2 + 1 + 1 + 3) 0 = 4294967295 by decide +kernel]; have := W.big; omega) hq hn (by rw [W.code, show opCode.getD (31 + 2 + 1 + 1 + 2) 0 = 1 by decide +kernel]; omega) (by simp only [List.length_cons]; omega)
    rw [show c.code.getD (31 + 2 + 1 + 1 + 1) 0 = 16 by rw [W.code]; decide +kernel] at l3
    have l4 := jump_ok (c := c) (pc := 31 + 2 + 1 + 1 + 1 + 16) (pos := q + runL isOp l) (r := { ({ r.marked 1 q with handed := q } : Regs) with handed := q + runL isOp l })
      (fr := mkF .giveBack (31 + 2 + 1 + 1) (q + runL isOp l) (r.marked 1 q).om (runL isOp l) (r.marked 1 q).lm (r.marked 1 q).li :: mkF .nextBranch (31 + 2 + 1) q (r.marked 1 q).om 0 (r.marked 1 q).lm (r.marked 1 q).li :: fr)
      (by omega) (by rw [W.code]; decide +kernel)
    rw [show c.code.getD (31 + 2 + 1 + 1 + 1 + 16 + 1) 0 = 9 by rw [W.code]; decide +kernel] at l4
    have hle := runL_le isOp l
    have w := op_end W (q := q + runL isOp l) (r := { ({ r.marked 1 q with handed := q } : Regs) with handed := q + runL isOp l })
      (fr := mkF .giveBack (31 + 2 + 1 + 1) (q + runL isOp l) (r.marked 1 q).om (runL isOp l) (r.marked 1 q).lm (r.marked 1 q).li :: mkF .nextBranch (31 + 2 + 1) q (r.marked 1 q).om 0 (r.marked 1 q).lm (r.marked 1 q).li :: fr)
      (l := l.drop (runL isOp l)) (by rw [W.lim]; omega) (drop_more hl) (all_plain_cons rfl (all_plain_cons rfl hp)) (by simp only [List.length_cons]; omega) hm1
    have w2 := Wins.of (((l1.trans l2).trans l3).trans l4) w
    intro sn
    obtain ⟨k', hk', mf, o, ⟨p1, p2, p3, p4⟩, e⟩ := w2 sn
    refine ⟨k', by omega, mf, o, ⟨p1, p2, ?_, p4⟩, e⟩
    rw [p3]
    simp only [hmk]

theorem op_tail_fail {q : Nat} {r : Regs} {fr : List Sre.Frame} {l : List Nat} (hq : q ≤ c.lim) (hl : c.text.toList.drop q = l) (hfr : fr.length < 90) (hk : opLen l = none) :
    Fails c 10 ⟨31, q, r, fr, none⟩ := by
  have hs : c.code.size = 77 := by rw [W.code]; exact op_size
  have l1 := mark_ok (c := c) (pc := 31) (pos := q) (r := r) (fr := fr) (by omega) (by rw [W.code]; decide +kernel)
  rw [show c.code.getD (31 + 1) 0 = 1 by rw [W.code]; decide +kernel] at l1
  have l2 := branch_ok (c := c) (pc := 31 + 2) (pos := q) (r := r.marked 1 q) (fr := fr) (by omega) (by rw [W.code]; decide +kernel) (by rw [W.code]; decide +kernel) (by omega)
  have hn : runL isOp l = cntP isOp c.text (c.lim - q) q := by rw [W.lim]; exact (cntP_run _ _ _ _ _ hl rfl).symm
  have hsz : (r.marked 1 q).marks.size = r.marks.size := by
    simp only [Regs.marked, clearTo]
    split
    · simp
    · simp [List.range, List.range.loop]
      split <;> simp
  unfold opLen at hk
  have h0 : runL isOp l = 0 := by
    rcases Nat.eq_zero_or_pos (runL isOp l) with h | h
    · exact h
    · rw [if_neg (by omega)] at hk; cases hk
  rw [if_pos h0] at hk
  have l3 := repeat_no (c := c) (pc := 31 + 2 + 1 + 1) (pos := q) (r := { r.marked 1 q with handed := q }) (f := isOp) (fr := mkF .nextBranch (31 + 2 + 1) q (r.marked 1 q).om 0 (r.marked 1 q).lm (r.marked 1 q).li :: fr)
    (by omega) (by rw [W.code]; decide +kernel) (by rw [W.code]; decide +kernel) (fun ch => by rw [W.code]; exact op_set ch)
    (by rw [W.code, show opCode.getD (31 + 2 + 1 + 1 + 3) 0 = 4294967295 by decide +kernel]; have := W.big; omega) hq (by rw [← hn, h0, W.code]; decide +kernel)
  have l4 := branch_next (c := c) (pc := 31 + 2 + 1 + 1) (pos := q) (r := { r.marked 1 q with handed := q }) (fr := fr) (alt := 31 + 2 + 1) (pos0 := q) (om := (r.marked 1 q).om) (lm := (r.marked 1 q).lm) (li := (r.marked 1 q).li)
    (by rw [W.code]; decide +kernel) (by omega)
  rw [show c.code.getD (31 + 2 + 1) 0 = 20 by rw [W.code]; decide +kernel] at l4
  have l1234 := ((l1.trans l2).trans l3).trans l4
  have done : ∀ {pc' pos' : Nat} {r' : Regs} {b : Nat},
      Leads c b ⟨31 + 2 + 1 + 20 + 1, q, { ({ r.marked 1 q with handed := q } : Regs) with handed := q, om := (r.marked 1 q).om, lm := (r.marked 1 q).lm, li := (r.marked 1 q).li }, mkF .nextBranch (31 + 2 + 1 + 20) q (r.marked 1 q).om 0 (r.marked 1 q).lm (r.marked 1 q).li :: fr, none⟩
        ⟨pc', pos', r', mkF .nextBranch (31 + 2 + 1 + 20) q (r.marked 1 q).om 0 (r.marked 1 q).lm (r.marked 1 q).li :: fr, some false⟩ → r'.start = r.start → r'.marks.size = r.marks.size → b ≤ 5 → Fails c 10 ⟨31, q, r, fr, none⟩ := by
    intro pc' pos' r' b l5 hst hms hb
    have l6 := branch_out (c := c) (pc := pc') (pos := pos') (r := r') (fr := fr) (alt := 31 + 2 + 1 + 20) (pos0 := q) (om := (r.marked 1 q).om) (lm := (r.marked 1 q).lm) (li := (r.marked 1 q).li)
      (by rw [W.code]; decide +kernel)
    exact ⟨_, ((l1234.trans l5).trans l6).le (by omega), rfl, rfl, hst, hms⟩
  cases l with
  | nil =>
    have hq' : c.lim ≤ q := by rw [W.lim]; exact drop_nil hl
    exact done (lit_no (by omega) (by rw [W.code]; decide +kernel) (fun h => absurd h (Nat.not_lt.mpr hq'))) rfl hsz (by omega)
  | cons x rest =>
    obtain ⟨a1, a2, a3⟩ := drop_cons hl
    by_cases hx : x = 58
    · subst hx
      have l5 := lit_ok (c := c) (pc := 31 + 2 + 1 + 20 + 1) (pos := q) (r := { ({ r.marked 1 q with handed := q } : Regs) with handed := q, om := (r.marked 1 q).om, lm := (r.marked 1 q).lm, li := (r.marked 1 q).li }) (fr := mkF .nextBranch (31 + 2 + 1 + 20) q (r.marked 1 q).om 0 (r.marked 1 q).lm (r.marked 1 q).li :: fr)
        (by omega) (by rw [W.code]; decide +kernel) (by rw [W.lim]; exact a1) (by rw [a2, W.code]; decide +kernel)
      refine done (l5.trans (lit_no (by omega) (by rw [W.code]; decide +kernel) fun h => ?_)) rfl hsz (by omega)
      cases rest with
      | nil => have := drop_nil a3; rw [W.lim] at h; omega
      | cons y rest =>
        obtain ⟨b1, b2, b3⟩ := drop_cons a3
        rw [b2, W.code, show opCode.getD (31 + 2 + 1 + 20 + 1 + 2 + 1) 0 = 61 by decide +kernel]
        rintro rfl
        cases hk
    · refine done (lit_no (by omega) (by rw [W.code]; decide +kernel) fun _ => ?_) rfl hsz (by omega)
      rw [a2, W.code, show opCode.getD (31 + 2 + 1 + 20 + 1 + 1) 0 = 58 by decide +kernel]
      exact hx
end
end Mine

end

/-! ## LSre4 -/
section
namespace Mine
open PySem PySem.Sre
set_option maxRecDepth 100000

def prevAt (t : Array Nat) (s : Nat) : Option Nat := if s = 0 then none else some (t.getD (s - 1) 0)
def findL (try_ : Option Nat → Nat → List Nat → Option Hit) : Option Nat → Nat → List Nat → Option Hit
  | _, _, [] => none
  | prev, p, ch :: r => match try_ prev p (ch :: r) with
    | some h => some h
    | none => findL try_ (some ch) (p + 1) r
theorem findL_spec (try_ : Option Nat → Nat → List Nat → Option Hit) (t : Array Nat) (hnil : ∀ prev p, try_ prev p [] = none) : ∀ (l : List Nat) (p : Nat), t.toList.drop p = l →
    match findL try_ (prevAt t p) p l with
    | some h => ∃ e, p ≤ e ∧ e < t.size ∧ try_ (prevAt t e) e (t.toList.drop e) = some h ∧ ∀ s, p ≤ s → s < e → try_ (prevAt t s) s (t.toList.drop s) = none
    | none => ∀ s, p ≤ s → try_ (prevAt t s) s (t.toList.drop s) = none := by
  intro l
  induction l with
  | nil =>
    intro p hl
    simp only [findL]
    intro s hs
    rw [List.drop_of_length_le (by rw [Array.length_toList]; have := drop_nil hl; omega)]
    exact hnil _ _
  | cons ch r ih =>
    intro p hl
    obtain ⟨h1, h2, h3⟩ := drop_cons hl
    have hpv : prevAt t (p + 1) = some ch := by
      unfold prevAt
      rw [if_neg (by omega), Nat.add_sub_cancel, h2]
    simp only [findL]
    cases ht : try_ (prevAt t p) p (ch :: r) with
    | some h =>
      exact ⟨p, Nat.le_refl _, h1, by rw [hl]; exact ht, fun s a b => absurd a (Nat.not_le.mpr b)⟩
    | none =>
      have := ih (p + 1) h3
      rw [hpv] at this
      simp only
      cases hf : findL try_ (some ch) (p + 1) r with
      | some h =>
        rw [hf] at this
        obtain ⟨e, a1, a2, a3, a4⟩ := this
        refine ⟨e, by omega, a2, a3, fun s b1 b2 => ?_⟩
        rcases Nat.eq_or_lt_of_le b1 with rfl | hlt
        · rw [hl]; exact ht
        · exact a4 s hlt b2
      | none =>
        rw [hf] at this
        intro s b1
        rcases Nat.eq_or_lt_of_le b1 with rfl | hlt
        · rw [hl]; exact ht
        · exact this s hlt

/-- what an engine is known to do at each start -/
structure Engine (c : Cfg) (pc sz : Nat) (adm : Nat → Bool) (try_ : Option Nat → Nat → List Nat → Option Hit) (bf bw : Nat) : Prop where
  starts : Starts c pc adm
  last : c.lastStart ≤ c.lim
  lim : c.lim = c.text.size
  nil : ∀ prev p, try_ prev p [] = none
  fails : ∀ s om marks, s ≤ c.lim → marks.size = sz → try_ (prevAt c.text s) s (c.text.toList.drop s) = none → Fails c bf (Att pc marks s om)
  wins : ∀ s om marks h, s ≤ c.lim → marks.size = sz → try_ (prevAt c.text s) s (c.text.toList.drop s) = some h → adm s = true ∧ s ≤ c.lastStart ∧ Wins c bw (Att pc marks s om) h.Is
theorem Engine.search {c : Cfg} {pc sz : Nat} {adm : Nat → Bool} {try_ : Option Nat → Nat → List Nat → Option Hit} {bf bw : Nat} (X : Engine c pc sz adm try_ bf bw)
    {p pos : Nat} {r : Regs} {om : Bool} {sn : Seen} (hp : p ≤ c.lim) (hr : r.marks.size = sz) :
    match findL try_ (prevAt c.text p) p (c.text.toList.drop p) with
    | some h => WinsM ((bf + 1) * c.lim + bw) ((mkM c ⟨pc, pos, r, [], none⟩ sn).attemptFrom p om) h.Is
    | none => LosesM ((bf + 1) * (c.lim + 2) + 1) ((mkM c ⟨pc, pos, r, [], none⟩ sn).attemptFrom p om) := by
  have spec := findL_spec try_ c.text X.nil _ p rfl
  split
  · rename_i h hf
    rw [hf] at spec
    obtain ⟨e, a1, a2, a3, a4⟩ := spec
    have hel : e ≤ c.lim := by rw [X.lim]; omega
    obtain ⟨w1, w2, _⟩ := X.wins e true (Array.replicate sz none) h hel (by simp) a3
    obtain ⟨k, hk, rest⟩ := search_hit (b := bf) (b' := bw) (sz := sz) X.starts (lo := p) w2 hel w1 (fun s b1 b2 _ om marks hm => X.fails s om marks (by omega) hm (a4 s b1 b2))
      (fun om marks hm => (X.wins e om marks h hel hm a3).2.2) (e - p) p r pos om sn rfl a1 (Nat.le_refl _) hr
    have : (bf + 1) * (e - p) ≤ (bf + 1) * c.lim := Nat.mul_le_mul_left _ (by omega)
    exact ⟨k, by omega, rest⟩
  · rename_i hf
    rw [hf] at spec
    obtain ⟨k, hk, rest⟩ := search_none (b := bf) (sz := sz) X.starts (lo := p) X.last (fun s b1 b2 _ om marks hm => X.fails s om marks b2 hm (spec s b1))
      (c.lastStart + 1 - p) p r pos om sn rfl (Nat.le_refl _) hp hr
    have := X.last
    have : (bf + 1) * (c.lastStart + 1 - p + 1) ≤ (bf + 1) * (c.lim + 2) := Nat.mul_le_mul_left _ (by omega)
    exact ⟨k, by omega, rest⟩

theorem op_not_sp {x : Nat} (h : isSp x = true) : isOp x = false ∧ x ≠ 58 := by
  by_cases hx : x < 256
  · have key : ∀ y, y < 256 → (isSp y && (isOp y || y == 58)) = false := by decide +kernel
    have := key x hx
    rw [h, Bool.true_and, Bool.or_eq_false_iff] at this
    exact ⟨this.1, beq_eq_false_iff_ne.mp this.2⟩
  · refine ⟨?_, by omega⟩
    unfold isOp
    rw [decide_eq_false hx, Bool.false_and]
theorem opLen_sp {x : Nat} {r : List Nat} (h : isSp x = true) : opLen (x :: r) = none := by
  obtain ⟨h1, h2⟩ := op_not_sp h
  unfold opLen
  rw [runL_no h1, if_pos rfl]
  split
  · rename_i e; cases e; exact absurd rfl h2
  · rfl
theorem drop_in_run {f : Nat → Bool} : ∀ {l : List Nat} {j : Nat}, j < runL f l → ∃ x r, l.drop j = x :: r ∧ f x = true
  | [], j, h => by simp [runL] at h
  | ch :: l, j, h => by
    cases hc : f ch with
    | false => rw [runL_no hc] at h; omega
    | true =>
      rw [runL_yes hc] at h
      cases j with
      | zero => exact ⟨ch, l, rfl, hc⟩
      | succ j => exact drop_in_run (l := l) (j := j) (by omega)

section
variable {c : Cfg} (W : Whole c opCode)
include W
theorem op_att_fail {s : Nat} {om : Bool} {marks : Array (Option Nat)} {l : List Nat} (hs : s ≤ c.lim) (hl : c.text.toList.drop s = l) (h : opTry s l = none) :
    Fails c (20 + 11 * (c.lim + 1)) (Att 11 marks s om) := by
  have hsz : c.code.size = 77 := by rw [W.code]; exact op_size
  have no : (s < c.lim → (!(c.text.getD s 0 == 44 || isSp (c.text.getD s 0))) = false) → Fails c (20 + 11 * (c.lim + 1)) (Att 11 marks s om) := fun hn =>
    ⟨_, (in_no (by omega) (by rw [W.code]; decide +kernel) fun hlt => by rw [W.code, op_head 13 (.inl rfl), hn hlt]).le (by omega), rfl, rfl, rfl, rfl⟩
  cases l with
  | nil => exact no fun hlt => by have := drop_nil hl; rw [W.lim] at hlt; omega
  | cons ch r =>
    obtain ⟨a1, a2, a3⟩ := drop_cons hl
    have hlen := drop_len a3 (by omega)
    cases hc : (ch == 44 || isSp ch) with
    | true => exact no fun _ => by rw [a2, hc]; rfl
    | false =>
      simp only [opTry, hc, Bool.false_eq_true, if_false] at h
      have hk : opLen (r.drop (runL isSp r)) = none := by
        cases e : opLen (r.drop (runL isSp r)) with
        | none => rfl
        | some k => rw [e] at h; cases h
      have l1 := in_ok (c := c) (pc := 11) (pos := s) (r := ⟨s, om, marks, -1, -1, s⟩) (fr := [mkF .nextStart 11 s om 0 (-1) (-1)]) (by omega) (by rw [W.code]; decide +kernel) (by rw [W.lim]; exact a1)
        (by rw [W.code, op_head 13 (.inl rfl), a2, hc]; rfl)
      rw [show c.code.getD (11 + 1) 0 = 7 by rw [W.code]; decide +kernel] at l1
      have l2 := mark_ok (c := c) (pc := 11 + (1 + 7)) (pos := s + 1) (r := ⟨s, om, marks, -1, -1, s⟩) (fr := [mkF .nextStart 11 s om 0 (-1) (-1)]) (by omega) (by rw [W.code]; decide +kernel)
      rw [show c.code.getD (11 + (1 + 7) + 1) 0 = 0 by rw [W.code]; decide +kernel] at l2
      have hn : runL isSp r = cntP isSp c.text (c.lim - (s + 1)) (s + 1) := by rw [W.lim]; exact (cntP_run _ _ _ _ _ a3 rfl).symm
      have hle := runL_le isSp r
      obtain ⟨r', L', pos', l3⟩ := star_fails (c := c) (pc := 11 + (1 + 7) + 2) (pos := s + 1) (r := (⟨s, om, marks, -1, -1, s⟩ : Regs).marked 0 (s + 1)) (fr := [mkF .nextStart 11 s om 0 (-1) (-1)]) (b := 10) (f := isSp)
        (by omega) (by rw [W.code]; decide +kernel) (by rw [W.code]; decide +kernel) (fun x => by rw [W.code]; exact op_sp 27 (.inl rfl) x)
        (by rw [W.code, show opCode.getD (11 + (1 + 7) + 2 + 3) 0 = 4294967295 by decide +kernel]; have := W.big; omega) (by rw [W.lim]; omega) hn (by rw [W.code]; decide +kernel) (by show 1 < 1000; omega)
        (fun j hj r' hr => by
          unfold G
          rw [show c.code.getD (11 + (1 + 7) + 2 + 1) 0 = 9 by rw [W.code]; decide +kernel]
          refine op_tail_fail W (q := s + 1 + j) (l := r.drop j) (by rw [W.lim]; omega) (drop_more a3) (by simp) ?_
          rcases Nat.eq_or_lt_of_le hj with rfl | hlt
          · exact hk
          · obtain ⟨x, r2, e, hx⟩ := drop_in_run hlt
            rw [e]; exact opLen_sp hx)
      refine ⟨_, ((l1.trans l2).trans l3).le ?_, rfl, rfl, L'.2.2.2.1, ?_⟩
      · have : (10 + 1) * (runL isSp r + 1) ≤ 11 * (c.lim + 1) := Nat.mul_le_mul_left _ (by rw [W.lim]; omega)
        omega
      · rw [L'.2.2.2.2]
        simp [Regs.marked, clearTo, Att]
theorem op_att_win {s : Nat} {om : Bool} {marks : Array (Option Nat)} {l : List Nat} {h : Hit} (hm : marks.size = 4) (hs : s ≤ c.lim) (hl : c.text.toList.drop s = l) (hh : opTry s l = some h) :
    (decide (s < c.lim) && !(c.text.getD s 0 == 44 || isSp (c.text.getD s 0))) = true ∧ Wins c 200 (Att 11 marks s om) h.Is := by
  have hsz : c.code.size = 77 := by rw [W.code]; exact op_size
  cases l with
  | nil => cases hh
  | cons ch r =>
    obtain ⟨a1, a2, a3⟩ := drop_cons hl
    have hlen := drop_len a3 (by omega)
    cases hc : (ch == 44 || isSp ch) with
    | true => simp only [opTry, hc, if_true] at hh; cases hh
    | false =>
      refine ⟨by rw [W.lim, decide_eq_true a1, a2, hc]; rfl, ?_⟩
      simp only [opTry, hc, Bool.false_eq_true, if_false] at hh
      cases hk : opLen (r.drop (runL isSp r)) with
      | none => rw [hk] at hh; cases hh
      | some k =>
        rw [hk] at hh
        simp only [Option.some.injEq] at hh
        subst hh
        have l1 := in_ok (c := c) (pc := 11) (pos := s) (r := ⟨s, om, marks, -1, -1, s⟩) (fr := [mkF .nextStart 11 s om 0 (-1) (-1)]) (by omega) (by rw [W.code]; decide +kernel) (by rw [W.lim]; exact a1)
          (by rw [W.code, op_head 13 (.inl rfl), a2, hc]; rfl)
        rw [show c.code.getD (11 + 1) 0 = 7 by rw [W.code]; decide +kernel] at l1
        have l2 := mark_ok (c := c) (pc := 11 + (1 + 7)) (pos := s + 1) (r := ⟨s, om, marks, -1, -1, s⟩) (fr := [mkF .nextStart 11 s om 0 (-1) (-1)]) (by omega) (by rw [W.code]; decide +kernel)
        rw [show c.code.getD (11 + (1 + 7) + 1) 0 = 0 by rw [W.code]; decide +kernel] at l2
        have hn : runL isSp r = cntP isSp c.text (c.lim - (s + 1)) (s + 1) := by rw [W.lim]; exact (cntP_run _ _ _ _ _ a3 rfl).symm
        have hle := runL_le isSp r
        have w := op_tail_win W (q := s + 1 + runL isSp r) (k := k) (r := { (⟨s, om, marks, -1, -1, s⟩ : Regs).marked 0 (s + 1) with handed := s + 1 + runL isSp r })
          (fr := [mkF .giveBack (11 + (1 + 7) + 2) (s + 1 + runL isSp r) ((⟨s, om, marks, -1, -1, s⟩ : Regs).marked 0 (s + 1)).om (runL isSp r) ((⟨s, om, marks, -1, -1, s⟩ : Regs).marked 0 (s + 1)).lm ((⟨s, om, marks, -1, -1, s⟩ : Regs).marked 0 (s + 1)).li, mkF .nextStart 11 s om 0 (-1) (-1)])
          (l := r.drop (runL isSp r)) (by rw [W.lim]; omega) (drop_more a3) rfl (by simp) (by simp only [Regs.marked]; decide) hk
        have l3 := repeat_ok (c := c) (pc := 11 + (1 + 7) + 2) (pos := s + 1) (r := (⟨s, om, marks, -1, -1, s⟩ : Regs).marked 0 (s + 1)) (fr := [mkF .nextStart 11 s om 0 (-1) (-1)]) (f := isSp) (n := runL isSp r)
          (by omega) (by rw [W.code]; decide +kernel) (by rw [W.code]; decide +kernel) (fun x => by rw [W.code]; exact op_sp 27 (.inl rfl) x)
          (by rw [W.code, show opCode.getD (11 + (1 + 7) + 2 + 3) 0 = 4294967295 by decide +kernel]; have := W.big; omega) (by rw [W.lim]; omega) hn (by rw [W.code, show opCode.getD (11 + (1 + 7) + 2 + 2) 0 = 0 by decide +kernel]; omega) (by show 1 < 1000; omega)
        rw [show c.code.getD (11 + (1 + 7) + 2 + 1) 0 = 9 by rw [W.code]; decide +kernel] at l3
        have w2 := Wins.of ((l1.trans l2).trans l3) w
        intro sn
        obtain ⟨k', hk', mf, o, ⟨p1, p2, p3, p4⟩, e⟩ := w2 sn
        refine ⟨k', by omega, mf, o, ⟨p1, ?_, ?_, ?_⟩, e⟩
        · rw [p2]
        · rw [p3]
          simp only [Regs.marked, clearTo]
          exact marks4 hm
        · rw [p4]; rfl
theorem op_engine (hl : c.lastStart = c.lim) : Engine c 11 4 (fun s => decide (s < c.lim) && !(c.text.getD s 0 == 44 || isSp (c.text.getD s 0))) (fun _ => opTry) (20 + 11 * (c.lim + 1)) 200 where
  starts := Starts.set (f := fun x => !(x == 44 || isSp x)) (by rw [W.code]; decide +kernel) (by rw [W.code]; decide +kernel) (fun ch => by rw [W.code]; exact op_head 5 (.inr rfl) ch)
  last := Nat.le_of_eq hl
  lim := W.lim
  nil := fun _ _ => rfl
  fails := fun s om marks hs _ h => op_att_fail W hs rfl h
  wins := fun s om marks h hs hm hh => let ⟨a, b⟩ := op_att_win W hm hs rfl hh; ⟨a, by omega, b⟩
end
end Mine

end

/-! ## LSre5 -/
section
namespace Mine
open PySem PySem.Sre
set_option maxRecDepth 100000

/-! commas and semicolons -/
def isCm (ch : Nat) : Bool := ch == 44 || (decide (58 ≤ ch) && decide (ch ≤ 59))
theorem cm_size : cmCode.size = 44 := by decide +kernel
theorem cm_sp (ch : Nat) : inS cmCode ch cmCode.size 25 true = some (isSp ch) := by
  rw [show cmCode.size = 42 + 2 from cm_size]
  exact inS_cat (by decide +kernel) (by decide +kernel) (by decide +kernel)
theorem cm_head (i : Nat) (h : i = 13 ∨ i = 5) (ch : Nat) : inS cmCode ch cmCode.size i true = some (isCm ch) := by
  rw [show cmCode.size = 41 + 3 from cm_size]
  rcases h with rfl | rfl
  · exact inS_litrange (by decide +kernel) (by decide +kernel) (by decide +kernel) (by decide +kernel) (by decide +kernel) (by decide +kernel)
  · exact inS_litrange (by decide +kernel) (by decide +kernel) (by decide +kernel) (by decide +kernel) (by decide +kernel) (by decide +kernel)

def cmEnd : List Nat → Option Nat
  | 32 :: 32 :: _ => some 2
  | 9 :: _ => some 1
  | _ => none
def cmDown (r : List Nat) : Nat → Option Nat
  | 0 => cmEnd r
  | m + 1 => match cmEnd (r.drop (m + 1)) with
    | some k => some (m + 1 + k)
    | none => cmDown r m
def cmTry (s : Nat) : List Nat → Option Hit
  | [] => none
  | ch :: r => if isCm ch then (cmDown r (runL isSp r)).map fun j => ⟨s, s + 1 + j, []⟩ else none
theorem cmDown_none {r : List Nat} : ∀ {n : Nat}, cmDown r n = none → ∀ j, j ≤ n → cmEnd (r.drop j) = none
  | 0, h, j, hj => by obtain rfl : j = 0 := by omega
                      exact h
  | n + 1, h, j, hj => by
    simp only [cmDown] at h
    split at h
    · cases h
    · rename_i e
      rcases Nat.eq_or_lt_of_le hj with rfl | hlt
      · exact e
      · exact cmDown_none h j (by omega)
theorem cmDown_some {r : List Nat} : ∀ {n x : Nat}, cmDown r n = some x → ∃ m k, m ≤ n ∧ cmEnd (r.drop m) = some k ∧ x = m + k ∧ ∀ j, m < j → j ≤ n → cmEnd (r.drop j) = none
  | 0, x, h => ⟨0, x, Nat.le_refl _, h, by omega, fun j a b => by omega⟩
  | n + 1, x, h => by
    simp only [cmDown] at h
    split at h
    · rename_i k e
      cases h
      exact ⟨n + 1, k, Nat.le_refl _, e, rfl, fun j a b => by omega⟩
    · rename_i e
      obtain ⟨m, k, h1, h2, h3, h4⟩ := cmDown_some h
      refine ⟨m, k, by omega, h2, h3, fun j a b => ?_⟩
      rcases Nat.eq_or_lt_of_le b with rfl | hlt
      · exact e
      · exact h4 j a (by omega)

section
variable {c : Cfg} (W : Whole c cmCode)
include W
theorem cm_tail_win {q k : Nat} {r : Regs} {fr : List Sre.Frame} {l : List Nat} (hl : c.text.toList.drop q = l) (hp : fr.all plainF = true) (hfr : fr.length < 90) (hk : cmEnd l = some k) :
    Wins c 120 ⟨29, q, r, fr, none⟩ fun m => m.start = r.start ∧ m.handed = q + k ∧ m.marks = r.marks ∧ m.lastmark = r.lm := by
  have hs : c.code.size = 44 := by rw [W.code]; exact cm_size
  have l1 := branch_ok (c := c) (pc := 29) (pos := q) (r := r) (fr := fr) (by omega) (by rw [W.code]; decide +kernel) (by rw [W.code]; decide +kernel) (by omega)
  have cases2 : (∃ rest, l = 32 :: 32 :: rest ∧ k = 2) ∨ (∃ rest, l = 9 :: rest ∧ k = 1) := by
    unfold cmEnd at hk
    split at hk
    · cases hk; exact .inl ⟨_, rfl, rfl⟩
    · cases hk; exact .inr ⟨_, rfl, rfl⟩
    · cases hk
  have fin : ∀ {b pc' : Nat} {r' : Regs} {F : Sre.Frame}, Leads c b ⟨29, q, r, fr, none⟩ ⟨pc', q + k, r', F :: fr, none⟩ →
      plainF F = true → b ≤ 10 → r'.start = r.start → r'.marks = r.marks → r'.lm = r.lm → pc' = 43 → Wins c 120 ⟨29, q, r, fr, none⟩ fun m => m.start = r.start ∧ m.handed = q + k ∧ m.marks = r.marks ∧ m.lastmark = r.lm := by
    intro b pc' r' F l hF hb h1 h2 h3 hpc
    subst hpc
    have l3 := success_ok (c := c) (pc := 43) (pos := q + k) (r := r') (fr := F :: fr) (by omega) (by rw [W.code]; decide +kernel)
    have w2 := Wins.of (l.trans l3) (wins_up (c := c) (F :: fr) 43 (q + k) { r' with handed := q + k } (all_plain_cons hF hp))
    intro sn
    obtain ⟨k', hk', mf, o, ⟨p1, p2, p3, p4, _⟩, e⟩ := w2 sn
    exact ⟨k', by simp only [List.length_cons] at hk'; omega, mf, o, ⟨p1.trans h1, p2, p3.trans h2, p4.trans h3⟩, e⟩
  rcases cases2 with ⟨rest, rfl, rfl⟩ | ⟨rest, rfl, rfl⟩
  · obtain ⟨a1, a2, a3⟩ := drop_cons hl
    obtain ⟨b1, b2, b3⟩ := drop_cons a3
    have l5 := lit_ok (c := c) (pc := 29 + 1 + 1) (pos := q) (r := { r with handed := q }) (fr := mkF .nextBranch (29 + 1) q r.om 0 r.lm r.li :: fr)
      (by omega) (by rw [W.code]; decide +kernel) (by rw [W.lim]; exact a1) (by rw [a2, W.code]; decide +kernel)
    have l6 := lit_ok (c := c) (pc := 29 + 1 + 1 + 2) (pos := q + 1) (r := { r with handed := q }) (fr := mkF .nextBranch (29 + 1) q r.om 0 r.lm r.li :: fr)
      (by omega) (by rw [W.code]; decide +kernel) (by rw [W.lim]; exact b1) (by rw [b2, W.code]; decide +kernel)
    have l7 := jump_ok (c := c) (pc := 29 + 1 + 1 + 2 + 2) (pos := q + 1 + 1) (r := { r with handed := q }) (fr := mkF .nextBranch (29 + 1) q r.om 0 r.lm r.li :: fr)
      (by omega) (by rw [W.code]; decide +kernel)
    rw [show c.code.getD (29 + 1 + 1 + 2 + 2 + 1) 0 = 7 by rw [W.code]; decide +kernel] at l7
    exact fin (((l1.trans l5).trans l6).trans l7) rfl (by omega) rfl rfl rfl rfl
  · obtain ⟨a1, a2, a3⟩ := drop_cons hl
    have l5 := lit_no (c := c) (pc := 29 + 1 + 1) (pos := q) (r := { r with handed := q }) (fr := mkF .nextBranch (29 + 1) q r.om 0 r.lm r.li :: fr)
      (by omega) (by rw [W.code]; decide +kernel) (fun _ => by rw [a2, W.code]; decide +kernel)
    have l6 := branch_next (c := c) (pc := 29 + 1 + 1) (pos := q) (r := { r with handed := q }) (fr := fr) (alt := 29 + 1) (pos0 := q) (om := r.om) (lm := r.lm) (li := r.li) (by rw [W.code]; decide +kernel) (by omega)
    rw [show c.code.getD (29 + 1) 0 = 7 by rw [W.code]; decide +kernel] at l6
    have l7 := lit_ok (c := c) (pc := 29 + 1 + 7 + 1) (pos := q) (r := { ({ r with handed := q } : Regs) with handed := q, om := r.om, lm := r.lm, li := r.li }) (fr := mkF .nextBranch (29 + 1 + 7) q r.om 0 r.lm r.li :: fr)
      (by omega) (by rw [W.code]; decide +kernel) (by rw [W.lim]; exact a1) (by rw [a2, W.code]; decide +kernel)
    have l8 := jump_ok (c := c) (pc := 29 + 1 + 7 + 1 + 2) (pos := q + 1) (r := { ({ r with handed := q } : Regs) with handed := q, om := r.om, lm := r.lm, li := r.li }) (fr := mkF .nextBranch (29 + 1 + 7) q r.om 0 r.lm r.li :: fr)
      (by omega) (by rw [W.code]; decide +kernel)
    rw [show c.code.getD (29 + 1 + 7 + 1 + 2 + 1) 0 = 2 by rw [W.code]; decide +kernel] at l8
    exact fin ((((l1.trans l5).trans l6).trans l7).trans l8) rfl (by omega) rfl rfl rfl rfl
theorem cm_tail_fail {q : Nat} {r : Regs} {fr : List Sre.Frame} {l : List Nat} (hl : c.text.toList.drop q = l) (hfr : fr.length < 90) (hk : cmEnd l = none) : Fails c 10 ⟨29, q, r, fr, none⟩ := by
  have hs : c.code.size = 44 := by rw [W.code]; exact cm_size
  have l1 := branch_ok (c := c) (pc := 29) (pos := q) (r := r) (fr := fr) (by omega) (by rw [W.code]; decide +kernel) (by rw [W.code]; decide +kernel) (by omega)
  have first : ∃ b pc' pos', b ≤ 2 ∧ Leads c b ⟨29 + 1 + 1, q, { r with handed := q }, mkF .nextBranch (29 + 1) q r.om 0 r.lm r.li :: fr, none⟩ ⟨pc', pos', { r with handed := q }, mkF .nextBranch (29 + 1) q r.om 0 r.lm r.li :: fr, some false⟩ := by
    cases l with
    | nil => exact ⟨1, _, _, by omega, lit_no (by omega) (by rw [W.code]; decide +kernel) fun h => by have := drop_nil hl; rw [W.lim] at h; omega⟩
    | cons x rest =>
      obtain ⟨a1, a2, a3⟩ := drop_cons hl
      by_cases hx : x = 32
      · subst hx
        have l5 := lit_ok (c := c) (pc := 29 + 1 + 1) (pos := q) (r := { r with handed := q }) (fr := mkF .nextBranch (29 + 1) q r.om 0 r.lm r.li :: fr)
          (by omega) (by rw [W.code]; decide +kernel) (by rw [W.lim]; exact a1) (by rw [a2, W.code]; decide +kernel)
        refine ⟨2, _, _, by omega, l5.trans (lit_no (by omega) (by rw [W.code]; decide +kernel) fun h => ?_)⟩
        cases rest with
        | nil => have := drop_nil a3; rw [W.lim] at h; omega
        | cons y rest =>
          obtain ⟨b1, b2, b3⟩ := drop_cons a3
          rw [b2, W.code, show cmCode.getD (29 + 1 + 1 + 2 + 1) 0 = 32 by decide +kernel]
          rintro rfl
          cases hk
      · refine ⟨1, _, _, by omega, lit_no (by omega) (by rw [W.code]; decide +kernel) fun _ => ?_⟩
        rw [a2, W.code, show cmCode.getD (29 + 1 + 1 + 1) 0 = 32 by decide +kernel]
        exact hx
  obtain ⟨b, pc', pos', hb, l2⟩ := first
  have l6 := branch_next (c := c) (pc := pc') (pos := pos') (r := { r with handed := q }) (fr := fr) (alt := 29 + 1) (pos0 := q) (om := r.om) (lm := r.lm) (li := r.li) (by rw [W.code]; decide +kernel) (by omega)
  rw [show c.code.getD (29 + 1) 0 = 7 by rw [W.code]; decide +kernel] at l6
  have l7 := lit_no (c := c) (pc := 29 + 1 + 7 + 1) (pos := q) (r := { ({ r with handed := q } : Regs) with handed := q, om := r.om, lm := r.lm, li := r.li }) (fr := mkF .nextBranch (29 + 1 + 7) q r.om 0 r.lm r.li :: fr)
    (by omega) (by rw [W.code]; decide +kernel) (fun h => by
      cases l with
      | nil => have := drop_nil hl; rw [W.lim] at h; omega
      | cons x rest =>
        obtain ⟨a1, a2, a3⟩ := drop_cons hl
        rw [a2, W.code, show cmCode.getD (29 + 1 + 7 + 1 + 1) 0 = 9 by decide +kernel]
        rintro rfl
        cases hk)
  have l8 := branch_out (c := c) (pc := 29 + 1 + 7 + 1) (pos := q) (r := { ({ r with handed := q } : Regs) with handed := q, om := r.om, lm := r.lm, li := r.li }) (fr := fr) (alt := 29 + 1 + 7) (pos0 := q) (om := r.om) (lm := r.lm) (li := r.li) (by rw [W.code]; decide +kernel)
  exact ⟨_, ((((l1.trans l2).trans l6).trans l7).trans l8).le (by omega), rfl, rfl, rfl, rfl⟩
theorem cm_att_fail {s : Nat} {om : Bool} {marks : Array (Option Nat)} {l : List Nat} (hl : c.text.toList.drop s = l) (h : cmTry s l = none) :
    Fails c (20 + 11 * (c.lim + 1)) (Att 11 marks s om) := by
  have hsz : c.code.size = 44 := by rw [W.code]; exact cm_size
  have no : (s < c.lim → isCm (c.text.getD s 0) = false) → Fails c (20 + 11 * (c.lim + 1)) (Att 11 marks s om) := fun hn =>
    ⟨_, (in_no (by omega) (by rw [W.code]; decide +kernel) fun hlt => by rw [W.code, cm_head 13 (.inl rfl), hn hlt]).le (by omega), rfl, rfl, rfl, rfl⟩
  cases l with
  | nil => exact no fun hlt => by have := drop_nil hl; rw [W.lim] at hlt; omega
  | cons ch r =>
    obtain ⟨a1, a2, a3⟩ := drop_cons hl
    have hlen := drop_len a3 (by omega)
    cases hc : isCm ch with
    | false => exact no fun _ => by rw [a2, hc]
    | true =>
      simp only [cmTry, hc, if_true, Option.map_eq_none_iff] at h
      have hall := cmDown_none h
      have l1 := in_ok (c := c) (pc := 11) (pos := s) (r := ⟨s, om, marks, -1, -1, s⟩) (fr := [mkF .nextStart 11 s om 0 (-1) (-1)]) (by omega) (by rw [W.code]; decide +kernel) (by rw [W.lim]; exact a1)
        (by rw [W.code, cm_head 13 (.inl rfl), a2, hc])
      rw [show c.code.getD (11 + 1) 0 = 7 by rw [W.code]; decide +kernel] at l1
      have hn : runL isSp r = cntP isSp c.text (c.lim - (s + 1)) (s + 1) := by rw [W.lim]; exact (cntP_run _ _ _ _ _ a3 rfl).symm
      have hle := runL_le isSp r
      obtain ⟨r', L', pos', l3⟩ := star_fails (c := c) (pc := 11 + (1 + 7)) (pos := s + 1) (r := (⟨s, om, marks, -1, -1, s⟩ : Regs)) (fr := [mkF .nextStart 11 s om 0 (-1) (-1)]) (b := 10) (f := isSp)
        (by omega) (by rw [W.code]; decide +kernel) (by rw [W.code]; decide +kernel) (fun x => by rw [W.code]; exact cm_sp x)
        (by rw [W.code, show cmCode.getD (11 + (1 + 7) + 3) 0 = 4294967295 by decide +kernel]; have := W.big; omega) (by rw [W.lim]; omega) hn (by rw [W.code]; decide +kernel) (by show 1 < 1000; omega)
        (fun j hj r' hr => by
          unfold G
          rw [show c.code.getD (11 + (1 + 7) + 1) 0 = 9 by rw [W.code]; decide +kernel]
          exact cm_tail_fail W (q := s + 1 + j) (l := r.drop j) (drop_more a3) (by simp) (hall j hj))
      refine ⟨_, (l1.trans l3).le ?_, rfl, rfl, L'.2.2.2.1, ?_⟩
      · have : (10 + 1) * (runL isSp r + 1) ≤ 11 * (c.lim + 1) := Nat.mul_le_mul_left _ (by rw [W.lim]; omega)
        omega
      · rw [L'.2.2.2.2]
        rfl
theorem cm_att_win {s : Nat} {om : Bool} {marks : Array (Option Nat)} {l : List Nat} {h : Hit} (hm : marks.size = 0) (hl : c.text.toList.drop s = l) (hh : cmTry s l = some h) :
    (decide (s < c.lim) && isCm (c.text.getD s 0)) = true ∧ Wins c (200 + 11 * (c.lim + 1)) (Att 11 marks s om) h.Is := by
  have hsz : c.code.size = 44 := by rw [W.code]; exact cm_size
  cases l with
  | nil => cases hh
  | cons ch r =>
    obtain ⟨a1, a2, a3⟩ := drop_cons hl
    have hlen := drop_len a3 (by omega)
    cases hc : isCm ch with
    | false => simp only [cmTry, hc, Bool.false_eq_true, if_false] at hh; cases hh
    | true =>
      refine ⟨by rw [W.lim, decide_eq_true a1, a2, hc]; rfl, ?_⟩
      simp only [cmTry, hc, if_true, Option.map_eq_some_iff] at hh
      obtain ⟨x, hx, rfl⟩ := hh
      obtain ⟨m, k, h1, h2, rfl, h4⟩ := cmDown_some hx
      have l1 := in_ok (c := c) (pc := 11) (pos := s) (r := ⟨s, om, marks, -1, -1, s⟩) (fr := [mkF .nextStart 11 s om 0 (-1) (-1)]) (by omega) (by rw [W.code]; decide +kernel) (by rw [W.lim]; exact a1)
        (by rw [W.code, cm_head 13 (.inl rfl), a2, hc])
      rw [show c.code.getD (11 + 1) 0 = 7 by rw [W.code]; decide +kernel] at l1
      have hn : runL isSp r = cntP isSp c.text (c.lim - (s + 1)) (s + 1) := by rw [W.lim]; exact (cntP_run _ _ _ _ _ a3 rfl).symm
      have hle := runL_le isSp r
      have w := star_wins (c := c) (pc := 11 + (1 + 7)) (pos := s + 1) (r := (⟨s, om, marks, -1, -1, s⟩ : Regs)) (fr := [mkF .nextStart 11 s om 0 (-1) (-1)]) (b := 10) (b' := 120) (f := isSp) (m := m)
        (P := fun mf => mf.start = s ∧ mf.handed = s + 1 + m + k ∧ mf.marks.size = 0 ∧ mf.lastmark = -1)
        (by omega) (by rw [W.code]; decide +kernel) (by rw [W.code]; decide +kernel) (fun x => by rw [W.code]; exact cm_sp x)
        (by rw [W.code, show cmCode.getD (11 + (1 + 7) + 3) 0 = 4294967295 by decide +kernel]; have := W.big; omega) (by rw [W.lim]; omega) hn h1 (by rw [W.code, show cmCode.getD (11 + (1 + 7) + 2) 0 = 0 by decide +kernel]; omega) (by show 1 < 1000; omega)
        (fun j hj1 hj r' hr => by
          unfold G
          rw [show c.code.getD (11 + (1 + 7) + 1) 0 = 9 by rw [W.code]; decide +kernel]
          exact cm_tail_fail W (q := s + 1 + j) (l := r.drop j) (drop_more a3) (by simp) (h4 j hj1 hj))
        (fun r' hr => by
          unfold G
          rw [show c.code.getD (11 + (1 + 7) + 1) 0 = 9 by rw [W.code]; decide +kernel]
          have w := cm_tail_win W (q := s + 1 + m) (k := k) (r := { r' with handed := s + 1 + m }) (fr := [mkF .giveBack (11 + (1 + 7)) (s + 1 + m) r'.om m r'.lm r'.li, mkF .nextStart 11 s om 0 (-1) (-1)]) (l := r.drop m) (drop_more a3) rfl (by simp) h2
          intro sn
          obtain ⟨k', hk', mf, o, ⟨p1, p2, p3, p4⟩, e⟩ := w sn
          refine ⟨k', hk', mf, o, ⟨p1.trans hr.2.2.2.1, p2, ?_, p4.trans hr.2.1⟩, e⟩
          rw [p3]; exact hr.2.2.2.2.trans hm)
      have w2 := Wins.of l1 w
      intro sn
      obtain ⟨k', hk', mf, o, ⟨p1, p2, p3, p4⟩, e⟩ := w2 sn
      refine ⟨k', ?_, mf, o, ⟨p1, (by rw [p2]; show s + 1 + m + k = s + 1 + (m + k); omega), Array.eq_empty_of_size_eq_zero p3, p4⟩, e⟩
      have : (10 + 1) * (runL isSp r) ≤ 11 * (c.lim + 1) := Nat.mul_le_mul_left _ (by rw [W.lim]; omega)
      omega
theorem cm_engine (hl : c.lastStart = c.lim) : Engine c 11 0 (fun s => decide (s < c.lim) && isCm (c.text.getD s 0)) (fun _ => cmTry) (20 + 11 * (c.lim + 1)) (200 + 11 * (c.lim + 1)) where
  starts := Starts.set (f := isCm) (by rw [W.code]; decide +kernel) (by rw [W.code]; decide +kernel) (fun ch => by rw [W.code]; exact cm_head 5 (.inr rfl) ch)
  last := Nat.le_of_eq hl
  lim := W.lim
  nil := fun _ _ => rfl
  fails := fun s om marks hs _ h => cm_att_fail W rfl h
  wins := fun s om marks h hs hm hh => let ⟨a, b⟩ := cm_att_win W hm rfl hh; ⟨a, by omega, b⟩
end

/-! brackets, and blanks ahead of signs -/
def isOpen (ch : Nat) : Bool := decide (ch < 256) && (exCode.getD (9 + (1 + ch / 32)) 0).testBit (ch % 32)
def isClose (ch : Nat) : Bool := decide (ch < 256) && (exCode.getD (38 + (1 + ch / 32)) 0).testBit (ch % 32)
def isBl (ch : Nat) : Bool := ch == 32 || ch == 9
theorem ex_size : exCode.size = 58 := by decide +kernel
theorem ex_open (ch : Nat) : inS exCode ch exCode.size 9 true = some (isOpen ch) := by
  rw [show exCode.size = 56 + 2 from ex_size]
  exact inS_charset (by decide +kernel) (by decide +kernel)
theorem ex_close (ch : Nat) : inS exCode ch exCode.size 38 true = some (isClose ch) := by
  rw [show exCode.size = 56 + 2 from ex_size]
  exact inS_charset (by decide +kernel) (by decide +kernel)
theorem ex_bl (i : Nat) (h : i = 21 ∨ i = 31) (ch : Nat) : inS exCode ch exCode.size i true = some (isBl ch) := by
  rw [show exCode.size = 55 + 3 from ex_size]
  rcases h with rfl | rfl
  · exact inS_lits2 (by decide +kernel) (by decide +kernel) (by decide +kernel) (by decide +kernel) (by decide +kernel)
  · exact inS_lits2 (by decide +kernel) (by decide +kernel) (by decide +kernel) (by decide +kernel) (by decide +kernel)
def exTry (s : Nat) : List Nat → Option Hit
  | ch :: x :: r => if isOpen ch && isBl x then some ⟨s, s + 2, []⟩ else if isBl ch && isClose x && !(r.head? == some 61) then some ⟨s, s + 2, []⟩ else none
  | _ => none

section
variable {c : Cfg} (W : Whole c exCode)
include W
/-- the first way: a bracket, a blank -/
theorem ex_first {s : Nat} {r : Regs} {fr : List Sre.Frame} {l : List Nat} (hl : c.text.toList.drop s = l) :
    (∃ ch x rest, l = ch :: x :: rest ∧ (isOpen ch && isBl x) = true ∧ Leads c 3 ⟨7, s, r, fr, none⟩ ⟨57, s + 2, r, fr, none⟩) ∨
    ((∀ ch x rest, l = ch :: x :: rest → (isOpen ch && isBl x) = false) ∧ ∃ pc' pos', Leads c 2 ⟨7, s, r, fr, none⟩ ⟨pc', pos', r, fr, some false⟩) := by
  have hs : c.code.size = 58 := by rw [W.code]; exact ex_size
  cases l with
  | nil => exact .inr ⟨fun _ _ _ h => (by cases h), _, _, (in_no (by omega) (by rw [W.code]; decide +kernel) fun h => by have := drop_nil hl; rw [W.lim] at h; omega).le (by omega)⟩
  | cons ch r1 =>
    obtain ⟨a1, a2, a3⟩ := drop_cons hl
    cases hc : isOpen ch with
    | false => exact .inr ⟨fun _ _ _ h => (by cases h; rw [hc, Bool.false_and]), _, _, (in_no (by omega) (by rw [W.code]; decide +kernel) fun h => by rw [a2, W.code, ex_open, hc]).le (by omega)⟩
    | true =>
      have l1 := in_ok (c := c) (pc := 7) (pos := s) (r := r) (fr := fr) (by omega) (by rw [W.code]; decide +kernel) (by rw [W.lim]; exact a1) (by rw [W.code, a2, ex_open, hc])
      rw [show c.code.getD (7 + 1) 0 = 11 by rw [W.code]; decide +kernel] at l1
      cases r1 with
      | nil => exact .inr ⟨fun _ _ _ h => (by cases h), _, _, l1.trans (in_no (by omega) (by rw [W.code]; decide +kernel) fun h => by have := drop_nil a3; rw [W.lim] at h; omega)⟩
      | cons x rest =>
        obtain ⟨b1, b2, b3⟩ := drop_cons a3
        cases hx : isBl x with
        | false => exact .inr ⟨fun _ _ _ h => (by cases h; rw [hx, Bool.and_false]), _, _, l1.trans (in_no (by omega) (by rw [W.code]; decide +kernel) fun h => by rw [b2, W.code, ex_bl 21 (.inl rfl), hx])⟩
        | true =>
          have l2 := in_ok (c := c) (pc := 7 + (1 + 11)) (pos := s + 1) (r := r) (fr := fr) (by omega) (by rw [W.code]; decide +kernel) (by rw [W.lim]; exact b1) (by rw [W.code, b2, ex_bl 21 (.inl rfl), hx])
          rw [show c.code.getD (7 + (1 + 11) + 1) 0 = 6 by rw [W.code]; decide +kernel] at l2
          have l3 := jump_ok (c := c) (pc := 7 + (1 + 11) + (1 + 6)) (pos := s + 1 + 1) (r := r) (fr := fr) (by omega) (by rw [W.code]; decide +kernel)
          rw [show c.code.getD (7 + (1 + 11) + (1 + 6) + 1) 0 = 30 by rw [W.code]; decide +kernel] at l3
          exact .inl ⟨ch, x, rest, rfl, by rw [hc, hx]; rfl, (l1.trans l2).trans l3⟩
/-- the second way: a blank, a sign, no equals sign behind it -/
theorem ex_second {s : Nat} {r : Regs} {fr : List Sre.Frame} {l : List Nat} (hl : c.text.toList.drop s = l) (hfr : fr.length < 900) :
    (∃ ch x rest, l = ch :: x :: rest ∧ (isBl ch && isClose x && !(rest.head? == some 61)) = true ∧ ∃ r', r'.start = r.start ∧ r'.marks = r.marks ∧ r'.lm = r.lm ∧ Leads c 6 ⟨29, s, r, fr, none⟩ ⟨57, s + 2, r', fr, none⟩) ∨
    ((∀ ch x rest, l = ch :: x :: rest → (isBl ch && isClose x && !(rest.head? == some 61)) = false) ∧ Fails c 6 ⟨29, s, r, fr, none⟩) := by
  have hs : c.code.size = 58 := by rw [W.code]; exact ex_size
  cases l with
  | nil => exact .inr ⟨fun _ _ _ h => (by cases h), _, (in_no (by omega) (by rw [W.code]; decide +kernel) fun h => by have := drop_nil hl; rw [W.lim] at h; omega).le (by omega), rfl, rfl, rfl, rfl⟩
  | cons ch r1 =>
    obtain ⟨a1, a2, a3⟩ := drop_cons hl
    cases hc : isBl ch with
    | false => exact .inr ⟨fun _ _ _ h => (by cases h; rw [hc, Bool.false_and, Bool.false_and]), _, (in_no (by omega) (by rw [W.code]; decide +kernel) fun h => by rw [a2, W.code, ex_bl 31 (.inr rfl), hc]).le (by omega), rfl, rfl, rfl, rfl⟩
    | true =>
      have l1 := in_ok (c := c) (pc := 29) (pos := s) (r := r) (fr := fr) (by omega) (by rw [W.code]; decide +kernel) (by rw [W.lim]; exact a1) (by rw [W.code, a2, ex_bl 31 (.inr rfl), hc])
      rw [show c.code.getD (29 + 1) 0 = 6 by rw [W.code]; decide +kernel] at l1
      cases r1 with
      | nil => exact .inr ⟨fun _ _ _ h => (by cases h), _, (l1.trans (in_no (by omega) (by rw [W.code]; decide +kernel) fun h => by have := drop_nil a3; rw [W.lim] at h; omega)).le (by omega), rfl, rfl, rfl, rfl⟩
      | cons x rest =>
        obtain ⟨b1, b2, b3⟩ := drop_cons a3
        cases hx : isClose x with
        | false => exact .inr ⟨fun _ _ _ h => (by cases h; rw [hx, Bool.and_false, Bool.false_and]), _, (l1.trans (in_no (by omega) (by rw [W.code]; decide +kernel) fun h => by rw [b2, W.code, ex_close, hx])).le (by omega), rfl, rfl, rfl, rfl⟩
        | true =>
          have l2 := in_ok (c := c) (pc := 29 + (1 + 6)) (pos := s + 1) (r := r) (fr := fr) (by omega) (by rw [W.code]; decide +kernel) (by rw [W.lim]; exact b1) (by rw [W.code, b2, ex_close, hx])
          rw [show c.code.getD (29 + (1 + 6) + 1) 0 = 11 by rw [W.code]; decide +kernel] at l2
          cases he : (rest.head? == some 61) with
          | true =>
            have hrest : ∃ r2, rest = 61 :: r2 := by
              cases rest with
              | nil => cases he
              | cons y r2 => simp at he; exact ⟨r2, by rw [he]⟩
            obtain ⟨r2, rfl⟩ := hrest
            obtain ⟨c1, c2, c3⟩ := drop_cons b3
            have f := notlit_no (c := c) (pc := 29 + (1 + 6) + (1 + 11)) (pos := s + 1 + 1) (r := r) (fr := fr) (by omega) (by omega) (by rw [W.code]; decide +kernel) (by rw [W.code]; decide +kernel) (by rw [W.code]; decide +kernel) (by rw [W.code]; decide +kernel)
              (by rw [W.lim]; exact c1) (by rw [c2, W.code]; decide +kernel)
            exact .inr ⟨fun _ _ _ h => (by cases h; rw [he]; simp), (f.of (l1.trans l2) rfl rfl rfl).le (by omega)⟩
          | false =>
            have l3 := notlit_ok (c := c) (pc := 29 + (1 + 6) + (1 + 11)) (pos := s + 1 + 1) (r := r) (fr := fr) (by omega) (by omega) (by rw [W.code]; decide +kernel) (by rw [W.code]; decide +kernel) (by rw [W.code]; decide +kernel)
              (fun h => by
                cases rest with
                | nil => have := drop_nil b3; rw [W.lim] at h; omega
                | cons y r2 =>
                  obtain ⟨c1, c2, c3⟩ := drop_cons b3
                  rw [c2, W.code, show exCode.getD (29 + (1 + 6) + (1 + 11) + 4) 0 = 61 by decide +kernel]
                  rintro rfl
                  simp at he)
            rw [show c.code.getD (29 + (1 + 6) + (1 + 11) + 1) 0 = 5 by rw [W.code]; decide +kernel] at l3
            have l4 := jump_ok (c := c) (pc := 29 + (1 + 6) + (1 + 11) + 1 + 5) (pos := s + 1 + 1) (r := { r with handed := s + 1 + 1 }) (fr := fr) (by omega) (by rw [W.code]; decide +kernel)
            rw [show c.code.getD (29 + (1 + 6) + (1 + 11) + 1 + 5 + 1) 0 = 2 by rw [W.code]; decide +kernel] at l4
            exact .inl ⟨ch, x, rest, rfl, by rw [hc, hx, he]; rfl, { r with handed := s + 1 + 1 }, rfl, rfl, rfl, (((l1.trans l2).trans l3).trans l4).le (by omega)⟩
theorem ex_win_end {s pos b : Nat} {om : Bool} {marks : Array (Option Nat)} {r' : Regs} {F : Sre.Frame} (hm : marks.size = 0) (hF : plainF F = true) (h1 : r'.start = s) (h2 : r'.marks = marks) (h3 : r'.lm = -1) (hb : b ≤ 50)
    (l : Leads c b (Att 5 marks s om) ⟨57, pos, r', [F, mkF .nextStart 5 s om 0 (-1) (-1)], none⟩) : Wins c 200 (Att 5 marks s om) (Hit.mk s pos []).Is := by
  have hs : c.code.size = 58 := by rw [W.code]; exact ex_size
  have l3 := success_ok (c := c) (pc := 57) (pos := pos) (r := r') (fr := [F, mkF .nextStart 5 s om 0 (-1) (-1)]) (by omega) (by rw [W.code]; decide +kernel)
  have w2 := Wins.of (l.trans l3) (wins_up (c := c) [F, mkF .nextStart 5 s om 0 (-1) (-1)] 57 pos { r' with handed := pos } (all_plain_cons hF rfl))
  intro sn
  obtain ⟨k', hk', mf, o, ⟨p1, p2, p3, p4, _⟩, e⟩ := w2 sn
  refine ⟨k', by simp only [List.length_cons, List.length_nil] at hk'; omega, mf, o, ⟨p1.trans h1, p2, ?_, p4.trans h3⟩, e⟩
  rw [p3, h2]
  exact Array.eq_empty_of_size_eq_zero hm
theorem ex_att {s : Nat} {om : Bool} {marks : Array (Option Nat)} {l : List Nat} (hl : c.text.toList.drop s = l) :
    (exTry s l = none → Fails c 50 (Att 5 marks s om)) ∧ (∀ h, marks.size = 0 → exTry s l = some h → s + 1 < c.lim ∧ Wins c 200 (Att 5 marks s om) h.Is) := by
  have hs : c.code.size = 58 := by rw [W.code]; exact ex_size
  have l1 := branch_ok (c := c) (pc := 5) (pos := s) (r := ⟨s, om, marks, -1, -1, s⟩) (fr := [mkF .nextStart 5 s om 0 (-1) (-1)]) (by omega) (by rw [W.code]; decide +kernel) (by rw [W.code]; decide +kernel) (by show 1 < 1000; omega)
  have two : ∀ {ch x : Nat} {rest : List Nat}, l = ch :: x :: rest → s + 1 < c.lim := by
    rintro ch x rest rfl
    obtain ⟨a1, a2, a3⟩ := drop_cons hl
    obtain ⟨b1, b2, b3⟩ := drop_cons a3
    rw [W.lim]; exact b1
  rcases ex_first W (s := s) (r := ⟨s, om, marks, -1, -1, s⟩) (fr := [mkF .nextBranch (5 + 1) s om 0 (-1) (-1), mkF .nextStart 5 s om 0 (-1) (-1)]) hl with ⟨ch, x, rest, e, h1, l2⟩ | ⟨hn, pc', pos', l2⟩
  · have ht : exTry s l = some ⟨s, s + 2, []⟩ := by rw [e]; simp only [exTry, h1, if_true]
    refine ⟨fun h => (by rw [ht] at h; cases h), fun h hm hh => ?_⟩
    rw [ht] at hh; cases hh
    exact ⟨two e, ex_win_end W hm (F := mkF .nextBranch (5 + 1) s om 0 (-1) (-1)) rfl rfl rfl rfl (by omega) (l1.trans l2)⟩
  · have l3 := branch_next (c := c) (pc := pc') (pos := pos') (r := ⟨s, om, marks, -1, -1, s⟩) (fr := [mkF .nextStart 5 s om 0 (-1) (-1)]) (alt := 5 + 1) (pos0 := s) (om := om) (lm := -1) (li := -1) (by rw [W.code]; decide +kernel) (by show 1 < 1000; omega)
    rw [show c.code.getD (5 + 1) 0 = 22 by rw [W.code]; decide +kernel] at l3
    rcases ex_second W (s := s) (r := ⟨s, om, marks, -1, -1, s⟩) (fr := [mkF .nextBranch (5 + 1 + 22) s om 0 (-1) (-1), mkF .nextStart 5 s om 0 (-1) (-1)]) hl (by show 2 < 900; omega) with ⟨ch, x, rest, e, h1, r', q1, q2, q3, l4⟩ | ⟨hn2, s', l4, f1, f2, f3, f4⟩
    · have ht : exTry s l = some ⟨s, s + 2, []⟩ := by
        rw [e]; simp only [exTry, hn ch x rest e, Bool.false_eq_true, if_false, h1, if_true]
      refine ⟨fun h => (by rw [ht] at h; cases h), fun h hm hh => ?_⟩
      rw [ht] at hh; cases hh
      exact ⟨two e, ex_win_end W hm (F := mkF .nextBranch (5 + 1 + 22) s om 0 (-1) (-1)) rfl q1 q2 q3 (by omega) (((l1.trans l2).trans l3).trans l4)⟩
    · have ht : exTry s l = none := by
        match l, hn, hn2 with
        | [], _, _ => rfl
        | [_], _, _ => rfl
        | ch :: x :: rest, hn, hn2 => simp only [exTry, hn ch x rest rfl, Bool.false_eq_true, if_false, hn2 ch x rest rfl]
      refine ⟨fun _ => ?_, fun h _ hh => (by rw [ht] at hh; cases hh)⟩
      obtain ⟨pc2, pos2, r2, fr2, ans2⟩ := s'
      simp only at f1 f2 f3 f4
      subst f1 f2
      have l5 := branch_out (c := c) (pc := pc2) (pos := pos2) (r := r2) (fr := [mkF .nextStart 5 s om 0 (-1) (-1)]) (alt := 5 + 1 + 22) (pos0 := s) (om := om) (lm := -1) (li := -1) (by rw [W.code]; decide +kernel)
      exact ⟨_, ((((l1.trans l2).trans l3).trans l4).trans l5).le (by omega), rfl, rfl, f3, f4⟩
theorem ex_engine (hl : c.lastStart ≤ c.lim) (hl2 : c.lim - 1 ≤ c.lastStart) : Engine c 5 0 (fun _ => true) (fun _ => exTry) 50 200 where
  starts := Starts.plain (by rw [W.code]; decide +kernel)
  last := hl
  lim := W.lim
  nil := fun _ _ => rfl
  fails := fun s om marks hs _ h => (ex_att W rfl).1 h
  wins := fun s om marks h hs hm hh => let ⟨a, b⟩ := (ex_att W rfl).2 h hm hh; ⟨rfl, by omega, b⟩
end
end Mine

end

/-! ## LSre6 -/
section
namespace Mine
open PySem PySem.Sre
set_option maxRecDepth 100000

/-! keywords -/
theorem kw_size : kwCode.size = 433 := by decide +kernel
theorem kw_sp (i : Nat) (h : i = 13 ∨ i = 426) (ch : Nat) : inS kwCode ch kwCode.size i true = some (isSp ch) := by
  rw [show kwCode.size = 431 + 2 from kw_size]
  rcases h with rfl | rfl
  · exact inS_cat (by decide +kernel) (by decide +kernel) (by decide +kernel)
  · exact inS_cat (by decide +kernel) (by decide +kernel) (by decide +kernel)
/-- the ways of a branch, read off in one pass -/
def litsP : (fuel : Nat) → List Nat → List Nat × List Nat
  | n + 1, 16 :: x :: r => let q := litsP n r; (x :: q.1, q.2)
  | _, r => ([], r)
def altsP : (fuel : Nat) → List Nat → List (List Nat)
  | n + 1, sz :: r => if sz = 0 then [] else
    match litsP 20 r with
    | (w, 15 :: _ :: r2) => w :: altsP n r2
    | _ => []
  | _, _ => []
def kwWords : List (List Nat) := altsP 100 (kwCode.toList.drop 22)
def litsL : List Nat → List Nat → Option (List Nat)
  | l, [] => some l
  | 16 :: x :: r, y :: w => if x == y then litsL r w else none
  | _, _ => none
def altsL : (a : Nat) → List Nat → List (List Nat) → Bool
  | _, x :: _, [] => x == 0
  | a, sz :: r, w :: ws => match litsL r w with
    | some (15 :: off :: r2) => sz == 2 * w.length + 3 && a + 1 + 2 * w.length + 1 + off == 416 && decide (w.length ≤ 8) && altsL (a + sz) r2 ws
    | _ => false
  | _, _, _ => false
theorem kw_alts : altsL 22 (kwCode.toList.drop 22) kwWords = true := by decide +kernel

def edgeL (prev : Option Nat) (l : List Nat) : Bool := (match prev with | some x => isWordUni x | none => false) != (match l with | y :: _ => isWordUni y | [] => false)
theorem edge_eq {c : Cfg} (hlim : c.lim = c.text.size) (h0 : c.lim ≠ 0) (q : Nat) (hq : q ≤ c.lim) : edge c q = edgeL (prevAt c.text q) (c.text.toList.drop q) := by
  have e1 : (decide (q > 0) && isWordUni (c.text.getD (q - 1) 0)) = (match prevAt c.text q with | some x => isWordUni x | none => false) := by
    unfold prevAt
    by_cases hz : q = 0
    · subst hz; rfl
    · rw [if_neg hz, decide_eq_true (Nat.pos_of_ne_zero hz), Bool.true_and]
  have e2 : (decide (q < c.lim) && isWordUni (c.text.getD q 0)) = (match c.text.toList.drop q with | y :: _ => isWordUni y | [] => false) := by
    cases hd : c.text.toList.drop q with
    | nil => rw [decide_eq_false (by have := drop_nil hd; omega), Bool.false_and]
    | cons y r =>
      obtain ⟨a1, a2, a3⟩ := drop_cons hd
      rw [decide_eq_true (by omega), a2, Bool.true_and]
  unfold edge edgeL
  rw [e1, e2, bne_iff_ne.mpr h0, Bool.true_and]

def kwFirst : List (List Nat) → List Nat → Option Nat
  | [], _ => none
  | w :: ws, l => if w.isPrefixOf l && edgeL w.getLast? (l.drop w.length) then some w.length else kwFirst ws l
def kwTry (prev : Option Nat) (s : Nat) (l : List Nat) : Option Hit :=
  if edgeL (if runL isSp l = 0 then prev else l[runL isSp l - 1]?) (l.drop (runL isSp l)) then
    match kwFirst kwWords (l.drop (runL isSp l)) with
    | some k => some ⟨s, s + runL isSp l + k + runL isSp ((l.drop (runL isSp l)).drop k),
        [s, s + runL isSp l, s + runL isSp l + k, s + runL isSp l + k + runL isSp ((l.drop (runL isSp l)).drop k)]⟩
    | none => none
  else none

theorem kwFirst_nil : ∀ (ws : List (List Nat)), (ws.all fun w => !w.isEmpty) = true → kwFirst ws [] = none
  | [], _ => rfl
  | w :: ws, h => by
    rw [List.all_cons, Bool.and_eq_true] at h
    cases w with
    | nil => cases h.1
    | cons x r => simp only [kwFirst, List.isPrefixOf, Bool.false_and, Bool.false_eq_true, if_false]; exact kwFirst_nil ws h.2
theorem kwFirst_sp {x : Nat} {r : List Nat} (hx : isSp x = true) : ∀ (ws : List (List Nat)), (ws.all fun w => !w.isEmpty && !(w.any isSp)) = true → kwFirst ws (x :: r) = none
  | [], _ => rfl
  | w :: ws, h => by
    rw [List.all_cons, Bool.and_eq_true, Bool.and_eq_true] at h
    cases w with
    | nil => cases h.1.1
    | cons y t =>
      have hy : isSp y = false := by
        have := h.1.2
        rw [List.any_cons, Bool.not_or, Bool.and_eq_true] at this
        simpa using this.1
      have hne : (y == x) = false := beq_eq_false_iff_ne.mpr fun e => by rw [e, hx] at hy; cases hy
      simp only [kwFirst, List.isPrefixOf, hne, Bool.false_and, Bool.false_eq_true, if_false]
      exact kwFirst_sp hx ws h.2
theorem kw_words_ok : (kwWords.all fun w => !w.isEmpty && !(w.any isSp)) = true := by decide +kernel
theorem kw_words_ne : (kwWords.all fun w => !w.isEmpty) = true := by decide +kernel
theorem kwTry_nil (prev : Option Nat) (s : Nat) : kwTry prev s [] = none := by
  unfold kwTry
  rw [List.drop_nil, kwFirst_nil _ kw_words_ne]
  simp only [ite_self]

section
variable {c : Cfg} {r : Regs} {fr : List Sre.Frame}
/-- a written word: taken whole, or a no somewhere in it -/
theorem lits_go (hlim : c.lim = c.text.size) : ∀ (w : List Nat) (pc q : Nat) (l cl rest : List Nat), c.code.toList.drop pc = cl → litsL cl w = some rest → c.text.toList.drop q = l →
    c.code.toList.drop (pc + 2 * w.length) = rest ∧
    (w.isPrefixOf l = true → Leads c w.length ⟨pc, q, r, fr, none⟩ ⟨pc + 2 * w.length, q + w.length, r, fr, none⟩) ∧
    (w.isPrefixOf l = false → ∃ pc' q', Leads c w.length ⟨pc, q, r, fr, none⟩ ⟨pc', q', r, fr, some false⟩)
  | [], pc, q, l, cl, rest, hc, hw, hl => by
    rw [show litsL cl [] = some cl by simp [litsL]] at hw
    cases hw
    exact ⟨hc, fun _ => Leads.refl _ _, fun h => by simp [List.isPrefixOf] at h⟩
  | y :: w, pc, q, l, cl, rest, hc, hw, hl => by
    match cl, hc, hw with
    | 16 :: x :: cr, hc, hw =>
      simp only [litsL] at hw
      obtain ⟨c1, c2, c3⟩ := drop_cons hc
      obtain ⟨d1, d2, d3⟩ := drop_cons c3
      by_cases hxy : x = y
      · subst hxy
        rw [if_pos (by simp)] at hw
        have no : (q < c.lim → c.text.getD q 0 ≠ x) → ∃ pc' q', Leads c (w.length + 1) ⟨pc, q, r, fr, none⟩ ⟨pc', q', r, fr, some false⟩ := fun h =>
          ⟨_, _, (lit_no c1 c2 fun hlt => by rw [d2]; exact h hlt).le (by omega)⟩
        cases l with
        | nil =>
          have ih := lits_go hlim w (pc + 2) (q + 1) [] cr rest (by rw [show pc + 2 = pc + 1 + 1 from rfl]; exact d3) hw (by rw [List.drop_of_length_le]; rw [Array.length_toList]; have := drop_nil hl; omega)
          refine ⟨by rw [show pc + 2 * (x :: w).length = pc + 2 + 2 * w.length by simp only [List.length_cons]; omega]; exact ih.1, fun h => by simp [List.isPrefixOf] at h, fun _ => no fun hlt => ?_⟩
          have := drop_nil hl; omega
        | cons z t =>
          obtain ⟨a1, a2, a3⟩ := drop_cons hl
          have ih := lits_go hlim w (pc + 2) (q + 1) t cr rest (by rw [show pc + 2 = pc + 1 + 1 from rfl]; exact d3) hw a3
          refine ⟨by rw [show pc + 2 * (x :: w).length = pc + 2 + 2 * w.length by simp only [List.length_cons]; omega]; exact ih.1, fun h => ?_, fun h => ?_⟩
          · simp only [List.isPrefixOf, Bool.and_eq_true, beq_iff_eq] at h
            have l1 := lit_ok (c := c) (pc := pc) (pos := q) (r := r) (fr := fr) c1 c2 (by omega) (by rw [a2, d2]; exact h.1.symm)
            have l2 := l1.trans (ih.2.1 h.2)
            rw [show pc + 2 * (x :: w).length = pc + 2 + 2 * w.length by simp only [List.length_cons]; omega, show q + (x :: w).length = q + 1 + w.length by simp only [List.length_cons]; omega]
            exact l2.le (by simp only [List.length_cons]; omega)
          · simp only [List.isPrefixOf, Bool.and_eq_false_iff] at h
            by_cases hxz : x = z
            · subst hxz
              have l1 := lit_ok (c := c) (pc := pc) (pos := q) (r := r) (fr := fr) c1 c2 (by omega) (by rw [a2, d2])
              obtain ⟨pc', q', l2⟩ := ih.2.2 (h.resolve_left (by simp))
              exact ⟨pc', q', (l1.trans l2).le (by simp only [List.length_cons]; omega)⟩
            · exact no fun _ => by rw [a2]; exact fun e => hxz e.symm
      · rw [if_neg (by simpa using hxy)] at hw; cases hw
end

section
variable {c : Cfg} (W : Whole c kwCode)
include W
theorem kw_end {q : Nat} {r : Regs} {fr : List Sre.Frame} {l : List Nat} (hq : q ≤ c.lim) (hl : c.text.toList.drop q = l) (hp : fr.all plainF = true) (hfr : fr.length < 100) (hlm : r.lm = 1) :
    Wins c 110 ⟨418, q, r, fr, none⟩ fun m => m.start = r.start ∧ m.handed = q + runL isSp l ∧ m.marks = (r.marks.setIfInBounds 2 (some q)).setIfInBounds 3 (some (q + runL isSp l)) ∧ m.lastmark = 3 := by
  have hs : c.code.size = 433 := by rw [W.code]; exact kw_size
  have l1 := mark_ok (c := c) (pc := 418) (pos := q) (r := r) (fr := fr) (by omega) (by rw [W.code]; decide +kernel)
  rw [show c.code.getD (418 + 1) 0 = 2 by rw [W.code]; decide +kernel] at l1
  have hn : runL isSp l = cntP isSp c.text (c.lim - q) q := by rw [W.lim]; exact (cntP_run _ _ _ _ _ hl rfl).symm
  refine (Wins.of l1 (star_first (f := isSp) (n := runL isSp l) (b' := 105) (by omega) (by rw [W.code]; decide +kernel) (by rw [W.code]; decide +kernel) (fun ch => by rw [W.code]; exact kw_sp 426 (.inr rfl) ch)
    (by rw [W.code, show kwCode.getD (418 + 2 + 3) 0 = 4294967295 by decide +kernel]; have := W.big; omega) hq hn (by rw [W.code, show kwCode.getD (418 + 2 + 2) 0 = 0 by decide +kernel]; omega) (by omega) ?_)).le (by omega)
  unfold G
  rw [show c.code.getD (418 + 2 + 1) 0 = 9 by rw [W.code]; decide +kernel]
  have l2 := mark_ok (c := c) (pc := 418 + 2 + 1 + 9) (pos := q + runL isSp l) (r := { r.marked 2 q with handed := q + runL isSp l }) (fr := mkF .giveBack (418 + 2) (q + runL isSp l) (r.marked 2 q).om (runL isSp l) (r.marked 2 q).lm (r.marked 2 q).li :: fr) (by omega) (by rw [W.code]; decide +kernel)
  rw [show c.code.getD (418 + 2 + 1 + 9 + 1) 0 = 3 by rw [W.code]; decide +kernel] at l2
  have l3 := success_ok (c := c) (pc := 418 + 2 + 1 + 9 + 2) (pos := q + runL isSp l) (r := ({ r.marked 2 q with handed := q + runL isSp l } : Regs).marked 3 (q + runL isSp l)) (fr := mkF .giveBack (418 + 2) (q + runL isSp l) (r.marked 2 q).om (runL isSp l) (r.marked 2 q).lm (r.marked 2 q).li :: fr) (by omega) (by rw [W.code]; decide +kernel)
  have w := wins_up (c := c) (mkF .giveBack (418 + 2) (q + runL isSp l) (r.marked 2 q).om (runL isSp l) (r.marked 2 q).lm (r.marked 2 q).li :: fr) (418 + 2 + 1 + 9 + 2) (q + runL isSp l)
    { ({ r.marked 2 q with handed := q + runL isSp l } : Regs).marked 3 (q + runL isSp l) with handed := q + runL isSp l } (all_plain_cons rfl hp)
  have w2 := Wins.of (l2.trans l3) w
  intro sn
  obtain ⟨k, hk, mf, o, ⟨p1, p2, p3, p4, _⟩, e⟩ := w2 sn
  refine ⟨k, ?_, mf, o, ⟨p1, p2, ?_, ?_⟩, e⟩
  · simp only [List.length_cons] at hk; omega
  · rw [p3]
    simp only [Regs.marked, clearTo, hlm]
    rw [if_pos (by decide), if_pos (by decide)]
  · rw [p4]
    simp only [Regs.marked, hlm]
    decide

/-- the machine in a way of the branch -/
def B (a q : Nat) (r : Regs) (om : Bool) (lm li : Int) (fr : List Sre.Frame) : S := ⟨a + 1, q, r, mkF .nextBranch a q om 0 lm li :: fr, none⟩
theorem kw_alts_go {q : Nat} {r0 : Regs} {fr : List Sre.Frame} {l : List Nat} (hq : q ≤ c.lim) (hl : c.text.toList.drop q = l) (h0 : c.lim ≠ 0) (hp : fr.all plainF = true) (hfr : fr.length < 80) (hlm : r0.lm = 1) :
    ∀ (ws : List (List Nat)) (a : Nat) (r : Regs), Like r0 r → altsL a (kwCode.toList.drop a) ws = true → ws ≠ [] → (ws.all fun w => !w.isEmpty) = true →
      (kwFirst ws l = none → ∃ r', Like r0 r' ∧ ∃ pc' q', Leads c (12 * ws.length) (B a q r r0.om r0.lm r0.li fr) ⟨pc', q', r', fr, some false⟩) ∧
      (∀ k, kwFirst ws l = some k → ∃ r', Like r0 r' ∧ r'.marks = r.marks ∧ ∃ F, plainF F = true ∧ q + k ≤ c.lim ∧ Leads c (12 * ws.length) (B a q r r0.om r0.lm r0.li fr) ⟨418, q + k, r', F :: fr, none⟩)
  | [], a, r, _, _, hne, _ => absurd rfl hne
  | w :: ws, a, r, L, ha, _, hws => by
    have hs : c.code.size = 433 := by rw [W.code]; exact kw_size
    rw [List.all_cons, Bool.and_eq_true] at hws
    -- the way's words in the code
    obtain ⟨sz, cr, hcl⟩ : ∃ sz cr, kwCode.toList.drop a = sz :: cr := by
      cases hd : kwCode.toList.drop a with
      | nil => rw [hd] at ha; simp [altsL] at ha
      | cons sz cr => exact ⟨sz, cr, rfl⟩
    rw [hcl] at ha
    obtain ⟨off, r2, hlit, hsz, hoff, hw8, hrest⟩ : ∃ off r2, litsL cr w = some (15 :: off :: r2) ∧ sz = 2 * w.length + 3 ∧ a + 1 + 2 * w.length + 1 + off = 416 ∧ w.length ≤ 8 ∧ altsL (a + sz) r2 ws = true := by
      simp only [altsL] at ha
      split at ha
      · rename_i off r2 e
        simp only [Bool.and_eq_true, beq_iff_eq, decide_eq_true_eq] at ha
        exact ⟨off, r2, e, ha.1.1.1, ha.1.1.2, ha.1.2, ha.2⟩
      · cases ha
    obtain ⟨c1, c2, c3⟩ := drop_cons hcl
    have hcd : c.code.toList.drop (a + 1) = cr := by rw [W.code]; exact c3
    obtain ⟨k1, k2, k3⟩ := lits_go (c := c) (r := r) (fr := mkF .nextBranch a q r0.om 0 r0.lm r0.li :: fr) W.lim w (a + 1) q l cr _ hcd hlit hl
    obtain ⟨d1, d2, d3⟩ := drop_cons k1
    obtain ⟨e1, e2, e3⟩ := drop_cons d3
    have hnext : kwCode.toList.drop (a + sz) = r2 := by
      rw [← W.code, hsz, show a + (2 * w.length + 3) = a + 1 + 2 * w.length + 1 + 1 by omega]; exact e3
    have hsza : c.code.getD a 0 = sz := by rw [W.code]; exact c2
    -- on to the next way, or out
    have onward : ∀ {b pc' q' : Nat}, b ≤ 10 → Leads c b (B a q r r0.om r0.lm r0.li fr) ⟨pc', q', r, mkF .nextBranch a q r0.om 0 r0.lm r0.li :: fr, some false⟩ →
        (kwFirst ws l = none → ∃ r', Like r0 r' ∧ ∃ pc' q', Leads c (12 * (ws.length + 1)) (B a q r r0.om r0.lm r0.li fr) ⟨pc', q', r', fr, some false⟩) ∧
        (∀ k, kwFirst ws l = some k → ∃ r', Like r0 r' ∧ r'.marks = r.marks ∧ ∃ F, plainF F = true ∧ q + k ≤ c.lim ∧ Leads c (12 * (ws.length + 1)) (B a q r r0.om r0.lm r0.li fr) ⟨418, q + k, r', F :: fr, none⟩) := by
      intro b pc' q' hb lead
      cases ws with
      | nil =>
        refine ⟨fun _ => ?_, fun k h => by cases h⟩
        have hz : c.code.getD (a + c.code.getD a 0) 0 = 0 := by
          rw [hsza, W.code]
          cases hr2 : r2 with
          | nil => rw [hr2] at hrest; simp [altsL] at hrest
          | cons z t =>
            rw [hr2] at hrest hnext
            simp only [altsL, beq_iff_eq] at hrest
            rw [(drop_cons hnext).2.1, hrest]
        have l2 := branch_out (c := c) (pc := pc') (pos := q') (r := r) (fr := fr) (alt := a) (pos0 := q) (om := r0.om) (lm := r0.lm) (li := r0.li) hz
        exact ⟨{ r with om := r0.om, lm := r0.lm, li := r0.li }, ⟨rfl, rfl, rfl, L.2.2.2.1, L.2.2.2.2⟩, _, _, (lead.trans l2).le (by simp only [List.length_nil]; omega)⟩
      | cons w2 ws2 =>
        have hnz : c.code.getD (a + c.code.getD a 0) 0 ≠ 0 := by
          rw [hsza, W.code]
          cases hr2 : r2 with
          | nil => rw [hr2] at hrest; simp [altsL] at hrest
          | cons z t =>
            rw [hr2] at hrest hnext
            rw [(drop_cons hnext).2.1]
            simp only [altsL] at hrest
            split at hrest
            · simp only [Bool.and_eq_true, beq_iff_eq] at hrest; omega
            · cases hrest
        have l2 := branch_next (c := c) (pc := pc') (pos := q') (r := r) (fr := fr) (alt := a) (pos0 := q) (om := r0.om) (lm := r0.lm) (li := r0.li) hnz (by omega)
        rw [hsza] at l2
        have L2 : Like r0 { r with handed := q, om := r0.om, lm := r0.lm, li := r0.li } := ⟨rfl, rfl, rfl, L.2.2.2.1, L.2.2.2.2⟩
        have ih := kw_alts_go hq hl h0 hp hfr hlm (w2 :: ws2) (a + sz) { r with handed := q, om := r0.om, lm := r0.lm, li := r0.li } L2 (by rw [hnext]; exact hrest) (by simp) hws.2
        refine ⟨fun h => ?_, fun k h => ?_⟩
        · obtain ⟨r', L', pc2, q2, l3⟩ := ih.1 h
          exact ⟨r', L', pc2, q2, ((lead.trans l2).trans l3).le (by omega)⟩
        · obtain ⟨r', L', hm, F, hF, hk, l3⟩ := ih.2 k h
          exact ⟨r', L', hm, F, hF, hk, ((lead.trans l2).trans l3).le (by omega)⟩
    cases hpre : w.isPrefixOf l with
    | false =>
      obtain ⟨pc', q', l1⟩ := k3 hpre
      have := onward (by omega) l1
      simp only [kwFirst, hpre, Bool.false_and, Bool.false_eq_true, if_false, List.length_cons]
      exact this
    | true =>
      have l1 := k2 hpre
      have l2 := jump_ok (c := c) (pc := a + 1 + 2 * w.length) (pos := q + w.length) (r := r) (fr := mkF .nextBranch a q r0.om 0 r0.lm r0.li :: fr) d1 d2
      rw [e2, show a + 1 + 2 * w.length + 1 + off = 416 from hoff] at l2
      have hwl : w.length ≤ l.length := (List.isPrefixOf_iff_prefix.mp hpre).length_le
      have hlen := drop_len hl (by rw [← W.lim]; exact hq)
      have hqw : q + w.length ≤ c.lim := by rw [W.lim]; omega
      have hed : edge c (q + w.length) = edgeL w.getLast? (l.drop w.length) := by
        rw [edge_eq W.lim h0 _ hqw, drop_more hl]
        congr 1
        -- the sign ahead is the word's last
        obtain ⟨t, ht⟩ := List.isPrefixOf_iff_prefix.mp hpre
        have hwne : w ≠ [] := by rintro rfl; cases hws.1
        have hwpos : 0 < w.length := List.length_pos_iff.mpr hwne
        unfold prevAt
        rw [if_neg (by omega), List.getLast?_eq_getElem?]
        have hd : c.text.toList.drop (q + (w.length - 1)) = l.drop (w.length - 1) := drop_more hl
        rw [show q + w.length - 1 = q + (w.length - 1) by omega]
        rw [← ht, List.drop_append_of_le_length (by omega), List.drop_eq_getElem_cons (by omega : w.length - 1 < w.length), List.cons_append] at hd
        rw [(drop_cons hd).2.1, List.getElem?_eq_getElem (by omega)]
      cases he : edgeL w.getLast? (l.drop w.length) with
      | true =>
        have l3 := at_ok (c := c) (pc := 416) (pos := q + w.length) (r := r) (fr := mkF .nextBranch a q r0.om 0 r0.lm r0.li :: fr) (by omega) (by rw [W.code]; decide +kernel) (by rw [W.code]; decide +kernel) (by rw [hed, he])
        refine ⟨fun h => ?_, fun k h => ?_⟩
        · simp only [kwFirst, hpre, he, Bool.and_true, if_true] at h; cases h
        · simp only [kwFirst, hpre, he, Bool.and_true, if_true, Option.some.injEq] at h
          subst h
          exact ⟨r, L, rfl, _, rfl, hqw, ((l1.trans l2).trans l3).le (by simp only [List.length_cons]; omega)⟩
      | false =>
        have l3 := at_no (c := c) (pc := 416) (pos := q + w.length) (r := r) (fr := mkF .nextBranch a q r0.om 0 r0.lm r0.li :: fr) (by omega) (by rw [W.code]; decide +kernel) (by rw [W.code]; decide +kernel) (by rw [hed, he])
        have := onward (by omega) ((l1.trans l2).trans l3)
        simp only [kwFirst, hpre, he, Bool.and_false, Bool.false_eq_true, if_false, List.length_cons]
        exact this
end
end Mine

end

/-! ## LSre7 -/
section
namespace Mine
open PySem PySem.Sre
set_option maxRecDepth 100000

theorem kw_len : kwWords.length = 33 := by decide +kernel
theorem kw_ne : kwWords ≠ [] := fun h => by have := kw_len; rw [h] at this; cases this
theorem prevAt_more {t : Array Nat} {s n : Nat} {l : List Nat} (hl : t.toList.drop s = l) (hn : n ≤ l.length) : prevAt t (s + n) = if n = 0 then prevAt t s else l[n - 1]? := by
  by_cases h0 : n = 0
  · subst h0; rw [if_pos rfl, Nat.add_zero]
  · rw [if_neg h0]
    unfold prevAt
    rw [if_neg (by omega), show s + n - 1 = s + (n - 1) by omega]
    have hd : t.toList.drop (s + (n - 1)) = l.drop (n - 1) := drop_more hl
    rw [List.drop_eq_getElem_cons (by omega : n - 1 < l.length)] at hd
    rw [(drop_cons hd).2.1, List.getElem?_eq_getElem (by omega)]

section
variable {c : Cfg} (W : Whole c kwCode)
include W
theorem kw_tail_win {q k : Nat} {r : Regs} {fr : List Sre.Frame} {l : List Nat} (hq : q ≤ c.lim) (hl : c.text.toList.drop q = l) (h0 : c.lim ≠ 0) (hp : fr.all plainF = true) (hfr : fr.length < 80) (hlm : r.lm = 0)
    (he : edgeL (prevAt c.text q) l = true) (hk : kwFirst kwWords l = some k) :
    Wins c 540 ⟨17, q, r, fr, none⟩ fun m => m.start = r.start ∧ m.handed = q + k + runL isSp (l.drop k) ∧
      m.marks = ((r.marks.setIfInBounds 1 (some q)).setIfInBounds 2 (some (q + k))).setIfInBounds 3 (some (q + k + runL isSp (l.drop k))) ∧ m.lastmark = 3 := by
  have hs : c.code.size = 433 := by rw [W.code]; exact kw_size
  have l1 := mark_ok (c := c) (pc := 17) (pos := q) (r := r) (fr := fr) (by omega) (by rw [W.code]; decide +kernel)
  rw [show c.code.getD (17 + 1) 0 = 1 by rw [W.code]; decide +kernel] at l1
  have hm1 : (r.marked 1 q).lm = 1 := by simp only [Regs.marked, hlm]; decide
  have hmk : (r.marked 1 q).marks = r.marks.setIfInBounds 1 (some q) := by simp only [Regs.marked, clearTo, hlm]; simp
  have l2 := at_ok (c := c) (pc := 17 + 2) (pos := q) (r := r.marked 1 q) (fr := fr) (by omega) (by rw [W.code]; decide +kernel) (by rw [W.code]; decide +kernel) (by rw [edge_eq W.lim h0 _ hq, hl]; exact he)
  have l3 := branch_ok (c := c) (pc := 17 + 2 + 2) (pos := q) (r := r.marked 1 q) (fr := fr) (by omega) (by rw [W.code]; decide +kernel) (by rw [W.code]; decide +kernel) (by omega)
  have L0 : Like (r.marked 1 q) { r.marked 1 q with handed := q } := Like.handed _ _
  obtain ⟨r', L, hm, F, hF, hqk, l4⟩ := (kw_alts_go W (r0 := r.marked 1 q) (fr := fr) hq hl h0 hp hfr hm1 kwWords 22 _ L0 kw_alts kw_ne kw_words_ne).2 k hk
  rw [kw_len] at l4
  have w := kw_end W (q := q + k) (r := r') (fr := F :: fr) (l := l.drop k) hqk (drop_more hl) (all_plain_cons hF hp) (by simp only [List.length_cons]; omega) (L.2.1.trans hm1)
  have w2 := Wins.of (((l1.trans l2).trans l3).trans l4) w
  intro sn
  obtain ⟨k', hk', mf, o, ⟨p1, p2, p3, p4⟩, e⟩ := w2 sn
  refine ⟨k', by omega, mf, o, ⟨p1.trans L.2.2.2.1, p2, ?_, p4⟩, e⟩
  rw [p3, hm]
  simp only [hmk]
theorem kw_tail_fail {q : Nat} {r : Regs} {fr : List Sre.Frame} {l : List Nat} (hq : q ≤ c.lim) (hl : c.text.toList.drop q = l) (hp : fr.all plainF = true) (hfr : fr.length < 80) (hlm : r.lm = 0)
    (h : c.lim ≠ 0 → edgeL (prevAt c.text q) l = true → kwFirst kwWords l = none) : Fails c 410 ⟨17, q, r, fr, none⟩ := by
  have hs : c.code.size = 433 := by rw [W.code]; exact kw_size
  have l1 := mark_ok (c := c) (pc := 17) (pos := q) (r := r) (fr := fr) (by omega) (by rw [W.code]; decide +kernel)
  rw [show c.code.getD (17 + 1) 0 = 1 by rw [W.code]; decide +kernel] at l1
  have hm1 : (r.marked 1 q).lm = 1 := by simp only [Regs.marked, hlm]; decide
  have hsz : (r.marked 1 q).marks.size = r.marks.size := by simp only [Regs.marked, clearTo, hlm]; simp
  cases he : edge c q with
  | false =>
    have l2 := at_no (c := c) (pc := 17 + 2) (pos := q) (r := r.marked 1 q) (fr := fr) (by omega) (by rw [W.code]; decide +kernel) (by rw [W.code]; decide +kernel) he
    exact ⟨_, (l1.trans l2).le (by omega), rfl, rfl, rfl, hsz⟩
  | true =>
    have h0 : c.lim ≠ 0 := by
      intro hz
      unfold edge at he
      rw [hz] at he
      simp at he
    have l2 := at_ok (c := c) (pc := 17 + 2) (pos := q) (r := r.marked 1 q) (fr := fr) (by omega) (by rw [W.code]; decide +kernel) (by rw [W.code]; decide +kernel) he
    have l3 := branch_ok (c := c) (pc := 17 + 2 + 2) (pos := q) (r := r.marked 1 q) (fr := fr) (by omega) (by rw [W.code]; decide +kernel) (by rw [W.code]; decide +kernel) (by omega)
    have L0 : Like (r.marked 1 q) { r.marked 1 q with handed := q } := Like.handed _ _
    obtain ⟨r', L, pc', q', l4⟩ := (kw_alts_go W (r0 := r.marked 1 q) (fr := fr) hq hl h0 hp hfr hm1 kwWords 22 _ L0 kw_alts kw_ne kw_words_ne).1 (h h0 (by rw [← hl, ← edge_eq W.lim h0 _ hq]; exact he))
    rw [kw_len] at l4
    exact ⟨_, (((l1.trans l2).trans l3).trans l4).le (by omega), rfl, rfl, L.2.2.2.1, L.2.2.2.2.trans hsz⟩
theorem kw_att {s : Nat} {om : Bool} {marks : Array (Option Nat)} {l : List Nat} (hs : s ≤ c.lim) (hm : marks.size = 4) (hl : c.text.toList.drop s = l) :
    (kwTry (prevAt c.text s) s l = none → Fails c (20 + 411 * (c.lim + 1)) (Att 5 marks s om)) ∧
    (∀ h, kwTry (prevAt c.text s) s l = some h → s < c.lim ∧ Wins c 600 (Att 5 marks s om) h.Is) := by
  have hsz : c.code.size = 433 := by rw [W.code]; exact kw_size
  have hlen := drop_len hl (by rw [← W.lim]; exact hs)
  have hle := runL_le isSp l
  have l1 := mark_ok (c := c) (pc := 5) (pos := s) (r := ⟨s, om, marks, -1, -1, s⟩) (fr := [mkF .nextStart 5 s om 0 (-1) (-1)]) (by omega) (by rw [W.code]; decide +kernel)
  rw [show c.code.getD (5 + 1) 0 = 0 by rw [W.code]; decide +kernel] at l1
  have hlm0 : ((⟨s, om, marks, -1, -1, s⟩ : Regs).marked 0 s).lm = 0 := by simp only [Regs.marked]; decide
  have hn : runL isSp l = cntP isSp c.text (c.lim - s) s := by rw [W.lim]; exact (cntP_run _ _ _ _ _ hl rfl).symm
  have hpv := prevAt_more (n := runL isSp l) hl hle
  constructor
  · intro h
    have hend : edgeL (prevAt c.text (s + runL isSp l)) (l.drop (runL isSp l)) = true → kwFirst kwWords (l.drop (runL isSp l)) = none := by
      intro he
      rw [hpv] at he
      unfold kwTry at h
      rw [if_pos he] at h
      cases hf : kwFirst kwWords (l.drop (runL isSp l)) with
      | none => rfl
      | some k => rw [hf] at h; cases h
    obtain ⟨r', L', pos', l3⟩ := star_fails (c := c) (pc := 5 + 2) (pos := s) (r := (⟨s, om, marks, -1, -1, s⟩ : Regs).marked 0 s) (fr := [mkF .nextStart 5 s om 0 (-1) (-1)]) (b := 410) (f := isSp)
      (by omega) (by rw [W.code]; decide +kernel) (by rw [W.code]; decide +kernel) (fun x => by rw [W.code]; exact kw_sp 13 (.inl rfl) x)
      (by rw [W.code, show kwCode.getD (5 + 2 + 3) 0 = 4294967295 by decide +kernel]; have := W.big; omega) hs hn (by rw [W.code]; decide +kernel) (by show 1 < 1000; omega)
      (fun j hj r' hr => by
        unfold G
        rw [show c.code.getD (5 + 2 + 1) 0 = 9 by rw [W.code]; decide +kernel]
        refine kw_tail_fail W (q := s + j) (l := l.drop j) (by rw [W.lim]; omega) (drop_more hl) rfl (by simp) (hr.2.1.trans hlm0) fun _ he => ?_
        rcases Nat.eq_or_lt_of_le hj with rfl | hlt
        · exact hend he
        · obtain ⟨x, r2, e, hx⟩ := drop_in_run hlt
          rw [e]; exact kwFirst_sp hx _ kw_words_ok)
    refine ⟨_, (l1.trans l3).le ?_, rfl, rfl, L'.2.2.2.1, ?_⟩
    · have : (410 + 1) * (runL isSp l + 1) ≤ 411 * (c.lim + 1) := Nat.mul_le_mul_left _ (by rw [W.lim]; omega)
      omega
    · rw [L'.2.2.2.2]
      simp [Regs.marked, clearTo, Att]
  · intro h hh
    unfold kwTry at hh
    by_cases he : edgeL (if runL isSp l = 0 then prevAt c.text s else l[runL isSp l - 1]?) (l.drop (runL isSp l)) = true
    · rw [if_pos he] at hh
      rw [← hpv] at he
      cases hf : kwFirst kwWords (l.drop (runL isSp l)) with
      | none => rw [hf] at hh; cases hh
      | some k =>
        rw [hf] at hh
        cases hh
        have hne : l.drop (runL isSp l) ≠ [] := by
          intro e
          rw [e, kwFirst_nil _ kw_words_ne] at hf; cases hf
        have hslt : s + runL isSp l < c.text.size := by
          rcases Nat.lt_or_ge (s + runL isSp l) c.text.size with h1 | h1
          · exact h1
          · exact absurd (by rw [← drop_more hl]; exact List.drop_of_length_le (by rw [Array.length_toList]; exact h1)) hne
        refine ⟨by rw [W.lim]; omega, ?_⟩
        have l3 := repeat_ok (c := c) (pc := 5 + 2) (pos := s) (r := (⟨s, om, marks, -1, -1, s⟩ : Regs).marked 0 s) (fr := [mkF .nextStart 5 s om 0 (-1) (-1)]) (f := isSp) (n := runL isSp l)
          (by omega) (by rw [W.code]; decide +kernel) (by rw [W.code]; decide +kernel) (fun x => by rw [W.code]; exact kw_sp 13 (.inl rfl) x)
          (by rw [W.code, show kwCode.getD (5 + 2 + 3) 0 = 4294967295 by decide +kernel]; have := W.big; omega) hs hn (by rw [W.code, show kwCode.getD (5 + 2 + 2) 0 = 0 by decide +kernel]; omega) (by show 1 < 1000; omega)
        rw [show c.code.getD (5 + 2 + 1) 0 = 9 by rw [W.code]; decide +kernel] at l3
        have w := kw_tail_win W (q := s + runL isSp l) (k := k) (r := { (⟨s, om, marks, -1, -1, s⟩ : Regs).marked 0 s with handed := s + runL isSp l })
          (fr := [mkF .giveBack (5 + 2) (s + runL isSp l) ((⟨s, om, marks, -1, -1, s⟩ : Regs).marked 0 s).om (runL isSp l) ((⟨s, om, marks, -1, -1, s⟩ : Regs).marked 0 s).lm ((⟨s, om, marks, -1, -1, s⟩ : Regs).marked 0 s).li, mkF .nextStart 5 s om 0 (-1) (-1)])
          (l := l.drop (runL isSp l)) (by rw [W.lim]; omega) (drop_more hl) (by rw [W.lim]; omega) rfl (by simp) hlm0 he hf
        have w2 := Wins.of (l1.trans l3) w
        intro sn
        obtain ⟨k', hk', mf, o, ⟨p1, p2, p3, p4⟩, e⟩ := w2 sn
        refine ⟨k', by omega, mf, o, ⟨p1, p2, ?_, ?_⟩, e⟩
        · rw [p3]
          simp only [Regs.marked, clearTo]
          exact marks4 hm
        · rw [p4]; rfl
    · rw [if_neg he] at hh; cases hh
theorem kw_engine (hl : c.lastStart ≤ c.lim) (hl2 : c.lim - 1 ≤ c.lastStart) : Engine c 5 4 (fun _ => true) kwTry (20 + 411 * (c.lim + 1)) 600 where
  starts := Starts.plain (by rw [W.code]; decide +kernel)
  last := hl
  lim := W.lim
  nil := kwTry_nil
  fails := fun s om marks hs hm h => (kw_att W hs hm rfl).1 h
  wins := fun s om marks h hs hm hh => let ⟨a, b⟩ := (kw_att W hs hm rfl).2 h hh; ⟨rfl, by omega, b⟩
end

/-! a search, from the machine that the library sets up -/
theorem search_of {code : Array Nat} {groups p : Nat} {text : Array Nat} {pc : Nat} {adm : Nat → Bool} {try_ : Option Nat → Nat → List Nat → Option Hit} {bf bw last : Nat}
    (hpc : (header code).2 = pc) (hleast : (header code).1 = 2) (hp : p ≤ text.size)
    (hlast : last = (if 2 > 1 && !((header code).2 != 0 && code.getD 2 0 &&& 5 != 0) then max p (text.size - 1) else text.size))
    (hshort : text.size - p < 2 → findL try_ (prevAt text p) p (text.toList.drop p) = none)
    (X : Engine ⟨code, text, text.size, last⟩ pc (2 * groups) adm try_ bf bw) :
    match findL try_ (prevAt text p) p (text.toList.drop p) with
    | some h => WinsM ((bf + 1) * text.size + bw) (forSearch code text groups p text.size false) h.Is
    | none => LosesM ((bf + 1) * (text.size + 2) + 1) (forSearch code text groups p text.size false) := by
  have e : forSearch code text groups p text.size false =
      (if p > text.size || text.size - p < 2 then (mkM ⟨code, text, text.size, 0⟩ ⟨pc, p, ⟨p, true, Array.replicate (2 * groups) none, -1, -1, p⟩, [], none⟩ (if pc == 0 then {} else ({} : Seen).add 14)).say false
       else (mkM ⟨code, text, text.size, last⟩ ⟨pc, p, ⟨p, true, Array.replicate (2 * groups) none, -1, -1, p⟩, [], none⟩ (if pc == 0 then {} else ({} : Seen).add 14)).attemptFrom p true) := by
    subst hlast
    subst hpc
    unfold forSearch
    simp only [hleast]
    rfl
  rw [e]
  by_cases hc : (p > text.size || text.size - p < 2) = true
  · rw [if_pos hc]
    have : text.size - p < 2 := by
      simp only [Bool.or_eq_true, decide_eq_true_eq] at hc
      omega
    rw [hshort this]
    obtain ⟨k2, hk2, mf, o, e2⟩ := loses_nil (c := ⟨code, text, text.size, 0⟩) (pc := pc) (pos := p) (r := ⟨p, true, Array.replicate (2 * groups) none, -1, -1, p⟩) (if pc == 0 then {} else ({} : Seen).add 14)
    exact ⟨k2, by omega, mf, o, e2⟩
  · rw [if_neg hc]
    exact X.search hp (by simp)
end Mine

end

/-! ## LRule -/
section
open PySem PySem.W PyProof.Rows PySem.Calls
namespace Mine
set_option maxRecDepth 100000

section
variable {prog : Program} {w : World} {A : Around} {R : Result → Shared → Prop} {s : Shared} {E : Value → Shared → Prop}

/-- what an ended tree is worth to a code -/
abbrev finA (prog : Program) (w : World) (A : Around) (R : Result → Shared → Prop) : Fin → Shared → Prop :=
  fun fin s' => match fin with | .done f => R (.ok f) s' | .again c' => c'.quiet = true ∧ codeAny (modelA prog w) A c' R s'

theorem codeA_builtin {id : String} {args : Args} {b : Builtin} (hb : entryFor table id = some b) (hna : isAsk (.builtin id args) = false)
    (h : wpAny (modelA prog w) (A.under (.builtin id args)) (b args) (finA prog w A R) (fun e s' => R (.error e) s') s) :
    codeAny (modelA prog w) A (.builtin id args) R s := by
  refine codeAny_of_tree ?_
  rw [den_modelA, denA_not hna, den_builtin hb]
  exact h
end

def newSeq (vs : List Value) (c : Nat) : Obj := { cls := .type "list", data := .seq vs.toArray c }
end Mine

end

/-! ## LFacts -/
section
open PySem PySem.W PyProof.Rows PySem.Calls
namespace Mine
set_option maxRecDepth 100000
theorem sc_ga_lookup : typeLookup (.type "_sre.SRE_Scanner") (Str.ofString "__getattribute__") = pure (some (.builtin "object.__getattribute__")) := by rw [typeLookup_type, builtinLookup_eq_fast]; kernel_rfl
theorem sc_search_lookup : typeLookup (.type "_sre.SRE_Scanner") (Str.ofString "search") = pure (some (.builtin "_sre.SRE_Scanner.search")) := by rw [typeLookup_type, builtinLookup_eq_fast]; kernel_rfl
theorem slot_sc_ga : Slot "_sre.SRE_Scanner" "__getattribute__" "object.__getattribute__" :=
  .of (owner := "object") (n := "__getattribute__") sc_ga_lookup (by decide +kernel) (by decide +kernel) (by decide +kernel)
    (by first | exact .inl (by decide +kernel) | exact .inr (by decide +kernel)) (by rw [isSubtype_type]; kernel_rfl)
theorem entry_object_ga : entryFor table "object.__getattribute__" = some Builtin.«object.__getattribute__» := entryFor_of_fast (by kernel_rfl)
theorem args_object_ga (a b : Value) : argsOk "object.__getattribute__" ⟨[a, b], []⟩ := by unfold argsOk; kernel_rfl
theorem typeOf_search : typeOf (.builtin "_sre.SRE_Scanner.search") = pure (.type "method_descriptor") := by show builtinType _ = _; rw [builtinType_eq_fast]; kernel_rfl
theorem md_get : typeLookup (.type "method_descriptor") (Str.ofString "__get__") = pure (some (.builtin "method_descriptor.__get__")) := by rw [typeLookup_type, builtinLookup_eq_fast]; kernel_rfl
theorem md_set : typeLookup (.type "method_descriptor") (Str.ofString "__set__") = pure none := by rw [typeLookup_type, builtinLookup_eq_fast]; kernel_rfl
theorem md_delete : typeLookup (.type "method_descriptor") (Str.ofString "__delete__") = pure none := by rw [typeLookup_type, builtinLookup_eq_fast]; kernel_rfl
theorem slot_md_get : Slot "method_descriptor" "__get__" "method_descriptor.__get__" :=
  .of (owner := "method_descriptor") (n := "__get__") md_get (by decide +kernel) (by decide +kernel) (by decide +kernel)
    (by first | exact .inl (by decide +kernel) | exact .inr (by decide +kernel)) (by rw [isSubtype_type]; kernel_rfl)
theorem entry_md_get : entryFor table "method_descriptor.__get__" = some Builtin.«method_descriptor.__get__» := entryFor_of_fast (by kernel_rfl)
theorem args_md_get (a b c : Value) : argsOk "method_descriptor.__get__" ⟨[a, b, c], []⟩ := by unfold argsOk; kernel_rfl

theorem sc_owner : isSubtype (.type "_sre.SRE_Scanner") (.type (".".intercalate ("_sre.SRE_Scanner.search".cutAt '.').dropLast)) = pure true := by
  rw [show (".".intercalate ("_sre.SRE_Scanner.search".cutAt '.').dropLast) = "_sre.SRE_Scanner" from by decide +kernel, isSubtype_type]; kernel_rfl
theorem copied_guard (a : Addr) : Builtin.ObjectAttr.copiedAttributeGuard (Str.ofString "search") (.ref a) = pure () := by kernel_rfl
theorem told_search : Manifest.toldItsClass.contains "_sre.SRE_Scanner.search" = true := by decide +kernel
end Mine

end

/-! ## LFacts2 -/
section
open PySem PySem.W PyProof.Rows PySem.Calls
namespace Mine
set_option maxRecDepth 100000
theorem slot_finditer : Slot "re.Pattern" "finditer" "re.Pattern.finditer" :=
  .of (owner := "re.Pattern") (n := "finditer") (by rw [typeLookup_type, builtinLookup_eq_fast]; kernel_rfl) (by decide +kernel) (by decide +kernel) (by decide +kernel)
    (.inr (by decide +kernel)) (by rw [isSubtype_type]; kernel_rfl)
theorem slot_pmatch : Slot "re.Pattern" "match" "re.Pattern.match" :=
  .of (owner := "re.Pattern") (n := "match") (by rw [typeLookup_type, builtinLookup_eq_fast]; kernel_rfl) (by decide +kernel) (by decide +kernel) (by decide +kernel)
    (.inr (by decide +kernel)) (by rw [isSubtype_type]; kernel_rfl)
theorem slot_groups : Slot "re.Match" "groups" "re.Match.groups" :=
  .of (owner := "re.Match") (n := "groups") (by rw [typeLookup_type, builtinLookup_eq_fast]; kernel_rfl) (by decide +kernel) (by decide +kernel) (by decide +kernel)
    (.inr (by decide +kernel)) (by rw [isSubtype_type]; kernel_rfl)
theorem slot_group : Slot "re.Match" "group" "re.Match.group" :=
  .of (owner := "re.Match") (n := "group") (by rw [typeLookup_type, builtinLookup_eq_fast]; kernel_rfl) (by decide +kernel) (by decide +kernel) (by decide +kernel)
    (.inr (by decide +kernel)) (by rw [isSubtype_type]; kernel_rfl)
theorem slot_start : Slot "re.Match" "start" "re.Match.start" :=
  .of (owner := "re.Match") (n := "start") (by rw [typeLookup_type, builtinLookup_eq_fast]; kernel_rfl) (by decide +kernel) (by decide +kernel) (by decide +kernel)
    (.inr (by decide +kernel)) (by rw [isSubtype_type]; kernel_rfl)
theorem slot_ci_next : Slot "callable_iterator" "__next__" "callable_iterator.__next__" :=
  .of (owner := "callable_iterator") (n := "__next__") (by rw [typeLookup_type, builtinLookup_eq_fast]; kernel_rfl) (by decide +kernel) (by decide +kernel) (by decide +kernel)
    (.inl (by decide +kernel)) (by rw [isSubtype_type]; kernel_rfl)
theorem slot_ci_iter : Slot "callable_iterator" "__iter__" "callable_iterator.__iter__" :=
  .of (owner := "callable_iterator") (n := "__iter__") (by rw [typeLookup_type, builtinLookup_eq_fast]; kernel_rfl) (by decide +kernel) (by decide +kernel) (by decide +kernel)
    (.inl (by decide +kernel)) (by rw [isSubtype_type]; kernel_rfl)
theorem entry_finditer : entryFor table "re.Pattern.finditer" = some Builtin.«re.Pattern.finditer» := entryFor_of_fast (by kernel_rfl)
theorem entry_pmatch : entryFor table "re.Pattern.match" = some Builtin.«re.Pattern.match» := entryFor_of_fast (by kernel_rfl)
theorem entry_groups : entryFor table "re.Match.groups" = some Builtin.«re.Match.groups» := entryFor_of_fast (by kernel_rfl)
theorem entry_group : entryFor table "re.Match.group" = some Builtin.«re.Match.group» := entryFor_of_fast (by kernel_rfl)
theorem entry_start : entryFor table "re.Match.start" = some Builtin.«re.Match.start» := entryFor_of_fast (by kernel_rfl)
theorem entry_search : entryFor table "_sre.SRE_Scanner.search" = some Builtin.«_sre.SRE_Scanner.search» := entryFor_of_fast (by kernel_rfl)
theorem entry_ci_next : entryFor table "callable_iterator.__next__" = some Builtin.«callable_iterator.__next__» := entryFor_of_fast (by kernel_rfl)
theorem entry_ci_iter : entryFor table "callable_iterator.__iter__" = some Builtin.«dict_keyiterator.__iter__» :=
  entryFor_alias (id' := "dict_keyiterator.__iter__") (by kernel_rfl) (by first | rfl | decide +kernel) (by decide +kernel) (by kernel_rfl)
theorem args_finditer (a b : Value) : argsOk "re.Pattern.finditer" ⟨[a, b], []⟩ := by unfold argsOk; kernel_rfl
theorem args_pmatch (a b : Value) : argsOk "re.Pattern.match" ⟨[a, b], []⟩ := by unfold argsOk; kernel_rfl
theorem args_groups (a : Value) : argsOk "re.Match.groups" ⟨[a], []⟩ := by unfold argsOk; kernel_rfl
theorem args_group (a : Value) : argsOk "re.Match.group" ⟨[a], []⟩ := by unfold argsOk; kernel_rfl
theorem args_start (a : Value) : argsOk "re.Match.start" ⟨[a], []⟩ := by unfold argsOk; kernel_rfl
theorem args_start1 (a b : Value) : argsOk "re.Match.start" ⟨[a, b], []⟩ := by unfold argsOk; kernel_rfl
theorem args_ci_next (a : Value) : argsOk "callable_iterator.__next__" ⟨[a], []⟩ := by unfold argsOk; kernel_rfl
theorem args_ci_iter (a : Value) : argsOk "callable_iterator.__iter__" ⟨[a], []⟩ := by unfold argsOk; kernel_rfl
theorem ga_pattern : typeLookup (.type "re.Pattern") (Str.ofString "__getattribute__") = pure (some (.builtin "object.__getattribute__")) := by rw [typeLookup_type, builtinLookup_eq_fast]; kernel_rfl
theorem noga_pattern : typeLookup (.type "re.Pattern") (Str.ofString "__getattr__") = pure none := by rw [typeLookup_type, builtinLookup_eq_fast]; kernel_rfl
theorem ga_match : typeLookup (.type "re.Match") (Str.ofString "__getattribute__") = pure (some (.builtin "object.__getattribute__")) := by rw [typeLookup_type, builtinLookup_eq_fast]; kernel_rfl
theorem noga_match : typeLookup (.type "re.Match") (Str.ofString "__getattr__") = pure none := by rw [typeLookup_type, builtinLookup_eq_fast]; kernel_rfl
theorem canon_object_ga : (Manifest.canonical "object.__getattribute__" != "object.__getattribute__") = false := by decide +kernel
theorem ty_finditer : typeOf (.builtin "re.Pattern.finditer") = pure (.type "method_descriptor") := by show builtinType _ = _; rw [builtinType_eq_fast]; kernel_rfl
theorem ty_pmatch : typeOf (.builtin "re.Pattern.match") = pure (.type "method_descriptor") := by show builtinType _ = _; rw [builtinType_eq_fast]; kernel_rfl
theorem ty_groups : typeOf (.builtin "re.Match.groups") = pure (.type "method_descriptor") := by show builtinType _ = _; rw [builtinType_eq_fast]; kernel_rfl
theorem ty_group : typeOf (.builtin "re.Match.group") = pure (.type "method_descriptor") := by show builtinType _ = _; rw [builtinType_eq_fast]; kernel_rfl
theorem ty_start : typeOf (.builtin "re.Match.start") = pure (.type "method_descriptor") := by show builtinType _ = _; rw [builtinType_eq_fast]; kernel_rfl
theorem str_not_bytearray : isSubtype (.type "str") (.type "bytearray") = pure false := by rw [isSubtype_type]; kernel_rfl
theorem plain_search : plainId "_sre.SRE_Scanner.search" = true := by decide +kernel
theorem sig_search : (Manifest.signature? "_sre.SRE_Scanner.search").isSome = true := by decide +kernel
theorem kind_search : builtinKind "_sre.SRE_Scanner.search" = some .method := by decide +kernel
theorem sc_not_module : isSubtype (.type "_sre.SRE_Scanner") (.type "module") = pure false := by rw [isSubtype_type]; kernel_rfl
theorem vararg_search : Manifest.varargsMethods.contains "_sre.SRE_Scanner.search" = false := by decide +kernel
theorem args_search (a : Value) : (match Manifest.signature? "_sre.SRE_Scanner.search" with
    | some sig => Bind.checkArgs "_sre.SRE_Scanner.search" { sig with full := s!"{Bind.lastOf "_sre.SRE_Scanner"}.{Bind.lastOf "_sre.SRE_Scanner.search"}" } ⟨[a], []⟩
    | none => pure ()) = pure () := by kernel_rfl
end Mine

end

/-! ## LReg -/
section
open PySem PySem.W PyProof.Rows PySem.Calls
namespace Mine
set_option maxRecDepth 100000
section
variable {M : Model} {prog : Program} {w : World} {A : Around} {E : Value → Shared → Prop} {s : Shared} {a : Addr} {vs : Array Value}
abbrev scObj (vs : Array Value) : Obj := { cls := .type "_sre.SRE_Scanner", data := .fields vs }
theorem find_search {Q : Builtin.ObjectAttr.Found → Shared → Prop} (hx : s.heap.get? a = some (scObj vs)) (hq : Q (.bind (.builtin "method_descriptor.__get__") (.builtin "_sre.SRE_Scanner.search")) s) :
    wpAny M A (Builtin.ObjectAttr.find (.ref a) (.type "_sre.SRE_Scanner") "search") Q E s := by
  unfold Builtin.ObjectAttr.find
  refine wpAny_bind (wpAny_of_eq sc_search_lookup ?_)
  have hT : s.TypeIs (.builtin "_sre.SRE_Scanner.search") "method_descriptor" := typeOf_search
  refine wpAny_bind (m := specialOf _ _) (wpAny_specialOf hT md_get ?_)
  have hd : wpAny M A (Builtin.ObjectAttr.takesStores (.builtin "_sre.SRE_Scanner.search")) (fun b s' => b = false ∧ s' = s) E s := by
    unfold Builtin.ObjectAttr.takesStores
    refine wpAny_bind (wpAny_specialOf hT md_set ?_)
    exact wpAny_bind (wpAny_specialOf hT md_delete (wpAny_pure ⟨rfl, rfl⟩))
  refine wpAny_bind ?_
  show wpAny M A (Builtin.ObjectAttr.takesStores (.builtin "_sre.SRE_Scanner.search") >>= _) _ _ _
  refine wpAny_bind (wpAny_mono hd (fun b s' hb => ?_) fun _ _ h => h)
  obtain ⟨rfl, rfl⟩ := hb
  refine wpAny_pure ?_
  show wpAny M A (Builtin.ObjectAttr.inOwnDict "search" (.ref a) >>= _) _ _ _
  refine wpAny_bind ?_
  show wpAny M A (Builtin.ObjectAttr.ownDict a >>= _) _ _ _
  refine wpAny_bind ?_
  show wpAny M A (loadHead a >>= _) _ _ _
  refine wpAny_bind (wpAny_loadPart hx ?_)
  show wpAny M A (instanceDict a false) _ _ _
  unfold instanceDict
  refine wpAny_bind (wpAny_loadPart hx ?_)
  refine wpAny_pure (wpAny_pure ?_)
  show wpAny M A (Builtin.ObjectAttr.copiedAttributeGuard "search" (.ref a) >>= _) _ _ _
  refine wpAny_bind (wpAny_of_eq (a := ()) (copied_guard a) ?_)
  exact wpAny_bind (wpAny_rule (wpAny_pure hq))
theorem get_search {Q : Value → Shared → Prop} (hx : s.heap.get? a = some (scObj vs))
    (hq : Q (.ref s.heap.objs.size) { s with heap := s.heap.push { cls := .type "builtin_function_or_method", data := .fields #[.builtin "_sre.SRE_Scanner.search", .ref a] }, toks := s.toks + 1 }) :
    wpAny (model prog w) A (getAttr (.ref a) "search") Q E s := by
  unfold getAttr
  refine wpAny_bind (wpAny_mkText ?_)
  unfold getAttrBy
  refine wpAny_holding ?_
  have hT : ({ s with toks := s.toks + 1 } : Shared).TypeIs (.ref a) "_sre.SRE_Scanner" := ⟨_, hx, rfl⟩
  refine wpAny_bind (wpAny_typeOf hT ?_)
  refine wpAny_bind (wpAny_of_eq sc_ga_lookup ?_)
  show wpAny _ A (getAttrByItsOwn (.ref a) (.str (Str.ofString "search") s.toks) (.type "_sre.SRE_Scanner") (.builtin "object.__getattribute__") true false) _ _ _
  unfold getAttrByItsOwn
  refine wpAny_bind (m := hookBefore _) (wpAny_pure ?_)
  refine wpAny_bind (wpAny_attempt (wpAny_holding ?_))
  show wpAny _ A (boundAndCalled (.builtin "object.__getattribute__") (.ref a) (.str (Str.ofString "search") s.toks)) _ _ _
  unfold boundAndCalled
  refine wpAny_bind (wpAny_of_eq (slot_sc_ga.bind (.ref a)) ?_)
  show wpAny _ A (call (.builtin "object.__getattribute__") [.ref a, .str (Str.ofString "search") s.toks]) _ _ _
  refine wpAny_call_entry slot_sc_ga hT entry_object_ga ?_ (args_object_ga _ _)
  unfold Builtin.«object.__getattribute__»
  refine wpAny_bind (m := slotArgs _ _ _) (wpAny_pure ?_)
  show wpAny _ A.in1 (Builtin.ObjectAttr.attrName (.str (Str.ofString "search") s.toks) >>= _) _ _ _
  refine wpAny_bind (m := Builtin.ObjectAttr.attrName _) (wpAny_pure ?_)
  refine wpAny_bind (wpAny_typeOf hT ?_)
  refine wpAny_bind (find_search (s := { s with toks := s.toks + 1 }) hx ?_)
  show wpAny _ A.in1 (Builtin.ObjectAttr.bindTo (.builtin "method_descriptor.__get__") (.builtin "_sre.SRE_Scanner.search") (.ref a) (.type "_sre.SRE_Scanner")) _ _ _
  have hT2 : ({ s with toks := s.toks + 1 } : Shared).TypeIs (.builtin "_sre.SRE_Scanner.search") "method_descriptor" := typeOf_search
  unfold Builtin.ObjectAttr.bindTo
  show wpAny _ A.in1 (holding [.builtin "_sre.SRE_Scanner.search"] (call (.builtin "method_descriptor.__get__") [.builtin "_sre.SRE_Scanner.search", .ref a, .type "_sre.SRE_Scanner"]) >>= _) _ _ _
  refine wpAny_bind (wpAny_holding (wpAny_call_entry slot_md_get hT2 entry_md_get ?_ (args_md_get _ _ _)))
  unfold Builtin.«method_descriptor.__get__»
  refine wpAny_bind (wpAny_of_eq (a := (Value.builtin "_sre.SRE_Scanner.search", some (.ref a), some (.type "_sre.SRE_Scanner"))) (by rfl) ?_)
  simp only [told_search, if_true]
  refine wpAny_bind (wpAny_bind (m := isInstance (.ref a) _) (wpAny_isInstance (T := "_sre.SRE_Scanner") (b := true) hT sc_owner ?_))
  simp only [Bool.not_true, Bool.false_eq_true, if_false]
  refine wpAny_pure ?_
  refine wpAny_bind (m := isType _) (wpAny_pure ?_)
  simp only [Bool.not_true, Bool.false_eq_true, if_false]
  refine wpAny_bind (wpAny_bind (m := isInstance (.ref a) _) (wpAny_isInstance (T := "_sre.SRE_Scanner") (b := true) hT sc_owner ?_))
  simp only [Bool.not_true, Bool.false_eq_true, if_false]
  refine wpAny_pure ?_
  refine wpAny_bind (m := newFields _ _) (wpAny_newObj_type ?_ (by size_fits))
  exact wpAny_pure ⟨_, rfl, wpAny_pure ⟨_, rfl, wpAny_pure hq⟩⟩
end
end Mine

end

/-! ## LReg2 -/
section
open PySem PySem.W PyProof.Rows PySem.Calls
namespace Mine
set_option maxRecDepth 100000
open Builtin.Re

theorem runFor_add : ∀ (a b : Nat) (m : Sre.M), Sre.M.runFor (a + b) m = Sre.M.runFor b (Sre.M.runFor a m)
  | 0, b, m => by rw [Nat.zero_add]; rfl
  | a + 1, b, m => by
    rw [Nat.add_right_comm]
    cases h : m.outcome.isSome with
    | true => rw [runFor_done h, runFor_done h, runFor_done h]
    | false =>
      have h0 : m.outcome = none := by cases e : m.outcome with | none => rfl | some _ => rw [e] at h; cases h
      rw [runFor_step h0, runFor_step h0]; exact runFor_add a b m.step

section
variable {M : Model} {A : Around} {E : Value → Shared → Prop} {s : Shared}
theorem wpAny_reDrive {mf : Sre.M} {Q : Sre.M → Shared → Prop} (hQ : Q mf s) (ho : mf.outcome.isSome = true) : ∀ (T : Nat) (m : Sre.M) (k : Nat), k < 4 * T → Sre.M.runFor k m = mf → wpAny M A (reDrive T m) Q E s
  | 0, m, k, hk, _ => by omega
  | T + 1, m, k, hk, e => by
    unfold reDrive
    show wpAny M A (if (Sre.M.runFor 4 m).outcome.isSome = true then pure (Sre.M.runFor 4 m) else (rule "sre.turn" >>= fun _ => reDrive T (Sre.M.runFor 4 m))) Q E s
    by_cases hd : (Sre.M.runFor 4 m).outcome.isSome = true
    · rw [if_pos hd]
      have : Sre.M.runFor 4 m = mf := by
        rcases Nat.le_total k 4 with h | h
        · obtain ⟨j, hj⟩ := Nat.exists_eq_add_of_le h
          rw [hj, runFor_add, e, runFor_done ho]
        · obtain ⟨j, rfl⟩ := Nat.exists_eq_add_of_le h
          rw [runFor_add, runFor_done hd] at e
          exact e
      rw [this]
      exact wpAny_pure hQ
    · rw [if_neg hd]
      refine wpAny_bind (wpAny_rule ?_)
      have hk4 : 4 ≤ k := by
        rcases Nat.lt_or_ge k 4 with h | h
        · exfalso
          obtain ⟨j, hj⟩ := Nat.exists_eq_add_of_le (Nat.le_of_lt h)
          apply hd
          rw [hj, runFor_add, e, runFor_done ho]; exact ho
        · exact h
      obtain ⟨j, rfl⟩ := Nat.exists_eq_add_of_le hk4
      rw [runFor_add] at e
      exact wpAny_reDrive hQ ho T _ j (by omega) e
theorem wpAny_seenRules {seen : Sre.Seen} {Q : PUnit → Shared → Prop} (hQ : Q PUnit.unit s) : ∀ (l : List Nat),
    wpAny M A (forIn l PUnit.unit fun i _ => do
      if seen.has i = true then rule (Sre.names.getD i ""); pure (ForInStep.yield PUnit.unit) else pure (ForInStep.yield PUnit.unit)) Q E s
  | [] => by rw [List.forIn_nil]; exact wpAny_pure hQ
  | i :: l => by
    rw [List.forIn_cons]
    refine wpAny_bind ?_
    cases seen.has i with
    | true => exact wpAny_bind (wpAny_rule (wpAny_pure (wpAny_seenRules hQ l)))
    | false => exact wpAny_pure (wpAny_seenRules hQ l)
theorem reRun_win {b : Nat} {m : Sre.M} {P : Sre.M → Prop} {Q : Option Sre.M → Shared → Prop} (h : WinsM b m P) (hb : b < 2 ^ 60) (hQ : ∀ mf, P mf → Q (some mf) s) : wpAny M A (reRunToEnd m) Q E s := by
  obtain ⟨k, hk, mf, o, p, e⟩ := h
  unfold reRunToEnd
  refine wpAny_bind (wpAny_reDrive (mf := mf) ?_ (by rw [o]; rfl) (2 ^ 64) m k (by omega) (by have := e 0; rwa [Nat.zero_add] at this))
  refine wpAny_bind (wpAny_seenRules ?_ _)
  rw [o]
  exact wpAny_pure (hQ mf p)
theorem reRun_lose {b : Nat} {m : Sre.M} {Q : Option Sre.M → Shared → Prop} (h : LosesM b m) (hb : b < 2 ^ 60) (hQ : Q none s) : wpAny M A (reRunToEnd m) Q E s := by
  obtain ⟨k, hk, mf, o, e⟩ := h
  unfold reRunToEnd
  refine wpAny_bind (wpAny_reDrive (mf := mf) ?_ (by rw [o]; rfl) (2 ^ 64) m k (by omega) (by have := e 0; rwa [Nat.zero_add] at this))
  refine wpAny_bind (wpAny_seenRules ?_ _)
  rw [o]
  exact wpAny_pure hQ
end

/-- a match that is in order -/
structure Hit.Ok (h : Hit) (n groups : Nat) : Prop where
  le : h.s < h.e
  top : h.e ≤ n
  len : h.g.length = 2 * groups
  up : ∀ g, g < groups → h.g.getD (2 * g) 0 ≤ h.g.getD (2 * g + 1) 0 ∧ h.g.getD (2 * g + 1) 0 ≤ n
def spansOf (h : Hit) : List Value := rawInt h.s :: rawInt h.e :: h.g.map fun n : Nat => rawInt n
def MatchAt (hp : Heap) (a : Addr) (x : Str) (h : Hit) : Prop :=
  ∃ tk pat p0 l0 li t, hp.get? a = some { cls := .type "re.Match", data := .fields #[.str x tk, pat, p0, l0, li, .ref t] } ∧
    hp.get? t = some { cls := .type "tuple", data := .seq (spansOf h).toArray } ∧ a = t + 1
theorem MatchAt.keeps {hp hp' : Heap} {a : Addr} {x : Str} {h : Hit} (m : MatchAt hp a x h) (hk : ∀ b o, hp.get? b = some o → hp'.get? b = some o) : MatchAt hp' a x h :=
  let ⟨tk, pat, p0, l0, li, t, h1, h2, h3⟩ := m; ⟨tk, pat, p0, l0, li, t, hk _ _ h1, hk _ _ h2, h3⟩

def spanF (m : Sre.M) (g : Nat) : List Value :=
  match if ((2 * g + 1 : Nat) : Int) ≤ m.lastmark then (m.marks.getD (2 * g) none, m.marks.getD (2 * g + 1) none) else (none, none) with
  | (some b, some e) => [rawInt b, rawInt e]
  | _ => [rawInt (-1), rawInt (-1)]
def wrongF (m : Sre.M) (g : Nat) : Bool :=
  match m.marks.getD (2 * g) none, m.marks.getD (2 * g + 1) none with
  | some b, some e => ((2 * g + 1 : Nat) : Int) ≤ m.lastmark && e < b
  | _, _ => false
theorem flatMap_range_two {α : Type} (f : Nat → List α) : (List.range 2).flatMap f = f 0 ++ f 1 := by
  simp [List.range, List.range.loop]
section
variable {M : Model} {A : Around} {E : Value → Shared → Prop} {s : Shared}
/-- the spans that a match is given, for no groups and for two -/
theorem newMatch {h : Hit} {m : Sre.M} {n groups p0 l0 : Nat} {pat : Value} {x : Str} {tk : Tok} {Q : Value → Shared → Prop} (hg : groups = 0 ∨ groups = 2) (ok : h.Ok n groups) (is : h.Is m)
    (hQ : ∀ a h', MatchAt h' a x h → (∀ b o, s.heap.get? b = some o → h'.get? b = some o) → s.heap.objs.size ≤ a → Q (.ref a) { s with heap := h' }) :
    wpAny M A (reNewMatch pat (.str x tk) groups p0 l0 m) Q E s := by
  obtain ⟨i1, i2, i3, i4⟩ := is
  have hspans : (List.range groups).flatMap (spanF m) = h.g.map fun n : Nat => rawInt n := by
    rcases hg with rfl | rfl
    · have : h.g = [] := List.length_eq_zero_iff.mp ok.len
      rw [this]; rfl
    · have hl := ok.len
      match hgl : h.g, hl with
      | [a, b, c, d], _ =>
        rw [hgl] at i3 i4
        rw [flatMap_range_two]
        unfold spanF
        rw [i4, i3]
        rfl
  have hwrong : (List.range groups).any (wrongF m) = false := by
    rcases hg with rfl | rfl
    · rfl
    · have hl := ok.len
      match hgl : h.g, hl with
      | [a, b, c, d], _ =>
        have u0 := ok.up 0 (by omega)
        have u1 := ok.up 1 (by omega)
        rw [hgl] at i3 i4 u0 u1
        simp only [List.getD_cons_zero, List.getD_cons_succ, Nat.mul_zero, Nat.mul_one, Nat.zero_add, Nat.reduceAdd] at u0 u1
        have e1 : (decide (b < a)) = false := decide_eq_false (by omega)
        have e2 : (decide (d < c)) = false := decide_eq_false (by omega)
        simp only [List.range, List.range.loop, List.any_cons, List.any_nil, wrongF, i3, i4]
        simp [e1, e2]
  show wpAny M A (if (List.range groups).any (wrongF m) = true then (reWrongSpan >>= fun (_ : Unit) => (newTuple (rawInt m.start :: rawInt m.handed :: (List.range groups).flatMap (spanF m)) >>= fun t =>
      newFields "re.Match" [.str x tk, pat, rawInt p0, rawInt l0, rawInt m.lastindex, t]))
    else (newTuple (rawInt m.start :: rawInt m.handed :: (List.range groups).flatMap (spanF m)) >>= fun t => newFields "re.Match" [.str x tk, pat, rawInt p0, rawInt l0, rawInt m.lastindex, t])) Q E s
  rw [if_neg (by rw [hwrong]; exact Bool.false_ne_true), hspans, i1, i2]
  refine wpAny_bind (wpAny_newObj_type ?_ (by
    show (rawInt h.s :: rawInt h.e :: h.g.map fun n : Nat => rawInt n).toArray.size ≤ sizeLine
    rw [List.size_toArray, List.length_cons, List.length_cons, List.length_map, ok.len, sizeLine_eq]
    rcases hg with rfl | rfl <;> decide))
  refine wpAny_newObj_type ?_ (by size_fits)
  refine hQ _ _ ⟨tk, pat, rawInt p0, rawInt l0, rawInt m.lastindex, s.heap.objs.size, Heap.get?_push_size _ rfl, Heap.get?_push_of_some _ (Heap.get?_push_size _ rfl), by rw [Heap.size_push]⟩ (fun b o e => Heap.get?_push_of_some _ (Heap.get?_push_of_some _ e)) ?_
  rw [Heap.size_push]; exact Nat.le_succ _
end
end Mine

end

/-! ## LSegR -/
section
open PySem PySem.W PyProof.Rows PySem.Calls
namespace Mine
set_option maxRecDepth 100000
open Sem (wp)

section
variable {M : Model}
/-- code and frames of a generator that hold no walk of a callable_iterator -/
def Clean (c : Code) (fs : List Frame) : Prop := isX c = false ∧ NoX (fs.map Frame.where_)
theorem Clean.cons {c c' : Code} {k h g l p kp} {fs : List Frame} (hc : Clean c fs) (h' : isX c' = false) : Clean c' (.ret k h g l c p kp :: fs) :=
  ⟨h', NoX.cons hc.1 hc.2⟩

def EndR (R : GenEnd) (Y : Protocol) (n : Nat) (go : Code → Sem Fin → List Frame → Shared → Prop) (s₀ : Shared) (e : End) (s' : Shared) : Prop :=
  match e with
  | .ret r => R n s₀ r s'
  | .susp v g l k c p fs => (End.susp v g l k c p fs).quiet = true ∧ Clean c fs ∧ Y (n - 1) s₀ v s' fun r s'' => go c (k r) fs s''

def SegR (M : Model) (A : Around) (R : GenEnd) (Y : Protocol) : Nat → Shared → Code → Sem Fin → List Frame → Shared → Prop
  | 0 => fun s₀ c t fs s => Clean c fs → ∀ Γ p, Γ.code = c → Γ.Woken A → NoX Γ.below → ∃ e s', Runs M Γ p t fs s e s' ∧ EndR R Y 0 (fun _ _ _ _ => False) s₀ e s'
  | n + 1 => fun s₀ c t fs s => Clean c fs → ∀ Γ p, Γ.code = c → Γ.Woken A → NoX Γ.below → ∃ e s', Runs M Γ p t fs s e s' ∧
      EndR R Y (n + 1) (fun c' t' fs' s'' => SegR M A R Y n s'' c' t' fs' s'') s₀ e s'
def SegR.next (M : Model) (A : Around) (R : GenEnd) (Y : Protocol) : Nat → Code → Sem Fin → List Frame → Shared → Prop
  | 0 => fun _ _ _ _ => False
  | n + 1 => fun c t fs s'' => SegR M A R Y n s'' c t fs s''
theorem segR_iff {A : Around} {R : GenEnd} {Y : Protocol} {n : Nat} {s₀ c t fs s} :
    SegR M A R Y n s₀ c t fs s ↔ (Clean c fs → ∀ Γ p, Γ.code = c → Γ.Woken A → NoX Γ.below → ∃ e s', Runs M Γ p t fs s e s' ∧ EndR R Y n (SegR.next M A R Y n) s₀ e s') := by
  cases n <;> rfl
end

section
variable {M : Model} {A : Around} {R : GenEnd} {Y : Protocol} {n : Nat} {s₀ : Shared} {c : Code} {fs : List Frame} {s : Shared}
theorem segR_wrap {α : Type} {m : Sem α} {K : α → Sem Fin} {H : Value → Sem Fin} {gd lv}
    (h : wpR M (A.over c fs) m (fun a s' => SegR M A R Y n s₀ c (K a) fs s') (fun x s' => SegR M A R Y n s₀ c (H x) fs s') s) :
    SegR M A R Y n s₀ c (m.wrap K H gd lv) fs s := by
  rw [segR_iff]
  rintro hcl Γ p rfl hΓ hn
  exact runs_wrap_of_wp K H gd lv m (h (Γ.over fs) p (hΓ.over fs) hcl.1 (NoX.append hcl.2 hn)) (fun a p' s' h' => segR_iff.mp h' hcl Γ p' rfl hΓ hn)
    (fun x p' s' h' => segR_iff.mp h' hcl Γ p' rfl hΓ hn)
theorem segR_bind {α : Type} {m : Sem α} {K : α → Sem Fin}
    (h : wpR M (A.over c fs) m (fun a s' => SegR M A R Y n s₀ c (K a) fs s') (fun x s' => SegR M A R Y n s₀ c (.raise x) fs s') s) :
    SegR M A R Y n s₀ c (m >>= K) fs s := by
  rw [Sem.bind_eq_wrap']; exact segR_wrap h
theorem segR_step {α : Type} {m : Sem α} {K : α → Sem Fin}
    (h : wpAny M (A.over c fs) m (fun a s' => SegR M A R Y n s₀ c (K a) fs s') (fun x s' => SegR M A R Y n s₀ c (.raise x) fs s') s) :
    SegR M A R Y n s₀ c (m >>= K) fs s := segR_bind (wpR_of h)
theorem segR_at {p' : Pos} {k : Unit → Sem Fin} (h : SegR M A R Y n s₀ c (k ()) fs s) : SegR M A R Y n s₀ c (.at p' k) fs s :=
  segR_wrap (m := standAt p') (K := k) (H := .raise) (gd := id) (lv := id) (wpR_of (wpAny_standAt h))
theorem segR_point {l : List Value} {k : Unit → Sem Fin} (h : SegR M A R Y n s₀ c (k ()) fs s) : SegR M A R Y n s₀ c (.point l k) fs s :=
  segR_wrap (m := point) (K := k) (H := .raise) (gd := id) (lv := fun _ => l) (wpR_of (wpAny_point h))
theorem segR_call {c' : Code} {h g l} {k : Result → Sem Fin} (hx : isX c' = false) (hc : ∀ p, SegR M A R Y n s₀ c' (M.den c') (.ret k h g l c p [] :: fs) s) :
    SegR M A R Y n s₀ c (.call c' h g l k) fs s := by
  rw [segR_iff]
  rintro hcl Γ p rfl hΓ hn
  obtain ⟨e, s', hr, he⟩ := segR_iff.mp (hc p) (hcl.cons hx) (Γ.goto c') p rfl (hΓ.goto c') hn
  exact ⟨e, s', runs_call_seg hr, he⟩
theorem segR_leaf {k h g l c₁ p₁ kp} (r : Result) (hk : SegR M A R Y n s₀ c₁ (k r) fs s) : SegR M A R Y n s₀ c (leafOf r) (.ret k h g l c₁ p₁ kp :: fs) s := by
  rw [segR_iff]
  rintro hcl Γ p rfl hΓ hn
  obtain ⟨e, s', hr, he⟩ := segR_iff.mp hk ⟨hcl.2 _ List.mem_cons_self, fun x hx => hcl.2 x (List.mem_cons_of_mem _ hx)⟩ (Γ.goto c₁) p₁ rfl (hΓ.goto c₁) hn
  exact ⟨e, s', Runs.pop r hr, he⟩
theorem segR_again {c' : Code} (hx : isX c' = false) (hq : c'.quiet = true) (hc : SegR M A R Y n s₀ c' (M.den c') fs s) : SegR M A R Y n s₀ c (.pure (.again c')) fs s := by
  rw [segR_iff]
  rintro hcl Γ p rfl hΓ hn
  obtain ⟨e, s', hr, he⟩ := segR_iff.mp hc ⟨hx, hcl.2⟩ (Γ.goto c') p rfl (hΓ.goto c') hn
  exact ⟨e, s', Runs.head (c₁ := c') (fun _ _ x => .again hq x) hr, he⟩
theorem segR_end (r : Result) (h : R n s₀ r s) : SegR M A R Y n s₀ c (leafOf r) [] s := by
  rw [segR_iff]
  rintro _ Γ p rfl _ _
  exact ⟨.ret r, s, Runs.leaf r, h⟩
theorem segR_yield {v g l} {k : Resume → Sem Fin} (hfs : splitAtGen fs = none) (hg : g = false) (hfg : fs.any Frame.guarded = false)
    (h : Y n s₀ v s fun r s'' => SegR M A R Y n s'' c (k r) fs s'') : SegR M A R Y (n + 1) s₀ c (.yield v g l k) fs s := by
  rintro hcl Γ p rfl _ _
  exact ⟨_, s, Runs.yield' fs hfs, And.intro (by simp [End.quiet, hg, hfg]) ⟨hcl, h⟩⟩
end

def GoesR (gs : GenState) (M : Model) (A : Around) (R : GenEnd) (Y : Protocol) (n : Nat) (r : Resume) (s : Shared) : Prop :=
  match gs with
  | .fresh c => isX c = false ∧ r = .send .none ∧ SegR M A R Y n s c (M.den c) [] s
  | .suspended k _ c _ fs _ => Clean c fs ∧ SegR M A R Y n s c (k r) fs s
  | _ => False

theorem wpR_resume {M : Model} {A : Around} {R : GenEnd} {Y : Protocol} {n : Nat} {E : Value → Shared → Prop} {s : Shared} {g : Nat} {gs : GenState}
    {r : Resume} {l : List Value} {α : Type} {k : GenResult → Sem α} {Q : α → Shared → Prop} (hg : s.gens[g]? = some gs)
    (hgo : GoesR gs M A R Y n r (s.setGen g .running))
    (hR : ∀ x s₁, R n (s.setGen g .running) x s₁ → wpR M A (k (End.ret x).result) Q E (s₁.setGen g .finished))
    (hY : ∀ v s₁ gs', gs'.bare = true → Y (n - 1) (s.setGen g .running) v s₁ (fun r' s'' => match n with | 0 => False | m + 1 => GoesR gs' M A R Y m r' s'') →
      wpR M A (k (.yielded v)) Q E (s₁.setGen g gs')) (hmono : ∀ n s v s' (f f' : Resume → Shared → Prop), (∀ r s, f r s → f' r s) → Y n s v s' f → Y n s v s' f') :
    wpR M A (.resume g r l k) Q E s := by
  intro Γ p hΓ h1 h2
  rw [Sem.wp_resume]
  have hn : ∀ c, NoX (Γ.wake c p).below := fun c => NoX.cons h1 h2
  have hB : ∀ c, (Γ.wake c p).Woken A := fun c => hΓ.wake c p
  have fin : ∀ e₁ s₁, EndR R Y n (SegR.next M A R Y n) (s.setGen g .running) e₁ s₁ →
      wp M Γ (k e₁.result) (fun a _ s' => Q a s') (fun e _ s' => E e s') p (s₁.setGen g e₁.genState) := by
    intro e₁ s₁ he
    cases e₁ with
    | ret x => exact hR x s₁ he Γ p hΓ h1 h2
    | susp v g₀ l₀ k₀ c₀ p₀ fs₀ =>
      obtain ⟨hq, hcl, hy⟩ := he
      refine hY v s₁ _ ?_ ?_ Γ p hΓ h1 h2
      · simpa [GenState.bare, End.genState, End.quiet] using hq
      · cases n with
        | zero => exact hy
        | succ m => exact hmono _ _ _ _ _ _ (fun r s h => And.intro hcl h) hy
  have hqt : ∀ e₁ s₁, EndR R Y n (SegR.next M A R Y n) (s.setGen g .running) e₁ s₁ → e₁.quiet = true := by
    intro e₁ s₁ he
    cases e₁ with
    | ret x => rfl
    | susp v g₀ l₀ k₀ c₀ p₀ fs₀ => exact he.1
  cases gs with
  | fresh c =>
    obtain ⟨hx, rfl, hs⟩ := hgo
    obtain ⟨e₁, s₁, hr, he⟩ := segR_iff.mp hs ⟨hx, NoX.nil⟩ (Γ.wake c p) p rfl (hB c) (hn c)
    exact ⟨_, _, by unfold Wakes; rw [hg]; exact ⟨e₁, s₁, hr, hqt e₁ s₁ he, rfl, rfl⟩, fin e₁ s₁ he⟩
  | suspended k₀ l₀ c₀ p₀ fs₀ cl =>
    obtain ⟨hcl, hs⟩ := hgo
    obtain ⟨e₁, s₁, hr, he⟩ := segR_iff.mp hs hcl (Γ.wake c₀ p) p₀ rfl (hB c₀) (hn c₀)
    exact ⟨_, _, by unfold Wakes; rw [hg]; exact ⟨e₁, s₁, hr, hqt e₁ s₁ he, rfl, rfl⟩, fin e₁ s₁ he⟩
  | running => exact hgo.elim
  | finished => exact hgo.elim
end Mine

end

/-! ## LRuleR -/
section
open PySem PySem.W PyProof.Rows PySem.Calls
namespace Mine
set_option maxRecDepth 100000

section
variable {prog : Program} {w : World} {A : Around} {R : Result → Shared → Prop} {s : Shared} {E : Value → Shared → Prop}
abbrev ModA (prog : Program) (w : World) := modelA prog w

theorem codeR_builtin {id : String} {args : Args} {b : Builtin} (hx : (id == "callable_iterator.__next__") = false) (hb : entryFor table id = some b) (hna : isAsk (.builtin id args) = false)
    (h : wpR (modelA prog w) (A.under (.builtin id args)) (b args) (finR (modelA prog w) A R) (fun e s' => R (.error e) s') s) :
    codeR (modelA prog w) A (.builtin id args) R s := by
  refine codeR_of_tree hx ?_
  rw [den_modelA, denA_not hna, den_builtin hb]
  exact h
theorem codeR_call_builtin' {id : String} {args : Args} (hq : (Code.builtin id args).quiet = true)
    (h : wpAny (modelA prog w) A.in1 (checkBuiltinCall id args) (fun _ s₁ => codeR (modelA prog w) A (.builtin id args) R s₁)
      (fun e s' => R (.error e) s') s) : codeR (modelA prog w) A (.call (.builtin id) args) R s := by
  refine codeR_of_tree rfl ?_
  rw [den_modelA, denA_not rfl]
  show wpR _ A.in1 (do checkBuiltinCall id args; again (.builtin id args)) _ _ s
  exact wpR_step (wpAny_mono h (fun _ s₁ h₁ => wpR_pure (And.intro hq h₁)) fun _ _ h' => h')
theorem codeR_call_builtin {id : String} {args : Args} {b : Builtin} (hx : (id == "callable_iterator.__next__") = false) (hq : plainId id = true) (hb : entryFor table id = some b) (hna : isAsk (.builtin id args) = false)
    (h : wpAny (modelA prog w) A.in1 (checkBuiltinCall id args) (fun _ s₁ => wpR (modelA prog w) A.in1 (b args) (finR (modelA prog w) A R) (fun e s' => R (.error e) s') s₁)
      (fun e s' => R (.error e) s') s) : codeR (modelA prog w) A (.call (.builtin id) args) R s :=
  codeR_call_builtin' (plainId_quiet hq args) (wpAny_mono h (fun _ s₁ h₁ => codeR_builtin hx hb hna (by rw [Around.under_plainId hq args]; exact h₁)) fun _ _ h' => h')
theorem call_entryR {T : String} {name : Str} {id : String} {b : Builtin} {self : Value} {rest : List Value} {Q : Value → Shared → Prop} (hx : (id == "callable_iterator.__next__") = false) (h : Slot T name id) (hT : s.TypeIs self T)
    (hb : entryFor table id = some b) (hna : isAsk (.builtin id ⟨self :: rest, []⟩) = false)
    (hc : wpR (modelA prog w) A.in1 (b ⟨self :: rest, []⟩) (fun fin s' => ∃ v, fin = .done (.ret v) ∧ Q v s') E s) (ha : argsOk id ⟨self :: rest, []⟩) :
    wpR (modelA prog w) A (call (.builtin id) (self :: rest)) Q E s := by
  refine wpR_call (codeR_call_builtin hx h.plain hb hna (h.check _ _ _ _ _ _ _ _ hT ha (wpR_mono hc (fun fin s' h' => ?_) fun _ _ h' => h')))
  obtain ⟨v, rfl, hv⟩ := h'; exact hv
/-- a slot's method, called -/
theorem callSpecialR {T : String} {name : Str} {id : String} {self : Value} {args : List Value} {Q : Option Value → Shared → Prop} (h : Slot T name id) (hT : s.TypeIs self T)
    (hc : wpR (modelA prog w) A (call (.builtin id) (self :: args)) (fun v s' => Q (some v) s') E s) : wpR (modelA prog w) A (callSpecial? self name args) Q E s := by
  unfold callSpecial?
  refine wpR_step (wpAny_specialOf hT h.lookup ?_)
  refine wpR_holding ?_
  refine wpR_step (wpAny_of_eq (h.bind self) ?_)
  exact wpR_bind (wpR_mono hc (fun v s' hv => wpR_pure hv) fun _ _ h' => h')

/-- calling a built-in type: made, then made ready -/
theorem callType_R {T newId initId : String} {Bi : Builtin} {args : List Value} {Q Q₁ : Value → Shared → Prop} (ft : TypeCalled T newId initId)
    (hct : checkTypeCall T ⟨args, []⟩ = pure ()) (entryI : entryFor table initId = some Bi) (hna : ∀ obj, isAsk (.builtin initId ⟨obj :: args, []⟩) = false) (hx : (initId == "callable_iterator.__next__") = false)
    (hnew : codeAny (modelA prog w) A.in1 (.call (.builtin newId) ⟨.type T :: args, []⟩) (wants Q₁ E) s)
    (hnext : ∀ obj s₁, Q₁ obj s₁ → s₁.TypeIs obj T ∧ argsOk initId ⟨obj :: args, []⟩ ∧
      wpR (modelA prog w) A.in1.in1 (Bi ⟨obj :: args, []⟩) (finR (modelA prog w) A.in1 (wants (fun r s₂ => r = .none ∧ Q obj s₂) E))
        (fun e s' => wants (fun r s₂ => r = .none ∧ Q obj s₂) E (.error e) s') s₁) :
    wpR (modelA prog w) A (call (.type T) args) Q E s := by
  obtain ⟨c, tl, hmro⟩ := ft.mro
  refine wpR_call (codeR_of_tree rfl ?_)
  rw [den_modelA, denA_not rfl]
  show wpR _ _ (callAny (.type T) _) _ _ _
  refine wpR_pure ⟨Code.quiet_builtin _ (by decide +kernel), codeR_builtin rfl F.entry_type_call rfl ?_⟩
  rw [Around.under_plain (weight_type_call_type T args []) rfl]
  have h1 := ft.notType
  have h2 := ft.canCreate
  unfold Builtin.«type.__call__»
  refine wpR_neg (fun h => Bool.false_ne_true (h1.symm.trans h)) ?_
  refine wpR_neg (fun h => Bool.false_ne_true (h2.symm.trans h)) ?_
  rw [hct]
  show wpR _ _ (pure () >>= _) _ _ _
  refine wpR_step (wpAny_pure ?_)
  show wpR _ _ (mroOf (.type T) >>= _) _ _ _
  refine wpR_step (wpAny_of_eq hmro ?_)
  refine wpR_neg (by simp) ?_
  show wpR _ _ (Bind.madeBy (.type T) >>= _) _ _ _
  refine wpR_step (wpAny_of_eq ft.made ?_)
  show wpR _ _ ((pure (Value.builtin newId) : Sem Value) >>= _) _ _ _
  refine wpR_step (wpAny_pure ?_)
  show wpR _ _ (holding [Value.builtin newId] (call (Value.builtin newId) (.type T :: args)) >>= _) _ _ _
  refine wpR_bind (wpR_holding (wpR_call (codeR_of (codeAny_mono hnew fun r s₁ hr => ?_))))
  cases r with
  | error e => exact hr
  | ok fl =>
    cases fl with
    | ret obj =>
      obtain ⟨hT, hok, hsi⟩ := hnext _ _ hr
      refine wpR_step (wpAny_isInstance (T := T) (b := true) hT ft.sub ?_)
      refine wpR_neg (by simp) ?_
      refine wpR_bind (wpR_holding (callSpecialR ft.init hT ?_))
      refine wpR_call (codeR_mono (codeR_call_builtin hx ft.init.plain entryI (hna obj) (ft.init.check _ _ _ _ _ _ _ _ hT hok hsi)) fun r₂ s₂ hr₂ => ?_)
      cases r₂ with
      | error e => exact hr₂
      | ok fl₂ =>
        cases fl₂ with
        | ret r =>
          obtain ⟨rfl, hq⟩ := hr₂
          exact wpR_neg (by simp) (wpR_pure hq)
        | _ => exact hr₂.elim
    | _ => exact hr.elim
end
end Mine

end

/-! ## LRx -/
section
namespace Mine
open PySem PySem.Sre
set_option maxRecDepth 100000

structure TryOk (groups : Nat) (try_ : Option Nat → Nat → List Nat → Option Hit) : Prop where
  nil : ∀ prev p, try_ prev p [] = none
  short : ∀ prev p x, try_ prev p [x] = none
  at_ : ∀ prev s l h, try_ prev s l = some h → h.s = s
  fwd : ∀ prev s l h, try_ prev s l = some h → s < h.e ∧ h.e ≤ s + l.length
  len : ∀ prev s l h, try_ prev s l = some h → h.g.length = 2 * groups
  up : ∀ prev s l h, try_ prev s l = some h → ∀ g, g < groups → h.g.getD (2 * g) 0 ≤ h.g.getD (2 * g + 1) 0 ∧ h.g.getD (2 * g + 1) 0 ≤ s + l.length

structure Rx (code : Array Nat) (groups : Nat) (try_ : Option Nat → Nat → List Nat → Option Hit) : Prop where
  gr : groups = 0 ∨ groups = 2
  ok : TryOk groups try_
  win : ∀ (text : Array Nat) (p : Nat) (h : Hit), text.size ≤ 100000 → p ≤ text.size → findL try_ (prevAt text p) p (text.toList.drop p) = some h →
    ∃ b, b < 2 ^ 60 ∧ WinsM b (forSearch code text groups p text.size false) h.Is
  lose : ∀ (text : Array Nat) (p : Nat), text.size ≤ 100000 → p ≤ text.size → findL try_ (prevAt text p) p (text.toList.drop p) = none →
    ∃ b, b < 2 ^ 60 ∧ LosesM b (forSearch code text groups p text.size false)

theorem TryOk.findL_short {groups : Nat} {try_ : Option Nat → Nat → List Nat → Option Hit} (T : TryOk groups try_) {prev : Option Nat} {p : Nat} {l : List Nat} (h : l.length < 2) : findL try_ prev p l = none := by
  match l, h with
  | [], _ => rfl
  | [x], _ => simp only [findL, T.short]
theorem TryOk.hit {groups : Nat} {try_ : Option Nat → Nat → List Nat → Option Hit} (T : TryOk groups try_) {text : Array Nat} {p : Nat} {h : Hit}
    (hf : findL try_ (prevAt text p) p (text.toList.drop p) = some h) : h.Ok text.size groups ∧ p ≤ h.s := by
  have := findL_spec try_ text T.nil (text.toList.drop p) p rfl
  rw [hf] at this
  obtain ⟨e, h1, h2, h3, _⟩ := this
  have hl : e + (text.toList.drop e).length = text.size := drop_len rfl (Nat.le_of_lt h2)
  have a := T.at_ _ _ _ _ h3
  have b := T.fwd _ _ _ _ h3
  refine ⟨⟨by omega, by omega, T.len _ _ _ _ h3, fun g hg => ?_⟩, by omega⟩
  have := T.up _ _ _ _ h3 g hg
  exact ⟨this.1, by omega⟩

theorem Rx.of {code : Array Nat} {groups pc : Nat} {try_ : Option Nat → Nat → List Nat → Option Hit} (gr : groups = 0 ∨ groups = 2) (T : TryOk groups try_)
    (hpc : (header code).2 = pc) (hleast : (header code).1 = 2) (lastOf : Nat → Nat → Nat)
    (hlast : ∀ p n, lastOf p n = (if 2 > 1 && !((header code).2 != 0 && code.getD 2 0 &&& 5 != 0) then max p (n - 1) else n))
    (X : ∀ (text : Array Nat) (p : Nat), text.size ≤ 100000 → p ≤ text.size → text.size - p ≥ 1 → ∃ adm bf bw, bf ≤ 100000000 ∧ bw ≤ 100000000 ∧ Engine ⟨code, text, text.size, lastOf p text.size⟩ pc (2 * groups) adm try_ bf bw) : Rx code groups try_ := by
  have key : ∀ (text : Array Nat) (p : Nat), text.size ≤ 100000 → p ≤ text.size → text.size - p ≥ 1 → match findL try_ (prevAt text p) p (text.toList.drop p) with
      | some h => ∃ b, b < 2 ^ 60 ∧ WinsM b (forSearch code text groups p text.size false) h.Is
      | none => ∃ b, b < 2 ^ 60 ∧ LosesM b (forSearch code text groups p text.size false) := by
    intro text p hn hp h1
    obtain ⟨adm, bf, bw, hbf, hbw, E⟩ := X text p hn hp h1
    have := search_of (code := code) (groups := groups) (p := p) (text := text) hpc hleast hp (hlast p text.size)
      (fun hs => T.findL_short (by have := drop_len (t := text) (p := p) rfl hp; omega)) E
    cases hf : findL try_ (prevAt text p) p (text.toList.drop p) with
    | some h =>
      rw [hf] at this
      refine ⟨_, ?_, this⟩
      have : (bf + 1) * text.size ≤ 100000001 * 100000 := Nat.mul_le_mul (by omega) hn
      omega
    | none =>
      rw [hf] at this
      refine ⟨_, ?_, this⟩
      have : (bf + 1) * (text.size + 2) ≤ 100000001 * 100002 := Nat.mul_le_mul (by omega) (by omega)
      omega
  refine ⟨gr, T, fun text p h hn hp hf => ?_, fun text p hn hp hf => ?_⟩
  · have h1 : text.size - p ≥ 1 := by
      rcases Nat.lt_or_ge (text.size - p) 1 with h0 | h0
      · rw [List.drop_of_length_le (by rw [Array.length_toList]; omega)] at hf; cases hf
      · exact h0
    have := key text p hn hp h1
    rw [hf] at this; exact this
  · rcases Nat.lt_or_ge (text.size - p) 1 with h0 | h0
    · -- nothing left: the machine is not even begun
      have e : forSearch code text groups p text.size false =
          (mkM ⟨code, text, text.size, 0⟩ ⟨pc, p, ⟨p, true, Array.replicate (2 * groups) none, -1, -1, p⟩, [], none⟩ (if pc == 0 then {} else ({} : Seen).add 14)).say false := by
        subst hpc
        unfold forSearch
        simp only [hleast]
        rw [if_pos (by simp; omega)]
        rfl
      obtain ⟨k2, hk2, mf, o, e2⟩ := loses_nil (c := ⟨code, text, text.size, 0⟩) (pc := pc) (pos := p) (r := ⟨p, true, Array.replicate (2 * groups) none, -1, -1, p⟩) (if pc == 0 then {} else ({} : Seen).add 14)
      exact ⟨k2, by omega, by rw [e]; exact ⟨k2, Nat.le_refl _, mf, o, e2⟩⟩
    · have := key text p hn hp h0
      rw [hf] at this; exact this

theorem opLen_some {l : List Nat} {k : Nat} (h : opLen l = some k) : 1 ≤ k ∧ k ≤ l.length := by
  unfold opLen at h
  have := runL_le isOp l
  split at h
  · split at h
    · cases h; simp
    · cases h
  · cases h; omega
theorem op_ok : TryOk 2 (fun _ => opTry) := by
  have key : ∀ s l h, opTry s l = some h → ∃ n k m, 1 ≤ k ∧ 1 + n + k + m ≤ l.length ∧ h = ⟨s, s + 1 + n + k + m, [s + 1, s + 1 + n, s + 1 + n + k, s + 1 + n + k + m]⟩ := by
    intro s l h hh
    match l, hh with
    | ch :: r, hh =>
      simp only [opTry] at hh
      split at hh
      · cases hh
      · split at hh
        · cases hh
        · rename_i k hk
          cases hh
          obtain ⟨h1, h2⟩ := opLen_some hk
          refine ⟨_, k, _, h1, ?_, rfl⟩
          have h3 := runL_le isSp r
          have h4 := runL_le isSp ((r.drop (runL isSp r)).drop k)
          simp only [List.length_drop, List.length_cons] at *
          omega
  refine ⟨fun _ _ => rfl, fun _ p x => ?_, fun _ s l h hh => ?_, fun _ s l h hh => ?_, fun _ s l h hh => ?_, fun _ s l h hh => ?_⟩
  · cases hh : opTry p [x] with
    | none => rfl
    | some h => obtain ⟨n, k, m, h1, h2, _⟩ := key _ _ _ hh; simp at h2; omega
  all_goals obtain ⟨n, k, m, h1, h2, rfl⟩ := key _ _ _ hh
  · rfl
  · simp only; omega
  · rfl
  · intro g hg
    match g, hg with
    | 0, _ => simp; omega
    | 1, _ => simp; omega
theorem cmEnd_some {l : List Nat} {k : Nat} (h : cmEnd l = some k) : 1 ≤ k ∧ k ≤ l.length := by
  unfold cmEnd at h
  split at h
  · cases h; simp
  · cases h; simp
  · cases h
theorem cm_ok : TryOk 0 (fun _ => cmTry) := by
  have key : ∀ s l h, cmTry s l = some h → ∃ j, 1 ≤ j ∧ 1 + j ≤ l.length ∧ h = ⟨s, s + 1 + j, []⟩ := by
    intro s l h hh
    match l, hh with
    | ch :: r, hh =>
      simp only [cmTry] at hh
      split at hh
      · cases hd : cmDown r (runL isSp r) with
        | none => rw [hd] at hh; cases hh
        | some j =>
          rw [hd] at hh; cases hh
          obtain ⟨m, k, a1, a2, rfl, _⟩ := cmDown_some hd
          obtain ⟨h1, h2⟩ := cmEnd_some a2
          simp only [List.length_drop] at h2
          exact ⟨_, by omega, by simp; omega, rfl⟩
      · cases hh
  refine ⟨fun _ _ => rfl, fun _ p x => ?_, fun _ s l h hh => ?_, fun _ s l h hh => ?_, fun _ s l h hh => ?_, fun _ s l h hh => ?_⟩
  · cases hh : cmTry p [x] with
    | none => rfl
    | some h => obtain ⟨j, h1, h2, _⟩ := key _ _ _ hh; simp at h2; omega
  all_goals obtain ⟨j, h1, h2, rfl⟩ := key _ _ _ hh
  · rfl
  · simp only; omega
  · rfl
  · intro g hg; exact absurd hg (by omega)
theorem ex_ok : TryOk 0 (fun _ => exTry) := by
  have key : ∀ s l h, exTry s l = some h → 2 ≤ l.length ∧ h = ⟨s, s + 2, []⟩ := by
    intro s l h hh
    match l, hh with
    | [], hh => cases hh
    | [_], hh => cases hh
    | ch :: x :: r, hh =>
      simp only [exTry] at hh
      split at hh
      · cases hh; simp
      · split at hh
        · cases hh; simp
        · cases hh
  refine ⟨fun _ _ => rfl, fun _ p x => rfl, fun _ s l h hh => ?_, fun _ s l h hh => ?_, fun _ s l h hh => ?_, fun _ s l h hh => ?_⟩
  all_goals obtain ⟨h1, rfl⟩ := key _ _ _ hh
  · rfl
  · simp only; omega
  · rfl
  · intro g hg; exact absurd hg (by omega)
theorem kwFirst_some : ∀ (ws : List (List Nat)) (l : List Nat) (k : Nat), (ws.all fun w => decide (2 ≤ w.length)) = true → kwFirst ws l = some k → 2 ≤ k ∧ k ≤ l.length
  | [], _, _, _, h => by cases h
  | w :: ws, l, k, hw, h => by
    simp only [List.all_cons, Bool.and_eq_true, decide_eq_true_eq] at hw
    unfold kwFirst at h
    split at h
    · rename_i hc
      cases h
      simp only [Bool.and_eq_true] at hc
      exact ⟨hw.1, (List.isPrefixOf_iff_prefix.mp hc.1).length_le⟩
    · exact kwFirst_some ws l k hw.2 h
theorem kw_words_two : (kwWords.all fun w => decide (2 ≤ w.length)) = true := by decide +kernel
theorem kw_ok : TryOk 2 kwTry := by
  have key : ∀ p s l h, kwTry p s l = some h → ∃ n k m, 2 ≤ k ∧ n + k + m ≤ l.length ∧ h = ⟨s, s + n + k + m, [s, s + n, s + n + k, s + n + k + m]⟩ := by
    intro p s l h hh
    unfold kwTry at hh
    by_cases he : edgeL (if runL isSp l = 0 then p else l[runL isSp l - 1]?) (l.drop (runL isSp l)) = true
    · rw [if_pos he] at hh
      cases hk : kwFirst kwWords (l.drop (runL isSp l)) with
      | none => rw [hk] at hh; cases hh
      | some k =>
        rw [hk] at hh
        cases hh
        obtain ⟨h1, h2⟩ := kwFirst_some _ _ _ kw_words_two hk
        refine ⟨_, k, _, h1, ?_, rfl⟩
        have h3 := runL_le isSp l
        have h4 := runL_le isSp ((l.drop (runL isSp l)).drop k)
        simp only [List.length_drop] at *
        omega
    · rw [if_neg he] at hh; cases hh
  refine ⟨kwTry_nil, fun prev p x => ?_, fun _ s l h hh => ?_, fun _ s l h hh => ?_, fun _ s l h hh => ?_, fun _ s l h hh => ?_⟩
  · cases hh : kwTry prev p [x] with
    | none => rfl
    | some h => obtain ⟨n, k, m, h1, h2, _⟩ := key _ _ _ _ hh; simp at h2; omega
  all_goals obtain ⟨n, k, m, h1, h2, rfl⟩ := key _ _ _ _ hh
  · rfl
  · simp only; omega
  · rfl
  · intro g hg
    match g, hg with
    | 0, _ => simp; omega
    | 1, _ => simp; omega

theorem op_rx : Rx opCode 2 (fun _ => opTry) :=
  Rx.of (.inr rfl) op_ok (pc := 11) (by decide +kernel) (by decide +kernel) (fun _ n => n) (fun p n => by rw [if_neg (by decide +kernel)])
    fun text p hn hp h1 => ⟨_, _, _, (by omega : 20 + 11 * (text.size + 1) ≤ _), by omega, op_engine ⟨rfl, rfl, Nat.le_refl _, by show text.size < _; omega⟩ rfl⟩
theorem cm_rx : Rx cmCode 0 (fun _ => cmTry) :=
  Rx.of (.inl rfl) cm_ok (pc := 11) (by decide +kernel) (by decide +kernel) (fun _ n => n) (fun p n => by rw [if_neg (by decide +kernel)])
    fun text p hn hp h1 => ⟨_, _, _, (by omega : 20 + 11 * (text.size + 1) ≤ _), (by omega : 200 + 11 * (text.size + 1) ≤ _), cm_engine ⟨rfl, rfl, Nat.le_refl _, by show text.size < _; omega⟩ rfl⟩
theorem ex_rx : Rx exCode 0 (fun _ => exTry) :=
  Rx.of (.inl rfl) ex_ok (pc := 5) (by decide +kernel) (by decide +kernel) (fun p n => max p (n - 1)) (fun p n => by rw [if_pos (by decide +kernel)])
    fun text p hn hp h1 => ⟨_, _, _, by omega, by omega, ex_engine ⟨rfl, rfl, by show max p (text.size - 1) ≤ text.size; omega, by show text.size < _; omega⟩ (by show max p (text.size - 1) ≤ text.size; omega) (by show text.size - 1 ≤ max p (text.size - 1); omega)⟩
theorem kw_rx : Rx kwCode 2 kwTry :=
  Rx.of (.inr rfl) kw_ok (pc := 5) (by decide +kernel) (by decide +kernel) (fun p n => max p (n - 1)) (fun p n => by rw [if_pos (by decide +kernel)])
    fun text p hn hp h1 => ⟨_, _, _, (by omega : 20 + 411 * (text.size + 1) ≤ _), by omega, kw_engine ⟨rfl, rfl, by show max p (text.size - 1) ≤ text.size; omega, by show text.size < _; omega⟩ (by show max p (text.size - 1) ≤ text.size; omega) (by show text.size - 1 ≤ max p (text.size - 1); omega)⟩
end Mine

end

/-! ## LDrain -/
section
open PySem PySem.W PyProof.Rows PySem.Calls
namespace Mine
set_option maxRecDepth 100000

/-- a generator that a list is being filled from: St tells how the world stands behind so many items -/
structure DrainR (prog : Program) (w : World) (A : Around) (I S : Addr) (n : Nat) (St Fi : List Value → Shared → Prop) : Prop where
  gen : ∀ vs s, St vs s → s.TypeIs (.ref I) "generator"
  ne : S ≠ I
  frame : ∀ vs (s : Shared) h', St vs s → (∀ b o, b ≠ S → s.heap.get? b = some o → h'.get? b = some o) → St vs { s with heap := h' }
  item : ∀ vs (s : Shared) (Q : Option Value → Shared → Prop) (E : Value → Shared → Prop), vs.length < n → St vs s → (∃ c, s.heap.get? S = some (newSeq vs c)) →
    (∀ v s', St (vs ++ [v]) s' → (∀ o, s.heap.get? S = some o → s'.heap.get? S = some o) → Q (some v) s') → wpR (modelA prog w) A (pyNext (.ref I)) Q E s
  done : ∀ vs (s : Shared) (Q : Option Value → Shared → Prop) (E : Value → Shared → Prop), vs.length = n → St vs s → (∃ c, s.heap.get? S = some (newSeq vs c)) →
    (∀ s', Fi vs s' → (∀ o, s.heap.get? S = some o → s'.heap.get? S = some o) → Q none s') → wpR (modelA prog w) A (pyNext (.ref I)) Q E s

section
variable {prog : Program} {w : World} {A : Around} {R : Result → Shared → Prop} {s : Shared} {E : Value → Shared → Prop} {I S : Addr} {n : Nat} {St Fi : List Value → Shared → Prop}

theorem drain_loopR (D : DrainR prog w A.in1 I S n St Fi) (hn : n ≤ sizeLine) (res : Value) :
    ∀ (k : Nat) (vs : List Value) (s : Shared) (c : Nat), n - vs.length = k → vs.length ≤ n → St vs s → s.heap.get? S = some (newSeq vs c) →
    (∀ s' vs' c', Fi vs' s' → vs'.length = n → s'.heap.get? S = some (newSeq vs' c') → R (.ok (.ret res)) s') →
    codeR (modelA prog w) A (.builtin "list.extend.loop" ⟨[.ref S, .ref I, res], []⟩) R s := by
  intro k
  induction k with
  | zero =>
    intro vs s c hk hle hst hS hR
    refine codeR_builtin rfl F.entry_extend_loop rfl ?_
    rw [Around.under_plainId F.plain_extend_loop _]
    show wpR _ A.in1 (pyNext (.ref I) >>= _) _ _ s
    refine wpR_bind (D.done vs s _ _ (by omega) hst ⟨c, hS⟩ fun s' hst' hm => ?_)
    exact wpR_pure (hR s' vs c hst' (by omega) (hm _ hS))
  | succ k ih =>
    intro vs s c hk hle hst hS hR
    refine codeR_builtin rfl F.entry_extend_loop rfl ?_
    rw [Around.under_plainId F.plain_extend_loop _]
    show wpR _ A.in1 (pyNext (.ref I) >>= _) _ _ s
    refine wpR_bind (D.item vs s _ _ (by omega) hst ⟨c, hS⟩ fun v s' hst' hm => ?_)
    have hS' := hm _ hS
    show wpR _ A.in1 (updateSeq S (·.push v) >>= _) _ _ _
    refine wpR_step ?_
    refine wpAny_updateSeq hS' rfl (wpR_pure ⟨plainId_quiet F.plain_extend_loop _, ih (vs ++ [v]) _ (c + 1) (by rw [List.length_append, List.length_singleton]; omega) (by rw [List.length_append, List.length_singleton]; omega)
      (D.frame _ s' _ hst' fun b o hb e => (Heap.get?_update_other _ _ (Ne.symm hb)).trans e) ?_ hR⟩) (by rw [List.size_toArray]; omega) (by show (vs.toArray.push v).size ≤ sizeLine + 1; rw [Array.size_push, List.size_toArray]; omega)
    rw [Heap.get?_update_self (Obj.mapSeq (·.push v)) hS' rfl]
    simp [newSeq, Obj.mapSeq]

theorem drain_extendR (D : DrainR prog w A.in1 I S n St Fi) (hn : n ≤ sizeLine) (res : Value) (c₀ : Nat) (hst : St [] s) (hself : ∀ (Q : Value → Shared → Prop), Q (.ref I) s → wpAny (modelA prog w) A.in1 (pyIter (.ref I)) Q E s)
    (hE : ∀ e s', E e s' → R (.error e) s') (hS : s.heap.get? S = some (newSeq [] c₀))
    (hR : ∀ s' vs' c', Fi vs' s' → vs'.length = n → s'.heap.get? S = some (newSeq vs' c') → R (.ok (.ret res)) s') :
    wpR (modelA prog w) A.in1 (Builtin.List.listExtendWith (.ref S) (.ref I) res) (finR (modelA prog w) A R) (fun e s' => R (.error e) s') s := by
  unfold Builtin.List.listExtendWith
  refine wpR_step (wpAny_typeOf (D.gen [] _ hst) ?_)
  have hSI := D.ne
  have h1 : Builtin.List.listSameRef (.ref S) (.ref I) = false := by simp [Builtin.List.listSameRef, hSI]
  have h2 : (Value.type "generator" == Value.type "list") = false := by decide
  have h3 : (Value.type "generator" == Value.type "tuple") = false := by decide
  simp only [h1, h2, h3, Bool.or_false, Bool.false_eq_true, if_false]
  refine wpR_step (wpAny_mono (hself (fun v s₁ => v = .ref I ∧ s₁ = s) ⟨rfl, rfl⟩) (fun v s₁ hv => ?_) fun e s₁ he => hE e s₁ he)
  obtain ⟨rfl, rfl⟩ := hv
  refine wpR_step (wpAny_holding ?_)
  unfold Builtin.List.listLengthHint
  refine wpAny_bind (wpAny_specialOf (D.gen [] _ hst) F.gen_no_len ?_)
  show wpAny _ A.in1 (specialOf (Value.ref I) (Str.ofString "__length_hint__") >>= _) _ _ _
  refine wpAny_bind (wpAny_specialOf (D.gen [] _ hst) F.gen_no_hint ?_)
  refine wpAny_pure ?_
  show wpR _ A.in1 (rule "list.extend.makes-room" >>= fun _ => Builtin.List.listTouch (.ref S) >>= fun _ =>
    again (.builtin "list.extend.loop" ⟨[.ref S, .ref I, res], []⟩)) _ _ _
  refine wpR_step (wpAny_rule ?_)
  refine wpR_step ?_
  show wpAny _ A.in1 (updateSeq S (·.push .none) >>= fun _ => updateSeq S (·.pop)) _ _ _
  refine wpAny_bind (wpAny_updateSeq hS rfl ?_)
  have hS₂ := Heap.get?_update_self (Obj.mapSeq (·.push Value.none)) hS rfl
  refine wpAny_updateSeq (hz := by seq_fits) hS₂ rfl ?_
  have hS₃ := Heap.get?_update_self (Obj.mapSeq (·.pop)) hS₂ rfl
  refine wpR_pure ⟨plainId_quiet F.plain_extend_loop _, drain_loopR D hn res n [] _ (c₀ + 1 + 1) (by simp) (by simp)
    (D.frame [] s₁ _ hst fun b o hb e => (Heap.get?_update_other _ _ (Ne.symm hb)).trans ((Heap.get?_update_other _ _ (Ne.symm hb)).trans e)) ?_ hR⟩
  rw [hS₃]
  simp [newSeq, Obj.mapSeq]

/-- list(generator) -/
theorem call_list_R {Q : Value → Shared → Prop} (hn : n ≤ sizeLine) (hS : S = s.heap.objs.size)
    (D : DrainR prog w A.in1.in1 I S n St Fi) (hst : St [] { s with heap := s.heap.push { cls := .type "list", data := .seq #[] } })
    (hself : ∀ (s₁ : Shared) (E : Value → Shared → Prop) (Q : Value → Shared → Prop), St [] s₁ → Q (.ref I) s₁ → wpAny (modelA prog w) A.in1.in1 (pyIter (.ref I)) Q E s₁)
    (hQ : ∀ s' vs' c', Fi vs' s' → vs'.length = n → s'.heap.get? S = some (newSeq vs' c') → Q (.ref S) s') :
    wpR (modelA prog w) A (call (.type "list") [.ref I]) Q E s := by
  subst hS
  refine callType_R (Q₁ := fun obj s₁ => obj = .ref s.heap.objs.size ∧ s₁ = { s with heap := s.heap.push { cls := .type "list", data := .seq #[] } }) F.called_list (F.typeCall_list_1 _) F.entry_list_init (fun obj => by cases obj <;> rfl) rfl
    (code_A (code_list_new _ ⟨rfl, rfl⟩)) fun obj s₁ h₁ => ?_
  obtain ⟨rfl, rfl⟩ := h₁
  have hS : (s.heap.push { cls := .type "list", data := .seq #[] }).get? s.heap.objs.size = some { cls := .type "list", data := .seq #[] } := Heap.get?_push_size _ rfl
  refine ⟨⟨_, hS, rfl⟩, F.args_list_init_2 _ _, ?_⟩
  show wpR _ A.in1.in1 (do let old ← Builtin.List.listItems (.ref s.heap.objs.size); Builtin.List.listUpdate (.ref s.heap.objs.size) (fun _ => #[]); letGo old.toList.reverse; Builtin.List.listExtendWith (.ref s.heap.objs.size) (.ref I) .none) _ _ _
  refine wpR_step ?_
  unfold Builtin.List.listItems
  refine wpAny_bind (wpAny_seqItems hS rfl (wpAny_pure ?_))
  show wpR _ A.in1.in1 (updateSeq s.heap.objs.size (fun _ => #[]) >>= fun _ => letGo (#[] : Array Value).toList.reverse >>= fun _ => Builtin.List.listExtendWith (.ref s.heap.objs.size) (.ref I) .none) _ _ _
  refine wpR_step (wpAny_updateSeq hS rfl ?_)
  have hS₂ := Heap.get?_update_self (Obj.mapSeq (fun _ => (#[] : Array Value))) hS rfl
  refine wpR_step (wpAny_letGo ?_)
  have hst₂ := D.frame [] _ ((s.heap.push { cls := .type "list", data := .seq #[] }).update s.heap.objs.size (Obj.mapSeq (fun _ => (#[] : Array Value)))) hst fun b o hb e => (Heap.get?_update_other _ _ (Ne.symm hb)).trans e
  refine drain_extendR D hn .none 0 hst₂ (fun Q hq => hself _ _ Q hst₂ hq) (E := fun e s' => wants (fun r s₂ => r = .none ∧ Q (.ref s.heap.objs.size) s₂) E (.error e) s') (fun _ _ h => h) (by rw [hS₂]; rfl) fun s' vs' c' h1 h2 h3 => ?_
  exact ⟨rfl, hQ s' vs' c' h1 h2 h3⟩
end

section
variable {prog : Program} {w : World} {A : Around} {E : Value → Shared → Prop} {s : Shared}
theorem pyNextR {v : Value} {T id : String} {Q : Option Value → Shared → Prop} (hT : s.TypeIs v T) (sl : Slot T "__next__" id)
    (h : wpR (modelA prog w) A (call (.builtin id) [v]) (fun r s' => Q (some r) s') (fun e s' => wpAny (modelA prog w) A (isInstance e (.type "StopIteration")) (fun b s'' => b = true ∧ Q none s'') E s') s) :
    wpR (modelA prog w) A (pyNext v) Q E s := by
  unfold pyNext
  refine wpR_bind (wpR_attempt (wpR_mono (callSpecialR (args := []) (Q := fun a s' => ∃ r, a = some r ∧ Q a s') sl hT (wpR_mono h (fun r s' hr => ⟨r, rfl, hr⟩) fun _ _ h => h)) (fun a s' ha => ?_) fun e s' he => ?_))
  · obtain ⟨r, rfl, hr⟩ := ha
    exact wpR_pure hr
  · refine wpR_step (wpAny_mono he (fun b s'' hb => ?_) fun _ _ h => h)
    obtain ⟨rfl, hq⟩ := hb
    exact wpR_pure hq

/-- next() of a def's generator, over a clear stack -/
theorem pyNext_genR {a : Addr} {g n : Nat} {gs : GenState} {P : Nat → Shared → Shared → Prop} {Y : Protocol} {Q : Option Value → Shared → Prop} (hh : A.handled = none)
    (hl : s.heap.NoLimit) (hroom : A.depth < recursionLimit)
    (hg : s.heap.IsGen a g) (hgs : s.gens[g]? = some gs)
    (hgo : GoesR gs (modelA prog w) A.in1 (fun n s₀ r s₁ => r = .ok (.ret .none) ∧ P n s₀ s₁) Y n (.send .none) (s.setGen g .running))
    (hY : ∀ v s₁ gs', gs'.bare = true → Y (n - 1) (s.setGen g .running) v s₁ (fun r' s'' => match n with
        | 0 => False
        | m + 1 => GoesR gs' (modelA prog w) A.in1 (fun n s₀ r s₁ => r = .ok (.ret .none) ∧ P n s₀ s₁) Y m r' s'') → Q (some v) (s₁.setGen g gs'))
    (hP : ∀ s₁, P n (s.setGen g .running) s₁ → ∀ h', (∀ b o, s₁.heap.get? b = some o → h'.get? b = some o) → Q none { s₁.setGen g .finished with heap := h' })
    (hmono : ∀ n s v s' (f f' : Resume → Shared → Prop), (∀ r s, f r s → f' r s) → Y n s v s' f → Y n s v s' f') :
    wpR (modelA prog w) A (pyNext (.ref a)) Q E s := by
  refine pyNextR hg.typeIs slot_gen_next (call_entryR rfl slot_gen_next hg.typeIs entry_gen_next rfl ?_ (args_gen_next _))
  show wpR _ _ (Builtin.Generator.genWake (.ref a) (.send .none)) _ _ s
  unfold Builtin.Generator.genWake
  refine wpR_bind (wpR_holding (wpR_of (wpAny_genNumber hg ?_)))
  refine wpR_step (wpAny_genState hgs ?_)
  cases gs with
  | running => exact hgo.elim
  | finished => exact hgo.elim
  | _ =>
    refine wpR_step (wpAny_roomToWake hl hroom ?_)
    show wpR _ _ (.resume g (.send .none) [] _) _ _ s
    refine wpR_resume hgs hgo (fun x s₁ hx => ?_) (fun v s₁ gs' hb hv => ?_) hmono
    · obtain ⟨rfl, hp⟩ := hx
      refine wpR_of ?_
      show wpAny _ _ (newExc (.type "StopIteration") [] >>= _) _ _ _
      refine wpAny_bind ?_
      simp only [newExc, newTuple]
      refine wpAny_bind (wpAny_newObj_type ?_ (by size_fits))
      refine wpAny_bind (m := firstArgMember _ _) (wpAny_of_eq (a := Value.none) (by first | rfl | (simp only [firstArgMember]; rfl)) ?_)
      refine wpAny_newObj_type ?_ (by size_fits)
      simp only [raiseNew]
      refine wpAny_bind (wpAny_bind (wpAny_handled ?_))
      rw [show A.in1.handled = none from hh]
      refine wpAny_throw ?_
      refine wpAny_isInstance (T := "StopIteration") (b := true) ⟨_, Heap.get?_push_size _ rfl, rfl⟩ isSubtype_stop ?_
      exact ⟨rfl, hP s₁ hp _ fun b o hb => Heap.get?_push_of_some _ (Heap.get?_push_of_some _ hb)⟩
    · exact wpR_pure ⟨v, rfl, hY v s₁ gs' hb hv⟩
end
end Mine

end

/-! ## LIter0 -/
section
open PySem PySem.W PyProof.Rows PySem.Calls
namespace Mine
set_option maxRecDepth 100000
open Builtin.Re

theorem slot_match_eq : Slot "re.Match" "__eq__" "object.__eq__" :=
  .of (owner := "object") (n := "__eq__") (by rw [typeLookup_type, builtinLookup_eq_fast]; kernel_rfl) (by decide +kernel) (by decide +kernel) (by decide +kernel)
    (.inl (by decide +kernel)) (by rw [isSubtype_type]; kernel_rfl)
theorem match_none_sub : isSubtype (.type "re.Match") (.type "NoneType") = pure false := by rw [isSubtype_type]; kernel_rfl
section
variable {prog : Program} {w : World} {A : Around} {E : Value → Shared → Prop} {s : Shared}
/-- the end mark of a walk is no match -/
theorem eqBool_none_match {a : Addr} {Q : Bool → Shared → Prop} (hu : A.units < cLine) (ha : s.TypeIs (.ref a) "re.Match") (h : Q false s) :
    wpAny (model prog w) A (eqBool .none (.ref a)) Q E s := by
  unfold eqBool
  refine wpAny_holding ?_
  show wpAny _ A (richCompare .Eq .none (.ref a) >>= _) _ _ _
  refine wpAny_bind ?_
  unfold richCompare
  refine wpAny_holding ?_
  refine wpAny_bind (wpAny_cRoomFor hu ?_)
  show wpAny _ A (typeOf .none >>= fun ta => typeOf (.ref a) >>= _) _ _ _
  refine wpAny_bind (wpAny_of_eq (a := Value.type "NoneType") rfl ?_)
  refine wpAny_bind (wpAny_typeOf ha ?_)
  show wpAny _ A (isSubtype (.type "re.Match") (.type "NoneType") >>= _) _ _ _
  refine wpAny_bind (wpAny_of_eq match_none_sub ?_)
  show wpAny _ A (tryCompare .none (cmpInfo .Eq).2.1 (.ref a) >>= _) _ _ _
  refine wpAny_bind ?_
  unfold tryCompare
  refine wpAny_bind (wpAny_callSpecialIfBound?_slot (T := "NoneType") rfl F.slot_NoneType_eq (wpAny_call_entry (T := "NoneType") F.slot_NoneType_eq rfl F.entry_NoneType_eq ?_ (F.args_NoneType_eq_2 _ _)))
  refine wpAny_pure ⟨_, rfl, wpAny_pure ?_⟩
  show wpAny _ A (tryCompare (.ref a) (Str.ofString "__eq__") .none >>= _) _ _ _
  refine wpAny_bind ?_
  unfold tryCompare
  refine wpAny_bind (wpAny_callSpecialIfBound?_slot ha slot_match_eq (wpAny_call_entry slot_match_eq ha F.cmpEntry_eq ?_ (F.cmpArgs_eq _ _)))
  unfold Builtin.«object.__eq__»
  refine wpAny_bind (m := slotArgs _ _ _) (wpAny_pure ?_)
  show wpAny _ _ (isSame (.ref a) .none >>= _) _ _ _
  refine wpAny_bind (wpAny_of_eq (isSame_none _) ?_)
  refine wpAny_pure ⟨_, rfl, wpAny_pure ?_⟩
  show wpAny _ A (rule _ >>= fun _ => isSame .none (.ref a) >>= _) _ _ _
  refine wpAny_bind (wpAny_rule ?_)
  refine wpAny_bind (wpAny_of_eq (a := false) (by rfl) ?_)
  exact wpAny_pure (wpAny_pure h)
end
end Mine

end

/-! ## LIter -/
section
open PySem PySem.W PyProof.Rows PySem.Calls
namespace Mine
set_option maxRecDepth 100000
open Builtin.Re
open Sem (wp)

/-- wpAny, where below the code at work no walk of a callable_iterator is under way -/
def wpB {α : Type} (M : Model) (A : Around) (t : Sem α) (Q : α → Shared → Prop) (E : Value → Shared → Prop) (s : Shared) : Prop :=
  ∀ Γ p, Γ.In A → NoX Γ.below → wp M Γ t (fun a _ s' => Q a s') (fun e _ s' => E e s') p s
section
variable {α β : Type} {M : Model} {A : Around} {E : Value → Shared → Prop} {s : Shared}
theorem wpB_of {t : Sem α} {Q : α → Shared → Prop} (h : wpAny M A t Q E s) : wpB M A t Q E s := fun Γ p hΓ _ => h Γ p hΓ
theorem wpB_pure {a : α} {Q : α → Shared → Prop} (h : Q a s) : wpB M A (pure a) Q E s := fun _ _ _ _ => h
theorem wpB_mono {t : Sem α} {Q Q' : α → Shared → Prop} {E' : Value → Shared → Prop} (h : wpB M A t Q E s)
    (hQ : ∀ a s, Q a s → Q' a s) (hE : ∀ e s, E e s → E' e s) : wpB M A t Q' E' s :=
  fun Γ p hΓ h2 => Sem.wp_mono M Γ t (fun a _ s => hQ a s) (fun e _ s => hE e s) p s (h Γ p hΓ h2)
theorem wpB_bind {m : Sem α} {f : α → Sem β} {Q : β → Shared → Prop} (h : wpB M A m (fun a s' => wpB M A (f a) Q E s') E s) :
    wpB M A (m >>= f) Q E s := fun Γ p hΓ h2 => by
  rw [Sem.wp_bind']
  exact Sem.wp_mono M Γ m (fun a p' s' h' => h' Γ p' hΓ h2) (fun _ _ _ h' => h') p s (h Γ p hΓ h2)
theorem wpB_step {m : Sem α} {f : α → Sem β} {Q : β → Shared → Prop} (h : wpAny M A m (fun a s' => wpB M A (f a) Q E s') E s) :
    wpB M A (m >>= f) Q E s := wpB_bind (wpB_of h)
theorem wpB_neg {c : Prop} [Decidable c] {a b : Sem α} {Q : α → Shared → Prop} (hc : ¬ c) (h : wpB M A b Q E s) : wpB M A (if c then a else b) Q E s := by rw [if_neg hc]; exact h
theorem wpB_pos {c : Prop} [Decidable c] {a b : Sem α} {Q : α → Shared → Prop} (hc : c) (h : wpB M A a Q E s) : wpB M A (if c then a else b) Q E s := by rw [if_pos hc]; exact h
/-- the look at the stack below, for a walk of the same -/
theorem wpB_stackX {f : Code → Bool} {Q : List (Code × Pos) → Shared → Prop} (hf : ∀ c, isX c = false → f c = false)
    (h : ∀ st : List (Code × Pos), (st.drop 1).any (fun x => f x.1) = false → Q st s) : wpB M A stack Q E s := fun Γ p _ h2 => by
  show Q ((Γ.code, p) :: Γ.below) s
  refine h _ ?_
  show Γ.below.any _ = false
  rw [List.any_eq_false]
  intro x hx
  rw [hf _ (h2 x hx)]
  exact Bool.false_ne_true
end

structure PatAt (hp : Heap) (P : Addr) (code : Array Nat) (groups : Nat) : Prop where
  at_ : ∃ pat fl names idx t items, hp.get? P = some { cls := .type "re.Pattern", data := .fields #[pat, fl, rawInt groups, names, idx, .ref t, rawInt 0] } ∧
    hp.get? t = some { cls := .type "tuple", data := .seq items } ∧ (items.map reRawOf).map Int.toNat = code
structure IterAt (hp : Heap) (it me sc P : Addr) (x : Str) (p : Nat) : Prop where
  it_ : hp.get? it = some { cls := .type "callable_iterator", data := .fields #[.ref me, .none, .bool false] }
  me_ : hp.get? me = some { cls := .type "builtin_function_or_method", data := .fields #[.builtin "_sre.SRE_Scanner.search", .ref sc] }
  sc_ : ∃ tk, hp.get? sc = some (scObj #[.ref P, .str x tk, rawInt p, rawInt 0, rawInt x.cps.size, .bool false])
theorem PatAt.keeps {hp hp' : Heap} {P : Addr} {code : Array Nat} {groups : Nat} (h : PatAt hp P code groups) (hk : ∀ b o, hp.get? b = some o → hp'.get? b = some o) : PatAt hp' P code groups :=
  let ⟨pat, fl, names, idx, t, items, h1, h2, h3⟩ := h.at_; ⟨⟨pat, fl, names, idx, t, items, hk _ _ h1, hk _ _ h2, h3⟩⟩
theorem IterAt.keeps {hp hp' : Heap} {it me sc P : Addr} {x : Str} {p : Nat} (h : IterAt hp it me sc P x p) (hk : ∀ b o, hp.get? b = some o → hp'.get? b = some o) : IterAt hp' it me sc P x p :=
  let ⟨tk, h3⟩ := h.sc_; ⟨hk _ _ h.it_, hk _ _ h.me_, ⟨tk, hk _ _ h3⟩⟩

section
variable {M : Model} {prog : Program} {w : World} {A : Around} {E : Value → Shared → Prop} {s : Shared}
theorem wpAny_wholeTarget {P : Addr} {code : Array Nat} {groups : Nat} {x : Str} {tk : Tok} {Q : ReTarget → Shared → Prop} (hP : PatAt s.heap P code groups)
    (h : Q ⟨.ref P, .str x tk, code, x.cps, 0, groups, 0, x.cps.size⟩ s) : wpAny M A (reWholeTarget (.ref P) (.str x tk)) Q E s := by
  obtain ⟨pat, fl, names, idx, t, items, h1, h2, rfl⟩ := hP.at_
  unfold reWholeTarget
  refine wpAny_bind (wpAny_fieldsOf h1 rfl ?_)
  refine wpAny_bind (m := reTextOf (.str x tk)) (wpAny_of_eq (a := (x.cps, 0)) (by rfl) ?_)
  show wpAny M A (reNoCollectionInside (.str x tk) 0 >>= fun _ => reRawItems (.ref t) >>= _) _ _ _
  refine wpAny_bind (wpAny_pure ?_)
  refine wpAny_bind ?_
  unfold reRawItems
  show wpAny M A (seqItems? (.ref t) >>= _) _ _ _
  refine wpAny_bind ?_
  unfold seqItems?
  refine wpAny_bind (wpAny_load h2 ?_)
  exact wpAny_pure (wpAny_pure (wpAny_pure h))
theorem wpAny_borrows {a : Addr} {vs : Array Value} {Q : Bool → Shared → Prop} (h1 : s.heap.get? a = some { cls := .type "builtin_function_or_method", data := .fields vs }) (h : Q false s) : wpAny M A (borrowsExactly (.ref a)) Q E s := by
  unfold borrowsExactly
  show wpAny M A (load a >>= _) _ _ _
  exact wpAny_bind (wpAny_load h1 (wpAny_pure h))

/-- the scanner's search, found -/
theorem search_win {sc P : Addr} {code : Array Nat} {groups p : Nat} {x : Str} {tk : Tok} {try_ : Option Nat → Nat → List Nat → Option Hit} {hit : Hit} {Q : Fin → Shared → Prop} (rx : Rx code groups try_) (hP : PatAt s.heap P code groups)
    (hsc : s.heap.get? sc = some (scObj #[.ref P, .str x tk, rawInt p, rawInt 0, rawInt x.cps.size, .bool false])) (hn : x.cps.size ≤ 100000) (hp : p ≤ x.cps.size)
    (hf : findL try_ (prevAt x.cps p) p (x.cps.toList.drop p) = some hit)
    (hQ : ∀ m h', MatchAt h' m x hit → (∀ b o, b ≠ sc → s.heap.get? b = some o → h'.get? b = some o) →
      h'.get? sc = some (scObj #[.ref P, .str x tk, rawInt hit.e, rawInt 0, rawInt x.cps.size, .bool false]) → s.heap.objs.size ≤ m → Q (.done (.ret (.ref m))) { s with heap := h' }) :
    wpAny (modelA prog w) A (Builtin.«_sre.SRE_Scanner.search» ⟨[.ref sc], []⟩) Q E s := by
  obtain ⟨ok, hle⟩ := rx.ok.hit hf
  obtain ⟨b, hb, hw⟩ := rx.win _ _ _ hn hp hf
  show wpAny _ A (reScan "search" true ⟨[.ref sc], []⟩) _ _ _
  unfold reScan
  show wpAny _ A (fieldsOf (.ref sc) >>= _) _ _ _
  refine wpAny_bind (wpAny_fieldsOf hsc rfl ?_)
  show wpAny _ A (if ((p : Int) < 0) then _ else _) _ _ _
  rw [if_neg (by omega)]
  show wpAny _ A (noCollectionInside _ >>= fun _ => reWholeTarget (.ref P) (.str x tk) >>= _) _ _ _
  refine wpAny_bind (noCollection_A ?_)
  refine wpAny_bind (wpAny_wholeTarget hP ?_)
  show wpAny _ A (reRunToEnd (Sre.forSearch code x.cps groups p x.cps.size false) >>= _) _ _ _
  refine wpAny_bind (reRun_win hw hb fun mf is => ?_)
  show wpAny _ A (setField (.ref sc) 2 (rawInt mf.handed) >>= fun _ => setField (.ref sc) 5 (.bool (mf.handed == mf.start)) >>= fun _ =>
    reNewMatch (.ref P) (.str x tk) groups 0 x.cps.size mf >>= fun v => ret v) _ _ _
  refine wpAny_bind (wpAny_setField hsc rfl (by simp) ?_)
  have g1 := Heap.get?_update_self (Obj.mapFields (·.setIfInBounds 2 (rawInt mf.handed))) hsc rfl
  refine wpAny_bind (wpAny_setField g1 rfl (by simp) ?_)
  have g2 := Heap.get?_update_self (Obj.mapFields (·.setIfInBounds 5 (.bool (mf.handed == mf.start)))) g1 rfl
  refine wpAny_bind (newMatch rx.gr ok is fun a h' hm hk hsz => ?_)
  refine wpAny_pure (hQ a h' hm (fun b o hb e => hk b o ?_) (hk _ _ ?_) ?_)
  · exact (Heap.get?_update_other _ _ (Ne.symm hb)).trans ((Heap.get?_update_other _ _ (Ne.symm hb)).trans e)
  · rw [g2]
    have : (mf.handed == mf.start) = false := by
      rw [is.1, is.2.1]
      exact beq_eq_false_iff_ne.mpr (by have := ok.le; omega)
    rw [this, is.2.1]
    rfl
  · have : ∀ (hp : Heap) (a : Addr) (f : Obj → Obj), (hp.update a f).objs.size = hp.objs.size := fun hp a f => Heap.size_update ..
    simpa [this] using hsz
/-- the scanner's search, at its end -/
theorem search_lose {sc P : Addr} {code : Array Nat} {groups p : Nat} {x : Str} {tk : Tok} {try_ : Option Nat → Nat → List Nat → Option Hit} {Q : Fin → Shared → Prop} (rx : Rx code groups try_) (hP : PatAt s.heap P code groups)
    (hsc : s.heap.get? sc = some (scObj #[.ref P, .str x tk, rawInt p, rawInt 0, rawInt x.cps.size, .bool false])) (hn : x.cps.size ≤ 100000) (hp : p ≤ x.cps.size)
    (hf : findL try_ (prevAt x.cps p) p (x.cps.toList.drop p) = none)
    (hQ : ∀ h', (∀ b o, b ≠ sc → s.heap.get? b = some o → h'.get? b = some o) → Q (.done (.ret .none)) { s with heap := h' }) :
    wpAny (modelA prog w) A (Builtin.«_sre.SRE_Scanner.search» ⟨[.ref sc], []⟩) Q E s := by
  obtain ⟨b, hb, hw⟩ := rx.lose _ _ hn hp hf
  show wpAny _ A (reScan "search" true ⟨[.ref sc], []⟩) _ _ _
  unfold reScan
  show wpAny _ A (fieldsOf (.ref sc) >>= _) _ _ _
  refine wpAny_bind (wpAny_fieldsOf hsc rfl ?_)
  show wpAny _ A (if ((p : Int) < 0) then _ else _) _ _ _
  rw [if_neg (by omega)]
  show wpAny _ A (noCollectionInside _ >>= fun _ => reWholeTarget (.ref P) (.str x tk) >>= _) _ _ _
  refine wpAny_bind (noCollection_A ?_)
  refine wpAny_bind (wpAny_wholeTarget hP ?_)
  show wpAny _ A (reRunToEnd (Sre.forSearch code x.cps groups p x.cps.size false) >>= _) _ _ _
  refine wpAny_bind (reRun_lose hw hb ?_)
  show wpAny _ A (setField (.ref sc) 2 (rawInt (-1)) >>= fun _ => ret .none) _ _ _
  refine wpAny_bind (wpAny_setField hsc rfl (by simp) ?_)
  exact wpAny_pure (hQ _ fun b o hb e => (Heap.get?_update_other _ _ (Ne.symm hb)).trans e)

/-- the bound search, called -/
theorem call_me {me sc : Addr} {vs : Array Value} {Q : Value → Shared → Prop} (hm : s.heap.get? me = some { cls := .type "builtin_function_or_method", data := .fields #[.builtin "_sre.SRE_Scanner.search", .ref sc] })
    (hsc : s.heap.get? sc = some (scObj vs))
    (h : wpAny (modelA prog w) A.in1 (Builtin.«_sre.SRE_Scanner.search» ⟨[.ref sc], []⟩) (fun fin s' => ∃ v, fin = .done (.ret v) ∧ Q v s') E s) :
    wpAny (modelA prog w) A (call (.ref me) []) Q E s := by
  refine wpAny_call (codeAny_of_tree ?_)
  rw [den_modelA, denA_not rfl]
  show wpAny _ _ (callAny (.ref me) ⟨[], []⟩) _ _ _
  unfold callAny
  refine wpAny_bind (wpAny_load hm ?_)
  show wpAny _ _ (checkBoundCall "_sre.SRE_Scanner.search" ⟨[.ref sc], []⟩ >>= fun _ => again (.builtin "_sre.SRE_Scanner.search" ⟨[.ref sc], []⟩)) _ _ _
  refine wpAny_bind ?_
  obtain ⟨sig, hsig⟩ := Option.isSome_iff_exists.mp sig_search
  have ha := args_search (.ref sc)
  rw [hsig] at ha
  have hT : s.TypeIs (.ref sc) "_sre.SRE_Scanner" := ⟨_, hsc, rfl⟩
  unfold checkBoundCall
  simp only [hsig, kind_search, vararg_search, Bool.false_or]
  refine wpAny_bind (wpAny_isInstance (T := "_sre.SRE_Scanner") (b := false) hT sc_not_module ?_)
  simp only [Bool.false_eq_true, if_false]
  refine wpAny_bind (m := isType (.ref sc)) ?_
  show wpAny _ _ (loadHead sc >>= fun o => pure (match o.data with | .cls _ => true | _ => false)) _ _ _
  refine wpAny_bind (wpAny_loadPart hsc ?_)
  refine wpAny_pure ?_
  show wpAny _ _ (typeOf (.ref sc) >>= _) _ _ _
  refine wpAny_bind (wpAny_typeOf hT ?_)
  show wpAny _ _ (Bind.checkArgs _ _ _) _ _ _
  refine wpAny_of_eq ha ?_
  refine wpAny_pure (And.intro (plainId_quiet plain_search _) (codeA_builtin entry_search rfl ?_))
  rw [Around.under_plainId plain_search]
  refine wpAny_mono h (fun fin s' h' => ?_) fun _ _ h => h
  obtain ⟨v, rfl, hv⟩ := h'
  exact hv
end
/-! the walk over the matches, by callable_iterator -/
section
variable {prog : Program} {w : World} {A : Around} {R : Result → Shared → Prop} {E : Value → Shared → Prop} {s : Shared} {it me sc P : Addr} {code : Array Nat} {groups p : Nat} {x : Str}
  {try_ : Option Nat → Nat → List Nat → Option Hit}
theorem eqBool_none_none {Q : Bool → Shared → Prop} (h : Q true s) : wpAny (modelA prog w) A (eqBool .none .none) Q E s := by
  unfold eqBool
  refine wpAny_holding ?_
  show wpAny _ A (rule _ >>= fun _ => pure true) _ _ _
  exact wpAny_bind (wpAny_rule (wpAny_pure h))
theorem callOut {Q : Value → Shared → Prop} (I : IterAt s.heap it me sc P x p)
    (h : wpAny (modelA prog w) A.in1 (Builtin.«_sre.SRE_Scanner.search» ⟨[.ref sc], []⟩) (fun fin s' => ∃ v, fin = .done (.ret v) ∧ Q v s') E s) :
    wpAny (modelA prog w) A (callOutOfASlot (.ref me)) Q E s := by
  obtain ⟨tk, hsc⟩ := I.sc_
  unfold callOutOfASlot
  refine wpAny_bind (wpAny_borrows I.me_ ?_)
  exact call_me I.me_ hsc h
theorem next_win {hit : Hit} (rx : Rx code groups try_) (hP : PatAt s.heap P code groups) (I : IterAt s.heap it me sc P x p) (hn : x.cps.size ≤ 100000) (hp : p ≤ x.cps.size) (hu : A.units + 1 < cLine)
    (hf : findL try_ (prevAt x.cps p) p (x.cps.toList.drop p) = some hit) (hi : sc ≠ it) (hm : sc ≠ me)
    (hR : ∀ m h', MatchAt h' m x hit → (∀ b o, b ≠ sc → s.heap.get? b = some o → h'.get? b = some o) → IterAt h' it me sc P x hit.e → s.heap.objs.size ≤ m → R (.ok (.ret (.ref m))) { s with heap := h' }) :
    codeR (modelA prog w) A (.builtin "callable_iterator.__next__" ⟨[.ref it], []⟩) R s := by
  refine codeR_of (codeA_builtin entry_ci_next rfl ?_)
  rw [Around.under_plainId (by decide +kernel)]
  unfold Builtin.«callable_iterator.__next__»
  refine wpAny_bind (m := slotArgs _ _ _) (wpAny_pure ?_)
  show wpAny _ A.in1 (field (.ref it) 2 >>= _) _ _ _
  refine wpAny_bind (wpAny_field I.it_ rfl rfl ?_)
  show wpAny _ A.in1 (field (.ref it) 0 >>= _) _ _ _
  refine wpAny_bind (wpAny_field I.it_ rfl rfl ?_)
  obtain ⟨tk, hsc⟩ := I.sc_
  refine wpAny_bind (wpAny_attempt (callOut I (search_win rx hP hsc hn hp hf fun m h' h1 h2 h3 h4 => ⟨_, rfl, ?_⟩)))
  have I' : IterAt h' it me sc P x hit.e := ⟨h2 _ _ (Ne.symm hi) I.it_, h2 _ _ (Ne.symm hm) I.me_, ⟨tk, h3⟩⟩
  show wpAny _ A.in1 (field (.ref it) 2 >>= _) _ _ _
  refine wpAny_bind (wpAny_field I'.it_ rfl rfl ?_)
  show wpAny _ A.in1 (field (.ref it) 1 >>= _) _ _ _
  refine wpAny_bind (wpAny_field I'.it_ rfl rfl ?_)
  obtain ⟨_, _, _, _, _, _, hm1, _⟩ := id h1
  refine wpAny_bind (wpAny_holding (any_A (eqBool_none_match (by exact hu) ⟨_, hm1, rfl⟩ ?_)))
  exact wpAny_pure (hR m h' h1 h2 I' h4)
theorem next_end (rx : Rx code groups try_) (hP : PatAt s.heap P code groups) (I : IterAt s.heap it me sc P x p) (hn : x.cps.size ≤ 100000) (hp : p ≤ x.cps.size) (hh : A.handled = none)
    (hf : findL try_ (prevAt x.cps p) p (x.cps.toList.drop p) = none) (hi : sc ≠ it) (hm : sc ≠ me)
    (hR : ∀ e h', (∃ o, h'.get? e = some o ∧ o.cls = .type "StopIteration") → (∀ b o, b ≠ sc → b ≠ it → s.heap.get? b = some o → h'.get? b = some o) → R (.error (.ref e)) { s with heap := h' }) :
    codeR (modelA prog w) A (.builtin "callable_iterator.__next__" ⟨[.ref it], []⟩) R s := by
  refine codeR_X ?_
  rw [den_modelA, denA_not rfl, den_builtin entry_ci_next, Around.under_plainId (by decide +kernel)]
  suffices h : wpB (modelA prog w) A.in1 (Builtin.«callable_iterator.__next__» ⟨[.ref it], []⟩) (fun fin s' => finR (modelA prog w) A R fin s') (fun e s' => R (.error e) s') s from
    fun Γ p hΓ _ hn => h Γ p hΓ hn
  unfold Builtin.«callable_iterator.__next__»
  refine wpB_step (m := slotArgs _ _ _) (wpAny_pure ?_)
  show wpB _ A.in1 (field (.ref it) 2 >>= _) _ _ _
  refine wpB_step (wpAny_field I.it_ rfl rfl ?_)
  show wpB _ A.in1 (field (.ref it) 0 >>= _) _ _ _
  refine wpB_step (wpAny_field I.it_ rfl rfl ?_)
  obtain ⟨tk, hsc⟩ := I.sc_
  refine wpB_step (wpAny_attempt (callOut I (search_lose rx hP hsc hn hp hf fun h' h2 => ⟨_, rfl, ?_⟩)))
  have i1 := h2 _ _ (Ne.symm hi) I.it_
  have i2 := h2 _ _ (Ne.symm hm) I.me_
  show wpB _ A.in1 (field (.ref it) 2 >>= _) _ _ _
  refine wpB_step (wpAny_field i1 rfl rfl ?_)
  show wpB _ A.in1 (field (.ref it) 1 >>= _) _ _ _
  refine wpB_step (wpAny_field i1 rfl rfl ?_)
  refine wpB_step (wpAny_holding (eqBool_none_none ?_))
  show wpB _ A.in1 (rule _ >>= _) _ _ _
  refine wpB_step (wpAny_rule ?_)
  refine wpB_bind ?_
  show wpB _ A.in1 (field (.ref it) 0 >>= _) _ _ _
  refine wpB_step (wpAny_field i1 rfl rfl ?_)
  refine wpB_bind ?_
  unfold slotLetsGo
  refine wpB_step (wpAny_borrows i2 ?_)
  show wpB _ A.in1 (stack >>= _) _ _ _
  refine wpB_bind (wpB_stackX (f := fun c => match c with | .builtin "callable_iterator.__next__" x => x.pos.head? == some (.ref it) | _ => false) (fun c hc => ?_) fun st hst => ?_)
  · unfold isX at hc
    split
    · simp at hc
    · rfl
  refine wpB_neg (fun h => Bool.false_ne_true (hst.symm.trans h)) ?_
  refine wpB_pure ?_
  show wpB _ A.in1 (setField (.ref it) 0 .none >>= fun _ => setField (.ref it) 1 .none >>= fun _ => setField (.ref it) 2 (.bool true)) _ _ _
  refine wpB_of (wpAny_bind (wpAny_setField i1 rfl (by simp) ?_))
  have g1 := Heap.get?_update_self (Obj.mapFields (·.setIfInBounds 0 .none)) i1 rfl
  refine wpAny_bind (wpAny_setField g1 rfl (by simp) ?_)
  have g2 := Heap.get?_update_self (Obj.mapFields (·.setIfInBounds 1 .none)) g1 rfl
  refine wpAny_setField g2 rfl (by simp) ?_
  refine wpB_of ?_
  unfold Builtin.SmallTypes.stopIteration
  simp only [newExc, newTuple]
  refine wpAny_bind (wpAny_bind (wpAny_newObj_type ?_ (by size_fits)))
  refine wpAny_bind (m := firstArgMember _ _) (wpAny_of_eq (a := Value.none) (by first | rfl | (simp only [firstArgMember]; rfl)) ?_)
  refine wpAny_newObj_type ?_ (by size_fits)
  simp only [raiseNew]
  refine wpAny_bind (wpAny_bind (wpAny_handled ?_))
  rw [show A.in1.handled = none from hh]
  refine wpAny_pure ?_
  refine wpAny_throw ?_
  refine hR _ _ ⟨_, Heap.get?_push_size _ rfl, rfl⟩ fun b o hb hb' e => ?_
  refine Heap.get?_push_of_some _ (Heap.get?_push_of_some _ ?_)
  exact (Heap.get?_update_other _ _ (Ne.symm hb')).trans ((Heap.get?_update_other _ _ (Ne.symm hb')).trans ((Heap.get?_update_other _ _ (Ne.symm hb')).trans (h2 b o hb e)))

/-- next() of a walk over the matches -/
theorem slotX : plainId "callable_iterator.__next__" = true := by decide +kernel
theorem callX {Q : Value → Shared → Prop} (hT : s.TypeIs (.ref it) "callable_iterator")
    (h : codeR (modelA prog w) A (.builtin "callable_iterator.__next__" ⟨[.ref it], []⟩) (fun r s' => match r with | .ok (.ret v) => Q v s' | .ok _ => False | .error e => E e s') s) :
    wpR (modelA prog w) A (call (.builtin "callable_iterator.__next__") [.ref it]) Q E s :=
  wpR_call (codeR_call_builtin' (plainId_quiet slotX _) (slot_ci_next.check _ _ _ _ _ _ _ _ hT (args_ci_next _) h))
theorem pyNext_win {hit : Hit} {Q : Option Value → Shared → Prop} (rx : Rx code groups try_) (hP : PatAt s.heap P code groups) (I : IterAt s.heap it me sc P x p) (hn : x.cps.size ≤ 100000) (hp : p ≤ x.cps.size) (hu : A.units + 1 < cLine)
    (hf : findL try_ (prevAt x.cps p) p (x.cps.toList.drop p) = some hit) (hi : sc ≠ it) (hm : sc ≠ me)
    (hQ : ∀ m h', MatchAt h' m x hit → (∀ b o, b ≠ sc → s.heap.get? b = some o → h'.get? b = some o) → IterAt h' it me sc P x hit.e → s.heap.objs.size ≤ m → Q (some (.ref m)) { s with heap := h' }) :
    wpR (modelA prog w) A (pyNext (.ref it)) Q E s :=
  pyNextR ⟨_, I.it_, rfl⟩ slot_ci_next (callX ⟨_, I.it_, rfl⟩ (next_win rx hP I hn hp hu hf hi hm fun m h' h1 h2 h3 h4 => hQ m h' h1 h2 h3 h4))
theorem pyNext_end {Q : Option Value → Shared → Prop} (rx : Rx code groups try_) (hP : PatAt s.heap P code groups) (I : IterAt s.heap it me sc P x p) (hn : x.cps.size ≤ 100000) (hp : p ≤ x.cps.size) (hh : A.handled = none)
    (hf : findL try_ (prevAt x.cps p) p (x.cps.toList.drop p) = none) (hi : sc ≠ it) (hm : sc ≠ me)
    (hQ : ∀ h', (∀ b o, b ≠ sc → b ≠ it → s.heap.get? b = some o → h'.get? b = some o) → Q none { s with heap := h' }) :
    wpR (modelA prog w) A (pyNext (.ref it)) Q E s :=
  pyNextR ⟨_, I.it_, rfl⟩ slot_ci_next (callX ⟨_, I.it_, rfl⟩ (next_end rx hP I hn hp hh hf hi hm fun e h' ⟨o, h1, h2⟩ h3 =>
    wpAny_isInstance (T := "StopIteration") (b := true) ⟨o, h1, h2⟩ isSubtype_stop ⟨rfl, hQ h' h3⟩))
end
end Mine

end

/-! ## LMeth -/
section
open PySem PySem.W PyProof.Rows PySem.Calls
namespace Mine
set_option maxRecDepth 100000
open Builtin.Re

theorem attrs_pattern : PlainAttrs "re.Pattern" := ⟨⟨_, ga_pattern, canon_object_ga⟩, noga_pattern⟩
theorem attrs_match : PlainAttrs "re.Match" := ⟨⟨_, ga_match, canon_object_ga⟩, noga_match⟩

section
variable {M : Model} {A : Around} {E : Value → Shared → Prop} {s : Shared} {m : Addr} {x : Str} {h : Hit}
def sub (x : Str) (a b : Nat) : Str := ⟨x.cps.extract a b⟩
theorem sub_len {x : Str} {a b : Nat} (hx : x.cps.size ≤ 100000) : (sub x a b).length ≤ sizeLine := by
  rw [sizeLine_eq]
  show (x.cps.extract a b).size ≤ _
  rw [Array.size_extract]
  omega
/-- what a match says of itself -/
def foundOf (x : Str) (tk : Tok) (pat p0 l0 li : Value) (t : Addr) (h : Hit) : ReFound :=
  ⟨#[.str x tk, pat, p0, l0, li, .ref t], ((spansOf h).map reRawOf).toArray⟩
theorem wpAny_found {tk : Tok} {pat p0 l0 li : Value} {t : Addr} {Q : ReFound → Shared → Prop}
    (h1 : s.heap.get? m = some { cls := .type "re.Match", data := .fields #[.str x tk, pat, p0, l0, li, .ref t] })
    (h2 : s.heap.get? t = some { cls := .type "tuple", data := .seq (spansOf h).toArray }) (hq : Q (foundOf x tk pat p0 l0 li t h) s) : wpAny M A (reFound (.ref m)) Q E s := by
  unfold reFound
  refine wpAny_bind (wpAny_fieldsOf h1 rfl ?_)
  refine wpAny_bind ?_
  unfold reRawItems
  show wpAny M A (seqItems? (.ref t) >>= _) _ _ _
  refine wpAny_bind ?_
  unfold seqItems?
  refine wpAny_bind (wpAny_load h2 ?_)
  refine wpAny_pure (wpAny_pure (wpAny_pure ?_))
  have e : ((some (spansOf h).toArray).getD #[]).map reRawOf = ((spansOf h).map reRawOf).toArray := by simp
  rw [e]; exact hq
theorem wpAny_groupText {tk : Tok} {pat p0 l0 li d : Value} {t : Addr} {g a b : Nat} {Q : Value → Shared → Prop} (hx : x.cps.size ≤ 100000)
    (ha : (foundOf x tk pat p0 l0 li t h).spans.getD (2 * g) (-1) = (a : Int)) (hb : (foundOf x tk pat p0 l0 li t h).spans.getD (2 * g + 1) (-1) = (b : Int))
    (hq : Q (.str (sub x a b) s.toks) { s with toks := s.toks + 1 }) : wpAny M A (reGroupText (foundOf x tk pat p0 l0 li t h) g d) Q E s := by
  unfold reGroupText
  rw [ha, hb]
  show wpAny M A (if (decide ((a : Int) < 0) || decide ((b : Int) < 0)) = true then _ else _) _ _ _
  rw [if_neg (by simp)]
  show wpAny M A (reTextOf (.str x tk) >>= _) _ _ _
  refine wpAny_bind (m := reTextOf (.str x tk)) (wpAny_of_eq (a := (x.cps, 0)) (by rfl) ?_)
  show wpAny M A (mkStr (sub x a b)) _ _ _
  exact wpAny_mkStr hq (sub_len hx)

theorem groups_wp {Q : Value → Shared → Prop} {a b c d : Nat} (hm : MatchAt s.heap m x h) (hx : x.cps.size ≤ 100000) (hg : h.g = [a, b, c, d])
    (hq : ∀ t1 t2, Q (.ref s.heap.objs.size) { s with heap := s.heap.push { cls := .type "tuple", data := .seq #[.str (sub x a b) t1, .str (sub x c d) t2] }, toks := s.toks + 2 }) :
    wpAny M A (Builtin.«re.Match.groups» ⟨[.ref m], []⟩) (fun fin s' => ∃ v, fin = .done (.ret v) ∧ Q v s') E s := by
  obtain ⟨tk, pat, p0, l0, li, t, h1, h2, _⟩ := hm
  unfold Builtin.«re.Match.groups»
  refine wpAny_bind ?_
  unfold reWithDefault
  show wpAny M A (reNamed "re.Match.groups" "groups" ["default"] 0 [] [] >>= _) _ _ _
  refine wpAny_bind (wpAny_of_eq (a := [none]) (by rfl) ?_)
  show wpAny M A (reFound (.ref m) >>= _) _ _ _
  refine wpAny_bind (wpAny_found h1 h2 (wpAny_pure ?_))
  have hs : (foundOf x tk pat p0 l0 li t h).spans = #[(h.s : Int), h.e, a, b, c, d] := by unfold foundOf spansOf; rw [hg]; rfl
  show wpAny M A ((List.range ((foundOf x tk pat p0 l0 li t h).spans.size / 2 - 1)).mapM (fun g => reGroupText (foundOf x tk pat p0 l0 li t h) (g + 1) .none) >>= _) _ _ _
  have hr : (List.range ((foundOf x tk pat p0 l0 li t h).spans.size / 2 - 1)) = [0, 1] := by
    rw [hs, show (#[(h.s : Int), h.e, a, b, c, d].size / 2 - 1) = 2 by rw [show #[(h.s : Int), h.e, a, b, c, d].size = 6 from rfl]]; decide
  rw [hr]
  simp only [List.mapM_cons, List.mapM_nil]
  refine wpAny_bind (wpAny_bind (wpAny_groupText (a := a) (b := b) hx (by rw [hs]; rfl) (by rw [hs]; rfl) ?_))
  refine wpAny_bind (wpAny_bind (wpAny_groupText (a := c) (b := d) hx (by rw [hs]; rfl) (by rw [hs]; rfl) ?_))
  refine wpAny_bind (wpAny_pure (wpAny_pure (wpAny_pure ?_)))
  refine wpAny_bind (wpAny_newTuple ?_ (by show 2 ≤ sizeLine; rw [sizeLine_eq]; decide))
  exact wpAny_pure ⟨_, rfl, hq _ _⟩
theorem group_wp {Q : Value → Shared → Prop} (hm : MatchAt s.heap m x h) (hx : x.cps.size ≤ 100000)
    (hq : Q (.str (sub x h.s h.e) s.toks) { s with toks := s.toks + 1 }) :
    wpAny M A (Builtin.«re.Match.group» ⟨[.ref m], []⟩) (fun fin s' => ∃ v, fin = .done (.ret v) ∧ Q v s') E s := by
  obtain ⟨tk, pat, p0, l0, li, t, h1, h2, _⟩ := hm
  unfold Builtin.«re.Match.group»
  refine wpAny_bind (m := noKeywords _ _) (wpAny_pure ?_)
  show wpAny M A (reFound (.ref m) >>= _) _ _ _
  refine wpAny_bind (wpAny_found h1 h2 ?_)
  refine wpAny_bind (wpAny_groupText (a := h.s) (b := h.e) hx rfl rfl ?_)
  exact wpAny_pure ⟨_, rfl, hq⟩
theorem start_wp {Q : Value → Shared → Prop} (hm : MatchAt s.heap m x h) (hq : Q (.int h.s s.toks) { s with toks := s.toks + 1 }) :
    wpAny M A (Builtin.«re.Match.start» ⟨[.ref m], []⟩) (fun fin s' => ∃ v, fin = .done (.ret v) ∧ Q v s') E s := by
  obtain ⟨tk, pat, p0, l0, li, t, h1, h2, _⟩ := hm
  unfold Builtin.«re.Match.start»
  refine wpAny_bind ?_
  unfold reOneGroup
  refine wpAny_bind (m := selfAndSome _ _ _ _ _) (wpAny_of_eq (a := (Value.ref m, [])) (by rfl) ?_)
  refine wpAny_bind (wpAny_found h1 h2 ?_)
  refine wpAny_bind (wpAny_pure (wpAny_pure ?_))
  exact wpAny_bind (wpAny_mkInt (wpAny_pure ⟨_, rfl, hq⟩))
theorem start1_wp {Q : Value → Shared → Prop} {g : Nat} {tg : Tok} {a : Nat} (hm : MatchAt s.heap m x h) (hg : h.g.length = 4) (h2 : g = 1 ∨ g = 2) (ha : h.g.getD (2 * (g - 1)) 0 = a) (hq : Q (.int a s.toks) { s with toks := s.toks + 1 }) :
    wpAny M A (Builtin.«re.Match.start» ⟨[.ref m, .int g tg], []⟩) (fun fin s' => ∃ v, fin = .done (.ret v) ∧ Q v s') E s := by
  obtain ⟨tk, pat, p0, l0, li, t, h1, h3, _⟩ := hm
  unfold Builtin.«re.Match.start»
  refine wpAny_bind ?_
  unfold reOneGroup
  refine wpAny_bind (m := selfAndSome _ _ _ _ _) (wpAny_of_eq (a := (Value.ref m, [.int g tg])) (by rfl) ?_)
  refine wpAny_bind (wpAny_found h1 h3 ?_)
  match hgl : h.g, hg with
  | [b0, b1, b2, b3], _ =>
    have hs : (foundOf x tk pat p0 l0 li t h).spans = #[(h.s : Int), h.e, b0, b1, b2, b3] := by unfold foundOf spansOf; rw [hgl]; rfl
    rw [hgl] at ha
    show wpAny M A (reGroupNumber (foundOf x tk pat p0 l0 li t h) (.int g tg) >>= _) _ _ _
    refine wpAny_bind (m := reGroupNumber (foundOf x tk pat p0 l0 li t h) (.int g tg)) (wpAny_of_eq (a := g) ?_ (wpAny_pure ?_))
    · unfold reGroupNumber
      show (if (decide ((g : Int) < 0) || decide (2 * (g : Int) ≥ ((foundOf x tk pat p0 l0 li t h).spans.size : Int))) = true then _ else _) = _
      rw [if_neg (by rw [hs, show #[(h.s : Int), h.e, b0, b1, b2, b3].size = 6 from rfl]; rcases h2 with rfl | rfl <;> decide)]
      rfl
    · show wpAny M A (mkInt ((foundOf x tk pat p0 l0 li t h).spans.getD (2 * g) (-1)) >>= _) _ _ _
      have e : (foundOf x tk pat p0 l0 li t h).spans.getD (2 * g) (-1) = (a : Int) := by
        rw [hs]
        rcases h2 with rfl | rfl
        · subst ha; rfl
        · subst ha; rfl
      rw [e]
      exact wpAny_bind (wpAny_mkInt (wpAny_pure ⟨_, rfl, hq⟩))
end
section
variable {prog : Program} {w : World} {A : Around} {E : Value → Shared → Prop} {s : Shared} {m P : Addr} {x : Str} {h : Hit}
theorem method0 {T id : String} {name : Str} {B : Builtin} {ov : Value} {pos : Pos} {Q : Value → Shared → Prop} (pa : PlainAttrs T) (slot : Slot T name id) (ty : typeOf (.builtin id) = pure (.type "method_descriptor"))
    (entry : entryFor table id = some B) (hT : s.TypeIs ov T) (hd : ∀ a, ov = .ref a → ∃ ob, s.heap.get? a = some ob ∧ ob.dict = none) (args : argsOk id ⟨[ov], []⟩)
    (hB : wpAny (model prog w) A.in1 (B ⟨[ov], []⟩) (fun fin s' => ∃ v, fin = .done (.ret v) ∧ Q v s') E s) : MethodOnS prog w A E name ov pos [] Q s :=
  ⟨T, id, pa, slot, ty, hT, hd, callWith_builtin rfl (PySem.evalArgs_none (wpAny_call_entry slot hT entry hB args))⟩
theorem method1 {T id : String} {name : Str} {B : Builtin} {ov : Value} {pos : Pos} {t : Sem Value} {Q : Value → Shared → Prop} (pa : PlainAttrs T) (slot : Slot T name id) (ty : typeOf (.builtin id) = pure (.type "method_descriptor"))
    (entry : entryFor table id = some B) (hT : s.TypeIs ov T) (hd : ∀ a, ov = .ref a → ∃ ob, s.heap.get? a = some ob ∧ ob.dict = none)
    (hB : wpAny (model prog w) A t (fun v s₁ => s₁.TypeIs ov T ∧ argsOk id ⟨[ov, v], []⟩ ∧ wpAny (model prog w) A.in1 (B ⟨[ov, v], []⟩) (fun fin s' => ∃ v, fin = .done (.ret v) ∧ Q v s') E s₁) E s) : MethodOnS prog w A E name ov pos [(false, t)] Q s :=
  ⟨T, id, pa, slot, ty, hT, hd, callWith_builtin rfl (evalArgs_plain (spliced_cons (wpAny_mono hB (fun v s₁ h₁ => spliced_nil (wpAny_call_entry slot h₁.1 entry h₁.2.2 h₁.2.1)) fun _ _ e => e)))⟩
theorem match_type (hm : MatchAt s.heap m x h) : s.TypeIs (.ref m) "re.Match" := let ⟨_, _, _, _, _, _, h1, _⟩ := hm; ⟨_, h1, rfl⟩
theorem match_dict (hm : MatchAt s.heap m x h) : ∀ a, Value.ref m = .ref a → ∃ ob, s.heap.get? a = some ob ∧ ob.dict = none := fun a e => by
  cases e
  obtain ⟨_, _, _, _, _, _, h1, _⟩ := hm
  exact ⟨_, h1, rfl⟩
theorem on_groups {pos : Pos} {Q : Value → Shared → Prop} {a b c d : Nat} (hm : MatchAt s.heap m x h) (hx : x.cps.size ≤ 100000) (hg : h.g = [a, b, c, d])
    (hq : ∀ t1 t2, Q (.ref s.heap.objs.size) { s with heap := s.heap.push { cls := .type "tuple", data := .seq #[.str (sub x a b) t1, .str (sub x c d) t2] }, toks := s.toks + 2 }) :
    MethodOnS prog w A E "groups" (.ref m) pos [] Q s :=
  method0 attrs_match slot_groups ty_groups entry_groups (match_type hm) (match_dict hm) (args_groups _) (groups_wp hm hx hg hq)
theorem on_group {pos : Pos} {Q : Value → Shared → Prop} (hm : MatchAt s.heap m x h) (hx : x.cps.size ≤ 100000)
    (hq : Q (.str (sub x h.s h.e) s.toks) { s with toks := s.toks + 1 }) : MethodOnS prog w A E "group" (.ref m) pos [] Q s :=
  method0 attrs_match slot_group ty_group entry_group (match_type hm) (match_dict hm) (args_group _) (group_wp hm hx hq)
theorem on_start {pos : Pos} {Q : Value → Shared → Prop} (hm : MatchAt s.heap m x h) (hq : Q (.int h.s s.toks) { s with toks := s.toks + 1 }) : MethodOnS prog w A E "start" (.ref m) pos [] Q s :=
  method0 attrs_match slot_start ty_start entry_start (match_type hm) (match_dict hm) (args_start _) (start_wp hm hq)
theorem on_start1 {pos : Pos} {Q : Value → Shared → Prop} {g : Nat} {a : Nat} {t : Sem Value} (hm : MatchAt s.heap m x h) (hg : h.g.length = 4) (h2 : g = 1 ∨ g = 2) (ha : h.g.getD (2 * (g - 1)) 0 = a)
    (ht : wpAny (model prog w) A t (fun v s₁ => ∃ tg, v = .int g tg ∧ s₁.heap = s.heap ∧ Q (.int a s₁.toks) { s₁ with toks := s₁.toks + 1 }) E s) :
    MethodOnS prog w A E "start" (.ref m) pos [(false, t)] Q s :=
  method1 attrs_match slot_start ty_start entry_start (match_type hm) (match_dict hm) (wpAny_mono ht (fun v s₁ ⟨tg, e, eh, hq⟩ => by
    subst e
    have hm' : MatchAt s₁.heap m x h := by rw [eh]; exact hm
    exact ⟨match_type hm', args_start1 _ _, start1_wp hm' hg h2 ha hq⟩) fun _ _ e => e)
end
end Mine

end

/-! ## LMeth2 -/
section
open PySem PySem.W PyProof.Rows PySem.Calls
namespace Mine
set_option maxRecDepth 100000
open Builtin.Re

section
variable {prog : Program} {w : World} {A : Around} {E : Value → Shared → Prop} {s : Shared} {P : Addr} {x : Str} {code : Array Nat} {groups : Nat}
theorem wpAny_target {M : Model} {id f : String} {tk : Tok} {Q : ReTarget → Shared → Prop} (hP : PatAt s.heap P code groups) (hx : x.cps.size ≤ 100000)
    (hn : reNamed id f ["string", "pos", "endpos"] 1 [.str x tk] [] = pure [some (.str x tk), none, none])
    (h : Q ⟨.ref P, .str x tk, code, x.cps, 0, groups, 0, x.cps.size⟩ s) : wpAny M A (reTarget id f ⟨[.ref P, .str x tk], []⟩) Q E s := by
  obtain ⟨pat, fl, names, idx, t, items, h1, h2, rfl⟩ := hP.at_
  unfold reTarget
  show wpAny M A (reNamed id f ["string", "pos", "endpos"] 1 [.str x tk] [] >>= _) _ _ _
  refine wpAny_bind (wpAny_of_eq hn ?_)
  show wpAny M A (pure (0 : Int) >>= _) _ _ _
  refine wpAny_bind (wpAny_pure ?_)
  show wpAny M A (pure (2 ^ 63 - 1 : Int) >>= _) _ _ _
  refine wpAny_bind (wpAny_pure ?_)
  refine wpAny_bind (wpAny_fieldsOf h1 rfl ?_)
  refine wpAny_bind (m := reTextOf (.str x tk)) (wpAny_of_eq (a := (x.cps, 0)) (by rfl) ?_)
  show wpAny M A (reNoCollectionInside (.str x tk) 0 >>= fun _ => reRawItems (.ref t) >>= _) _ _ _
  refine wpAny_bind (wpAny_pure ?_)
  refine wpAny_bind ?_
  unfold reRawItems
  show wpAny M A (seqItems? (.ref t) >>= _) _ _ _
  refine wpAny_bind ?_
  unfold seqItems?
  refine wpAny_bind (wpAny_load h2 ?_)
  refine wpAny_pure (wpAny_pure (wpAny_pure ?_))
  have e1 : min (0 : Int).toNat x.cps.size = 0 := by simp
  have e2 : min (2 ^ 63 - 1 : Int).toNat x.cps.size = x.cps.size := by
    have : (2 ^ 63 - 1 : Int).toNat = 9223372036854775807 := by decide
    omega
  show Q ⟨.ref P, .str x tk, _, x.cps, 0, groups, min (0 : Int).toNat x.cps.size, min (2 ^ 63 - 1 : Int).toNat x.cps.size⟩ s
  rw [e1, e2]; exact h
theorem named_finditer (x : Str) (tk : Tok) : reNamed "re.Pattern.finditer" "finditer" ["string", "pos", "endpos"] 1 [.str x tk] [] = pure [some (.str x tk), none, none] := by rfl
theorem named_match (x : Str) (tk : Tok) : reNamed "re.Pattern.match" "match" ["string", "pos", "endpos"] 1 [.str x tk] [] = pure [some (.str x tk), none, none] := by rfl
theorem finditer_wp {tk : Tok} {Q : Value → Shared → Prop} (hP : PatAt s.heap P code groups) (hx : x.cps.size ≤ 100000)
    (hq : ∀ h', IterAt h' (s.heap.objs.size + 2) (s.heap.objs.size + 1) s.heap.objs.size P x 0 → (∀ b o, s.heap.get? b = some o → h'.get? b = some o) → s.heap.objs.size + 2 < h'.objs.size →
      Q (.ref (s.heap.objs.size + 2)) { s with heap := h', toks := s.toks + 1 }) :
    wpAny (model prog w) A (Builtin.«re.Pattern.finditer» ⟨[.ref P, .str x tk], []⟩) (fun fin s' => ∃ v, fin = .done (.ret v) ∧ Q v s') E s := by
  unfold Builtin.«re.Pattern.finditer»
  refine wpAny_bind (wpAny_target hP hx (named_finditer x tk) ?_)
  show wpAny _ A (reNotHeld "re.Pattern.finditer" (.str x tk) >>= _) _ _ _
  refine wpAny_bind ?_
  unfold reNotHeld
  refine wpAny_bind (wpAny_isInstance (T := "str") (b := false) (typeIs_str _ _ _) str_not_bytearray ?_)
  refine wpAny_pure ?_
  show wpAny _ A (newFields "_sre.SRE_Scanner" [.ref P, .str x tk, rawInt 0, rawInt 0, rawInt x.cps.size, .bool false] >>= _) _ _ _
  refine wpAny_bind (m := newFields _ _) (wpAny_newObj_type ?_ (by size_fits))
  refine wpAny_bind (wpAny_holding ?_)
  have hsc : (s.heap.push (scObj #[.ref P, .str x tk, rawInt 0, rawInt 0, rawInt x.cps.size, .bool false])).get? s.heap.objs.size = some (scObj #[.ref P, .str x tk, rawInt 0, rawInt 0, rawInt x.cps.size, .bool false]) := Heap.get?_push_size _ rfl
  refine get_search (s := { s with heap := s.heap.push (scObj #[.ref P, .str x tk, rawInt 0, rawInt 0, rawInt x.cps.size, .bool false]) }) hsc ?_
  refine wpAny_bind (m := newFields _ _) (wpAny_newObj_type ?_ (by size_fits))
  refine wpAny_pure ⟨_, rfl, ?_⟩
  have e1 : (s.heap.push (scObj #[.ref P, .str x tk, rawInt 0, rawInt 0, rawInt x.cps.size, .bool false])).objs.size = s.heap.objs.size + 1 := by rw [Heap.size_push]
  have e2 : ((s.heap.push (scObj #[.ref P, .str x tk, rawInt 0, rawInt 0, rawInt x.cps.size, .bool false])).push
      { cls := .type "builtin_function_or_method", data := .fields #[.builtin "_sre.SRE_Scanner.search", .ref s.heap.objs.size] }).objs.size = s.heap.objs.size + 2 := by rw [Heap.size_push, e1]
  show Q (.ref (Heap.objs _).size) _
  rw [show (({ s with heap := s.heap.push (scObj #[.ref P, .str x tk, rawInt 0, rawInt 0, rawInt x.cps.size, .bool false]) } : Shared).heap.push
      { cls := .type "builtin_function_or_method", data := .fields #[.builtin "_sre.SRE_Scanner.search", .ref s.heap.objs.size] }).objs.size = s.heap.objs.size + 2 from e2]
  refine hq _ ⟨?_, ?_, ⟨tk, ?_⟩⟩ (fun b o e => Heap.get?_push_of_some _ (Heap.get?_push_of_some _ (Heap.get?_push_of_some _ e))) ?_
  · rw [← e2]
    show (Heap.push _ _).get? _ = some _
    rw [Heap.get?_push_size _ rfl]
    rw [← e1]
  · refine Heap.get?_push_of_some _ ?_
    rw [← e1]
    exact Heap.get?_push_size _ rfl
  · exact Heap.get?_push_of_some _ (Heap.get?_push_of_some _ hsc)
  · rw [Heap.size_push, e2]; exact Nat.lt_succ_self _
theorem on_finditer {pos : Pos} {t : Sem Value} {Q : Value → Shared → Prop} (hP : PatAt s.heap P code groups) (hx : x.cps.size ≤ 100000)
    (ht : wpAny (model prog w) A t (fun v s₁ => ∃ tk, v = .str x tk ∧ s₁ = s) E s)
    (hq : ∀ h', IterAt h' (s.heap.objs.size + 2) (s.heap.objs.size + 1) s.heap.objs.size P x 0 → (∀ b o, s.heap.get? b = some o → h'.get? b = some o) → s.heap.objs.size + 2 < h'.objs.size →
      Q (.ref (s.heap.objs.size + 2)) { s with heap := h', toks := s.toks + 1 }) :
    MethodOnS prog w A E "finditer" (.ref P) pos [(false, t)] Q s := by
  obtain ⟨pat, fl, names, idx, tt, items, h1, h2, _⟩ := id hP.at_
  refine method1 attrs_pattern slot_finditer ty_finditer entry_finditer ⟨_, h1, rfl⟩ (fun a e => by cases e; exact ⟨_, h1, rfl⟩) (wpAny_mono ht (fun v s₁ ⟨tk, e, es⟩ => ?_) fun _ _ e => e)
  subst e es
  exact ⟨⟨_, h1, rfl⟩, args_finditer _ _, finditer_wp hP hx hq⟩
end
end Mine

end

/-! ## LDec -/
section
open PySem PySem.W PyProof.Rows PySem.Calls
namespace Mine
set_option maxRecDepth 100000
open Builtin.Re
open PySem.Sre

/-- a line that opens with no sign of a decorator -/
theorem dc_lose {text : Array Nat} (ht : 0 < text.size → text.getD 0 0 ≠ 64) : ∃ b, b < 2 ^ 60 ∧ LosesM b (forMatch dcCode text 0 0 text.size false false) := by
  have hl : (header dcCode).1 = 2 := by decide +kernel
  have hp : (header dcCode).2 = 9 := by decide +kernel
  have e : forMatch dcCode text 0 0 text.size false false =
      (if (header dcCode).1 != 0 && 0 ≤ text.size && text.size - 0 < (header dcCode).1 then (mkM ⟨dcCode, text, text.size, 0⟩ ⟨9, 0, ⟨0, true, #[], -1, -1, 0⟩, [], none⟩ (if (header dcCode).2 == 0 then {} else ({} : Sre.Seen).add 14)).say false
       else mkM ⟨dcCode, text, text.size, 0⟩ ⟨9, 0, ⟨0, true, #[], -1, -1, 0⟩, [], none⟩ (if (header dcCode).2 == 0 then {} else ({} : Sre.Seen).add 14)) := by
    rw [← hp]
    unfold forMatch
    rfl
  rw [e]
  split
  · obtain ⟨k2, hk2, mf, o, e2⟩ := loses_nil (c := ⟨dcCode, text, text.size, 0⟩) (pc := 9) (pos := 0) (r := ⟨0, true, #[], -1, -1, 0⟩) (if (header dcCode).2 == 0 then {} else ({} : Sre.Seen).add 14)
    exact ⟨k2, by omega, k2, Nat.le_refl _, mf, o, e2⟩
  · have l := lit_no (c := ⟨dcCode, text, text.size, 0⟩) (pc := 9) (pos := 0) (r := ⟨0, true, #[], -1, -1, 0⟩) (fr := []) (show 9 < dcCode.size by decide +kernel) (show dcCode.getD 9 0 = 16 by decide +kernel)
      (fun h => by show _ ≠ dcCode.getD (9 + 1) 0; rw [show dcCode.getD (9 + 1) 0 = 64 by decide +kernel]; exact ht h)
    obtain ⟨k2, hk2, mf, o, e2⟩ := Loses.of l loses_nil (if (header dcCode).2 == 0 then {} else ({} : Sre.Seen).add 14)
    exact ⟨k2, by omega, k2, Nat.le_refl _, mf, o, e2⟩
section
variable {prog : Program} {w : World} {A : Around} {E : Value → Shared → Prop} {s : Shared} {P : Addr} {x : Str}
theorem pmatch_wp {tk : Tok} {Q : Value → Shared → Prop} (hP : PatAt s.heap P dcCode 0) (hx : x.cps.size ≤ 100000) (h0 : 0 < x.cps.size → x.cps.getD 0 0 ≠ 64) (hq : Q .none s) :
    wpAny (model prog w) A (Builtin.«re.Pattern.match» ⟨[.ref P, .str x tk], []⟩) (fun fin s' => ∃ v, fin = .done (.ret v) ∧ Q v s') E s := by
  obtain ⟨b, hb, hl⟩ := dc_lose h0
  unfold Builtin.«re.Pattern.match»
  refine wpAny_bind (wpAny_target hP hx (named_match x tk) ?_)
  show wpAny _ A (reAnswer ⟨.ref P, .str x tk, dcCode, x.cps, 0, 0, 0, x.cps.size⟩ (forMatch dcCode x.cps 0 0 x.cps.size false false)) _ _ _
  unfold reAnswer
  refine wpAny_bind (reRun_lose hl hb ?_)
  exact wpAny_pure ⟨_, rfl, hq⟩
theorem on_pmatch {pos : Pos} {t : Sem Value} {Q : Value → Shared → Prop} (hP : PatAt s.heap P dcCode 0) (hx : x.cps.size ≤ 100000) (h0 : 0 < x.cps.size → x.cps.getD 0 0 ≠ 64)
    (ht : wpAny (model prog w) A t (fun v s₁ => ∃ tk, v = .str x tk ∧ s₁ = s) E s) (hq : Q .none s) :
    MethodOnS prog w A E "match" (.ref P) pos [(false, t)] Q s := by
  obtain ⟨pat, fl, names, idx, tt, items, h1, h2, _⟩ := id hP.at_
  refine method1 attrs_pattern slot_pmatch ty_pmatch entry_pmatch ⟨_, h1, rfl⟩ (fun a e => by cases e; exact ⟨_, h1, rfl⟩) (wpAny_mono ht (fun v s₁ ⟨tk, e, es⟩ => ?_) fun _ _ e => e)
  subst e es
  exact ⟨⟨_, h1, rfl⟩, args_pmatch _ _, pmatch_wp hP hx h0 hq⟩
end
end Mine

end

/-! ## LFor -/
section
open PySem PySem.W PyProof.Rows PySem.Calls
namespace Mine
set_option maxRecDepth 100000

section
variable {prog : Program} {w : World} {A : Around} {E : Value → Shared → Prop} {s : Shared}
theorem pyIter_ci {it : Addr} {Q : Value → Shared → Prop} (hT : s.TypeIs (.ref it) "callable_iterator") (h : Q (.ref it) s) : wpAny (model prog w) A (pyIter (.ref it)) Q E s := by
  refine wpAny_pyIter_slot hT slot_ci_iter (wpAny_call_entry slot_ci_iter hT entry_ci_iter ?_ (args_ci_iter _))
  show wpAny _ _ (ret (.ref it)) _ _ s
  exact wpAny_pure ⟨_, rfl, "callable_iterator", _, hT, slot_ci_next.lookup, h⟩
end

section
variable {prog : Program} {w : World} {A : Around} {R : GenEnd} {Y : Protocol} {n : Nat} {s₀ : Shared} {c : Code} {fs : List PySem.Frame} {s : Shared} {env : Env}
  {K : Flow → Sem PySem.Fin} {H : Value → Sem PySem.Fin} {gd : Bool → Bool} {lv : List Value → List Value}

theorem segR_nil (h : SegR (modelA prog w) A R Y n s₀ c (K .next) fs s) : SegR (modelA prog w) A R Y n s₀ c ((execs [] env).wrap K H gd lv) fs s := h
theorem segR_cons {st : Stmt} {rest : List Stmt}
    (h : SegR (modelA prog w) A R Y n s₀ c ((exec st env).wrap (fun f => match f with | .next => (execs rest env).wrap K H gd lv | f => K f) H gd lv) fs s) :
    SegR (modelA prog w) A R Y n s₀ c ((execs (st :: rest) env).wrap K H gd lv) fs s := by rw [execs_cons_wrap]; exact h
/-- a statement that the library walks -/
theorem segR_leaf1 {st : Stmt} {rest : List Stmt}
    (h : wpAny (model prog w) (A.over c fs) (exec st env) (fun f s' => f = .next ∧ SegR (modelA prog w) A R Y n s₀ c ((execs rest env).wrap K H gd lv) fs s') (fun _ _ => False) s) :
    SegR (modelA prog w) A R Y n s₀ c ((execs (st :: rest) env).wrap K H gd lv) fs s := by
  refine segR_cons (segR_wrap (wpR_of (any_A (wpAny_mono h (fun f s' hf => ?_) fun _ _ h => h.elim))))
  obtain ⟨rfl, hf⟩ := hf
  exact hf
theorem segR_If {test : Expr} {body orelse rest : List Stmt} {pos : Pos}
    (h : wpAny (model prog w) (A.over c fs) (isTrue test env (eval test env)) (fun b s' =>
      SegR (modelA prog w) A R Y n s₀ c ((execs (if b then body else orelse) env).wrap (fun f => match f with | .next => (execs rest env).wrap K H gd lv | f => K f) H gd lv) fs s') (fun _ _ => False) s) :
    SegR (modelA prog w) A R Y n s₀ c ((execs (.If test body orelse pos :: rest) env).wrap K H gd lv) fs s := by
  refine segR_cons ?_
  rw [exec_If]
  refine segR_at ?_
  show SegR _ _ _ _ _ _ _ (Sem.wrap _ _ _ _ (isTrue test env (eval test env) >>= fun b => if b = true then execs body env else execs orelse env)) _ _
  rw [Sem.bind_eq_wrap', Sem.wrap_wrap]
  refine segR_wrap (wpR_of (any_A (wpAny_mono h (fun b s' hb => ?_) fun _ _ h => h.elim)))
  cases b <;> exact hb
theorem segR_Yield {e : Expr} {rest : List Stmt} {ypos pos : Pos} (hfs : splitAtGen fs = none) (hgd : gd false = false) (hfg : fs.any Frame.guarded = false)
    (h : wpAny (model prog w) (A.over c fs) (eval e env) (fun v s' => Y n s₀ v s' fun r s'' => r = .send .none → SegR (modelA prog w) A R Y n s'' c ((execs rest env).wrap K H gd lv) fs s'')
      (fun _ _ => False) s) (hmono : ∀ n s v s' (f f' : Resume → Shared → Prop), (∀ r s, f r s → f' r s) → Y n s v s' f → Y n s v s' f')
    (hsend : ∀ n s v s' (f : Resume → Shared → Prop), Y n s v s' (fun r s'' => r = .send .none → f r s'') → Y n s v s' f)
    (hco : env.scope.isCoroutine = false := by rfl) (hi : interactive env = false := by rfl) :
    SegR (modelA prog w) A R Y (n + 1) s₀ c ((execs (.Expr (.Yield (some e) ypos) pos :: rest) env).wrap K H gd lv) fs s := by
  refine segR_cons ?_
  rw [exec_Expr env _ pos hi rfl]
  show SegR _ A R Y (n + 1) s₀ c (.at pos fun _ => ((eval e env >>= fun v => (standAt ypos >>= fun _ => yieldOut env v)) >>= fun x =>
    dropValue (.Yield (some e) ypos) pos x).wrap _ H gd lv) fs s
  have hy : ∀ v, yieldOut env v = yieldValue v := fun v => by simp only [yieldOut, hco, Bool.false_eq_true, if_false]
  simp only [hy]
  refine segR_at ?_
  rw [Sem.bind_eq_wrap', Sem.bind_eq_wrap', Sem.wrap_wrap, Sem.wrap_wrap]
  refine segR_wrap (wpR_of (any_A (wpAny_mono h (fun v s' h' => ?_) fun _ _ x => x.elim)))
  refine segR_at (segR_yield hfs hgd hfg ?_)
  refine hsend _ _ _ _ _ (hmono _ _ _ _ _ _ (fun r s'' hr e => ?_) h')
  subst e
  exact hr rfl
theorem segR_func {body : List Stmt}
    (h : SegR (modelA prog w) A R Y n s₀ (.func body env) ((execs body env).wrap (fun f => .pure (.done (.ret (match f with | .ret v => v | _ => .none))))
      (fun e => (leaving env e).wrap (fun _ => .raise e) .raise id id) id id) fs s) :
    SegR (modelA prog w) A R Y n s₀ (.func body env) ((modelA prog w).den (.func body env)) fs s := by
  rw [den_modelA, denA_not rfl]
  show SegR _ A R Y n s₀ (.func body env) (.point [] fun _ => ((execs body env).onRaise (leaving env)) >>= _) fs s
  refine segR_point ?_
  rw [Sem.onRaise_eq_wrap, Sem.bind_eq_wrap', Sem.wrap_wrap]
  rw [Sem.wrap_congr (execs body env) _ _ (K' := fun f => .pure (.done (.ret (match f with | .ret v => v | _ => .none))))
    (H' := fun e => (leaving env e).wrap (fun _ => .raise e) .raise id id) (fun f => by cases f <;> rfl)
    (fun e => by rw [Sem.bind_eq_wrap, Sem.wrap_wrap]; rfl)]
  exact h

/-- the frame that a for leaves beneath its loop -/
def forFrame (K : Flow → Sem PySem.Fin) (H : Value → Sem PySem.Fin) (gd : Bool → Bool) (lv : List Value → List Value) (env : Env) (c : Code) (p : Pos) : PySem.Frame :=
  .ret (fun r => ((match r with | .ok f => (.pure f : Sem Flow) | .error e => .raise e).onRaise fun (x : Value) => do
        if (← field x 1) == Value.none then unsupported "frame.own-activation:exception-without-traceback"
        setFlight x env.frame).wrap K H gd lv) none (gd false) (lv []) c p []
theorem segR_For {target iter : Expr} {body orelse rest : List Stmt} {pos : Pos} (hset : ∀ x, foldedSetIterable iter env x = pure x)
    (h : wpAny (model prog w) (A.over c fs) (eval iter env) (fun v s' => ∃ it, v = .ref it ∧ s'.TypeIs (.ref it) "callable_iterator" ∧
      ∀ p, SegR (modelA prog w) A R Y n s₀ (.forLoop target (.ref it) body orelse env) ((modelA prog w).den (.forLoop target (.ref it) body orelse env))
        (forFrame (fun f => match f with | .next => (execs rest env).wrap K H gd lv | f => K f) H gd lv env c p :: fs) s') (fun _ _ => False) s) :
    SegR (modelA prog w) A R Y n s₀ c ((execs (.For target iter body orelse pos :: rest) env).wrap K H gd lv) fs s := by
  refine segR_cons ?_
  show SegR _ A R Y n s₀ c (.at pos fun _ => (eval iter env >>= fun x₀ => foldedSetIterable iter env x₀ >>= fun x => standAt iter.pos >>= fun _ =>
    (holding [x] (pyIter x)) >>= fun it => runOwn (.forLoop target it body orelse env) env).wrap _ H gd lv) fs s
  refine segR_at ?_
  rw [Sem.bind_eq_wrap', Sem.wrap_wrap]
  refine segR_wrap (wpR_of (any_A (wpAny_mono h (fun v s' hv => ?_) fun _ _ h => h.elim)))
  obtain ⟨it, rfl, hT, hk⟩ := hv
  rw [hset]
  show SegR _ A R Y n s₀ c (.at iter.pos fun _ => ((holding [.ref it] (pyIter (.ref it))) >>= fun it => runOwn (.forLoop target it body orelse env) env).wrap _ H gd lv) fs s'
  refine segR_at ?_
  rw [Sem.bind_eq_wrap', Sem.wrap_wrap]
  refine segR_wrap (wpR_of (any_A (wpAny_holding (pyIter_ci hT ?_))))
  exact segR_call rfl hk
/-- the loop's own code: next(), then the body -/
theorem segR_forLoop {x : Str} {px : Pos} {it : Addr} {body orelse : List Stmt}
    (h : wpR (modelA prog w) (A.over (.forLoop (.Name x px) (.ref it) body orelse env) fs) (pyNext (.ref it)) (fun o s' => match o with
      | none => SegR (modelA prog w) A R Y n s₀ (.block orelse env) ((modelA prog w).den (.block orelse env)) fs s'
      | some v => wpAny (modelA prog w) (A.over (.forLoop (.Name x px) (.ref it) body orelse env) fs) (storeName env x v) (fun _ s'' =>
          SegR (modelA prog w) A R Y n s₀ (.forLoop (.Name x px) (.ref it) body orelse env) ((execs body env).wrap (fun f => match f with
            | .next | .cont => .pure (.again (.forLoop (.Name x px) (.ref it) body orelse env))
            | .brk => .pure (.done .next)
            | .ret v => .pure (.done (.ret v))) (fun e => (do noteFrame e env; theTreesLotGoes e : Sem Unit).wrap (fun _ => .raise e) .raise id id) id id) fs s'')
          (fun _ _ => False) s') (fun _ _ => False) s) :
    SegR (modelA prog w) A R Y n s₀ (.forLoop (.Name x px) (.ref it) body orelse env) ((modelA prog w).den (.forLoop (.Name x px) (.ref it) body orelse env)) fs s := by
  rw [den_modelA, denA_not rfl]
  show SegR _ A R Y n s₀ _ ((forTurn (.Name x px) (.ref it) body orelse env).onRaise (fun x => do noteFrame x env; theTreesLotGoes x)) fs s
  unfold forTurn
  rw [Sem.onRaise_eq_wrap]
  show SegR _ A R Y n s₀ _ (.at _ fun _ => (((pyNext (.ref it)).onRaise (fun _ => standAt _) >>= _).wrap _ _ id id)) fs s
  refine segR_at ?_
  rw [Sem.bind_eq_wrap', Sem.wrap_wrap]
  refine segR_wrap (wpR_onRaise (wpR_mono h (fun o s' ho => ?_) fun _ _ h => h.elim))
  cases o with
  | none => exact segR_again rfl rfl ho
  | some v =>
    show SegR _ A R Y n s₀ _ (Sem.wrap _ _ id id (letOwnedTupleGo (.Name x px) (.ref it) v >>= fun _ => assign (.Name x px) env v >>= fun _ => execs body env >>= _)) fs s'
    show SegR _ A R Y n s₀ _ (.at px fun _ => (bindName env x v >>= fun _ => execs body env >>= _).wrap _ _ id id) fs s'
    refine segR_at ?_
    rw [Sem.bind_eq_wrap', Sem.wrap_wrap]
    refine segR_wrap (wpR_of (wpAny_bindName (wpAny_mono ho (fun _ s'' hs => ?_) fun _ _ h => h.elim)))
    rw [Sem.bind_eq_wrap', Sem.wrap_wrap]
    rw [Sem.wrap_congr (execs body env) _ _ (K' := fun f => match f with
            | .next | .cont => .pure (.again (.forLoop (.Name x px) (.ref it) body orelse env))
            | .brk => .pure (.done .next)
            | .ret v => .pure (.done (.ret v))) (H' := (fun e => (do noteFrame e env; theTreesLotGoes e : Sem Unit).wrap (fun _ => .raise e) .raise id id))
        (fun f => by cases f <;> rfl)
        (fun e => by first | exact Sem.bind_eq_wrap _ _ | (show (do noteFrame e env; theTreesLotGoes e : Sem Unit).bind (fun _ => .raise e) = _; rw [Sem.bind_eq_wrap]))]
    exact hs
/-- the end of a loop: an empty else, then behind the for -/
theorem segR_endFor {p : Pos} {c' : Code} (h : SegR (modelA prog w) A R Y n s₀ c' (K .next) fs s) :
    SegR (modelA prog w) A R Y n s₀ (.block [] env) ((modelA prog w).den (.block [] env)) (forFrame K H gd lv env c' p :: fs) s := by
  rw [den_modelA, denA_not rfl]
  show SegR _ A R Y n s₀ _ (leafOf (.ok .next)) _ _
  exact segR_leaf (.ok .next) h
end
end Mine

end

/-! ## LGen0 -/
section
open PySem PySem.W PyProof.Rows PySem.Calls
namespace Mine
set_option maxRecDepth 100000

/-- what a walk over matches may alter: scanners and the walks themselves -/
def movs (o : Obj) : Bool := match o.data with
  | .fields _ => o.cls == .type "_sre.SRE_Scanner" || o.cls == .type "callable_iterator"
  | _ => false
/-- all objects of h but those at D, and of those above it the movable ones, stand in h' -/
def ExtD (D : List Addr) (h h' : Heap) : Prop := ∀ b o, b ∉ D → ((∀ l ∈ D, @LT.lt Nat _ b l) ∨ movs o = false) → h.get? b = some o → h'.get? b = some o
theorem ExtD.refl (D : List Addr) (h : Heap) : ExtD D h h := fun _ _ _ _ e => e
theorem ExtD.trans {D : List Addr} {h h' h'' : Heap} (a : ExtD D h h') (b : ExtD D h' h'') : ExtD D h h'' := fun x o hx hm e => b x o hx hm (a x o hx hm e)
theorem ExtD.all {D : List Addr} {h h' : Heap} (a : ∀ b o, h.get? b = some o → h'.get? b = some o) : ExtD D h h' := fun b o _ _ e => a b o e
theorem ExtD.push {D : List Addr} {h : Heap} (o : Obj) : ExtD D h (h.push o) := ExtD.all fun _ _ e => Heap.get?_push_of_some _ e
theorem ExtD.same {D : List Addr} {L : Addr} {h h' : Heap} (hs : Heap.SameBut L h h') (hL : L ∈ D) : ExtD D h h' := fun b _ hb _ e => (hs.2 b (fun e => hb (e ▸ hL))).trans e

/-- the state s as it came of s₀: heap and toks alone, all kept but at D -/
def Since (D : List Addr) (s₀ s : Shared) : Prop := ∃ h' tk, s = { s₀ with heap := h', toks := tk } ∧ ExtD D s₀.heap h'
theorem Since.refl (D : List Addr) (s : Shared) : Since D s s := ⟨s.heap, s.toks, rfl, ExtD.refl _ _⟩
theorem Since.step {D : List Addr} {s₀ s : Shared} (x : Since D s₀ s) {h' : Heap} {tk : Nat} (hk : ExtD D s.heap h') : Since D s₀ { s with heap := h', toks := tk } := by
  obtain ⟨h₁, tk₁, rfl, hk₁⟩ := x
  exact ⟨h', tk, rfl, hk₁.trans hk⟩
theorem Since.heap {D : List Addr} {s₀ s : Shared} (x : Since D s₀ s) : ExtD D s₀.heap s.heap := by obtain ⟨h₁, tk₁, rfl, hk₁⟩ := x; exact hk₁
theorem Since.gens {D : List Addr} {s₀ s : Shared} (x : Since D s₀ s) : s.gens = s₀.gens := by obtain ⟨h₁, tk₁, rfl, hk₁⟩ := x; rfl
theorem Since.trans {D : List Addr} {s₀ s s' : Shared} (x : Since D s₀ s) (y : Since D s s') : Since D s₀ s' := by
  obtain ⟨h₁, tk₁, rfl, hk₁⟩ := y
  exact x.step hk₁

abbrev Out := Int × Str
/-- the pair that a generator yields -/
def OutAt (D : List Addr) (hp : Heap) (v : Value) (o : Out) : Prop := ∃ t tk tk', v = .ref t ∧ t ∉ D ∧ hp.get? t = some { cls := .type "tuple", data := .seq #[.int o.1 tk, .str o.2 tk'] }

/-- what is held of each yield: the pair in its turn; all kept but at D; it goes on from any heap that keeps all but S -/
def proto (S : Addr) (D : List Addr) (outs : List Out) : Protocol := fun m s₀ v s kap =>
  (∃ o, outs[outs.length - 1 - m]? = some o ∧ OutAt D s.heap v o) ∧ m < outs.length ∧ Since D s₀ s ∧
    ∀ s'' : Shared, (∀ b o, b ≠ S → s.heap.get? b = some o → s''.heap.get? b = some o) → kap (.send .none) s''
theorem proto_mono {S : Addr} {D : List Addr} {outs : List Out} : ∀ n s v s' (f f' : Resume → Shared → Prop), (∀ r s, f r s → f' r s) → proto S D outs n s v s' f → proto S D outs n s v s' f' :=
  fun _ _ _ _ _ _ hf ⟨a, b, c, d⟩ => ⟨a, b, c, fun s'' h => hf _ _ (d s'' h)⟩
theorem proto_send {S : Addr} {D : List Addr} {outs : List Out} : ∀ n s v s' (f : Resume → Shared → Prop), proto S D outs n s v s' (fun r s'' => r = .send .none → f r s'') → proto S D outs n s v s' f :=
  fun _ _ _ _ _ ⟨a, b, c, d⟩ => ⟨a, b, c, fun s'' h => d s'' h rfl⟩
abbrev ender (D : List Addr) : GenEnd := fun n s₀ r s₁ => r = .ok (.ret .none) ∧ (n = 0 ∧ Since D s₀ s₁)

/-- what the walk asks of a frame's own names -/
structure EnvOk (env : Env) (L : Addr) (loc glob : List Str) : Prop where
  kind : env.scope.kind = .function
  at_ : env.locals = L
  g : env.globals = mainGlobals
  b : env.builtins = builtinsNs
  co : env.scope.isCoroutine = false
  loc_ : ∀ x ∈ loc, env.kindOf x = some .local
  glob_ : ∀ x ∈ glob, env.kindOf x = some .globalImplicit

section
variable {M : Model} {prog : Program} {w : World} {A : Around} {E : Value → Shared → Prop} {s : Shared} {env : Env} {L : Addr} {loc glob : List Str} {m : Str → Option Value}
theorem ldL {x : Str} {pos : Pos} {v : Value} {Q : Value → Shared → Prop} (O : EnvOk env L loc glob) (N : s.heap.Ns L m) (hx : x ∈ loc) (hv : m x = some v) (h : Q v s)
    (hd : (x == ("__debug__" : Str)) = false := by decide) : wpAny M A (eval (.Name x pos) env) Q E s :=
  wpAny_Name (wpAny_loadName_local O.kind (O.loc_ x hx) (O.at_ ▸ N) hv h) hd
theorem ldG {x : Str} {pos : Pos} {v : Value} {mg : Str → Option Value} {Q : Value → Shared → Prop} (O : EnvOk env L loc glob) (hx : x ∈ glob) (G : s.heap.Ns mainGlobals mg) (hv : mg x = some v) (h : Q v s)
    (hd : (x == ("__debug__" : Str)) = false := by decide) : wpAny M A (eval (.Name x pos) env) Q E s := by
  refine wpAny_Name ?_ hd
  rw [loadName_read O.kind (O.glob_ x hx)]
  exact loadGlobal_global (O.g ▸ G) hv h
theorem ldB {x : Str} {pos : Pos} {v : Value} {mg mb : Str → Option Value} {Q : Value → Shared → Prop} (O : EnvOk env L loc glob) (hx : x ∈ glob) (G : s.heap.Ns mainGlobals mg) (B : s.heap.Ns builtinsNs mb) (hm : mg x = none) (hv : mb x = some v) (h : Q v s)
    (hd : (x == ("__debug__" : Str)) = false := by decide) : wpAny M A (eval (.Name x pos) env) Q E s := by
  refine wpAny_Name ?_ hd
  rw [loadName_read O.kind (O.glob_ x hx)]
  exact loadGlobal_builtin (O.g ▸ G) hm (O.b ▸ B) hv h
theorem stL {x : Str} {v : Value} {Q : Unit → Shared → Prop} (O : EnvOk env L loc glob) (N : s.heap.Ns L m) (hx : x ∈ loc)
    (h : ∀ h', h'.Ns L (fun y => if y = x then some v else m y) → Heap.SameBut L s.heap h' → Q () { s with heap := h', toks := s.toks + 1 }) : wpAny M A (storeName env x v) Q E s := by
  obtain rfl := O.at_
  exact wpAny_storeName_local (O.loc_ x hx) N h (by rw [O.kind]; rfl)

/-- a tuple of two, made -/
theorem mkPair {e1 e2 : Expr} {k : Nat} {pos : Pos} {i : Int} {y : Str} {Q : Value → Shared → Prop} (hs : backTo pos (starEach [e1, e2] env) = [(false, eval e1 env), (false, eval e2 env)])
    (h : wpAny M A (eval e1 env) (fun a s₁ => ∃ t, a = .int i t ∧ wpAny M A (eval e2 env) (fun b s₂ => ∃ t', b = .str y t' ∧
      Q (.ref s₂.heap.objs.size) { s₂ with heap := s₂.heap.push { cls := .type "tuple", data := .seq #[.int i t, .str y t'] } }) E s₁) E s) :
    wpAny M A (eval (.Tuple [e1, e2] k pos) env) Q E s := by
  refine wpAny_Tuple ?_
  rw [hs]
  refine spliced_cons (wpAny_mono h (fun a s₁ h₁ => ?_) fun _ _ e => e)
  obtain ⟨t, rfl, h₁⟩ := h₁
  refine spliced_cons (wpAny_mono h₁ (fun b s₂ h₂ => ?_) fun _ _ e => e)
  obtain ⟨t', rfl, h₂⟩ := h₂
  exact spliced_nil ⟨by show 2 ≤ sizeLine; rw [sizeLine_eq]; decide, h₂⟩
end

/-- a yield of the next pair -/
theorem segR_out {prog : Program} {w : World} {A : Around} {S : Addr} {D : List Addr} {pre post : List Out} {i : Int} {y : Str} {s₀ s : Shared} {c : Code} {fs : List PySem.Frame} {env : Env} {K : Flow → Sem PySem.Fin} {H : Value → Sem PySem.Fin} {gd lv}
    {e : Expr} {rest : List Stmt} {ypos pos : Pos} (hfs : splitAtGen fs = none) (hgd : gd false = false) (hfg : fs.any Frame.guarded = false) (hco : env.scope.isCoroutine = false) (hi : interactive env = false) (Si : Since D s₀ s)
    (h : wpAny (model prog w) (A.over c fs) (eval e env) (fun v s' => ∃ h' tk t t1 t2, v = .ref t ∧ s' = { s with heap := h', toks := tk } ∧ ExtD D s.heap h' ∧ t ∉ D ∧
      h'.get? t = some { cls := .type "tuple", data := .seq #[.int i t1, .str y t2] } ∧
      ∀ s'' : Shared, (∀ b o, b ≠ S → h'.get? b = some o → s''.heap.get? b = some o) →
        SegR (modelA prog w) A (ender D) (proto S D (pre ++ (i, y) :: post)) post.length s'' c ((execs rest env).wrap K H gd lv) fs s'') (fun _ _ => False) s) :
    SegR (modelA prog w) A (ender D) (proto S D (pre ++ (i, y) :: post)) (post.length + 1) s₀ c ((execs (.Expr (.Yield (some e) ypos) pos :: rest) env).wrap K H gd lv) fs s := by
  refine segR_Yield hfs hgd hfg (wpAny_mono h (fun v s' h' => ?_) fun _ _ h => h) proto_mono proto_send hco hi
  obtain ⟨hp, tk, t, t1, t2, rfl, rfl, hk, hD, hg, hgo⟩ := h'
  refine ⟨⟨(i, y), ?_, ⟨t, t1, t2, rfl, hD, hg⟩⟩, by simp; omega, Si.step hk, fun s'' hs _ => hgo s'' hs⟩
  rw [List.length_append, List.length_cons]
  rw [show pre.length + (post.length + 1) - 1 - post.length = pre.length by omega]
  rw [List.getElem?_append_right (Nat.le_refl _), Nat.sub_self]; rfl
end Mine

end

/-! ## LGenA -/
section
open PySem PySem.W PyProof.Rows PySem.Calls
namespace Mine
set_option maxRecDepth 100000

theorem fresh_not {hp : Heap} {L : Addr} {m : Str → Option Value} (N : hp.Ns L m) : hp.objs.size ∉ [L] := fun h => by
  rw [List.mem_singleton] at h
  have := N.lt
  rw [← h] at this
  exact absurd this (Nat.lt_irrefl _)
def tabS : Str := "\t"
def blockOuts (y : Str) (a : Nat) (cT cL : Str) : List Out := if Txt.contains y tabS then [((a : Int), cT)] else if 1 < y.length then [((a : Int), cL)] else []
section
variable {prog : Program} {w : World} {A : Around} {env : Env} {L : Addr} {loc glob : List Str} {m mg mb : Str → Option Value}

/-- '\t' in NAME -/
theorem tabTest {E : Value → Shared → Prop} {s : Shared} {nm : Str} {y : Str} {ty : Tok} {k : Nat} {p1 p2 p3 : Pos} {whole : Sem Value} {Q : Bool → Shared → Prop} (O : EnvOk env L loc glob) (N : s.heap.Ns L m) (hn : nm ∈ loc) (hv : m nm = some (.str y ty))
    (hd : (nm == ("__debug__" : Str)) = false) (h : Q (Txt.contains y tabS) { s with toks := s.toks + 1 }) :
    wpAny (model prog w) A (isTrue (.Compare (.Constant (.str tabS) k p1) [.In] [.Name nm p2] p3) env whole) Q E s := by
  refine wpAny_isTrue_Compare1 (wpAny_Constant_str ?_) rfl
  refine ldL O (by exact N) hn hv ?_ hd
  exact SB.contains (wpAny_truthy_bool h)
/-- len(NAME) > 1 -/
theorem lenTest {E : Value → Shared → Prop} {s : Shared} {nm : Str} {y : Str} {ty : Tok} {k : Nat} {p1 p2 p3 p4 p5 : Pos} {whole : Sem Value} {Q : Bool → Shared → Prop} (O : EnvOk env L loc glob) (N : s.heap.Ns L m) (hn : nm ∈ loc) (hv : m nm = some (.str y ty))
    (G : s.heap.Ns mainGlobals mg) (B : s.heap.Ns builtinsNs mb) (hlen : ("len" : Str) ∈ glob) (hg : mg "len" = none) (hb : mb "len" = some (.builtin "len")) (hy : y.length ≤ 100000)
    (hd : (nm == ("__debug__" : Str)) = false) (h : ∀ tk, Q (decide (1 < y.length)) { s with toks := tk }) :
    wpAny (model prog w) A (isTrue (.Compare (.Call (.Name "len" p1) [.Name nm p2] [] p3) [.Gt] [.Constant (.int 1) k p4] p5) env whole) Q E s := by
  refine wpAny_isTrue_Compare1 ?_ rfl
  refine Call_name1 rfl (ldB O hlen G B hg hb ?_)
  refine callWith_builtin1 (ldL O N hn hv ?_ hd)
  refine len_str (by omega) ?_
  refine wpAny_Constant_int ?_
  refine PyProof.Rows.gt_int (wpAny_truthy_bool ?_)
  rw [show decide ((1 : Int) < (y.length : Int)) = decide (1 < y.length) from by rw [decide_eq_decide]; omega]
  exact h _
/-- (match.start(g), TEXT) -/
theorem pairEval {E : Value → Shared → Prop} {s : Shared} {mt : Addr} {x : Str} {h : Hit} {g a : Nat} {cT : Str} {k1 k2 k3 : Nat} {p1 p2 p3 p4 p5 p6 : Pos} {Q : Value → Shared → Prop} (O : EnvOk env L loc glob) (N : s.heap.Ns L m) (hn : ("match" : Str) ∈ loc) (hv : m "match" = some (.ref mt))
    (hm : MatchAt s.heap mt x h) (hg : h.g.length = 4) (h2 : g = 1 ∨ g = 2) (ha : h.g.getD (2 * (g - 1)) 0 = a) (hl : (p2.endLine == p4.line) = true)
    (hQ : ∀ t1 t2 tk, Q (.ref s.heap.objs.size) { s with heap := s.heap.push { cls := .type "tuple", data := .seq #[.int a t1, .str cT t2] }, toks := tk }) :
    wpAny (model prog w) A (eval (.Tuple [.Call (.Attribute (.Name "match" p1) "start" p2) [.Constant (.int g) k1 p3] [] p4, .Constant (.str cT) k2 p5] k3 p6) env) Q E s := by
  refine mkPair (i := (a : Int)) (y := cT) rfl ?_
  refine Call_method1 rfl rfl hl (ldL O N hn hv ?_)
  refine on_start1 hm hg h2 ha (wpAny_Constant_int ⟨_, rfl, rfl, ?_⟩)
  refine ⟨_, rfl, wpAny_Constant_str ⟨_, rfl, ?_⟩⟩
  exact hQ _ _ _
end

section
variable {prog : Program} {w : World} {A : Around} {env : Env} {L S mt : Addr} {loc glob : List Str} {m mg mb : Str → Option Value} {s₀ s : Shared} {c : Code} {fs : List PySem.Frame} {K : Flow → Sem PySem.Fin} {H : Value → Sem PySem.Fin}
  {gd : Bool → Bool} {lv : List Value → List Value} {x y cT cL nm : Str} {ty : Tok} {h : Hit} {g a : Nat} {pre post : List Out}
/-- one yield of a match's place and a text -/
theorem outOne {k2 k3 k4 : Nat} {p5 p6 p7 p8 p9 p10 p11 p12 : Pos} {tk : Nat} {rest : List Stmt} (hfs : splitAtGen fs = none) (hgd : gd false = false) (hfg : fs.any Frame.guarded = false) (hi : interactive env = false)
    (O : EnvOk env L loc glob) (N : s.heap.Ns L m) (hmt : ("match" : Str) ∈ loc) (hvm : m "match" = some (.ref mt))
    (hm : MatchAt s.heap mt x h) (hg : h.g.length = 4) (h2 : g = 1 ∨ g = 2) (ha : h.g.getD (2 * (g - 1)) 0 = a) (hl1 : (p6.endLine == p8.line) = true) (Si : Since [L] s₀ s)
    (hk : ∀ s₀' s', Since [L] s₀' s' → (∀ b o, b ≠ S → s.heap.get? b = some o → s'.heap.get? b = some o) →
      SegR (modelA prog w) A (ender [L]) (proto S [L] (pre ++ ((a : Int), cT) :: post)) post.length s₀' c ((execs rest env).wrap K H gd lv) fs s') :
    SegR (modelA prog w) A (ender [L]) (proto S [L] (pre ++ ((a : Int), cT) :: post)) (post.length + 1) s₀ c
      ((execs (.Expr (.Yield (some (.Tuple [.Call (.Attribute (.Name "match" p5) "start" p6) [.Constant (.int g) k2 p7] [] p8, .Constant (.str cT) k3 p9] k4 p10)) p11) p12 :: rest) env).wrap K H gd lv) fs { s with toks := tk } := by
  refine segR_out hfs hgd hfg O.co hi (Si.step (ExtD.refl _ _)) ?_
  refine pairEval O (by exact N) hmt hvm (by exact hm) hg h2 ha hl1 fun t1 t2 tk' => ?_
  refine ⟨_, _, _, t1, t2, rfl, rfl, ExtD.push _, fresh_not N, Heap.get?_push_size _ rfl, fun s'' hs => ?_⟩
  exact hk s'' s'' (Since.refl _ _) (fun b o hb e => hs b o hb (Heap.get?_push_of_some _ e))
/-- if '\t' in NAME: yield .. elif len(NAME) > 1: yield .. -/
theorem ifOut {k1 k2 k3 k4 k5 k6 k7 k8 : Nat} {p1 p2 p3 p4 p5 p6 p7 p8 p9 p10 p11 p12 p13 p14 p15 p16 p17 p18 p19 p20 p21 p22 p23 p24 p25 p26 : Pos} {rest : List Stmt} (hfs : splitAtGen fs = none) (hgd : gd false = false) (hfg : fs.any Frame.guarded = false) (hi : interactive env = false)
    (O : EnvOk env L loc glob) (N : s.heap.Ns L m) (hn : nm ∈ loc) (hv : m nm = some (.str y ty)) (hmt : ("match" : Str) ∈ loc) (hvm : m "match" = some (.ref mt))
    (G : s.heap.Ns mainGlobals mg) (B : s.heap.Ns builtinsNs mb) (hlen : ("len" : Str) ∈ glob) (hg0 : mg "len" = none) (hb : mb "len" = some (.builtin "len")) (hy : y.length ≤ 100000)
    (hd : (nm == ("__debug__" : Str)) = false) (hm : MatchAt s.heap mt x h) (hg : h.g.length = 4) (h2 : g = 1 ∨ g = 2) (ha : h.g.getD (2 * (g - 1)) 0 = a)
    (hl1 : (p6.endLine == p8.line) = true) (hl2 : (p19.endLine == p21.line) = true) (Si : Since [L] s₀ s)
    (hk : ∀ s₀' s', Since [L] s₀' s' → (∀ b o, b ≠ S → s.heap.get? b = some o → s'.heap.get? b = some o) →
      SegR (modelA prog w) A (ender [L]) (proto S [L] (pre ++ (blockOuts y a cT cL ++ post))) post.length s₀' c ((execs rest env).wrap K H gd lv) fs s') :
    SegR (modelA prog w) A (ender [L]) (proto S [L] (pre ++ (blockOuts y a cT cL ++ post))) (blockOuts y a cT cL ++ post).length s₀ c ((execs (
      .If (.Compare (.Constant (.str tabS) k1 p1) [.In] [.Name nm p2] p3)
        [.Expr (.Yield (some (.Tuple [.Call (.Attribute (.Name "match" p5) "start" p6) [.Constant (.int g) k2 p7] [] p8, .Constant (.str cT) k3 p9] k4 p10)) p11) p12]
        [.If (.Compare (.Call (.Name "len" p13) [.Name nm p14] [] p15) [.Gt] [.Constant (.int 1) k5 p16] p17)
          [.Expr (.Yield (some (.Tuple [.Call (.Attribute (.Name "match" p18) "start" p19) [.Constant (.int g) k6 p20] [] p21, .Constant (.str cL) k7 p22] k8 p23)) p24) p25]
          [] p26] p4 :: rest) env).wrap K H gd lv) fs s := by
  refine segR_If (tabTest O N hn hv hd ?_)
  by_cases hT : Txt.contains y tabS = true
  · rw [hT]
    have e : blockOuts y a cT cL = [((a : Int), cT)] := by unfold blockOuts; rw [if_pos hT]
    rw [e] at hk ⊢
    exact outOne hfs hgd hfg hi O N hmt hvm hm hg h2 ha hl1 Si fun s₀' s' a1 a2 => segR_nil (hk s₀' s' a1 a2)
  · rw [Bool.not_eq_true] at hT
    rw [hT]
    refine segR_If (lenTest O (by exact N) hn hv (by exact G) (by exact B) hlen hg0 hb hy hd fun tk => ?_)
    by_cases hL : 1 < y.length
    · rw [decide_eq_true hL]
      have e : blockOuts y a cT cL = [((a : Int), cL)] := by unfold blockOuts; rw [hT, if_neg Bool.false_ne_true, if_pos hL]
      rw [e] at hk ⊢
      exact outOne (s := s) (tk := tk) hfs hgd hfg hi O N hmt hvm hm hg h2 ha hl2 Si fun s₀' s' a1 a2 => segR_nil (segR_nil (hk s₀' s' a1 a2))
    · rw [decide_eq_false hL]
      have e : blockOuts y a cT cL = [] := by unfold blockOuts; rw [hT, if_neg Bool.false_ne_true, if_neg hL]
      rw [e] at hk ⊢
      exact segR_nil (segR_nil (hk _ _ (Si.step (ExtD.refl _ _)) (fun b o _ e => e)))
end
end Mine

end

/-! ## LGenB -/
section
open PySem PySem.W PyProof.Rows PySem.Calls
namespace Mine
set_option maxRecDepth 100000

theorem Ns_ne {hp : Heap} {L t : Addr} {m : Str → Option Value} {o : Obj} (N : hp.Ns L m) (ho : hp.get? t = some o) (hd : ∀ es ep, o.data ≠ .dict es ep) : t ≠ L := fun e => by
  subst e
  obtain ⟨o', es, ep, h1, h2, _⟩ := N
  rw [h1] at ho
  cases ho
  exact hd _ _ h2
theorem MatchAt.same {hp hp' : Heap} {L m : Addr} {x : Str} {h : Hit} {mm : Str → Option Value} (hm : MatchAt hp m x h) (N : hp.Ns L mm) (hs : Heap.SameBut L hp hp') : MatchAt hp' m x h :=
  let ⟨tk, pat, p0, l0, li, t, h1, h2, h3⟩ := hm
  ⟨tk, pat, p0, l0, li, t, (hs.2 m (Ns_ne N h1 (fun _ _ e => by cases e))).trans h1, (hs.2 t (Ns_ne N h2 (fun _ _ e => by cases e))).trans h2, h3⟩
theorem MatchAt.keepL {hp hp' : Heap} {L m : Addr} {x : Str} {h : Hit} {mm : Str → Option Value} (hm : MatchAt hp m x h) (N : hp.Ns L mm) (k : ∀ b o, b ≠ L → hp.get? b = some o → hp'.get? b = some o) : MatchAt hp' m x h :=
  let ⟨tk, pat, p0, l0, li, t, h1, h2, h3⟩ := hm
  ⟨tk, pat, p0, l0, li, t, k _ _ (Ns_ne N h1 (fun _ _ e => by cases e)) h1, k _ _ (Ns_ne N h2 (fun _ _ e => by cases e)) h2, h3⟩
theorem MatchAt.but {hp hp' : Heap} {S m : Addr} {x : Str} {h : Hit} (hm : MatchAt hp m x h) (hS : @LT.lt Nat _ (S + 1) m) (k : ∀ b o, b ≠ S → hp.get? b = some o → hp'.get? b = some o) : MatchAt hp' m x h := by
  obtain ⟨tk, pat, p0, l0, li, t, h1, h2, h3⟩ := hm
  subst h3
  exact ⟨tk, pat, p0, l0, li, t, k _ _ (fun e => by rw [e] at hS; exact absurd hS (by omega)) h1, k _ _ (fun e => by rw [e] at hS; exact absurd hS (Nat.lt_irrefl _)) h2, rfl⟩
theorem IterAt.keepL {hp hp' : Heap} {L it me sc P : Addr} {x : Str} {p : Nat} {mm : Str → Option Value} (I : IterAt hp it me sc P x p) (N : hp.Ns L mm) (k : ∀ b o, b ≠ L → hp.get? b = some o → hp'.get? b = some o) : IterAt hp' it me sc P x p :=
  let ⟨tk, h3⟩ := I.sc_
  ⟨k _ _ (Ns_ne N I.it_ (fun _ _ e => by cases e)) I.it_, k _ _ (Ns_ne N I.me_ (fun _ _ e => by cases e)) I.me_, ⟨tk, k _ _ (Ns_ne N h3 (fun _ _ e => by cases e)) h3⟩⟩
theorem IterAt.but {hp hp' : Heap} {S it me sc P : Addr} {x : Str} {p : Nat} (I : IterAt hp it me sc P x p) (h1 : it ≠ S) (h2 : me ≠ S) (h3 : sc ≠ S) (k : ∀ b o, b ≠ S → hp.get? b = some o → hp'.get? b = some o) : IterAt hp' it me sc P x p :=
  let ⟨tk, h⟩ := I.sc_
  ⟨k _ _ h1 I.it_, k _ _ h2 I.me_, ⟨tk, k _ _ h3 h⟩⟩
theorem Ns_but {hp hp' : Heap} {S L : Addr} {m : Str → Option Value} (N : hp.Ns L m) (h : L ≠ S) (k : ∀ b o, b ≠ S → hp.get? b = some o → hp'.get? b = some o) : hp'.Ns L m :=
  let ⟨o, es, ep, h1, r⟩ := N; ⟨o, es, ep, k _ _ h h1, r⟩
theorem IterAt.same {hp hp' : Heap} {L it me sc P : Addr} {x : Str} {p : Nat} {mm : Str → Option Value} (I : IterAt hp it me sc P x p) (N : hp.Ns L mm) (hs : Heap.SameBut L hp hp') : IterAt hp' it me sc P x p :=
  let ⟨tk, h3⟩ := I.sc_
  ⟨(hs.2 it (Ns_ne N I.it_ (fun _ _ e => by cases e))).trans I.it_, (hs.2 me (Ns_ne N I.me_ (fun _ _ e => by cases e))).trans I.me_, ⟨tk, (hs.2 sc (Ns_ne N h3 (fun _ _ e => by cases e))).trans h3⟩⟩

/-- the globals that the generators read, at a base heap -/
structure GOk (hp : Heap) (rx : Str) (P : Addr) (code : Array Nat) (groups : Nat) : Prop where
  all : ∃ mg mb, hp.Ns mainGlobals mg ∧ hp.Ns builtinsNs mb ∧ mg "len" = none ∧ mb "len" = some (.builtin "len") ∧ mg rx = some (.ref P)
  pat : PatAt hp P code groups

def hitsF (try_ : Option Nat → Nat → List Nat → Option Hit) (t : Array Nat) : Nat → Nat → List Hit
  | 0, _ => []
  | k + 1, p => match findL try_ (prevAt t p) p (t.toList.drop p) with
    | none => []
    | some h => h :: hitsF try_ t k h.e
def outsA (x c1 c2 c3 c4 : Str) (h : Hit) : List Out :=
  match h.g with
  | [a, b, c, d] => blockOuts (sub x a b) a c1 c2 ++ blockOuts (sub x c d) c c3 c4
  | _ => []

/-- before, after = match.groups() -/
theorem asgGroups {prog : Program} {w : World} {A : Around} {E : Value → Shared → Prop} {s : Shared} {env : Env} {L mt : Addr} {loc glob : List Str} {m : Str → Option Value} {x : Str} {h : Hit} {a b c d : Nat} {k1 : Nat} {q1 q2 q3 q4 q5 q6 q7 : Pos} {Q : Flow → Shared → Prop}
    (hh : A.handled = none) (O : EnvOk env L loc glob) (N : s.heap.Ns L m) (l1 : ("match" : Str) ∈ loc) (l2 : ("before" : Str) ∈ loc) (l3 : ("after" : Str) ∈ loc) (hv : m "match" = some (.ref mt)) (hm : MatchAt s.heap mt x h) (hx : x.cps.size ≤ 100000) (hg : h.g = [a, b, c, d])
    (hl : (q5.endLine == q6.line) = true)
    (hQ : ∀ h' tk m' t1 t2, h'.Ns L m' → m' "before" = some (.str (sub x a b) t1) → m' "after" = some (.str (sub x c d) t2) → (∀ y : Str, y ≠ ("before" : Str) → y ≠ ("after" : Str) → m' y = m y) →
      (∀ b o, b ≠ L → s.heap.get? b = some o → h'.get? b = some o) → Q .next { s with heap := h', toks := tk }) :
    wpAny (model prog w) A (exec (.Assign [.Tuple [.Name "before" q1, .Name "after" q2] k1 q3] (.Call (.Attribute (.Name "match" q4) "groups" q5) [] [] q6) q7) env) Q E s := by
  refine Assign_Tuple ?_ rfl rfl
  refine Call_method0 rfl hl (ldL O N l1 hv ?_)
  refine on_groups hm hx hg fun t1 t2 => ?_
  have hT : IsTup (s.heap.push { cls := .type "tuple", data := .seq #[.str (sub x a b) t1, .str (sub x c d) t2] }) s.heap.objs.size #[.str (sub x a b) t1, .str (sub x c d) t2] := ⟨_, Heap.get?_push_size _ rfl, rfl, 0, rfl⟩
  refine assign_Tuple_tuple hh hT rfl rfl fun h1 hx1 => ?_
  have N1 : h1.Ns L m := (N.push _).extBut hx1 (by rw [Heap.size_push]; exact Nat.ne_of_lt (Nat.lt_succ_of_lt N.lt))
  have k1' : ∀ b o, s.heap.get? b = some o → h1.get? b = some o := fun b o e => hx1 b o (by rw [Heap.size_push]; exact Nat.ne_of_lt (Nat.lt_succ_of_lt (Heap.lt_size e))) (Heap.get?_push_of_some _ e)
  show wpAny _ A (holding [.str (sub x c d) t2] (standAt q1 >>= fun _ => bindName env "before" (.str (sub x a b) t1)) >>= fun _ =>
    holding [] (standAt q2 >>= fun _ => bindName env "after" (.str (sub x c d) t2)) >>= fun _ => pure ()) _ _ _
  refine wpAny_bind (wpAny_holding (wpAny_bind (wpAny_standAt (wpAny_bindName (stL O (by exact N1) l2 fun h2 N2 e2 => ?_)))))
  refine wpAny_bind (wpAny_holding (wpAny_bind (wpAny_standAt (wpAny_bindName (stL O (by exact N2) l3 fun h3 N3 e3 => ?_)))))
  refine wpAny_pure (hQ h3 _ _ t1 t2 N3 ?_ ?_ (fun y hy1 hy2 => ?_) fun b o hb e => ?_)
  · rw [if_neg (by decide), if_pos rfl]
  · rw [if_pos rfl]
  · rw [if_neg hy2, if_neg hy1]
  · exact (e3.2 b hb).trans ((e2.2 b hb).trans (k1' b o e))

section
variable {prog : Program} {w : World} {A : Around} {env : Env} {L S it me sc P : Addr} {loc glob : List Str} {code : Array Nat} {try_ : Option Nat → Nat → List Nat → Option Hit} {x rx c1 c2 c3 c4 : Str} {h₀ : Heap}
  {c : Code} {fs : List PySem.Frame} {K : Flow → Sem PySem.Fin} {H : Value → Sem PySem.Fin} {gd : Bool → Bool} {lv : List Value → List Value}
  {ka kb kc kd ke kf kg kh ki kj kk kl km kn ko kp kq : Nat}
  {q1 q2 q3 q4 q5 q6 q7 p1 p2 p3 p4 p5 p6 p7 p8 p9 p10 p11 p12 p13 p14 p15 p16 p17 p18 p19 p20 p21 p22 p23 p24 p25 p26 r1 r2 r3 r4 r5 r6 r7 r8 r9 r10 r11 r12 r13 r14 r15 r16 r17 r18 r19 r20 r21 r22 r23 r24 r25 r26 px : Pos}

/-- one turn of the loop over the matches -/
theorem turnA {s₀ s : Shared} {mt : Addr} {m : Str → Option Value} {hit : Hit} {pre post : List Out} (hfs : splitAtGen fs = none) (hgd : gd false = false) (hfg : fs.any Frame.guarded = false) (hi : interactive env = false)
    (hh : (A.over c fs).handled = none) (O : EnvOk env L loc glob) (N : s.heap.Ns L m) (l1 : ("match" : Str) ∈ loc) (l2 : ("before" : Str) ∈ loc) (l3 : ("after" : Str) ∈ loc) (l4 : ("len" : Str) ∈ glob)
    (hv : m "match" = some (.ref mt)) (hm : MatchAt s.heap mt x hit) (hx : x.cps.size ≤ 100000) (hg : hit.g.length = 4) (Gk : GOk h₀ rx P code 2) (hb : ∀ b o, h₀.get? b = some o → s.heap.get? b = some o) (hL : h₀.get? L = none)
    (hl0 : (q5.endLine == q6.line) = true) (hl1 : (p6.endLine == p8.line) = true) (hl2 : (p19.endLine == p21.line) = true) (hl3 : (r6.endLine == r8.line) = true) (hl4 : (r19.endLine == r21.line) = true) (Si : Since [L] s₀ s) (hS : h₀.get? S = none)
    (hSL : L ≠ S) (hSm : @LT.lt Nat _ (S + 1) mt)
    (hk : ∀ s₀' s' m', Since [L] s₀' s' → s'.heap.Ns L m' → (∀ y : Str, y ≠ ("before" : Str) → y ≠ ("after" : Str) → m' y = m y) → (∀ b o, b ≠ L → b ≠ S → s.heap.get? b = some o → s'.heap.get? b = some o) →
      SegR (modelA prog w) A (ender [L]) (proto S [L] (pre ++ (outsA x c1 c2 c3 c4 hit ++ post))) post.length s₀' c (K .next) fs s') :
    SegR (modelA prog w) A (ender [L]) (proto S [L] (pre ++ (outsA x c1 c2 c3 c4 hit ++ post))) (outsA x c1 c2 c3 c4 hit ++ post).length s₀ c ((execs [
      .Assign [.Tuple [.Name "before" q1, .Name "after" q2] ka q3] (.Call (.Attribute (.Name "match" q4) "groups" q5) [] [] q6) q7,
      .If (.Compare (.Constant (.str tabS) kb p1) [.In] [.Name "before" p2] p3)
        [.Expr (.Yield (some (.Tuple [.Call (.Attribute (.Name "match" p5) "start" p6) [.Constant (.int (1 : Nat)) kc p7] [] p8, .Constant (.str c1) kd p9] ke p10)) p11) p12]
        [.If (.Compare (.Call (.Name "len" p13) [.Name "before" p14] [] p15) [.Gt] [.Constant (.int 1) kf p16] p17)
          [.Expr (.Yield (some (.Tuple [.Call (.Attribute (.Name "match" p18) "start" p19) [.Constant (.int (1 : Nat)) kg p20] [] p21, .Constant (.str c2) kh p22] ki p23)) p24) p25]
          [] p26] p4,
      .If (.Compare (.Constant (.str tabS) kj r1) [.In] [.Name "after" r2] r3)
        [.Expr (.Yield (some (.Tuple [.Call (.Attribute (.Name "match" r5) "start" r6) [.Constant (.int (2 : Nat)) kk r7] [] r8, .Constant (.str c3) kl r9] km r10)) r11) r12]
        [.If (.Compare (.Call (.Name "len" r13) [.Name "after" r14] [] r15) [.Gt] [.Constant (.int 1) kn r16] r17)
          [.Expr (.Yield (some (.Tuple [.Call (.Attribute (.Name "match" r18) "start" r19) [.Constant (.int (2 : Nat)) ko r20] [] r21, .Constant (.str c4) kp r22] kq r23)) r24) r25]
          [] r26] r4] env).wrap K H gd lv) fs s := by
  match hgl : hit.g, hg with
  | [a, b, c', d], _ =>
    have e0 : outsA x c1 c2 c3 c4 hit = blockOuts (sub x a b) a c1 c2 ++ blockOuts (sub x c' d) c' c3 c4 := by unfold outsA; rw [hgl]
    have hlen : ∀ u v : Nat, (sub x u v).length ≤ 100000 := fun u v => by
      show (x.cps.extract u v).size ≤ _
      rw [Array.size_extract]; omega
    obtain ⟨mg, mb, G1, B1, g1, b1, _⟩ := Gk.all
    rw [e0] at hk ⊢
    rw [List.append_assoc] at hk ⊢
    refine segR_leaf1 (asgGroups hh O N l1 l2 l3 hv hm hx hgl hl0 fun h1 tk m1 t1 t2 N1 v1 v2 hm1 k1 => ⟨rfl, ?_⟩)
    have hb1 : ∀ b o, h₀.get? b = some o → h1.get? b = some o := fun b o e => k1 b o (fun e' => by subst e'; rw [hL] at e; cases e) (hb b o e)
    have hmt1 : MatchAt h1 mt x hit := hm.keepL N k1
    have Si1 : Since [L] s₀ { s with heap := h1, toks := tk } := Si.step fun b o hb' _ e => k1 b o (by simpa using hb') e
    have hv1 : m1 "match" = some (.ref mt) := (hm1 _ (by decide) (by decide)).trans hv
    refine ifOut (g := 1) (a := a) (h := hit) (mt := mt) hfs hgd hfg hi O (by exact N1) l2 v1 l1 hv1 (G1.keeps hb1) (B1.keeps hb1) l4 g1 b1 (hlen _ _) (by decide) hmt1 (by rw [hgl]; rfl) (.inl rfl) (by rw [hgl]; rfl) hl1 hl2 Si1 fun s₀' s' a1 a2 => ?_
    have hb2 : ∀ b o, h₀.get? b = some o → s'.heap.get? b = some o := fun b o e => a2 b o (fun e' => by subst e'; rw [hS] at e; cases e) (hb1 b o e)
    have N2 : s'.heap.Ns L m1 := Ns_but N1 hSL a2
    rw [← List.append_assoc]
    refine ifOut (g := 2) (a := c') (h := hit) (mt := mt) hfs hgd hfg hi O N2 l3 v2 l1 hv1 (G1.keeps hb2) (B1.keeps hb2) l4 g1 b1 (hlen _ _) (by decide) (hmt1.but hSm a2) (by rw [hgl]; rfl) (.inr rfl) (by rw [hgl]; rfl) hl3 hl4 a1 fun s₁' s'' a3 a4 => ?_
    refine segR_nil ?_
    rw [List.append_assoc]
    exact hk s₁' s'' m1 a3 (Ns_but N2 hSL a4) hm1 fun b o h1 h2 e => a4 b o h2 (a2 b o h2 (k1 b o h1 e))
end
end Mine

end

/-! ## LGenC -/
section
open PySem PySem.W PyProof.Rows PySem.Calls
namespace Mine
set_option maxRecDepth 100000

def loopCode (nm : Str) (px : Pos) (it : Addr) (body : List Stmt) (env : Env) : Code := .forLoop (.Name nm px) (.ref it) body [] env
def loopK (nm : Str) (px : Pos) (it : Addr) (body : List Stmt) (env : Env) : Flow → Sem PySem.Fin := fun f => match f with
  | .next | .cont => .pure (.again (.forLoop (.Name nm px) (.ref it) body [] env))
  | .brk => .pure (.done .next)
  | .ret v => .pure (.done (.ret v))
def loopH (env : Env) : Value → Sem PySem.Fin := fun e => (do noteFrame e env; theTreesLotGoes e : Sem Unit).wrap (fun _ => .raise e) .raise id id
theorem movs_sc {vs : Array Value} (h : movs (scObj vs) = false) : False := by
  have : movs (scObj vs) = true := by simp [movs]
  rw [this] at h; cases h
theorem movs_ci {vs : Array Value} (h : movs { cls := .type "callable_iterator", data := .fields vs } = false) : False := by
  have : movs { cls := .type "callable_iterator", data := .fields vs } = true := by simp [movs]
  rw [this] at h; cases h
def SameN (l : List Str) (m m' : Str → Option Value) : Prop := ∀ y ∈ l, m' y = m y

section
variable {prog : Program} {w : World} {A : Around} {env : Env} {L S it me sc P : Addr} {loc glob keepN : List Str} {code : Array Nat} {groups : Nat} {try_ : Option Nat → Nat → List Nat → Option Hit} {x rx nm : Str} {h₀ : Heap}
  {c : Code} {fs : List PySem.Frame} {K : Flow → Sem PySem.Fin} {H : Value → Sem PySem.Fin} {gd : Bool → Bool} {lv : List Value → List Value} {px pp : Pos} {body : List Stmt} {outOf : Hit → List Out} {pre post : List Out} {m₀ : Str → Option Value}

/-- what is asked of a turn of the loop -/
def Turn (prog : Program) (w : World) (A : Around) (env : Env) (L S : Addr) (keepN : List Str) (groups : Nat) (x nm : Str) (h₀ : Heap) (c₁ : Code) (fs₁ : List PySem.Frame) (K₁ : Flow → Sem PySem.Fin) (H₁ : Value → Sem PySem.Fin) (body : List Stmt)
    (outOf : Hit → List Out) (m₀ : Str → Option Value) : Prop :=
  ∀ (s₀ s : Shared) (mt : Addr) (m : Str → Option Value) (hit : Hit) (pre post : List Out), s.heap.Ns L m → m nm = some (.ref mt) → SameN keepN m₀ m → MatchAt s.heap mt x hit → hit.Ok x.cps.size groups →
    (∀ b o, h₀.get? b = some o → s.heap.get? b = some o) → Since [L] s₀ s → @LT.lt Nat _ (S + 1) mt →
    (∀ s₀' s' m', Since [L] s₀' s' → s'.heap.Ns L m' → SameN keepN m₀ m' → (∀ b o, b ≠ L → b ≠ S → s.heap.get? b = some o → s'.heap.get? b = some o) →
      SegR (modelA prog w) A (ender [L]) (proto S [L] (pre ++ (outOf hit ++ post))) post.length s₀' c₁ (K₁ .next) fs₁ s') →
    SegR (modelA prog w) A (ender [L]) (proto S [L] (pre ++ (outOf hit ++ post))) (outOf hit ++ post).length s₀ c₁ ((execs body env).wrap K₁ H₁ id id) fs₁ s

theorem loopG (hh : (A.over (loopCode nm px it body env) (forFrame K H gd lv env c pp :: fs)).handled = none) (hu : (A.over (loopCode nm px it body env) (forFrame K H gd lv env c pp :: fs)).units + 1 < cLine)
    (O : EnvOk env L loc glob) (l1 : nm ∈ loc) (hnk : nm ∉ keepN) (Gk : GOk h₀ rx P code groups) (R : Rx code groups try_) (hx : x.cps.size ≤ 100000) (hL : h₀.get? L = none) (hS : h₀.get? S = none) (hSL : L ≠ S)
    (hsc : h₀.get? sc = none) (hi : sc ≠ it) (hm : sc ≠ me) (hLs : @LT.lt Nat _ L sc) (hLi : @LT.lt Nat _ L it) (hLm : L ≠ me) (hSs : sc ≠ S) (hSi : @LT.lt Nat _ S it) (hSm : me ≠ S)
    (turn : Turn prog w A env L S keepN groups x nm h₀ (loopCode nm px it body env) (forFrame K H gd lv env c pp :: fs) (loopK nm px it body env) (loopH env) body outOf m₀)
    (hend : ∀ s₀' s' m' pre', Since [L] s₀' s' → s'.heap.Ns L m' → SameN keepN m₀ m' → (∀ b o, h₀.get? b = some o → s'.heap.get? b = some o) →
      SegR (modelA prog w) A (ender [L]) (proto S [L] (pre' ++ post)) post.length s₀' c (K .next) fs s') (hit0 : h₀.get? it = none) :
    ∀ (k p : Nat) (s₀ s : Shared) (m : Str → Option Value) (pre : List Out), p ≤ x.cps.size → x.cps.size < p + k → IterAt s.heap it me sc P x p → s.heap.Ns L m → SameN keepN m₀ m → (∀ b o, h₀.get? b = some o → s.heap.get? b = some o) → Since [L] s₀ s →
      SegR (modelA prog w) A (ender [L]) (proto S [L] (pre ++ ((hitsF try_ x.cps k p).flatMap outOf ++ post))) ((hitsF try_ x.cps k p).flatMap outOf ++ post).length s₀ (loopCode nm px it body env)
        ((modelA prog w).den (loopCode nm px it body env)) (forFrame K H gd lv env c pp :: fs) s := by
  intro k
  induction k with
  | zero => intro p s₀ s m pre hp hk; omega
  | succ k ih =>
    intro p s₀ s m pre hp hk I N hN hb Si
    refine segR_forLoop ?_
    cases hf : findL try_ (prevAt x.cps p) p (x.cps.toList.drop p) with
    | none =>
      have e : hitsF try_ x.cps (k + 1) p = [] := by unfold hitsF; rw [hf]
      rw [e, List.flatMap_nil, List.nil_append]
      refine pyNext_end R (Gk.pat.keeps hb) I hx hp hh hf hi hm fun h' k1 => ?_
      have Si' : Since [L] s₀ { s with heap := h' } := Si.step (tk := s.toks) fun b o hb' hmv e => k1 b o (fun e' => by
        subst e'
        obtain ⟨tk, h3⟩ := I.sc_
        rw [h3] at e; cases e; exact hmv.elim (fun q => absurd (q L (by simp)) (Nat.lt_asymm hLs)) movs_sc) (fun e' => by
        subst e'
        have := I.it_
        rw [this] at e; cases e; exact hmv.elim (fun q => absurd (q L (by simp)) (Nat.lt_asymm hLi)) movs_ci) e
      exact segR_endFor (hend s₀ _ m pre Si' (let ⟨o, es, ep, h1, r⟩ := N; ⟨o, es, ep, k1 _ _ (Nat.ne_of_lt hLs) (Nat.ne_of_lt hLi) h1, r⟩) hN
        fun b o e => k1 b o (fun e' => by subst e'; rw [hsc] at e; cases e) (fun e' => by subst e'; rw [hit0] at e; cases e) (hb b o e))
    | some hit =>
      have e : hitsF try_ x.cps (k + 1) p = hit :: hitsF try_ x.cps k hit.e := by
        show (match findL try_ (prevAt x.cps p) p (x.cps.toList.drop p) with | none => [] | some h => h :: hitsF try_ x.cps k h.e) = _
        rw [hf]
      obtain ⟨ok, hle⟩ := R.ok.hit hf
      rw [e, List.flatMap_cons]
      refine pyNext_win R (Gk.pat.keeps hb) I hx hp hu hf hi hm fun mt h' hmt k1 I' hge => ?_
      have N1 : h'.Ns L m := let ⟨o, es, ep, h1, r⟩ := N; ⟨o, es, ep, k1 _ _ (Nat.ne_of_lt hLs) h1, r⟩
      refine stL O (by exact N1) l1 fun h2 N2 e2 => ?_
      have hmt2 : MatchAt h2 mt x hit := hmt.same N1 e2
      have I2 : IterAt h2 it me sc P x hit.e := I'.same N1 e2
      have hb2 : ∀ b o, h₀.get? b = some o → h2.get? b = some o := fun b o e => (e2.2 b (fun e' => by subst e'; rw [hL] at e; cases e)).trans
        (k1 b o (fun e' => by subst e'; rw [hsc] at e; cases e) (hb b o e))
      have Si2 : Since [L] s₀ { s with heap := h2, toks := s.toks + 1 } := Si.step fun b o hb' hmv e => (e2.2 b (by simpa using hb')).trans (k1 b o (fun e' => by
        subst e'
        obtain ⟨tk, h3⟩ := I.sc_
        rw [h3] at e; cases e; exact hmv.elim (fun q => absurd (q L (by simp)) (Nat.lt_asymm hLs)) movs_sc) e)
      have hlt : @LT.lt Nat _ it s.heap.objs.size := Heap.lt_size I.it_
      rw [List.append_assoc]
      refine turn s₀ _ mt _ hit pre ((hitsF try_ x.cps k hit.e).flatMap outOf ++ post) N2 (by rw [if_pos rfl]) (fun y hy => ?_) hmt2 ok hb2 Si2 (by omega) fun s₀' s' m' Si' N' hN' k3 => ?_
      · rw [if_neg (show ¬ y = nm from fun e => hnk (e ▸ hy))]; exact hN y hy
      · refine segR_again rfl rfl ?_
        rw [← List.append_assoc]
        have hb3 : ∀ b o, h₀.get? b = some o → s'.heap.get? b = some o := fun b o e => k3 b o (fun e' => by subst e'; rw [hL] at e; cases e) (fun e' => by subst e'; rw [hS] at e; cases e) (hb2 b o e)
        have I3 : IterAt s'.heap it me sc P x hit.e := by
          obtain ⟨tk, h3⟩ := I2.sc_
          exact ⟨k3 _ _ (Nat.ne_of_gt hLi) (Nat.ne_of_gt hSi) I2.it_, k3 _ _ (Ne.symm hLm) hSm I2.me_, ⟨tk, k3 _ _ (Nat.ne_of_gt hLs) hSs h3⟩⟩
        exact ih hit.e s₀' s' m' (pre ++ outOf hit) ok.top (by have := ok.le; omega) I3 N' hN' hb3 Si'
end
end Mine

end

/-! ## LGenD -/
section
open PySem PySem.W PyProof.Rows PySem.Calls
namespace Mine
set_option maxRecDepth 100000

abbrev funcK : Flow → Sem PySem.Fin := fun f => .pure (.done (.ret (match f with | .ret v => v | _ => .none)))
abbrev funcH (env : Env) : Value → Sem PySem.Fin := fun e => (leaving env e).wrap (fun _ => .raise e) .raise id id
section
variable {prog : Program} {w : World} {A : Around} {env : Env} {L S P : Addr} {loc glob keepN : List Str} {code : Array Nat} {groups : Nat} {try_ : Option Nat → Nat → List Nat → Option Hit} {x rx nm : Str} {h₀ : Heap}
  {an : Str} {px : Pos} {body rest : List Stmt} {outOf : Hit → List Out} {post : List Out} {m : Str → Option Value} {s₀ s : Shared} {tk : Tok} {f1 f2 f3 f4 f5 : Pos}

abbrev forK (env : Env) (rest : List Stmt) : Flow → Sem PySem.Fin := fun f => match f with | .next => (execs rest env).wrap funcK (funcH env) id id | f => funcK f
/-- for NAME in RX.finditer(logical_line): .. at a def's head -/
theorem forG (fb : Code) (hfb : fb.cUnits ≤ 10) (hh : A.handled = none) (hu : A.units + 20 < cLine) (O : EnvOk env L loc glob) (l1 : nm ∈ loc) (l2 : an ∈ loc) (g1 : rx ∈ glob) (hd : (rx == ("__debug__" : Str)) = false) (hnk : nm ∉ keepN)
    (Gk : GOk h₀ rx P code groups) (R : Rx code groups try_) (hx : x.cps.size ≤ 100000) (hL : h₀.get? L = none) (hS : h₀.get? S = none) (hSL : L ≠ S) (hl : (f2.endLine == f4.line) = true)
    (N : s.heap.Ns L m) (hv : m an = some (.str x tk)) (hda : (an == ("__debug__" : Str)) = false) (hb : ∀ b o, h₀.get? b = some o → s.heap.get? b = some o) (hSz : ∃ o, s.heap.get? S = some o) (Si : Since [L] s₀ s)
    (turn : ∀ it pp, Turn prog w A env L S keepN groups x nm h₀ (loopCode nm px it body env) [forFrame (forK env rest) (funcH env) id id env fb pp] (loopK nm px it body env) (loopH env) body outOf m)
    (hend : ∀ s₀' s' m' pre', Since [L] s₀' s' → s'.heap.Ns L m' → SameN keepN m m' → (∀ b o, h₀.get? b = some o → s'.heap.get? b = some o) →
      SegR (modelA prog w) A (ender [L]) (proto S [L] (pre' ++ post)) post.length s₀' fb ((execs rest env).wrap funcK (funcH env) id id) [] s') :
    SegR (modelA prog w) A (ender [L]) (proto S [L] ((hitsF try_ x.cps (x.cps.size + 1) 0).flatMap outOf ++ post)) ((hitsF try_ x.cps (x.cps.size + 1) 0).flatMap outOf ++ post).length s₀ fb
      ((execs (.For (.Name nm px) (.Call (.Attribute (.Name rx f1) "finditer" f2) [.Name an f3] [] f4) body [] f5 :: rest) env).wrap funcK (funcH env) id id) [] s := by
  obtain ⟨mg, mb, G1, B1, _, _, hrx⟩ := Gk.all
  have hSlt : @LT.lt Nat _ S s.heap.objs.size := let ⟨o, e⟩ := hSz; Heap.lt_size e
  have hLlt : @LT.lt Nat _ L s.heap.objs.size := N.lt
  refine segR_For (fun _ => rfl) ?_
  refine Call_method1 rfl rfl hl (ldG O g1 (G1.keeps hb) hrx ?_ hd)
  refine on_finditer (Gk.pat.keeps hb) hx (ldL O N l2 hv ⟨tk, rfl, rfl⟩ hda) fun h' I k1 hlt => ?_
  refine ⟨_, rfl, ⟨_, I.it_, rfl⟩, fun pp => ?_⟩
  have none_ge : ∀ b : Addr, @LE.le Nat _ s.heap.objs.size b → h₀.get? b = none := fun b hge => by
    cases e : h₀.get? b with
    | none => rfl
    | some o => exact absurd (Heap.lt_size (hb b o e)) (Nat.not_lt.mpr hge)
  have a1 : s.heap.objs.size ≠ s.heap.objs.size + 2 := by omega
  have a2 : s.heap.objs.size ≠ s.heap.objs.size + 1 := by omega
  have a3 : (L : Nat) < s.heap.objs.size := hLlt
  have a4 : (L : Nat) < s.heap.objs.size + 2 := Nat.lt_of_lt_of_le hLlt (by omega)
  have a5 : (L : Nat) ≠ s.heap.objs.size + 1 := Nat.ne_of_lt (Nat.lt_of_lt_of_le hLlt (by omega))
  have a6 : s.heap.objs.size ≠ (S : Nat) := Nat.ne_of_gt hSlt
  have a7 : (S : Nat) < s.heap.objs.size + 2 := Nat.lt_of_lt_of_le hSlt (by omega)
  have a8 : s.heap.objs.size + 1 ≠ (S : Nat) := Nat.ne_of_gt (Nat.lt_of_lt_of_le hSlt (by omega))
  have hcu : (loopCode nm px (s.heap.objs.size + 2) body env).cUnits = 0 := rfl
  have hu' : (A.over (loopCode nm px (s.heap.objs.size + 2) body env) [forFrame (forK env rest) (funcH env) id id env fb pp]).units + 1 < cLine := by
    show A.units + unitsOf [(fb, pp)] + (loopCode nm px _ body env).cUnits + 1 < cLine
    rw [unitsOf_cons, unitsOf_nil, hcu]
    omega
  exact loopG (A := A) (it := s.heap.objs.size + 2) (me := s.heap.objs.size + 1) (sc := s.heap.objs.size) (keepN := keepN) (m₀ := m) (c := fb) (fs := []) (K := forK env rest) (H := funcH env) (gd := id) (lv := id) (pp := pp) (px := px) (body := body) (nm := nm) (env := env)
    (by exact hh) hu' O l1 hnk Gk R hx hL hS hSL (none_ge _ (Nat.le_refl _)) a1 a2 a3 a4 a5 a6 a7 a8
    (turn _ pp) hend (none_ge _ (Nat.le_add_right _ 2)) (x.cps.size + 1) 0 s₀ _ m [] (Nat.zero_le _) (by omega) I (N.keeps k1) (fun _ _ => rfl) (fun b o e => k1 b o (hb b o e)) (Si.step fun b o _ _ e => k1 b o e)
end
end Mine

end

/-! ## LGenE -/
section
open PySem PySem.W PyProof.Rows PySem.Calls
namespace Mine
set_option maxRecDepth 100000

section
variable {prog : Program} {w : World} {A : Around} {env : Env} {L S P : Addr} {loc glob : List Str} {code : Array Nat} {try_ : Option Nat → Nat → List Nat → Option Hit} {x rx c1 c2 c3 c4 : Str} {h₀ : Heap} {m : Str → Option Value} {s : Shared} {tk : Tok}
  {ka kb kc kd ke kf kg kh ki kj kk kl km kn ko kp kq : Nat}
  {q1 q2 q3 q4 q5 q6 q7 p1 p2 p3 p4 p5 p6 p7 p8 p9 p10 p11 p12 p13 p14 p15 p16 p17 p18 p19 p20 p21 p22 p23 p24 p25 p26 r1 r2 r3 r4 r5 r6 r7 r8 r9 r10 r11 r12 r13 r14 r15 r16 r17 r18 r19 r20 r21 r22 r23 r24 r25 r26 px f1 f2 f3 f4 f5 : Pos}

/-- the walks over keywords and over operators -/
theorem genA (hh : A.handled = none) (hu : A.units + 20 < cLine) (hi : interactive env = false) (O : EnvOk env L loc glob) (l1 : ("match" : Str) ∈ loc) (l2 : ("before" : Str) ∈ loc) (l3 : ("after" : Str) ∈ loc) (l5 : ("logical_line" : Str) ∈ loc) (l4 : ("len" : Str) ∈ glob) (g1 : rx ∈ glob)
    (hd : (rx == ("__debug__" : Str)) = false) (Gk : GOk h₀ rx P code 2) (R : Rx code 2 try_) (hx : x.cps.size ≤ 100000) (hL : h₀.get? L = none) (hS : h₀.get? S = none) (hSL : L ≠ S) (hl : (f2.endLine == f4.line) = true)
    (hl0 : (q5.endLine == q6.line) = true) (hl1 : (p6.endLine == p8.line) = true) (hl2 : (p19.endLine == p21.line) = true) (hl3 : (r6.endLine == r8.line) = true) (hl4 : (r19.endLine == r21.line) = true)
    (N : s.heap.Ns L m) (hv : m "logical_line" = some (.str x tk)) (hb : ∀ b o, h₀.get? b = some o → s.heap.get? b = some o) (hSz : ∃ o, s.heap.get? S = some o) {body : List Stmt}
    (hbody : body = [.For (.Name "match" px) (.Call (.Attribute (.Name rx f1) "finditer" f2) [.Name "logical_line" f3] [] f4) [
      .Assign [.Tuple [.Name "before" q1, .Name "after" q2] ka q3] (.Call (.Attribute (.Name "match" q4) "groups" q5) [] [] q6) q7,
      .If (.Compare (.Constant (.str tabS) kb p1) [.In] [.Name "before" p2] p3)
        [.Expr (.Yield (some (.Tuple [.Call (.Attribute (.Name "match" p5) "start" p6) [.Constant (.int (1 : Nat)) kc p7] [] p8, .Constant (.str c1) kd p9] ke p10)) p11) p12]
        [.If (.Compare (.Call (.Name "len" p13) [.Name "before" p14] [] p15) [.Gt] [.Constant (.int 1) kf p16] p17)
          [.Expr (.Yield (some (.Tuple [.Call (.Attribute (.Name "match" p18) "start" p19) [.Constant (.int (1 : Nat)) kg p20] [] p21, .Constant (.str c2) kh p22] ki p23)) p24) p25]
          [] p26] p4,
      .If (.Compare (.Constant (.str tabS) kj r1) [.In] [.Name "after" r2] r3)
        [.Expr (.Yield (some (.Tuple [.Call (.Attribute (.Name "match" r5) "start" r6) [.Constant (.int (2 : Nat)) kk r7] [] r8, .Constant (.str c3) kl r9] km r10)) r11) r12]
        [.If (.Compare (.Call (.Name "len" r13) [.Name "after" r14] [] r15) [.Gt] [.Constant (.int 1) kn r16] r17)
          [.Expr (.Yield (some (.Tuple [.Call (.Attribute (.Name "match" r18) "start" r19) [.Constant (.int (2 : Nat)) ko r20] [] r21, .Constant (.str c4) kp r22] kq r23)) r24) r25]
          [] r26] r4] [] f5]) :
    SegR (modelA prog w) A (ender [L]) (proto S [L] ((hitsF try_ x.cps (x.cps.size + 1) 0).flatMap (outsA x c1 c2 c3 c4))) ((hitsF try_ x.cps (x.cps.size + 1) 0).flatMap (outsA x c1 c2 c3 c4)).length s (.func body env)
      ((modelA prog w).den (.func body env)) [] s := by
  refine segR_func ?_
  have hfu : (Code.func body env).cUnits ≤ 10 := by show 3 ≤ 10; decide
  generalize hfb : Code.func body env = fb at hfu ⊢
  subst hbody
  have key := forG (prog := prog) (w := w) (post := []) (keepN := []) (outOf := outsA x c1 c2 c3 c4) (px := px) (f1 := f1) (f2 := f2) (f3 := f3) (f4 := f4) (f5 := f5) (rest := []) (s₀ := s) (S := S) fb hfu hh hu O l1 l5 g1 hd (by simp) Gk R hx hL hS hSL hl N hv (by decide) hb hSz (Since.refl _ _)
    (body := [
      .Assign [.Tuple [.Name "before" q1, .Name "after" q2] ka q3] (.Call (.Attribute (.Name "match" q4) "groups" q5) [] [] q6) q7,
      .If (.Compare (.Constant (.str tabS) kb p1) [.In] [.Name "before" p2] p3)
        [.Expr (.Yield (some (.Tuple [.Call (.Attribute (.Name "match" p5) "start" p6) [.Constant (.int (1 : Nat)) kc p7] [] p8, .Constant (.str c1) kd p9] ke p10)) p11) p12]
        [.If (.Compare (.Call (.Name "len" p13) [.Name "before" p14] [] p15) [.Gt] [.Constant (.int 1) kf p16] p17)
          [.Expr (.Yield (some (.Tuple [.Call (.Attribute (.Name "match" p18) "start" p19) [.Constant (.int (1 : Nat)) kg p20] [] p21, .Constant (.str c2) kh p22] ki p23)) p24) p25]
          [] p26] p4,
      .If (.Compare (.Constant (.str tabS) kj r1) [.In] [.Name "after" r2] r3)
        [.Expr (.Yield (some (.Tuple [.Call (.Attribute (.Name "match" r5) "start" r6) [.Constant (.int (2 : Nat)) kk r7] [] r8, .Constant (.str c3) kl r9] km r10)) r11) r12]
        [.If (.Compare (.Call (.Name "len" r13) [.Name "after" r14] [] r15) [.Gt] [.Constant (.int 1) kn r16] r17)
          [.Expr (.Yield (some (.Tuple [.Call (.Attribute (.Name "match" r18) "start" r19) [.Constant (.int (2 : Nat)) ko r20] [] r21, .Constant (.str c4) kp r22] kq r23)) r24) r25]
          [] r26] r4])
    (fun it pp s₀ s mt m' hit pre post N hv' _ hm ok hb' Si hSm hk => turnA rfl rfl rfl hi (by exact hh) O N l1 l2 l3 l4 hv' hm hx ok.len Gk hb' hL hl0 hl1 hl2 hl3 hl4 Si hS hSL hSm fun s₀' s' m'' a b _ d => hk s₀' s' m'' a b (fun _ h => absurd h (by simp)) d)
    (fun s₀' s' m' pre' Si' _ _ _ => segR_nil (segR_end (.ok (.ret .none)) ⟨rfl, rfl, Si'⟩))
  rw [List.append_nil] at key
  exact key
end
end Mine

end

/-! ## LFmt -/
section
open PySem PySem.W PyProof.Rows PySem.Calls
namespace Mine
set_option maxRecDepth 100000
section
variable {prog : Program} {w : World} {A : Around} {E : Value → Shared → Prop} {s : Shared} {y : Str} {t u : Tok} {Q : Value → Shared → Prop}
theorem mod242 (hy : y.length ≤ 1000000) (h : ∀ t' k, Q (.str (("E242 tab after '" : Str) ++ y ++ ("'" : Str)) t') { s with toks := k }) :
    wpAny (model prog w) A (binaryOp .Mod (.str "E242 tab after '%s'" t) (.str y u)) Q E s := by
  refine' KPc.mod_str (T := fun y => ("E242 tab after '" : Str) ++ y ++ ("'" : Str)) ?kpcF hy ?kpcm h
  case kpcF => kpc_eq
  case kpcm => kpc_run_s
theorem mod241 (hy : y.length ≤ 1000000) (h : ∀ t' k, Q (.str (("E241 multiple spaces after '" : Str) ++ y ++ ("'" : Str)) t') { s with toks := k }) :
    wpAny (model prog w) A (binaryOp .Mod (.str "E241 multiple spaces after '%s'" t) (.str y u)) Q E s := by
  refine' KPc.mod_str (T := fun y => ("E241 multiple spaces after '" : Str) ++ y ++ ("'" : Str)) ?kpcF hy ?kpcm h
  case kpcF => kpc_eq
  case kpcm => kpc_run_s
theorem mod201 (hy : y.length ≤ 1000000) (h : ∀ t' k, Q (.str (("E201 whitespace after '" : Str) ++ y ++ ("'" : Str)) t') { s with toks := k }) :
    wpAny (model prog w) A (binaryOp .Mod (.str "E201 whitespace after '%s'" t) (.str y u)) Q E s := by
  refine' KPc.mod_str (T := fun y => ("E201 whitespace after '" : Str) ++ y ++ ("'" : Str)) ?kpcF hy ?kpcm h
  case kpcF => kpc_eq
  case kpcm => kpc_run_s
end
end Mine

end

/-! ## LGenF -/
section
open PySem PySem.W PyProof.Rows PySem.Calls
namespace Mine
set_option maxRecDepth 100000

def outsC (x : Str) (h : Hit) : List Out :=
  [((h.s : Int) + 1, if Txt.contains (sub x h.s h.e) tabS then ("E242 tab after '" : Str) ++ Txt.item (sub x h.s h.e) 0 ++ ("'" : Str) else ("E241 multiple spaces after '" : Str) ++ Txt.item (sub x h.s h.e) 0 ++ ("'" : Str))]
theorem charAt_ok {y : Str} {i : Int} (h : 0 ≤ i) (hi : i < y.length) : (Txt.charAt y i).isSome = true := by
  unfold Txt.charAt
  have : seqIndex? i y.length = some i.toNat := by
    unfold seqIndex?
    simp only [show ¬ i < 0 by omega, if_false]
    rw [if_pos (by simp; omega)]
  rw [this]
  simp only [Option.bind_some]
  rw [Array.getElem?_eq_getElem (by show i.toNat < y.cps.size; have : y.length = y.cps.size := rfl; omega)]
  rfl
theorem sub_length {x : Str} {a b : Nat} (hb : b ≤ x.cps.size) : (sub x a b).length = b - a := by
  show (x.cps.extract a b).size = _
  rw [Array.size_extract]; omega
theorem item_length (y : Str) (i : Int) : (Txt.item y i).length = 1 := rfl

section
variable {prog : Program} {w : World} {A : Around} {E : Value → Shared → Prop} {env : Env} {L S mt P : Addr} {loc glob : List Str} {m : Str → Option Value} {x : Str} {h : Hit} {s : Shared}
theorem strItem {value slice : Expr} {y : Str} {i : Int} {t u : Tok} {Q : Value → Shared → Prop} (hr : fitsSsize i = true) (hin : (Txt.charAt y i).isSome = true) (h : Q (.str (Txt.item y i) s.toks) { s with toks := s.toks + 1 })
    (hs : subscripted slice false (.str y t) (.int i u) = operate [.str y t, .int i u] (getItem (.str y t) (.int i u))) : wpAny (model prog w) A (subscriptTail value slice (.str y t) (.int i u)) Q E s :=
  tail_any (typeIs_str _ _ _) F.slot_str_getitem.lookup (SB.getItem hr hin h) hs
/-- m.group()[0] -/
theorem groupItem {nm : Str} {k : Nat} {p1 p2 p3 p4 p5 : Pos} {Q : Value → Shared → Prop} (O : EnvOk env L loc glob) (N : s.heap.Ns L m) (hn : nm ∈ loc) (hd : (nm == ("__debug__" : Str)) = false) (hv : m nm = some (.ref mt)) (hm : MatchAt s.heap mt x h) (hx : x.cps.size ≤ 100000)
    (ok : h.s < h.e ∧ h.e ≤ x.cps.size) (hl : (p2.endLine == p3.line) = true) (hQ : ∀ t tk, Q (.str (Txt.item (sub x h.s h.e) 0) t) { s with toks := tk }) :
    wpAny (model prog w) A (eval (.Subscript (.Call (.Attribute (.Name nm p1) "group" p2) [] [] p3) (.Constant (.int 0) k p4) p5) env) Q E s := by
  refine Subscript_ ?_
  refine Call_method0 rfl hl (ldL O N hn hv ?_ hd)
  refine on_group hm hx ?_
  refine wpAny_Constant_int ?_
  exact strItem (by decide) (charAt_ok (by decide) (by rw [sub_length ok.2]; omega)) (hQ _ _) rfl
end

section
variable {prog : Program} {w : World} {A : Around} {env : Env} {L S P : Addr} {loc glob keepN : List Str} {x : Str} {h₀ : Heap} {c : Code} {fs : List PySem.Frame} {K : Flow → Sem PySem.Fin} {H : Value → Sem PySem.Fin}
  {ka kb kc kd ke kf kg kh : Nat} {p1 p2 p3 p4 p5 p6 p7 p8 p9 p10 p11 p12 p13 p14 p15 p16 p17 p18 p19 p20 p21 p22 p23 p24 p25 p26 p27 p28 p29 p30 p31 p32 p33 p34 p35 : Pos} {m₀ : Str → Option Value}
theorem foundAsg {E : Value → Shared → Prop} {nm dst : Str} {s : Shared} {mt : Addr} {m : Str → Option Value} {hit : Hit} {Q : Flow → Shared → Prop} (O : EnvOk env L loc glob) (N : s.heap.Ns L m) (l1 : nm ∈ loc) (l2 : dst ∈ loc) (hd : (nm == ("__debug__" : Str)) = false)
    (hv : m nm = some (.ref mt)) (hm : MatchAt s.heap mt x hit) (hl0 : (p3.endLine == p4.line) = true)
    (hQ : ∀ h' tk t, h'.Ns L (fun y => if y = dst then some (.int ((hit.s : Int) + 1) t) else m y) → Heap.SameBut L s.heap h' → Q .next { s with heap := h', toks := tk }) :
    wpAny (model prog w) A (exec (.Assign [.Name dst p1] (.BinOp (.Call (.Attribute (.Name nm p2) "start" p3) [] [] p4) .Add (.Constant (.int 1) ka p5) p6) p7) env) Q E s := by
  refine wpAny_Assign_Name ?_ rfl
  refine wpAny_BinOp ?_
  refine Call_method0 rfl hl0 (ldL O N l1 hv ?_ hd)
  refine on_start hm ?_
  refine wpAny_Constant_int ?_
  refine PyProof.Rows.add_int ?_
  exact stL O (by exact N) l2 fun h' N' e' => hQ h' _ _ N' e'
theorem tabGroup {E : Value → Shared → Prop} {nm : Str} {s : Shared} {mt : Addr} {m : Str → Option Value} {hit : Hit} {whole : Sem Value} {Q : Bool → Shared → Prop} (O : EnvOk env L loc glob) (N : s.heap.Ns L m) (l1 : nm ∈ loc) (hd : (nm == ("__debug__" : Str)) = false)
    (hv : m nm = some (.ref mt)) (hm : MatchAt s.heap mt x hit) (hx : x.cps.size ≤ 100000) (hl0 : (p3.endLine == p4.line) = true)
    (hQ : ∀ tk, Q (Txt.contains (sub x hit.s hit.e) tabS) { s with toks := tk }) :
    wpAny (model prog w) A (isTrue (.Compare (.Constant (.str tabS) ka p1) [.In] [.Call (.Attribute (.Name nm p2) "group" p3) [] [] p4] p5) env whole) Q E s := by
  refine wpAny_isTrue_Compare1 (wpAny_Constant_str ?_) rfl
  refine Call_method0 rfl hl0 (ldL O (by exact N) l1 hv ?_ hd)
  refine on_group (by exact hm) hx ?_
  exact SB.contains (wpAny_truthy_bool (hQ _))

theorem turnC {nm : Str} (hi : interactive env = false) (hfs : splitAtGen fs = none) (hfg : fs.any Frame.guarded = false)
    (O : EnvOk env L loc glob) (l1 : nm ∈ loc) (l2 : ("found" : Str) ∈ loc) (hnf : nm ≠ ("found" : Str)) (hd : (nm == ("__debug__" : Str)) = false) (hkf : ("found" : Str) ∉ keepN) (hx : x.cps.size ≤ 100000) (hSL : L ≠ S)
    (hl0 : (p3.endLine == p4.line) = true) (hl1 : (p10.endLine == p11.line) = true) (hl2 : (p16.endLine == p17.line) = true) (hl3 : (p27.endLine == p28.line) = true) :
    Turn prog w A env L S keepN 0 x nm h₀ c fs K H [
      .Assign [.Name "found" p1] (.BinOp (.Call (.Attribute (.Name nm p2) "start" p3) [] [] p4) .Add (.Constant (.int 1) ka p5) p6) p7,
      .If (.Compare (.Constant (.str tabS) kb p8) [.In] [.Call (.Attribute (.Name nm p9) "group" p10) [] [] p11] p12)
        [.Expr (.Yield (some (.Tuple [.Name "found" p13, .BinOp (.Constant (.str "E242 tab after '%s'") kc p14) .Mod (.Subscript (.Call (.Attribute (.Name nm p15) "group" p16) [] [] p17) (.Constant (.int 0) kd p18) p19) p20] ke p21)) p22) p23]
        [.Expr (.Yield (some (.Tuple [.Name "found" p24, .BinOp (.Constant (.str "E241 multiple spaces after '%s'") kf p25) .Mod (.Subscript (.Call (.Attribute (.Name nm p26) "group" p27) [] [] p28) (.Constant (.int 0) kg p29) p30) p31] kh p32)) p33) p34] p35]
      (outsC x) m₀ := by
  intro s₀ s mt m hit pre post N hv hN hm ok hb Si hSm hk
  refine segR_leaf1 (foundAsg O N l1 l2 hd hv hm hl0 fun h1 tk t N1 e1 => ⟨rfl, ?_⟩)
  have hm1 : MatchAt h1 mt x hit := hm.same N e1
  have Si1 : Since [L] s₀ { s with heap := h1, toks := tk } := Si.step (ExtD.same e1 (by simp))
  have hv1 : (fun y => if y = ("found" : Str) then some (Value.int ((hit.s : Int) + 1) t) else m y) nm = some (.ref mt) := by simp only; rw [if_neg hnf]; exact hv
  have hN1 : SameN keepN m₀ (fun y => if y = ("found" : Str) then some (Value.int ((hit.s : Int) + 1) t) else m y) := fun y hy => by
    simp only; rw [if_neg (show ¬ y = ("found" : Str) from fun e => hkf (e ▸ hy))]; exact hN y hy
  have go : ∀ (T : Str) (s' s'' : Shared), (∀ b o, b ≠ S → h1.get? b = some o → s'.heap.get? b = some o) → (∀ b o, b ≠ S → s'.heap.get? b = some o → s''.heap.get? b = some o) →
      outsC x hit = [((hit.s : Int) + 1, T)] → SegR (modelA prog w) A (ender [L]) (proto S [L] (pre ++ ([((hit.s : Int) + 1, T)] ++ post))) post.length s'' c (K .next) fs s'' := fun T s' s'' k1 k2 eT => by
    rw [← eT]
    exact hk s'' s'' _ (Since.refl _ _) (Ns_but N1 hSL (fun b o hb' e => k2 b o hb' (k1 b o hb' e))) hN1 fun b o hb1 hb2 e => k2 b o hb2 (k1 b o hb2 ((e1.2 b hb1).trans e))
  refine segR_If (tabGroup O (by exact N1) l1 hd hv1 hm1 hx hl1 fun tk1 => ?_)
  have hlen : ∀ z : Int, (Txt.item (sub x hit.s hit.e) z).length ≤ 1000000 := fun z => by rw [item_length]; decide
  by_cases hT : Txt.contains (sub x hit.s hit.e) tabS = true
  · rw [hT]
    have eT : outsC x hit = [((hit.s : Int) + 1, ("E242 tab after '" : Str) ++ Txt.item (sub x hit.s hit.e) 0 ++ ("'" : Str))] := by unfold outsC; rw [if_pos hT]
    rw [eT]
    refine segR_out hfs rfl hfg O.co hi (Si1.step (ExtD.refl _ _)) ?_
    refine mkPair (i := (hit.s : Int) + 1) (y := ("E242 tab after '" : Str) ++ Txt.item (sub x hit.s hit.e) 0 ++ ("'" : Str)) rfl ?_
    refine ldL O (by exact N1) l2 (if_pos rfl) ⟨_, rfl, ?_⟩
    refine wpAny_BinOp (wpAny_Constant_str ?_)
    refine groupItem O (by exact N1) l1 hd hv1 (by exact hm1) hx ⟨ok.le, ok.top⟩ hl2 fun t2 tk2 => ?_
    refine mod242 (hlen _) fun t3 tk3 => ⟨_, rfl, ?_⟩
    refine ⟨_, _, _, t, t3, rfl, rfl, ExtD.push _, fresh_not N1, Heap.get?_push_size _ rfl, fun s'' hs => segR_nil ?_⟩
    exact go _ { s with heap := h1 } s'' (fun _ _ _ e => e) (fun b o hb' e => hs b o hb' (Heap.get?_push_of_some _ e)) eT
  · rw [Bool.not_eq_true] at hT
    rw [hT]
    have eT : outsC x hit = [((hit.s : Int) + 1, ("E241 multiple spaces after '" : Str) ++ Txt.item (sub x hit.s hit.e) 0 ++ ("'" : Str))] := by unfold outsC; rw [hT, if_neg Bool.false_ne_true]
    rw [eT]
    refine segR_out hfs rfl hfg O.co hi (Si1.step (ExtD.refl _ _)) ?_
    refine mkPair (i := (hit.s : Int) + 1) (y := ("E241 multiple spaces after '" : Str) ++ Txt.item (sub x hit.s hit.e) 0 ++ ("'" : Str)) rfl ?_
    refine ldL O (by exact N1) l2 (if_pos rfl) ⟨_, rfl, ?_⟩
    refine wpAny_BinOp (wpAny_Constant_str ?_)
    refine groupItem O (by exact N1) l1 hd hv1 (by exact hm1) hx ⟨ok.le, ok.top⟩ hl3 fun t2 tk2 => ?_
    refine mod241 (hlen _) fun t3 tk3 => ⟨_, rfl, ?_⟩
    refine ⟨_, _, _, t, t3, rfl, rfl, ExtD.push _, fresh_not N1, Heap.get?_push_size _ rfl, fun s'' hs => segR_nil ?_⟩
    exact go _ { s with heap := h1 } s'' (fun _ _ _ e => e) (fun b o hb' e => hs b o hb' (Heap.get?_push_of_some _ e)) eT
end
end Mine

end

/-! ## LGenG -/
section
open PySem PySem.W PyProof.Rows PySem.Calls
namespace Mine
set_option maxRecDepth 100000
section
variable {prog : Program} {w : World} {A : Around} {env : Env} {L S P : Addr} {loc glob : List Str} {code : Array Nat} {try_ : Option Nat → Nat → List Nat → Option Hit} {x rx : Str} {h₀ : Heap} {m : Str → Option Value} {s : Shared} {tk : Tok}
  {ka kb kc kd ke kf kg kh : Nat} {p1 p2 p3 p4 p5 p6 p7 p8 p9 p10 p11 p12 p13 p14 p15 p16 p17 p18 p19 p20 p21 p22 p23 p24 p25 p26 p27 p28 p29 p30 p31 p32 p33 p34 p35 px f1 f2 f3 f4 f5 g1p g2p g3p : Pos}

/-- line = logical_line -/
theorem lineAsg {rest : List Stmt} {R : GenEnd} {Y : Protocol} {n : Nat} {s₀ : Shared} {c : Code} {fs : List PySem.Frame} {K : Flow → Sem PySem.Fin} {H : Value → Sem PySem.Fin} {gd : Bool → Bool} {lv : List Value → List Value}
    (O : EnvOk env L loc glob) (N : s.heap.Ns L m) (l1 : ("logical_line" : Str) ∈ loc) (l2 : ("line" : Str) ∈ loc) (hv : m "logical_line" = some (.str x tk))
    (h : ∀ h' tk', h'.Ns L (fun y => if y = ("line" : Str) then some (.str x tk) else m y) → Heap.SameBut L s.heap h' → SegR (modelA prog w) A R Y n s₀ c ((execs rest env).wrap K H gd lv) fs { s with heap := h', toks := tk' }) :
    SegR (modelA prog w) A R Y n s₀ c ((execs (.Assign [.Name "line" g1p] (.Name "logical_line" g2p) g3p :: rest) env).wrap K H gd lv) fs s := by
  refine segR_leaf1 (wpAny_Assign_Name ?_ rfl)
  refine ldL O N l1 hv ?_
  exact stL O N l2 fun h' N' e' => ⟨rfl, h h' _ N' e'⟩

/-- the walk over commas and semicolons -/
theorem genC (hh : A.handled = none) (hu : A.units + 20 < cLine) (hi : interactive env = false) (O : EnvOk env L loc glob) (l1 : ("m" : Str) ∈ loc) (l2 : ("line" : Str) ∈ loc) (l3 : ("found" : Str) ∈ loc) (l5 : ("logical_line" : Str) ∈ loc) (g1 : rx ∈ glob)
    (hd : (rx == ("__debug__" : Str)) = false) (Gk : GOk h₀ rx P code 0) (R : Rx code 0 try_) (hx : x.cps.size ≤ 100000) (hL : h₀.get? L = none) (hS : h₀.get? S = none) (hSL : L ≠ S) (hl : (f2.endLine == f4.line) = true)
    (hl0 : (p3.endLine == p4.line) = true) (hl1 : (p10.endLine == p11.line) = true) (hl2 : (p16.endLine == p17.line) = true) (hl3 : (p27.endLine == p28.line) = true)
    (N : s.heap.Ns L m) (hv : m "logical_line" = some (.str x tk)) (hb : ∀ b o, h₀.get? b = some o → s.heap.get? b = some o) (hSz : ∃ o, s.heap.get? S = some o) {body : List Stmt}
    (hbody : body = [.Assign [.Name "line" g1p] (.Name "logical_line" g2p) g3p, .For (.Name "m" px) (.Call (.Attribute (.Name rx f1) "finditer" f2) [.Name "line" f3] [] f4) [
      .Assign [.Name "found" p1] (.BinOp (.Call (.Attribute (.Name "m" p2) "start" p3) [] [] p4) .Add (.Constant (.int 1) ka p5) p6) p7,
      .If (.Compare (.Constant (.str tabS) kb p8) [.In] [.Call (.Attribute (.Name "m" p9) "group" p10) [] [] p11] p12)
        [.Expr (.Yield (some (.Tuple [.Name "found" p13, .BinOp (.Constant (.str "E242 tab after '%s'") kc p14) .Mod (.Subscript (.Call (.Attribute (.Name "m" p15) "group" p16) [] [] p17) (.Constant (.int 0) kd p18) p19) p20] ke p21)) p22) p23]
        [.Expr (.Yield (some (.Tuple [.Name "found" p24, .BinOp (.Constant (.str "E241 multiple spaces after '%s'") kf p25) .Mod (.Subscript (.Call (.Attribute (.Name "m" p26) "group" p27) [] [] p28) (.Constant (.int 0) kg p29) p30) p31] kh p32)) p33) p34] p35] [] f5]) :
    SegR (modelA prog w) A (ender [L]) (proto S [L] ((hitsF try_ x.cps (x.cps.size + 1) 0).flatMap (outsC x))) ((hitsF try_ x.cps (x.cps.size + 1) 0).flatMap (outsC x)).length s (.func body env)
      ((modelA prog w).den (.func body env)) [] s := by
  refine segR_func ?_
  have hfu : (Code.func body env).cUnits ≤ 10 := by show 3 ≤ 10; decide
  generalize hfb : Code.func body env = fb at hfu ⊢
  subst hbody
  refine lineAsg O N l5 l2 hv fun h1 tk1 N1 e1 => ?_
  have key := forG (prog := prog) (w := w) (post := []) (keepN := []) (outOf := outsC x) (an := "line") (px := px) (f1 := f1) (f2 := f2) (f3 := f3) (f4 := f4) (f5 := f5) (rest := []) (s₀ := s) (s := { s with heap := h1, toks := tk1 }) (S := S) fb hfu hh hu O l1 l2 g1 hd (by simp) Gk R hx hL hS hSL hl N1
    (by exact if_pos rfl) (by decide) (fun b o e => (e1.2 b (fun e' => by subst e'; rw [hL] at e; cases e)).trans (hb b o e)) (let ⟨o, e⟩ := hSz; ⟨o, (e1.2 S (Ne.symm hSL)).trans e⟩) ((Since.refl [L] s).step (ExtD.same e1 (by simp)))
    (body := [
      .Assign [.Name "found" p1] (.BinOp (.Call (.Attribute (.Name "m" p2) "start" p3) [] [] p4) .Add (.Constant (.int 1) ka p5) p6) p7,
      .If (.Compare (.Constant (.str tabS) kb p8) [.In] [.Call (.Attribute (.Name "m" p9) "group" p10) [] [] p11] p12)
        [.Expr (.Yield (some (.Tuple [.Name "found" p13, .BinOp (.Constant (.str "E242 tab after '%s'") kc p14) .Mod (.Subscript (.Call (.Attribute (.Name "m" p15) "group" p16) [] [] p17) (.Constant (.int 0) kd p18) p19) p20] ke p21)) p22) p23]
        [.Expr (.Yield (some (.Tuple [.Name "found" p24, .BinOp (.Constant (.str "E241 multiple spaces after '%s'") kf p25) .Mod (.Subscript (.Call (.Attribute (.Name "m" p26) "group" p27) [] [] p28) (.Constant (.int 0) kg p29) p30) p31] kh p32)) p33) p34] p35])
    (fun it pp => turnC hi rfl rfl O l1 l3 (by decide) (by decide) (by simp) hx hSL hl0 hl1 hl2 hl3)
    (fun s₀' s' m' pre' Si' _ _ _ => segR_nil (segR_end (.ok (.ret .none)) ⟨rfl, rfl, Si'⟩))
  rw [List.append_nil] at key
  exact key
end
end Mine

end

/-! ## LGenH -/
section
open PySem PySem.W PyProof.Rows PySem.Calls
namespace Mine
set_option maxRecDepth 100000

def closeS : Str := "}])"
def outsX (x : Str) (h : Hit) : List Out :=
  if Txt.isspace (Txt.item (sub x h.s h.e) (-1)) then [((h.s : Int) + 1, ("E201 whitespace after '" : Str) ++ Txt.strip (sub x h.s h.e) ++ ("'" : Str))]
  else if Txt.item x ((h.s : Int) - 1) != ("," : Str) then
    [((h.s : Int), Str.empty ++ (if Txt.contains closeS (Txt.strip (sub x h.s h.e)) then ("E202" : Str) else ("E203" : Str)) ++ (" whitespace before '" : Str) ++ Txt.strip (sub x h.s h.e) ++ ("'" : Str))]
  else []
theorem charAt_last {y : Str} (h : 0 < y.length) : (Txt.charAt y (-1)).isSome = true := by
  unfold Txt.charAt
  have : seqIndex? (-1) y.length = some (y.length - 1) := by
    unfold seqIndex?
    simp only [show (-1 : Int) < 0 by omega, if_true]
    rw [if_pos (by simp; omega)]
    congr 1; omega
  rw [this]
  simp only [Option.bind_some]
  rw [Array.getElem?_eq_getElem (by show y.length - 1 < y.cps.size; have : y.length = y.cps.size := rfl; omega)]
  rfl
theorem strip_len (y : Str) : (Txt.strip y).length ≤ y.length := by
  unfold Txt.strip Txt.stripBy
  split
  · exact Nat.le_refl _
  · show (y.cps.extract _ _).size ≤ y.cps.size
    rw [Array.size_extract]; omega

section
variable {prog : Program} {w : World} {A : Around} {env : Env} {L S P : Addr} {loc glob keepN : List Str} {x : Str} {h₀ : Heap} {c : Code} {fs : List PySem.Frame} {K : Flow → Sem PySem.Fin} {H : Value → Sem PySem.Fin}
  {ka kb kc kd ke kf kg kh ki kj kk kl : Nat} {p1 p2 p3 p4 p5 p6 p7 p8 p9 p10 p11 p12 p13 p14 p15 p16 p17 p18 p19 p20 p21 p22 p23 p24 p25 p26 p27 p28 p29 p30 p31 p32 p33 p34 p35 p36 p37 p38 p39 p40 p41 p42 p43 p44 p45 p46 p47 p48 p49 p50 p51 p52 p53 p54 p55 p56 p57 p58 p59 p60 : Pos} {m₀ : Str → Option Value}

theorem upd_keep {m : Str → Option Value} {d : Str} {v : Value} (hkf : d ∉ keepN) (hN : SameN keepN m₀ m) : SameN keepN m₀ (fun y => if y = d then some v else m y) := fun y hy => by
  simp only; rw [if_neg (show ¬ y = d from fun e => hkf (e ▸ hy))]; exact hN y hy
/-- TEXT = match.group() -/
theorem groupAsg {E : Value → Shared → Prop} {nm dst : Str} {s : Shared} {mt : Addr} {m : Str → Option Value} {hit : Hit} {Q : Flow → Shared → Prop} (O : EnvOk env L loc glob) (N : s.heap.Ns L m) (l1 : nm ∈ loc) (l2 : dst ∈ loc) (hd : (nm == ("__debug__" : Str)) = false)
    (hv : m nm = some (.ref mt)) (hm : MatchAt s.heap mt x hit) (hx : x.cps.size ≤ 100000) (hl0 : (p3.endLine == p4.line) = true)
    (hQ : ∀ h' tk t, h'.Ns L (fun y => if y = dst then some (.str (sub x hit.s hit.e) t) else m y) → Heap.SameBut L s.heap h' → Q .next { s with heap := h', toks := tk }) :
    wpAny (model prog w) A (exec (.Assign [.Name dst p1] (.Call (.Attribute (.Name nm p2) "group" p3) [] [] p4) p7) env) Q E s := by
  refine wpAny_Assign_Name ?_ rfl
  refine Call_method0 rfl hl0 (ldL O N l1 hv ?_ hd)
  refine on_group hm hx ?_
  exact stL O (by exact N) l2 fun h' N' e' => hQ h' _ _ N' e'
theorem startAsg {E : Value → Shared → Prop} {nm dst : Str} {s : Shared} {mt : Addr} {m : Str → Option Value} {hit : Hit} {Q : Flow → Shared → Prop} (O : EnvOk env L loc glob) (N : s.heap.Ns L m) (l1 : nm ∈ loc) (l2 : dst ∈ loc) (hd : (nm == ("__debug__" : Str)) = false)
    (hv : m nm = some (.ref mt)) (hm : MatchAt s.heap mt x hit) (hl0 : (p3.endLine == p4.line) = true)
    (hQ : ∀ h' tk t, h'.Ns L (fun y => if y = dst then some (.int (hit.s : Int) t) else m y) → Heap.SameBut L s.heap h' → Q .next { s with heap := h', toks := tk }) :
    wpAny (model prog w) A (exec (.Assign [.Name dst p1] (.Call (.Attribute (.Name nm p2) "start" p3) [] [] p4) p7) env) Q E s := by
  refine wpAny_Assign_Name ?_ rfl
  refine Call_method0 rfl hl0 (ldL O N l1 hv ?_ hd)
  refine on_start hm ?_
  exact stL O (by exact N) l2 fun h' N' e' => hQ h' _ _ N' e'
theorem stripAsg {E : Value → Shared → Prop} {nm dst : Str} {s : Shared} {m : Str → Option Value} {y : Str} {ty : Tok} {Q : Flow → Shared → Prop} (O : EnvOk env L loc glob) (N : s.heap.Ns L m) (l1 : nm ∈ loc) (l2 : dst ∈ loc) (hd : (nm == ("__debug__" : Str)) = false)
    (hv : m nm = some (.str y ty)) (hy : y.length ≤ sizeLine) (hl0 : (p3.endLine == p4.line) = true)
    (hQ : ∀ h' tk t, h'.Ns L (fun z => if z = dst then some (.str (Txt.strip y) t) else m z) → Heap.SameBut L s.heap h' → Q .next { s with heap := h', toks := tk }) :
    wpAny (model prog w) A (exec (.Assign [.Name dst p1] (.Call (.Attribute (.Name nm p2) "strip" p3) [] [] p4) p7) env) Q E s := by
  refine wpAny_Assign_Name ?_ rfl
  refine Call_method0 rfl hl0 (ldL O N l1 hv ?_ hd)
  refine SB.strip (fun t k => ?_) hy
  exact stL O (by exact N) l2 fun h' N' e' => hQ h' _ _ N' e'
/-- text[-1].isspace() -/
theorem spaceTest {E : Value → Shared → Prop} {nm : Str} {s : Shared} {m : Str → Option Value} {y : Str} {ty : Tok} {Q : Bool → Shared → Prop} (O : EnvOk env L loc glob) (N : s.heap.Ns L m) (l1 : nm ∈ loc) (hd : (nm == ("__debug__" : Str)) = false)
    (hv : m nm = some (.str y ty)) (hy : 0 < y.length) (hl0 : (p5.endLine == p6.line) = true) (hQ : ∀ tk, Q (Txt.isspace (Txt.item y (-1))) { s with toks := tk }) :
    wpAny (model prog w) A (isTrue (.Call (.Attribute (.Subscript (.Name nm p1) (.UnaryOp .USub (.Constant (.int 1) ka p2) p3) p4) "isspace" p5) [] [] p6) env (eval (.Call (.Attribute (.Subscript (.Name nm p1) (.UnaryOp .USub (.Constant (.int 1) ka p2) p3) p4) "isspace" p5) [] [] p6) env)) Q E s := by
  refine wpAny_isTrue_value ?_ rfl
  refine Call_method0 rfl hl0 ?_
  refine Subscript_ (ldL O N l1 hv ?_ hd)
  refine wpAny_UnaryOp (wpAny_Constant_int ?_)
  refine PyProof.Rows.neg_int ?_
  refine strItem (by decide) (charAt_last hy) ?_ rfl
  exact SB.isspace (wpAny_truthy_bool (hQ _))
/-- line[found - 1] != ',' -/
theorem commaTest {E : Value → Shared → Prop} {n1 n2 : Str} {s : Shared} {m : Str → Option Value} {y : Str} {ty t2 : Tok} {i : Nat} {whole : Sem Value} {Q : Bool → Shared → Prop} (O : EnvOk env L loc glob) (N : s.heap.Ns L m) (l1 : n1 ∈ loc) (l2 : n2 ∈ loc) (hd1 : (n1 == ("__debug__" : Str)) = false) (hd2 : (n2 == ("__debug__" : Str)) = false)
    (hv : m n1 = some (.str y ty)) (hv2 : m n2 = some (.int (i : Int) t2)) (hy : i < y.length) (hy2 : y.length ≤ 100000) (hQ : ∀ tk, Q (Txt.item y ((i : Int) - 1) != ("," : Str)) { s with toks := tk }) :
    wpAny (model prog w) A (isTrue (.Compare (.Subscript (.Name n1 p1) (.BinOp (.Name n2 p2) .Sub (.Constant (.int 1) ka p3) p4) p5) [.NotEq] [.Constant (.str ",") kb p6] p7) env whole) Q E s := by
  refine wpAny_isTrue_Compare1 ?_ rfl
  refine Subscript_ (ldL O N l1 hv ?_ hd1)
  refine wpAny_BinOp (ldL O N l2 hv2 ?_ hd2)
  refine wpAny_Constant_int ?_
  refine PyProof.Rows.sub_int ?_
  have hc : (Txt.charAt y ((i : Int) - 1)).isSome = true := by
    rcases Nat.eq_zero_or_pos i with rfl | hp
    · exact charAt_last (by omega)
    · exact charAt_ok (by omega) (by omega)
  refine strItem (by unfold fitsSsize; simp; omega) hc ?_ rfl
  refine wpAny_Constant_str ?_
  exact ne_str (wpAny_truthy_bool (hQ _))
/-- code = 'E202' if char in '}])' else 'E203' -/
theorem codeAsg {E : Value → Shared → Prop} {nm dst : Str} {s : Shared} {m : Str → Option Value} {y : Str} {ty : Tok} {Q : Flow → Shared → Prop} (O : EnvOk env L loc glob) (N : s.heap.Ns L m) (l1 : nm ∈ loc) (l2 : dst ∈ loc) (hd : (nm == ("__debug__" : Str)) = false)
    (hv : m nm = some (.str y ty))
    (hQ : ∀ h' tk t, h'.Ns L (fun z => if z = dst then some (.str (if Txt.contains closeS y then ("E202" : Str) else ("E203" : Str)) t) else m z) → Heap.SameBut L s.heap h' → Q .next { s with heap := h', toks := tk }) :
    wpAny (model prog w) A (exec (.Assign [.Name dst p1] (.IfExp (.Compare (.Name nm p2) [.In] [.Constant (.str "}])") ka p3] p4) (.Constant (.str "E202") kb p5) (.Constant (.str "E203") kc p6) p7) p8) env) Q E s := by
  refine wpAny_Assign_Name ?_ rfl
  refine wpAny_IfExp ?_
  refine wpAny_isTrue_Compare1 ?_ rfl
  refine ldL O N l1 hv ?_ hd
  refine wpAny_Constant_str ?_
  refine SB.contains (wpAny_truthy_bool ?_)
  by_cases hc : Txt.contains closeS y = true
  · rw [show Txt.contains "}])" y = true from hc]
    refine wpAny_Constant_str ?_
    exact stL O (by exact N) l2 fun h' N' e' => hQ h' _ _ (by rw [if_pos hc]; exact N') e'
  · rw [Bool.not_eq_true] at hc
    rw [show Txt.contains "}])" y = false from hc]
    refine wpAny_Constant_str ?_
    exact stL O (by exact N) l2 fun h' N' e' => hQ h' _ _ (by rw [hc, if_neg Bool.false_ne_true]; exact N') e'
/-- f"{code} whitespace before '{char}'" -/
theorem fmtEval {E : Value → Shared → Prop} {n1 n2 : Str} {s : Shared} {m : Str → Option Value} {y z : Str} {t1 t2 : Tok} {Q : Value → Shared → Prop} (O : EnvOk env L loc glob) (N : s.heap.Ns L m) (l1 : n1 ∈ loc) (l2 : n2 ∈ loc) (hd1 : (n1 == ("__debug__" : Str)) = false) (hd2 : (n2 == ("__debug__" : Str)) = false)
    (hv : m n1 = some (.str y t1)) (hv2 : m n2 = some (.str z t2)) (hy : y.length ≤ 1000) (hz : z.length ≤ 100000)
    (hQ : ∀ t tk, Q (.str (Str.empty ++ y ++ (" whitespace before '" : Str) ++ z ++ ("'" : Str)) t) { s with toks := tk }) :
    wpAny (model prog w) A (eval (.JoinedStr [.FormattedValue (.Name n1 p1) (-1) none p2, .Constant (.str " whitespace before '") ka p3, .FormattedValue (.Name n2 p4) (-1) none p5, .Constant (.str "'") kb p6] p7) env) Q E s := by
  have hle : ∀ a b : Str, (a ++ b).length = a.length + b.length := fun a b => strLen_append ..
  have e0 : Str.empty.length = 0 := rfl
  have e1 : ((" whitespace before '" : Str)).length = 20 := by decide
  have e2 : (("'" : Str)).length = 1 := by decide
  have hs := sizeLine_eq
  refine JoinedStr_many ?_
  refine joinParts_cons (FormattedValue_plain (ldL O N l1 hv ?_ hd1))
  refine PyProof.Rows.formatField_str (fun t3 tk3 => ?_) (by omega)
  refine ⟨by rw [hle]; omega, joinParts_cons (wpAny_Constant_str ⟨by rw [hle, hle]; omega, ?_⟩)⟩
  refine joinParts_cons (FormattedValue_plain (ldL O (by exact N) l2 hv2 ?_ hd2))
  refine PyProof.Rows.formatField_str (fun t4 tk4 => ?_) (by omega)
  refine ⟨by rw [hle, hle, hle]; omega, joinParts_cons (wpAny_Constant_str ⟨by rw [hle, hle, hle, hle]; omega, ?_⟩)⟩
  exact joinParts_nil (hQ _ _) (by rw [hle, hle, hle, hle]; omega)

theorem turnX (hi : interactive env = false) (hfs : splitAtGen fs = none) (hfg : fs.any Frame.guarded = false) {nm : Str} {ty : Tok}
    (O : EnvOk env L loc glob) (l1 : nm ∈ loc) (l2 : ("text" : Str) ∈ loc) (l3 : ("char" : Str) ∈ loc) (l4 : ("found" : Str) ∈ loc) (l5 : ("line" : Str) ∈ loc) (l6 : ("code" : Str) ∈ loc) (hn1 : nm ≠ ("text" : Str)) (hn2 : nm ≠ ("char" : Str)) (hd : (nm == ("__debug__" : Str)) = false)
    (hk1 : ("text" : Str) ∉ keepN) (hk2 : ("char" : Str) ∉ keepN) (hk3 : ("found" : Str) ∉ keepN) (hk4 : ("code" : Str) ∉ keepN) (hkl : ("line" : Str) ∈ keepN) (hm0 : m₀ "line" = some (.str x ty)) (hx : x.cps.size ≤ 100000) (hSL : L ≠ S)
    (hl1 : (p3.endLine == p4.line) = true) (hl2 : (p8.endLine == p9.line) = true) (hl3 : (p13.endLine == p14.line) = true) (hl4 : (p20.endLine == p21.line) = true) :
    Turn prog w A env L S keepN 0 x nm h₀ c fs K H [
      .Assign [.Name "text" p1] (.Call (.Attribute (.Name nm p2) "group" p3) [] [] p4) p5,
      .Assign [.Name "char" p6] (.Call (.Attribute (.Name "text" p7) "strip" p8) [] [] p9) p10,
      .Assign [.Name "found" p11] (.Call (.Attribute (.Name nm p12) "start" p13) [] [] p14) p15,
      .If (.Call (.Attribute (.Subscript (.Name "text" p16) (.UnaryOp .USub (.Constant (.int 1) ka p17) p18) p19) "isspace" p20) [] [] p21)
        [.Expr (.Yield (some (.Tuple [.BinOp (.Name "found" p22) .Add (.Constant (.int 1) kb p23) p24, .BinOp (.Constant (.str "E201 whitespace after '%s'") kc p25) .Mod (.Name "char" p26) p27] kd p28)) p29) p30]
        [.If (.Compare (.Subscript (.Name "line" p31) (.BinOp (.Name "found" p32) .Sub (.Constant (.int 1) ke p33) p34) p35) [.NotEq] [.Constant (.str ",") kf p36] p37)
          [.Assign [.Name "code" p38] (.IfExp (.Compare (.Name "char" p39) [.In] [.Constant (.str "}])") kg p40] p41) (.Constant (.str "E202") kh p42) (.Constant (.str "E203") ki p43) p44) p45,
           .Expr (.Yield (some (.Tuple [.Name "found" p46, .JoinedStr [.FormattedValue (.Name "code" p47) (-1) none p48, .Constant (.str " whitespace before '") kj p49, .FormattedValue (.Name "char" p50) (-1) none p51, .Constant (.str "'") kk p52] p53] kl p54)) p55) p56]
          [] p57] p58]
      (outsX x) m₀ := by
  intro s₀ s mt m hit pre post N hv hN hm ok hb Si hSm hk
  have hsz : (sub x hit.s hit.e).length ≤ 100000 := by
    show (x.cps.extract _ _).size ≤ _
    rw [Array.size_extract]; omega
  have hpos : 0 < (sub x hit.s hit.e).length := by rw [sub_length ok.top]; have := ok.le; omega
  have hslen : (Txt.strip (sub x hit.s hit.e)).length ≤ 100000 := Nat.le_trans (strip_len _) hsz
  refine segR_leaf1 (groupAsg O N l1 l2 hd hv hm hx hl1 fun h1 tk1 t1 N1 e1 => ⟨rfl, ?_⟩)
  refine segR_leaf1 (stripAsg O (by exact N1) l2 l3 (by decide) (if_pos rfl) (Nat.le_trans hsz (by rw [sizeLine_eq]; decide)) hl2 fun h2 tk2 t2 N2 e2 => ⟨rfl, ?_⟩)
  refine segR_leaf1 (startAsg (mt := mt) (hit := hit) O (by exact N2) l1 l4 hd (by rw [if_neg hn2, if_neg hn1]; exact hv) ((hm.same N e1).same N1 e2) hl3 fun h3 tk3 t3 N3 e3 => ⟨rfl, ?_⟩)
  have hm3 : MatchAt h3 mt x hit := ((hm.same N e1).same N1 e2).same N2 e3
  have k3 : ∀ b o, b ≠ L → s.heap.get? b = some o → h3.get? b = some o := fun b o hb' e => (e3.2 b hb').trans ((e2.2 b hb').trans ((e1.2 b hb').trans e))
  have Si3 : Since [L] s₀ { s with heap := h3, toks := tk3 } := Si.step fun b o hb' _ e => k3 b o (by simpa using hb') e
  have hN3 : SameN keepN m₀ _ := upd_keep (v := .int (hit.s : Int) t3) hk3 (upd_keep (v := .str (Txt.strip (sub x hit.s hit.e)) t2) hk2 (upd_keep (v := .str (sub x hit.s hit.e) t1) hk1 hN))
  generalize hm3' : (fun y => if y = ("found" : Str) then some (Value.int (hit.s : Int) t3) else if y = ("char" : Str) then some (Value.str (Txt.strip (sub x hit.s hit.e)) t2) else if y = ("text" : Str) then some (Value.str (sub x hit.s hit.e) t1) else m y) = m3 at N3 hN3
  have v1 : m3 "text" = some (.str (sub x hit.s hit.e) t1) := by rw [← hm3']; simp only; rw [if_neg (by decide), if_neg (by decide), if_pos trivial]
  have v2 : m3 "char" = some (.str (Txt.strip (sub x hit.s hit.e)) t2) := by rw [← hm3']; simp only; rw [if_neg (by decide), if_pos trivial]
  have v3 : m3 "found" = some (.int (hit.s : Int) t3) := by rw [← hm3']; simp only; rw [if_pos trivial]
  have v4 : m3 "line" = some (.str x ty) := (hN3 _ hkl).trans hm0
  refine segR_If (spaceTest O (by exact N3) l2 (by decide) v1 hpos hl4 fun tk4 => ?_)
  by_cases hT : Txt.isspace (Txt.item (sub x hit.s hit.e) (-1)) = true
  · rw [hT]
    have eT : outsX x hit = [((hit.s : Int) + 1, ("E201 whitespace after '" : Str) ++ Txt.strip (sub x hit.s hit.e) ++ ("'" : Str))] := by unfold outsX; rw [if_pos hT]
    rw [eT] at hk ⊢
    refine segR_out hfs rfl hfg O.co hi (Si3.step (ExtD.refl _ _)) ?_
    refine mkPair (i := (hit.s : Int) + 1) (y := ("E201 whitespace after '" : Str) ++ Txt.strip (sub x hit.s hit.e) ++ ("'" : Str)) rfl ?_
    refine wpAny_BinOp (ldL O (by exact N3) l4 v3 ?_)
    refine wpAny_Constant_int ?_
    refine PyProof.Rows.add_int ⟨_, rfl, ?_⟩
    refine wpAny_BinOp (wpAny_Constant_str ?_)
    refine ldL O (by exact N3) l3 v2 ?_
    refine mod201 (Nat.le_trans hslen (by decide)) fun t5 tk5 => ⟨_, rfl, ?_⟩
    refine ⟨_, _, _, _, t5, rfl, rfl, ExtD.push _, fresh_not N3, Heap.get?_push_size _ rfl, fun s'' hs => segR_nil ?_⟩
    exact hk s'' s'' m3 (Since.refl _ _) (Ns_but (N3.push _) hSL hs) hN3 fun b o hb1 hb2 e => hs b o hb2 (Heap.get?_push_of_some _ (k3 b o hb1 e))
  · rw [Bool.not_eq_true] at hT
    rw [hT]
    have hlt : hit.s < x.length := by show hit.s < x.cps.size; have := ok.le; have := ok.top; omega
    refine segR_If (commaTest O (by exact N3) l5 l4 (by decide) (by decide) v4 v3 hlt hx fun tk5 => ?_)
    by_cases hC : (Txt.item x ((hit.s : Int) - 1) != ("," : Str)) = true
    · rw [hC]
      have eT : outsX x hit = [((hit.s : Int), Str.empty ++ (if Txt.contains closeS (Txt.strip (sub x hit.s hit.e)) then ("E202" : Str) else ("E203" : Str)) ++ (" whitespace before '" : Str) ++ Txt.strip (sub x hit.s hit.e) ++ ("'" : Str))] := by
        unfold outsX; rw [hT, if_neg Bool.false_ne_true, if_pos hC]
      rw [eT] at hk ⊢
      refine segR_leaf1 (codeAsg O (by exact N3) l3 l6 (by decide) v2 fun h4 tk6 t4 N4 e4 => ⟨rfl, ?_⟩)
      have k4 : ∀ b o, b ≠ L → s.heap.get? b = some o → h4.get? b = some o := fun b o hb' e => (e4.2 b hb').trans (k3 b o hb' e)
      have Si4 : Since [L] s₀ { s with heap := h4, toks := tk6 } := Si.step fun b o hb' _ e => k4 b o (by simpa using hb') e
      refine segR_out hfs rfl hfg O.co hi Si4 ?_
      refine mkPair (i := (hit.s : Int)) (y := Str.empty ++ (if Txt.contains closeS (Txt.strip (sub x hit.s hit.e)) then ("E202" : Str) else ("E203" : Str)) ++ (" whitespace before '" : Str) ++ Txt.strip (sub x hit.s hit.e) ++ ("'" : Str)) rfl ?_
      refine ldL O (by exact N4) l4 (by first | (rw [if_neg (by decide)]; exact v3) | (simp only; rw [if_neg (by decide)]; exact v3)) ⟨_, rfl, ?_⟩
      refine fmtEval O (by exact N4) l6 l3 (by decide) (by decide) (if_pos rfl) (by first | (rw [if_neg (by decide)]; exact v2) | (simp only; rw [if_neg (by decide)]; exact v2)) (by split <;> decide) hslen fun t5 tk7 => ⟨_, rfl, ?_⟩
      refine ⟨_, _, _, t3, t5, rfl, rfl, ExtD.push _, fresh_not N4, Heap.get?_push_size _ rfl, fun s'' hs => segR_nil (segR_nil ?_)⟩
      exact hk s'' s'' _ (Since.refl _ _) (Ns_but (N4.push _) hSL hs) (upd_keep hk4 hN3) fun b o hb1 hb2 e => hs b o hb2 (Heap.get?_push_of_some _ (k4 b o hb1 e))
    · rw [Bool.not_eq_true] at hC
      rw [hC]
      have eT : outsX x hit = [] := by unfold outsX; rw [hT, if_neg Bool.false_ne_true, hC, if_neg Bool.false_ne_true]
      rw [eT] at hk ⊢
      exact segR_nil (segR_nil (hk _ _ m3 (Si3.step (ExtD.refl _ _)) (by exact N3) hN3 fun b o hb1 hb2 e => k3 b o hb1 e))
end
end Mine

end

/-! ## LGenI -/
section
open PySem PySem.W PyProof.Rows PySem.Calls
namespace Mine
set_option maxRecDepth 100000
section
variable {prog : Program} {w : World} {A : Around} {env : Env} {L S P P2 : Addr} {loc glob : List Str} {code : Array Nat} {try_ : Option Nat → Nat → List Nat → Option Hit} {x rx dec : Str} {h₀ : Heap} {m : Str → Option Value} {s : Shared} {tk : Tok}
  {ka kb kc kd ke kf kg kh ki kj kk kl : Nat} {p1 p2 p3 p4 p5 p6 p7 p8 p9 p10 p11 p12 p13 p14 p15 p16 p17 p18 p19 p20 p21 p22 p23 p24 p25 p26 p27 p28 p29 p30 p31 p32 p33 p34 p35 p36 p37 p38 p39 p40 p41 p42 p43 p44 p45 p46 p47 p48 p49 p50 p51 p52 p53 p54 p55 p56 p57 p58 px f1 f2 f3 f4 f5 g1p g2p g3p d1 d2 d3 d4 d5 : Pos} {yb : List Stmt}

/-- the walk over brackets and blanks -/
theorem genX (hh : A.handled = none) (hu : A.units + 20 < cLine) (hi : interactive env = false) (O : EnvOk env L loc glob) (l1 : ("match" : Str) ∈ loc) (l2 : ("line" : Str) ∈ loc) (l3 : ("found" : Str) ∈ loc) (l5 : ("logical_line" : Str) ∈ loc) (l6 : ("text" : Str) ∈ loc) (l7 : ("char" : Str) ∈ loc) (l8 : ("code" : Str) ∈ loc)
    (g1 : rx ∈ glob) (g2 : dec ∈ glob) (hd : (rx == ("__debug__" : Str)) = false) (hd2 : (dec == ("__debug__" : Str)) = false) (Gk : GOk h₀ rx P code 0) (Gd : GOk h₀ dec P2 dcCode 0) (R : Rx code 0 try_) (hx : x.cps.size ≤ 100000) (h0 : 0 < x.cps.size → x.cps.getD 0 0 ≠ 64)
    (hL : h₀.get? L = none) (hS : h₀.get? S = none) (hSL : L ≠ S) (hl : (f2.endLine == f4.line) = true)
    (hl1 : (p3.endLine == p4.line) = true) (hl2 : (p8.endLine == p9.line) = true) (hl3 : (p13.endLine == p14.line) = true) (hl4 : (p20.endLine == p21.line) = true) (hl5 : (d2.endLine == d4.line) = true)
    (N : s.heap.Ns L m) (hv : m "logical_line" = some (.str x tk)) (hb : ∀ b o, h₀.get? b = some o → s.heap.get? b = some o) (hSz : ∃ o, s.heap.get? S = some o) {body : List Stmt}
    (hbody : body = [.Assign [.Name "line" g1p] (.Name "logical_line" g2p) g3p, .For (.Name "match" px) (.Call (.Attribute (.Name rx f1) "finditer" f2) [.Name "line" f3] [] f4) [
      .Assign [.Name "text" p1] (.Call (.Attribute (.Name "match" p2) "group" p3) [] [] p4) p5,
      .Assign [.Name "char" p6] (.Call (.Attribute (.Name "text" p7) "strip" p8) [] [] p9) p10,
      .Assign [.Name "found" p11] (.Call (.Attribute (.Name "match" p12) "start" p13) [] [] p14) p15,
      .If (.Call (.Attribute (.Subscript (.Name "text" p16) (.UnaryOp .USub (.Constant (.int 1) ka p17) p18) p19) "isspace" p20) [] [] p21)
        [.Expr (.Yield (some (.Tuple [.BinOp (.Name "found" p22) .Add (.Constant (.int 1) kb p23) p24, .BinOp (.Constant (.str "E201 whitespace after '%s'") kc p25) .Mod (.Name "char" p26) p27] kd p28)) p29) p30]
        [.If (.Compare (.Subscript (.Name "line" p31) (.BinOp (.Name "found" p32) .Sub (.Constant (.int 1) ke p33) p34) p35) [.NotEq] [.Constant (.str ",") kf p36] p37)
          [.Assign [.Name "code" p38] (.IfExp (.Compare (.Name "char" p39) [.In] [.Constant (.str "}])") kg p40] p41) (.Constant (.str "E202") kh p42) (.Constant (.str "E203") ki p43) p44) p45,
           .Expr (.Yield (some (.Tuple [.Name "found" p46, .JoinedStr [.FormattedValue (.Name "code" p47) (-1) none p48, .Constant (.str " whitespace before '") kj p49, .FormattedValue (.Name "char" p50) (-1) none p51, .Constant (.str "'") kk p52] p53] kl p54)) p55) p56]
          [] p57] p58] [] f5,
      .If (.Call (.Attribute (.Name dec d1) "match" d2) [.Name "logical_line" d3] [] d4) yb [] d5]) :
    SegR (modelA prog w) A (ender [L]) (proto S [L] ((hitsF try_ x.cps (x.cps.size + 1) 0).flatMap (outsX x))) ((hitsF try_ x.cps (x.cps.size + 1) 0).flatMap (outsX x)).length s (.func body env)
      ((modelA prog w).den (.func body env)) [] s := by
  refine segR_func ?_
  have hfu : (Code.func body env).cUnits ≤ 10 := by show 3 ≤ 10; decide
  generalize hfb : Code.func body env = fb at hfu ⊢
  subst hbody
  refine lineAsg O N l5 l2 hv fun h1 tk1 N1 e1 => ?_
  have key := forG (prog := prog) (w := w) (post := []) (keepN := ["line", "logical_line"]) (outOf := outsX x) (an := "line") (px := px) (f1 := f1) (f2 := f2) (f3 := f3) (f4 := f4) (f5 := f5)
    (rest := [.If (.Call (.Attribute (.Name dec d1) "match" d2) [.Name "logical_line" d3] [] d4) yb [] d5]) (s₀ := s) (s := { s with heap := h1, toks := tk1 }) (S := S) fb hfu hh hu O l1 l2 g1 hd (by decide) Gk R hx hL hS hSL hl N1
    (by exact if_pos rfl) (by decide) (fun b o e => (e1.2 b (fun e' => by subst e'; rw [hL] at e; cases e)).trans (hb b o e)) (let ⟨o, e⟩ := hSz; ⟨o, (e1.2 S (Ne.symm hSL)).trans e⟩) ((Since.refl [L] s).step (ExtD.same e1 (by simp)))
    (body := [
      .Assign [.Name "text" p1] (.Call (.Attribute (.Name "match" p2) "group" p3) [] [] p4) p5,
      .Assign [.Name "char" p6] (.Call (.Attribute (.Name "text" p7) "strip" p8) [] [] p9) p10,
      .Assign [.Name "found" p11] (.Call (.Attribute (.Name "match" p12) "start" p13) [] [] p14) p15,
      .If (.Call (.Attribute (.Subscript (.Name "text" p16) (.UnaryOp .USub (.Constant (.int 1) ka p17) p18) p19) "isspace" p20) [] [] p21)
        [.Expr (.Yield (some (.Tuple [.BinOp (.Name "found" p22) .Add (.Constant (.int 1) kb p23) p24, .BinOp (.Constant (.str "E201 whitespace after '%s'") kc p25) .Mod (.Name "char" p26) p27] kd p28)) p29) p30]
        [.If (.Compare (.Subscript (.Name "line" p31) (.BinOp (.Name "found" p32) .Sub (.Constant (.int 1) ke p33) p34) p35) [.NotEq] [.Constant (.str ",") kf p36] p37)
          [.Assign [.Name "code" p38] (.IfExp (.Compare (.Name "char" p39) [.In] [.Constant (.str "}])") kg p40] p41) (.Constant (.str "E202") kh p42) (.Constant (.str "E203") ki p43) p44) p45,
           .Expr (.Yield (some (.Tuple [.Name "found" p46, .JoinedStr [.FormattedValue (.Name "code" p47) (-1) none p48, .Constant (.str " whitespace before '") kj p49, .FormattedValue (.Name "char" p50) (-1) none p51, .Constant (.str "'") kk p52] p53] kl p54)) p55) p56]
          [] p57] p58])
    (fun it pp => turnX hi rfl rfl O l1 l6 l7 l3 l2 l8 (by decide) (by decide) (by decide) (by decide) (by decide) (by decide) (by decide) (by decide) (if_pos rfl) hx hSL hl1 hl2 hl3 hl4)
    (fun s₀' s' m' pre' Si' N' hN' hb' => by
      obtain ⟨mg, mb, G1, _, _, _, hdec⟩ := Gd.all
      refine segR_If (wpAny_isTrue_value ?_ rfl)
      refine Call_method1 rfl rfl hl5 (ldG O g2 (G1.keeps hb') hdec ?_ hd2)
      refine on_pmatch (x := x) (Gd.pat.keeps hb') hx h0 (ldL O N' l5 ((hN' _ (by simp)).trans (by simp only; rw [if_neg (by decide)]; exact hv)) ⟨tk, rfl, rfl⟩) ?_
      refine truthy_none ?_
      exact segR_nil (segR_nil (segR_end (.ok (.ret .none)) ⟨rfl, rfl, Si'⟩)))
  rw [List.append_nil] at key
  exact key
end
end Mine

end

/-! ## LGens -/
section
open PySem PySem.W PyProof.Rows PySem.Calls
namespace Mine
set_option maxRecDepth 100000
section
variable {prog : Program} {w : World} {A : Around} {env : Env} {L S P P2 : Addr} {loc glob : List Str} {x : Str} {h₀ : Heap} {m : Str → Option Value} {s : Shared} {tk : Tok}
  (hh : A.handled = none) (hu : A.units + 20 < cLine) (hi : interactive env = false) 
  (hx : x.cps.size ≤ 100000) (hL : h₀.get? L = none) (hS : h₀.get? S = none) (hSL : L ≠ S)
    (N : s.heap.Ns L m) (hv : m "logical_line" = some (.str x tk)) (hb : ∀ b o, h₀.get? b = some o → s.heap.get? b = some o) (hSz : ∃ o, s.heap.get? S = some o)
include hh hu hi hx hL hS hSL N hv hb hSz
theorem g9 (O : EnvOk env L ["logical_line", "match", "before", "after"] ["OPERATOR_REGEX", "len"]) (Gk : GOk h₀ "OPERATOR_REGEX" P opCode 2) :
   SegR (modelA prog w) A (ender [L]) (proto S [L] ((hitsF (fun _ => opTry) x.cps (x.cps.size + 1) 0).flatMap (outsA x "E223 tab before operator" "E221 multiple spaces before operator" "E224 tab after operator" "E222 multiple spaces after operator"))) ((hitsF (fun _ => opTry) x.cps (x.cps.size + 1) 0).flatMap (outsA x "E223 tab before operator" "E221 multiple spaces before operator" "E224 tab after operator" "E222 multiple spaces after operator")).length s (.func (bodyOf (topStmt 9)) env)
      ((modelA prog w).den (.func (bodyOf (topStmt 9)) env)) [] s := by
  refine' genA (rx := "OPERATOR_REGEX") hh hu hi O (by simp) (by simp) (by simp) (by simp) (by simp) (by simp) (by decide) Gk op_rx hx hL hS hSL ?hl ?h0 ?h1 ?h2 ?h3 ?h4 N hv hb hSz ?hb
  case hb => exact rfl
  all_goals rfl
theorem g8 (O : EnvOk env L ["logical_line", "match", "before", "after"] ["KEYWORD_REGEX", "len"]) (Gk : GOk h₀ "KEYWORD_REGEX" P kwCode 2) :
   SegR (modelA prog w) A (ender [L]) (proto S [L] ((hitsF kwTry x.cps (x.cps.size + 1) 0).flatMap (outsA x "E274 tab before keyword" "E272 multiple spaces before keyword" "E273 tab after keyword" "E271 multiple spaces after keyword"))) ((hitsF kwTry x.cps (x.cps.size + 1) 0).flatMap (outsA x "E274 tab before keyword" "E272 multiple spaces before keyword" "E273 tab after keyword" "E271 multiple spaces after keyword")).length s (.func (bodyOf (topStmt 8)) env)
      ((modelA prog w).den (.func (bodyOf (topStmt 8)) env)) [] s := by
  refine' genA (rx := "KEYWORD_REGEX") hh hu hi O (by simp) (by simp) (by simp) (by simp) (by simp) (by simp) (by decide) Gk kw_rx hx hL hS hSL ?hl ?h0 ?h1 ?h2 ?h3 ?h4 N hv hb hSz ?hb
  case hb => exact rfl
  all_goals rfl
theorem g10 (O : EnvOk env L ["logical_line", "line", "m", "found"] ["WHITESPACE_AFTER_COMMA_REGEX"]) (Gk : GOk h₀ "WHITESPACE_AFTER_COMMA_REGEX" P cmCode 0) :
   SegR (modelA prog w) A (ender [L]) (proto S [L] ((hitsF (fun _ => cmTry) x.cps (x.cps.size + 1) 0).flatMap (outsC x))) ((hitsF (fun _ => cmTry) x.cps (x.cps.size + 1) 0).flatMap (outsC x)).length s (.func (bodyOf (topStmt 10)) env)
      ((modelA prog w).den (.func (bodyOf (topStmt 10)) env)) [] s := by
  refine' genC (rx := "WHITESPACE_AFTER_COMMA_REGEX") hh hu hi O (by simp) (by simp) (by simp) (by simp) (by simp) (by decide) Gk cm_rx hx hL hS hSL ?hl ?h0 ?h1 ?h2 ?h3 N hv hb hSz ?hb
  case hb => exact rfl
  all_goals rfl
theorem g7 (h0 : 0 < x.cps.size → x.cps.getD 0 0 ≠ 64) (O : EnvOk env L ["logical_line", "line", "match", "text", "char", "found", "code"] ["EXTRANEOUS_WHITESPACE_REGEX", "WHITESPACE_AFTER_DECORATOR_REGEX"]) (Gk : GOk h₀ "EXTRANEOUS_WHITESPACE_REGEX" P exCode 0) (Gd : GOk h₀ "WHITESPACE_AFTER_DECORATOR_REGEX" P2 dcCode 0) :
   SegR (modelA prog w) A (ender [L]) (proto S [L] ((hitsF (fun _ => exTry) x.cps (x.cps.size + 1) 0).flatMap (outsX x))) ((hitsF (fun _ => exTry) x.cps (x.cps.size + 1) 0).flatMap (outsX x)).length s (.func (bodyOf (topStmt 7)) env)
      ((modelA prog w).den (.func (bodyOf (topStmt 7)) env)) [] s := by
  refine' genX (rx := "EXTRANEOUS_WHITESPACE_REGEX") (dec := "WHITESPACE_AFTER_DECORATOR_REGEX") hh hu hi O (by simp) (by simp) (by simp) (by simp) (by simp) (by simp) (by simp) (by simp) (by simp) (by decide) (by decide) Gk Gd ex_rx hx h0 hL hS hSL ?hl ?h1 ?h2 ?h3 ?h4 ?h5 N hv hb hSz ?hb
  case hb => exact rfl
  all_goals rfl
end
end Mine

end

/-! ## LList -/
section
open PySem PySem.W PyProof.Rows PySem.Calls
namespace Mine
set_option maxRecDepth 100000

def TupAt (L S : Addr) (hp : Heap) (v : Value) (o : Out) : Prop := ∃ t tk tk', v = .ref t ∧ t ≠ L ∧ t ≠ S ∧ hp.get? t = some { cls := .type "tuple", data := .seq #[.int o.1 tk, .str o.2 tk'] }
def TupsAt (L S : Addr) (hp : Heap) : List Value → List Out → Prop
  | [], [] => True
  | v :: vs, o :: os => TupAt L S hp v o ∧ TupsAt L S hp vs os
  | _, _ => False
theorem TupsAt.mono {L S : Addr} {hp hp' : Heap} (hk : ∀ b o, b ≠ L → b ≠ S → movs o = false → hp.get? b = some o → hp'.get? b = some o) : ∀ {vs : List Value} {os : List Out}, TupsAt L S hp vs os → TupsAt L S hp' vs os
  | [], [], _ => trivial
  | _ :: _, _ :: _, h => ⟨let ⟨t, a, b, e, h1, h2, h3⟩ := h.1; ⟨t, a, b, e, h1, h2, hk _ _ h1 h2 rfl h3⟩, TupsAt.mono hk h.2⟩
theorem TupsAt.snoc {L S : Addr} {hp : Heap} {v : Value} {o : Out} (h : TupAt L S hp v o) : ∀ {vs : List Value} {os : List Out}, TupsAt L S hp vs os → TupsAt L S hp (vs ++ [v]) (os ++ [o])
  | [], [], _ => ⟨h, trivial⟩
  | _ :: _, _ :: _, hh => ⟨hh.1, TupsAt.snoc h hh.2⟩
theorem TupsAt.length {L S : Addr} {hp : Heap} : ∀ {vs : List Value} {os : List Out}, TupsAt L S hp vs os → vs.length = os.length
  | [], [], _ => rfl
  | _ :: _, _ :: _, h => by rw [List.length_cons, List.length_cons, TupsAt.length h.2]
theorem bare_set {gens : Array GenState} {g : Nat} {x : GenState} (h : AllBare gens) (hx : x.bare = true) : AllBare (gens.setIfInBounds g x) := fun y hy => by
  rcases Array.mem_or_eq_of_mem_setIfInBounds hy with h1 | h1
  · exact h y h1
  · subst h1; exact hx

/-- how the world stands behind some of a generator's pairs -/
structure GenSt (h₀ : Heap) (s₁ : Shared) (L I S : Addr) (g : Nat) (outs : List Out) (vs : List Value) (s : Shared) : Prop where
  base : ∀ b o, h₀.get? b = some o → s.heap.get? b = some o
  gen : s.heap.IsGen I g
  os : s.os = s₁.os
  bare : AllBare s.gens
  len : vs.length ≤ outs.length
  tups : TupsAt L S s.heap vs (outs.take vs.length)
def GoSt (prog : Program) (w : World) (AG : Around) (h₀ : Heap) (s₁ : Shared) (L I S : Addr) (g : Nat) (outs : List Out) (vs : List Value) (s : Shared) : Prop :=
  GenSt h₀ s₁ L I S g outs vs s ∧ ∃ gs, s.gens[g]? = some gs ∧ ∀ h', (∀ b o, b ≠ S → s.heap.get? b = some o → h'.get? b = some o) → (∃ o, h'.get? S = some o) →
    GoesR gs (modelA prog w) AG (ender [L]) (proto S [L] outs) (outs.length - vs.length) (.send .none) (({ s with heap := h' } : Shared).setGen g .running)

section
variable {prog : Program} {w : World} {A : Around} {h₀ : Heap} {s₁ : Shared} {L I S : Addr} {g : Nat} {outs : List Out}
theorem GenSt.frame {vs : List Value} {s : Shared} {h' : Heap} (G : GenSt h₀ s₁ L I S g outs vs s) (hS : h₀.get? S = none) (hI : S ≠ I) (hk : ∀ b o, b ≠ S → s.heap.get? b = some o → h'.get? b = some o) : GenSt h₀ s₁ L I S g outs vs { s with heap := h' } where
  base := fun b o e => hk b o (fun e' => by subst e'; rw [hS] at e; cases e) (G.base b o e)
  gen := let ⟨o, nm, qn, ho, r⟩ := G.gen; ⟨o, nm, qn, hk _ _ (Ne.symm hI) ho, r⟩
  os := G.os
  bare := G.bare
  len := G.len
  tups := G.tups.mono fun b o _ h2 _ e => hk b o h2 e
theorem since_keep {s s' : Shared} (x : Since [L] s s') {b : Addr} {o : Obj} (hb : b ≠ L) (hm : @LT.lt Nat _ b L ∨ movs o = false) (e : s.heap.get? b = some o) : s'.heap.get? b = some o :=
  x.heap b o (by simpa using hb) (hm.imp (fun h l hl => by rw [List.mem_singleton] at hl; subst hl; exact h) id) e
theorem movs_gen {hp : Heap} {I : Addr} {g : Nat} (h : hp.IsGen I g) : ∃ o, hp.get? I = some o ∧ movs o = false ∧ ∀ hp' : Heap, hp'.get? I = some o → hp'.IsGen I g := by
  obtain ⟨o, nm, qn, ho, hc, hd, hs⟩ := h
  refine ⟨o, ho, ?_, fun hp' e => ⟨o, nm, qn, e, hc, hd, hs⟩⟩
  unfold movs; rw [hd, hc]; simp

/-- behind a segment of the generator -/
theorem GenSt.moved {vs : List Value} {s s' : Shared} {x : GenState} (G : GenSt h₀ s₁ L I S g outs vs s) (hL : h₀.objs.size ≤ L) (hIL : I ≠ L) (Si : Since [L] (s.setGen g .running) s') (hx : x.bare = true) : GenSt h₀ s₁ L I S g outs vs (s'.setGen g x) where
  base := fun b o e => since_keep Si (Nat.ne_of_lt (Nat.lt_of_lt_of_le (Heap.lt_size e) hL)) (.inl (Nat.lt_of_lt_of_le (Heap.lt_size e) hL)) (G.base b o e)
  gen := let ⟨o, h1, h2, h3⟩ := movs_gen G.gen; h3 _ (since_keep Si hIL (.inr h2) h1)
  os := by obtain ⟨h', tk, rfl, _⟩ := Si; exact G.os
  bare := by
    show AllBare (s'.gens.setIfInBounds g x)
    rw [Si.gens]
    exact bare_set (bare_set G.bare rfl) hx
  len := G.len
  tups := G.tups.mono fun b o h1 _ hm e => since_keep Si h1 (.inr hm) e

theorem drainGen (hh : A.handled = none) (hroom : A.depth < recursionLimit) (hlim : h₀.NoLimit) (hL : h₀.objs.size ≤ L) (hS : h₀.get? S = none) (hIS : S ≠ I) (hIL : I ≠ L) (hSL : S ≠ L) :
    DrainR prog w A I S outs.length (GoSt prog w A.in1 h₀ s₁ L I S g outs) (fun vs s => GenSt h₀ s₁ L I S g outs vs s) where
  gen := fun vs s h => h.1.gen.typeIs
  ne := hIS
  frame := fun vs s h' h hk => by
    obtain ⟨G, gs, h1, h2⟩ := h
    refine ⟨G.frame hS hIS hk, gs, h1, fun h'' hk' hS' => ?_⟩
    exact h2 h'' (fun b o hb e => hk' b o hb (hk b o hb e)) hS'
  item := fun vs s Q E hlt h ⟨c, hSe⟩ hQ => by
    obtain ⟨G, gs, hgs, go⟩ := h
    refine pyNext_genR (P := fun n s₀ s₁ => n = 0 ∧ Since [L] s₀ s₁) (Y := proto S [L] outs) (n := outs.length - vs.length) hh (hlim.keeps G.base) hroom G.gen hgs (go s.heap (fun _ _ _ e => e) ⟨_, hSe⟩) (fun v s₂ gs' hb hy => ?_) (fun s₂ hp => absurd hp.1 (by omega)) proto_mono
    obtain ⟨⟨o, ho, t, tk, tk', rfl, htD, htg⟩, hm, Si, hgo⟩ := hy
    have hS2 : ∀ o, s.heap.get? S = some o → s₂.heap.get? S = some o := fun o e => since_keep Si hSL (.inr (by rw [hSe] at e; cases e; rfl)) e
    have htS : t ≠ S := fun e => by
      subst e
      rw [hS2 _ hSe] at htg
      exact absurd (congrArg (fun o => Option.map Obj.cls o) htg) (by simp [newSeq])
    have hidx : outs.length - 1 - (outs.length - vs.length - 1) = vs.length := by omega
    rw [hidx] at ho
    have G' := G.moved hL hIL Si hb
    refine hQ (.ref t) _ ⟨⟨G'.base, G'.gen, G'.os, G'.bare, by rw [List.length_append, List.length_singleton]; omega, ?_⟩, gs', ?_, fun h' hk hS' => ?_⟩ hS2
    · have e : outs.take (vs ++ [Value.ref t]).length = outs.take vs.length ++ [o] := by
        rw [List.length_append, List.length_singleton, List.take_add_one, ho]; rfl
      rw [e]
      exact G'.tups.snoc ⟨t, tk, tk', rfl, by simpa using htD, htS, htg⟩
    · show (s₂.gens.setIfInBounds g gs')[g]? = some gs'
      rw [Si.gens]
      have hlt' : g < s.gens.size := (Array.getElem?_eq_some_iff.mp hgs).1
      show ((s.gens.setIfInBounds g .running).setIfInBounds g gs')[g]? = some gs'
      simp [hlt']
    · have e : outs.length - (vs ++ [Value.ref t]).length = outs.length - vs.length - 1 := by rw [List.length_append, List.length_singleton]; omega
      rw [e]
      obtain ⟨n', hn'⟩ : ∃ n', outs.length - vs.length = n' + 1 := ⟨outs.length - vs.length - 1, by omega⟩
      rw [hn'] at hgo ⊢
      exact hgo _ fun b o hb e => hk b o hb e
  done := fun vs s Q E hlen h ⟨c, hSe⟩ hQ => by
    obtain ⟨G, gs, hgs, go⟩ := h
    have h0 : outs.length - vs.length = 0 := by omega
    refine pyNext_genR (P := fun n s₀ s₁ => n = 0 ∧ Since [L] s₀ s₁) (Y := proto S [L] outs) (n := outs.length - vs.length) hh (hlim.keeps G.base) hroom G.gen hgs (go s.heap (fun _ _ _ e => e) ⟨_, hSe⟩) (fun v s₂ gs' hb hy => ?_) (fun s₂ hp h' hk => ?_) proto_mono
    · exfalso
      obtain ⟨_, _, _, hgo⟩ := hy
      have := hgo s₂ fun _ _ _ e => e
      rw [h0] at this
      exact this
    · have Si := hp.2
      have hS2 : ∀ o, s.heap.get? S = some o → s₂.heap.get? S = some o := fun o e => since_keep Si hSL (.inr (by rw [hSe] at e; cases e; rfl)) e
      have G' := G.moved (x := .finished) hL hIL Si rfl
      exact hQ _ (⟨fun b o e => hk b o (G'.base b o e), G'.gen.keeps hk, G'.os, G'.bare, G'.len, G'.tups.mono fun b o _ _ _ e => hk b o e⟩) fun o e => hk _ _ (hS2 o e)
end
end Mine

end

/-! ## LCall -/
section
open PySem PySem.W PyProof.Rows PySem.Calls
namespace Mine
set_option maxRecDepth 100000

section
variable {prog : Program} {w : World} {A : Around} {E : Value → Shared → Prop} {s : Shared}
/-- a def that yields, called: its generator -/
theorem call_genfun {a : Addr} {o : Obj} {name : Str} {params : Arguments} {body : List Stmt} {scope : Scope} {pm cd doc dV kV v : Value} {x : Str} {Q : Value → Shared → Prop} (hroom : A.depth < recursionLimit) (ho : s.heap.get? a = some o)
    (hd : o.data = .func { docDef name params body scope pm cd doc with defaults := dV, kwdefaults := kV }) (hlim : s.heap.NoLimit) (hcd : s.heap.CodeRec cd name)
    (hbind : bindArgs { docDef name params body scope pm cd doc with defaults := dV, kwdefaults := kV } ⟨[v], []⟩ = pure [(x, v)]) (hloc : scope.names.lookup x = some .local)
    (hco : scope.isCoroutine = false) (hgen : scope.isGenerator = true) (hk : scope.kind = .function) (hcell : ∀ x ∈ scope.names, x.2 ≠ .cell)
    (hQ : ∀ h' tk, (∀ b o, s.heap.get? b = some o → h'.get? b = some o) → h'.Ns s.heap.objs.size (fun y => if y = x then some v else none) → h'.IsGen (s.heap.objs.size + 1) s.gens.size →
      Q (.ref (s.heap.objs.size + 1)) { s with heap := h', toks := tk, gens := s.gens.push (.fresh (.func body (envOf name scope s.heap.objs.size a cd))) }) :
    wpAny (model prog w) A (call (.ref a) [v]) Q E s := by
  refine wpAny_call (codeAny_call_generator hroom ho hd hco hgen rfl hcd ?_)
  rw [hbind]
  refine wpAny_pure (wpAny_newFunctionEnv hcell (fun y hy => by rw [List.mem_singleton] at hy; subst hy; exact hloc) (fun h₁ hns hsb => ⟨hlim.fresh _ hsb, ?_⟩) hk)
  have hsz : h₁.objs.size = s.heap.objs.size + 1 := by rw [hsb.1, Heap.size_push]
  have hkeep : ∀ b o, s.heap.get? b = some o → h₁.get? b = some o := fun b o e => hsb.extBut b o (Nat.ne_of_lt (Heap.lt_size e)) (Heap.get?_push_of_some _ e)
  have hns' : h₁.Ns s.heap.objs.size (fun y => if y = x then some v else none) := by
    have e : (fun y => [(x, v)].reverse.lookup y) = (fun y => if y = x then some v else none) := by
      funext y
      show List.lookup y [(x, v)] = _
      rw [List.lookup_cons]
      by_cases h : y = x
      · subst h; simp
      · rw [if_neg h, show (y == x) = false from beq_eq_false_iff_ne.mpr h]; rfl
    rw [← e]; exact hns
  show Q (.ref h₁.objs.size) _
  rw [hsz]
  refine hQ _ _ (fun b o e => Heap.get?_push_of_some _ (hkeep b o e)) (hns'.push _) ⟨{ cls := .type "generator", data := .fields #[.int s.gens.size 0, .str name (s.toks + [(x, v)].length), .str name (s.toks + [(x, v)].length + 1)] }, _, _, ?_, rfl, rfl, rfl⟩
  rw [← hsz]
  exact Heap.get?_push_size _ rfl
end

section
variable {prog : Program} {w : World} {A : Around} {s : Shared}
/-- what a walked generator gives: named by its def's place -/
def Walked (prog : Program) (w : World) (AG : Around) (h₀ : Heap) (name : Str) (body : List Stmt) (scope : Scope) (a : Addr) (cd : Value) (x : Str) (outs : List Out) : Prop :=
  ∀ (L S : Addr) (m : Str → Option Value) (s : Shared) (tk : Tok), h₀.get? L = none → h₀.get? S = none → L ≠ S → s.heap.Ns L m → m "logical_line" = some (.str x tk) → (∀ b o, h₀.get? b = some o → s.heap.get? b = some o) → (∃ o, s.heap.get? S = some o) →
    SegR (modelA prog w) AG (ender [L]) (proto S [L] outs) outs.length s (.func body (envOf name scope L a cd)) ((modelA prog w).den (.func body (envOf name scope L a cd))) [] s

/-- list(f(line)), called -/
theorem list_walked {a : Addr} {o : Obj} {name : Str} {params : Arguments} {body : List Stmt} {scope : Scope} {pm cd doc dV kV : Value} {x : Str} {tk : Tok} {outs : List Out} {E : Value → Shared → Prop} {Q : Value → Shared → Prop}
    (hh : A.handled = none) (hroom : A.depth + 2 < recursionLimit) (ho : s.heap.get? a = some o)
    (hd : o.data = .func { docDef name params body scope pm cd doc with defaults := dV, kwdefaults := kV }) (hlim : s.heap.NoLimit) (hcd : s.heap.CodeRec cd name)
    (hbind : ∀ v, bindArgs { docDef name params body scope pm cd doc with defaults := dV, kwdefaults := kV } ⟨[v], []⟩ = pure [(("logical_line" : Str), v)]) (hloc : scope.names.lookup ("logical_line" : Str) = some .local)
    (hco : scope.isCoroutine = false) (hgen : scope.isGenerator = true) (hk : scope.kind = .function) (hcell : ∀ x ∈ scope.names, x.2 ≠ .cell)
    (hW : Walked prog w A.in1.in1.in1 s.heap name body scope a cd x outs) (hn : outs.length ≤ sizeLine) (hbare : AllBare s.gens)
    (hQ : ∀ S vs c s', (∀ b o, s.heap.get? b = some o → s'.heap.get? b = some o) → s'.heap.get? S = some (newSeq vs c) → s.heap.get? S = none → TupsAt s.heap.objs.size S s'.heap vs outs → AllBare s'.gens → s'.os = s.os → Q (.ref S) s') :
    wpAny (modelA prog w) A (call (.ref a) [.str x tk]) (fun g s₁ => wpR (modelA prog w) A (call (.type "list") [g]) Q E s₁) E s := by
  refine any_A (call_genfun (Nat.lt_of_le_of_lt (Nat.le_add_right _ 2) hroom) ho hd hlim hcd (hbind _) hloc hco hgen hk hcell fun h' tk' k1 N1 hg => ?_)
  have hsz : s.heap.objs.size + 1 < h'.objs.size := let ⟨o, _, _, ho, _⟩ := hg; Heap.lt_size ho
  have none_ge : ∀ b : Addr, @LE.le Nat _ s.heap.objs.size b → s.heap.get? b = none := fun b hge => by
    cases e : s.heap.get? b with
    | none => rfl
    | some o => exact absurd (Heap.lt_size e) (Nat.not_lt.mpr hge)
  have a1 : (h'.objs.size : Nat) ≠ s.heap.objs.size + 1 := by omega
  have a2 : s.heap.objs.size + 1 ≠ s.heap.objs.size := by omega
  have a3 : (h'.objs.size : Nat) ≠ s.heap.objs.size := by omega
  have hfr : (GenState.fresh (.func body (envOf name scope s.heap.objs.size a cd))).bare = true := rfl
  refine call_list_R (S := h'.objs.size) (n := outs.length) (St := GoSt prog w A.in1.in1.in1 s.heap s s.heap.objs.size (s.heap.objs.size + 1) h'.objs.size s.gens.size outs) (Fi := fun vs s' => GenSt s.heap s s.heap.objs.size (s.heap.objs.size + 1) h'.objs.size s.gens.size outs vs s')
    hn rfl (drainGen (A := A.in1.in1) hh (Nat.lt_of_le_of_lt (Nat.le_add_right _ 2) hroom) hlim (Nat.le_refl _) (none_ge _ (by omega)) a1 a2 a3) ?_ (fun s₂ E' Q' h hq => any_A (wpAny_pyIter_gen h.1.gen hq)) fun s' vs' c' hf hl hS => ?_
  · refine ⟨⟨fun b o e => Heap.get?_push_of_some _ (k1 b o e), hg.push _, rfl, hbare.push hfr, Nat.zero_le _, trivial⟩, .fresh (.func body (envOf name scope s.heap.objs.size a cd)), ?_, fun h'' hk' hS' => ?_⟩
    · show (s.gens.push _)[s.gens.size]? = some _
      rw [Array.getElem?_push_size]
    · refine ⟨rfl, rfl, ?_⟩
      have hNL : h''.Ns s.heap.objs.size (fun y => if y = ("logical_line" : Str) then some (.str x tk) else none) := Ns_but (N1.push _) (Ne.symm a3) hk'
      have hne : ∀ b o, s.heap.get? b = some o → h''.get? b = some o := fun b o e => hk' b o (fun e' => by
        rw [e'] at e
        have := Heap.lt_size e
        have : (h'.objs.size : Nat) < s.heap.objs.size := this
        omega) (Heap.get?_push_of_some _ (k1 b o e))
      exact hW _ _ _ _ tk (none_ge _ (Nat.le_refl _)) (none_ge _ (by omega)) (Ne.symm a3) hNL (if_pos rfl) hne hS'
  · have e : outs.take vs'.length = outs := by rw [hl, List.take_length]
    have ht := hf.tups
    rw [e] at ht
    exact hQ _ vs' c' s' hf.base hS (none_ge _ (by omega)) ht hf.bare hf.os
end
end Mine

end

/-! ## LEq -/
section
open PySem PySem.W PyProof.Rows PySem.Calls
namespace Mine
set_option maxRecDepth 100000

def TupRd (hp : Heap) (v : Value) (o : Out) : Prop := ∃ t tk tk', v = .ref t ∧ hp.get? t = some { cls := .type "tuple", data := .seq #[.int o.1 tk, .str o.2 tk'] }
def TupsRd (hp : Heap) : List Value → List Out → Prop
  | [], [] => True
  | v :: vs, o :: os => TupRd hp v o ∧ TupsRd hp vs os
  | _, _ => False
/-- a list of pairs -/
def ListAt (hp : Heap) (a : Addr) (outs : List Out) : Prop := ∃ vs c, hp.get? a = some (newSeq vs c) ∧ TupsRd hp vs outs
theorem TupsAt.rd {L S : Addr} {hp : Heap} : ∀ {vs : List Value} {os : List Out}, TupsAt L S hp vs os → TupsRd hp vs os
  | [], [], _ => trivial
  | _ :: _, _ :: _, h => ⟨let ⟨t, a, b, e, _, _, h3⟩ := h.1; ⟨t, a, b, e, h3⟩, TupsAt.rd h.2⟩
theorem TupsRd.keeps {hp hp' : Heap} (hk : ∀ b o, hp.get? b = some o → o.cls = .type "tuple" → hp'.get? b = some o) : ∀ {vs : List Value} {os : List Out}, TupsRd hp vs os → TupsRd hp' vs os
  | [], [], _ => trivial
  | _ :: _, _ :: _, h => ⟨let ⟨t, a, b, e, h3⟩ := h.1; ⟨t, a, b, e, hk _ _ h3 rfl⟩, TupsRd.keeps hk h.2⟩
theorem TupsRd.snoc {hp : Heap} {v : Value} {o : Out} (h : TupRd hp v o) : ∀ {vs : List Value} {os : List Out}, TupsRd hp vs os → TupsRd hp (vs ++ [v]) (os ++ [o])
  | [], [], _ => ⟨h, trivial⟩
  | _ :: _, _ :: _, hh => ⟨hh.1, TupsRd.snoc h hh.2⟩
theorem TupsRd.append {hp : Heap} : ∀ {vs ws : List Value} {os ps : List Out}, TupsRd hp vs os → TupsRd hp ws ps → TupsRd hp (vs ++ ws) (os ++ ps)
  | [], _, [], _, _, h => h
  | _ :: _, _, _ :: _, _, hh, h => ⟨hh.1, TupsRd.append hh.2 h⟩
def outData (o : Out) : PyData := .tuple [.int o.1, .str o.2]
theorem TupsRd.reads {hp : Heap} : ∀ {vs : List Value} {os : List Out}, TupsRd hp vs os → ∃ as, ReadsAll hp vs (os.map outData) as
  | [], [], _ => ⟨_, .nil⟩
  | _ :: _, o :: os, h => by
    obtain ⟨t, tk, tk', rfl, h3⟩ := h.1
    obtain ⟨bs, hb⟩ := TupsRd.reads h.2
    have h1 : Reads hp (.ref t) (outData o) ([] ++ ([] ++ [])) := .tuple h3 rfl rfl (.cons (.int _ _) (.cons (.str _ _) .nil))
    exact ⟨_, .cons h1 hb⟩
theorem ListAt.reads {hp : Heap} {a : Addr} {outs : List Out} (h : ListAt hp a outs) : ∃ as, Reads hp (.ref a) (.list (outs.map outData)) as := by
  obtain ⟨vs, c, h1, h2⟩ := h
  obtain ⟨as, h3⟩ := h2.reads
  exact ⟨_, .list h1 rfl rfl (by simpa using h3)⟩
theorem outs_lay {outs : List Out} (h : ∀ o ∈ outs, PyData.strOk o.2 = true) : PyData.canLay0 (.list (outs.map outData)) = true ∧ PyData.depth (.list (outs.map outData)) ≤ 2 := by
  induction outs with
  | nil => exact ⟨rfl, by decide⟩
  | cons o os ih =>
    obtain ⟨i1, i2⟩ := ih fun x hx => h x (List.mem_cons_of_mem _ hx)
    have h1 := h o List.mem_cons_self
    simp only [PyData.canLay0, PyData.canLayAll0, PyData.depth, PyData.depthAll, List.map_cons, outData, h1, Bool.true_and, Bool.and_true] at i1 i2 ⊢
    exact ⟨i1, by omega⟩
theorem outs_eqv : ∀ (o1 o2 : List Out), PyData.eqv (.list (o1.map outData)) (.list (o2.map outData)) = decide (o1 = o2)
  | [], [] => rfl
  | [], _ :: _ => by simp [PyData.eqv, PyData.eqvAll]
  | _ :: _, [] => by simp [PyData.eqv, PyData.eqvAll]
  | a :: l, b :: r => by
    have ih := outs_eqv l r
    simp only [PyData.eqv] at ih
    simp only [PyData.eqv, List.map_cons, PyData.eqvAll, outData, Bool.and_true]
    have : PyData.eqvAll (l.map fun o => PyData.tuple [.int o.1, .str o.2]) (r.map fun o => PyData.tuple [.int o.1, .str o.2]) = decide (l = r) := ih
    rw [show l.map outData = l.map fun o => PyData.tuple [.int o.1, .str o.2] from rfl, show r.map outData = r.map fun o => PyData.tuple [.int o.1, .str o.2] from rfl, this]
    obtain ⟨a1, a2⟩ := a
    obtain ⟨b1, b2⟩ := b
    rw [Bool.eq_iff_iff]
    simp
section
variable {prog : Program} {w : World} {A : Around} {E : Value → Shared → Prop} {s : Shared} {a b : Addr} {o1 o2 : List Out} {Q : Value → Shared → Prop}
theorem list_eq (ra : ListAt s.heap a o1) (rb : ListAt s.heap b o2) (ha : ∀ o ∈ o1, PyData.strOk o.2 = true) (hb : ∀ o ∈ o2, PyData.strOk o.2 = true) (hu : A.units + 2 < cLine) (h : Q (.bool (decide (o1 = o2))) s) :
    wpAny (model prog w) A (compareOp .Eq (.ref a) (.ref b)) Q E s := by
  obtain ⟨as, r1⟩ := ra.reads
  obtain ⟨bs, r2⟩ := rb.reads
  refine SeqAt.compareEq_reads r1 r2 (outs_lay ha).1 (outs_lay hb).1 ?_ (by rw [outs_eqv]; exact h)
  have := (outs_lay ha).2
  omega
theorem list_ne (ra : ListAt s.heap a o1) (rb : ListAt s.heap b o2) (ha : ∀ o ∈ o1, PyData.strOk o.2 = true) (hb : ∀ o ∈ o2, PyData.strOk o.2 = true) (hu : A.units + 2 < cLine) (h : Q (.bool (!decide (o1 = o2))) s) :
    wpAny (model prog w) A (compareOp .NotEq (.ref a) (.ref b)) Q E s := by
  obtain ⟨as, r1⟩ := ra.reads
  obtain ⟨bs, r2⟩ := rb.reads
  refine SeqAt.compareNe_reads r1 r2 (outs_lay ha).1 (outs_lay hb).1 ?_ (by rw [outs_eqv]; exact h)
  have := (outs_lay ha).2
  omega
end
end Mine

end

/-! ## LNext -/
section
open PySem PySem.W PyProof.Rows PySem.Calls
namespace Mine
set_option maxRecDepth 100000


/-- the globals that the law's own defs read -/
structure GNs (h : Heap) (mg mb : Str → Option Value) : Prop where
  g : h.Ns mainGlobals mg
  b : h.Ns builtinsNs mb
  bl : ∀ x : Str, x ∈ (["len", "abs", "range", "list"] : List Str) → mg x = none
  b1 : mb "len" = some (.builtin "len")
  b2 : mb "abs" = some (.builtin "abs")
  b3 : mb "range" = some (.type "range")
  b4 : mb "list" = some (.type "list")
theorem GNs.keeps {h h' : Heap} {mg mb : Str → Option Value} (G : GNs h mg mb) (hk : ∀ b o, h.get? b = some o → h'.get? b = some o) : GNs h' mg mb :=
  ⟨G.g.keeps hk, G.b.keeps hk, G.bl, G.b1, G.b2, G.b3, G.b4⟩

/-- the law's dice -/
structure StAt (hp : Heap) (st sl : Addr) (n : Nat) : Prop where
  st_ : ∃ (i sd : Int) (t1 t2 : Tok), hp.IsList st #[.ref sl, .int i t1, .int sd t2] ∧ 0 ≤ i ∧ i ≤ n ∧ 0 ≤ sd ∧ sd < 2147483647
  sl_ : ∃ vs : Array Value, hp.IsList sl vs ∧ vs.size = n ∧ ∀ v ∈ vs, ∃ i t, v = .int i t
  n_ : n ≤ 60
  ne : st ≠ sl

section
variable {prog : Program} {w : World} {A : Around} {s : Shared} {L a st sl : Addr} {cd : Value} {nm : Str} {n : Nat} {mg mb : Str → Option Value} {m : Str → Option Value}
theorem envNext : EnvOk (envOf nm (scopeOf (topStmt 13)) L a cd) L ["state", "many", "found"] ["len", "abs"] where
  kind := rfl
  at_ := rfl
  g := rfl
  b := rfl
  co := rfl
  loc_ := by intro x hx; simp only [List.mem_cons, List.not_mem_nil, or_false] at hx; rcases hx with rfl | rfl | rfl <;> rfl
  glob_ := by intro x hx; simp only [List.mem_cons, List.not_mem_nil, or_false] at hx; rcases hx with rfl | rfl <;> rfl

theorem next_body {many : Int} {tm : Tok} {Q : Flow → Shared → Prop} (S : StAt s.heap st sl n) (G : GNs s.heap mg mb) (N : s.heap.Ns L m) (v1 : m "state" = some (.ref st)) (v2 : m "many" = some (.int many tm)) (hm : 0 < many) (hm2 : many < 1000)
    (hQ : ∀ r tr h' tk, 0 ≤ r → r < many → StAt h' st sl n → (∀ b o, b ≠ st → b ≠ L → s.heap.get? b = some o → h'.get? b = some o) → Q (.ret (.int r tr)) { s with heap := h', toks := tk }) :
    wpAny (model prog w) A (execs (bodyOf (topStmt 13)) (envOf nm (scopeOf (topStmt 13)) L a cd)) Q (fun _ _ => False) s := by
  obtain ⟨i, sd, t1, t2, hl, hi0, hin, hs0, hs1⟩ := S.st_
  obtain ⟨vs, hsl, hvn, hvi⟩ := S.sl_
  have O := envNext (L := L) (a := a) (cd := cd) (nm := nm)
  refine wpAny_execs_cons (wpAny_If (wpAny_isTrue_Compare1 ?_ rfl))
  refine Subscript_ (ldL O N (by simp) v1 (wpAny_Constant_int ?_))
  refine item_list hl (by decide) (by decide) rfl ?_
  refine Call_name1 rfl (ldB O (by simp) G.g G.b (G.bl _ (by simp)) G.b1 ?_)
  refine callWith_builtin1 ?_
  refine Subscript_ (ldL O (by exact N) (by simp) v1 (wpAny_Constant_int ?_))
  refine item_list hl (by decide) (by decide) rfl ?_
  refine call_len_list hsl (by have := S.n_; omega) ?_
  refine PyProof.Rows.lt_int (wpAny_truthy_bool ?_)
  have hn60 := S.n_
  have hLst : st ≠ L := by obtain ⟨o, h1, h2, c, h3⟩ := hl; exact Ns_ne N h1 (fun es ep e => by rw [h3] at e; cases e)
  have hLsl : sl ≠ L := by obtain ⟨o, h1, h2, c, h3⟩ := hsl; exact Ns_ne N h1 (fun es ep e => by rw [h3] at e; cases e)
  have fmodR : ∀ x y : Int, 0 < y → 0 ≤ x.fmod y ∧ x.fmod y < y := fun x y h => ⟨Int.fmod_nonneg_of_pos x h, Int.fmod_lt_of_pos x h⟩
  by_cases hlt : i < n
  · rw [hvn, decide_eq_true hlt, if_pos rfl]
    have hix : i.toNat < vs.size := by omega
    obtain ⟨e, te, hv⟩ := hvi _ (Array.getElem_mem hix)
    have hget : vs[i.toNat]? = some (.int e te) := by rw [Array.getElem?_eq_getElem hix, hv]
    refine wpAny_execs_cons (wpAny_Assign_Name ?_ rfl)
    refine Call_name1 rfl (ldB O (by simp) G.g G.b (G.bl _ (by simp)) G.b2 ?_)
    refine callWith_builtin1 ?_
    refine Subscript_ (Subscript_ (ldL O (by exact N) (by simp) v1 (wpAny_Constant_int ?_)))
    refine item_list hl (by decide) (by decide) rfl ?_
    refine Subscript_ (ldL O (by exact N) (by simp) v1 (wpAny_Constant_int ?_))
    refine item_list hl (by decide) (by decide) rfl ?_
    refine tail_any hsl.typeIs slot_list_getitem.lookup (wpAny_getItem_list hsl hi0 (by omega) hget ?_) rfl
    refine call_abs_int fun u tk => ?_
    refine stL O (by exact N) (by simp) fun h1 N1 e1 => ?_
    have hl1 : h1.IsList st #[.ref sl, .int i t1, .int sd t2] := by obtain ⟨o, h1', r⟩ := hl; exact ⟨o, (e1.2 st hLst).trans h1', r⟩
    refine wpAny_execs_cons (wpAny_Assign_Subscript ?_ rfl)
    refine wpAny_BinOp (Subscript_ (ldL O (by exact N1) (by simp) (by exact (if_neg (show ¬ (("state" : Str) = ("found" : Str)) by decide)).trans v1) (wpAny_Constant_int ?_)))
    refine item_list (by exact hl1) (by decide) (by decide) rfl ?_
    refine wpAny_Constant_int ?_
    refine PyProof.Rows.add_int ?_
    refine ldL O (by exact N1) (by simp) (by exact (if_neg (show ¬ (("state" : Str) = ("found" : Str)) by decide)).trans v1) (wpAny_Constant_int ?_)
    refine wpAny_setItem_list hl1 (by decide) (by decide) (by simp) fun h2 hl2 e2 => ?_
    have N2 : h2.Ns L _ := N1.sameBut e2 (Ne.symm hLst)
    refine wpAny_execs_cons (wpAny_Assign_Subscript ?_ rfl)
    refine wpAny_BinOp (wpAny_BinOp (wpAny_BinOp (Subscript_ (ldL O (by exact N2) (by simp) (by exact (if_neg (show ¬ (("state" : Str) = ("found" : Str)) by decide)).trans v1) (wpAny_Constant_int ?_)))))
    refine item_list (by exact hl2) (by decide) (by decide) rfl ?_
    refine wpAny_Constant_int ?_
    refine PySem.P.mul_int ?_ (.of_right (by decide))
    refine ldL O (by exact N2) (by simp) (if_pos rfl) ?_
    refine PyProof.Rows.add_int ?_
    refine wpAny_Constant_int ?_
    refine PyProof.Rows.mod_int' (by decide) ?_
    refine ldL O (by exact N2) (by simp) (by exact (if_neg (show ¬ (("state" : Str) = ("found" : Str)) by decide)).trans v1) (wpAny_Constant_int ?_)
    refine wpAny_setItem_list hl2 (by decide) (by decide) (by simp) fun h3 hl3 e3 => ?_
    have N3 : h3.Ns L _ := N2.sameBut e3 (Ne.symm hLst)
    refine wpAny_execs_cons (wpAny_Return_some ?_)
    refine wpAny_BinOp (ldL O (by exact N3) (by simp) (if_pos rfl) ?_)
    refine ldL O (by exact N3) (by simp) (by exact (if_neg (show ¬ (("many" : Str) = ("found" : Str)) by decide)).trans v2) ?_
    refine PyProof.Rows.mod_int' (by omega) ?_
    have k3 : ∀ b, b ≠ st → b ≠ L → h3.get? b = s.heap.get? b := fun b h1 h2 => (e3.2 b h1).trans ((e2.2 b h1).trans (e1.2 b h2))
    refine hQ _ _ h3 _ (fmodR _ _ hm).1 (fmodR _ _ hm).2 ⟨⟨i + 1, _, _, _, hl3, by omega, by omega, (fmodR _ _ (by decide)).1, (fmodR _ _ (by decide)).2⟩, ?_, hn60, S.ne⟩ fun b o h1 h2 e => (k3 b h1 h2).trans e
    exact ⟨vs, by obtain ⟨o, h1', r⟩ := hsl; exact ⟨o, (k3 sl (Ne.symm S.ne) hLsl).trans h1', r⟩, hvn, hvi⟩
  · rw [hvn, decide_eq_false hlt, if_neg Bool.false_ne_true]
    refine wpAny_execs_nil ?_
    refine wpAny_execs_cons (wpAny_Assign_Subscript ?_ rfl)
    refine wpAny_BinOp (wpAny_BinOp (wpAny_BinOp (Subscript_ (ldL O (by exact N) (by simp) v1 (wpAny_Constant_int ?_)))))
    refine item_list (by exact hl) (by decide) (by decide) rfl ?_
    refine wpAny_Constant_int ?_
    refine PySem.P.mul_int ?_ (.of_right (by decide))
    refine wpAny_Constant_int ?_
    refine PyProof.Rows.add_int ?_
    refine wpAny_Constant_int ?_
    refine PyProof.Rows.mod_int' (by decide) ?_
    refine ldL O (by exact N) (by simp) v1 (wpAny_Constant_int ?_)
    refine wpAny_setItem_list hl (by decide) (by decide) (by simp) fun h3 hl3 e3 => ?_
    have N3 : h3.Ns L m := N.sameBut e3 (Ne.symm hLst)
    refine wpAny_execs_cons (wpAny_Return_some ?_)
    refine wpAny_BinOp (wpAny_BinOp (Subscript_ (ldL O (by exact N3) (by simp) v1 (wpAny_Constant_int ?_))))
    refine item_list (by exact hl3) (by decide) (by decide) rfl ?_
    refine wpAny_Constant_int ?_
    have hr := fmodR (sd * 48271 + 11) 2147483647 (by decide)
    refine PyProof.Rows.floordiv_int (by decide) ?_ (Or.inl (PyProof.noPylong_small (by omega)))
    refine ldL O (by exact N3) (by simp) v2 ?_
    refine PyProof.Rows.mod_int' (by omega) ?_
    refine hQ _ _ h3 _ (fmodR _ _ hm).1 (fmodR _ _ hm).2 ⟨⟨i, _, _, _, hl3, hi0, hin, hr.1, hr.2⟩, ?_, hn60, S.ne⟩ fun b o h1 h2 e => (e3.2 b h1).trans e
    exact ⟨vs, by obtain ⟨o, h1', r⟩ := hsl; exact ⟨o, (e3.2 sl (Ne.symm S.ne)).trans h1', r⟩, hvn, hvi⟩
end
end Mine

end

/-! ## LFns -/
section
open PySem PySem.W PyProof.Rows PySem.Calls
namespace Mine
set_option maxRecDepth 100000
set_option linter.unusedVariables false

/-- a def of the text, at its place -/
def FnAt (h : Heap) (mg : Str → Option Value) (name : Str) (i : Nat) : Prop :=
  ∃ a o pm cd doc, mg name = some (.ref a) ∧ h.get? a = some o ∧ o.data = .func (docDef name (paramsOf (topStmt i)) (bodyOf (topStmt i)) (scopeOf (topStmt i)) pm cd doc) ∧ h.CodeRec cd name
theorem FnAt.keeps {h h' : Heap} {mg : Str → Option Value} {name : Str} {i : Nat} (F : FnAt h mg name i) (hk : ∀ b o, h.get? b = some o → h'.get? b = some o) : FnAt h' mg name i :=
  let ⟨a, o, pm, cd, doc, h1, h2, h3, h4⟩ := F; ⟨a, o, pm, cd, doc, h1, hk _ _ h2, h3, h4.keeps hk⟩

section
variable {M : Model} {A : Around} {E : Value → Shared → Prop} {s : Shared} {env : Env} {pos : Pos} {Q : Value → Shared → Prop}
theorem Call_fn {f : Str} {np : Pos} {args : List Expr} {trees : List (Bool × Sem Value)} (hs : backTo pos (starEach args env) = trees)
    (h : wpAny M A (eval (.Name f np) env) (fun fv s₁ => wpAny M A (callWith pos fv [] trees []) Q E s₁) E s) : wpAny M A (eval (.Call (.Name f np) args [] pos) env) Q E s := by
  show wpAny M A (do callWith pos (← eval (.Name f np) env) [] (backTo pos (starEach args env)) (backToKw pos (keywordEach [] env))) Q E s
  rw [hs]
  exact wpAny_bind h
theorem Call_fn2 {f : Str} {np : Pos} {e1 e2 : Expr} (hs : backTo pos (starEach [e1, e2] env) = [(false, eval e1 env), (false, eval e2 env)])
    (h : wpAny M A (eval (.Name f np) env) (fun fv s₁ => wpAny M A (callWith pos fv [] [(false, eval e1 env), (false, eval e2 env)] []) Q E s₁) E s) : wpAny M A (eval (.Call (.Name f np) [e1, e2] [] pos) env) Q E s := Call_fn hs h
theorem Call_fn4 {f : Str} {np : Pos} {e1 e2 e3 e4 : Expr} (hs : backTo pos (starEach [e1, e2, e3, e4] env) = [(false, eval e1 env), (false, eval e2 env), (false, eval e3 env), (false, eval e4 env)])
    (h : wpAny M A (eval (.Name f np) env) (fun fv s₁ => wpAny M A (callWith pos fv [] [(false, eval e1 env), (false, eval e2 env), (false, eval e3 env), (false, eval e4 env)] []) Q E s₁) E s) : wpAny M A (eval (.Call (.Name f np) [e1, e2, e3, e4] [] pos) env) Q E s := Call_fn hs h
theorem callFn0 {a : Addr} {o : Obj} {fd : FuncData} (ho : s.heap.get? a = some o) (hd : o.data = .func fd) (h : wpAny M A (call (.ref a) []) Q E s) :
    wpAny M A (callWith pos (.ref a) [] [] []) Q E s := callWith_function (PySem.evalArgs_none ⟨⟨ho, hd⟩, h⟩)
theorem callFn2 {a : Addr} {o : Obj} {fd : FuncData} {t1 t2 : Sem Value} (hd : o.data = .func fd)
    (h : wpAny M A t1 (fun v1 s1 => wpAny M A t2 (fun v2 s2 => s2.heap.get? a = some o ∧ wpAny M A (call (.ref a) [v1, v2]) Q E s2) E s1) E s) :
    wpAny M A (callWith pos (.ref a) [] [(false, t1), (false, t2)] []) Q E s :=
  callWith_function (evalArgs_plain (spliced_cons (wpAny_mono h (fun v1 s1 h1 => spliced_cons (wpAny_mono h1 (fun v2 s2 h2 => spliced_nil ⟨⟨h2.1, hd⟩, h2.2⟩) fun _ _ e => e)) fun _ _ e => e)))
theorem callFn4 {a : Addr} {o : Obj} {fd : FuncData} {t1 t2 t3 t4 : Sem Value} (hd : o.data = .func fd)
    (h : wpAny M A t1 (fun v1 s1 => wpAny M A t2 (fun v2 s2 => wpAny M A t3 (fun v3 s3 => wpAny M A t4 (fun v4 s4 => s4.heap.get? a = some o ∧ wpAny M A (call (.ref a) [v1, v2, v3, v4]) Q E s4) E s3) E s2) E s1) E s) :
    wpAny M A (callWith pos (.ref a) [] [(false, t1), (false, t2), (false, t3), (false, t4)] []) Q E s :=
  callWith_function (evalArgs_plain (spliced_cons (wpAny_mono h (fun v1 s1 h1 => spliced_cons (wpAny_mono h1 (fun v2 s2 h2 => spliced_cons (wpAny_mono h2 (fun v3 s3 h3 => spliced_cons (wpAny_mono h3 (fun v4 s4 h4 => spliced_nil ⟨⟨h4.1, hd⟩, h4.2⟩) fun _ _ e => e)) fun _ _ e => e)) fun _ _ e => e)) fun _ _ e => e)))
end

/-- what holds of the text's top while the law goes -/
structure Tx (h : Heap) (mg mb : Str → Option Value) : Prop where
  G : GNs h mg mb
  lim : h.NoLimit
  fn : FnAt h mg "_law_next" 13
  fg : FnAt h mg "_law_gaps" 12
  fp : FnAt h mg "_law_gap" 14
  ft : FnAt h mg "_law_told" 15
theorem Tx.keeps {h h' : Heap} {mg mb : Str → Option Value} (T : Tx h mg mb) (hk : ∀ b o, h.get? b = some o → h'.get? b = some o) : Tx h' mg mb :=
  ⟨T.G.keeps hk, T.lim.keeps hk, T.fn.keeps hk, T.fg.keeps hk, T.fp.keeps hk, T.ft.keeps hk⟩
theorem IsList.keep {h h' : Heap} {a : Addr} {vs : Array Value} (hl : h.IsList a vs) (hk : ∀ o, h.get? a = some o → h'.get? a = some o) : h'.IsList a vs := let ⟨o, h1, r⟩ := hl; ⟨o, hk _ h1, r⟩
theorem StAt.keep {h h' : Heap} {st sl : Addr} {n : Nat} (S : StAt h st sl n) (hk : ∀ b o, h.get? b = some o → h'.get? b = some o) : StAt h' st sl n :=
  ⟨let ⟨i, sd, t1, t2, hl, r⟩ := S.st_; ⟨i, sd, t1, t2, IsList.keep hl (hk _), r⟩, let ⟨vs, hl, r⟩ := S.sl_; ⟨vs, IsList.keep hl (hk _), r⟩, S.n_, S.ne⟩

section
variable {prog : Program} {w : World} {A : Around} {E : Value → Shared → Prop} {s : Shared} {st sl : Addr} {n : Nat} {mg mb : Str → Option Value}
/-- _law_next(state, many) -/
theorem next_call {a : Addr} {many : Int} {tm : Tok} {Q : Value → Shared → Prop} (T : Tx s.heap mg mb) (S : StAt s.heap st sl n) (ha : mg "_law_next" = some (.ref a)) (hroom : A.depth < recursionLimit) (hm : 0 < many) (hm2 : many < 1000)
    (hQ : ∀ r tr h' tk, 0 ≤ r → r < many → StAt h' st sl n → (∀ b o, b ≠ st → s.heap.get? b = some o → h'.get? b = some o) → Q (.int r tr) { s with heap := h', toks := tk }) :
    wpAny (model prog w) A (call (.ref a) [.ref st, .int many tm]) Q E s := by
  obtain ⟨a', o, pm, cd, doc, h1, h2, h3, h4⟩ := T.fn
  obtain rfl : a = a' := by rw [ha] at h1; cases h1; rfl
  refine wpAny_call (call_plain_ret (binds := [(("state" : Str), .ref st), (("many" : Str), .int many tm)]) hroom h2 h3 T.lim h4 rfl (by intro x hx; simp only [List.mem_cons, List.not_mem_nil, or_false] at hx; rcases hx with rfl | rfl <;> rfl) (fun h₁ F => ?_) rfl rfl rfl (by decide))
  refine next_body (S.keep F.keep) (T.G.keeps F.keep) F.ns rfl rfl hm hm2 fun r tr h' tk r0 r1 S' k => ?_
  exact hQ r tr h' tk r0 r1 S' fun b o hb e => k b o hb (Nat.ne_of_lt (Heap.lt_size e)) (F.keep b o e)
end
end Mine

end

/-! ## LTailR -/
section
open PySem PySem.W PyProof.Rows PySem.Calls
namespace Mine
set_option maxRecDepth 100000

section
variable {M : Model} {A : Around} {E : Value → Shared → Prop} {s : Shared} {env : Env}
theorem R_execs_cons {st : Stmt} {rest : List Stmt} {Q : Flow → Shared → Prop}
    (h : wpR M A (exec st env) (fun f s' => match f with | .next => wpR M A (execs rest env) Q E s' | f => Q f s') E s) : wpR M A (execs (st :: rest) env) Q E s := fun Γ p hΓ h1 h2 => by
  rw [execs_cons, Sem.wp_bind']
  refine Sem.wp_mono M Γ _ (fun f p' s' h' => ?_) (fun _ _ _ h' => h') _ _ (h Γ p hΓ h1 h2)
  cases f <;> first | exact h' Γ p' hΓ h1 h2 | exact h'
theorem R_execs_nil {Q : Flow → Shared → Prop} (h : Q .next s) : wpR M A (execs [] env) Q E s := wpR_of (wpAny_execs_nil h)
theorem R_If {test : Expr} {body orelse : List Stmt} {pos : Pos} {Q : Flow → Shared → Prop}
    (h : wpR M A (isTrue test env (eval test env)) (fun b s₂ => if b then wpR M A (execs body env) Q E s₂ else wpR M A (execs orelse env) Q E s₂) E s) :
    wpR M A (exec (.If test body orelse pos) env) Q E s := fun Γ p hΓ h1 h3 => by
  simp only [exec_If, Sem.wp_bind', Sem.wp_cmd_standAt]
  refine Sem.wp_mono M Γ _ (fun b p₂ s₂ h₂ => ?_) (fun _ _ _ h' => h') _ _ (h Γ _ hΓ h1 h3)
  cases b <;> exact h₂ Γ p₂ hΓ h1 h3
theorem R_Return {e : Expr} {pos : Pos} {Q : Flow → Shared → Prop} (h : wpR M A (eval e env) (fun v => Q (.ret v)) E s) : wpR M A (exec (.Return (some e) pos) env) Q E s := fun Γ p hΓ h1 h2 => by
  simp only [exec_Return_some, Sem.wp_bind', Sem.wp_cmd_standAt, Sem.wp_pure']; exact h Γ _ hΓ h1 h2
theorem R_isTrue_or {x y : Expr} {pos : Pos} {whole : Sem Value} {Q : Bool → Shared → Prop}
    (h : wpR M A (isTrue x env (eval x env)) (fun c s' => if c then Q true s' else wpR M A (isTrue y env (eval y env)) Q E s') E s) : wpR M A (isTrue (.BoolOp .Or [x, y] pos) env whole) Q E s := by
  show wpR M A (do
    match BoolOp.Or, ← isTrue x env (eval x env) with
    | .And, false => pure false
    | .Or, true => pure true
    | _, _ => allTrue .Or [y] env) Q E s
  refine wpR_bind (wpR_mono h (fun c s' h' => ?_) fun _ _ x => x)
  cases c with
  | true => exact wpR_pure h'
  | false =>
    show wpR M A (do
      match BoolOp.Or, ← isTrue y env (eval y env) with
      | .And, false => pure false
      | .Or, true => pure true
      | _, _ => allTrue .Or [] env) Q E s'
    refine wpR_bind (wpR_mono h' (fun c s' h' => ?_) fun _ _ x => x)
    cases c with
    | true => exact wpR_pure h'
    | false => exact wpR_of (wpAny_allTrue_Or_nil h')
theorem R_And2 {x y : Expr} {pos : Pos} {Q : Value → Shared → Prop}
    (h : wpR M A (eval x env) (fun v s₁ => ∃ b, v = .bool b ∧ (if b then wpR M A (eval y env) Q E s₁ else Q v s₁)) E s) :
    wpR M A (eval (.BoolOp .And [x, y] pos) env) Q E s := by
  show wpR M A (do
    let v ← eval x env
    standAt pos
    let t ← holding [v] (truthy v)
    match BoolOp.And, t with
    | .And, false | .Or, true => pure v
    | _, _ => boolOp pos .And [eval y env]) Q E s
  refine wpR_bind (wpR_mono h (fun v s₁ h₁ => ?_) fun _ _ x => x)
  obtain ⟨b, rfl, h₁⟩ := h₁
  refine wpR_step (wpAny_standAt (wpR_step (wpAny_holding (wpAny_truthy_bool ?_))))
  cases b with
  | false => exact wpR_pure h₁
  | true => exact h₁
theorem R_isTrue_Compare1 {l r : Expr} {op : CmpOp} {pos : Pos} {whole : Sem Value} {Q : Bool → Shared → Prop}
    (h : wpR M A (eval l env) (fun a s₁ => wpAny M A (eval r env) (fun b s₂ => wpAny M A (compareOp op a b) (fun c s₃ => wpAny M A (truthy c) Q E s₃) E s₂) E s₁) E s)
    (hm : behindInMarks op r = false := by with_unfolding_all rfl) : wpR M A (isTrue (.Compare l [op] [r] pos) env whole) Q E s := fun Γ p hΓ g1 g2 => by
  simp only [isTrue_Compare1, markedBehindIn_of_false hm, Sem.wp_bind', Sem.wp_holding, Sem.wp_cmd_standAt, Sem.wp_operate]
  exact Sem.wp_mono M Γ _ (fun a p₁ s₁ h₁ => Sem.wp_mono M Γ _ (fun b _ s₂ h₂ => Sem.wp_mono M Γ _ (fun c p₃ s₃ h₃ => h₃ Γ p₃ hΓ)
    (fun _ _ _ h' => h') _ _ (h₂ Γ _ hΓ)) (fun _ _ _ h' => h') _ _ (h₁ Γ p₁ hΓ)) (fun _ _ _ h' => h') _ _ (h Γ p hΓ g1 g2)
theorem R_Compare1 {l r : Expr} {op : CmpOp} {pos : Pos} {Q : Value → Shared → Prop}
    (h : wpR M A (eval l env) (fun a s₁ => wpAny M A (eval r env) (fun b s₂ => wpAny M A (compareOp op a b) Q E s₂) E s₁) E s)
    (hm : behindInMarks op r = false := by with_unfolding_all rfl) : wpR M A (eval (.Compare l [op] [r] pos) env) Q E s := fun Γ p hΓ g1 g2 => by
  simp only [eval_Compare1, markedBehindIn_of_false hm, Sem.wp_bind', Sem.wp_holding, Sem.wp_cmd_standAt, Sem.wp_operate]
  exact Sem.wp_mono M Γ _ (fun a p₁ s₁ h₁ => Sem.wp_mono M Γ _ (fun b _ s₂ h₂ => h₂ Γ _ hΓ) (fun _ _ _ h' => h') _ _ (h₁ Γ p₁ hΓ))
    (fun _ _ _ h' => h') _ _ (h Γ p hΓ g1 g2)
/-- T(e), e walked by the library -/
theorem R_callWith_type1 {pos : Pos} {T : String} {t : Sem Value} {Q : Value → Shared → Prop} (h : wpAny M A t (fun v s₁ => wpR M A (call (.type T) [v]) Q E s₁) E s) : wpR M A (callWith pos (.type T) [] [(false, t)] []) Q E s := by
  unfold callWith
  refine wpR_step (wpAny_holding (evalArgs_plain (spliced_cons (wpAny_mono h (fun v s₁ h₁ => spliced_nil ?_) fun _ _ x => x))))
  refine wpR_step (wpAny_standAt ?_)
  simp only [List.any_cons, List.any_nil, Bool.or_false]
  refine wpR_step (wpAny_pure ?_)
  exact wpR_bind (wpR_mono h₁ (fun r s₂ hr => wpR_of (wpAny_bind (wpAny_holding (wpAny_point (wpAny_pure hr))))) fun _ _ x => x)
theorem R_Call_name1 {x : Str} {np pos : Pos} {e : Expr} {Q : Value → Shared → Prop} (hs : starEach [e] env = [(false, eval e env)])
    (h : wpAny M A (eval (.Name x np) env) (fun f s₁ => wpR M A (callWith pos f [] [(false, eval e env)] []) Q E s₁) E s) :
    wpR M A (eval (.Call (.Name x np) [e] [] pos) env) Q E s := by
  show wpR M A (do callWith pos (← eval (.Name x np) env) [] (backTo pos (starEach [e] env)) (backToKw pos (keywordEach [] env))) Q E s
  rw [hs]
  exact wpR_step h
theorem callFn1 {pos : Pos} {a : Addr} {o : Obj} {fd : FuncData} {t : Sem Value} {Q : Value → Shared → Prop} (hd : o.data = .func fd)
    (h : wpAny M A t (fun v s₁ => s₁.heap.get? a = some o ∧ wpAny M A (call (.ref a) [v]) Q E s₁) E s) : wpAny M A (callWith pos (.ref a) [] [(false, t)] []) Q E s :=
  callWith_function (evalArgs_plain (spliced_cons (wpAny_mono h (fun v s₁ h₁ => spliced_nil ⟨⟨h₁.1, hd⟩, h₁.2⟩) fun _ _ x => x)))
end

section
variable {prog : Program} {w : World} {A : Around} {R : Result → Shared → Prop} {s : Shared}
theorem codeR_func {body : List Stmt} {env : Env}
    (h : wpR (modelA prog w) (A.deeper env) (execs body env) (fun f s' => R (.ok (.ret (match f with | .ret v => v | _ => .none))) s') (fun _ _ => False) s) :
    codeR (modelA prog w) A (.func body env) R s := by
  refine codeR_of_tree rfl ?_
  rw [den_modelA, denA_not rfl]
  show wpR _ (A.deeper env) (do point; match ← (execs body env).onRaise (leaving env) with | .ret v => ret v | _ => ret .none) _ _ s
  refine wpR_step (wpAny_point (wpR_bind (wpR_onRaise (wpR_mono h (fun f s' h' => ?_) fun _ _ h' => h'.elim))))
  cases f <;> exact wpR_pure h'
theorem codeR_call_function {a : Addr} {args : Args} {o : Obj} {fd : FuncData} {body : List Stmt} (hroom : A.depth < recursionLimit)
    (ho : s.heap.get? a = some o)
    (hd' : o.data = .func fd) (hco : fd.scope.isCoroutine = false) (hgen : fd.scope.isGenerator = false) (hbody : fd.body = .stmts body) (hcd : s.heap.CodeRec fd.code fd.qualname)
    (h : wpAny (model prog w) A.in1 (bindArgs fd args) (fun binds s₁ =>
      wpAny (model prog w) A.in1 (newFunctionEnv fd.scope fd.globals fd.closure binds (fd.qualname ++ ".<locals>.") (some a) fd.code none fd.builtins)
        (fun env s₂ => s₂.heap.NoLimit ∧ codeR (modelA prog w) A (.func body env) R s₂) (fun e s' => R (.error e) s') s₁) (fun e s' => R (.error e) s') s) :
    codeR (modelA prog w) A (.call (.ref a) args) R s := by
  refine codeR_of_tree rfl ?_
  rw [den_modelA, denA_not rfl]
  refine wpR_of (any_A ?_)
  show wpAny _ A.in1 (callAny (.ref a) args) _ _ s
  simp only [callAny]
  refine wpAny_bind (wpAny_load ho ?_)
  obtain ⟨c, oc, vs, tq, hc, hoc, hdc, hq⟩ := hcd
  simp only [hd', callFunction, hco, hgen, hbody, hc]
  rw [hc] at h
  refine wpAny_bind (m := field (.ref c) 1) (wpAny_field hoc hdc hq (wpAny_bind (wpAny_pure ?_)))
  exact wpAny_bind (wpAny_mono h (fun binds s₁ h₁ => wpAny_bind (wpAny_mono h₁ (fun env s₂ h₂ => wpAny_bind (wpAny_enterFrame h₂.1 hroom
    (wpAny_pure (And.intro rfl h₂.2)))) fun _ _ h' => h')) fun _ _ h' => h')
theorem codeR_call_plain {name : Str} {params : Arguments} {body : List Stmt} {scope : Scope} {pm cd doc : Value} {a : Addr} {o : Obj} {args : List Value} {binds : List (Str × Value)}
    (hroom : A.depth < recursionLimit) (ho : s.heap.get? a = some o) (hdata : o.data = .func (docDef name params body scope pm cd doc)) (hlim : s.heap.NoLimit) (hcd : s.heap.CodeRec cd name)
    (hbind : bindArgs (docDef name params body scope pm cd doc) ⟨args, []⟩ = pure binds)
    (hloc : ∀ x ∈ binds, scope.names.lookup x.1 = some .local)
    (h : ∀ h₁, Fr s.heap s.heap.objs.size h₁ (fun x => binds.reverse.lookup x) →
      wpR (modelA prog w) (A.deeper (envOf name scope s.heap.objs.size a cd)) (execs body (envOf name scope s.heap.objs.size a cd))
        (fun f s' => R (.ok (.ret (match f with | .ret v => v | _ => .none))) s') (fun _ _ => False) { s with heap := h₁, toks := s.toks + binds.length })
    (hco : scope.isCoroutine = false := by rfl) (hgen : scope.isGenerator = false := by rfl) (hk : scope.kind = .function := by rfl)
    (hcell : ∀ x ∈ scope.names, x.2 ≠ .cell := by decide) :
    codeR (modelA prog w) A (.call (.ref a) ⟨args, []⟩) R s := by
  refine codeR_call_function hroom ho hdata hco hgen rfl hcd ?_
  rw [hbind]
  refine wpAny_pure (wpAny_newFunctionEnv hcell hloc (fun h₁ hns hsb => ⟨hlim.fresh _ hsb, ?_⟩) hk)
  show codeR _ _ (.func body (envOf name scope s.heap.objs.size a cd)) _ _
  exact codeR_func (h h₁ ⟨hns, fun b o e => hsb.extBut b o (Nat.ne_of_lt (Heap.lt_size e)) (Heap.get?_push_of_some _ e), Nat.le_refl _⟩)
end
end Mine

end

/-! ## LGap -/
section
open PySem PySem.W PyProof.Rows PySem.Calls
namespace Mine
set_option maxRecDepth 100000
set_option linter.unusedVariables false

def gapL : List Str := ["", " ", "  ", "\t", " \t", "   ", "\t "]
def toldO (place : Int) (gap tab blanks : Str) : List Out := if Txt.contains gap tabS then [(place, tab)] else if 1 < gap.length then [(place, blanks)] else []
theorem gap_len : ∀ g ∈ gapL, g.length ≤ 3 := by decide

section
variable {prog : Program} {w : World} {A : Around} {E : Value → Shared → Prop} {s : Shared} {st sl : Addr} {n : Nat} {mg mb : Str → Option Value}
/-- _law_gaps() -/
theorem gaps_call {a : Addr} {Q : Value → Shared → Prop} (T : Tx s.heap mg mb) (ha : mg "_law_gaps" = some (.ref a)) (hroom : A.depth < recursionLimit)
    (hQ : ∀ l h' tk (ts : Fin 7 → Tok), h'.IsList l #[.str "" (ts 0), .str " " (ts 1), .str "  " (ts 2), .str "\t" (ts 3), .str " \t" (ts 4), .str "   " (ts 5), .str "\t " (ts 6)] → (∀ b o, s.heap.get? b = some o → h'.get? b = some o) → @LE.le Nat _ s.heap.objs.size l → Q (.ref l) { s with heap := h', toks := tk }) :
    wpAny (model prog w) A (call (.ref a) []) Q E s := by
  obtain ⟨a', o, pm, cd, doc, h1, h2, h3, h4⟩ := T.fg
  obtain rfl : a = a' := by rw [ha] at h1; cases h1; rfl
  refine wpAny_call (call_plain_ret (binds := []) hroom h2 h3 T.lim h4 rfl (by intro x hx; cases hx) (fun h₁ F => ?_) rfl rfl rfl (by decide))
  refine wpAny_execs_cons (wpAny_Return_some (wpAny_List ?_))
  simp only [starEach, backTo, List.map_cons, List.map_nil, Bool.false_eq_true, if_false]
  refine spliced_cons (wpAny_Constant_str ?_)
  refine spliced_cons (wpAny_Constant_str ?_)
  refine spliced_cons (wpAny_Constant_str ?_)
  refine spliced_cons (wpAny_Constant_str ?_)
  refine spliced_cons (wpAny_Constant_str ?_)
  refine spliced_cons (wpAny_Constant_str ?_)
  refine spliced_cons (wpAny_Constant_str ?_)
  refine spliced_nil ⟨by show 7 ≤ sizeLine; rw [sizeLine_eq]; decide, ?_⟩
  refine hQ _ _ _ (fun i => s.toks + ([] : List (Str × Value)).length + i.val) ⟨_, Heap.get?_push_size _ rfl, rfl, _, rfl⟩ (fun b o e => Heap.get?_push_of_some _ (F.keep b o e)) (Nat.le_of_lt (Nat.lt_of_le_of_lt F.above F.ns.lt))
/-- _law_gap(state, least) -/
theorem gap_call {a : Addr} {least : Bool} {Q : Value → Shared → Prop} (T : Tx s.heap mg mb) (S : StAt s.heap st sl n) (ha : mg "_law_gap" = some (.ref a)) (hroom : A.depth + 3 < recursionLimit)
    (hQ : ∀ g tg h' tk, g ∈ gapL → (least = true → g ≠ ("" : Str)) → StAt h' st sl n → (∀ b o, b ≠ st → s.heap.get? b = some o → h'.get? b = some o) → Q (.str g tg) { s with heap := h', toks := tk }) :
    wpAny (model prog w) A (call (.ref a) [.ref st, .bool least]) Q E s := by
  obtain ⟨a', o, pm, cd, doc, h1, h2, h3, h4⟩ := T.fp
  obtain rfl : a = a' := by rw [ha] at h1; cases h1; rfl
  refine wpAny_call (call_plain_ret (binds := [(("state" : Str), .ref st), (("least" : Str), .bool least)]) (by omega) h2 h3 T.lim h4 rfl (by intro x hx; simp only [List.mem_cons, List.not_mem_nil, or_false] at hx; rcases hx with rfl | rfl <;> rfl) (fun h₁ F => ?_) rfl rfl rfl (by decide))
  have O : EnvOk (envOf "_law_gap" (scopeOf (topStmt 14)) s.heap.objs.size a cd) s.heap.objs.size ["state", "least", "gap"] ["_law_gaps", "_law_next"] := {
    kind := rfl, at_ := rfl, g := rfl, b := rfl, co := rfl
    loc_ := by intro x hx; simp only [List.mem_cons, List.not_mem_nil, or_false] at hx; rcases hx with rfl | rfl | rfl <;> rfl
    glob_ := by intro x hx; simp only [List.mem_cons, List.not_mem_nil, or_false] at hx; rcases hx with rfl | rfl <;> rfl }
  obtain ⟨ag, og, _, _, _, hg1, hg2, hg3, _⟩ := id T.fg
  obtain ⟨an, on, _, _, _, hn1, hn2, hn3, _⟩ := id T.fn
  have T1 := T.keeps F.keep
  have S1 := S.keep F.keep
  refine wpAny_execs_cons (wpAny_Assign_Name ?_ rfl)
  refine Subscript_ (Call_fn rfl (ldG O (by simp) T1.G.g hg1 ?_))
  refine callFn0 (F.keep _ _ hg2) hg3 ?_
  refine gaps_call T1 hg1 (by show A.depth + 1 < _; omega) fun l h2 tk2 ts hl k2 hge => ?_
  refine Call_fn2 rfl (ldG O (by simp) (T1.G.g.keeps k2) hn1 ?_)
  refine callFn2 hn3 (ldL O (F.ns.keeps k2) (by simp) rfl ?_)
  refine wpAny_Constant_int ⟨k2 _ _ (F.keep _ _ hn2), ?_⟩
  refine next_call (T1.keeps k2) (S1.keep k2) hn1 (by show A.depth + 1 < _; omega) (by decide) (by decide) fun r tr h3 tk3 r0 r1 S3 k3 => ?_
  have hlst : l ≠ st := fun e => by
    obtain ⟨i, sd, t1, t2, hl', _⟩ := S1.st_
    obtain ⟨o, ho, _⟩ := hl'
    have : (st : Nat) < h₁.objs.size := Heap.lt_size ho
    rw [← e] at this
    exact absurd hge (Nat.not_le.mpr this)
  have hl3 := IsList.keep hl (fun o => k3 l o hlst)
  have hcase : ∃ g tg, g ∈ gapL ∧ (#[Value.str "" (ts 0), .str " " (ts 1), .str "  " (ts 2), .str "\t" (ts 3), .str " \t" (ts 4), .str "   " (ts 5), .str "\t " (ts 6)])[r.toNat]? = some (.str g tg) := by
    have hr : r.toNat < 7 := by omega
    match hrn : r.toNat, hr with
    | 0, _ => exact ⟨"", ts 0, by simp [gapL], rfl⟩
    | 1, _ => exact ⟨" ", ts 1, by simp [gapL], rfl⟩
    | 2, _ => exact ⟨"  ", ts 2, by simp [gapL], rfl⟩
    | 3, _ => exact ⟨"\t", ts 3, by simp [gapL], rfl⟩
    | 4, _ => exact ⟨" \t", ts 4, by simp [gapL], rfl⟩
    | 5, _ => exact ⟨"   ", ts 5, by simp [gapL], rfl⟩
    | 6, _ => exact ⟨"\t ", ts 6, by simp [gapL], rfl⟩
  obtain ⟨g, tg, hgm, hget⟩ := hcase
  refine tail_any hl3.typeIs slot_list_getitem.lookup (wpAny_getItem_list hl3 r0 (by omega) hget ?_) rfl
  have hLst : s.heap.objs.size ≠ st := fun e => by
    obtain ⟨i, sd, t1, t2, hl', _⟩ := S.st_
    obtain ⟨o, ho, _⟩ := hl'
    have : (st : Nat) < s.heap.objs.size := Heap.lt_size ho
    rw [e] at this
    exact absurd this (Nat.lt_irrefl _)
  have N3 : h3.Ns s.heap.objs.size _ := Ns_but (F.ns.keeps k2) hLst k3
  refine stL O (by exact N3) (by simp) fun h4 N4 e4 => ?_
  have keep4 : ∀ b o, b ≠ st → s.heap.get? b = some o → h4.get? b = some o := fun b o hb e => (e4.2 b (Nat.ne_of_lt (Heap.lt_size e))).trans (k3 b o hb (k2 b o (F.keep b o e)))
  have S4 : StAt h4 st sl n := by
    obtain ⟨i, sd, t1, t2, hl', r1⟩ := S3.st_
    obtain ⟨vs, hsl, r2⟩ := S3.sl_
    refine ⟨⟨i, sd, t1, t2, IsList.keep hl' (fun o e => (e4.2 _ (Ne.symm hLst)).trans e), r1⟩, ⟨vs, IsList.keep hsl (fun o e => (e4.2 _ ?_).trans e), r2⟩, S3.n_, S3.ne⟩
    obtain ⟨o, ho, _, c, hd⟩ := hsl
    exact Ns_ne N3 ho (fun es ep e => by rw [hd] at e; cases e)
  refine wpAny_execs_cons (wpAny_Return_some (wpAny_IfExp ?_))
  refine isTrue_and (wpAny_isTrue_Compare1 ?_ rfl)
  refine ldL O (by exact N4) (by simp) (by exact if_pos rfl) ?_
  refine wpAny_Constant_str ?_
  refine eq_str (wpAny_truthy_bool ?_)
  by_cases hge : g = ("" : Str)
  · rw [beq_iff_eq.mpr hge, if_pos rfl]
    refine isTrue_and (wpAny_isTrue_value ?_ rfl)
    refine ldL O (by exact N4) (by simp) (by exact (if_neg (show ¬ (("least" : Str) = ("gap" : Str)) by decide))) ?_
    refine wpAny_truthy_bool ?_
    cases least with
    | true =>
      rw [if_pos rfl]
      refine isTrue_and_nil ?_
      rw [if_pos rfl]
      exact wpAny_Constant_str (hQ _ _ h4 _ (by simp [gapL]) (fun _ => by decide) S4 keep4)
    | false =>
      rw [if_neg Bool.false_ne_true, if_neg Bool.false_ne_true]
      exact ldL O (by exact N4) (by simp) (by exact if_pos rfl) (hQ _ _ h4 _ hgm (fun h => by cases h) S4 keep4)
  · rw [show (g == ("" : Str)) = false from beq_eq_false_iff_ne.mpr hge, if_neg Bool.false_ne_true, if_neg Bool.false_ne_true]
    exact ldL O (by exact N4) (by simp) (by exact if_pos rfl) (hQ _ _ h4 _ hgm (fun _ => hge) S4 keep4)
end
end Mine

end

/-! ## LTold -/
section
open PySem PySem.W PyProof.Rows PySem.Calls
namespace Mine
set_option maxRecDepth 100000
set_option linter.unusedVariables false
section
variable {prog : Program} {w : World} {A : Around} {E : Value → Shared → Prop} {s : Shared} {mg mb : Str → Option Value}
/-- a list of one pair, made -/
theorem mkOne {env : Env} {e1 e2 : Expr} {k : Nat} {p1 p2 : Pos} {i : Int} {y : Str} {Q : Value → Shared → Prop}
    (hs : backTo p1 (starEach [e1, e2] env) = [(false, eval e1 env), (false, eval e2 env)])
    (h : wpAny (model prog w) A (eval e1 env) (fun a s₁ => ∃ t, a = .int i t ∧ wpAny (model prog w) A (eval e2 env) (fun b s₂ => ∃ t', b = .str y t' ∧
      ∀ h' l, (∀ b o, s₂.heap.get? b = some o → h'.get? b = some o) → ListAt h' l [(i, y)] → @LE.le Nat _ s₂.heap.objs.size l → Q (.ref l) { s₂ with heap := h' }) E s₁) E s) :
    wpAny (model prog w) A (eval (.List [.Tuple [e1, e2] k p1] p2) env) Q E s := by
  refine wpAny_List ?_
  simp only [starEach, backTo, List.map_cons, List.map_nil, Bool.false_eq_true, if_false]
  refine spliced_cons ?_
  refine mkPair hs (wpAny_mono h (fun a s₁ ⟨t, ht, h1⟩ => ⟨t, ht, wpAny_mono h1 (fun b s₂ ⟨t', ht', h2⟩ => ⟨t', ht', ?_⟩) fun _ _ e => e⟩) fun _ _ e => e)
  refine spliced_nil ⟨by show 1 ≤ sizeLine; rw [sizeLine_eq]; decide, ?_⟩
  refine h2 _ _ (fun b o e => Heap.get?_push_of_some _ (Heap.get?_push_of_some _ e)) ⟨[.ref s₂.heap.objs.size], 0, Heap.get?_push_size _ rfl, ⟨_, t, t', rfl, Heap.get?_push_of_some _ (Heap.get?_push_size _ rfl)⟩, trivial⟩ ?_
  rw [Heap.size_push]; exact Nat.le_succ _
theorem told_call {a : Addr} {place : Int} {gap tab blanks : Str} {tp tg tt tb : Tok} {Q : Value → Shared → Prop} (T : Tx s.heap mg mb) (ha : mg "_law_told" = some (.ref a)) (hroom : A.depth < recursionLimit) (hg : gap.length ≤ 100000)
    (hQ : ∀ l h' tk, ListAt h' l (toldO place gap tab blanks) → (∀ b o, s.heap.get? b = some o → h'.get? b = some o) → @LE.le Nat _ s.heap.objs.size l → Q (.ref l) { s with heap := h', toks := tk }) :
    wpAny (model prog w) A (call (.ref a) [.int place tp, .str gap tg, .str tab tt, .str blanks tb]) Q E s := by
  obtain ⟨a', o, pm, cd, doc, h1, h2, h3, h4⟩ := T.ft
  obtain rfl : a = a' := by rw [ha] at h1; cases h1; rfl
  refine wpAny_call (call_plain_ret (binds := [(("place" : Str), .int place tp), (("gap" : Str), .str gap tg), (("tab" : Str), .str tab tt), (("blanks" : Str), .str blanks tb)]) hroom h2 h3 T.lim h4 rfl
    (by intro x hx; simp only [List.mem_cons, List.not_mem_nil, or_false] at hx; rcases hx with rfl | rfl | rfl | rfl <;> rfl) (fun h₁ F => ?_) rfl rfl rfl (by decide))
  have O : EnvOk (envOf "_law_told" (scopeOf (topStmt 15)) s.heap.objs.size a cd) s.heap.objs.size ["place", "gap", "tab", "blanks"] ["len"] := {
    kind := rfl, at_ := rfl, g := rfl, b := rfl, co := rfl
    loc_ := by intro x hx; simp only [List.mem_cons, List.not_mem_nil, or_false] at hx; rcases hx with rfl | rfl | rfl | rfl <;> rfl
    glob_ := by intro x hx; simp only [List.mem_cons, List.not_mem_nil, or_false] at hx; rcases hx with rfl <;> rfl }
  have T1 := T.keeps F.keep
  refine wpAny_execs_cons (wpAny_If (wpAny_isTrue_Compare1 ?_ rfl))
  refine wpAny_Constant_str ?_
  refine ldL O F.ns (by simp) rfl ?_
  refine SB.contains (wpAny_truthy_bool ?_)
  have hlt : ∀ l : Addr, @LE.le Nat _ h₁.objs.size l → @LE.le Nat _ s.heap.objs.size l := fun l h => Nat.le_trans (Nat.le_of_lt F.ns.lt) h
  by_cases hT : Txt.contains gap tabS = true
  · rw [show Txt.contains gap "\t" = true from hT, if_pos rfl]
    have e : toldO place gap tab blanks = [(place, tab)] := by unfold toldO; rw [if_pos hT]
    rw [e] at hQ
    refine wpAny_execs_cons (wpAny_Return_some ?_)
    refine mkOne (i := place) (y := tab) rfl (ldL O F.ns (by simp) rfl ⟨_, rfl, ldL O F.ns (by simp) rfl ⟨_, rfl, fun h' l k hL hge => ?_⟩⟩)
    exact hQ l h' _ hL (fun b o e => k b o (F.keep b o e)) (hlt l hge)
  · rw [Bool.not_eq_true] at hT
    rw [show Txt.contains gap "\t" = false from hT, if_neg Bool.false_ne_true]
    refine wpAny_execs_nil ?_
    refine wpAny_execs_cons (wpAny_Return_some (wpAny_IfExp ?_))
    refine lenTest (y := gap) O (by exact F.ns) (by simp) rfl (by exact T1.G.g) (by exact T1.G.b) (by simp) (T.G.bl _ (by simp)) T.G.b1 hg (by decide) fun tk => ?_
    by_cases hL : 1 < gap.length
    · rw [decide_eq_true hL, if_pos rfl]
      have e : toldO place gap tab blanks = [(place, blanks)] := by unfold toldO; rw [hT, if_neg Bool.false_ne_true, if_pos hL]
      rw [e] at hQ
      refine mkOne (i := place) (y := blanks) rfl (ldL O (by exact F.ns) (by simp) rfl ⟨_, rfl, ldL O (by exact F.ns) (by simp) rfl ⟨_, rfl, fun h' l k hL hge => ?_⟩⟩)
      exact hQ l h' _ hL (fun b o e => k b o (F.keep b o e)) (hlt l hge)
    · rw [decide_eq_false hL, if_neg Bool.false_ne_true]
      have e : toldO place gap tab blanks = [] := by unfold toldO; rw [hT, if_neg Bool.false_ne_true, if_neg hL]
      rw [e] at hQ
      refine wpAny_List ?_
      refine spliced_nil ⟨Nat.zero_le _, ?_⟩
      exact hQ _ _ _ ⟨[], 0, Heap.get?_push_size _ rfl, trivial⟩ (fun b o e => Heap.get?_push_of_some _ (F.keep b o e)) (hlt _ (Nat.le_refl _))
end
end Mine

end

/-! ## LBuilt -/
section
open PySem PySem.W PyProof.Rows PySem.Calls
namespace Mine
set_option maxRecDepth 100000
set_option linter.unusedVariables false

/-! what the law builds, in plain words -/
structure Lists where
  signs : List Out
  words : List Out
  commas : List Out
  edges : List Out
def openB (b : Nat) : Str := Txt.item "([{" (b : Int)
def closeB (b : Nat) : Str := Txt.item ")]}" (b : Int)
def wordsL : List Str := ["+", "and", ",", "!=", ";", "in", ":=", "**", "or", ",", "<<=", "is", "if", "else", "as", "not", "%", "-", "|=", "/", ">", "&", "^"]
def namedL : List Str := ["and", "in", "or", "is", "if", "else", "as", "not"]
inductive OpdR (line : Str) : Str → List Out → Prop
  | plain (t : Str) : t ∈ (["a", "b1", "10"] : List Str) → OpdR line (line ++ t) []
  | br (b : Nat) (ahead behind t : Str) : b < 3 → ahead ∈ gapL → behind ∈ gapL → t ∈ (["a", "b1"] : List Str) →
      OpdR line (line ++ openB b ++ ahead ++ t ++ behind ++ closeB b)
        ((if ahead = ("" : Str) then [] else [((line.length : Int) + 1, ("E201 whitespace after '" : Str) ++ openB b ++ ("'" : Str))]) ++
         (if behind = ("" : Str) then [] else [(((line ++ openB b ++ ahead ++ t).length : Int) + (behind.length : Int) - 1, ("E202 whitespace before '" : Str) ++ closeB b ++ ("'" : Str))]))
def sepL (n : Nat) (word ahead behind : Str) (L : Lists) : Lists :=
  let place : Int := (n : Int) + (ahead.length : Int)
  if word ∈ ([",", ";"] : List Str) then
    { L with edges := L.edges ++ (if ahead = ("" : Str) then [] else [(place - 1, ("E203 whitespace before '" : Str) ++ word ++ ("'" : Str))]),
             commas := L.commas ++ toldO (place + 1) behind (("E242 tab after '" : Str) ++ word ++ ("'" : Str)) (("E241 multiple spaces after '" : Str) ++ word ++ ("'" : Str)) }
  else if word ∈ namedL then
    { L with words := L.words ++ toldO (n : Int) ahead "E274 tab before keyword" "E272 multiple spaces before keyword" ++ toldO (place + (word.length : Int)) behind "E273 tab after keyword" "E271 multiple spaces after keyword" }
  else
    { L with signs := L.signs ++ toldO (n : Int) ahead "E223 tab before operator" "E221 multiple spaces before operator" ++ toldO (place + (word.length : Int)) behind "E224 tab after operator" "E222 multiple spaces after operator" }
structure SepOk (word ahead behind : Str) : Prop where
  w : word ∈ wordsL
  a : ahead ∈ gapL
  b : behind ∈ gapL
  na : word ∈ namedL → ahead ≠ ("" : Str)
  nb : word ∈ namedL → behind ≠ ("" : Str)
inductive Built : Nat → Str → Lists → Prop
  | nil : Built 0 "" ⟨[], [], [], []⟩
  | step {k : Nat} {line line1 word ahead behind : Str} {L : Lists} {ed : List Out} : Built k line L → OpdR line line1 ed → SepOk word ahead behind →
      Built (k + 1) (line1 ++ ahead ++ word ++ behind) (sepL line1.length word ahead behind { L with edges := L.edges ++ ed })
inductive Done : Str → Lists → Prop
  | mk {k : Nat} {line line1 : Str} {L : Lists} {ed : List Out} : Built k line L → k ≤ 5 → OpdR line line1 ed → Done line1 { L with edges := L.edges ++ ed }

theorem strLen (a b : Str) : (a ++ b).length = a.length + b.length := strLen_append ..
theorem word_len : ∀ w ∈ wordsL, w.length ≤ 4 := by decide
theorem OpdR.len {line line1 : Str} {ed : List Out} (h : OpdR line line1 ed) : line.length ≤ line1.length ∧ line1.length ≤ line.length + 10 := by
  cases h with
  | plain t ht =>
    have : t.length ≤ 2 := (by decide : ∀ t ∈ (["a", "b1", "10"] : List Str), t.length ≤ 2) t ht
    rw [strLen]; omega
  | br b ahead behind t hb ha hbe ht =>
    have h1 := gap_len _ ha
    have h2 := gap_len _ hbe
    have : t.length ≤ 2 := (by decide : ∀ t ∈ (["a", "b1"] : List Str), t.length ≤ 2) t ht
    have e1 : (openB b).length = 1 := rfl
    have e2 : (closeB b).length = 1 := rfl
    rw [strLen, strLen, strLen, strLen, strLen, e1, e2]; omega
theorem Built.len {k : Nat} {line : Str} {L : Lists} (h : Built k line L) : line.length ≤ 20 * k := by
  induction h with
  | nil => exact Nat.zero_le _
  | step _ ho hs ih =>
    have h1 := ho.len
    have h2 := gap_len _ hs.a
    have h3 := gap_len _ hs.b
    have h4 := word_len _ hs.w
    rw [strLen, strLen, strLen]; omega
theorem Done.len {line : Str} {L : Lists} (h : Done line L) : line.length ≤ 110 := by
  cases h with
  | mk hb hk ho => have := hb.len; have := ho.len; omega
end Mine

end

/-! ## LLawA -/
section
open PySem PySem.W PyProof.Rows PySem.Calls
namespace Mine
set_option maxRecDepth 100000
set_option linter.unusedVariables false

def upd (m : Str → Option Value) (x : Str) (v : Value) : Str → Option Value := fun y => if y = x then some v else m y
theorem upd_same (m : Str → Option Value) (x : Str) (v : Value) : upd m x v x = some v := if_pos rfl
theorem upd_other {m : Str → Option Value} {x y : Str} {v : Value} (h : y ≠ x) : upd m x v y = m y := if_neg h
theorem ListAt.keep {h h' : Heap} {a : Addr} {outs : List Out} (l : ListAt h a outs) (h1 : ∀ o, h.get? a = some o → h'.get? a = some o) (h2 : ∀ b o, h.get? b = some o → o.cls = .type "tuple" → h'.get? b = some o) : ListAt h' a outs :=
  let ⟨vs, c, e1, e2⟩ := l; ⟨vs, c, h1 _ e1, e2.keeps h2⟩
theorem ListAt.ne_Ns {h : Heap} {a L : Addr} {m : Str → Option Value} {outs : List Out} (l : ListAt h a outs) (N : h.Ns L m) : a ≠ L := by
  obtain ⟨vs, c, e1, _⟩ := l
  exact Ns_ne N e1 (fun _ _ e => by cases e)
theorem tuple_ne_Ns {h : Heap} {b L : Addr} {o : Obj} {m : Str → Option Value} (N : h.Ns L m) (e : h.get? b = some o) (hd : ∃ vs n, o.data = .seq vs n) : b ≠ L := by
  obtain ⟨vs, n, hd⟩ := hd
  exact Ns_ne N e (fun _ _ e' => by rw [hd] at e'; cases e')

/-- how the world stands amid the law -/
structure LSt (hB h : Heap) (mg mb : Str → Option Value) (L : Addr) (m : Str → Option Value) (st sl a1 a2 a3 a4 : Addr) (n : Nat) (line : Str) (Q : Lists) : Prop where
  base : ∀ b o, hB.get? b = some o → h.get? b = some o
  T : Tx hB mg mb
  N : h.Ns L m
  hL : hB.get? L = none
  S : StAt h st sl n
  hst : hB.get? st = none
  ha4 : hB.get? a4 = none
  vst : m "state" = some (.ref st)
  vl : ∃ t, m "line" = some (.str line t)
  v1 : m "signs" = some (.ref a1)
  v2 : m "words" = some (.ref a2)
  v3 : m "commas" = some (.ref a3)
  v4 : m "edges" = some (.ref a4)
  l1 : ListAt h a1 Q.signs
  l2 : ListAt h a2 Q.words
  l3 : ListAt h a3 Q.commas
  l4 : ListAt h a4 Q.edges
  n41 : a4 ≠ a1
  n42 : a4 ≠ a2
  n43 : a4 ≠ a3
  s1 : a1 ≠ st
  s2 : a2 ≠ st
  s3 : a3 ≠ st
  s4 : a4 ≠ st
  sl4 : sl ≠ a4

section
variable {hB h h' : Heap} {mg mb m : Str → Option Value} {L st sl a1 a2 a3 a4 : Addr} {n : Nat} {line : Str} {Q : Lists}
theorem LSt.Tn (X : LSt hB h mg mb L m st sl a1 a2 a3 a4 n line Q) : Tx h mg mb := X.T.keeps X.base
theorem LSt.all (X : LSt hB h mg mb L m st sl a1 a2 a3 a4 n line Q) (k : ∀ b o, h.get? b = some o → h'.get? b = some o) : LSt hB h' mg mb L m st sl a1 a2 a3 a4 n line Q :=
  { X with base := fun b o e => k b o (X.base b o e), N := X.N.keeps k, S := X.S.keep k,
           l1 := X.l1.keep (k _) fun b o e _ => k b o e, l2 := X.l2.keep (k _) fun b o e _ => k b o e, l3 := X.l3.keep (k _) fun b o e _ => k b o e, l4 := X.l4.keep (k _) fun b o e _ => k b o e }
theorem LSt.dice (X : LSt hB h mg mb L m st sl a1 a2 a3 a4 n line Q) (S' : StAt h' st sl n) (k : ∀ b o, b ≠ st → h.get? b = some o → h'.get? b = some o) : LSt hB h' mg mb L m st sl a1 a2 a3 a4 n line Q := by
  obtain ⟨i, sd, t1, t2, ⟨o', ho', hc', n', hd'⟩, _⟩ := X.S.st_
  have hLs : L ≠ st := fun e => (tuple_ne_Ns X.N ho' ⟨_, _, hd'⟩) e.symm
  have kt : ∀ b o, h.get? b = some o → o.cls = .type "tuple" → h'.get? b = some o := fun b o e hc => k b o (fun e' => by
    subst e'; rw [ho'] at e; cases e; rw [hc'] at hc; exact absurd hc (by decide)) e
  exact { X with base := fun b o e => k b o (fun e' => by subst e'; rw [X.hst] at e; cases e) (X.base b o e), N := Ns_but X.N hLs k, S := S',
                 l1 := X.l1.keep (fun o => k _ o X.s1) kt, l2 := X.l2.keep (fun o => k _ o X.s2) kt, l3 := X.l3.keep (fun o => k _ o X.s3) kt, l4 := X.l4.keep (fun o => k _ o X.s4) kt }
theorem LSt.stL (X : LSt hB h mg mb L m st sl a1 a2 a3 a4 n line Q) : st ≠ L := by
  obtain ⟨i, sd, t1, t2, ⟨o', ho', hc', n', hd'⟩, _⟩ := X.S.st_
  exact tuple_ne_Ns X.N ho' ⟨_, _, hd'⟩
theorem LSt.slL (X : LSt hB h mg mb L m st sl a1 a2 a3 a4 n line Q) : sl ≠ L := by
  obtain ⟨vs, ⟨o', ho', hc', n', hd'⟩, _⟩ := X.S.sl_
  exact tuple_ne_Ns X.N ho' ⟨_, _, hd'⟩
/-- a local's store: what is not tracked -/
theorem LSt.moved (X : LSt hB h mg mb L m st sl a1 a2 a3 a4 n line Q) {m' : Str → Option Value} (N' : h'.Ns L m') (e : Heap.SameBut L h h') :
    (∀ b o, hB.get? b = some o → h'.get? b = some o) ∧ StAt h' st sl n ∧ ListAt h' a1 Q.signs ∧ ListAt h' a2 Q.words ∧ ListAt h' a3 Q.commas ∧ ListAt h' a4 Q.edges := by
  have k : ∀ b o, b ≠ L → h.get? b = some o → h'.get? b = some o := fun b o hb e' => (e.2 b hb).trans e'
  have kt : ∀ {a : Addr} {outs : List Out}, ListAt h a outs → ListAt h' a outs := fun {a outs} l => by
    have hne := l.ne_Ns X.N
    obtain ⟨vs, c, e1, e2⟩ := l
    have go : ∀ {vs : List Value} {os : List Out}, TupsRd h vs os → TupsRd h' vs os := by
      intro vs
      induction vs with
      | nil => intro os hh; cases os with | nil => trivial | cons _ _ => exact hh.elim
      | cons v vs ih =>
        intro os hh
        cases os with
        | nil => exact hh.elim
        | cons o os =>
          obtain ⟨⟨t, tk, tk', ev, g⟩, r⟩ := hh
          exact ⟨⟨t, tk, tk', ev, k _ _ (tuple_ne_Ns X.N g ⟨_, _, rfl⟩) g⟩, ih r⟩
    exact ⟨vs, c, k _ _ hne e1, go e2⟩
  refine ⟨fun b o e' => k b o (fun e'' => by subst e''; rw [X.hL] at e'; cases e') (X.base b o e'), ?_, kt X.l1, kt X.l2, kt X.l3, kt X.l4⟩
  exact ⟨let ⟨i, sd, t1, t2, hl, r⟩ := X.S.st_; ⟨i, sd, t1, t2, IsList.keep hl (fun o => k _ o X.stL), r⟩, let ⟨vs, hl, r⟩ := X.S.sl_; ⟨vs, IsList.keep hl (fun o => k _ o X.slL), r⟩, X.S.n_, X.S.ne⟩
theorem LSt.put (X : LSt hB h mg mb L m st sl a1 a2 a3 a4 n line Q) {x : Str} {v : Value} (N' : h'.Ns L (upd m x v)) (e : Heap.SameBut L h h')
    (hx : x ∉ (["state", "line", "signs", "words", "commas", "edges"] : List Str)) : LSt hB h' mg mb L (upd m x v) st sl a1 a2 a3 a4 n line Q := by
  simp only [List.mem_cons, List.not_mem_nil, or_false, not_or] at hx
  obtain ⟨x1, x2, x3, x4, x5, x6⟩ := hx
  obtain ⟨b, S', k1, k2, k3, k4⟩ := X.moved N' e
  exact { X with base := b, N := N', S := S', l1 := k1, l2 := k2, l3 := k3, l4 := k4, vst := (upd_other (Ne.symm x1)).trans X.vst, vl := let ⟨t, e⟩ := X.vl; ⟨t, (upd_other (Ne.symm x2)).trans e⟩,
                 v1 := (upd_other (Ne.symm x3)).trans X.v1, v2 := (upd_other (Ne.symm x4)).trans X.v2, v3 := (upd_other (Ne.symm x5)).trans X.v3, v4 := (upd_other (Ne.symm x6)).trans X.v4 }
theorem LSt.setLine (X : LSt hB h mg mb L m st sl a1 a2 a3 a4 n line Q) {line' : Str} {t : Tok} (N' : h'.Ns L (upd m "line" (.str line' t))) (e : Heap.SameBut L h h') : LSt hB h' mg mb L (upd m "line" (.str line' t)) st sl a1 a2 a3 a4 n line' Q := by
  obtain ⟨b, S', k1, k2, k3, k4⟩ := X.moved N' e
  exact { X with base := b, N := N', S := S', l1 := k1, l2 := k2, l3 := k3, l4 := k4, vst := (upd_other (by decide)).trans X.vst, vl := ⟨t, upd_same _ _ _⟩,
                 v1 := (upd_other (by decide)).trans X.v1, v2 := (upd_other (by decide)).trans X.v2, v3 := (upd_other (by decide)).trans X.v3, v4 := (upd_other (by decide)).trans X.v4 }
/-- edges.append(pair) -/
theorem LSt.edge (X : LSt hB h mg mb L m st sl a1 a2 a3 a4 n line Q) {o : Out} {t : Addr} {tk tk' : Tok} (ht : h.get? t = some { cls := .type "tuple", data := .seq #[.int o.1 tk, .str o.2 tk'] }) :
    ∃ vs c, h.get? a4 = some (newSeq vs c) ∧ vs.length = Q.edges.length ∧ ∀ h', h'.get? a4 = some (newSeq (vs ++ [.ref t]) (c + 1)) → Heap.SameBut a4 h h' → LSt hB h' mg mb L m st sl a1 a2 a3 a4 n line { Q with edges := Q.edges ++ [o] } := by
  obtain ⟨vs, c, e1, e2⟩ := id X.l4
  have hlen : ∀ {vs : List Value} {os : List Out}, TupsRd h vs os → vs.length = os.length := by
    intro vs
    induction vs with
    | nil => intro os hh; cases os with | nil => rfl | cons _ _ => exact hh.elim
    | cons v vs ih => intro os hh; cases os with | nil => exact hh.elim | cons o os => rw [List.length_cons, List.length_cons, ih hh.2]
  refine ⟨vs, c, e1, hlen e2, fun h' e4 e => ?_⟩
  have k : ∀ b o, b ≠ a4 → h.get? b = some o → h'.get? b = some o := fun b o hb e' => (e.2 b hb).trans e'
  have kt : ∀ b o, h.get? b = some o → o.cls = .type "tuple" → h'.get? b = some o := fun b o e' hc => k b o (fun e'' => by subst e''; rw [e1] at e'; cases e'; exact absurd hc (by show ¬ (Value.type "list" = Value.type "tuple"); decide)) e'
  exact { X with base := fun b o e' => k b o (fun e'' => by subst e''; rw [X.ha4] at e'; cases e') (X.base b o e'), N := Ns_but X.N (Ne.symm (X.l4.ne_Ns X.N)) k,
                 S := ⟨let ⟨i, sd, t1, t2, hl, r⟩ := X.S.st_; ⟨i, sd, t1, t2, IsList.keep hl (fun o => k _ o (Ne.symm X.s4)), r⟩, let ⟨vs, hl, r⟩ := X.S.sl_; ⟨vs, IsList.keep hl (fun o => k _ o X.sl4), r⟩, X.S.n_, X.S.ne⟩,
                 l1 := X.l1.keep (fun o => k _ o (Ne.symm X.n41)) kt, l2 := X.l2.keep (fun o => k _ o (Ne.symm X.n42)) kt, l3 := X.l3.keep (fun o => k _ o (Ne.symm X.n43)) kt,
                 l4 := ⟨_, _, e4, (e2.keeps kt).snoc ⟨t, tk, tk', rfl, kt _ _ ht rfl⟩⟩ }
end
end Mine

end

/-! ## LLawB -/
section
open PySem PySem.W PyProof.Rows PySem.Calls
namespace Mine
set_option maxRecDepth 100000
set_option linter.unusedVariables false

abbrev lawLoc : List Str := ["script", "state", "line", "signs", "words", "commas", "edges", "many", "k", "bracket", "ahead", "behind", "word", "named", "place"]
abbrev lawGlob : List Str := ["_law_next", "_law_gap", "_law_told", "len", "range", "list", "whitespace_around_operator", "whitespace_around_keywords", "whitespace_around_comma", "extraneous_whitespace"]
abbrev lawEnv (L a : Addr) (cd : Value) : Env := envOf "law" (scopeOf (topStmt 16)) L a cd
theorem envLaw {L a : Addr} {cd : Value} : EnvOk (lawEnv L a cd) L lawLoc lawGlob where
  kind := rfl
  at_ := rfl
  g := rfl
  b := rfl
  co := rfl
  loc_ := by
    intro x hx
    simp only [lawLoc, List.mem_cons, List.not_mem_nil, or_false] at hx
    rcases hx with rfl | rfl | rfl | rfl | rfl | rfl | rfl | rfl | rfl | rfl | rfl | rfl | rfl | rfl | rfl <;> rfl
  glob_ := by
    intro x hx
    simp only [lawGlob, List.mem_cons, List.not_mem_nil, or_false] at hx
    rcases hx with rfl | rfl | rfl | rfl | rfl | rfl | rfl | rfl | rfl | rfl <;> rfl

def forBody (st : Stmt) : List Stmt := match st with | .For (body := b) .. => b | _ => []
def ifBody (st : Stmt) : List Stmt := match st with | .If (body := b) .. => b | _ => []
def ifElse (st : Stmt) : List Stmt := match st with | .If (orelse := b) .. => b | _ => []
def nthS (l : List Stmt) (i : Nat) : Stmt := l.getD i (.Pass default)
/-- the loop of the law; its two parts -/
def lawFor : Stmt := nthS (bodyOf (topStmt 16)) 3
def opdStmt : Stmt := nthS (forBody lawFor) 0
def sepStmt : Stmt := nthS (forBody lawFor) 1

theorem Call_len {M : Model} {A : Around} {E : Value → Shared → Prop} {s : Shared} {env : Env} {e : Expr} {p1 p2 : Pos} {L : Addr} {loc glob : List Str} {mg mb : Str → Option Value} {Q : Value → Shared → Prop} (O : EnvOk env L loc glob) (hs : starEach [e] env = [(false, eval e env)]) (G : GNs s.heap mg mb) (hl : ("len" : Str) ∈ glob)
    (h : wpAny M A (eval e env) (fun v s₁ => wpAny M A (call (.builtin "len") [v]) Q E s₁) E s) : wpAny M A (eval (.Call (.Name "len" p1) [e] [] p2) env) Q E s :=
  Call_name1 hs (ldB O hl G.g G.b (G.bl _ (by simp)) G.b1 (callWith_builtin1 h))

section
variable {prog : Program} {w : World} {A : Around} {E : Value → Shared → Prop} {s : Shared} {env : Env} {hB : Heap} {mg mb m : Str → Option Value} {L a st sl a1 a2 a3 a4 : Addr} {cd : Value} {n : Nat} {line : Str} {Q : Lists}
/-- _law_next(state, c), evaluated -/
theorem diceEval {p1 p2 p3 p4 : Pos} {c : Int} {k : Nat} {R : Value → Shared → Prop} (X : LSt hB s.heap mg mb L m st sl a1 a2 a3 a4 n line Q) (hroom : A.depth < recursionLimit) (hc : 0 < c) (hc2 : c < 1000)
    (h : ∀ r tr h' tk, 0 ≤ r → r < c → LSt hB h' mg mb L m st sl a1 a2 a3 a4 n line Q → (∀ b o, b ≠ st → s.heap.get? b = some o → h'.get? b = some o) → R (.int r tr) { s with heap := h', toks := tk }) :
    wpAny (model prog w) A (eval (.Call (.Name "_law_next" p1) [.Name "state" p2, .Constant (.int c) k p3] [] p4) (lawEnv L a cd)) R E s := by
  have O := envLaw (L := L) (a := a) (cd := cd)
  have T := X.Tn
  obtain ⟨an, on, _, _, _, hn1, hn2, hn3, _⟩ := id T.fn
  refine Call_fn2 rfl (ldG O (by simp) T.G.g hn1 ?_)
  refine callFn2 hn3 (ldL O X.N (by simp) X.vst ?_)
  refine wpAny_Constant_int ⟨hn2, ?_⟩
  refine next_call (by exact T) (by exact X.S) hn1 hroom hc hc2 fun r tr h' tk r0 r1 S' k => ?_
  exact h r tr h' tk r0 r1 (X.dice S' k) k
/-- _law_gap(state, b), evaluated -/
theorem gapEval {p1 p2 p4 : Pos} {e : Expr} {least : Bool} {R : Value → Shared → Prop} (X : LSt hB s.heap mg mb L m st sl a1 a2 a3 a4 n line Q) (hroom : A.depth + 3 < recursionLimit)
    (hs : ∀ p : Pos, backTo p (starEach [.Name "state" p2, e] (lawEnv L a cd)) = [(false, eval (.Name "state" p2) (lawEnv L a cd)), (false, eval e (lawEnv L a cd))])
    (he : ∀ (E' : Value → Shared → Prop) (R' : Value → Shared → Prop), R' (.bool least) s → wpAny (model prog w) A (eval e (lawEnv L a cd)) R' E' s)
    (h : ∀ g tg h' tk, g ∈ gapL → (least = true → g ≠ ("" : Str)) → LSt hB h' mg mb L m st sl a1 a2 a3 a4 n line Q → (∀ b o, b ≠ st → s.heap.get? b = some o → h'.get? b = some o) → R (.str g tg) { s with heap := h', toks := tk }) :
    wpAny (model prog w) A (eval (.Call (.Name "_law_gap" p1) [.Name "state" p2, e] [] p4) (lawEnv L a cd)) R E s := by
  have O := envLaw (L := L) (a := a) (cd := cd)
  have T := X.Tn
  obtain ⟨an, on, _, _, _, hn1, hn2, hn3, _⟩ := id T.fp
  refine Call_fn2 (hs _) (ldG O (by simp) T.G.g hn1 ?_)
  refine callFn2 hn3 (ldL O X.N (by simp) X.vst ?_)
  refine he _ _ ⟨hn2, ?_⟩
  refine gap_call T X.S hn1 hroom fun g tg h' tk hg hle S' k => ?_
  exact h g tg h' tk hg hle (X.dice S' k) k
/-- edges.append(pair) -/
theorem edgeStmt {p1 p2 p3 p4 : Pos} {e : Expr} {o : Out} {R : Flow → Shared → Prop} (X : LSt hB s.heap mg mb L m st sl a1 a2 a3 a4 n line Q) (hsz : Q.edges.length ≤ 1000)
    (hs : starEach [e] (lawEnv L a cd) = [(false, eval e (lawEnv L a cd))]) (hl : (p2.endLine == p3.line) = true)
    (he : wpAny (model prog w) A (eval e (lawEnv L a cd)) (fun v s₁ => ∃ t tk tk' h' tk0, v = .ref t ∧ s₁ = { s with heap := h', toks := tk0 } ∧ (∀ b o, s.heap.get? b = some o → h'.get? b = some o) ∧ h'.get? t = some { cls := .type "tuple", data := .seq #[.int o.1 tk, .str o.2 tk'] }) E s)
    (h : ∀ h' tk, LSt hB h' mg mb L m st sl a1 a2 a3 a4 n line { Q with edges := Q.edges ++ [o] } → R .next { s with heap := h', toks := tk }) :
    wpAny (model prog w) A (exec (.Expr (.Call (.Attribute (.Name "edges" p1) "append" p2) [e] [] p3) p4) (lawEnv L a cd)) R E s := by
  have O := envLaw (L := L) (a := a) (cd := cd)
  refine wpAny_Expr ?_ rfl rfl
  refine Call_method1 rfl hs hl (ldL O X.N (by simp) X.v4 ?_)
  obtain ⟨vs0, c0, e0, _⟩ := id X.l4
  refine method1 PySem.F.plainAttrs_list slot_list_append type_list_append entry_list_append ⟨_, e0, rfl⟩ (fun b eb => by cases eb; exact ⟨_, e0, rfl⟩) (wpAny_mono he (fun v s₁ hv => ?_) fun _ _ e => e)
  obtain ⟨t, tk, tk', h', tk0, rfl, rfl, k, ht⟩ := hv
  obtain ⟨vs, c, e1, hlen, hX⟩ := (X.all k).edge ht
  refine ⟨⟨_, k _ _ e0, rfl⟩, args_list_append _ _, ?_⟩
  show wpAny _ _ (updateSeq a4 (·.push (.ref t)) >>= fun _ => ret .none) _ _ _
  refine wpAny_bind ?_
  refine wpAny_updateSeq e1 rfl (wpAny_pure ⟨.none, rfl, ?_⟩) (by rw [List.size_toArray, hlen, sizeLine_eq]; omega) (by show (vs.toArray.push _).size ≤ sizeLine + 1; rw [Array.size_push, List.size_toArray, hlen, sizeLine_eq]; omega)
  refine h _ _ (hX _ ?_ (Heap.SameBut.update ..))
  rw [Heap.get?_update_self (Obj.mapSeq (·.push (.ref t))) e1 rfl]
  simp [newSeq, Obj.mapSeq]
end
end Mine

end

/-! ## LLawC -/
section
open PySem PySem.W PyProof.Rows PySem.Calls
namespace Mine
set_option maxRecDepth 100000
set_option linter.unusedVariables false

section
variable {prog : Program} {w : World} {A : Around} {E : Value → Shared → Prop} {s : Shared} {hB : Heap} {mg mb m : Str → Option Value} {L a st sl a1 a2 a3 a4 : Addr} {cd : Value} {n : Nat} {line : Str} {Q : Lists}
/-- '..'[bracket] -/
theorem brEval {x : Str} {k : Nat} {p1 p2 p3 : Pos} {b : Nat} {tb : Tok} {R : Value → Shared → Prop} (N : s.heap.Ns L m) (hv : m "bracket" = some (.int (b : Int) tb)) (hb : b < 3) (hx : x.length = 3)
    (h : ∀ t tk, R (.str (Txt.item x (b : Int)) t) { s with toks := tk }) : wpAny (model prog w) A (eval (.Subscript (.Constant (.str x) k p1) (.Name "bracket" p2) p3) (lawEnv L a cd)) R E s := by
  have O := envLaw (L := L) (a := a) (cd := cd)
  refine Subscript_ (wpAny_Constant_str ?_)
  refine ldL O (by exact N) (by simp) hv ?_
  exact strItem (by unfold fitsSsize; simp; omega) (charAt_ok (by omega) (by omega)) (h _ _) rfl
/-- ['a', 'b1'][k % 2] -/
theorem pickEval {x y : Str} {k1 k2 k3 : Nat} {p1 p2 p3 p4 p5 p6 p7 : Pos} {kk : Int} {tk0 : Tok} {R : Value → Shared → Prop} (N : s.heap.Ns L m) (hv : m "k" = some (.int kk tk0))
    (h : ∀ z t h' tk, z ∈ [x, y] → (∀ b o, s.heap.get? b = some o → h'.get? b = some o) → R (.str z t) { s with heap := h', toks := tk }) :
    wpAny (model prog w) A (eval (.Subscript (.List [.Constant (.str x) k1 p1, .Constant (.str y) k2 p2] p3) (.BinOp (.Name "k" p4) .Mod (.Constant (.int 2) k3 p5) p6) p7) (lawEnv L a cd)) R E s := by
  have O := envLaw (L := L) (a := a) (cd := cd)
  refine Subscript_ (wpAny_List ?_)
  simp only [starEach, backTo, List.map_cons, List.map_nil, Bool.false_eq_true, if_false]
  refine spliced_cons (wpAny_Constant_str ?_)
  refine spliced_cons (wpAny_Constant_str ?_)
  refine spliced_nil ⟨by show 2 ≤ sizeLine; rw [sizeLine_eq]; decide, ?_⟩
  refine wpAny_BinOp (ldL O (by exact N.push _) (by simp) hv ?_)
  refine wpAny_Constant_int ?_
  refine PyProof.Rows.mod_int' (by decide) ?_
  have r0 := Int.fmod_nonneg_of_pos kk (show (0 : Int) < 2 by decide)
  have r1 := Int.fmod_lt_of_pos kk (show (0 : Int) < 2 by decide)
  generalize hr : kk.fmod 2 = r at r0 r1
  have hl : (s.heap.push { cls := .type "list", data := .seq #[.str x s.toks, .str y (s.toks + 1)] }).IsList s.heap.objs.size #[.str x s.toks, .str y (s.toks + 1)] := ⟨_, Heap.get?_push_size _ rfl, rfl, _, rfl⟩
  have hc : ∃ z t, z ∈ [x, y] ∧ (#[Value.str x s.toks, .str y (s.toks + 1)])[r.toNat]? = some (.str z t) := by
    have hr2 : r.toNat < 2 := by omega
    match hrn : r.toNat, hr2 with
    | 0, _ => exact ⟨x, _, by simp, rfl⟩
    | 1, _ => exact ⟨y, _, by simp, rfl⟩
  obtain ⟨z, t, hz, hget⟩ := hc
  exact tail_any (Heap.IsList.typeIs (s := { s with heap := s.heap.push { cls := .type "list", data := .seq #[.str x s.toks, .str y (s.toks + 1)] } }) hl) slot_list_getitem.lookup (wpAny_getItem_list (by exact hl) r0 (by omega) hget (h z t _ _ hz fun b o e => Heap.get?_push_of_some _ e)) rfl
/-- NAME != '' -/
theorem neTest {x : Str} {k : Nat} {p1 p2 p3 : Pos} {y : Str} {ty : Tok} {whole : Sem Value} {R : Bool → Shared → Prop} (N : s.heap.Ns L m) (hx : x ∈ lawLoc) (hd : (x == ("__debug__" : Str)) = false) (hv : m x = some (.str y ty))
    (h : ∀ tk, R (y != ("" : Str)) { s with toks := tk }) : wpAny (model prog w) A (isTrue (.Compare (.Name x p1) [.NotEq] [.Constant (.str "") k p2] p3) (lawEnv L a cd) whole) R E s := by
  have O := envLaw (L := L) (a := a) (cd := cd)
  refine wpAny_isTrue_Compare1 (ldL O N hx hv ?_ hd) rfl
  refine wpAny_Constant_str ?_
  exact ne_str (wpAny_truthy_bool (h _))

/-- "..." + TEXT + "..." -/
theorem catEval {x z : Str} {e : Expr} {k1 k2 : Nat} {p1 p2 p3 p4 : Pos} {y : Str} {R : Value → Shared → Prop} (hx : x.length ≤ 1000) (hy : y.length ≤ 1000) (hz : z.length ≤ 1000)
    (he : ∀ (tk : Nat) (E' : Value → Shared → Prop) (R' : Value → Shared → Prop), (∀ t tk', R' (.str y t) { s with toks := tk' }) → wpAny (model prog w) A (eval e (lawEnv L a cd)) R' E' { s with toks := tk })
    (h : ∀ t tk, R (.str (x ++ y ++ z) t) { s with toks := tk }) : wpAny (model prog w) A (eval (.BinOp (.BinOp (.Constant (.str x) k1 p1) .Add e p2) .Add (.Constant (.str z) k2 p3) p4) (lawEnv L a cd)) R E s := by
  have hs := sizeLine_eq
  refine wpAny_BinOp (wpAny_BinOp (wpAny_Constant_str ?_))
  refine he _ _ _ fun t tk => ?_
  refine SB.add (fun t2 tk2 => ?_) (by omega)
  refine wpAny_Constant_str ?_
  exact SB.add (fun t3 tk3 => h _ _) (by rw [strLen]; omega)
/-- if GAP != '': edges.append(PAIR) -/
theorem edgeIf {g gv : Str} {tg : Tok} {o : Out} {e : Expr} {k1 : Nat} {p1 p2 p3 p4 p5 p6 p7 p8 : Pos} {R : Flow → Shared → Prop} (X : LSt hB s.heap mg mb L m st sl a1 a2 a3 a4 n line Q) (hsz : Q.edges.length ≤ 1000)
    (hg : g ∈ lawLoc) (hd : (g == ("__debug__" : Str)) = false) (hv : m g = some (.str gv tg)) (hs : starEach [e] (lawEnv L a cd) = [(false, eval e (lawEnv L a cd))]) (hl : (p5.endLine == p6.line) = true)
    (he : ∀ tk0 : Nat, wpAny (model prog w) A (eval e (lawEnv L a cd)) (fun v s₁ => ∃ t tk tk' h' tk0', v = .ref t ∧ s₁ = { s with heap := h', toks := tk0' } ∧ (∀ b o, s.heap.get? b = some o → h'.get? b = some o) ∧ h'.get? t = some { cls := .type "tuple", data := .seq #[.int o.1 tk, .str o.2 tk'] }) E { s with toks := tk0 })
    (h : ∀ h' tk, LSt hB h' mg mb L m st sl a1 a2 a3 a4 n line { Q with edges := Q.edges ++ (if gv = ("" : Str) then [] else [o]) } → R .next { s with heap := h', toks := tk }) :
    wpAny (model prog w) A (exec (.If (.Compare (.Name g p1) [.NotEq] [.Constant (.str "") k1 p2] p3) [.Expr (.Call (.Attribute (.Name "edges" p4) "append" p5) [e] [] p6) p7] [] p8) (lawEnv L a cd)) R E s := by
  refine wpAny_If (neTest X.N hg hd hv fun tk => ?_)
  by_cases hq : gv = ("" : Str)
  · rw [show (gv != ("" : Str)) = false from by simp [hq], if_neg Bool.false_ne_true]
    rw [if_pos hq, List.append_nil] at h
    exact wpAny_execs_nil (h _ _ (by exact X))
  · rw [show (gv != ("" : Str)) = true from bne_iff_ne.mpr hq, if_pos rfl]
    rw [if_neg hq] at h
    refine wpAny_execs_cons (edgeStmt (o := o) (by exact X) hsz hs hl (he tk) fun h' tk' X' => wpAny_execs_nil (h _ _ X'))
/-- the pair that is appended -/
theorem pairMk {e1 e2 : Expr} {k : Nat} {p : Pos} {o : Out} (hs : backTo p (starEach [e1, e2] (lawEnv L a cd)) = [(false, eval e1 (lawEnv L a cd)), (false, eval e2 (lawEnv L a cd))])
    (h1 : ∀ (tk : Nat) (E' : Value → Shared → Prop) (R' : Value → Shared → Prop), (∀ t tk', R' (.int o.1 t) { s with toks := tk' }) → wpAny (model prog w) A (eval e1 (lawEnv L a cd)) R' E' { s with toks := tk })
    (h2 : ∀ (tk : Nat) (E' : Value → Shared → Prop) (R' : Value → Shared → Prop), (∀ t tk', R' (.str o.2 t) { s with toks := tk' }) → wpAny (model prog w) A (eval e2 (lawEnv L a cd)) R' E' { s with toks := tk }) (tk0 : Nat) :
    wpAny (model prog w) A (eval (.Tuple [e1, e2] k p) (lawEnv L a cd)) (fun v s₁ => ∃ t tk tk' h' tk0', v = .ref t ∧ s₁ = { s with heap := h', toks := tk0' } ∧ (∀ b o, s.heap.get? b = some o → h'.get? b = some o) ∧ h'.get? t = some { cls := .type "tuple", data := .seq #[.int o.1 tk, .str o.2 tk'] }) E { s with toks := tk0 } := by
  refine mkPair (i := o.1) (y := o.2) hs ?_
  refine h1 _ _ _ fun t tk => ⟨t, rfl, ?_⟩
  refine h2 _ _ _ fun t' tk' => ⟨t', rfl, ?_⟩
  exact ⟨_, t, t', _, _, rfl, rfl, fun b o e => Heap.get?_push_of_some _ e, Heap.get?_push_size _ rfl⟩
theorem lenLine {x y : Str} {t : Tok} {p1 p2 p3 : Pos} {R : Value → Shared → Prop} (T : Tx s.heap mg mb) (N : s.heap.Ns L m) (hx : x ∈ lawLoc) (hd : (x == ("__debug__" : Str)) = false) (hv : m x = some (.str y t)) (hy : y.length ≤ 1000)
    (h : ∀ t' tk, R (.int (y.length : Int) t') { s with toks := tk }) : wpAny (model prog w) A (eval (.Call (.Name "len" p1) [.Name x p2] [] p3) (lawEnv L a cd)) R E s := by
  have O := envLaw (L := L) (a := a) (cd := cd)
  refine Call_len O rfl T.G (by simp) (ldL O N hx hv ?_ hd)
  exact len_str (by omega) (h _ _)

/-- bracket = _law_next(state, 3) -/
theorem bracketStmt {p1 p2 p3 p4 p5 p6 : Pos} {k : Nat} {R : Flow → Shared → Prop} (hroom : A.depth < recursionLimit) (X : LSt hB s.heap mg mb L m st sl a1 a2 a3 a4 n line Q)
    (h : ∀ (b : Nat) tb h' tk, b < 3 → LSt hB h' mg mb L (upd m "bracket" (.int (b : Int) tb)) st sl a1 a2 a3 a4 n line Q → R .next { s with heap := h', toks := tk }) :
    wpAny (model prog w) A (exec (.Assign [.Name "bracket" p1] (.Call (.Name "_law_next" p2) [.Name "state" p3, .Constant (.int 3) k p4] [] p5) p6) (lawEnv L a cd)) R E s := by
  have O := envLaw (L := L) (a := a) (cd := cd)
  refine wpAny_Assign_Name ?_ rfl
  refine diceEval X hroom (by decide) (by decide) fun b tb h2 tk2 b0 b1 X2 k2 => ?_
  obtain ⟨bn, rfl⟩ := Int.eq_ofNat_of_zero_le b0
  refine stL O (by exact X2.N) (by simp) fun h3 N3 e3 => ?_
  exact h bn tb _ _ (by omega) (X2.put N3 e3 (by decide))
/-- ahead, behind = two gaps -/
theorem gapsStmt {p1 p2 p3 p4 p5 p6 p7 p8 p9 p10 p11 : Pos} {k k2 : Nat} {e1 e2 : Expr} {least : Bool} {R : Flow → Shared → Prop} (hh : A.handled = none) (hroom : A.depth + 3 < recursionLimit) (X : LSt hB s.heap mg mb L m st sl a1 a2 a3 a4 n line Q)
    (hsw : swapsWithSole [.Tuple [.Name "ahead" p1, .Name "behind" p2] k p3] (.Tuple [.Call (.Name "_law_gap" p4) [.Name "state" p5, e1] [] p6, .Call (.Name "_law_gap" p7) [.Name "state" p8, e2] [] p9] k2 p10) p11.line (lawEnv L a cd) = pure false)
    (hst : swappedStores [.Tuple [.Name "ahead" p1, .Name "behind" p2] k p3] (.Tuple [.Call (.Name "_law_gap" p4) [.Name "state" p5, e1] [] p6, .Call (.Name "_law_gap" p7) [.Name "state" p8, e2] [] p9] k2 p10) (lawEnv L a cd) = pure (some (["ahead", "behind"] : List Str)))
    (hs1 : ∀ p : Pos, backTo p (starEach [.Name "state" p5, e1] (lawEnv L a cd)) = [(false, eval (.Name "state" p5) (lawEnv L a cd)), (false, eval e1 (lawEnv L a cd))])
    (hs2 : ∀ p : Pos, backTo p (starEach [.Name "state" p8, e2] (lawEnv L a cd)) = [(false, eval (.Name "state" p8) (lawEnv L a cd)), (false, eval e2 (lawEnv L a cd))])
    (he1 : ∀ (s : Shared) (E' : Value → Shared → Prop) (R' : Value → Shared → Prop), s.heap.Ns L m → R' (.bool least) s → wpAny (model prog w) A (eval e1 (lawEnv L a cd)) R' E' s)
    (he2 : ∀ (s : Shared) (E' : Value → Shared → Prop) (R' : Value → Shared → Prop), s.heap.Ns L m → R' (.bool least) s → wpAny (model prog w) A (eval e2 (lawEnv L a cd)) R' E' s)
    (h : ∀ g1 g2 t1 t2 h' tk, g1 ∈ gapL → g2 ∈ gapL → (least = true → g1 ≠ ("" : Str)) → (least = true → g2 ≠ ("" : Str)) → LSt hB h' mg mb L (upd (upd m "behind" (.str g2 t2)) "ahead" (.str g1 t1)) st sl a1 a2 a3 a4 n line Q → R .next { s with heap := h', toks := tk }) :
    wpAny (model prog w) A (exec (.Assign [.Tuple [.Name "ahead" p1, .Name "behind" p2] k p3] (.Tuple [.Call (.Name "_law_gap" p4) [.Name "state" p5, e1] [] p6, .Call (.Name "_law_gap" p7) [.Name "state" p8, e2] [] p9] k2 p10) p11) (lawEnv L a cd)) R E s := by
  have O := envLaw (L := L) (a := a) (cd := cd)
  refine Assign_Tuple_swapped (names := ["ahead", "behind"]) ?_ hsw hst
  refine wpAny_Tuple ?_
  simp only [starEach, backTo, List.map_cons, List.map_nil, Bool.false_eq_true, if_false]
  refine spliced_cons (gapEval (least := least) (by exact X) hroom hs1 (fun _ _ hq => he1 _ _ _ X.N hq) fun g1 tg1 h4 tk4 hg1 hl1 X4 k4 => ?_)
  refine spliced_cons (gapEval (least := least) (by exact X4) hroom hs2 (fun _ _ hq => he2 _ _ _ X4.N hq) fun g2 tg2 h5 tk5 hg2 hl2 X5 k5 => ?_)
  refine spliced_nil ⟨by show 2 ≤ sizeLine; rw [sizeLine_eq]; decide, ?_⟩
  show wpAny _ A _ _ _ { s with heap := h5.push { cls := .type "tuple", data := .seq #[.str g1 tg1, .str g2 tg2] }, toks := tk5 }
  refine unpackItems_tuple (items := #[.str g1 tg1, .str g2 tg2]) hh ⟨_, Heap.get?_push_size _ rfl, rfl, _, rfl⟩ fun h6 e6 => ?_
  have k6 : ∀ b o, h5.get? b = some o → h6.get? b = some o := fun b o e => e6 b o (Nat.ne_of_lt (Nat.lt_succ_of_lt (Heap.lt_size e)) |> fun hne => by rw [Heap.size_push]; exact hne) (Heap.get?_push_of_some _ e)
  have X6 := X5.all k6
  show wpAny _ A (holding [.str g1 tg1] (bindName _ "behind" (.str g2 tg2)) >>= fun _ => holding [] (bindName _ "ahead" (.str g1 tg1)) >>= fun _ => pure ()) _ _ { s with heap := h6, toks := tk5 }
  refine wpAny_bind (wpAny_holding (wpAny_bindName (stL O (by exact X6.N) (by simp) fun h7 N7 e7 => ?_)))
  have X7 := X6.put N7 e7 (by decide)
  refine wpAny_bind (wpAny_holding (wpAny_bindName (stL O (by exact X7.N) (by simp) fun h8 N8 e8 => ?_)))
  exact wpAny_pure (h g1 g2 tg1 tg2 _ _ hg1 hg2 hl1 hl2 (X7.put N8 e8 (by decide)))
/-- line = line + '([{'[bracket] + ahead + ['a', 'b1'][k % 2] -/
theorem openStmt {p1 p2 p3 p4 p5 p6 p7 p8 p9 p10 p11 p12 p13 p14 p15 p16 p17 : Pos} {k1 k2 k3 k4 : Nat} {b : Nat} {tb tg tkk : Tok} {g : Str} {kk : Int} {R : Flow → Shared → Prop} (X : LSt hB s.heap mg mb L m st sl a1 a2 a3 a4 n line Q)
    (u1 : m "bracket" = some (.int (b : Int) tb)) (hb : b < 3) (u2 : m "ahead" = some (.str g tg)) (u4 : m "k" = some (.int kk tkk)) (hlen : line.length ≤ 300) (hg : g.length ≤ 3)
    (h : ∀ z t h' tk, z ∈ (["a", "b1"] : List Str) → LSt hB h' mg mb L (upd m "line" (.str (line ++ openB b ++ g ++ z) t)) st sl a1 a2 a3 a4 n (line ++ openB b ++ g ++ z) Q → R .next { s with heap := h', toks := tk }) :
    wpAny (model prog w) A (exec (.Assign [.Name "line" p1] (.BinOp (.BinOp (.BinOp (.Name "line" p2) .Add (.Subscript (.Constant (.str "([{") k1 p3) (.Name "bracket" p4) p5) p6) .Add (.Name "ahead" p7) p8) .Add
      (.Subscript (.List [.Constant (.str "a") k2 p9, .Constant (.str "b1") k3 p10] p11) (.BinOp (.Name "k" p12) .Mod (.Constant (.int 2) k4 p13) p14) p15) p16) p17) (lawEnv L a cd)) R E s := by
  have O := envLaw (L := L) (a := a) (cd := cd)
  have hsl := sizeLine_eq
  have eo : (openB b).length = 1 := rfl
  obtain ⟨tl, hvl⟩ := X.vl
  refine wpAny_Assign_Name ?_ rfl
  refine wpAny_BinOp (wpAny_BinOp (wpAny_BinOp (ldL O X.N (by simp) hvl ?_)))
  refine brEval X.N u1 hb (by decide) fun t1 tkA => ?_
  refine SB.add (fun t2 tkB => ?_) (by show line.length + 1 ≤ _; omega)
  refine ldL O (by exact X.N) (by simp) u2 ?_
  refine SB.add (fun t3 tkC => ?_) (by rw [strLen]; show line.length + 1 + _ ≤ _; omega)
  refine pickEval (by exact X.N) u4 fun z tz h10 tkD hz k10 => ?_
  have hzl : z.length ≤ 2 := (by decide : ∀ t ∈ (["a", "b1"] : List Str), t.length ≤ 2) z hz
  have X10 := X.all k10
  refine SB.add (fun t4 tkE => ?_) (by rw [strLen, strLen]; show line.length + 1 + g.length + z.length ≤ _; omega)
  refine stL O (by exact X10.N) (by simp) fun h11 N11 e11 => ?_
  exact h z t4 _ _ hz (X10.setLine N11 e11)
/-- line = line + behind + ')]}'[bracket] -/
theorem closeStmt {p1 p2 p3 p4 p5 p6 p7 p8 p9 : Pos} {k1 : Nat} {b : Nat} {tb tg : Tok} {g : Str} {R : Flow → Shared → Prop} (X : LSt hB s.heap mg mb L m st sl a1 a2 a3 a4 n line Q)
    (u1 : m "bracket" = some (.int (b : Int) tb)) (hb : b < 3) (u2 : m "behind" = some (.str g tg)) (hlen : line.length ≤ 300) (hg : g.length ≤ 3)
    (h : ∀ t h' tk, LSt hB h' mg mb L (upd m "line" (.str (line ++ g ++ closeB b) t)) st sl a1 a2 a3 a4 n (line ++ g ++ closeB b) Q → R .next { s with heap := h', toks := tk }) :
    wpAny (model prog w) A (exec (.Assign [.Name "line" p1] (.BinOp (.BinOp (.Name "line" p2) .Add (.Name "behind" p3) p4) .Add (.Subscript (.Constant (.str ")]}") k1 p5) (.Name "bracket" p6) p7) p8) p9) (lawEnv L a cd)) R E s := by
  have O := envLaw (L := L) (a := a) (cd := cd)
  have hsl := sizeLine_eq
  obtain ⟨tl, hvl⟩ := X.vl
  refine wpAny_Assign_Name ?_ rfl
  refine wpAny_BinOp (wpAny_BinOp (ldL O X.N (by simp) hvl ?_))
  refine ldL O X.N (by simp) u2 ?_
  refine SB.add (fun t5 tkF => ?_) (by omega)
  refine brEval (by exact X.N) u1 hb (by decide) fun t6 tkG => ?_
  refine SB.add (fun t7 tkH => ?_) (by rw [strLen]; show _ + g.length + 1 ≤ _; omega)
  refine stL O (by exact X.N) (by simp) fun h13 N13 e13 => ?_
  exact h t7 _ _ (X.setLine N13 e13)
/-- (len(line) + 1, "E201 .." + '([{'[bracket] + "'") -/
theorem edge201 {p1 p2 p3 p4 p5 p6 p7 p8 p9 p10 p11 p12 p13 : Pos} {k1 k2 k3 k4 k5 : Nat} {b : Nat} {tb tl : Tok} (X : LSt hB s.heap mg mb L m st sl a1 a2 a3 a4 n line Q)
    (u1 : m "bracket" = some (.int (b : Int) tb)) (hb : b < 3) (hvl : m "line" = some (.str line tl)) (hlen : line.length ≤ 300) (tk0 : Nat) :
    wpAny (model prog w) A (eval (.Tuple [.BinOp (.Call (.Name "len" p1) [.Name "line" p2] [] p3) .Add (.Constant (.int 1) k1 p4) p5,
      .BinOp (.BinOp (.Constant (.str "E201 whitespace after '") k2 p6) .Add (.Subscript (.Constant (.str "([{") k3 p7) (.Name "bracket" p8) p9) p10) .Add (.Constant (.str "'") k4 p11) p12] k5 p13) (lawEnv L a cd))
      (fun v s₁ => ∃ t tk tk' h' tk0', v = .ref t ∧ s₁ = { s with heap := h', toks := tk0' } ∧ (∀ b o, s.heap.get? b = some o → h'.get? b = some o) ∧ h'.get? t = some { cls := .type "tuple", data := .seq #[.int ((line.length : Int) + 1) tk, .str (("E201 whitespace after '" : Str) ++ openB b ++ ("'" : Str)) tk'] }) E { s with toks := tk0 } := by
  refine pairMk (o := ((line.length : Int) + 1, ("E201 whitespace after '" : Str) ++ openB b ++ ("'" : Str))) rfl (fun tk E' R' hq => ?_) (fun tk E' R' hq => ?_) tk0
  · refine wpAny_BinOp (lenLine (m := m) X.Tn X.N (by simp) (by decide) hvl (by omega) fun t' tk' => ?_)
    refine wpAny_Constant_int ?_
    exact PyProof.Rows.add_int (hq _ _)
  · exact catEval (y := openB b) (by decide) (by show 1 ≤ 1000; decide) (by decide) (fun tk2 E2 R2 hq2 => brEval X.N u1 hb (by decide) fun t tk' => hq2 _ _) fun t tk' => hq _ _
/-- (len(line) + len(behind) - 1, "E202 .." + ')]}'[bracket] + "'") -/
theorem edge202 {p1 p2 p3 p4 p5 p6 p7 p8 p9 p10 p11 p12 p13 p14 p15 p16 p17 : Pos} {k1 k2 k3 k4 k5 : Nat} {b : Nat} {tb tl tg : Tok} {g : Str} (X : LSt hB s.heap mg mb L m st sl a1 a2 a3 a4 n line Q)
    (u1 : m "bracket" = some (.int (b : Int) tb)) (hb : b < 3) (hvl : m "line" = some (.str line tl)) (u2 : m "behind" = some (.str g tg)) (hlen : line.length ≤ 300) (hg : g.length ≤ 3) (tk0 : Nat) :
    wpAny (model prog w) A (eval (.Tuple [.BinOp (.BinOp (.Call (.Name "len" p1) [.Name "line" p2] [] p3) .Add (.Call (.Name "len" p14) [.Name "behind" p15] [] p16) p17) .Sub (.Constant (.int 1) k1 p4) p5,
      .BinOp (.BinOp (.Constant (.str "E202 whitespace before '") k2 p6) .Add (.Subscript (.Constant (.str ")]}") k3 p7) (.Name "bracket" p8) p9) p10) .Add (.Constant (.str "'") k4 p11) p12] k5 p13) (lawEnv L a cd))
      (fun v s₁ => ∃ t tk tk' h' tk0', v = .ref t ∧ s₁ = { s with heap := h', toks := tk0' } ∧ (∀ b o, s.heap.get? b = some o → h'.get? b = some o) ∧ h'.get? t = some { cls := .type "tuple", data := .seq #[.int ((line.length : Int) + (g.length : Int) - 1) tk, .str (("E202 whitespace before '" : Str) ++ closeB b ++ ("'" : Str)) tk'] }) E { s with toks := tk0 } := by
  refine pairMk (o := ((line.length : Int) + (g.length : Int) - 1, ("E202 whitespace before '" : Str) ++ closeB b ++ ("'" : Str))) rfl (fun tk E' R' hq => ?_) (fun tk E' R' hq => ?_) tk0
  · refine wpAny_BinOp (wpAny_BinOp (lenLine (m := m) X.Tn X.N (by simp) (by decide) hvl (by omega) fun t' tk' => ?_))
    refine lenLine (m := m) X.Tn X.N (by simp) (by decide) u2 (by omega) fun t'' tk'' => ?_
    refine PyProof.Rows.add_int ?_
    refine wpAny_Constant_int ?_
    exact PyProof.Rows.sub_int (hq _ _)
  · exact catEval (y := closeB b) (by decide) (by show 1 ≤ 1000; decide) (by decide) (fun tk2 E2 R2 hq2 => brEval X.N u1 hb (by decide) fun t tk' => hq2 _ _) fun t tk' => hq _ _
/-- line = line + ['a', 'b1', '10'][_law_next(state, 3)] -/
theorem plainStmt {p1 p2 p3 p4 p5 p6 p7 p8 p9 p10 p11 p12 p13 : Pos} {k1 k2 k3 k4 : Nat} {R : Flow → Shared → Prop} (hroom : A.depth < recursionLimit) (X : LSt hB s.heap mg mb L m st sl a1 a2 a3 a4 n line Q) (hlen : line.length ≤ 300)
    (h : ∀ z t h' tk, z ∈ (["a", "b1", "10"] : List Str) → LSt hB h' mg mb L (upd m "line" (.str (line ++ z) t)) st sl a1 a2 a3 a4 n (line ++ z) Q → R .next { s with heap := h', toks := tk }) :
    wpAny (model prog w) A (exec (.Assign [.Name "line" p1] (.BinOp (.Name "line" p2) .Add (.Subscript (.List [.Constant (.str "a") k1 p3, .Constant (.str "b1") k2 p4, .Constant (.str "10") k3 p5] p6) (.Call (.Name "_law_next" p7) [.Name "state" p8, .Constant (.int 3) k4 p9] [] p10) p11) p12) p13) (lawEnv L a cd)) R E s := by
  have O := envLaw (L := L) (a := a) (cd := cd)
  have hsl := sizeLine_eq
  obtain ⟨tl, hvl⟩ := X.vl
  refine wpAny_Assign_Name ?_ rfl
  refine wpAny_BinOp (ldL O X.N (by simp) hvl ?_)
  refine Subscript_ (wpAny_List ?_)
  simp only [starEach, backTo, List.map_cons, List.map_nil, Bool.false_eq_true, if_false]
  refine spliced_cons (wpAny_Constant_str ?_)
  refine spliced_cons (wpAny_Constant_str ?_)
  refine spliced_cons (wpAny_Constant_str ?_)
  refine spliced_nil ⟨by show 3 ≤ sizeLine; rw [hsl]; decide, ?_⟩
  refine diceEval (X.all fun b o e => Heap.get?_push_of_some _ e) hroom (by decide) (by decide) fun b tb h2 tk2 b0 b1 X2 k2 => ?_
  have hne : s.heap.objs.size ≠ st := fun e => by
    obtain ⟨i, sd, t1, t2, ⟨o', ho', _⟩, _⟩ := X.S.st_
    have : (st : Nat) < s.heap.objs.size := Heap.lt_size ho'
    rw [e] at this; exact absurd this (Nat.lt_irrefl _)
  have hl2 : h2.IsList s.heap.objs.size #[Value.str "a" s.toks, .str "b1" (s.toks + 1), .str "10" (s.toks + 1 + 1)] := ⟨_, k2 _ _ hne (Heap.get?_push_size _ rfl), rfl, _, rfl⟩
  have hc : ∃ z t, z ∈ (["a", "b1", "10"] : List Str) ∧ (#[Value.str "a" s.toks, .str "b1" (s.toks + 1), .str "10" (s.toks + 1 + 1)])[b.toNat]? = some (.str z t) := by
    have hr2 : b.toNat < 3 := by omega
    match hrn : b.toNat, hr2 with
    | 0, _ => exact ⟨"a", _, by simp, rfl⟩
    | 1, _ => exact ⟨"b1", _, by simp, rfl⟩
    | 2, _ => exact ⟨"10", _, by simp, rfl⟩
  obtain ⟨z, t, hz, hget⟩ := hc
  have hzl : z.length ≤ 2 := (by decide : ∀ t ∈ (["a", "b1", "10"] : List Str), t.length ≤ 2) z hz
  refine tail_any (Heap.IsList.typeIs (s := { s with heap := h2, toks := tk2 }) hl2) slot_list_getitem.lookup (wpAny_getItem_list (by exact hl2) b0 (by omega) hget ?_) rfl
  refine SB.add (fun t4 tkE => ?_) (by omega)
  refine stL O (by exact X2.N) (by simp) fun h3 N3 e3 => ?_
  exact h z t4 _ _ hz (X2.setLine N3 e3)

/-- an operand, built -/
theorem opd_walk {kk : Int} {tkk : Tok} {R : Flow → Shared → Prop} (hh : A.handled = none) (hroom : A.depth + 3 < recursionLimit) (X : LSt hB s.heap mg mb L m st sl a1 a2 a3 a4 n line Q) (hvk : m "k" = some (.int kk tkk)) (hlen : line.length ≤ 200) (hed : Q.edges.length ≤ 900)
    (hR : ∀ line1 ed m' h' tk, OpdR line line1 ed → LSt hB h' mg mb L m' st sl a1 a2 a3 a4 n line1 { Q with edges := Q.edges ++ ed } → (∀ y ∈ (["k", "many"] : List Str), m' y = m y) → R .next { s with heap := h', toks := tk }) :
    wpAny (model prog w) A (exec opdStmt (lawEnv L a cd)) R E s := by
  show wpAny _ _ (exec (.If _ _ _ _) _) _ _ _
  refine wpAny_If (wpAny_isTrue_Compare1 ?_ rfl)
  refine diceEval X (by omega) (by decide) (by decide) fun r tr h1 tk1 r0 r1 X1 k1 => ?_
  refine wpAny_Constant_int ?_
  refine PyProof.Rows.eq_int (wpAny_truthy_bool ?_)
  by_cases hr : r = 0
  · rw [beq_iff_eq.mpr hr, if_pos rfl]
    show wpAny _ _ _ _ _ { s with heap := h1, toks := tk1 + 1 }
    refine wpAny_execs_cons (bracketStmt (by omega) (by exact X1) fun b tb h2 tk2 hb X2 => ?_)
    show wpAny _ _ _ _ _ { s with heap := h2, toks := tk2 }
    refine wpAny_execs_cons (gapsStmt (least := false) hh hroom (by exact X2) rfl rfl (fun _ => rfl) (fun _ => rfl) (fun _ _ _ _ hq => wpAny_Constant_bool hq) (fun _ _ _ _ hq => wpAny_Constant_bool hq) fun g1 g2 tg1 tg2 h8 tk8 hg1 hg2 _ _ X8 => ?_)
    show wpAny _ _ _ _ _ { s with heap := h8, toks := tk8 }
    have u1 : upd (upd (upd m "bracket" (.int (b : Int) tb)) "behind" (.str g2 tg2)) "ahead" (.str g1 tg1) "bracket" = some (.int (b : Int) tb) := (upd_other (by decide)).trans ((upd_other (by decide)).trans (upd_same _ _ _))
    have u2 : upd (upd (upd m "bracket" (.int (b : Int) tb)) "behind" (.str g2 tg2)) "ahead" (.str g1 tg1) "ahead" = some (.str g1 tg1) := upd_same _ _ _
    have u3 : upd (upd (upd m "bracket" (.int (b : Int) tb)) "behind" (.str g2 tg2)) "ahead" (.str g1 tg1) "behind" = some (.str g2 tg2) := (upd_other (by decide)).trans (upd_same _ _ _)
    have u4 : upd (upd (upd m "bracket" (.int (b : Int) tb)) "behind" (.str g2 tg2)) "ahead" (.str g1 tg1) "k" = some (.int kk tkk) := (upd_other (by decide)).trans ((upd_other (by decide)).trans ((upd_other (by decide)).trans hvk))
    have u5 : ∀ y ∈ (["k", "many"] : List Str), upd (upd (upd m "bracket" (.int (b : Int) tb)) "behind" (.str g2 tg2)) "ahead" (.str g1 tg1) y = m y := by
      intro y hy
      simp only [List.mem_cons, List.not_mem_nil, or_false] at hy
      rcases hy with rfl | rfl <;> exact (upd_other (by decide)).trans ((upd_other (by decide)).trans (upd_other (by decide)))
    generalize upd (upd (upd m "bracket" (.int (b : Int) tb)) "behind" (.str g2 tg2)) "ahead" (.str g1 tg1) = m8 at X8 u1 u2 u3 u4 u5
    have hg1l := gap_len _ hg1
    have hg2l := gap_len _ hg2
    obtain ⟨tl, hvl⟩ := X8.vl
    refine wpAny_execs_cons (edgeIf (o := ((line.length : Int) + 1, ("E201 whitespace after '" : Str) ++ openB b ++ ("'" : Str))) (by exact X8) (by omega) (by simp) (by decide) u2 rfl rfl (fun tk0 => edge201 (by exact X8) u1 hb hvl (by omega) tk0) fun h9 tk9 X9 => ?_)
    show wpAny _ _ _ _ _ { s with heap := h9, toks := tk9 }
    refine wpAny_execs_cons (openStmt (by exact X9) u1 hb u2 u4 (by omega) hg1l fun z t4 h11 tk11 hz X11 => ?_)
    show wpAny _ _ _ _ _ { s with heap := h11, toks := tk11 }
    have hzl : z.length ≤ 2 := (by decide : ∀ t ∈ (["a", "b1"] : List Str), t.length ≤ 2) z hz
    have hl11 : (line ++ openB b ++ g1 ++ z).length ≤ 300 := by rw [strLen, strLen, strLen]; show line.length + 1 + _ + _ ≤ _; omega
    have y1 : upd m8 "line" (.str (line ++ openB b ++ g1 ++ z) t4) "bracket" = some (.int (b : Int) tb) := (upd_other (by decide)).trans u1
    have y3 : upd m8 "line" (.str (line ++ openB b ++ g1 ++ z) t4) "behind" = some (.str g2 tg2) := (upd_other (by decide)).trans u3
    have y4 : upd m8 "line" (.str (line ++ openB b ++ g1 ++ z) t4) "line" = some (.str (line ++ openB b ++ g1 ++ z) t4) := upd_same _ _ _
    have y5 : ∀ y ∈ (["k", "many"] : List Str), upd m8 "line" (.str (line ++ openB b ++ g1 ++ z) t4) y = m y := by
      intro y hy
      rw [← u5 y hy]
      simp only [List.mem_cons, List.not_mem_nil, or_false] at hy
      rcases hy with rfl | rfl <;> exact upd_other (by decide)
    generalize upd m8 "line" (.str (line ++ openB b ++ g1 ++ z) t4) = m11 at X11 y1 y3 y4 y5
    have hed11 : (Q.edges ++ (if g1 = ("" : Str) then [] else [((line.length : Int) + 1, ("E201 whitespace after '" : Str) ++ openB b ++ ("'" : Str))])).length ≤ 1000 := by
      rw [List.length_append]; split <;> simp <;> omega
    refine wpAny_execs_cons (edgeIf (o := (((line ++ openB b ++ g1 ++ z).length : Int) + (g2.length : Int) - 1, ("E202 whitespace before '" : Str) ++ closeB b ++ ("'" : Str))) (by exact X11) hed11 (by simp) (by decide) y3 rfl rfl (fun tk0 => edge202 (by exact X11) y1 hb y4 y3 hl11 hg2l tk0) fun h12 tk12 X12 => ?_)
    show wpAny _ _ _ _ _ { s with heap := h12, toks := tk12 }
    refine wpAny_execs_cons (closeStmt (by exact X12) y1 hb y3 hl11 hg2l fun t7 h13 tk13 X13 => ?_)
    refine wpAny_execs_nil ?_
    refine hR _ _ _ _ _ (.br b g1 g2 z hb hg1 hg2 hz) (by rw [← List.append_assoc]; exact X13) fun y hy => ?_
    rw [← y5 y hy]
    simp only [List.mem_cons, List.not_mem_nil, or_false] at hy
    rcases hy with rfl | rfl <;> exact upd_other (by decide)
  · rw [show (r == 0) = false from beq_eq_false_iff_ne.mpr hr, if_neg Bool.false_ne_true]
    show wpAny _ _ _ _ _ { s with heap := h1, toks := tk1 + 1 }
    refine wpAny_execs_cons (plainStmt (by omega) (by exact X1) (by omega) fun z t h3 tk3 hz X3 => ?_)
    refine wpAny_execs_nil ?_
    refine hR _ [] _ _ _ (.plain z hz) (by rw [List.append_nil]; exact X3) fun y hy => ?_
    simp only [List.mem_cons, List.not_mem_nil, or_false] at hy
    rcases hy with rfl | rfl <;> exact upd_other (by decide)
end
end Mine

end

/-! ## LLawD -/
section
open PySem PySem.W PyProof.Rows PySem.Calls
namespace Mine
set_option maxRecDepth 100000
set_option linter.unusedVariables false

theorem TupsRd.len {h : Heap} : ∀ {vs : List Value} {os : List Out}, TupsRd h vs os → vs.length = os.length
  | [], [], _ => rfl
  | _ :: _, _ :: _, hh => by rw [List.length_cons, List.length_cons, TupsRd.len hh.2]
theorem TupsRd.same {h h' : Heap} {L : Addr} {m : Str → Option Value} (N : h.Ns L m) (e : Heap.SameBut L h h') : ∀ {vs : List Value} {os : List Out}, TupsRd h vs os → TupsRd h' vs os
  | [], [], _ => trivial
  | _ :: _, _ :: _, hh => ⟨let ⟨t, tk, tk', ev, g⟩ := hh.1; ⟨t, tk, tk', ev, (e.2 _ (tuple_ne_Ns N g ⟨_, _, rfl⟩)).trans g⟩, TupsRd.same N e hh.2⟩
theorem ListAt.same {h h' : Heap} {L b : Addr} {m : Str → Option Value} {outs : List Out} (l : ListAt h b outs) (N : h.Ns L m) (e : Heap.SameBut L h h') : ListAt h' b outs :=
  let ⟨vs, c, e1, e2⟩ := id l; ⟨vs, c, (e.2 _ (l.ne_Ns N)).trans e1, e2.same N e⟩

section
variable {hB h h' : Heap} {mg mb m : Str → Option Value} {L st sl a1 a2 a3 a4 b : Addr} {n : Nat} {line : Str} {Q : Lists} {outs : List Out}
theorem LSt.setSigns (X : LSt hB h mg mb L m st sl a1 a2 a3 a4 n line Q) (hb : ListAt h b outs) (n4 : a4 ≠ b) (ns : b ≠ st) (N' : h'.Ns L (upd m "signs" (.ref b))) (e : Heap.SameBut L h h') : LSt hB h' mg mb L (upd m "signs" (.ref b)) st sl b a2 a3 a4 n line { Q with signs := outs } := by
  obtain ⟨bs, S', k1, k2, k3, k4⟩ := X.moved N' e
  exact { X with base := bs, N := N', S := S', l1 := hb.same X.N e, l2 := k2, l3 := k3, l4 := k4, vst := (upd_other (by decide)).trans X.vst, vl := let ⟨t, e⟩ := X.vl; ⟨t, (upd_other (by decide)).trans e⟩,
                 v1 := upd_same _ _ _, v2 := (upd_other (by decide)).trans X.v2, v3 := (upd_other (by decide)).trans X.v3, v4 := (upd_other (by decide)).trans X.v4, n41 := n4, s1 := ns }
theorem LSt.setWords (X : LSt hB h mg mb L m st sl a1 a2 a3 a4 n line Q) (hb : ListAt h b outs) (n4 : a4 ≠ b) (ns : b ≠ st) (N' : h'.Ns L (upd m "words" (.ref b))) (e : Heap.SameBut L h h') : LSt hB h' mg mb L (upd m "words" (.ref b)) st sl a1 b a3 a4 n line { Q with words := outs } := by
  obtain ⟨bs, S', k1, k2, k3, k4⟩ := X.moved N' e
  exact { X with base := bs, N := N', S := S', l1 := k1, l2 := hb.same X.N e, l3 := k3, l4 := k4, vst := (upd_other (by decide)).trans X.vst, vl := let ⟨t, e⟩ := X.vl; ⟨t, (upd_other (by decide)).trans e⟩,
                 v1 := (upd_other (by decide)).trans X.v1, v2 := upd_same _ _ _, v3 := (upd_other (by decide)).trans X.v3, v4 := (upd_other (by decide)).trans X.v4, n42 := n4, s2 := ns }
theorem LSt.setCommas (X : LSt hB h mg mb L m st sl a1 a2 a3 a4 n line Q) (hb : ListAt h b outs) (n4 : a4 ≠ b) (ns : b ≠ st) (N' : h'.Ns L (upd m "commas" (.ref b))) (e : Heap.SameBut L h h') : LSt hB h' mg mb L (upd m "commas" (.ref b)) st sl a1 a2 b a4 n line { Q with commas := outs } := by
  obtain ⟨bs, S', k1, k2, k3, k4⟩ := X.moved N' e
  exact { X with base := bs, N := N', S := S', l1 := k1, l2 := k2, l3 := hb.same X.N e, l4 := k4, vst := (upd_other (by decide)).trans X.vst, vl := let ⟨t, e⟩ := X.vl; ⟨t, (upd_other (by decide)).trans e⟩,
                 v1 := (upd_other (by decide)).trans X.v1, v2 := (upd_other (by decide)).trans X.v2, v3 := upd_same _ _ _, v4 := (upd_other (by decide)).trans X.v4, n43 := n4, s3 := ns }
theorem LSt.lt4 (X : LSt hB h mg mb L m st sl a1 a2 a3 a4 n line Q) : @LT.lt Nat _ a4 h.objs.size := let ⟨_, _, e, _⟩ := X.l4; Heap.lt_size e
theorem LSt.ltS (X : LSt hB h mg mb L m st sl a1 a2 a3 a4 n line Q) : @LT.lt Nat _ st h.objs.size := let ⟨_, _, _, _, ⟨_, e, _⟩, _⟩ := X.S.st_; Heap.lt_size e
end

section
variable {prog : Program} {w : World} {A : Around} {E : Value → Shared → Prop} {s : Shared} {hB : Heap} {mg mb m : Str → Option Value} {L a st sl a1 a2 a3 a4 : Addr} {cd : Value} {n : Nat} {line : Str} {Q : Lists}
/-- NAME + _law_told(..) -/
theorem toldEval {x g gv y1 y2 : Str} {ax : Addr} {tg : Tok} {outs : List Out} {i : Int} {e1 e3 e4 : Expr} {p1 p2 p3 p4 p5 : Pos} {R : Value → Shared → Prop} (X : LSt hB s.heap mg mb L m st sl a1 a2 a3 a4 n line Q) (hroom : A.depth < recursionLimit)
    (hx : x ∈ lawLoc) (hxd : (x == ("__debug__" : Str)) = false) (hvx : m x = some (.ref ax)) (lx : ListAt s.heap ax outs) (hxs : ax ≠ st) (ho : outs.length ≤ 1000) (hg : g ∈ lawLoc) (hgd : (g == ("__debug__" : Str)) = false) (hvg : m g = some (.str gv tg)) (hgl : gv.length ≤ 3)
    (hs : ∀ p : Pos, backTo p (starEach [e1, .Name g p3, e3, e4] (lawEnv L a cd)) = [(false, eval e1 (lawEnv L a cd)), (false, eval (.Name g p3) (lawEnv L a cd)), (false, eval e3 (lawEnv L a cd)), (false, eval e4 (lawEnv L a cd))])
    (h1 : ∀ (tk : Nat) (E' : Value → Shared → Prop) (R' : Value → Shared → Prop), (∀ t tk', R' (.int i t) { s with toks := tk' }) → wpAny (model prog w) A (eval e1 (lawEnv L a cd)) R' E' { s with toks := tk })
    (h3 : ∀ (tk : Nat) (E' : Value → Shared → Prop) (R' : Value → Shared → Prop), (∀ t tk', R' (.str y1 t) { s with toks := tk' }) → wpAny (model prog w) A (eval e3 (lawEnv L a cd)) R' E' { s with toks := tk })
    (h4 : ∀ (tk : Nat) (E' : Value → Shared → Prop) (R' : Value → Shared → Prop), (∀ t tk', R' (.str y2 t) { s with toks := tk' }) → wpAny (model prog w) A (eval e4 (lawEnv L a cd)) R' E' { s with toks := tk })
    (h : ∀ b h' tk, ListAt h' b (outs ++ toldO i gv y1 y2) → (∀ c o, s.heap.get? c = some o → h'.get? c = some o) → @LE.le Nat _ s.heap.objs.size b → R (.ref b) { s with heap := h', toks := tk }) :
    wpAny (model prog w) A (eval (.BinOp (.Name x p1) .Add (.Call (.Name "_law_told" p2) [e1, .Name g p3, e3, e4] [] p4) p5) (lawEnv L a cd)) R E s := by
  have O := envLaw (L := L) (a := a) (cd := cd)
  obtain ⟨at_, ot, _, _, _, ht1, ht2, ht3, _⟩ := id X.Tn.ft
  refine wpAny_BinOp (ldL O X.N hx hvx ?_ hxd)
  refine Call_fn4 (hs _) (ldG O (by simp) X.Tn.G.g ht1 ?_)
  refine callFn4 ht3 (h1 s.toks _ _ fun t1 tk1 => ?_)
  refine ldL O X.N hg hvg ?_ hgd
  refine h3 _ _ _ fun t3 tk3 => ?_
  refine h4 _ _ _ fun t4 tk4 => ⟨ht2, ?_⟩
  refine told_call (by exact X.Tn) ht1 hroom (by omega) fun l h' tk lo k hge => ?_
  obtain ⟨vs, c, e1', r1⟩ := lx.keep (h' := h') (k _) fun b o e _ => k b o e
  obtain ⟨ws, c2, e2', r2⟩ := lo
  have hw : ws.length ≤ 1 := by
    rw [r2.len]; unfold toldO; split
    · simp
    · split <;> simp
  have e : vs.toArray ++ ws.toArray = (vs ++ ws).toArray := by simp
  refine concat_meets ⟨_, e1', rfl⟩ ⟨_, e2', rfl⟩ noFill_list_add seq_list_add PySem.F.slot_list_add PySem.F.entry_list_add (PySem.F.args_list_add_2 _ _) (list_addW ax l vs.toArray ws.toArray c c2 none none #[] #[] (by rw [List.size_toArray, List.size_toArray, r1.len, sizeLine_eq]; omega)) ⟨e1', e2', ?_⟩
  have kk : ∀ b o, h'.get? b = some o → (h'.push { cls := .type "list", data := .seq (vs.toArray ++ ws.toArray) }).get? b = some o := fun b o e => Heap.get?_push_of_some _ e
  refine h _ _ _ ⟨vs ++ ws, 0, ?_, (r1.append r2).keeps fun b o e _ => kk b o e⟩ (fun b o e => kk b o (k b o e)) ?_
  · show (h'.push _).get? h'.objs.size = _
    rw [Heap.get?_push_size _ rfl, e]; rfl
  · show @LE.le Nat _ s.heap.objs.size h'.objs.size
    exact Nat.le_of_lt (Nat.lt_of_le_of_lt hge (Heap.lt_size e2'))
theorem strs_get : ∀ {vs : List Value} {ys : List Str} (i : Nat), StrsAre vs ys → i < ys.length → ∃ z t, z ∈ ys ∧ vs[i]? = some (.str z t)
  | _, _, 0, .cons y t _, _ => ⟨y, t, List.mem_cons_self, rfl⟩
  | _, _, i + 1, .cons y t h, hi => by
    obtain ⟨z, t', hz, e⟩ := strs_get i h (by simpa using hi)
    exact ⟨z, t', List.mem_cons_of_mem _ hz, by simpa using e⟩
/-- written texts in a row -/
def Consts (prog : Program) (w : World) (A : Around) (env : Env) (elts : List Expr) (ys : List Str) : Prop :=
  ∀ (p : Pos) (s : Shared) (E' : Value → Shared → Prop) (R' : List Value → Shared → Prop), (∀ vs tk, StrsAre vs ys → vs.length = ys.length → R' vs { s with toks := tk }) → wpAny (model prog w) A (spliced (backTo p (starEach elts env))) R' E' s
theorem Consts.nil {env : Env} : Consts prog w A env [] [] := fun p s E' R' h => spliced_nil (h [] s.toks .nil rfl)
theorem Consts.cons {env : Env} {x : Str} {k : Nat} {p0 : Pos} {elts : List Expr} {ys : List Str} (c : Consts prog w A env elts ys) : Consts prog w A env (.Constant (.str x) k p0 :: elts) (x :: ys) := fun p s E' R' h => by
  show wpAny _ A (spliced ((false, eval (.Constant (.str x) k p0) env) :: backTo p (starEach elts env))) _ _ _
  refine spliced_cons (wpAny_Constant_str ?_)
  exact c p _ _ _ fun vs tk hv hl => h (.str x s.toks :: vs) tk (.cons x _ hv) (by rw [List.length_cons, List.length_cons, hl])
/-- word = [..][_law_next(state, 23)] -/
theorem wordStmt {elts : List Expr} {k : Nat} {p1 p2 p3 p4 p5 p6 p7 p8 : Pos} {R : Flow → Shared → Prop} (hC : Consts prog w A (lawEnv L a cd) elts wordsL) (hroom : A.depth < recursionLimit) (X : LSt hB s.heap mg mb L m st sl a1 a2 a3 a4 n line Q)
    (h : ∀ wd t h' tk, wd ∈ wordsL → LSt hB h' mg mb L (upd m "word" (.str wd t)) st sl a1 a2 a3 a4 n line Q → R .next { s with heap := h', toks := tk }) :
    wpAny (model prog w) A (exec (.Assign [.Name "word" p1] (.Subscript (.List elts p2) (.Call (.Name "_law_next" p3) [.Name "state" p4, .Constant (.int 23) k p5] [] p6) p7) p8) (lawEnv L a cd)) R E s := by
  have O := envLaw (L := L) (a := a) (cd := cd)
  refine wpAny_Assign_Name ?_ rfl
  refine Subscript_ (wpAny_List ?_)
  refine hC _ _ _ _ fun vs tk hS hl => ⟨by rw [hl, sizeLine_eq]; decide, ?_⟩
  have hc : ∀ r : Int, 0 ≤ r → r < 23 → ∃ z t, z ∈ wordsL ∧ vs.toArray[r.toNat]? = some (.str z t) := by
    intro r r0 r1
    obtain ⟨z, t, hz, e⟩ := strs_get r.toNat hS (by show r.toNat < 23; omega)
    exact ⟨z, t, hz, by simpa using e⟩
  refine diceEval (X.all fun b o e => Heap.get?_push_of_some _ e) hroom (by decide) (by decide) fun b tb h2 tk2 b0 b1 X2 k2 => ?_
  have hne : s.heap.objs.size ≠ st := Nat.ne_of_gt X.ltS
  have hl2 : h2.IsList s.heap.objs.size vs.toArray := ⟨_, k2 _ _ hne (Heap.get?_push_size _ rfl), rfl, _, rfl⟩
  obtain ⟨z, t, hz, hget⟩ := hc b b0 b1
  refine tail_any (Heap.IsList.typeIs (s := { s with heap := h2, toks := tk2 }) hl2) slot_list_getitem.lookup (wpAny_getItem_list (by exact hl2) b0 (by omega) hget ?_) rfl
  refine stL O (by exact X2.N) (by simp) fun h3 N3 e3 => ?_
  exact h z t _ _ hz (X2.put N3 e3 (by decide))
/-- word in (..) -/
theorem inTup {wd : Str} {tw : Tok} {R : Value → Shared → Prop} {ys : List Str} {elts : List Expr} {k : Nat} {p1 p2 : Pos} (X : LSt hB s.heap mg mb L m st sl a1 a2 a3 a4 n line Q) (hv : m "word" = some (.str wd tw))
    (hC : Consts prog w A (lawEnv L a cd) elts ys) (hys : ys.length ≤ 100)
    (h : ∀ h' tk, (∀ b o, s.heap.get? b = some o → h'.get? b = some o) → R (.bool (ys.any (· == wd))) { s with heap := h', toks := tk }) :
    wpAny (model prog w) A (eval (.Name "word" p1) (lawEnv L a cd)) (fun a' s₁ => wpAny (model prog w) A (eval (.Tuple elts k p2) (lawEnv L a cd)) (fun b s₂ => wpAny (model prog w) A (compareOp .In a' b) R E s₂) E s₁) E s := by
  have O := envLaw (L := L) (a := a) (cd := cd)
  refine ldL O X.N (by simp) hv ?_
  refine wpAny_Tuple (hC _ _ _ _ fun vs tk hvs hl => ⟨by rw [hl, sizeLine_eq]; omega, ?_⟩)
  exact in_tuple_strs ⟨_, Heap.get?_push_size _ rfl, rfl, 0, rfl⟩ (by simpa using hvs) (h _ _ fun b o e => Heap.get?_push_of_some _ e)
end
end Mine

end

/-! ## LLawE -/
section
open PySem PySem.W PyProof.Rows PySem.Calls
namespace Mine
set_option maxRecDepth 100000
set_option linter.unusedVariables false

theorem any_eq_mem (ys : List Str) (w : Str) : ys.any (· == w) = decide (w ∈ ys) := by
  rw [Bool.eq_iff_iff]
  simp only [List.any_eq_true, beq_iff_eq, decide_eq_true_eq]
  exact ⟨fun ⟨x, hx, e⟩ => e ▸ hx, fun h => ⟨w, h, rfl⟩⟩

section
variable {prog : Program} {w : World} {A : Around} {E : Value → Shared → Prop} {s : Shared} {hB : Heap} {mg mb m : Str → Option Value} {L a st sl a1 a2 a3 a4 : Addr} {cd : Value} {n : Nat} {line : Str} {Q : Lists}
theorem namedStmt {elts : List Expr} {k : Nat} {p1 p2 p3 p4 p5 : Pos} {wd : Str} {tw : Tok} {R : Flow → Shared → Prop} (hC : Consts prog w A (lawEnv L a cd) elts namedL) (X : LSt hB s.heap mg mb L m st sl a1 a2 a3 a4 n line Q) (hv : m "word" = some (.str wd tw))
    (h : ∀ h' tk, LSt hB h' mg mb L (upd m "named" (.bool (decide (wd ∈ namedL)))) st sl a1 a2 a3 a4 n line Q → R .next { s with heap := h', toks := tk }) :
    wpAny (model prog w) A (exec (.Assign [.Name "named" p1] (.Compare (.Name "word" p2) [.In] [.Tuple elts k p3] p4) p5) (lawEnv L a cd)) R E s := by
  have O := envLaw (L := L) (a := a) (cd := cd)
  refine wpAny_Assign_Name (wpAny_Compare1 (inTup X hv hC (by decide) fun h' tk k' => ?_) rfl) rfl
  rw [any_eq_mem]
  have X' := X.all k'
  refine stL O (by exact X'.N) (by simp) fun h3 N3 e3 => ?_
  exact h _ _ (X'.put N3 e3 (by decide))
theorem placeStmt {p1 p2 p3 p4 p5 p6 p7 p8 p9 : Pos} {g : Str} {tg : Tok} {R : Flow → Shared → Prop} (X : LSt hB s.heap mg mb L m st sl a1 a2 a3 a4 n line Q) (hv : m "ahead" = some (.str g tg)) (hlen : line.length ≤ 300) (hg : g.length ≤ 3)
    (h : ∀ t h' tk, LSt hB h' mg mb L (upd m "place" (.int ((line.length : Int) + (g.length : Int)) t)) st sl a1 a2 a3 a4 n line Q → R .next { s with heap := h', toks := tk }) :
    wpAny (model prog w) A (exec (.Assign [.Name "place" p1] (.BinOp (.Call (.Name "len" p2) [.Name "line" p3] [] p4) .Add (.Call (.Name "len" p5) [.Name "ahead" p6] [] p7) p8) p9) (lawEnv L a cd)) R E s := by
  have O := envLaw (L := L) (a := a) (cd := cd)
  obtain ⟨tl, hvl⟩ := X.vl
  refine wpAny_Assign_Name ?_ rfl
  refine wpAny_BinOp (lenLine (m := m) X.Tn X.N (by simp) (by decide) hvl (by omega) fun t' tk' => ?_)
  refine lenLine (m := m) (by exact X.Tn) (by exact X.N) (by simp) (by decide) hv (by omega) fun t'' tk'' => ?_
  refine PyProof.Rows.add_int ?_
  refine stL O (by exact X.N) (by simp) fun h3 N3 e3 => ?_
  exact h _ _ _ (X.put N3 e3 (by decide))
/-- line = line + ahead + word + behind -/
theorem joinStmt {p1 p2 p3 p4 p5 p6 p7 p8 p9 : Pos} {g1 wd g2 : Str} {t1 tw t2 : Tok} {R : Flow → Shared → Prop} (X : LSt hB s.heap mg mb L m st sl a1 a2 a3 a4 n line Q) (hv1 : m "ahead" = some (.str g1 t1)) (hvw : m "word" = some (.str wd tw)) (hv2 : m "behind" = some (.str g2 t2))
    (hlen : line.length ≤ 300) (hg1 : g1.length ≤ 3) (hw : wd.length ≤ 4) (hg2 : g2.length ≤ 3)
    (h : ∀ t h' tk, LSt hB h' mg mb L (upd m "line" (.str (line ++ g1 ++ wd ++ g2) t)) st sl a1 a2 a3 a4 n (line ++ g1 ++ wd ++ g2) Q → R .next { s with heap := h', toks := tk }) :
    wpAny (model prog w) A (exec (.Assign [.Name "line" p1] (.BinOp (.BinOp (.BinOp (.Name "line" p2) .Add (.Name "ahead" p3) p4) .Add (.Name "word" p5) p6) .Add (.Name "behind" p7) p8) p9) (lawEnv L a cd)) R E s := by
  have O := envLaw (L := L) (a := a) (cd := cd)
  have hsl := sizeLine_eq
  obtain ⟨tl, hvl⟩ := X.vl
  refine wpAny_Assign_Name ?_ rfl
  refine wpAny_BinOp (wpAny_BinOp (wpAny_BinOp (ldL O X.N (by simp) hvl ?_)))
  refine ldL O X.N (by simp) hv1 ?_
  refine SB.add (fun t3 tk3 => ?_) (by omega)
  refine ldL O (by exact X.N) (by simp) hvw ?_
  refine SB.add (fun t4 tk4 => ?_) (by rw [strLen]; omega)
  refine ldL O (by exact X.N) (by simp) hv2 ?_
  refine SB.add (fun t5 tk5 => ?_) (by rw [strLen, strLen]; omega)
  refine stL O (by exact X.N) (by simp) fun h3 N3 e3 => ?_
  exact h _ _ _ (X.setLine N3 e3)
/-- (place - 1, "E203 .." + word + "'") -/
theorem edge203 {p1 p2 p3 p4 p5 p6 p7 p8 p9 : Pos} {k1 k2 k3 k4 : Nat} {pl : Int} {wd : Str} {tp tw : Tok} (X : LSt hB s.heap mg mb L m st sl a1 a2 a3 a4 n line Q)
    (hp : m "place" = some (.int pl tp)) (hw : m "word" = some (.str wd tw)) (hwl : wd.length ≤ 4) (tk0 : Nat) :
    wpAny (model prog w) A (eval (.Tuple [.BinOp (.Name "place" p1) .Sub (.Constant (.int 1) k1 p2) p3,
      .BinOp (.BinOp (.Constant (.str "E203 whitespace before '") k2 p4) .Add (.Name "word" p5) p6) .Add (.Constant (.str "'") k3 p7) p8] k4 p9) (lawEnv L a cd))
      (fun v s₁ => ∃ t tk tk' h' tk0', v = .ref t ∧ s₁ = { s with heap := h', toks := tk0' } ∧ (∀ b o, s.heap.get? b = some o → h'.get? b = some o) ∧ h'.get? t = some { cls := .type "tuple", data := .seq #[.int (pl - 1) tk, .str (("E203 whitespace before '" : Str) ++ wd ++ ("'" : Str)) tk'] }) E { s with toks := tk0 } := by
  have O := envLaw (L := L) (a := a) (cd := cd)
  refine pairMk (o := (pl - 1, ("E203 whitespace before '" : Str) ++ wd ++ ("'" : Str))) rfl (fun tk E' R' hq => ?_) (fun tk E' R' hq => ?_) tk0
  · refine wpAny_BinOp (ldL O X.N (by simp) hp ?_)
    refine wpAny_Constant_int ?_
    exact PyProof.Rows.sub_int (hq _ _)
  · exact catEval (y := wd) (by decide) (by omega) (by decide) (fun tk2 E2 R2 hq2 => ldL O X.N (by simp) hw (hq2 _ _)) fun t tk' => hq _ _
/-- signs = signs + _law_told(..) -/
theorem signsStmt {g gv y1 y2 : Str} {tg : Tok} {i : Int} {e1 : Expr} {k1 k2 : Nat} {p1 p2 p3 p4 p5 p6 p7 p8 p9 : Pos} {R : Flow → Shared → Prop} (X : LSt hB s.heap mg mb L m st sl a1 a2 a3 a4 n line Q) (hroom : A.depth < recursionLimit)
    (ho : Q.signs.length ≤ 1000) (hg : g ∈ lawLoc) (hgd : (g == ("__debug__" : Str)) = false) (hvg : m g = some (.str gv tg)) (hgl : gv.length ≤ 3)
    (hs : ∀ p : Pos, backTo p (starEach [e1, .Name g p3, .Constant (.str y1) k1 p4, .Constant (.str y2) k2 p5] (lawEnv L a cd)) = [(false, eval e1 (lawEnv L a cd)), (false, eval (.Name g p3) (lawEnv L a cd)), (false, eval (.Constant (.str y1) k1 p4) (lawEnv L a cd)), (false, eval (.Constant (.str y2) k2 p5) (lawEnv L a cd))])
    (h1 : ∀ (tk : Nat) (E' : Value → Shared → Prop) (R' : Value → Shared → Prop), (∀ t tk', R' (.int i t) { s with toks := tk' }) → wpAny (model prog w) A (eval e1 (lawEnv L a cd)) R' E' { s with toks := tk })
    (h : ∀ b h' tk, LSt hB h' mg mb L (upd m "signs" (.ref b)) st sl b a2 a3 a4 n line { Q with signs := Q.signs ++ toldO i gv y1 y2 } → R .next { s with heap := h', toks := tk }) :
    wpAny (model prog w) A (exec (.Assign [.Name "signs" p1] (.BinOp (.Name "signs" p2) .Add (.Call (.Name "_law_told" p6) [e1, .Name g p3, .Constant (.str y1) k1 p4, .Constant (.str y2) k2 p5] [] p7) p8) p9) (lawEnv L a cd)) R E s := by
  have O := envLaw (L := L) (a := a) (cd := cd)
  refine wpAny_Assign_Name (toldEval X hroom (by simp) (by decide) X.v1 X.l1 X.s1 ho hg hgd hvg hgl hs h1 (fun tk E' R' hq => wpAny_Constant_str (hq _ _)) (fun tk E' R' hq => wpAny_Constant_str (hq _ _)) fun b h' tk lb k hge => ?_) rfl
  have X' := X.all k
  refine stL O (by exact X'.N) (by simp) fun h3 N3 e3 => ?_
  exact h b _ _ (X'.setSigns lb (Nat.ne_of_lt (Nat.lt_of_lt_of_le X.lt4 hge)) (Nat.ne_of_gt (Nat.lt_of_lt_of_le X.ltS hge)) N3 e3)
theorem wordsStmt {g gv y1 y2 : Str} {tg : Tok} {i : Int} {e1 : Expr} {k1 k2 : Nat} {p1 p2 p3 p4 p5 p6 p7 p8 p9 : Pos} {R : Flow → Shared → Prop} (X : LSt hB s.heap mg mb L m st sl a1 a2 a3 a4 n line Q) (hroom : A.depth < recursionLimit)
    (ho : Q.words.length ≤ 1000) (hg : g ∈ lawLoc) (hgd : (g == ("__debug__" : Str)) = false) (hvg : m g = some (.str gv tg)) (hgl : gv.length ≤ 3)
    (hs : ∀ p : Pos, backTo p (starEach [e1, .Name g p3, .Constant (.str y1) k1 p4, .Constant (.str y2) k2 p5] (lawEnv L a cd)) = [(false, eval e1 (lawEnv L a cd)), (false, eval (.Name g p3) (lawEnv L a cd)), (false, eval (.Constant (.str y1) k1 p4) (lawEnv L a cd)), (false, eval (.Constant (.str y2) k2 p5) (lawEnv L a cd))])
    (h1 : ∀ (tk : Nat) (E' : Value → Shared → Prop) (R' : Value → Shared → Prop), (∀ t tk', R' (.int i t) { s with toks := tk' }) → wpAny (model prog w) A (eval e1 (lawEnv L a cd)) R' E' { s with toks := tk })
    (h : ∀ b h' tk, LSt hB h' mg mb L (upd m "words" (.ref b)) st sl a1 b a3 a4 n line { Q with words := Q.words ++ toldO i gv y1 y2 } → R .next { s with heap := h', toks := tk }) :
    wpAny (model prog w) A (exec (.Assign [.Name "words" p1] (.BinOp (.Name "words" p2) .Add (.Call (.Name "_law_told" p6) [e1, .Name g p3, .Constant (.str y1) k1 p4, .Constant (.str y2) k2 p5] [] p7) p8) p9) (lawEnv L a cd)) R E s := by
  have O := envLaw (L := L) (a := a) (cd := cd)
  refine wpAny_Assign_Name (toldEval X hroom (by simp) (by decide) X.v2 X.l2 X.s2 ho hg hgd hvg hgl hs h1 (fun tk E' R' hq => wpAny_Constant_str (hq _ _)) (fun tk E' R' hq => wpAny_Constant_str (hq _ _)) fun b h' tk lb k hge => ?_) rfl
  have X' := X.all k
  refine stL O (by exact X'.N) (by simp) fun h3 N3 e3 => ?_
  exact h b _ _ (X'.setWords lb (Nat.ne_of_lt (Nat.lt_of_lt_of_le X.lt4 hge)) (Nat.ne_of_gt (Nat.lt_of_lt_of_le X.ltS hge)) N3 e3)
/-- commas = commas + _law_told(place + 1, behind, ..) -/
theorem commasStmt {gv wd : Str} {tg tp tw : Tok} {pl : Int} {k0 k1 k2 k3 k4 : Nat} {p1 p2 p3 p4 p5 p6 p7 p8 p9 p10 p11 p12 p13 p14 p15 p16 p17 p18 p19 p20 : Pos} {R : Flow → Shared → Prop} (X : LSt hB s.heap mg mb L m st sl a1 a2 a3 a4 n line Q) (hroom : A.depth < recursionLimit)
    (ho : Q.commas.length ≤ 1000) (hvg : m "behind" = some (.str gv tg)) (hgl : gv.length ≤ 3) (hp : m "place" = some (.int pl tp)) (hw : m "word" = some (.str wd tw)) (hwl : wd.length ≤ 4)
    (h : ∀ b h' tk, LSt hB h' mg mb L (upd m "commas" (.ref b)) st sl a1 a2 b a4 n line { Q with commas := Q.commas ++ toldO (pl + 1) gv (("E242 tab after '" : Str) ++ wd ++ ("'" : Str)) (("E241 multiple spaces after '" : Str) ++ wd ++ ("'" : Str)) } → R .next { s with heap := h', toks := tk }) :
    wpAny (model prog w) A (exec (.Assign [.Name "commas" p1] (.BinOp (.Name "commas" p2) .Add (.Call (.Name "_law_told" p3) [.BinOp (.Name "place" p4) .Add (.Constant (.int 1) k0 p5) p6, .Name "behind" p7,
      .BinOp (.BinOp (.Constant (.str "E242 tab after '") k1 p8) .Add (.Name "word" p9) p10) .Add (.Constant (.str "'") k2 p11) p12,
      .BinOp (.BinOp (.Constant (.str "E241 multiple spaces after '") k3 p13) .Add (.Name "word" p14) p15) .Add (.Constant (.str "'") k4 p16) p17] [] p18) p19) p20) (lawEnv L a cd)) R E s := by
  have O := envLaw (L := L) (a := a) (cd := cd)
  refine wpAny_Assign_Name (toldEval (i := pl + 1) (y1 := ("E242 tab after '" : Str) ++ wd ++ ("'" : Str)) (y2 := ("E241 multiple spaces after '" : Str) ++ wd ++ ("'" : Str)) X hroom (by simp) (by decide) X.v3 X.l3 X.s3 ho (by simp) (by decide) hvg hgl (fun _ => rfl) (fun tk E' R' hq => ?_) (fun tk E' R' hq => ?_) (fun tk E' R' hq => ?_) fun b h' tk lb k hge => ?_) rfl
  · refine wpAny_BinOp (ldL O X.N (by simp) hp ?_)
    refine wpAny_Constant_int ?_
    exact PyProof.Rows.add_int (hq _ _)
  · exact catEval (y := wd) (by decide) (by omega) (by decide) (fun tk2 E2 R2 hq2 => ldL O X.N (by simp) hw (hq2 _ _)) fun t tk' => hq _ _
  · exact catEval (y := wd) (by decide) (by omega) (by decide) (fun tk2 E2 R2 hq2 => ldL O X.N (by simp) hw (hq2 _ _)) fun t tk' => hq _ _
  have X' := X.all k
  refine stL O (by exact X'.N) (by simp) fun h3 N3 e3 => ?_
  exact h b _ _ (X'.setCommas lb (Nat.ne_of_lt (Nat.lt_of_lt_of_le X.lt4 hge)) (Nat.ne_of_gt (Nat.lt_of_lt_of_le X.ltS hge)) N3 e3)
end
end Mine

end

/-! ## LLawF -/
section
open PySem PySem.W PyProof.Rows PySem.Calls
namespace Mine
set_option maxRecDepth 100000
set_option linter.unusedVariables false

section
variable {prog : Program} {w : World} {A : Around} {E : Value → Shared → Prop} {s : Shared} {hB : Heap} {mg mb m : Str → Option Value} {L a st sl a1 a2 a3 a4 : Addr} {cd : Value} {n : Nat} {line : Str} {Q : Lists}
/-- if / elif / else over the word -/
theorem branchStmt {wd g1 g2 : Str} {tw t1 t2 tp : Tok} {R : Flow → Shared → Prop} (hroom : A.depth < recursionLimit) (X : LSt hB s.heap mg mb L m st sl a1 a2 a3 a4 n line Q)
    (vw : m "word" = some (.str wd tw)) (v1 : m "ahead" = some (.str g1 t1)) (v2 : m "behind" = some (.str g2 t2)) (vp : m "place" = some (.int ((line.length : Int) + (g1.length : Int)) tp)) (vn : m "named" = some (.bool (decide (wd ∈ namedL))))
    (hw : wd ∈ wordsL) (hg1 : g1 ∈ gapL) (hg2 : g2 ∈ gapL) (hlen : line.length ≤ 300) (hl1 : Q.signs.length ≤ 900) (hl2 : Q.words.length ≤ 900) (hl3 : Q.commas.length ≤ 900) (hl4 : Q.edges.length ≤ 900)
    (h : ∀ b1 b2 b3 m' h' tk, LSt hB h' mg mb L m' st sl b1 b2 b3 a4 n line (sepL line.length wd g1 g2 Q) → (∀ y ∈ (["k", "many", "ahead", "behind", "word"] : List Str), m' y = m y) → R .next { s with heap := h', toks := tk }) :
    wpAny (model prog w) A (exec (nthS (ifBody sepStmt) 4) (lawEnv L a cd)) R E s := by
  have O := envLaw (L := L) (a := a) (cd := cd)
  have hg1l := gap_len _ hg1
  have hg2l := gap_len _ hg2
  have hwl := word_len _ hw
  have keep : ∀ (x : Str) (v : Value), x ∈ (["signs", "words", "commas"] : List Str) → ∀ y ∈ (["k", "many", "ahead", "behind", "word", "place", "named"] : List Str), upd m x v y = m y := by
    intro x v hx y hy
    refine upd_other fun e => ?_
    subst e
    simp only [List.mem_cons, List.not_mem_nil, or_false] at hx
    rcases hx with rfl | rfl | rfl <;> exact absurd hy (by decide)
  have sub : ∀ y ∈ (["k", "many", "ahead", "behind", "word"] : List Str), y ∈ (["k", "many", "ahead", "behind", "word", "place", "named"] : List Str) := by
    intro y hy
    simp only [List.mem_cons, List.not_mem_nil, or_false] at hy ⊢
    rcases hy with rfl | rfl | rfl | rfl | rfl <;> simp
  show wpAny _ _ (exec (.If (.Compare _ [.In] [.Tuple _ _ _] _) _ [.If _ _ _ _] _) _) _ _ _
  refine wpAny_If (wpAny_isTrue_Compare1 (inTup (ys := [",", ";"]) X vw (.cons (.cons .nil)) (by decide) fun h' tk k => ?_) rfl)
  rw [any_eq_mem]
  have X1 := X.all k
  refine wpAny_truthy_bool ?_
  by_cases hc : wd ∈ ([",", ";"] : List Str)
  · rw [decide_eq_true hc, if_pos rfl]
    have eL : sepL line.length wd g1 g2 Q = { Q with edges := Q.edges ++ (if g1 = ("" : Str) then [] else [((line.length : Int) + (g1.length : Int) - 1, ("E203 whitespace before '" : Str) ++ wd ++ ("'" : Str))]), commas := Q.commas ++ toldO ((line.length : Int) + (g1.length : Int) + 1) g2 (("E242 tab after '" : Str) ++ wd ++ ("'" : Str)) (("E241 multiple spaces after '" : Str) ++ wd ++ ("'" : Str)) } := by
      unfold sepL; rw [if_pos hc]
    rw [eL] at h
    refine wpAny_execs_cons (edgeIf (o := ((line.length : Int) + (g1.length : Int) - 1, ("E203 whitespace before '" : Str) ++ wd ++ ("'" : Str))) (by exact X1) (by omega) (by simp) (by decide) v1 rfl rfl (fun tk0 => edge203 (by exact X1) vp vw hwl tk0) fun h9 tk9 X9 => ?_)
    show wpAny _ _ _ _ _ { s with heap := h9, toks := tk9 }
    refine wpAny_execs_cons (commasStmt (by exact X9) hroom (by show Q.commas.length ≤ 1000; omega) v2 hg2l vp vw hwl fun b h10 tk10 X10 => ?_)
    exact wpAny_execs_nil (h _ _ _ _ _ _ X10 fun y hy => keep _ _ (by simp) y (sub y hy))
  · rw [decide_eq_false hc, if_neg Bool.false_ne_true]
    refine wpAny_execs_cons (wpAny_If (wpAny_isTrue_value ?_ rfl))
    refine ldL O (by exact X1.N) (by simp) vn ?_
    refine wpAny_truthy_bool ?_
    by_cases hn : wd ∈ namedL
    · rw [decide_eq_true hn, if_pos rfl]
      have eL : sepL line.length wd g1 g2 Q = { Q with words := Q.words ++ toldO (line.length : Int) g1 "E274 tab before keyword" "E272 multiple spaces before keyword" ++ toldO ((line.length : Int) + (g1.length : Int) + (wd.length : Int)) g2 "E273 tab after keyword" "E271 multiple spaces after keyword" } := by
        unfold sepL; rw [if_neg hc, if_pos hn]
      rw [eL] at h
      obtain ⟨tl, hvl⟩ := X1.vl
      refine wpAny_execs_cons (wordsStmt (i := (line.length : Int)) (by exact X1) hroom (by omega) (by simp) (by decide) v1 hg1l (fun _ => rfl) (fun tk E' R' hq => lenLine (m := m) X1.Tn X1.N (by simp) (by decide) hvl (by omega) fun t' tk' => hq _ _) fun b h9 tk9 X9 => ?_)
      show wpAny _ _ _ _ _ { s with heap := h9, toks := tk9 }
      have q := keep "words" (.ref b) (by simp)
      have hto : (Q.words ++ toldO (line.length : Int) g1 "E274 tab before keyword" "E272 multiple spaces before keyword").length ≤ 1000 := by
        rw [List.length_append]; unfold toldO; split <;> (try split) <;> simp <;> omega
      refine wpAny_execs_cons (wordsStmt (i := (line.length : Int) + (g1.length : Int) + (wd.length : Int)) (by exact X9) hroom hto (by simp) (by decide) ((q _ (by simp)).trans v2) hg2l (fun _ => rfl) (fun tk E' R' hq => ?_) fun b' h10 tk10 X10 => ?_)
      · refine wpAny_BinOp (ldL O X9.N (by simp) ((q _ (by simp)).trans vp) ?_)
        refine lenLine (m := upd m "words" (.ref b)) X9.Tn (by exact X9.N) (by simp) (by decide) ((q _ (by simp)).trans vw) (by omega) fun t' tk' => ?_
        exact PyProof.Rows.add_int (hq _ _)
      refine wpAny_execs_nil (wpAny_execs_nil (h _ _ _ _ _ _ X10 fun y hy => ?_))
      refine (upd_other fun e => ?_).trans (q y (sub y hy))
      subst e; exact absurd hy (by decide)
    · rw [decide_eq_false hn, if_neg Bool.false_ne_true]
      have eL : sepL line.length wd g1 g2 Q = { Q with signs := Q.signs ++ toldO (line.length : Int) g1 "E223 tab before operator" "E221 multiple spaces before operator" ++ toldO ((line.length : Int) + (g1.length : Int) + (wd.length : Int)) g2 "E224 tab after operator" "E222 multiple spaces after operator" } := by
        unfold sepL; rw [if_neg hc, if_neg hn]
      rw [eL] at h
      obtain ⟨tl, hvl⟩ := X1.vl
      refine wpAny_execs_cons (signsStmt (i := (line.length : Int)) (by exact X1) hroom (by omega) (by simp) (by decide) v1 hg1l (fun _ => rfl) (fun tk E' R' hq => lenLine (m := m) X1.Tn X1.N (by simp) (by decide) hvl (by omega) fun t' tk' => hq _ _) fun b h9 tk9 X9 => ?_)
      show wpAny _ _ _ _ _ { s with heap := h9, toks := tk9 }
      have q := keep "signs" (.ref b) (by simp)
      have hto : (Q.signs ++ toldO (line.length : Int) g1 "E223 tab before operator" "E221 multiple spaces before operator").length ≤ 1000 := by
        rw [List.length_append]; unfold toldO; split <;> (try split) <;> simp <;> omega
      refine wpAny_execs_cons (signsStmt (i := (line.length : Int) + (g1.length : Int) + (wd.length : Int)) (by exact X9) hroom hto (by simp) (by decide) ((q _ (by simp)).trans v2) hg2l (fun _ => rfl) (fun tk E' R' hq => ?_) fun b' h10 tk10 X10 => ?_)
      · refine wpAny_BinOp (ldL O X9.N (by simp) ((q _ (by simp)).trans vp) ?_)
        refine lenLine (m := upd m "signs" (.ref b)) X9.Tn (by exact X9.N) (by simp) (by decide) ((q _ (by simp)).trans vw) (by omega) fun t' tk' => ?_
        exact PyProof.Rows.add_int (hq _ _)
      refine wpAny_execs_nil (wpAny_execs_nil (h _ _ _ _ _ _ X10 fun y hy => ?_))
      refine (upd_other fun e => ?_).trans (q y (sub y hy))
      subst e; exact absurd hy (by decide)

def isConsts : List Expr → List Str → Bool
  | [], [] => true
  | .Constant (.str x) _ _ :: es, y :: ys => (x == y) && isConsts es ys
  | _, _ => false
theorem Consts.of {env : Env} : ∀ {elts : List Expr} {ys : List Str}, isConsts elts ys = true → Consts prog w A env elts ys
  | [], [], _ => Consts.nil
  | .Constant (.str x) _ _ :: es, y :: ys, hh => by
    rw [isConsts, Bool.and_eq_true, beq_iff_eq] at hh
    obtain ⟨rfl, h2⟩ := hh
    exact Consts.cons (Consts.of h2)
def isWord (st : Stmt) : Bool := match st with
  | .Assign [.Name x p1] (.Subscript (.List elts p2) (.Call (.Name f p3) [.Name y p4, .Constant (.int 23) k p5] [] p6) p7) p8 => x == ("word" : Str) && f == ("_law_next" : Str) && y == ("state" : Str) && isConsts elts wordsL
  | _ => false
theorem isWord.wp {st0 : Stmt} {R : Flow → Shared → Prop} (hi : isWord st0 = true) (hroom : A.depth < recursionLimit) (X : LSt hB s.heap mg mb L m st sl a1 a2 a3 a4 n line Q)
    (h : ∀ wd t h' tk, wd ∈ wordsL → LSt hB h' mg mb L (upd m "word" (.str wd t)) st sl a1 a2 a3 a4 n line Q → R .next { s with heap := h', toks := tk }) :
    wpAny (model prog w) A (exec st0 (lawEnv L a cd)) R E s := by
  unfold isWord at hi
  split at hi
  · simp only [Bool.and_eq_true, beq_iff_eq] at hi
    obtain ⟨⟨⟨rfl, rfl⟩, rfl⟩, h4⟩ := hi
    exact wordStmt (Consts.of h4) hroom X h
  · exact absurd hi Bool.false_ne_true
def isNamed (st : Stmt) : Bool := match st with
  | .Assign [.Name x p1] (.Compare (.Name y p2) [.In] [.Tuple elts k p3] p4) p5 => x == ("named" : Str) && y == ("word" : Str) && isConsts elts namedL
  | _ => false
theorem isNamed.wp {st0 : Stmt} {wd : Str} {tw : Tok} {R : Flow → Shared → Prop} (hi : isNamed st0 = true) (X : LSt hB s.heap mg mb L m st sl a1 a2 a3 a4 n line Q) (hv : m "word" = some (.str wd tw))
    (h : ∀ h' tk, LSt hB h' mg mb L (upd m "named" (.bool (decide (wd ∈ namedL)))) st sl a1 a2 a3 a4 n line Q → R .next { s with heap := h', toks := tk }) :
    wpAny (model prog w) A (exec st0 (lawEnv L a cd)) R E s := by
  unfold isNamed at hi
  split at hi
  · simp only [Bool.and_eq_true, beq_iff_eq] at hi
    obtain ⟨⟨rfl, rfl⟩, h4⟩ := hi
    exact namedStmt (Consts.of h4) X hv h
  · exact absurd hi Bool.false_ne_true
theorem six : ∀ {l : List Stmt}, l.length = 6 → l = [nthS l 0, nthS l 1, nthS l 2, nthS l 3, nthS l 4, nthS l 5]
  | [_, _, _, _, _, _], _ => rfl
theorem sepBody : ifBody sepStmt = [nthS (ifBody sepStmt) 0, nthS (ifBody sepStmt) 1, nthS (ifBody sepStmt) 2, nthS (ifBody sepStmt) 3, nthS (ifBody sepStmt) 4, nthS (ifBody sepStmt) 5] := six (by decide +kernel)
theorem sep0 : isWord (nthS (ifBody sepStmt) 0) = true := by decide +kernel
theorem sep1 : isNamed (nthS (ifBody sepStmt) 1) = true := by decide +kernel
/-- a separator, built -/
theorem sep_walk {R : Flow → Shared → Prop} (hh : A.handled = none) (hroom : A.depth + 3 < recursionLimit) (X : LSt hB s.heap mg mb L m st sl a1 a2 a3 a4 n line Q) (hlen : line.length ≤ 250)
    (hl1 : Q.signs.length ≤ 900) (hl2 : Q.words.length ≤ 900) (hl3 : Q.commas.length ≤ 900) (hl4 : Q.edges.length ≤ 900)
    (hR : ∀ wd g1 g2 b1 b2 b3 m' h' tk, SepOk wd g1 g2 → LSt hB h' mg mb L m' st sl b1 b2 b3 a4 n (line ++ g1 ++ wd ++ g2) (sepL line.length wd g1 g2 Q) → (∀ y ∈ (["k", "many"] : List Str), m' y = m y) → R .next { s with heap := h', toks := tk }) :
    wpAny (model prog w) A (execs (ifBody sepStmt) (lawEnv L a cd)) R E s := by
  have O := envLaw (L := L) (a := a) (cd := cd)
  have h0 := sep0
  have g1 := sep1
  rw [sepBody]
  generalize nthS (ifBody sepStmt) 0 = st0 at h0 ⊢
  generalize nthS (ifBody sepStmt) 1 = st1 at g1 ⊢
  refine wpAny_execs_cons ?_
  refine isWord.wp h0 (Nat.lt_of_le_of_lt (Nat.le_add_right _ 3) hroom) X ?_
  intro wd tw h1 tk1 hw X1
  show wpAny _ _ _ _ _ { s with heap := h1, toks := tk1 }
  refine wpAny_execs_cons ?_
  refine isNamed.wp g1 X1 (upd_same _ _ _) ?_
  intro h2 tk2 X2
  show wpAny _ _ _ _ _ { s with heap := h2, toks := tk2 }
  refine wpAny_execs_cons (gapsStmt (least := decide (wd ∈ namedL)) hh hroom (by exact X2) rfl rfl (fun _ => rfl) (fun _ => rfl) (fun _ _ _ N' hq => ldL O N' (by simp) (upd_same _ _ _) hq) (fun _ _ _ N' hq => ldL O N' (by simp) (upd_same _ _ _) hq) fun g1 g2 t1 t2 h3 tk3 hg1 hg2 hn1 hn2 X3 => ?_)
  show wpAny _ _ _ _ _ { s with heap := h3, toks := tk3 }
  refine wpAny_execs_cons (placeStmt (by exact X3) (upd_same _ _ _) (by omega) (gap_len _ hg1) fun tp h4 tk4 X4 => ?_)
  show wpAny _ _ _ _ _ { s with heap := h4, toks := tk4 }
  generalize hm4 : upd (upd (upd (upd (upd m "word" (.str wd tw)) "named" (.bool (decide (wd ∈ namedL)))) "behind" (.str g2 t2)) "ahead" (.str g1 t1)) "place" (.int ((line.length : Int) + (g1.length : Int)) tp) = m4 at X4
  have vp : m4 "place" = some (.int ((line.length : Int) + (g1.length : Int)) tp) := by rw [← hm4]; exact upd_same _ _ _
  have v1 : m4 "ahead" = some (.str g1 t1) := by rw [← hm4]; exact (upd_other (by decide)).trans (upd_same _ _ _)
  have v2 : m4 "behind" = some (.str g2 t2) := by rw [← hm4]; exact (upd_other (by decide)).trans ((upd_other (by decide)).trans (upd_same _ _ _))
  have vn : m4 "named" = some (.bool (decide (wd ∈ namedL))) := by rw [← hm4]; exact (upd_other (by decide)).trans ((upd_other (by decide)).trans ((upd_other (by decide)).trans (upd_same _ _ _)))
  have vw : m4 "word" = some (.str wd tw) := by rw [← hm4]; exact (upd_other (by decide)).trans ((upd_other (by decide)).trans ((upd_other (by decide)).trans ((upd_other (by decide)).trans (upd_same _ _ _))))
  have vk : ∀ y ∈ (["k", "many"] : List Str), m4 y = m y := by
    intro y hy
    rw [← hm4]
    simp only [List.mem_cons, List.not_mem_nil, or_false] at hy
    rcases hy with rfl | rfl <;> exact (upd_other (by decide)).trans ((upd_other (by decide)).trans ((upd_other (by decide)).trans ((upd_other (by decide)).trans (upd_other (by decide)))))
  refine wpAny_execs_cons (branchStmt (by omega) (by exact X4) vw v1 v2 vp vn hw hg1 hg2 (by omega) hl1 hl2 hl3 hl4 fun b1 b2 b3 m5 h5 tk5 X5 hm5 => ?_)
  show wpAny _ _ _ _ _ { s with heap := h5, toks := tk5 }
  refine wpAny_execs_cons (joinStmt (by exact X5) ((hm5 _ (by simp)).trans v1) ((hm5 _ (by simp)).trans vw) ((hm5 _ (by simp)).trans v2) (by omega) (gap_len _ hg1) (word_len _ hw) (gap_len _ hg2) fun t6 h6 tk6 X6 => ?_)
  refine wpAny_execs_nil (hR wd g1 g2 _ _ _ _ _ _ ⟨hw, hg1, hg2, fun hn => hn1 (decide_eq_true hn), fun hn => hn2 (decide_eq_true hn)⟩ X6 fun y hy => ?_)
  refine (upd_other fun e => ?_).trans ((hm5 y ?_).trans (vk y hy))
  · subst e; exact absurd hy (by decide)
  · simp only [List.mem_cons, List.not_mem_nil, or_false] at hy ⊢
    rcases hy with rfl | rfl <;> simp
end
end Mine

end

/-! ## LLawG -/
section
open PySem PySem.W PyProof.Rows PySem.Calls
namespace Mine
set_option maxRecDepth 100000
set_option linter.unusedVariables false

theorem pick60 (items : Array Value) : (slicePick items none (some 60) none).size ≤ 60 := by
  unfold slicePick
  rw [List.size_toArray]
  refine Nat.le_trans (List.length_filterMap_le _ _) (sliceRange_length_le _ _ _ _ (fun hc => ?_) fun hc => ?_)
  · simp only [sliceBounds] at hc ⊢
    simp
    omega
  · exact absurd (by simp [sliceBounds]) hc
theorem pick_mem {items : Array Value} {lo hi st : Option Int} {v : Value} (h : v ∈ slicePick items lo hi st) : v ∈ items := by
  unfold slicePick at h
  rw [List.mem_toArray, List.mem_filterMap] at h
  obtain ⟨i, _, e⟩ := h
  exact Array.mem_of_getElem? e

section
variable {prog : Program} {w : World} {A : Around} {E : Value → Shared → Prop} {s : Shared} {hB : Heap} {mg mb m : Str → Option Value} {L a st sl a1 a2 a3 a4 : Addr} {cd : Value} {n : Nat} {line : Str} {Q : Lists}
/-- state = [script[:60], 0, 17] -/
theorem stateStmt {sc : Addr} {items : Array Value} {R : Flow → Shared → Prop} (N : s.heap.Ns L m) (vsc : m "script" = some (.ref sc)) (hl : s.heap.IsList sc items) (hi : ∀ v ∈ items, ∃ i t, v = .int i t) (hsz : items.size ≤ sizeLine)
    (h : ∀ st sl n h' tk, StAt h' st sl n → h'.Ns L (upd m "state" (.ref st)) → (∀ b o, b ≠ L → s.heap.get? b = some o → h'.get? b = some o) → s.heap.get? st = none → R .next { s with heap := h', toks := tk }) :
    wpAny (model prog w) A (exec (nthS (bodyOf (topStmt 16)) 0) (lawEnv L a cd)) R E s := by
  have O := envLaw (L := L) (a := a) (cd := cd)
  show wpAny _ _ (exec (.Assign [.Name _ _] (.List [.Subscript (.Name _ _) (.Slice none (some (.Constant (.int 60) _ _)) none _) _, .Constant (.int 0) _ _, .Constant (.int 17) _ _] _) _) _) _ _ _
  refine wpAny_Assign_Name ?_ rfl
  refine wpAny_List ?_
  simp only [starEach, backTo, List.map_cons, List.map_nil, Bool.false_eq_true, if_false]
  refine spliced_cons (wpAny_Subscript_Slice slot_list_getitem.lookup (ldL O N (by simp) vsc (wpAny_Slice ?_)))
  rw [evalPart_none]
  refine wpAny_pure ?_
  rw [evalPart_some]
  refine wpAny_Constant_int ?_
  refine wpAny_pure ⟨Heap.IsList.typeIs (s := { s with heap := s.heap.push _, toks := s.toks + 1 }) (hl.push _), ?_⟩
  refine wpAny_getItem_list_slice (hl.push _) (.new ..) .none (.int 60 _) .none (by simp) ?_ hsz
  refine spliced_cons (wpAny_Constant_int ?_)
  refine spliced_cons (wpAny_Constant_int ?_)
  refine spliced_nil ⟨by show 3 ≤ sizeLine; rw [sizeLine_eq]; decide, ?_⟩
  generalize hs1 : s.heap.push { cls := .type "slice", data := .fields #[.none, .int 60 s.toks, .none] } = hp1
  have k1 : ∀ b o, s.heap.get? b = some o → hp1.get? b = some o := fun b o e => by rw [← hs1]; exact Heap.get?_push_of_some _ e
  have z1 : hp1.objs.size = s.heap.objs.size + 1 := by rw [← hs1]; exact Heap.size_push ..
  show wpAny _ _ _ _ _ { s with heap := ((hp1.push { cls := .type "list", data := .seq (slicePick items none (some 60) none) }).push { cls := .type "list", data := .seq #[.ref hp1.objs.size, .int 0 (s.toks + 1), .int 17 (s.toks + 1 + 1)] }), toks := s.toks + 1 + 1 + 1 }
  generalize hs2 : hp1.push { cls := .type "list", data := .seq (slicePick items none (some 60) none) } = hp2
  have k2 : ∀ b o, hp1.get? b = some o → hp2.get? b = some o := fun b o e => by rw [← hs2]; exact Heap.get?_push_of_some _ e
  have g2 : hp2.get? hp1.objs.size = some { cls := .type "list", data := .seq (slicePick items none (some 60) none) } := by rw [← hs2]; exact Heap.get?_push_size _ rfl
  have z2 : hp2.objs.size = hp1.objs.size + 1 := by rw [← hs2]; exact Heap.size_push ..
  generalize hs3 : hp2.push { cls := .type "list", data := .seq #[.ref hp1.objs.size, .int 0 (s.toks + 1), .int 17 (s.toks + 1 + 1)] } = hp3
  have k3 : ∀ b o, hp2.get? b = some o → hp3.get? b = some o := fun b o e => by rw [← hs3]; exact Heap.get?_push_of_some _ e
  have g3 : hp3.get? hp2.objs.size = some { cls := .type "list", data := .seq #[.ref hp1.objs.size, .int 0 (s.toks + 1), .int 17 (s.toks + 1 + 1)] } := by rw [← hs3]; exact Heap.get?_push_size _ rfl
  have kk : ∀ b o, s.heap.get? b = some o → hp3.get? b = some o := fun b o e => k3 _ _ (k2 _ _ (k1 _ _ e))
  have N3 : hp3.Ns L m := N.keeps kk
  refine stL O (by exact N3) (by simp) fun h4 N4 e4 => ?_
  have nst : hp2.objs.size ≠ L := tuple_ne_Ns N3 g3 ⟨_, _, rfl⟩
  have nsl : hp1.objs.size ≠ L := tuple_ne_Ns N3 (k3 _ _ g2) ⟨_, _, rfl⟩
  refine h hp2.objs.size hp1.objs.size (slicePick items none (some 60) none).size h4 _ ⟨?_, ?_, pick60 items, ?_⟩ N4 (fun b o hb e => (e4.2 b hb).trans (kk b o e)) ?_
  · exact ⟨0, 17, _, _, ⟨_, (e4.2 _ nst).trans g3, rfl, _, rfl⟩, by omega, by omega, by omega, by omega⟩
  · exact ⟨_, ⟨_, (e4.2 _ nsl).trans (k3 _ _ g2), rfl, _, rfl⟩, rfl, fun v hv => hi v (pick_mem hv)⟩
  · rw [z2]; exact Nat.succ_ne_self _
  · cases e : s.heap.get? hp2.objs.size with
    | none => rfl
    | some o => have lt : @LT.lt Nat _ hp2.objs.size s.heap.objs.size := Heap.lt_size e; omega
/-- line, signs, words, commas, edges = ('', [], [], [], []) -/
theorem listsStmt {R : Flow → Shared → Prop} (hh : A.handled = none) (base : ∀ b o, hB.get? b = some o → s.heap.get? b = some o) (T : Tx hB mg mb) (hLB : hB.get? L = none) (S : StAt s.heap st sl n) (hst : hB.get? st = none) (N : s.heap.Ns L m) (vst : m "state" = some (.ref st))
    (h : ∀ a1 a2 a3 a4 m' h' tk, LSt hB h' mg mb L m' st sl a1 a2 a3 a4 n "" ⟨[], [], [], []⟩ → R .next { s with heap := h', toks := tk }) :
    wpAny (model prog w) A (exec (nthS (bodyOf (topStmt 16)) 1) (lawEnv L a cd)) R E s := by
  have O := envLaw (L := L) (a := a) (cd := cd)
  have hsl := sizeLine_eq
  show wpAny _ _ (exec (.Assign [.Tuple [.Name _ _, .Name _ _, .Name _ _, .Name _ _, .Name _ _] _ _] (.Tuple [.Constant (.str "") _ _, .List [] _, .List [] _, .List [] _, .List [] _] _ _) _) _) _ _ _
  refine Assign_Tuple ?_ (by rfl) (by rfl)
  refine wpAny_Tuple ?_
  simp only [starEach, backTo, List.map_cons, List.map_nil, Bool.false_eq_true, if_false]
  refine spliced_cons (wpAny_Constant_str ?_)
  refine spliced_cons (wpAny_List (spliced_nil ⟨Nat.zero_le _, ?_⟩))
  refine spliced_cons (wpAny_List (spliced_nil ⟨Nat.zero_le _, ?_⟩))
  refine spliced_cons (wpAny_List (spliced_nil ⟨Nat.zero_le _, ?_⟩))
  refine spliced_cons (wpAny_List (spliced_nil ⟨Nat.zero_le _, ?_⟩))
  refine spliced_nil ⟨by show 5 ≤ sizeLine; rw [hsl]; decide, ?_⟩
  show wpAny _ _ (assign _ _ (.ref ((((s.heap.push (newSeq [] 0)).push (newSeq [] 0)).push (newSeq [] 0)).push (newSeq [] 0)).objs.size)) _ _ { s with heap := ((((s.heap.push (newSeq [] 0)).push (newSeq [] 0)).push (newSeq [] 0)).push (newSeq [] 0)).push { cls := .type "tuple", data := .seq #[.str "" s.toks, .ref s.heap.objs.size, .ref (s.heap.push (newSeq [] 0)).objs.size, .ref ((s.heap.push (newSeq [] 0)).push (newSeq [] 0)).objs.size, .ref (((s.heap.push (newSeq [] 0)).push (newSeq [] 0)).push (newSeq [] 0)).objs.size] }, toks := s.toks + 1 }
  generalize hs1 : s.heap.push (newSeq [] 0) = hp1
  have k1 : ∀ b o, s.heap.get? b = some o → hp1.get? b = some o := fun b o e => by rw [← hs1]; exact Heap.get?_push_of_some _ e
  have g1 : hp1.get? s.heap.objs.size = some (newSeq [] 0) := by rw [← hs1]; exact Heap.get?_push_size _ rfl
  have z1 : hp1.objs.size = s.heap.objs.size + 1 := by rw [← hs1]; exact Heap.size_push ..
  generalize hs2 : hp1.push (newSeq [] 0) = hp2
  have k2 : ∀ b o, hp1.get? b = some o → hp2.get? b = some o := fun b o e => by rw [← hs2]; exact Heap.get?_push_of_some _ e
  have g2 : hp2.get? hp1.objs.size = some (newSeq [] 0) := by rw [← hs2]; exact Heap.get?_push_size _ rfl
  have z2 : hp2.objs.size = hp1.objs.size + 1 := by rw [← hs2]; exact Heap.size_push ..
  generalize hs3 : hp2.push (newSeq [] 0) = hp3
  have k3 : ∀ b o, hp2.get? b = some o → hp3.get? b = some o := fun b o e => by rw [← hs3]; exact Heap.get?_push_of_some _ e
  have g3 : hp3.get? hp2.objs.size = some (newSeq [] 0) := by rw [← hs3]; exact Heap.get?_push_size _ rfl
  have z3 : hp3.objs.size = hp2.objs.size + 1 := by rw [← hs3]; exact Heap.size_push ..
  generalize hs4 : hp3.push (newSeq [] 0) = hp4
  have k4 : ∀ b o, hp3.get? b = some o → hp4.get? b = some o := fun b o e => by rw [← hs4]; exact Heap.get?_push_of_some _ e
  have g4 : hp4.get? hp3.objs.size = some (newSeq [] 0) := by rw [← hs4]; exact Heap.get?_push_size _ rfl
  refine assign_Tuple_tuple (items := #[.str "" s.toks, .ref s.heap.objs.size, .ref hp1.objs.size, .ref hp2.objs.size, .ref hp3.objs.size]) hh ⟨_, Heap.get?_push_size _ rfl, rfl, _, rfl⟩ rfl rfl fun h5 e5 => ?_
  have k5 : ∀ b o, hp4.get? b = some o → h5.get? b = some o := fun b o e => e5 b o (Nat.ne_of_lt (Nat.lt_succ_of_lt (Heap.lt_size e)) |> fun hne => by rw [Heap.size_push]; exact hne) (Heap.get?_push_of_some _ e)
  have q1 := k5 _ _ (k4 _ _ (k3 _ _ (k2 _ _ g1)))
  have q2 := k5 _ _ (k4 _ _ (k3 _ _ g2))
  have q3 := k5 _ _ (k4 _ _ g3)
  have q4 := k5 _ _ g4
  have kk : ∀ b o, s.heap.get? b = some o → h5.get? b = some o := fun b o e => k5 _ _ (k4 _ _ (k3 _ _ (k2 _ _ (k1 _ _ e))))
  have ltS : @LT.lt Nat _ st s.heap.objs.size := let ⟨_, _, _, _, ⟨_, e, _⟩, _⟩ := S.st_; Heap.lt_size e
  have ltSl : @LT.lt Nat _ sl s.heap.objs.size := let ⟨_, ⟨_, e, _⟩, _⟩ := S.sl_; Heap.lt_size e
  have hB4 : hB.get? hp3.objs.size = none := by
    cases e : hB.get? hp3.objs.size with
    | none => rfl
    | some o => have lt : @LT.lt Nat _ hp3.objs.size s.heap.objs.size := Heap.lt_size (base _ _ e); omega
  have N5 : h5.Ns L m := N.keeps kk
  generalize s.heap.objs.size = b1 at *
  generalize hp1.objs.size = b2 at *
  generalize hp2.objs.size = b3 at *
  generalize hp3.objs.size = b4 at *
  have S5 : StAt h5 st sl n := S.keep kk
  have base5 : ∀ b o, hB.get? b = some o → h5.get? b = some o := fun b o e => kk b o (base b o e)
  show wpAny _ A (assignInOrder [assign (.Name "line" _) _, assign (.Name "signs" _) _, assign (.Name "words" _) _, assign (.Name "commas" _) _, assign (.Name "edges" _) _] [.str "" s.toks, .ref b1, .ref b2, .ref b3, .ref b4]) _ _ { s with heap := h5, toks := s.toks + 1 }
  refine assignInOrder_cons (assign_Name (stL O (by exact N5) (by simp) fun h6 N6 e6 => ?_))
  refine assignInOrder_cons (assign_Name (stL O (by exact N6) (by simp) fun h7 N7 e7 => ?_))
  refine assignInOrder_cons (assign_Name (stL O (by exact N7) (by simp) fun h8 N8 e8 => ?_))
  refine assignInOrder_cons (assign_Name (stL O (by exact N8) (by simp) fun h9 N9 e9 => ?_))
  refine assignInOrder_cons (assign_Name (stL O (by exact N9) (by simp) fun h10 N10 e10 => ?_))
  refine assignInOrder_nil ?_
  have kL : ∀ b o, b ≠ L → h5.get? b = some o → h10.get? b = some o := fun b o hb e => (e10.2 b hb).trans ((e9.2 b hb).trans ((e8.2 b hb).trans ((e7.2 b hb).trans ((e6.2 b hb).trans e))))
  have d1 := Ns_ne N5 q1 (fun _ _ e => by cases e)
  have d2 := Ns_ne N5 q2 (fun _ _ e => by cases e)
  have d3 := Ns_ne N5 q3 (fun _ _ e => by cases e)
  have d4 := Ns_ne N5 q4 (fun _ _ e => by cases e)
  have stL' : st ≠ L := let ⟨_, _, _, _, ⟨o', ho', _, n', hd'⟩, _⟩ := S5.st_; tuple_ne_Ns N5 ho' ⟨_, _, hd'⟩
  have slL' : sl ≠ L := let ⟨_, ⟨o', ho', _, n', hd'⟩, _⟩ := S5.sl_; tuple_ne_Ns N5 ho' ⟨_, _, hd'⟩
  refine h b1 b2 b3 b4 _ h10 _ { base := fun b o e => kL b o (fun e' => by subst e'; rw [hLB] at e; cases e) (base5 b o e), T := T, N := N10, hL := hLB, S := ?_, hst := hst, ha4 := hB4, vst := vst, vl := ⟨_, rfl⟩, v1 := rfl, v2 := rfl, v3 := rfl, v4 := rfl, l1 := ⟨[], 0, kL _ _ d1 q1, trivial⟩, l2 := ⟨[], 0, kL _ _ d2 q2, trivial⟩, l3 := ⟨[], 0, kL _ _ d3 q3, trivial⟩, l4 := ⟨[], 0, kL _ _ d4 q4, trivial⟩, n41 := ?_, n42 := ?_, n43 := ?_, s1 := ?_, s2 := ?_, s3 := ?_, s4 := ?_, sl4 := ?_ }
  · exact ⟨let ⟨i, sd, t1, t2, hl, r⟩ := S5.st_; ⟨i, sd, t1, t2, IsList.keep hl (fun o => kL _ o stL'), r⟩, let ⟨vs, hl, r⟩ := S5.sl_; ⟨vs, IsList.keep hl (fun o => kL _ o slL'), r⟩, S5.n_, S5.ne⟩
  all_goals (intro e; subst e; omega)
/-- many = 1 + _law_next(state, 5) -/
theorem manyStmt {R : Flow → Shared → Prop} (hroom : A.depth < recursionLimit) (X : LSt hB s.heap mg mb L m st sl a1 a2 a3 a4 n line Q)
    (h : ∀ (k : Nat) t h' tk, 1 ≤ k → k ≤ 5 → LSt hB h' mg mb L (upd m "many" (.int (k : Int) t)) st sl a1 a2 a3 a4 n line Q → R .next { s with heap := h', toks := tk }) :
    wpAny (model prog w) A (exec (nthS (bodyOf (topStmt 16)) 2) (lawEnv L a cd)) R E s := by
  have O := envLaw (L := L) (a := a) (cd := cd)
  show wpAny _ _ (exec (.Assign [.Name _ _] (.BinOp (.Constant (.int 1) _ _) .Add (.Call (.Name _ _) [.Name _ _, .Constant (.int 5) _ _] [] _) _) _) _) _ _ _
  refine wpAny_Assign_Name ?_ rfl
  refine wpAny_BinOp (wpAny_Constant_int ?_)
  refine diceEval (s := { s with toks := s.toks + 1 }) (by exact X) hroom (by decide) (by decide) fun r tr h1 tk1 r0 r1 X1 k1 => ?_
  refine PyProof.Rows.add_int ?_
  refine stL O (by exact X1.N) (by simp) fun h2 N2 e2 => ?_
  obtain ⟨j, rfl⟩ := Int.eq_ofNat_of_zero_le r0
  have X2 := X1.put N2 e2 (by decide)
  have e : (1 : Int) + (j : Int) = ((1 + j : Nat) : Int) := by push_cast; rfl
  refine h (1 + j) (tk1) _ _ (by omega) (by omega) ?_
  rw [← e]; exact X2
end
end Mine

end

/-! ## LLawH -/
section
open PySem PySem.W PyProof.Rows PySem.Calls
namespace Mine
set_option maxRecDepth 100000
set_option linter.unusedVariables false

theorem get?_freed (h : Heap) (a : Addr) : (h.update a (fun o => { o with data := .freed })).get? a = none := by
  cases h with
  | mk objs l =>
    simp only [Heap.update, Heap.get?, Array.getElem?_modify, if_true]
    cases e : objs[a]? with
    | none => simp
    | some o => simp
/-- a heap without three of its objects -/
theorem without (h : Heap) (a b c : Addr) : ∃ hC : Heap, hC.get? a = none ∧ hC.get? b = none ∧ hC.get? c = none ∧ (∀ x, x ≠ a → x ≠ b → x ≠ c → hC.get? x = h.get? x) := by
  have f : ∀ (h : Heap) (y x : Addr), h.get? x = none → (h.update y (fun o => { o with data := .freed })).get? x = none := by
    intro h y x e
    by_cases hyx : y = x
    · subst hyx; exact get?_freed h y
    · exact (Heap.get?_update_other h _ hyx).trans e
  refine ⟨((h.update a (fun o => { o with data := .freed })).update b (fun o => { o with data := .freed })).update c (fun o => { o with data := .freed }), f _ _ _ (f _ _ _ (get?_freed _ _)), f _ _ _ (get?_freed _ _), get?_freed _ _, fun x h1 h2 h3 => ?_⟩
  rw [Heap.get?_update_other _ _ (Ne.symm h3), Heap.get?_update_other _ _ (Ne.symm h2), Heap.get?_update_other _ _ (Ne.symm h1)]

section
variable {hB h h' hC : Heap} {mg mb m : Str → Option Value} {L st sl a1 a2 a3 a4 : Addr} {n : Nat} {line : Str} {Q : Lists}
/-- the base, widened to all that is not the law's own -/
theorem LSt.rebase (X : LSt hB h mg mb L m st sl a1 a2 a3 a4 n line Q) : ∃ hC, LSt hC h mg mb L m st sl a1 a2 a3 a4 n line Q ∧ (∀ b o, hB.get? b = some o → hC.get? b = some o) ∧ (∀ x, x ≠ L → x ≠ st → x ≠ a4 → hC.get? x = h.get? x) := by
  obtain ⟨hC, c1, c2, c3, c4⟩ := without h L st a4
  have k : ∀ b o, hB.get? b = some o → hC.get? b = some o := fun b o e => by
    rw [c4 b (fun e' => by subst e'; rw [X.hL] at e; cases e) (fun e' => by subst e'; rw [X.hst] at e; cases e) (fun e' => by subst e'; rw [X.ha4] at e; cases e)]
    exact X.base b o e
  refine ⟨hC, { X with base := fun b o e => ?_, T := X.T.keeps k, hL := c1, hst := c2, ha4 := c3 }, k, c4⟩
  by_cases e1 : b = L
  · subst e1; rw [c1] at e; cases e
  by_cases e2 : b = st
  · subst e2; rw [c2] at e; cases e
  by_cases e3 : b = a4
  · subst e3; rw [c3] at e; cases e
  rw [← c4 b e1 e2 e3]; exact e
theorem LSt.back (X : LSt hC h mg mb L m st sl a1 a2 a3 a4 n line Q) (T : Tx hB mg mb) (k : ∀ b o, hB.get? b = some o → hC.get? b = some o) : LSt hB h mg mb L m st sl a1 a2 a3 a4 n line Q :=
  have f : ∀ x, hC.get? x = none → hB.get? x = none := fun x e => by
    cases e' : hB.get? x with
    | none => rfl
    | some o => rw [k _ _ e'] at e; cases e
  { X with base := fun b o e => X.base b o (k b o e), T := T, hL := f _ X.hL, hst := f _ X.hst, ha4 := f _ X.ha4 }
/-- the loop's own object changes -/
theorem LSt.but {I : Addr} {oI : Obj} (X : LSt hB h mg mb L m st sl a1 a2 a3 a4 n line Q) (hI : h.get? I = some oI) (hc : oI.cls = .type "range_iterator") (hd : ∃ v, oI.data = .fields v) (hBI : hB.get? I = none) (k : ∀ b o, b ≠ I → h.get? b = some o → h'.get? b = some o) :
    LSt hB h' mg mb L m st sl a1 a2 a3 a4 n line Q := by
  obtain ⟨vI, hd⟩ := hd
  have hLI : L ≠ I := Ne.symm (Ns_ne X.N hI (fun _ _ e => by rw [hd] at e; cases e))
  have nl : ∀ {b : Addr} {T : String} {o : Obj}, h.get? b = some o → o.cls = .type T → T ≠ "range_iterator" → b ≠ I := fun e c hT e' => by
    subst e'; rw [hI] at e; cases e; rw [hc] at c; injection c with c; exact hT c.symm
  have kt : ∀ b o, h.get? b = some o → o.cls = .type "tuple" → h'.get? b = some o := fun b o e c => k b o (nl e c (by decide)) e
  have kl : ∀ {b : Addr} {outs : List Out}, ListAt h b outs → ListAt h' b outs := fun {b outs} l => l.keep (fun o e => k b o (by
    obtain ⟨vs, c, e1, _⟩ := id l
    exact nl e1 rfl (by decide)) e) kt
  refine { X with base := fun b o e => k b o (fun e' => by subst e'; rw [hBI] at e; cases e) (X.base b o e), N := Ns_but X.N hLI k, S := ?_, l1 := kl X.l1, l2 := kl X.l2, l3 := kl X.l3, l4 := kl X.l4 }
  exact ⟨let ⟨i, sd, t1, t2, hl, r⟩ := X.S.st_; ⟨i, sd, t1, t2, IsList.keep hl (fun o e => k _ o (let ⟨o', h1, c1, _⟩ := hl; nl h1 c1 (by decide)) e), r⟩, let ⟨vs, hl, r⟩ := X.S.sl_; ⟨vs, IsList.keep hl (fun o e => k _ o (let ⟨o', h1, c1, _⟩ := hl; nl h1 c1 (by decide)) e), r⟩, X.S.n_, X.S.ne⟩
end

/-! how many pairs there may be -/
theorem toldO_len {i : Int} {g y1 y2 : Str} : (toldO i g y1 y2).length ≤ 1 := by
  unfold toldO; split
  · simp
  · split <;> simp
theorem OpdR.edl {line line1 : Str} {ed : List Out} (h : OpdR line line1 ed) : ed.length ≤ 2 := by
  cases h with
  | plain => exact Nat.zero_le _
  | br => rw [List.length_append]; split <;> split <;> simp
structure Few (k : Nat) (L : Lists) : Prop where
  f1 : L.signs.length ≤ 4 * k
  f2 : L.words.length ≤ 4 * k
  f3 : L.commas.length ≤ 4 * k
  f4 : L.edges.length ≤ 4 * k
theorem sepL_few {k : Nat} {L : Lists} {i : Nat} {wd g1 g2 : Str} (h1 : L.signs.length ≤ 4 * k) (h2 : L.words.length ≤ 4 * k) (h3 : L.commas.length ≤ 4 * k) (h4 : L.edges.length ≤ 4 * k + 2) : Few (k + 1) (sepL i wd g1 g2 L) := by
  have t : ∀ {i : Int} {g y1 y2 : Str}, (toldO i g y1 y2).length ≤ 1 := toldO_len
  unfold sepL
  split
  · refine ⟨?_, ?_, ?_, ?_⟩
    · show L.signs.length ≤ _; omega
    · show L.words.length ≤ _; omega
    · rw [List.length_append]; have := @t ((i : Int) + (g1.length : Int) + 1) g2 (("E242 tab after '" : Str) ++ wd ++ ("'" : Str)) (("E241 multiple spaces after '" : Str) ++ wd ++ ("'" : Str)); omega
    · rw [List.length_append]; split <;> simp <;> omega
  · split
    · refine ⟨?_, ?_, ?_, ?_⟩
      · show L.signs.length ≤ _; omega
      · rw [List.length_append, List.length_append]
        have := @t (i : Int) g1 "E274 tab before keyword" "E272 multiple spaces before keyword"
        have := @t ((i : Int) + (g1.length : Int) + (wd.length : Int)) g2 "E273 tab after keyword" "E271 multiple spaces after keyword"
        omega
      · show L.commas.length ≤ _; omega
      · show L.edges.length ≤ _; omega
    · refine ⟨?_, ?_, ?_, ?_⟩
      · rw [List.length_append, List.length_append]
        have := @t (i : Int) g1 "E223 tab before operator" "E221 multiple spaces before operator"
        have := @t ((i : Int) + (g1.length : Int) + (wd.length : Int)) g2 "E224 tab after operator" "E222 multiple spaces after operator"
        omega
      · show L.words.length ≤ _; omega
      · show L.commas.length ≤ _; omega
      · show L.edges.length ≤ _; omega
theorem Built.few {k : Nat} {line : Str} {L : Lists} (h : Built k line L) : Few k L := by
  induction h with
  | nil => exact ⟨Nat.zero_le _, Nat.zero_le _, Nat.zero_le _, Nat.zero_le _⟩
  | step _ ho hs ih => exact sepL_few ih.f1 ih.f2 ih.f3 (by rw [List.length_append]; have := ih.f4; have := ho.edl; omega)

section
variable {prog : Program} {w : World} {A : Around} {E : Value → Shared → Prop} {s : Shared} {hB : Heap} {mg mb m : Str → Option Value} {L a st sl a1 a2 a3 a4 : Addr} {cd : Value} {n : Nat} {line : Str} {Q : Lists}
def isIf (st : Stmt) : Bool := match st with | .If (.Compare (.Name x _) [.Lt] [.Name y _] _) _ [] _ => x == ("k" : Str) && y == ("many" : Str) | _ => false
theorem isIf.wp {st0 : Stmt} {i K : Nat} {ti tm : Tok} {R : Flow → Shared → Prop} (h0 : isIf st0 = true) (N : s.heap.Ns L m) (vk : m "k" = some (.int (i : Int) ti)) (vm : m "many" = some (.int (K : Int) tm))
    (h1 : i < K → wpAny (model prog w) A (execs (ifBody st0) (lawEnv L a cd)) R E s) (h2 : ¬ i < K → R .next s) : wpAny (model prog w) A (exec st0 (lawEnv L a cd)) R E s := by
  have O := envLaw (L := L) (a := a) (cd := cd)
  unfold isIf at h0
  split at h0
  · simp only [Bool.and_eq_true, beq_iff_eq] at h0
    obtain ⟨rfl, rfl⟩ := h0
    refine wpAny_If (wpAny_isTrue_Compare1 (ldL O N (by simp) vk (ldL O N (by simp) vm (PyProof.Rows.lt_int (wpAny_truthy_bool ?_)))) rfl)
    by_cases hlt : i < K
    · rw [decide_eq_true (by omega), if_pos rfl]; exact h1 hlt
    · rw [decide_eq_false (by omega), if_neg Bool.false_ne_true]; exact wpAny_execs_nil (h2 hlt)
  · exact absurd h0 Bool.false_ne_true
theorem sepIf : isIf sepStmt = true := by decide +kernel
theorem two : ∀ {l : List Stmt}, l.length = 2 → l = [nthS l 0, nthS l 1]
  | [_, _], _ => rfl
theorem lawForBody : forBody lawFor = [opdStmt, sepStmt] := two (by decide +kernel)
/-- one turn of the loop -/
theorem turnWalk {i K : Nat} {ti tm : Tok} {R : Flow → Shared → Prop} (hh : A.handled = none) (hroom : A.depth + 3 < recursionLimit) (X : LSt hB s.heap mg mb L m st sl a1 a2 a3 a4 n line Q) (vk : m "k" = some (.int (i : Int) ti)) (vm : m "many" = some (.int (K : Int) tm)) (hi : i ≤ K) (hK : K ≤ 5) (hb : Built i line Q)
    (hR : ∀ b1 b2 b3 m' h' tk line' Q', (i < K → Built (i + 1) line' Q') → (i = K → Done line' Q') → LSt hB h' mg mb L m' st sl b1 b2 b3 a4 n line' Q' → m' "many" = m "many" → R .next { s with heap := h', toks := tk }) :
    wpAny (model prog w) A (execs (forBody lawFor) (lawEnv L a cd)) R E s := by
  have O := envLaw (L := L) (a := a) (cd := cd)
  have hl := hb.len
  have hf := hb.few
  have hi0 := sepIf
  rw [lawForBody]
  have sw := @sep_walk prog w A E
  generalize sepStmt = st0 at hi0 sw ⊢
  have hed := hf.f4
  have ow := @opd_walk prog w A E
  generalize opdStmt = st1 at ow ⊢
  refine wpAny_execs_cons (ow hh hroom X vk (by omega) (by omega) fun line1 ed m1 h1 tk1 ho X1 hm1 => ?_)
  show wpAny _ _ _ _ _ { s with heap := h1, toks := tk1 }
  have hol := ho.len
  have hoe := ho.edl
  have vk1 : m1 "k" = some (.int (i : Int) ti) := (hm1 _ (by simp)).trans vk
  have vm1 : m1 "many" = some (.int (K : Int) tm) := (hm1 _ (by simp)).trans vm
  refine wpAny_execs_cons ?_
  refine isIf.wp hi0 (by exact X1.N) vk1 vm1 (fun hlt => ?_) fun hlt => ?_
  · refine sw hh hroom (by exact X1) (by omega) (by show Q.signs.length ≤ _; have := hf.f1; omega) (by show Q.words.length ≤ _; have := hf.f2; omega) (by show Q.commas.length ≤ _; have := hf.f3; omega) (by rw [List.length_append]; have := hf.f4; omega) fun wd g1 g2 b1 b2 b3 m2 h2 tk2 hok X2 hm2 => ?_
    refine wpAny_execs_nil (hR _ _ _ _ _ _ _ _ (fun _ => .step hb ho hok) (fun e => absurd e (Nat.ne_of_lt hlt)) X2 ?_)
    exact (hm2 _ (by simp)).trans (hm1 _ (by simp))
  · have e : i = K := by omega
    exact wpAny_execs_nil (hR _ _ _ _ _ _ _ _ (fun h => absurd h hlt) (fun _ => .mk hb (by omega) ho) X1 (hm1 _ (by simp)))
/-- the loop -/
theorem forWalk {K : Nat} {tm : Tok} {R : Flow → Shared → Prop} (hh : A.handled = none) (hroom : A.depth + 3 < recursionLimit) (X : LSt hB s.heap mg mb L m st sl a1 a2 a3 a4 n "" ⟨[], [], [], []⟩) (vm : m "many" = some (.int (K : Int) tm)) (hK : K ≤ 5)
    (hR : ∀ b1 b2 b3 m' h' tk line' Q', Done line' Q' → LSt hB h' mg mb L m' st sl b1 b2 b3 a4 n line' Q' → R .next { s with heap := h', toks := tk }) :
    wpAny (model prog w) A (exec lawFor (lawEnv L a cd)) R E s := by
  have O := envLaw (L := L) (a := a) (cd := cd)
  have G := X.Tn.G
  show wpAny _ _ (exec (.For (.Name "k" _) (.Call (.Name "range" _) [.BinOp (.Name "many" _) .Add (.Constant (.int 1) _ _) _] [] _) (forBody lawFor) [] _) _) _ _ _
  refine wpAny_For (Call_name1 rfl (ldB O (by simp) G.g G.b (G.bl _ (by simp)) G.b3 (callWith_type1 ?_))) (by intro _; rfl)
  refine wpAny_BinOp (ldL O X.N (by simp) vm ?_)
  refine wpAny_Constant_int ?_
  refine PyProof.Rows.add_int ?_
  refine call_range_1 ?_
  refine wpAny_pyIter_range (IsRange.new ..) (small_one (by omega) (by omega) (by omega) (by omega)) ?_
  rw [rangeSize_one, if_pos (by omega)]
  generalize hr : s.heap.push { cls := .type "range", data := .fields #[.int 0 (s.toks + 1 + 1), .int ((K : Int) + 1) (s.toks + 1), .int 1 (s.toks + 1 + 1 + 1)] } = hp1
  have k1 : ∀ b o, s.heap.get? b = some o → hp1.get? b = some o := fun b o e => by rw [← hr]; exact Heap.get?_push_of_some _ e
  have X1 := X.all (h' := hp1.push { cls := .type "range_iterator", data := .fields #[rawInt 0, rawInt ((K : Int) + 1 - 0), rawInt 1] }) fun b o e => Heap.get?_push_of_some _ (k1 b o e)
  have hI : IsRangeIter (hp1.push { cls := .type "range_iterator", data := .fields #[rawInt 0, rawInt ((K : Int) + 1 - 0), rawInt 1] }) hp1.objs.size 0 ((K : Int) + 1 - 0) 1 := Heap.get?_push_size _ rfl
  have hBI : hB.get? hp1.objs.size = none := by
    cases e : hB.get? hp1.objs.size with
    | none => rfl
    | some o => have lt : @LT.lt Nat _ hp1.objs.size hp1.objs.size := Heap.lt_size (k1 _ _ (X.base _ _ e)); omega
  show codeAny _ _ _ _ { s with heap := hp1.push { cls := .type "range_iterator", data := .fields #[rawInt 0, rawInt ((K : Int) + 1 - 0), rawInt 1] }, toks := s.toks + 1 + 1 + 1 + 1 }
  generalize hp1.push { cls := .type "range_iterator", data := .fields #[rawInt 0, rawInt ((K : Int) + 1 - 0), rawInt 1] } = hp2 at X1 hI ⊢
  generalize hp1.objs.size = I at *
  refine codeAny_forLoop (fun k s' => ∃ h' tk m' b1 b2 b3 line' Q' i, s' = { s with heap := h', toks := tk } ∧ LSt hB h' mg mb L m' st sl b1 b2 b3 a4 n line' Q' ∧ m' "many" = some (.int (K : Int) tm) ∧
    IsRangeIter h' I (i : Nat) ((K : Int) + 1 - (i : Nat)) 1 ∧ (i ≤ K → Built i line' Q') ∧ (i = K + 1 → Done line' Q') ∧ i ≤ K + 1 ∧ k = K + 2 - i) ?_ (K + 2) ⟨_, _, m, a1, a2, a3, _, _, 0, rfl, X1, vm, by simpa using hI, fun _ => .nil, fun e => by omega, by omega, rfl⟩
  rintro k s' ⟨h', tk, m', b1, b2, b3, line', Q', i, rfl, X', vm', hI', hb, hd, hi, rfl⟩
  by_cases hlt : i ≤ K
  · refine wpAny_pyNext_range_item hI' (by omega) fun h1 hI1 hs1 => ?_
    have X1 := X'.but hI' rfl ⟨_, rfl⟩ hBI (fun b o hb e => (hs1.2 b hb).trans e)
    refine wpAny_assign_Name (stL O (by exact X1.N) (by simp) fun h2 N2 e2 => ?_)
    have X2 := X1.put N2 e2 (by decide)
    have hIL : I ≠ L := Ns_ne X1.N hI1 (fun _ _ e => by cases e)
    have hI2 : IsRangeIter h2 I ((i : Nat) + 1) ((K : Int) + 1 - (i : Nat) - 1) 1 := (e2.2 I hIL).trans hI1
    obtain ⟨hC, X3, kC, eC⟩ := X2.rebase
    have hI3 : hC.get? I = some _ := (eC I hIL (fun e => ?_) (fun e => ?_)).trans hI2
    · show wpAny _ _ _ _ _ { s with heap := h2, toks := tk + 1 + 1 }
      refine turnWalk hh hroom (by exact X3) (upd_same _ _ _) ((upd_other (by decide)).trans vm') hlt hK (hb hlt) fun c1 c2 c3 m4 h4 tk4 line4 Q4 hb4 hd4 X4 hm4 => ?_
      refine ⟨K + 2 - (i + 1), by omega, h4, tk4, m4, c1, c2, c3, line4, Q4, i + 1, rfl, X4.back X.T kC, ?_, ?_, fun h => hb4 (by omega), fun h => hd4 (by omega), by omega, rfl⟩
      · rw [hm4]; exact (upd_other (by decide)).trans vm'
      · have := X4.base _ _ hI3
        have e1 : (((i + 1 : Nat) : Int)) = (i : Int) + 1 := by push_cast; rfl
        rw [e1]
        have e2 : (K : Int) + 1 - ((i : Int) + 1) = (K : Int) + 1 - (i : Int) - 1 := by omega
        rw [e2]; exact this
    · subst e
      obtain ⟨_, _, _, _, ⟨o', ho', hc', _⟩, _⟩ := X2.S.st_
      rw [hI2] at ho'; injection ho' with ho'; rw [← ho'] at hc'; exact absurd hc' (by show ¬ (Value.type "range_iterator" = Value.type "list"); decide)
    · subst e
      obtain ⟨_, _, ho', _⟩ := X2.l4
      rw [hI2] at ho'; injection ho' with ho'; injection ho' with ho'; exact absurd ho' (by show ¬ (Value.type "range_iterator" = Value.type "list"); decide)
  · have hin : i = K + 1 := by omega
    subst hin
    refine wpAny_pyNext_range_end hh hI' (by omega) fun h1 he1 => wpAny_execs_nil ?_
    exact hR _ _ _ _ _ _ _ _ (hd rfl) (X'.but hI' rfl ⟨_, rfl⟩ hBI he1)
end
end Mine

end

/-! ## LLawI -/
section
open PySem PySem.W PyProof.Rows PySem.Calls
namespace Mine
set_option maxRecDepth 100000
set_option linter.unusedVariables false

section
variable {prog : Program} {w : World} {A : Around} {E : Value → Shared → Prop} {s : Shared}
/-- list(f(line)), evaluated -/
theorem listR {env : Env} {L : Addr} {loc glob : List Str} {m mg mb : Str → Option Value} {name : Str} {i : Nat} {x : Str} {tk : Tok} {outs : List Out} {p1 p2 p3 p4 p5 : Pos} {Q : Value → Shared → Prop}
    (hh : A.handled = none) (hroom : A.depth + 2 < recursionLimit) (O : EnvOk env L loc glob) (hl : ("list" : Str) ∈ glob) (hn : name ∈ glob) (hnd : (name == ("__debug__" : Str)) = false) (hx : ("line" : Str) ∈ loc)
    (G : GNs s.heap mg mb) (hlim : s.heap.NoLimit) (F : FnAt s.heap mg name i) (N : s.heap.Ns L m) (hv : m "line" = some (.str x tk))
    (hbind : ∀ pm cd doc v, bindArgs (docDef name (paramsOf (topStmt i)) (bodyOf (topStmt i)) (scopeOf (topStmt i)) pm cd doc) ⟨[v], []⟩ = pure [(("logical_line" : Str), v)]) (hloc : (scopeOf (topStmt i)).names.lookup ("logical_line" : Str) = some .local)
    (hco : (scopeOf (topStmt i)).isCoroutine = false) (hgen : (scopeOf (topStmt i)).isGenerator = true) (hk : (scopeOf (topStmt i)).kind = .function) (hcell : ∀ x ∈ (scopeOf (topStmt i)).names, x.2 ≠ .cell)
    (hs : ∀ p2 p3 p4, starEach [.Call (.Name name p2) [.Name "line" p3] [] p4] env = [(false, eval (.Call (.Name name p2) [.Name "line" p3] [] p4) env)])
    (hW : ∀ a cd, Walked prog w A.in1.in1.in1 s.heap name (bodyOf (topStmt i)) (scopeOf (topStmt i)) a cd x outs) (hsz : outs.length ≤ sizeLine) (hbare : AllBare s.gens)
    (hQ : ∀ S s', (∀ b o, s.heap.get? b = some o → s'.heap.get? b = some o) → ListAt s'.heap S outs → AllBare s'.gens → s'.os = s.os → Q (.ref S) s') :
    wpR (modelA prog w) A (eval (.Call (.Name "list" p1) [.Call (.Name name p2) [.Name "line" p3] [] p4] [] p5) env) Q E s := by
  obtain ⟨a, o, pm, cd, doc, h1, h2, h3, h4⟩ := F
  refine R_Call_name1 (hs _ _ _) (ldB O hl G.g G.b (G.bl _ (by simp)) G.b4 (R_callWith_type1 ?_))
  refine Call_name1 rfl (ldG O hn G.g h1 ?_ hnd)
  refine callFn1 h3 (ldL O N hx hv ⟨h2, ?_⟩)
  refine list_walked (dV := .none) (kV := .none) hh hroom h2 h3 hlim h4 (hbind _ _ _) hloc hco hgen hk hcell (hW _ _) hsz hbare fun S vs c s' k e1 e2 ht hb ho => ?_
  exact hQ S s' k ⟨vs, c, e1, ht.rd⟩ hb ho
/-- what a def of the four yields of the line, at every later heap -/
def Gives (prog : Program) (w : World) (AG : Around) (hB : Heap) (name : Str) (i : Nat) (x : Str) (outs : List Out) : Prop :=
  ∀ h' : Heap, (∀ b o, hB.get? b = some o → h'.get? b = some o) → ∀ a cd, Walked prog w AG h' name (bodyOf (topStmt i)) (scopeOf (topStmt i)) a cd x outs
structure Four (prog : Program) (w : World) (AG : Around) (hB : Heap) (mg : Str → Option Value) (x : Str) (Q : Lists) : Prop where
  f7 : FnAt hB mg "extraneous_whitespace" 7
  f8 : FnAt hB mg "whitespace_around_keywords" 8
  f9 : FnAt hB mg "whitespace_around_operator" 9
  f10 : FnAt hB mg "whitespace_around_comma" 10
  g7 : Gives prog w AG hB "extraneous_whitespace" 7 x Q.edges
  g8 : Gives prog w AG hB "whitespace_around_keywords" 8 x Q.words
  g9 : Gives prog w AG hB "whitespace_around_operator" 9 x Q.signs
  g10 : Gives prog w AG hB "whitespace_around_comma" 10 x Q.commas
def OutsOk (l : List Out) : Prop := l.length ≤ 1000 ∧ ∀ o ∈ l, PyData.strOk o.2 = true
variable {hB : Heap} {mg mb m : Str → Option Value} {L a st sl a1 a2 a3 a4 : Addr} {cd : Value} {n : Nat} {line : Str} {Q : Lists}
/-- the law's last two statements -/
theorem tailWalk {R : Flow → Shared → Prop} (hh : A.handled = none) (hroom : A.depth + 3 < recursionLimit) (hu : A.units + 2 < cLine) (X : LSt hB s.heap mg mb L m st sl a1 a2 a3 a4 n line Q) (Y : Four prog w A.in1.in1.in1 hB mg line Q)
    (o1 : OutsOk Q.signs) (o2 : OutsOk Q.words) (o3 : OutsOk Q.commas) (o4 : OutsOk Q.edges) (hbare : AllBare s.gens)
    (hR : ∀ s', (∀ b o, s.heap.get? b = some o → s'.heap.get? b = some o) → AllBare s'.gens → s'.os = s.os → R (.ret (.bool true)) s') :
    wpR (modelA prog w) A (execs [nthS (bodyOf (topStmt 16)) 4, nthS (bodyOf (topStmt 16)) 5] (lawEnv L a cd)) R E s := by
  have O := envLaw (L := L) (a := a) (cd := cd)
  have hsl := sizeLine_eq
  have T := X.Tn
  obtain ⟨tl, hvl⟩ := X.vl
  show wpR _ _ (execs [.If (.BoolOp .Or [.Compare (.Call (.Name "list" _) [.Call (.Name "whitespace_around_operator" _) [.Name "line" _] [] _] [] _) [.NotEq] [.Name "signs" _] _, .Compare (.Call (.Name "list" _) [.Call (.Name "whitespace_around_keywords" _) [.Name "line" _] [] _] [] _) [.NotEq] [.Name "words" _] _] _) _ [] _,
    .Return (some (.BoolOp .And [.Compare (.Call (.Name "list" _) [.Call (.Name "whitespace_around_comma" _) [.Name "line" _] [] _] [] _) [.Eq] [.Name "commas" _] _, .Compare (.Call (.Name "list" _) [.Call (.Name "extraneous_whitespace" _) [.Name "line" _] [] _] [] _) [.Eq] [.Name "edges" _] _] _)) _] _) _ _ _
  refine R_execs_cons (R_If (R_isTrue_or (R_isTrue_Compare1 (listR hh (by omega) O (by simp) (by simp) (by decide) (by simp) T.G T.lim (Y.f9.keeps X.base) X.N hvl (fun _ _ _ _ => rfl) rfl rfl rfl rfl (by decide) (fun _ _ _ => rfl) (Y.g9 _ X.base) (by have := o1.1; omega) hbare fun S1 s1 k1 l1 b1 q1 => ?_) rfl)))
  have X1 := X.all k1
  refine ldL O (by exact X1.N) (by simp) X1.v1 (any_A (list_ne l1 X1.l1 o1.2 o1.2 hu ?_))
  rw [decide_eq_true rfl]
  refine wpAny_truthy_bool ?_
  rw [Bool.not_true, if_neg Bool.false_ne_true]
  have T1 := X1.Tn
  refine R_isTrue_Compare1 (listR hh (by omega) O (by simp) (by simp) (by decide) (by simp) T1.G T1.lim (Y.f8.keeps X1.base) X1.N hvl (fun _ _ _ _ => rfl) rfl rfl rfl rfl (by decide) (fun _ _ _ => rfl) (Y.g8 _ X1.base) (by have := o2.1; omega) b1 fun S2 s2 k2 l2 b2 q2 => ?_) rfl
  have X2 := X1.all k2
  refine ldL O (by exact X2.N) (by simp) X2.v2 (any_A (list_ne l2 X2.l2 o2.2 o2.2 hu ?_))
  rw [decide_eq_true rfl]
  refine wpAny_truthy_bool ?_
  rw [Bool.not_true, if_neg Bool.false_ne_true]
  refine R_execs_nil ?_
  have T2 := X2.Tn
  refine R_execs_cons (R_Return (R_And2 (R_Compare1 (listR hh (by omega) O (by simp) (by simp) (by decide) (by simp) T2.G T2.lim (Y.f10.keeps X2.base) X2.N hvl (fun _ _ _ _ => rfl) rfl rfl rfl rfl (by decide) (fun _ _ _ => rfl) (Y.g10 _ X2.base) (by have := o3.1; omega) b2 fun S3 s3 k3 l3 b3 q3 => ?_) rfl)))
  have X3 := X2.all k3
  refine ldL O (by exact X3.N) (by simp) X3.v3 (any_A (list_eq l3 X3.l3 o3.2 o3.2 hu ?_))
  rw [decide_eq_true rfl]
  refine ⟨true, rfl, ?_⟩
  rw [if_pos rfl]
  have T3 := X3.Tn
  refine R_Compare1 (listR hh (by omega) O (by simp) (by simp) (by decide) (by simp) T3.G T3.lim (Y.f7.keeps X3.base) X3.N hvl (fun _ _ _ _ => rfl) rfl rfl rfl rfl (by decide) (fun _ _ _ => rfl) (Y.g7 _ X3.base) (by have := o4.1; omega) b3 fun S4 s4 k4 l4 b4 q4 => ?_) rfl
  have X4 := X3.all k4
  refine ldL O (by exact X4.N) (by simp) X4.v4 (any_A (list_eq l4 X4.l4 o4.2 o4.2 hu ?_))
  rw [decide_eq_true rfl]
  exact hR s4 (fun b o e => k4 b o (k3 b o (k2 b o (k1 b o e)))) b4 (q4.trans (q3.trans (q2.trans q1)))
end
end Mine

end

/-! ## LLawJ -/
section
open PySem PySem.W PyProof.Rows PySem.Calls
namespace Mine
set_option maxRecDepth 100000
set_option linter.unusedVariables false

section
variable {prog : Program} {w : World} {A : Around} {E : Value → Shared → Prop} {s : Shared} {mg mb : Str → Option Value}
theorem lawBody : bodyOf (topStmt 16) = [nthS (bodyOf (topStmt 16)) 0, nthS (bodyOf (topStmt 16)) 1, nthS (bodyOf (topStmt 16)) 2, nthS (bodyOf (topStmt 16)) 3, nthS (bodyOf (topStmt 16)) 4, nthS (bodyOf (topStmt 16)) 5] := six (by decide +kernel)
/-- law(script), called -/
theorem law_call {a sc : Addr} {items : Array Value} {R : Value → Shared → Prop} (hh : A.handled = none) (hroom : A.depth + 4 < recursionLimit) (hu : A.units + 30 < cLine) (T : Tx s.heap mg mb) (F : FnAt s.heap mg "law" 16) (ha : mg "law" = some (.ref a)) (hbare : AllBare s.gens)
    (hl : s.heap.IsList sc items) (hi : ∀ v ∈ items, ∃ i t, v = .int i t) (hsz : items.size ≤ sizeLine)
    (Y : ∀ AG : Around, AG.handled = none → AG.units + 20 < cLine → ∀ line Q, Done line Q → Four prog w AG s.heap mg line Q ∧ OutsOk Q.signs ∧ OutsOk Q.words ∧ OutsOk Q.commas ∧ OutsOk Q.edges)
    (hR : ∀ s', (∀ b o, s.heap.get? b = some o → s'.heap.get? b = some o) → AllBare s'.gens → s'.os = s.os → R (.bool true) s') :
    wpR (modelA prog w) A (call (.ref a) [.ref sc]) R E s := by
  obtain ⟨a', o, pm, cd, doc, h1, h2, h3, h4⟩ := F
  obtain rfl : a = a' := by rw [ha] at h1; cases h1; rfl
  have hLB : s.heap.get? s.heap.objs.size = none := by
    cases e : s.heap.get? s.heap.objs.size with
    | none => rfl
    | some o => exact absurd (Heap.lt_size e) (Nat.lt_irrefl _)
  refine wpR_call (codeR_call_plain (binds := [(("script" : Str), .ref sc)]) (by omega) h2 h3 T.lim h4 rfl (by intro x hx; simp only [List.mem_cons, List.not_mem_nil, or_false] at hx; rcases hx with rfl; rfl) (fun h₁ F => ?_) rfl rfl rfl (by decide))
  rw [lawBody]
  have q0 := @stateStmt prog w (A.deeper (envOf "law" (scopeOf (topStmt 16)) s.heap.objs.size a cd))
  have q1 := @listsStmt prog w (A.deeper (envOf "law" (scopeOf (topStmt 16)) s.heap.objs.size a cd))
  have q2 := @manyStmt prog w (A.deeper (envOf "law" (scopeOf (topStmt 16)) s.heap.objs.size a cd))
  have q3 := @forWalk prog w (A.deeper (envOf "law" (scopeOf (topStmt 16)) s.heap.objs.size a cd))
  unfold lawFor at q3
  have q4 := @tailWalk prog w (A.deeper (envOf "law" (scopeOf (topStmt 16)) s.heap.objs.size a cd))
  generalize nthS (bodyOf (topStmt 16)) 0 = t0 at q0 ⊢
  generalize nthS (bodyOf (topStmt 16)) 1 = t1 at q1 ⊢
  generalize nthS (bodyOf (topStmt 16)) 2 = t2 at q2 ⊢
  generalize nthS (bodyOf (topStmt 16)) 3 = t3 at q3 ⊢
  generalize nthS (bodyOf (topStmt 16)) 4 = t4 at q4 ⊢
  generalize nthS (bodyOf (topStmt 16)) 5 = t5 at q4 ⊢
  have hroom' : (A.deeper (lawEnv s.heap.objs.size a cd)).depth + 3 < recursionLimit := by show A.depth + 1 + 3 < _; omega
  refine R_execs_cons (wpR_of (any_A (q0 (by exact F.ns) rfl (⟨_, F.keep _ _ hl.choose_spec.1, hl.choose_spec.2⟩) hi hsz fun st sl n h' tk S N k e0 => ?_)))
  have base : ∀ b o, s.heap.get? b = some o → h'.get? b = some o := fun b o e => k b o (Nat.ne_of_lt (Heap.lt_size e)) (F.keep b o e)
  have hst : s.heap.get? st = none := by
    cases e : s.heap.get? st with
    | none => rfl
    | some o => rw [show h₁.get? st = some o from F.keep _ _ e] at e0; cases e0
  show wpR _ _ _ _ _ { s with heap := h', toks := tk }
  refine R_execs_cons (wpR_of (any_A (q1 hh (by exact base) T hLB S hst (by exact N) (upd_same _ _ _) fun a1 a2 a3 a4 m' h2' tk2 X => ?_)))
  show wpR _ _ _ _ _ { s with heap := h2', toks := tk2 }
  refine R_execs_cons (wpR_of (any_A (q2 (by show A.depth + 1 < _; omega) (by exact X) fun K t h3' tk3 hK1 hK5 X3 => ?_)))
  show wpR _ _ _ _ _ { s with heap := h3', toks := tk3 }
  refine R_execs_cons (wpR_of (any_A (q3 hh hroom' (by exact X3) (upd_same _ _ _) hK5 fun b1 b2 b3 m4 h4' tk4 line Q hd X4 => ?_)))
  show wpR _ _ _ _ _ { s with heap := h4', toks := tk4 }
  obtain ⟨Y4, o1, o2, o3, o4⟩ := Y (A.deeper (lawEnv s.heap.objs.size a cd)).in1.in1.in1 hh (by show A.units + 3 + 1 + 1 + 1 + 20 < _; omega) line Q hd
  refine q4 hh hroom' (by show A.units + 3 + 2 < _; omega) (by exact X4) Y4 o1 o2 o3 o4 hbare fun s' k' g' o' => ?_
  exact hR s' (fun b o e => k' b o (X4.base b o e)) g' o'
end
end Mine

end

/-! ## LGives -/
section
open PySem PySem.W PyProof.Rows PySem.Calls
namespace Mine
set_option maxRecDepth 100000
set_option linter.unusedVariables false

theorem env7 {nm : Str} {L a : Addr} {cd : Value} : EnvOk (envOf nm (scopeOf (topStmt 7)) L a cd) L ["logical_line", "line", "match", "text", "char", "found", "code"] ["EXTRANEOUS_WHITESPACE_REGEX", "WHITESPACE_AFTER_DECORATOR_REGEX"] where
  kind := rfl
  at_ := rfl
  g := rfl
  b := rfl
  co := rfl
  loc_ := by
    intro x hx
    simp only [List.mem_cons, List.not_mem_nil, or_false] at hx
    rcases hx with rfl | rfl | rfl | rfl | rfl | rfl | rfl <;> rfl
  glob_ := by
    intro x hx
    simp only [List.mem_cons, List.not_mem_nil, or_false] at hx
    rcases hx with rfl | rfl <;> rfl
theorem env8 {nm : Str} {L a : Addr} {cd : Value} : EnvOk (envOf nm (scopeOf (topStmt 8)) L a cd) L ["logical_line", "match", "before", "after"] ["KEYWORD_REGEX", "len"] where
  kind := rfl
  at_ := rfl
  g := rfl
  b := rfl
  co := rfl
  loc_ := by
    intro x hx
    simp only [List.mem_cons, List.not_mem_nil, or_false] at hx
    rcases hx with rfl | rfl | rfl | rfl <;> rfl
  glob_ := by
    intro x hx
    simp only [List.mem_cons, List.not_mem_nil, or_false] at hx
    rcases hx with rfl | rfl <;> rfl
theorem env9 {nm : Str} {L a : Addr} {cd : Value} : EnvOk (envOf nm (scopeOf (topStmt 9)) L a cd) L ["logical_line", "match", "before", "after"] ["OPERATOR_REGEX", "len"] where
  kind := rfl
  at_ := rfl
  g := rfl
  b := rfl
  co := rfl
  loc_ := by
    intro x hx
    simp only [List.mem_cons, List.not_mem_nil, or_false] at hx
    rcases hx with rfl | rfl | rfl | rfl <;> rfl
  glob_ := by
    intro x hx
    simp only [List.mem_cons, List.not_mem_nil, or_false] at hx
    rcases hx with rfl | rfl <;> rfl
theorem env10 {nm : Str} {L a : Addr} {cd : Value} : EnvOk (envOf nm (scopeOf (topStmt 10)) L a cd) L ["logical_line", "line", "m", "found"] ["WHITESPACE_AFTER_COMMA_REGEX"] where
  kind := rfl
  at_ := rfl
  g := rfl
  b := rfl
  co := rfl
  loc_ := by
    intro x hx
    simp only [List.mem_cons, List.not_mem_nil, or_false] at hx
    rcases hx with rfl | rfl | rfl | rfl <;> rfl
  glob_ := by
    intro x hx
    simp only [List.mem_cons, List.not_mem_nil, or_false] at hx
    rcases hx with rfl <;> rfl
theorem GOk.keepsH {h h' : Heap} {rx : Str} {P : Addr} {code : Array Nat} {g : Nat} (G : GOk h rx P code g) (hk : ∀ b o, h.get? b = some o → h'.get? b = some o) : GOk h' rx P code g :=
  ⟨let ⟨mg, mb, h1, h2, r⟩ := G.all; ⟨mg, mb, h1.keeps hk, h2.keeps hk, r⟩, G.pat.keeps hk⟩
section
variable {prog : Program} {w : World} {A : Around} {x : Str} {hB : Heap} {P P2 : Addr} {outs : List Out} (hh : A.handled = none) (hu : A.units + 20 < cLine) (hx : x.cps.size ≤ 100000)
include hh hu hx
theorem gives9 (Gk : GOk hB "OPERATOR_REGEX" P opCode 2) (e : (hitsF (fun _ => opTry) x.cps (x.cps.size + 1) 0).flatMap (outsA x "E223 tab before operator" "E221 multiple spaces before operator" "E224 tab after operator" "E222 multiple spaces after operator") = outs) :
    Gives prog w A hB "whitespace_around_operator" 9 x outs := by
  subst e
  intro h' k a cd L S m s tk hL hS hSL N hv hb hSz
  exact g9 hh hu rfl hx hL hS hSL N hv hb hSz env9 (Gk.keepsH k)
theorem gives8 (Gk : GOk hB "KEYWORD_REGEX" P kwCode 2) (e : (hitsF kwTry x.cps (x.cps.size + 1) 0).flatMap (outsA x "E274 tab before keyword" "E272 multiple spaces before keyword" "E273 tab after keyword" "E271 multiple spaces after keyword") = outs) :
    Gives prog w A hB "whitespace_around_keywords" 8 x outs := by
  subst e
  intro h' k a cd L S m s tk hL hS hSL N hv hb hSz
  exact g8 hh hu rfl hx hL hS hSL N hv hb hSz env8 (Gk.keepsH k)
theorem gives10 (Gk : GOk hB "WHITESPACE_AFTER_COMMA_REGEX" P cmCode 0) (e : (hitsF (fun _ => cmTry) x.cps (x.cps.size + 1) 0).flatMap (outsC x) = outs) :
    Gives prog w A hB "whitespace_around_comma" 10 x outs := by
  subst e
  intro h' k a cd L S m s tk hL hS hSL N hv hb hSz
  exact g10 hh hu rfl hx hL hS hSL N hv hb hSz env10 (Gk.keepsH k)
theorem gives7 (h0 : 0 < x.cps.size → x.cps.getD 0 0 ≠ 64) (Gk : GOk hB "EXTRANEOUS_WHITESPACE_REGEX" P exCode 0) (Gd : GOk hB "WHITESPACE_AFTER_DECORATOR_REGEX" P2 dcCode 0) (e : (hitsF (fun _ => exTry) x.cps (x.cps.size + 1) 0).flatMap (outsX x) = outs) :
    Gives prog w A hB "extraneous_whitespace" 7 x outs := by
  subst e
  intro h' k a cd L S m s tk hL hS hSL N hv hb hSz
  exact g7 hh hu rfl hx hL hS hSL N hv hb hSz h0 env7 (Gk.keepsH k) (Gd.keepsH k)
end
end Mine

end

/-! ## LGround -/
section
open PySem PySem.W PyProof.Rows PySem.Calls PySem.Builtin.Re
namespace Mine
set_option maxRecDepth 100000
set_option linter.unusedVariables false

section
variable {q : Program} {loose : List Str} {mean : ExcName → Option Value} {mg mb : Str → Option Value} {h : Heap} {K : Frag}
theorem fnAt_of (T : Top q loose mean mg mb h) {name : Str} {i : Nat} (e : defCheck q name i) : FnAt h mg name i :=
  let ⟨a, o, pm, cd, doc, h1, h2, h3, h4⟩ := T.fn _ (List.mem_of_find?_eq_some e); ⟨a, o, pm, cd, doc, h1, h2, h3, h4⟩
theorem free_of (T : Top q loose mean mg mb h) {x : Str} (e : freeOk q loose x = true) : mg x = none := by
  simp only [freeOk, Bool.and_eq_true, Bool.not_eq_true', ← Bool.not_eq_true, List.contains_iff_mem] at e
  exact T.free x e.1.1.1.1 e.1.1.1.2 e.1.1.2 e.1.2 e.2
theorem gns_of (T : Top q loose mean mg mb h) (e : (["len", "abs", "range", "list"] : List Str).all (freeOk q loose) = true) : GNs h mg mb where
  g := T.g
  b := T.b
  bl := fun x hx => free_of T (List.all_eq_true.mp e x hx)
  b1 := (T.builtins _ (by decide)).trans PyProof.Rows.Boot.«len»
  b2 := (T.builtins _ (by decide)).trans PyProof.Rows.Boot.«abs»
  b3 := (T.builtins _ (by decide)).trans PyProof.Rows.Boot.«range»
  b4 := (T.builtins _ (by decide)).trans PyProof.Rows.Boot.«list»
theorem nameCheck_mg {rx : Str} {P : Addr} (I : K.In h) (N : h.Ns mainGlobals mg) (c : nameCheck K rx P = true) : mg rx = some (.ref P) := by
  obtain ⟨o, es, ep, h1, h2, h3, h4⟩ := N
  unfold nameCheck at c
  split at c
  · rename_i o' e
    have := I _ _ e
    rw [h1] at this
    cases this
    rw [h2] at c
    dsimp only at c
    rw [h4] at c
    split at c
    · rename_i a e2
      rw [e2, beq_iff_eq.mp c]
    · cases c
  · cases c
theorem rawIs.eq {v : Value} {n : Nat} (h : rawIs v n = true) : v = rawInt n := by
  unfold rawIs at h
  split at h
  · rw [Bool.and_eq_true, beq_iff_eq, beq_iff_eq] at h
    rw [h.1, h.2]; rfl
  · cases h
theorem patCheck_at {P t : Addr} {code : Array Nat} {groups : Nat} (I : K.In h) (c : patCheck K P t code groups = true) : PatAt h P code groups := by
  unfold patCheck at c
  split at c
  · rename_i c1 pat fl g names idx t' z c2 items e1 e2
    simp only [Bool.and_eq_true, beq_iff_eq] at c
    obtain ⟨⟨⟨⟨⟨rfl, rfl⟩, rfl⟩, hg⟩, hz⟩, hc⟩ := c
    rw [rawIs.eq hg, rawIs.eq hz] at e1
    exact ⟨⟨pat, fl, names, idx, _, items, I _ _ e1, I _ _ e2, natsEq_arr hc⟩⟩
  · cases c
theorem gok_of {rx : Str} {P t : Addr} {code : Array Nat} {groups : Nat} (I : K.In h) (G : GNs h mg mb) (c1 : nameCheck K rx P = true) (c2 : patCheck K P t code groups = true) : GOk h rx P code groups :=
  ⟨⟨mg, mb, G.g, G.b, G.bl _ (by simp), G.b1, nameCheck_mg I G.g c1⟩, patCheck_at I c2⟩
end
end Mine

end

/-! ## LEnd -/
section
open PySem PySem.W PyProof.Rows PySem.Calls
namespace Mine
set_option maxRecDepth 100000
set_option linter.unusedVariables false

section
variable {R R' : WRecords} {cl : Str → Option Addr} {h : Heap}
theorem ints_read : ∀ {vs : List Value} {xs : List WData} {as : List Addr}, ReadsAllW R cl h vs xs as → WShape.hasItems R' xs .int = true → (∀ v ∈ vs, ∃ i t, v = .int i t) ∧ vs.length = xs.length
  | _, _, _, .nil, _ => ⟨fun _ h => absurd h (by simp), rfl⟩
  | _, _, _, .cons (v := v) (d := d) (ds := ds) r1 r2, hx => by
    have hx' : WShape.has R' d .int = true ∧ WShape.hasItems R' ds .int = true := by simpa [WShape.hasItems] using hx
    obtain ⟨i1, i2⟩ := ints_read r2 hx'.2
    refine ⟨fun y hy => ?_, by rw [List.length_cons, List.length_cons, i2]⟩
    rcases List.mem_cons.mp hy with rfl | hy
    · obtain ⟨i, rfl⟩ := hasW_int hx'.1
      cases r1 with
      | int i t => exact ⟨_, t, rfl⟩
    · exact i1 y hy
theorem items_of {l : OpenLaw} {vals : List Value} {args : List WData} {as : List Addr} (hp : l.row.toRowW.claim.pre args = true) (hl : WData.layableAll args = true) (hr : ReadsAllW R cl h vals args as) :
    ∃ sc items, vals = [.ref sc] ∧ h.IsList sc items ∧ (∀ v ∈ items, ∃ i t, v = .int i t) ∧ items.size ≤ 1048576 := by
  obtain ⟨h1, h2⟩ := pre_splitW hp
  obtain ⟨d, r, rfl, hd, hr'⟩ := hasAllW_cons (es := []) (e := .list .int) h1
  obtain rfl := hasAllW_nil hr'
  obtain ⟨xs, rfl, hx⟩ := hasW_list hd
  have hly := (layW_cons hl).1
  cases hr with
  | cons r1 r2 =>
    cases r2
    cases r1 with
    | list h3 h4 h5 h6 =>
      rename_i a o vs n as
      obtain ⟨i1, i2⟩ := ints_read h6 hx
      refine ⟨_, vs, rfl, ⟨o, h3, h4, n, h5⟩, fun v hv => i1 v (by simpa using hv), ?_⟩
      have := length_le_of_layableW hly
      rw [← i2] at this
      simpa using this
theorem post_true {l : OpenLaw} {args : List WData} : l.row.toRowW.claim.post args (.bool true) args = true := by
  show (WShape.has [] (.bool true) .bool && WTm.holds [] (.eq .res (.lit (.bool true))) { args := args, res := some (.bool true), after := args }) = true
  simp [WShape.has, WShape.arms, WTm.holds, WTm.value]
  have e : same (.bool true) (.bool true) = true := by first | rfl | decide | simp [same] | decide +kernel
  rw [e]
theorem good_true {l : OpenLaw} {args : List WData} {s₁ s' : Shared} {cl : Str → Option Addr} {mean : ExcName → Option Value} (k : ∀ b o, s₁.heap.get? b = some o → s'.heap.get? b = some o) (g : AllBare s'.gens) (ho : s'.os = s₁.os) :
    GoodWG l.row.toRowW.claim cl mean args s₁ (.ok (.ret (.bool true))) s' :=
  ⟨.inl ⟨.bool true, .bool true, [], rfl, fun _ => rfl, .bool true, post_true, fun _ => ⟨.nil, fun _ h => absurd h (by simp)⟩⟩, .of_keep k, ho, g⟩
end
end Mine

end

/-! ## LPlain0 -/
section
open PySem PySem.W PyProof.Rows PySem.Calls
namespace Mine
/-- what the plain law says of a line -/
structure PlainOk (x : Str) (Q : Lists) : Prop where
  op : (hitsF (fun _ => opTry) x.cps (x.cps.size + 1) 0).flatMap (outsA x "E223 tab before operator" "E221 multiple spaces before operator" "E224 tab after operator" "E222 multiple spaces after operator") = Q.signs
  kw : (hitsF kwTry x.cps (x.cps.size + 1) 0).flatMap (outsA x "E274 tab before keyword" "E272 multiple spaces before keyword" "E273 tab after keyword" "E271 multiple spaces after keyword") = Q.words
  cm : (hitsF (fun _ => cmTry) x.cps (x.cps.size + 1) 0).flatMap (outsC x) = Q.commas
  ex : (hitsF (fun _ => exTry) x.cps (x.cps.size + 1) 0).flatMap (outsX x) = Q.edges
  h0 : 0 < x.cps.size → x.cps.getD 0 0 ≠ 64
  hx : x.cps.size ≤ 100000
  o1 : OutsOk Q.signs
  o2 : OutsOk Q.words
  o3 : OutsOk Q.commas
  o4 : OutsOk Q.edges
end Mine

end

/-! ## LPl1 -/
section
open PySem PySem.W PyProof.Rows PySem.Calls
namespace Mine
set_option maxRecDepth 100000
set_option linter.unusedVariables false

/-! hits, said of lists -/
abbrev Try := Option Nat → Nat → List Nat → Option Hit
def Hit.sh (p : Nat) (h : Hit) : Hit := ⟨h.s + p, h.e + p, h.g.map (· + p)⟩
def pv (prev : Option Nat) (n : Nat) (l : List Nat) : Option Nat := if n = 0 then prev else l[n - 1]?
structure GoodT (T : Try) : Prop where
  nil : ∀ prev p, T prev p [] = none
  rng : ∀ {prev p l h}, T prev p l = some h → h.s = p ∧ p < h.e ∧ h.e ≤ p + l.length
  shift : ∀ prev p s l, T prev (s + p) l = (T prev s l).map (Hit.sh p)
def hitsU (T : Try) : Nat → Option Nat → Nat → List Nat → List Hit
  | 0, _, _, _ => []
  | k + 1, prev, p, u => match findL T prev p u with
    | none => []
    | some h => h :: hitsU T k (pv prev (h.e - p) u) h.e (u.drop (h.e - p))
def hits (T : Try) (prev : Option Nat) (p : Nat) (l : List Nat) : List Hit := hitsU T (l.length + 1) prev p l

theorem findL_cons (T : Try) (prev : Option Nat) (p ch : Nat) (r : List Nat) : findL T prev p (ch :: r) = match T prev p (ch :: r) with | some h => some h | none => findL T (some ch) (p + 1) r := rfl
section
variable {T : Try} (G : GoodT T)
include G
theorem findL_rng : ∀ {l : List Nat} {prev : Option Nat} {p : Nat} {h : Hit}, findL T prev p l = some h → p ≤ h.s ∧ p < h.e ∧ h.e ≤ p + l.length
  | ch :: r, prev, p, h, e => by
    unfold findL at e
    split at e
    · rename_i h' e'
      cases e
      have := G.rng e'
      omega
    · have := findL_rng e
      rw [List.length_cons]; omega
theorem hitsU_fuel : ∀ {k k' : Nat} {prev : Option Nat} {p : Nat} {l : List Nat}, l.length < k → l.length < k' → hitsU T k prev p l = hitsU T k' prev p l
  | 0, _, _, _, _, h, _ => absurd h (Nat.not_lt_zero _)
  | _ + 1, 0, _, _, _, _, h => absurd h (Nat.not_lt_zero _)
  | k + 1, k' + 1, prev, p, l, h, h' => by
    unfold hitsU
    cases e : findL T prev p l with
    | none => rfl
    | some x =>
      have := findL_rng G e
      show x :: _ = x :: _
      rw [hitsU_fuel (k' := k') (by rw [List.length_drop]; omega) (by rw [List.length_drop]; omega)]
theorem hits_step {prev : Option Nat} {p : Nat} {l : List Nat} : hits T prev p l = match findL T prev p l with
    | none => []
    | some h => h :: hits T (pv prev (h.e - p) l) h.e (l.drop (h.e - p)) := by
  unfold hits
  rw [hitsU]
  cases e : findL T prev p l with
  | none => rfl
  | some x =>
    have := findL_rng G e
    show x :: _ = x :: _
    rw [hitsU_fuel G (k' := (l.drop (x.e - p)).length + 1) (by rw [List.length_drop]; omega) (by omega)]
/-- hits of a text from a place on -/
theorem hitsF_eq {t : Array Nat} : ∀ {k p : Nat}, p ≤ t.size → t.size - p < k → hitsF T t k p = hits T (prevAt t p) p (t.toList.drop p)
  | 0, _, _, h => absurd h (Nat.not_lt_zero _)
  | k + 1, p, hp, h => by
    rw [hits_step G, hitsF]
    cases e : findL T (prevAt t p) p (t.toList.drop p) with
    | none => rfl
    | some x =>
      have r := findL_rng G e
      rw [List.length_drop, Array.length_toList] at r
      show x :: _ = x :: _
      rw [hitsF_eq (by omega) (by omega), List.drop_drop, show p + (x.e - p) = x.e by omega]
      congr 2
      unfold prevAt pv
      rw [if_neg (by omega), if_neg (by omega), List.getElem?_drop, show p + (x.e - p - 1) = x.e - 1 by omega, Array.getElem?_toList, Array.getD_eq_getD_getElem?, Array.getElem?_eq_getElem (by omega)]
      rfl
/-- a piece that looks at nothing behind it -/
def Local (T : Try) (u v : List Nat) : Prop := ∀ a u' prev p, u = a ++ u' → u' ≠ [] → T prev p (u' ++ v) = T prev p u'
omit G in
theorem Local.tail {a u v : List Nat} (h : Local T (a ++ u) v) : Local T u v := fun b u' prev p e hne => h (a ++ b) u' prev p (by rw [e, List.append_assoc]) hne
omit G in
theorem findL_append {v : List Nat} : ∀ {u : List Nat} {prev : Option Nat} {p : Nat}, Local T u v → findL T prev p (u ++ v) = match findL T prev p u with
    | some h => some h
    | none => findL T (pv prev u.length u) (p + u.length) v
  | [], prev, p, _ => rfl
  | ch :: r, prev, p, hl => by
    show findL T prev p (ch :: (r ++ v)) = _
    rw [findL_cons, findL_cons, show ch :: (r ++ v) = (ch :: r) ++ v from rfl, hl [] (ch :: r) prev p rfl (by simp)]
    cases e : T prev p (ch :: r) with
    | some h => rfl
    | none =>
      show findL T (some ch) (p + 1) (r ++ v) = _
      rw [findL_append (Local.tail (a := [ch]) hl)]
      show (match findL T (some ch) (p + 1) r with | some h => some h | none => findL T (pv (some ch) r.length r) (p + 1 + r.length) v) = (match findL T (some ch) (p + 1) r with | some h => some h | none => findL T (pv prev (r.length + 1) (ch :: r)) (p + (r.length + 1)) v)
      have e2 : pv (some ch) r.length r = pv prev (r.length + 1) (ch :: r) := by
        unfold pv
        rw [if_neg (Nat.succ_ne_zero _)]
        cases r with
        | nil => rfl
        | cons y r' => rw [if_neg (by simp)]; simp
      rw [e2, show p + 1 + r.length = p + (r.length + 1) by omega]
theorem hits_append {v : List Nat} : ∀ {n : Nat} {u : List Nat} {prev : Option Nat} {p : Nat}, u.length ≤ n → Local T u v → hits T prev p (u ++ v) = hits T prev p u ++ hits T (pv prev u.length u) (p + u.length) v := by
  intro n
  induction n with
  | zero =>
    intro u prev p hn hl
    obtain rfl : u = [] := List.length_eq_zero_iff.mp (by omega)
    have e : hits T prev p [] = [] := by rw [hits_step G]; rfl
    rw [e]; rfl
  | succ n ih =>
    intro u prev p hn hl
    rw [hits_step G (l := u ++ v), hits_step G (l := u), findL_append hl]
    cases e : findL T prev p u with
    | none =>
      show (match findL T (pv prev u.length u) (p + u.length) v with | none => [] | some h => h :: hits T (pv prev (h.e - p) (u ++ v)) h.e ((u ++ v).drop (h.e - p))) = [] ++ _
      rw [List.nil_append, hits_step G (l := v)]
      cases e2 : findL T (pv prev u.length u) (p + u.length) v with
      | none => rfl
      | some x =>
        have r := findL_rng G e2
        show x :: _ = x :: _
        rw [List.drop_append, List.drop_eq_nil_of_le (by omega), List.nil_append, show x.e - p - u.length = x.e - (p + u.length) by omega]
        congr 2
        unfold pv
        rw [if_neg (by omega), if_neg (by omega), List.getElem?_append_right (by omega), show x.e - p - 1 - u.length = x.e - (p + u.length) - 1 by omega]
    | some x =>
      have r := findL_rng G e
      show x :: _ = (x :: _) ++ _
      rw [List.cons_append]
      congr 1
      have e1 : (u ++ v).drop (x.e - p) = u.drop (x.e - p) ++ v := by rw [List.drop_append, show x.e - p - u.length = 0 by omega, List.drop_zero]
      have e2 : pv prev (x.e - p) (u ++ v) = pv prev (x.e - p) u := by
        unfold pv
        rw [if_neg (by omega), if_neg (by omega), List.getElem?_append_left (by omega)]
      rw [e1, e2, ih (by rw [List.length_drop]; omega) (Local.tail (a := u.take (x.e - p)) (by rw [List.take_append_drop]; exact hl))]
      congr 2
      · unfold pv
        rw [List.length_drop]
        by_cases hz : u.length - (x.e - p) = 0
        · rw [if_pos hz, if_neg (by omega), if_neg (by omega)]
          congr 1; omega
        · rw [if_neg hz, if_neg (by omega), List.getElem?_drop]
          congr 1; omega
      · rw [List.length_drop]; omega
theorem findL_shift : ∀ {l : List Nat} {prev : Option Nat} {s p : Nat}, findL T prev (s + p) l = (findL T prev s l).map (Hit.sh p)
  | [], _, _, _ => rfl
  | ch :: r, prev, s, p => by
    unfold findL
    rw [G.shift]
    cases T prev s (ch :: r) with
    | some h => rfl
    | none =>
      show findL T (some ch) (s + p + 1) r = (findL T (some ch) (s + 1) r).map _
      rw [show s + p + 1 = (s + 1) + p by omega]
      exact findL_shift
theorem hits_shift {p : Nat} : ∀ {n : Nat} {l : List Nat} {prev : Option Nat} {s : Nat}, l.length ≤ n → hits T prev (s + p) l = (hits T prev s l).map (Hit.sh p) := by
  intro n
  induction n with
  | zero =>
    intro l prev s hn
    obtain rfl : l = [] := List.length_eq_zero_iff.mp (by omega)
    rw [hits_step G, hits_step G]; rfl
  | succ n ih =>
    intro l prev s hn
    rw [hits_step G, hits_step G (p := s), findL_shift G]
    cases e : findL T prev s l with
    | none => rfl
    | some x =>
      have r := findL_rng G e
      show Hit.sh p x :: _ = Hit.sh p x :: _
      have e1 : (Hit.sh p x).e - (s + p) = x.e - s := by show x.e + p - (s + p) = _; omega
      rw [e1, show (Hit.sh p x).e = x.e + p from rfl, ih (by rw [List.length_drop]; omega)]
end
end Mine

end

/-! ## LPl2 -/
section
open PySem PySem.W PyProof.Rows PySem.Calls
namespace Mine
set_option maxRecDepth 100000
set_option linter.unusedVariables false

theorem opLen_le {l : List Nat} {k : Nat} (h : opLen l = some k) : k ≤ l.length := by
  unfold opLen at h
  split at h
  · split at h
    · cases h; simp
    · cases h
  · cases h; exact runL_le _ _
theorem good_op : GoodT (fun _ => opTry) where
  nil := fun _ _ => rfl
  rng := by
    intro prev p l h e
    cases l with
    | nil => cases e
    | cons ch r =>
      simp only [opTry] at e
      split at e
      · cases e
      · split at e
        · cases e
        · rename_i k hk
          cases e
          have h1 := runL_le isSp r
          have h2 := opLen_le hk
          have h3 := runL_le isSp ((r.drop (runL isSp r)).drop k)
          rw [List.length_drop] at h2
          rw [List.length_drop, List.length_drop] at h3
          refine ⟨rfl, ?_, ?_⟩
          · dsimp only; omega
          · rw [List.length_cons]; dsimp only; omega
  shift := by
    intro prev p s l
    cases l with
    | nil => rfl
    | cons ch r =>
      simp only [opTry]
      split
      · rfl
      · split
        · rfl
        · simp only [Option.map, Hit.sh, List.map_cons, List.map_nil]
          congr 2
          · omega
          · simp only [List.cons.injEq, and_true]
            refine ⟨?_, ?_, ?_, ?_⟩ <;> omega
theorem kwFirst_le {ws : List (List Nat)} {l : List Nat} {k : Nat} (h : kwFirst ws l = some k) : k ≤ l.length := by
  induction ws with
  | nil => cases h
  | cons w ws ih =>
    simp only [kwFirst] at h
    split at h
    · rename_i hc
      cases h
      rw [Bool.and_eq_true] at hc
      exact (List.isPrefixOf_iff_prefix.mp hc.1).length_le
    · exact ih h
theorem kwFirst_pos {ws : List (List Nat)} (hw : ws.all (fun w => !w.isEmpty) = true) {l : List Nat} {k : Nat} (h : kwFirst ws l = some k) : 0 < k := by
  induction ws with
  | nil => cases h
  | cons w ws ih =>
    rw [List.all_cons, Bool.and_eq_true] at hw
    simp only [kwFirst] at h
    split at h
    · cases h
      cases w with
      | nil => cases hw.1
      | cons => simp
    · exact ih hw.2 h
theorem kwWords_ne : kwWords.all (fun w => !w.isEmpty) = true := by decide +kernel
theorem good_kw : GoodT kwTry where
  nil := by
    intro prev p
    simp only [kwTry, runL_nil, List.drop_nil, kwFirst_nil kwWords kwWords_ne]
    generalize edgeL _ _ = b
    cases b <;> rfl
  rng := by
    intro prev p l h e
    simp only [kwTry] at e
    generalize edgeL _ _ = b at e
    split at e
    · split at e
      · rename_i k hk
        cases e
        have h1 := runL_le isSp l
        have h2 := kwFirst_le hk
        have h4 := kwFirst_pos kwWords_ne hk
        have h3 := runL_le isSp ((l.drop (runL isSp l)).drop k)
        rw [List.length_drop] at h2
        rw [List.length_drop, List.length_drop] at h3
        refine ⟨rfl, ?_, ?_⟩
        · dsimp only; omega
        · dsimp only; omega
      · cases e
    · cases e
  shift := by
    intro prev p s l
    simp only [kwTry]
    generalize edgeL _ _ = b
    split
    · split
      · simp only [Option.map, Hit.sh, List.map_cons, List.map_nil]
        congr 2
        · omega
        · simp only [List.cons.injEq, and_true]
          refine ⟨trivial, ?_, ?_, ?_⟩ <;> omega
      · rfl
    · rfl
theorem cmEnd_le {l : List Nat} {k : Nat} (h : cmEnd l = some k) : k ≤ l.length := by
  unfold cmEnd at h
  split at h
  · cases h; simp
  · cases h; simp
  · cases h
theorem cmDown_le {r : List Nat} : ∀ {n j : Nat}, n ≤ r.length → cmDown r n = some j → j ≤ r.length
  | 0, j, _, h => cmEnd_le h
  | n + 1, j, hn, h => by
    simp only [cmDown] at h
    split at h
    · rename_i k hk
      cases h
      have := cmEnd_le hk
      rw [List.length_drop] at this
      omega
    · exact cmDown_le (by omega) h
theorem good_cm : GoodT (fun _ => cmTry) where
  nil := fun _ _ => rfl
  rng := by
    intro prev p l h e
    cases l with
    | nil => cases e
    | cons ch r =>
      simp only [cmTry] at e
      split at e
      · rw [Option.map_eq_some_iff] at e
        obtain ⟨j, hj, rfl⟩ := e
        have := cmDown_le (runL_le _ _) hj
        refine ⟨rfl, ?_, ?_⟩
        · show p < p + 1 + j; omega
        · show p + 1 + j ≤ p + (ch :: r).length; rw [List.length_cons]; omega
      · cases e
  shift := by
    intro prev p s l
    cases l with
    | nil => rfl
    | cons ch r =>
      simp only [cmTry]
      split
      · rw [Option.map_map]
        cases cmDown r (runL isSp r) with
        | none => rfl
        | some j =>
          show some (⟨s + p, s + p + 1 + j, []⟩ : Hit) = some ⟨s + p, s + 1 + j + p, []⟩
          rw [show s + p + 1 + j = s + 1 + j + p by omega]
      · rfl
theorem good_ex : GoodT (fun _ => exTry) where
  nil := fun _ _ => rfl
  rng := by
    intro prev p l h e
    match l, e with
    | ch :: x :: r, e =>
      simp only [exTry] at e
      split at e
      · cases e; exact ⟨rfl, by show p < p + 2; omega, by show p + 2 ≤ p + (r.length + 1 + 1); omega⟩
      · split at e
        · cases e; exact ⟨rfl, by show p < p + 2; omega, by show p + 2 ≤ p + (r.length + 1 + 1); omega⟩
        · cases e
  shift := by
    intro prev p s l
    match l with
    | [] => rfl
    | [_] => rfl
    | ch :: x :: r =>
      simp only [exTry]
      split
      · simp only [Option.map, Hit.sh, List.map_nil]; congr 2; omega
      · split
        · simp only [Option.map, Hit.sh, List.map_nil]; congr 2; omega
        · rfl
end Mine

end

/-! ## LPl3 -/
section
open PySem PySem.W PyProof.Rows PySem.Calls
namespace Mine
set_option maxRecDepth 100000
set_option linter.unusedVariables false

/-- what stands behind a piece: nothing, or a char that is none of f -/
def Stop (f : Nat → Bool) (v : List Nat) : Prop := ∀ c r, v = c :: r → f c = false
theorem runL_append {f : Nat → Bool} {u v : List Nat} (h : Stop f v) : runL f (u ++ v) = runL f u := by
  induction u with
  | nil =>
    cases v with
    | nil => rfl
    | cons c r => exact runL_no (h c r rfl)
  | cons x u ih =>
    cases hx : f x with
    | false => rw [List.cons_append, runL_no hx, runL_no hx]
    | true => rw [List.cons_append, runL_yes hx, runL_yes hx, ih]
theorem drop_run {f : Nat → Bool} {u v : List Nat} {k : Nat} (h : k ≤ u.length) : (u ++ v).drop k = u.drop k ++ v := by
  rw [List.drop_append, show k - u.length = 0 by omega, List.drop_zero]
theorem opLen_eq (l : List Nat) : opLen l = if runL isOp l = 0 then (if (l.head? == some 58 && l.tail.head? == some 61) = true then some 2 else none) else some (runL isOp l) := by
  unfold opLen
  split
  · split
    · rfl
    · rename_i h
      rw [if_neg]
      intro hc
      rw [Bool.and_eq_true, beq_iff_eq, beq_iff_eq] at hc
      match l, hc, h with
      | x :: y :: r, hc, h =>
        obtain ⟨e1, e2⟩ := hc
        cases e1; cases e2
        exact h r rfl
  · rfl
theorem opLen_append {u v : List Nat} (h1 : Stop isOp v) (h2 : ∀ c r, v = c :: r → c ≠ 58 ∧ c ≠ 61) : opLen (u ++ v) = opLen u := by
  rw [opLen_eq, opLen_eq, runL_append h1]
  have e : ((u ++ v).head? == some 58 && (u ++ v).tail.head? == some 61) = (u.head? == some 58 && u.tail.head? == some 61) := by
    match u with
    | [] =>
      match v, h2 with
      | [], _ => rfl
      | c :: r, h2 =>
        have := (h2 c r rfl).1
        simp [this]
    | [x] =>
      match v, h2 with
      | [], _ => rfl
      | c :: r, h2 =>
        have := (h2 c r rfl).2
        simp [this]
    | x :: y :: u => rfl
  rw [e]
theorem op_local {u v : List Nat} (h0 : Stop isSp v) (h1 : Stop isOp v) (h2 : ∀ c r, v = c :: r → c ≠ 58 ∧ c ≠ 61) : Local (fun _ => opTry) u v := by
  intro a u' prev p _ hne
  match u', hne with
  | ch :: r, _ =>
    show opTry p (ch :: (r ++ v)) = opTry p (ch :: r)
    simp only [opTry]
    rw [runL_append h0, drop_run (f := isSp) (runL_le _ _), opLen_append h1 h2]
    split
    · rfl
    · split
      · rfl
      · rename_i k hk
        rw [drop_run (f := isSp) (opLen_le hk), runL_append h0]
theorem cmEnd_append {u v : List Nat} (h0 : Stop isSp v) : cmEnd (u ++ v) = cmEnd u := by
  have hv : ∀ c r, v = c :: r → c ≠ 32 ∧ c ≠ 9 := fun c r e => by
    have := h0 c r e
    refine ⟨fun e => ?_, fun e => ?_⟩ <;> subst e <;> exact absurd this (by decide +kernel)
  match u with
  | [] =>
    match v, hv with
    | [], _ => rfl
    | c :: r, hv =>
      have := hv c r rfl
      show cmEnd (c :: r) = none
      unfold cmEnd
      split
      · rename_i e; cases e; exact absurd rfl this.1
      · rename_i e; cases e; exact absurd rfl this.2
      · rfl
  | [x] =>
    match v, hv with
    | [], _ => rfl
    | c :: r, hv =>
      have := hv c r rfl
      by_cases hx : x = 9
      · subst hx; rfl
      · show cmEnd (x :: c :: r) = cmEnd [x]
        unfold cmEnd
        split
        · rename_i e; cases e; exact absurd rfl this.1
        · rename_i e; cases e; exact absurd rfl hx
        · split
          · rename_i e; cases e
          · rename_i e; cases e; exact absurd rfl hx
          · rfl
  | x :: y :: u =>
    show cmEnd (x :: y :: (u ++ v)) = cmEnd (x :: y :: u)
    unfold cmEnd
    split
    · rename_i e; cases e; rfl
    · rename_i e; cases e; rfl
    · rename_i e1 e2
      split
      · rename_i e; cases e; exact (e1 _ rfl).elim
      · rename_i e; cases e; exact (e2 _ rfl).elim
      · rfl
theorem cmDown_append {u v : List Nat} (h0 : Stop isSp v) : ∀ {n : Nat}, n ≤ u.length → cmDown (u ++ v) n = cmDown u n
  | 0, _ => cmEnd_append h0
  | n + 1, hn => by
    simp only [cmDown]
    rw [drop_run (f := isSp) hn, cmEnd_append h0, cmDown_append h0 (by omega)]
theorem cm_local {u v : List Nat} (h0 : Stop isSp v) : Local (fun _ => cmTry) u v := by
  intro a u' prev p _ hne
  match u', hne with
  | ch :: r, _ =>
    show cmTry p (ch :: (r ++ v)) = cmTry p (ch :: r)
    simp only [cmTry]
    rw [runL_append h0, cmDown_append h0 (runL_le _ _)]
theorem ex_local {u v : List Nat} (h1 : ∀ c r, v = c :: r → c ≠ 61) (h2 : ∀ a z c r, u = a ++ [z] → v = c :: r → (isOpen z && isBl c) = false ∧ (isBl z && isClose c) = false) : Local (fun _ => exTry) u v := by
  intro a u' prev p hu hne
  match u', hne, hu with
  | [z], _, hu =>
    match v, h1, h2 with
    | [], _, _ => rfl
    | c :: r, h1, h2 =>
      obtain ⟨e1, e2⟩ := h2 a z c r hu rfl
      show exTry p (z :: c :: r) = exTry p [z]
      simp only [exTry, e1, e2, Bool.false_and, Bool.false_eq_true, if_false]
  | ch :: x :: r, _, _ =>
    show exTry p (ch :: x :: (r ++ v)) = exTry p (ch :: x :: r)
    simp only [exTry]
    have e : (r ++ v).head? = some 61 ↔ r.head? = some 61 := by
      cases r with
      | nil =>
        cases v with
        | nil => exact Iff.rfl
        | cons c r => simp [h1 c r rfl]
      | cons y r => simp
    have e' : ((r ++ v).head? == some 61) = (r.head? == some 61) := by rw [Bool.eq_iff_iff, beq_iff_eq, beq_iff_eq]; exact e
    rw [e']
/-! keywords -/
theorem prefix_append {w u v : List Nat} {z : Nat} (hz : w.contains z = false) (hu : ∃ a, u = a ++ [z]) : w.isPrefixOf (u ++ v) = w.isPrefixOf u := by
  obtain ⟨a, rfl⟩ := hu
  rw [Bool.eq_iff_iff, List.isPrefixOf_iff_prefix, List.isPrefixOf_iff_prefix]
  constructor
  · intro h
    have hl : w.length ≤ a.length := by
      rcases Nat.lt_or_ge a.length w.length with hlt | hge
      · exfalso
        obtain ⟨q, hq⟩ := h
        have e : (w ++ q)[a.length]? = some z := by rw [hq, List.append_assoc, List.getElem?_append_right (Nat.le_refl _), Nat.sub_self]; rfl
        rw [List.getElem?_append_left hlt] at e
        have hm : z ∈ w := List.mem_of_getElem? e
        rw [← List.contains_iff_mem, hz] at hm
        cases hm
      · exact hge
    exact List.prefix_of_prefix_length_le h (List.prefix_append _ _) (by rw [List.length_append]; omega)
  · intro h
    exact h.trans (List.prefix_append _ _)
end Mine

end

/-! ## LPl4 -/
section
open PySem PySem.W PyProof.Rows PySem.Calls
namespace Mine
set_option maxRecDepth 100000
set_option linter.unusedVariables false

/-! what is told of hits, piece by piece -/
theorem flatMap_ext {α β : Type} {l : List α} {f g : α → List β} (h : ∀ x ∈ l, f x = g x) : l.flatMap f = l.flatMap g := by
  induction l with
  | nil => rfl
  | cons x l ih => rw [List.flatMap_cons, List.flatMap_cons, h x (by simp), ih fun y hy => h y (by simp [hy])]
theorem findL_at {T : Try} : ∀ {l : List Nat} {prev : Option Nat} {p : Nat} {h : Hit}, findL T prev p l = some h → ∃ a l' prev', l = a ++ l' ∧ T prev' (p + a.length) l' = some h
  | ch :: r, prev, p, h, e => by
    rw [findL_cons] at e
    cases e' : T prev p (ch :: r) with
    | some h' =>
      rw [e'] at e
      cases e
      exact ⟨[], ch :: r, prev, rfl, e'⟩
    | none =>
      rw [e'] at e
      obtain ⟨a, l', prev', h1, h2⟩ := findL_at (l := r) e
      refine ⟨ch :: a, l', prev', by rw [h1]; rfl, ?_⟩
      rw [List.length_cons, show p + (a.length + 1) = p + 1 + a.length by omega]
      exact h2
theorem hitsU_at {T : Try} (G : GoodT T) : ∀ {k : Nat} {l : List Nat} {prev : Option Nat} {p : Nat} {h : Hit}, h ∈ hitsU T k prev p l → ∃ a l' prev', l = a ++ l' ∧ T prev' (p + a.length) l' = some h
  | 0, _, _, _, _, hm => by cases hm
  | k + 1, l, prev, p, h, hm => by
    unfold hitsU at hm
    cases e : findL T prev p l with
    | none => rw [e] at hm; cases hm
    | some x =>
      rw [e] at hm
      rcases List.mem_cons.mp hm with rfl | hm
      · exact findL_at e
      · obtain ⟨a, l', prev', h1, h2⟩ := hitsU_at G hm
        have r := findL_rng G e
        refine ⟨l.take (x.e - p) ++ a, l', prev', by rw [List.append_assoc, ← h1, List.take_append_drop], ?_⟩
        rw [List.length_append, List.length_take, Nat.min_eq_left (by omega), show p + (x.e - p + a.length) = x.e + a.length by omega]
        exact h2
/-- a hit within the first n places -/
structure Hit.In (h : Hit) (n : Nat) : Prop where
  lt : h.s < h.e
  le : h.e ≤ n
  g : ∀ x ∈ h.g, x ≤ n
theorem ok_g {groups : Nat} {T : Try} (K : TryOk groups T) {prev : Option Nat} {p : Nat} {l : List Nat} {h : Hit} (e : T prev p l = some h) : ∀ x ∈ h.g, x ≤ p + l.length := by
  intro x hx
  obtain ⟨i, hi, rfl⟩ := List.mem_iff_getElem.mp hx
  have hlen := K.len _ _ _ _ e
  have u := K.up _ _ _ _ e (i / 2) (by omega)
  have hd : ∀ j (hj : j < h.g.length), h.g.getD j 0 = h.g[j] := fun j hj => by rw [List.getD_eq_getElem?_getD, List.getElem?_eq_getElem hj]; rfl
  rcases Nat.mod_two_eq_zero_or_one i with h0 | h1
  · have e2 : 2 * (i / 2) = i := by omega
    rw [e2, hd i hi] at u
    omega
  · have e2 : 2 * (i / 2) + 1 = i := by omega
    rw [e2, hd i hi] at u
    omega
theorem hits_in {groups : Nat} {T : Try} (G : GoodT T) (K : TryOk groups T) {prev : Option Nat} {l : List Nat} {h : Hit} (hm : h ∈ hits T prev 0 l) : h.In l.length := by
  obtain ⟨a, l', prev', rfl, e⟩ := hitsU_at G hm
  have r := G.rng e
  have g := ok_g K e
  rw [List.length_append]
  exact ⟨by omega, by omega, fun x hx => by have := g x hx; omega⟩

abbrev Tell := Option Nat → List Nat → Hit → List Out
def shO (p : Nat) (o : Out) : Out := (o.1 + (p : Int), o.2)
structure GoodO (O : Tell) : Prop where
  left : ∀ {prev a b h}, Hit.In h a.length → O prev (a ++ b) h = O prev a h
  right : ∀ {prev a b h}, Hit.In h b.length → O prev (a ++ b) (h.sh a.length) = (O (pv prev a.length a) b h).map (shO a.length)
def R (T : Try) (O : Tell) (prev : Option Nat) (l : List Nat) : List Out := (hits T prev 0 l).flatMap (O prev l)
theorem R_append {groups : Nat} {T : Try} {O : Tell} (G : GoodT T) (K : TryOk groups T) (OG : GoodO O) {prev : Option Nat} {a b : List Nat} (hl : Local T a b) :
    R T O prev (a ++ b) = R T O prev a ++ (R T O (pv prev a.length a) b).map (shO a.length) := by
  unfold R
  rw [hits_append G (Nat.le_refl _) hl, List.flatMap_append]
  congr 1
  · exact flatMap_ext fun h hm => OG.left (hits_in G K hm)
  · rw [hits_shift G (Nat.le_refl _), List.flatMap_map, List.map_flatMap]
    exact flatMap_ext fun h hm => OG.right (hits_in G K hm)

def subL (l : List Nat) (a b : Nat) : Str := ⟨((l.drop a).take (b - a)).toArray⟩
theorem sub_eq (x : Str) (a b : Nat) : sub x a b = subL x.cps.toList a b := by
  unfold sub subL
  congr 1
  apply Array.toList_inj.mp
  simp
theorem subL_left {l r : List Nat} {a b : Nat} (ha : a ≤ l.length) (hb : b ≤ l.length) : subL (l ++ r) a b = subL l a b := by
  unfold subL
  rw [List.drop_append_of_le_length ha, List.take_append_of_le_length (by rw [List.length_drop]; omega)]
theorem subL_right {l r : List Nat} {a b : Nat} : subL (l ++ r) (a + l.length) (b + l.length) = subL r a b := by
  unfold subL
  rw [List.drop_append, List.drop_eq_nil_of_le (by omega), List.nil_append, show a + l.length - l.length = a by omega, show b + l.length - (a + l.length) = b - a by omega]
theorem blockOuts_sh (y : Str) (a n : Nat) (c1 c2 : Str) : blockOuts y (a + n) c1 c2 = (blockOuts y a c1 c2).map (shO n) := by
  unfold blockOuts
  split
  · simp [shO]
  · split
    · simp [shO]
    · rfl
def OA (c1 c2 c3 c4 : Str) : Tell := fun _ l h => match h.g with
  | [a, b, c, d] => blockOuts (subL l a b) a c1 c2 ++ blockOuts (subL l c d) c c3 c4
  | _ => []
theorem outsA_eq (x c1 c2 c3 c4 : Str) (prev : Option Nat) : outsA x c1 c2 c3 c4 = OA c1 c2 c3 c4 prev x.cps.toList := by
  funext h
  obtain ⟨s, e, g⟩ := h
  unfold outsA OA
  match g with
  | [] => rfl
  | [_] => rfl
  | [_, _] => rfl
  | [_, _, _] => rfl
  | [i, j, k, l] =>
    show blockOuts (sub x i j) i c1 c2 ++ blockOuts (sub x k l) k c3 c4 = blockOuts (subL x.cps.toList i j) i c1 c2 ++ blockOuts (subL x.cps.toList k l) k c3 c4
    rw [sub_eq, sub_eq]
  | _ :: _ :: _ :: _ :: _ :: _ => rfl
theorem good_A (c1 c2 c3 c4 : Str) : GoodO (OA c1 c2 c3 c4) where
  left := by
    intro prev a b h H
    obtain ⟨s, e, g⟩ := h
    unfold OA
    match g, H.g with
    | [], _ => rfl
    | [_], _ => rfl
    | [_, _], _ => rfl
    | [_, _, _], _ => rfl
    | [i, j, k, l], hg =>
      dsimp only
      rw [subL_left (hg i (by simp)) (hg j (by simp)), subL_left (hg k (by simp)) (hg l (by simp))]
    | _ :: _ :: _ :: _ :: _ :: _, _ => rfl
  right := by
    intro prev a b h H
    obtain ⟨s, e, g⟩ := h
    unfold OA Hit.sh
    match g with
    | [] => rfl
    | [_] => rfl
    | [_, _] => rfl
    | [_, _, _] => rfl
    | [i, j, k, l] =>
      show blockOuts (subL (a ++ b) (i + a.length) (j + a.length)) (i + a.length) c1 c2 ++ blockOuts (subL (a ++ b) (k + a.length) (l + a.length)) (k + a.length) c3 c4 = _
      rw [subL_right, subL_right, blockOuts_sh, blockOuts_sh]
      dsimp only
      rw [List.map_append]
    | _ :: _ :: _ :: _ :: _ :: _ => rfl
def OC : Tell := fun _ l h =>
  [((h.s : Int) + 1, if Txt.contains (subL l h.s h.e) tabS then ("E242 tab after '" : Str) ++ Txt.item (subL l h.s h.e) 0 ++ ("'" : Str) else ("E241 multiple spaces after '" : Str) ++ Txt.item (subL l h.s h.e) 0 ++ ("'" : Str))]
theorem outsC_eq (x : Str) (prev : Option Nat) : outsC x = OC prev x.cps.toList := by
  funext h
  unfold outsC OC
  rw [sub_eq]
theorem good_C : GoodO OC where
  left := by
    intro prev a b h H
    unfold OC
    rw [subL_left (by have := H.lt; have := H.le; omega) H.le]
  right := by
    intro prev a b h H
    unfold OC
    rw [show (h.sh a.length).s = h.s + a.length from rfl, show (h.sh a.length).e = h.e + a.length from rfl, subL_right, List.map_cons, List.map_nil]
    congr 1
    unfold shO
    dsimp only
    congr 1
    omega
def OX : Tell := fun prev l h =>
  if Txt.isspace (Txt.item (subL l h.s h.e) (-1)) then [((h.s : Int) + 1, ("E201 whitespace after '" : Str) ++ Txt.strip (subL l h.s h.e) ++ ("'" : Str))]
  else if pv prev h.s l != some 44 then
    [((h.s : Int), Str.empty ++ (if Txt.contains closeS (Txt.strip (subL l h.s h.e)) then ("E202" : Str) else ("E203" : Str)) ++ (" whitespace before '" : Str) ++ Txt.strip (subL l h.s h.e) ++ ("'" : Str))]
  else []
theorem good_X : GoodO OX where
  left := by
    intro prev a b h H
    have h1 := H.lt
    have h2 := H.le
    unfold OX
    rw [subL_left (by omega) H.le]
    have e : pv prev h.s (a ++ b) = pv prev h.s a := by
      unfold pv
      split
      · rfl
      · rw [List.getElem?_append_left (by omega)]
    rw [e]
  right := by
    intro prev a b h H
    have h1 := H.lt
    have h2 := H.le
    unfold OX
    rw [show (h.sh a.length).s = h.s + a.length from rfl, show (h.sh a.length).e = h.e + a.length from rfl, subL_right]
    have e : pv prev (h.s + a.length) (a ++ b) = pv (pv prev a.length a) h.s b := by
      unfold pv
      by_cases hz : h.s = 0
      · rw [if_pos hz, hz, Nat.zero_add]
        split
        · rfl
        · rw [List.getElem?_append_left (by omega)]
      · rw [if_neg hz, if_neg (by omega), List.getElem?_append_right (by omega)]
        congr 1
        omega
    rw [e]
    split
    · rw [List.map_cons, List.map_nil]
      congr 1
      unfold shO
      dsimp only
      congr 1
      omega
    · split
      · rw [List.map_cons, List.map_nil]
        congr 1
      · rfl
/-- the whole text's outs -/
theorem outs_eq {groups : Nat} {T : Try} (G : GoodT T) (K : TryOk groups T) (x : Str) {f : Hit → List Out} {O : Tell} (h : ∀ h, h ∈ hits T none 0 x.cps.toList → f h = O none x.cps.toList h) :
    (hitsF T x.cps (x.cps.size + 1) 0).flatMap f = R T O none x.cps.toList := by
  rw [hitsF_eq G (Nat.zero_le _) (by omega)]
  exact flatMap_ext h
end Mine

end

/-! ## LPl5 -/
section
open PySem PySem.W PyProof.Rows PySem.Calls
namespace Mine
set_option maxRecDepth 100000
set_option linter.unusedVariables false

/-! keywords look at nothing behind a piece -/
def noKw (z : Nat) : Bool := kwWords.all fun q => !q.contains z
theorem noKw_mem {z : Nat} (h : noKw z = true) : ∀ q ∈ kwWords, q.contains z = false := fun q hq => by
  have := List.all_eq_true.mp h q hq
  rwa [Bool.not_eq_true'] at this
theorem edgeL_append {p : Option Nat} {w v : List Nat} (h : w ≠ []) : edgeL p (w ++ v) = edgeL p w := by
  match w, h with
  | _ :: _, _ => rfl
theorem kwFirst_append {w v : List Nat} : ∀ {ws : List (List Nat)}, (∀ q ∈ ws, q.isPrefixOf (w ++ v) = q.isPrefixOf w ∧ (q.isPrefixOf w = true → edgeL q.getLast? ((w ++ v).drop q.length) = edgeL q.getLast? (w.drop q.length))) → kwFirst ws (w ++ v) = kwFirst ws w
  | [], _ => rfl
  | q :: ws, h => by
    obtain ⟨h1, h2⟩ := h q (by simp)
    simp only [kwFirst, h1]
    rw [kwFirst_append fun q hq => h q (by simp [hq])]
    cases hp : q.isPrefixOf w with
    | false => rfl
    | true => rw [h2 hp]
theorem kw_a {w v : List Nat} {z : Nat} (hw : ∃ a, w = a ++ [z]) (hz : noKw z = true) : kwFirst kwWords (w ++ v) = kwFirst kwWords w := by
  refine kwFirst_append fun q hq => ?_
  have hc := noKw_mem hz q hq
  refine ⟨prefix_append hc hw, fun hp => ?_⟩
  obtain ⟨a, rfl⟩ := hw
  have hp' := List.isPrefixOf_iff_prefix.mp hp
  have hl : q.length < (a ++ [z]).length := by
    rcases Nat.lt_or_ge q.length (a ++ [z]).length with h | h
    · exact h
    · exfalso
      have e := hp'.eq_of_length (Nat.le_antisymm hp'.length_le h)
      rw [e] at hc
      simp at hc
  rw [drop_run (f := isSp) (Nat.le_of_lt hl)]
  exact edgeL_append fun e => by
    have := congrArg List.length e
    rw [List.length_drop, List.length_nil] at this
    omega
theorem kw_b {w v : List Nat} (hv : ∀ c r, v = c :: r → noKw c = true ∧ PySem.Sre.isWordUni c = false) : kwFirst kwWords (w ++ v) = kwFirst kwWords w := by
  match v, hv with
  | [], _ => rw [List.append_nil]
  | c :: r, hv =>
    obtain ⟨h1, h2⟩ := hv c r rfl
    refine kwFirst_append fun q hq => ?_
    have hc := noKw_mem h1 q hq
    have hpre : q.isPrefixOf (w ++ c :: r) = q.isPrefixOf w := by
      rw [Bool.eq_iff_iff, List.isPrefixOf_iff_prefix, List.isPrefixOf_iff_prefix]
      constructor
      · intro h
        have hl : q.length ≤ w.length := by
          rcases Nat.lt_or_ge w.length q.length with hlt | hge
          · exfalso
            obtain ⟨y, hy⟩ := h
            have e : (q ++ y)[w.length]? = some c := by rw [hy, List.getElem?_append_right (Nat.le_refl _), Nat.sub_self]; rfl
            rw [List.getElem?_append_left hlt] at e
            have hm : c ∈ q := List.mem_of_getElem? e
            rw [← List.contains_iff_mem, hc] at hm
            cases hm
          · exact hge
        exact List.prefix_of_prefix_length_le h (List.prefix_append _ _) hl
      · intro h
        exact h.trans (List.prefix_append _ _)
    refine ⟨hpre, fun hp => ?_⟩
    have hl := (List.isPrefixOf_iff_prefix.mp hp).length_le
    rw [drop_run (f := isSp) hl]
    cases hd : w.drop q.length with
    | nil =>
      unfold edgeL
      rw [List.nil_append]
      dsimp only
      rw [h2]
    | cons y t => rfl
theorem kw_local {u v : List Nat} (h0 : Stop isSp v) (hv : kwFirst kwWords v = none) (hz : u = [] ∨ (∃ z, u.getLast? = some z ∧ noKw z = true) ∨ (∀ c r, v = c :: r → noKw c = true ∧ PySem.Sre.isWordUni c = false)) : Local kwTry u v := by
  intro a u' prev p hu hne
  have hk := runL_le isSp u'
  simp only [kwTry]
  rw [runL_append h0, drop_run (f := isSp) hk]
  have e1 : (if runL isSp u' = 0 then prev else (u' ++ v)[runL isSp u' - 1]?) = (if runL isSp u' = 0 then prev else u'[runL isSp u' - 1]?) := by
    split
    · rfl
    · rw [List.getElem?_append_left (by omega)]
  rw [e1]
  have hsp : u = (a ++ u'.take (runL isSp u')) ++ u'.drop (runL isSp u') := by rw [List.append_assoc, List.take_append_drop]; exact hu
  generalize (if runL isSp u' = 0 then prev else u'[runL isSp u' - 1]?) = q
  generalize hw : u'.drop (runL isSp u') = w at *
  by_cases hwn : w = []
  · subst hwn
    rw [List.nil_append, hv, kwFirst_nil kwWords kwWords_ne]
    dsimp only
    simp
  · rw [edgeL_append hwn]
    have e2 : kwFirst kwWords (w ++ v) = kwFirst kwWords w := by
      rcases hz with rfl | ⟨z, h1, h2⟩ | h
      · have := congrArg List.length hsp
        rw [List.length_append, List.length_nil] at this
        exact absurd (List.length_eq_zero_iff.mp (by omega)) hwn
      · rw [hsp, List.getLast?_append] at h1
        cases hl : w.getLast? with
        | none => exact absurd (List.getLast?_eq_none_iff.mp hl) hwn
        | some y =>
          rw [hl] at h1
          cases h1
          exact kw_a (List.getLast?_eq_some_iff.mp hl) h2
      · exact kw_b h
    rw [e2]
    split
    · split
      · rename_i k hk'
        rw [drop_run (f := isSp) (kwFirst_le hk'), runL_append h0]
      · rfl
    · rfl
/-! what stands ahead of a piece -/
theorem findL_prev {T : Try} {prev prev' : Option Nat} {p : Nat} {l : List Nat} (h : T prev p l = T prev' p l) : findL T prev p l = findL T prev' p l := by
  cases l with
  | nil => rfl
  | cons c r => rw [findL_cons, findL_cons, h]
theorem hits_prev {T : Try} (G : GoodT T) {prev prev' : Option Nat} {p : Nat} {l : List Nat} (h : T prev p l = T prev' p l) : hits T prev p l = hits T prev' p l := by
  rw [hits_step G, hits_step G (prev := prev'), findL_prev h]
  cases e : findL T prev' p l with
  | none => rfl
  | some x =>
    have r := findL_rng G e
    show x :: _ = x :: _
    have e2 : pv prev (x.e - p) l = pv prev' (x.e - p) l := by unfold pv; rw [if_neg (by omega), if_neg (by omega)]
    rw [e2]
theorem kw_prev {prev prev' : Option Nat} {p c : Nat} {r : List Nat} (h1 : isSp c = false) (h2 : kwFirst kwWords (c :: r) = none) : hits kwTry prev p (c :: r) = hits kwTry prev' p (c :: r) := by
  refine hits_prev good_kw ?_
  simp only [kwTry, runL_no h1, List.drop_zero, h2]
  simp
/-- a hit at the very start -/
theorem ex_zero {prev : Option Nat} {c : Nat} {r : List Nat} {h : Hit} (hc : isBl c = false) (hm : h ∈ hits (fun _ => exTry) prev 0 (c :: r)) (hs : h.s = 0) : Txt.isspace (Txt.item (subL (c :: r) h.s h.e) (-1)) = true := by
  obtain ⟨a, l', prev', h1, h2⟩ := hitsU_at good_ex hm
  have r1 := good_ex.rng (prev := none) h2
  obtain rfl : a = [] := List.length_eq_zero_iff.mp (by omega)
  rw [List.nil_append] at h1
  subst h1
  match r, h2 with
  | x :: r, h2 =>
    simp only [exTry] at h2
    split at h2
    · rename_i hb
      cases h2
      rw [Bool.and_eq_true] at hb
      have hx : x = 32 ∨ x = 9 := by
        have := hb.2
        unfold isBl at this
        simpa using this
      have e : subL (c :: x :: r) (0 + ([] : List Nat).length) (0 + ([] : List Nat).length + 2) = ⟨#[c, x]⟩ := rfl
      show Txt.isspace (Txt.item (subL (c :: x :: r) (0 + ([] : List Nat).length) (0 + ([] : List Nat).length + 2)) (-1)) = true
      rw [e]
      have e2 : Txt.item ⟨#[c, x]⟩ (-1) = ⟨#[x]⟩ := rfl
      rw [e2]
      rcases hx with rfl | rfl <;> decide +kernel
    · rw [hc, Bool.false_and, Bool.false_and, if_neg Bool.false_ne_true] at h2
      cases h2
theorem X_prev {prev : Option Nat} {c : Nat} {r : List Nat} (hc : isBl c = false) : R (fun _ => exTry) OX prev (c :: r) = R (fun _ => exTry) OX none (c :: r) := by
  unfold R
  rw [hits_prev good_ex (prev := prev) (prev' := none) rfl]
  refine flatMap_ext fun h hm => ?_
  unfold OX
  by_cases hs : h.s = 0
  · rw [ex_zero hc hm hs, if_pos rfl, if_pos rfl]
  · unfold pv
    rw [if_neg hs, if_neg hs]
theorem X_far {c : Nat} (hc : c ≠ 44) (l : List Nat) : R (fun _ => exTry) OX (some c) l = R (fun _ => exTry) OX (some 0) l := by
  unfold R
  rw [hits_prev good_ex (prev := some c) (prev' := some 0) rfl]
  refine flatMap_ext fun h hm => ?_
  unfold OX
  have e : (pv (some c) h.s l != some 44) = (pv (some 0) h.s l != some 44) := by
    unfold pv
    split
    · rw [bne_iff_ne.mpr (show (some c : Option Nat) ≠ some 44 from fun e => hc (by cases e; rfl))]; rfl
    · rfl
  rw [e]
end Mine

end

/-! ## LPl6 -/
section
open PySem PySem.W PyProof.Rows PySem.Calls
namespace Mine
set_option maxRecDepth 100000
set_option linter.unusedVariables false

/-! the finite checks -/
def gapsN : List (List Nat) := [[], [32], [32, 32], [9], [32, 9], [32, 32, 32], [9, 32]]
def gapsP : List (List Nat) := [[32], [32, 32], [9], [32, 9], [32, 32, 32], [9, 32]]
def coreN : List (List Nat) := [[97], [98, 49]]
def sgN : List (List Nat) := [[43], [33, 61], [58, 61], [42, 42], [60, 60, 61], [37], [45], [124, 61], [47], [62], [38], [94]]
def cmN : List (List Nat) := [[44], [59]]
def kwN : List (List Nat) := [[97, 110, 100], [105, 110], [111, 114], [105, 115], [105, 102], [101, 108, 115, 101], [97, 115], [110, 111, 116]]
def opensN : List Nat := [40, 91, 123]
/-- a hit as plain numbers -/
def Hit.raw (h : Hit) : Nat × Nat × List Nat := (h.s, h.e, h.g)
theorem raw_eq {l r : List Hit} (h : l.map Hit.raw = r.map Hit.raw) : l = r := by
  refine List.map_inj_right (f := Hit.raw) (fun {x y} e => ?_) |>.mp h
  obtain ⟨a, b, c⟩ := x
  obtain ⟨a', b', c'⟩ := y
  cases e
  rfl
def isNil {α : Type} : List α → Bool
  | [] => true
  | _ => false
theorem isNil_eq {α : Type} {l : List α} (h : isNil l = true) : l = [] := by
  cases l with
  | nil => rfl
  | cons => cases h
/-- the one hit of a word: its four places -/
def oneHit (t a w b : Nat) : List Hit := [⟨0, t + a + w + b, [t, t + a, t + a + w, t + a + w + b]⟩]
abbrev opT : Try := fun _ => opTry
abbrev cmT : Try := fun _ => cmTry
abbrev exT : Try := fun _ => exTry
-- operators
theorem op_sg : ∀ w ∈ sgN, ∀ a ∈ gapsN, ∀ b ∈ gapsN, (hits opT none 0 (97 :: (a ++ w ++ b))).map Hit.raw = (oneHit 1 a.length w.length b.length).map Hit.raw := by decide +kernel
theorem op_no : ∀ w ∈ cmN ++ kwN, ∀ a ∈ gapsN, ∀ b ∈ gapsN, isNil (hits opT none 0 (97 :: (a ++ w ++ b))) = true := by decide +kernel
theorem op_br : ∀ o ∈ opensN, ∀ a ∈ gapsN, ∀ t ∈ coreN, ∀ b ∈ gapsN, isNil (hits opT none 0 (o :: (a ++ t ++ b))) = true := by decide +kernel
-- keywords
theorem kw_kw : ∀ w ∈ kwN, ∀ a ∈ gapsP, ∀ b ∈ gapsP, (hits kwTry none 0 (a ++ w ++ b)).map Hit.raw = (oneHit 0 a.length w.length b.length).map Hit.raw := by decide +kernel
theorem kw_no : ∀ w ∈ cmN ++ sgN, ∀ a ∈ gapsN, ∀ b ∈ gapsN, (isNil (hits kwTry none 0 (a ++ w ++ b)) && (kwFirst kwWords ((a ++ w ++ b).drop (runL isSp (a ++ w ++ b)))).isNone) = true := by decide +kernel
theorem kw_br : ∀ o ∈ opensN, ∀ a ∈ gapsN, ∀ t ∈ coreN, ∀ b ∈ gapsN, (isNil (hits kwTry none 0 (o :: (a ++ t ++ b))) && (kwFirst kwWords (o :: (a ++ t ++ b))).isNone) = true := by decide +kernel
-- commas
theorem cm_no : ∀ w ∈ sgN ++ kwN, ∀ a ∈ gapsN, ∀ b ∈ gapsN, isNil (hits cmT none 0 (a ++ w ++ b)) = true := by decide +kernel
theorem cm_br : ∀ o ∈ opensN, ∀ a ∈ gapsN, ∀ t ∈ coreN, ∀ b ∈ gapsN, isNil (hits cmT none 0 (o :: (a ++ t ++ b))) = true := by decide +kernel
-- brackets and blanks
theorem ex_no : ∀ w ∈ sgN ++ kwN, ∀ a ∈ gapsN, ∀ b ∈ gapsN, isNil (hits exT none 0 (a ++ w ++ b)) = true := by decide +kernel
def lst (x : Str) : List Nat := x.cps.toList
def noL : Lists := ⟨[], [], [], []⟩
/-- what a comma's hit says, short -/
def smC (l : List Nat) (h : Hit) : Nat × Bool × Str := (h.s, Txt.contains (subL l h.s h.e) tabS, Txt.item (subL l h.s h.e) 0)
def rdC (x : Nat × Bool × Str) : Out := ((x.1 : Int) + 1, if x.2.1 then ("E242 tab after '" : Str) ++ x.2.2 ++ ("'" : Str) else ("E241 multiple spaces after '" : Str) ++ x.2.2 ++ ("'" : Str))
theorem OC_sm (prev : Option Nat) (l : List Nat) (h : Hit) : OC prev l h = [rdC (smC l h)] := rfl
theorem cm_cm : ∀ c ∈ ([44, 59] : List Nat), ∀ a ∈ gapsN, ∀ b ∈ gapsN, (hits cmT none 0 (a ++ [c] ++ b)).map (smC (a ++ [c] ++ b)) = if Txt.contains ⟨b.toArray⟩ tabS = true then [(a.length, true, ⟨#[c]⟩)] else if 1 < b.length then [(a.length, false, ⟨#[c]⟩)] else [] := by decide +kernel
/-- what a blank's hit says, short -/
def smX (prev : Option Nat) (l : List Nat) (h : Hit) : Nat × Bool × Bool × Bool × Str :=
  (h.s, Txt.isspace (Txt.item (subL l h.s h.e) (-1)), (Txt.isspace (Txt.item (subL l h.s h.e) (-1)) || pv prev h.s l != some 44), Txt.contains closeS (Txt.strip (subL l h.s h.e)), Txt.strip (subL l h.s h.e))
def rdX (x : Nat × Bool × Bool × Bool × Str) : List Out :=
  if x.2.1 then [((x.1 : Int) + 1, ("E201 whitespace after '" : Str) ++ x.2.2.2.2 ++ ("'" : Str))]
  else if x.2.2.1 then [((x.1 : Int), Str.empty ++ (if x.2.2.2.1 then ("E202" : Str) else ("E203" : Str)) ++ (" whitespace before '" : Str) ++ x.2.2.2.2 ++ ("'" : Str))]
  else []
theorem OX_sm (prev : Option Nat) (l : List Nat) (h : Hit) : OX prev l h = rdX (smX prev l h) := by
  unfold OX rdX smX
  dsimp only
  cases Txt.isspace (Txt.item (subL l h.s h.e) (-1)) <;> rfl
theorem ex_cm : ∀ c ∈ ([44, 59] : List Nat), ∀ a ∈ gapsN, ∀ b ∈ gapsN, (hits exT (some 0) 0 (a ++ [c] ++ b)).map (smX (some 0) (a ++ [c] ++ b)) = if a = [] then [] else [(a.length - 1, false, true, false, ⟨#[c]⟩)] := by decide +kernel
theorem ex_br : ∀ o ∈ ([(40, 41), (91, 93), (123, 125)] : List (Nat × Nat)), ∀ a ∈ gapsN, ∀ t ∈ coreN, ∀ b ∈ gapsN, (hits exT none 0 (o.1 :: (a ++ t ++ b ++ [o.2]))).map (smX none (o.1 :: (a ++ t ++ b ++ [o.2]))) =
    (if a = [] then [] else [(0, true, true, false, ⟨#[o.1]⟩)]) ++ (if b = [] then [] else [(a.length + t.length + b.length, false, true, true, ⟨#[o.2]⟩)]) := by decide +kernel
end Mine

end

/-! ## LPl7 -/
section
open PySem PySem.W PyProof.Rows PySem.Calls
namespace Mine
set_option maxRecDepth 100000
set_option linter.unusedVariables false

/-! words by their kind; what is told behind an operand -/
inductive Cls (w : Str) : Prop
  | cm (c : Nat) : c ∈ ([44, 59] : List Nat) → w = ⟨#[c]⟩ → w ∈ ([",", ";"] : List Str) → Cls w
  | kw : lst w ∈ kwN → ¬ w ∈ ([",", ";"] : List Str) → w ∈ namedL → Cls w
  | sg : lst w ∈ sgN → ¬ w ∈ ([",", ";"] : List Str) → ¬ w ∈ namedL → Cls w
theorem cls_all : ∀ w ∈ wordsL, (w = ⟨#[44]⟩ ∧ w ∈ ([",", ";"] : List Str)) ∨ (w = ⟨#[59]⟩ ∧ w ∈ ([",", ";"] : List Str)) ∨ (lst w ∈ kwN ∧ ¬ w ∈ ([",", ";"] : List Str) ∧ w ∈ namedL) ∨ (lst w ∈ sgN ∧ ¬ w ∈ ([",", ";"] : List Str) ∧ ¬ w ∈ namedL) := by decide +kernel
theorem cls {w : Str} (h : w ∈ wordsL) : Cls w := by
  rcases cls_all w h with ⟨a, b⟩ | ⟨a, b⟩ | ⟨a, b, c⟩ | ⟨a, b, c⟩
  · exact .cm 44 (by simp) a b
  · exact .cm 59 (by simp) a b
  · exact .kw a b c
  · exact .sg a b c
theorem gap_n : ∀ g ∈ gapL, lst g ∈ gapsN := by decide +kernel
theorem gap_p : ∀ g ∈ gapL, g ≠ ("" : Str) → lst g ∈ gapsP := by decide +kernel
theorem lst_str (x : Str) : (⟨(lst x).toArray⟩ : Str) = x := by
  obtain ⟨c⟩ := x
  rfl
theorem lst_len (x : Str) : (lst x).length = x.length := rfl
theorem lst_append (x y : Str) : lst (x ++ y) = lst x ++ lst y := by
  show (x.cps ++ y.cps).toList = _
  rw [Array.toList_append]; rfl
theorem lst_nil {x : Str} : lst x = [] ↔ x = ("" : Str) := by
  constructor
  · intro h
    rw [← lst_str x, h]; rfl
  · rintro rfl; rfl
theorem toldO_sh (p n : Int) (m : Nat) (g t b : Str) (h : p = n + (m : Int)) : toldO p g t b = (toldO n g t b).map (shO m) := by
  subst h
  unfold toldO
  split
  · simp [shO]
  · split
    · simp [shO]
    · rfl
theorem blk_told (y : Str) (a : Nat) (c1 c2 : Str) : blockOuts y a c1 c2 = toldO (a : Int) y c1 c2 := rfl
structure SepSh (n : Nat) (w a b : Str) (L : Lists) : Prop where
  signs : (sepL n w a b L).signs = L.signs ++ (sepL 0 w a b noL).signs.map (shO n)
  words : (sepL n w a b L).words = L.words ++ (sepL 0 w a b noL).words.map (shO n)
  commas : (sepL n w a b L).commas = L.commas ++ (sepL 0 w a b noL).commas.map (shO n)
  edges : (sepL n w a b L).edges = L.edges ++ (sepL 0 w a b noL).edges.map (shO n)
theorem sep_sh (n : Nat) (w a b : Str) (L : Lists) : SepSh n w a b L := by
  have e0 : noL.signs = [] ∧ noL.words = [] ∧ noL.commas = [] ∧ noL.edges = [] := ⟨rfl, rfl, rfl, rfl⟩
  obtain ⟨e1, e2, e3, e4⟩ := e0
  by_cases h1 : w ∈ ([",", ";"] : List Str)
  · constructor <;> unfold sepL
    · simp only [if_pos h1, e1]; simp
    · simp only [if_pos h1, e2]; simp
    · simp only [if_pos h1, e3, List.nil_append]
      rw [← toldO_sh]; omega
    · simp only [if_pos h1, e4, List.nil_append]
      split
      · simp
      · simp only [List.map_cons, List.map_nil, shO]
        congr 3
        omega
  · by_cases h2 : w ∈ namedL
    · constructor <;> unfold sepL
      · simp only [if_neg h1, if_pos h2, e1]; simp
      · simp only [if_neg h1, if_pos h2, e2, List.nil_append, List.map_append, List.append_assoc]
        rw [← toldO_sh (n : Int) _ n _ _ _ (by omega), ← toldO_sh ((n : Int) + (a.length : Int) + (w.length : Int)) _ n _ _ _ (by omega)]
      · simp only [if_neg h1, if_pos h2, e3]; simp
      · simp only [if_neg h1, if_pos h2, e4]; simp
    · constructor <;> unfold sepL
      · simp only [if_neg h1, if_neg h2, e1, List.nil_append, List.map_append, List.append_assoc]
        rw [← toldO_sh (n : Int) _ n _ _ _ (by omega), ← toldO_sh ((n : Int) + (a.length : Int) + (w.length : Int)) _ n _ _ _ (by omega)]
      · simp only [if_neg h1, if_neg h2, e2]; simp
      · simp only [if_neg h1, if_neg h2, e3]; simp
      · simp only [if_neg h1, if_neg h2, e4]; simp
/-- what the four lists get of a word -/
theorem sep_cmF {w a b : Str} (h : w ∈ ([",", ";"] : List Str)) : (sepL 0 w a b noL).signs = [] ∧ (sepL 0 w a b noL).words = [] ∧
    (sepL 0 w a b noL).commas = toldO ((a.length : Int) + 1) b (("E242 tab after '" : Str) ++ w ++ ("'" : Str)) (("E241 multiple spaces after '" : Str) ++ w ++ ("'" : Str)) ∧
    (sepL 0 w a b noL).edges = if a = ("" : Str) then [] else [((a.length : Int) - 1, ("E203 whitespace before '" : Str) ++ w ++ ("'" : Str))] := by
  unfold sepL
  simp only [if_pos h]
  refine ⟨rfl, rfl, ?_, ?_⟩
  · show [] ++ toldO _ _ _ _ = _
    rw [List.nil_append, show ((0 : Nat) : Int) + (a.length : Int) = a.length by omega]
  · show [] ++ _ = _
    rw [List.nil_append, show ((0 : Nat) : Int) + (a.length : Int) = a.length by omega]
theorem sep_kwF {w a b : Str} (h1 : ¬ w ∈ ([",", ";"] : List Str)) (h2 : w ∈ namedL) : (sepL 0 w a b noL).signs = [] ∧ (sepL 0 w a b noL).commas = [] ∧ (sepL 0 w a b noL).edges = [] ∧
    (sepL 0 w a b noL).words = toldO 0 a "E274 tab before keyword" "E272 multiple spaces before keyword" ++ toldO ((a.length : Int) + (w.length : Int)) b "E273 tab after keyword" "E271 multiple spaces after keyword" := by
  unfold sepL
  simp only [if_neg h1, if_pos h2]
  refine ⟨rfl, rfl, rfl, ?_⟩
  show [] ++ _ ++ _ = _
  rw [List.nil_append, show ((0 : Nat) : Int) + (a.length : Int) = a.length by omega]; rfl
theorem sep_sgF {w a b : Str} (h1 : ¬ w ∈ ([",", ";"] : List Str)) (h2 : ¬ w ∈ namedL) : (sepL 0 w a b noL).words = [] ∧ (sepL 0 w a b noL).commas = [] ∧ (sepL 0 w a b noL).edges = [] ∧
    (sepL 0 w a b noL).signs = toldO 0 a "E223 tab before operator" "E221 multiple spaces before operator" ++ toldO ((a.length : Int) + (w.length : Int)) b "E224 tab after operator" "E222 multiple spaces after operator" := by
  unfold sepL
  simp only [if_neg h1, if_neg h2]
  refine ⟨rfl, rfl, rfl, ?_⟩
  show [] ++ _ ++ _ = _
  rw [List.nil_append, show ((0 : Nat) : Int) + (a.length : Int) = a.length by omega]; rfl
theorem subL_mid (x y z : List Nat) : subL (x ++ y ++ z) x.length (x.length + y.length) = ⟨y.toArray⟩ := by
  unfold subL
  rw [List.append_assoc, List.drop_left, Nat.add_sub_cancel_left, List.take_left]
theorem one_told (t : List Nat) (a w b : Str) (c1 c2 c3 c4 : Str) (prev : Option Nat) : (oneHit t.length a.length w.length b.length).flatMap (OA c1 c2 c3 c4 prev (t ++ (lst a ++ lst w ++ lst b))) =
    (toldO 0 a c1 c2 ++ toldO ((a.length : Int) + (w.length : Int)) b c3 c4).map (shO t.length) := by
  have e1 : subL (t ++ (lst a ++ lst w ++ lst b)) t.length (t.length + a.length) = a := by
    have := subL_mid t (lst a) (lst w ++ lst b)
    rw [lst_str, lst_len] at this
    simp only [List.append_assoc] at this ⊢
    exact this
  have e2 : subL (t ++ (lst a ++ lst w ++ lst b)) (t.length + a.length + w.length) (t.length + a.length + w.length + b.length) = b := by
    have := subL_mid (t ++ lst a ++ lst w) (lst b) []
    rw [lst_str, List.append_nil] at this
    have hl : (t ++ lst a ++ lst w).length = t.length + a.length + w.length := by rw [List.length_append, List.length_append]; rfl
    rw [hl, lst_len] at this
    simp only [List.append_assoc] at this ⊢
    exact this
  unfold oneHit
  rw [List.flatMap_cons, List.flatMap_nil, List.append_nil]
  show blockOuts (subL _ _ _) _ _ _ ++ blockOuts (subL _ _ _) _ _ _ = _
  rw [e1, e2, blk_told, blk_told, List.map_append, ← toldO_sh ((t.length : Nat) : Int) 0 t.length _ _ _ (by omega), ← toldO_sh (((t.length + a.length + w.length : Nat) : Nat) : Int) _ t.length _ _ _ (by omega)]
/-! one place passed over -/
section
variable {T : Try} (G : GoodT T)
include G
theorem skip1 {prev : Option Nat} {p c : Nat} {l : List Nat} (h : T prev p (c :: l) = none) : hits T prev p (c :: l) = hits T (some c) (p + 1) l := by
  rw [hits_step G, hits_step G (l := l), findL_cons, h]
  cases e : findL T (some c) (p + 1) l with
  | none => rfl
  | some x =>
    have r := findL_rng G e
    show x :: _ = x :: _
    obtain ⟨n, hn⟩ : ∃ n, x.e - p = n + 2 := ⟨x.e - p - 2, by omega⟩
    rw [hn, show x.e - (p + 1) = n + 1 by omega]
    rfl
theorem skip_R {O : Tell} {groups : Nat} (K : TryOk groups T) (OG : GoodO O) {prev : Option Nat} {c : Nat} {l : List Nat} (h : T prev 0 (c :: l) = none) : R T O prev (c :: l) = (R T O (some c) l).map (shO 1) := by
  unfold R
  rw [skip1 G h, hits_shift G (Nat.le_refl _), List.flatMap_map, List.map_flatMap]
  exact flatMap_ext fun x hm => OG.right (a := [c]) (hits_in G K hm)
end
theorem map_sh (l : List Out) (a b : Nat) : (l.map (shO a)).map (shO b) = l.map (shO (a + b)) := by
  rw [List.map_map]
  refine List.map_congr_left fun o _ => ?_
  show shO b (shO a o) = shO (a + b) o
  unfold shO
  dsimp only
  congr 1
  omega
theorem R_none {T : Try} {O : Tell} {prev : Option Nat} {l : List Nat} (h : hits T prev 0 l = []) : R T O prev l = [] := by unfold R; rw [h]; rfl

/-! operators -/
theorem op_char {prev : Option Nat} {p c : Nat} {l : List Nat} (hc : (c == 44 || isSp c) = false) : hits opT prev p (c :: l) = hits opT none p (97 :: l) := by
  have e : ∀ q, opTry q (c :: l) = opTry q (97 :: l) := by
    intro q
    simp only [opTry]
    rw [hc, show (97 == 44 || isSp 97) = false by decide +kernel]
  cases h : opTry p (97 :: l) with
  | none =>
    rw [skip1 good_op (show opT prev p (c :: l) = none from (e p).trans h), skip1 good_op (show opT none p (97 :: l) = none from h)]
    exact hits_prev good_op rfl
  | some x =>
    have f1 : findL opT prev p (c :: l) = some x := by rw [findL_cons, show opT prev p (c :: l) = some x from (e p).trans h]
    have f2 : findL opT none p (97 :: l) = some x := by rw [findL_cons, show opT none p (97 :: l) = some x from h]
    have r := findL_rng good_op f2
    rw [hits_step good_op, hits_step good_op (l := 97 :: l), f1, f2]
    show x :: _ = x :: _
    obtain ⟨n, hn⟩ : ∃ n, x.e - p = n + 1 := ⟨x.e - p - 1, by omega⟩
    rw [hn, List.drop_succ_cons, List.drop_succ_cons]
    congr 1
    exact hits_prev good_op rfl
end Mine

end

/-! ## LPl8 -/
section
open PySem PySem.W PyProof.Rows PySem.Calls
namespace Mine
set_option maxRecDepth 100000
set_option linter.unusedVariables false

/-! what a word and its gaps say -/
abbrev opA : Tell := OA "E223 tab before operator" "E221 multiple spaces before operator" "E224 tab after operator" "E222 multiple spaces after operator"
abbrev kwA : Tell := OA "E274 tab before keyword" "E272 multiple spaces before keyword" "E273 tab after keyword" "E271 multiple spaces after keyword"
def sepN (w a b : Str) : List Nat := lst a ++ lst w ++ lst b
theorem lst_one (c : Nat) : lst ⟨#[c]⟩ = [c] := rfl
theorem kw_quiet {prev : Option Nat} {p : Nat} {l : List Nat} (h : kwFirst kwWords (l.drop (runL isSp l)) = none) : kwTry prev p l = none := by
  simp only [kwTry, h]
  split <;> simp
theorem kw_blank {prev prev' : Option Nat} {p : Nat} {l : List Nat} (h : runL isSp l ≠ 0) : kwTry prev p l = kwTry prev' p l := by
  simp only [kwTry]
  rw [if_neg h, if_neg h]
theorem gapP_run {g v : List Nat} (h : g ∈ gapsP) : runL isSp (g ++ v) ≠ 0 := by
  have : ∃ c r, g = c :: r ∧ isSp c = true := by
    have k : ∀ g ∈ gapsP, g.head?.any isSp = true := by decide +kernel
    have := k g h
    cases g with
    | nil => cases this
    | cons c r => exact ⟨c, r, rfl, this⟩
  obtain ⟨c, r, rfl, hc⟩ := this
  rw [List.cons_append, runL_yes hc]
  omega
theorem e203 : Str.empty ++ ("E203" : Str) ++ (" whitespace before '" : Str) = ("E203 whitespace before '" : Str) := by decide +kernel
theorem e202 : Str.empty ++ ("E202" : Str) ++ (" whitespace before '" : Str) = ("E202 whitespace before '" : Str) := by decide +kernel
theorem flatMap_map' {α β γ : Type} (l : List α) (f : α → β) (g : β → List γ) : l.flatMap (fun x => g (f x)) = (l.map f).flatMap g := by
  rw [List.flatMap_map]
section
variable {w a b : Str} (S : SepOk w a b)
include S
theorem sep_op {c : Nat} {prev : Option Nat} (hc : (c == 44 || isSp c) = false) : R opT opA prev (c :: sepN w a b) = (sepL 0 w a b noL).signs.map (shO 1) := by
  have ha := gap_n a S.a
  have hb := gap_n b S.b
  cases cls S.w with
  | cm k hk hw h1 =>
    rw [(sep_cmF h1).1]
    refine R_none ?_
    rw [op_char hc]
    refine isNil_eq (op_no (lst w) ?_ (lst a) ha (lst b) hb)
    rw [hw, lst_one]
    simp only [List.mem_cons, List.not_mem_nil, or_false] at hk
    rcases hk with rfl | rfl <;> decide +kernel
  | kw hk h1 h2 =>
    rw [(sep_kwF h1 h2).1]
    refine R_none ?_
    rw [op_char hc]
    exact isNil_eq (op_no (lst w) (List.mem_append_right _ hk) (lst a) ha (lst b) hb)
  | sg hk h1 h2 =>
    rw [(sep_sgF h1 h2).2.2.2]
    unfold R
    rw [op_char hc, show hits opT none 0 (97 :: sepN w a b) = oneHit 1 a.length w.length b.length from raw_eq (op_sg (lst w) hk (lst a) ha (lst b) hb)]
    exact one_told [c] a w b _ _ _ _ prev
theorem sep_kw {prev : Option Nat} : R kwTry kwA prev (sepN w a b) = (sepL 0 w a b noL).words := by
  have ha := gap_n a S.a
  have hb := gap_n b S.b
  have no : lst w ∈ cmN ++ sgN → R kwTry kwA prev (sepN w a b) = [] := fun h => by
    have := kw_no (lst w) h (lst a) ha (lst b) hb
    change (isNil (hits kwTry none 0 (sepN w a b)) && (kwFirst kwWords ((sepN w a b).drop (runL isSp (sepN w a b)))).isNone) = true at this
    rw [Bool.and_eq_true, Option.isNone_iff_eq_none] at this
    refine R_none ?_
    rw [hits_prev good_kw (prev' := none) ((kw_quiet this.2).trans (kw_quiet this.2).symm)]
    exact isNil_eq this.1
  cases cls S.w with
  | cm k hk hw h1 =>
    rw [(sep_cmF h1).2.1]
    refine no ?_
    rw [hw, lst_one]
    simp only [List.mem_cons, List.not_mem_nil, or_false] at hk
    rcases hk with rfl | rfl <;> decide +kernel
  | kw hk h1 h2 =>
    have pa := gap_p a S.a (S.na h2)
    have pb := gap_p b S.b (S.nb h2)
    rw [(sep_kwF h1 h2).2.2.2]
    unfold R
    rw [hits_prev good_kw (prev' := none) (by unfold sepN; rw [List.append_assoc]; exact kw_blank (gapP_run pa)), show hits kwTry none 0 (sepN w a b) = oneHit 0 a.length w.length b.length from raw_eq (kw_kw (lst w) hk (lst a) pa (lst b) pb)]
    refine (one_told [] a w b _ _ _ _ prev).trans ?_
    rw [List.map_congr_left (g := id) (fun o _ => by show shO 0 o = o; unfold shO; exact Prod.ext (Int.add_zero _) rfl), List.map_id]
  | sg hk h1 h2 =>
    rw [(sep_sgF h1 h2).1]
    exact no (List.mem_append_right _ hk)
theorem sep_cm {prev : Option Nat} : R cmT OC prev (sepN w a b) = (sepL 0 w a b noL).commas := by
  have ha := gap_n a S.a
  have hb := gap_n b S.b
  have no : lst w ∈ sgN ++ kwN → R cmT OC prev (sepN w a b) = [] := fun h => by
    refine R_none ?_
    rw [hits_prev good_cm (prev' := none) rfl]
    exact isNil_eq (cm_no (lst w) h (lst a) ha (lst b) hb)
  cases cls S.w with
  | cm k hk hw h1 =>
    rw [(sep_cmF h1).2.2.1]
    have := cm_cm k hk (lst a) ha (lst b) hb
    unfold R
    rw [hits_prev good_cm (prev' := none) rfl, flatMap_ext (g := fun h => [rdC (smC (sepN w a b) h)]) fun h _ => OC_sm _ _ _, ← List.map_eq_flatMap]
    have e : sepN w a b = lst a ++ [k] ++ lst b := by unfold sepN; rw [hw, lst_one]
    rw [e, show (fun h => rdC (smC (lst a ++ [k] ++ lst b) h)) = rdC ∘ smC (lst a ++ [k] ++ lst b) from rfl, ← List.map_map, this, lst_str, ← hw]
    unfold toldO
    rw [lst_len, lst_len]
    split
    · rfl
    · split
      · rfl
      · rfl
  | kw hk h1 h2 =>
    rw [(sep_kwF h1 h2).2.1]
    exact no (List.mem_append_right _ hk)
  | sg hk h1 h2 =>
    rw [(sep_sgF h1 h2).2.1]
    exact no (List.mem_append_left _ hk)
theorem sep_ex {c : Nat} (hc : c ≠ 44) : R exT OX (some c) (sepN w a b) = (sepL 0 w a b noL).edges := by
  have ha := gap_n a S.a
  have hb := gap_n b S.b
  have no : lst w ∈ sgN ++ kwN → R exT OX (some c) (sepN w a b) = [] := fun h => by
    refine R_none ?_
    rw [hits_prev good_ex (prev' := none) rfl]
    exact isNil_eq (ex_no (lst w) h (lst a) ha (lst b) hb)
  cases cls S.w with
  | cm k hk hw h1 =>
    rw [(sep_cmF h1).2.2.2, X_far hc]
    have := ex_cm k hk (lst a) ha (lst b) hb
    have e : sepN w a b = lst a ++ [k] ++ lst b := by unfold sepN; rw [hw, lst_one]
    unfold R
    rw [flatMap_ext (g := fun h => rdX (smX (some 0) (sepN w a b) h)) fun h _ => OX_sm _ _ _, e, flatMap_map', this]
    by_cases hz : a = ("" : Str)
    · rw [if_pos (lst_nil.mpr hz), if_pos hz]; rfl
    · rw [if_neg (fun h => hz (lst_nil.mp h)), if_neg hz, List.flatMap_cons, List.flatMap_nil, List.append_nil]
      have hl : 1 ≤ (lst a).length := by
        cases hq : lst a with
        | nil => exact absurd (lst_nil.mp hq) hz
        | cons => simp
      unfold rdX
      dsimp only
      rw [if_neg Bool.false_ne_true, if_pos rfl, if_neg Bool.false_ne_true, e203, ← hw, ← lst_len]
      congr 2
      omega
  | kw hk h1 h2 =>
    rw [(sep_kwF h1 h2).2.2.1]
    exact no (List.mem_append_right _ hk)
  | sg hk h1 h2 =>
    rw [(sep_sgF h1 h2).2.2.1]
    exact no (List.mem_append_left _ hk)
end
end Mine

end

/-! ## LPl9 -/
section
open PySem PySem.W PyProof.Rows PySem.Calls
namespace Mine
set_option maxRecDepth 100000
set_option linter.unusedVariables false

/-! operands -/
def plainN : List (List Nat) := [[97], [98, 49], [49, 48]]
def tailsN : List (List Nat) := [[97], [98, 49], [49, 48], [41], [93], [125]]
def pairsN : List (Nat × Nat) := [(40, 41), (91, 93), (123, 125)]
def allH : List Nat := [97, 98, 49, 48, 40, 91, 123, 41, 93, 125]
inductive OpdN : List Nat → List Nat → Prop
  | plain (t : List Nat) : t ∈ plainN → OpdN [] t
  | br (o : Nat × Nat) (a t b : List Nat) : o ∈ pairsN → a ∈ gapsN → t ∈ coreN → b ∈ gapsN → OpdN (o.1 :: (a ++ t ++ b)) [o.2]
theorem allH_ok : ∀ c ∈ allH, isSp c = false ∧ isOp c = false ∧ c ≠ 58 ∧ c ≠ 61 ∧ c ≠ 44 ∧ c ≠ 64 ∧ isBl c = false ∧ isCm c = false := by decide +kernel
def HeadIn (l : List Nat) (v : List Nat) : Prop := ∃ c r, v = c :: r ∧ c ∈ l
theorem HeadIn.app {l v s : List Nat} (h : HeadIn l v) : HeadIn l (v ++ s) := by
  obtain ⟨c, r, rfl, h⟩ := h
  exact ⟨c, r ++ s, rfl, h⟩
theorem HeadIn.all {l v : List Nat} (h : HeadIn l v) {P : Nat → Prop} (k : ∀ c ∈ l, P c) : ∀ c r, v = c :: r → P c := by
  obtain ⟨c, r, rfl, h⟩ := h
  intro c' r' e
  cases e
  exact k c h
theorem OpdN.tail {I t : List Nat} (H : OpdN I t) : t ∈ tailsN := by
  cases H with
  | plain t h => exact (by decide +kernel : ∀ t ∈ plainN, t ∈ tailsN) t h
  | br o a t b h => exact (by decide +kernel : ∀ o ∈ pairsN, [o.2] ∈ tailsN) o h
theorem tail_head {t : List Nat} (h : t ∈ tailsN) : HeadIn allH t := by
  simp only [tailsN, List.mem_cons, List.not_mem_nil, or_false] at h
  rcases h with rfl | rfl | rfl | rfl | rfl | rfl <;> exact ⟨_, _, rfl, by decide +kernel⟩
def headI : List Nat := [97, 98, 49, 40, 91, 123]
theorem OpdN.head {I t : List Nat} (H : OpdN I t) : HeadIn headI (I ++ t) := by
  cases H with
  | plain t h =>
    simp only [plainN, List.mem_cons, List.not_mem_nil, or_false] at h
    rcases h with rfl | rfl | rfl <;> exact ⟨_, _, rfl, by decide +kernel⟩
  | br o a t b h => exact ⟨o.1, _, rfl, (by decide +kernel : ∀ o ∈ pairsN, o.1 ∈ headI) o h⟩
theorem headI_all : ∀ c ∈ headI, c ∈ allH := by decide +kernel
theorem HeadIn.up {v : List Nat} (h : HeadIn headI v) : HeadIn allH v := by
  obtain ⟨c, r, e, h⟩ := h
  exact ⟨c, r, e, headI_all c h⟩
theorem map_sh0 (l : List Out) : l.map (shO 0) = l := by
  rw [List.map_congr_left (g := id) (fun o _ => by show shO 0 o = o; unfold shO; exact Prod.ext (Int.add_zero _) rfl), List.map_id]
/-! tails -/
theorem op_pass {p c d : Nat} {l : List Nat} (h1 : isSp d = false) (h2 : isOp d = false) (h3 : d ≠ 58) : opTry p (c :: d :: l) = none := by
  simp only [opTry]
  split
  · rfl
  · rw [runL_no h1, List.drop_zero, opLen_eq, runL_no h2, if_pos rfl, if_neg (by
      rw [Bool.and_eq_true, beq_iff_eq]
      rintro ⟨e, _⟩
      cases e
      exact h3 rfl)]
theorem tail_op {w a b : Str} (S : SepOk w a b) {t : List Nat} (h : t ∈ tailsN) (q : Option Nat) : R opT opA q (t ++ sepN w a b) = (sepL 0 w a b noL).signs.map (shO t.length) := by
  simp only [tailsN, List.mem_cons, List.not_mem_nil, or_false] at h
  rcases h with rfl | rfl | rfl | rfl | rfl | rfl
  · exact sep_op S (by decide +kernel)
  · refine (skip_R good_op op_ok (good_A _ _ _ _) (op_pass (by decide +kernel) (by decide +kernel) (by decide))).trans ?_
    show List.map (shO 1) (R opT opA _ (49 :: sepN w a b)) = _
    exact (congrArg _ (sep_op S (by decide +kernel))).trans (map_sh _ 1 1)
  · refine (skip_R good_op op_ok (good_A _ _ _ _) (op_pass (by decide +kernel) (by decide +kernel) (by decide))).trans ?_
    show List.map (shO 1) (R opT opA _ (48 :: sepN w a b)) = _
    exact (congrArg _ (sep_op S (by decide +kernel))).trans (map_sh _ 1 1)
  · exact sep_op S (by decide +kernel)
  · exact sep_op S (by decide +kernel)
  · exact sep_op S (by decide +kernel)
theorem op_tl : ∀ t ∈ tailsN, isNil (hits opT none 0 t) = true := by decide +kernel
theorem end_op {t : List Nat} (h : t ∈ tailsN) (q : Option Nat) : R opT opA q (t ++ []) = ([] : List Out).map (shO t.length) := by
  rw [List.append_nil]
  refine R_none ?_
  rw [hits_prev good_op (prev' := none) rfl]
  exact isNil_eq (op_tl t h)
def okT : List Nat → Bool
  | [] => true
  | c :: r => !isSp c && (kwFirst kwWords (c :: r)).isNone && !isCm c && okT r
theorem okT_all : ∀ t ∈ tailsN, okT t = true := by decide +kernel
theorem skip_kw {s : List Nat} (hs : ∀ c r, s = c :: r → noKw c = true ∧ PySem.Sre.isWordUni c = false) : ∀ {t : List Nat} {prev : Option Nat}, okT t = true → ∃ q, R kwTry kwA prev (t ++ s) = (R kwTry kwA q s).map (shO t.length)
  | [], prev, _ => ⟨prev, (map_sh0 _).symm⟩
  | c :: r, prev, h => by
    simp only [okT, Bool.and_eq_true, Bool.not_eq_true', Option.isNone_iff_eq_none] at h
    obtain ⟨⟨⟨h1, h2⟩, h3⟩, h4⟩ := h
    obtain ⟨q, hq⟩ := skip_kw hs (prev := some c) h4
    refine ⟨q, ?_⟩
    have hn : kwTry prev 0 (c :: (r ++ s)) = none := kw_quiet (by
      rw [runL_no h1, List.drop_zero, show c :: (r ++ s) = (c :: r) ++ s from rfl, kw_b hs, h2])
    rw [List.cons_append, skip_R good_kw kw_ok (good_A _ _ _ _) hn, hq, map_sh]
    rfl
theorem skip_cm {s : List Nat} : ∀ {t : List Nat} {prev : Option Nat}, okT t = true → ∃ q, R cmT OC prev (t ++ s) = (R cmT OC q s).map (shO t.length)
  | [], prev, _ => ⟨prev, (map_sh0 _).symm⟩
  | c :: r, prev, h => by
    simp only [okT, Bool.and_eq_true, Bool.not_eq_true'] at h
    obtain ⟨⟨⟨h1, h2⟩, h3⟩, h4⟩ := h
    obtain ⟨q, hq⟩ := skip_cm (s := s) (prev := some c) h4
    refine ⟨q, ?_⟩
    have hn : cmT prev 0 (c :: (r ++ s)) = none := by
      show cmTry 0 (c :: (r ++ s)) = none
      simp only [cmTry]
      rw [if_neg (by rw [h3]; exact Bool.false_ne_true)]
    rw [List.cons_append, skip_R good_cm cm_ok good_C hn, hq, map_sh]
    rfl
theorem tail_kw {w a b : Str} (S : SepOk w a b) (hs : ∀ c r, sepN w a b = c :: r → noKw c = true ∧ PySem.Sre.isWordUni c = false) {t : List Nat} (h : t ∈ tailsN) (q : Option Nat) : R kwTry kwA q (t ++ sepN w a b) = (sepL 0 w a b noL).words.map (shO t.length) := by
  obtain ⟨q', e⟩ := skip_kw hs (prev := q) (okT_all t h)
  rw [e, sep_kw S]
theorem end_kw {t : List Nat} (h : t ∈ tailsN) (q : Option Nat) : R kwTry kwA q (t ++ []) = ([] : List Out).map (shO t.length) := by
  obtain ⟨q', e⟩ := skip_kw (s := []) (fun _ _ h => by cases h) (prev := q) (okT_all t h)
  rw [e, R_none (by rw [hits_step good_kw]; rfl)]
theorem tail_cm {w a b : Str} (S : SepOk w a b) {t : List Nat} (h : t ∈ tailsN) (q : Option Nat) : R cmT OC q (t ++ sepN w a b) = (sepL 0 w a b noL).commas.map (shO t.length) := by
  obtain ⟨q', e⟩ := skip_cm (s := sepN w a b) (prev := q) (okT_all t h)
  rw [e, sep_cm S]
theorem end_cm {t : List Nat} (h : t ∈ tailsN) (q : Option Nat) : R cmT OC q (t ++ []) = ([] : List Out).map (shO t.length) := by
  obtain ⟨q', e⟩ := skip_cm (s := []) (prev := q) (okT_all t h)
  rw [e, R_none (by rw [hits_step good_cm]; rfl)]
/-! one operand and what stands behind it -/
theorem stepT {groups : Nat} {T : Try} {O : Tell} (G : GoodT T) (K : TryOk groups T) (OG : GoodO O) {ln I t s : List Nat} {X : List Out} (h1 : Local T ln (I ++ (t ++ s))) (h2 : Local T I (t ++ s)) (h3 : ∀ q, R T O q I = []) (h4 : ∀ q, R T O q (t ++ s) = X.map (shO t.length)) :
    R T O none (ln ++ (I ++ (t ++ s))) = R T O none ln ++ X.map (shO (ln.length + (I.length + t.length))) := by
  rw [R_append G K OG h1, R_append G K OG h2, h3, h4, List.nil_append, map_sh, map_sh]
  congr 3
  omega
theorem loc_op {u v : List Nat} (h : HeadIn allH v) : Local opT u v :=
  op_local (h.all fun c hc => (allH_ok c hc).1) (h.all fun c hc => (allH_ok c hc).2.1) (h.all fun c hc => ⟨(allH_ok c hc).2.2.1, (allH_ok c hc).2.2.2.1⟩)
theorem loc_cm {u v : List Nat} (h : HeadIn allH v) : Local cmT u v := cm_local (h.all fun c hc => (allH_ok c hc).1)
theorem nil_op {I t : List Nat} (H : OpdN I t) (q : Option Nat) : R opT opA q I = [] := by
  refine R_none ?_
  rw [hits_prev good_op (prev' := none) rfl]
  cases H with
  | plain => rw [hits_step good_op]; rfl
  | br o a t b h1 h2 h3 h4 => exact isNil_eq (op_br o.1 ((by decide +kernel : ∀ o ∈ pairsN, o.1 ∈ opensN) o h1) a h2 t h3 b h4)
theorem nil_cm {I t : List Nat} (H : OpdN I t) (q : Option Nat) : R cmT OC q I = [] := by
  refine R_none ?_
  rw [hits_prev good_cm (prev' := none) rfl]
  cases H with
  | plain => rw [hits_step good_cm]; rfl
  | br o a t b h1 h2 h3 h4 => exact isNil_eq (cm_br o.1 ((by decide +kernel : ∀ o ∈ pairsN, o.1 ∈ opensN) o h1) a h2 t h3 b h4)
theorem open_sp : ∀ o ∈ pairsN, isSp o.1 = false ∧ o.1 ∈ opensN ∧ noKw o.2 = true ∧ PySem.Sre.isWordUni o.2 = false := by decide +kernel
theorem nil_kw {I t : List Nat} (H : OpdN I t) (q : Option Nat) : R kwTry kwA q I = [] := by
  refine R_none ?_
  cases H with
  | plain => rw [hits_step good_kw]; rfl
  | br o a t b h1 h2 h3 h4 =>
    have h := open_sp o h1
    have k := kw_br o.1 h.2.1 a h2 t h3 b h4
    rw [Bool.and_eq_true, Option.isNone_iff_eq_none] at k
    rw [kw_prev (prev' := none) h.1 k.2]
    exact isNil_eq k.1
theorem none_kw {t s : List Nat} (ht : t ∈ tailsN) (hs : ∀ c r, s = c :: r → noKw c = true ∧ PySem.Sre.isWordUni c = false) : kwFirst kwWords (t ++ s) = none := by
  rw [kw_b hs]
  exact Option.isNone_iff_eq_none.mp ((by decide +kernel : ∀ t ∈ tailsN, (kwFirst kwWords t).isNone = true) t ht)
theorem loc_kw {ln I t s : List Nat} (H : OpdN I t) (hs : ∀ c r, s = c :: r → noKw c = true ∧ PySem.Sre.isWordUni c = false) (he : ln = [] ∨ ∃ z, ln.getLast? = some z ∧ noKw z = true) :
    Local kwTry ln (I ++ (t ++ s)) ∧ Local kwTry I (t ++ s) := by
  have hn := none_kw H.tail hs
  constructor
  · refine kw_local ?_ ?_ (he.imp id .inl)
    · rw [← List.append_assoc]
      exact (H.head.up.app (s := s)).all fun c hc => (allH_ok c hc).1
    · cases H with
      | plain => exact hn
      | br o a t b h1 h2 h3 h4 =>
        have h := open_sp o h1
        have k := kw_br o.1 h.2.1 a h2 t h3 b h4
        rw [Bool.and_eq_true, Option.isNone_iff_eq_none] at k
        rw [kw_b (fun c r e => by cases e; exact h.2.2), k.2]
  · refine kw_local ((tail_head H.tail).app.all fun c hc => (allH_ok c hc).1) hn ?_
    cases H with
    | plain => exact .inl rfl
    | br o a t b h1 h2 h3 h4 => exact .inr (.inr fun c r e => by cases e; exact (open_sp o h1).2.2)
end Mine

end

/-! ## LPl10 -/
section
open PySem PySem.W PyProof.Rows PySem.Calls
namespace Mine
set_option maxRecDepth 100000
set_option linter.unusedVariables false

/-! the law: what is built is what is told -/
def hdOk : List Nat → Bool
  | c :: _ => noKw c && !PySem.Sre.isWordUni c && c != 61
  | [] => false
def lsOk (l : List Nat) : Bool := match l.getLast? with
  | some z => noKw z
  | none => false
theorem hd_kw : ∀ w ∈ kwN, ∀ a ∈ gapsP, hdOk (a ++ w) = true := by decide +kernel
theorem hd_no : ∀ w ∈ cmN ++ sgN, ∀ a ∈ gapsN, hdOk (a ++ w) = true := by decide +kernel
theorem ls_kw : ∀ w ∈ kwN, ∀ b ∈ gapsP, lsOk (w ++ b) = true := by decide +kernel
theorem ls_no : ∀ w ∈ cmN ++ sgN, ∀ b ∈ gapsN, lsOk (w ++ b) = true := by decide +kernel
theorem cm_mem {c : Nat} (hk : c ∈ ([44, 59] : List Nat)) : [c] ∈ cmN ++ sgN := by
  simp only [List.mem_cons, List.not_mem_nil, or_false] at hk
  rcases hk with rfl | rfl <;> decide +kernel
section
variable {w a b : Str} (S : SepOk w a b)
include S
theorem sep_hd : ∀ c r, sepN w a b = c :: r → noKw c = true ∧ PySem.Sre.isWordUni c = false ∧ c ≠ 61 := by
  have h : hdOk (lst a ++ lst w) = true := by
    cases cls S.w with
    | cm k hk hw h1 => rw [hw, lst_one]; exact hd_no _ (cm_mem hk) _ (gap_n a S.a)
    | kw hk h1 h2 => exact hd_kw _ hk _ (gap_p a S.a (S.na h2))
    | sg hk h1 h2 => exact hd_no _ (List.mem_append_right _ hk) _ (gap_n a S.a)
  intro c r e
  unfold sepN at e
  cases hq : lst a ++ lst w with
  | nil => rw [hq] at h; cases h
  | cons x y =>
    rw [hq] at h e
    cases e
    simpa [hdOk, and_assoc] using h
theorem sep_last : ∃ z, (sepN w a b).getLast? = some z ∧ noKw z = true := by
  have h : lsOk (lst w ++ lst b) = true := by
    cases cls S.w with
    | cm k hk hw h1 => rw [hw, lst_one]; exact ls_no _ (cm_mem hk) _ (gap_n b S.b)
    | kw hk h1 h2 => exact ls_kw _ hk _ (gap_p b S.b (S.nb h2))
    | sg hk h1 h2 => exact ls_no _ (List.mem_append_right _ hk) _ (gap_n b S.b)
  unfold sepN
  unfold lsOk at h
  rw [List.append_assoc, List.getLast?_append]
  cases hq : (lst w ++ lst b).getLast? with
  | none => rw [hq] at h; cases h
  | some z => rw [hq] at h; exact ⟨z, rfl, h⟩
end
/-! brackets and blanks -/
theorem headI_close : ∀ c ∈ headI, isClose c = false ∧ isBl c = false ∧ c ≠ 61 := by decide +kernel
theorem loc_ex1 {ln v : List Nat} (h : HeadIn headI v) : Local exT ln v :=
  ex_local (h.all fun c hc => (headI_close c hc).2.2) fun a z c r _ e => by
    have k := h.all headI_close c r e
    rw [k.1, k.2.1, Bool.and_false, Bool.and_false]
    exact ⟨rfl, rfl⟩
def lastT : List Nat := [97, 49, 48, 41, 93, 125]
theorem lastT_ok : ∀ z ∈ lastT, isOpen z = false ∧ isBl z = false ∧ z ≠ 44 := by decide +kernel
theorem tail_last {t ln I : List Nat} (h : t ∈ tailsN) : ∃ z, (ln ++ (I ++ t)).getLast? = some z ∧ z ∈ lastT := by
  rw [← List.append_assoc, List.getLast?_append]
  simp only [tailsN, List.mem_cons, List.not_mem_nil, or_false] at h
  rcases h with rfl | rfl | rfl | rfl | rfl | rfl <;> exact ⟨_, rfl, by decide +kernel⟩
theorem loc_ex2 {u s : List Nat} {z : Nat} (hz : u.getLast? = some z) (hl : z ∈ lastT) (hs : ∀ c r, s = c :: r → c ≠ 61) : Local exT u s :=
  ex_local hs fun a z' c r e _ => by
    rw [e, List.getLast?_append] at hz
    have hzz : z' = z := Option.some.inj hz
    subst hzz
    have k := lastT_ok z' hl
    rw [k.1, k.2.1]
    exact ⟨rfl, rfl⟩
theorem pv_last {u : List Nat} {z : Nat} (hz : u.getLast? = some z) : pv none u.length u = some z := by
  unfold pv
  rw [if_neg (fun h => by rw [List.length_eq_zero_iff.mp h] at hz; cases hz), ← List.getLast?_eq_getElem?]
  exact hz
theorem ex_plain : ∀ t ∈ plainN, isNil (hits exT none 0 t) = true := by decide +kernel
/-- an operand, read off -/
structure OpdIs (line line1 : Str) (ed : List Out) (I t : List Nat) (e0 : List Out) : Prop where
  opd : OpdN I t
  l : lst line1 = lst line ++ (I ++ t)
  e : ed = e0.map (shO line.length)
  r : R exT OX none (I ++ t) = e0
theorem br_pair : ∀ k, k < 3 → ∃ o ∈ pairsN, openB k = ⟨#[o.1]⟩ ∧ closeB k = ⟨#[o.2]⟩
  | 0, _ => ⟨(40, 41), by decide +kernel, by decide +kernel, by decide +kernel⟩
  | 1, _ => ⟨(91, 93), by decide +kernel, by decide +kernel, by decide +kernel⟩
  | 2, _ => ⟨(123, 125), by decide +kernel, by decide +kernel, by decide +kernel⟩
theorem core_n : ∀ t ∈ (["a", "b1"] : List Str), lst t ∈ coreN := by decide +kernel
theorem plain_n : ∀ t ∈ (["a", "b1", "10"] : List Str), lst t ∈ plainN := by decide +kernel
theorem opd_is {line line1 : Str} {ed : List Out} (h : OpdR line line1 ed) : ∃ I t e0, OpdIs line line1 ed I t e0 := by
  cases h with
  | plain t ht => exact ⟨[], lst t, [], .plain _ (plain_n t ht), lst_append _ _, rfl, R_none (isNil_eq (ex_plain _ (plain_n t ht)))⟩
  | br k a b t hk ha hb ht =>
    obtain ⟨o, ho, e1, e2⟩ := br_pair k hk
    rw [e1, e2]
    refine ⟨_, _, _, .br o (lst a) (lst t) (lst b) ho (gap_n a ha) (core_n t ht) (gap_n b hb), ?_, ?_, rfl⟩
    · simp only [lst_append, lst_one, List.append_assoc, List.cons_append, List.nil_append]
    · have k := ex_br o ho (lst a) (gap_n a ha) (lst t) (core_n t ht) (lst b) (gap_n b hb)
      unfold R
      rw [show o.1 :: (lst a ++ lst t ++ lst b) ++ [o.2] = o.1 :: (lst a ++ lst t ++ lst b ++ [o.2]) from rfl, flatMap_ext (g := fun h => rdX (smX none (o.1 :: (lst a ++ lst t ++ lst b ++ [o.2])) h)) fun h _ => OX_sm _ _ _, flatMap_map', k, List.flatMap_append, List.map_append]
      congr 1
      · by_cases hz : a = ("" : Str)
        · rw [if_pos (lst_nil.mpr hz), if_pos hz]; rfl
        · rw [if_neg (fun h => hz (lst_nil.mp h)), if_neg hz, List.flatMap_cons, List.flatMap_nil, List.append_nil]
          unfold rdX
          dsimp only
          rw [if_pos rfl, List.map_cons, List.map_nil]
          unfold shO
          dsimp only
          congr 2
          omega
      · by_cases hz : b = ("" : Str)
        · rw [if_pos (lst_nil.mpr hz), if_pos hz]; rfl
        · rw [if_neg (fun h => hz (lst_nil.mp h)), if_neg hz, List.flatMap_cons, List.flatMap_nil, List.append_nil]
          unfold rdX
          dsimp only
          rw [if_neg Bool.false_ne_true, if_pos rfl, if_pos rfl, e202, List.map_cons, List.map_nil]
          unfold shO
          dsimp only
          congr 2
          rw [strLen, strLen, strLen, lst_len, lst_len, lst_len, show (⟨#[o.1]⟩ : Str).length = 1 from rfl]
          omega
/-! the four lists hold -/
structure Inv (x : Str) (L : Lists) : Prop where
  op : R opT opA none (lst x) = L.signs
  kw : R kwTry kwA none (lst x) = L.words
  cm : R cmT OC none (lst x) = L.commas
  ex : R exT OX none (lst x) = L.edges
def EndOk (x : Str) : Prop := lst x = [] ∨ ∃ z, (lst x).getLast? = some z ∧ noKw z = true
theorem inv_opd {line line1 : Str} {ed : List Out} {L : Lists} (V : Inv line L) (E : EndOk line) (h : OpdR line line1 ed) : Inv line1 { L with edges := L.edges ++ ed } := by
  obtain ⟨I, t, e0, D⟩ := opd_is h
  have H := D.opd
  have hl : lst line1 = lst line ++ (I ++ (t ++ [])) := by rw [List.append_nil]; exact D.l
  have k := loc_kw (ln := lst line) (s := []) H (fun _ _ h => by cases h) E
  refine ⟨?_, ?_, ?_, ?_⟩
  · rw [hl, stepT good_op op_ok (good_A _ _ _ _) (loc_op (by rw [List.append_nil]; exact H.head.up)) (loc_op (tail_head H.tail).app) (nil_op H) (end_op H.tail), V.op, List.map_nil, List.append_nil]
  · rw [hl, stepT good_kw kw_ok (good_A _ _ _ _) k.1 k.2 (nil_kw H) (end_kw H.tail), V.kw, List.map_nil, List.append_nil]
  · rw [hl, stepT good_cm cm_ok good_C (loc_cm (by rw [List.append_nil]; exact H.head.up)) (loc_cm (tail_head H.tail).app) (nil_cm H) (end_cm H.tail), V.cm, List.map_nil, List.append_nil]
  · rw [D.l, R_append good_ex ex_ok good_X (loc_ex1 H.head), V.ex]
    obtain ⟨c, r, e, hc⟩ := H.head
    rw [e, X_prev (headI_close c hc).2.1, ← e, D.r, lst_len, ← D.e]
theorem inv_sep {line line1 w a b : Str} {ed : List Out} {L : Lists} (V : Inv line L) (E : EndOk line) (h : OpdR line line1 ed) (S : SepOk w a b) :
    Inv (line1 ++ a ++ w ++ b) (sepL line1.length w a b { L with edges := L.edges ++ ed }) ∧ EndOk (line1 ++ a ++ w ++ b) := by
  obtain ⟨I, t, e0, D⟩ := opd_is h
  have V1 := inv_opd V E h
  have H := D.opd
  have hx : lst (line1 ++ a ++ w ++ b) = lst line1 ++ sepN w a b := by
    unfold sepN
    simp only [lst_append, List.append_assoc]
  have hl : lst (line1 ++ a ++ w ++ b) = lst line ++ (I ++ (t ++ sepN w a b)) := by rw [hx, D.l]; simp only [List.append_assoc]
  have hn : line1.length = (lst line).length + (I.length + t.length) := by rw [← lst_len, D.l, List.length_append, List.length_append]
  have hs := sep_hd S
  have hs' : ∀ c r, sepN w a b = c :: r → noKw c = true ∧ PySem.Sre.isWordUni c = false := fun c r e => ⟨(hs c r e).1, (hs c r e).2.1⟩
  have k := loc_kw (ln := lst line) (s := sepN w a b) H hs' E
  have N := sep_sh line1.length w a b { L with edges := L.edges ++ ed }
  have hh : HeadIn allH (I ++ (t ++ sepN w a b)) := by rw [← List.append_assoc]; exact H.head.up.app
  refine ⟨⟨?_, ?_, ?_, ?_⟩, ?_⟩
  · rw [hl, stepT good_op op_ok (good_A _ _ _ _) (loc_op hh) (loc_op (tail_head H.tail).app) (nil_op H) (tail_op S H.tail), V.op, N.signs, hn]
  · rw [hl, stepT good_kw kw_ok (good_A _ _ _ _) k.1 k.2 (nil_kw H) (tail_kw S hs' H.tail), V.kw, N.words, hn]
  · rw [hl, stepT good_cm cm_ok good_C (loc_cm hh) (loc_cm (tail_head H.tail).app) (nil_cm H) (tail_cm S H.tail), V.cm, N.commas, hn]
  · obtain ⟨z, hz, hzl⟩ := tail_last (ln := lst line) (I := I) H.tail
    rw [← D.l] at hz
    rw [hx, R_append good_ex ex_ok good_X (loc_ex2 hz hzl fun c r e => (hs c r e).2.2), V1.ex, pv_last hz, sep_ex S (lastT_ok z hzl).2.2, N.edges, lst_len]
  · obtain ⟨z, hz, hk⟩ := sep_last S
    refine .inr ⟨z, ?_, hk⟩
    rw [hx, List.getLast?_append, hz]
    rfl
theorem inv_built {k : Nat} {line : Str} {L : Lists} (h : Built k line L) : Inv line L ∧ EndOk line := by
  induction h with
  | nil => exact ⟨⟨R_none (by rw [hits_step good_op]; rfl), R_none (by rw [hits_step good_kw]; rfl), R_none (by rw [hits_step good_cm]; rfl), R_none (by rw [hits_step good_ex]; rfl)⟩, .inl rfl⟩
  | step _ ho hs ih => exact inv_sep ih.1 ih.2 ho hs
theorem inv_done {line : Str} {L : Lists} (h : Done line L) : Inv line L := by
  cases h with
  | mk hb hk ho => exact inv_opd (inv_built hb).1 (inv_built hb).2 ho
/-! the line's first sign -/
def HeadOk (x : Str) : Prop := lst x = [] ∨ HeadIn headI (lst x)
theorem head_opd {line line1 : Str} {ed : List Out} (h : OpdR line line1 ed) (k : HeadOk line) : HeadIn headI (lst line1) := by
  obtain ⟨I, t, e0, D⟩ := opd_is h
  rw [D.l]
  rcases k with k | k
  · rw [k, List.nil_append]; exact D.opd.head
  · exact k.app
theorem head_built {k : Nat} {line : Str} {L : Lists} (h : Built k line L) : HeadOk line := by
  induction h with
  | nil => exact .inl rfl
  | step _ ho hs ih =>
    refine .inr ?_
    simp only [lst_append, List.append_assoc]
    exact (head_opd ho ih).app
theorem head_done {line : Str} {L : Lists} (h : Done line L) : HeadIn headI (lst line) := by
  cases h with
  | mk hb hk ho => exact head_opd ho (head_built hb)
end Mine

end

/-! ## LPl11 -/
section
open PySem PySem.W PyProof.Rows PySem.Calls
namespace Mine
set_option maxRecDepth 100000
set_option linter.unusedVariables false

/-! the four lists are short, and of plain text -/
structure FewO (n : Nat) (l : List Out) : Prop where
  len : l.length ≤ n
  ok : ∀ o ∈ l, PyData.strOk o.2 = true
theorem FewO.app {n m : Nat} {l r : List Out} (h : FewO n l) (k : FewO m r) : FewO (n + m) (l ++ r) :=
  ⟨by rw [List.length_append]; have := h.len; have := k.len; omega, fun o ho => (List.mem_append.mp ho).elim (h.ok o) (k.ok o)⟩
theorem FewO.up {n m : Nat} {l : List Out} (h : FewO n l) (k : n ≤ m) : FewO m l := ⟨Nat.le_trans h.len k, h.ok⟩
theorem fewO_nil : FewO 0 [] := ⟨Nat.le_refl _, fun _ h => by cases h⟩
theorem fewO_one {i : Int} {y : Str} (h : PyData.strOk y = true) : FewO 1 [(i, y)] := ⟨Nat.le_refl _, fun o ho => by rw [List.mem_singleton] at ho; subst ho; exact h⟩
theorem fewO_if {P : Prop} [Decidable P] {l : List Out} (h : FewO 1 l) : FewO 1 (if P then [] else l) := by
  split
  · exact fewO_nil.up (by omega)
  · exact h
theorem fewO_told {p : Int} {g t b : Str} (ht : PyData.strOk t = true) (hb : PyData.strOk b = true) : FewO 1 (toldO p g t b) := by
  unfold toldO
  split
  · exact fewO_one ht
  · split
    · exact fewO_one hb
    · exact fewO_nil.up (by omega)
theorem ok_app {x y : Str} (h : PyData.strOk x = true) (k : PyData.strOk y = true) : PyData.strOk (x ++ y) = true := by
  show (x.cps ++ y.cps).all _ = true
  rw [Array.all_append, Bool.and_eq_true]
  exact ⟨h, k⟩
theorem ok_words : ∀ w ∈ wordsL, PyData.strOk w = true := by decide +kernel
theorem ok_open : ∀ k, k < 3 → PyData.strOk (openB k) = true ∧ PyData.strOk (closeB k) = true
  | 0, _ => by decide +kernel
  | 1, _ => by decide +kernel
  | 2, _ => by decide +kernel
theorem fewO_opd {line line1 : Str} {ed : List Out} (h : OpdR line line1 ed) : FewO 2 ed := by
  cases h with
  | plain => exact fewO_nil.up (by omega)
  | br k a b t hk ha hb ht =>
    have o := ok_open k hk
    exact (fewO_if (fewO_one (ok_app (ok_app (by decide +kernel) o.1) (by decide +kernel)))).app (fewO_if (fewO_one (ok_app (ok_app (by decide +kernel) o.2) (by decide +kernel))))
structure FewQ (n : Nat) (L : Lists) : Prop where
  signs : FewO n L.signs
  words : FewO n L.words
  commas : FewO n L.commas
  edges : FewO n L.edges
theorem fewO_sep {n m : Nat} {w a b : Str} {L : Lists} (hw : w ∈ wordsL) (F : FewQ n L) : FewQ (n + 2) (sepL m w a b L) := by
  have o := ok_words w hw
  by_cases h1 : w ∈ ([",", ";"] : List Str)
  · constructor <;> unfold sepL <;> simp only [if_pos h1]
    · exact F.signs.up (by omega)
    · exact F.words.up (by omega)
    · exact (F.commas.app (fewO_told (ok_app (ok_app (by decide +kernel) o) (by decide +kernel)) (ok_app (ok_app (by decide +kernel) o) (by decide +kernel)))).up (by omega)
    · exact (F.edges.app (fewO_if (fewO_one (ok_app (ok_app (by decide +kernel) o) (by decide +kernel))))).up (by omega)
  · by_cases h2 : w ∈ namedL
    · constructor <;> unfold sepL <;> simp only [if_neg h1, if_pos h2]
      · exact F.signs.up (by omega)
      · exact (F.words.app (fewO_told (by decide +kernel) (by decide +kernel))).app (fewO_told (by decide +kernel) (by decide +kernel))
      · exact F.commas.up (by omega)
      · exact F.edges.up (by omega)
    · constructor <;> unfold sepL <;> simp only [if_neg h1, if_neg h2]
      · exact (F.signs.app (fewO_told (by decide +kernel) (by decide +kernel))).app (fewO_told (by decide +kernel) (by decide +kernel))
      · exact F.words.up (by omega)
      · exact F.commas.up (by omega)
      · exact F.edges.up (by omega)
theorem FewQ.opd {n : Nat} {L : Lists} {line line1 : Str} {ed : List Out} (F : FewQ n L) (h : OpdR line line1 ed) : FewQ (n + 2) { L with edges := L.edges ++ ed } :=
  ⟨F.signs.up (by omega), F.words.up (by omega), F.commas.up (by omega), F.edges.app (fewO_opd h)⟩
theorem FewQ.up {n m : Nat} {L : Lists} (h : FewQ n L) (k : n ≤ m) : FewQ m L := ⟨h.signs.up k, h.words.up k, h.commas.up k, h.edges.up k⟩
theorem fewO_built {k : Nat} {line : Str} {L : Lists} (h : Built k line L) : FewQ (4 * k) L := by
  induction h with
  | nil => exact ⟨fewO_nil, fewO_nil, fewO_nil, fewO_nil⟩
  | step _ ho hs ih =>
    exact (fewO_sep hs.w (ih.opd ho)).up (by omega)
theorem fewO_done {line : Str} {L : Lists} (h : Done line L) : FewQ 1000 L := by
  cases h with
  | mk hb hk ho =>
    have := (fewO_built hb).opd ho
    exact ⟨this.signs.up (by omega), this.words.up (by omega), this.commas.up (by omega), this.edges.up (by omega)⟩
/-- a char ahead of a place -/
theorem item_44 {x : Str} {s : Nat} (h1 : s ≠ 0) (h2 : s ≤ x.length) : (Txt.item x ((s : Int) - 1) != ("," : Str)) = ((lst x)[s - 1]? != some 44) := by
  have e : Txt.item x ((s : Int) - 1) = ⟨#[x.cps.getD (s - 1) 0]⟩ := by
    unfold Txt.item Txt.charAt
    have : seqIndex? ((s : Int) - 1) x.length = some (s - 1) := by
      unfold seqIndex?
      simp only [show ¬ ((s : Int) - 1) < 0 by omega, if_false]
      rw [if_pos (by simp; omega)]
      congr 1
      omega
    rw [this]
    simp only [Option.bind_some]
    rw [Array.getD_eq_getD_getElem?]
  have hs : s - 1 < x.cps.size := by have : x.length = x.cps.size := rfl; omega
  have e2 : (lst x)[s - 1]? = some (x.cps.getD (s - 1) 0) := by
    unfold lst
    rw [Array.getElem?_toList, Array.getD_eq_getD_getElem?, Array.getElem?_eq_getElem hs]
    rfl
  rw [e, e2, Bool.eq_iff_iff, bne_iff_ne, bne_iff_ne]
  have e3 : ("," : Str) = ⟨#[44]⟩ := by decide +kernel
  rw [e3]
  refine not_congr ⟨fun h => ?_, fun h => ?_⟩
  · exact congrArg some (congrArg (fun y : Str => y.cps.getD 0 0) h)
  · rw [Option.some.inj h]
theorem outsX_eq {x : Str} {h : Hit} {c : Nat} {r : List Nat} (hx : lst x = c :: r) (hc : isBl c = false) (hm : h ∈ hits exT none 0 (lst x)) : outsX x h = OX none (lst x) h := by
  have hin := hits_in good_ex ex_ok hm
  unfold outsX OX
  rw [sub_eq]
  show (if Txt.isspace (Txt.item (subL (lst x) h.s h.e) (-1)) then _ else _) = _
  by_cases hs : h.s = 0
  · rw [hx] at hm
    have := ex_zero hc hm hs
    rw [← hx] at this
    rw [this, if_pos rfl, if_pos rfl]
    rfl
  · rw [item_44 hs (by have := hin.lt; have := hin.le; rw [lst_len] at this; omega)]
    unfold pv
    rw [if_neg hs]
    rfl
theorem plain_law {line : Str} {Q : Lists} (D : Done line Q) : PlainOk line Q := by
  have V := inv_done D
  have F := fewO_done D
  obtain ⟨c, r, hx, hc⟩ := head_done D
  have hl := Done.len D
  refine ⟨?_, ?_, ?_, ?_, ?_, ?_, ⟨F.signs.len, F.signs.ok⟩, ⟨F.words.len, F.words.ok⟩, ⟨F.commas.len, F.commas.ok⟩, ⟨F.edges.len, F.edges.ok⟩⟩
  · rw [outs_eq good_op op_ok line (O := opA) fun h _ => by rw [outsA_eq line _ _ _ _ none]]
    exact V.op
  · rw [outs_eq good_kw kw_ok line (O := kwA) fun h _ => by rw [outsA_eq line _ _ _ _ none]]
    exact V.kw
  · rw [outs_eq good_cm cm_ok line (O := OC) fun h _ => by rw [outsC_eq line none]]
    exact V.cm
  · rw [outs_eq good_ex ex_ok line (O := OX) fun h hm => outsX_eq hx (headI_close c hc).2.1 hm]
    exact V.ex
  · intro _ h
    have e : (lst line)[0]? = some c := by rw [hx]; rfl
    unfold lst at e
    rw [Array.getElem?_toList] at e
    rw [Array.getD_eq_getD_getElem?, e] at h
    exact (allH_ok c (headI_all c hc)).2.2.2.2.2.1 h
  · have : line.length = line.cps.size := rfl
    omega
end Mine

end

/-! ## LTop -/
section
open PySem PySem.W PyProof.Rows PySem.Calls
namespace Mine
set_option maxRecDepth 100000
set_option linter.unusedVariables false

/-- the walk, with what stands at the law's call given -/
theorem core {prog : Program} {w : World} {s : Shared} {a : Addr} {mg mb : Str → Option Value} {mean : ExcName → Option Value} {P : Params} {l : OpenLaw} {cl : Str → Option Addr} {args : List WData} {vals : List Value} {as : List Addr} {R : WRecords} {q : Program} {loose : List Str} {F : Params → Frag} (O : HdOk q loose F) (T : Top q (looseW q loose) mean mg mb s.heap) (K : (F P).In s.heap) (PL : ∀ line Q, Done line Q → PlainOk line Q)
    (ha : mg "law" = some (.ref a)) (hg : s.gens = #[]) (hp : l.row.toRowW.claim.pre args = true) (hl : WData.layableAll args = true) (hr : ReadsAllW R cl s.heap vals args as) {cl' : Str → Option Addr} {mean' : ExcName → Option Value} {E : Value → Shared → Prop} :
    wpR (modelA prog w) callerA (PySem.call (.ref a) vals) (fun v s' => GoodWG l.row.toRowW.claim cl' mean' args s (.ok (.ret v)) s') E s := by
  have G : GNs s.heap mg mb := gns_of T O.fr0
  have Tx0 : Tx s.heap mg mb := ⟨G, T.nolimit, fnAt_of T O.fd13, fnAt_of T O.fd12, fnAt_of T O.fd14, fnAt_of T O.fd15⟩
  have k1 := gok_of K G (O.nm1 _) (O.pt1 _)
  have k2 := gok_of K G (O.nm2 _) (O.pt2 _)
  have k3 := gok_of K G (O.nm3 _) (O.pt3 _)
  have k4 := gok_of K G (O.nm4 _) (O.pt4 _)
  have k5 := gok_of K G (O.nm5 _) (O.pt5 _)
  have f7 : FnAt s.heap mg "extraneous_whitespace" 7 := fnAt_of T O.fd7
  have f8 : FnAt s.heap mg "whitespace_around_keywords" 8 := fnAt_of T O.fd8
  have f9 : FnAt s.heap mg "whitespace_around_operator" 9 := fnAt_of T O.fd9
  have f10 : FnAt s.heap mg "whitespace_around_comma" 10 := fnAt_of T O.fd10
  obtain ⟨sc, items, rfl, h1, h2, h3⟩ := items_of hp hl hr
  refine law_call rfl (by decide +kernel) (by decide +kernel) Tx0 (fnAt_of T O.fd16) ha (.of_eq hg) h1 h2 (by rw [sizeLine_eq]; omega) (fun AG hh hu line Q hd => ?_) fun s' k g o => good_true k g o
  have p := PL line Q hd
  exact ⟨⟨f7, f8, f9, f10, gives7 hh hu p.hx p.h0 k5 k4 p.ex, gives8 hh hu p.hx k2 p.kw, gives9 hh hu p.hx k1 p.op, gives10 hh hu p.hx k3 p.cm⟩, p.o1, p.o2, p.o3, p.o4⟩
theorem top_of (PL : ∀ line Q, Done line Q → PlainOk line Q) : Challenge.rw_fh0025_01.Holds := by
  refine Hd.hd fun q loose F XP YP d kwd O hY hn => ?_
  intro w s₀ s₁ mg mb G Y a o pm cd doc dV kV h1 h2 h3 h4 h5 h6 args vals as hp hl hr hw hs
  exact core O G.T (hY w _ Y) PL (hn ▸ h5) h6 hp hl hr
end Mine

end

theorem PySem.Challenge.cw_fh0025_01_holds : PySem.Challenge.rw_fh0025_01.Holds :=
  Mine.top_of fun _ _ d => Mine.plain_law d
