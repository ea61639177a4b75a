import PyProof.Rows.All
import Wide.All
import OpenK.AllK
import Wide.FinOn
import Lean
import PySem.Challenge.RW_er0025_01
set_option Elab.async false

section -- part Alt
set_option linter.unusedVariables false
open PySem PySem.W PyProof.Rows PySem.Calls
set_option maxRecDepth 100000
namespace Mine

/-- the question that a step of a scanner asks of the collector -/
def askCode : Code := .builtin "gc.ask" ⟨[rawInt 13], []⟩
def lifeAsk : Code := .builtin "lifetime.ask" ⟨[rawInt 13], []⟩
def isAsk : Code → Bool
  | .builtin id ⟨[.int 13 0], []⟩ => id == "gc.ask"
  | _ => false
theorem isAsk_eq {c : Code} (h : isAsk c = true) : c = askCode := by
  unfold isAsk at h
  split at h
  · rw [beq_iff_eq.mp h]; rfl
  · cases h
theorem entry_ask : entryFor table "gc.ask" = some Builtin.«gc.ask» := entryFor_of_fast (by rw [fastTable_eq_tree]; kernel_rfl)
theorem den_builtin {id : String} {args : Args} {b : Builtin} (hb : entryFor table id = some b) : denote table (.builtin id args) = b args := by rw [denote, hb]
theorem den_ask : denote table askCode = .pure (.again lifeAsk) := (den_builtin entry_ask).trans rfl

/-- as the table's meaning, but that question is answered at once -/
def denA (c : Code) : Sem Fin := if isAsk c = true then ret (.bool false) else denote table c
def modelA (prog : Program) (w : World) : Model := ⟨denA, prog, w⟩
theorem denA_ask : denA askCode = ret (.bool false) := if_pos rfl
theorem denA_of {c : Code} (h : isAsk c = false) : denA c = denote table c := if_neg (by rw [h]; exact Bool.false_ne_true)

theorem noAsk {prog : Program} {w : World} {Γ : Ctx} {p : Pos} {σ : List Frame} {s s' : Shared} {e : End} (hσ : σ = []) : ¬ Runs (model prog w) Γ p ((model prog w).den askCode) σ s e s' := by
  intro h
  have e' : (model prog w).den askCode = .pure (.again lifeAsk) := den_ask
  rw [e', hσ] at h
  cases h with
  | again hq _ => exact absurd hq (by simp [Code.quiet, Thread.loud, Thread.atCollectorCode, Thread.atExit, lifeAsk, rawInt])

theorem runs_den {prog : Program} {w : World} {Γ : Ctx} {p : Pos} {c : Code} {s s' : Shared} {e : End} (h : Runs (model prog w) Γ p ((model prog w).den c) [] s e s') (h' : Runs (modelA prog w) Γ p ((model prog w).den c) [] s e s') :
    Runs (modelA prog w) Γ p ((modelA prog w).den c) [] s e s' := by
  cases hc : isAsk c with
  | true => obtain rfl := isAsk_eq hc; exact absurd h (noAsk rfl)
  | false => rw [show (modelA prog w).den c = (model prog w).den c from denA_of hc]; exact h'

theorem runs_A {prog : Program} {w : World} {Γ : Ctx} {p : Pos} {t : Sem Fin} {σ : List Frame} {s s' : Shared} {e : End} (h : Runs (model prog w) Γ p t σ s e s') : Runs (modelA prog w) Γ p t σ s e s' := by
  induction h with
  | done => exact .done
  | raise => exact .raise
  | again hq h ih => exact .again hq (runs_den h ih)
  | rule _ ih => exact .rule ih
  | «at» _ ih => exact .at ih
  | load ho _ ih => exact .load ho ih
  | update ha _ ih => exact .update ha ih
  | loadIfAlive _ ih => exact .loadIfAlive ih
  | point _ ih => exact .point ih
  | alloc _ ih => exact .alloc ih
  | fresh _ ih => exact .fresh ih
  | ask _ ih => exact .ask ih
  | choose hn _ ih => exact .choose hn ih
  | os _ ih => exact .os ih
  | handled _ ih => exact .handled ih
  | genState hg _ ih => exact .genState hg ih
  | stack _ ih => exact .stack ih
  | thread _ ih => exact .thread ih
  | newGen _ ih => exact .newGen ih
  | call h _ ih ih' => exact .call (runs_den h ih) ih'
  | callSusp h ih => exact .callSusp (runs_den h ih)
  | yield => exact .yield
  | resumeFresh hg h hq _ ih ih' => exact .resumeFresh hg (runs_den h ih) hq ih'
  | resumeSuspended hg _ hq _ ih ih' => exact .resumeSuspended hg ih hq ih'
  | resumeJustStarted hg hv _ ih => exact .resumeJustStarted hg hv ih
  | resumeThrowFresh hg _ ih => exact .resumeThrowFresh hg ih
  | resumeRunning hg _ ih => exact .resumeRunning hg ih
  | resumeFinished hg _ ih => exact .resumeFinished hg ih
  | segRet _ _ ih ih' => exact .segRet ih ih'
  | segGen _ _ ih ih' => exact .segGen ih ih'
  | segSuspOut hs _ ih => exact .segSuspOut hs ih
  | segSuspGen hs _ hq _ ih ih' => exact .segSuspGen hs ih hq ih'

theorem wpCode_A {prog : Program} {w : World} {Γ : Ctx} {R : Result → Shared → Prop} {p : Pos} {s : Shared} (h : wpCode (model prog w) Γ R p s) : wpCode (modelA prog w) Γ R p s := by
  obtain ⟨r, s', hr, hR⟩ := h
  exact ⟨r, s', runs_den hr (runs_A hr), hR⟩

theorem wakes_A {prog : Program} {w : World} {Γ : Ctx} {p : Pos} {g : Nat} {r : Resume} {s s' : Shared} {res : GenResult} (h : Wakes (model prog w) Γ p g r s res s') : Wakes (modelA prog w) Γ p g r s res s' := by
  unfold Wakes at h ⊢
  cases hg : s.gens[g]? with
  | none => rw [hg] at h; exact h
  | some x =>
    rw [hg] at h
    cases x with
    | fresh c =>
      cases r with
      | throw x => exact h
      | send v =>
        cases v with
        | none => obtain ⟨e₁, s₁, h1, h2⟩ := h; exact ⟨e₁, s₁, runs_den h1 (runs_A h1), h2⟩
        | _ => exact h
    | suspended k₀ l₀ c₀ p₀ fs cl => obtain ⟨e₁, s₁, h1, h2⟩ := h; exact ⟨e₁, s₁, runs_A h1, h2⟩
    | running => exact h
    | finished => exact h

theorem wp_A {α : Type} {prog : Program} {w : World} {Γ : Ctx} (t : Sem α) : ∀ {Q : α → Pos → Shared → Prop} {E : Value → Pos → Shared → Prop} {p : Pos} {s : Shared}, Sem.wp (model prog w) Γ t Q E p s → Sem.wp (modelA prog w) Γ t Q E p s := by
  induction t with
  | pure | raise | unsupported | finish | yield | fork | await | register => intro Q E p s h; exact h
  | rule _ k ih | «at» _ k ih | alloc _ k ih | loadIfAlive _ k ih | point _ k ih | fresh k ih | ask k ih | os _ _ k ih | handled _ k ih | newGen _ k ih | stack k ih | thread k ih => intro Q E p s h; exact ih _ h
  | load a _ k ih | genState a k ih => intro Q E p s h; obtain ⟨o, ho, h⟩ := h; exact ⟨o, ho, ih _ h⟩
  | update a _ f k ih | choose _ _ k ih => intro Q E p s h; exact ⟨h.1, ih _ h.2⟩
  | call c h₀ g l k ih => intro Q E p s h; exact wpCode_A (wpCode_mono (fun r s' => ih r) h)
  | resume g r l k ih => intro Q E p s h; obtain ⟨res, s', hw, h⟩ := h; exact ⟨res, s', wakes_A hw, ih _ h⟩

theorem any_A {α : Type} {prog : Program} {w : World} {A : Around} {t : Sem α} {Q : α → Shared → Prop} {E : Value → Shared → Prop} {s : Shared} (h : wpAny (model prog w) A t Q E s) : wpAny (modelA prog w) A t Q E s :=
  fun Γ p hΓ => wp_A t (h Γ p hΓ)
theorem code_A {prog : Program} {w : World} {A : Around} {c : Code} {R : Result → Shared → Prop} {s : Shared} (h : codeAny (model prog w) A c R s) : codeAny (modelA prog w) A c R s :=
  fun Γ p hc hΓ => wpCode_A (h Γ p hc hΓ)
end Mine

end

section -- part Sim
set_option linter.unusedVariables false
open PySem PySem.W PyProof.Rows PySem.Calls
set_option maxRecDepth 100000
namespace Mine

theorem watching_asleep {s : Shared} (hr : s.asleep) : s.watching = false := by
  unfold Shared.watching; rw [hr.1]; rfl

theorem ask_turn {p : Params} {s : Shared} {t : Thread} (hr : s.asleep) : askTurn p [] s t [rawInt 13] = (s, { t with cur := ret (.bool false) }) := by
  show askTurn p [] s t [.int 13 0] = _
  unfold askTurn
  simp only [watching_asleep hr]
  simp

theorem sstep_ask {prog : Program} {w : World} {s : Shared} {code : Code} {pos : Pos} {stack : List Frame} (hr : s.asleep) :
    sstep (denote table) prog w (.single s ⟨.pure (.again lifeAsk), code, pos, stack⟩) = .go (.single s ⟨ret (.bool false), code, pos, stack⟩) := by
  have h1 : (Config.single s ⟨.pure (.again lifeAsk), code, pos, stack⟩).collect? w.params = none := by
    simp [Config.collect?, Config.single, watching_asleep hr]
  have h2 : (Config.single s ⟨.pure (.again lifeAsk), code, pos, stack⟩).collectable = [] := by
    simp [Config.collectable, Config.single, watching_asleep hr]
  have h3 : (Config.single s ⟨.pure (.again lifeAsk), code, pos, stack⟩).moves w.params.profile = [.run 0] := by
    simp [Config.moves, Config.single, movesFrom, Thread.moves]
  have h4 : (Config.single s ⟨.pure (.again lifeAsk), code, pos, stack⟩).pick w = .ok (.run 0, .single s ⟨.pure (.again lifeAsk), code, pos, stack⟩) := by
    simp only [Config.pick, h1, h2, Config.pickThread, h3]
    cases w.params.lifetimes <;> simp
  have h5 : ∀ others, others = [] → lifeStep (denote table) prog w others s ⟨.pure (.again lifeAsk), code, pos, stack⟩ = .go s ⟨ret (.bool false), code, pos, stack⟩ := by
    rintro _ rfl
    have sp : Thread.special ⟨.pure (.again lifeAsk), code, pos, stack⟩ = true := by simp [Thread.special, Thread.atCollectorCode, lifeAsk]
    have ct : collectorTurn? w.params [] s ⟨.pure (.again lifeAsk), code, pos, stack⟩ = some (s, ⟨ret (.bool false), code, pos, stack⟩) := by
      show some (askTurn w.params [] s ⟨.pure (.again lifeAsk), code, pos, stack⟩ [rawInt 13]) = _
      rw [ask_turn hr]
    simp only [lifeStep, sp, if_true, ct, hr.2]
    simp
  have h6 : (Config.single s ⟨.pure (.again lifeAsk), code, pos, stack⟩).run (denote table) prog w 0 = .go (.single s ⟨ret (.bool false), code, pos, stack⟩) := by
    have sp : Thread.special ⟨.pure (.again lifeAsk), code, pos, stack⟩ = true := by simp [Thread.special, Thread.atCollectorCode, lifeAsk]
    have fz : Thread.finalizes ⟨.pure (.again lifeAsk), code, pos, stack⟩ = false := by simp [Thread.finalizes, lifeAsk]
    simp only [Config.run, Config.single, Shared.entering]
    simp [others_single, sp, fz, h5, Config.single]
  simp only [sstep, h4, Config.move, h6]

theorem step_A {prog : Program} {w : World} (s : Shared) (t : Thread) :
    step denA prog w s t = step (denote table) prog w s t ∨
      ∃ s₁ code pos stack, step (denote table) prog w s t = .go s₁ ⟨.pure (.again lifeAsk), code, pos, stack⟩ ∧ step denA prog w s t = .go s₁ ⟨ret (.bool false), code, pos, stack⟩ := by
  obtain ⟨heap, gens, drawn, toks, os⟩ := s
  obtain ⟨cur, code, pos, stack⟩ := t
  have key : ∀ c : Code, denA c = denote table c ∨ (denote table c = .pure (.again lifeAsk) ∧ denA c = ret (.bool false)) := fun c => by
    cases hc : isAsk c with
    | true => obtain rfl := isAsk_eq hc; exact .inr ⟨den_ask, denA_ask⟩
    | false => exact .inl (denA_of hc)
  have fin : ∀ (c : Code) (s₁ : Shared) (c' : Code) (p' : Pos) (st' : List Frame), (∀ den, step den prog w ⟨heap, gens, drawn, toks, os⟩ ⟨cur, code, pos, stack⟩ = .go s₁ ⟨den c, c', p', st'⟩) →
      step denA prog w ⟨heap, gens, drawn, toks, os⟩ ⟨cur, code, pos, stack⟩ = step (denote table) prog w ⟨heap, gens, drawn, toks, os⟩ ⟨cur, code, pos, stack⟩ ∨
        ∃ s₁ code' pos' stack', step (denote table) prog w ⟨heap, gens, drawn, toks, os⟩ ⟨cur, code, pos, stack⟩ = .go s₁ ⟨.pure (.again lifeAsk), code', pos', stack'⟩ ∧ step denA prog w ⟨heap, gens, drawn, toks, os⟩ ⟨cur, code, pos, stack⟩ = .go s₁ ⟨ret (.bool false), code', pos', stack'⟩ := by
    intro c s₁ c' p' st' hd
    rw [hd denA, hd (denote table)]
    rcases key c with e | ⟨e1, e2⟩
    · rw [e]; exact .inl rfl
    · rw [e1, e2]; exact .inr ⟨_, _, _, _, rfl, rfl⟩
  cases cur with
  | pure f =>
    cases f with
    | done f => exact .inl rfl
    | again c => exact fin c _ _ _ _ fun _ => rfl
  | call c h g l k => exact fin c _ _ _ _ fun _ => rfl
  | resume g r l k =>
    cases hg : gens[g]? with
    | none => left; simp only [step, hg]
    | some x =>
      cases x with
      | fresh c =>
        cases r with
        | throw x => left; simp only [step, hg]
        | send v =>
          cases v with
          | none => exact fin c _ _ _ _ fun _ => by simp only [step, hg]; rfl
          | _ => left; simp only [step, hg]
      | suspended => left; simp only [step, hg]
      | running => left; simp only [step, hg]
      | finished => left; simp only [step, hg]
  | _ => exact .inl rfl

theorem sched_A {prog : Program} {w : World} {o : Outcome} {s' : Shared} (ho : o.ends = true) : ∀ (n : Nat) (s : Shared) (t : Thread), s.asleep → runN denA prog w n s t = .halted o s' →
    (∀ k s₁ t₁, runN denA prog w k s t = .running s₁ t₁ → t₁.calm = true) → ∃ m, schedN (denote table) prog w m (.single s t) = .halted o s'
  | 0, _, _, _, h, _ => by cases h
  | n + 1, s, t, hr, h, hc => by
    have ht : t.calm = true := hc 0 s t rfl
    have hno : ∀ s₂, o ≠ .unsupported "lifetime:generator-with-cleanup-left-suspended" ∧ Run.halted (.unsupported "lifetime:generator-with-cleanup-left-suspended") s₂ ≠ Run.halted o s' := fun s₂ => by
      constructor
      · rintro rfl; exact absurd ho (by simp [Outcome.ends])
      · intro e; injection e with e1 _; subst e1; exact absurd ho (by simp [Outcome.ends])
    simp only [runN] at h
    rcases step_A (prog := prog) (w := w) s t with e | ⟨s₁, code, pos, stack, e1, e2⟩
    · rcases sstep_single (denote table) prog w s t ht hr with q | q
      · cases hs : step denA prog w s t with
        | go s₂ t₂ =>
          rw [hs] at h e
          have hz : s₂.asleep := Shared.asleep_of_life (step_life denA prog w s s₂ t t₂ hs) hr
          obtain ⟨m, hm⟩ := sched_A ho n s₂ t₂ hz h (fun k s₃ t₃ hk => hc (k + 1) s₃ t₃ (by simp only [runN, hs]; exact hk))
          refine ⟨m + 1, ?_⟩
          simp only [schedN, q, ← e, Step.lift]
          exact hm
        | halt o₂ s₂ =>
          rw [hs] at h e
          refine ⟨1, ?_⟩
          simp only [schedN, q, ← e, Step.lift]
          injection h with h1 h2
          rw [h1, h2]
      · rw [e, q] at h
        exact absurd h (hno s).2
    · rcases sstep_single (denote table) prog w s t ht hr with q | q
      · rw [e2] at h
        have hz : s₁.asleep := Shared.asleep_of_life (step_life denA prog w s s₁ t _ e2) hr
        obtain ⟨m, hm⟩ := sched_A ho n s₁ ⟨ret (.bool false), code, pos, stack⟩ hz h (fun k s₃ t₃ hk => hc (k + 1) s₃ t₃ (by simp only [runN, e2]; exact hk))
        refine ⟨m + 1 + 1, ?_⟩
        have q' : sstep (denote table) prog w (.single s t) = .go (.single s₁ ⟨.pure (.again lifeAsk), code, pos, stack⟩) := by rw [q, e1]; rfl
        simp only [schedN, q', sstep_ask hz]
        exact hm
      · rw [q] at e1; cases e1
end Mine

end

section -- part NLog
set_option linter.unusedVariables false
open PySem PySem.W PyProof.Rows PySem.Calls
set_option maxRecDepth 100000
namespace Mine

/-- a code that is no step of a callable's iterator: the end of such an iterator looks for itself on the stack -/
def notIt : Code → Bool
  | .builtin "callable_iterator.__next__" _ => false
  | _ => true
def Cl (l : List (Code × Pos)) : Prop := ∀ x ∈ l, notIt x.1 = true

section
variable {α β : Type} {M : Model} {A : Around} {s : Shared}

/-- as the library's wpAny, under a stack without such steps, and nothing is raised -/
def wpN (M : Model) (A : Around) (t : Sem α) (Q : α → Shared → Prop) (s : Shared) : Prop :=
  ∀ Γ p, Γ.In A → notIt Γ.code = true → Cl Γ.below → Sem.wp M Γ t (fun a _ s' => Q a s') (fun _ _ _ => False) p s
def codeN (M : Model) (A : Around) (c : Code) (R : Flow → Shared → Prop) (s : Shared) : Prop :=
  ∀ Γ p, Γ.code = c → Γ.Below A → Cl Γ.below → wpCode M Γ (fun r s' => match r with | .ok f => R f s' | .error _ => False) p s

theorem N_any {t : Sem α} {Q : α → Shared → Prop} (h : wpAny M A t Q (fun _ _ => False) s) : wpN M A t Q s := fun Γ p hΓ _ _ => h Γ p hΓ
theorem N_mono {t : Sem α} {Q Q' : α → Shared → Prop} (h : wpN M A t Q s) (hQ : ∀ a s', Q a s' → Q' a s') : wpN M A t Q' s :=
  fun Γ p hΓ h1 h2 => Sem.wp_mono M Γ t (fun a _ s => hQ a s) (fun _ _ _ h => h) p s (h Γ p hΓ h1 h2)
theorem N_pure {a : α} {Q : α → Shared → Prop} (h : Q a s) : wpN M A (pure a) Q s := N_any (wpAny_pure h)
theorem N_bind {m : Sem α} {f : α → Sem β} {Q : β → Shared → Prop} (h : wpN M A m (fun a s' => wpN M A (f a) Q s') s) : wpN M A (m >>= f) Q s := fun Γ p hΓ h1 h2 => by
  rw [Sem.wp_bind']
  exact Sem.wp_mono M Γ m (fun a p' s' h' => h' Γ p' hΓ h1 h2) (fun _ _ _ h' => h') p s (h Γ p hΓ h1 h2)
/-- a part within the library's logic, then the rest -/
theorem N_then {m : Sem α} {f : α → Sem β} {Q : β → Shared → Prop} (h : wpAny M A m (fun a s' => wpN M A (f a) Q s') (fun _ _ => False) s) : wpN M A (m >>= f) Q s := N_bind (N_any h)
theorem N_onRaise {m : Sem α} {k : Value → Sem Unit} {Q : α → Shared → Prop} (h : wpN M A m Q s) : wpN M A (m.onRaise k) Q s := fun Γ p hΓ h1 h2 => by
  rw [Sem.wp_onRaise]
  exact Sem.wp_mono M Γ m (fun _ _ _ h' => h') (fun e p' s' h' => h'.elim) p s (h Γ p hΓ h1 h2)
theorem N_holding {vs : List Value} {m : Sem α} {Q : α → Shared → Prop} (h : wpN M A m Q s) : wpN M A (holding vs m) Q s :=
  fun Γ p hΓ h1 h2 => by rw [Sem.wp_holding]; exact h Γ p hΓ h1 h2
theorem N_keep {vs : List Value} {m : Sem α} {Q : α → Shared → Prop} (h : wpN M A m Q s) : wpN M A (m.keep vs) Q s :=
  fun Γ p hΓ h1 h2 => by rw [Sem.wp_keep]; exact h Γ p hΓ h1 h2
theorem Cl.cons {c : Code} {p : Pos} {l : List (Code × Pos)} (h1 : notIt c = true) (h : Cl l) : Cl ((c, p) :: l) := fun x hx => by
  rcases List.mem_cons.mp hx with rfl | hx
  · exact h1
  · exact h x hx
theorem N_run {c : Code} {Q : Flow → Shared → Prop} (hc : codeN M A c Q s) : wpN M A (run c none) Q s :=
  fun Γ p hΓ h1 h2 => by
    rw [Sem.wp_run]
    refine wpCode_mono (fun r s' h' => ?_) (hc _ p rfl (hΓ.enter c none p (by intro x; cases x)) (Cl.cons h1 h2))
    cases r <;> exact h'
theorem N_runValue {c : Code} {Q : Value → Shared → Prop} (hc : codeN M A c (fun f s' => ∃ v, f = .ret v ∧ Q v s') s) : wpN M A (runValue c) Q s :=
  fun Γ p hΓ h1 h2 => by
    rw [Sem.wp_runValue]
    refine wpCode_mono (fun r s' h' => ?_) (hc _ p rfl (hΓ.enter c none p (by intro x; cases x)) (Cl.cons h1 h2))
    cases r with
    | error e => exact h'
    | ok f => obtain ⟨v, rfl, hv⟩ := h'; exact hv
theorem N_call {f : Value} {pos : List Value} {kw : List (Str × Value)} {Q : Value → Shared → Prop} (hc : codeN M A (.call f ⟨pos, kw⟩) (fun f s' => ∃ v, f = .ret v ∧ Q v s') s) : wpN M A (call f pos kw) Q s := N_runValue hc
theorem codeN_mono {c : Code} {R R' : Flow → Shared → Prop} (h : codeN M A c R s) (hR : ∀ f s', R f s' → R' f s') : codeN M A c R' s :=
  fun Γ p hc hΓ h2 => wpCode_mono (fun r s' h' => by cases r with | error e => exact h' | ok f => exact hR _ _ h') (h Γ p hc hΓ h2)
theorem codeN_of_tree {c : Code} {R : Flow → Shared → Prop} (hn : notIt c = true)
    (h : wpN M (A.under c) (M.den c) (fun fin s' => match fin with | .done f => R f s' | .again c' => c'.quiet = true ∧ codeN M A c' R s') s) : codeN M A c R s := fun Γ p hc hΓ h2 => by
  rw [wpCode_iff_wp, hc]
  refine Sem.wp_mono M Γ _ (fun fin p' s' h' => ?_) (fun _ _ _ h' => h'.elim) p s (h Γ p (hc ▸ hΓ.in) (hc ▸ hn) h2)
  cases fin with
  | done f => exact h'
  | again c' => exact ⟨h'.1, h'.2 (Γ.goto c') p' rfl (hΓ.goto c') h2⟩
/-- for a step of the iterator itself: its own code is known, the stack below is clean -/
def wpI (M : Model) (A : Around) (c : Code) (t : Sem α) (Q : α → Shared → Prop) (E : Value → Shared → Prop) (s : Shared) : Prop :=
  ∀ Γ p, Γ.code = c → Γ.In A → Cl Γ.below → Sem.wp M Γ t (fun a _ s' => Q a s') (fun e _ s' => E e s') p s
section
variable {c : Code} {E : Value → Shared → Prop}
theorem I_any {t : Sem α} {Q : α → Shared → Prop} (h : wpAny M A t Q E s) : wpI M A c t Q E s := fun Γ p _ hΓ _ => h Γ p hΓ
theorem I_bind {m : Sem α} {f : α → Sem β} {Q : β → Shared → Prop} (h : wpI M A c m (fun a s' => wpI M A c (f a) Q E s') E s) : wpI M A c (m >>= f) Q E s := fun Γ p h1 hΓ h2 => by
  rw [Sem.wp_bind']
  exact Sem.wp_mono M Γ m (fun a p' s' h' => h' Γ p' h1 hΓ h2) (fun _ _ _ h' => h') p s (h Γ p h1 hΓ h2)
theorem I_then {m : Sem α} {f : α → Sem β} {Q : β → Shared → Prop} (h : wpAny M A m (fun a s' => wpI M A c (f a) Q E s') E s) : wpI M A c (m >>= f) Q E s := I_bind (I_any h)
theorem I_stack {Q : List (Code × Pos) → Shared → Prop} (h : ∀ p below, Cl below → Q ((c, p) :: below) s) : wpI M A c stack Q E s := fun Γ p h1 _ h2 => by
  show Q ((Γ.code, p) :: Γ.below) s
  rw [h1]; exact h p Γ.below h2
end
/-- the exception or the value that a code gives -/
def codeE (M : Model) (A : Around) (c : Code) (R : Result → Shared → Prop) (s : Shared) : Prop := ∀ Γ p, Γ.code = c → Γ.Below A → Cl Γ.below → wpCode M Γ R p s
def wpE (M : Model) (A : Around) (t : Sem α) (Q : α → Shared → Prop) (E : Value → Shared → Prop) (s : Shared) : Prop :=
  ∀ Γ p, Γ.In A → notIt Γ.code = true → Cl Γ.below → Sem.wp M Γ t (fun a _ s' => Q a s') (fun e _ s' => E e s') p s
section
variable {E : Value → Shared → Prop}
theorem E_any {t : Sem α} {Q : α → Shared → Prop} (h : wpAny M A t Q E s) : wpE M A t Q E s := fun Γ p hΓ _ _ => h Γ p hΓ
theorem E_bind {m : Sem α} {f : α → Sem β} {Q : β → Shared → Prop} (h : wpE M A m (fun a s' => wpE M A (f a) Q E s') E s) : wpE M A (m >>= f) Q E s := fun Γ p hΓ h1 h2 => by
  rw [Sem.wp_bind']
  exact Sem.wp_mono M Γ m (fun a p' s' h' => h' Γ p' hΓ h1 h2) (fun _ _ _ h' => h') p s (h Γ p hΓ h1 h2)
theorem E_holding {vs : List Value} {m : Sem α} {Q : α → Shared → Prop} (h : wpE M A m Q E s) : wpE M A (holding vs m) Q E s :=
  fun Γ p hΓ h1 h2 => by rw [Sem.wp_holding]; exact h Γ p hΓ h1 h2
theorem N_attempt {m : Sem α} {Q : Except Value α → Shared → Prop} (h : wpE M A m (fun a => Q (.ok a)) (fun e => Q (.error e)) s) : wpN M A m.attempt Q s :=
  fun Γ p hΓ h1 h2 => by rw [Sem.wp_attempt]; exact h Γ p hΓ h1 h2
theorem E_call {f : Value} {pos : List Value} {kw : List (Str × Value)} {Q : Value → Shared → Prop} (hc : codeE M A (.call f ⟨pos, kw⟩) (fun r s' => match r with | .ok (.ret v) => Q v s' | .ok _ => False | .error e => E e s') s) : wpE M A (call f pos kw) Q E s :=
  fun Γ p hΓ h1 h2 => by unfold call; rw [Sem.wp_runValue]; exact hc _ p rfl (hΓ.enter _ none p (by intro x; cases x)) (Cl.cons h1 h2)
theorem codeE_call_builtin {prog : Program} {w : World} {id : String} {args : Args} {b : Builtin} {R : Result → Shared → Prop} (hq : plainId id = true) (hb : entryFor table id = some b) (hi : isAsk (.builtin id args) = false)
    (h : wpAny (modelA prog w) A.in1 (checkBuiltinCall id args) (fun _ s₁ => wpI (modelA prog w) A.in1 (.builtin id args) (b args)
      (fun fin s' => match fin with | .done f => R (.ok f) s' | .again _ => False) (fun e s' => R (.error e) s') s₁)
      (fun _ _ => False) s) : codeE (modelA prog w) A (.call (.builtin id) args) R s := by
  have hden : (modelA prog w).den (.call (.builtin id) args) = (do checkBuiltinCall id args; again (.builtin id args)) := rfl
  intro Γ p hc hΓ h2
  rw [wpCode_iff_wp, hc, hden]
  have hu : A.under (.call (.builtin id) args) = A.in1 := rfl
  have hin : Γ.In A.in1 := by have := hΓ.in; rw [hc, hu] at this; exact this
  rw [Sem.wp_bind']
  refine Sem.wp_mono _ Γ _ (fun _ p' s' h' => ?_) (fun _ _ _ h' => h'.elim) p s (h Γ p hin)
  refine ⟨plainId_quiet hq args, ?_⟩
  show wpCode (modelA prog w) (Γ.goto (.builtin id args)) R p' s'
  rw [wpCode_iff_wp]
  have hden2 : (modelA prog w).den (Γ.goto (.builtin id args)).code = b args := (denA_of hi).trans (den_builtin hb)
  rw [hden2]
  have hin2 : (Γ.goto (.builtin id args)).In A.in1 := by
    have := (hΓ.goto (.builtin id args)).in
    rw [show (Γ.goto (.builtin id args)).code = .builtin id args from rfl, Around.under_plainId hq args] at this
    exact this
  refine Sem.wp_mono _ _ _ (fun fin p'' s'' h'' => ?_) (fun _ _ _ h' => h') p' s' (h' (Γ.goto (.builtin id args)) p' rfl hin2 h2)
  cases fin with
  | done f => exact h''
  | again c' => exact h''.elim
end
end
end Mine

end

section -- part HeadA
set_option linter.unusedVariables false
open PySem PySem.W PyProof.Rows PySem.Calls
set_option maxRecDepth 100000
namespace Mine

theorem thread_ends_N {prog : Program} {w : World} {t : Sem Fin} {s : Shared} {R : Result → Shared → Prop} (hreg : s.asleep)
    (h : wpN (modelA prog w) callerA t (fun fin s' => ∃ f, fin = .done f ∧ (R (.ok f) s' ∧ leftWithCleanup s'.gens = false)) s) :
    ∃ n r s' s'', schedN (denote table) prog w n (.single s ⟨t, .builtin "claim.caller" {}, default, []⟩) = .halted (outcomeOf r) s' ∧ s'.heap.life = s.heap.life ∧ s'.forget = s''.forget ∧ R r s'' := by
  have hw : Sem.wp (modelA prog w) ⟨.builtin "claim.caller" {}, none, none, [], none⟩ t (Sem.finPost (modelA prog w) ⟨.builtin "claim.caller" {}, none, none, [], none⟩ (fun r s' => R r s' ∧ leftWithCleanup s'.gens = false)) (fun e _ s' => R (.error e) s' ∧ leftWithCleanup s'.gens = false) default s := by
    refine Sem.wp_mono _ _ t (fun fin p' s' h' => ?_) (fun _ _ _ h' => h'.elim) default s (h _ default caller_in rfl (fun x hx => nomatch hx))
    obtain ⟨f, rfl, hf⟩ := h'; exact hf
  obtain ⟨n, r, s₁, hn, hR⟩ := (wp_iff_halts t R default s).mp hw
  obtain ⟨s₂, hr, hf, hc⟩ := runNI_real denA prog w hn (outcomeOf_ends r)
  obtain ⟨m, hm⟩ := sched_A (outcomeOf_ends r) n s _ hreg hr hc
  exact ⟨m, r, s₂, s₁, hm, runN_life denA prog w hr, hf, hR⟩

/-- what the second model says of the law's call, from any state that the top leaves -/
abbrev WalkA (q : Program) (loose : List Str) (XP : (Str → Option Value) → Heap → Prop) (YP : World → Heap → Prop) (r : RowW) (d : DefRec) (kwd : List (Str × Expr)) : Prop :=
  ∀ (w : World) (s₀ s₁ : Shared) (mg mb : Str → Option Value), Ground q loose r.records XP w s₀ mg mb s₁.heap → YP w s₁.heap → ∀ (a : Addr) (o : Obj) (pm cd doc dV kV : Value), s₁.heap.get? a = some o →
    o.data = .func { docDef d.name d.params d.body d.scope pm cd doc with defaults := dV, kwdefaults := kV } → s₁.heap.CodeRec cd d.name → Dflts mg s₁.heap d.params kwd dV kV → mg d.name = some (.ref a) → s₁.gens = #[] →
    ∀ (args : List WData) (vals : List Value) (as : List Addr), r.claim.pre args = true → WData.layableAll args = true → ReadsAllW r.records (classAt s₀.heap) s₁.heap vals args as → WellAll w.params s₁.heap vals args → (∀ a ∈ as, (a == sysModules) = false) →
      wpN (modelA r.prog w) callerA (call (.ref a) vals) (fun v s' => GoodWG r.claim (classAt s₀.heap) (ExcName.means s₀.heap) args s₁ (.ok (.ret v)) s') s₁

end Mine
namespace Mine.PySem.W
/-- from the top's end and the second model's walk to the claim: the library's road, by the second model -/
theorem holds_open {r : OpenRow} {q : Program} {loose : List Str} {Xt : Shared → Bool} {XP : (Str → Option Value) → Heap → Prop} {α : Type} {Yf : Shared → α} {Ya : World → α} {YP : World → Heap → Prop} {d : DefRec} {kwd : List (Str × Expr)} {N : Nat}
    (left : LeftO r.prog q loose Xt Yf Ya N) (hY : ∀ w s, Yf s = Ya w → YP w s.heap) (hYk : ∀ w h h', YP w h → (∀ b o, h.get? b = some o → h'.get? b = some o) → YP w h')
    (hX : ∀ s, Xt s = true → XP (s.heap.nsMap mainGlobals) s.heap) (hXk : ∀ mg h h', XP mg h → (∀ b o, h.get? b = some o → h'.get? b = some o) → XP mg h')
    (hdef : defOf q r.name = some (d, kwd)) (hp : r.prog.theDef r.name = some (d.params, d.body, d.scope)) (hk : kwWritten? d.params.kwonlyargs d.params.kw_defaults = some kwd) (hRf : ∀ s, Xt s = true → RecFacts r.records s.heap) (hwr : (!r.writes || r.records.isEmpty) = true)
    (k1 : r.wellSaid = true) (ok : (chainsOk q && opensWell r.prog && (frees r.toRowW && r.within.isEmpty)) = true) (hb : r.prog.bare) (hw : r.toRowW.promised)
    (walk : WalkA q loose XP YP r.toRowW d kwd) : r.Holds := by
  simp only [Bool.and_eq_true] at ok
  obtain ⟨⟨hch, o1⟩, k5, k6⟩ := ok
  obtain ⟨hsame, hu, ha, hap, hm⟩ := frees_parts k5
  refine ⟨k1, hw, ⟨hb, o1, by show r.makers.map _ = []; rw [hm]; rfl⟩, hw.witness, fun w => ?_⟩
  have bh := left.behind (XP := fun mg h => XP mg h ∧ RecFacts r.records h) (fun s hs => ⟨hX s hs, hRf s hs⟩) hch w
  refine ⟨bh.1, fun s' hs' => ?_⟩
  obtain ⟨s₀, hf, hg0, s, hT, hz, hgens, hg, G₂, y⟩ := bh.2 s' hs'
  obtain ⟨X₂, RF⟩ := G₂.X
  have G : Ground q loose [] XP w s (s.heap.nsMap mainGlobals) (s.heap.nsMap builtinsNs) s.heap := { G₂ with X := X₂ }
  have hgens : s.gens = #[] := Array.eq_empty_of_size_eq_zero (beq_iff_eq.mp hgens)
  have GR : Ground q loose r.records XP w s (s.heap.nsMap mainGlobals) (s.heap.nsMap builtinsNs) s.heap := RF.ground G
  refine ⟨s₀, hf, hg0, s, hT, fun n hn => ?_, RF.1, RF.2.1, fun args hpre hlay ord hord => ?_⟩
  · obtain rfl : n = r.name := by split at hn <;> simp_all
    exact pinned_of_view hg G hdef hp hk
  · obtain ⟨⟨vs, s₁⟩, hlaid⟩ := Option.isSome_iff_exists.mp (layAllW_isSome (P := w.params) (ord := ord) GR.has args r.args s (pre_splitW hpre).1)
    have keeps := layAllW_keeps _ _ _ hlaid
    have hal := layAllW_rest _ _ _ hlaid
    obtain ⟨as, hrd, hin, hold⟩ := reads_layAllW hord _ _ _ hlaid hlay s₁.heap (fun _ _ e => e)
    have L : Laid r.records w s s₁ args vs as := ⟨⟨ord, hord, hlaid⟩, hrd, hin, hold, keeps, hal.1.trans hgens, hal.2.2.1⟩
    have G₁ := GR.keeps hXk keeps
    obtain ⟨a, o, pm, cd, doc, dV, kV, h1, h2, h3, h4, h5⟩ := G₁.fn hdef
    have hwk := walk w s s₁ _ _ G₁ (hYk _ _ _ (hY w s y) keeps) a o pm cd doc dV kV h2 h3 h4 h5 (defOf_name hdef ▸ h1) L.gens args vs as hpre hlay L.reads L.well (L.low GR.low)
    have hi := ident_freeW hu ha hap
    have hwi : r.claim.within = [] := List.isEmpty_iff.mp k6
    have tree : wpN (modelA r.prog w) callerA (do match ← nsGet mainNs r.name with
        | some f => do ret (← PySem.call f vs)
        | none => unsupported "claim.caller:no-such-global") (fun fin s' => ∃ f, fin = .done f ∧ ((r.claim.Ends s args vs s₁ (.ok f) s' ∧ s'.os = s.os ∧ (r.writes = true → namesKept r.prog r.keeps s.heap s'.heap ∧ ∀ x ∈ r.records, ∀ a, classAt s.heap x.1 = some a → recordClass s'.heap a x.1 (x.2.map (·.1)) = true)) ∧ leftWithCleanup s'.gens = false)) s₁ := by
      refine N_then (wpAny_nsGet G₁.T.g ?_)
      rw [h1]
      refine N_bind (N_mono hwk fun v s' g => N_pure ⟨_, rfl, ?_⟩)
      have z := g.laid (c := r.claim) hsame hwi hi L
      exact ⟨⟨z.1, z.2.1, fun q => ⟨namesKept_of hT hg r.keeps keeps g.2.1.old, noTable hwr q⟩⟩, leftWithCleanup_false_of_bare z.2.2⟩
    obtain ⟨n, res, s₂, s₃, hsched, hlife, hfo, hcase, hos, hkp⟩ := thread_ends_N (R := fun res s' => r.claim.Ends s args vs s₁ res s' ∧ s'.os = s.os ∧ (r.writes = true → namesKept r.prog r.keeps s.heap s'.heap ∧ ∀ x ∈ r.records, ∀ a, classAt s.heap x.1 = some a → recordClass s'.heap a x.1 (x.2.map (·.1)) = true))
      (Shared.asleep_of_life hal.2.2.2 hz) tree
    obtain ⟨eh, _, _, eo, _⟩ := Shared.forget_eq hfo
    have hcase := hcase.congr eh
    rw [← eo] at hos
    refine ⟨vs, s₁, hlaid, n, _, s₂, hsched, ?_, (fun _ i x hx => by rw [hgens] at hx; simp at hx), (by rw [eh]; exact hkp), by rw [hlife.trans hal.2.2.2], Shared.rest_eq hos⟩
    rcases hcase with ⟨v, rfl, d1, d2, d3, d4, d5⟩ | ⟨e, ob, cls, rfl, d1, d2, d3, d4, d5⟩
    · exact .inl ⟨v, rfl, d1, d2, d3, fun b o y _ => d4 b o y, d5⟩
    · exact .inr ⟨e, ob, cls, rfl, d1, d2, d3, d4, fun b o y _ => d5 b o y⟩
end Mine.PySem.W

end

section -- part HdA
set_option linter.unusedVariables false
open PySem PySem.W PyProof.Rows
set_option maxRecDepth 100000
namespace Mine
set_option maxHeartbeats 8000000
open_top hd for PySem.Challenge.rw_er0025_01
end Mine

end

section -- part Eng
set_option linter.unusedVariables false
open PySem
set_option maxRecDepth 100000
namespace Mine
open PySem.Sre PySem.Sre.M

/-- within k steps the machine stands where P holds -/
def Ev (k : Nat) (P : M → Prop) (m : M) : Prop := ∃ n, n ≤ k ∧ P (runFor n m)

theorem runFor_out {m : M} (h : m.outcome.isSome = true) : ∀ n, runFor n m = m
  | 0 => rfl
  | n + 1 => by simp [runFor, h]
theorem step_out {m : M} (h : m.outcome.isSome = true) : m.step = m := by unfold M.step; rw [if_pos h]
theorem runFor_succ (n : Nat) (m : M) : runFor (n + 1) m = runFor n m.step := by
  by_cases h : m.outcome.isSome = true
  · rw [runFor_out h, step_out h, runFor_out h]
  · simp [runFor, h]
theorem runFor_add : ∀ (a b : Nat) (m : M), runFor (a + b) m = runFor b (runFor a m)
  | 0, b, m => by rw [Nat.zero_add]; rfl
  | a + 1, b, m => by rw [Nat.add_right_comm, runFor_succ, runFor_add a b, runFor_succ]

theorem Ev.here {k : Nat} {P : M → Prop} {m : M} (h : P m) : Ev k P m := ⟨0, Nat.zero_le _, h⟩
theorem Ev.step {k : Nat} {P : M → Prop} {m m' : M} (e : m.step = m') (h : Ev k P m') : Ev (k + 1) P m := by
  obtain ⟨n, hn, hp⟩ := h
  exact ⟨n + 1, Nat.succ_le_succ hn, by rw [runFor_succ, e]; exact hp⟩
theorem Ev.trans {a b : Nat} {P Q : M → Prop} {m : M} (h : Ev a P m) (h' : ∀ m', P m' → Ev b Q m') : Ev (a + b) Q m := by
  obtain ⟨n, hn, hp⟩ := h
  obtain ⟨n', hn', hp'⟩ := h' _ hp
  exact ⟨n + n', Nat.add_le_add hn hn', by rw [runFor_add]; exact hp'⟩
theorem Ev.mono {a b : Nat} {P Q : M → Prop} {m : M} (h : Ev a P m) (hab : a ≤ b) (hpq : ∀ m', P m' → Q m') : Ev b Q m :=
  let ⟨n, hn, hp⟩ := h; ⟨n, Nat.le_trans hn hab, hpq _ hp⟩

section
variable {m : M}
theorem step_exec (ho : m.outcome = none) (ha : m.answer = none) (hp : m.pc < m.code.size) : m.step = m.exec := by
  unfold M.step; rw [ho, ha]; simp [hp]
theorem step_resume {f : Sre.Frame} {rest : List Sre.Frame} {yes : Bool} (ho : m.outcome = none) (ha : m.answer = some yes) (hf : m.frames = f :: rest) :
    m.step = M.resume { m with answer := none, frames := rest, weight := m.weight - (1 + f.kept.marks.size), pc := f.pc, pos := f.pos, outermost := f.outermost } f yes := by
  unfold M.step; rw [ho, ha, hf]; simp
theorem step_end {yes : Bool} (ho : m.outcome = none) (ha : m.answer = some yes) (hf : m.frames = []) :
    m.step = { m with outcome := some (if yes then .matched else .failed) } := by
  unfold M.step; rw [ho, ha, hf]; simp

theorem exec_lit_yes (hw : m.code.getD m.pc 0 = 16) (hlt : m.pos < m.lim) (hc : m.text.getD m.pos 0 = m.code.getD (m.pc + 1) 0) :
    ∃ sn, m.exec = { m with seen := sn, pc := m.pc + 2, pos := m.pos + 1 } := by
  have h1 : m.word 0 = 16 := hw
  have h2 : ops[16]? = some Op.LITERAL := rfl
  refine ⟨m.seen.add 16, ?_⟩
  unfold M.exec
  rw [h1, h2]
  simp only [if_neg (Nat.not_le.mpr hlt), ge_iff_le, accepts, itemWidth, hw, h2, hc, beq_self_eq_true]
theorem exec_lit_no (hw : m.code.getD m.pc 0 = 16) (hc : m.pos < m.lim → m.text.getD m.pos 0 ≠ m.code.getD (m.pc + 1) 0) :
    ∃ sn, m.exec = { m with seen := sn, answer := some false } := by
  have h1 : m.word 0 = 16 := hw
  have h2 : ops[16]? = some Op.LITERAL := rfl
  refine ⟨m.seen.add 16, ?_⟩
  unfold M.exec
  rw [h1, h2]
  by_cases hlt : m.pos < m.lim
  · have h3 : (m.text.getD m.pos 0 == m.code.getD (m.pc + 1) 0) = false := by simpa using hc hlt
    simp only [if_neg (Nat.not_le.mpr hlt), ge_iff_le, accepts, hw, h2, h3, say]
  · simp only [if_pos (Nat.not_lt.mp hlt), ge_iff_le, say]
theorem exec_success (hw : m.code.getD m.pc 0 = 1) (hb : (m.outermost && ((m.wholeText && m.pos != m.lim) || (m.mustAdvance && m.pos == m.start))) = false) :
    ∃ sn, m.exec = { m with seen := sn, handed := m.pos, answer := some true } := by
  have h1 : m.word 0 = 1 := hw
  have h2 : ops[1]? = some Op.SUCCESS := rfl
  refine ⟨m.seen.add 1, ?_⟩
  unfold M.exec
  rw [h1, h2]
  simp only [hb, Bool.false_eq_true, if_false, say]
theorem exec_success_no (hw : m.code.getD m.pc 0 = 1) (hb : (m.outermost && ((m.wholeText && m.pos != m.lim) || (m.mustAdvance && m.pos == m.start))) = true) :
    ∃ sn, m.exec = { m with seen := sn, answer := some false } := by
  have h1 : m.word 0 = 1 := hw
  have h2 : ops[1]? = some Op.SUCCESS := rfl
  refine ⟨m.seen.add 1, ?_⟩
  unfold M.exec
  rw [h1, h2]
  simp only [hb, if_true, say]
end

/-- an attempt at s, from the pattern's body -/
def att (code text : Array Nat) (body lim ls s : Nat) (first must : Bool) (marks : Array (Option Nat)) (sn : Seen) : M :=
  { code, text, lim, start := s, lastStart := ls, mustAdvance := must, pc := body, pos := s, handed := s, outermost := first, marks,
    frames := [{ wait := .nextStart, pc := body, pos := s, outermost := first }], weight := 1, seen := sn }

def codeH : Array Nat := #[14, 12, 3, 3, 3, 3, 3, 47, 42, 43, 0, 0, 0, 16, 47, 16, 42, 16, 43, 1]
def codeO : Array Nat := #[14, 10, 1, 2, 2, 2, 2, 47, 42, 0, 0, 16, 47, 16, 42, 5, 5, 0, 16, 43, 1, 1]
def codeC : Array Nat := #[14, 10, 3, 2, 2, 2, 2, 42, 47, 0, 0, 16, 42, 16, 47, 1]
def codeB : Array Nat := #[14, 4, 0, 0, 0, 5, 12, 1, 13, 8, 8, 14, 16, 34, 16, 36, 0, 1, 1]

/-- the attempt has failed: the next one, or the end -/
theorem att_no {code text : Array Nat} {body lim ls s : Nat} {first must : Bool} {marks : Array (Option Nat)} {lm li : Int} {h pc pos : Nat} {sn : Seen} (hn : ((match ops[code.getD 0 0]? with | some .INFO => true | _ => false) && code.getD 2 0 == 4) = false) :
    ∀ m : M, m = { att code text body lim ls s first must marks sn with lastmark := lm, lastindex := li, handed := h, answer := some false, pc := pc, pos := pos } →
      (s < ls → ∃ sn', m.step = att code text body lim ls (s + 1) false false marks sn') ∧ (ls ≤ s → Ev 2 (fun m' => m'.outcome = some .failed) m) := by
  intro m e
  have ho : m.outcome = none := by rw [e]; rfl
  have ha : m.answer = some false := by rw [e]
  have hf : m.frames = [{ wait := .nextStart, pc := body, pos := s, outermost := first }] := by rw [e]; rfl
  constructor
  · intro hs
    refine ⟨sn, ?_⟩
    rw [step_resume ho ha hf, e]
    show (if s < ls then _ else _) = _
    rw [if_pos hs]
    unfold M.attemptFrom
    have e3 : M.hasFirstSet { att code text body lim ls s first must marks sn with lastmark := lm, lastindex := li, handed := h, answer := none, frames := [], weight := 1 - (1 + (#[] : Array (Option Nat)).size), pc := body, pos := s, outermost := first, mustAdvance := false } = false := hn
    show (if (!M.hasFirstSet { att code text body lim ls s first must marks sn with lastmark := lm, lastindex := li, handed := h, answer := none, frames := [], weight := 1 - (1 + (#[] : Array (Option Nat)).size), pc := body, pos := s, outermost := first, mustAdvance := false }) = true then _ else _) = _
    rw [e3]
    rfl
  · intro hs
    refine Ev.step (step_resume ho ha hf) ?_
    rw [e]
    have e2 : M.resume { att code text body lim ls s first must marks sn with lastmark := lm, lastindex := li, handed := h, answer := none, frames := [], weight := 1 - (1 + (#[] : Array (Option Nat)).size), pc := body, pos := s, outermost := first } { wait := .nextStart, pc := body, pos := s, outermost := first } false
        = { att code text body lim ls s first must marks sn with lastmark := lm, lastindex := li, handed := h, answer := some false, frames := [], weight := 1 - (1 + (#[] : Array (Option Nat)).size), pc := body, pos := s, outermost := first } := by
      show (if s < ls then _ else _) = _
      rw [if_neg (Nat.not_lt.mpr hs)]
      rfl
    show Ev 1 _ (M.resume { att code text body lim ls s first must marks sn with lastmark := lm, lastindex := li, handed := h, answer := none, frames := [], weight := 1 - (1 + (#[] : Array (Option Nat)).size), pc := body, pos := s, outermost := first } { wait := .nextStart, pc := body, pos := s, outermost := first } false)
    rw [e2]
    exact Ev.step (step_end rfl rfl rfl) (Ev.here (k := 0) rfl)
/-- the attempt has held -/
theorem att_yes {code text : Array Nat} {body lim ls s : Nat} {first must : Bool} {marks : Array (Option Nat)} {lm li : Int} {h pc pos : Nat} {sn : Seen} :
    Ev 2 (fun m' => m'.outcome = some .matched ∧ m'.start = s ∧ m'.handed = h ∧ m'.marks = marks ∧ m'.lastmark = lm ∧ m'.lastindex = li)
      { att code text body lim ls s first must marks sn with lastmark := lm, lastindex := li, handed := h, answer := some true, pc := pc, pos := pos } := by
  refine Ev.step (step_resume (f := { wait := .nextStart, pc := body, pos := s, outermost := first }) (rest := []) (yes := true) rfl rfl rfl) ?_
  refine Ev.step (m' := { att code text body lim ls s first must marks sn with lastmark := lm, lastindex := li, handed := h, answer := some true, frames := [], weight := 1 - (1 + (#[] : Array (Option Nat)).size), pc := body, pos := s, outermost := first, outcome := some .matched }) ?_ (Ev.here (k := 0) ⟨rfl, rfl, rfl, rfl, rfl, rfl⟩)
  exact step_end (yes := true) rfl rfl rfl
end Mine

end

section -- part Eng2
set_option linter.unusedVariables false
open PySem
set_option maxRecDepth 100000
namespace Mine
open PySem.Sre PySem.Sre.M

/-- an attempt that has failed, its state otherwise loose -/
def Bad (code text : Array Nat) (body lim ls s : Nat) (first must : Bool) (Mk : Array (Option Nat) → Prop) (m : M) : Prop :=
  ∃ (marks : Array (Option Nat)) (lm li : Int) (h pc pos : Nat) (sn : Seen), Mk marks ∧ m = { att code text body lim ls s first must marks sn with lastmark := lm, lastindex := li, handed := h, answer := some false, pc := pc, pos := pos }

section
variable {code text : Array Nat} {body lim ls k : Nat} {At : Nat → Prop} {Mk : Array (Option Nat) → Prop} {Fin : Nat → M → Prop} {Bl : Bool → Bool → Prop}
theorem search_found (hB : ¬ Bl false false) (hn : ((match ops[code.getD 0 0]? with | some .INFO => true | _ => false) && code.getD 2 0 == 4) = false)
    (yes : ∀ s first must marks sn, Mk marks → At s → ¬ Bl first must → Ev k (Fin s) (att code text body lim ls s first must marks sn))
    (no : ∀ s first must marks sn, Mk marks → (At s → Bl first must) → Ev k (Bad code text body lim ls s first must Mk) (att code text body lim ls s first must marks sn)) :
    ∀ (d s : Nat) (first must : Bool) (marks : Array (Option Nat)) (sn : Seen), Mk marks → (∀ j, s ≤ j → j < s + d → At j → j = s ∧ Bl first must) → At (s + d) → (d = 0 → ¬ Bl first must) → s + d ≤ ls →
      Ev ((k + 1) * (d + 1)) (Fin (s + d)) (att code text body lim ls s first must marks sn)
  | 0, s, first, must, marks, sn, hm, _, ha, hf, _ => (yes s first must marks sn hm ha (hf rfl)).mono (by omega) fun _ h => h
  | d + 1, s, first, must, marks, sn, hm, hj, ha, _, hl => by
    have h1 := no s first must marks sn hm fun h => (hj s (Nat.le_refl _) (by omega) h).2
    have e : (k + 1) * (d + 1 + 1) = k + (1 + (k + 1) * (d + 1)) := by rw [Nat.mul_succ (k + 1) (d + 1)]; omega
    rw [e]
    refine h1.trans fun m' hb => ?_
    obtain ⟨marks', lm, li, h, pc, pos, sn', hm', em⟩ := hb
    obtain ⟨sn'', es⟩ := (att_no hn m' em).1 (by omega)
    have ih := search_found hB hn yes no d (s + 1) false false marks' sn'' hm' (fun j h1 h2 h3 => absurd (hj j (by omega) (by omega) h3).1 (by omega)) (by rw [show s + 1 + d = s + (d + 1) by omega]; exact ha) (fun _ => hB) (by omega)
    rw [show s + (d + 1) = s + 1 + d by omega, Nat.add_comm 1]
    exact Ev.step es ih
theorem search_none (hB : ¬ Bl false false) (hn : ((match ops[code.getD 0 0]? with | some .INFO => true | _ => false) && code.getD 2 0 == 4) = false)
    (no : ∀ s first must marks sn, Mk marks → (At s → Bl first must) → Ev k (Bad code text body lim ls s first must Mk) (att code text body lim ls s first must marks sn)) :
    ∀ (d s : Nat) (first must : Bool) (marks : Array (Option Nat)) (sn : Seen), Mk marks → (∀ j, s ≤ j → j ≤ ls → At j → j = s ∧ Bl first must) → s + d = ls →
      Ev ((k + 2) * (d + 1)) (fun m => m.outcome = some .failed) (att code text body lim ls s first must marks sn)
  | 0, s, first, must, marks, sn, hm, hj, hl => by
    have h1 := no s first must marks sn hm fun h => (hj s (Nat.le_refl _) (by omega) h).2
    rw [show (k + 2) * (0 + 1) = k + 2 by omega]
    refine h1.trans fun m' hb => ?_
    obtain ⟨marks', lm, li, h, pc, pos, sn', hm', em⟩ := hb
    exact (att_no hn m' em).2 (by omega)
  | d + 1, s, first, must, marks, sn, hm, hj, hl => by
    have h1 := no s first must marks sn hm fun h => (hj s (Nat.le_refl _) (by omega) h).2
    have e : (k + 2) * (d + 1 + 1) = k + (1 + (k + 2) * (d + 1)) + 1 := by rw [Nat.mul_succ (k + 2) (d + 1)]; omega
    rw [e]
    refine Ev.mono (a := k + (1 + (k + 2) * (d + 1))) (h1.trans fun m' hb => ?_) (Nat.le_succ _) fun _ h => h
    obtain ⟨marks', lm, li, h, pc, pos, sn', hm', em⟩ := hb
    obtain ⟨sn'', es⟩ := (att_no hn m' em).1 (by omega)
    have ih := search_none hB hn no d (s + 1) false false marks' sn'' hm' (fun j h1 h2 h3 => absurd (hj j (by omega) (by omega) h3).1 (by omega)) (by omega)
    rw [Nat.add_comm 1]
    exact Ev.step es ih
end

/-- the machine's end at a find from s to e -/
def Found (s e : Nat) (marks : Array (Option Nat)) (lm li : Int) (m : M) : Prop := m.outcome = some .matched ∧ m.start = s ∧ m.handed = e ∧ m.marks = marks ∧ m.lastmark = lm ∧ m.lastindex = li

abbrev NoMarks (marks : Array (Option Nat)) : Prop := marks = #[]

-- the closing pair
def AtC (text : Array Nat) (lim s : Nat) : Prop := s + 1 < lim ∧ text.getD s 0 = 42 ∧ text.getD (s + 1) 0 = 47
theorem yesC {text : Array Nat} {lim ls : Nat} (s : Nat) (first must : Bool) (marks : Array (Option Nat)) (sn : Seen) (hm : NoMarks marks) (h : AtC text lim s) :
    Ev 5 (Found s (s + 2) #[] (-1) (-1)) (att codeC text 11 lim ls s first must marks sn) := by
  obtain ⟨h1, h2, h3⟩ := h
  subst hm
  obtain ⟨s1, e1⟩ := exec_lit_yes (m := att codeC text 11 lim ls s first must #[] sn) rfl (Nat.lt_of_succ_lt h1) h2
  refine Ev.step ((step_exec rfl rfl (Nat.le_of_ble_eq_true rfl)).trans e1) ?_
  obtain ⟨s2, e2⟩ := exec_lit_yes (m := { att codeC text 11 lim ls s first must #[] s1 with pc := 13, pos := s + 1 }) rfl h1 h3
  refine Ev.step ((step_exec (m := { att codeC text 11 lim ls s first must #[] s1 with pc := 13, pos := s + 1 }) rfl rfl (Nat.le_of_ble_eq_true rfl)).trans e2) ?_
  obtain ⟨s3, e3⟩ := exec_success (m := { att codeC text 11 lim ls s first must #[] s2 with pc := 15, pos := s + 2 }) rfl (by
    show (first && ((false && _) || (must && (s + 2 == s)))) = false
    have : (s + 2 == s) = false := by simp
    rw [this]; cases first <;> cases must <;> rfl)
  refine Ev.step ((step_exec (m := { att codeC text 11 lim ls s first must #[] s2 with pc := 15, pos := s + 2 }) rfl rfl (Nat.le_of_ble_eq_true rfl)).trans e3) ?_
  exact att_yes (code := codeC) (text := text) (body := 11) (lim := lim) (ls := ls) (s := s) (first := first) (must := must) (marks := #[]) (lm := -1) (li := -1) (h := s + 2) (pc := 15) (pos := s + 2) (sn := s3)
theorem noC {text : Array Nat} {lim ls : Nat} (s : Nat) (first must : Bool) (marks : Array (Option Nat)) (sn : Seen) (hm : NoMarks marks) (h : ¬ AtC text lim s) :
    Ev 5 (Bad codeC text 11 lim ls s first must NoMarks) (att codeC text 11 lim ls s first must marks sn) := by
  subst hm
  by_cases h1 : s < lim ∧ text.getD s 0 = 42
  · obtain ⟨s1, e1⟩ := exec_lit_yes (m := att codeC text 11 lim ls s first must #[] sn) rfl h1.1 h1.2
    refine Ev.step ((step_exec rfl rfl (Nat.le_of_ble_eq_true rfl)).trans e1) ?_
    obtain ⟨s2, e2⟩ := exec_lit_no (m := { att codeC text 11 lim ls s first must #[] s1 with pc := 13, pos := s + 1 }) rfl (fun h2 h3 => h ⟨h2, h1.2, h3⟩)
    refine Ev.step ((step_exec (m := { att codeC text 11 lim ls s first must #[] s1 with pc := 13, pos := s + 1 }) rfl rfl (Nat.le_of_ble_eq_true rfl)).trans e2) ?_
    exact Ev.here ⟨#[], -1, -1, s, 13, s + 1, s2, rfl, rfl⟩
  · obtain ⟨s1, e1⟩ := exec_lit_no (m := att codeC text 11 lim ls s first must #[] sn) rfl (fun h2 h3 => h1 ⟨h2, h3⟩)
    refine Ev.step ((step_exec rfl rfl (Nat.le_of_ble_eq_true rfl)).trans e1) ?_
    exact Ev.here ⟨#[], -1, -1, s, 11, s, s1, rfl, rfl⟩
end Mine

end

section -- part Eng3
set_option linter.unusedVariables false
open PySem
set_option maxRecDepth 100000
namespace Mine
open PySem.Sre PySem.Sre.M

-- the hint's opening
def AtH (text : Array Nat) (lim s : Nat) : Prop := s + 2 < lim ∧ text.getD s 0 = 47 ∧ text.getD (s + 1) 0 = 42 ∧ text.getD (s + 2) 0 = 43
theorem yesH {text : Array Nat} {lim ls : Nat} (s : Nat) (first must : Bool) (marks : Array (Option Nat)) (sn : Seen) (hm : NoMarks marks) (h : AtH text lim s) :
    Ev 6 (Found s (s + 3) #[] (-1) (-1)) (att codeH text 13 lim ls s first must marks sn) := by
  obtain ⟨h1, h2, h3, h4⟩ := h
  subst hm
  obtain ⟨s1, e1⟩ := exec_lit_yes (m := att codeH text 13 lim ls s first must #[] sn) rfl (by show s < lim; omega) h2
  refine Ev.step ((step_exec rfl rfl (Nat.le_of_ble_eq_true rfl)).trans e1) ?_
  obtain ⟨s2, e2⟩ := exec_lit_yes (m := { att codeH text 13 lim ls s first must #[] s1 with pc := 15, pos := s + 1 }) rfl (by show s + 1 < lim; omega) h3
  refine Ev.step ((step_exec (m := { att codeH text 13 lim ls s first must #[] s1 with pc := 15, pos := s + 1 }) rfl rfl (Nat.le_of_ble_eq_true rfl)).trans e2) ?_
  obtain ⟨s3, e3⟩ := exec_lit_yes (m := { att codeH text 13 lim ls s first must #[] s2 with pc := 17, pos := s + 2 }) rfl h1 h4
  refine Ev.step ((step_exec (m := { att codeH text 13 lim ls s first must #[] s2 with pc := 17, pos := s + 2 }) rfl rfl (Nat.le_of_ble_eq_true rfl)).trans e3) ?_
  obtain ⟨s4, e4⟩ := exec_success (m := { att codeH text 13 lim ls s first must #[] s3 with pc := 19, pos := s + 3 }) rfl (by
    show (first && ((false && _) || (must && (s + 3 == s)))) = false
    have : (s + 3 == s) = false := by simp
    rw [this]; cases first <;> cases must <;> rfl)
  refine Ev.step ((step_exec (m := { att codeH text 13 lim ls s first must #[] s3 with pc := 19, pos := s + 3 }) rfl rfl (Nat.le_of_ble_eq_true rfl)).trans e4) ?_
  exact att_yes (code := codeH) (text := text) (body := 13) (lim := lim) (ls := ls) (s := s) (first := first) (must := must) (marks := #[]) (lm := -1) (li := -1) (h := s + 3) (pc := 19) (pos := s + 3) (sn := s4)
theorem noH {text : Array Nat} {lim ls : Nat} (s : Nat) (first must : Bool) (marks : Array (Option Nat)) (sn : Seen) (hm : NoMarks marks) (h : ¬ AtH text lim s) :
    Ev 6 (Bad codeH text 13 lim ls s first must NoMarks) (att codeH text 13 lim ls s first must marks sn) := by
  subst hm
  by_cases h1 : s < lim ∧ text.getD s 0 = 47
  · obtain ⟨s1, e1⟩ := exec_lit_yes (m := att codeH text 13 lim ls s first must #[] sn) rfl h1.1 h1.2
    refine Ev.step ((step_exec rfl rfl (Nat.le_of_ble_eq_true rfl)).trans e1) ?_
    by_cases h2 : s + 1 < lim ∧ text.getD (s + 1) 0 = 42
    · obtain ⟨s2, e2⟩ := exec_lit_yes (m := { att codeH text 13 lim ls s first must #[] s1 with pc := 15, pos := s + 1 }) rfl h2.1 h2.2
      refine Ev.step ((step_exec (m := { att codeH text 13 lim ls s first must #[] s1 with pc := 15, pos := s + 1 }) rfl rfl (Nat.le_of_ble_eq_true rfl)).trans e2) ?_
      obtain ⟨s3, e3⟩ := exec_lit_no (m := { att codeH text 13 lim ls s first must #[] s2 with pc := 17, pos := s + 2 }) rfl (fun h3 h4 => h ⟨h3, h1.2, h2.2, h4⟩)
      refine Ev.step ((step_exec (m := { att codeH text 13 lim ls s first must #[] s2 with pc := 17, pos := s + 2 }) rfl rfl (Nat.le_of_ble_eq_true rfl)).trans e3) ?_
      exact Ev.here ⟨#[], -1, -1, s, 17, s + 2, s3, rfl, rfl⟩
    · obtain ⟨s2, e2⟩ := exec_lit_no (m := { att codeH text 13 lim ls s first must #[] s1 with pc := 15, pos := s + 1 }) rfl (fun h3 h4 => h2 ⟨h3, h4⟩)
      refine Ev.step ((step_exec (m := { att codeH text 13 lim ls s first must #[] s1 with pc := 15, pos := s + 1 }) rfl rfl (Nat.le_of_ble_eq_true rfl)).trans e2) ?_
      exact Ev.here ⟨#[], -1, -1, s, 15, s + 1, s2, rfl, rfl⟩
  · obtain ⟨s1, e1⟩ := exec_lit_no (m := att codeH text 13 lim ls s first must #[] sn) rfl (fun h2 h3 => h1 ⟨h2, h3⟩)
    refine Ev.step ((step_exec rfl rfl (Nat.le_of_ble_eq_true rfl)).trans e1) ?_
    exact Ev.here ⟨#[], -1, -1, s, 13, s, s1, rfl, rfl⟩

-- the plain opening
def AtO (text : Array Nat) (lim s : Nat) : Prop := s + 1 < lim ∧ text.getD s 0 = 47 ∧ text.getD (s + 1) 0 = 42 ∧ ¬ (s + 2 < lim ∧ text.getD (s + 2) 0 = 43)
def nsF (body s : Nat) (first : Bool) : Sre.Frame := { wait := .nextStart, pc := body, pos := s, outermost := first }
def lnF (pc pos : Nat) (first : Bool) : Sre.Frame := { wait := .lookNot, pc := pc, pos := pos, outermost := first }
/-- at the look ahead that must not hold -/
def sO (text : Array Nat) (lim ls s : Nat) (first must : Bool) (sn : Seen) : M :=
  { att codeO text 11 lim ls s first must #[] sn with pc := 18, pos := s + 2, handed := s + 2, outermost := false, frames := [lnF 15 (s + 2) first, nsF 11 s first], weight := 2 }
theorem toO {text : Array Nat} {lim ls : Nat} (s : Nat) (first must : Bool) (sn : Seen) {P : M → Prop} {k : Nat} (h1 : s + 1 < lim) (h2 : text.getD s 0 = 47) (h3 : text.getD (s + 1) 0 = 42) (h : ∀ sn', Ev k P (sO text lim ls s first must sn')) :
    Ev (k + 3) P (att codeO text 11 lim ls s first must #[] sn) := by
  obtain ⟨s1, e1⟩ := exec_lit_yes (m := att codeO text 11 lim ls s first must #[] sn) rfl (by show s < lim; omega) h2
  refine Ev.step ((step_exec rfl rfl (Nat.le_of_ble_eq_true rfl)).trans e1) ?_
  obtain ⟨s2, e2⟩ := exec_lit_yes (m := { att codeO text 11 lim ls s first must #[] s1 with pc := 13, pos := s + 1 }) rfl h1 h3
  refine Ev.step ((step_exec (m := { att codeO text 11 lim ls s first must #[] s1 with pc := 13, pos := s + 1 }) rfl rfl (Nat.le_of_ble_eq_true rfl)).trans e2) ?_
  have e3 : ∃ sn', M.exec { att codeO text 11 lim ls s first must #[] s2 with pc := 15, pos := s + 2 } = sO text lim ls s first must sn' := ⟨_, rfl⟩
  obtain ⟨s3, e3⟩ := e3
  exact Ev.step ((step_exec (m := { att codeO text 11 lim ls s first must #[] s2 with pc := 15, pos := s + 2 }) rfl rfl (Nat.le_of_ble_eq_true rfl)).trans e3) (h s3)
theorem yesO {text : Array Nat} {lim ls : Nat} (s : Nat) (first must : Bool) (marks : Array (Option Nat)) (sn : Seen) (hm : NoMarks marks) (h : AtO text lim s) :
    Ev 9 (Found s (s + 2) #[] (-1) (-1)) (att codeO text 11 lim ls s first must marks sn) := by
  obtain ⟨h1, h2, h3, h4⟩ := h
  subst hm
  refine (toO (k := 5) s first must sn h1 h2 h3 fun s3 => ?_).mono (by omega) fun _ x => x
  obtain ⟨s4, e4⟩ := exec_lit_no (m := sO text lim ls s first must s3) rfl (fun h5 h6 => h4 ⟨h5, h6⟩)
  refine Ev.step ((step_exec rfl rfl (Nat.le_of_ble_eq_true rfl)).trans e4) ?_
  refine Ev.step (m' := { att codeO text 11 lim ls s first must #[] s4 with pc := 21, pos := s + 2, handed := s + 2 }) ((step_resume (f := lnF 15 (s + 2) first) (rest := [nsF 11 s first]) (yes := false) rfl rfl rfl).trans rfl) ?_
  obtain ⟨s5, e5⟩ := exec_success (m := { att codeO text 11 lim ls s first must #[] s4 with pc := 21, pos := s + 2, handed := s + 2 }) rfl (by
    show (first && ((false && _) || (must && (s + 2 == s)))) = false
    have : (s + 2 == s) = false := by simp
    rw [this]; cases first <;> cases must <;> rfl)
  refine Ev.step ((step_exec (m := { att codeO text 11 lim ls s first must #[] s4 with pc := 21, pos := s + 2, handed := s + 2 }) rfl rfl (Nat.le_of_ble_eq_true rfl)).trans e5) ?_
  exact att_yes (code := codeO) (text := text) (body := 11) (lim := lim) (ls := ls) (s := s) (first := first) (must := must) (marks := #[]) (lm := -1) (li := -1) (h := s + 2) (pc := 21) (pos := s + 2) (sn := s5)
theorem noO {text : Array Nat} {lim ls : Nat} (s : Nat) (first must : Bool) (marks : Array (Option Nat)) (sn : Seen) (hm : NoMarks marks) (h : ¬ AtO text lim s) :
    Ev 9 (Bad codeO text 11 lim ls s first must NoMarks) (att codeO text 11 lim ls s first must marks sn) := by
  subst hm
  by_cases h1 : s < lim ∧ text.getD s 0 = 47
  · by_cases h2 : s + 1 < lim ∧ text.getD (s + 1) 0 = 42
    · have h3 : s + 2 < lim ∧ text.getD (s + 2) 0 = 43 := Classical.byContradiction fun q => h ⟨h2.1, h1.2, h2.2, q⟩
      refine (toO (k := 4) s first must sn h2.1 h1.2 h2.2 fun s3 => ?_).mono (by omega) fun _ x => x
      obtain ⟨s4, e4⟩ := exec_lit_yes (m := sO text lim ls s first must s3) rfl h3.1 h3.2
      refine Ev.step ((step_exec rfl rfl (Nat.le_of_ble_eq_true rfl)).trans e4) ?_
      obtain ⟨s5, e5⟩ := exec_success (m := { sO text lim ls s first must s4 with pc := 20, pos := s + 3 }) rfl rfl
      refine Ev.step ((step_exec (m := { sO text lim ls s first must s4 with pc := 20, pos := s + 3 }) rfl rfl (Nat.le_of_ble_eq_true rfl)).trans e5) ?_
      refine Ev.step (m' := { att codeO text 11 lim ls s first must #[] s5 with pc := 15, pos := s + 2, handed := s + 3, answer := some false }) ((step_resume (f := lnF 15 (s + 2) first) (rest := [nsF 11 s first]) (yes := true) rfl rfl rfl).trans rfl) ?_
      exact Ev.here ⟨#[], -1, -1, s + 3, 15, s + 2, s5, rfl, rfl⟩
    · obtain ⟨s1, e1⟩ := exec_lit_yes (m := att codeO text 11 lim ls s first must #[] sn) rfl h1.1 h1.2
      refine Ev.step ((step_exec rfl rfl (Nat.le_of_ble_eq_true rfl)).trans e1) ?_
      obtain ⟨s2, e2⟩ := exec_lit_no (m := { att codeO text 11 lim ls s first must #[] s1 with pc := 13, pos := s + 1 }) rfl (fun h3 h4 => h2 ⟨h3, h4⟩)
      refine Ev.step ((step_exec (m := { att codeO text 11 lim ls s first must #[] s1 with pc := 13, pos := s + 1 }) rfl rfl (Nat.le_of_ble_eq_true rfl)).trans e2) ?_
      exact Ev.here ⟨#[], -1, -1, s, 13, s + 1, s2, rfl, rfl⟩
  · obtain ⟨s1, e1⟩ := exec_lit_no (m := att codeO text 11 lim ls s first must #[] sn) rfl (fun h2 h3 => h1 ⟨h2, h3⟩)
    refine Ev.step ((step_exec rfl rfl (Nat.le_of_ble_eq_true rfl)).trans e1) ?_
    exact Ev.here ⟨#[], -1, -1, s, 11, s, s1, rfl, rfl⟩
end Mine

end

section -- part Eng4
set_option linter.unusedVariables false
open PySem
set_option maxRecDepth 100000
namespace Mine
open PySem.Sre PySem.Sre.M

/-- the letters of the law's texts -/
def isL (c : Nat) : Bool := c == 97 || c == 98 || c == 65 || c == 66
/-- the signs of the law's texts -/
def AL : List Nat := [47, 42, 43, 36, 97, 98, 34, 10, 65]

def codeD : Array Nat := #[14, 4, 0, 0, 0, 4, 119, 0, 17, 0, 16, 36, 23, 106, 0, 1, 39, 92, 10, 3, 33685760, 33686018, 33686018, 33686018, 33686018, 33686018, 33686018, 33686018, 33686018, 33686018, 33686018, 33686018, 33686018, 33686018, 33686018, 33686018, 33686018, 33686018, 33686018, 33686018, 33686018, 33686018, 33686018, 33686018, 33686018, 33686018, 33686018, 33686018, 33686018, 33686018, 33686018, 33686018, 33686018, 33686018, 33686018, 33686018, 33686018, 33686018, 33686018, 33686018, 33686018, 33686018, 33686018, 33686018, 33686018, 33686018, 33686018, 33686018, 33686018, 33686018, 33686018, 33686018, 33686018, 33686018, 33686018, 33686018, 33686018, 33686018, 33686018, 33686018, 33686018, 33686018, 33686018, 33686018, 0, 0, 2147483648, 134217726, 0, 0, 8388608, 528482303, 0, 131072, 0, 2147483648, 0, 0, 0, 0, 0, 0, 0, 0, 0, 0, 0, 0, 0, 24, 9, 0, 4294967295, 13, 4, 8, 14, 0, 1, 18, 16, 36, 17, 1, 1, 1]

theorem word_AL : ∀ c ∈ AL, isWordUni c = isL c := by decide +kernel
theorem low_AL : ∀ c ∈ AL, lowerUni c = if c = 65 then 97 else c := by decide +kernel

theorem acc_word {c : Nat} (hc : c ∈ AL) (seen : Seen) : ∃ sn, accepts codeD 113 c seen = .ok (isL c, sn) := by
  have e : category 14 c = .ok (isL c) := by
    have h := word_AL c hc
    show (Except.ok (isWordUni c)).map (· != (14 % 2 == 1)) = _
    rw [h]; cases isL c <;> rfl
  have e2 : accepts codeD 113 c seen = (do if ← category 14 c then pure (true, (seen.add 8).add 69) else inSet codeD c 125 117 true ((seen.add 8).add 69)) := rfl
  rw [e2, e]
  cases h : isL c with
  | true => exact ⟨_, rfl⟩
  | false => exact ⟨_, rfl⟩
theorem acc_first {c : Nat} (hc : c ∈ AL) (seen : Seen) : ∃ sn, accepts codeD 16 c seen = .ok (isL c, sn) := by
  have e2 : accepts codeD 16 c seen = inSet codeD (lowerUni c) 126 18 true seen := rfl
  rw [e2, low_AL c hc]
  simp only [AL, List.mem_cons, List.not_mem_nil, or_false] at hc
  rcases hc with rfl | rfl | rfl | rfl | rfl | rfl | rfl | rfl | rfl <;> exact ⟨_, rfl⟩
def badC (c : Nat) : Bool := isL c || c == 34 || c == 36
theorem acc_bad {c : Nat} (hc : c ∈ AL) (seen : Seen) : ∃ sn, accepts codeB 8 c seen = .ok (badC c, sn) := by
  have e : category 14 c = .ok (isL c) := by
    have h := word_AL c hc
    show (Except.ok (isWordUni c)).map (· != (14 % 2 == 1)) = _
    rw [h]; cases isL c <;> rfl
  have e2 : accepts codeB 8 c seen = (do if ← category 14 c then pure (true, (seen.add 8).add 69) else inSet codeB c 18 12 true ((seen.add 8).add 69)) := rfl
  rw [e2, e]
  simp only [AL, List.mem_cons, List.not_mem_nil, or_false] at hc
  rcases hc with rfl | rfl | rfl | rfl | rfl | rfl | rfl | rfl | rfl <;> exact ⟨_, rfl⟩

section
variable {m : M}
theorem exec_in {op : Nat} {o : Op} (hw : m.code.getD m.pc 0 = op) (ho : ops[op]? = some o) (hk : o = .IN ∨ o = .IN_UNI_IGNORE) (hlt : m.pos < m.lim) {b : Bool} (ha : ∀ seen, ∃ sn, accepts m.code m.pc (m.text.getD m.pos 0) seen = .ok (b, sn)) :
    ∃ sn, m.exec = if b = true then { m with seen := sn, pc := m.pc + (1 + m.code.getD (m.pc + 1) 0), pos := m.pos + 1 } else { m with seen := sn, answer := some false } := by
  have h1 : m.word 0 = op := hw
  obtain ⟨sn, hs⟩ := ha (m.seen.add op)
  refine ⟨sn, ?_⟩
  unfold M.exec
  rw [h1, ho]
  rcases hk with rfl | rfl
  · simp only [if_neg (Nat.not_le.mpr hlt), ge_iff_le, hs, itemWidth, hw, ho]
    cases b <;> rfl
  · simp only [if_neg (Nat.not_le.mpr hlt), ge_iff_le, hs, itemWidth, hw, ho]
    cases b <;> rfl
theorem exec_in_end {op : Nat} {o : Op} (hw : m.code.getD m.pc 0 = op) (ho : ops[op]? = some o) (hk : o = .IN ∨ o = .IN_UNI_IGNORE) (hlt : m.lim ≤ m.pos) : ∃ sn, m.exec = { m with seen := sn, answer := some false } := by
  have h1 : m.word 0 = op := hw
  refine ⟨m.seen.add op, ?_⟩
  unfold M.exec
  rw [h1, ho]
  rcases hk with rfl | rfl
  · simp only [if_pos hlt, ge_iff_le, M.say]
  · simp only [if_pos hlt, ge_iff_le, M.say]
end

-- what stands ahead of an opening
def sB (text : Array Nat) (lim p : Nat) (sn : Seen) : M := { code := codeB, text, lim, start := p, pc := 5, pos := p, handed := p, marks := #[], seen := sn }
def BadAt (text : Array Nat) (p : Nat) : Prop := p ≠ 0 ∧ badC (text.getD (p - 1) 0) = true
theorem runB {text : Array Nat} {lim p : Nat} {sn : Seen} (hp : p ≤ lim) (hal : ∀ i, i < lim → text.getD i 0 ∈ AL) :
    (¬ BadAt text p → Ev 5 (Found p p #[] (-1) (-1)) (sB text lim p sn)) ∧ (BadAt text p → Ev 5 (fun m => m.outcome = some .failed) (sB text lim p sn)) := by
  -- the last two steps of a find
  have fin : ∀ s3, Ev 2 (Found p p #[] (-1) (-1)) { sB text lim p s3 with pc := 18 } := fun s3 => by
    obtain ⟨s4, e4⟩ := exec_success (m := { sB text lim p s3 with pc := 18 }) rfl rfl
    refine Ev.step ((step_exec (m := { sB text lim p s3 with pc := 18 }) rfl rfl (Nat.le_of_ble_eq_true rfl)).trans e4) ?_
    exact Ev.step (m' := { sB text lim p s4 with pc := 18, answer := some true, outcome := some .matched }) ((step_end (yes := true) rfl rfl rfl).trans rfl) (Ev.here (k := 0) ⟨rfl, rfl, rfl, rfl, rfl, rfl⟩)
  by_cases h0 : p = 0
  · subst h0
    refine ⟨fun _ => ?_, fun h => absurd rfl h.1⟩
    have e1 : ∃ sn', M.exec (sB text lim 0 sn) = { sB text lim 0 sn' with pc := 18 } := ⟨_, rfl⟩
    obtain ⟨s1, e1⟩ := e1
    refine Ev.mono (Ev.step ((step_exec rfl rfl (Nat.le_of_ble_eq_true rfl)).trans e1) (fin s1)) (by omega) fun _ x => x
  · obtain ⟨q, rfl⟩ : ∃ q, p = q + 1 := ⟨p - 1, by omega⟩
    have hq : q < lim := hp
    have e1 : ∃ sn', M.exec (sB text lim (q + 1) sn) = { sB text lim (q + 1) sn' with pc := 8, pos := q, handed := q, outermost := false, frames := [lnF 5 (q + 1) true], weight := 1 } := by
      refine ⟨sn.add 5, ?_⟩
      have e0 : M.exec (sB text lim (q + 1) sn) = if q + 1 < 1 then { sB text lim (q + 1) (sn.add 5) with pc := 18 } else { sB text lim (q + 1) (sn.add 5) with pc := 8, pos := q, handed := q, outermost := false, frames := [lnF 5 (q + 1) true], weight := 1 } := rfl
      rw [e0, if_neg (by omega)]
    obtain ⟨s1, e1⟩ := e1
    obtain ⟨s2, e2⟩ := exec_in (m := { sB text lim (q + 1) s1 with pc := 8, pos := q, handed := q, outermost := false, frames := [lnF 5 (q + 1) true], weight := 1 }) (op := 13) (o := .IN) rfl rfl (.inl rfl) hq (fun seen => acc_bad (hal q hq) seen)
    refine ⟨fun h => ?_, fun h => ?_⟩
    · have hb : badC (text.getD q 0) = false := by
        cases hc : badC (text.getD q 0) with
        | false => rfl
        | true => exact absurd ⟨h0, hc⟩ h
      rw [hb] at e2
      refine Ev.step ((step_exec rfl rfl (Nat.le_of_ble_eq_true rfl)).trans e1) ?_
      refine Ev.step ((step_exec (m := { sB text lim (q + 1) s1 with pc := 8, pos := q, handed := q, outermost := false, frames := [lnF 5 (q + 1) true], weight := 1 }) rfl rfl (Nat.le_of_ble_eq_true rfl)).trans e2) ?_
      refine Ev.step (m' := { sB text lim (q + 1) s2 with pc := 18, handed := q }) ((step_resume (f := lnF 5 (q + 1) true) (rest := []) (yes := false) rfl rfl rfl).trans rfl) ?_
      obtain ⟨s4, e4⟩ := exec_success (m := { sB text lim (q + 1) s2 with pc := 18, handed := q }) rfl rfl
      refine Ev.step ((step_exec (m := { sB text lim (q + 1) s2 with pc := 18, handed := q }) rfl rfl (Nat.le_of_ble_eq_true rfl)).trans e4) ?_
      exact Ev.step (m' := { sB text lim (q + 1) s4 with pc := 18, answer := some true, outcome := some .matched }) ((step_end (yes := true) rfl rfl rfl).trans rfl) (Ev.here (k := 0) ⟨rfl, rfl, rfl, rfl, rfl, rfl⟩)
    · have hb : badC (text.getD q 0) = true := h.2
      rw [hb] at e2
      refine Ev.step ((step_exec rfl rfl (Nat.le_of_ble_eq_true rfl)).trans e1) ?_
      refine Ev.step ((step_exec (m := { sB text lim (q + 1) s1 with pc := 8, pos := q, handed := q, outermost := false, frames := [lnF 5 (q + 1) true], weight := 1 }) rfl rfl (Nat.le_of_ble_eq_true rfl)).trans e2) ?_
      obtain ⟨s3, e3⟩ := exec_success (m := { sB text lim (q + 1) s2 with pc := 17, pos := q + 1, handed := q, outermost := false, frames := [lnF 5 (q + 1) true], weight := 1 }) rfl rfl
      refine Ev.step ((step_exec (m := { sB text lim (q + 1) s2 with pc := 17, pos := q + 1, handed := q, outermost := false, frames := [lnF 5 (q + 1) true], weight := 1 }) rfl rfl (Nat.le_of_ble_eq_true rfl)).trans e3) ?_
      refine Ev.step (m' := { sB text lim (q + 1) s3 with answer := some false }) ((step_resume (f := lnF 5 (q + 1) true) (rest := []) (yes := true) rfl rfl rfl).trans rfl) ?_
      exact Ev.step (m' := { sB text lim (q + 1) s3 with answer := some false, outcome := some .failed }) ((step_end (yes := false) rfl rfl rfl).trans rfl) (Ev.here (k := 0) rfl)
end Mine

end

section -- part Eng5
set_option linter.unusedVariables false
open PySem
set_option maxRecDepth 100000
namespace Mine
open PySem.Sre PySem.Sre.M

theorem exec_run {m : M} {n : Nat} (hw : m.code.getD m.pc 0 = 24) (hleast : m.code.getD (m.pc + 2) 0 = 0) (hmost : m.code.getD (m.pc + 3) 0 = 4294967295) (hlt : m.pos ≤ m.lim)
    (hr : ∀ seen, ∃ sn, Sre.run m.code m.text (m.pc + 4) (min 4294967295 (m.lim - m.pos)) m.pos 0 seen = .ok (n, sn)) :
    ∃ sn, m.exec = M.afterRun { m with seen := sn, pos := m.pos + n } .giveBack n (M.keep { m with seen := sn, pos := m.pos + n } m.inner.isSome) := by
  have h1 : m.word 0 = 24 := hw
  have h2 : m.word 2 = 0 := hleast
  have h3 : m.word 3 = 4294967295 := hmost
  have ho : ops[24]? = some Op.REPEAT_ONE := rfl
  obtain ⟨sn, hs⟩ := hr ((m.seen.add 24).add (m.word 4))
  refine ⟨sn, ?_⟩
  unfold M.exec
  rw [h1, ho]
  have h4 : ¬ (((0 : Nat) : Int) > (m.lim : Int) - m.pos) := by omega
  have h5 : ((m.lim : Int) - m.pos).toNat = m.lim - m.pos := by omega
  have w2 : ∀ x : Seen, M.word { m with seen := x } 2 = 0 := fun _ => hleast
  have w3 : ∀ x : Seen, M.word { m with seen := x } 3 = 4294967295 := fun _ => hmost
  have w4 : ∀ x : Seen, M.word { m with seen := x } 4 = m.word 4 := fun _ => rfl
  simp only [w2, w3, w4, if_neg h4, h5, Bool.false_eq_true, if_false, hs]
  simp

def dst (text : Array Nat) (lim ls s : Nat) (first must : Bool) (pc pos handed : Nat) (outer : Bool) (marks : Array (Option Nat)) (lm li : Int) (loops : Array Loop) (inner : Option Nat) (frames : List Sre.Frame) (weight : Nat) (ans : Option Bool) (sn : Seen) : M :=
  { code := codeD, text, lim, start := s, lastStart := ls, mustAdvance := must, pc, pos, handed, outermost := outer, marks, lastmark := lm, lastindex := li, loops, inner, frames, weight, answer := ans, seen := sn }

def lkF (s : Nat) (first : Bool) : Sre.Frame := { wait := .look, pc := 5, pos := s, outermost := first, kept := { lastmark := -1, lastindex := -1 } }
def clF (s : Nat) : Sre.Frame := { wait := .closeLoop, pc := 12, pos := s + 1, outermost := false, loop := 0 }
def mmF (s : Nat) : Sre.Frame := { wait := .maxMore, pc := 120, pos := s + 1, outermost := false, count := 0, kept := { lastmark := 0, lastindex := -1, whole := true, marks := #[some s] }, loop := 0, began := none }
def gbF (s n : Nat) : Sre.Frame := { wait := .giveBack, pc := 109, pos := s + 2 + n, outermost := false, count := n, kept := { lastmark := 0, lastindex := -1, whole := true, marks := #[some s] } }
def mtF (q : Nat) (cnt : Int) : Sre.Frame := { wait := .maxTail, pc := 120, pos := q, outermost := false, count := cnt, kept := { lastmark := 0, lastindex := -1 }, loop := 0 }
def lp (cnt : Int) (began : Option Nat) : Array Loop := #[{ pc := 12, count := cnt, began, outer := none }]

section
variable {text : Array Nat} {lim ls s : Nat} {first must : Bool} {b : Option Nat} {P : M → Prop} {k : Nat}

/-- the tail's sign at q: it is no dollar -/
theorem tailNo {q hd : Nat} {lps : Array Loop} {fr : List Sre.Frame} {wt : Nat} {sn : Seen} (hc : q < lim → text.getD q 0 ≠ 36)
    (h : ∀ sn', Ev k P (dst text lim ls s first must 120 q hd false #[some s, b] 0 (-1) lps none fr wt (some false) sn')) :
    Ev (k + 1) P (dst text lim ls s first must 120 q hd false #[some s, b] 0 (-1) lps none fr wt none sn) := by
  obtain ⟨s1, e1⟩ := exec_lit_no (m := dst text lim ls s first must 120 q hd false #[some s, b] 0 (-1) lps none fr wt none sn) rfl hc
  exact Ev.step ((step_exec rfl rfl (Nat.le_of_ble_eq_true rfl)).trans e1) (h s1)
/-- the tail's sign at q: a dollar -/
theorem tailYes {q hd : Nat} {lps : Array Loop} {fr : List Sre.Frame} {wt : Nat} {sn : Seen} (hq : q < lim) (hc : text.getD q 0 = 36)
    (h : ∀ sn', Ev k P (dst text lim ls s first must 124 (q + 1) (q + 1) false #[some s, some (q + 1)] 1 1 lps none fr wt (some true) sn')) :
    Ev (k + 3) P (dst text lim ls s first must 120 q hd false #[some s, b] 0 (-1) lps none fr wt none sn) := by
  obtain ⟨s1, e1⟩ := exec_lit_yes (m := dst text lim ls s first must 120 q hd false #[some s, b] 0 (-1) lps none fr wt none sn) rfl hq hc
  refine Ev.step ((step_exec rfl rfl (Nat.le_of_ble_eq_true rfl)).trans e1) ?_
  have e2 : ∃ sn', M.exec (dst text lim ls s first must 122 (q + 1) hd false #[some s, b] 0 (-1) lps none fr wt none s1) = dst text lim ls s first must 124 (q + 1) hd false #[some s, some (q + 1)] 1 1 lps none fr wt none sn' := by
    have e0 : ∃ sn', M.exec (dst text lim ls s first must 122 (q + 1) hd false #[some s, b] 0 (-1) lps none fr wt none s1) = M.mark (dst text lim ls s first must 122 (q + 1) hd false #[some s, b] 0 (-1) lps none fr wt none sn') 1 := ⟨_, rfl⟩
    obtain ⟨s0, e0⟩ := e0
    refine ⟨s0, e0.trans ?_⟩
    simp [M.mark, dst]
    try omega
  obtain ⟨s2, e2⟩ := e2
  refine Ev.step ((step_exec (m := dst text lim ls s first must 122 (q + 1) hd false #[some s, b] 0 (-1) lps none fr wt none s1) rfl rfl (Nat.le_of_ble_eq_true rfl)).trans e2) ?_
  obtain ⟨s3, e3⟩ := exec_success (m := dst text lim ls s first must 124 (q + 1) hd false #[some s, some (q + 1)] 1 1 lps none fr wt none s2) rfl rfl
  exact Ev.step ((step_exec (m := dst text lim ls s first must 124 (q + 1) hd false #[some s, some (q + 1)] 1 1 lps none fr wt none s2) rfl rfl (Nat.le_of_ble_eq_true rfl)).trans e3) (h s3)

/-- the look ahead has held, up to e -/
theorem lookYes {e pc pos hd : Nat} {cnt : Int} {bg : Option Nat} {inn : Option Nat} {sn : Seen} (hf : (first && must) = false) :
    Ev 5 (Found s s #[some s, some e] 1 1) (dst text lim ls s first must pc pos hd false #[some s, some e] 1 1 (lp cnt bg) inn [clF s, lkF s first, nsF 5 s first] 3 (some true) sn) := by
  refine Ev.step (m' := dst text lim ls s first must 12 (s + 1) hd false #[some s, some e] 1 1 #[] none [lkF s first, nsF 5 s first] 2 (some true) sn) ((step_resume (f := clF s) (rest := [lkF s first, nsF 5 s first]) (yes := true) rfl rfl rfl).trans rfl) ?_
  refine Ev.step (m' := dst text lim ls s first must 125 s hd first #[some s, some e] 1 1 #[] none [nsF 5 s first] 1 none sn) ((step_resume (f := lkF s first) (rest := [nsF 5 s first]) (yes := true) rfl rfl rfl).trans rfl) ?_
  obtain ⟨s3, e3⟩ := exec_success (m := dst text lim ls s first must 125 s hd first #[some s, some e] 1 1 #[] none [nsF 5 s first] 1 none sn) rfl (by
    show (first && ((false && _) || (must && (s == s)))) = false
    rw [beq_self_eq_true]; revert hf; cases first <;> cases must <;> simp)
  refine Ev.step ((step_exec (m := dst text lim ls s first must 125 s hd first #[some s, some e] 1 1 #[] none [nsF 5 s first] 1 none sn) rfl rfl (Nat.le_of_ble_eq_true rfl)).trans e3) ?_
  exact att_yes (code := codeD) (text := text) (body := 5) (lim := lim) (ls := ls) (s := s) (first := first) (must := must) (marks := #[some s, some e]) (lm := 1) (li := 1) (h := s) (pc := 125) (pos := s) (sn := s3)
abbrev TwoMarks (marks : Array (Option Nat)) : Prop := ∃ a b, marks = #[a, b]
/-- it has held, but the machine must advance -/
theorem lookMust {e pc pos hd : Nat} {cnt : Int} {bg : Option Nat} {inn : Option Nat} {sn : Seen} (hf : (first && must) = true) :
    Ev 3 (Bad codeD text 5 lim ls s first must TwoMarks) (dst text lim ls s first must pc pos hd false #[some s, some e] 1 1 (lp cnt bg) inn [clF s, lkF s first, nsF 5 s first] 3 (some true) sn) := by
  refine Ev.step (m' := dst text lim ls s first must 12 (s + 1) hd false #[some s, some e] 1 1 #[] none [lkF s first, nsF 5 s first] 2 (some true) sn) ((step_resume (f := clF s) (rest := [lkF s first, nsF 5 s first]) (yes := true) rfl rfl rfl).trans rfl) ?_
  refine Ev.step (m' := dst text lim ls s first must 125 s hd first #[some s, some e] 1 1 #[] none [nsF 5 s first] 1 none sn) ((step_resume (f := lkF s first) (rest := [nsF 5 s first]) (yes := true) rfl rfl rfl).trans rfl) ?_
  obtain ⟨s3, e3⟩ := exec_success_no (m := dst text lim ls s first must 125 s hd first #[some s, some e] 1 1 #[] none [nsF 5 s first] 1 none sn) rfl (by
    show (first && ((false && _) || (must && (s == s)))) = true
    rw [beq_self_eq_true]; revert hf; cases first <;> cases must <;> simp)
  refine Ev.step ((step_exec (m := dst text lim ls s first must 125 s hd first #[some s, some e] 1 1 #[] none [nsF 5 s first] 1 none sn) rfl rfl (Nat.le_of_ble_eq_true rfl)).trans e3) ?_
  exact Ev.here ⟨_, 1, 1, hd, 125, s, s3, ⟨some s, some e, rfl⟩, rfl⟩
/-- it has not held -/
theorem lookNo {pc pos hd : Nat} {cnt : Int} {bg : Option Nat} {inn : Option Nat} {lm li : Int} {sn : Seen} {a c : Option Nat} :
    Ev 2 (Bad codeD text 5 lim ls s first must TwoMarks) (dst text lim ls s first must pc pos hd false #[a, c] lm li (lp cnt bg) inn [clF s, lkF s first, nsF 5 s first] 3 (some false) sn) := by
  refine Ev.step (m' := dst text lim ls s first must 12 (s + 1) hd false #[a, c] lm li #[] none [lkF s first, nsF 5 s first] 2 (some false) sn) ((step_resume (f := clF s) (rest := [lkF s first, nsF 5 s first]) (yes := false) rfl rfl rfl).trans rfl) ?_
  refine Ev.step (m' := dst text lim ls s first must 5 s hd first #[a, c] lm li #[] none [nsF 5 s first] 1 (some false) sn) ((step_resume (f := lkF s first) (rest := [nsF 5 s first]) (yes := false) rfl rfl rfl).trans rfl) ?_
  exact Ev.here ⟨_, lm, li, hd, 5, s, sn, ⟨a, c, rfl⟩, rfl⟩

/-- no turn of the loop: its tail at s + 1 -/
theorem zeroGo {hd pc pos : Nat} {inn : Option Nat} {sn : Seen} (h : Ev k P (dst text lim ls s first must 120 (s + 1) (s + 1) false #[some s, b] 0 (-1) (lp (-1) none) none [mtF (s + 1) 0, clF s, lkF s first, nsF 5 s first] 4 none sn)) :
    Ev (k + 1) P (dst text lim ls s first must pc pos hd false #[some s, b] 0 (-1) (lp 0 (some (s + 1))) inn [mmF s, clF s, lkF s first, nsF 5 s first] 5 (some false) sn) :=
  Ev.step (m' := dst text lim ls s first must 120 (s + 1) (s + 1) false #[some s, b] 0 (-1) (lp (-1) none) none [mtF (s + 1) 0, clF s, lkF s first, nsF 5 s first] 4 none sn) ((step_resume (f := mmF s) (rest := [clF s, lkF s first, nsF 5 s first]) (yes := false) rfl rfl rfl).trans rfl) h

/-- to the loop's head -/
theorem toLoop {sn : Seen} {a : Option Nat} (h1 : s < lim) (h2 : text.getD s 0 = 36)
    (h : ∀ sn', Ev k P (dst text lim ls s first must 16 (s + 1) (s + 1) false #[some s, b] 0 (-1) (lp 0 (some (s + 1))) (some 0) [mmF s, clF s, lkF s first, nsF 5 s first] 5 none sn')) :
    Ev (k + 5) P (att codeD text 5 lim ls s first must #[a, b] sn) := by
  have e1 : ∃ sn', M.exec (att codeD text 5 lim ls s first must #[a, b] sn) = dst text lim ls s first must 8 s s false #[a, b] (-1) (-1) #[] none [lkF s first, nsF 5 s first] 2 none sn' := ⟨_, rfl⟩
  obtain ⟨s1, e1⟩ := e1
  refine Ev.step ((step_exec (m := att codeD text 5 lim ls s first must #[a, b] sn) rfl rfl (Nat.le_of_ble_eq_true rfl)).trans e1) ?_
  have e2 : ∃ sn', M.exec (dst text lim ls s first must 8 s s false #[a, b] (-1) (-1) #[] none [lkF s first, nsF 5 s first] 2 none s1) = dst text lim ls s first must 10 s s false #[some s, b] 0 (-1) #[] none [lkF s first, nsF 5 s first] 2 none sn' := ⟨_, rfl⟩
  obtain ⟨s2, e2⟩ := e2
  refine Ev.step ((step_exec (m := dst text lim ls s first must 8 s s false #[a, b] (-1) (-1) #[] none [lkF s first, nsF 5 s first] 2 none s1) rfl rfl (Nat.le_of_ble_eq_true rfl)).trans e2) ?_
  obtain ⟨s3, e3⟩ := exec_lit_yes (m := dst text lim ls s first must 10 s s false #[some s, b] 0 (-1) #[] none [lkF s first, nsF 5 s first] 2 none s2) rfl h1 h2
  refine Ev.step ((step_exec (m := dst text lim ls s first must 10 s s false #[some s, b] 0 (-1) #[] none [lkF s first, nsF 5 s first] 2 none s2) rfl rfl (Nat.le_of_ble_eq_true rfl)).trans e3) ?_
  have e4 : ∃ sn', M.exec (dst text lim ls s first must 12 (s + 1) s false #[some s, b] 0 (-1) #[] none [lkF s first, nsF 5 s first] 2 none s3) = dst text lim ls s first must 119 (s + 1) (s + 1) false #[some s, b] 0 (-1) (lp (-1) none) (some 0) [clF s, lkF s first, nsF 5 s first] 3 none sn' := ⟨_, rfl⟩
  obtain ⟨s4, e4⟩ := e4
  refine Ev.step ((step_exec (m := dst text lim ls s first must 12 (s + 1) s false #[some s, b] 0 (-1) #[] none [lkF s first, nsF 5 s first] 2 none s3) rfl rfl (Nat.le_of_ble_eq_true rfl)).trans e4) ?_
  have e5 : ∃ sn', M.exec (dst text lim ls s first must 119 (s + 1) (s + 1) false #[some s, b] 0 (-1) (lp (-1) none) (some 0) [clF s, lkF s first, nsF 5 s first] 3 none s4) = dst text lim ls s first must 16 (s + 1) (s + 1) false #[some s, b] 0 (-1) (lp 0 (some (s + 1))) (some 0) [mmF s, clF s, lkF s first, nsF 5 s first] 5 none sn' := ⟨_, rfl⟩
  obtain ⟨s5, e5⟩ := e5
  exact Ev.step ((step_exec (m := dst text lim ls s first must 119 (s + 1) (s + 1) false #[some s, b] 0 (-1) (lp (-1) none) (some 0) [clF s, lkF s first, nsF 5 s first] 3 none s4) rfl rfl (Nat.le_of_ble_eq_true rfl)).trans e5) (h s5)
/-- the sign at s is no dollar -/
theorem noDollar {sn : Seen} {a : Option Nat} (h1 : s < lim → text.getD s 0 ≠ 36) : Ev 4 (Bad codeD text 5 lim ls s first must TwoMarks) (att codeD text 5 lim ls s first must #[a, b] sn) := by
  have e1 : ∃ sn', M.exec (att codeD text 5 lim ls s first must #[a, b] sn) = dst text lim ls s first must 8 s s false #[a, b] (-1) (-1) #[] none [lkF s first, nsF 5 s first] 2 none sn' := ⟨_, rfl⟩
  obtain ⟨s1, e1⟩ := e1
  refine Ev.step ((step_exec (m := att codeD text 5 lim ls s first must #[a, b] sn) rfl rfl (Nat.le_of_ble_eq_true rfl)).trans e1) ?_
  have e2 : ∃ sn', M.exec (dst text lim ls s first must 8 s s false #[a, b] (-1) (-1) #[] none [lkF s first, nsF 5 s first] 2 none s1) = dst text lim ls s first must 10 s s false #[some s, b] 0 (-1) #[] none [lkF s first, nsF 5 s first] 2 none sn' := ⟨_, rfl⟩
  obtain ⟨s2, e2⟩ := e2
  refine Ev.step ((step_exec (m := dst text lim ls s first must 8 s s false #[a, b] (-1) (-1) #[] none [lkF s first, nsF 5 s first] 2 none s1) rfl rfl (Nat.le_of_ble_eq_true rfl)).trans e2) ?_
  obtain ⟨s3, e3⟩ := exec_lit_no (m := dst text lim ls s first must 10 s s false #[some s, b] 0 (-1) #[] none [lkF s first, nsF 5 s first] 2 none s2) rfl h1
  refine Ev.step ((step_exec (m := dst text lim ls s first must 10 s s false #[some s, b] 0 (-1) #[] none [lkF s first, nsF 5 s first] 2 none s2) rfl rfl (Nat.le_of_ble_eq_true rfl)).trans e3) ?_
  refine Ev.step (m' := dst text lim ls s first must 5 s s first #[some s, b] 0 (-1) #[] none [nsF 5 s first] 1 (some false) s3) ((step_resume (f := lkF s first) (rest := [nsF 5 s first]) (yes := false) rfl rfl rfl).trans rfl) ?_
  exact Ev.here ⟨_, 0, -1, s, 5, s, s3, ⟨some s, b, rfl⟩, rfl⟩
end
end Mine

end

section -- part Eng6
set_option linter.unusedVariables false
open PySem
set_option maxRecDepth 100000
namespace Mine
open PySem.Sre PySem.Sre.M

/-- how many letters stand from p on, n places at most -/
def lets (x : Array Nat) : Nat → Nat → Nat
  | 0, _ => 0
  | n + 1, p => if isL (x.getD p 0) = true then lets x n (p + 1) + 1 else 0
theorem lets_yes {x : Array Nat} {n p : Nat} (h : isL (x.getD p 0) = true) : lets x (n + 1) p = lets x n (p + 1) + 1 := by
  show (if isL (x.getD p 0) = true then _ else _) = _
  rw [if_pos h]
theorem lets_no {x : Array Nat} {n p : Nat} (h : isL (x.getD p 0) = false) : lets x (n + 1) p = 0 := by
  show (if isL (x.getD p 0) = true then _ else _) = _
  rw [if_neg (by rw [h]; simp)]
theorem lets_le (x : Array Nat) : ∀ n p, lets x n p ≤ n
  | 0, _ => Nat.le_refl _
  | n + 1, p => by unfold lets; split <;> have := lets_le x n (p + 1) <;> omega
theorem lets_are (x : Array Nat) : ∀ n p j, p ≤ j → j < p + lets x n p → isL (x.getD j 0) = true
  | 0, p, j, h1, h2 => by simp [lets] at h2; omega
  | n + 1, p, j, h1, h2 => by
    unfold lets at h2
    split at h2
    · rename_i h
      by_cases e : j = p
      · rw [e]; exact h
      · exact lets_are x n (p + 1) j (by omega) (by omega)
    · omega
theorem lets_stop (x : Array Nat) : ∀ n p, lets x n p < n → isL (x.getD (p + lets x n p) 0) = false
  | 0, _, h => absurd h (Nat.not_lt_zero _)
  | n + 1, p, h => by
    unfold lets at h ⊢
    split at h
    · rename_i hl
      rw [if_pos hl, show p + (lets x n (p + 1) + 1) = p + 1 + lets x n (p + 1) by omega]
      exact lets_stop x n (p + 1) (by omega)
    · rename_i hl
      rw [if_neg hl, Nat.add_zero]
      simpa using hl

theorem run_lets {text : Array Nat} {lim : Nat} (hal : ∀ i, i < lim → text.getD i 0 ∈ AL) : ∀ (n p found : Nat), p + n ≤ lim → ∀ seen, ∃ sn, Sre.run codeD text 113 n p found seen = .ok (found + lets text n p, sn)
  | 0, p, found, _, seen => ⟨seen, rfl⟩
  | n + 1, p, found, h, seen => by
    obtain ⟨s1, e1⟩ := acc_word (hal p (by omega)) seen
    unfold Sre.run
    rw [e1]
    cases hc : isL (text.getD p 0) with
    | true =>
      obtain ⟨s2, e2⟩ := run_lets hal n (p + 1) (found + 1) (by omega) s1
      refine ⟨s2, ?_⟩
      show Sre.run codeD text 113 n (p + 1) (found + 1) s1 = _
      rw [e2, lets_yes hc, show found + 1 + lets text n (p + 1) = found + (lets text n (p + 1) + 1) by omega]
    | false =>
      refine ⟨s1, ?_⟩
      rw [lets_no hc]; rfl

/-- where the letters behind the dollar at s end -/
def stopD (text : Array Nat) (lim s : Nat) : Nat := s + 1 + lets text (lim - (s + 1)) (s + 1)
def AtD (text : Array Nat) (lim s : Nat) : Prop := s < lim ∧ text.getD s 0 = 36 ∧ stopD text lim s < lim ∧ text.getD (stopD text lim s) 0 = 36

section
variable {text : Array Nat} {lim ls s : Nat} {first must : Bool} {b : Option Nat} {P : M → Prop} {k : Nat}
abbrev frB (s : Nat) (first : Bool) (n : Nat) : List Sre.Frame := [gbF s n, mmF s, clF s, lkF s first, nsF 5 s first]
abbrev frB0 (s : Nat) (first : Bool) : List Sre.Frame := [mmF s, clF s, lkF s first, nsF 5 s first]

/-- a first letter, and the letters behind it -/
theorem oneGo {n : Nat} {sn : Seen} (h1 : s + 1 < lim) (hl : lim ≤ 1000000) (hal : ∀ i, i < lim → text.getD i 0 ∈ AL) (h2 : isL (text.getD (s + 1) 0) = true) (hn : n = lets text (lim - (s + 2)) (s + 2))
    (h : ∀ sn', Ev k P (dst text lim ls s first must 119 (s + 2 + n) (s + 2 + n) false #[some s, b] 0 (-1) (lp 0 (some (s + 1))) (some 0) (frB s first n) 7 none sn')) :
    Ev (k + 2) P (dst text lim ls s first must 16 (s + 1) (s + 1) false #[some s, b] 0 (-1) (lp 0 (some (s + 1))) (some 0) (frB0 s first) 5 none sn) := by
  obtain ⟨s1, e1⟩ := exec_in (m := dst text lim ls s first must 16 (s + 1) (s + 1) false #[some s, b] 0 (-1) (lp 0 (some (s + 1))) (some 0) (frB0 s first) 5 none sn) (op := 39) (o := .IN_UNI_IGNORE) rfl rfl (.inr rfl) h1 (fun seen => acc_first (hal _ h1) seen)
  have e1' : M.exec (dst text lim ls s first must 16 (s + 1) (s + 1) false #[some s, b] 0 (-1) (lp 0 (some (s + 1))) (some 0) (frB0 s first) 5 none sn) = dst text lim ls s first must 109 (s + 2) (s + 1) false #[some s, b] 0 (-1) (lp 0 (some (s + 1))) (some 0) (frB0 s first) 5 none s1 := by
    rw [e1]
    show (if isL (text.getD (s + 1) 0) = true then _ else _) = _
    rw [if_pos h2]; rfl
  refine Ev.step ((step_exec rfl rfl (Nat.le_of_ble_eq_true rfl)).trans e1') ?_
  obtain ⟨s2, e2⟩ := exec_run (m := dst text lim ls s first must 109 (s + 2) (s + 1) false #[some s, b] 0 (-1) (lp 0 (some (s + 1))) (some 0) (frB0 s first) 5 none s1) (n := n) rfl rfl rfl h1 (fun seen => by
    obtain ⟨sn', hr⟩ := run_lets hal (lim - (s + 2)) (s + 2) 0 (by omega) seen
    refine ⟨sn', ?_⟩
    show Sre.run codeD text 113 (min 4294967295 (lim - (s + 2))) (s + 2) 0 seen = _
    rw [Nat.min_eq_right (by omega), hr, Nat.zero_add, hn])
  exact Ev.step ((step_exec (m := dst text lim ls s first must 109 (s + 2) (s + 1) false #[some s, b] 0 (-1) (lp 0 (some (s + 1))) (some 0) (frB0 s first) 5 none s1) rfl rfl (Nat.le_of_ble_eq_true rfl)).trans (e2.trans rfl)) (h s2)
/-- no first letter -/
theorem oneNo {sn : Seen} (hal : ∀ i, i < lim → text.getD i 0 ∈ AL) (h2 : s + 1 < lim → isL (text.getD (s + 1) 0) = false)
    (h : ∀ sn', Ev k P (dst text lim ls s first must 16 (s + 1) (s + 1) false #[some s, b] 0 (-1) (lp 0 (some (s + 1))) (some 0) (frB0 s first) 5 (some false) sn')) :
    Ev (k + 1) P (dst text lim ls s first must 16 (s + 1) (s + 1) false #[some s, b] 0 (-1) (lp 0 (some (s + 1))) (some 0) (frB0 s first) 5 none sn) := by
  by_cases h1 : s + 1 < lim
  · obtain ⟨s1, e1⟩ := exec_in (m := dst text lim ls s first must 16 (s + 1) (s + 1) false #[some s, b] 0 (-1) (lp 0 (some (s + 1))) (some 0) (frB0 s first) 5 none sn) (op := 39) (o := .IN_UNI_IGNORE) rfl rfl (.inr rfl) h1 (fun seen => acc_first (hal _ h1) seen)
    have e1' : M.exec (dst text lim ls s first must 16 (s + 1) (s + 1) false #[some s, b] 0 (-1) (lp 0 (some (s + 1))) (some 0) (frB0 s first) 5 none sn) = dst text lim ls s first must 16 (s + 1) (s + 1) false #[some s, b] 0 (-1) (lp 0 (some (s + 1))) (some 0) (frB0 s first) 5 (some false) s1 := by
      rw [e1]
      show (if isL (text.getD (s + 1) 0) = true then _ else _) = _
      rw [if_neg (by rw [h2 h1]; simp)]; rfl
    exact Ev.step ((step_exec rfl rfl (Nat.le_of_ble_eq_true rfl)).trans e1') (h s1)
  · obtain ⟨s1, e1⟩ := exec_in_end (m := dst text lim ls s first must 16 (s + 1) (s + 1) false #[some s, b] 0 (-1) (lp 0 (some (s + 1))) (some 0) (frB0 s first) 5 none sn) (op := 39) (o := .IN_UNI_IGNORE) rfl rfl (.inr rfl) (Nat.not_lt.mp h1)
    exact Ev.step ((step_exec rfl rfl (Nat.le_of_ble_eq_true rfl)).trans (e1.trans rfl)) (h s1)

/-- to the tail behind one turn -/
theorem toTail {n q : Nat} {sn : Seen} (h : ∀ sn', Ev k P (dst text lim ls s first must 120 q q false #[some s, b] 0 (-1) (lp 0 (some (s + 1))) none (mtF q 1 :: frB s first n) 8 none sn')) :
    Ev (k + 1) P (dst text lim ls s first must 119 q q false #[some s, b] 0 (-1) (lp 0 (some (s + 1))) (some 0) (frB s first n) 7 none sn) := by
  have e : ∃ sn', M.exec (dst text lim ls s first must 119 q q false #[some s, b] 0 (-1) (lp 0 (some (s + 1))) (some 0) (frB s first n) 7 none sn) = dst text lim ls s first must 120 q q false #[some s, b] 0 (-1) (lp 0 (some (s + 1))) none (mtF q 1 :: frB s first n) 8 none sn' := ⟨_, rfl⟩
  obtain ⟨s1, e1⟩ := e
  exact Ev.step ((step_exec (m := dst text lim ls s first must 119 q q false #[some s, b] 0 (-1) (lp 0 (some (s + 1))) (some 0) (frB s first n) 7 none sn) rfl rfl (Nat.le_of_ble_eq_true rfl)).trans e1) (h s1)
/-- the letters are given back one by one, in vain -/
theorem giveBack : ∀ (n : Nat) {sn : Seen}, (∀ j, j ≤ n → s + 2 + j < lim → text.getD (s + 2 + j) 0 ≠ 36) →
    (∀ sn' pc pos hd inn, Ev k P (dst text lim ls s first must pc pos hd false #[some s, b] 0 (-1) (lp 0 (some (s + 1))) inn (frB0 s first) 5 (some false) sn')) →
    Ev (k + 4 * (n + 1)) P (dst text lim ls s first must 119 (s + 2 + n) (s + 2 + n) false #[some s, b] 0 (-1) (lp 0 (some (s + 1))) (some 0) (frB s first n) 7 none sn)
  | 0, sn, hc, h => by
    refine Ev.mono (a := k + 2 + 1 + 1) (toTail fun s1 => ?_) (by omega) fun _ x => x
    refine tailNo (hc 0 (Nat.le_refl _)) fun s2 => ?_
    refine Ev.step (m' := dst text lim ls s first must 120 (s + 2 + 0) (s + 2 + 0) false #[some s, b] 0 (-1) (lp 0 (some (s + 1))) (some 0) (frB s first 0) 7 (some false) s2) ((step_resume (f := mtF (s + 2 + 0) 1) (rest := frB s first 0) (yes := false) rfl rfl rfl).trans rfl) ?_
    exact Ev.step (m' := dst text lim ls s first must 109 (s + 2 + 0) (s + 2 + 0) false #[some s, b] 0 (-1) (lp 0 (some (s + 1))) (some 0) (frB0 s first) 5 (some false) s2) ((step_resume (f := gbF s 0) (rest := frB0 s first) (yes := false) rfl rfl rfl).trans rfl) (h _ _ _ _ _)
  | n + 1, sn, hc, h => by
    refine Ev.mono (a := k + 4 * (n + 1) + 1 + 1 + 1 + 1) (toTail fun s1 => ?_) (by omega) fun _ x => x
    refine tailNo (hc (n + 1) (Nat.le_refl _)) fun s2 => ?_
    refine Ev.step (m' := dst text lim ls s first must 120 (s + 2 + (n + 1)) (s + 2 + (n + 1)) false #[some s, b] 0 (-1) (lp 0 (some (s + 1))) (some 0) (frB s first (n + 1)) 7 (some false) s2) ((step_resume (f := mtF (s + 2 + (n + 1)) 1) (rest := frB s first (n + 1)) (yes := false) rfl rfl rfl).trans rfl) ?_
    refine Ev.step (m' := dst text lim ls s first must 119 (s + 2 + n) (s + 2 + n) false #[some s, b] 0 (-1) (lp 0 (some (s + 1))) (some 0) (frB s first n) 7 none s2) ((step_resume (f := gbF s (n + 1)) (rest := frB0 s first) (yes := false) rfl rfl rfl).trans ?_) (giveBack n (fun j hj => hc j (by omega)) h)
    have hz : ¬ (((n + 1 : Nat) : Int) - 1 < ((0 : Nat) : Int)) := by omega
    have hz' : (((n + 1 : Nat) : Int) - 1) = (n : Int) := by omega
    have e0 : ∀ X : M, X = dst text lim ls s first must 109 (s + 2 + (n + 1)) (s + 2 + (n + 1)) false #[some s, b] 0 (-1) (lp 0 (some (s + 1))) (some 0) (frB0 s first) 5 none s2 →
        M.resume X (gbF s (n + 1)) false = if (((n + 1 : Nat) : Int) - 1 < ((0 : Nat) : Int)) then (M.putBack X (gbF s (n + 1)).kept).say false else M.afterRun { M.putBack X (gbF s (n + 1)).kept with pos := s + 2 + (n + 1) - 1 } .giveBack (((n + 1 : Nat) : Int) - 1) (gbF s (n + 1)).kept := by
      rintro X rfl; rfl
    refine (e0 _ rfl).trans ?_
    rw [if_neg hz, hz', show s + 2 + (n + 1) - 1 = s + 2 + n by omega]
    rfl

theorem isL36 : isL 36 = false := rfl
theorem yesD {marks : Array (Option Nat)} {sn : Seen} (hl : lim ≤ 1000000) (hal : ∀ i, i < lim → text.getD i 0 ∈ AL) (hm : TwoMarks marks) (h : AtD text lim s) (hf : (first && must) = false) :
    Ev 20 (Found s s #[some s, some (stopD text lim s + 1)] 1 1) (att codeD text 5 lim ls s first must marks sn) := by
  obtain ⟨h1, h2, h3, h4⟩ := h
  obtain ⟨a, b, rfl⟩ := hm
  unfold stopD at h3 h4 ⊢
  refine Ev.mono (a := 15 + 5) (toLoop h1 h2 fun s1 => ?_) (by omega) fun _ x => x
  by_cases hs : s + 1 < lim
  · have e : lim - (s + 1) = (lim - (s + 2)) + 1 := by omega
    cases hc : isL (text.getD (s + 1) 0) with
    | true =>
      have e2 : lets text (lim - (s + 1)) (s + 1) = lets text (lim - (s + 2)) (s + 2) + 1 := by rw [e]; exact lets_yes hc
      rw [e2] at h3 h4 ⊢
      rw [show s + 1 + (lets text (lim - (s + 2)) (s + 2) + 1) = s + 2 + lets text (lim - (s + 2)) (s + 2) by omega] at h3 h4 ⊢
      refine Ev.mono (a := 5 + 1 + 1 + 1 + 3 + 1 + 2) (oneGo hs hl hal hc rfl fun s2 => toTail fun s3 => tailYes h3 h4 fun s4 => ?_) (by omega) fun _ x => x
      generalize lets text (lim - (s + 2)) (s + 2) = n at *
      refine Ev.step (m' := dst text lim ls s first must 120 (s + 2 + n) (s + 2 + n + 1) false #[some s, some (s + 2 + n + 1)] 1 1 (lp 0 (some (s + 1))) (some 0) (frB s first n) 7 (some true) s4) ((step_resume (f := mtF (s + 2 + n) 1) (rest := frB s first n) (yes := true) rfl rfl rfl).trans rfl) ?_
      refine Ev.step (m' := dst text lim ls s first must 109 (s + 2 + n) (s + 2 + n + 1) false #[some s, some (s + 2 + n + 1)] 1 1 (lp 0 (some (s + 1))) (some 0) (frB0 s first) 5 (some true) s4) ((step_resume (f := gbF s n) (rest := frB0 s first) (yes := true) rfl rfl rfl).trans rfl) ?_
      refine Ev.step (m' := dst text lim ls s first must 120 (s + 1) (s + 2 + n + 1) false #[some s, some (s + 2 + n + 1)] 1 1 (lp 0 none) (some 0) [clF s, lkF s first, nsF 5 s first] 3 (some true) s4) ((step_resume (f := mmF s) (rest := [clF s, lkF s first, nsF 5 s first]) (yes := true) rfl rfl rfl).trans rfl) ?_
      exact lookYes hf
    | false =>
      have e2 : lets text (lim - (s + 1)) (s + 1) = 0 := by rw [e]; exact lets_no hc
      rw [e2, Nat.add_zero] at h3 h4
      rw [e2, Nat.add_zero]
      refine Ev.mono (a := 5 + 1 + 3 + 1 + 1) (oneNo hal (fun _ => hc) fun s2 => zeroGo (tailYes h3 h4 fun s3 => ?_)) (by omega) fun _ x => x
      refine Ev.step (m' := dst text lim ls s first must 120 (s + 1) (s + 1 + 1) false #[some s, some (s + 1 + 1)] 1 1 (lp (-1) none) (some 0) [clF s, lkF s first, nsF 5 s first] 3 (some true) s3) ((step_resume (f := mtF (s + 1) 0) (rest := [clF s, lkF s first, nsF 5 s first]) (yes := true) rfl rfl rfl).trans rfl) ?_
      exact lookYes hf
  · have := lets_le text (lim - (s + 1)) (s + 1); omega
theorem noD {marks : Array (Option Nat)} {sn : Seen} (hl : lim ≤ 1000000) (hal : ∀ i, i < lim → text.getD i 0 ∈ AL) (hm : TwoMarks marks) (h : AtD text lim s → (first && must) = true) :
    Ev (20 + 4 * (lim + 1)) (Bad codeD text 5 lim ls s first must TwoMarks) (att codeD text 5 lim ls s first must marks sn) := by
  obtain ⟨a, b, rfl⟩ := hm
  by_cases h0 : s < lim ∧ text.getD s 0 = 36
  · obtain ⟨h1, h2⟩ := h0
    refine Ev.mono (a := (15 + 4 * (lim + 1)) + 5) (toLoop h1 h2 fun s1 => ?_) (by omega) fun _ x => x
    -- the tail behind no turn: it holds, or not
    have zero : ∀ s2 pc pos hd inn, (stopD text lim s = s + 1 ∨ (s + 1 < lim → text.getD (s + 1) 0 ≠ 36)) → Ev 8 (Bad codeD text 5 lim ls s first must TwoMarks) (dst text lim ls s first must pc pos hd false #[some s, b] 0 (-1) (lp 0 (some (s + 1))) inn (frB0 s first) 5 (some false) s2) := by
      intro s2 pc pos hd inn hz
      by_cases ht : s + 1 < lim ∧ text.getD (s + 1) 0 = 36
      · have hst : stopD text lim s = s + 1 := hz.resolve_right fun q => q ht.1 ht.2
        have hf : (first && must) = true := h ⟨h1, h2, by rw [hst]; exact ht.1, by rw [hst]; exact ht.2⟩
        refine Ev.mono (a := 3 + 1 + 3 + 1) (zeroGo (tailYes ht.1 ht.2 fun s3 => ?_)) (by omega) fun _ x => x
        refine Ev.step (m' := dst text lim ls s first must 120 (s + 1) (s + 1 + 1) false #[some s, some (s + 1 + 1)] 1 1 (lp (-1) none) (some 0) [clF s, lkF s first, nsF 5 s first] 3 (some true) s3) ((step_resume (f := mtF (s + 1) 0) (rest := [clF s, lkF s first, nsF 5 s first]) (yes := true) rfl rfl rfl).trans rfl) ?_
        exact lookMust hf
      · refine Ev.mono (a := 2 + 1 + 1 + 1) (zeroGo (tailNo (fun q1 q2 => ht ⟨q1, q2⟩) fun s3 => ?_)) (by omega) fun _ x => x
        refine Ev.step (m' := dst text lim ls s first must 120 (s + 1) (s + 1) false #[some s, b] 0 (-1) (lp (-1) none) (some 0) [clF s, lkF s first, nsF 5 s first] 3 (some false) s3) ((step_resume (f := mtF (s + 1) 0) (rest := [clF s, lkF s first, nsF 5 s first]) (yes := false) rfl rfl rfl).trans rfl) ?_
        exact lookNo
    by_cases hc : s + 1 < lim ∧ isL (text.getD (s + 1) 0) = true
    · have e : lim - (s + 1) = (lim - (s + 2)) + 1 := by omega
      have e2 : stopD text lim s = s + 2 + lets text (lim - (s + 2)) (s + 2) := by unfold stopD; rw [e, lets_yes hc.2]; show s + 1 + (lets text (lim - (s + 2)) (s + 2) + 1) = _; omega
      have hle := lets_le text (lim - (s + 2)) (s + 2)
      by_cases ht : stopD text lim s < lim ∧ text.getD (stopD text lim s) 0 = 36
      · have hf : (first && must) = true := h ⟨h1, h2, ht.1, ht.2⟩
        rw [e2] at ht
        refine Ev.mono (a := 3 + 1 + 1 + 1 + 3 + 1 + 2) (oneGo hc.1 hl hal hc.2 rfl fun s2 => toTail fun s3 => tailYes ht.1 ht.2 fun s4 => ?_) (by omega) fun _ x => x
        generalize lets text (lim - (s + 2)) (s + 2) = n at *
        refine Ev.step (m' := dst text lim ls s first must 120 (s + 2 + n) (s + 2 + n + 1) false #[some s, some (s + 2 + n + 1)] 1 1 (lp 0 (some (s + 1))) (some 0) (frB s first n) 7 (some true) s4) ((step_resume (f := mtF (s + 2 + n) 1) (rest := frB s first n) (yes := true) rfl rfl rfl).trans rfl) ?_
        refine Ev.step (m' := dst text lim ls s first must 109 (s + 2 + n) (s + 2 + n + 1) false #[some s, some (s + 2 + n + 1)] 1 1 (lp 0 (some (s + 1))) (some 0) (frB0 s first) 5 (some true) s4) ((step_resume (f := gbF s n) (rest := frB0 s first) (yes := true) rfl rfl rfl).trans rfl) ?_
        refine Ev.step (m' := dst text lim ls s first must 120 (s + 1) (s + 2 + n + 1) false #[some s, some (s + 2 + n + 1)] 1 1 (lp 0 none) (some 0) [clF s, lkF s first, nsF 5 s first] 3 (some true) s4) ((step_resume (f := mmF s) (rest := [clF s, lkF s first, nsF 5 s first]) (yes := true) rfl rfl rfl).trans rfl) ?_
        exact lookMust hf
      · refine Ev.mono (a := 8 + 4 * (lets text (lim - (s + 2)) (s + 2) + 1) + 2) (oneGo hc.1 hl hal hc.2 rfl fun s2 => giveBack _ (fun j hj hlt q => ?_) fun s3 pc pos hd inn => zero _ _ _ _ _ (.inr fun _ q => ?_)) (by omega) fun _ x => x
        · by_cases hj' : j = lets text (lim - (s + 2)) (s + 2)
          · rw [hj'] at q hlt; exact ht ⟨by rw [e2]; exact hlt, by rw [e2]; exact q⟩
          · have := lets_are text (lim - (s + 2)) (s + 2) (s + 2 + j) (by omega) (by omega)
            rw [q, isL36] at this; cases this
        · have := hc.2; rw [q, isL36] at this; cases this
    · have hn : s + 1 < lim → isL (text.getD (s + 1) 0) = false := fun q => by
        cases hb : isL (text.getD (s + 1) 0) with
        | false => rfl
        | true => exact absurd ⟨q, hb⟩ hc
      refine Ev.mono (a := 8 + 1) (oneNo hal hn fun s2 => zero _ _ _ _ _ ?_) (by omega) fun _ x => x
      by_cases hs1 : s + 1 < lim
      · left
        unfold stopD
        have e : lim - (s + 1) = (lim - (s + 2)) + 1 := by omega
        rw [e, lets_no (hn hs1)]
      · right; intro q; exact absurd q hs1
  · exact (noDollar fun q1 q2 => h0 ⟨q1, q2⟩).mono (by omega) fun _ x => x
end
end Mine

end

section -- part Eng7
set_option linter.unusedVariables false
open PySem PySem.W PyProof.Rows PySem.Calls
set_option maxRecDepth 100000
namespace Mine

theorem startC (x : Array Nat) (p lim : Nat) (must : Bool) : Sre.forSearch codeC x 0 p lim must =
    if (decide (p > lim) || decide (lim - p < 2)) = true then { code := codeC, text := x, lim, start := p, mustAdvance := must, pc := 11, pos := p, handed := p, marks := #[], answer := some false, seen := ({} : Sre.Seen).add 14 } else att codeC x 11 lim lim p true must #[] (({} : Sre.Seen).add 14) := rfl
theorem startH (x : Array Nat) (p lim : Nat) (must : Bool) : Sre.forSearch codeH x 0 p lim must =
    if (decide (p > lim) || decide (lim - p < 3)) = true then { code := codeH, text := x, lim, start := p, mustAdvance := must, pc := 13, pos := p, handed := p, marks := #[], answer := some false, seen := ({} : Sre.Seen).add 14 } else att codeH x 13 lim lim p true must #[] (({} : Sre.Seen).add 14) := rfl
theorem startO (x : Array Nat) (p lim : Nat) (must : Bool) : Sre.forSearch codeO x 0 p lim must =
    if (decide (p > lim) || decide (lim - p < 2)) = true then { code := codeO, text := x, lim, start := p, mustAdvance := must, pc := 11, pos := p, handed := p, marks := #[], answer := some false, seen := ({} : Sre.Seen).add 14 } else att codeO x 11 lim lim p true must #[] (({} : Sre.Seen).add 14) := rfl
theorem startD (x : Array Nat) (p lim : Nat) (must : Bool) : Sre.forSearch codeD x 1 p lim must =
    if (decide (p > lim) || decide (lim - p < 0)) = true then { code := codeD, text := x, lim, start := p, mustAdvance := must, pc := 5, pos := p, handed := p, marks := #[none, none], answer := some false, seen := ({} : Sre.Seen).add 14 } else att codeD x 5 lim lim p true must #[none, none] (({} : Sre.Seen).add 14) := rfl
theorem startB (x : Array Nat) (p lim : Nat) : Sre.forMatch codeB x 0 p lim false false = sB x lim p (({} : Sre.Seen).add 14) := rfl

/-- more steps than any of these searches takes -/
def bigK : Nat := 2 ^ 62
theorem le_bigK {k d lim : Nat} (hl : lim ≤ 1000000) (hk : k ≤ 30 + 4 * (lim + 1)) (hd : d ≤ lim) : (k + 2) * (d + 1) ≤ bigK := by
  have h1 : k + 2 ≤ 5000000 := by omega
  have h2 : d + 1 ≤ 1000001 := by omega
  have h3 := Nat.mul_le_mul h1 h2
  have h4 : (5000000 : Nat) * 1000001 ≤ bigK := by decide
  omega

section
variable {x : Array Nat} {p lim : Nat} {must : Bool}
theorem dead_ends {m : Sre.M} (h1 : m.outcome = none) (h2 : m.answer = some false) (h3 : m.frames = []) : Ev bigK (fun m' => m'.outcome = some .failed) m := by
  have h : Ev (0 + 1) (fun m' : Sre.M => m'.outcome = some .failed) m := Ev.step (step_end h1 h2 h3) (Ev.here (by rfl))
  exact h.mono (by decide) fun _ q => q
theorem foundC {s : Nat} (hl : lim ≤ 1000000) (hp : p ≤ s) (ha : AtC x lim s) (hj : ∀ j, p ≤ j → j < s → ¬ AtC x lim j) : Ev bigK (Found s (s + 2) #[] (-1) (-1)) (Sre.forSearch codeC x 0 p lim must) := by
  have h1 := ha.1
  have hc : (decide (p > lim) || decide (lim - p < 2)) = false := by simp; omega
  rw [startC, hc, if_neg (by simp)]
  have e : p + (s - p) = s := by omega
  have h := search_found (k := 5) (At := AtC x lim) (Mk := NoMarks) (Fin := fun s => Found s (s + 2) #[] (-1) (-1)) (Bl := fun _ _ => False) (code := codeC) (text := x) (body := 11) (lim := lim) (ls := lim) (fun q => q) rfl
    (fun s f m mk sn h1 h2 h3 => yesC s f m mk sn h1 h2) (fun s f m mk sn h1 h2 => noC s f m mk sn h1 h2) (s - p) p true must #[] (({} : Sre.Seen).add 14) rfl (fun j q1 q2 q3 => absurd q3 (hj j q1 (by omega))) (by rw [e]; exact ha) (fun _ q => q) (by omega)
  rw [e] at h
  exact h.mono (by have := le_bigK (k := 4) (d := s - p) hl (by omega) (by omega); omega) fun _ q => q
theorem noneC (hl : lim ≤ 1000000) (hj : ∀ j, p ≤ j → ¬ AtC x lim j) : Ev bigK (fun m => m.outcome = some .failed) (Sre.forSearch codeC x 0 p lim must) := by
  rw [startC]
  cases hc : (decide (p > lim) || decide (lim - p < 2)) with
  | true => rw [if_pos rfl]; exact dead_ends rfl rfl rfl
  | false =>
    rw [if_neg (by simp)]
    simp at hc
    exact (search_none (k := 5) (At := AtC x lim) (Mk := NoMarks) (Bl := fun _ _ => False) (fun q => q) rfl (fun s f m mk sn h1 h2 => noC s f m mk sn h1 h2) (lim - p) p true must #[] (({} : Sre.Seen).add 14) rfl (fun j q1 _ q3 => absurd q3 (hj j q1)) (by omega)).mono
      (by have := le_bigK (k := 5) (d := lim - p) hl (by omega) (by omega); omega) fun _ q => q
theorem foundH {s : Nat} (hl : lim ≤ 1000000) (hp : p ≤ s) (ha : AtH x lim s) (hj : ∀ j, p ≤ j → j < s → ¬ AtH x lim j) : Ev bigK (Found s (s + 3) #[] (-1) (-1)) (Sre.forSearch codeH x 0 p lim must) := by
  have h1 := ha.1
  have hc : (decide (p > lim) || decide (lim - p < 3)) = false := by simp; omega
  rw [startH, hc, if_neg (by simp)]
  have e : p + (s - p) = s := by omega
  have h := search_found (k := 6) (At := AtH x lim) (Mk := NoMarks) (Fin := fun s => Found s (s + 3) #[] (-1) (-1)) (Bl := fun _ _ => False) (code := codeH) (text := x) (body := 13) (lim := lim) (ls := lim) (fun q => q) rfl
    (fun s f m mk sn h1 h2 h3 => yesH s f m mk sn h1 h2) (fun s f m mk sn h1 h2 => noH s f m mk sn h1 h2) (s - p) p true must #[] (({} : Sre.Seen).add 14) rfl (fun j q1 q2 q3 => absurd q3 (hj j q1 (by omega))) (by rw [e]; exact ha) (fun _ q => q) (by omega)
  rw [e] at h
  exact h.mono (by have := le_bigK (k := 5) (d := s - p) hl (by omega) (by omega); omega) fun _ q => q
theorem noneH (hl : lim ≤ 1000000) (hj : ∀ j, p ≤ j → ¬ AtH x lim j) : Ev bigK (fun m => m.outcome = some .failed) (Sre.forSearch codeH x 0 p lim must) := by
  rw [startH]
  cases hc : (decide (p > lim) || decide (lim - p < 3)) with
  | true => rw [if_pos rfl]; exact dead_ends rfl rfl rfl
  | false =>
    rw [if_neg (by simp)]
    simp at hc
    exact (search_none (k := 6) (At := AtH x lim) (Mk := NoMarks) (Bl := fun _ _ => False) (fun q => q) rfl (fun s f m mk sn h1 h2 => noH s f m mk sn h1 h2) (lim - p) p true must #[] (({} : Sre.Seen).add 14) rfl (fun j q1 _ q3 => absurd q3 (hj j q1)) (by omega)).mono
      (by have := le_bigK (k := 6) (d := lim - p) hl (by omega) (by omega); omega) fun _ q => q
theorem foundO {s : Nat} (hl : lim ≤ 1000000) (hp : p ≤ s) (ha : AtO x lim s) (hj : ∀ j, p ≤ j → j < s → ¬ AtO x lim j) : Ev bigK (Found s (s + 2) #[] (-1) (-1)) (Sre.forSearch codeO x 0 p lim must) := by
  have h1 := ha.1
  have hc : (decide (p > lim) || decide (lim - p < 2)) = false := by simp; omega
  rw [startO, hc, if_neg (by simp)]
  have e : p + (s - p) = s := by omega
  have h := search_found (k := 9) (At := AtO x lim) (Mk := NoMarks) (Fin := fun s => Found s (s + 2) #[] (-1) (-1)) (Bl := fun _ _ => False) (code := codeO) (text := x) (body := 11) (lim := lim) (ls := lim) (fun q => q) rfl
    (fun s f m mk sn h1 h2 h3 => yesO s f m mk sn h1 h2) (fun s f m mk sn h1 h2 => noO s f m mk sn h1 h2) (s - p) p true must #[] (({} : Sre.Seen).add 14) rfl (fun j q1 q2 q3 => absurd q3 (hj j q1 (by omega))) (by rw [e]; exact ha) (fun _ q => q) (by omega)
  rw [e] at h
  exact h.mono (by have := le_bigK (k := 8) (d := s - p) hl (by omega) (by omega); omega) fun _ q => q
theorem noneO (hl : lim ≤ 1000000) (hj : ∀ j, p ≤ j → ¬ AtO x lim j) : Ev bigK (fun m => m.outcome = some .failed) (Sre.forSearch codeO x 0 p lim must) := by
  rw [startO]
  cases hc : (decide (p > lim) || decide (lim - p < 2)) with
  | true => rw [if_pos rfl]; exact dead_ends rfl rfl rfl
  | false =>
    rw [if_neg (by simp)]
    simp at hc
    exact (search_none (k := 9) (At := AtO x lim) (Mk := NoMarks) (Bl := fun _ _ => False) (fun q => q) rfl (fun s f m mk sn h1 h2 => noO s f m mk sn h1 h2) (lim - p) p true must #[] (({} : Sre.Seen).add 14) rfl (fun j q1 _ q3 => absurd q3 (hj j q1)) (by omega)).mono
      (by have := le_bigK (k := 9) (d := lim - p) hl (by omega) (by omega); omega) fun _ q => q
/-- the first dollar tag from p on; at p itself none where the scanner must advance -/
theorem foundD {s : Nat} (hl : lim ≤ 1000000) (hal : ∀ i, i < lim → x.getD i 0 ∈ AL) (hp : p ≤ s) (ha : AtD x lim s) (hj : ∀ j, p ≤ j → j < s → AtD x lim j → j = p ∧ must = true) (hs : s = p → must = false) :
    Ev bigK (Found s s #[some s, some (stopD x lim s + 1)] 1 1) (Sre.forSearch codeD x 1 p lim must) := by
  have h1 := ha.1
  have hc : (decide (p > lim) || decide (lim - p < 0)) = false := by simp; omega
  rw [startD, hc, if_neg (by simp)]
  have e : p + (s - p) = s := by omega
  have h := search_found (k := 20 + 4 * (lim + 1)) (At := AtD x lim) (Mk := TwoMarks) (Fin := fun s => Found s s #[some s, some (stopD x lim s + 1)] 1 1) (Bl := fun f m => (f && m) = true) (code := codeD) (text := x) (body := 5) (lim := lim) (ls := lim) (by simp) rfl
    (fun s f m mk sn h1 h2 h3 => (yesD hl hal h1 h2 (by simpa using h3)).mono (by omega) fun _ q => q) (fun s f m mk sn h1 h2 => noD hl hal h1 h2) (s - p) p true must #[none, none] (({} : Sre.Seen).add 14) ⟨_, _, rfl⟩ (fun j q1 q2 q3 => by
      obtain ⟨r1, r2⟩ := hj j q1 (by omega) q3
      exact ⟨r1, by rw [r2]; rfl⟩) (by rw [e]; exact ha) (fun q => by rw [hs (by omega)]; simp) (by omega)
  rw [e] at h
  exact h.mono (by have := le_bigK (k := 20 + 4 * (lim + 1)) (d := s - p) hl (by omega) (by omega); have := Nat.mul_le_mul (show 20 + 4 * (lim + 1) + 1 ≤ 20 + 4 * (lim + 1) + 2 by omega) (Nat.le_refl (s - p + 1)); omega) fun _ q => q
theorem noneD (hl : lim ≤ 1000000) (hal : ∀ i, i < lim → x.getD i 0 ∈ AL) (hj : ∀ j, p ≤ j → AtD x lim j → j = p ∧ must = true) : Ev bigK (fun m => m.outcome = some .failed) (Sre.forSearch codeD x 1 p lim must) := by
  rw [startD]
  cases hc : (decide (p > lim) || decide (lim - p < 0)) with
  | true => rw [if_pos rfl]; exact dead_ends rfl rfl rfl
  | false =>
    rw [if_neg (by simp)]
    simp at hc
    exact (search_none (k := 20 + 4 * (lim + 1)) (At := AtD x lim) (Mk := TwoMarks) (Bl := fun f m => (f && m) = true) (by simp) rfl (fun s f m mk sn h1 h2 => noD hl hal h1 h2) (lim - p) p true must #[none, none] (({} : Sre.Seen).add 14) ⟨_, _, rfl⟩ (fun j q1 _ q3 => by
      obtain ⟨r1, r2⟩ := hj j q1 q3
      exact ⟨r1, by rw [r2]; rfl⟩) (by omega)).mono
      (by have := le_bigK (k := 20 + 4 * (lim + 1)) (d := lim - p) hl (by omega) (by omega); omega) fun _ q => q
end
end Mine

end

section -- part Sl
set_option linter.unusedVariables false
open PySem PySem.W PyProof.Rows PySem.Calls
set_option maxRecDepth 100000
namespace Mine
theorem slot_finditer : Slot "re.Pattern" "finditer" "re.Pattern.finditer" :=
  .of (owner := "re.Pattern") (n := "finditer") (by rw [typeLookup_type, builtinLookup_eq_fast]; kernel_rfl) (by decide +kernel) (by decide +kernel) (by decide +kernel)
    (.inr (by decide +kernel)) (by rw [isSubtype_type]; kernel_rfl)
theorem slot_match : Slot "re.Pattern" "match" "re.Pattern.match" :=
  .of (owner := "re.Pattern") (n := "match") (by rw [typeLookup_type, builtinLookup_eq_fast]; kernel_rfl) (by decide +kernel) (by decide +kernel) (by decide +kernel)
    (.inr (by decide +kernel)) (by rw [isSubtype_type]; kernel_rfl)
theorem slot_start : Slot "re.Match" "start" "re.Match.start" :=
  .of (owner := "re.Match") (n := "start") (by rw [typeLookup_type, builtinLookup_eq_fast]; kernel_rfl) (by decide +kernel) (by decide +kernel) (by decide +kernel)
    (.inr (by decide +kernel)) (by rw [isSubtype_type]; kernel_rfl)
theorem slot_end : Slot "re.Match" "end" "re.Match.end" :=
  .of (owner := "re.Match") (n := "end") (by rw [typeLookup_type, builtinLookup_eq_fast]; kernel_rfl) (by decide +kernel) (by decide +kernel) (by decide +kernel)
    (.inr (by decide +kernel)) (by rw [isSubtype_type]; kernel_rfl)
theorem slot_group : Slot "re.Match" "group" "re.Match.group" :=
  .of (owner := "re.Match") (n := "group") (by rw [typeLookup_type, builtinLookup_eq_fast]; kernel_rfl) (by decide +kernel) (by decide +kernel) (by decide +kernel)
    (.inr (by decide +kernel)) (by rw [isSubtype_type]; kernel_rfl)
theorem slot_search : Slot "_sre.SRE_Scanner" "search" "_sre.SRE_Scanner.search" :=
  .of (owner := "_sre.SRE_Scanner") (n := "search") (by rw [typeLookup_type, builtinLookup_eq_fast]; kernel_rfl) (by decide +kernel) (by decide +kernel) (by decide +kernel)
    (.inr (by decide +kernel)) (by rw [isSubtype_type]; kernel_rfl)
theorem slot_cnext : Slot "callable_iterator" "__next__" "callable_iterator.__next__" :=
  .of (owner := "callable_iterator") (n := "__next__") (by rw [typeLookup_type, builtinLookup_eq_fast]; kernel_rfl) (by decide +kernel) (by decide +kernel) (by decide +kernel)
    (.inl (by decide +kernel)) (by rw [isSubtype_type]; kernel_rfl)
theorem slot_citer : Slot "callable_iterator" "__iter__" "callable_iterator.__iter__" :=
  .of (owner := "callable_iterator") (n := "__iter__") (by rw [typeLookup_type, builtinLookup_eq_fast]; kernel_rfl) (by decide +kernel) (by decide +kernel) (by decide +kernel)
    (.inl (by decide +kernel)) (by rw [isSubtype_type]; kernel_rfl)
theorem entry_finditer : entryFor table "re.Pattern.finditer" = some Builtin.«re.Pattern.finditer» := entryFor_of_fast (by rw [fastTable_eq_tree]; kernel_rfl)
theorem entry_match : entryFor table "re.Pattern.match" = some Builtin.«re.Pattern.match» := entryFor_of_fast (by rw [fastTable_eq_tree]; kernel_rfl)
theorem entry_start : entryFor table "re.Match.start" = some Builtin.«re.Match.start» := entryFor_of_fast (by rw [fastTable_eq_tree]; kernel_rfl)
theorem entry_end : entryFor table "re.Match.end" = some Builtin.«re.Match.end» := entryFor_of_fast (by rw [fastTable_eq_tree]; kernel_rfl)
theorem entry_group : entryFor table "re.Match.group" = some Builtin.«re.Match.group» := entryFor_of_fast (by rw [fastTable_eq_tree]; kernel_rfl)
theorem entry_search : entryFor table "_sre.SRE_Scanner.search" = some Builtin.«_sre.SRE_Scanner.search» := entryFor_of_fast (by rw [fastTable_eq_tree]; kernel_rfl)
theorem entry_cnext : entryFor table "callable_iterator.__next__" = some Builtin.«callable_iterator.__next__» := entryFor_of_fast (by rw [fastTable_eq_tree]; kernel_rfl)
theorem entry_bisect : entryFor table "_bisect.bisect_left" = some Builtin.«_bisect.bisect_left» := entryFor_of_fast (by rw [fastTable_eq_tree]; kernel_rfl)
theorem entry_bisectLoop : entryFor table "_bisect.bisect_right.loop" = some Builtin.«_bisect.bisect_right.loop» := entryFor_of_fast (by rw [fastTable_eq_tree]; kernel_rfl)
theorem entry_citer : entryFor table "callable_iterator.__iter__" = some Builtin.«dict_keyiterator.__iter__» :=
  entryFor_alias (id' := "dict_keyiterator.__iter__") (by rw [fastTable_eq_tree]; kernel_rfl) rfl (by decide +kernel) (by rw [fastTable_eq_tree]; kernel_rfl)
theorem args_finditer (a b : Value) : argsOk "re.Pattern.finditer" ⟨[a, b], []⟩ := by unfold argsOk; kernel_rfl
theorem args_match (a b c : Value) : argsOk "re.Pattern.match" ⟨[a, b, c], []⟩ := by unfold argsOk; kernel_rfl
theorem args_start (a : Value) : argsOk "re.Match.start" ⟨[a], []⟩ := by unfold argsOk; kernel_rfl
theorem args_end (a : Value) : argsOk "re.Match.end" ⟨[a], []⟩ := by unfold argsOk; kernel_rfl
theorem args_group (a b : Value) : argsOk "re.Match.group" ⟨[a, b], []⟩ := by unfold argsOk; kernel_rfl
theorem args_search (a : Value) : argsOk "_sre.SRE_Scanner.search" ⟨[a], []⟩ := by unfold argsOk; kernel_rfl
theorem args_cnext (a : Value) : argsOk "callable_iterator.__next__" ⟨[a], []⟩ := by unfold argsOk; kernel_rfl
theorem args_citer (a : Value) : argsOk "callable_iterator.__iter__" ⟨[a], []⟩ := by unfold argsOk; kernel_rfl
theorem args_bisect (a b : Value) : argsOk "_bisect.bisect_left" ⟨[a, b], []⟩ := by unfold argsOk; kernel_rfl
end Mine

end

section -- part Re1
set_option linter.unusedVariables false
open PySem PySem.W PyProof.Rows PySem.Calls
open PySem.Builtin.Re
set_option maxRecDepth 100000
namespace Mine
section
variable {M : Model} {A : Around} {E : Value → Shared → Prop} {s : Shared}

theorem wpAny_drive {P : Sre.M → Prop} (out : ∀ m, P m → m.outcome.isSome = true) {Q : Sre.M → Shared → Prop} (hQ : ∀ m, P m → Q m s) :
    ∀ (turns k : Nat) (m : Sre.M), Ev k P m → k < 4 * turns → wpAny M A (reDrive turns m) Q E s := by
  intro turns
  induction turns with
  | zero => intro k m _ h; omega
  | succ turns ih =>
    intro k m ⟨n, hn, hp⟩ hk
    show wpAny M A (if (Sre.M.runFor 4 m).outcome.isSome = true then pure (Sre.M.runFor 4 m) else do rule "sre.turn"; reDrive turns (Sre.M.runFor 4 m)) Q E s
    have key : ∀ d, n = 4 + d → Sre.M.runFor n m = Sre.M.runFor d (Sre.M.runFor 4 m) := fun d e => by rw [e, runFor_add]
    by_cases ho : (Sre.M.runFor 4 m).outcome.isSome = true
    · rw [if_pos ho]
      refine wpAny_pure (hQ _ ?_)
      by_cases h4 : n ≤ 4
      · have : Sre.M.runFor 4 m = Sre.M.runFor (4 - n) (Sre.M.runFor n m) := by rw [← runFor_add]; congr 1; omega
        rw [this, runFor_out (out _ hp)]; exact hp
      · rw [key (n - 4) (by omega), runFor_out ho] at hp; exact hp
    · rw [if_neg ho]
      refine wpAny_bind (wpAny_rule ?_)
      by_cases h4 : n ≤ 4
      · have : Sre.M.runFor 4 m = Sre.M.runFor (4 - n) (Sre.M.runFor n m) := by rw [← runFor_add]; congr 1; omega
        rw [this, runFor_out (out _ hp)] at ho
        exact absurd (out _ hp) ho
      · rw [key (n - 4) (by omega)] at hp
        exact ih (k - 4) _ ⟨n - 4, by omega, hp⟩ (by omega)

theorem wpAny_rules {f : Nat → Bool} {g : Nat → String} {Q : PUnit → Shared → Prop} (h : Q ⟨⟩ s) : ∀ l : List Nat,
    wpAny M A (forIn l PUnit.unit fun i _ => if f i = true then (do rule (g i); pure (ForInStep.yield PUnit.unit)) else pure (ForInStep.yield PUnit.unit)) Q E s := by
  intro l
  induction l with
  | nil => exact wpAny_pure h
  | cons i l ih =>
    rw [List.forIn_cons]
    refine wpAny_bind ?_
    cases f i with
    | true => exact wpAny_bind (wpAny_rule (wpAny_pure ih))
    | false => exact wpAny_pure ih

theorem wpAny_toEnd {P : Sre.M → Prop} {m : Sre.M} {Q : Option Sre.M → Shared → Prop} (h : Ev bigK P m)
    (hP : ∀ m', P m' → (m'.outcome = some .matched ∧ Q (some m') s) ∨ (m'.outcome = some .failed ∧ Q none s)) :
    wpAny M A (reRunToEnd m) Q E s := by
  unfold reRunToEnd
  refine wpAny_bind (wpAny_drive (P := P) (fun m' q => by rcases hP m' q with h | h <;> rw [h.1] <;> rfl) (fun m' q => ?_) (2 ^ 64) bigK m h (by decide))
  refine wpAny_bind (wpAny_rules ?_ _)
  rcases hP m' q with h | h <;> rw [h.1]
  · exact wpAny_pure h.2
  · exact wpAny_pure h.2
end
end Mine

end

section -- part Re2
set_option linter.unusedVariables false
open PySem PySem.W PyProof.Rows PySem.Calls
open PySem.Builtin.Re
set_option maxRecDepth 100000
namespace Mine
theorem slot_sc_ga : Slot "_sre.SRE_Scanner" "__getattribute__" "object.__getattribute__" :=
  .of (owner := "object") (n := "__getattribute__") (by rw [typeLookup_type, builtinLookup_eq_fast]; kernel_rfl) (by decide +kernel) (by decide +kernel) (by decide +kernel)
    (.inl (by decide +kernel)) (by rw [isSubtype_type]; kernel_rfl)
theorem entry_o_ga : entryFor table "object.__getattribute__" = some Builtin.«object.__getattribute__» := entryFor_of_fast (by rw [fastTable_eq_tree]; kernel_rfl)
theorem args_o_ga (a b : Value) : argsOk "object.__getattribute__" ⟨[a, b], []⟩ := by unfold argsOk; kernel_rfl
theorem lk_search : typeLookup (.type "_sre.SRE_Scanner") "search" = pure (some (.builtin "_sre.SRE_Scanner.search")) := by rw [typeLookup_type, builtinLookup_eq_fast]; kernel_rfl
theorem slot_md_get : Slot "method_descriptor" "__get__" "method_descriptor.__get__" :=
  .of (owner := "method_descriptor") (n := "__get__") (by rw [typeLookup_type, builtinLookup_eq_fast]; kernel_rfl) (by decide +kernel) (by decide +kernel) (by decide +kernel)
    (.inl (by decide +kernel)) (by rw [isSubtype_type]; kernel_rfl)
theorem lk_md_set : typeLookup (.type "method_descriptor") "__set__" = pure none := by rw [typeLookup_type, builtinLookup_eq_fast]; kernel_rfl
theorem lk_md_del : typeLookup (.type "method_descriptor") "__delete__" = pure none := by rw [typeLookup_type, builtinLookup_eq_fast]; kernel_rfl
theorem entry_md_get : entryFor table "method_descriptor.__get__" = some Builtin.«method_descriptor.__get__» := entryFor_of_fast (by rw [fastTable_eq_tree]; kernel_rfl)
theorem args_md_get (a b c : Value) : argsOk "method_descriptor.__get__" ⟨[a, b, c], []⟩ := by unfold argsOk; kernel_rfl
theorem type_search : typeOf (.builtin "_sre.SRE_Scanner.search") = pure (.type "method_descriptor") := by kernel_rfl
theorem owner_search : (".".intercalate ("_sre.SRE_Scanner.search".cutAt '.').dropLast) = "_sre.SRE_Scanner" := by
  have e0 : "_sre.SRE_Scanner.search".cutAt '.' = ["_sre", "SRE_Scanner", "search"] := by first | rfl | decide +kernel
  rw [e0]; decide +kernel
theorem sub_search_owner : isSubtype (.type "_sre.SRE_Scanner") (.type (".".intercalate ("_sre.SRE_Scanner.search".cutAt '.').dropLast)) = pure true := by
  rw [owner_search, isSubtype_type]; kernel_rfl
theorem isType_scanner : isType (.type "_sre.SRE_Scanner") = pure true := by first | rfl | kernel_rfl
section
variable {prog : Program} {w : World} {A : Around} {E : Value → Shared → Prop} {h : Heap} {g : Array GenState} {d : Drawn} {t : Nat} {os : OsState} {a : Addr} {o : Obj}

def bmObj (sc : Addr) : Obj := { cls := .type "builtin_function_or_method", data := .fields #[.builtin "_sre.SRE_Scanner.search", .ref sc] }

theorem search_get {R : Result → Shared → Prop} (hx : h.get? a = some o) (hc : o.cls = .type "_sre.SRE_Scanner")
    (hq : R (.ok (.ret (.ref h.objs.size))) ⟨h.push (bmObj a), g, d, t, os⟩) :
    codeAny (model prog w) A (.call (.builtin "method_descriptor.__get__") ⟨[.builtin "_sre.SRE_Scanner.search", .ref a, .type "_sre.SRE_Scanner"], []⟩) R ⟨h, g, d, t, os⟩ := by
  have hT : (⟨h, g, d, t, os⟩ : Shared).TypeIs (.ref a) "_sre.SRE_Scanner" := ⟨_, hx, hc⟩
  have hT5 : (⟨h, g, d, t, os⟩ : Shared).TypeIs (.builtin "_sre.SRE_Scanner.search") "method_descriptor" := type_search
  have f1 := sub_search_owner
  have f2 := isType_scanner
  refine codeAny_call_builtin slot_md_get.plain entry_md_get (slot_md_get.check _ _ _ _ _ _ _ _ hT5 (args_md_get _ _ _) ?_)
  repeat (any_goals (first | assumption | wp_step))

theorem search_entry {tk : Tok} {vs : Array Value} {Q : Fin → Shared → Prop} (hx : h.get? a = some { cls := .type "_sre.SRE_Scanner", data := .fields vs })
    (hq : Q (.done (.ret (.ref h.objs.size))) ⟨h.push (bmObj a), g, d, t, os⟩) :
    wpAny (model prog w) A (Builtin.«object.__getattribute__» ⟨[.ref a, .str "search" tk], []⟩) Q E ⟨h, g, d, t, os⟩ := by
  have hT : (⟨h, g, d, t, os⟩ : Shared).TypeIs (.ref a) "_sre.SRE_Scanner" := ⟨_, hx, rfl⟩
  have hT5 : (⟨h, g, d, t, os⟩ : Shared).TypeIs (.builtin "_sre.SRE_Scanner.search") "method_descriptor" := type_search
  have f4 := lk_search
  have f5 := type_search
  have f6 := slot_md_get.lookup
  have f7 := lk_md_set
  have f8 := lk_md_del
  repeat (any_goals (first | assumption | wp_step))
  refine search_get hx rfl ?_
  repeat (any_goals (first | assumption | wp_step))

theorem search_call {tk : Tok} {vs : Array Value} {R : Result → Shared → Prop} (hx : h.get? a = some { cls := .type "_sre.SRE_Scanner", data := .fields vs })
    (hq : R (.ok (.ret (.ref h.objs.size))) ⟨h.push (bmObj a), g, d, t, os⟩) :
    codeAny (model prog w) A (.call (.builtin "object.__getattribute__") ⟨[.ref a, .str "search" tk], []⟩) R ⟨h, g, d, t, os⟩ :=
  codeAny_call_builtin slot_sc_ga.plain entry_o_ga (slot_sc_ga.check _ _ _ _ _ _ _ _ (show (⟨h, g, d, t, os⟩ : Shared).TypeIs (.ref a) "_sre.SRE_Scanner" from ⟨_, hx, rfl⟩) (args_o_ga _ _) (search_entry hx hq))

theorem search_attr {vs : Array Value} {Q : Value → Shared → Prop} (hx : h.get? a = some { cls := .type "_sre.SRE_Scanner", data := .fields vs })
    (hq : Q (.ref h.objs.size) ⟨h.push (bmObj a), g, d, t + 1, os⟩) : wpAny (model prog w) A (getAttr (.ref a) "search") Q E ⟨h, g, d, t, os⟩ := by
  have hT : (⟨h, g, d, t, os⟩ : Shared).TypeIs (.ref a) "_sre.SRE_Scanner" := ⟨_, hx, rfl⟩
  have f2 := slot_sc_ga.lookup
  have f3 := slot_sc_ga.bind (.ref a)
  unfold getAttr
  repeat (any_goals (first | assumption | wp_step))
  refine search_call hx ?_
  repeat (any_goals (first | assumption | wp_step))
end
end Mine

end

section -- part Re3
set_option linter.unusedVariables false
open PySem PySem.W PyProof.Rows PySem.Calls
open PySem.Builtin.Re
set_option maxRecDepth 100000
namespace Mine

theorem sub_str_bytearray : isSubtype (.type "str") (.type "bytearray") = pure false := by rw [isSubtype_type]; kernel_rfl

/-- a compiled pattern for text, of the heap -/
def IsPat (h : Heap) (a : Addr) (code : Array Nat) (g : Nat) : Prop :=
  ∃ (o oc : Obj) (pat fl : Value) (c : Addr) (ws : Array Value) (n : Nat), h.get? a = some o ∧ o.cls = .type "re.Pattern" ∧ o.dict = none ∧ o.data = .fields #[pat, fl, rawInt g, .none, .none, .ref c, rawInt 0] ∧ h.get? c = some oc ∧ oc.data = .seq ws n ∧
    (ws.map reRawOf).map (·.toNat) = code
theorem IsPat.keeps {h h' : Heap} {a : Addr} {code : Array Nat} {g : Nat} (P : IsPat h a code g) (k : ∀ b o, h.get? b = some o → h'.get? b = some o) : IsPat h' a code g :=
  let ⟨o, oc, pat, fl, c, ws, n, h1, h2, h3, h4, h5, h6⟩ := P
  ⟨o, oc, pat, fl, c, ws, n, k _ _ h1, h2, h3, h4, k _ _ h5, h6⟩

section
variable {M : Model} {A : Around} {E : Value → Shared → Prop} {s : Shared}

theorem named_1 (id f : String) (v : Value) : reNamed id f ["string", "pos", "endpos"] 1 [v] [] = pure [some v, none, none] := rfl
theorem named_2 (id f : String) (v u : Value) : reNamed id f ["string", "pos", "endpos"] 1 [v, u] [] = pure [some v, some u, none] := rfl

theorem wpAny_reSsize {i : Int} {t : Tok} {Q : Int → Shared → Prop} (h1 : -(2 ^ 63) ≤ i) (h2 : i < 2 ^ 63) (h : Q i s) : wpAny M A (reSsize (.int i t)) Q E s := by
  unfold reSsize
  refine wpAny_bind (wpAny_of_eq (a := i) rfl ?_)
  have e : (decide (i < -(2 ^ 63)) || decide (i ≥ 2 ^ 63)) = false := by
    rw [Bool.or_eq_false_iff]; constructor <;> rw [decide_eq_false_iff_not] <;> omega
  rw [e]
  exact wpAny_pure h

def target (a : Addr) (x : Str) (tk : Tok) (code : Array Nat) (g pos : Nat) : ReTarget :=
  { pattern := .ref a, string := .str x tk, code, text := x.cps, kind := 0, groups := g, pos := min pos x.cps.size, lim := x.cps.size }

theorem wpAny_target1 {a : Addr} {x : Str} {tk : Tok} {code : Array Nat} {g : Nat} {id f : String} {Q : ReTarget → Shared → Prop} (P : IsPat s.heap a code g) (hx : x.cps.size ≤ 1000000)
    (h : Q (target a x tk code g 0) s) : wpAny M A (reTarget id f ⟨[.ref a, .str x tk], []⟩) Q E s := by
  obtain ⟨o, oc, pat, fl, c, ws, n, h1, h2, h2', h3, h4, h5, h6⟩ := P
  unfold reTarget
  dsimp only
  refine wpAny_bind (wpAny_of_eq (named_1 id f _) ?_)
  dsimp only
  refine wpAny_bind (wpAny_pure (wpAny_bind (wpAny_pure ?_)))
  refine wpAny_bind (wpAny_fieldsOf h1 h3 ?_)
  refine wpAny_bind (wpAny_of_eq (a := (x.cps, 0)) rfl ?_)
  dsimp only
  refine wpAny_bind (wpAny_pure (wpAny_bind ?_))
  unfold reRawItems
  refine wpAny_bind (wpAny_seqItems h4 h5 (wpAny_pure ?_))
  refine wpAny_pure ?_
  have e : min (2 ^ 63 - 1 : Int).toNat x.cps.size = x.cps.size := by omega
  have e1 : ((some ws).getD #[]).map reRawOf = ws.map reRawOf := rfl
  rw [e1, h6, e]
  exact h
theorem wpAny_target2 {a : Addr} {x : Str} {tk tk2 : Tok} {i : Int} {code : Array Nat} {g : Nat} {id f : String} {Q : ReTarget → Shared → Prop} (P : IsPat s.heap a code g) (hx : x.cps.size ≤ 1000000) (h1 : 0 ≤ i) (h2 : i < 2 ^ 63)
    (h : Q (target a x tk code g i.toNat) s) : wpAny M A (reTarget id f ⟨[.ref a, .str x tk, .int i tk2], []⟩) Q E s := by
  obtain ⟨o, oc, pat, fl, c, ws, n, h1', h2', h2'', h3, h4, h5, h6⟩ := P
  unfold reTarget
  dsimp only
  refine wpAny_bind (wpAny_of_eq (named_2 id f _ _) ?_)
  dsimp only
  refine wpAny_bind (wpAny_reSsize (by omega) h2 ?_)
  refine wpAny_bind (wpAny_pure ?_)
  refine wpAny_bind (wpAny_fieldsOf h1' h3 ?_)
  refine wpAny_bind (wpAny_of_eq (a := (x.cps, 0)) rfl ?_)
  dsimp only
  refine wpAny_bind (wpAny_pure (wpAny_bind ?_))
  unfold reRawItems
  refine wpAny_bind (wpAny_seqItems h4 h5 (wpAny_pure ?_))
  refine wpAny_pure ?_
  have e : min (2 ^ 63 - 1 : Int).toNat x.cps.size = x.cps.size := by omega
  have e1 : ((some ws).getD #[]).map reRawOf = ws.map reRawOf := rfl
  rw [e1, h6, e]
  exact h
theorem wpAny_whole {a : Addr} {x : Str} {tk : Tok} {code : Array Nat} {g : Nat} {Q : ReTarget → Shared → Prop} (P : IsPat s.heap a code g)
    (h : Q (target a x tk code g 0) s) : wpAny M A (reWholeTarget (.ref a) (.str x tk)) Q E s := by
  obtain ⟨o, oc, pat, fl, c, ws, n, h1', h2', h2'', h3, h4, h5, h6⟩ := P
  unfold reWholeTarget
  refine wpAny_bind (wpAny_fieldsOf h1' h3 ?_)
  refine wpAny_bind (wpAny_of_eq (a := (x.cps, 0)) rfl ?_)
  dsimp only
  refine wpAny_bind (wpAny_pure (wpAny_bind ?_))
  unfold reRawItems
  refine wpAny_bind (wpAny_seqItems h4 h5 (wpAny_pure ?_))
  refine wpAny_pure ?_
  have e1 : ((some ws).getD #[]).map reRawOf = ws.map reRawOf := rfl
  rw [e1, h6]
  have e2 : target a x tk code g 0 = { pattern := .ref a, string := .str x tk, code, text := x.cps, kind := 0, groups := g, pos := 0, lim := x.cps.size } := by
    unfold target; rw [Nat.zero_min]
  rw [e2] at h
  exact h

def tupObj (vs : List Value) : Obj := { cls := .type "tuple", data := .seq vs.toArray }
def matchObj (string pattern : Value) (pos lim : Nat) (li : Int) (sp : Addr) : Obj :=
  { cls := .type "re.Match", data := .fields #[string, pattern, rawInt pos, rawInt lim, rawInt li, .ref sp] }

variable {h₀ : Heap} {L : Addr} {m : Str → Option Value} {news : List (Addr × Obj)}
theorem News.lt {h : Heap} (N : News h₀ L h news) : ∀ p ∈ news, p.1 < h.objs.size := fun p hp => Heap.lt_size (N p hp).1
theorem size_push (h : Heap) (o : Obj) : (h.push o).objs.size = h.objs.size + 1 := Array.size_push ..

theorem newTwo {o₁ o₂ : Obj} {h : Heap} (F : Fr h₀ L h m) (N : News h₀ L h news) (f1 : o₁.isFreed = false) (f2 : o₂.isFreed = false) :
    Fr h₀ L ((h.push o₁).push o₂) m ∧ News h₀ L ((h.push o₁).push o₂) (((h.push o₁).objs.size, o₂) :: (h.objs.size, o₁) :: news) ∧ (h.push o₁).objs.size ≠ h.objs.size ∧ ∀ p ∈ news, p.1 ≠ (h.push o₁).objs.size ∧ p.1 ≠ h.objs.size := by
  refine ⟨(F.push _).push _, (N.push F _ f1).push (F.push _) _ f2, by rw [size_push]; omega, fun p hp => ?_⟩
  have := News.lt N p hp
  rw [size_push]
  exact ⟨Nat.ne_of_lt (Nat.lt_succ_of_lt this), Nat.ne_of_lt this⟩

theorem wpAny_match0 {pat str : Value} {pos lim : Nat} {mm : Sre.M} {Q : Value → Shared → Prop} (F : Fr h₀ L s.heap m) (N : News h₀ L s.heap news)
    (h : ∀ mt sp h', Fr h₀ L h' m → News h₀ L h' ((mt, matchObj str pat pos lim mm.lastindex sp) :: (sp, tupObj [rawInt mm.start, rawInt mm.handed]) :: news) → mt ≠ sp → (∀ p ∈ news, p.1 ≠ mt ∧ p.1 ≠ sp) → Q (.ref mt) { s with heap := h' }) :
    wpAny M A (reNewMatch pat str 0 pos lim mm) Q E s := by
  show wpAny M A (do newFields "re.Match" [str, pat, rawInt pos, rawInt lim, rawInt mm.lastindex, ← newTuple [rawInt mm.start, rawInt mm.handed]]) Q E s
  refine wpAny_bind ?_
  refine wpAny_newObj_type ?_ (by size_fits)
  refine wpAny_newObj_type ?_ (by size_fits)
  obtain ⟨h1, h2, h3, h4⟩ := newTwo (o₁ := tupObj [rawInt mm.start, rawInt mm.handed]) (o₂ := matchObj str pat pos lim mm.lastindex s.heap.objs.size) F N rfl rfl
  exact h _ _ _ h1 h2 h3 h4
theorem wpAny_match1 {pat str : Value} {pos lim b e : Nat} {mm : Sre.M} {Q : Value → Shared → Prop} (F : Fr h₀ L s.heap m) (N : News h₀ L s.heap news) (hm : mm.marks = #[some b, some e]) (hl : mm.lastmark = 1) (hbe : b ≤ e)
    (h : ∀ mt sp h', Fr h₀ L h' m → News h₀ L h' ((mt, matchObj str pat pos lim mm.lastindex sp) :: (sp, tupObj [rawInt mm.start, rawInt mm.handed, rawInt b, rawInt e]) :: news) → mt ≠ sp → (∀ p ∈ news, p.1 ≠ mt ∧ p.1 ≠ sp) → Q (.ref mt) { s with heap := h' }) :
    wpAny M A (reNewMatch pat str 1 pos lim mm) Q E s := by
  unfold reNewMatch
  rw [hm, hl]
  show wpAny M A (if (decide (((2 * 0 + 1 : Nat) : Int) ≤ 1) && decide (e < b) || false) = true then (do reWrongSpan; newFields "re.Match" [str, pat, rawInt pos, rawInt lim, rawInt mm.lastindex, ← newTuple [rawInt mm.start, rawInt mm.handed, rawInt b, rawInt e]])
    else (do newFields "re.Match" [str, pat, rawInt pos, rawInt lim, rawInt mm.lastindex, ← newTuple [rawInt mm.start, rawInt mm.handed, rawInt b, rawInt e]])) Q E s
  have e1 : decide (e < b) = false := decide_eq_false (by omega)
  rw [e1, Bool.and_false, Bool.or_false, if_neg Bool.false_ne_true]
  refine wpAny_bind ?_
  refine wpAny_newObj_type ?_ (by size_fits)
  refine wpAny_newObj_type ?_ (by size_fits)
  obtain ⟨h1, h2, h3, h4⟩ := newTwo (o₁ := tupObj [rawInt mm.start, rawInt mm.handed, rawInt b, rawInt e]) (o₂ := matchObj str pat pos lim mm.lastindex s.heap.objs.size) F N rfl rfl
  exact h _ _ _ h1 h2 h3 h4
end
end Mine

end

section -- part Re4
set_option linter.unusedVariables false
open PySem PySem.W PyProof.Rows PySem.Calls
open PySem.Builtin.Re
set_option maxRecDepth 100000
namespace Mine
theorem plain_pat : PlainAttrs "re.Pattern" :=
  ⟨⟨"object.__getattribute__", by rw [typeLookup_type, builtinLookup_eq_fast]; kernel_rfl, by decide +kernel⟩, by rw [typeLookup_type, builtinLookup_eq_fast]; kernel_rfl⟩
theorem plain_match : PlainAttrs "re.Match" :=
  ⟨⟨"object.__getattribute__", by rw [typeLookup_type, builtinLookup_eq_fast]; kernel_rfl, by decide +kernel⟩, by rw [typeLookup_type, builtinLookup_eq_fast]; kernel_rfl⟩
theorem type_finditer : typeOf (.builtin "re.Pattern.finditer") = pure (.type "method_descriptor") := by kernel_rfl
theorem type_match : typeOf (.builtin "re.Pattern.match") = pure (.type "method_descriptor") := by kernel_rfl
theorem type_start : typeOf (.builtin "re.Match.start") = pure (.type "method_descriptor") := by kernel_rfl
theorem type_end : typeOf (.builtin "re.Match.end") = pure (.type "method_descriptor") := by kernel_rfl
theorem type_group : typeOf (.builtin "re.Match.group") = pure (.type "method_descriptor") := by kernel_rfl

def ScObj (a : Addr) (x : Str) (tk : Tok) (p : Int) (must : Bool) : Obj :=
  { cls := .type "_sre.SRE_Scanner", data := .fields #[.ref a, .str x tk, rawInt p, rawInt 0, rawInt x.cps.size, .bool must] }
def itObj (bm : Addr) : Obj := { cls := .type "callable_iterator", data := .fields #[.ref bm, .none, .bool false] }

section
variable {prog : Program} {w : World} {A : Around} {E : Value → Shared → Prop} {s : Shared} {h₀ : Heap} {L : Addr} {m : Str → Option Value} {news : List (Addr × Obj)}

theorem IsPat.typeIs {a : Addr} {code : Array Nat} {g : Nat} (P : IsPat s.heap a code g) : s.TypeIs (.ref a) "re.Pattern" := let ⟨o, _, _, _, _, _, _, h1, h2, _⟩ := P; ⟨o, h1, h2⟩
theorem IsPat.noDict {a : Addr} {code : Array Nat} {g : Nat} (P : IsPat s.heap a code g) : ∀ b, Value.ref a = .ref b → ∃ o, s.heap.get? b = some o ∧ o.dict = none := let ⟨o, _, _, _, _, _, _, h1, _, h3, _⟩ := P; fun b e => by cases e; exact ⟨o, h1, h3⟩

theorem pat_method {M : Model} {a : Addr} {code : Array Nat} {g : Nat} {name : Str} {id : String} {pl : Sem Bool} {Q : Value × List Value → Shared → Prop} (slot : Slot "re.Pattern" name id) (ty : typeOf (.builtin id) = pure (.type "method_descriptor"))
    (P : IsPat s.heap a code g) (h : Q (.builtin id, [.ref a]) s) : wpAny M A (getMethod (.ref a) name pl) Q E s :=
  getMethod_builtin P.typeIs plain_pat slot ty P.noDict h

/-- the opener's look behind -/
theorem call_ok {a : Addr} {x : Str} {tk tk2 : Tok} {i : Int} {Q : Value → Shared → Prop} (F : Fr h₀ L s.heap m) (N : News h₀ L s.heap news) (P : IsPat s.heap a codeB 0)
    (hx : x.cps.size ≤ 1000000) (hal : ∀ i, i < x.cps.size → x.cps.getD i 0 ∈ AL) (h1 : 0 ≤ i) (h2 : i.toNat ≤ x.cps.size)
    (hbad : BadAt x.cps i.toNat → Q .none s) (hok : ¬ BadAt x.cps i.toNat → ∀ mt h', Fr h₀ L h' m → News h₀ L h' news → Q (.ref mt) { s with heap := h' }) :
    wpAny (model prog w) A (call (.builtin "re.Pattern.match") [.ref a, .str x tk, .int i tk2]) Q E s := by
  refine wpAny_call_entry slot_match P.typeIs entry_match ?_ (args_match _ _ _)
  unfold Builtin.«re.Pattern.match»
  refine wpAny_bind (wpAny_target2 P hx h1 (by omega) ?_)
  unfold reAnswer
  have hm : min i.toNat x.cps.size = i.toNat := by omega
  have e : Sre.forMatch (target a x tk codeB 0 i.toNat).code (target a x tk codeB 0 i.toNat).text (target a x tk codeB 0 i.toNat).groups (target a x tk codeB 0 i.toNat).pos (target a x tk codeB 0 i.toNat).lim false false
      = Sre.forMatch codeB x.cps 0 i.toNat x.cps.size false false := by
    show Sre.forMatch codeB x.cps 0 (min i.toNat x.cps.size) x.cps.size false false = _
    rw [hm]
  rw [e, startB]
  have hb := runB (text := x.cps) (lim := x.cps.size) (p := i.toNat) (sn := ({} : Sre.Seen).add 14) h2 hal
  refine wpAny_bind ?_
  by_cases hB : BadAt x.cps i.toNat
  · refine wpAny_toEnd ((hb.2 hB).mono (by decide) fun _ q => q) (fun m' q => .inr ⟨q, ?_⟩)
    exact wpAny_pure ⟨_, rfl, hbad hB⟩
  · refine wpAny_toEnd ((hb.1 hB).mono (by decide) fun _ q => q) (fun m' q => .inl ⟨q.1, ?_⟩)
    refine wpAny_bind (wpAny_match0 F N fun mt sp h' F' N' _ _ => ?_)
    exact wpAny_pure ⟨_, rfl, hok hB _ _ F' fun p hp => N' p (.tail _ (.tail _ hp))⟩

theorem call_finditer {a : Addr} {x : Str} {tk : Tok} {code : Array Nat} {g : Nat} {Q : Value → Shared → Prop} (F : Fr h₀ L s.heap m) (N : News h₀ L s.heap news) (P : IsPat s.heap a code g)
    (hx : x.cps.size ≤ 1000000)
    (h : ∀ it bm sc h', Fr h₀ L h' m → News h₀ L h' ((it, itObj bm) :: (bm, bmObj sc) :: (sc, ScObj a x tk 0 false) :: news) → (∀ p ∈ news, p.1 < sc) → sc < bm → bm < it → ∀ tk', Q (.ref it) { s with heap := h', toks := tk' }) :
    wpAny (model prog w) A (call (.builtin "re.Pattern.finditer") [.ref a, .str x tk]) Q E s := by
  refine wpAny_call_entry slot_finditer P.typeIs entry_finditer ?_ (args_finditer _ _)
  unfold Builtin.«re.Pattern.finditer»
  refine wpAny_bind (wpAny_target1 P hx ?_)
  refine wpAny_bind ?_
  unfold reNotHeld
  refine wpAny_bind (wpAny_isInstance (T := "str") (b := false) (v := (target a x tk code g 0).string) rfl sub_str_bytearray ?_)
  refine wpAny_pure ?_
  refine wpAny_bind (wpAny_newObj_type ?_ (by size_fits))
  have e0 : min 0 x.cps.size = 0 := Nat.zero_min _
  have F1 := F.push (ScObj a x tk 0 false)
  have N1 := N.push F (ScObj a x tk 0 false)
  have eo : ({ cls := Value.type "_sre.SRE_Scanner", data := Data.fields [(target a x tk code g 0).pattern, (target a x tk code g 0).string, rawInt (target a x tk code g 0).pos, rawInt (target a x tk code g 0).pos, rawInt (target a x tk code g 0).lim, .bool false].toArray } : Obj) = ScObj a x tk 0 false := by
    unfold ScObj target
    simp only [e0]
    rfl
  rw [eo]
  have hg : (s.heap.push (ScObj a x tk 0 false)).get? s.heap.objs.size = some (ScObj a x tk 0 false) := Heap.get?_push_size _ rfl
  refine wpAny_bind (wpAny_holding ?_)
  have F2 := F1.push (bmObj s.heap.objs.size)
  have N2 := N1.push F1 (bmObj s.heap.objs.size)
  refine search_attr (g := s.gens) (d := s.drawn) (t := s.toks) (os := s.os) hg ?_
  refine wpAny_bind (wpAny_newObj_type ?_ (by size_fits))
  have F3 := F2.push (itObj (s.heap.push (ScObj a x tk 0 false)).objs.size)
  have N3 := N2.push F2 (itObj (s.heap.push (ScObj a x tk 0 false)).objs.size)
  refine wpAny_pure ⟨_, rfl, h _ _ _ _ F3 N3 (News.lt N) ?_ ?_ _⟩
  · rw [size_push]; exact Nat.lt_succ_self _
  · rw [size_push, size_push, size_push]; exact Nat.lt_succ_self _

variable {str pat : Value} {pos lim : Nat} {li : Int} {mt sp : Addr}
theorem match_method {M : Model} {name : Str} {id : String} {pl : Sem Bool} {Q : Value × List Value → Shared → Prop} (slot : Slot "re.Match" name id) (ty : typeOf (.builtin id) = pure (.type "method_descriptor"))
    (hm : s.heap.get? mt = some (matchObj str pat pos lim li sp)) (h : Q (.builtin id, [.ref mt]) s) : wpAny M A (getMethod (.ref mt) name pl) Q E s :=
  getMethod_builtin ⟨_, hm, rfl⟩ plain_match slot ty (fun b e => by cases e; exact ⟨_, hm, rfl⟩) h

theorem wpAny_reFound {M : Model} {spans : List Int} {Q : ReFound → Shared → Prop} (hm : s.heap.get? mt = some (matchObj str pat pos lim li sp)) (hs : s.heap.get? sp = some (tupObj (spans.map rawInt)))
    (h : Q ⟨#[str, pat, rawInt pos, rawInt lim, rawInt li, .ref sp], spans.toArray⟩ s) : wpAny M A (reFound (.ref mt)) Q E s := by
  unfold reFound
  refine wpAny_bind (wpAny_fieldsOf hm rfl ?_)
  unfold reRawItems
  refine wpAny_bind (wpAny_bind (wpAny_seqItems hs rfl (wpAny_pure ?_)))
  refine wpAny_pure ?_
  have e : ((some (spans.map rawInt).toArray).getD #[]).map reRawOf = spans.toArray := by
    show ((spans.map rawInt).toArray).map reRawOf = _
    apply Array.toList_inj.mp
    have : (reRawOf ∘ rawInt) = id := funext fun i => rfl
    simp [this]
  rw [e]
  exact h

theorem call_start {spans : List Int} {i : Int} {Q : Value → Shared → Prop} (hm : s.heap.get? mt = some (matchObj str pat pos lim li sp)) (hs : s.heap.get? sp = some (tupObj (spans.map rawInt))) (hi : spans.toArray.getD 0 (-1) = i)
    (h : Q (.int i s.toks) { s with toks := s.toks + 1 }) : wpAny (model prog w) A (call (.builtin "re.Match.start") [.ref mt]) Q E s := by
  refine wpAny_call_entry slot_start ⟨_, hm, rfl⟩ entry_start ?_ (args_start _)
  unfold Builtin.«re.Match.start»
  refine wpAny_bind ?_
  unfold reOneGroup
  refine wpAny_bind (wpAny_of_eq (a := (.ref mt, [])) rfl ?_)
  dsimp only
  refine wpAny_bind (wpAny_reFound hm hs ?_)
  refine wpAny_bind (wpAny_pure (wpAny_pure ?_))
  dsimp only
  rw [hi]
  exact wpAny_bind (wpAny_mkInt (wpAny_pure ⟨_, rfl, h⟩))
theorem call_end {spans : List Int} {i : Int} {Q : Value → Shared → Prop} (hm : s.heap.get? mt = some (matchObj str pat pos lim li sp)) (hs : s.heap.get? sp = some (tupObj (spans.map rawInt))) (hi : spans.toArray.getD 1 (-1) = i)
    (h : Q (.int i s.toks) { s with toks := s.toks + 1 }) : wpAny (model prog w) A (call (.builtin "re.Match.end") [.ref mt]) Q E s := by
  refine wpAny_call_entry slot_end ⟨_, hm, rfl⟩ entry_end ?_ (args_end _)
  unfold Builtin.«re.Match.end»
  refine wpAny_bind ?_
  unfold reOneGroup
  refine wpAny_bind (wpAny_of_eq (a := (.ref mt, [])) rfl ?_)
  dsimp only
  refine wpAny_bind (wpAny_reFound hm hs ?_)
  refine wpAny_bind (wpAny_pure (wpAny_pure ?_))
  dsimp only
  rw [hi]
  exact wpAny_bind (wpAny_mkInt (wpAny_pure ⟨_, rfl, h⟩))
theorem call_group {x : Str} {tk tk2 : Tok} {a0 b0 : Int} {b e : Nat} {Q : Value → Shared → Prop} (hm : s.heap.get? mt = some (matchObj (.str x tk) pat pos lim li sp)) (hs : s.heap.get? sp = some (tupObj ([a0, b0, (b : Int), (e : Int)].map rawInt)))
    (hx : x.cps.size ≤ 1000000) (h : Q (.str ⟨x.cps.extract b e⟩ s.toks) { s with toks := s.toks + 1 }) : wpAny (model prog w) A (call (.builtin "re.Match.group") [.ref mt, .int 1 tk2]) Q E s := by
  refine wpAny_call_entry slot_group ⟨_, hm, rfl⟩ entry_group ?_ (args_group _ _)
  unfold Builtin.«re.Match.group»
  refine wpAny_bind (wpAny_of_eq (a := ()) rfl ?_)
  dsimp only
  refine wpAny_bind (wpAny_reFound hm hs ?_)
  refine wpAny_bind ?_
  unfold reGroupNumber
  refine wpAny_bind (wpAny_of_eq (a := (some 1)) rfl ?_)
  refine wpAny_bind (wpAny_of_eq (a := (1 : Int)) rfl ?_)
  dsimp only
  refine wpAny_pure ?_
  refine wpAny_bind ?_
  unfold reGroupText
  dsimp only
  have e1 : (decide (([a0, b0, (b : Int), (e : Int)].toArray.getD (2 * (1 : Int).toNat) (-1)) < 0) || decide (([a0, b0, (b : Int), (e : Int)].toArray.getD (2 * (1 : Int).toNat + 1) (-1)) < 0)) = false := by
    show (decide ((b : Int) < 0) || decide ((e : Int) < 0)) = false
    rw [decide_eq_false (by omega), decide_eq_false (by omega)]; rfl
  rw [e1, if_neg Bool.false_ne_true]
  refine wpAny_bind (wpAny_of_eq (a := (x.cps, 0)) rfl ?_)
  show wpAny _ _ (mkStr ⟨x.cps.extract b e⟩) _ _ _
  refine wpAny_mkStr (wpAny_pure ⟨_, rfl, h⟩) ?_
  show (x.cps.extract b e).size ≤ sizeLine
  rw [Array.size_extract, sizeLine_eq]
  omega
end
end Mine

end

section -- part Re5
set_option linter.unusedVariables false
open PySem PySem.W PyProof.Rows PySem.Calls
open PySem.Builtin.Re
set_option maxRecDepth 100000
namespace Mine
theorem slot_match_eq : Slot "re.Match" "__eq__" "object.__eq__" :=
  .of (owner := "object") (n := "__eq__") (by rw [typeLookup_type, builtinLookup_eq_fast]; kernel_rfl) (by decide +kernel) (by decide +kernel) (by decide +kernel)
    (.inl (by decide +kernel)) (by rw [isSubtype_type]; kernel_rfl)
theorem entry_oeq : entryFor table "object.__eq__" = some Builtin.«object.__eq__» := entryFor_of_fast (by rw [fastTable_eq_tree]; kernel_rfl)
theorem args_oeq (a b : Value) : argsOk "object.__eq__" ⟨[a, b], []⟩ := by unfold argsOk; kernel_rfl
theorem sub_match_none : isSubtype (.type "re.Match") (.type "NoneType") = pure false := by rw [isSubtype_type]; kernel_rfl
theorem sub_scanner_module : isSubtype (.type "_sre.SRE_Scanner") (.type "module") = pure false := by rw [isSubtype_type]; kernel_rfl
section
variable {prog : Program} {w : World} {A : Around} {E : Value → Shared → Prop} {h : Heap} {g : Array GenState} {d : Drawn} {t : Nat} {os : OsState} {a : Addr} {o : Obj}

theorem oeq_none {R : Result → Shared → Prop} (hq : R (.ok (.ret .notImplemented)) ⟨h, g, d, t, os⟩) : codeAny (model prog w) A (.call (.builtin "NoneType.__eq__") ⟨[.none, .ref a], []⟩) R ⟨h, g, d, t, os⟩ := by
  refine codeAny_call_builtin F.slot_NoneType_eq.plain F.entry_NoneType_eq (F.slot_NoneType_eq.check _ _ _ _ _ _ _ _ rfl (F.args_NoneType_eq_2 _ _) ?_)
  repeat (any_goals (first | assumption | wp_step))
theorem oeq_match {R : Result → Shared → Prop} (hx : h.get? a = some o) (hc : o.cls = .type "re.Match") (hq : R (.ok (.ret .notImplemented)) ⟨h, g, d, t, os⟩) : codeAny (model prog w) A (.call (.builtin "object.__eq__") ⟨[.ref a, .none], []⟩) R ⟨h, g, d, t, os⟩ := by
  refine codeAny_call_builtin slot_match_eq.plain entry_oeq (slot_match_eq.check _ _ _ _ _ _ _ _ (show (⟨h, g, d, t, os⟩ : Shared).TypeIs (.ref a) "re.Match" from ⟨_, hx, hc⟩) (args_oeq _ _) ?_)
  repeat (any_goals (first | assumption | wp_step))
theorem eq_none_match {Q : Bool → Shared → Prop} (hu : A.units < cLine) (hx : h.get? a = some o) (hc : o.cls = .type "re.Match") (hq : Q false ⟨h, g, d, t, os⟩) : wpAny (model prog w) A (eqBool .none (.ref a)) Q E ⟨h, g, d, t, os⟩ := by
  have hT : (⟨h, g, d, t, os⟩ : Shared).TypeIs (.ref a) "re.Match" := ⟨_, hx, hc⟩
  have hT2 : (⟨h, g, d, t, os⟩ : Shared).TypeIs .none "NoneType" := rfl
  have f1 := sub_match_none
  have f2 : typeLookup (Value.type "NoneType") (Str.ofString "__eq__") = _ := F.slot_NoneType_eq.lookup
  have f3 := F.slot_NoneType_eq.bind .none
  have f4 := slot_match_eq.lookup
  have f5 := slot_match_eq.bind (.ref a)
  unfold eqBool
  refine wpAny_holding ?_
  show wpAny _ _ (do let r ← richCompare .Eq .none (.ref a); truthOfDropped r) _ _ _
  refine wpAny_bind ?_
  unfold richCompare
  refine wpAny_holding (wpAny_bind (wpAny_cRoomFor hu ?_))
  show wpAny _ _ (do
    let ta ← typeOf Value.none
    let tb ← typeOf (Value.ref a)
    let rightFirst ← if ta != tb then isSubtype tb ta else pure false
    if rightFirst then
      if let some v ← tryCompare (.ref a) (cmpInfo .Eq).2.2 .none then rule "compare.subclass-reflected-first"; return v
    if let some v ← tryCompare .none (cmpInfo .Eq).2.1 (.ref a) then return v
    if !rightFirst then
      if let some v ← tryCompare (.ref a) (cmpInfo .Eq).2.2 .none then return v
    rule "compare.eq-identity"; return .bool (← isSame .none (.ref a))) _ _ _
  refine wpAny_bind (wpAny_typeOf hT2 (wpAny_bind (wpAny_typeOf hT ?_)))
  refine wpAny_bind (wpAny_of_eq f1 ?_)
  refine wpAny_bind ?_
  refine wpAny_bind (wpAny_callSpecialIfBound?_slot hT2 F.slot_NoneType_eq (wpAny_call (oeq_none ?_)))
  refine wpAny_pure ?_
  refine wpAny_bind ?_
  refine wpAny_bind (wpAny_callSpecialIfBound?_slot hT slot_match_eq (wpAny_call (oeq_match hx hc ?_)))
  refine wpAny_pure ?_
  repeat (any_goals (first | assumption | wp_step))
end
end Mine

end

section -- part Re6
set_option linter.unusedVariables false
open PySem PySem.W PyProof.Rows PySem.Calls
open PySem.Builtin.Re
set_option maxRecDepth 100000
namespace Mine
def sgSearch : Manifest.Signature := ⟨.nothing, "SRE_Scanner.search", "search", .self, []⟩
theorem sig_search : Manifest.signature? "_sre.SRE_Scanner.search" = some sgSearch := by kernel_rfl
theorem kind_search : builtinKind "_sre.SRE_Scanner.search" = some .method := by decide +kernel
theorem noVar_search : Manifest.varargsMethods.contains "_sre.SRE_Scanner.search" = false := by decide +kernel
theorem last_search : ({ sgSearch with full := s!"{Bind.lastOf "_sre.SRE_Scanner"}.{Bind.lastOf "_sre.SRE_Scanner.search"}" } : Manifest.Signature) = sgSearch := by
  have e : s!"{Bind.lastOf "_sre.SRE_Scanner"}.{Bind.lastOf "_sre.SRE_Scanner.search"}" = "SRE_Scanner.search" := by decide +kernel
  rw [e]; rfl
theorem check_search (a : Value) : Bind.checkArgs "_sre.SRE_Scanner.search" sgSearch ⟨[a], []⟩ = pure () := by kernel_rfl
section
variable {prog : Program} {w : World} {M : Model} {A : Around} {E : Value → Shared → Prop} {s : Shared} {a : Addr} {o : Obj}
theorem bound_search {vs : Array Value} {Q : Unit → Shared → Prop} (hx : s.heap.get? a = some { cls := .type "_sre.SRE_Scanner", data := .fields vs }) (hq : Q () s) :
    wpAny M A (checkBoundCall "_sre.SRE_Scanner.search" ⟨[.ref a], []⟩) Q E s := by
  have hT : s.TypeIs (.ref a) "_sre.SRE_Scanner" := ⟨_, hx, rfl⟩
  unfold checkBoundCall
  rw [sig_search, kind_search, noVar_search]
  refine wpAny_bind (wpAny_isInstance hT sub_scanner_module ?_)
  dsimp only [bne, Bool.or_self, Bool.false_or]
  rw [if_neg (show ¬ ((false || false) = true) from Bool.false_ne_true)]
  refine wpAny_bind ?_
  refine wpAny_bind (m := loadHead a) (wpAny_loadPart hx (wpAny_pure ?_))
  rw [if_neg (show ¬ (false = true) from Bool.false_ne_true)]
  refine wpAny_bind (wpAny_typeOf hT ?_)
  dsimp only
  rw [show Bind.checkArgs "_sre.SRE_Scanner.search" _ ⟨[Value.ref a], []⟩ = pure () from (congrArg (fun x => Bind.checkArgs "_sre.SRE_Scanner.search" x ⟨[Value.ref a], []⟩) last_search).trans (check_search _)]
  exact wpAny_pure hq
end

section
variable {prog : Program} {w : World} {A : Around} {E : Value → Shared → Prop} {s : Shared} {h₀ : Heap} {L : Addr} {m : Str → Option Value} {Z : List (Addr × Obj)}

theorem wpAny_setSc {M : Model} {sc : Addr} {vs : Array Value} {i : Nat} {x : Value} {Q : Unit → Shared → Prop} (F : Fr h₀ L s.heap m) (N : News h₀ L s.heap ((sc, { cls := .type "_sre.SRE_Scanner", data := .fields vs }) :: Z)) (hz : ∀ p ∈ Z, p.1 ≠ sc) (hi : i < vs.size)
    (h : ∀ h', Fr h₀ L h' m → News h₀ L h' ((sc, { cls := .type "_sre.SRE_Scanner", data := .fields (vs.setIfInBounds i x) }) :: Z) → Q () { s with heap := h' }) :
    wpAny M A (setField (.ref sc) i x) Q E s := by
  have z := N _ (.head _)
  have hs := Heap.SameBut.update (h := s.heap) (a := sc) (f := Obj.mapFields (·.setIfInBounds i x))
  refine wpAny_setField z.1 rfl hi (h _ (F.change hs z.2.1 z.2.2) ?_)
  refine news_set (pre := []) N (fun _ hp => (nomatch hp)) hz hs ?_
  exact Heap.get?_update_self _ z.1 rfl

theorem modelA_builtin {id : String} {args : Args} {b : Builtin} (hi : isAsk (.builtin id args) = false) (hb : entryFor table id = some b) : (modelA prog w).den (.builtin id args) = b args := by
  show denA _ = _
  rw [denA_of hi]; exact den_builtin hb
theorem modelA_ask : (modelA prog w).den (.builtin "gc.ask" ⟨[rawInt 13], []⟩) = ret (.bool false) := denA_ask
/-- the call of the scanner's bound search, where a place is found -/
theorem bm_found {a sc bm : Addr} {x : Str} {tk : Tok} {p : Nat} {must : Bool} {code : Array Nat} {g : Nat} {P : Sre.M → Prop} {R : Result → Shared → Prop}
    (F : Fr h₀ L s.heap m) (N : News h₀ L s.heap ((sc, ScObj a x tk p must) :: Z)) (hz : ∀ q ∈ Z, q.1 ≠ sc) (hbm : (bm, bmObj sc) ∈ Z) (hP : IsPat h₀ a code g)
    (hev : Ev bigK P (Sre.forSearch code x.cps g p x.cps.size must))
    (hres : ∀ m', P m' → (m'.outcome = some .matched ∧ ∀ s' : Shared, (∃ h', s' = { s with heap := h' } ∧ Fr h₀ L h' m ∧ News h₀ L h' ((sc, ScObj a x tk m'.handed (m'.handed == m'.start)) :: Z)) → wpAny (modelA prog w) A.in1 (reNewMatch (.ref a) (.str x tk) g 0 x.cps.size m') (fun v s'' => R (.ok (.ret v)) s'') (fun _ _ => False) s') ∨
        (m'.outcome = some .failed ∧ ∀ h', Fr h₀ L h' m → News h₀ L h' ((sc, ScObj a x tk (-1) must) :: Z) → R (.ok (.ret .none)) { s with heap := h' })) :
    codeAny (modelA prog w) A (.call (.ref bm) ⟨[], []⟩) R s := by
  have hb := (N _ (.tail _ hbm)).1
  have hs := (N _ (.head _)).1
  refine codeAny_of_tree ?_
  show wpAny _ A.in1 (callAny (.ref bm) ⟨[], []⟩) _ _ s
  unfold callAny
  refine wpAny_bind (wpAny_load hb ?_)
  show wpAny _ _ (do
    checkBoundCall "_sre.SRE_Scanner.search" ⟨[.ref sc], []⟩
    return ← again (.builtin "_sre.SRE_Scanner.search" ⟨[.ref sc], []⟩)) _ _ s
  refine wpAny_bind (bound_search hs ?_)
  refine wpAny_bind (wpAny_pure (wpAny_pure ?_))
  refine ⟨plainId_quiet slot_search.plain _, ?_⟩
  refine codeAny_of_tree ?_
  rw [Around.under_plainId slot_search.plain]
  rw [modelA_builtin (by rfl) entry_search]
  unfold Builtin.«_sre.SRE_Scanner.search» reScan
  dsimp only [List.isEmpty_nil]
  rw [if_neg (show ¬ ((!true || !true) = true) from Bool.false_ne_true)]
  refine wpAny_bind (wpAny_fieldsOf hs rfl ?_)
  rw [if_neg (show ¬ (reRawOf (#[Value.ref a, .str x tk, rawInt p, rawInt 0, rawInt x.cps.size, .bool must].getD 2 .none) < 0) from Int.not_lt.mpr (Int.natCast_nonneg p))]
  refine wpAny_bind ?_
  unfold noCollectionInside
  refine wpAny_bind ?_
  refine wpAny_runValue (codeAny_of_tree ?_)
  rw [modelA_ask]
  refine wpAny_pure ?_
  dsimp only
  rw [if_neg (show ¬ (((Value.bool false) != .bool false) = true) from by decide)]
  refine wpAny_pure ?_
  refine wpAny_bind (wpAny_whole (code := code) (g := g) (hP.keeps F.keep) ?_)
  have hm : ((#[Value.ref a, .str x tk, rawInt p, rawInt 0, rawInt x.cps.size, .bool must] : Array Value).getD 5 .none == .bool true) = must := by cases must <;> rfl
  have he : Ev bigK P (Sre.forSearch (target a x tk code g 0).code (target a x tk code g 0).text (target a x tk code g 0).groups (reRawOf (#[Value.ref a, .str x tk, rawInt p, rawInt 0, rawInt x.cps.size, .bool must].getD 2 .none)).toNat
      (reRawNat (#[Value.ref a, .str x tk, rawInt p, rawInt 0, rawInt x.cps.size, .bool must].getD 4 .none)) ((#[Value.ref a, .str x tk, rawInt p, rawInt 0, rawInt x.cps.size, .bool must] : Array Value).getD 5 .none == .bool true)) := by
    rw [hm]
    exact hev
  refine wpAny_bind (wpAny_toEnd (P := P) he fun m' hp => ?_)
  rcases hres m' hp with ⟨h1, h2⟩ | ⟨h1, h2⟩
  · refine .inl ⟨h1, ?_⟩
    refine wpAny_bind (wpAny_setSc F N hz (Nat.le_of_ble_eq_true rfl) fun h' F' N' => ?_)
    refine wpAny_bind (wpAny_setSc F' N' hz (Nat.le_of_ble_eq_true rfl) fun h'' F'' N'' => ?_)
    refine wpAny_bind ?_
    refine wpAny_mono (h2 _ ⟨h'', rfl, F'', N''⟩) (fun v s'' hv => wpAny_pure hv) (fun _ _ h => h.elim)
  · refine .inr ⟨h1, ?_⟩
    refine wpAny_bind (wpAny_setSc F N hz (Nat.le_of_ble_eq_true rfl) fun h' F' N' => ?_)
    exact wpAny_pure (h2 h' F' N')
end
end Mine

end

section -- part Re7
set_option linter.unusedVariables false
open PySem PySem.W PyProof.Rows PySem.Calls
open PySem.Builtin.Re
set_option maxRecDepth 100000
namespace Mine
section
variable {prog : Program} {w : World} {A : Around} {E : Value → Shared → Prop} {s : Shared} {h₀ : Heap} {L : Addr} {m : Str → Option Value} {Z : List (Addr × Obj)}

theorem borrows_bm {M : Model} {sc bm : Addr} {Q : Bool → Shared → Prop} (hb : s.heap.get? bm = some (bmObj sc)) (h : Q false s) : wpAny M A (borrowsExactly (.ref bm)) Q E s := by
  unfold borrowsExactly
  refine wpAny_bind (wpAny_load hb ?_)
  exact wpAny_pure h

theorem N_pyNext {it bm : Addr} {R : Option Value → Shared → Prop} (hit : s.heap.get? it = some (itObj bm))
    (h : codeE (modelA prog w) A (.call (.builtin "callable_iterator.__next__") ⟨[.ref it], []⟩) (fun r s' => match r with
      | .ok (.ret v) => R (some v) s' | .ok _ => False | .error e => ∃ ea o, e = .ref ea ∧ s'.heap.get? ea = some o ∧ o.cls = .type "StopIteration" ∧ R none s') s) :
    wpN (modelA prog w) A (pyNext (.ref it)) R s := by
  have hT : s.TypeIs (.ref it) "callable_iterator" := ⟨_, hit, rfl⟩
  unfold pyNext
  refine N_bind (N_attempt ?_)
  simp only [callSpecial?]
  refine E_bind (E_any (wpAny_specialOf hT slot_cnext.lookup ?_))
  simp only [slot_cnext.bind]
  refine E_holding (E_bind (E_any (wpAny_pure ?_)))
  refine E_bind (E_call ?_)
  intro Γ p h1 h2 h3
  refine wpCode_mono (fun r s' h' => ?_) (h Γ p h1 h2 h3)
  cases r with
  | error e =>
    obtain ⟨ea, o, rfl, h4, h5, h6⟩ := h'
    refine N_bind (N_any (wpAny_isInstance (T := "StopIteration") (b := true) ⟨_, h4, h5⟩ isSubtype_stop ?_))
    exact N_pure h6
  | ok f =>
    cases f with
    | ret v => exact E_any (wpAny_pure (N_pure h'))
    | _ => exact h'.elim

/-- one step of the iterator, where the scanner finds a place -/
theorem next_found {a sc bm it : Addr} {x : Str} {tk : Tok} {p : Nat} {must : Bool} {code : Array Nat} {g : Nat} {P : Sre.M → Prop} {R : Option Value → Shared → Prop}
    (hu : A.units + 3 < cLine) (F : Fr h₀ L s.heap m) (N : News h₀ L s.heap ((sc, ScObj a x tk p must) :: Z)) (hz : ∀ q ∈ Z, q.1 ≠ sc) (hbm : (bm, bmObj sc) ∈ Z) (hit : (it, itObj bm) ∈ Z) (hP : IsPat h₀ a code g)
    (hev : Ev bigK P (Sre.forSearch code x.cps g p x.cps.size must))
    (hres : ∀ m', P m' → (m'.outcome = some .matched ∧ ∀ h', Fr h₀ L h' m → News h₀ L h' ((sc, ScObj a x tk m'.handed (m'.handed == m'.start)) :: Z) →
      ∀ A', wpAny (modelA prog w) A' (reNewMatch (.ref a) (.str x tk) g 0 x.cps.size m') (fun v s'' => ∃ mt o Z', v = .ref mt ∧ s''.heap.get? mt = some o ∧ o.cls = .type "re.Match" ∧ News h₀ L s''.heap Z' ∧ (it, itObj bm) ∈ Z' ∧ R (some v) s'') (fun _ _ => False) { s with heap := h' })) :
    wpN (modelA prog w) A (pyNext (.ref it)) R s := by
  have hi := (N _ (.tail _ hit)).1
  have hb := (N _ (.tail _ hbm)).1
  refine N_pyNext hi ?_
  refine codeE_call_builtin slot_cnext.plain entry_cnext rfl (slot_cnext.check _ _ _ _ _ _ _ _ ⟨_, hi, rfl⟩ (args_cnext _) ?_)
  unfold Builtin.«callable_iterator.__next__»
  refine I_then (wpAny_of_eq (a := (.ref it, [])) rfl ?_)
  dsimp only
  refine I_then (wpAny_field hi rfl (x := .bool false) rfl ?_)
  rw [if_neg (show ¬ ((Value.bool false == .bool true) = true) from by decide)]
  refine I_then (wpAny_field hi rfl (x := .ref bm) rfl ?_)
  refine I_then (wpAny_attempt ?_)
  unfold callOutOfASlot
  refine wpAny_bind (borrows_bm hb ?_)
  rw [if_neg Bool.false_ne_true]
  refine wpAny_call (bm_found F N hz hbm hP hev (fun m' hp => .inl ?_))
  obtain ⟨h1, h2⟩ := hres m' hp
  refine ⟨h1, fun s' ⟨h', e, F', N'⟩ => ?_⟩
  subst e
  refine wpAny_mono (h2 h' F' N' _) (fun v s'' hv => ?_) (fun _ _ h => h)
  obtain ⟨mt, o, Z', rfl, h3, h4, h5, h6, h7⟩ := hv
  dsimp only
  refine I_then (wpAny_field (h5 _ h6).1 rfl (x := .bool false) rfl ?_)
  rw [if_neg (show ¬ ((Value.bool false == .bool true) = true) from by decide)]
  refine I_then (wpAny_field (h5 _ h6).1 rfl (x := .none) rfl ?_)
  refine I_then (wpAny_holding (any_A (eq_none_match (by show A.units + 1 < cLine; omega) h3 h4 ?_)))
  rw [if_pos (show (!false) = true from rfl)]
  refine I_any (wpAny_bind (wpAny_pure ?_))
  exact wpAny_pure h7

def busyF (self : Value) : Code → Bool
  | .builtin "callable_iterator.__next__" x => x.pos.head? == some self
  | _ => false
theorem busyF_off {self : Value} {c : Code} (h : notIt c = true) : busyF self c = false := by
  unfold busyF
  split
  · cases h
  · rfl
theorem wpAny_setIt {M : Model} {it : Addr} {vs : Array Value} {i : Nat} {x : Value} {Q : Unit → Shared → Prop} (F : Fr h₀ L s.heap m) (N : News h₀ L s.heap ((it, { cls := .type "callable_iterator", data := .fields vs }) :: Z)) (hz : ∀ p ∈ Z, p.1 ≠ it) (hi : i < vs.size)
    (h : ∀ h', Fr h₀ L h' m → News h₀ L h' ((it, { cls := .type "callable_iterator", data := .fields (vs.setIfInBounds i x) }) :: Z) → Q () { s with heap := h' }) :
    wpAny M A (setField (.ref it) i x) Q E s := by
  have z := N _ (.head _)
  have hs := Heap.SameBut.update (h := s.heap) (a := it) (f := Obj.mapFields (·.setIfInBounds i x))
  refine wpAny_setField z.1 rfl hi (h _ (F.change hs z.2.1 z.2.2) ?_)
  refine news_set (pre := []) N (fun _ hp => (nomatch hp)) hz hs ?_
  exact Heap.get?_update_self _ z.1 rfl
theorem wpAny_stopIt {M : Model} {α : Type} {Q : α → Shared → Prop} (hh : A.handled = none) (F : Fr h₀ L s.heap m) (N : News h₀ L s.heap Z)
    (h : ∀ ea o h', h'.get? ea = some o → o.cls = .type "StopIteration" → Fr h₀ L h' m → News h₀ L h' Z → E (.ref ea) { s with heap := h' }) : wpAny M A (Builtin.SmallTypes.stopIteration : Sem α) Q E s := by
  show wpAny M A (newExc (.type "StopIteration") [] >>= _) Q E s
  refine wpAny_bind ?_
  simp only [newExc, newTuple]
  refine wpAny_bind (wpAny_newObj_type ?_ (by size_fits))
  refine wpAny_bind (m := firstArgMember _ _) (wpAny_of_eq (a := Value.none) (by first | rfl | (simp only [firstArgMember]; rfl)) ?_)
  refine wpAny_newObj_type ?_ (by size_fits)
  simp only [raiseNew]
  refine wpAny_bind (wpAny_handled ?_)
  rw [hh]
  refine wpAny_bind (wpAny_pure (wpAny_throw ?_))
  refine h _ _ _ (Heap.get?_push_size _ rfl) rfl ((F.push _).push _) (fun p hp => ?_)
  exact ((N.push F _).push (F.push _) _) p (.tail _ (.tail _ hp))

/-- its last step -/
theorem next_end {a sc bm it : Addr} {x : Str} {tk : Tok} {p : Nat} {must : Bool} {code : Array Nat} {g : Nat} {R : Option Value → Shared → Prop}
    (hh : A.handled = none) (F : Fr h₀ L s.heap m) (N : News h₀ L s.heap ((sc, ScObj a x tk p must) :: Z)) (hz : ∀ q ∈ Z, q.1 ≠ sc) {Z' : List (Addr × Obj)} (eZ : Z = (bm, bmObj sc) :: (it, itObj bm) :: Z') (hz' : ∀ q ∈ Z', q.1 ≠ it) (hne : bm ≠ it) (hP : IsPat h₀ a code g)
    (hev : Ev bigK (fun m' => m'.outcome = some .failed) (Sre.forSearch code x.cps g p x.cps.size must))
    (hres : ∀ h', Fr h₀ L h' m → News h₀ L h' Z' → R none { s with heap := h' }) :
    wpN (modelA prog w) A (pyNext (.ref it)) R s := by
  subst eZ
  have hi := (N _ (.tail _ (.tail _ (.head _)))).1
  have hb := (N _ (.tail _ (.head _))).1
  refine N_pyNext hi ?_
  refine codeE_call_builtin slot_cnext.plain entry_cnext rfl (slot_cnext.check _ _ _ _ _ _ _ _ ⟨_, hi, rfl⟩ (args_cnext _) ?_)
  unfold Builtin.«callable_iterator.__next__»
  refine I_then (wpAny_of_eq (a := (.ref it, [])) rfl ?_)
  dsimp only
  refine I_then (wpAny_field hi rfl (x := .bool false) rfl ?_)
  rw [if_neg (show ¬ ((Value.bool false == .bool true) = true) from by decide)]
  refine I_then (wpAny_field hi rfl (x := .ref bm) rfl ?_)
  refine I_then (wpAny_attempt ?_)
  unfold callOutOfASlot
  refine wpAny_bind (borrows_bm hb ?_)
  rw [if_neg Bool.false_ne_true]
  refine wpAny_call (bm_found (P := fun m' => m'.outcome = some .failed) F N hz (.head _) hP hev (fun m' hp => .inr ⟨hp, fun h' F' N' => ?_⟩))
  have hi' := (N' _ (.tail _ (.tail _ (.head _)))).1
  have hb' := (N' _ (.tail _ (.head _))).1
  dsimp only
  refine I_then (wpAny_field hi' rfl (x := .bool false) rfl ?_)
  rw [if_neg (show ¬ ((Value.bool false == .bool true) = true) from by decide)]
  refine I_then (wpAny_field hi' rfl (x := .none) rfl ?_)
  refine I_then (wpAny_holding ?_)
  unfold eqBool
  refine wpAny_holding ?_
  rw [if_pos (show ((Value.none == Value.none) = true) from by decide)]
  refine wpAny_bind (wpAny_rule (wpAny_pure ?_))
  rw [if_neg (show ¬ ((!true) = true) from by decide)]
  refine I_then (wpAny_rule ?_)
  show wpI _ _ _ (do
    (do
      slotLetsGo "callable_iterator.__next__" (← field (.ref it) 0) (busyF (.ref it))
      setField (.ref it) 0 .none; setField (.ref it) 1 .none; setField (.ref it) 2 (.bool true))
    Builtin.SmallTypes.stopIteration) _ _ _
  refine I_bind ?_
  refine I_then (wpAny_field hi' rfl (x := .ref bm) rfl ?_)
  refine I_bind ?_
  unfold slotLetsGo
  refine I_then (borrows_bm hb' ?_)
  rw [if_neg Bool.false_ne_true]
  refine I_bind (I_stack fun p below hcl => ?_)
  have hbelow : ((((Code.builtin "callable_iterator.__next__" ⟨[Value.ref it], []⟩, p) :: below).drop 1).any fun x => busyF (.ref it) x.1) = false := by
    show (below.any fun x => busyF (.ref it) x.1) = false
    rw [List.any_eq_false]
    intro x hx
    rw [busyF_off (hcl x hx)]
    exact Bool.false_ne_true
  refine I_any ?_
  show wpAny _ _ (if ((((Code.builtin "callable_iterator.__next__" ⟨[Value.ref it], []⟩, p) :: below).drop 1).any fun x => busyF (.ref it) x.1) = true then _ else _) _ _ _
  rw [hbelow, if_neg Bool.false_ne_true]
  refine wpAny_pure ?_
  refine I_any ?_
  have N1 : News h₀ L h' ((it, itObj bm) :: Z') := fun q hq => N' q (.tail _ (.tail _ hq))
  refine wpAny_bind (wpAny_setIt F' N1 hz' (Nat.le_of_ble_eq_true rfl) fun h1 F1 N1 => ?_)
  refine wpAny_bind (wpAny_setIt F1 N1 hz' (Nat.le_of_ble_eq_true rfl) fun h2 F2 N2 => ?_)
  refine wpAny_setIt F2 N2 hz' (Nat.le_of_ble_eq_true rfl) fun h3 F3 N3 => ?_
  refine I_any (wpAny_stopIt hh F3 (fun q hq => N3 q (.tail _ hq)) fun ea o h4 e1 e2 F4 N4 => ?_)
  exact ⟨ea, o, rfl, e1, e2, hres h4 F4 N4⟩
end
end Mine

end

section -- part NExec
set_option linter.unusedVariables false
open PySem PySem.W PyProof.Rows PySem.Calls
set_option maxRecDepth 100000
namespace Mine
section
variable {M : Model} {A : Around} {s : Shared} {env : Env}
theorem N_standAt {pos : Pos} {Q : Unit → Shared → Prop} (h : Q () s) : wpN M A (standAt pos) Q s := fun _ _ _ _ _ => h
theorem N_execs_nil {Q : Flow → Shared → Prop} (h : Q .next s) : wpN M A (execs [] env) Q s := fun _ _ _ _ _ => h
theorem N_execs_cons {st rest} {Q : Flow → Shared → Prop}
    (h : wpN M A (exec st env) (fun f s' => match f with | .next => wpN M A (execs rest env) Q s' | f => Q f s') s) :
    wpN M A (execs (st :: rest) env) Q s := fun Γ p hΓ h1 h2 => by
  rw [execs_cons, Sem.wp_bind']
  refine Sem.wp_mono M Γ _ (fun f p' s' h' => ?_) (fun _ _ _ h' => h') _ _ (h Γ p hΓ h1 h2)
  cases f <;> first | exact h' Γ p' hΓ h1 h2 | exact h'
/-- a block, in two parts -/
theorem execs_append : ∀ (a b : List Stmt), execs (a ++ b) env = (execs a env >>= fun f => match f with | .next => execs b env | f => pure f)
  | [], b => rfl
  | st :: a, b => by
    rw [List.cons_append, execs_cons, execs_cons, bind_assoc]
    congr 1
    funext f
    cases f with
    | next => exact execs_append a b
    | _ => rfl
theorem N_execs_split {a b : List Stmt} {Q : Flow → Shared → Prop} (h : wpN M A (execs a env) (fun f s' => match f with | .next => wpN M A (execs b env) Q s' | f => Q f s') s) : wpN M A (execs (a ++ b) env) Q s := by
  rw [execs_append]
  refine N_bind (N_mono h fun f s' h' => ?_)
  cases f <;> first | exact h' | exact N_pure h'
theorem N_If {test body orelse pos} {Q : Flow → Shared → Prop}
    (h : wpN M A (isTrue test env (eval test env)) (fun b s₂ => if b then wpN M A (execs body env) Q s₂ else wpN M A (execs orelse env) Q s₂) s) :
    wpN M A (exec (.If test body orelse pos) env) Q s := fun Γ p hΓ h1 h2 => by
  simp only [exec_If, Sem.wp_bind', Sem.wp_cmd_standAt]
  refine Sem.wp_mono M Γ _ (fun b p₂ s₂ h₂ => ?_) (fun _ _ _ h' => h') _ _ (h Γ _ hΓ h1 h2)
  cases b <;> exact h₂ Γ p₂ hΓ h1 h2
theorem N_Assign_Name {x pos' value pos} {Q : Flow → Shared → Prop}
    (h : wpN M A (eval value env) (fun v s₁ => wpN M A (storeName env x v) (fun _ => Q .next) s₁) s)
    (hs : swapsWith value (some (.Name x pos')) pos.line env = pure false := by rfl) :
    wpN M A (exec (.Assign [.Name x pos'] value pos) env) Q s := fun Γ p hΓ h1 h2 => by
  simp only [exec_Assign_Name env x pos' value pos hs, Sem.wp_bind', Sem.wp_cmd_standAt, Sem.wp_bindName, Sem.wp_pure']
  exact Sem.wp_mono M Γ _ (fun v _ s₁ h₁ => h₁ Γ _ hΓ h1 h2) (fun _ _ _ h' => h') _ _ (h Γ _ hΓ h1 h2)
theorem N_runOwn {c : Code} {Q : Flow → Shared → Prop} (hc : codeN M A c Q s) : wpN M A (runOwn c env none) Q s := by
  unfold runOwn
  exact N_onRaise (N_run hc)
theorem N_For {target iter body orelse pos} {Q : Flow → Shared → Prop}
    (h : wpN M A (eval iter env) (fun x s₁ => wpN M A (pyIter x) (fun it s₂ => codeN M A (.forLoop target it body orelse env) Q s₂) s₁) s)
    (hs : ∀ x, foldedSetIterable iter env x = pure x := by intro _; rfl) :
    wpN M A (exec (.For target iter body orelse pos) env) Q s := by
  rw [exec_For]
  exact N_bind (N_standAt (N_bind (N_mono h fun x s₁ h₁ => N_bind (N_any (wpAny_of_eq (hs x) (N_bind (N_standAt (N_bind (N_holding (N_mono h₁ fun it s₂ h₂ => N_runOwn h₂))))))))))
end
section
variable {prog : Program} {w : World} {A : Around} {s : Shared} {env : Env}
theorem modelA_den {c : Code} (hi : isAsk c = false) : (modelA prog w).den c = denote table c := denA_of hi
theorem codeN_block {stmts : List Stmt} {R : Flow → Shared → Prop} (h : wpN (modelA prog w) A (execs stmts env) R s) : codeN (modelA prog w) A (.block stmts env) R s := by
  refine codeN_of_tree rfl ?_
  rw [modelA_den rfl]
  show wpN _ A (do return Fin.done (← (execs stmts env).onRaise (fun x => do noteFrame x env; theTreesLotGoes x))) _ s
  exact N_bind (N_onRaise (N_mono h fun f s' h' => N_pure h'))
theorem codeN_forLoop {R : Flow → Shared → Prop} {target it body orelse} (I : Nat → Shared → Prop)
    (turn : ∀ n s, I n s → wpN (modelA prog w) A (pyNext it) (fun r s₁ => match r with
      | none => wpN (modelA prog w) A (execs orelse env) R s₁
      | some v => wpN (modelA prog w) A (assign target env v) (fun _ s₂ => wpN (modelA prog w) A (execs body env) (fun f s₃ => match f with
          | .next | .cont => ∃ m, m < n ∧ I m s₃
          | .brk => R .next s₃
          | .ret v => R (.ret v) s₃) s₂) s₁) s)
    (ht : ∀ v, letOwnedTupleGo target it v = pure () := by intro _; rfl) : ∀ (n : Nat) (s : Shared), I n s → codeN (modelA prog w) A (.forLoop target it body orelse env) R s := by
  intro n
  induction n using Nat.strongRecOn with
  | ind n ih =>
    intro s hI
    refine codeN_of_tree rfl ?_
    rw [modelA_den rfl]
    show wpN _ A ((forTurn target it body orelse env).onRaise (fun x => do noteFrame x env; theTreesLotGoes x)) _ s
    refine N_onRaise ?_
    simp only [forTurn]
    refine N_bind (N_standAt (N_bind (N_onRaise (N_mono (turn n s hI) fun r s₁ h₁ => ?_))))
    cases r with
    | none => exact N_pure ⟨rfl, codeN_block h₁⟩
    | some v =>
      refine N_bind (N_any (wpAny_of_eq (ht v) ?_))
      refine N_bind (N_mono h₁ fun _ s₂ h₂ => N_bind (N_mono h₂ fun f s₃ h₃ => ?_))
      cases f with
      | next => obtain ⟨m, hm, hI⟩ := h₃; exact N_pure ⟨rfl, ih m hm _ hI⟩
      | cont => obtain ⟨m, hm, hI⟩ := h₃; exact N_pure ⟨rfl, ih m hm _ hI⟩
      | brk => exact N_pure h₃
      | ret v => exact N_pure h₃
theorem codeN_func {body} {R : Flow → Shared → Prop} (h : wpN (modelA prog w) (A.deeper env) (execs body env) (fun f s' => R (.ret (match f with | .ret v => v | _ => .none)) s') s) :
    codeN (modelA prog w) A (.func body env) R s := by
  refine codeN_of_tree rfl ?_
  rw [modelA_den rfl]
  show wpN _ (A.deeper env) (do point; match ← (execs body env).onRaise (leaving env) with | .ret v => ret v | _ => ret .none) _ s
  refine N_bind (N_any (wpAny_point (N_bind (N_onRaise (N_mono h fun f s' h' => ?_)))))
  cases f <;> exact N_pure h'
theorem codeN_call_function {a : Addr} {args : Args} {o : Obj} {fd : FuncData} {body : List Stmt} {R : Flow → Shared → Prop} (hroom : A.depth < recursionLimit)
    (ho : s.heap.get? a = some o)
    (hd' : o.data = .func fd) (hco : fd.scope.isCoroutine = false) (hgen : fd.scope.isGenerator = false) (hbody : fd.body = .stmts body) (hcd : s.heap.CodeRec fd.code fd.qualname)
    (h : wpAny (modelA prog w) A.in1 (bindArgs fd args) (fun binds s₁ =>
      wpAny (modelA prog w) A.in1 (newFunctionEnv fd.scope fd.globals fd.closure binds (fd.qualname ++ ".<locals>.") (some a) fd.code none fd.builtins)
        (fun env s₂ => s₂.heap.NoLimit ∧ codeN (modelA prog w) A (.func body env) R s₂) (fun _ _ => False) s₁) (fun _ _ => False) s) :
    codeN (modelA prog w) A (.call (.ref a) args) R s := by
  refine codeN_of_tree rfl ?_
  rw [modelA_den rfl]
  show wpN _ A.in1 (callAny (.ref a) args) _ s
  refine N_any ?_
  simp only [callAny]
  refine wpAny_bind (wpAny_load ho ?_)
  obtain ⟨c, oc, vs, tq, hc, hoc, hdc, hq⟩ := hcd
  simp only [hd', callFunction, hco, hgen, hbody, hc]
  rw [hc] at h
  refine wpAny_bind (m := field (.ref c) 1) (wpAny_field hoc hdc hq (wpAny_bind (wpAny_pure ?_)))
  exact wpAny_bind (wpAny_mono h (fun binds s₁ h₁ => wpAny_bind (wpAny_mono h₁ (fun env s₂ h₂ => wpAny_bind (wpAny_enterFrame h₂.1 hroom
    (wpAny_pure (And.intro rfl h₂.2)))) fun _ _ h' => h')) fun _ _ h' => h')
end
end Mine

end

section -- part NDef
set_option linter.unusedVariables false
open PySem PySem.W PyProof.Rows PySem.Calls PySem.Spec
set_option maxRecDepth 100000
namespace Mine
section
variable {prog : Program} {w : World} {A₀ A : Around} {s : Shared} {base h₀ : Heap} {outer : List Env} {L : Addr} {m : Str → Option Value} {env : Env} {K : Frag} {p : Program} {loose : List Str} {mean : ExcName → Option Value} {mg mb : Str → Option Value}
  {name qual : Str} {params : Arguments} {body : List Stmt} {scope : Scope} {dV kV doc pm cdv ct oc : Value} {an od : Option Addr} {osl : Array (Option Value)} {f : Addr} {args : Args} {binds : List (Str × Value)}
theorem codeN_def {R : Flow → Shared → Prop} (B : Below A₀ base outer h₀) (F : Fr h₀ L s.heap m) (X₀ : K.In h₀) (T : Top p loose mean mg mb h₀) (hA : A.frames = some (env :: outer)) (hf : env.frame = some L) (hke : env.scope.kind = .function)
    (ho : K.lookup f = some ⟨oc, od, .func (fnOf name qual params body scope dV kV doc pm an cdv ct), osl⟩) (hcd : codeIn K cdv qual = true) (hroom : A.depth < recursionLimit)
    (hbind : BindsTo s (fnOf name qual params body scope dV kV doc pm an cdv ct) args binds) (hloc : ∀ y ∈ binds, scope.names.lookup y.1 = some .local)
    (h : ∀ h₁, Fr s.heap s.heap.objs.size h₁ (fun y => binds.reverse.lookup y) → Below A base (env :: outer) s.heap → K.In s.heap → Top p loose mean mg mb s.heap →
      wpN (modelA prog w) (A.deeper (envOf qual scope s.heap.objs.size f cdv)) (execs body (envOf qual scope s.heap.objs.size f cdv))
        (fun fl s' => R (.ret (match fl with | .ret v => v | _ => .none)) s') { s with heap := h₁, toks := s.toks + binds.length })
    (hco : scope.isCoroutine = false) (hgen : scope.isGenerator = false) (hk : scope.kind = .function)
    (hcell : ∀ x ∈ scope.names, x.2 ≠ .cell) : codeN (modelA prog w) A (.call (.ref f) args) R s := by
  have X := X₀.keeps F.keep
  have B₁ := pushX B F hf hke
  refine codeN_call_function (fd := fnOf name qual params body scope dV kV doc pm an cdv ct) hroom (X _ _ ho) rfl hco hgen rfl (codeRec_of X hcd) (hbind _ _ _ _ ?_)
  refine wpAny_newFunctionEnv hcell hloc (fun h₁ hns hsb => ⟨(T.nolimit.keeps F.keep).fresh _ hsb, ?_⟩) hk
  refine codeN_func ?_
  exact h h₁ ⟨hns, fun b o e => hsb.extBut b o (Nat.ne_of_lt (Heap.lt_size e)) (Heap.get?_push_of_some _ e), Nat.le_refl _⟩ ⟨hA, B₁.stays, B₁.frames⟩ X (T.keeps F.keep)
end
end Mine

end

section -- part BaseN
set_option linter.unusedVariables false
open PySem PySem.W PyProof.Rows PySem.Calls PySem.Spec
set_option maxRecDepth 100000
namespace Mine

abbrev LS : List Str := [Str.ofString "_Single", Str.ofString "_Symbol", Str.ofString "_Integer", Str.ofString "_Float",
        Str.ofString "_Hexadecimal", Str.ofString "_SingleHint", Str.ofString "_SingleComment",
        Str.ofString "_MultilineHint", Str.ofString "_MultilineComment", Str.ofString "String", Str.ofString "Number",
        Str.ofString "Literal", Str.ofString "Comment", Str.ofString "_DOLLAR_QUOTE_DELIM",
        Str.ofString "_DOLLAR_QUOTE_OPENER_OK", Str.ofString "_COMMENT_HINT_OPEN", Str.ofString "_COMMENT_OPEN",
        Str.ofString "_COMMENT_CLOSE", Str.ofString "DelimitedSpans", Str.ofString "_NO_SPANS"]

/-- what a call of the def at `f` gives, for whatever frame calls it: the values `R` allows, nothing else changed -/
abbrev Gives (w : World) (mean : ExcName → Option Value) (mg mb : Str → Option Value) (f : Addr) (d : Nat) (pre : Heap → Prop) (vs : List Value) (R : Value → Prop) : Prop :=
  ∀ (dp un : Nat) (gd : Option (List Code)) (cn : Str) (cs : Scope) (a : Addr) (ccd : Value) (cl : List (Str × Addr)) (outer : List Env) (A₀ : Around) (base h₀ : Heap) (L : Addr) (m : Str → Option Value) (news : List (Addr × Obj)) (s : Shared) (Q E : Value → Shared → Prop),
    Below A₀ base outer h₀ → Fr h₀ L s.heap m → (hd.heap_39 w.params).In h₀ → News h₀ L s.heap news → Top hd.view_39 (looseW hd.view_39 LS) mean mg mb h₀ → cs.kind = .function → pre base →
    dp + d < recursionLimit → un + 8 * d < cLine →
    (∀ v h' tk', R v → Fr h₀ L h' m → News h₀ L h' news → Q v { s with heap := h', toks := tk' }) →
    wpAny (model PySem.Challenge.rw_er0025_01.row.prog w) (ktrTop dp un gd cn cs L a ccd cl outer) (call (.ref f) vs) Q E s

end Mine
namespace Mine
/-- a goal that the walk leaves alone -/
def Stop (P : Prop) : Prop := P
theorem Stop.out {P : Prop} (h : Stop P) : P := h
theorem Stop.into {P : Prop} (h : P) : Stop P := h
end Mine

namespace Mine
def patIn (K : Frag) (a c : Addr) (code : Array Nat) (g : Nat) : Bool :=
  match K.lookup a, K.lookup c with
  | some ⟨.type t, none, .fields vs, _⟩, some ⟨_, _, .seq ws _, _⟩ => (match vs.toList with
      | [_, _, .int i 0, .none, .none, .ref c', .int 0 0] => t == "re.Pattern" && i == (g : Int) && c' == c && (ws.toList.map fun v => (Builtin.Re.reRawOf v).toNat) == code.toList
      | _ => false)
  | _, _ => false
theorem patIn_ok {K : Frag} {h : Heap} {a c : Addr} {code : Array Nat} {g : Nat} (X : K.In h) (e : patIn K a c code g = true) : IsPat h a code g := by
  unfold patIn at e
  split at e
  · rename_i t vs sl cls dict ws n sl' e1 e2
    split at e
    · rename_i pat fl i c' e3
      simp only [Bool.and_eq_true, beq_iff_eq] at e
      obtain ⟨⟨⟨h1, h2⟩, h3⟩, h4⟩ := e
      subst h1 h2 h3
      refine ⟨_, _, pat, fl, _, ws, n, X _ _ e1, rfl, rfl, ?_, X _ _ e2, rfl, ?_⟩
      · show Data.fields vs = _
        congr 1
        apply Array.toList_inj.mp
        rw [e3]; rfl
      · apply Array.toList_inj.mp
        rw [← h4]; simp
    · cases e
  · cases e
section
variable {w : World} {h : Heap}
theorem pat_D (X : (hd.heap_39 w.params).In h) : IsPat h 145 codeD 1 := patIn_ok (c := 144) X (by kernel_rfl)
theorem pat_B (X : (hd.heap_39 w.params).In h) : IsPat h 150 codeB 0 := patIn_ok (c := 149) X (by kernel_rfl)
theorem pat_H (X : (hd.heap_39 w.params).In h) : IsPat h 155 codeH 0 := patIn_ok (c := 154) X (by kernel_rfl)
theorem pat_O (X : (hd.heap_39 w.params).In h) : IsPat h 160 codeO 0 := patIn_ok (c := 159) X (by kernel_rfl)
theorem pat_C (X : (hd.heap_39 w.params).In h) : IsPat h 165 codeC 0 := patIn_ok (c := 164) X (by kernel_rfl)
end
end Mine

end

section -- part Led
set_option linter.unusedVariables false
open PySem PySem.W PyProof.Rows PySem.Calls
set_option maxRecDepth 100000
namespace Mine

/-- an entry of the closers: its tag, the pair, the two lists -/
structure CEnt where
  tag : Str
  t : Addr
  s : Addr
  e : Addr
  xs : List (Int × Tok)
  ys : List (Int × Tok)
  n₁ : Nat
  n₂ : Nat
def intsV (l : List (Int × Tok)) : Array Value := (l.map fun p => Value.int p.1 p.2).toArray
theorem intsV_push (l : List (Int × Tok)) (i : Int) (t : Tok) : (intsV l).push (.int i t) = intsV (l ++ [(i, t)]) := by simp [intsV]
def CEnt.objs (c : CEnt) : List (Addr × Obj) := [(c.t, tupObj [.ref c.s, .ref c.e]), (c.s, listOf (intsV c.xs) c.n₁), (c.e, listOf (intsV c.ys) c.n₂)]
def CEnt.adds (c : CEnt) : List Addr := [c.t, c.s, c.e]
/-- an entry of the openers: its place, the triple -/
structure OEnt where
  pos : Int
  t : Addr
  en : Int
  ek : Tok
  tag : Str
  tt : Tok
  ty : Addr
def OEnt.objs (o : OEnt) : List (Addr × Obj) := [(o.t, tupObj [.int o.en o.ek, .str o.tag o.tt, .ref o.ty])]
def kvsO (O : List OEnt) : List (Int × Value) := O.map fun o => (o.pos, Value.ref o.t)
def kvsC (C : List CEnt) : List (Str × Value) := C.map fun c => (c.tag, Value.ref c.t)
def Lg (oD : Addr) (oo : Obj) (cD : Addr) (oc : Obj) (C : List CEnt) (O : List OEnt) (Fz : List (Addr × Obj)) : List (Addr × Obj) :=
  (oD, oo) :: (cD, oc) :: (C.flatMap CEnt.objs ++ (O.flatMap OEnt.objs ++ Fz))
def AdL (oD cD : Addr) (C : List CEnt) (O : List OEnt) (Fz : List (Addr × Obj)) : List Addr := oD :: cD :: (C.flatMap CEnt.adds ++ (O.map (·.t) ++ Fz.map (·.1)))
theorem adL_eq (oD : Addr) (oo : Obj) (cD : Addr) (oc : Obj) (C : List CEnt) (O : List OEnt) (Fz : List (Addr × Obj)) : (Lg oD oo cD oc C O Fz).map (·.1) = AdL oD cD C O Fz := by
  have h1 : ∀ C : List CEnt, (C.flatMap CEnt.objs).map (·.1) = C.flatMap CEnt.adds := fun C => by
    induction C with
    | nil => rfl
    | cons c C ih => rw [List.flatMap_cons, List.flatMap_cons, List.map_append, ih]; rfl
  have h2 : ∀ O : List OEnt, (O.flatMap OEnt.objs).map (·.1) = O.map (·.t) := fun O => by
    induction O with
    | nil => rfl
    | cons c C ih => rw [List.flatMap_cons, List.map_append, ih]; rfl
  simp only [Lg, AdL, List.map_cons, List.map_append, h1, h2]

theorem upd_split {d : Addr} {o o' : Obj} : ∀ {pre post : List (Addr × Obj)}, (∀ p ∈ pre, p.1 ≠ d) → (∀ p ∈ post, p.1 ≠ d) → Upd d o o' (pre ++ (d, o) :: post) (pre ++ (d, o') :: post)
  | [], post, _, h2 => .head h2
  | p :: pre, post, h1, h2 => .tail (h1 p (.head _)) (upd_split (fun q hq => h1 q (.tail _ hq)) h2)
theorem updF_split {d : Addr} {o : Obj} : ∀ {pre post : List (Addr × Obj)}, (∀ p ∈ pre, p.1 ≠ d) → (∀ p ∈ post, p.1 ≠ d) → UpdF d o (pre ++ (d, o) :: post) (fun o' => pre ++ (d, o') :: post)
  | [], post, _, h2 => .head h2
  | p :: pre, post, h1, h2 => .tail (h1 p (.head _)) (updF_split (fun q hq => h1 q (.tail _ hq)) h2)
theorem nodup_split {pre post : List (Addr × Obj)} {d : Addr} {o : Obj} (h : ((pre ++ (d, o) :: post).map (·.1)).Nodup) : (∀ p ∈ pre, p.1 ≠ d) ∧ ∀ p ∈ post, p.1 ≠ d := by
  rw [List.map_append, List.map_cons, List.nodup_append] at h
  obtain ⟨_, h2, h3⟩ := h
  refine ⟨fun p hp e => ?_, fun p hp e => ?_⟩
  · exact h3 _ (List.mem_map_of_mem hp) _ (.head _) e
  · exact (List.nodup_cons.mp h2).1 (List.mem_map.mpr ⟨p, hp, e⟩)

section
variable {prog : Program} {w : World} {A : Around} {E : Value → Shared → Prop} {s : Shared} {h₀ : Heap} {L : Addr} {m : Str → Option Value} {G Fz : List (Addr × Obj)} {oD cD : Addr} {oo oc : Obj} {C : List CEnt} {O : List OEnt}

/-- two objects of a ledger that differ lie apart -/
theorem News.apart {news : List (Addr × Obj)} {h : Heap} (N : News h₀ L h news) {a b : Addr} {o o' : Obj} (ha : (a, o) ∈ news) (hb : (b, o') ∈ news) (hne : o ≠ o') : a ≠ b := by
  rintro rfl
  have h1 := (N _ ha).1
  have h2 := (N _ hb).1
  exact hne (Option.some.inj (h1.symm.trans h2))

theorem cls_ne {o o' : Obj} {a b : Value} (h1 : o.cls = a) (h2 : o'.cls = b) (h : a ≠ b) : o ≠ o' := by rintro rfl; exact h (h1.symm.trans h2)
theorem notList {g : Obj} {its : Array Value} {n : Nat} (h : g.cls ≠ .type "list") : g ≠ listOf its n := by rintro rfl; exact h rfl

theorem lg_split_s (pre post : List CEnt) (c : CEnt) : Lg oD oo cD oc (pre ++ c :: post) O Fz = ((oD, oo) :: (cD, oc) :: (pre.flatMap CEnt.objs ++ [(c.t, tupObj [.ref c.s, .ref c.e])])) ++ (c.s, listOf (intsV c.xs) c.n₁) :: ((c.e, listOf (intsV c.ys) c.n₂) :: (post.flatMap CEnt.objs ++ (O.flatMap OEnt.objs ++ Fz))) := by
  simp [Lg, List.flatMap_append, List.flatMap_cons, CEnt.objs]
theorem lg_split_e (pre post : List CEnt) (c : CEnt) : Lg oD oo cD oc (pre ++ c :: post) O Fz = ((oD, oo) :: (cD, oc) :: (pre.flatMap CEnt.objs ++ [(c.t, tupObj [.ref c.s, .ref c.e]), (c.s, listOf (intsV c.xs) c.n₁)])) ++ (c.e, listOf (intsV c.ys) c.n₂) :: (post.flatMap CEnt.objs ++ (O.flatMap OEnt.objs ++ Fz)) := by
  simp [Lg, List.flatMap_append, List.flatMap_cons, CEnt.objs]

theorem app_s {pre post : List CEnt} {c : CEnt} {i : Int} {tk : Tok} {Q : Value → Shared → Prop} (F : Fr h₀ L s.heap m) (N : News h₀ L s.heap (G ++ Lg oD oo cD oc (pre ++ c :: post) O Fz)) (hG : ∀ g ∈ G, g.2.cls ≠ .type "list")
    (hnd : (AdL oD cD (pre ++ c :: post) O Fz).Nodup) (hz : c.xs.length ≤ 1000)
    (h : ∀ h', Fr h₀ L h' m → News h₀ L h' (G ++ Lg oD oo cD oc (pre ++ { c with xs := c.xs ++ [(i, tk)], n₁ := c.n₁ + 1 } :: post) O Fz) → Q .none { s with heap := h' }) :
    wpAny (model prog w) A (call (.builtin "list.append") [.ref c.s, .int i tk]) Q E s := by
  rw [← adL_eq oD oo cD oc, lg_split_s] at hnd
  obtain ⟨n1, n2⟩ := nodup_split hnd
  have hm : (c.s, listOf (intsV c.xs) c.n₁) ∈ G ++ Lg oD oo cD oc (pre ++ c :: post) O Fz := by rw [lg_split_s]; exact List.mem_append_right _ (List.mem_append_right _ (.head _))
  have hg : ∀ g ∈ G, g.1 ≠ c.s := fun g hg => News.apart N (List.mem_append_left _ (by exact hg)) hm (notList (hG g hg))
  have e : ∀ c' : CEnt, c'.t = c.t → c'.s = c.s → c'.e = c.e → c'.ys = c.ys → c'.n₂ = c.n₂ → G ++ Lg oD oo cD oc (pre ++ c' :: post) O Fz = (G ++ ((oD, oo) :: (cD, oc) :: (pre.flatMap CEnt.objs ++ [(c.t, tupObj [.ref c.s, .ref c.e])]))) ++ (c.s, listOf (intsV c'.xs) c'.n₁) :: ((c.e, listOf (intsV c.ys) c.n₂) :: (post.flatMap CEnt.objs ++ (O.flatMap OEnt.objs ++ Fz))) := by
    intro c' e1 e2 e3 e4 e5
    rw [lg_split_s, e1, e2, e3, e4, e5, List.append_assoc]
  refine append_K (n := c.n₁) F (by rw [e c rfl rfl rfl rfl rfl] at N; exact N) (upd_split (fun p hp => ?_) n2) (fun h' F' N' => h h' F' ?_) ?_
  · rcases List.mem_append.mp hp with hp | hp
    · exact hg p hp
    · exact n1 p hp
  · rw [e { c with xs := c.xs ++ [(i, tk)], n₁ := c.n₁ + 1 } rfl rfl rfl rfl rfl]
    rw [intsV_push] at N'
    exact N'
  · rw [sizeLine_eq]; show (intsV c.xs).size ≤ _; unfold intsV; simp; omega
theorem app_e {pre post : List CEnt} {c : CEnt} {i : Int} {tk : Tok} {Q : Value → Shared → Prop} (F : Fr h₀ L s.heap m) (N : News h₀ L s.heap (G ++ Lg oD oo cD oc (pre ++ c :: post) O Fz)) (hG : ∀ g ∈ G, g.2.cls ≠ .type "list")
    (hnd : (AdL oD cD (pre ++ c :: post) O Fz).Nodup) (hz : c.ys.length ≤ 1000)
    (h : ∀ h', Fr h₀ L h' m → News h₀ L h' (G ++ Lg oD oo cD oc (pre ++ { c with ys := c.ys ++ [(i, tk)], n₂ := c.n₂ + 1 } :: post) O Fz) → Q .none { s with heap := h' }) :
    wpAny (model prog w) A (call (.builtin "list.append") [.ref c.e, .int i tk]) Q E s := by
  rw [← adL_eq oD oo cD oc, lg_split_e] at hnd
  obtain ⟨n1, n2⟩ := nodup_split hnd
  have hm : (c.e, listOf (intsV c.ys) c.n₂) ∈ G ++ Lg oD oo cD oc (pre ++ c :: post) O Fz := by rw [lg_split_e]; exact List.mem_append_right _ (List.mem_append_right _ (.head _))
  have hg : ∀ g ∈ G, g.1 ≠ c.e := fun g hg => News.apart N (List.mem_append_left _ (by exact hg)) hm (notList (hG g hg))
  have e : ∀ c' : CEnt, c'.t = c.t → c'.s = c.s → c'.e = c.e → c'.xs = c.xs → c'.n₁ = c.n₁ → G ++ Lg oD oo cD oc (pre ++ c' :: post) O Fz = (G ++ ((oD, oo) :: (cD, oc) :: (pre.flatMap CEnt.objs ++ [(c.t, tupObj [.ref c.s, .ref c.e]), (c.s, listOf (intsV c.xs) c.n₁)]))) ++ (c.e, listOf (intsV c'.ys) c'.n₂) :: (post.flatMap CEnt.objs ++ (O.flatMap OEnt.objs ++ Fz)) := by
    intro c' e1 e2 e3 e4 e5
    rw [lg_split_e, e1, e2, e3, e4, e5, List.append_assoc]
  refine append_K (n := c.n₂) F (by rw [e c rfl rfl rfl rfl rfl] at N; exact N) (upd_split (fun p hp => ?_) n2) (fun h' F' N' => h h' F' ?_) ?_
  · rcases List.mem_append.mp hp with hp | hp
    · exact hg p hp
    · exact n1 p hp
  · rw [e { c with ys := c.ys ++ [(i, tk)], n₂ := c.n₂ + 1 } rfl rfl rfl rfl rfl]
    rw [intsV_push] at N'
    exact N'
  · rw [sizeLine_eq]; show (intsV c.ys).size ≤ _; unfold intsV; simp; omega

theorem dict_cls {K : Type} [DecidableEq K] {knd : KeyKind prog w K} {o : Obj} {kvs : List (K × Value)} (h : o.IsDictOf knd kvs) : ∃ es ep, o.data = .dict es ep := let ⟨es, ep, _, h, _⟩ := h; ⟨es, ep, h⟩
theorem notDict {K : Type} [DecidableEq K] {knd : KeyKind prog w K} {g o : Obj} {kvs : List (K × Value)} (h : o.IsDictOf knd kvs) (hg : ∀ es ep, g.data ≠ .dict es ep) : g ≠ o := by
  rintro rfl
  obtain ⟨es, ep, e⟩ := dict_cls h
  exact hg es ep e

theorem set_open {t : Addr} {p en : Int} {pk ek tt : Tok} {tag : Str} {ty : Addr} {Q : Unit → Shared → Prop} (F : Fr h₀ L s.heap m)
    (N : News h₀ L s.heap (G ++ (t, tupObj [.int en ek, .str tag tt, .ref ty]) :: Lg oD oo cD oc C O Fz)) (hG : ∀ g ∈ G, ∀ es ep, g.2.data ≠ .dict es ep)
    (hnd : (AdL oD cD C O Fz).Nodup) (hoo : oo.IsDictOf (intKind prog w) (kvsO O)) (hz : O.length ≤ 1000) (hp : ∀ o ∈ O, o.pos ≠ p)
    (h : ∀ h' oo', Fr h₀ L h' m → News h₀ L h' (G ++ Lg oD oo' cD oc C (O ++ [⟨p, t, en, ek, tag, tt, ty⟩]) Fz) → oo'.IsDictOf (intKind prog w) (kvsO (O ++ [⟨p, t, en, ek, tag, tt, ty⟩])) → Q () { s with heap := h', toks := s.toks + 1 }) :
    wpAny (model prog w) A (setItem (.ref oD) (.int p pk) (.ref t)) Q E s := by
  rw [← adL_eq oD oo cD oc] at hnd
  obtain ⟨_, n2⟩ := nodup_split (pre := []) hnd
  have hm : (oD, oo) ∈ G ++ (t, tupObj [.int en ek, .str tag tt, .ref ty]) :: Lg oD oo cD oc C O Fz := List.mem_append_right _ (.tail _ (.head _))
  have hg : ∀ g ∈ G, g.1 ≠ oD := fun g hg => News.apart N (List.mem_append_left _ (by exact hg)) hm (notDict hoo (hG g hg))
  have ht : t ≠ oD := News.apart N (List.mem_append_right _ (.head _)) hm (notDict hoo (by intro es ep h; cases h))
  have eN : G ++ (t, tupObj [.int en ek, .str tag tt, .ref ty]) :: Lg oD oo cD oc C O Fz = (G ++ [(t, tupObj [.int en ek, .str tag tt, .ref ty])]) ++ (oD, oo) :: ((cD, oc) :: (C.flatMap CEnt.objs ++ (O.flatMap OEnt.objs ++ Fz))) := by simp [Lg]
  rw [eN] at N
  have est : stored (kvsO O) p (.ref t) = kvsO (O ++ [⟨p, t, en, ek, tag, tt, ty⟩]) := by
    unfold stored
    rw [if_neg]
    · simp [kvsO]
    · rw [List.any_eq_true]
      rintro ⟨kv, hkv, e⟩
      obtain ⟨o, ho, rfl⟩ := List.mem_map.mp hkv
      exact hp o ho (by simpa using e)
  refine kda_set (knd := intKind prog w) F N (updF_split (fun q hq => ?_) n2) hoo (intKind_is _ _ _ _) ?_ (fun h' oo' F' N' hd' => ?_)
  · rcases List.mem_append.mp hq with hq | hq
    · exact hg q hq
    · cases hq with
      | head => exact ht
      | tail _ hq => cases hq
  · rw [sizeLine_eq]; unfold kvsO; rw [List.length_map]; omega
  · rw [est] at hd'
    refine h h' oo' F' (fun q hq => N' q ?_) hd'
    simp only [Lg, List.flatMap_append, List.flatMap_cons, List.flatMap_nil, OEnt.objs, List.mem_append, List.mem_cons, List.append_nil] at hq ⊢
    grind
theorem setdef {t l1 l2 : Addr} {tag : Str} {tk : Tok} {Q : Value → Shared → Prop} (F : Fr h₀ L s.heap m)
    (N : News h₀ L s.heap (G ++ (t, tupObj [.ref l1, .ref l2]) :: (l2, listOf #[] 0) :: (l1, listOf #[] 0) :: Lg oD oo cD oc C O Fz)) (hG : ∀ g ∈ G, ∀ es ep, g.2.data ≠ .dict es ep)
    (hnd : (AdL oD cD C O Fz).Nodup) (hoc : oc.IsDictOf (strKind prog w) (kvsC C)) (lo : (cD == sysModules) = false) (hz : C.length ≤ 1000)
    (hthere : ∀ pre c post, C = pre ++ c :: post → c.tag = tag → News h₀ L s.heap (G ++ Lg oD oo cD oc C O Fz) → Q (.ref c.t) { s with toks := s.toks + 1 })
    (hnew : (∀ c ∈ C, c.tag ≠ tag) → ∀ h' oc', Fr h₀ L h' m → News h₀ L h' (G ++ Lg oD oo cD oc' (C ++ [⟨tag, t, l1, l2, [], [], 0, 0⟩]) O Fz) → oc'.IsDictOf (strKind prog w) (kvsC (C ++ [⟨tag, t, l1, l2, [], [], 0, 0⟩])) → Q (.ref t) { s with heap := h', toks := s.toks + 1 }) :
    wpAny (model prog w) A (call (.builtin "dict.setdefault") [.ref cD, .str tag tk, .ref t]) Q E s := by
  have hm : (cD, oc) ∈ G ++ (t, tupObj [.ref l1, .ref l2]) :: (l2, listOf #[] 0) :: (l1, listOf #[] 0) :: Lg oD oo cD oc C O Fz := List.mem_append_right _ (.tail _ (.tail _ (.tail _ (.tail _ (.head _)))))
  have hz' : (kvsC C).length ≤ sizeLine := by rw [sizeLine_eq]; unfold kvsC; rw [List.length_map]; omega
  by_cases hin : ∃ c ∈ C, c.tag = tag
  · obtain ⟨c, hc, htag⟩ := hin
    obtain ⟨pre, post, e⟩ := List.append_of_mem hc
    obtain ⟨_, _, _, _, _, _, hkn⟩ := id hoc
    have hv : valueAt (kvsC C) tag = some (.ref c.t) := by
      obtain ⟨i, hi, hic⟩ := List.getElem_of_mem hc
      refine valueAt_of_get (i := i) hkn ?_
      unfold kvsC
      rw [List.getElem?_map, List.getElem?_eq_getElem hi, hic, ← htag]; rfl
    refine kob_setdef_there (knd := strKind prog w) N hm hoc lo (strKind_is _ _ _ _) (PySem.F.args_dict_setdefault_3 _ _ _) hv hz' ?_
    refine hthere pre c post e htag (fun q hq => N q ?_)
    rcases List.mem_append.mp hq with hq | hq
    · exact List.mem_append_left _ hq
    · exact List.mem_append_right _ (.tail _ (.tail _ (.tail _ hq)))
  · have hn : ∀ c ∈ C, c.tag ≠ tag := fun c hc e => hin ⟨c, hc, e⟩
    have hv : valueAt (kvsC C) tag = none := by
      unfold valueAt
      rw [Option.map_eq_none_iff, List.find?_eq_none]
      intro kv hkv
      obtain ⟨c, hc, rfl⟩ := List.mem_map.mp hkv
      simpa using hn c hc
    have est : stored (kvsC C) tag (.ref t) = kvsC (C ++ [⟨tag, t, l1, l2, [], [], 0, 0⟩]) := by
      unfold stored
      rw [if_neg]
      · simp [kvsC]
      · rw [List.any_eq_true]
        rintro ⟨kv, hkv, e⟩
        obtain ⟨c, hc, rfl⟩ := List.mem_map.mp hkv
        exact hn c hc (by simpa using e)
    rw [← adL_eq oD oo cD oc] at hnd
    obtain ⟨n1, n2⟩ := nodup_split (pre := [(oD, oo)]) hnd
    have hg : ∀ g ∈ G, g.1 ≠ cD := fun g hg => News.apart N (List.mem_append_left _ (by exact hg)) hm (notDict hoc (hG g hg))
    have eN : G ++ (t, tupObj [.ref l1, .ref l2]) :: (l2, listOf #[] 0) :: (l1, listOf #[] 0) :: Lg oD oo cD oc C O Fz = (G ++ [(t, tupObj [.ref l1, .ref l2]), (l2, listOf #[] 0), (l1, listOf #[] 0), (oD, oo)]) ++ (cD, oc) :: (C.flatMap CEnt.objs ++ (O.flatMap OEnt.objs ++ Fz)) := by simp [Lg]
    have h1 : t ≠ cD := News.apart N (List.mem_append_right _ (.head _)) hm (notDict hoc (by intro es ep h; cases h))
    have h2 : l2 ≠ cD := News.apart N (List.mem_append_right _ (.tail _ (.head _))) hm (notDict hoc (by intro es ep h; cases h))
    have h3 : l1 ≠ cD := News.apart N (List.mem_append_right _ (.tail _ (.tail _ (.head _)))) hm (notDict hoc (by intro es ep h; cases h))
    rw [eN] at N
    refine kob_setdef_new (knd := strKind prog w) F N (updF_split (fun q hq => ?_) n2) hoc lo (strKind_is _ _ _ _) (PySem.F.args_dict_setdefault_3 _ _ _) hv hz' (fun h' oc' F' N' hd' => ?_)
    · rcases List.mem_append.mp hq with hq | hq
      · exact hg q hq
      · simp only [List.mem_cons, List.not_mem_nil, or_false] at hq
        rcases hq with rfl | rfl | rfl | rfl
        · exact h1
        · exact h2
        · exact h3
        · exact n1 _ (.head _)
    · rw [est] at hd'
      refine hnew hn h' oc' F' (fun q hq => N' q ?_) hd'
      have e0 : intsV [] = #[] := rfl
      simp only [Lg, List.flatMap_append, List.flatMap_cons, List.flatMap_nil, CEnt.objs, List.mem_append, List.mem_cons, List.append_nil, List.not_mem_nil, or_false, e0] at hq ⊢
      grind
end
end Mine

end

section -- part FBase
set_option linter.unusedVariables false
open PySem PySem.W PyProof.Rows PySem.Calls PySem.Spec
set_option maxRecDepth 100000
namespace Mine
noncomputable def bodyF : List Stmt := match defOf hd.view_39 (Str.ofString "find_delimited_spans") with | some (d, _) => d.body | none => []
noncomputable def scopeF : Scope := match defOf hd.view_39 (Str.ofString "find_delimited_spans") with | some (d, _) => d.scope | none => { kind := .function, names := [], isGenerator := false, isCoroutine := false }
def ifBody : Option Stmt → List Stmt
  | some (.If _ b _ _) => b
  | _ => []
def forBody : Option Stmt → List Stmt
  | some (.For _ _ b _ _) => b
  | _ => []
noncomputable def loopD : List Stmt := forBody (ifBody bodyF[5]?)[0]?
noncomputable def loopH : List Stmt := forBody (ifBody bodyF[6]?)[0]?
noncomputable def loopO : List Stmt := forBody (ifBody bodyF[6]?)[1]?
noncomputable def loopC : List Stmt := forBody (ifBody bodyF[6]?)[3]?
noncomputable def envF (L : Addr) (cd : Value) : Env := envOf (Str.ofString "find_delimited_spans") scopeF L 207 cd

/-- what the ledger's closers say, and the openers -/
def cv (C : List CEnt) : List (Str × List Int × List Int) := C.map fun c => (c.tag, c.xs.map (·.1), c.ys.map (·.1))
def ov (O : List OEnt) : List (Int × Int × Str × Addr) := O.map fun o => (o.pos, o.en, o.tag, o.ty)
def put (V : List (Str × List Int × List Int)) (tag : Str) (j e : Int) : List (Str × List Int × List Int) :=
  if V.any (fun v => v.1 = tag) then V.map (fun v => if v.1 = tag then (v.1, v.2.1 ++ [j], v.2.2 ++ [e]) else v) else V ++ [(tag, [j], [e])]

section
variable {prog : Program} {w : World} {A : Around} {E : Value → Shared → Prop} {s : Shared} {h₀ : Heap} {L : Addr} {m : Str → Option Value} {news : List (Addr × Obj)}
theorem newTup_F {M : Model} {vs : List Value} {Q : Value → Shared → Prop} (F : Fr h₀ L s.heap m) (N : News h₀ L s.heap news)
    (h : ∀ t h', Fr h₀ L h' m → News h₀ L h' ((t, tupObj vs) :: news) → (∀ p ∈ news, p.1 ≠ t) → Q (.ref t) { s with heap := h' }) (hsz : vs.length ≤ sizeLine) : wpAny M A (newTuple vs) Q E s :=
  newTuple_N F N (fun h' F' N' => h _ h' F' N' fun p hp => Nat.ne_of_lt (News.lt N p hp)) hsz
theorem newLst_F {M : Model} {vs : List Value} {Q : Value → Shared → Prop} (F : Fr h₀ L s.heap m) (N : News h₀ L s.heap news)
    (h : ∀ t h', Fr h₀ L h' m → News h₀ L h' ((t, listOf vs.toArray 0) :: news) → (∀ p ∈ news, p.1 ≠ t) → Q (.ref t) { s with heap := h' }) (hsz : vs.length ≤ sizeLine) : wpAny M A (newList vs) Q E s :=
  newList_K F N (fun l h' F' N' h1 => h l h' F' N' fun p hp => Nat.ne_of_lt (h1 p hp)) hsz
variable {str pat : Value} {pos lim : Nat} {li : Int} {mt sp : Addr}
theorem call_start2 {a0 : Int} {r : List Int} {Q : Value → Shared → Prop} (hm : s.heap.get? mt = some (matchObj str pat pos lim li sp)) (hs : s.heap.get? sp = some (tupObj ((a0 :: r).map rawInt)))
    (h : Q (.int a0 s.toks) { s with toks := s.toks + 1 }) : wpAny (model prog w) A (call (.builtin "re.Match.start") [.ref mt]) Q E s := call_start hm hs rfl h
theorem call_end2 {a0 b0 : Int} {r : List Int} {Q : Value → Shared → Prop} (hm : s.heap.get? mt = some (matchObj str pat pos lim li sp)) (hs : s.heap.get? sp = some (tupObj ((a0 :: b0 :: r).map rawInt)))
    (h : Q (.int b0 s.toks) { s with toks := s.toks + 1 }) : wpAny (model prog w) A (call (.builtin "re.Match.end") [.ref mt]) Q E s := call_end hm hs rfl h
theorem call_group2 {x tg : Str} {tk tk2 : Tok} {a0 b0 : Int} {b e : Nat} {Q : Value → Shared → Prop} (hm : s.heap.get? mt = some (matchObj (.str x tk) pat pos lim li sp)) (hs : s.heap.get? sp = some (tupObj ([a0, b0, (b : Int), (e : Int)].map rawInt)))
    (hx : x.cps.size ≤ 1000000) (ht : (⟨x.cps.extract b e⟩ : Str) = tg) (h : Q (.str tg s.toks) { s with toks := s.toks + 1 }) : wpAny (model prog w) A (call (.builtin "re.Match.group") [.ref mt, .int 1 tk2]) Q E s := call_group hm hs hx (by rw [ht]; exact h)
end

theorem put_old {pre post : List CEnt} {c : CEnt} {j e : Int} (hn : ((pre ++ c :: post).map (·.tag)).Nodup) {c' : CEnt} (h1 : c'.tag = c.tag) (h2 : c'.xs.map (·.1) = c.xs.map (·.1) ++ [j]) (h3 : c'.ys.map (·.1) = c.ys.map (·.1) ++ [e]) :
    cv (pre ++ c' :: post) = put (cv (pre ++ c :: post)) c.tag j e := by
  have hin : (cv (pre ++ c :: post)).any (fun v => v.1 = c.tag) = true := by
    rw [List.any_eq_true]
    exact ⟨(c.tag, c.xs.map (·.1), c.ys.map (·.1)), List.mem_map.mpr ⟨c, by simp, rfl⟩, by simp⟩
  unfold put
  rw [if_pos hin]
  rw [List.map_append, List.map_cons, List.nodup_append] at hn
  obtain ⟨_, h4, h5⟩ := hn
  have h6 := (List.nodup_cons.mp h4).1
  have k1 : ∀ l : List CEnt, (∀ d ∈ l, d.tag ≠ c.tag) → (cv l).map (fun v => if v.1 = c.tag then (v.1, v.2.1 ++ [j], v.2.2 ++ [e]) else v) = cv l := fun l hl => by
    unfold cv
    rw [List.map_map]
    refine List.map_congr_left fun d hd => ?_
    show (if d.tag = c.tag then _ else _) = _
    rw [if_neg (hl d hd)]
  have e1 : ∀ d : CEnt, cv (pre ++ d :: post) = cv pre ++ (d.tag, d.xs.map (·.1), d.ys.map (·.1)) :: cv post := fun d => by unfold cv; rw [List.map_append, List.map_cons]
  rw [e1, e1, List.map_append, List.map_cons, k1 pre (fun d hd q => h5 _ (List.mem_map_of_mem hd) _ (.head _) q), k1 post (fun d hd q => h6 (q ▸ List.mem_map_of_mem (f := (·.tag)) hd)), h1, h2, h3]
  show _ = cv pre ++ (if c.tag = c.tag then _ else _) :: cv post
  rw [if_pos rfl]
theorem put_new {C : List CEnt} {c' : CEnt} {j e : Int} (hn : ∀ c ∈ C, c.tag ≠ c'.tag) (h2 : c'.xs.map (·.1) = [j]) (h3 : c'.ys.map (·.1) = [e]) : cv (C ++ [c']) = put (cv C) c'.tag j e := by
  unfold put
  rw [if_neg]
  · unfold cv; rw [List.map_append, List.map_cons, List.map_nil, h2, h3]
  · rw [List.any_eq_true]
    rintro ⟨v, hv, q⟩
    obtain ⟨c, hc, rfl⟩ := List.mem_map.mp hv
    exact hn c hc (by simpa using q)
theorem adL_new {oD cD : Addr} {C : List CEnt} {O : List OEnt} {Fz : List (Addr × Obj)} {c : CEnt} (h : (AdL oD cD C O Fz).Nodup) (h1 : c.t ∉ AdL oD cD C O Fz) (h2 : c.s ∉ AdL oD cD C O Fz) (h3 : c.e ∉ AdL oD cD C O Fz) (h4 : c.t ≠ c.s) (h5 : c.t ≠ c.e) (h6 : c.s ≠ c.e) :
    (AdL oD cD (C ++ [c]) O Fz).Nodup := by
  have hp : (AdL oD cD (C ++ [c]) O Fz).Perm (c.t :: c.s :: c.e :: AdL oD cD C O Fz) := by
    have e1 : AdL oD cD (C ++ [c]) O Fz = (oD :: cD :: C.flatMap CEnt.adds) ++ ([c.t, c.s, c.e] ++ (O.map (·.t) ++ Fz.map (·.1))) := by
      simp [AdL, List.flatMap_append, CEnt.adds]
    have e2 : c.t :: c.s :: c.e :: AdL oD cD C O Fz = [c.t, c.s, c.e] ++ ((oD :: cD :: C.flatMap CEnt.adds) ++ (O.map (·.t) ++ Fz.map (·.1))) := by
      simp [AdL]
    rw [e1, e2]
    generalize (oD :: cD :: C.flatMap CEnt.adds) = a
    generalize (O.map (·.t) ++ Fz.map (·.1)) = b
    rw [← List.append_assoc, ← List.append_assoc]
    exact List.Perm.append_right _ List.perm_append_comm
  rw [hp.nodup_iff]
  simp only [List.nodup_cons, List.mem_cons]
  exact ⟨fun q => q.elim h4 fun q => q.elim h5 h1, fun q => q.elim h6 h2, h3, h⟩
theorem adL_newO {oD cD : Addr} {C : List CEnt} {O : List OEnt} {Fz : List (Addr × Obj)} {o : OEnt} (h : (AdL oD cD C O Fz).Nodup) (h1 : o.t ∉ AdL oD cD C O Fz) : (AdL oD cD C (O ++ [o]) Fz).Nodup := by
  have hp : (AdL oD cD C (O ++ [o]) Fz).Perm (o.t :: AdL oD cD C O Fz) := by
    have e1 : AdL oD cD C (O ++ [o]) Fz = (oD :: cD :: (C.flatMap CEnt.adds ++ O.map (·.t))) ++ ([o.t] ++ Fz.map (·.1)) := by simp [AdL]
    have e2 : o.t :: AdL oD cD C O Fz = [o.t] ++ ((oD :: cD :: (C.flatMap CEnt.adds ++ O.map (·.t))) ++ Fz.map (·.1)) := by simp [AdL]
    rw [e1, e2, ← List.append_assoc, ← List.append_assoc]
    exact List.Perm.append_right _ List.perm_append_comm
  rw [hp.nodup_iff]
  exact List.nodup_cons.mpr ⟨h1, h⟩
theorem adL_of_news {oD cD : Addr} {oo oc : Obj} {C : List CEnt} {O : List OEnt} {Fz news : List (Addr × Obj)} (hs : ∀ q ∈ Lg oD oo cD oc C O Fz, q ∈ news) {t : Addr} (h : ∀ p ∈ news, p.1 ≠ t) : t ∉ AdL oD cD C O Fz := by
  rw [← adL_eq oD oo cD oc]
  intro q
  obtain ⟨p, hp, e⟩ := List.mem_map.mp q
  exact h p (hs p hp) e
theorem adL_upd {oD cD : Addr} {pre post : List CEnt} {O : List OEnt} {Fz : List (Addr × Obj)} {c c' : CEnt} (h1 : c'.t = c.t) (h2 : c'.s = c.s) (h3 : c'.e = c.e) : AdL oD cD (pre ++ c' :: post) O Fz = AdL oD cD (pre ++ c :: post) O Fz := by
  unfold AdL
  simp only [List.flatMap_append, List.flatMap_cons, CEnt.adds, h1, h2, h3]

def Small (C : List CEnt) (O : List OEnt) : Prop := (∀ c ∈ C, c.xs.length ≤ 1000 ∧ c.ys.length ≤ 1000) ∧ C.length ≤ 1000 ∧ O.length ≤ 1000

section
variable {prog : Program} {w : World} {A : Around} {E : Value → Shared → Prop} {s : Shared} {h₀ : Heap} {L : Addr} {m : Str → Option Value} {G Fz : List (Addr × Obj)} {oD cD : Addr} {oo oc : Obj} {C : List CEnt} {O : List OEnt}
theorem tags_nodup {o : Obj} (h : o.IsDictOf (strKind prog w) (kvsC C)) : (C.map (·.tag)).Nodup := by
  obtain ⟨_, _, _, _, _, _, hn⟩ := h
  have e : (kvsC C).map (·.1) = C.map (·.tag) := by unfold kvsC; rw [List.map_map]; rfl
  rw [← e]; exact hn
/-- setdefault, both ways in one -/
theorem setdef1 {t l1 l2 : Addr} {tag : Str} {tk : Tok} {Q : Value → Shared → Prop} (F : Fr h₀ L s.heap m)
    (N : News h₀ L s.heap (G ++ (t, tupObj [.ref l1, .ref l2]) :: (l2, listOf #[] 0) :: (l1, listOf #[] 0) :: Lg oD oo cD oc C O Fz)) (hG : ∀ g ∈ G, ∀ es ep, g.2.data ≠ .dict es ep)
    (hnd : (AdL oD cD C O Fz).Nodup) (hoc : oc.IsDictOf (strKind prog w) (kvsC C)) (lo : (cD == sysModules) = false) (hz : Small C O)
    (f1 : l1 ∉ AdL oD cD C O Fz) (f2 : l2 ∉ AdL oD cD C O Fz) (f3 : t ∉ AdL oD cD C O Fz) (f4 : l1 ≠ l2) (f5 : t ≠ l1) (f6 : t ≠ l2)
    (h : ∀ h' oc' pre c post, Fr h₀ L h' m → News h₀ L h' (G ++ Lg oD oo cD oc' (pre ++ c :: post) O Fz) → oc'.IsDictOf (strKind prog w) (kvsC (pre ++ c :: post)) → (AdL oD cD (pre ++ c :: post) O Fz).Nodup → c.tag = tag → c.xs.length ≤ 1000 → c.ys.length ≤ 1000 →
      ((C = pre ++ c :: post) ∨ ((∀ c ∈ C, c.tag ≠ tag) ∧ pre = C ∧ post = [] ∧ c.xs = [] ∧ c.ys = [])) → Q (.ref c.t) { s with heap := h', toks := s.toks + 1 }) :
    wpAny (model prog w) A (call (.builtin "dict.setdefault") [.ref cD, .str tag tk, .ref t]) Q E s := by
  refine setdef F N hG hnd hoc lo hz.2.1 (fun pre c post e ht N' => ?_) (fun hn h' oc' F' N' hoc' => ?_)
  · have := hz.1 c (by rw [e]; simp)
    exact h s.heap oc pre c post F (by rw [← e]; exact N') (by rw [← e]; exact hoc) (by rw [← e]; exact hnd) ht this.1 this.2 (.inl e)
  · exact h h' oc' C _ [] F' N' hoc' (adL_new hnd f3 f1 f2 f5 f6 f4) rfl (by simp) (by simp) (.inr ⟨hn, rfl, rfl, rfl, rfl⟩)
theorem put_both {pre post : List CEnt} {c c' : CEnt} {o : Obj} {j e : Int} (hoc : o.IsDictOf (strKind prog w) (kvsC (pre ++ c :: post))) (hb : (C = pre ++ c :: post) ∨ ((∀ d ∈ C, d.tag ≠ c.tag) ∧ pre = C ∧ post = [] ∧ c.xs = [] ∧ c.ys = []))
    (h1 : c'.tag = c.tag) (h2 : c'.xs.map (·.1) = c.xs.map (·.1) ++ [j]) (h3 : c'.ys.map (·.1) = c.ys.map (·.1) ++ [e]) : cv (pre ++ c' :: post) = put (cv C) c.tag j e := by
  rcases hb with rfl | ⟨hn, rfl, rfl, e1, e2⟩
  · exact put_old (tags_nodup hoc) h1 h2 h3
  · rw [← h1]
    exact put_new (fun d hd => by rw [h1]; exact hn d hd) (by rw [h2, e1]; rfl) (by rw [h3, e2]; rfl)
end
end Mine

end

section -- part Loop
set_option linter.unusedVariables false
open PySem PySem.W PyProof.Rows PySem.Calls PySem.Spec
open PySem.Builtin.Re
set_option maxRecDepth 100000
namespace Mine

/-- the places of a text where P holds, in order -/
def places (n : Nat) (P : Nat → Prop) [DecidablePred P] : List Nat := (List.range n).filter fun i => decide (P i)
section
variable {n : Nat} {P : Nat → Prop} [DecidablePred P]
theorem places_sorted : (places n P).Pairwise (· < ·) := List.Pairwise.filter _ List.pairwise_lt_range
theorem mem_places {j : Nat} : j ∈ places n P ↔ j < n ∧ P j := by unfold places; simp
theorem places_split {done rs : List Nat} {s : Nat} (h : places n P = done ++ s :: rs) : s < n ∧ P s ∧ (∀ d ∈ done, d < s) ∧ ∀ j, j < s → P j → j ∈ done := by
  have hs := places_sorted (n := n) (P := P)
  rw [h, List.pairwise_append] at hs
  have h1 : s ∈ places n P := by rw [h]; simp
  obtain ⟨h2, h3⟩ := mem_places.mp h1
  refine ⟨h2, h3, fun d hd => hs.2.2 d hd s (.head _), fun j hj hP => ?_⟩
  have h4 : j ∈ done ++ s :: rs := by rw [← h]; exact mem_places.mpr ⟨by omega, hP⟩
  rcases List.mem_append.mp h4 with h4 | h4
  · exact h4
  · rcases List.mem_cons.mp h4 with rfl | h4
    · omega
    · have := (List.pairwise_cons.mp hs.2.1).1 j h4; omega
theorem places_last {done rs : List Nat} {d : Nat} (h : places n P = done ++ [d] ++ rs) : d < n ∧ P d ∧ ∀ e ∈ done ++ [d], e ≤ d := by
  have hs := places_sorted (n := n) (P := P)
  rw [h, List.pairwise_append] at hs
  have hs1 := List.pairwise_append.mp hs.1
  have h1 : d ∈ places n P := by rw [h]; simp
  obtain ⟨h2, h3⟩ := mem_places.mp h1
  refine ⟨h2, h3, fun e he => ?_⟩
  rcases List.mem_append.mp he with he | he
  · exact Nat.le_of_lt (hs1.2.2 e he d (.head _))
  · simp at he; omega
end

/-- where the scanner stands after the places done -/
def nextAt (nx : Nat → Nat) (mu : Bool) (done : List Nat) : Nat × Bool := match done.getLast? with
  | none => (0, false)
  | some d => (nx d, mu)

structure Pat (x : Str) (code : Array Nat) (g : Nat) (P : Nat → Prop) [DecidablePred P] (nx : Nat → Nat) (mu : Bool) (spans : Nat → List Int) where
  Fnd : Nat → Sre.M → Prop
  matched : ∀ s m', Fnd s m' → m'.outcome = some .matched ∧ m'.handed = nx s ∧ (m'.handed == m'.start) = mu
  found : ∀ done s rs, places x.cps.size P = done ++ s :: rs → Ev bigK (Fnd s) (Sre.forSearch code x.cps g (nextAt nx mu done).1 x.cps.size (nextAt nx mu done).2)
  none : ∀ done, places x.cps.size P = done → Ev bigK (fun m => m.outcome = some .failed) (Sre.forSearch code x.cps g (nextAt nx mu done).1 x.cps.size (nextAt nx mu done).2)
  fresh : ∀ (s : Nat) (m' : Sre.M), Fnd s m' → ∀ {M : Model} {A : Around} {E : Value → Shared → Prop} {st : Shared} {h₀ : Heap} {L : Addr} {m : Str → Option Value} {news : List (Addr × Obj)} {a : Addr} {tk : Tok} {Q : Value → Shared → Prop}, Fr h₀ L st.heap m → News h₀ L st.heap news →
    (∀ mt sp h', Fr h₀ L h' m → News h₀ L h' ((mt, matchObj (.str x tk) (.ref a) 0 x.cps.size m'.lastindex sp) :: (sp, tupObj ((spans s).map rawInt)) :: news) → mt ≠ sp → (∀ p ∈ news, p.1 ≠ mt ∧ p.1 ≠ sp) → Q (.ref mt) { st with heap := h' }) →
    wpAny M A (reNewMatch (.ref a) (.str x tk) g 0 x.cps.size m') Q E st

def FzOf (a : Addr) (x : Str) (tk : Tok) (sc bm it : Addr) (pm : Nat × Bool) : List (Addr × Obj) := [(sc, ScObj a x tk pm.1 pm.2), (bm, bmObj sc), (it, itObj bm)]

section
variable {prog : Program} {w : World} {A : Around} {x : Str} {code : Array Nat} {g : Nat} {P : Nat → Prop} [DecidablePred P] {nx : Nat → Nat} {mu : Bool} {spans : Nat → List Int}
  {h₀ : Heap} {L a sc bm it : Addr} {tk : Tok} {st : Shared} {m : Str → Option Value} {led : List (Addr × Obj)}

theorem nd_apart {led : List (Addr × Obj)} {l : List Addr} {Fz : List (Addr × Obj)} (h : ((led ++ Fz).map (·.1)).Nodup) : (∀ q ∈ led, ∀ p ∈ Fz, q.1 ≠ p.1) := fun q hq p hp e => by
  rw [List.map_append, List.nodup_append] at h
  exact h.2.2 _ (List.mem_map_of_mem hq) _ (List.mem_map_of_mem hp) e

theorem N_step (pt : Pat x code g P nx mu spans) (hu : A.units + 3 < cLine) (hP : IsPat h₀ a code g) {done rs : List Nat} {s : Nat} (hs : places x.cps.size P = done ++ s :: rs)
    (F : Fr h₀ L st.heap m) (N : News h₀ L st.heap (led ++ FzOf a x tk sc bm it (nextAt nx mu done))) (hnd : ((led ++ FzOf a x tk sc bm it (nextAt nx mu done)).map (·.1)).Nodup) {R : Option Value → Shared → Prop}
    (h : ∀ mt sp li h', Fr h₀ L h' m → News h₀ L h' ((mt, matchObj (.str x tk) (.ref a) 0 x.cps.size li sp) :: (sp, tupObj ((spans s).map rawInt)) :: (led ++ FzOf a x tk sc bm it (nextAt nx mu (done ++ [s])))) → R (some (.ref mt)) { st with heap := h' }) :
    wpN (modelA prog w) A (pyNext (.ref it)) R st := by
  have hap := nd_apart (l := []) hnd
  have hfz : ((FzOf a x tk sc bm it (nextAt nx mu done)).map (·.1)).Nodup := by rw [List.map_append, List.nodup_append] at hnd; exact hnd.2.1
  have e1 : bm ≠ sc ∧ it ≠ sc := by
    simp only [FzOf, List.map_cons, List.map_nil, List.nodup_cons, List.mem_cons, List.not_mem_nil, or_false, not_or] at hfz
    exact ⟨fun q => hfz.1.1 q.symm, fun q => hfz.1.2 q.symm⟩
  have hz : ∀ q ∈ (bm, bmObj sc) :: (it, itObj bm) :: led, q.1 ≠ sc := fun q hq => by
    rcases List.mem_cons.mp hq with rfl | hq
    · exact e1.1
    · rcases List.mem_cons.mp hq with rfl | hq
      · exact e1.2
      · exact hap q hq (sc, _) (.head _)
  have N1 : News h₀ L st.heap ((sc, ScObj a x tk (nextAt nx mu done).1 (nextAt nx mu done).2) :: (bm, bmObj sc) :: (it, itObj bm) :: led) := fun q hq => N q (by
    simp only [FzOf, List.mem_append, List.mem_cons, List.not_mem_nil, or_false] at hq ⊢
    grind)
  refine next_found (code := code) (g := g) hu F N1 hz (.head _) (.tail _ (.head _)) hP (pt.found done s rs hs) (fun m' hm => ?_)
  obtain ⟨h1, h2, h3⟩ := pt.matched s m' hm
  refine ⟨h1, fun h' F' N' A' => ?_⟩
  refine pt.fresh s m' hm F' N' (fun mt sp h'' F'' N'' hne hfr => ?_)
  refine ⟨mt, _, _, rfl, (N'' _ (.head _)).1, rfl, N'', .tail _ (.tail _ (.tail _ (.tail _ (.head _)))), ?_⟩
  rw [h3, h2] at N''
  refine h mt sp m'.lastindex h'' F'' (fun (q : Addr × Obj) hq => N'' q ?_)
  have e2 : nextAt nx mu (done ++ [s]) = (nx s, mu) := by unfold nextAt; rw [List.getLast?_append]; rfl
  rw [e2] at hq
  simp only [FzOf, List.mem_append, List.mem_cons, List.not_mem_nil, or_false] at hq ⊢
  grind

theorem N_stop (pt : Pat x code g P nx mu spans) (hh : A.handled = none) (hP : IsPat h₀ a code g) {done : List Nat} (hs : places x.cps.size P = done)
    (F : Fr h₀ L st.heap m) (N : News h₀ L st.heap (led ++ FzOf a x tk sc bm it (nextAt nx mu done))) (hnd : ((led ++ FzOf a x tk sc bm it (nextAt nx mu done)).map (·.1)).Nodup) {R : Option Value → Shared → Prop}
    (h : ∀ h', Fr h₀ L h' m → News h₀ L h' led → R none { st with heap := h' }) :
    wpN (modelA prog w) A (pyNext (.ref it)) R st := by
  have hap := nd_apart (l := []) hnd
  have hfz : ((FzOf a x tk sc bm it (nextAt nx mu done)).map (·.1)).Nodup := by rw [List.map_append, List.nodup_append] at hnd; exact hnd.2.1
  have e1 : (bm ≠ sc ∧ it ≠ sc) ∧ bm ≠ it := by
    simp only [FzOf, List.map_cons, List.map_nil, List.nodup_cons, List.mem_cons, List.not_mem_nil, or_false, not_or] at hfz
    exact ⟨⟨fun q => hfz.1.1 q.symm, fun q => hfz.1.2 q.symm⟩, hfz.2.1⟩
  have hz : ∀ q ∈ (bm, bmObj sc) :: (it, itObj bm) :: led, q.1 ≠ sc := fun q hq => by
    rcases List.mem_cons.mp hq with rfl | hq
    · exact e1.1.1
    · rcases List.mem_cons.mp hq with rfl | hq
      · exact e1.1.2
      · exact hap q hq (sc, _) (.head _)
  have N1 : News h₀ L st.heap ((sc, ScObj a x tk (nextAt nx mu done).1 (nextAt nx mu done).2) :: (bm, bmObj sc) :: (it, itObj bm) :: led) := fun q hq => N q (by
    simp only [FzOf, List.mem_append, List.mem_cons, List.not_mem_nil, or_false] at hq ⊢
    grind)
  exact next_end (code := code) (g := g) hh F N1 hz rfl (fun q hq => hap q hq (it, _) (.tail _ (.tail _ (.head _)))) e1.2 hP (pt.none done hs) h
end
end Mine

end

section -- part Loop2
set_option linter.unusedVariables false
open PySem PySem.W PyProof.Rows PySem.Calls PySem.Spec
set_option maxRecDepth 100000
namespace Mine
theorem scopeF_fun : scopeF.kind = .function := by kernel_rfl
theorem envF_m (L : Addr) (cd : Value) : (envF L cd).kindOf (Str.ofString "m") = some .local := by kernel_rfl
section
variable {w : World} {A : Around} {x : Str} {code : Array Nat} {g : Nat} {P : Nat → Prop} [DecidablePred P] {nx : Nat → Nat} {mu : Bool} {spans : Nat → List Int}
  {h₀ : Heap} {L a sc bm it : Addr} {tk : Tok}
theorem N_matches (pt : Pat x code g P nx mu spans) (hu : A.units + 3 < cLine) (hh : A.handled = none) (hP : IsPat h₀ a code g) {cd : Value} {pos : Pos} {body : List Stmt} (J : List Nat → (Str → Option Value) → List (Addr × Obj) → Prop)
    (turn : ∀ (done : List Nat) (s : Nat) (rs : List Nat) (m : Str → Option Value) (led : List (Addr × Obj)) (st : Shared) (mt sp : Addr) (li : Int), places x.cps.size P = done ++ s :: rs → J done m led → Fr h₀ L st.heap (fun y => if y = Str.ofString "m" then some (.ref mt) else m y) →
      News h₀ L st.heap ((mt, matchObj (.str x tk) (.ref a) 0 x.cps.size li sp) :: (sp, tupObj ((spans s).map rawInt)) :: (led ++ FzOf a x tk sc bm it (nextAt nx mu (done ++ [s])))) → ((led ++ FzOf a x tk sc bm it (nextAt nx mu (done ++ [s]))).map (·.1)).Nodup →
      wpAny (model PySem.Challenge.rw_er0025_01.row.prog w) A (execs body (envF L cd)) (fun f s₃ => f = .next ∧ ∃ m' led' h' tk', s₃ = { st with heap := h', toks := tk' } ∧ Fr h₀ L h' m' ∧ News h₀ L h' (led' ++ FzOf a x tk sc bm it (nextAt nx mu (done ++ [s]))) ∧
        ((led' ++ FzOf a x tk sc bm it (nextAt nx mu (done ++ [s]))).map (·.1)).Nodup ∧ J (done ++ [s]) m' led') (fun _ _ => False) st)
    {st : Shared} {Q : Flow → Shared → Prop}
    (hQ : ∀ m led h' tk', J (places x.cps.size P) m led → Fr h₀ L h' m → News h₀ L h' led → (led.map (·.1)).Nodup → Q .next { st with heap := h', toks := tk' })
    {m : Str → Option Value} {led : List (Addr × Obj)} (F : Fr h₀ L st.heap m) (N : News h₀ L st.heap (led ++ FzOf a x tk sc bm it (0, false))) (hnd : ((led ++ FzOf a x tk sc bm it (0, false)).map (·.1)).Nodup) (hJ : J [] m led) :
    codeN (modelA PySem.Challenge.rw_er0025_01.row.prog w) A (.forLoop (.Name (Str.ofString "m") pos) (.ref it) body [] (envF L cd)) Q st := by
  refine codeN_forLoop (fun n s => ∃ done rs m led h' tk', places x.cps.size P = done ++ rs ∧ rs.length = n ∧ s = { st with heap := h', toks := tk' } ∧ Fr h₀ L h' m ∧ News h₀ L h' (led ++ FzOf a x tk sc bm it (nextAt nx mu done)) ∧
    ((led ++ FzOf a x tk sc bm it (nextAt nx mu done)).map (·.1)).Nodup ∧ J done m led) (fun n s hI => ?_) (ht := by intro _; rfl) (places x.cps.size P).length st ⟨[], _, m, led, st.heap, st.toks, rfl, rfl, rfl, F, N, hnd, hJ⟩
  obtain ⟨done, rs, m, led, h', tk', e, en, rfl, F, N, hnd, hJ⟩ := hI
  cases rs with
  | nil =>
    rw [List.append_nil] at e
    refine N_stop pt hh hP e F N hnd (fun h'' F' N' => ?_)
    refine N_execs_nil ?_
    rw [← e] at hJ
    exact hQ m led h'' tk' hJ F' N' (by rw [List.map_append, List.nodup_append] at hnd; exact hnd.1)
  | cons s rs =>
    refine N_step pt hu hP e F N hnd (fun mt sp li h'' F' N' => ?_)
    refine N_any (wpAny_assign_Name ?_)
    refine wpAny_storeName_local (envF_m L cd) F'.ns (fun h3 hn hs => ?_) (by show (scopeF.kind == .class || (scopeF.kind == .module && L != mainGlobals)) = false; rw [scopeF_fun]; rfl)
    have F3 : Fr h₀ L h3 (fun y => if y = Str.ofString "m" then some (.ref mt) else m y) := F'.set hn hs
    have N3 := N'.set hs
    have hnd3 : ((led ++ FzOf a x tk sc bm it (nextAt nx mu (done ++ [s]))).map (·.1)).Nodup := by
      rw [List.map_append] at hnd ⊢
      exact hnd
    refine N_any (any_A (wpAny_mono (turn done s rs m led _ mt sp li e hJ F3 N3 hnd3) (fun f s₃ hf => ?_) fun _ _ h => h))
    obtain ⟨rfl, m', led', h4, tk4, rfl, F4, N4, hnd4, hJ4⟩ := hf
    exact ⟨rs.length, by rw [← en]; exact Nat.lt_succ_self _, done ++ [s], rs, m', led', h4, tk4, by rw [List.append_assoc]; exact e, rfl, rfl, F4, N4, hnd4, hJ4⟩
end
end Mine

end

section -- part Pats
set_option linter.unusedVariables false
open PySem PySem.W PyProof.Rows PySem.Calls PySem.Spec
open PySem.Builtin.Re
set_option maxRecDepth 100000
namespace Mine
def bC (t : Array Nat) (n s : Nat) : Bool := decide (s + 1 < n) && (t.getD s 0 == 42 && t.getD (s + 1) 0 == 47)
def bH (t : Array Nat) (n s : Nat) : Bool := decide (s + 2 < n) && (t.getD s 0 == 47 && (t.getD (s + 1) 0 == 42 && t.getD (s + 2) 0 == 43))
def bO (t : Array Nat) (n s : Nat) : Bool := decide (s + 1 < n) && (t.getD s 0 == 47 && (t.getD (s + 1) 0 == 42 && !(decide (s + 2 < n) && t.getD (s + 2) 0 == 43)))
def bD (t : Array Nat) (n s : Nat) : Bool := decide (s < n) && (t.getD s 0 == 36 && (decide (stopD t n s < n) && t.getD (stopD t n s) 0 == 36))
theorem bC_iff {t : Array Nat} {n s : Nat} : bC t n s = true ↔ AtC t n s := by simp [bC, AtC]
theorem bH_iff {t : Array Nat} {n s : Nat} : bH t n s = true ↔ AtH t n s := by simp [bH, AtH]
theorem bO_iff {t : Array Nat} {n s : Nat} : bO t n s = true ↔ AtO t n s := by
  simp [bO, AtO]
  intros
  omega
theorem bD_iff {t : Array Nat} {n s : Nat} : bD t n s = true ↔ AtD t n s := by simp [bD, AtD]
abbrev PC (x : Str) (s : Nat) : Prop := bC x.cps x.cps.size s = true
abbrev PH (x : Str) (s : Nat) : Prop := bH x.cps x.cps.size s = true
abbrev PO (x : Str) (s : Nat) : Prop := bO x.cps x.cps.size s = true
abbrev PD (x : Str) (s : Nat) : Prop := bD x.cps x.cps.size s = true
theorem next_snoc {nx : Nat → Nat} {mu : Bool} {done : List Nat} {d : Nat} : nextAt nx mu (done ++ [d]) = (nx d, mu) := by unfold nextAt; rw [List.getLast?_append]; rfl
theorem snoc_cases {α : Type} (l : List α) : l = [] ∨ ∃ i a, l = i ++ [a] := by
  rcases List.eq_nil_or_concat l with h | ⟨i, a, h⟩
  · exact .inl h
  · exact .inr ⟨i, a, by rw [h, List.concat_eq_append]⟩
section
variable {P : Nat → Prop} [DecidablePred P] {n : Nat}
/-- what the search of the next place needs: where P does not overlap itself -/
theorem jump {k : Nat} (hk : ∀ d s, P d → P s → d < s → d + k ≤ s) (h0 : 0 < k) {done rs : List Nat} {s : Nat} (h : places n P = done ++ s :: rs) :
    (nextAt (· + k) false done).1 ≤ s ∧ P s ∧ (nextAt (· + k) false done).2 = false ∧ ∀ j, (nextAt (· + k) false done).1 ≤ j → j < s → ¬ P j := by
  obtain ⟨h1, h2, h3, h4⟩ := places_split h
  rcases snoc_cases done with rfl | ⟨i, d, rfl⟩
  · exact ⟨Nat.zero_le _, h2, rfl, fun j _ hj hP => nomatch h4 j hj hP⟩
  · rw [next_snoc]
    obtain ⟨h5, h6, h7⟩ := places_last (done := i) (d := d) (rs := s :: rs) h
    have hd := h3 d (by simp)
    refine ⟨hk d s h6 h2 hd, h2, rfl, fun j hj hjs hP => ?_⟩
    have hle := h7 j (h4 j hjs hP)
    have hj' : d + k ≤ j := hj
    omega
theorem halt {k : Nat} (h0 : 0 < k) (hn : ∀ j, P j → j < n) {done : List Nat} (h : places n P = done) :
    (nextAt (· + k) false done).2 = false ∧ ∀ j, (nextAt (· + k) false done).1 ≤ j → ¬ P j := by
  have hin : ∀ j, P j → j ∈ done := fun j hP => by rw [← h]; exact mem_places.mpr ⟨hn j hP, hP⟩
  rcases snoc_cases done with rfl | ⟨i, d, rfl⟩
  · exact ⟨rfl, fun j _ hP => nomatch hin j hP⟩
  · rw [next_snoc]
    obtain ⟨h5, h6, h7⟩ := places_last (done := i) (d := d) (rs := []) (by rw [List.append_nil]; exact h)
    refine ⟨rfl, fun j hj hP => ?_⟩
    have hle := h7 j (hin j hP)
    have hj' : d + k ≤ j := hj
    omega
end
theorem beq_no {a b : Nat} (h : a ≠ b) : (a == b) = false := beq_eq_false_iff_ne.mpr h
section
variable {x : Str} (hx : x.cps.size ≤ 1000000)
include hx
def spans2 (k s : Nat) : List Int := [(s : Int), ((s + k : Nat) : Int)]
theorem patC : Nonempty (Pat x codeC 0 (PC x) (· + 2) false (spans2 2)) := ⟨{
  Fnd := fun s m' => Found s (s + 2) #[] (-1) (-1) m'
  matched := fun s m' h => ⟨h.1, h.2.2.1, by rw [h.2.2.1, h.2.1]; exact beq_no (by omega)⟩
  found := fun done s rs h => by
    obtain ⟨h1, h2, h3, h4⟩ := jump (k := 2) (fun d s hd hs hlt => by
      have a := bC_iff.mp hd; have b := bC_iff.mp hs
      have : s ≠ d + 1 := by rintro rfl; have := a.2.2; have := b.2.1; omega
      omega) (by omega) h
    rw [h3]
    exact foundC hx h1 (bC_iff.mp h2) (fun j a b c => h4 j a b (bC_iff.mpr c))
  none := fun done h => by
    obtain ⟨h1, h2⟩ := halt (k := 2) (by omega) (fun j hj => by have := (bC_iff.mp hj).1; omega) h
    rw [h1]
    exact noneC hx (fun j a c => h2 j a (bC_iff.mpr c))
  fresh := fun s m' h => by
    intro M A E st h₀ L m news a tk Q F N hq
    refine wpAny_match0 F N (fun mt sp h' F' N' => hq mt sp h' F' ?_)
    rw [h.2.1, h.2.2.1] at N'
    exact N' }⟩
theorem patH : Nonempty (Pat x codeH 0 (PH x) (· + 3) false (spans2 3)) := ⟨{
  Fnd := fun s m' => Found s (s + 3) #[] (-1) (-1) m'
  matched := fun s m' h => ⟨h.1, h.2.2.1, by rw [h.2.2.1, h.2.1]; exact beq_no (by omega)⟩
  found := fun done s rs h => by
    obtain ⟨h1, h2, h3, h4⟩ := jump (k := 3) (fun d s hd hs hlt => by
      have a := bH_iff.mp hd; have b := bH_iff.mp hs
      have : s ≠ d + 1 := by rintro rfl; have := a.2.2.1; have := b.2.1; omega
      have : s ≠ d + 2 := by rintro rfl; have := a.2.2.2; have := b.2.1; omega
      omega) (by omega) h
    rw [h3]
    exact foundH hx h1 (bH_iff.mp h2) (fun j a b c => h4 j a b (bH_iff.mpr c))
  none := fun done h => by
    obtain ⟨h1, h2⟩ := halt (k := 3) (by omega) (fun j hj => by have := (bH_iff.mp hj).1; omega) h
    rw [h1]
    exact noneH hx (fun j a c => h2 j a (bH_iff.mpr c))
  fresh := fun s m' h => by
    intro M A E st h₀ L m news a tk Q F N hq
    refine wpAny_match0 F N (fun mt sp h' F' N' => hq mt sp h' F' ?_)
    rw [h.2.1, h.2.2.1] at N'
    exact N' }⟩
theorem patO : Nonempty (Pat x codeO 0 (PO x) (· + 2) false (spans2 2)) := ⟨{
  Fnd := fun s m' => Found s (s + 2) #[] (-1) (-1) m'
  matched := fun s m' h => ⟨h.1, h.2.2.1, by rw [h.2.2.1, h.2.1]; exact beq_no (by omega)⟩
  found := fun done s rs h => by
    obtain ⟨h1, h2, h3, h4⟩ := jump (k := 2) (fun d s hd hs hlt => by
      have a := bO_iff.mp hd; have b := bO_iff.mp hs
      have : s ≠ d + 1 := by rintro rfl; have := a.2.2.1; have := b.2.1; omega
      omega) (by omega) h
    rw [h3]
    exact foundO hx h1 (bO_iff.mp h2) (fun j a b c => h4 j a b (bO_iff.mpr c))
  none := fun done h => by
    obtain ⟨h1, h2⟩ := halt (k := 2) (by omega) (fun j hj => by have := (bO_iff.mp hj).1; omega) h
    rw [h1]
    exact noneO hx (fun j a c => h2 j a (bO_iff.mpr c))
  fresh := fun s m' h => by
    intro M A E st h₀ L m news a tk Q F N hq
    refine wpAny_match0 F N (fun mt sp h' F' N' => hq mt sp h' F' ?_)
    rw [h.2.1, h.2.2.1] at N'
    exact N' }⟩
def spansD (x : Str) (s : Nat) : List Int := [(s : Int), (s : Int), (s : Int), ((stopD x.cps x.cps.size s + 1 : Nat) : Int)]
theorem patD (hal : ∀ i, i < x.cps.size → x.cps.getD i 0 ∈ AL) : Nonempty (Pat x codeD 1 (PD x) id true (spansD x)) := ⟨{
  Fnd := fun s m' => Found s s #[some s, some (stopD x.cps x.cps.size s + 1)] 1 1 m'
  matched := fun s m' h => ⟨h.1, h.2.2.1, by rw [h.2.2.1, h.2.1]; exact beq_self_eq_true s⟩
  found := fun done s rs h => by
    obtain ⟨h1, h2, h3, h4⟩ := places_split h
    rcases snoc_cases done with rfl | ⟨i, d, rfl⟩
    · exact foundD hx hal (Nat.zero_le _) (bD_iff.mp h2) (fun j _ hj hP => nomatch h4 j hj (bD_iff.mpr hP)) (fun _ => rfl)
    · rw [next_snoc]
      obtain ⟨h5, h6, h7⟩ := places_last (done := i) (d := d) (rs := s :: rs) h
      have hd := h3 d (by simp)
      refine foundD hx hal (Nat.le_of_lt hd) (bD_iff.mp h2) (fun j hj hjs hP => ⟨?_, rfl⟩) (fun q => ?_)
      · have := h7 j (h4 j hjs (bD_iff.mpr hP))
        have hj' : d ≤ j := hj
        show j = d
        omega
      · have q' : s = d := q
        omega
  none := fun done h => by
    have hin : ∀ j, AtD x.cps x.cps.size j → j ∈ done := fun j hP => by rw [← h]; exact mem_places.mpr ⟨hP.1, bD_iff.mpr hP⟩
    rcases snoc_cases done with rfl | ⟨i, d, rfl⟩
    · exact noneD hx hal (fun j _ hP => nomatch hin j hP)
    · rw [next_snoc]
      obtain ⟨h5, h6, h7⟩ := places_last (done := i) (d := d) (rs := []) (by rw [List.append_nil]; exact h)
      refine noneD hx hal (fun j hj hP => ⟨?_, rfl⟩)
      have := h7 j (hin j hP)
      have hj' : d ≤ j := hj
      show j = d
      omega
  fresh := fun s m' h => by
    intro M A E st h₀ L m news a tk Q F N hq
    have hge : s ≤ stopD x.cps x.cps.size s + 1 := by unfold stopD; omega
    refine wpAny_match1 F N h.2.2.2.1 h.2.2.2.2.1 hge (fun mt sp h' F' N' => hq mt sp h' F' ?_)
    rw [h.2.1, h.2.2.1] at N'
    exact N' }⟩
end
end Mine

end

section -- part TD
set_option linter.unusedVariables false
open PySem PySem.W PyProof.Rows PySem.Calls PySem.Spec
set_option maxRecDepth 100000
namespace Mine
local macro_rules | `(tactic| walk_at "eval Name") => `(tactic| (k_here; k_dflt (refine' nameX_L ?k1 ?k2 ?_ ?k3 ?k4 ?k5; (case k4 => rfl); (case k1 => k_asm); (case k2 => assumption); (case k3 => rfl); (case k5 => decide); k_whole)))
local macro_rules | `(tactic| k_mem) => `(tactic| assumption)
local macro_rules | `(tactic| walk_at "getMethod ref") => `(tactic| first
  | ((with_reducible show wpAny _ _ (getMethod (Value.ref _) (PySem.Str.ofString "setdefault") _) _ _ _); k_dflt (refine kob_method (knd := PySem.strKind _ _) PySem.F.slot_dict_setdefault PySem.F.type_dict_setdefault (by k_asm) (by k_mem) (by k_asm) ?_))
  | ((with_reducible show wpAny _ _ (getMethod (Value.ref _) (PySem.Str.ofString "append") _) _ _ _); k_dflt (refine kf_method (by k_asm) (by k_mem) PySem.F.slot_list_append PySem.F.type_list_append ?_))
  | ((with_reducible show wpAny _ _ (getMethod (Value.ref _) (PySem.Str.ofString "match") _) _ _ _); k_dflt (refine pat_method slot_match type_match ((pat_B (by k_asm)).keeps (Fr.keep (by k_asm))) ?_))
  | ((with_reducible show wpAny _ _ (getMethod (Value.ref _) (PySem.Str.ofString "start") _) _ _ _); k_dflt (refine match_method slot_start type_start (News.get (by k_asm) (by k_mem)) ?_))
  | ((with_reducible show wpAny _ _ (getMethod (Value.ref _) (PySem.Str.ofString "end") _) _ _ _); k_dflt (refine match_method slot_end type_end (News.get (by k_asm) (by k_mem)) ?_))
  | ((with_reducible show wpAny _ _ (getMethod (Value.ref _) (PySem.Str.ofString "group") _) _ _ _); k_dflt (refine match_method slot_group type_group (News.get (by k_asm) (by k_mem)) ?_)))
local macro_rules | `(tactic| walk_at "call builtin:re.Match.start") => `(tactic| k_dflt (refine call_start2 (News.get (by k_asm) (by k_mem)) (News.get (by k_asm) (by k_mem)) ?_))
local macro_rules | `(tactic| walk_at "call builtin:re.Match.end") => `(tactic| k_dflt (refine call_end2 (News.get (by k_asm) (by k_mem)) (News.get (by k_asm) (by k_mem)) ?_))
local macro_rules | `(tactic| walk_at "call builtin:re.Match.group") => `(tactic| k_dflt (refine call_group2 (News.get (by k_asm) (by k_mem)) (News.get (by k_asm) (by k_mem)) (by omega) (by assumption) ?_))
local macro_rules | `(tactic| walk_at "newTuple") => `(tactic| refine Stop.out ?_)
local macro_rules | `(tactic| walk_at "newList") => `(tactic| refine Stop.out ?_)
local macro_rules | `(tactic| walk_at "setItem ref int") => `(tactic| refine Stop.out ?_)
local macro_rules | `(tactic| walk_at "call builtin:dict.setdefault") => `(tactic| refine Stop.out ?_)
local macro_rules | `(tactic| walk_at "call builtin:list.append") => `(tactic| refine Stop.out ?_)
local macro_rules | `(tactic| walk_at "call builtin:re.Pattern.match") => `(tactic| refine Stop.out ?_)

set_option maxHeartbeats 2000000 in
theorem turnD {w : World} {mean : ExcName → Option Value} {mg mb : Str → Option Value} {x : Str} {tk0 : Tok} (hx : x.cps.size ≤ 16) (hal : ∀ i, i < x.cps.size → x.cps.getD i 0 ∈ AL)
    {dp un : Nat} {gd : Option (List Code)} {cn : Str} {cs : Scope} {a : Addr} {ccd cd : Value} {cl : List (Str × Addr)} {outer : List Env} {base h₀ : Heap} {L Lc : Addr} {m : Str → Option Value} {s : Shared} {Q : Flow → Shared → Prop} {E : Value → Shared → Prop}
    (B : Below (ktrTop dp un gd cn cs Lc a ccd cl outer) base (envX cn cs Lc a ccd cl :: outer) h₀) (X : (hd.heap_39 w.params).In h₀) (T : Top hd.view_39 (looseW hd.view_39 LS) mean mg mb h₀) (hl : dp + 8 < recursionLimit) (hu : un + 64 < cLine)
    {mt sp oD cD : Addr} {oo oc : Obj} {C : List CEnt} {O : List OEnt} {Fz : List (Addr × Obj)} {pat : Value} {p0 lim : Nat} {li : Int} {j e : Nat} {bc : Bool} {tg : Str} (htg : (⟨x.cps.extract j e⟩ : Str) = tg) (hlen : tg.length = e - j) (hje : j ≤ e) (hen : e ≤ x.cps.size)
    (hm1 : m (Str.ofString "text") = some (.str x tk0)) (hm2 : m (Str.ofString "openers") = some (.ref oD)) (hm3 : m (Str.ofString "closers") = some (.ref cD)) (hm4 : m (Str.ofString "has_comment_open") = some (.bool bc)) (hm5 : m (Str.ofString "m") = some (.ref mt))
    (hnd : (AdL oD cD C O Fz).Nodup) (hoo : oo.IsDictOf (intKind PySem.Challenge.rw_er0025_01.row.prog w) (kvsO O)) (hoc : oc.IsDictOf (strKind PySem.Challenge.rw_er0025_01.row.prog w) (kvsC C)) (lo : (cD == sysModules) = false) (hz : Small C O) (hp : ∀ o ∈ O, o.pos ≠ j)
    (F : Fr h₀ L s.heap m) (N : News h₀ L s.heap ((mt, matchObj (.str x tk0) pat p0 lim li sp) :: (sp, tupObj ([(j : Int), (j : Int), (j : Int), (e : Int)].map rawInt)) :: Lg oD oo cD oc C O Fz))
    (hret : ∀ (m' : Str → Option Value) (h' : Heap) (tk' : Nat) (oo' oc' : Obj) (C' : List CEnt) (O' : List OEnt), Fr h₀ L h' m' → m' (Str.ofString "text") = some (.str x tk0) → m' (Str.ofString "openers") = some (.ref oD) → m' (Str.ofString "closers") = some (.ref cD) → m' (Str.ofString "has_comment_open") = some (.bool bc) →
      News h₀ L h' (Lg oD oo' cD oc' C' O' Fz) → oo'.IsDictOf (intKind PySem.Challenge.rw_er0025_01.row.prog w) (kvsO O') → oc'.IsDictOf (strKind PySem.Challenge.rw_er0025_01.row.prog w) (kvsC C') → (AdL oD cD C' O' Fz).Nodup → cv C' = put (cv C) tg j e →
      (BadAt x.cps j → ov O' = ov O) → (¬ BadAt x.cps j → ov O' = ov O ++ [((j : Int), (e : Int), tg, (135 : Addr))]) → Q .next { s with heap := h', toks := tk' }) :
    wpAny (model PySem.Challenge.rw_er0025_01.row.prog w) ((ktrTop dp un gd cn cs Lc a ccd cl outer).deeper (envF L cd)) (execs loopD (envF L cd)) Q E s := by
  revert X; w_top off; k_fill; intro X
  conv => arg 3; arg 1; whnf
  conv => arg 3; arg 2; unfold envF; unfold scopeF; arg 2; whnf
  conv => arg 2; arg 2; unfold envF; unfold scopeF; arg 2; whnf
  k_steps
  refine Stop.into ?_
  refine newLst_F (by assumption) (by assumption) (fun l1 h1 F1 N1 f1 => ?_) (by size_fits)
  k_steps
  refine Stop.into ?_
  refine newLst_F (by assumption) (by assumption) (fun l2 h2 F2 N2 f2 => ?_) (by size_fits)
  k_steps
  refine Stop.into ?_
  refine newTup_F (by assumption) (by assumption) (fun t1 h3 F3 N3 f3 => ?_) (by size_fits)
  k_steps
  refine Stop.into ?_
  have s3 : ∀ q ∈ Lg oD oo cD oc C O Fz, q ∈ (l2, listOf #[] 0) :: (l1, listOf #[] 0) :: (mt, matchObj (.str x tk0) pat p0 lim li sp) :: (sp, tupObj ([(j : Int), (j : Int), (j : Int), (e : Int)].map rawInt)) :: Lg oD oo cD oc C O Fz := fun q hq => .tail _ (.tail _ (.tail _ (.tail _ hq)))
  have s2 : ∀ q ∈ Lg oD oo cD oc C O Fz, q ∈ (l1, listOf #[] 0) :: (mt, matchObj (.str x tk0) pat p0 lim li sp) :: (sp, tupObj ([(j : Int), (j : Int), (j : Int), (e : Int)].map rawInt)) :: Lg oD oo cD oc C O Fz := fun q hq => .tail _ (.tail _ (.tail _ hq))
  have s1 : ∀ q ∈ Lg oD oo cD oc C O Fz, q ∈ (mt, matchObj (.str x tk0) pat p0 lim li sp) :: (sp, tupObj ([(j : Int), (j : Int), (j : Int), (e : Int)].map rawInt)) :: Lg oD oo cD oc C O Fz := fun q hq => .tail _ (.tail _ hq)
  have N4 : News h₀ L h3 ([] ++ (t1, tupObj [.ref l1, .ref l2]) :: (l2, listOf #[] 0) :: (l1, listOf #[] 0) :: Lg oD oo cD oc C O Fz) := fun q hq => N3 q (by
    rcases List.mem_cons.mp hq with rfl | hq
    · exact .head _
    · rcases List.mem_cons.mp hq with rfl | hq
      · exact .tail _ (.head _)
      · rcases List.mem_cons.mp hq with rfl | hq
        · exact .tail _ (.tail _ (.head _))
        · exact .tail _ (s3 q hq))
  refine setdef1 (G := []) F3 N4 (fun g hg => nomatch hg) hnd hoc lo hz (adL_of_news s1 f1) (adL_of_news s2 f2) (adL_of_news s3 f3) (fun q => f2 _ (.head _) q) (fun q => f3 _ (.tail _ (.head _)) q.symm) (fun q => f3 _ (.head _) q.symm) ?_
  intro h4 oc4 pre c post F4 N5 hoc4 hnd4 htag hx4 hy4 hb
  have k1 : (c.t, tupObj [.ref c.s, .ref c.e]) ∈ ([] ++ Lg oD oo cD oc4 (pre ++ c :: post) O Fz) := by simp [Lg, CEnt.objs]
  have k2 : (c.s, listOf (intsV c.xs) c.n₁) ∈ ([] ++ Lg oD oo cD oc4 (pre ++ c :: post) O Fz) := by simp [Lg, CEnt.objs]
  k_steps
  refine Stop.into ?_
  refine app_s (G := []) (by assumption) (by assumption) (fun g hg => nomatch hg) hnd4 hx4 (fun h5 F5 N6 => ?_)
  generalize hc1 : ({ c with xs := c.xs ++ [((j : Int), s.toks)], n₁ := c.n₁ + 1 } : CEnt) = c1 at N6
  have a1 : c1.t = c.t ∧ c1.s = c.s ∧ c1.e = c.e ∧ c1.tag = c.tag ∧ c1.xs.map (·.1) = c.xs.map (·.1) ++ [(j : Int)] ∧ c1.ys = c.ys := by rw [← hc1]; simp
  have hnd5 : (AdL oD cD (pre ++ c1 :: post) O Fz).Nodup := by rw [adL_upd a1.1 a1.2.1 a1.2.2.1]; exact hnd4
  have k3 : (c.e, listOf (intsV c1.ys) c1.n₂) ∈ ([] ++ Lg oD oo cD oc4 (pre ++ c1 :: post) O Fz) := by rw [← a1.2.2.1]; simp [Lg, CEnt.objs]
  k_steps
  refine Stop.into ?_
  have e5 : c.e = c1.e := a1.2.2.1.symm
  rw [e5]
  refine app_e (G := []) (by assumption) (by assumption) (fun g hg => nomatch hg) hnd5 (by rw [a1.2.2.2.2.2]; exact hy4) (fun h6 F6 N7 => ?_)
  k_steps
  refine Stop.into ?_
  generalize hc2 : ({ c1 with ys := c1.ys ++ [((j : Int) + (tg.length : Int), _)], n₂ := c1.n₂ + 1 } : CEnt) = c2 at N7
  have a2 : c2.t = c1.t ∧ c2.s = c1.s ∧ c2.e = c1.e ∧ c2.tag = c1.tag ∧ c2.xs = c1.xs ∧ c2.ys.map (·.1) = c1.ys.map (·.1) ++ [(e : Int)] := by
    rw [← hc2]; simp; omega
  have hnd6 : (AdL oD cD (pre ++ c2 :: post) O Fz).Nodup := by rw [adL_upd a2.1 a2.2.1 a2.2.2.1]; exact hnd5
  have hcv : cv (pre ++ c2 :: post) = put (cv C) tg j e := by
    rw [← htag]
    exact put_both hoc4 (by rw [htag]; exact hb) (a2.2.2.2.1.trans a1.2.2.2.1) (by rw [a2.2.2.2.2.1, a1.2.2.2.2.1]) (by rw [a2.2.2.2.2.2, a1.2.2.2.2.2])
  have hoc6 : oc4.IsDictOf (strKind PySem.Challenge.rw_er0025_01.row.prog w) (kvsC (pre ++ c2 :: post)) := by
    have : kvsC (pre ++ c2 :: post) = kvsC (pre ++ c :: post) := by unfold kvsC; rw [List.map_append, List.map_append, List.map_cons, List.map_cons, a2.2.2.2.1, a1.2.2.2.1, a2.1, a1.1]
    rw [this]; exact hoc4
  refine call_ok (by assumption) (by assumption) ((pat_B X).keeps (Fr.keep (by assumption))) (by omega) hal (by omega) (by omega) (fun hbad => ?_) (fun hok mt2 h7 F7 N8 => ?_)
  · k_steps
    exact hret _ h6 _ oo oc4 _ O F6 hm1 hm2 hm3 hm4 N7 hoo hoc6 hnd6 hcv (fun _ => rfl) (fun q => absurd hbad q)
  · k_steps
    refine Stop.into ?_
    refine newTup_F (by assumption) (by assumption) (fun t2 h8 F8 N9 f9 => ?_) (by size_fits)
    k_steps
    refine Stop.into ?_
    refine set_open (G := []) (by assumption) (by assumption) (fun g hg => nomatch hg) hnd6 hoo hz.2.2 hp (fun h9 oo9 F9 N10 hoo9 => ?_)
    k_steps
    exact hret _ h9 _ oo9 oc4 _ _ F9 hm1 hm2 hm3 hm4 N10 hoo9 hoc6 (adL_newO hnd6 (adL_of_news (oo := oo) (oc := oc4) (fun q hq => hq) f9)) hcv (fun q => absurd q hok) (fun _ => by
      unfold ov
      rw [List.map_append]
      have he : (j : Int) + (tg.length : Int) = (e : Int) := by omega
      show _ ++ [((j : Int), (j : Int) + (tg.length : Int), tg, (135 : Addr))] = _
      rw [he])
end Mine

end

section -- part THO
set_option linter.unusedVariables false
open PySem PySem.W PyProof.Rows PySem.Calls PySem.Spec
set_option maxRecDepth 100000
namespace Mine
local macro_rules | `(tactic| walk_at "no key") => `(tactic| skip)
local macro_rules | `(tactic| walk_at "eval Name") => `(tactic| (k_here; k_dflt (refine' nameX_L ?k1 ?k2 ?_ ?k3 ?k4 ?k5; (case k4 => rfl); (case k1 => k_asm); (case k2 => assumption); (case k3 => rfl); (case k5 => decide); k_whole)))
local macro_rules | `(tactic| k_mem) => `(tactic| assumption)
local macro_rules | `(tactic| walk_at "getMethod ref") => `(tactic| first
  | ((with_reducible show wpAny _ _ (getMethod (Value.ref _) (PySem.Str.ofString "setdefault") _) _ _ _); k_dflt (refine kob_method (knd := PySem.strKind _ _) PySem.F.slot_dict_setdefault PySem.F.type_dict_setdefault (by k_asm) (by k_mem) (by k_asm) ?_))
  | ((with_reducible show wpAny _ _ (getMethod (Value.ref _) (PySem.Str.ofString "append") _) _ _ _); k_dflt (refine kf_method (by k_asm) (by k_mem) PySem.F.slot_list_append PySem.F.type_list_append ?_))
  | ((with_reducible show wpAny _ _ (getMethod (Value.ref _) (PySem.Str.ofString "match") _) _ _ _); k_dflt (refine pat_method slot_match type_match ((pat_B (by k_asm)).keeps (Fr.keep (by k_asm))) ?_))
  | ((with_reducible show wpAny _ _ (getMethod (Value.ref _) (PySem.Str.ofString "start") _) _ _ _); k_dflt (refine match_method slot_start type_start (News.get (by k_asm) (by k_mem)) ?_))
  | ((with_reducible show wpAny _ _ (getMethod (Value.ref _) (PySem.Str.ofString "end") _) _ _ _); k_dflt (refine match_method slot_end type_end (News.get (by k_asm) (by k_mem)) ?_))
  | ((with_reducible show wpAny _ _ (getMethod (Value.ref _) (PySem.Str.ofString "group") _) _ _ _); k_dflt (refine match_method slot_group type_group (News.get (by k_asm) (by k_mem)) ?_)))
local macro_rules | `(tactic| walk_at "call builtin:re.Match.start") => `(tactic| k_dflt (refine call_start2 (News.get (by k_asm) (by k_mem)) (News.get (by k_asm) (by k_mem)) ?_))
local macro_rules | `(tactic| walk_at "call builtin:re.Match.end") => `(tactic| k_dflt (refine call_end2 (News.get (by k_asm) (by k_mem)) (News.get (by k_asm) (by k_mem)) ?_))
local macro_rules | `(tactic| walk_at "call builtin:re.Match.group") => `(tactic| k_dflt (refine call_group2 (News.get (by k_asm) (by k_mem)) (News.get (by k_asm) (by k_mem)) (by omega) (by assumption) ?_))
local macro_rules | `(tactic| walk_at "newTuple") => `(tactic| refine Stop.out ?_)
local macro_rules | `(tactic| walk_at "newList") => `(tactic| refine Stop.out ?_)
local macro_rules | `(tactic| walk_at "setItem ref int") => `(tactic| refine Stop.out ?_)
local macro_rules | `(tactic| walk_at "call builtin:dict.setdefault") => `(tactic| refine Stop.out ?_)
local macro_rules | `(tactic| walk_at "call builtin:list.append") => `(tactic| refine Stop.out ?_)
local macro_rules | `(tactic| walk_at "call builtin:re.Pattern.match") => `(tactic| refine Stop.out ?_)

set_option maxHeartbeats 2000000 in
theorem turnH {w : World} {mean : ExcName → Option Value} {mg mb : Str → Option Value} {x : Str} {tk0 : Tok} (hx : x.cps.size ≤ 16)
    {dp un : Nat} {gd : Option (List Code)} {cn : Str} {cs : Scope} {a : Addr} {ccd cd : Value} {cl : List (Str × Addr)} {outer : List Env} {base h₀ : Heap} {L Lc : Addr} {m : Str → Option Value} {s : Shared} {Q : Flow → Shared → Prop} {E : Value → Shared → Prop}
    (B : Below (ktrTop dp un gd cn cs Lc a ccd cl outer) base (envX cn cs Lc a ccd cl :: outer) h₀) (X : (hd.heap_39 w.params).In h₀) (T : Top hd.view_39 (looseW hd.view_39 LS) mean mg mb h₀) (hl : dp + 8 < recursionLimit) (hu : un + 64 < cLine)
    {mt sp oD cD : Addr} {oo oc : Obj} {C : List CEnt} {O : List OEnt} {Fz : List (Addr × Obj)} {pat : Value} {p0 lim : Nat} {li : Int} {j e : Nat} {bc : Bool} (hje : j ≤ e) (hen : e ≤ x.cps.size)
    (hm1 : m (Str.ofString "text") = some (.str x tk0)) (hm2 : m (Str.ofString "openers") = some (.ref oD)) (hm3 : m (Str.ofString "closers") = some (.ref cD)) (hm4 : m (Str.ofString "has_comment_open") = some (.bool bc)) (hm5 : m (Str.ofString "m") = some (.ref mt))
    (hnd : (AdL oD cD C O Fz).Nodup) (hoo : oo.IsDictOf (intKind PySem.Challenge.rw_er0025_01.row.prog w) (kvsO O)) (hz : Small C O) (hp : ∀ o ∈ O, o.pos ≠ j)
    (F : Fr h₀ L s.heap m) (N : News h₀ L s.heap ((mt, matchObj (.str x tk0) pat p0 lim li sp) :: (sp, tupObj ([(j : Int), (e : Int)].map rawInt)) :: Lg oD oo cD oc C O Fz))
    (hret : ∀ (m' : Str → Option Value) (h' : Heap) (tk' : Nat) (oo' : Obj) (O' : List OEnt), Fr h₀ L h' m' → m' (Str.ofString "text") = some (.str x tk0) → m' (Str.ofString "openers") = some (.ref oD) → m' (Str.ofString "closers") = some (.ref cD) → m' (Str.ofString "has_comment_open") = some (.bool bc) →
      News h₀ L h' (Lg oD oo' cD oc C O' Fz) → oo'.IsDictOf (intKind PySem.Challenge.rw_er0025_01.row.prog w) (kvsO O') → (AdL oD cD C O' Fz).Nodup → ov O' = ov O ++ [((j : Int), (e : Int), Str.ofString "/*", (119 : Addr))] → Q .next { s with heap := h', toks := tk' }) :
    wpAny (model PySem.Challenge.rw_er0025_01.row.prog w) ((ktrTop dp un gd cn cs Lc a ccd cl outer).deeper (envF L cd)) (execs loopH (envF L cd)) Q E s := by
  revert X; w_top off; k_fill; intro X
  conv => arg 3; arg 1; whnf
  conv => arg 3; arg 2; unfold envF; unfold scopeF; arg 2; whnf
  conv => arg 2; arg 2; unfold envF; unfold scopeF; arg 2; whnf
  k_steps
  refine Stop.into ?_
  refine newTup_F (by assumption) (by assumption) (fun t2 h8 F8 N9 f9 => ?_) (by size_fits)
  k_steps
  refine Stop.into ?_
  refine set_open (G := []) (by assumption) (fun q hq => N9 q (by
    rcases List.mem_cons.mp hq with rfl | hq
    · exact .head _
    · exact .tail _ (.tail _ (.tail _ hq)))) (fun g hg => nomatch hg) hnd hoo hz.2.2 hp (fun h9 oo9 F9 N10 hoo9 => ?_)
  k_steps
  exact hret _ h9 _ oo9 _ F9 hm1 hm2 hm3 hm4 N10 hoo9 (adL_newO hnd (adL_of_news (oo := oo) (oc := oc) (fun q hq => .tail _ (.tail _ hq)) f9)) (by unfold ov; rw [List.map_append]; rfl)
set_option maxHeartbeats 2000000 in
theorem turnO {w : World} {mean : ExcName → Option Value} {mg mb : Str → Option Value} {x : Str} {tk0 : Tok} (hx : x.cps.size ≤ 16)
    {dp un : Nat} {gd : Option (List Code)} {cn : Str} {cs : Scope} {a : Addr} {ccd cd : Value} {cl : List (Str × Addr)} {outer : List Env} {base h₀ : Heap} {L Lc : Addr} {m : Str → Option Value} {s : Shared} {Q : Flow → Shared → Prop} {E : Value → Shared → Prop}
    (B : Below (ktrTop dp un gd cn cs Lc a ccd cl outer) base (envX cn cs Lc a ccd cl :: outer) h₀) (X : (hd.heap_39 w.params).In h₀) (T : Top hd.view_39 (looseW hd.view_39 LS) mean mg mb h₀) (hl : dp + 8 < recursionLimit) (hu : un + 64 < cLine)
    {mt sp oD cD : Addr} {oo oc : Obj} {C : List CEnt} {O : List OEnt} {Fz : List (Addr × Obj)} {pat : Value} {p0 lim : Nat} {li : Int} {j e : Nat} {bc : Bool} (hje : j ≤ e) (hen : e ≤ x.cps.size)
    (hm1 : m (Str.ofString "text") = some (.str x tk0)) (hm2 : m (Str.ofString "openers") = some (.ref oD)) (hm3 : m (Str.ofString "closers") = some (.ref cD)) (hm4 : m (Str.ofString "has_comment_open") = some (.bool bc)) (hm5 : m (Str.ofString "m") = some (.ref mt))
    (hnd : (AdL oD cD C O Fz).Nodup) (hoo : oo.IsDictOf (intKind PySem.Challenge.rw_er0025_01.row.prog w) (kvsO O)) (hz : Small C O) (hp : ∀ o ∈ O, o.pos ≠ j)
    (F : Fr h₀ L s.heap m) (N : News h₀ L s.heap ((mt, matchObj (.str x tk0) pat p0 lim li sp) :: (sp, tupObj ([(j : Int), (e : Int)].map rawInt)) :: Lg oD oo cD oc C O Fz))
    (hret : ∀ (m' : Str → Option Value) (h' : Heap) (tk' : Nat) (oo' : Obj) (O' : List OEnt), Fr h₀ L h' m' → m' (Str.ofString "text") = some (.str x tk0) → m' (Str.ofString "openers") = some (.ref oD) → m' (Str.ofString "closers") = some (.ref cD) → m' (Str.ofString "has_comment_open") = some (.bool bc) →
      News h₀ L h' (Lg oD oo' cD oc C O' Fz) → oo'.IsDictOf (intKind PySem.Challenge.rw_er0025_01.row.prog w) (kvsO O') → (AdL oD cD C O' Fz).Nodup → ov O' = ov O ++ [((j : Int), (e : Int), Str.ofString "/*", (123 : Addr))] → Q .next { s with heap := h', toks := tk' }) :
    wpAny (model PySem.Challenge.rw_er0025_01.row.prog w) ((ktrTop dp un gd cn cs Lc a ccd cl outer).deeper (envF L cd)) (execs loopO (envF L cd)) Q E s := by
  revert X; w_top off; k_fill; intro X
  conv => arg 3; arg 1; whnf
  conv => arg 3; arg 2; unfold envF; unfold scopeF; arg 2; whnf
  conv => arg 2; arg 2; unfold envF; unfold scopeF; arg 2; whnf
  k_steps
  refine Stop.into ?_
  refine newTup_F (by assumption) (by assumption) (fun t2 h8 F8 N9 f9 => ?_) (by size_fits)
  k_steps
  refine Stop.into ?_
  refine set_open (G := []) (by assumption) (fun q hq => N9 q (by
    rcases List.mem_cons.mp hq with rfl | hq
    · exact .head _
    · exact .tail _ (.tail _ (.tail _ hq)))) (fun g hg => nomatch hg) hnd hoo hz.2.2 hp (fun h9 oo9 F9 N10 hoo9 => ?_)
  k_steps
  exact hret _ h9 _ oo9 _ F9 hm1 hm2 hm3 hm4 N10 hoo9 (adL_newO hnd (adL_of_news (oo := oo) (oc := oc) (fun q hq => .tail _ (.tail _ hq)) f9)) (by unfold ov; rw [List.map_append]; rfl)
end Mine

end

section -- part TC
set_option linter.unusedVariables false
open PySem PySem.W PyProof.Rows PySem.Calls PySem.Spec
set_option maxRecDepth 100000
namespace Mine
local macro_rules | `(tactic| walk_at "eval Name") => `(tactic| (k_here; k_dflt (refine' nameX_L ?k1 ?k2 ?_ ?k3 ?k4 ?k5; (case k4 => rfl); (case k1 => k_asm); (case k2 => assumption); (case k3 => rfl); (case k5 => decide); k_whole)))
local macro_rules | `(tactic| k_mem) => `(tactic| assumption)
local macro_rules | `(tactic| walk_at "getMethod ref") => `(tactic| first
  | ((with_reducible show wpAny _ _ (getMethod (Value.ref _) (PySem.Str.ofString "setdefault") _) _ _ _); k_dflt (refine kob_method (knd := PySem.strKind _ _) PySem.F.slot_dict_setdefault PySem.F.type_dict_setdefault (by k_asm) (by k_mem) (by k_asm) ?_))
  | ((with_reducible show wpAny _ _ (getMethod (Value.ref _) (PySem.Str.ofString "append") _) _ _ _); k_dflt (refine kf_method (by k_asm) (by k_mem) PySem.F.slot_list_append PySem.F.type_list_append ?_))
  | ((with_reducible show wpAny _ _ (getMethod (Value.ref _) (PySem.Str.ofString "match") _) _ _ _); k_dflt (refine pat_method slot_match type_match ((pat_B (by k_asm)).keeps (Fr.keep (by k_asm))) ?_))
  | ((with_reducible show wpAny _ _ (getMethod (Value.ref _) (PySem.Str.ofString "start") _) _ _ _); k_dflt (refine match_method slot_start type_start (News.get (by k_asm) (by k_mem)) ?_))
  | ((with_reducible show wpAny _ _ (getMethod (Value.ref _) (PySem.Str.ofString "end") _) _ _ _); k_dflt (refine match_method slot_end type_end (News.get (by k_asm) (by k_mem)) ?_))
  | ((with_reducible show wpAny _ _ (getMethod (Value.ref _) (PySem.Str.ofString "group") _) _ _ _); k_dflt (refine match_method slot_group type_group (News.get (by k_asm) (by k_mem)) ?_)))
local macro_rules | `(tactic| walk_at "call builtin:re.Match.start") => `(tactic| k_dflt (refine call_start2 (News.get (by k_asm) (by k_mem)) (News.get (by k_asm) (by k_mem)) ?_))
local macro_rules | `(tactic| walk_at "call builtin:re.Match.end") => `(tactic| k_dflt (refine call_end2 (News.get (by k_asm) (by k_mem)) (News.get (by k_asm) (by k_mem)) ?_))
local macro_rules | `(tactic| walk_at "call builtin:re.Match.group") => `(tactic| k_dflt (refine call_group2 (News.get (by k_asm) (by k_mem)) (News.get (by k_asm) (by k_mem)) (by omega) (by assumption) ?_))
local macro_rules | `(tactic| walk_at "newTuple") => `(tactic| refine Stop.out ?_)
local macro_rules | `(tactic| walk_at "newList") => `(tactic| refine Stop.out ?_)
local macro_rules | `(tactic| walk_at "setItem ref int") => `(tactic| refine Stop.out ?_)
local macro_rules | `(tactic| walk_at "call builtin:dict.setdefault") => `(tactic| refine Stop.out ?_)
local macro_rules | `(tactic| walk_at "call builtin:list.append") => `(tactic| refine Stop.out ?_)
local macro_rules | `(tactic| walk_at "call builtin:re.Pattern.match") => `(tactic| refine Stop.out ?_)

set_option maxHeartbeats 2000000 in
theorem turnC {w : World} {mean : ExcName → Option Value} {mg mb : Str → Option Value}
    {dp un : Nat} {gd : Option (List Code)} {cn : Str} {cs : Scope} {a : Addr} {ccd cd : Value} {cl : List (Str × Addr)} {outer : List Env} {base h₀ : Heap} {L Lc : Addr} {m : Str → Option Value} {s : Shared} {Q : Flow → Shared → Prop} {E : Value → Shared → Prop}
    (B : Below (ktrTop dp un gd cn cs Lc a ccd cl outer) base (envX cn cs Lc a ccd cl :: outer) h₀) (X : (hd.heap_39 w.params).In h₀) (T : Top hd.view_39 (looseW hd.view_39 LS) mean mg mb h₀) (hl : dp + 8 < recursionLimit) (hu : un + 64 < cLine)
    {mt sp oD cD : Addr} {oo oc : Obj} {pre post : List CEnt} {c : CEnt} {O : List OEnt} {Fz : List (Addr × Obj)} {str pat : Value} {p0 lim : Nat} {li : Int} {j e : Nat}
    (hm1 : m (Str.ofString "starts") = some (.ref c.s)) (hm2 : m (Str.ofString "openers") = some (.ref oD)) (hm3 : m (Str.ofString "closers") = some (.ref cD)) (hm4 : m (Str.ofString "ends") = some (.ref c.e)) (hm5 : m (Str.ofString "m") = some (.ref mt))
    (hnd : (AdL oD cD (pre ++ c :: post) O Fz).Nodup) (hz1 : c.xs.length ≤ 1000) (hz2 : c.ys.length ≤ 1000)
    (F : Fr h₀ L s.heap m) (N : News h₀ L s.heap ((mt, matchObj str pat p0 lim li sp) :: (sp, tupObj ([(j : Int), (e : Int)].map rawInt)) :: Lg oD oo cD oc (pre ++ c :: post) O Fz))
    (hret : ∀ (m' : Str → Option Value) (h' : Heap) (tk' : Nat) (c' : CEnt), Fr h₀ L h' m' → m' (Str.ofString "starts") = some (.ref c'.s) → m' (Str.ofString "openers") = some (.ref oD) → m' (Str.ofString "closers") = some (.ref cD) → m' (Str.ofString "ends") = some (.ref c'.e) →
      News h₀ L h' (Lg oD oo cD oc (pre ++ c' :: post) O Fz) → (AdL oD cD (pre ++ c' :: post) O Fz).Nodup → c'.tag = c.tag → c'.t = c.t → c'.xs.map (·.1) = c.xs.map (·.1) ++ [(j : Int)] → c'.ys.map (·.1) = c.ys.map (·.1) ++ [(e : Int)] → Q .next { s with heap := h', toks := tk' }) :
    wpAny (model PySem.Challenge.rw_er0025_01.row.prog w) ((ktrTop dp un gd cn cs Lc a ccd cl outer).deeper (envF L cd)) (execs loopC (envF L cd)) Q E s := by
  revert X; w_top off; k_fill; intro X
  conv => arg 3; arg 1; whnf
  conv => arg 3; arg 2; unfold envF; unfold scopeF; arg 2; whnf
  conv => arg 2; arg 2; unfold envF; unfold scopeF; arg 2; whnf
  have k2 : (c.s, listOf (intsV c.xs) c.n₁) ∈ (mt, matchObj str pat p0 lim li sp) :: (sp, tupObj ([(j : Int), (e : Int)].map rawInt)) :: Lg oD oo cD oc (pre ++ c :: post) O Fz := by simp [Lg, CEnt.objs]
  k_steps
  refine Stop.into ?_
  refine app_s (G := [_, _]) (by assumption) (by assumption) (fun g hg => ?_) hnd hz1 (fun h5 F5 N6 => ?_)
  · simp only [List.mem_cons, List.not_mem_nil, or_false] at hg
    rcases hg with rfl | rfl
    · show Value.type _ ≠ Value.type _; decide
    · show Value.type _ ≠ Value.type _; decide
  generalize hc1 : ({ c with xs := c.xs ++ [((j : Int), _)], n₁ := c.n₁ + 1 } : CEnt) = c1 at N6
  have a1 : c1.t = c.t ∧ c1.s = c.s ∧ c1.e = c.e ∧ c1.tag = c.tag ∧ c1.xs.map (·.1) = c.xs.map (·.1) ++ [(j : Int)] ∧ c1.ys = c.ys := by rw [← hc1]; simp
  have hnd5 : (AdL oD cD (pre ++ c1 :: post) O Fz).Nodup := by rw [adL_upd a1.1 a1.2.1 a1.2.2.1]; exact hnd
  have k3 : (c.e, listOf (intsV c1.ys) c1.n₂) ∈ [(mt, matchObj str pat p0 lim li sp), (sp, tupObj ([(j : Int), (e : Int)].map rawInt))] ++ Lg oD oo cD oc (pre ++ c1 :: post) O Fz := by rw [← a1.2.2.1]; simp [Lg, CEnt.objs]
  k_steps
  refine Stop.into ?_
  have e5 : c.e = c1.e := a1.2.2.1.symm
  rw [e5]
  refine app_e (G := [_, _]) (by assumption) (by assumption) (fun g hg => ?_) hnd5 (by rw [a1.2.2.2.2.2]; exact hz2) (fun h6 F6 N7 => ?_)
  · simp only [List.mem_cons, List.not_mem_nil, or_false] at hg
    rcases hg with rfl | rfl
    · show Value.type _ ≠ Value.type _; decide
    · show Value.type _ ≠ Value.type _; decide
  k_steps
  generalize hc2 : ({ c1 with ys := c1.ys ++ [((e : Int), _)], n₂ := c1.n₂ + 1 } : CEnt) = c2 at N7
  have a2 : c2.t = c1.t ∧ c2.s = c1.s ∧ c2.e = c1.e ∧ c2.tag = c1.tag ∧ c2.xs = c1.xs ∧ c2.ys.map (·.1) = c1.ys.map (·.1) ++ [(e : Int)] := by
    rw [← hc2]; simp
  have hnd6 : (AdL oD cD (pre ++ c2 :: post) O Fz).Nodup := by rw [adL_upd a2.1 a2.2.1 a2.2.2.1]; exact hnd5
  exact hret _ h6 _ c2 F6 (by rw [a2.2.1, a1.2.1]; exact hm1) hm2 hm3 (by rw [a2.2.2.1, a1.2.2.1]; exact hm4) (fun q hq => N7 q (List.mem_append_right _ hq)) hnd6 (a2.2.2.2.1.trans a1.2.2.2.1) (a2.1.trans a1.1) (by rw [a2.2.2.2.2.1, a1.2.2.2.2.1]) (by rw [a2.2.2.2.2.2, a1.2.2.2.2.2])
end Mine

end

section -- part FA
set_option linter.unusedVariables false
open PySem PySem.W PyProof.Rows PySem.Calls PySem.Spec
set_option maxRecDepth 100000
namespace Mine
local macro_rules | `(tactic| walk_at "eval Name") => `(tactic| (k_here; k_dflt (refine' nameX_L ?k1 ?k2 ?_ ?k3 ?k4 ?k5; (case k4 => rfl); (case k1 => k_asm); (case k2 => assumption); (case k3 => rfl); (case k5 => decide); k_whole)))
local macro_rules | `(tactic| k_mem) => `(tactic| assumption)
def take5 : List Stmt → List Stmt
  | a :: b :: c :: d :: e :: _ => [a, b, c, d, e]
  | _ => []
def hasD (x : Str) : Bool := !(Builtin.Str.occurrences x (Str.ofString "$") 0 x.length 1).isEmpty
def hasO (x : Str) : Bool := !(Builtin.Str.occurrences x (Str.ofString "/*") 0 x.length 1).isEmpty
set_option maxHeartbeats 2000000 in
theorem startF {w : World} {mean : ExcName → Option Value} {mg mb : Str → Option Value} {x : Str} {tk0 : Tok} (hx : x.length ≤ 16)
    {dp un : Nat} {gd : Option (List Code)} {cn : Str} {cs : Scope} {a : Addr} {ccd cd : Value} {cl : List (Str × Addr)} {outer : List Env} {base h₀ : Heap} {L Lc : Addr} {m : Str → Option Value} {s : Shared} {Q : Flow → Shared → Prop} {E : Value → Shared → Prop}
    (B : Below (ktrTop dp un gd cn cs Lc a ccd cl outer) base (envX cn cs Lc a ccd cl :: outer) h₀) (X : (hd.heap_39 w.params).In h₀) (T : Top hd.view_39 (looseW hd.view_39 LS) mean mg mb h₀) (hl : dp + 8 < recursionLimit) (hu : un + 64 < cLine)
    (hm1 : m (Str.ofString "text") = some (.str x tk0)) (F : Fr h₀ L s.heap m) (N : News h₀ L s.heap [])
    (hno : hasD x = false → hasO x = false → ∀ (m' : Str → Option Value) (h' : Heap) (tk' : Nat), Fr h₀ L h' m' → Q (.ret (.ref 199)) { s with heap := h', toks := tk' })
    (hret : (hasD x = true ∨ hasO x = true) → ∀ (m' : Str → Option Value) (h' : Heap) (tk' : Nat) (oD cD : Addr) (oo oc : Obj), Fr h₀ L h' m' → m' (Str.ofString "text") = some (.str x tk0) → m' (Str.ofString "openers") = some (.ref oD) → m' (Str.ofString "closers") = some (.ref cD) → m' (Str.ofString "has_comment_open") = some (.bool (hasO x)) → m' (Str.ofString "has_dollar") = some (.bool (hasD x)) →
      News h₀ L h' (Lg oD oo cD oc [] [] []) → oo.IsDictOf (intKind PySem.Challenge.rw_er0025_01.row.prog w) (kvsO []) → oc.IsDictOf (strKind PySem.Challenge.rw_er0025_01.row.prog w) (kvsC []) → (AdL oD cD [] [] []).Nodup → (cD == sysModules) = false → (oD == sysModules) = false → Q .next { s with heap := h', toks := tk' }) :
    wpAny (model PySem.Challenge.rw_er0025_01.row.prog w) ((ktrTop dp un gd cn cs Lc a ccd cl outer).deeper (envF L cd)) (execs (take5 bodyF) (envF L cd)) Q E s := by
  revert X; w_top off; k_fill; intro X
  conv => arg 3; arg 1; whnf
  conv => arg 3; arg 2; unfold envF; unfold scopeF; arg 2; whnf
  conv => arg 2; arg 2; unfold envF; unfold scopeF; arg 2; whnf
  k_steps
  · exact hno (by unfold hasD; simp [*]) (by unfold hasO; simp [*]) _ _ _ (by assumption)
  all_goals
    rename_i d1 h1 o1 lo1 hs1 fs1 hi1 fi1 l1 h2 d2 h3 o2 lo2 hs2 fs2 hi2 fi2 l2 h4 F4 N4
    refine hret (by first | (left; unfold hasD; simp [*]; done) | (right; unfold hasO; simp [*]; done)) _ h4 _ d1 d2 o1 o2 F4 hm1 rfl rfl rfl rfl (fun q hq => N4 q ?_) hi1 hs2 ?_ lo2 lo1
    · simp only [Lg, List.flatMap_nil, List.nil_append, List.mem_cons, List.not_mem_nil, or_false] at hq ⊢
      exact hq.symm
    · show ([d1, d2] : List Addr).Nodup
      simp only [List.nodup_cons, List.mem_cons, List.not_mem_nil, or_false, not_false_eq_true, List.nodup_nil, and_true]
      exact Nat.ne_of_lt l2
end Mine

end

section -- part FB
set_option linter.unusedVariables false
open PySem PySem.W PyProof.Rows PySem.Calls PySem.Spec
set_option maxRecDepth 100000
namespace Mine
/-- the tag that stands at a place, and where it ends -/
def endD (x : Str) (j : Nat) : Nat := stopD x.cps x.cps.size j + 1
def tagD (x : Str) (j : Nat) : Str := ⟨x.cps.extract j (endD x j)⟩
def badB (x : Str) (j : Nat) : Bool := decide (j ≠ 0) && badC (x.cps.getD (j - 1) 0)
theorem badB_iff {x : Str} {j : Nat} : badB x j = true ↔ BadAt x.cps j := by simp [badB, BadAt]
abbrev VT := List (Str × List Int × List Int)
abbrev WT := List (Int × Int × Str × Addr)
def VD (x : Str) (l : List Nat) : VT := l.foldl (fun V j => put V (tagD x j) j (endD x j)) []
def WD (x : Str) (l : List Nat) : WT := (l.filter fun j => !badB x j).map fun (j : Nat) => ((j : Int), ((endD x j : Nat) : Int), tagD x j, (135 : Addr))
def WS (k : Nat) (ty : Addr) (l : List Nat) : WT := l.map fun (j : Nat) => ((j : Int), ((j + k : Nat) : Int), Str.ofString "/*", ty)
theorem VD_snoc (x : Str) (l : List Nat) (j : Nat) : VD x (l ++ [j]) = put (VD x l) (tagD x j) j (endD x j) := by unfold VD; rw [List.foldl_append]; rfl
theorem WD_snoc_bad {x : Str} {l : List Nat} {j : Nat} (h : badB x j = true) : WD x (l ++ [j]) = WD x l := by unfold WD; rw [List.filter_append]; simp [h]
theorem WD_snoc_ok {x : Str} {l : List Nat} {j : Nat} (h : badB x j = false) : WD x (l ++ [j]) = WD x l ++ [((j : Int), ((endD x j : Nat) : Int), tagD x j, (135 : Addr))] := by unfold WD; rw [List.filter_append]; simp [h]
theorem WS_snoc {k : Nat} {ty : Addr} {l : List Nat} {j : Nat} : WS k ty (l ++ [j]) = WS k ty l ++ [((j : Int), ((j + k : Nat) : Int), Str.ofString "/*", ty)] := by unfold WS; rw [List.map_append]; rfl

def Bounded (k : Nat) (V : VT) : Prop := V.length ≤ k ∧ ∀ v ∈ V, v.2.1.length ≤ k ∧ v.2.2.length ≤ k
theorem Bounded.mono {k k' : Nat} {V : VT} (h : Bounded k V) (hk : k ≤ k') : Bounded k' V := ⟨Nat.le_trans h.1 hk, fun v hv => ⟨Nat.le_trans (h.2 v hv).1 hk, Nat.le_trans (h.2 v hv).2 hk⟩⟩
theorem Bounded.put {k : Nat} {V : VT} {t : Str} {j e : Int} (h : Bounded k V) : Bounded (k + 1) (put V t j e) := by
  unfold Mine.put
  split
  · refine ⟨by rw [List.length_map]; have := h.1; omega, fun v hv => ?_⟩
    obtain ⟨u, hu, rfl⟩ := List.mem_map.mp hv
    have := h.2 u hu
    split
    · simp; omega
    · omega
  · refine ⟨by rw [List.length_append]; have := h.1; simp; omega, fun v hv => ?_⟩
    rcases List.mem_append.mp hv with hv | hv
    · have := h.2 v hv; omega
    · simp at hv; subst hv; simp
theorem bounded_aux (x : Str) : ∀ (n : Nat) (l : List Nat), l.length = n → Bounded n (VD x l) := by
  intro n
  induction n with
  | zero =>
    intro l hl
    obtain rfl := List.eq_nil_of_length_eq_zero hl
    exact ⟨Nat.le_refl _, fun v hv => nomatch hv⟩
  | succ n ih =>
    intro l hl
    rcases snoc_cases l with rfl | ⟨i, a, rfl⟩
    · cases hl
    · rw [VD_snoc]
      rw [List.length_append, List.length_singleton] at hl
      exact (ih i (by omega)).put
theorem bounded_VD (x : Str) (l : List Nat) : Bounded l.length (VD x l) := bounded_aux x _ l rfl
theorem small_of {C : List CEnt} {O : List OEnt} {k : Nat} (h : Bounded k (cv C)) (ho : (ov O).length ≤ 1000) (hk : k ≤ 1000) : Small C O := by
  refine ⟨fun c hc => ?_, ?_, ?_⟩
  · have := h.2 (c.tag, c.xs.map (·.1), c.ys.map (·.1)) (List.mem_map.mpr ⟨c, hc, rfl⟩)
    simp at this
    omega
  · have := h.1
    unfold cv at this
    rw [List.length_map] at this
    omega
  · unfold ov at ho
    rw [List.length_map] at ho
    exact ho
theorem len_WD (x : Str) (l : List Nat) : (WD x l).length ≤ l.length := by unfold WD; rw [List.length_map]; exact List.length_filter_le _ _
theorem len_WS (k : Nat) (ty : Addr) (l : List Nat) : (WS k ty l).length = l.length := by unfold WS; rw [List.length_map]
theorem len_places (n : Nat) (P : Nat → Prop) [DecidablePred P] : (places n P).length ≤ n := by
  unfold places
  exact Nat.le_trans (List.length_filter_le _ _) (by rw [List.length_range]; exact Nat.le_refl _)
theorem pos_of_ov {O : List OEnt} {W : WT} (h : ov O = W) {o : OEnt} (ho : o ∈ O) : ∃ v ∈ W, v.1 = o.pos := ⟨(o.pos, o.en, o.tag, o.ty), by rw [← h]; exact List.mem_map.mpr ⟨o, ho, rfl⟩, rfl⟩
theorem pos_WD {x : Str} {l : List Nat} {v : Int × Int × Str × Addr} (h : v ∈ WD x l) : ∃ j ∈ l, v.1 = (j : Int) := by
  obtain ⟨j, hj, rfl⟩ := List.mem_map.mp h
  exact ⟨j, (List.mem_filter.mp hj).1, rfl⟩
theorem pos_WS {k : Nat} {ty : Addr} {l : List Nat} {v : Int × Int × Str × Addr} (h : v ∈ WS k ty l) : ∃ j ∈ l, v.1 = (j : Int) := by
  obtain ⟨j, hj, rfl⟩ := List.mem_map.mp h
  exact ⟨j, hj, rfl⟩
theorem lg_fz {oD cD : Addr} {oo oc : Obj} {C : List CEnt} {O : List OEnt} {Fz : List (Addr × Obj)} : Lg oD oo cD oc C O Fz = Lg oD oo cD oc C O [] ++ Fz := by simp [Lg]
theorem nd_fz {oD cD : Addr} {oo oc : Obj} {C : List CEnt} {O : List OEnt} {Fz : List (Addr × Obj)} : ((Lg oD oo cD oc C O [] ++ Fz).map (·.1)).Nodup ↔ (AdL oD cD C O Fz).Nodup := by rw [← lg_fz, adL_eq]

section
variable {prog : Program} {w : World} {A : Around} {E : Value → Shared → Prop} {s : Shared}
theorem iter_self {it bm : Addr} {Q : Value → Shared → Prop} (hi : s.heap.get? it = some (itObj bm)) (h : Q (.ref it) s) : wpAny (model prog w) A (pyIter (.ref it)) Q E s := by
  have hT : s.TypeIs (.ref it) "callable_iterator" := ⟨_, hi, rfl⟩
  refine wpAny_pyIter_slot hT slot_citer (wpAny_call_entry slot_citer hT entry_citer ?_ (args_citer _))
  show wpAny _ _ (ret (.ref it)) _ _ _
  exact wpAny_pure ⟨_, rfl, _, _, hT, slot_cnext.lookup, h⟩
end
end Mine

end

section -- part FD
set_option linter.unusedVariables false
open PySem PySem.W PyProof.Rows PySem.Calls PySem.Spec
set_option maxRecDepth 100000
namespace Mine
local macro_rules | `(tactic| walk_at "eval Name") => `(tactic| (k_here; k_dflt (refine' nameX_L ?k1 ?k2 ?_ ?k3 ?k4 ?k5; (case k4 => rfl); (case k1 => k_asm); (case k2 => assumption); (case k3 => rfl); (case k5 => decide); k_whole)))
local macro_rules | `(tactic| k_mem) => `(tactic| assumption)
local macro_rules | `(tactic| walk_at "getMethod ref") => `(tactic| first
  | ((with_reducible show wpAny _ _ (getMethod (Value.ref 145) (PySem.Str.ofString "finditer") _) _ _ _); k_dflt (refine pat_method slot_finditer type_finditer ((pat_D (by k_asm)).keeps (Fr.keep (by k_asm))) ?_))
  | ((with_reducible show wpAny _ _ (getMethod (Value.ref 155) (PySem.Str.ofString "finditer") _) _ _ _); k_dflt (refine pat_method slot_finditer type_finditer ((pat_H (by k_asm)).keeps (Fr.keep (by k_asm))) ?_))
  | ((with_reducible show wpAny _ _ (getMethod (Value.ref 160) (PySem.Str.ofString "finditer") _) _ _ _); k_dflt (refine pat_method slot_finditer type_finditer ((pat_O (by k_asm)).keeps (Fr.keep (by k_asm))) ?_))
  | ((with_reducible show wpAny _ _ (getMethod (Value.ref 165) (PySem.Str.ofString "finditer") _) _ _ _); k_dflt (refine pat_method slot_finditer type_finditer ((pat_C (by k_asm)).keeps (Fr.keep (by k_asm))) ?_)))
local macro_rules | `(tactic| walk_at "call builtin:re.Pattern.finditer") => `(tactic| refine Stop.out ?_)
def nthS : List Stmt → Nat → Stmt
  | a :: _, 0 => a
  | _ :: l, n + 1 => nthS l n
  | [], _ => .Pass default
noncomputable def stD : Stmt := nthS (ifBody bodyF[5]?) 0

set_option maxHeartbeats 2000000 in
theorem forD {w : World} {mean : ExcName → Option Value} {mg mb : Str → Option Value} {x : Str} {tk0 : Tok} (hx : x.cps.size ≤ 16) (hal : ∀ i, i < x.cps.size → x.cps.getD i 0 ∈ AL)
    {dp un : Nat} {gd : Option (List Code)} {cn : Str} {cs : Scope} {a : Addr} {ccd cd : Value} {cl : List (Str × Addr)} {outer : List Env} {base h₀ : Heap} {L Lc : Addr} {m : Str → Option Value} {s : Shared} {Q : Flow → Shared → Prop}
    (B : Below (ktrTop dp un gd cn cs Lc a ccd cl outer) base (envX cn cs Lc a ccd cl :: outer) h₀) (X : (hd.heap_39 w.params).In h₀) (T : Top hd.view_39 (looseW hd.view_39 LS) mean mg mb h₀) (hl : dp + 8 < recursionLimit) (hu : un + 64 < cLine)
    {oD cD : Addr} {oo oc : Obj} {bc : Bool}
    (hm1 : m (Str.ofString "text") = some (.str x tk0)) (hm2 : m (Str.ofString "openers") = some (.ref oD)) (hm3 : m (Str.ofString "closers") = some (.ref cD)) (hm4 : m (Str.ofString "has_comment_open") = some (.bool bc))
    (hnd : (AdL oD cD [] [] []).Nodup) (hoo : oo.IsDictOf (intKind PySem.Challenge.rw_er0025_01.row.prog w) (kvsO [])) (hoc : oc.IsDictOf (strKind PySem.Challenge.rw_er0025_01.row.prog w) (kvsC [])) (lo : (cD == sysModules) = false)
    (F : Fr h₀ L s.heap m) (N : News h₀ L s.heap (Lg oD oo cD oc [] [] []))
    (hret : ∀ (m' : Str → Option Value) (h' : Heap) (tk' : Nat) (oo' oc' : Obj) (C' : List CEnt) (O' : List OEnt), Fr h₀ L h' m' → m' (Str.ofString "text") = some (.str x tk0) → m' (Str.ofString "openers") = some (.ref oD) → m' (Str.ofString "closers") = some (.ref cD) → m' (Str.ofString "has_comment_open") = some (.bool bc) →
      News h₀ L h' (Lg oD oo' cD oc' C' O' []) → oo'.IsDictOf (intKind PySem.Challenge.rw_er0025_01.row.prog w) (kvsO O') → oc'.IsDictOf (strKind PySem.Challenge.rw_er0025_01.row.prog w) (kvsC C') → (AdL oD cD C' O' []).Nodup → cv C' = VD x (places x.cps.size (PD x)) → ov O' = WD x (places x.cps.size (PD x)) →
      Q .next { s with heap := h', toks := tk' }) :
    wpN (modelA PySem.Challenge.rw_er0025_01.row.prog w) ((ktrTop dp un gd cn cs Lc a ccd cl outer).deeper (envF L cd)) (exec stD (envF L cd)) Q s := by
  obtain ⟨pt⟩ := patD (x := x) (by omega) hal
  conv => arg 3; arg 1; whnf
  refine N_For ?_
  refine N_any (any_A ?_)
  have B0 := B
  have X0 := X
  revert X; w_top off; k_fill; intro X
  conv => arg 3; arg 2; unfold envF; unfold scopeF; arg 2; whnf
  conv => arg 2; arg 2; unfold envF; unfold scopeF; arg 2; whnf
  k_steps
  refine Stop.into ?_
  refine call_finditer (by assumption) (by assumption) ((pat_D X).keeps (Fr.keep (by assumption))) (by omega) (fun it bm sc h1 F1 N1 l1 l2 l3 tk1 => ?_)
  k_steps
  refine N_any (any_A (iter_self (bm := bm) ((N1 _ (.head _)).1) ?_))
  have hN : News h₀ L h1 (Lg oD oo cD oc [] [] [] ++ FzOf 145 x tk0 sc bm it (0, false)) := fun q hq => N1 q (by
    simp only [FzOf, List.mem_append, List.mem_cons, List.not_mem_nil, or_false] at hq ⊢
    grind)
  have hN2 : ((Lg oD oo cD oc [] [] [] ++ FzOf 145 x tk0 sc bm it (0, false)).map (·.1)).Nodup := by
    rw [List.map_append, List.nodup_append]
    refine ⟨by rw [adL_eq]; exact hnd, ?_, ?_⟩
    · simp only [FzOf, List.map_cons, List.map_nil, List.nodup_cons, List.mem_cons, List.not_mem_nil, or_false, not_or, not_false_eq_true, List.nodup_nil, and_true]
      have : sc < it := Nat.lt_trans l2 l3
      exact ⟨⟨Nat.ne_of_lt l2, Nat.ne_of_lt this⟩, Nat.ne_of_lt l3⟩
    · intro q hq r hr
      obtain ⟨q', hq', rfl⟩ := List.mem_map.mp hq
      have h0 := l1 q' hq'
      simp only [FzOf, List.map_cons, List.map_nil, List.mem_cons, List.not_mem_nil, or_false] at hr
      have h2 := Nat.lt_trans h0 l2
      have h3 := Nat.lt_trans h2 l3
      rcases hr with rfl | rfl | rfl
      · exact Nat.ne_of_lt h0
      · exact Nat.ne_of_lt h2
      · exact Nat.ne_of_lt h3
  refine N_matches pt (cd := cd) (by show un + 3 + 3 < cLine; omega) rfl (pat_D X0) (fun done m led => ∃ oo oc C O, led = Lg oD oo cD oc C O [] ∧ m (Str.ofString "text") = some (.str x tk0) ∧ m (Str.ofString "openers") = some (.ref oD) ∧ m (Str.ofString "closers") = some (.ref cD) ∧ m (Str.ofString "has_comment_open") = some (.bool bc) ∧
    oo.IsDictOf (intKind PySem.Challenge.rw_er0025_01.row.prog w) (kvsO O) ∧ oc.IsDictOf (strKind PySem.Challenge.rw_er0025_01.row.prog w) (kvsC C) ∧ cv C = VD x done ∧ ov O = WD x done) ?turn (fun m led h' tk' hJ F' N' hnd' => ?_) (by assumption) hN hN2 ⟨oo, oc, [], [], rfl, hm1, hm2, hm3, hm4, hoo, hoc, rfl, rfl⟩
  case turn =>
    intro done j rs m led st mt sp li e hJ F N hnd
    obtain ⟨oo, oc, C, O, rfl, e1, e2, e3, e4, hoo, hoc, e5, e6⟩ := hJ
    obtain ⟨hj, hPj, hlt, _⟩ := places_split e
    have hat := bD_iff.mp hPj
    have hend : endD x j ≤ x.cps.size := hat.2.2.1
    have hle : j ≤ endD x j := by unfold endD stopD; omega
    have hdone : done.length ≤ 16 := by
      have h1 := len_places x.cps.size (PD x)
      rw [e, List.length_append] at h1
      omega
    have hnd' := nd_fz.mp hnd
    rw [← lg_fz] at N
    refine turnD (m := fun y => if y = Str.ofString "m" then some (.ref mt) else m y) (tg := tagD x j) (e := endD x j) hx hal B0 X0 T hl hu rfl ?_ hle hend e1 e2 e3 e4 rfl hnd' hoo hoc lo (small_of (by rw [e5]; exact bounded_VD x done) (by rw [e6]; have := len_WD x done; omega) (by omega)) (fun o ho q => ?_) F N ?_
    · show (x.cps.extract j (endD x j)).size = _
      rw [Array.size_extract]; omega
    · obtain ⟨v, hv, hv'⟩ := pos_of_ov e6 ho
      obtain ⟨j', hj', e7⟩ := pos_WD hv
      have := hlt j' hj'
      rw [← hv', e7] at q
      omega
    · intro m' h' tk' oo' oc' C' O' F' a1 a2 a3 a4 N' a5 a6 a7 a8 a9 a10
      refine ⟨rfl, m', Lg oD oo' cD oc' C' O' [], h', tk', rfl, F', by rw [← lg_fz]; exact N', nd_fz.mpr a7, oo', oc', C', O', rfl, a1, a2, a3, a4, a5, a6, by rw [a8, e5, VD_snoc], ?_⟩
      cases hb : badB x j with
      | true => rw [a9 (badB_iff.mp hb), e6, WD_snoc_bad hb]
      | false => rw [a10 (fun q => by rw [badB_iff.mpr q] at hb; cases hb), e6, WD_snoc_ok hb]
  obtain ⟨oo', oc', C', O', rfl, e1, e2, e3, e4, h5, h6, e5, e6⟩ := hJ
  exact hret m h' tk' oo' oc' C' O' F' e1 e2 e3 e4 N' h5 h6 (by rw [← adL_eq oD oo' cD oc']; exact hnd') e5 e6
end Mine

end

section -- part FHO
set_option linter.unusedVariables false
open PySem PySem.W PyProof.Rows PySem.Calls PySem.Spec
set_option maxRecDepth 100000
namespace Mine
local macro_rules | `(tactic| walk_at "no key") => `(tactic| skip)
local macro_rules | `(tactic| walk_at "eval Name") => `(tactic| (k_here; k_dflt (refine' nameX_L ?k1 ?k2 ?_ ?k3 ?k4 ?k5; (case k4 => rfl); (case k1 => k_asm); (case k2 => assumption); (case k3 => rfl); (case k5 => decide); k_whole)))
local macro_rules | `(tactic| k_mem) => `(tactic| assumption)
local macro_rules | `(tactic| walk_at "getMethod ref") => `(tactic| first
  | ((with_reducible show wpAny _ _ (getMethod (Value.ref 145) (PySem.Str.ofString "finditer") _) _ _ _); k_dflt (refine pat_method slot_finditer type_finditer ((pat_D (by k_asm)).keeps (Fr.keep (by k_asm))) ?_))
  | ((with_reducible show wpAny _ _ (getMethod (Value.ref 155) (PySem.Str.ofString "finditer") _) _ _ _); k_dflt (refine pat_method slot_finditer type_finditer ((pat_H (by k_asm)).keeps (Fr.keep (by k_asm))) ?_))
  | ((with_reducible show wpAny _ _ (getMethod (Value.ref 160) (PySem.Str.ofString "finditer") _) _ _ _); k_dflt (refine pat_method slot_finditer type_finditer ((pat_O (by k_asm)).keeps (Fr.keep (by k_asm))) ?_))
  | ((with_reducible show wpAny _ _ (getMethod (Value.ref 165) (PySem.Str.ofString "finditer") _) _ _ _); k_dflt (refine pat_method slot_finditer type_finditer ((pat_C (by k_asm)).keeps (Fr.keep (by k_asm))) ?_)))
local macro_rules | `(tactic| walk_at "call builtin:re.Pattern.finditer") => `(tactic| refine Stop.out ?_)
noncomputable def stH : Stmt := nthS (ifBody bodyF[6]?) 0
set_option maxHeartbeats 2000000 in
theorem forH {w : World} {mean : ExcName → Option Value} {mg mb : Str → Option Value} {x : Str} {tk0 : Tok} (hx : x.cps.size ≤ 16)
    {dp un : Nat} {gd : Option (List Code)} {cn : Str} {cs : Scope} {a : Addr} {ccd cd : Value} {cl : List (Str × Addr)} {outer : List Env} {base h₀ : Heap} {L Lc : Addr} {m : Str → Option Value} {s : Shared} {Q : Flow → Shared → Prop}
    (B : Below (ktrTop dp un gd cn cs Lc a ccd cl outer) base (envX cn cs Lc a ccd cl :: outer) h₀) (X : (hd.heap_39 w.params).In h₀) (T : Top hd.view_39 (looseW hd.view_39 LS) mean mg mb h₀) (hl : dp + 8 < recursionLimit) (hu : un + 64 < cLine)
    {oD cD : Addr} {oo oc : Obj} {bc : Bool} {C : List CEnt} {O : List OEnt} {W0 : WT}
    (hm1 : m (Str.ofString "text") = some (.str x tk0)) (hm2 : m (Str.ofString "openers") = some (.ref oD)) (hm3 : m (Str.ofString "closers") = some (.ref cD)) (hm4 : m (Str.ofString "has_comment_open") = some (.bool bc))
    (hnd : (AdL oD cD C O []).Nodup) (hoo : oo.IsDictOf (intKind PySem.Challenge.rw_er0025_01.row.prog w) (kvsO O)) (hov : ov O = W0) (hW : W0.length ≤ 500) (hz : Small C O) (hap : ∀ v ∈ W0, ∀ j, PH x j → v.1 ≠ (j : Int))
    (F : Fr h₀ L s.heap m) (N : News h₀ L s.heap (Lg oD oo cD oc C O []))
    (hret : ∀ (m' : Str → Option Value) (h' : Heap) (tk' : Nat) (oo' : Obj) (O' : List OEnt), Fr h₀ L h' m' → m' (Str.ofString "text") = some (.str x tk0) → m' (Str.ofString "openers") = some (.ref oD) → m' (Str.ofString "closers") = some (.ref cD) → m' (Str.ofString "has_comment_open") = some (.bool bc) →
      News h₀ L h' (Lg oD oo' cD oc C O' []) → oo'.IsDictOf (intKind PySem.Challenge.rw_er0025_01.row.prog w) (kvsO O') → (AdL oD cD C O' []).Nodup → ov O' = W0 ++ WS 3 119 (places x.cps.size (PH x)) →
      Q .next { s with heap := h', toks := tk' }) :
    wpN (modelA PySem.Challenge.rw_er0025_01.row.prog w) ((ktrTop dp un gd cn cs Lc a ccd cl outer).deeper (envF L cd)) (exec stH (envF L cd)) Q s := by
  obtain ⟨pt⟩ := patH (x := x) (by omega)
  conv => arg 3; arg 1; whnf
  refine N_For ?_
  refine N_any (any_A ?_)
  have B0 := B
  have X0 := X
  revert X; w_top off; k_fill; intro X
  conv => arg 3; arg 2; unfold envF; unfold scopeF; arg 2; whnf
  conv => arg 2; arg 2; unfold envF; unfold scopeF; arg 2; whnf
  k_steps
  refine Stop.into ?_
  refine call_finditer (by assumption) (by assumption) ((pat_H X).keeps (Fr.keep (by assumption))) (by omega) (fun it bm sc h1 F1 N1 l1 l2 l3 tk1 => ?_)
  k_steps
  refine N_any (any_A (iter_self (bm := bm) ((N1 _ (.head _)).1) ?_))
  have hN : News h₀ L h1 (Lg oD oo cD oc C O [] ++ FzOf 155 x tk0 sc bm it (0, false)) := fun q hq => N1 q (by
    simp only [FzOf, List.mem_append, List.mem_cons, List.not_mem_nil, or_false] at hq ⊢
    grind)
  have hN2 : ((Lg oD oo cD oc C O [] ++ FzOf 155 x tk0 sc bm it (0, false)).map (·.1)).Nodup := by
    rw [List.map_append, List.nodup_append]
    refine ⟨by rw [adL_eq]; exact hnd, ?_, ?_⟩
    · simp only [FzOf, List.map_cons, List.map_nil, List.nodup_cons, List.mem_cons, List.not_mem_nil, or_false, not_or, not_false_eq_true, List.nodup_nil, and_true]
      have : sc < it := Nat.lt_trans l2 l3
      exact ⟨⟨Nat.ne_of_lt l2, Nat.ne_of_lt this⟩, Nat.ne_of_lt l3⟩
    · intro q hq r hr
      obtain ⟨q', hq', rfl⟩ := List.mem_map.mp hq
      have h0 := l1 q' hq'
      simp only [FzOf, List.map_cons, List.map_nil, List.mem_cons, List.not_mem_nil, or_false] at hr
      have h2 := Nat.lt_trans h0 l2
      have h3 := Nat.lt_trans h2 l3
      rcases hr with rfl | rfl | rfl
      · exact Nat.ne_of_lt h0
      · exact Nat.ne_of_lt h2
      · exact Nat.ne_of_lt h3
  refine N_matches pt (cd := cd) (by show un + 3 + 3 < cLine; omega) rfl (pat_H X0) (fun done m led => ∃ oo O, led = Lg oD oo cD oc C O [] ∧ m (Str.ofString "text") = some (.str x tk0) ∧ m (Str.ofString "openers") = some (.ref oD) ∧ m (Str.ofString "closers") = some (.ref cD) ∧ m (Str.ofString "has_comment_open") = some (.bool bc) ∧
    oo.IsDictOf (intKind PySem.Challenge.rw_er0025_01.row.prog w) (kvsO O) ∧ ov O = W0 ++ WS 3 119 done) ?turn (fun m led h' tk' hJ F' N' hnd' => ?_) (by assumption) hN hN2 ⟨oo, O, rfl, hm1, hm2, hm3, hm4, hoo, by rw [hov]; exact (List.append_nil _).symm⟩
  case turn =>
    intro done j rs m led st mt sp li e hJ F N hnd
    obtain ⟨oo, O, rfl, e1, e2, e3, e4, hoo, e6⟩ := hJ
    obtain ⟨hj, hPj, hlt, _⟩ := places_split e
    have hat := bH_iff.mp hPj
    have hend := hat.1
    have hdone : done.length ≤ 16 := by
      have h1 := len_places x.cps.size (PH x)
      rw [e, List.length_append] at h1
      omega
    have hnd' := nd_fz.mp hnd
    rw [← lg_fz] at N
    have hlen : O.length ≤ 1000 := by
      have h1 : (ov O).length = O.length := by unfold ov; rw [List.length_map]
      rw [e6, List.length_append, len_WS] at h1
      omega
    refine turnH (m := fun y => if y = Str.ofString "m" then some (.ref mt) else m y) (e := j + 3) hx B0 X0 T hl hu (by omega) (by omega) e1 e2 e3 e4 rfl hnd' hoo ⟨hz.1, hz.2.1, hlen⟩ (fun o ho q => ?_) F N ?_
    · obtain ⟨v, hv, hv'⟩ := pos_of_ov e6 ho
      rcases List.mem_append.mp hv with hv | hv
      · exact hap v hv j hPj (hv'.trans q)
      · obtain ⟨j', hj', e7⟩ := pos_WS hv
        have := hlt j' hj'
        rw [← hv', e7] at q
        omega
    · intro m' h' tk' oo' O' F' a1 a2 a3 a4 N' a5 a7 a8
      exact ⟨rfl, m', Lg oD oo' cD oc C O' [], h', tk', rfl, F', by rw [← lg_fz]; exact N', nd_fz.mpr a7, oo', O', rfl, a1, a2, a3, a4, a5, by rw [a8, e6, WS_snoc, List.append_assoc]⟩
  obtain ⟨oo', O', rfl, e1, e2, e3, e4, h5, e6⟩ := hJ
  exact hret m h' tk' oo' O' F' e1 e2 e3 e4 N' h5 (by rw [← adL_eq oD oo' cD oc]; exact hnd') e6
noncomputable def stO : Stmt := nthS (ifBody bodyF[6]?) 1
set_option maxHeartbeats 2000000 in
theorem forO {w : World} {mean : ExcName → Option Value} {mg mb : Str → Option Value} {x : Str} {tk0 : Tok} (hx : x.cps.size ≤ 16)
    {dp un : Nat} {gd : Option (List Code)} {cn : Str} {cs : Scope} {a : Addr} {ccd cd : Value} {cl : List (Str × Addr)} {outer : List Env} {base h₀ : Heap} {L Lc : Addr} {m : Str → Option Value} {s : Shared} {Q : Flow → Shared → Prop}
    (B : Below (ktrTop dp un gd cn cs Lc a ccd cl outer) base (envX cn cs Lc a ccd cl :: outer) h₀) (X : (hd.heap_39 w.params).In h₀) (T : Top hd.view_39 (looseW hd.view_39 LS) mean mg mb h₀) (hl : dp + 8 < recursionLimit) (hu : un + 64 < cLine)
    {oD cD : Addr} {oo oc : Obj} {bc : Bool} {C : List CEnt} {O : List OEnt} {W0 : WT}
    (hm1 : m (Str.ofString "text") = some (.str x tk0)) (hm2 : m (Str.ofString "openers") = some (.ref oD)) (hm3 : m (Str.ofString "closers") = some (.ref cD)) (hm4 : m (Str.ofString "has_comment_open") = some (.bool bc))
    (hnd : (AdL oD cD C O []).Nodup) (hoo : oo.IsDictOf (intKind PySem.Challenge.rw_er0025_01.row.prog w) (kvsO O)) (hov : ov O = W0) (hW : W0.length ≤ 500) (hz : Small C O) (hap : ∀ v ∈ W0, ∀ j, PO x j → v.1 ≠ (j : Int))
    (F : Fr h₀ L s.heap m) (N : News h₀ L s.heap (Lg oD oo cD oc C O []))
    (hret : ∀ (m' : Str → Option Value) (h' : Heap) (tk' : Nat) (oo' : Obj) (O' : List OEnt), Fr h₀ L h' m' → m' (Str.ofString "text") = some (.str x tk0) → m' (Str.ofString "openers") = some (.ref oD) → m' (Str.ofString "closers") = some (.ref cD) → m' (Str.ofString "has_comment_open") = some (.bool bc) →
      News h₀ L h' (Lg oD oo' cD oc C O' []) → oo'.IsDictOf (intKind PySem.Challenge.rw_er0025_01.row.prog w) (kvsO O') → (AdL oD cD C O' []).Nodup → ov O' = W0 ++ WS 2 123 (places x.cps.size (PO x)) →
      Q .next { s with heap := h', toks := tk' }) :
    wpN (modelA PySem.Challenge.rw_er0025_01.row.prog w) ((ktrTop dp un gd cn cs Lc a ccd cl outer).deeper (envF L cd)) (exec stO (envF L cd)) Q s := by
  obtain ⟨pt⟩ := patO (x := x) (by omega)
  conv => arg 3; arg 1; whnf
  refine N_For ?_
  refine N_any (any_A ?_)
  have B0 := B
  have X0 := X
  revert X; w_top off; k_fill; intro X
  conv => arg 3; arg 2; unfold envF; unfold scopeF; arg 2; whnf
  conv => arg 2; arg 2; unfold envF; unfold scopeF; arg 2; whnf
  k_steps
  refine Stop.into ?_
  refine call_finditer (by assumption) (by assumption) ((pat_O X).keeps (Fr.keep (by assumption))) (by omega) (fun it bm sc h1 F1 N1 l1 l2 l3 tk1 => ?_)
  k_steps
  refine N_any (any_A (iter_self (bm := bm) ((N1 _ (.head _)).1) ?_))
  have hN : News h₀ L h1 (Lg oD oo cD oc C O [] ++ FzOf 160 x tk0 sc bm it (0, false)) := fun q hq => N1 q (by
    simp only [FzOf, List.mem_append, List.mem_cons, List.not_mem_nil, or_false] at hq ⊢
    grind)
  have hN2 : ((Lg oD oo cD oc C O [] ++ FzOf 160 x tk0 sc bm it (0, false)).map (·.1)).Nodup := by
    rw [List.map_append, List.nodup_append]
    refine ⟨by rw [adL_eq]; exact hnd, ?_, ?_⟩
    · simp only [FzOf, List.map_cons, List.map_nil, List.nodup_cons, List.mem_cons, List.not_mem_nil, or_false, not_or, not_false_eq_true, List.nodup_nil, and_true]
      have : sc < it := Nat.lt_trans l2 l3
      exact ⟨⟨Nat.ne_of_lt l2, Nat.ne_of_lt this⟩, Nat.ne_of_lt l3⟩
    · intro q hq r hr
      obtain ⟨q', hq', rfl⟩ := List.mem_map.mp hq
      have h0 := l1 q' hq'
      simp only [FzOf, List.map_cons, List.map_nil, List.mem_cons, List.not_mem_nil, or_false] at hr
      have h2 := Nat.lt_trans h0 l2
      have h3 := Nat.lt_trans h2 l3
      rcases hr with rfl | rfl | rfl
      · exact Nat.ne_of_lt h0
      · exact Nat.ne_of_lt h2
      · exact Nat.ne_of_lt h3
  refine N_matches pt (cd := cd) (by show un + 3 + 3 < cLine; omega) rfl (pat_O X0) (fun done m led => ∃ oo O, led = Lg oD oo cD oc C O [] ∧ m (Str.ofString "text") = some (.str x tk0) ∧ m (Str.ofString "openers") = some (.ref oD) ∧ m (Str.ofString "closers") = some (.ref cD) ∧ m (Str.ofString "has_comment_open") = some (.bool bc) ∧
    oo.IsDictOf (intKind PySem.Challenge.rw_er0025_01.row.prog w) (kvsO O) ∧ ov O = W0 ++ WS 2 123 done) ?turn (fun m led h' tk' hJ F' N' hnd' => ?_) (by assumption) hN hN2 ⟨oo, O, rfl, hm1, hm2, hm3, hm4, hoo, by rw [hov]; exact (List.append_nil _).symm⟩
  case turn =>
    intro done j rs m led st mt sp li e hJ F N hnd
    obtain ⟨oo, O, rfl, e1, e2, e3, e4, hoo, e6⟩ := hJ
    obtain ⟨hj, hPj, hlt, _⟩ := places_split e
    have hat := bO_iff.mp hPj
    have hend := hat.1
    have hdone : done.length ≤ 16 := by
      have h1 := len_places x.cps.size (PO x)
      rw [e, List.length_append] at h1
      omega
    have hnd' := nd_fz.mp hnd
    rw [← lg_fz] at N
    have hlen : O.length ≤ 1000 := by
      have h1 : (ov O).length = O.length := by unfold ov; rw [List.length_map]
      rw [e6, List.length_append, len_WS] at h1
      omega
    refine turnO (m := fun y => if y = Str.ofString "m" then some (.ref mt) else m y) (e := j + 2) hx B0 X0 T hl hu (by omega) (by omega) e1 e2 e3 e4 rfl hnd' hoo ⟨hz.1, hz.2.1, hlen⟩ (fun o ho q => ?_) F N ?_
    · obtain ⟨v, hv, hv'⟩ := pos_of_ov e6 ho
      rcases List.mem_append.mp hv with hv | hv
      · exact hap v hv j hPj (hv'.trans q)
      · obtain ⟨j', hj', e7⟩ := pos_WS hv
        have := hlt j' hj'
        rw [← hv', e7] at q
        omega
    · intro m' h' tk' oo' O' F' a1 a2 a3 a4 N' a5 a7 a8
      exact ⟨rfl, m', Lg oD oo' cD oc C O' [], h', tk', rfl, F', by rw [← lg_fz]; exact N', nd_fz.mpr a7, oo', O', rfl, a1, a2, a3, a4, a5, by rw [a8, e6, WS_snoc, List.append_assoc]⟩
  obtain ⟨oo', O', rfl, e1, e2, e3, e4, h5, e6⟩ := hJ
  exact hret m h' tk' oo' O' F' e1 e2 e3 e4 N' h5 (by rw [← adL_eq oD oo' cD oc]; exact hnd') e6
end Mine

end

section -- part FC
set_option linter.unusedVariables false
open PySem PySem.W PyProof.Rows PySem.Calls PySem.Spec
set_option maxRecDepth 100000
namespace Mine
local macro_rules | `(tactic| walk_at "eval Name") => `(tactic| (k_here; k_dflt (refine' nameX_L ?k1 ?k2 ?_ ?k3 ?k4 ?k5; (case k4 => rfl); (case k1 => k_asm); (case k2 => assumption); (case k3 => rfl); (case k5 => decide); k_whole)))
local macro_rules | `(tactic| k_mem) => `(tactic| assumption)
local macro_rules | `(tactic| walk_at "getMethod ref") => `(tactic| first
  | ((with_reducible show wpAny _ _ (getMethod (Value.ref 145) (PySem.Str.ofString "finditer") _) _ _ _); k_dflt (refine pat_method slot_finditer type_finditer ((pat_D (by k_asm)).keeps (Fr.keep (by k_asm))) ?_))
  | ((with_reducible show wpAny _ _ (getMethod (Value.ref 155) (PySem.Str.ofString "finditer") _) _ _ _); k_dflt (refine pat_method slot_finditer type_finditer ((pat_H (by k_asm)).keeps (Fr.keep (by k_asm))) ?_))
  | ((with_reducible show wpAny _ _ (getMethod (Value.ref 160) (PySem.Str.ofString "finditer") _) _ _ _); k_dflt (refine pat_method slot_finditer type_finditer ((pat_O (by k_asm)).keeps (Fr.keep (by k_asm))) ?_))
  | ((with_reducible show wpAny _ _ (getMethod (Value.ref 165) (PySem.Str.ofString "finditer") _) _ _ _); k_dflt (refine pat_method slot_finditer type_finditer ((pat_C (by k_asm)).keeps (Fr.keep (by k_asm))) ?_)))
local macro_rules | `(tactic| walk_at "call builtin:re.Pattern.finditer") => `(tactic| refine Stop.out ?_)
local macro_rules | `(tactic| walk_at "getMethod ref") => `(tactic| ((with_reducible show wpAny _ _ (getMethod (Value.ref _) (PySem.Str.ofString "setdefault") _) _ _ _); k_dflt (refine kob_method (knd := PySem.strKind _ _) PySem.F.slot_dict_setdefault PySem.F.type_dict_setdefault (by k_asm) (by k_mem) (by k_asm) ?_)))
local macro_rules | `(tactic| walk_at "newTuple") => `(tactic| refine Stop.out ?_)
local macro_rules | `(tactic| walk_at "newList") => `(tactic| refine Stop.out ?_)
local macro_rules | `(tactic| walk_at "call builtin:dict.setdefault") => `(tactic| refine Stop.out ?_)
noncomputable def stA : Stmt := nthS (ifBody bodyF[6]?) 2
set_option maxHeartbeats 2000000 in
theorem setA {w : World} {mean : ExcName → Option Value} {mg mb : Str → Option Value}
    {dp un : Nat} {gd : Option (List Code)} {cn : Str} {cs : Scope} {a : Addr} {ccd cd : Value} {cl : List (Str × Addr)} {outer : List Env} {base h₀ : Heap} {L Lc : Addr} {m : Str → Option Value} {s : Shared} {Q : Flow → Shared → Prop} {E : Value → Shared → Prop} {v0 : Value}
    (B : Below (ktrTop dp un gd cn cs Lc a ccd cl outer) base (envX cn cs Lc a ccd cl :: outer) h₀) (X : (hd.heap_39 w.params).In h₀) (T : Top hd.view_39 (looseW hd.view_39 LS) mean mg mb h₀) (hl : dp + 8 < recursionLimit) (hu : un + 64 < cLine)
    {oD cD : Addr} {oo oc : Obj} {C : List CEnt} {O : List OEnt}
    (hm1 : m (Str.ofString "text") = some v0) (hm2 : m (Str.ofString "openers") = some (.ref oD)) (hm3 : m (Str.ofString "closers") = some (.ref cD))
    (hnd : (AdL oD cD C O []).Nodup) (hoc : oc.IsDictOf (strKind PySem.Challenge.rw_er0025_01.row.prog w) (kvsC C)) (lo : (cD == sysModules) = false) (hz : Small C O) (hno : ∀ c ∈ C, c.tag ≠ Str.ofString "/*")
    (F : Fr h₀ L s.heap m) (N : News h₀ L s.heap (Lg oD oo cD oc C O []))
    (hret : ∀ (m' : Str → Option Value) (h' : Heap) (tk' : Nat) (oc' : Obj) (c : CEnt), Fr h₀ L h' m' → m' (Str.ofString "text") = some v0 → m' (Str.ofString "openers") = some (.ref oD) → m' (Str.ofString "closers") = some (.ref cD) → m' (Str.ofString "starts") = some (.ref c.s) → m' (Str.ofString "ends") = some (.ref c.e) →
      News h₀ L h' (Lg oD oo cD oc' (C ++ [c]) O []) → oc'.IsDictOf (strKind PySem.Challenge.rw_er0025_01.row.prog w) (kvsC (C ++ [c])) → (AdL oD cD (C ++ [c]) O []).Nodup → c.tag = Str.ofString "/*" → c.xs = [] → c.ys = [] → Q .next { s with heap := h', toks := tk' }) :
    wpAny (model PySem.Challenge.rw_er0025_01.row.prog w) ((ktrTop dp un gd cn cs Lc a ccd cl outer).deeper (envF L cd)) (exec stA (envF L cd)) Q E s := by
  revert X; w_top off; k_fill; intro X
  conv => arg 3; arg 1; whnf
  conv => arg 3; arg 2; unfold envF; unfold scopeF; arg 2; whnf
  conv => arg 2; arg 2; unfold envF; unfold scopeF; arg 2; whnf
  k_steps
  refine Stop.into ?_
  refine newLst_F (by assumption) (by assumption) (fun l1 h1 F1 N1 f1 => ?_) (by size_fits)
  k_steps
  refine Stop.into ?_
  refine newLst_F (by assumption) (by assumption) (fun l2 h2 F2 N2 f2 => ?_) (by size_fits)
  k_steps
  refine Stop.into ?_
  refine newTup_F (by assumption) (by assumption) (fun t1 h3 F3 N3 f3 => ?_) (by size_fits)
  k_steps
  refine Stop.into ?_
  refine setdef1 (G := []) F3 N3 (fun g hg => nomatch hg) hnd hoc lo hz (adL_of_news (oo := oo) (oc := oc) (fun q hq => hq) f1) (adL_of_news (oo := oo) (oc := oc) (fun q hq => .tail _ hq) f2) (adL_of_news (oo := oo) (oc := oc) (fun q hq => .tail _ (.tail _ hq)) f3) (fun q => f2 _ (.head _) q) (fun q => f3 _ (.tail _ (.head _)) q.symm) (fun q => f3 _ (.head _) q.symm) ?_
  intro h4 oc4 pre c post F4 N5 hoc4 hnd4 htag hx4 hy4 hb
  rcases hb with rfl | ⟨_, rfl, rfl, e1, e2⟩
  · exact absurd htag (hno c (by simp))
  have k1 : (c.t, tupObj [.ref c.s, .ref c.e]) ∈ ([] ++ Lg oD oo cD oc4 (pre ++ c :: []) O []) := by simp [Lg, CEnt.objs]
  k_steps
  rename_i hC FF NN
  exact hret _ hC _ oc4 c FF hm1 hm2 hm3 rfl rfl NN hoc4 hnd4 htag e1 e2
noncomputable def stC : Stmt := nthS (ifBody bodyF[6]?) 3
set_option maxHeartbeats 2000000 in
theorem forC {w : World} {mean : ExcName → Option Value} {mg mb : Str → Option Value} {x : Str} {tk0 : Tok} (hx : x.cps.size ≤ 16)
    {dp un : Nat} {gd : Option (List Code)} {cn : Str} {cs : Scope} {a : Addr} {ccd cd : Value} {cl : List (Str × Addr)} {outer : List Env} {base h₀ : Heap} {L Lc : Addr} {m : Str → Option Value} {s : Shared} {Q : Flow → Shared → Prop}
    (B : Below (ktrTop dp un gd cn cs Lc a ccd cl outer) base (envX cn cs Lc a ccd cl :: outer) h₀) (X : (hd.heap_39 w.params).In h₀) (T : Top hd.view_39 (looseW hd.view_39 LS) mean mg mb h₀) (hl : dp + 8 < recursionLimit) (hu : un + 64 < cLine)
    {oD cD : Addr} {oo oc : Obj} {C : List CEnt} {c : CEnt} {O : List OEnt}
    (hm1 : m (Str.ofString "text") = some (.str x tk0)) (hm2 : m (Str.ofString "openers") = some (.ref oD)) (hm3 : m (Str.ofString "closers") = some (.ref cD)) (hm4 : m (Str.ofString "starts") = some (.ref c.s)) (hm5 : m (Str.ofString "ends") = some (.ref c.e))
    (hnd : (AdL oD cD (C ++ [c]) O []).Nodup) (hxs : c.xs = []) (hys : c.ys = [])
    (F : Fr h₀ L s.heap m) (N : News h₀ L s.heap (Lg oD oo cD oc (C ++ [c]) O []))
    (hret : ∀ (m' : Str → Option Value) (h' : Heap) (tk' : Nat) (c' : CEnt), Fr h₀ L h' m' → m' (Str.ofString "openers") = some (.ref oD) → m' (Str.ofString "closers") = some (.ref cD) →
      News h₀ L h' (Lg oD oo cD oc (C ++ [c']) O []) → (AdL oD cD (C ++ [c']) O []).Nodup → c'.tag = c.tag → c'.t = c.t → c'.xs.map (·.1) = (places x.cps.size (PC x)).map (fun (j : Nat) => (j : Int)) → c'.ys.map (·.1) = (places x.cps.size (PC x)).map (fun (j : Nat) => ((j + 2 : Nat) : Int)) →
      Q .next { s with heap := h', toks := tk' }) :
    wpN (modelA PySem.Challenge.rw_er0025_01.row.prog w) ((ktrTop dp un gd cn cs Lc a ccd cl outer).deeper (envF L cd)) (exec stC (envF L cd)) Q s := by
  obtain ⟨pt⟩ := patC (x := x) (by omega)
  conv => arg 3; arg 1; whnf
  refine N_For ?_
  refine N_any (any_A ?_)
  have B0 := B
  have X0 := X
  revert X; w_top off; k_fill; intro X
  conv => arg 3; arg 2; unfold envF; unfold scopeF; arg 2; whnf
  conv => arg 2; arg 2; unfold envF; unfold scopeF; arg 2; whnf
  k_steps
  refine Stop.into ?_
  refine call_finditer (by assumption) (by assumption) ((pat_C X).keeps (Fr.keep (by assumption))) (by omega) (fun it bm sc h1 F1 N1 l1 l2 l3 tk1 => ?_)
  k_steps
  refine N_any (any_A (iter_self (bm := bm) ((N1 _ (.head _)).1) ?_))
  have hN : News h₀ L h1 (Lg oD oo cD oc (C ++ [c]) O [] ++ FzOf 165 x tk0 sc bm it (0, false)) := fun q hq => N1 q (by
    simp only [FzOf, List.mem_append, List.mem_cons, List.not_mem_nil, or_false] at hq ⊢
    grind)
  have hN2 : ((Lg oD oo cD oc (C ++ [c]) O [] ++ FzOf 165 x tk0 sc bm it (0, false)).map (·.1)).Nodup := by
    rw [List.map_append, List.nodup_append]
    refine ⟨by rw [adL_eq]; exact hnd, ?_, ?_⟩
    · simp only [FzOf, List.map_cons, List.map_nil, List.nodup_cons, List.mem_cons, List.not_mem_nil, or_false, not_or, not_false_eq_true, List.nodup_nil, and_true]
      have : sc < it := Nat.lt_trans l2 l3
      exact ⟨⟨Nat.ne_of_lt l2, Nat.ne_of_lt this⟩, Nat.ne_of_lt l3⟩
    · intro q hq r hr
      obtain ⟨q', hq', rfl⟩ := List.mem_map.mp hq
      have h0 := l1 q' hq'
      simp only [FzOf, List.map_cons, List.map_nil, List.mem_cons, List.not_mem_nil, or_false] at hr
      have h2 := Nat.lt_trans h0 l2
      have h3 := Nat.lt_trans h2 l3
      rcases hr with rfl | rfl | rfl
      · exact Nat.ne_of_lt h0
      · exact Nat.ne_of_lt h2
      · exact Nat.ne_of_lt h3
  refine N_matches pt (cd := cd) (by show un + 3 + 3 < cLine; omega) rfl (pat_C X0) (fun done m led => ∃ c1 : CEnt, led = Lg oD oo cD oc (C ++ [c1]) O [] ∧ m (Str.ofString "openers") = some (.ref oD) ∧ m (Str.ofString "closers") = some (.ref cD) ∧ m (Str.ofString "starts") = some (.ref c1.s) ∧ m (Str.ofString "ends") = some (.ref c1.e) ∧
    c1.tag = c.tag ∧ c1.t = c.t ∧ c1.xs.map (·.1) = done.map (fun (j : Nat) => (j : Int)) ∧ c1.ys.map (·.1) = done.map (fun (j : Nat) => ((j + 2 : Nat) : Int))) ?turn (fun m led h' tk' hJ F' N' hnd' => ?_) (by assumption) hN hN2 ⟨c, rfl, hm2, hm3, hm4, hm5, rfl, rfl, by rw [hxs]; rfl, by rw [hys]; rfl⟩
  case turn =>
    intro done j rs m led st mt sp li e hJ F N hnd
    obtain ⟨c1, rfl, e1, e2, e3, e4, e5, e6, e7, e8⟩ := hJ
    have hdone : done.length ≤ 16 := by
      have h1 := len_places x.cps.size (PC x)
      rw [e, List.length_append] at h1
      omega
    have hnd' := nd_fz.mp hnd
    rw [← lg_fz] at N
    have l7 := congrArg List.length e7
    have l8 := congrArg List.length e8
    rw [List.length_map, List.length_map] at l7 l8
    refine turnC (m := fun y => if y = Str.ofString "m" then some (.ref mt) else m y) (pre := C) (c := c1) (post := []) (e := j + 2) B0 X0 T hl hu e3 e1 e2 e4 rfl hnd' (by omega) (by omega) F N ?_
    intro m' h' tk' c' F' a1 a2 a3 a4 N' a7 a8 a9 a10 a11
    exact ⟨rfl, m', Lg oD oo cD oc (C ++ [c']) O [], h', tk', rfl, F', by rw [← lg_fz]; exact N', nd_fz.mpr a7, c', rfl, a2, a3, a1, a4, a8.trans e5, a9.trans e6, by rw [a10, e7, List.map_append]; rfl, by rw [a11, e8, List.map_append]; rfl⟩
  obtain ⟨c1, rfl, e1, e2, e3, e4, e5, e6, e7, e8⟩ := hJ
  exact hret m h' tk' c1 F' e1 e2 N' (by rw [← adL_eq oD oo cD oc]; exact hnd') e5 e6 e7 e8
end Mine

end

section -- part FR
set_option linter.unusedVariables false
open PySem PySem.W PyProof.Rows PySem.Calls PySem.Spec
set_option maxRecDepth 100000
namespace Mine
local macro_rules | `(tactic| walk_at "eval Name") => `(tactic| (k_here; k_dflt (refine' nameX_L ?k1 ?k2 ?_ ?k3 ?k4 ?k5; (case k4 => rfl); (case k1 => k_asm); (case k2 => assumption); (case k3 => rfl); (case k5 => decide); k_whole)))
local macro_rules | `(tactic| k_mem) => `(tactic| assumption)
local macro_rules | `(tactic| k_all) => `(tactic| assumption)
noncomputable def stR : Stmt := nthS bodyF 7
set_option maxHeartbeats 2000000 in
theorem retF {w : World} {mean : ExcName → Option Value} {mg mb : Str → Option Value}
    {dp un : Nat} {gd : Option (List Code)} {cn : Str} {cs : Scope} {a : Addr} {ccd cd : Value} {cl : List (Str × Addr)} {outer : List Env} {base h₀ : Heap} {L Lc : Addr} {m : Str → Option Value} {s : Shared} {Q : Flow → Shared → Prop} {E : Value → Shared → Prop} {v0 : Value}
    (B : Below (ktrTop dp un gd cn cs Lc a ccd cl outer) base (envX cn cs Lc a ccd cl :: outer) h₀) (X : (hd.heap_39 w.params).In h₀) (T : Top hd.view_39 (looseW hd.view_39 LS) mean mg mb h₀) (hl : dp + 8 < recursionLimit) (hu : un + 64 < cLine)
    {oD cD : Addr} {oo oc : Obj} {C : List CEnt} {O : List OEnt}
    (hm2 : m (Str.ofString "openers") = some (.ref oD)) (hm3 : m (Str.ofString "closers") = some (.ref cD))
    (F : Fr h₀ L s.heap m) (N : News h₀ L s.heap (Lg oD oo cD oc C O []))
    (hret : ∀ (sp d : Addr) (h' : Heap) (tk' : Nat), Fr h₀ L h' m → News h₀ L h' ((sp, (⟨.ref 191, some d, .plain, #[some (.ref cD), some (.ref oD)]⟩ : Obj)) :: (d, dictOf [] 0) :: Lg oD oo cD oc C O []) → (∀ p ∈ Lg oD oo cD oc C O [], p.1 ≠ sp ∧ p.1 ≠ d) → d ≠ sp → Q (.ret (.ref sp)) { s with heap := h', toks := tk' }) :
    wpAny (model PySem.Challenge.rw_er0025_01.row.prog w) ((ktrTop dp un gd cn cs Lc a ccd cl outer).deeper (envF L cd)) (exec stR (envF L cd)) Q E s := by
  revert X; w_top off; k_fill; intro X
  conv => arg 3; arg 1; whnf
  conv => arg 3; arg 2; unfold envF; unfold scopeF; arg 2; whnf
  conv => arg 2; arg 2; unfold envF; unfold scopeF; arg 2; whnf
  k_steps
  k_dflt (refine' call_cls (C := 191) ?k1 ?k2 ?k3 ?k4 ?k5 ?k6 ?_)
  case k1 => k_asm
  case k2 => k_asm
  case k3 => k_asm
  case k4 => k_is
  case k5 => k_is
  case k6 => k_is
  k_whole
  intro x1 d1 h1 F1 N1 l1 l2
  have hx1 : ∀ p ∈ Lg oD oo cD oc C O [], p.1 ≠ x1 := fun p hp => Nat.ne_of_lt (Nat.lt_trans (l1 p hp) l2)
  k_lt2 l2
  k_dflt (refine' code_def ?k1 ?k2 ?k3 ?k4 ?k5 ?kA ?kF ?kK ?k6 ?k7 ?k8 ?k9 ?kB ?_ ?c2 ?c3 ?c4 ?c5)
  case kA => exact rfl
  case kF => exact rfl
  case kK => exact rfl
  case k1 => k_asm
  case k2 => k_asm
  case k3 => k_asm
  case k4 => k_asm
  case k5 => k_asm
  case k6 => k_is
  case k7 => k_is
  case k8 => ktr_room
  case k9 => exact BindsTo.of_eq rfl
  case c5 => decide
  case kB => exact locs rfl
  case c2 => exact rfl
  case c3 => exact rfl
  case c4 => exact rfl
  k_whole
  intro g' L' h2 FG' F2 N2 B2 X2 T2
  try dsimp only
  try k_fold
  k_steps
  exact hret x1 d1 _ _ (by assumption) (by assumption) (fun p hp => ⟨hx1 p hp, Nat.ne_of_lt (l1 p hp)⟩) (Nat.ne_of_lt l2)
end Mine

end

section -- part P1
set_option linter.unusedVariables false
open PySem PySem.W PyProof.Rows PySem.Calls PySem.Spec
set_option maxRecDepth 100000
namespace Mine
theorem getD_of_lt {x : Array Nat} {i : Nat} (h : i < x.size) : x.getD i 0 = x[i] := by simp [Array.getD, h]
theorem extract_two {x : Array Nat} {i : Nat} (h : i + 2 ≤ x.size) : (x.extract i (i + 2)).toList = [x.getD i 0, x.getD (i + 1) 0] := by
  rw [getD_of_lt (by omega), getD_of_lt (by omega)]
  apply List.ext_getElem
  · simp; omega
  · intro k h1 h2
    simp at h2
    have : k = 0 ∨ k = 1 := by omega
    rcases this with rfl | rfl <;> simp
theorem sub_two {x : Str} {a b i : Nat} (h : i + 2 ≤ x.cps.size) : Builtin.Str.subAt x ⟨#[a, b]⟩ i = (x.cps.getD i 0 == a && x.cps.getD (i + 1) 0 == b) := by
  show (x.cps.extract i (i + 2) == #[a, b]) = _
  have e : (x.cps.extract i (i + 2) == #[a, b]) = ((x.cps.extract i (i + 2)).toList == [a, b]) := by
    rw [Bool.eq_iff_iff, beq_iff_eq, beq_iff_eq]
    constructor
    · intro q; rw [q]
    · intro q; exact Array.toList_inj.mp (by rw [q])
  rw [e, extract_two h]
  simp
theorem str_slash : Str.ofString "/*" = ⟨#[47, 42]⟩ := by rfl
theorem str_dollar : Str.ofString "$" = ⟨#[36]⟩ := by rfl
theorem hasO_iff {x : Str} : hasO x = true ↔ ∃ i, i + 1 < x.cps.size ∧ x.cps.getD i 0 = 47 ∧ x.cps.getD (i + 1) 0 = 42 := by
  unfold hasO
  rw [StrLaws.found_iff, str_slash]
  constructor
  · rintro ⟨i, h1, h2⟩
    have h1' : i + 2 ≤ x.cps.size := h1
    rw [sub_two h1'] at h2
    simp only [Bool.and_eq_true, beq_iff_eq] at h2
    exact ⟨i, by omega, h2⟩
  · rintro ⟨i, h1, h2⟩
    refine ⟨i, by show i + 2 ≤ x.cps.size; omega, ?_⟩
    rw [sub_two (by omega)]
    simp only [Bool.and_eq_true, beq_iff_eq]
    exact h2
theorem hasD_iff {x : Str} : hasD x = true ↔ ∃ i, i < x.cps.size ∧ x.cps.getD i 0 = 36 := by
  unfold hasD
  rw [str_dollar, StrLaws.found_one, decide_eq_true_eq, List.mem_iff_getElem]
  constructor
  · rintro ⟨i, h1, h2⟩
    have h1' : i < x.cps.size := by simpa using h1
    exact ⟨i, h1', by rw [getD_of_lt h1']; simpa using h2⟩
  · rintro ⟨i, h1, h2⟩
    exact ⟨i, by simpa using h1, by rw [getD_of_lt h1] at h2; simpa using h2⟩
theorem places_nil {n : Nat} {P : Nat → Prop} [DecidablePred P] (h : ∀ i, i < n → ¬ P i) : places n P = [] := by
  apply List.eq_nil_iff_forall_not_mem.mpr
  intro i hi
  obtain ⟨h1, h2⟩ := mem_places.mp hi
  exact h i h1 h2
theorem emptyD {x : Str} (h : hasD x = false) : places x.cps.size (PD x) = [] := places_nil fun i hi hP => by
  have := bD_iff.mp hP
  have : hasD x = true := hasD_iff.mpr ⟨i, this.1, this.2.1⟩
  rw [h] at this; cases this
theorem emptyH {x : Str} (h : hasO x = false) : places x.cps.size (PH x) = [] := places_nil fun i hi hP => by
  have := bH_iff.mp hP
  have : hasO x = true := hasO_iff.mpr ⟨i, by have := this.1; omega, this.2.1, this.2.2.1⟩
  rw [h] at this; cases this
theorem emptyO {x : Str} (h : hasO x = false) : places x.cps.size (PO x) = [] := places_nil fun i hi hP => by
  have := bO_iff.mp hP
  have : hasO x = true := hasO_iff.mpr ⟨i, this.1, this.2.1, this.2.2.1⟩
  rw [h] at this; cases this
/-- all that find knows of a text -/
def VAll (x : Str) : VT := VD x (places x.cps.size (PD x)) ++ (if hasO x = true then [(Str.ofString "/*", (places x.cps.size (PC x)).map (fun (j : Nat) => (j : Int)), (places x.cps.size (PC x)).map (fun (j : Nat) => ((j + 2 : Nat) : Int)))] else [])
def WAll (x : Str) : WT := WD x (places x.cps.size (PD x)) ++ WS 3 119 (places x.cps.size (PH x)) ++ WS 2 123 (places x.cps.size (PO x))
theorem tags_put {V : VT} {t : Str} {j e : Int} {v : Str × List Int × List Int} (h : v ∈ put V t j e) : v.1 = t ∨ ∃ u ∈ V, u.1 = v.1 := by
  unfold put at h
  split at h
  · obtain ⟨u, hu, rfl⟩ := List.mem_map.mp h
    refine .inr ⟨u, hu, ?_⟩
    split <;> rfl
  · rcases List.mem_append.mp h with h | h
    · exact .inr ⟨v, h, rfl⟩
    · simp at h; subst h; exact .inl rfl
theorem tags_VD {x : Str} : ∀ (n : Nat) (l : List Nat), l.length = n → ∀ v ∈ VD x l, ∃ j ∈ l, v.1 = tagD x j := by
  intro n
  induction n with
  | zero =>
    intro l hl
    obtain rfl := List.eq_nil_of_length_eq_zero hl
    intro v hv; cases hv
  | succ n ih =>
    intro l hl v hv
    rcases snoc_cases l with rfl | ⟨i, a, rfl⟩
    · cases hl
    · rw [VD_snoc] at hv
      rw [List.length_append, List.length_singleton] at hl
      rcases tags_put hv with h | ⟨u, hu, hu'⟩
      · exact ⟨a, by simp, h⟩
      · obtain ⟨j, hj, e⟩ := ih i (by omega) u hu
        exact ⟨j, by simp [hj], by rw [← hu']; exact e⟩
/-- a dollar tag is no stroke and star -/
theorem tagD_ne {x : Str} {j : Nat} (h : PD x j) : tagD x j ≠ Str.ofString "/*" := by
  intro q
  have hat := bD_iff.mp h
  have e : (tagD x j).cps = #[47, 42] := by rw [q, str_slash]
  have hle : j < endD x j := by unfold endD stopD; omega
  have h0 : (tagD x j).cps[0]? = some 36 := by
    show (x.cps.extract j (endD x j))[0]? = _
    have h1 := hat.1
    have h2 := hat.2.1
    have h3 : endD x j ≤ x.cps.size := hat.2.2.1
    rw [Array.getElem?_extract]
    have : 0 < min (endD x j) x.cps.size - j := by omega
    rw [if_pos this, Nat.add_zero, Array.getElem?_eq_getElem h1, ← getD_of_lt h1, h2]
  rw [e] at h0
  cases h0
end Mine

end

section -- part P2
set_option linter.unusedVariables false
open PySem PySem.W PyProof PyProof.Rows PySem.Calls PySem.Spec PySem.Builtin PySem.Builtin.Str
set_option maxRecDepth 100000
namespace Mine
theorem slice_nat (x : Str) (i k : Nat) : Txt.slice x (some (i : Int)) (some (k : Int)) = ⟨x.cps.extract i k⟩ := by
  have e : strSliceIndices (some (i : Int)) (some (k : Int)) 1 x.length = (List.range (min k x.length - min i x.length)).map fun a => min i x.length + a := by
    have e0 : strSliceIndices (some (i : Int)) (some (k : Int)) 1 x.length = sliceRange (max 0 (min (if (i : Int) < 0 then (i : Int) + x.length else i) x.length)) (max 0 (min (if (k : Int) < 0 then (k : Int) + x.length else k) x.length)) 1 := rfl
    rw [e0, if_neg (by omega), if_neg (by omega)]
    have e1 : max (0 : Int) (min (i : Int) x.length) = ((min i x.length : Nat) : Int) := by omega
    have e2 : max (0 : Int) (min (k : Int) x.length) = ((min k x.length : Nat) : Int) := by omega
    rw [e1, e2]
    unfold sliceRange
    simp only [show (1 : Int) > 0 by decide, if_true, Int.ediv_one]
    have e3 : (if ((min i x.length : Nat) : Int) < ((min k x.length : Nat) : Int) then ((min k x.length : Nat) : Int) - ((min i x.length : Nat) : Int) + 1 - 1 else 0).toNat = min k x.length - min i x.length := by
      split <;> omega
    rw [e3]
    refine List.map_congr_left fun a _ => ?_
    omega
  unfold Txt.slice
  split
  · rename_i h
    rw [e] at h
    simp at h
    have hz : x.length = x.cps.size := rfl
    apply Str.ext'
    show x.cps = x.cps.extract i k
    symm
    by_cases h0 : x.cps.size = 0
    · apply Array.ext
      · rw [Array.size_extract]; omega
      · intro a h1 h2; omega
    · have : i = 0 := by omega
      subst this
      apply Array.ext
      · rw [Array.size_extract]; omega
      · intro a h1 h2; simp
  · rw [e]
    apply Str.ext'
    show (((List.range (min k x.length - min i x.length)).map fun a => min i x.length + a).filterMap (x.cps[·]?)).toArray = x.cps.extract i k
    have hz : x.length = x.cps.size := rfl
    rw [List.filterMap_map]
    have e4 : (List.range (min k x.length - min i x.length)).filterMap ((x.cps[·]?) ∘ fun a => min i x.length + a) = (x.cps.extract i k).toList := by
      have e5 : (List.range (min k x.length - min i x.length)).filterMap ((x.cps[·]?) ∘ fun a => min i x.length + a) = (List.range (min k x.length - min i x.length)).map (fun a => x.cps.getD (min i x.length + a) 0) := by
        have key : ∀ l : List Nat, (∀ a ∈ l, a < min k x.length - min i x.length) → l.filterMap ((x.cps[·]?) ∘ fun a => min i x.length + a) = l.map (fun a => x.cps.getD (min i x.length + a) 0) := by
          intro l
          induction l with
          | nil => intro _; rfl
          | cons a l ih =>
            intro hl
            have := hl a (.head _)
            have e6 : ((x.cps[·]?) ∘ fun a => min i x.length + a) a = some (x.cps.getD (min i x.length + a) 0) := by
              show x.cps[min i x.length + a]? = _
              rw [Array.getElem?_eq_getElem (by omega), getD_of_lt (by omega)]
            rw [List.filterMap_cons, e6, List.map_cons, ih fun b hb => hl b (.tail _ hb)]
        exact key _ fun a ha => List.mem_range.mp ha
      rw [e5]
      apply List.ext_getElem
      · simp; omega
      · intro a h1 h2
        simp at h1
        rw [List.getElem_map, List.getElem_range, getD_of_lt (by omega)]
        have : min i x.length = i := by omega
        simp [this]
    rw [e4]
theorem extract_one {x : Array Nat} {i : Nat} (h : i < x.size) : x.extract i (i + 1) = #[x.getD i 0] := by
  apply Array.ext
  · simp; omega
  · intro k h1 h2
    simp at h2
    subst h2
    rw [getD_of_lt h]
    simp
theorem item_nat {x : Str} {j : Nat} (h : j < x.length) : Txt.item x (j : Int) = ⟨#[x.cps.getD j 0]⟩ := item_at (by omega) (by omega) (by omega)
theorem one_eq {a b : Nat} : ((⟨#[a]⟩ : Str) == ⟨#[b]⟩) = (a == b) := by
  rw [Bool.eq_iff_iff, beq_iff_eq, beq_iff_eq]
  constructor
  · intro h; injection h with h; injection h with h; injection h
  · rintro rfl; rfl
theorem slice_dollar {x : Str} {k : Nat} : (Txt.slice x (some (k : Int)) (some ((k : Int) + 1)) == Str.ofString "$") = (decide (k < x.cps.size) && x.cps.getD k 0 == 36) := by
  have e : ((k : Int) + 1) = ((k + 1 : Nat) : Int) := by omega
  rw [e, slice_nat, str_dollar]
  by_cases h : k < x.cps.size
  · rw [extract_one h, one_eq, decide_eq_true h]; rfl
  · rw [decide_eq_false h, Bool.false_and, beq_eq_false_iff_ne]
    intro q
    injection q with q
    have := congrArg Array.size q
    rw [Array.size_extract] at this
    simp at this
    omega
theorem in_letters {x : Str} {k : Nat} (h : k < x.length) : (!(Builtin.Str.occurrences (Str.ofString "abAB") (Txt.item x (k : Int)) 0 (Str.ofString "abAB").length 1).isEmpty) = isL (x.cps.getD k 0) := by
  rw [item_nat h, StrLaws.found_one]
  have e : (Str.ofString "abAB").cps.toList = [97, 98, 65, 66] := by rfl
  rw [e]
  unfold isL
  generalize x.cps.getD k 0 = c
  rw [Bool.eq_iff_iff]
  simp [or_assoc]
/-- the loop's end is the engine's -/
theorem stop_unique {x : Array Nat} {n j k : Nat} (h1 : j + 1 ≤ k) (h2 : k ≤ max (j + 1) n) (hall : ∀ i, j + 1 ≤ i → i < k → i < n ∧ isL (x.getD i 0) = true) (hk : ¬ (k < n ∧ isL (x.getD k 0) = true)) : stopD x n j = k := by
  have ha := lets_are x (n - (j + 1)) (j + 1)
  have hs := lets_stop x (n - (j + 1)) (j + 1)
  have hl := lets_le x (n - (j + 1)) (j + 1)
  unfold stopD
  generalize lets x (n - (j + 1)) (j + 1) = l at *
  by_cases q : j + 1 + l < k
  · have := hall (j + 1 + l) (by omega) q
    have h3 := hs (by omega)
    rw [h3] at this; cases this.2
  · by_cases q2 : k < j + 1 + l
    · have := ha k h1 q2
      exact absurd ⟨by omega, this⟩ hk
    · omega
end Mine

end

section -- part TagC
set_option linter.unusedVariables false
open PySem PySem.W PyProof PyProof.Rows PySem.Calls PySem.Spec
set_option maxRecDepth 100000
namespace Mine
local macro_rules | `(tactic| walk_at "no key") => `(tactic| skip)
local macro_rules | `(tactic| walk_at "exec While") => `(tactic| refine Stop.out ?_)
set_option maxHeartbeats 2000000 in
theorem tag_gives {w : World} {mean : ExcName → Option Value} {mg mb : Str → Option Value} {x : Str} {j : Nat} {tx ti : Tok} (h1 : j < x.length) (hsz : x.length ≤ 16) (hal : ∀ i, i < x.cps.size → x.cps.getD i 0 ∈ AL) :
    Gives w mean mg mb 221 1 (fun _ => True) [.str x tx, .int (j : Int) ti] (fun v => (PD x j → ∃ t, v = .str (tagD x j) t) ∧ (¬ PD x j → v = .none)) := by
  unfold Gives; w_top off; k_fill
  intro dp un gd cn cs a ccd cl outer A₀ base h₀ L m news s Q E B F X N T hk hp hl hu hret
  refine wpAny_call ?_
  k_dflt cell_enter
  k_steps
  case' refine'_31.refine'_4.refine'_4.refine_1.refine'_4 =>
    rename_i hne _ _ _ _
    refine hret _ _ _ ⟨fun hP => ?_, fun _ => rfl⟩ (by assumption) (by assumption)
    rw [item_nat h1, str_dollar, bne, one_eq, (bD_iff.mp hP).2.1] at hne
    cases hne
  case' refine'_31.refine'_4.refine'_4.refine_2.refine'_4.refine'_4 =>
    refine Stop.into ?_
    refine While_up (i := Str.ofString "end") (c := fun k => decide (k < x.length) && isL (x.cps.getD k.toNat 0)) (K := max ((j : Int) + 1) x.length) (by with_reducible assumption) (by with_reducible assumption) (by with_unfolding_all rfl) ?gtest ?gturn ?stop ?done
    case' gtest =>
      intro k t h₁ tk₁ hk F₁ N₁
      obtain ⟨kn, rfl⟩ : ∃ kn : Nat, k = (kn : Int) := ⟨k.toNat, by omega⟩
      k_steps
      all_goals first
        | exact ⟨_, _, rfl, fun _ _ e => e⟩
        | skip
      all_goals first
        | (rename_i hz; rw [decide_eq_true (by omega), Bool.true_and, Int.toNat_natCast, ← in_letters (by omega), hz]; rfl)
        | (rw [decide_eq_false (by omega)]; rfl)
    case' gturn =>
      intro k t h₁ tk₁ hk hc F₁ N₁
      k_steps
    case' stop =>
      refine ⟨by omega, ?_⟩
      show (decide (max ((j : Int) + 1) x.length < x.length) && isL (x.cps.getD (max ((j : Int) + 1) x.length).toNat 0)) = false
      rw [decide_eq_false (by omega), Bool.false_and]
    case' done =>
      intro k t h₁ tk₁ hk hK hall hc _ F₁ N₁
      obtain ⟨kn, rfl⟩ : ∃ kn : Nat, k = (kn : Int) := ⟨k.toNat, by omega⟩
      have hsz' : x.length = x.cps.size := rfl
      have hst : stopD x.cps x.cps.size j = kn := by
        refine stop_unique (by omega) (by omega) (fun i h1 h2 => ?_) (fun q => ?_)
        · have := hall (i : Int) (by omega) (by omega)
          simp only [Bool.and_eq_true, decide_eq_true_eq, Int.toNat_natCast] at this
          exact ⟨by omega, this.2⟩
        · rw [decide_eq_true (by omega), Bool.true_and] at hc
          rw [Int.toNat_natCast, q.2] at hc
          cases hc
      have heq : (Txt.item x (j : Int) != Str.ofString "$") = false := by assumption
      have h36 : x.cps.getD j 0 = 36 := by
        rw [item_nat h1, str_dollar, bne, one_eq] at heq
        simpa using heq
      have hyes : (Txt.slice x (some (kn : Int)) (some ((kn : Int) + 1)) == Str.ofString "$") = true → PD x j ∧ Txt.slice x (some (j : Int)) (some ((kn : Int) + 1)) = tagD x j := fun q => by
        rw [slice_dollar] at q
        simp only [Bool.and_eq_true, decide_eq_true_eq, beq_iff_eq] at q
        refine ⟨bD_iff.mpr ⟨by omega, h36, by rw [hst]; exact q.1, by rw [hst]; exact q.2⟩, ?_⟩
        rw [show ((kn : Int) + 1) = ((kn + 1 : Nat) : Int) by omega, slice_nat]
        unfold tagD endD
        rw [hst]
      have hnot : (Txt.slice x (some (kn : Int)) (some ((kn : Int) + 1)) == Str.ofString "$") = false → ¬ PD x j := fun q hP => by
        have h2 := bD_iff.mp hP
        have h3 := h2.2.2.1
        have h4 := h2.2.2.2
        rw [hst] at h3 h4
        rw [slice_dollar, decide_eq_true h3, h4] at q
        cases q
      k_steps
      all_goals first
        | exact hret _ _ _ ⟨fun _ => ⟨_, by rw [(hyes (by assumption)).2]⟩, fun hP => absurd (hyes (by assumption)).1 hP⟩ (by assumption) (by assumption)
        | exact hret _ _ _ ⟨fun hP => absurd hP (hnot (by assumption)), fun _ => rfl⟩ (by assumption) (by assumption)
end Mine

end

section -- part RangeL
set_option linter.unusedVariables false
open PySem PySem.W PyProof.Rows PySem.Calls
set_option maxRecDepth 100000
namespace Mine
theorem rsize_one {a b : Int} {n : Nat} (h : (n : Int) = max 0 (b - a)) : Builtin.Range.rangeSize a b 1 = (n : Int) := by
  unfold Builtin.Range.rangeSize
  simp only [show (1 : Int) > 0 by decide, if_true, Int.ediv_one]
  split <;> omega
section
variable {prog : Program} {w : World} {A : Around} {E : Value → Shared → Prop} {s : Shared} {h₀ : Heap} {env : Env} {x : Str} {body : List Stmt} {Q : Flow → Shared → Prop}
/-- a loop over a range with an unchanged ledger -/
theorem range_loop {r : Addr} {a₀ b₀ : Int} {t₀ u₀ v₀ : Tok} {n : Nat} {m₀ : Str → Option Value} {news : List (Addr × Obj)} (J : Nat → (Str → Option Value) → Prop)
    (hh : A.handled = none) (hr : IsRange s.heap r a₀ b₀ 1 t₀ u₀ v₀) (hsmall : Builtin.Range.small a₀ b₀ 1 = true) (hn : Builtin.Range.rangeSize a₀ b₀ 1 = (n : Int)) (F : Fr h₀ env.locals s.heap m₀) (N : News h₀ env.locals s.heap news) (hj : J 0 m₀)
    (turn : ∀ i t m₁ h tk own, i < n → J i m₁ → Fr h₀ env.locals h (fun y => if y = x then some (.int (a₀ + (i : Int)) t) else m₁ y) → News h₀ env.locals h (news ++ own) →
      wpAny (model prog w) A (execs body env) (fun f s₃ => match f with
        | .ret v => Q (.ret v) s₃
        | .brk => False
        | _ => Stop (∃ h' tk' m' more, s₃ = { s with heap := h', toks := tk' } ∧ Fr h₀ env.locals h' m' ∧ News h₀ env.locals h' (more ++ (news ++ own)) ∧ J (i + 1) m')) E { s with heap := h, toks := tk })
    (done : ∀ m₁ h tk, J n m₁ → Fr h₀ env.locals h m₁ → News h₀ env.locals h news → Q .next { s with heap := h, toks := tk }) :
    wpAny (model prog w) A (pyIter (.ref r)) (fun it s₂ => LoopAtV prog w A h₀ env x body Q E it s₂) E s := by
  refine wpAny_pyIter_range hr hsmall ?_
  have W : Walks prog w A s.heap.objs.size [s.heap.objs.size] [s.heap.objs.size] n (fun i v => i < n ∧ ∃ t, v = .int (a₀ + i * 1) t)
      (fun i h => IsRangeIter h s.heap.objs.size (a₀ + (i : Nat) * 1) ((n : Int) - (i : Nat)) 1) := (Walks.range hh _ a₀ 1 n).bound
  refine loop_invN (fun i m nx => nx = news ∧ J i m) W ?_ ?_ ?_ ?_ (by show IsRangeIter _ _ _ _ _; rw [hn]; simpa using Heap.get?_push_size _ rfl) (F.push _) (fun p hp => ⟨Heap.get?_push_of_some _ (N p hp).1, (N p hp).2⟩) ⟨rfl, hj⟩ ?_ ?_
  · intro hm
    exact absurd F.ns.lt ((List.mem_singleton.mp hm) ▸ Nat.lt_irrefl _)
  · intro b hb
    rw [List.mem_singleton.mp hb]
    exact next_is_new F
  · intro p hp hI
    exact absurd (Heap.lt_size (N p hp).1) ((List.mem_singleton.mp hI) ▸ Nat.lt_irrefl _)
  · intro p hp hI
    exact absurd (Heap.lt_size (N p hp).1) ((List.mem_singleton.mp hI) ▸ Nat.lt_irrefl _)
  · rintro i v m₁ nx h tk own hi ⟨_, t, rfl⟩ _ hoff ⟨rfl, hJ⟩ F₁ N₁
    have e1 : a₀ + (i : Int) * 1 = a₀ + (i : Int) := by omega
    rw [e1] at F₁
    refine wpAny_mono (turn i t m₁ h tk own hi hJ F₁ N₁) (fun f s₃ hf => ?_) fun _ _ e => e
    have fin : (∃ h' tk' m' more, s₃ = { s with heap := h', toks := tk' } ∧ Fr h₀ env.locals h' m' ∧ News h₀ env.locals h' (more ++ (nx ++ own)) ∧ J (i + 1) m') → InvEndN h₀ env.locals (fun m nx' => nx' = nx ∧ J (i + 1) m) own (nx.map (·.1)) { s with heap := h, toks := tk } s₃ := by
      rintro ⟨h', tk', m', more, rfl, F', N', hJ'⟩
      exact ⟨h', tk', m', more ++ (nx ++ own), nx, rfl, F', N', fun p hp => List.mem_append_right _ (List.mem_append_left _ hp), fun p hp => List.mem_append_right _ (List.mem_append_right _ hp), rfl, rfl, hJ'⟩
    cases f with
    | ret v => exact hf
    | brk => exact hf.elim
    | next => exact fin hf
    | cont => exact fin hf
  · rintro m₁ nx h tk ⟨rfl, hJ⟩ F₁ N₁
    exact done m₁ h tk hJ F₁ N₁
end
end Mine

end

section -- part P3
set_option linter.unusedVariables false
open PySem PySem.W PyProof PyProof.Rows PySem.Calls PySem.Spec PySem.Builtin PySem.Builtin.Str
set_option maxRecDepth 100000
namespace Mine
/-- the first place from lo on where P holds -/
def firstGe (n : Nat) (P : Nat → Bool) (lo : Nat) : Option Nat := (List.range n).find? fun p => decide (lo ≤ p) && P p
theorem firstGe_some {n lo p : Nat} {P : Nat → Bool} (h1 : lo ≤ p) (h2 : p < n) (h3 : P p = true) (h4 : ∀ q, lo ≤ q → q < p → P q = false) : firstGe n P lo = some p := by
  unfold firstGe
  rw [List.find?_range_eq_some]
  refine ⟨by simp [h1, h3], List.mem_range.mpr h2, fun q hq => ?_⟩
  by_cases hl : lo ≤ q
  · simp [hl, h4 q hl hq]
  · simp [hl]
theorem firstGe_none {n lo : Nat} {P : Nat → Bool} (h : ∀ q, lo ≤ q → q < n → P q = false) : firstGe n P lo = none := by
  unfold firstGe
  rw [List.find?_eq_none]
  intro q hq
  have := List.mem_range.mp hq
  by_cases hl : lo ≤ q
  · simp [hl, h q hl this]
  · simp [hl]
theorem firstGe_spec {n lo p : Nat} {P : Nat → Bool} (h : firstGe n P lo = some p) : lo ≤ p ∧ p < n ∧ P p = true ∧ ∀ q, lo ≤ q → q < p → P q = false := by
  unfold firstGe at h
  rw [List.find?_range_eq_some] at h
  obtain ⟨h1, h2, h3⟩ := h
  simp only [Bool.and_eq_true, decide_eq_true_eq] at h1
  refine ⟨h1.1, List.mem_range.mp h2, h1.2, fun q hq hqp => ?_⟩
  have := h3 q hqp
  simpa [hq] using this
theorem firstGe_spec_none {n lo : Nat} {P : Nat → Bool} (h : firstGe n P lo = none) : ∀ q, lo ≤ q → q < n → P q = false := by
  unfold firstGe at h
  rw [List.find?_eq_none] at h
  intro q hq hqn
  have := h q (List.mem_range.mpr hqn)
  simpa [hq] using this

theorem occ_full (s sub : Str) (hi a : Nat) : ∀ (l : List Nat) (f : Nat), (forIn l ((#[a] : Array Nat), f) (StrLaws.occBody s sub hi 1)).run.fst = #[a]
  | [], f => rfl
  | b :: l, f => by
    rw [List.forIn_cons]
    unfold StrLaws.occBody
    rw [if_neg (by simp)]
    exact occ_full s sub hi a l f
theorem occ_find (s sub : Str) (hi : Nat) : ∀ (l : List Nat) (free : Nat), (∀ i ∈ l, free ≤ i) →
    (forIn l ((#[] : Array Nat), free) (StrLaws.occBody s sub hi 1)).run.fst.toList = (l.find? fun i => decide (i + sub.length ≤ hi) && subAt s sub i).toList
  | [], free, _ => rfl
  | a :: l, free, hf => by
    rw [List.forIn_cons, List.find?_cons]
    unfold StrLaws.occBody
    have ha : free ≤ a := hf a (List.mem_cons_self ..)
    by_cases hc : a + sub.length ≤ hi ∧ subAt s sub a = true
    · have c1 : (((#[] : Array Nat), free).fst.size < 1 ∧ ((#[] : Array Nat), free).snd ≤ a) ∧ a + sub.length ≤ hi := ⟨⟨by simp, ha⟩, hc.1⟩
      rw [if_pos ⟨c1, hc.2⟩]
      have e : (decide (a + sub.length ≤ hi) && subAt s sub a) = true := by rw [decide_eq_true hc.1, hc.2]; rfl
      rw [e]
      show (forIn l ((#[] : Array Nat).push a, a + sub.length) (StrLaws.occBody s sub hi 1)).run.fst.toList = [a]
      have := occ_full s sub hi a l (a + sub.length)
      rw [show (#[] : Array Nat).push a = #[a] from rfl, this]
    · have c2 : ¬ (((((#[] : Array Nat), free).fst.size < 1 ∧ ((#[] : Array Nat), free).snd ≤ a) ∧ a + sub.length ≤ hi) ∧ subAt s sub a = true) := fun h => hc ⟨h.1.2, h.2⟩
      rw [if_neg c2]
      have e : (decide (a + sub.length ≤ hi) && subAt s sub a) = false := by
        rw [Bool.and_eq_false_iff]
        by_cases h : a + sub.length ≤ hi
        · right; cases hs : subAt s sub a with
          | false => rfl
          | true => exact absurd ⟨h, hs⟩ hc
        · left; exact decide_eq_false h
      rw [e]
      exact occ_find s sub hi l free fun i hi' => hf i (List.mem_cons_of_mem _ hi')
theorem range'_find {P : Nat → Bool} {lo m p : Nat} (h1 : lo ≤ p) (h2 : p < lo + m) (h3 : P p = true) (h4 : ∀ q, lo ≤ q → q < p → P q = false) : (List.range' lo m).find? P = some p := by
  induction m generalizing lo with
  | zero => omega
  | succ m ih =>
    rw [List.range'_succ, List.find?_cons]
    by_cases e : lo = p
    · subst e; rw [h3]
    · rw [h4 lo (Nat.le_refl _) (by omega)]
      exact ih (by omega) (by omega) fun q h5 h6 => h4 q (by omega) h6
theorem range'_none {P : Nat → Bool} {lo m : Nat} (h : ∀ q, lo ≤ q → q < lo + m → P q = false) : (List.range' lo m).find? P = none := by
  rw [List.find?_eq_none]
  intro q hq
  obtain ⟨i, hi, rfl⟩ := List.mem_range'.mp hq
  rw [h _ (by omega) (by omega)]
  simp
theorem str_close : Str.ofString "*/" = ⟨#[42, 47]⟩ := by rfl
theorem close_at {x : Str} {i : Nat} : (decide (i + (Str.ofString "*/").length ≤ x.length) && subAt x (Str.ofString "*/") i) = bC x.cps x.cps.size i := by
  rw [str_close]
  by_cases h : i + 2 ≤ x.cps.size
  · rw [sub_two h]
    have e : decide (i + (⟨#[42, 47]⟩ : Str).length ≤ x.length) = true := decide_eq_true h
    rw [e]
    unfold bC
    rw [decide_eq_true (by omega), Bool.true_and]
  · have e : decide (i + (⟨#[42, 47]⟩ : Str).length ≤ x.length) = false := decide_eq_false h
    rw [e]
    unfold bC
    rw [decide_eq_false (by omega)]; rfl
/-- find from a place on -/
theorem find_close {x : Str} {lo : Nat} : Txt.find3 x (Str.ofString "*/") (lo : Int) = (match firstGe x.cps.size (bC x.cps x.cps.size) lo with | some p => (p : Int) | none => -1) := by
  have ef : fromIndex x.length (lo : Int) = lo := by unfold fromIndex; rw [if_neg (by omega)]; omega
  have e0 : Txt.find3 x (Str.ofString "*/") (lo : Int) = (match occurrences x (Str.ofString "*/") (fromIndex x.length (lo : Int)) x.length 1 with | k :: _ => (k : Int) | [] => -1) := rfl
  rw [e0, ef, StrLaws.occ_eq, occ_find x (Str.ofString "*/") x.length (List.range' lo (x.length + 1 - lo)) lo (fun i hi => by obtain ⟨k, _, rfl⟩ := List.mem_range'.mp hi; omega)]
  have ec : (fun i => decide (i + (Str.ofString "*/").length ≤ x.length) && subAt x (Str.ofString "*/") i) = fun i => bC x.cps x.cps.size i := funext fun i => close_at
  rw [ec]
  have hz : x.length = x.cps.size := rfl
  cases h : firstGe x.cps.size (bC x.cps x.cps.size) lo with
  | some p =>
    obtain ⟨h1, h2, h3, h4⟩ := firstGe_spec h
    rw [range'_find h1 (by omega) h3 h4]; rfl
  | none =>
    have hs := firstGe_spec_none h
    rw [range'_none (fun q h1 h2 => ?_)]
    · rfl
    · by_cases hq : q < x.cps.size
      · exact hs q h1 hq
      · unfold bC; rw [decide_eq_false (by omega)]; rfl
theorem slice_plus {x : Str} {k : Nat} : (Txt.slice x (some ((k : Int) + 2)) (some ((k : Int) + 3)) == Str.ofString "+") = (decide (k + 2 < x.cps.size) && x.cps.getD (k + 2) 0 == 43) := by
  have e : ((k : Int) + 2) = ((k + 2 : Nat) : Int) := by omega
  have e3 : ((k : Int) + 3) = ((k + 2 + 1 : Nat) : Int) := by omega
  have ep : Str.ofString "+" = ⟨#[43]⟩ := by rfl
  rw [e, e3, slice_nat, ep]
  by_cases h : k + 2 < x.cps.size
  · rw [extract_one h, one_eq, decide_eq_true h]; rfl
  · rw [decide_eq_false h, Bool.false_and, beq_eq_false_iff_ne]
    intro q
    injection q with q
    have := congrArg Array.size q
    rw [Array.size_extract] at this
    simp at this
    omega
theorem slice_slash {x : Str} {k : Nat} : (Txt.slice x (some (k : Int)) (some ((k : Int) + 2)) == Str.ofString "/*") = (decide (k + 1 < x.cps.size) && (x.cps.getD k 0 == 47 && x.cps.getD (k + 1) 0 == 42)) := by
  have e : ((k : Int) + 2) = ((k + 2 : Nat) : Int) := by omega
  rw [e, slice_nat, str_slash]
  by_cases h : k + 2 ≤ x.cps.size
  · have h2 := sub_two (x := x) (a := 47) (b := 42) h
    rw [decide_eq_true (by omega), Bool.true_and, ← h2]
    show _ = (x.cps.extract k (k + 2) == #[47, 42])
    rw [Bool.eq_iff_iff, beq_iff_eq, beq_iff_eq]
    exact ⟨fun q => by injection q, fun q => by rw [q]⟩
  · rw [decide_eq_false (by omega), Bool.false_and, beq_eq_false_iff_ne]
    intro q
    injection q with q
    have := congrArg Array.size q
    rw [Array.size_extract] at this
    simp at this
    omega
theorem not_bad {x : Str} {j : Nat} (h : j < x.length) (h0 : (j : Int) ≠ 0) : (Builtin.Str.occurrences (Str.ofString "abAB\"$") (Txt.item x ((j : Int) - 1)) 0 (Str.ofString "abAB\"$").length 1).isEmpty = !badB x j := by
  have e : ((j : Int) - 1) = ((j - 1 : Nat) : Int) := by omega
  have e2 := StrLaws.found_one (Str.ofString "abAB\"$") (x.cps.getD (j - 1) 0)
  rw [e, item_nat (by omega)]
  have el : (Str.ofString "abAB\"$").cps.toList = [97, 98, 65, 66, 34, 36] := by rfl
  rw [el] at e2
  have e3 : badB x j = decide (x.cps.getD (j - 1) 0 ∈ [97, 98, 65, 66, 34, 36]) := by
    unfold badB badC isL
    rw [decide_eq_true (by omega), Bool.true_and]
    generalize x.cps.getD (j - 1) 0 = c
    rw [Bool.eq_iff_iff]
    simp [or_assoc]
  rw [e3, ← e2, Bool.not_not]
/-- what the law's own due says of a place -/
def dueOf (x : Str) (j : Nat) : Option (Option Nat × Nat) :=
  if (bD x.cps x.cps.size j && !badB x j) = true then some ((firstGe x.cps.size (fun p => bD x.cps x.cps.size p && tagD x p == tagD x j) (endD x j)).map (endD x), 0)
  else if bH x.cps x.cps.size j = true then some ((firstGe x.cps.size (bC x.cps x.cps.size) (j + 3)).map (· + 2), 1)
  else if bO x.cps x.cps.size j = true then some ((firstGe x.cps.size (bC x.cps x.cps.size) (j + 2)).map (· + 2), 2)
  else none
inductive DueRel : Option (Option Nat × Nat) → Value → List (Addr × Obj) → Prop
  | none : DueRel none .none []
  | endless {k : Nat} {a : Addr} : DueRel (some (none, k)) (.ref a) [(a, tupObj [.none, .none])]
  | lit {e : Nat} {a b : Addr} {t t1 : Tok} : DueRel (some (some e, 0)) (.ref a) [(a, tupObj [.int (e : Int) t, .ref b]), (b, tupObj [.str (Str.ofString "Literal") t1])]
  | hint {e : Nat} {a b : Addr} {t t1 t2 t3 : Tok} : DueRel (some (some e, 1)) (.ref a) [(a, tupObj [.int (e : Int) t, .ref b]), (b, tupObj [.str (Str.ofString "Comment") t1, .str (Str.ofString "Multiline") t2, .str (Str.ofString "Hint") t3])]
  | multi {e : Nat} {a b : Addr} {t t1 t2 : Tok} : DueRel (some (some e, 2)) (.ref a) [(a, tupObj [.int (e : Int) t, .ref b]), (b, tupObj [.str (Str.ofString "Comment") t1, .str (Str.ofString "Multiline") t2])]
end Mine

end

section -- part DueC
set_option linter.unusedVariables false
open PySem PySem.W PyProof PyProof.Rows PySem.Calls PySem.Spec
set_option maxRecDepth 100000
namespace Mine
/-- as Gives, with objects of its own in what comes back -/
abbrev GivesL (w : World) (mean : ExcName → Option Value) (mg mb : Str → Option Value) (f : Addr) (d : Nat) (vs : List Value) (R : Value → List (Addr × Obj) → Prop) : Prop :=
  ∀ (dp un : Nat) (gd : Option (List Code)) (cn : Str) (cs : Scope) (a : Addr) (ccd : Value) (cl : List (Str × Addr)) (outer : List Env) (A₀ : Around) (base h₀ : Heap) (L : Addr) (m : Str → Option Value) (news : List (Addr × Obj)) (s : Shared) (Q E : Value → Shared → Prop),
    Below A₀ base outer h₀ → Fr h₀ L s.heap m → (hd.heap_39 w.params).In h₀ → News h₀ L s.heap news → Top hd.view_39 (looseW hd.view_39 LS) mean mg mb h₀ → cs.kind = .function →
    dp + d < recursionLimit → un + 8 * d < cLine →
    (∀ v extra h' tk', R v extra → Fr h₀ L h' m → News h₀ L h' (extra ++ news) → Q v { s with heap := h', toks := tk' }) →
    wpAny (model PySem.Challenge.rw_er0025_01.row.prog w) (ktrTop dp un gd cn cs L a ccd cl outer) (call (.ref f) vs) Q E s
section
variable {x : Str} {j : Nat} {a b : Addr} {t t1 t2 t3 : Tok}
theorem due_slash (hs : (Txt.slice x (some (j : Int)) (some ((j : Int) + 2)) == Str.ofString "/*") = true) : bD x.cps x.cps.size j = false ∧ j + 1 < x.cps.size ∧ x.cps.getD j 0 = 47 ∧ x.cps.getD (j + 1) 0 = 42 := by
  rw [slice_slash] at hs
  simp only [Bool.and_eq_true, decide_eq_true_eq, beq_iff_eq] at hs
  refine ⟨?_, hs⟩
  unfold bD
  rw [hs.2.1]
  simp
theorem due_H (hs : (Txt.slice x (some (j : Int)) (some ((j : Int) + 2)) == Str.ofString "/*") = true) (hp : (Txt.slice x (some ((j : Int) + 2)) (some ((j : Int) + 3)) == Str.ofString "+") = true) :
    dueOf x j = some ((firstGe x.cps.size (bC x.cps x.cps.size) (j + 3)).map (· + 2), 1) := by
  obtain ⟨h1, h2, h3, h4⟩ := due_slash hs
  rw [slice_plus] at hp
  simp only [Bool.and_eq_true, decide_eq_true_eq, beq_iff_eq] at hp
  unfold dueOf
  rw [h1, Bool.false_and, if_neg Bool.false_ne_true, if_pos (bH_iff.mpr ⟨hp.1, h3, h4, hp.2⟩)]
theorem due_O (hs : (Txt.slice x (some (j : Int)) (some ((j : Int) + 2)) == Str.ofString "/*") = true) (hp : (Txt.slice x (some ((j : Int) + 2)) (some ((j : Int) + 3)) == Str.ofString "+") = false) :
    dueOf x j = some ((firstGe x.cps.size (bC x.cps x.cps.size) (j + 2)).map (· + 2), 2) := by
  obtain ⟨h1, h2, h3, h4⟩ := due_slash hs
  rw [slice_plus] at hp
  have hp' : ¬ (j + 2 < x.cps.size ∧ x.cps.getD (j + 2) 0 = 43) := fun q => by rw [decide_eq_true q.1, q.2] at hp; cases hp
  unfold dueOf
  rw [h1, Bool.false_and, if_neg Bool.false_ne_true, if_neg (fun q => hp' ⟨(bH_iff.mp q).1, (bH_iff.mp q).2.2.2⟩), if_pos (bO_iff.mpr ⟨h2, h3, h4, hp'⟩)]
theorem due_N (hs : (Txt.slice x (some (j : Int)) (some ((j : Int) + 2)) == Str.ofString "/*") = false) (hd : (bD x.cps x.cps.size j && !badB x j) = false) : dueOf x j = none := by
  rw [slice_slash] at hs
  have hs' : ¬ (j + 1 < x.cps.size ∧ x.cps.getD j 0 = 47 ∧ x.cps.getD (j + 1) 0 = 42) := fun q => by rw [decide_eq_true q.1, q.2.1, q.2.2] at hs; cases hs
  unfold dueOf
  rw [hd, if_neg Bool.false_ne_true, if_neg (fun q => hs' ⟨by have := (bH_iff.mp q).1; omega, (bH_iff.mp q).2.1, (bH_iff.mp q).2.2.1⟩), if_neg (fun q => hs' ⟨(bO_iff.mp q).1, (bO_iff.mp q).2.1, (bO_iff.mp q).2.2.1⟩)]
theorem rel_none {lo k : Nat} {i : Int} (hi : i = (lo : Int)) (hd : dueOf x j = some ((firstGe x.cps.size (bC x.cps x.cps.size) lo).map (· + 2), k)) (hf : Txt.find3 x (Str.ofString "*/") i < 0) : DueRel (dueOf x j) (.ref a) [(a, tupObj [.none, .none])] := by
  subst hi
  rw [find_close] at hf
  rw [hd]
  cases h : firstGe x.cps.size (bC x.cps x.cps.size) lo with
  | some p => rw [h] at hf; exact absurd hf (by show ¬ ((p : Int) < 0); omega)
  | none => exact .endless
theorem rel_found {lo k : Nat} {i : Int} (hi : i = (lo : Int)) (hd : dueOf x j = some ((firstGe x.cps.size (bC x.cps x.cps.size) lo).map (· + 2), k)) (hf : ¬ Txt.find3 x (Str.ofString "*/") i < 0) :
    ∃ e : Nat, Txt.find3 x (Str.ofString "*/") i + 2 = (e : Int) ∧ dueOf x j = some (some e, k) := by
  subst hi
  rw [find_close] at hf ⊢
  rw [hd]
  cases h : firstGe x.cps.size (bC x.cps x.cps.size) lo with
  | some p => exact ⟨p + 2, by show (p : Int) + 2 = _; omega, rfl⟩
  | none => rw [h] at hf; exact absurd (by decide) hf
theorem rel_lit {e : Nat} {i : Int} (hd : dueOf x j = some (some e, 0)) (he : i = (e : Int)) : DueRel (dueOf x j) (.ref a) [(a, tupObj [.int i t, .ref b]), (b, tupObj [.str (Str.ofString "Literal") t1])] := by
  rw [he, hd]; exact .lit
theorem News.drop2 {h₀ h : Heap} {L : Addr} {p1 p2 : Addr × Obj} {news own : List (Addr × Obj)} (N : News h₀ L h (p1 :: p2 :: (news ++ own))) : News h₀ L h ([p1, p2] ++ news) := fun q hq => N q (by
  simp only [List.cons_append, List.nil_append, List.mem_cons, List.mem_append] at hq ⊢
  grind)
theorem rel_H (hs : (Txt.slice x (some (j : Int)) (some ((j : Int) + 2)) == Str.ofString "/*") = true) (hp : (Txt.slice x (some ((j : Int) + 2)) (some ((j : Int) + 3)) == Str.ofString "+") = true) (hf : ¬ Txt.find3 x (Str.ofString "*/") ((j : Int) + 3) < 0) :
    DueRel (dueOf x j) (.ref a) [(a, tupObj [.int (Txt.find3 x (Str.ofString "*/") ((j : Int) + 3) + 2) t, .ref b]), (b, tupObj [.str (Str.ofString "Comment") t1, .str (Str.ofString "Multiline") t2, .str (Str.ofString "Hint") t3])] := by
  obtain ⟨e, e1, e2⟩ := rel_found (lo := j + 3) (by omega) (due_H hs hp) hf
  rw [e1, e2]; exact .hint
theorem rel_O (hs : (Txt.slice x (some (j : Int)) (some ((j : Int) + 2)) == Str.ofString "/*") = true) (hp : (Txt.slice x (some ((j : Int) + 2)) (some ((j : Int) + 3)) == Str.ofString "+") = false) (hf : ¬ Txt.find3 x (Str.ofString "*/") ((j : Int) + 2) < 0) :
    DueRel (dueOf x j) (.ref a) [(a, tupObj [.int (Txt.find3 x (Str.ofString "*/") ((j : Int) + 2) + 2) t, .ref b]), (b, tupObj [.str (Str.ofString "Comment") t1, .str (Str.ofString "Multiline") t2])] := by
  obtain ⟨e, e1, e2⟩ := rel_found (lo := j + 2) (by omega) (due_O hs hp) hf
  rw [e1, e2]; exact .multi
end
local macro_rules | `(tactic| walk_at "eval Name") => `(tactic| (k_here; k_dflt (refine' nameX_L ?k1 ?k2 ?_ ?k3 ?k4 ?k5; (case k4 => rfl); (case k1 => k_asm); (case k2 => assumption); (case k3 => rfl); (case k5 => decide); k_whole)))
local macro_rules | `(tactic| walk_at "call ref") => `(tactic| ((with_reducible show wpAny _ _ (call (Value.ref 221) _) _ _ _); refine Stop.out ?_))
local macro_rules | `(tactic| walk_at "pyIter ref") => `(tactic| refine Stop.out ?_)
set_option maxHeartbeats 2000000 in
theorem due_gives {w : World} {mean : ExcName → Option Value} {mg mb : Str → Option Value} {x : Str} {j : Nat} {tx ti : Tok} (h1 : j < x.length) (hsz : x.length ≤ 16) (hal : ∀ i, i < x.cps.size → x.cps.getD i 0 ∈ AL) :
    GivesL w mean mg mb 228 2 [.str x tx, .int (j : Int) ti] (DueRel (dueOf x j)) := by
  unfold GivesL; w_top off; k_fill
  intro dp un gd cn cs a ccd cl outer A₀ base h₀ L m news s Q E B F X N T hk hl hu hret
  have hzz : x.length = x.cps.size := rfl
  refine wpAny_call ?_
  k_dflt cell_enter
  k_steps
  refine Stop.into ?_
  refine tag_gives h1 hsz hal _ _ _ _ _ _ _ _ _ _ _ _ _ _ _ _ _ _ (by assumption) (by assumption) (by assumption) (by assumption) (by assumption) rfl trivial (by show dp + 1 + 1 < _; omega) (by show un + 3 + 8 * 1 < _; omega) (fun v h1 tk1 hv F1 N1 => ?_)
  have hD : ∀ g : Value → Prop, True := fun _ => trivial
  cases hP : bD x.cps x.cps.size j with
  | true =>
    obtain ⟨tt, rfl⟩ := hv.1 hP
    have hlen : (tagD x j).length = endD x j - j := by
      have := (bD_iff.mp hP).2.2.1
      show (x.cps.extract j (endD x j)).size = _
      unfold endD
      rw [Array.size_extract]; omega
    have hle : j < endD x j := by unfold endD stopD; omega
    have hen : endD x j ≤ x.cps.size := (bD_iff.mp hP).2.2.1
    generalize htg : tagD x j = tg at hlen
    k_steps
    all_goals try
      (have hs : (Txt.slice x (some (j : Int)) (some ((j : Int) + 2)) == Str.ofString "/*") = true := by with_reducible assumption
       exact absurd (due_slash hs).1 (by rw [hP]; exact Bool.noConfusion))
    all_goals try
      (have hs : (Txt.slice x (some (j : Int)) (some ((j : Int) + 2)) == Str.ofString "/*") = false := by with_reducible assumption
       have h0 : (j : Int) ≠ 0 := by with_reducible assumption
       have hb : (Builtin.Str.occurrences (Str.ofString "abAB\"$") (Txt.item x ((j : Int) - 1)) 0 (Str.ofString "abAB\"$").length 1).isEmpty = false := by with_reducible assumption
       rw [not_bad (by omega) h0] at hb
       have hd : dueOf x j = none := due_N hs (by rw [hb, Bool.and_false])
       exact hret .none [] _ _ (by rw [hd]; exact .none) (by assumption) (by assumption))
    all_goals
      have hbad : badB x j = false := by
        first
          | (have h0 : (j : Int) = 0 := by with_reducible assumption
             unfold badB; rw [decide_eq_false (by omega)]; rfl)
          | (have h0 : (j : Int) ≠ 0 := by with_reducible assumption
             have hb : (Builtin.Str.occurrences (Str.ofString "abAB\"$") (Txt.item x ((j : Int) - 1)) 0 (Str.ofString "abAB\"$").length 1).isEmpty = true := by with_reducible assumption
             rw [not_bad (by omega) h0] at hb
             simpa using hb)
      refine Stop.into ?_
      refine range_loop (n := x.length - endD x j) (fun i m => m (Str.ofString "text") = some (.str x tx) ∧ m (Str.ofString "tag") = some (.str tg tt) ∧ ∀ q, endD x j ≤ q → q < endD x j + i → (bD x.cps x.cps.size q && tagD x q == tg) = false) rfl (by assumption) ?small ?size (by assumption) (by assumption) ⟨rfl, rfl, fun q h1 h2 => by omega⟩ ?turn ?done
      case small => exact small_one (by omega) (by omega) (by omega) (by omega)
      case size => exact rsize_one (by omega)
      case turn =>
        intro i t m₁ h tk own hi hJ F₁ N₁
        obtain ⟨e1, e2, e3⟩ := hJ
        have hp : ((j : Int) + (tg.length : Int) + (i : Int)) = ((endD x j + i : Nat) : Int) := by omega
        rw [hp] at F₁
        k_steps
        refine Stop.into ?_
        refine tag_gives (j := endD x j + i) (by omega) hsz hal _ _ _ _ _ _ _ _ _ _ _ _ _ _ _ _ _ _ (by assumption) (by assumption) (by assumption) (by assumption) (by assumption) rfl trivial (by show dp + 1 + 1 < _; omega) (by show un + 3 + 8 * 1 < _; omega) (fun v h1 tk1 hv F1 N1 => ?_)
        cases hP2 : bD x.cps x.cps.size (endD x j + i) with
        | true =>
          obtain ⟨tt2, rfl⟩ := hv.1 hP2
          have htp : ∀ tp, tagD x (endD x j + i) = tp → tp.length = endD x (endD x j + i) - (endD x j + i) := fun tp e => by
            have h2 := (bD_iff.mp hP2).2.2.1
            have h3 : endD x (endD x j + i) ≤ x.cps.size := h2
            rw [← e]
            show (x.cps.extract (endD x j + i) (endD x (endD x j + i))).size = _
            rw [Array.size_extract]; omega
          generalize htg2 : tagD x (endD x j + i) = tp
          have hlen2 := htp tp htg2
          k_steps
          · have htt : tp = tg := by
              have h5 : (tp == tg) = true := by assumption
              simpa using h5
            rename News h₀ L _ (_ :: _ :: _) => kN
            have hd : dueOf x j = some (some (endD x (endD x j + i)), 0) := by
              unfold dueOf
              rw [hP, hbad, htg]
              rw [firstGe_some (p := endD x j + i) (by omega) (by omega) (by rw [hP2, htg2, htt]; simp) (fun q h5 h6 => e3 q h5 h6)]
              rfl
            have hge : endD x j + i < endD x (endD x j + i) := by
              show _ < stopD _ _ _ + 1
              unfold stopD; omega
            exact hret _ _ _ _ (rel_lit hd (by rw [← htt]; omega)) (by assumption) (News.drop2 kN)
          · have h5 : (tp == tg) = false := by assumption
            refine (show Stop _ from Stop.into ⟨h1, _, _, [], rfl, F1, N1, e1, e2, fun q h6 h7 => ?_⟩)
            by_cases hq : q = endD x j + i
            · rw [hq, htg2, h5, Bool.and_false]
            · exact e3 q h6 (by omega)
        | false =>
          rw [hv.2 (by show ¬ (bD x.cps x.cps.size (endD x j + i) = true); rw [hP2]; exact Bool.false_ne_true)]
          k_steps
          refine (show Stop _ from Stop.into ⟨h1, _, _, [], rfl, F1, N1, e1, e2, fun q h6 h7 => ?_⟩)
          by_cases hq : q = endD x j + i
          · rw [hq, hP2, Bool.false_and]
          · exact e3 q h6 (by omega)
      case done =>
        intro m₁ h tk hJ F₁ N₁
        dsimp only
        k_steps
        have hd : dueOf x j = some (none, 0) := by
          unfold dueOf
          rw [hP, hbad, htg]
          rw [firstGe_none (fun q h5 h6 => hJ.2.2 q h5 (by omega))]
          rfl
        exact hret _ _ _ _ (by rw [hd]; exact .endless) (by assumption) (by assumption)
  | false =>
    rw [hv.2 (by show ¬ (bD x.cps x.cps.size j = true); rw [hP]; exact Bool.false_ne_true)]
    k_steps
    all_goals first
      | (have hs : (Txt.slice x (some (j : Int)) (some ((j : Int) + 2)) == Str.ofString "/*") = true := by with_reducible assumption
         have hp : (Txt.slice x (some ((j : Int) + 2)) (some ((j : Int) + 3)) == Str.ofString "+") = true := by with_reducible assumption
         have hf : Txt.find3 x (Str.ofString "*/") ((j : Int) + 3) < 0 := by with_reducible assumption
         exact hret _ _ _ _ (rel_none (lo := j + 3) (by omega) (due_H hs hp) hf) (by assumption) (by assumption))
      | (have hs : (Txt.slice x (some (j : Int)) (some ((j : Int) + 2)) == Str.ofString "/*") = true := by with_reducible assumption
         have hp : (Txt.slice x (some ((j : Int) + 2)) (some ((j : Int) + 3)) == Str.ofString "+") = true := by with_reducible assumption
         have hf : ¬ Txt.find3 x (Str.ofString "*/") ((j : Int) + 3) < 0 := by with_reducible assumption
         exact hret _ _ _ _ (rel_H hs hp hf) (by assumption) (by assumption))
      | (have hs : (Txt.slice x (some (j : Int)) (some ((j : Int) + 2)) == Str.ofString "/*") = true := by with_reducible assumption
         have hp : (Txt.slice x (some ((j : Int) + 2)) (some ((j : Int) + 3)) == Str.ofString "+") = false := by with_reducible assumption
         have hf : Txt.find3 x (Str.ofString "*/") ((j : Int) + 2) < 0 := by with_reducible assumption
         exact hret _ _ _ _ (rel_none (lo := j + 2) (by omega) (due_O hs hp) hf) (by assumption) (by assumption))
      | (have hs : (Txt.slice x (some (j : Int)) (some ((j : Int) + 2)) == Str.ofString "/*") = true := by with_reducible assumption
         have hp : (Txt.slice x (some ((j : Int) + 2)) (some ((j : Int) + 3)) == Str.ofString "+") = false := by with_reducible assumption
         have hf : ¬ Txt.find3 x (Str.ofString "*/") ((j : Int) + 2) < 0 := by with_reducible assumption
         exact hret _ _ _ _ (rel_O hs hp hf) (by assumption) (by assumption))
      | (have hs : (Txt.slice x (some (j : Int)) (some ((j : Int) + 2)) == Str.ofString "/*") = false := by with_reducible assumption
         have hd : dueOf x j = none := due_N hs (by rw [hP]; rfl)
         exact hret .none [] _ _ (by rw [hd]; exact .none) (by assumption) (by assumption))
      | trace_state
end Mine

end

section -- part Bis
set_option linter.unusedVariables false
open PySem PySem.W PyProof.Rows PySem.Calls PySem.Builtin
set_option maxRecDepth 100000
namespace Mine
section
variable {prog : Program} {w : World} {A : Around} {E : Value → Shared → Prop}
def bisArgs (l : Addr) (v : Int) (t : Tok) (lo hi : Nat) : Args := ⟨[.ref l, .int v t, rawInt lo, rawInt hi, .none, .bool false, .bool true, rawInt 0], []⟩
theorem loop_plain : plainId "_bisect.bisect_right.loop" = true := by decide +kernel
theorem get_at {s : Shared} {l : Addr} {items : Array Value} {k : Int} {t : Tok} {x : Value} {Q : Value → Shared → Prop} (hl : s.heap.IsList l items) (h0 : 0 ≤ k) (hfit : k < 2 ^ 63) (hx : items[k.toNat]? = some x) (h : Q x s) :
    wpAny (model prog w) A (call (.builtin "list.__getitem__") [.ref l, .int k t]) Q E s := by
  obtain ⟨o, ho, hc, ne, hd⟩ := id hl
  refine wpAny_call_entry slot_list_getitem hl.typeIs entry_list_getitem ?_ (args_list_getitem _ _)
  show wpAny _ _ (Builtin.List.listSubscript? (.int k t) >>= _) _ _ s
  refine wpAny_bind (wpAny_listSubscript_int (fitsIndex_of h0 hfit) ?_)
  clear hfit
  obtain ⟨j, rfl⟩ := Int.eq_ofNat_of_zero_le h0
  have hx' : items[j]? = some x := hx
  show wpAny _ _ ((seqItemAt l j >>= fun r => pure (r.map (j, ·))) >>= _) _ _ s
  refine wpAny_bind (wpAny_bind (wpAny_seqItemAt ho hd (wpAny_pure ?_)))
  rw [hx']
  first
    | exact wpAny_bind (wpAny_pure (wpAny_pure ⟨x, rfl, h⟩))
    | exact wpAny_pure ⟨x, rfl, h⟩
/-- the search's own loop -/
theorem bis_loop {l : Addr} {xs : List (Int × Tok)} {v : Int} {t : Tok} {R : Result → Shared → Prop} : ∀ (n lo hi : Nat) (s : Shared), hi - lo ≤ n → lo ≤ hi → hi ≤ xs.length → xs.length ≤ 1000 → (∃ k, s.heap.get? l = some (listOf (intsV xs) k)) →
    (∀ (i : Nat) (p : Int × Tok), i < lo → xs[i]? = some p → p.1 < v) → (∀ (i : Nat) (p : Int × Tok), hi ≤ i → xs[i]? = some p → v ≤ p.1) → (∀ (i j : Nat) (p q : Int × Tok), i ≤ j → xs[i]? = some p → xs[j]? = some q → p.1 ≤ q.1) →
    (∀ (i : Nat) tk tk', i ≤ xs.length → (∀ (k : Nat) (p : Int × Tok), k < i → xs[k]? = some p → p.1 < v) → (∀ (k : Nat) (p : Int × Tok), i ≤ k → xs[k]? = some p → v ≤ p.1) → R (.ok (.ret (.int (i : Int) tk))) { s with toks := tk' }) →
    codeAny (model prog w) A (.builtin "_bisect.bisect_right.loop" (bisArgs l v t lo hi)) R s := by
  intro n
  induction n with
  | zero =>
    intro lo hi s hn hlh hhx hfx hl h1 h2 hs hR
    have e : lo = hi := by omega
    subst e
    refine codeAny_builtin entry_bisectLoop ?_
    unfold Builtin.«_bisect.bisect_right.loop» bisArgs
    dsimp only [rawInt]
    rw [if_neg (by omega)]
    show wpAny _ _ (retInt (lo : Int)) _ _ _
    exact wpAny_bind (wpAny_mkInt (wpAny_pure (hR lo _ _ hhx h1 h2)))
  | succ n ih =>
    intro lo hi s hn hlh hhx hfx hl h1 h2 hs hR
    by_cases hlt : lo < hi
    · refine codeAny_builtin entry_bisectLoop ?_
      unfold Builtin.«_bisect.bisect_right.loop» bisArgs
      dsimp only [rawInt]
      rw [if_pos (by omega), Around.under_plainId loop_plain]
      have hmid : ((lo : Int) + (hi : Int)) / 2 = (((lo + hi) / 2 : Nat) : Int) := by omega
      rw [hmid]
      generalize hm : (lo + hi) / 2 = mid
      have hm1 : lo ≤ mid := by omega
      have hm2 : mid < hi := by omega
      obtain ⟨kk, hg⟩ := id hl
      have hml : mid < xs.length := by omega
      have hlist : ∀ tk, ({ s with toks := tk } : Shared).heap.IsList l (intsV xs) := fun _ => ⟨_, hg, rfl, kk, rfl⟩
      refine wpAny_bind (wpAny_mkInt ?_)
      refine wpAny_bind (wpAny_callSpecial?_slot (name := Str.ofString "__getitem__") (hlist _).typeIs slot_list_getitem ?_)
      have hx : (intsV xs)[mid]? = some (.int (xs[mid]).1 (xs[mid]).2) := by unfold intsV; simp [hml]
      refine get_at (hlist _) (by omega) (by omega) hx ?_
      dsimp only
      rw [if_pos (show ((Value.none == Value.none) = true) from by decide)]
      refine wpAny_bind (wpAny_pure (wpAny_holding ?_))
      rw [if_pos rfl]
      refine wpAny_bind (wpAny_typeOf (typeIs_int _ _ _) (wpAny_bind (wpAny_typeOf (typeIs_int _ _ _) ?_)))
      rw [if_pos (show ((Value.type "int" == Value.type "int") = true) from by decide)]
      show wpAny _ _ (do
        cRoomFor "comparison" [.int (xs[mid]).1 (xs[mid]).2, .int v t]
        let r ← callSpecialIfBound? (.int (xs[mid]).1 (xs[mid]).2) (Str.ofString "__lt__") [.int v t]
        _) _ _ _
      refine wpAny_bind (wpAny_cRoomFor_byValue rfl ?_)
      refine wpAny_bind (wpAny_callSpecialIfBound?_slot (typeIs_int _ _ _) slot_int_lt (wpAny_call_entry slot_int_lt (typeIs_int _ _ _) entry_int_lt
        (show wpAny _ _ (ret (.bool (decide ((xs[mid]).1 < v)))) _ _ _ from wpAny_pure ⟨_, rfl, ?_⟩) (args_int_lt _ _)))
      dsimp only
      refine wpAny_bind (m := truthOfDropped _) (wpAny_of_eq (a := decide ((xs[mid]).1 < v)) rfl (wpAny_bind (wpAny_pure ?_)))
      by_cases hv : (xs[mid]).1 < v
      · rw [decide_eq_true hv, if_neg (by decide)]
        refine wpAny_pure ⟨plainId_quiet loop_plain _, ?_⟩
        have := ih (mid + 1) hi { s with toks := s.toks + 1 } (by omega) (by omega) hhx hfx hl (fun i p q1 q2 => ?_) h2 hs hR
        · exact this
        · by_cases e : i = mid
          · subst e; rw [List.getElem?_eq_getElem hml] at q2; injection q2 with q2; rw [← q2]; exact hv
          · by_cases e2 : i < lo
            · exact h1 i p e2 q2
            · have := hs i mid p (xs[mid]) (by omega) q2 (List.getElem?_eq_getElem hml); omega
      · rw [decide_eq_false hv, if_pos (by decide)]
        refine wpAny_pure ⟨plainId_quiet loop_plain _, ?_⟩
        have := ih lo mid { s with toks := s.toks + 1 } (by omega) (by omega) (by omega) hfx hl h1 (fun i p q1 q2 => ?_) hs hR
        · exact this
        · have := hs mid i (xs[mid]) p q1 (List.getElem?_eq_getElem hml) q2; omega
    · exact ih lo hi s (by omega) hlh hhx hfx hl h1 h2 hs hR
end
end Mine

end

section -- part Bis2
set_option linter.unusedVariables false
open PySem PySem.W PyProof.Rows PySem.Calls PySem.Builtin
set_option maxRecDepth 100000
namespace Mine
theorem kind_bisect : builtinKind "_bisect.bisect_left" = none := by decide +kernel
theorem plain_bisect : plainId "_bisect.bisect_left" = true := by decide +kernel
section
variable {prog : Program} {w : World} {A : Around} {E : Value → Shared → Prop} {s : Shared}
set_option maxHeartbeats 1000000 in
theorem bis_call {l : Addr} {xs : List (Int × Tok)} {v : Int} {t : Tok} {k : Nat} {Q : Value → Shared → Prop} (hfx : xs.length ≤ 1000) (hl : s.heap.get? l = some (listOf (intsV xs) k)) (hs : ∀ (i j : Nat) (p q : Int × Tok), i ≤ j → xs[i]? = some p → xs[j]? = some q → p.1 ≤ q.1)
    (hQ : ∀ (i : Nat) tk tk', i ≤ xs.length → (∀ (k : Nat) (p : Int × Tok), k < i → xs[k]? = some p → p.1 < v) → (∀ (k : Nat) (p : Int × Tok), i ≤ k → xs[k]? = some p → v ≤ p.1) → Q (.int (i : Int) tk) { s with toks := tk' }) :
    wpAny (model prog w) A (call (.builtin "_bisect.bisect_left") [.ref l, .int v t]) Q E s := by
  have hT : s.TypeIs (.ref l) "list" := ⟨_, hl, rfl⟩
  refine wpAny_call (codeAny_call_builtin plain_bisect entry_bisect ?_)
  refine wpAny_of_eq (a := ()) ?_ ?_
  · have := args_bisect (.ref l) (.int v t)
    simp only [checkBuiltinCall, kind_bisect]
    unfold argsOk at this
    cases hsig : Manifest.signature? "_bisect.bisect_left" with
    | none => rfl
    | some sig => rw [hsig] at this; exact this
  have f1 : typeLookup (.type "list") (Str.ofString "__len__") = _ := F.slot_list_len.lookup
  have f2 : typeLookup (.type "list") (Str.ofString "__getitem__") = _ := slot_list_getitem.lookup
  unfold Builtin.«_bisect.bisect_left»
  dsimp only
  repeat (any_goals (first | assumption | wp_step))
  have hlist : s.heap.IsList l (intsV xs) := ⟨_, hl, rfl, k, rfl⟩
  have hsz : (intsV xs).size = xs.length := by unfold intsV; simp
  have hlen : wpAny (model prog w) A.in1.in1 (Builtin.«len» ⟨[.ref l], []⟩) (fun fin s' => ∃ r, fin = .done (.ret r) ∧ (r = .int (xs.length : Int) (s.toks + 1) ∧ s' = { s with toks := s.toks + 1 + 1 })) E s :=
    wpAny_len_body_list (Q := fun r s' => r = .int (xs.length : Int) (s.toks + 1) ∧ s' = { s with toks := s.toks + 1 + 1 }) hlist (by rw [hsz]; omega) ⟨by rw [hsz], rfl⟩
  refine codeAny_builtin entry_len (wpAny_mono hlen (fun fin s' h' => ?_) fun _ _ h => h)
  obtain ⟨r, rfl, rfl, rfl⟩ := h'
  dsimp only
  refine wpAny_bind (wpAny_pure ?_)
  have hT' : ({ s with toks := s.toks + 1 + 1 } : Shared).TypeIs (.ref l) "list" := ⟨_, hl, rfl⟩
  repeat (any_goals (first | assumption | wp_step))
  refine ⟨plainId_quiet loop_plain _, ?_⟩
  exact bis_loop xs.length 0 xs.length { s with toks := s.toks + 1 + 1 } (by omega) (Nat.zero_le _) (Nat.le_refl _) hfx ⟨k, hl⟩ (fun i p h _ => absurd h (Nat.not_lt_zero _))
    (fun i p h e => by rw [List.getElem?_eq_none h] at e; cases e) hs (fun i tk tk' h1 h2 h3 => hQ i tk tk' h1 h2 h3)
end
end Mine

end

section -- part FN
set_option linter.unusedVariables false
open PySem PySem.W PyProof.Rows PySem.Calls PySem.Spec
set_option maxRecDepth 100000
namespace Mine
local macro_rules | `(tactic| walk_at "eval Name") => `(tactic| (k_here; k_dflt (refine' nameX_L ?k1 ?k2 ?_ ?k3 ?k4 ?k5; (case k4 => rfl); (case k1 => k_asm); (case k2 => assumption); (case k3 => rfl); (case k5 => decide); k_whole)))
/-- the object that find gives back, with all it holds -/
def spObj (d cD oD : Addr) : Obj := ⟨.ref 191, some d, .plain, #[some (.ref cD), some (.ref oD)]⟩
def spLed (sp d oD cD : Addr) (oo oc : Obj) (C : List CEnt) (O : List OEnt) : List (Addr × Obj) := (sp, spObj d cD oD) :: (d, dictOf [] 0) :: Lg oD oo cD oc C O []

def ifTest : Stmt → Expr
  | .If t _ _ _ => t
  | _ => .Name (Str.ofString "") default
def ifPos : Stmt → Pos
  | .If _ _ _ p => p
  | _ => default
theorem ifD_eq : nthS bodyF 5 = .If (ifTest (nthS bodyF 5)) [stD] [] (ifPos (nthS bodyF 5)) := rfl
theorem ifO_eq : nthS bodyF 6 = .If (ifTest (nthS bodyF 6)) [stH, stO, stA, stC] [] (ifPos (nthS bodyF 6)) := rfl
set_option maxHeartbeats 2000000 in
theorem testD {w : World} {mean : ExcName → Option Value} {mg mb : Str → Option Value}
    {dp un : Nat} {gd : Option (List Code)} {cn : Str} {cs : Scope} {a : Addr} {ccd cd : Value} {cl : List (Str × Addr)} {outer : List Env} {base h₀ : Heap} {L Lc : Addr} {m : Str → Option Value} {s : Shared} {Q : Bool → Shared → Prop} {E : Value → Shared → Prop} {b : Bool} {led : List (Addr × Obj)}
    (B : Below (ktrTop dp un gd cn cs Lc a ccd cl outer) base (envX cn cs Lc a ccd cl :: outer) h₀) (X : (hd.heap_39 w.params).In h₀) (T : Top hd.view_39 (looseW hd.view_39 LS) mean mg mb h₀)
    (hm : m (Str.ofString "has_dollar") = some (.bool b)) (F : Fr h₀ L s.heap m) (N : News h₀ L s.heap led) (h : Q b s) :
    wpAny (model PySem.Challenge.rw_er0025_01.row.prog w) ((ktrTop dp un gd cn cs Lc a ccd cl outer).deeper (envF L cd)) (isTrue (ifTest (nthS bodyF 5)) (envF L cd) (eval (ifTest (nthS bodyF 5)) (envF L cd))) Q E s := by
  revert X; w_top off; k_fill; intro X
  conv => arg 3; arg 1; whnf
  conv => arg 3; arg 3; arg 1; whnf
  conv => arg 3; arg 2; unfold envF; unfold scopeF; arg 2; whnf
  conv => arg 3; arg 3; arg 2; unfold envF; unfold scopeF; arg 2; whnf
  conv => arg 2; arg 2; unfold envF; unfold scopeF; arg 2; whnf
  k_steps
  exact h
theorem testO {w : World} {mean : ExcName → Option Value} {mg mb : Str → Option Value}
    {dp un : Nat} {gd : Option (List Code)} {cn : Str} {cs : Scope} {a : Addr} {ccd cd : Value} {cl : List (Str × Addr)} {outer : List Env} {base h₀ : Heap} {L Lc : Addr} {m : Str → Option Value} {s : Shared} {Q : Bool → Shared → Prop} {E : Value → Shared → Prop} {b : Bool} {led : List (Addr × Obj)}
    (B : Below (ktrTop dp un gd cn cs Lc a ccd cl outer) base (envX cn cs Lc a ccd cl :: outer) h₀) (X : (hd.heap_39 w.params).In h₀) (T : Top hd.view_39 (looseW hd.view_39 LS) mean mg mb h₀)
    (hm : m (Str.ofString "has_comment_open") = some (.bool b)) (F : Fr h₀ L s.heap m) (N : News h₀ L s.heap led) (h : Q b s) :
    wpAny (model PySem.Challenge.rw_er0025_01.row.prog w) ((ktrTop dp un gd cn cs Lc a ccd cl outer).deeper (envF L cd)) (isTrue (ifTest (nthS bodyF 6)) (envF L cd) (eval (ifTest (nthS bodyF 6)) (envF L cd))) Q E s := by
  revert X; w_top off; k_fill; intro X
  conv => arg 3; arg 1; whnf
  conv => arg 3; arg 3; arg 1; whnf
  conv => arg 3; arg 2; unfold envF; unfold scopeF; arg 2; whnf
  conv => arg 3; arg 3; arg 2; unfold envF; unfold scopeF; arg 2; whnf
  conv => arg 2; arg 2; unfold envF; unfold scopeF; arg 2; whnf
  k_steps
  exact h
theorem bodyF_eq : bodyF = take5 bodyF ++ [nthS bodyF 5, nthS bodyF 6, nthS bodyF 7] := rfl
set_option maxHeartbeats 2000000 in
theorem find_N {w : World} {mean : ExcName → Option Value} {mg mb : Str → Option Value} {x : Str} {tk : Tok} (hx : x.cps.size ≤ 16) (hal : ∀ i, i < x.cps.size → x.cps.getD i 0 ∈ AL)
    {dp un : Nat} {gd : Option (List Code)} {cn : Str} {cs : Scope} {a : Addr} {ccd : Value} {cl : List (Str × Addr)} {outer : List Env} {A₀ : Around} {base h₀ : Heap} {L : Addr} {m : Str → Option Value} {s : Shared} {Q : Value → Shared → Prop}
    (B : Below A₀ base outer h₀) (F : Fr h₀ L s.heap m) (X : (hd.heap_39 w.params).In h₀) (T : Top hd.view_39 (looseW hd.view_39 LS) mean mg mb h₀) (hk : cs.kind = .function) (hl : dp + 8 < recursionLimit) (hu : un + 64 < cLine)
    (hno : hasD x = false → hasO x = false → ∀ h' tk', (∀ b o, s.heap.get? b = some o → h'.get? b = some o) → Q (.ref 199) { s with heap := h', toks := tk' })
    (hyes : (hasD x = true ∨ hasO x = true) → ∀ h' tk' L' sp d oD cD oo oc C O, (∀ b o, s.heap.get? b = some o → h'.get? b = some o) → News s.heap L' h' (spLed sp d oD cD oo oc C O) → oo.IsDictOf (intKind PySem.Challenge.rw_er0025_01.row.prog w) (kvsO O) → oc.IsDictOf (strKind PySem.Challenge.rw_er0025_01.row.prog w) (kvsC C) →
      (cD == sysModules) = false → (oD == sysModules) = false → cv C = VAll x → ov O = WAll x → Q (.ref sp) { s with heap := h', toks := tk' }) :
    wpN (modelA PySem.Challenge.rw_er0025_01.row.prog w) (ktrTop dp un gd cn cs L a ccd cl outer) (call (.ref 207) [.str x tk]) Q s := by
  revert X; w_top off; k_fill; intro X
  refine N_call ?_
  k_dflt (refine' codeN_def ?k2 ?k3 ?k4 ?k5 ?kA ?kF ?kK ?k6 ?k7 ?k8 ?k9 ?kB ?_ ?c2 ?c3 ?c4 ?c5)
  case kA => exact rfl
  case kF => exact rfl
  case kK => assumption
  case k2 => k_asm
  case k3 => k_asm
  case k4 => k_asm
  case k5 => k_asm
  case k6 => k_is
  case k7 => k_is
  case k8 => ktr_room
  case k9 => exact BindsTo.of_eq rfl
  case c5 => decide
  case kB => exact locs rfl
  case c2 => exact rfl
  case c3 => exact rfl
  case c4 => exact rfl
  k_whole
  intro h1 F1 B1 X1 T1
  show wpN _ ((ktrTop dp un gd cn cs L a ccd cl outer).deeper (envF s.heap.objs.size _)) (execs (take5 bodyF ++ [nthS bodyF 5, nthS bodyF 6, nthS bodyF 7]) (envF s.heap.objs.size _)) _ _
  have N0 : News s.heap s.heap.objs.size h1 [] := News.nil
  refine N_execs_split (N_any (any_A (startF (x := x) (tk0 := tk) hx B1 X1 T1 (by omega) (by omega) rfl F1 N0 (fun e1 e2 m2 h2 tk2 F2 => ?_) (fun hor m2 h2 tk2 oD cD oo oc F2 a1 a2 a3 a4 a5 N2 hoo hoc hnd lo lo2 => ?_))))
  · exact ⟨_, rfl, hno e1 e2 h2 tk2 F2.keep⟩
  clear F1 N0
  generalize hcd : (Value.ref 206 : Value) = cd
  have tail : ∀ (m2 : Str → Option Value) (h2 : Heap) (tk2 : Nat) (oo oc : Obj) (C : List CEnt) (O : List OEnt), Fr s.heap s.heap.objs.size h2 m2 → m2 (Str.ofString "text") = some (.str x tk) → m2 (Str.ofString "openers") = some (.ref oD) → m2 (Str.ofString "closers") = some (.ref cD) → m2 (Str.ofString "has_comment_open") = some (.bool (hasO x)) →
      News s.heap s.heap.objs.size h2 (Lg oD oo cD oc C O []) → oo.IsDictOf (intKind PySem.Challenge.rw_er0025_01.row.prog w) (kvsO O) → oc.IsDictOf (strKind PySem.Challenge.rw_er0025_01.row.prog w) (kvsC C) → (AdL oD cD C O []).Nodup → cv C = VD x (places x.cps.size (PD x)) → ov O = WD x (places x.cps.size (PD x)) →
      wpN (modelA PySem.Challenge.rw_er0025_01.row.prog w) ((ktrTop dp un gd cn cs L a ccd cl outer).deeper (envF s.heap.objs.size cd)) (execs [nthS bodyF 6, nthS bodyF 7] (envF s.heap.objs.size cd)) (fun fl s' => ∃ v, Flow.ret (match fl with | .ret v => v | _ => .none) = .ret v ∧ Q v s') { s with heap := h2, toks := tk2 } := by
    intro m2 h2 tk2 oo oc C O F2 a1 a2 a3 a4 N2 hoo hoc hnd e1 e2
    -- the return
    have back : ∀ (m2 : Str → Option Value) (h2 : Heap) (tk2 : Nat) (oo oc : Obj) (C : List CEnt) (O : List OEnt), Fr s.heap s.heap.objs.size h2 m2 → m2 (Str.ofString "openers") = some (.ref oD) → m2 (Str.ofString "closers") = some (.ref cD) →
        News s.heap s.heap.objs.size h2 (Lg oD oo cD oc C O []) → oo.IsDictOf (intKind PySem.Challenge.rw_er0025_01.row.prog w) (kvsO O) → oc.IsDictOf (strKind PySem.Challenge.rw_er0025_01.row.prog w) (kvsC C) → cv C = VAll x → ov O = WAll x →
        wpN (modelA PySem.Challenge.rw_er0025_01.row.prog w) ((ktrTop dp un gd cn cs L a ccd cl outer).deeper (envF s.heap.objs.size cd)) (execs [nthS bodyF 7] (envF s.heap.objs.size cd)) (fun fl s' => ∃ v, Flow.ret (match fl with | .ret v => v | _ => .none) = .ret v ∧ Q v s') { s with heap := h2, toks := tk2 } := by
      intro m2 h2 tk2 oo oc C O F2 a2 a3 N2 hoo hoc e1 e2
      refine N_execs_cons (N_any (any_A (retF (v0 := .none) (s := { s with heap := h2, toks := tk2 }) B1 X1 T1 (by omega) (by omega) a2 a3 F2 N2 (fun sp d h3 tk3 F3 N3 f1 f2 => ?_))))
      exact ⟨_, rfl, hyes hor h3 tk3 _ sp d oD cD oo oc C O F3.keep N3 hoo hoc lo lo2 e1 e2⟩
    have hlenD := len_places x.cps.size (PD x)
    have hlenH := len_places x.cps.size (PH x)
    have hbnd : Bounded 16 (cv C) := by rw [e1]; exact (bounded_VD x _).mono (by omega)
    have hWD := len_WD x (places x.cps.size (PD x))
    have hsm : Small C O := small_of hbnd (by rw [e2]; omega) (by omega)
    refine N_execs_cons ?_
    rw [ifO_eq]
    refine N_If (N_any (any_A (testO (s := { s with heap := h2, toks := tk2 }) B1 X1 T1 a4 F2 N2 ?_)))
    cases hO : hasO x with
    | false =>
      rw [if_neg (by decide)]
      refine N_execs_nil ?_
      refine back m2 h2 tk2 oo oc C O F2 a2 a3 N2 hoo hoc ?_ ?_
      · rw [e1]; unfold VAll; rw [hO, if_neg (by decide), List.append_nil]
      · rw [e2]; unfold WAll; rw [emptyH hO, emptyO hO]; simp [WS]
    | true =>
      rw [if_pos rfl]
      refine N_execs_cons (forH (s := { s with heap := h2, toks := tk2 }) (W0 := WD x (places x.cps.size (PD x))) hx B1 X1 T1 (by omega) (by omega) a1 a2 a3 a4 hnd hoo e2 (by omega) hsm (fun v hv j hj q => ?_) F2 N2 ?_)
      · obtain ⟨i, hi, e3⟩ := pos_WD hv
        have h4 := bD_iff.mp (mem_places.mp hi).2
        have h5 := bH_iff.mp hj
        rw [e3] at q
        have : i = j := by omega
        subst this
        have := h4.2.1; have := h5.2.1; omega
      intro m3 h3 tk3 oo3 O3 F3 b1 b2 b3 b4 N3 hoo3 hnd3 e3
      have hlen3 : (ov O3).length ≤ 500 := by rw [e3, List.length_append, len_WS]; omega
      have hsm3 : Small C O3 := small_of hbnd (by omega) (by omega)
      refine N_execs_cons (forO (s := { s with heap := h3, toks := tk3 }) (W0 := WD x (places x.cps.size (PD x)) ++ WS 3 119 (places x.cps.size (PH x))) hx B1 X1 T1 (by omega) (by omega) b1 b2 b3 b4 hnd3 hoo3 e3 (by rw [← e3]; exact hlen3) hsm3 (fun v hv j hj q => ?_) F3 N3 ?_)
      · have h5 := bO_iff.mp hj
        rcases List.mem_append.mp hv with hv | hv
        · obtain ⟨i, hi, e4⟩ := pos_WD hv
          have h4 := bD_iff.mp (mem_places.mp hi).2
          rw [e4] at q
          have : i = j := by omega
          subst this
          have := h4.2.1; have := h5.2.1; omega
        · obtain ⟨i, hi, e4⟩ := pos_WS hv
          have h4 := bH_iff.mp (mem_places.mp hi).2
          rw [e4] at q
          have : i = j := by omega
          subst this
          exact h5.2.2.2 ⟨h4.1, h4.2.2.2⟩
      intro m4 h4 tk4 oo4 O4 F4 c1 c2 c3 c4 N4 hoo4 hnd4 e4
      have hlen4 : (ov O4).length ≤ 1000 := by
        have := len_places x.cps.size (PO x)
        rw [e4, List.length_append, List.length_append, len_WS, len_WS]; omega
      have hsm4 : Small C O4 := small_of hbnd hlen4 (by omega)
      refine N_execs_cons (N_any (any_A (setA (s := { s with heap := h4, toks := tk4 }) B1 X1 T1 (by omega) (by omega) c1 c2 c3 hnd4 hoc lo hsm4 (fun c hc q => ?_) F4 N4 ?_)))
      · have hv : (c.tag, c.xs.map (·.1), c.ys.map (·.1)) ∈ cv C := List.mem_map.mpr ⟨c, hc, rfl⟩
        rw [e1] at hv
        obtain ⟨j, hj, e5⟩ := tags_VD _ _ rfl _ hv
        have e6 : c.tag = tagD x j := e5
        exact tagD_ne (mem_places.mp hj).2 (e6.symm.trans q)
      intro m5 h5 tk5 oc5 c F5 d1 d2 d3 d4 d5 N5 hoc5 hnd5 e5 e6 e7
      refine N_execs_cons (forC (s := { s with heap := h5, toks := tk5 }) hx B1 X1 T1 (by omega) (by omega) d1 d2 d3 d4 d5 hnd5 e6 e7 F5 N5 ?_)
      intro m6 h6 tk6 c' F6 f2 f3 N6 hnd6 e8 e9 e10 e11
      refine N_execs_nil ?_
      refine back m6 h6 tk6 oo4 oc5 (C ++ [c']) O4 F6 f2 f3 N6 hoo4 ?_ ?_ ?_
      · have : kvsC (C ++ [c']) = kvsC (C ++ [c]) := by unfold kvsC; rw [List.map_append, List.map_append, List.map_singleton, List.map_singleton, e8, e9]
        rw [this]; exact hoc5
      · have : cv (C ++ [c']) = cv C ++ [(c'.tag, c'.xs.map (·.1), c'.ys.map (·.1))] := by unfold cv; rw [List.map_append]; rfl
        rw [this, e1, e8, e5, e10, e11]
        unfold VAll
        rw [hO, if_pos rfl]
      · rw [e4]; rfl
  refine N_execs_cons ?_
  rw [ifD_eq]
  refine N_If (N_any (any_A (testD B1 X1 T1 a5 F2 N2 ?_)))
  cases hD : hasD x with
  | false =>
    rw [if_neg (by decide)]
    refine N_execs_nil ?_
    exact tail m2 h2 tk2 oo oc [] [] F2 a1 a2 a3 a4 N2 hoo hoc hnd (by rw [emptyD hD]; rfl) (by rw [emptyD hD]; rfl)
  | true =>
    rw [if_pos rfl]
    refine N_execs_cons (forD hx hal B1 X1 T1 (by omega) (by omega) a1 a2 a3 a4 hnd hoo hoc lo F2 N2 ?_)
    intro m3 h3 tk3 oo3 oc3 C3 O3 F3 b1 b2 b3 b4 N3 hoo3 hoc3 hnd3 e3 e4
    exact N_execs_nil (tail m3 h3 tk3 oo3 oc3 C3 O3 F3 b1 b2 b3 b4 N3 hoo3 hoc3 hnd3 e3 e4)
end Mine

end

section -- part ResC
set_option linter.unusedVariables false
open PySem PySem.W PyProof PyProof.Rows PySem.Calls PySem.Spec
set_option maxRecDepth 100000
namespace Mine
theorem valO {prog : Program} {w : World} {oo : Obj} {O : List OEnt} {o : OEnt} (hoo : oo.IsDictOf (intKind prog w) (kvsO O)) (ho : o ∈ O) : valueAt (kvsO O) o.pos = some (.ref o.t) := by
  obtain ⟨_, _, _, _, _, _, hkn⟩ := id hoo
  obtain ⟨i, hi, hic⟩ := List.getElem_of_mem ho
  refine valueAt_of_get (i := i) hkn ?_
  unfold kvsO
  rw [List.getElem?_map, List.getElem?_eq_getElem hi, hic]; rfl
theorem valC {prog : Program} {w : World} {oc : Obj} {C : List CEnt} {c : CEnt} (hoc : oc.IsDictOf (strKind prog w) (kvsC C)) (hc : c ∈ C) : valueAt (kvsC C) c.tag = some (.ref c.t) := by
  obtain ⟨_, _, _, _, _, _, hkn⟩ := id hoc
  obtain ⟨i, hi, hic⟩ := List.getElem_of_mem hc
  refine valueAt_of_get (i := i) hkn ?_
  unfold kvsC
  rw [List.getElem?_map, List.getElem?_eq_getElem hi, hic]; rfl
local macro_rules | `(tactic| k_mem) => `(tactic| assumption)
local macro_rules | `(tactic| walk_at "call builtin:_bisect.bisect_left") => `(tactic| refine Stop.out ?_)
local macro_rules | `(tactic| walk_at "subscriptTail") => `(tactic| refine Stop.out ?_)
set_option maxHeartbeats 2000000 in
theorem resolve_gives {w : World} {mean : ExcName → Option Value} {mg mb : Str → Option Value} {j : Int} {tj : Tok} {sp d oD cD : Addr} {oo oc : Obj} {C : List CEnt} {O : List OEnt} {o : OEnt} {c : CEnt}
    {dp un : Nat} {gd : Option (List Code)} {cn : Str} {cs : Scope} {a : Addr} {ccd : Value} {cl : List (Str × Addr)} {outer : List Env} {A₀ : Around} {base h₀ : Heap} {L : Addr} {m : Str → Option Value} {news : List (Addr × Obj)} {s : Shared} {Q E : Value → Shared → Prop}
    (B : Below A₀ base outer h₀) (F : Fr h₀ L s.heap m) (X : (hd.heap_39 w.params).In h₀) (N : News h₀ L s.heap news) (T : Top hd.view_39 (looseW hd.view_39 LS) mean mg mb h₀) (hk : cs.kind = .function) (hl : dp + 2 < recursionLimit) (hu : un + 16 < cLine)
    (m1 : (sp, spObj d cD oD) ∈ news) (m2 : (d, dictOf [] 0) ∈ news) (m3 : (oD, oo) ∈ news) (m4 : (cD, oc) ∈ news)
    (hoo : oo.IsDictOf (intKind PySem.Challenge.rw_er0025_01.row.prog w) (kvsO O)) (hoc : oc.IsDictOf (strKind PySem.Challenge.rw_er0025_01.row.prog w) (kvsC C))
    (ho : o ∈ O) (hoj : o.pos = j) (hc : c ∈ C) (hct : c.tag = o.tag) (m5 : (o.t, tupObj [.int o.en o.ek, .str o.tag o.tt, .ref o.ty]) ∈ news) (m6 : (c.t, tupObj [.ref c.s, .ref c.e]) ∈ news) (m7 : (c.s, listOf (intsV c.xs) c.n₁) ∈ news) (m8 : (c.e, listOf (intsV c.ys) c.n₂) ∈ news)
    (hfx : c.xs.length ≤ 1000) (hlen : c.ys.length = c.xs.length) (hs : ∀ (i j : Nat) (p q : Int × Tok), i ≤ j → c.xs[i]? = some p → c.xs[j]? = some q → p.1 ≤ q.1)
    (hnone : (∀ p ∈ c.xs, p.1 < o.en) → ∀ h' tk', Fr h₀ L h' m → News h₀ L h' news → Q .none { s with heap := h', toks := tk' })
    (hsome : ∀ (i : Nat) (p q : Int × Tok) (b : Addr), c.xs[i]? = some p → c.ys[i]? = some q → o.en ≤ p.1 → (∀ (k : Nat) (p' : Int × Tok), k < i → c.xs[k]? = some p' → p'.1 < o.en) → ∀ h' tk', Fr h₀ L h' m → News h₀ L h' ((b, tupObj [.int q.1 q.2, .ref o.ty]) :: news) → Q (.ref b) { s with heap := h', toks := tk' }) :
    wpAny (model PySem.Challenge.rw_er0025_01.row.prog w) (ktrTop dp un gd cn cs L a ccd cl outer) (call (.ref 187) [.ref sp, .int j tj]) Q E s := by
  revert X; w_top off; k_fill; intro X
  refine wpAny_call ?_
  k_dflt cell_enter
  k_steps
  refine Stop.into ?_
  k_dflt (refine kba_turn (value' := PySem.Expr.Name (PySem.Str.ofString "_") ⟨0, 0, 0, 0⟩) (fun _ => rfl) ?_)
  k_dflt (refine kda_item (knd := intKind _ _) (by assumption) m3 hoo (intKind_is _ _ _ _) (by rw [← hoj]; exact valO hoo ho) ?_)
  k_steps
  refine Stop.into ?_
  k_dflt (refine kba_turn (value' := PySem.Expr.Name (PySem.Str.ofString "_") ⟨0, 0, 0, 0⟩) (fun _ => rfl) ?_)
  k_dflt (refine kda_item (knd := strKind _ _) (by assumption) m4 hoc (strKind_is _ _ _ _) (by rw [← hct]; exact valC hoc hc) ?_)
  k_steps
  refine Stop.into ?_
  refine bis_call hfx (News.get (by assumption) m7) hs (fun i tk tk' hi h1 h2 => ?_)
  k_steps
  have hsz : (intsV c.xs).size = c.xs.length := by unfold intsV; simp
  refine call_len_list (items := intsV c.xs) ⟨_, News.get (by assumption) m7, rfl, _, rfl⟩ (by rw [hsz]; omega) ?_
  rw [hsz]
  k_steps
  · have hi' : (i : Int) = (c.xs.length : Int) := by assumption
    exact hnone (fun p hp => by
      obtain ⟨k, hk, rfl⟩ := List.getElem_of_mem hp
      exact h1 k _ (by omega) (List.getElem?_eq_getElem hk)) _ _ (by assumption) (by assumption)
  · have hi' : (i : Int) ≠ (c.xs.length : Int) := by assumption
    have hix : i < c.xs.length := by omega
    have hiy : i < c.ys.length := by omega
    have hy : (intsV c.ys)[((i : Int)).toNat]? = some (.int (c.ys[i]).1 (c.ys[i]).2) := by
      unfold intsV; simp [hiy]
    refine Stop.into ?_
    refine subscriptTail_builtin (T := "list") ⟨_, News.get (by assumption) m8, rfl⟩ slot_list_getitem.lookup (wpAny_getItem_list (items := intsV c.ys) ⟨_, News.get (by assumption) m8, rfl, _, rfl⟩ (by omega) (by omega) hy ?_)
    k_steps
    exact hsome i (c.xs[i]) (c.ys[i]) _ (List.getElem?_eq_getElem hix) (List.getElem?_eq_getElem hiy) (h2 i _ (Nat.le_refl _) (List.getElem?_eq_getElem hix)) h1 _ _ (by assumption) (by assumption)
end Mine

end

section -- part P4
set_option linter.unusedVariables false
open PySem PySem.W PyProof PyProof.Rows PySem.Calls PySem.Spec
set_option maxRecDepth 100000
namespace Mine
def F1 (n : Nat) (P : Nat → Bool) : List Nat := (List.range n).filter P
theorem F1_sorted (n : Nat) (P : Nat → Bool) : (F1 n P).Pairwise (· < ·) := List.Pairwise.filter _ List.pairwise_lt_range
theorem mem_F1 {n : Nat} {P : Nat → Bool} {q : Nat} : q ∈ F1 n P ↔ q < n ∧ P q = true := by unfold F1; simp
theorem F1_lt {n : Nat} {P : Nat → Bool} {i k p q : Nat} (h1 : (F1 n P)[i]? = some p) (h2 : (F1 n P)[k]? = some q) (h : i < k) : p < q := by
  have hs := F1_sorted n P
  rw [List.pairwise_iff_getElem] at hs
  obtain ⟨a1, rfl⟩ := List.getElem?_eq_some_iff.mp h1
  obtain ⟨a2, rfl⟩ := List.getElem?_eq_some_iff.mp h2
  exact hs i k a1 a2 h
theorem seek_none {n en : Nat} {P : Nat → Bool} (h : ∀ p ∈ F1 n P, p < en) : firstGe n P en = none := firstGe_none fun q h1 h2 => by
  cases hP : P q with
  | false => rfl
  | true => have := h q (mem_F1.mpr ⟨h2, hP⟩); omega
theorem seek_some {n en i p : Nat} {P : Nat → Bool} (hi : (F1 n P)[i]? = some p) (he : en ≤ p) (hb : ∀ k p', k < i → (F1 n P)[k]? = some p' → p' < en) : firstGe n P en = some p := by
  have hm := mem_F1.mp (List.mem_of_getElem? hi)
  refine firstGe_some he hm.1 hm.2 fun q h1 h2 => ?_
  cases hP : P q with
  | false => rfl
  | true =>
    obtain ⟨k, hk, hkq⟩ := List.getElem_of_mem (mem_F1.mpr ⟨by omega, hP⟩ : q ∈ F1 n P)
    have hk' : (F1 n P)[k]? = some q := by rw [List.getElem?_eq_getElem hk, hkq]
    by_cases hki : k < i
    · have := hb k q hki hk'; omega
    · by_cases e : k = i
      · subst e; rw [hi] at hk'; injection hk' with e2; omega
      · have := F1_lt hi hk' (by omega); omega

/-- what stands under a tag -/
def okV (x : Str) (l : List Nat) (v : Str × List Int × List Int) : Prop :=
  v.2.1 = (l.filter fun i => tagD x i == v.1).map (fun (i : Nat) => (i : Int)) ∧ v.2.2 = (l.filter fun i => tagD x i == v.1).map (fun (i : Nat) => ((endD x i : Nat) : Int))
theorem VD_spec (x : Str) : ∀ (n : Nat) (l : List Nat), l.length = n → (∀ v ∈ VD x l, okV x l v) ∧ ∀ i ∈ l, ∃ v ∈ VD x l, v.1 = tagD x i := by
  intro n
  induction n with
  | zero =>
    intro l hl
    obtain rfl := List.eq_nil_of_length_eq_zero hl
    exact ⟨fun v hv => (nomatch hv), fun i hi => (nomatch hi)⟩
  | succ n ih =>
    intro l hl
    rcases snoc_cases l with rfl | ⟨i, a, rfl⟩
    · cases hl
    · rw [List.length_append, List.length_singleton] at hl
      obtain ⟨h1, h2⟩ := ih i (by omega)
      rw [VD_snoc]
      by_cases hin : (VD x i).any (fun v => v.1 = tagD x a) = true
      · have ep : put (VD x i) (tagD x a) a (endD x a) = (VD x i).map (fun v => if v.1 = tagD x a then (v.1, v.2.1 ++ [(a : Int)], v.2.2 ++ [((endD x a : Nat) : Int)]) else v) := by unfold put; rw [if_pos hin]
        rw [ep]
        constructor
        · intro v hv
          obtain ⟨u, hu, rfl⟩ := List.mem_map.mp hv
          obtain ⟨e1, e2⟩ := h1 u hu
          split
          · rename_i ht
            unfold okV
            dsimp only
            rw [List.filter_append, List.map_append, List.map_append, e1, e2]
            have : ([a].filter fun i => tagD x i == u.1) = [a] := by simp [ht]
            rw [this]; exact ⟨rfl, rfl⟩
          · rename_i ht
            unfold okV
            have : ([a].filter fun i => tagD x i == u.1) = [] := by
              simp only [List.filter_cons, List.filter_nil]
              rw [if_neg]
              simpa using fun q => ht q.symm
            rw [List.filter_append, this, List.append_nil]
            exact ⟨e1, e2⟩
        · intro k hk
          rcases List.mem_append.mp hk with hk | hk
          · obtain ⟨v, hv, e⟩ := h2 k hk
            refine ⟨_, List.mem_map.mpr ⟨v, hv, rfl⟩, ?_⟩
            split <;> exact e
          · simp at hk; subst hk
            obtain ⟨v, hv, e⟩ := List.any_eq_true.mp hin
            refine ⟨_, List.mem_map.mpr ⟨v, hv, rfl⟩, ?_⟩
            split
            · simpa using e
            · rename_i q; exact absurd (by simpa using e) q
      · have ep : put (VD x i) (tagD x a) a (endD x a) = VD x i ++ [(tagD x a, [(a : Int)], [((endD x a : Nat) : Int)])] := by unfold put; rw [if_neg hin]
        have hno : ∀ v ∈ VD x i, v.1 ≠ tagD x a := fun v hv q => hin (List.any_eq_true.mpr ⟨v, hv, by simpa using q⟩)
        rw [ep]
        constructor
        · intro v hv
          rcases List.mem_append.mp hv with hv | hv
          · obtain ⟨e1, e2⟩ := h1 v hv
            unfold okV
            have : ([a].filter fun i => tagD x i == v.1) = [] := by
              simp only [List.filter_cons, List.filter_nil]
              rw [if_neg]
              simpa using fun q => hno v hv q.symm
            rw [List.filter_append, this, List.append_nil]
            exact ⟨e1, e2⟩
          · simp at hv; subst hv
            unfold okV
            have : (i.filter fun k => tagD x k == tagD x a) = [] := by
              rw [List.filter_eq_nil_iff]
              intro k hk q
              obtain ⟨v, hv, e⟩ := h2 k hk
              exact hno v hv (e.trans (by simpa using q))
            rw [List.filter_append, this]
            simp
        · intro k hk
          rcases List.mem_append.mp hk with hk | hk
          · obtain ⟨v, hv, e⟩ := h2 k hk
            exact ⟨v, List.mem_append_left _ hv, e⟩
          · simp at hk; subst hk
            exact ⟨_, List.mem_append_right _ (.head _), rfl⟩
theorem places_F1 (n : Nat) (b : Nat → Bool) : places n (fun s => b s = true) = F1 n b := by
  unfold places F1
  congr 1
  funext s
  simp
theorem tagged_F1 (x : Str) (t : Str) : (places x.cps.size (PD x)).filter (fun i => tagD x i == t) = F1 x.cps.size (fun p => bD x.cps x.cps.size p && tagD x p == t) := by
  have : places x.cps.size (PD x) = F1 x.cps.size (bD x.cps x.cps.size) := places_F1 _ _
  rw [this]
  unfold F1
  rw [List.filter_filter]
  congr 1
  funext s
  rw [Bool.and_comm]
end Mine

end

section -- part P5
set_option linter.unusedVariables false
open PySem PySem.W PyProof PyProof.Rows PySem.Calls PySem.Spec
set_option maxRecDepth 100000
namespace Mine
def tyOf : Nat → Addr
  | 0 => 135
  | 1 => 119
  | _ => 123
/-- what a closers' entry must tell for an opener that ends at en -/
def Tells (c : CEnt) (en : Int) (r : Option Nat) : Prop :=
  c.xs.length ≤ 1000 ∧ c.ys.length = c.xs.length ∧ (∀ (i j : Nat) (p q : Int × Tok), i ≤ j → c.xs[i]? = some p → c.xs[j]? = some q → p.1 ≤ q.1) ∧
  ((∀ p ∈ c.xs, p.1 < en) → r = none) ∧
  (∀ (i : Nat) (p q : Int × Tok), c.xs[i]? = some p → c.ys[i]? = some q → en ≤ p.1 → (∀ (k : Nat) (p' : Int × Tok), k < i → c.xs[k]? = some p' → p'.1 < en) → ∃ e : Nat, r = some e ∧ q.1 = (e : Int))
theorem at_map {l : List (Int × Tok)} {F : List Nat} {f : Nat → Int} (h : l.map (·.1) = F.map f) {i : Nat} {p : Int × Tok} (hp : l[i]? = some p) : ∃ q, F[i]? = some q ∧ p.1 = f q := by
  have h1 : (l.map (·.1))[i]? = some p.1 := by rw [List.getElem?_map, hp]; rfl
  rw [h, List.getElem?_map] at h1
  cases hF : F[i]? with
  | none => rw [hF] at h1; cases h1
  | some q => rw [hF] at h1; injection h1 with h1; exact ⟨q, rfl, h1.symm⟩
theorem map_at {l : List (Int × Tok)} {F : List Nat} {f : Nat → Int} (h : l.map (·.1) = F.map f) {i q : Nat} (hq : F[i]? = some q) : ∃ p, l[i]? = some p ∧ p.1 = f q := by
  have h1 : (F.map f)[i]? = some (f q) := by rw [List.getElem?_map, hq]; rfl
  rw [← h, List.getElem?_map] at h1
  cases hl : l[i]? with
  | none => rw [hl] at h1; cases h1
  | some p => rw [hl] at h1; injection h1 with h1; exact ⟨p, rfl, h1⟩
theorem tells_of {c : CEnt} {n en : Nat} {P : Nat → Bool} {g : Nat → Nat} (hn : n ≤ 16) (hx : c.xs.map (·.1) = (F1 n P).map (fun (i : Nat) => (i : Int))) (hy : c.ys.map (·.1) = (F1 n P).map (fun (i : Nat) => ((g i : Nat) : Int))) :
    Tells c (en : Int) ((firstGe n P en).map g) := by
  have lx : c.xs.length = (F1 n P).length := by have := congrArg List.length hx; simpa using this
  have ly : c.ys.length = (F1 n P).length := by have := congrArg List.length hy; simpa using this
  have lF : (F1 n P).length ≤ n := by unfold F1; exact Nat.le_trans (List.length_filter_le _ _) (by rw [List.length_range]; exact Nat.le_refl _)
  refine ⟨by omega, by omega, fun i j p q hij hp hq => ?_, fun h => ?_, fun i p q hp hq he hb => ?_⟩
  · obtain ⟨a, ha, ea⟩ := at_map hx hp
    obtain ⟨b, hb, eb⟩ := at_map hx hq
    by_cases e : i = j
    · subst e; rw [hp] at hq; injection hq with hq; rw [hq]; exact Int.le_refl _
    · have := F1_lt ha hb (by omega)
      rw [ea, eb]; omega
  · rw [seek_none (fun q hq => ?_)]; · rfl
    obtain ⟨k, hk, rfl⟩ := List.getElem_of_mem hq
    obtain ⟨p, hp, e⟩ := map_at hx (List.getElem?_eq_getElem hk)
    have := h p (List.mem_of_getElem? hp)
    rw [e] at this; omega
  · obtain ⟨a, ha, ea⟩ := at_map hx hp
    obtain ⟨b, hb', eb⟩ := at_map hy hq
    rw [ha] at hb'; injection hb' with hb'; subst hb'
    rw [seek_some ha (by rw [ea] at he; omega) (fun k p' hk hp' => ?_)]
    · exact ⟨g a, rfl, eb⟩
    · obtain ⟨p2, hp2, e2⟩ := map_at hx hp'
      have := hb k p2 hk hp2
      rw [e2] at this; omega

section
variable {x : Str} {O : List OEnt} {C : List CEnt} (hn : x.cps.size ≤ 16) (hov : ov O = WAll x) (hcv : cv C = VAll x)
theorem mem_ov {v : Int × Int × Str × Addr} (h : ov O = WAll x) (hv : v ∈ WAll x) : ∃ o ∈ O, o.pos = v.1 ∧ o.en = v.2.1 ∧ o.tag = v.2.2.1 ∧ o.ty = v.2.2.2 := by
  rw [← h] at hv
  obtain ⟨o, ho, rfl⟩ := List.mem_map.mp hv
  exact ⟨o, ho, rfl, rfl, rfl, rfl⟩
theorem mem_cv {v : Str × List Int × List Int} (h : cv C = VAll x) (hv : v ∈ VAll x) : ∃ c ∈ C, c.tag = v.1 ∧ c.xs.map (·.1) = v.2.1 ∧ c.ys.map (·.1) = v.2.2 := by
  rw [← h] at hv
  obtain ⟨c, hc, rfl⟩ := List.mem_map.mp hv
  exact ⟨c, hc, rfl, rfl, rfl⟩
include hn hov hcv in
theorem law_at {j : Nat} {r : Option Nat} {k : Nat} (hj : j < x.cps.size) (h : dueOf x j = some (r, k)) :
    ∃ o ∈ O, o.pos = (j : Int) ∧ o.ty = tyOf k ∧ ∃ c ∈ C, c.tag = o.tag ∧ Tells c o.en r := by
  unfold dueOf at h
  split at h
  · rename_i hd
    simp only [Bool.and_eq_true, Bool.not_eq_true'] at hd
    injection h with h; injection h with h1 h2; subst h1 h2
    have hp : j ∈ places x.cps.size (PD x) := mem_places.mpr ⟨hj, hd.1⟩
    obtain ⟨o, ho, e1, e2, e3, e4⟩ := mem_ov hov (v := ((j : Int), ((endD x j : Nat) : Int), tagD x j, (135 : Addr))) (by
      unfold WAll
      refine List.mem_append_left _ (List.mem_append_left _ ?_)
      exact List.mem_map.mpr ⟨j, List.mem_filter.mpr ⟨hp, by rw [hd.2]; rfl⟩, rfl⟩)
    obtain ⟨s1, s2⟩ := VD_spec x _ (places x.cps.size (PD x)) rfl
    obtain ⟨v, hv, ev⟩ := s2 j hp
    obtain ⟨c, hc, f1, f2, f3⟩ := mem_cv hcv (v := v) (List.mem_append_left _ hv)
    obtain ⟨g1, g2⟩ := s1 v hv
    refine ⟨o, ho, e1, e4, c, hc, by rw [f1, e3]; exact ev, ?_⟩
    rw [e2]
    refine tells_of (P := fun p => bD x.cps x.cps.size p && tagD x p == tagD x j) (g := endD x) hn ?_ ?_
    · rw [f2, g1, ev, tagged_F1]
    · rw [f3, g2, ev, tagged_F1]
  · split at h
    · rename_i hH
      injection h with h; injection h with h1 h2; subst h1 h2
      have hO : hasO x = true := hasO_iff.mpr ⟨j, by have := (bH_iff.mp hH).1; omega, (bH_iff.mp hH).2.1, (bH_iff.mp hH).2.2.1⟩
      obtain ⟨o, ho, e1, e2, e3, e4⟩ := mem_ov hov (v := ((j : Int), ((j + 3 : Nat) : Int), Str.ofString "/*", (119 : Addr))) (by
        unfold WAll
        refine List.mem_append_left _ (List.mem_append_right _ ?_)
        exact List.mem_map.mpr ⟨j, mem_places.mpr ⟨hj, hH⟩, rfl⟩)
      obtain ⟨c, hc, f1, f2, f3⟩ := mem_cv hcv (v := (Str.ofString "/*", (places x.cps.size (PC x)).map (fun (j : Nat) => (j : Int)), (places x.cps.size (PC x)).map (fun (j : Nat) => ((j + 2 : Nat) : Int)))) (by
        unfold VAll; rw [hO, if_pos rfl]; exact List.mem_append_right _ (.head _))
      refine ⟨o, ho, e1, e4, c, hc, by rw [f1, e3], ?_⟩
      rw [e2]
      refine tells_of (P := bC x.cps x.cps.size) (g := (· + 2)) hn ?_ ?_
      · rw [f2, ← places_F1]
      · rw [f3, ← places_F1]
    · split at h
      · rename_i hH
        injection h with h; injection h with h1 h2; subst h1 h2
        have hO : hasO x = true := hasO_iff.mpr ⟨j, (bO_iff.mp hH).1, (bO_iff.mp hH).2.1, (bO_iff.mp hH).2.2.1⟩
        obtain ⟨o, ho, e1, e2, e3, e4⟩ := mem_ov hov (v := ((j : Int), ((j + 2 : Nat) : Int), Str.ofString "/*", (123 : Addr))) (by
          unfold WAll
          refine List.mem_append_right _ ?_
          exact List.mem_map.mpr ⟨j, mem_places.mpr ⟨hj, hH⟩, rfl⟩)
        obtain ⟨c, hc, f1, f2, f3⟩ := mem_cv hcv (v := (Str.ofString "/*", (places x.cps.size (PC x)).map (fun (j : Nat) => (j : Int)), (places x.cps.size (PC x)).map (fun (j : Nat) => ((j + 2 : Nat) : Int)))) (by
          unfold VAll; rw [hO, if_pos rfl]; exact List.mem_append_right _ (.head _))
        refine ⟨o, ho, e1, e4, c, hc, by rw [f1, e3], ?_⟩
        rw [e2]
        refine tells_of (P := bC x.cps x.cps.size) (g := (· + 2)) hn ?_ ?_
        · rw [f2, ← places_F1]
        · rw [f3, ← places_F1]
      · cases h
include hov in
theorem law_not {j : Nat} (h : dueOf x j = none) : ∀ o ∈ O, o.pos ≠ (j : Int) := by
  intro o ho q
  obtain ⟨v, hv, hv'⟩ := pos_of_ov hov ho
  unfold dueOf at h
  split at h
  · cases h
  · rename_i hD
    split at h
    · cases h
    · rename_i hH
      split at h
      · cases h
      · rename_i hO
        unfold WAll at hv
        rcases List.mem_append.mp hv with hv | hv
        · rcases List.mem_append.mp hv with hv | hv
          · obtain ⟨i, hi, rfl⟩ := List.mem_map.mp hv
            have e : i = j := by rw [q] at hv'; exact Int.ofNat_inj.mp hv'
            subst e
            obtain ⟨h1, h2⟩ := List.mem_filter.mp hi
            exact hD (by rw [Bool.and_eq_true]; exact ⟨(mem_places.mp h1).2, h2⟩)
          · obtain ⟨i, hi, rfl⟩ := List.mem_map.mp hv
            have e : i = j := by rw [q] at hv'; exact Int.ofNat_inj.mp hv'
            subst e
            exact hH (mem_places.mp hi).2
        · obtain ⟨i, hi, rfl⟩ := List.mem_map.mp hv
          have e : i = j := by rw [q] at hv'; exact Int.ofNat_inj.mp hv'
          subst e
          exact hO (mem_places.mp hi).2
end
theorem count_three {l : List Nat} {a b c d : Nat → Bool} (h : ∀ i, d i = (a i || b i || c i)) (hab : ∀ i, a i = true → b i = false) (hac : ∀ i, a i = true → c i = false) (hbc : ∀ i, b i = true → c i = false) :
    (l.filter d).length = (l.filter a).length + (l.filter b).length + (l.filter c).length := by
  induction l with
  | nil => rfl
  | cons i l ih =>
    have h1 := hab i; have h2 := hac i; have h3 := hbc i
    simp only [List.filter_cons, h i]
    cases ha : a i <;> cases hb : b i <;> cases hc : c i <;> simp_all <;> omega
theorem law_count {x : Str} {O : List OEnt} (hov : ov O = WAll x) : O.length = ((List.range x.cps.size).filter fun j => (dueOf x j).isSome).length := by
  have e1 : O.length = (WAll x).length := by rw [← hov]; unfold ov; rw [List.length_map]
  rw [e1]
  unfold WAll WD WS
  simp only [List.length_append, List.length_map]
  have e2 : (places x.cps.size (PD x)).filter (fun j => !badB x j) = (List.range x.cps.size).filter (fun j => bD x.cps x.cps.size j && !badB x j) := by
    have : places x.cps.size (PD x) = F1 x.cps.size (bD x.cps x.cps.size) := places_F1 _ _
    rw [this]; unfold F1; rw [List.filter_filter]; congr 1; funext s; rw [Bool.and_comm]
  have e3 : places x.cps.size (PH x) = (List.range x.cps.size).filter (bH x.cps x.cps.size) := places_F1 _ _
  have e4 : places x.cps.size (PO x) = (List.range x.cps.size).filter (bO x.cps x.cps.size) := places_F1 _ _
  rw [e2, e3, e4]
  symm
  refine count_three (fun i => ?_) (fun i hi => ?_) (fun i hi => ?_) (fun i hi => ?_)
  · unfold dueOf
    cases h1 : (bD x.cps x.cps.size i && !badB x i) <;> cases h2 : bH x.cps x.cps.size i <;> cases h3 : bO x.cps x.cps.size i <;> simp
  · cases h : bH x.cps x.cps.size i with
    | false => rfl
    | true =>
      have h1 := (bH_iff.mp h).2.1
      have h2 := (bD_iff.mp (Bool.and_eq_true_iff.mp hi).1).2.1
      omega
  · cases h : bO x.cps x.cps.size i with
    | false => rfl
    | true =>
      have h1 := (bO_iff.mp h).2.1
      have h2 := (bD_iff.mp (Bool.and_eq_true_iff.mp hi).1).2.1
      omega
  · cases h : bO x.cps x.cps.size i with
    | false => rfl
    | true => have h1 := bO_iff.mp h; have h2 := bH_iff.mp hi; exact absurd ⟨h2.1, h2.2.2.2⟩ h1.2.2.2
end Mine

end

section -- part NumC
set_option linter.unusedVariables false
open PySem PySem.W PyProof.Rows PySem.Calls PySem.Spec
set_option maxRecDepth 100000
namespace Mine
set_option maxHeartbeats 2000000 in
theorem number_gives {w : World} {mean : ExcName → Option Value} {mg mb : Str → Option Value} {l : Addr} {vs : List Value} {ns : List Int} {k d : Int} {tk td : Tok} (hi : IntsAre vs ns) (hfit : ns.length < 2 ^ 62) (h0 : 0 ≤ k) :
    Gives w mean mg mb 214 1 (fun base => base.IsList l vs.toArray) [.ref l, .int k tk, .int d td] (fun v => ∃ n t, v = .int n t) := by
  unfold Gives; w_top off; k_fill
  intro dp un gd cn cs a ccd cl outer A₀ base h₀ L m news s Q E B F X N T hk hl hd hu hret
  refine wpAny_call ?_
  k_dflt cell_enter
  k_steps
  all_goals exact hret _ _ _ ⟨_, _, rfl⟩ (by assumption) (by assumption)
end Mine

end

section -- part L0
set_option linter.unusedVariables false
open PySem PySem.W PyProof PyProof.Rows PySem.Calls PySem.Spec
set_option maxRecDepth 100000
namespace Mine
theorem signs_step {x : Str} {n : Int} (h5 : ∀ i, i < x.cps.size → x.cps.getD i 0 ∈ AL) :
    (x ++ Txt.item (Str.ofString "/*+$a/*$b*/$\"\n$A") (n.fmod 16)).length = x.length + 1 ∧ ∀ i, i < (x ++ Txt.item (Str.ofString "/*+$a/*$b*/$\"\n$A") (n.fmod 16)).cps.size → (x ++ Txt.item (Str.ofString "/*+$a/*$b*/$\"\n$A") (n.fmod 16)).cps.getD i 0 ∈ AL := by
  have hn0 : 0 ≤ n.fmod 16 := Int.fmod_nonneg_of_pos _ (by decide)
  have hn1 : n.fmod 16 < 16 := Int.fmod_lt_of_pos _ (by decide)
  obtain ⟨k, hk⟩ : ∃ k : Nat, n.fmod 16 = (k : Int) := ⟨(n.fmod 16).toNat, by omega⟩
  rw [hk] at hn1 ⊢
  have hall : ∀ k, k < 16 → (Str.ofString "/*+$a/*$b*/$\"\n$A").cps.getD k 0 ∈ AL := by decide +kernel
  have h16 : (Str.ofString "/*+$a/*$b*/$\"\n$A").length = 16 := by decide +kernel
  rw [item_nat (by omega)]
  have hin := hall k (by omega)
  generalize (Str.ofString "/*+$a/*$b*/$\"\n$A").cps.getD k 0 = a at hin ⊢
  have e : (x ++ (⟨#[a]⟩ : Str)).cps = x.cps ++ #[a] := rfl
  have hl : (x ++ (⟨#[a]⟩ : Str)).length = x.length + 1 := by
    show (x ++ (⟨#[a]⟩ : Str)).cps.size = x.cps.size + 1
    rw [e, Array.size_append]; rfl
  refine ⟨hl, fun i hi => ?_⟩
  have hi' : i < x.cps.size + 1 := by
    have : (x ++ (⟨#[a]⟩ : Str)).cps.size = x.cps.size + 1 := hl
    omega
  rw [e]
  by_cases h : i < x.cps.size
  · have := h5 i h
    rw [Array.getD_eq_getD_getElem?] at this ⊢
    rw [Array.getElem?_append_left h]; exact this
  · have : i = x.cps.size := by omega
    subst this
    rw [Array.getD_eq_getD_getElem?, Array.getElem?_append_right (Nat.le_refl _)]
    simpa using hin
end Mine

end

section -- part L1
set_option linter.unusedVariables false
open PySem PySem.W PyProof PyProof.Rows PySem.Calls PySem.Spec
set_option maxRecDepth 100000
namespace Mine
noncomputable def bodyW : List Stmt := match defOf hd.view_39 (Str.ofString "law") with | some (d, _) => d.body | none => []
noncomputable def scopeW : Scope := match defOf hd.view_39 (Str.ofString "law") with | some (d, _) => d.scope | none => { kind := .function, names := [], isGenerator := false, isCoroutine := false }
noncomputable def envW (L : Addr) (cd : Value) : Env := envOfC (Str.ofString "law") scopeW L 233 cd
theorem cellsOk : (cellsFrom 0 scopeW.names []).map (·.1) = [Str.ofString "text"] := by kernel_rfl
theorem bodyW_len : bodyW.length = 6 := by kernel_rfl
section
variable {prog : Program} {w : World} {A : Around} {E : Value → Shared → Prop} {s : Shared} {h₀ : Heap} {env : Env} {x : Str} {body : List Stmt} {Q : Flow → Shared → Prop}
/-- a loop over a range with one changing object in the ledger -/
theorem range_loopC {r c : Addr} {o : Obj} {a₀ b₀ : Int} {t₀ u₀ v₀ : Tok} {n : Nat} {m₀ : Str → Option Value} (J : Nat → (Str → Option Value) → Obj → Prop)
    (hh : A.handled = none) (hr : IsRange s.heap r a₀ b₀ 1 t₀ u₀ v₀) (hsmall : Builtin.Range.small a₀ b₀ 1 = true) (hn : Builtin.Range.rangeSize a₀ b₀ 1 = (n : Int)) (F : Fr h₀ env.locals s.heap m₀) (N : News h₀ env.locals s.heap [(c, o)]) (hj : J 0 m₀ o)
    (turn : ∀ i t m₁ o₁ h tk own, i < n → J i m₁ o₁ → Fr h₀ env.locals h (fun y => if y = x then some (.int (a₀ + (i : Int)) t) else m₁ y) → News h₀ env.locals h ((c, o₁) :: own) → (∀ p ∈ own, p.1 ≠ c) →
      wpAny (model prog w) A (execs body env) (fun f s₃ => match f with
        | .ret v => Q (.ret v) s₃
        | .brk => False
        | _ => Stop (∃ h' tk' m' o' more, s₃ = { s with heap := h', toks := tk' } ∧ Fr h₀ env.locals h' m' ∧ News h₀ env.locals h' (more ++ ((c, o') :: own)) ∧ J (i + 1) m' o')) E { s with heap := h, toks := tk })
    (done : ∀ m₁ o₁ h tk, J n m₁ o₁ → Fr h₀ env.locals h m₁ → News h₀ env.locals h [(c, o₁)] → Q .next { s with heap := h, toks := tk }) :
    wpAny (model prog w) A (pyIter (.ref r)) (fun it s₂ => LoopAtV prog w A h₀ env x body Q E it s₂) E s := by
  refine wpAny_pyIter_range hr hsmall ?_
  have W : Walks prog w A s.heap.objs.size [s.heap.objs.size] [s.heap.objs.size] n (fun i v => i < n ∧ ∃ t, v = .int (a₀ + i * 1) t)
      (fun i h => IsRangeIter h s.heap.objs.size (a₀ + (i : Nat) * 1) ((n : Int) - (i : Nat)) 1) := (Walks.range hh _ a₀ 1 n).bound
  refine loop_invN (news := [(c, o)]) (fun i m nx => ∃ o₁, nx = [(c, o₁)] ∧ J i m o₁) W ?_ ?_ ?_ ?_ (by show IsRangeIter _ _ _ _ _; rw [hn]; simpa using Heap.get?_push_size _ rfl) (F.push _) (fun p hp => ⟨Heap.get?_push_of_some _ (N p hp).1, (N p hp).2⟩) ⟨o, rfl, hj⟩ ?_ ?_
  · intro hm
    exact absurd F.ns.lt ((List.mem_singleton.mp hm) ▸ Nat.lt_irrefl _)
  · intro b hb
    rw [List.mem_singleton.mp hb]
    exact next_is_new F
  · intro p hp hI
    exact absurd (Heap.lt_size (N p hp).1) ((List.mem_singleton.mp hI) ▸ Nat.lt_irrefl _)
  · intro p hp hI
    exact absurd (Heap.lt_size (N p hp).1) ((List.mem_singleton.mp hI) ▸ Nat.lt_irrefl _)
  · rintro i v m₁ nx h tk own hi ⟨_, t, rfl⟩ _ hoff ⟨o₁, rfl, hJ⟩ F₁ N₁
    have e1 : a₀ + (i : Int) * 1 = a₀ + (i : Int) := by omega
    rw [e1] at F₁
    refine wpAny_mono (turn i t m₁ o₁ h tk own hi hJ F₁ N₁ (hoff.ne (.head _))) (fun f s₃ hf => ?_) fun _ _ e => e
    have fin : (∃ h' tk' m' o' more, s₃ = { s with heap := h', toks := tk' } ∧ Fr h₀ env.locals h' m' ∧ News h₀ env.locals h' (more ++ ((c, o') :: own)) ∧ J (i + 1) m' o') → InvEndN h₀ env.locals (fun m nx' => ∃ o₁, nx' = [(c, o₁)] ∧ J (i + 1) m o₁) own ([(c, o)].map (·.1)) { s with heap := h, toks := tk } s₃ := by
      rintro ⟨h', tk', m', o', more, rfl, F', N', hJ'⟩
      exact ⟨h', tk', m', more ++ ((c, o') :: own), [(c, o')], rfl, F', N', fun p hp => List.mem_append_right _ (by rw [List.mem_singleton.mp hp]; exact .head _), fun p hp => List.mem_append_right _ (.tail _ hp), rfl, o', rfl, hJ'⟩
    cases f with
    | ret v => exact hf
    | brk => exact hf.elim
    | next => exact fin hf
    | cont => exact fin hf
  · rintro m₁ nx h tk ⟨o₁, rfl, hJ⟩ F₁ N₁
    exact done m₁ o₁ h tk hJ F₁ N₁
end
end Mine

end

section -- part L2
set_option linter.unusedVariables false
open PySem PySem.W PyProof PyProof.Rows PySem.Calls PySem.Spec
set_option maxRecDepth 100000
namespace Mine
local macro_rules | `(tactic| k_all) => `(tactic| assumption)
local macro_rules | `(tactic| walk_at "eval Name") => `(tactic| (k_here; k_dflt (refine' nameX_L ?k1 ?k2 ?_ ?k3 ?k4 ?k5; (case k4 => rfl); (case k1 => k_asm); (case k2 => assumption); (case k3 => rfl); (case k5 => decide); k_whole)))
local macro_rules | `(tactic| walk_at "call ref") => `(tactic| ((with_reducible show wpAny _ _ (call (Value.ref 214) _) _ _ _); refine Stop.out ?_))
local macro_rules | `(tactic| walk_at "pyIter ref") => `(tactic| refine Stop.out ?_)
def take3 : List Stmt → List Stmt
  | a :: b :: c :: _ => [a, b, c]
  | _ => []
set_option maxHeartbeats 4000000 in
theorem textL {w : World} {mean : ExcName → Option Value} {mg mb : Str → Option Value} {l : Addr} {vs : List Value} {ns : List Int}
    {A₀ : Around} {base h₀ : Heap} {L c : Addr} {o : Obj} {m : Str → Option Value} {s : Shared} {Q : Flow → Shared → Prop} {cd : Value}
    (B : Below callerA base [] h₀) (X : (hd.heap_39 w.params).In h₀) (T : Top hd.view_39 (looseW hd.view_39 LS) mean mg mb h₀) 
    (hls : base.IsList l vs.toArray) (hi : IntsAre vs ns) (hfit : ns.length < 2 ^ 62)
    (hm1 : m (Str.ofString "script") = some (.ref l)) (F : Fr h₀ L s.heap m) (N : News h₀ L s.heap [(L + 1, o)]) (ho : o.data = .cell none)
    (hret : ∀ x tk o' m' h' tk', 1 ≤ x.length → x.length ≤ 16 → (∀ i, i < x.cps.size → x.cps.getD i 0 ∈ AL) → o'.data = .cell (some (.str x tk)) → Fr h₀ L h' m' → News h₀ L h' [(L + 1, o')] → Q .next { s with heap := h', toks := tk' }) :
    wpAny (model PySem.Challenge.rw_er0025_01.row.prog w) (callerA.deeper (envW L cd)) (execs (take3 bodyW) (envW L cd)) Q (fun _ _ => False) s := by
  revert X; w_top off; k_fill; intro X
  conv => arg 3; arg 1; whnf
  conv => arg 3; arg 2; unfold envW; unfold scopeW; arg 2; whnf
  conv => arg 2; arg 2; unfold envW; unfold scopeW; arg 2; whnf
  k_steps
  all_goals (try k_data)
  refine Stop.into ?_
  refine number_gives hi hfit (by omega) _ _ _ _ _ _ _ _ _ callerA base h₀ L _ _ _ _ _ (by assumption) (by assumption) (by assumption) (by assumption) (by assumption) rfl hls (by decide) (by decide) (fun v h1 tk1 hv F1 N1 => ?_)
  obtain ⟨n, t, rfl⟩ := hv
  k_steps
  refine Stop.into ?_
  have hn0 : 0 ≤ n.fmod 16 := Int.fmod_nonneg_of_pos _ (by decide)
  have hn1 : n.fmod 16 < 16 := Int.fmod_lt_of_pos _ (by decide)
  rename Fr h₀ L _ _ => kF
  rename News h₀ L _ _ => kN
  refine range_loopC (n := (1 + n.fmod 16).toNat) (fun i m o => m (Str.ofString "signs") = some (.str (Str.ofString "/*+$a/*$b*/$\"\n$A") s.toks) ∧ m (Str.ofString "script") = some (.ref l) ∧ ∃ x tk, o.data = .cell (some (.str x tk)) ∧ x.length = i ∧ ∀ i, i < x.cps.size → x.cps.getD i 0 ∈ AL) rfl (by assumption) ?small ?size kF kN ⟨rfl, hm1, _, _, (by assumption), rfl, fun i hi => absurd hi (Nat.not_lt_zero _)⟩ ?turn ?done
  case small => exact small_one (by omega) (by omega) (by omega) (by omega)
  case size => exact rsize_one (by omega)
  case turn =>
    intro i t m₁ o₁ h tk own hik hJ F₁ N₁ hoff
    obtain ⟨e1, e2, x, tx, e3, e4, e5⟩ := hJ
    rw [Int.zero_add] at F₁
    change Fr h₀ L _ _ at F₁
    change News h₀ L _ _ at N₁
    k_steps
    all_goals (try k_data)
    refine Stop.into ?_
    refine number_gives hi hfit (by omega) _ _ _ _ _ _ _ _ _ callerA base h₀ L _ _ _ _ _ (by assumption) (by assumption) (by assumption) (by assumption) (by assumption) rfl hls (by decide) (by decide) (fun v h1 tk1 hv F1 N1 => ?_)
    obtain ⟨n, t, rfl⟩ := hv
    k_steps
    all_goals (try k_data)
    rename Fr h₀ L _ _ => kF
    rename News h₀ L _ _ => kN
    have hs := signs_step (n := n) e5
    exact (show Stop _ from Stop.into ⟨_, _, _, _, [], rfl, kF, kN, e1, e2, _, _, (by assumption), by rw [← e4]; exact hs.1, hs.2⟩)
  case done =>
    intro m₁ o₁ h tk hJ F₁ N₁
    obtain ⟨e1, e2, x, tx, e3, e4, e5⟩ := hJ
    k_steps
    exact hret x tx o₁ m₁ h tk (by omega) (by omega) e5 e3 F₁ N₁
end Mine

end

section -- part L4
set_option linter.unusedVariables false
open PySem PySem.W PyProof PyProof.Rows PySem.Calls PySem.Spec
set_option maxRecDepth 100000
namespace Mine
local macro_rules | `(tactic| walk_at "eval Name") => `(tactic| (k_here; k_dflt (refine' nameX_L ?k1 ?k2 ?_ ?k3 ?k4 ?k5; (case k4 => rfl); (case k1 => k_asm); (case k2 => assumption); (case k3 => rfl); (case k5 => decide); k_whole)))
local macro_rules | `(tactic| walk_at "call ref") => `(tactic| ((with_reducible show wpAny _ _ (call (Value.ref 228) _) _ _ _); refine Stop.out ?_))
local macro_rules | `(tactic| walk_at "pyIter ref") => `(tactic| refine Stop.out ?_)
local macro_rules | `(tactic| k_all) => `(tactic| assumption)
def retOf : List Stmt → List Stmt
  | [_, _, _, _, _, e] => [e]
  | _ => []
def forOf : List Stmt → List Stmt
  | [_, _, _, _, e, _] => [e]
  | _ => []
local macro_rules | `(tactic| walk_at "CompSrcT") => `(tactic| refine Stop.out ?_)
local macro_rules | `(tactic| walk_at "CompEnd") => `(tactic| refine Stop.out ?_)
open LCt LCg in
theorem rest_ind {prog : Program} {w : World} {A : Around} {h₀ : Heap} {L : Addr} {m : Str → Option Value} {env : Env} {ct elt : Expr} {x : Str} {scope : Scope} {cl : List (Str × Addr)} {s : Shared} {S : List (Addr × Obj) → Prop} {P : Nat → Value → Prop} {Fin : List Value → List (Addr × Obj) → Prop} {n : Nat} {news : List (Addr × Obj)}
    (cnt : Nat → Nat) (h0 : cnt 0 = 0)
    (step : ∀ i k ys, i < n → ys.length = cnt i → (∀ ys', ys'.length = cnt (i + 1) → CompRestT prog w A h₀ L m env ct elt x scope cl s S P Fin k (i + 1) ys' news) → CompRestT prog w A h₀ L m env ct elt x scope cl s S P Fin (k + 1) i ys news)
    (fin : ∀ ys, ys.length = cnt n → Fin ys news) : CompRestT prog w A h₀ L m env ct elt x scope cl s S P Fin n 0 [] news := by
  have key : ∀ k i ys, i + k = n → ys.length = cnt i → CompRestT prog w A h₀ L m env ct elt x scope cl s S P Fin k i ys news := by
    intro k
    induction k with
    | zero => intro i ys hi hy; have : i = n := by omega
              subst this; exact fin ys hy
    | succ k ih => intro i ys hi hy; exact step i k ys (by omega) hy fun ys' h' => ih (i + 1) ys' (by omega) h'
  exact key n 0 [] (by omega) h0.symm
def cntD (x : Str) (i : Nat) : Nat := ((List.range i).filter fun j => (dueOf x j).isSome).length
theorem cntD_succ {x : Str} {i : Nat} : cntD x (i + 1) = cntD x i + if (dueOf x i).isSome then 1 else 0 := by
  unfold cntD
  rw [List.range_succ, List.filter_append, List.length_append]
  congr 1
  cases h : (dueOf x i).isSome <;> simp [h]
set_option maxHeartbeats 4000000 in
theorem retL {w : World} {mean : ExcName → Option Value} {mg mb : Str → Option Value} {oD sp cD d : Addr} {oo oc : Obj} {C : List CEnt} {O : List OEnt} {x : Str} {tk : Tok} {rest : List (Addr × Obj)}
    {base h₀ : Heap} {L c : Addr} {o : Obj} {m : Str → Option Value} {s : Shared} {Q : Flow → Shared → Prop} {cd : Value}
    (B : Below callerA base [] h₀) (X : (hd.heap_39 w.params).In h₀) (T : Top hd.view_39 (looseW hd.view_39 LS) mean mg mb h₀) 
    (hm1 : m (Str.ofString "spans") = some (.ref sp)) (F : Fr h₀ L s.heap m) (N : News h₀ L s.heap ((L + 1, o) :: (sp, spObj d cD oD) :: (d, dictOf [] 0) :: (oD, oo) :: rest)) (ho : o.data = .cell (some (.str x tk)))
    (hoo : oo.IsDictOf (intKind PySem.Challenge.rw_er0025_01.row.prog w) (kvsO O))
    (lo : (oD == sysModules) = false) (hO : (kvsO O).length ≤ 16777216)
    (hx : x.length ≤ 16) (hal : ∀ i, i < x.cps.size → x.cps.getD i 0 ∈ AL) (hcnt : O.length = cntD x x.length) (hret : ∀ h' m' tk', Fr h₀ L h' m' → Q (.ret (.bool true)) { s with heap := h', toks := tk' }) :
    wpAny (model PySem.Challenge.rw_er0025_01.row.prog w) (callerA.deeper (envW L cd)) (execs (retOf bodyW) (envW L cd)) Q (fun _ _ => False) s := by
  revert X; w_top off; k_fill; intro X
  conv => arg 3; arg 1; whnf
  conv => arg 3; arg 2; unfold envW; unfold scopeW; arg 2; whnf
  conv => arg 2; arg 2; unfold envW; unfold scopeW; arg 2; whnf
  k_steps
  all_goals (try k_data)
  k_dflt (refine kda_len N (List.Mem.tail _ (.tail _ (.tail _ (.head _)))) hoo lo hO ?_)
  k_steps
  refine Stop.into ?_
  rename Fr h₀ L _ _ => kF
  rename News h₀ L _ _ => kN
  rename IsRange _ _ _ _ _ _ _ _ => kR
  refine LCt.CompSrcT.range (n := x.length) rfl kF kN kR (small_one (by omega) (by omega) (by omega) (by omega)) (rsize_one (by omega)) (by rw [sizeLine_eq]; omega) (fun g => ?_)
  refine rest_ind (cntD x) rfl (fun i k ys hi hy IH => ?_) (fun ys hy => ?_)
  · refine LCt.CompRestT.succ ?_
    intro v' I' oI' C' oC' D' m' h' tk' E' hv' hC' hx' F' N' off' ne'
    obtain ⟨t9, rfl⟩ := hv'
    rw [Int.zero_add] at hx'
    k_steps
    all_goals (try k_data)
    refine Stop.into ?_
    refine due_gives (by omega) hx hal _ _ _ _ _ _ _ _ _ callerA base h₀ L _ _ _ _ _ (by assumption) (by assumption) (by assumption) (by assumption) (by assumption) rfl (by decide) (by decide) (fun v extra h1 tk1 hv F1 N1 => ?_)
    have hc := cntD_succ (x := x) (i := i)
    generalize dueOf x i = du at hv hc
    cases hv
    all_goals
      k_steps
      all_goals (try k_data)
    · exact Stop.into (LCg.CompEnd.intro F1 N1 _ (fun p hp => List.mem_append_right _ hp) off' trivial (IH _ (by rw [hc, hy]; rfl)))
    all_goals exact Stop.into (LCg.CompEnd.intro F1 N1 _ (fun p hp => List.mem_append_right _ hp) off' trivial (IH _ (by rw [hc, List.length_append, hy]; rfl)))
  · k_steps
    all_goals (try k_data)
    rename News h₀ L _ ((_, LCg.lst ys) :: _) => kN2
    have hlen : ys.length ≤ 16 := by
      rw [hy]; unfold cntD
      exact Nat.le_trans (List.length_filter_le _ _) (by rw [List.length_range]; exact hx)
    refine call_len_list (items := ys.toArray) ⟨_, News.get kN2 (.head _), rfl, _, rfl⟩ (by rw [List.size_toArray]; omega) ?_
    k_steps
    have e : ((((kvsO O).length : Nat) : Int) == ((ys.toArray.size : Nat) : Int)) = true := by
      rw [List.size_toArray, hy, ← hcnt]
      unfold kvsO; rw [List.length_map]; exact beq_self_eq_true _
    rw [e]
    exact hret _ _ _ (by assumption)
end Mine

end

section -- part L6
set_option linter.unusedVariables false
open PySem PySem.W PyProof PyProof.Rows PySem.Calls PySem.Spec PyProof.V
set_option maxRecDepth 100000
namespace Mine
def strsIn (K : Frag) (a : Addr) (xs : List Str) : Bool :=
  match K.lookup a with
  | some ⟨.type t, _, .seq ws _, _⟩ => t == "tuple" && (ws.toList.map fun v => match v with | .str x _ => some x | _ => none) == xs.map some
  | _ => false
theorem readsAll_strs {h : Heap} : ∀ {vs : List Value} {xs : List Str}, (vs.map fun v => match v with | .str x _ => some x | _ => none) = xs.map some → ReadsAll h vs (xs.map PyData.str) []
  | [], [], _ => ReadsAll.nil
  | [], _ :: _, e => by cases e
  | _ :: _, [], e => by cases e
  | v :: vs, x :: xs, e => by
    rw [List.map_cons, List.map_cons] at e
    injection e with e1 e2
    cases v with
    | str y t => injection e1 with e1; subst e1; exact ReadsAll.cons (Reads.str _ _) (readsAll_strs e2)
    | _ => cases e1
theorem strsIn_ok {K : Frag} {h : Heap} {a : Addr} {xs : List Str} (X : K.In h) (e : strsIn K a xs = true) : Reads h (.ref a) (.tuple (xs.map PyData.str)) [] := by
  unfold strsIn at e
  split at e
  · rename_i t x1 ws x2 x3 e1
    rw [Bool.and_eq_true, beq_iff_eq, beq_iff_eq] at e
    obtain ⟨e2, e3⟩ := e
    subst e2
    exact reads_tuple_at (X _ _ e1) rfl rfl (readsAll_strs e3)
  · cases e
theorem rdLit {w : World} {h : Heap} (X : (hd.heap_39 w.params).In h) : Reads h (.ref 133) (.tuple [.str (Str.ofString "Literal")]) [] := strsIn_ok (xs := [Str.ofString "Literal"]) X (by kernel_rfl)
theorem rdHint {w : World} {h : Heap} (X : (hd.heap_39 w.params).In h) : Reads h (.ref 117) (.tuple [.str (Str.ofString "Comment"), .str (Str.ofString "Multiline"), .str (Str.ofString "Hint")]) [] := strsIn_ok (xs := [Str.ofString "Comment", Str.ofString "Multiline", Str.ofString "Hint"]) X (by kernel_rfl)
theorem rdMulti {w : World} {h : Heap} (X : (hd.heap_39 w.params).In h) : Reads h (.ref 121) (.tuple [.str (Str.ofString "Comment"), .str (Str.ofString "Multiline")]) [] := strsIn_ok (xs := [Str.ofString "Comment", Str.ofString "Multiline"]) X (by kernel_rfl)
end Mine

end

section -- part L7
set_option linter.unusedVariables false
open PySem PySem.W PyProof.Rows PySem.Calls PySem.Spec
namespace Mine
theorem memO {sp d oD cD : Addr} {oo oc : Obj} {C : List CEnt} {O : List OEnt} {o' : OEnt} {q : Addr × Obj} (h : o' ∈ O) : (o'.t, tupObj [.int o'.en o'.ek, .str o'.tag o'.tt, .ref o'.ty]) ∈ q :: spLed sp d oD cD oo oc C O := by
  refine .tail _ (.tail _ (.tail _ (.tail _ (.tail _ (List.mem_append_right _ (List.mem_append_left _ (List.mem_flatMap.mpr ⟨o', h, ?_⟩)))))))
  simp [OEnt.objs]
theorem memC {sp d oD cD : Addr} {oo oc : Obj} {C : List CEnt} {O : List OEnt} {c : CEnt} {q : Addr × Obj} (h : c ∈ C) : (c.t, tupObj [.ref c.s, .ref c.e]) ∈ q :: spLed sp d oD cD oo oc C O ∧ (c.s, listOf (intsV c.xs) c.n₁) ∈ q :: spLed sp d oD cD oo oc C O ∧ (c.e, listOf (intsV c.ys) c.n₂) ∈ q :: spLed sp d oD cD oo oc C O := by
  refine ⟨?_, ?_, ?_⟩ <;>
  · refine .tail _ (.tail _ (.tail _ (.tail _ (.tail _ (List.mem_append_left _ (List.mem_flatMap.mpr ⟨c, h, ?_⟩))))))
    simp [CEnt.objs]
end Mine

end

section -- part L3
set_option linter.unusedVariables false
open PySem PySem.W PyProof PyProof.Rows PySem.Calls PySem.Spec PyProof.V
set_option maxRecDepth 100000
namespace Mine
local macro_rules | `(tactic| walk_at "eval Name") => `(tactic| (k_here; k_dflt (refine' nameX_L ?k1 ?k2 ?_ ?k3 ?k4 ?k5; (case k4 => rfl); (case k1 => k_asm); (case k2 => assumption); (case k3 => rfl); (case k5 => decide); k_whole)))
local macro_rules | `(tactic| walk_at "call ref") => `(tactic| ((with_reducible show wpAny _ _ (call (Value.ref _) _) _ _ _); refine Stop.out ?_))
local macro_rules | `(tactic| walk_at "pyIter ref") => `(tactic| refine Stop.out ?_)
local macro_rules | `(tactic| k_all) => `(tactic| assumption)
local macro_rules | `(tactic| k_mem) => `(tactic| assumption)
local macro_rules | `(tactic| walk_at "compareOp In int ref") => `(tactic| refine Stop.out ?_)
theorem inO {prog : Program} {w : World} {oo : Obj} {O : List OEnt} {o : OEnt} {j : Int} (hoo : oo.IsDictOf (intKind prog w) (kvsO O)) (ho : o ∈ O) (hj : o.pos = j) : (valueAt (kvsO O) j).isSome = true := by
  rw [← hj, valO hoo ho]; rfl
theorem notInO {O : List OEnt} {j : Int} (h : ∀ o ∈ O, o.pos ≠ j) : (valueAt (kvsO O) j).isSome = false := by
  cases hv : valueAt (kvsO O) j with
  | none => rfl
  | some v =>
    unfold valueAt at hv
    simp only [Option.map_eq_some_iff] at hv
    obtain ⟨p, hp, _⟩ := hv
    have h1 := List.mem_of_find?_eq_some hp
    have h2 := List.find?_some hp
    unfold kvsO at h1
    obtain ⟨o, ho, rfl⟩ := List.mem_map.mp h1
    exact absurd (by simpa using h2) (h o ho)
set_option maxHeartbeats 4000000 in
theorem checkL {w : World} {mean : ExcName → Option Value} {mg mb : Str → Option Value} {oD sp cD d : Addr} {oo oc : Obj} {C : List CEnt} {O : List OEnt} {x : Str} {tk : Tok} {news : List (Addr × Obj)}
    {base h₀ : Heap} {L c : Addr} {o : Obj} {m : Str → Option Value} {s : Shared} {Q : Flow → Shared → Prop} {cd : Value}
    (B : Below callerA base [] h₀) (X : (hd.heap_39 w.params).In h₀) (T : Top hd.view_39 (looseW hd.view_39 LS) mean mg mb h₀) 
    (hm1 : m (Str.ofString "spans") = some (.ref sp)) (F : Fr h₀ L s.heap m) (N : News h₀ L s.heap ((L + 1, o) :: spLed sp d oD cD oo oc C O)) (ho : o.data = .cell (some (.str x tk)))
    (hoo : oo.IsDictOf (intKind PySem.Challenge.rw_er0025_01.row.prog w) (kvsO O)) (hoc : oc.IsDictOf (strKind PySem.Challenge.rw_er0025_01.row.prog w) (kvsC C))
    (lo : (oD == sysModules) = false) (lc : (cD == sysModules) = false) (hcv : cv C = VAll x) (hov : ov O = WAll x)
    (hx : x.length ≤ 16) (hal : ∀ i, i < x.cps.size → x.cps.getD i 0 ∈ AL)
    (hret : ∀ m' h' tk', Fr h₀ L h' m' → m' (Str.ofString "spans") = some (.ref sp) → News h₀ L h' ((L + 1, o) :: spLed sp d oD cD oo oc C O) → Q .next { s with heap := h', toks := tk' }) :
    wpAny (model PySem.Challenge.rw_er0025_01.row.prog w) (callerA.deeper (envW L cd)) (execs (forOf bodyW) (envW L cd)) Q (fun _ _ => False) s := by
  revert X; w_top off; k_fill; intro X
  conv => arg 3; arg 1; whnf
  conv => arg 3; arg 2; unfold envW; unfold scopeW; arg 2; whnf
  conv => arg 2; arg 2; unfold envW; unfold scopeW; arg 2; whnf
  have rd1 := rdLit X
  have rd2 := rdHint X
  have rd3 := rdMulti X
  have w1 : (L + 1, o) ∈ (L + 1, o) :: spLed sp d oD cD oo oc C O := .head _
  have w2 : (sp, spObj d cD oD) ∈ (L + 1, o) :: spLed sp d oD cD oo oc C O := .tail _ (.head _)
  have w3 : (d, dictOf [] 0) ∈ (L + 1, o) :: spLed sp d oD cD oo oc C O := .tail _ (.tail _ (.head _))
  have w4 : (oD, oo) ∈ (L + 1, o) :: spLed sp d oD cD oo oc C O := .tail _ (.tail _ (.tail _ (.head _)))
  have w5 : (cD, oc) ∈ (L + 1, o) :: spLed sp d oD cD oo oc C O := .tail _ (.tail _ (.tail _ (.tail _ (.head _))))
  have w6 : ∀ o' ∈ O, (o'.t, tupObj [.int o'.en o'.ek, .str o'.tag o'.tt, .ref o'.ty]) ∈ (L + 1, o) :: spLed sp d oD cD oo oc C O := fun o' h => memO h
  have w7 : ∀ c ∈ C, (c.t, tupObj [.ref c.s, .ref c.e]) ∈ (L + 1, o) :: spLed sp d oD cD oo oc C O ∧ (c.s, listOf (intsV c.xs) c.n₁) ∈ (L + 1, o) :: spLed sp d oD cD oo oc C O ∧ (c.e, listOf (intsV c.ys) c.n₂) ∈ (L + 1, o) :: spLed sp d oD cD oo oc C O := fun c h => memC h
  generalize hnews : (L + 1, o) :: spLed sp d oD cD oo oc C O = news at *
  k_steps
  all_goals (try k_data)
  refine Stop.into ?_
  rename Fr h₀ L _ _ => kF
  rename News h₀ L _ _ => kN
  rename IsRange _ _ _ _ _ _ _ _ => kR
  refine range_loop (n := x.length) (fun i m => m (Str.ofString "spans") = some (.ref sp)) rfl kR (small_one (by omega) (by omega) (by omega) (by omega)) (rsize_one (by omega)) kF kN hm1 ?turn ?done
  case done =>
    intro m₁ h tk1 hJ F₁ N₁
    k_steps
    exact hret m₁ h tk1 F₁ hJ N₁
  case turn =>
    intro i t m₁ h tk1 own hik hJ F₁ N₁
    rw [Int.zero_add] at F₁
    change Fr h₀ L _ _ at F₁
    change News h₀ L _ _ at N₁
    have v1 := List.mem_append_left own w1
    k_steps
    all_goals (try k_data)
    refine Stop.into ?_
    refine due_gives (by omega) hx hal _ _ _ _ _ _ _ _ _ callerA base h₀ L _ _ _ _ _ (by assumption) (by assumption) (by assumption) (by assumption) (by assumption) rfl (by decide) (by decide) (fun v extra h1 tk1 hv F1 N1 => ?_)
    have v2 : (sp, spObj d cD oD) ∈ extra ++ (news ++ own) := List.mem_append_right _ (List.mem_append_left _ w2)
    have v4 : (oD, oo) ∈ extra ++ (news ++ own) := List.mem_append_right _ (List.mem_append_left _ w4)
    have v3 : (d, dictOf [] 0) ∈ extra ++ (news ++ own) := List.mem_append_right _ (List.mem_append_left _ w3)
    have v5 : (cD, oc) ∈ extra ++ (news ++ own) := List.mem_append_right _ (List.mem_append_left _ w5)
    generalize hnw : extra ++ (news ++ own) = nw at *
    have w8 : ∀ p ∈ extra, p ∈ nw := fun p hp => hnw ▸ List.mem_append_left _ hp
    generalize hdu : dueOf x i = du at hv
    cases hv
    · k_steps
      all_goals (try k_data)
      refine Stop.into ?_
      k_dflt (refine kda_in (knd := intKind _ _) (by assumption) v4 hoo lo (intKind_is _ _ _ _) false (notInO (law_not hov hdu)) ?_)
      k_steps
      all_goals (try k_data)
      rename Fr h₀ L _ _ => kF2
      rename News h₀ L _ nw => kN2
      exact (show Stop _ from Stop.into ⟨_, _, _, _, rfl, kF2, hnw ▸ kN2, hJ⟩)
    all_goals
      obtain ⟨oe, ho1, ho2, ho3, ce, hc1, hc2, hc3, hc4, hc5, hc6, hc7⟩ := law_at (by exact hx) hov hcv (by exact hik) hdu
      have v6 := hnw ▸ List.mem_append_right _ (List.mem_append_left own (w6 oe ho1))
      have v7 := hnw ▸ List.mem_append_right _ (List.mem_append_left own (w7 ce hc1).1)
      have v8 := hnw ▸ List.mem_append_right _ (List.mem_append_left own (w7 ce hc1).2.1)
      have v9 := hnw ▸ List.mem_append_right _ (List.mem_append_left own (w7 ce hc1).2.2)
      k_steps
      all_goals (try k_data)
      refine Stop.into ?_
      k_dflt (refine kda_in (knd := intKind _ _) (by assumption) v4 hoo lo (intKind_is _ _ _ _) true (inO hoo ho1 ho2) ?_)
      k_steps
      all_goals (try k_data)
      refine Stop.into ?_
    · refine resolve_gives (base := base) (h₀ := h₀) (L := L) (by assumption) (by assumption) (by assumption) (by assumption) (by assumption) rfl (by decide) (by decide) v2 v3 v4 v5 hoo hoc ho1 ho2 hc1 hc2 v6 v7 v8 v9 hc3 hc4 hc5 (fun _ h2 tk2 F2 N2 => ?_) (fun i' p q b e1 e2 e3 e4 => ?_)
      · have u1 := w8 _ (.head _)
        k_steps
        all_goals (try k_data)
        rename Fr h₀ L _ _ => kF2
        rename News h₀ L _ (_ :: nw) => kN2
        have kN3 : News h₀ L _ nw := fun q hq => kN2 q (.tail _ hq)
        exact (show Stop _ from Stop.into ⟨_, _, _, _, rfl, kF2, hnw ▸ kN3, hJ⟩)
      · obtain ⟨_, q1, _⟩ := hc7 i' p q e1 e2 e3 e4
        cases q1
    all_goals
      refine resolve_gives (base := base) (h₀ := h₀) (L := L) (by assumption) (by assumption) (by assumption) (by assumption) (by assumption) rfl (by decide) (by decide) v2 v3 v4 v5 hoo hoc ho1 ho2 hc1 hc2 v6 v7 v8 v9 hc3 hc4 hc5 (fun e1 h2 tk2 F2 N2 => ?_) (fun i' p q b e1 e2 e3 e4 h2 tk2 F2 N2 => ?_)
      · cases hc6 e1
      · obtain ⟨ee, q1, q2⟩ := hc7 i' p q e1 e2 e3 e4
        injection q1 with q1
        obtain ⟨nw2, hN2, u3, hsub⟩ : ∃ nw2, News h₀ L h2 nw2 ∧ (b, tupObj [.int q.1 q.2, .ref oe.ty]) ∈ nw2 ∧ (∀ p ∈ nw, p ∈ nw2) := ⟨_, N2, .head _, fun p hp => .tail _ hp⟩
        clear N2
        rcases q with ⟨qi, qt⟩
        replace q2 : qi = (ee : Int) := q2
        subst q2
        subst q1
        rw [show oe.ty = _ from ho3] at u3
        dsimp only [tyOf] at u3
        have u1 := hsub _ (w8 _ (.head _))
        have u2 := hsub _ (w8 _ (.tail _ (.head _)))
        k_steps
        all_goals (try k_data)
        all_goals first
          | (rename Fr h₀ L _ _ => kF2
             rename News h₀ L _ (_ :: nw2) => kN2
             have kN3 : News h₀ L _ nw := fun q hq => kN2 q (.tail _ (hsub q hq))
             exact (show Stop _ from Stop.into ⟨_, _, _, _, rfl, kF2, hnw ▸ kN3, hJ⟩))
          | (exfalso; simp_all; done)
end Mine

end

section -- part L5
set_option linter.unusedVariables false
open PySem PySem.W PyProof PyProof.Rows PySem.Calls PySem.Spec PyProof.V
set_option maxRecDepth 100000
namespace Mine
theorem due_none0 {x : Str} {j : Nat} (hD : hasD x = false) (hO : hasO x = false) (hj : j < x.cps.size) : dueOf x j = none := by
  have n1 : ¬ PD x j := fun h => by have := emptyD hD; exact absurd (mem_places.mpr ⟨hj, h⟩) (by rw [this]; exact List.not_mem_nil)
  have n2 : ¬ PH x j := fun h => by have := emptyH hO; exact absurd (mem_places.mpr ⟨hj, h⟩) (by rw [this]; exact List.not_mem_nil)
  have n3 : ¬ PO x j := fun h => by have := emptyO hO; exact absurd (mem_places.mpr ⟨hj, h⟩) (by rw [this]; exact List.not_mem_nil)
  unfold dueOf
  rw [if_neg (fun h => n1 (Bool.and_eq_true_iff.mp h).1), if_neg n2, if_neg n3]
section
variable {prog : Program} {w : World} {A : Around} {E : Value → Shared → Prop} {s : Shared} {K : Frag} {h₀ : Heap} {L a : Addr} {m : Str → Option Value}
theorem emptyDK (F : Fr h₀ L s.heap m) (X : K.In h₀) (hl : K.lookup a = some ⟨.type "dict", none, .dict #[] 0, #[]⟩) : s.heap.DictOf (intKind prog w) a [] :=
  ⟨_, #[], 0, F.keep _ _ (X _ _ hl), ⟨rfl, rfl, rfl⟩, rfl, fun e he => absurd he (by simp), .nil, List.nodup_nil⟩
theorem in_empty {k : Int} {t : Tok} {Q : Value → Shared → Prop} (F : Fr h₀ L s.heap m) (X : K.In h₀) (hl : K.lookup a = some ⟨.type "dict", none, .dict #[] 0, #[]⟩) (lo : (a == sysModules) = false) (h : Q (.bool false) { s with toks := s.toks + 1 }) :
    wpAny (model prog w) A (compareOp .In (.int k t) (.ref a)) Q E s := wpAny_in_of (intKind_is prog w k t) lo (emptyDK F X hl).mapOf h
theorem len_empty {Q : Value → Shared → Prop} (F : Fr h₀ L s.heap m) (X : K.In h₀) (hl : K.lookup a = some ⟨.type "dict", none, .dict #[] 0, #[]⟩) (lo : (a == sysModules) = false) (h : Q (.int 0 (s.toks + 1)) { s with toks := s.toks + 1 + 1 }) :
    wpAny (model prog w) A (call (.builtin "len") [.ref a]) Q E s := call_len_dict lo (emptyDK F X hl) (by decide) h
end
local macro_rules | `(tactic| walk_at "no key") => `(tactic| skip)
local macro_rules | `(tactic| walk_at "eval Name") => `(tactic| (k_here; k_dflt (refine' nameX_L ?k1 ?k2 ?_ ?k3 ?k4 ?k5; (case k4 => rfl); (case k1 => k_asm); (case k2 => assumption); (case k3 => rfl); (case k5 => decide); k_whole)))
local macro_rules | `(tactic| walk_at "call ref") => `(tactic| ((with_reducible show wpAny _ _ (call (Value.ref _) _) _ _ _); refine Stop.out ?_))
local macro_rules | `(tactic| walk_at "pyIter ref") => `(tactic| refine Stop.out ?_)
local macro_rules | `(tactic| walk_at "compareOp In int ref") => `(tactic| refine Stop.out ?_)
local macro_rules | `(tactic| k_all) => `(tactic| assumption)
set_option maxHeartbeats 4000000 in
theorem checkL0 {w : World} {mean : ExcName → Option Value} {mg mb : Str → Option Value} {x : Str} {tk : Tok}
    {base h₀ : Heap} {L : Addr} {o : Obj} {m : Str → Option Value} {s : Shared} {Q : Flow → Shared → Prop} {cd : Value}
    (B : Below callerA base [] h₀) (X : (hd.heap_39 w.params).In h₀) (T : Top hd.view_39 (looseW hd.view_39 LS) mean mg mb h₀) 
    (hm1 : m (Str.ofString "spans") = some (.ref 199)) (F : Fr h₀ L s.heap m) (N : News h₀ L s.heap [(L + 1, o)]) (ho : o.data = .cell (some (.str x tk)))
    (hD : hasD x = false) (hO : hasO x = false)
    (hx : x.length ≤ 16) (hal : ∀ i, i < x.cps.size → x.cps.getD i 0 ∈ AL)
    (hret : ∀ m' h' tk', Fr h₀ L h' m' → m' (Str.ofString "spans") = some (.ref 199) → News h₀ L h' [(L + 1, o)] → Q .next { s with heap := h', toks := tk' }) :
    wpAny (model PySem.Challenge.rw_er0025_01.row.prog w) (callerA.deeper (envW L cd)) (execs (forOf bodyW) (envW L cd)) Q (fun _ _ => False) s := by
  revert X; w_top off; k_fill; intro X
  conv => arg 3; arg 1; whnf
  conv => arg 3; arg 2; unfold envW; unfold scopeW; arg 2; whnf
  conv => arg 2; arg 2; unfold envW; unfold scopeW; arg 2; whnf
  k_steps
  all_goals (try k_data)
  refine Stop.into ?_
  rename Fr h₀ L _ _ => kF
  rename News h₀ L _ _ => kN
  rename IsRange _ _ _ _ _ _ _ _ => kR
  refine range_loop (news := [(L + 1, o)]) (n := x.length) (fun i m => m (Str.ofString "spans") = some (.ref 199)) rfl kR (small_one (by omega) (by omega) (by omega) (by omega)) (rsize_one (by omega)) kF kN hm1 ?turn ?done
  case done =>
    intro m₁ h tk1 hJ F₁ N₁
    k_steps
    exact hret m₁ h tk1 F₁ hJ N₁
  case turn =>
    intro i t m₁ h tk1 own hik hJ F₁ N₁
    rw [Int.zero_add] at F₁
    change Fr h₀ L _ _ at F₁
    change News h₀ L _ _ at N₁
    k_steps
    all_goals (try k_data)
    refine Stop.into ?_
    refine due_gives (by omega) hx hal _ _ _ _ _ _ _ _ _ callerA base h₀ L _ _ _ _ _ (by assumption) (by assumption) (by assumption) (by assumption) (by assumption) rfl (by decide) (by decide) (fun v extra h1 tk1 hv F1 N1 => ?_)
    rw [due_none0 hD hO hik] at hv
    cases hv
    k_steps
    all_goals (try k_data)
    refine Stop.into ?_
    refine in_empty (by assumption) X (by kernel_rfl) (by decide) ?_
    k_steps
    all_goals (try k_data)
    rename Fr h₀ L _ _ => kF2
    rename News h₀ L _ _ => kN2
    exact (show Stop _ from Stop.into ⟨_, _, _, _, rfl, kF2, kN2, hJ⟩)
local macro_rules | `(tactic| walk_at "CompSrcT") => `(tactic| refine Stop.out ?_)
local macro_rules | `(tactic| walk_at "CompEnd") => `(tactic| refine Stop.out ?_)
set_option maxHeartbeats 4000000 in
theorem retL0 {w : World} {mean : ExcName → Option Value} {mg mb : Str → Option Value} {x : Str} {tk : Tok}
    {base h₀ : Heap} {L c : Addr} {o : Obj} {m : Str → Option Value} {s : Shared} {Q : Flow → Shared → Prop} {cd : Value}
    (B : Below callerA base [] h₀) (X : (hd.heap_39 w.params).In h₀) (T : Top hd.view_39 (looseW hd.view_39 LS) mean mg mb h₀) 
    (hm1 : m (Str.ofString "spans") = some (.ref 199)) (F : Fr h₀ L s.heap m) (N : News h₀ L s.heap [(L + 1, o)]) (ho : o.data = .cell (some (.str x tk)))
    (hD : hasD x = false) (hO : hasO x = false)
    (hx : x.length ≤ 16) (hal : ∀ i, i < x.cps.size → x.cps.getD i 0 ∈ AL) (hret : ∀ h' m' tk', Fr h₀ L h' m' → Q (.ret (.bool true)) { s with heap := h', toks := tk' }) :
    wpAny (model PySem.Challenge.rw_er0025_01.row.prog w) (callerA.deeper (envW L cd)) (execs (retOf bodyW) (envW L cd)) Q (fun _ _ => False) s := by
  revert X; w_top off; k_fill; intro X
  conv => arg 3; arg 1; whnf
  conv => arg 3; arg 2; unfold envW; unfold scopeW; arg 2; whnf
  conv => arg 2; arg 2; unfold envW; unfold scopeW; arg 2; whnf
  k_steps
  all_goals (try k_data)
  refine len_empty (by assumption) X (by kernel_rfl) (by decide) ?_
  k_steps
  refine Stop.into ?_
  rename Fr h₀ L _ _ => kF
  rename News h₀ L _ _ => kN
  rename IsRange _ _ _ _ _ _ _ _ => kR
  refine LCt.CompSrcT.range (n := x.length) rfl kF kN kR (small_one (by omega) (by omega) (by omega) (by omega)) (rsize_one (by omega)) (by rw [sizeLine_eq]; omega) (fun g => ?_)
  refine rest_ind (fun _ => 0) rfl (fun i k ys hi hy IH => ?_) (fun ys hy => ?_)
  · refine LCt.CompRestT.succ ?_
    intro v' I' oI' C' oC' D' m' h' tk' E' hv' hC' hx' F' N' off' ne'
    obtain ⟨t9, rfl⟩ := hv'
    rw [Int.zero_add] at hx'
    k_steps
    all_goals (try k_data)
    refine Stop.into ?_
    refine due_gives (by omega) hx hal _ _ _ _ _ _ _ _ _ callerA base h₀ L _ _ _ _ _ (by assumption) (by assumption) (by assumption) (by assumption) (by assumption) rfl (by decide) (by decide) (fun v extra h1 tk1 hv F1 N1 => ?_)
    rw [due_none0 hD hO hi] at hv
    cases hv
    k_steps
    all_goals (try k_data)
    exact Stop.into (LCg.CompEnd.intro F1 N1 _ (fun p hp => List.mem_append_right _ hp) off' trivial (IH _ hy))
  · k_steps
    all_goals (try k_data)
    rename News h₀ L _ ((_, LCg.lst ys) :: _) => kN2
    refine call_len_list (items := ys.toArray) ⟨_, News.get kN2 (.head _), rfl, _, rfl⟩ (by rw [List.size_toArray]; omega) ?_
    k_steps
    have e : ((0 : Int) == ((ys.toArray.size : Nat) : Int)) = true := by
      rw [List.size_toArray, hy]; rfl
    rw [e]
    exact hret _ _ _ (by assumption)
end Mine

end

section -- part NCall
set_option linter.unusedVariables false
open PySem PySem.W PyProof.Rows PySem.Calls
set_option maxRecDepth 100000
namespace Mine
section
variable {M : Model} {A : Around} {s : Shared} {env : Env}
theorem N_callWith_fn {pos : Pos} {a : Addr} {first : List Value} {args : List (Bool × Sem Value)} {Q : Value → Shared → Prop} (hst : args.any (·.1) = false)
    (h : wpAny M A (evalArgs (.ref a) true args []) (fun x s₁ => (∃ o fd, s₁.heap.get? a = some o ∧ o.data = .func fd) ∧ wpN M A (call (.ref a) (first ++ x.pos) x.kw) Q s₁) (fun _ _ => False) s) :
    wpN M A (callWith pos (.ref a) first args []) Q s := by
  unfold callWith
  refine N_bind (N_any (wpAny_holding (wpAny_mono h (fun x s₁ h₁ => N_bind (N_standAt ?_)) fun _ _ x => x)))
  have tail : ∀ {t : Sem Value}, wpN M A t Q s₁ → wpN M A (t >>= fun r => holding [r] point >>= fun _ => pure r) Q s₁ :=
    fun ht => N_bind (N_mono ht fun r s₂ hr => N_bind (N_any (wpAny_holding (wpAny_point (N_pure hr)))))
  simp only [hst, List.any_nil, Bool.or_self]
  obtain ⟨⟨o, fd, ho, hd⟩, h₁⟩ := h₁
  refine N_bind (m := keeperOf (.ref a)) (N_any ?_)
  unfold keeperOf
  refine wpAny_bind (wpAny_load ho ?_)
  rw [hd]
  refine wpAny_pure ?_
  dsimp only
  split
  · exact tail h₁
  · exact tail (by unfold callMarked; exact N_keep h₁)
theorem N_Call_Name1 {x : Str} {p pos : Pos} {e : Expr} {a : Addr} {Q : Value → Shared → Prop}
    (h : wpAny M A (eval (.Name x p) env) (fun f s₁ => f = .ref a ∧ wpAny M A (eval e env) (fun v s₂ => (∃ o fd, s₂.heap.get? a = some o ∧ o.data = .func fd) ∧ wpN M A (call (.ref a) [v]) Q s₂) (fun _ _ => False) s₁) (fun _ _ => False) s)
    (hs : starEach [e] env = [(false, eval e env)] := by rfl) :
    wpN M A (eval (.Call (.Name x p) [e] [] pos) env) Q s := by
  show wpN M A (do callWith pos (← eval (.Name x p) env) [] (backTo pos (starEach [e] env)) (backToKw pos (keywordEach [] env))) Q s
  refine N_bind (N_any (wpAny_mono h (fun f s₁ h₁ => ?_) fun _ _ x => x))
  obtain ⟨rfl, h₁⟩ := h₁
  rw [hs]
  show wpN M A (callWith pos (.ref a) [] [(false, eval e env)] []) Q s₁
  refine N_callWith_fn rfl ?_
  refine evalArgs_plain (spliced_cons (wpAny_mono h₁ (fun v s₂ h₂ => spliced_nil h₂) fun _ _ x => x))
end
end Mine

end

section -- part L9
set_option linter.unusedVariables false
open PySem PySem.W PyProof PyProof.Rows PySem.Calls PySem.Spec
set_option maxRecDepth 100000
namespace Mine
theorem fnIn_ok {K : Frag} {h : Heap} {a : Addr} (X : K.In h) (hf : fnIn K a = true) : ∃ o fd, h.get? a = some o ∧ o.data = .func fd := by
  unfold fnIn at hf
  split at hf
  · rename_i e
    exact ⟨_, _, X _ _ e, rfl⟩
  · cases hf
set_option maxHeartbeats 4000000 in
theorem findL {w : World} {mean : ExcName → Option Value} {mg mb : Str → Option Value} {x : Str} {tk : Tok}
    {base h₀ : Heap} {L : Addr} {o : Obj} {m : Str → Option Value} {s : Shared} {Q : Flow → Shared → Prop} {cd : Value}
    (B : Below callerA base [] h₀) (X : (hd.heap_39 w.params).In h₀) (T : Top hd.view_39 (looseW hd.view_39 LS) mean mg mb h₀)
    (F : Fr h₀ L s.heap m) (N : News h₀ L s.heap [(L + 1, o)]) (ho : o.data = .cell (some (.str x tk)))
    (hx : x.length ≤ 16) (hal : ∀ i, i < x.cps.size → x.cps.getD i 0 ∈ AL)
    (hno : hasD x = false → hasO x = false → ∀ h' m' tk', Fr h₀ L h' m' → m' (Str.ofString "spans") = some (.ref 199) → News h₀ L h' [(L + 1, o)] → Q .next { s with heap := h', toks := tk' })
    (hyes : ∀ h' m' tk' sp d oD cD oo oc C O, Fr h₀ L h' m' → m' (Str.ofString "spans") = some (.ref sp) → News h₀ L h' ((L + 1, o) :: spLed sp d oD cD oo oc C O) → oo.IsDictOf (intKind PySem.Challenge.rw_er0025_01.row.prog w) (kvsO O) → oc.IsDictOf (strKind PySem.Challenge.rw_er0025_01.row.prog w) (kvsC C) →
      (oD == sysModules) = false → (cD == sysModules) = false → cv C = VAll x → ov O = WAll x → Q .next { s with heap := h', toks := tk' }) :
    wpN (modelA PySem.Challenge.rw_er0025_01.row.prog w) (callerA.deeper (envW L cd)) (exec (nthS bodyW 3) (envW L cd)) Q s := by
  revert X; w_top off; k_fill; intro X
  conv => arg 3; arg 1; whnf
  conv => arg 3; arg 2; unfold envW; unfold scopeW; arg 2; whnf
  conv => arg 2; arg 2; unfold envW; unfold scopeW; arg 2; whnf
  refine N_Assign_Name ?_
  refine N_Call_Name1 (a := 207) ?_
  refine nameX_K F X (topRead_of T) (by kernel_rfl) ⟨rfl, ?_⟩
  refine nameX_C N rfl (.head _) ho ⟨fnIn_ok (X.keeps F.keep) (by kernel_rfl), ?_⟩
  refine find_N (A₀ := callerA) (base := base) (h₀ := h₀) (L := L) hx hal B F X T rfl (by decide) (by decide) (fun e1 e2 h' tk' hk => ?_) (fun hor h' tk' L' sp d oD cD oo oc C O hk N' hoo hoc lc lo ec eo => ?_)
  · have F2 : Fr h₀ L h' m := ⟨F.ns.keeps hk, fun b o e => hk b o (F.keep b o e), F.above⟩
    have N2 : News h₀ L h' [(L + 1, o)] := fun p hp => ⟨hk _ _ (N p hp).1, (N p hp).2⟩
    refine N_any (storeX_L (s := { s with heap := h', toks := tk' }) F2 N2 (fun h3 F3 N3 => ?_))
    exact hno e1 e2 h3 _ _ F3 (if_pos rfl) N3
  · have N2 : News h₀ L h' ((L + 1, o) :: spLed sp d oD cD oo oc C O) := fun p hp => by
      rcases List.mem_cons.mp hp with rfl | hp
      · exact ⟨hk _ _ (N _ (.head _)).1, (N _ (.head _)).2⟩
      · obtain ⟨q1, q2, q3⟩ := N' p hp
        obtain ⟨oL, _, _, hL, _⟩ := F.ns
        refine ⟨q1, fun q => ?_, ?_⟩
        · rw [q, hL] at q3; cases q3
        · cases q : h₀.get? p.1 with
          | none => rfl
          | some o' => rw [F.keep _ _ q] at q3; cases q3
    have F2 : Fr h₀ L h' m := ⟨F.ns.keeps hk, fun b o e => hk b o (F.keep b o e), F.above⟩
    refine N_any (storeX_L (s := { s with heap := h', toks := tk' }) F2 N2 (fun h3 F3 N3 => ?_))
    exact hyes h3 _ _ sp d oD cD oo oc C O F3 (if_pos rfl) N3 hoo hoc lo lc ec eo
end Mine

end

section -- part LW
set_option linter.unusedVariables false
open PySem PySem.W PyProof PyProof.Rows PySem.Calls PySem.Spec
set_option maxRecDepth 100000
namespace Mine
section
variable {prog : Program} {w : World} {A : Around} {s : Shared} {K : Frag} {p : Program} {loose : List Str} {mean : ExcName → Option Value} {mg mb : Str → Option Value}
  {qual name : Str} {params : Arguments} {body : List Stmt} {scope : Scope} {dV kV doc pm cdv ct oc : Value} {an od : Option Addr} {osl : Array (Option Value)} {f : Addr} {args : Args} {binds : List (Str × Value)}
/-- the law's own call: a def with cells, no frame below -/
theorem codeN_topC {R : Flow → Shared → Prop} (X : K.In s.heap) (T : Top p loose mean mg mb s.heap)
    (ho : K.lookup f = some ⟨oc, od, .func (fnOf name qual params body scope dV kV doc pm an cdv ct), osl⟩) (hcd : codeIn K cdv qual = true) (hroom : A.depth < recursionLimit)
    (hbind : BindsTo s (fnOf name qual params body scope dV kV doc pm an cdv ct) args binds) (hkind : (binds.all fun y => scope.names.lookup y.1 == some .local || scope.names.lookup y.1 == some .cell) = true)
    (hnd : ((cellsFrom 0 scope.names []).map (·.1)).Nodup)
    (h : ∀ h₁ tk cells, Fr s.heap s.heap.objs.size h₁ (bindL (envOfC qual scope s.heap.objs.size f cdv).kindOf binds fun _ => none) → News s.heap s.heap.objs.size h₁ cells →
      CellsAre (bindC (envOfC qual scope s.heap.objs.size f cdv).kindOf binds fun _ => none) (cellsFrom (s.heap.objs.size + 1) scope.names []) cells →
      wpN (modelA prog w) (A.deeper (envOfC qual scope s.heap.objs.size f cdv)) (execs body (envOfC qual scope s.heap.objs.size f cdv))
        (fun fl s' => R (.ret (match fl with | .ret v => v | _ => .none)) s') { s with heap := h₁, toks := tk })
    (hco : scope.isCoroutine = false) (hgen : scope.isGenerator = false) (hk : scope.kind = .function) : codeN (modelA prog w) A (.call (.ref f) args) R s := by
  refine codeN_call_function (fd := fnOf name qual params body scope dV kV doc pm an cdv ct) hroom (X _ _ ho) rfl hco hgen rfl (codeRec_of X hcd) (hbind _ _ _ _ ?_)
  refine wpAny_newFunctionEnv_cells hk (kindsX hkind _) fun env' he s' x => ?_
  subst he
  refine ⟨T.nolimit.keeps x.toInCall.keep, codeN_func ?_⟩
  obtain ⟨h₁, tk, rfl, _⟩ := x.done
  obtain ⟨cells, NC, Y⟩ := Cl.news (h₀ := s.heap) (Nat.le_refl _) fun n c hm => ⟨x.cell n c (lookup_of_mem_nodup (cellsFrom_names scope.names 0 (s.heap.objs.size + 1) [] [] rfl ▸ hnd) hm), x.above n c hm⟩
  exact h h₁ tk cells ⟨x.toInCall.ns, x.toInCall.keep, Nat.le_refl _⟩ NC Y
end
theorem bodyW_eq : bodyW = take3 bodyW ++ (nthS bodyW 3 :: (forOf bodyW ++ retOf bodyW)) := rfl
set_option maxHeartbeats 4000000 in
theorem law_N {w : World} {mean : ExcName → Option Value} {mg mb : Str → Option Value} {l : Addr} {vs : List Value} {ns : List Int} {s : Shared} {Q : Value → Shared → Prop}
    (X : (hd.heap_39 w.params).In s.heap) (T : Top hd.view_39 (looseW hd.view_39 LS) mean mg mb s.heap) (hls : s.heap.IsList l vs.toArray) (hi : IntsAre vs ns) (hfit : ns.length < 2 ^ 62)
    (hret : ∀ h' tk', (∀ b o, s.heap.get? b = some o → h'.get? b = some o) → Q (.bool true) { s with heap := h', toks := tk' }) :
    wpN (modelA PySem.Challenge.rw_er0025_01.row.prog w) callerA (call (.ref 233) [.ref l]) Q s := by
  revert X; w_top off; k_fill; intro X
  refine N_call ?_
  k_dflt (refine' codeN_topC X T ?k6 ?k7 ?k8 ?k9 ?kB ?kN ?_ ?c2 ?c3 ?c4)
  case k6 => k_is
  case k7 => k_is
  case k8 => decide
  case k9 => exact BindsTo.of_eq rfl
  case kB => exact rfl
  case kN => decide
  case c2 => exact rfl
  case c3 => exact rfl
  case c4 => exact rfl
  k_whole
  intro h1 tk1 cells F1 N1 Y1
  obtain ⟨o, rfl, ho⟩ := CellsAre.one Y1
  have B : Below callerA s.heap [] s.heap := below_caller s.heap
  show wpN _ (callerA.deeper (envW s.heap.objs.size _)) (execs (take3 bodyW ++ (nthS bodyW 3 :: (forOf bodyW ++ retOf bodyW))) (envW s.heap.objs.size _)) _ _
  refine N_execs_split (N_any (any_A (textL (c := 0) (A₀ := callerA) B X T hls hi hfit rfl F1 N1 ho (fun x tk o' m' h' tk' hx1 hx hal ho' F' N' => ?_))))
  refine N_execs_cons (findL (s := { s with heap := h', toks := tk' }) B X T F' N' ho' hx hal (fun eD eO h2 m2 tk2 F2 hm2 N2 => ?_) (fun h2 m2 tk2 sp d oD cD oo oc C O F2 hm2 N2 hoo hoc lo lc ec eo => ?_))
  · refine N_execs_split (N_any (any_A (checkL0 (s := { s with heap := h2, toks := tk2 }) B X T hm2 F2 N2 ho' eD eO hx hal (fun m3 h3 tk3 F3 hm3 N3 => ?_))))
    refine N_any (any_A (retL0 (c := 0) (s := { s with heap := h3, toks := tk3 }) B X T hm3 F3 N3 ho' eD eO hx hal (fun h4 m4 tk4 F4 => ?_)))
    exact ⟨_, rfl, hret h4 tk4 F4.keep⟩
  · have hcnt : O.length = cntD x x.length := law_count eo
    have hle : cntD x x.length ≤ 16 := by
      unfold cntD
      exact Nat.le_trans (List.length_filter_le _ _) (by rw [List.length_range]; exact hx)
    refine N_execs_split (N_any (any_A (checkL (c := 0) (news := []) (s := { s with heap := h2, toks := tk2 }) B X T hm2 F2 N2 ho' hoo hoc lo lc ec eo hx hal (fun m3 h3 tk3 F3 hm3 N3 => ?_))))
    refine N_any (any_A (retL (c := 0) (C := C) (oc := oc) (s := { s with heap := h3, toks := tk3 }) B X T hm3 F3 N3 ho' hoo lo (by unfold kvsO; rw [List.length_map]; omega) hx hal hcnt (fun h4 m4 tk4 F4 => ?_)))
    exact ⟨_, rfl, hret h4 tk4 F4.keep⟩
end Mine

end

section -- part LZ
set_option linter.unusedVariables false
open PySem PySem.W PyProof PyProof.Rows PySem.Calls PySem.Spec
set_option maxRecDepth 100000
namespace Mine
set_option maxHeartbeats 4000000 in
theorem fin_N : PySem.Challenge.rw_er0025_01.Holds := hd (by
  w_top off; k_fill
  intro w s₀ s₁ mg mb G Y fa o pm cd doc dV kV ho hd hcd hD hmg hg args vals as hpre hlay hrd hwl hlo
  have KX := kIn_of Y
  have X := (Ground.X G).1
  have V := (Ground.X G).2
  refine Ground.open G ?_
  intro T B D TE TW
  clear TE TW B D
  have e1 : fa = 233 := by
    have := mg_of (n := Str.ofString "law") (v := .ref 233) KX T.g (by kernel_rfl)
    have e2 : some (Value.ref fa) = some (.ref 233) := hmg.symm.trans this
    injection e2 with e2
    injection e2
  subst e1
  clear hmg ho hd hcd hD
  wrow_args hpre hlay hrd hwl hlo
  rename IntsAre _ _ => hI
  rename Heap.IsList _ _ _ => hL
  refine law_N KX T hL hI (by omega) (fun h' tk' hk => GoodW.toG ?_)
  refine ⟨.inl ⟨_, _, _, rfl, raisesW_false (by wrow_none_raised), ReadsW.bool _, (by wrow_post), fun _ => ⟨List.nodup_nil, fun a ha => nomatch ha⟩⟩, hk, rfl, hg⟩)
end Mine

end

theorem PySem.Challenge.cw_er0025_01_holds : PySem.Challenge.rw_er0025_01.Holds :=
  Mine.fin_N
