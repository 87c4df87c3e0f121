import PyProof.Rows.All
import Wide.All
import OpenK.AllK
import Wide.FinOn
import Lean
import PySem.Challenge.RW_et5023_01
section
open PySem PySem.W PyProof.Rows
set_option Elab.async false
set_option maxRecDepth 100000
namespace Mine
/-- the collector's question 13 -/
def isAsk : Code → Bool
  | .builtin "gc.ask" ⟨[.int 13 _], []⟩ => true
  | _ => false
theorem isAsk_of {c : Code} (h : isAsk c = true) : ∃ t, c = .builtin "gc.ask" ⟨[.int 13 t], []⟩ := by
  unfold isAsk at h
  split at h
  · exact ⟨_, rfl⟩
  · cases h
/-- the denotation with that question answered at once -/
def qden (c : Code) : Sem Fin := match isAsk c with
  | true => ret (.bool false)
  | false => denote table c
def qm (prog : Program) (w : World) : Model := ⟨qden, prog, w⟩

theorem entry_at {id : String} {n : Nat} {b : Builtin} (h1 : code id = n) (h2 : entriesT.find n = some b) : entryFor table id = some b := entryFor_of_tree (by rw [h1]; exact h2)
theorem entry_ask : entryFor table "gc.ask" = some Builtin.«gc.ask» := entry_at (n := 119247119279208) (by kernel_rfl) (by kernel_rfl)
theorem den_builtin {id : String} {b : Builtin} (h : entryFor table id = some b) (args : Args) : denote table (.builtin id args) = b args := by
  show (match entryFor table id with | some b => b args | none => unsupported ((withoutEnding? id "#data").getD id)) = _
  rw [h]
theorem den_ask (args : Args) : denote table (.builtin "gc.ask" args) = .pure (.again (.builtin "lifetime.ask" args)) := den_builtin entry_ask args
theorem qden_or (c : Code) : qden c = denote table c ∨ ∃ t, c = .builtin "gc.ask" ⟨[.int 13 t], []⟩ ∧ qden c = ret (.bool false) := by
  unfold qden
  cases h : isAsk c with
  | true => exact .inr (let ⟨t, e⟩ := isAsk_of h; ⟨t, e, rfl⟩)
  | false => exact .inl rfl
theorem loud_ask (args : Args) : (Code.builtin "lifetime.ask" args).quiet = false := by
  simp [Code.quiet, Thread.loud, Thread.atCollectorCode, Thread.yieldsInsideHandler, Thread.atExit]
theorem runs_quiet {M : Model} {Γ : Ctx} {p : Pos} {t : Sem Fin} {fs : List Frame} {s s' : Shared} {e : End} (h : Runs M Γ p t fs s e s') : ∀ c, t = .pure (.again c) → c.quiet = true := by
  induction h with
  | again hq _ _ => intro c e; cases e; exact hq
  | segRet _ _ ih _ => exact ih
  | segGen _ _ ih _ => exact ih
  | segSuspOut _ _ ih => exact ih
  | segSuspGen _ _ _ _ ih _ => exact ih
  | _ => intro c e; cases e
theorem runs_up_den {prog : Program} {w : World} {Γ : Ctx} {p : Pos} {c : Code} {fs : List Frame} {s s' : Shared} {e : End} (h : Runs (model prog w) Γ p ((model prog w).den c) fs s e s') : qden c = (model prog w).den c := by
  rcases qden_or c with h1 | ⟨t, rfl, _⟩
  · exact h1
  · have := runs_quiet h (.builtin "lifetime.ask" ⟨[.int 13 t], []⟩) (den_ask _)
    rw [loud_ask] at this
    cases this
theorem runs_up {prog : Program} {w : World} {Γ : Ctx} {p : Pos} {t : Sem Fin} {fs : List Frame} {s s' : Shared} {e : End} (h : Runs (model prog w) Γ p t fs s e s') : Runs (qm prog w) Γ p t fs s e s' := by
  induction h with
  | done => exact .done
  | raise => exact .raise
  | again hq hr ih => exact .again hq (by rw [show (qm prog w).den _ = _ from runs_up_den hr]; exact ih)
  | rule _ ih => exact .rule ih
  | «at» _ ih => exact .at ih
  | load ho _ ih => exact .load ho ih
  | update ha _ ih => exact .update ha ih
  | loadIfAlive _ ih => exact .loadIfAlive ih
  | point _ ih => exact .point ih
  | alloc _ ih => exact .alloc ih
  | fresh _ ih => exact .fresh ih
  | ask _ ih => exact .ask ih
  | choose hn _ ih => exact .choose hn ih
  | os _ ih => exact .os ih
  | handled _ ih => exact .handled ih
  | genState hg _ ih => exact .genState hg ih
  | stack _ ih => exact .stack ih
  | thread _ ih => exact .thread ih
  | newGen _ ih => exact .newGen ih
  | call hr _ ih₁ ih₂ => exact .call (by rw [show (qm prog w).den _ = _ from runs_up_den hr]; exact ih₁) ih₂
  | callSusp hr ih => exact .callSusp (by rw [show (qm prog w).den _ = _ from runs_up_den hr]; exact ih)
  | yield => exact .yield
  | resumeFresh hg hr hq _ ih₁ ih₂ => exact .resumeFresh hg (by rw [show (qm prog w).den _ = _ from runs_up_den hr]; exact ih₁) hq ih₂
  | resumeSuspended hg _ hq _ ih₁ ih₂ => exact .resumeSuspended hg ih₁ hq ih₂
  | resumeJustStarted hg hv _ ih => exact .resumeJustStarted hg hv ih
  | resumeThrowFresh hg _ ih => exact .resumeThrowFresh hg ih
  | resumeRunning hg _ ih => exact .resumeRunning hg ih
  | resumeFinished hg _ ih => exact .resumeFinished hg ih
  | segRet _ _ ih₁ ih₂ => exact .segRet ih₁ ih₂
  | segGen _ _ ih₁ ih₂ => exact .segGen ih₁ ih₂
  | segSuspOut hs _ ih => exact .segSuspOut hs ih
  | segSuspGen hs _ hq _ ih₁ ih₂ => exact .segSuspGen hs ih₁ hq ih₂
theorem returns_up {prog : Program} {w : World} {Γ : Ctx} {p : Pos} {s s' : Shared} {r : Result} (h : Returns (model prog w) Γ p s r s') : Returns (qm prog w) Γ p s r s' := by
  unfold Returns at h ⊢
  rw [show (qm prog w).den _ = _ from runs_up_den h]
  exact runs_up h
theorem wpCode_up {prog : Program} {w : World} {Γ : Ctx} {R : Result → Shared → Prop} {p : Pos} {s : Shared} : wpCode (model prog w) Γ R p s → wpCode (qm prog w) Γ R p s :=
  fun ⟨r, s', h, hR⟩ => ⟨r, s', returns_up h, hR⟩
theorem wakes_up {prog : Program} {w : World} {Γ : Ctx} {p : Pos} {g : Nat} {r : Resume} {s s' : Shared} {res : GenResult} (h : Wakes (model prog w) Γ p g r s res s') : Wakes (qm prog w) Γ p g r s res s' := by
  unfold Wakes at h ⊢
  split
  · rename_i e; rw [e] at h; exact h
  · rename_i c e
    rw [e] at h
    dsimp only at h ⊢
    split
    · obtain ⟨e₁, s₁, h1, h2⟩ := h
      exact ⟨e₁, s₁, by rw [show (qm prog w).den _ = _ from runs_up_den h1]; exact runs_up h1, h2⟩
    · rename_i v hv
      revert h
      cases v <;> first | exact fun h => h | exact absurd rfl hv
    · exact h
  · rename_i e
    rw [e] at h
    dsimp only at h ⊢
    obtain ⟨e₁, s₁, h1, h2⟩ := h
    exact ⟨e₁, s₁, runs_up h1, h2⟩
  · rename_i e; rw [e] at h; exact h
  · rename_i e; rw [e] at h; exact h
theorem wp_up {α : Type} {prog : Program} {w : World} {Γ : Ctx} {t : Sem α} {Q : α → Pos → Shared → Prop} {E : Value → Pos → Shared → Prop} : ∀ {p : Pos} {s : Shared}, Sem.wp (model prog w) Γ t Q E p s → Sem.wp (qm prog w) Γ t Q E p s := by
  induction t with
  | pure x => exact fun h => h
  | raise v => exact fun h => h
  | unsupported | finish | yield | fork | await | register => exact fun h => h
  | rule _ k ih | «at» _ k ih | alloc _ k ih | loadIfAlive _ k ih | point _ k ih | fresh k ih | ask k ih | os _ _ k ih | handled _ k ih | newGen _ k ih | stack k ih | thread k ih => exact fun h => ih _ h
  | load a _ k ih | genState a k ih => exact fun ⟨o, ho, h⟩ => ⟨o, ho, ih _ h⟩
  | update a _ f k ih | choose _ _ k ih => exact fun ⟨ha, h⟩ => ⟨ha, ih _ h⟩
  | call c h g l k ih => exact fun hc => wpCode_up (wpCode_mono (fun r s' => ih r) hc)
  | resume g r l k ih => exact fun ⟨res, s', hw, h⟩ => ⟨res, s', wakes_up hw, ih _ h⟩
/-- what the model does, the asking model does -/
theorem up {α : Type} {prog : Program} {w : World} {A : Around} {t : Sem α} {Q : α → Shared → Prop} {E : Value → Shared → Prop} {s : Shared} (h : wpAny (model prog w) A t Q E s) : wpAny (qm prog w) A t Q E s :=
  fun Γ p hΓ => wp_up (h Γ p hΓ)
theorem up_code {prog : Program} {w : World} {A : Around} {c : Code} {R : Result → Shared → Prop} {s : Shared} (h : codeAny (model prog w) A c R s) : codeAny (qm prog w) A c R s :=
  fun Γ p hc hΓ => wpCode_up (h Γ p hc hΓ)
end Mine

end
section
open PySem PySem.W PyProof.Rows
set_option Elab.async false
set_option maxRecDepth 100000
namespace Mine
theorem step_cmp (prog : Program) (w : World) (s : Shared) (t : Thread) : step qden prog w s t = step (denote table) prog w s t ∨
    ∃ s₁ c p st k, step qden prog w s t = .go s₁ ⟨ret (.bool false), c, p, st⟩ ∧ step (denote table) prog w s t = .go s₁ ⟨.pure (.again (.builtin "lifetime.ask" ⟨[.int 13 k], []⟩)), c, p, st⟩ := by
  obtain ⟨heap, gens, drawn, toks, os⟩ := s
  obtain ⟨cur, code, pos, stack⟩ := t
  cases cur with
  | pure fin =>
    cases fin with
    | done f => exact .inl rfl
    | again c =>
      rcases qden_or c with h | ⟨k, rfl, h⟩
      · left; simp only [step, h]
      · right; simp only [step, h, den_ask]; exact ⟨_, _, _, _, k, rfl, rfl⟩
  | call c hd g l k =>
    rcases qden_or c with h | ⟨k, rfl, h⟩
    · left; simp only [step, h]
    · right; simp only [step, h, den_ask]; exact ⟨_, _, _, _, k, rfl, rfl⟩
  | resume g r l k =>
    simp only [step]
    cases hg : gens[g]? with
    | none => exact .inl rfl
    | some gs =>
      cases gs with
      | fresh c =>
        cases r with
        | throw e => exact .inl rfl
        | send v =>
          cases v with
          | none =>
            rcases qden_or c with h | ⟨k, rfl, h⟩
            · left; simp only [h]
            · right; simp only [h, den_ask]; exact ⟨_, _, _, _, k, rfl, rfl⟩
          | _ => exact .inl rfl
      | _ => exact .inl rfl
  | _ => exact .inl rfl
theorem sstep_ask (prog : Program) (w : World) (s : Shared) (c : Code) (p : Pos) (st : List Frame) (k : Tok) (hz : s.asleep) :
    sstep (denote table) prog w (.single s ⟨.pure (.again (.builtin "lifetime.ask" ⟨[.int 13 k], []⟩)), c, p, st⟩) = .go (.single s ⟨ret (.bool false), c, p, st⟩) := by
  obtain ⟨hr, hc⟩ := hz
  have h1 : (Config.single s ⟨.pure (.again (.builtin "lifetime.ask" ⟨[.int 13 k], []⟩)), c, p, st⟩).collect? w.params = none := by
    simp [Config.collect?, Config.single, (nothing_to_collect _ _ _ s _ hr).1]
  have h2 : (Config.single s ⟨.pure (.again (.builtin "lifetime.ask" ⟨[.int 13 k], []⟩)), c, p, st⟩).collectable = [] := by
    simp [Config.collectable, Config.single, (nothing_to_collect w.params _ _ s _ hr).2]
  have h3 : (Config.single s ⟨.pure (.again (.builtin "lifetime.ask" ⟨[.int 13 k], []⟩)), c, p, st⟩).moves w.params.profile = [.run 0] := by
    simp [Config.moves, Config.single, movesFrom, Thread.moves]
  have h4 : (Config.single s ⟨.pure (.again (.builtin "lifetime.ask" ⟨[.int 13 k], []⟩)), c, p, st⟩).pick w = .ok (.run 0, .single s ⟨.pure (.again (.builtin "lifetime.ask" ⟨[.int 13 k], []⟩)), c, p, st⟩) := by
    simp only [Config.pick, h1, h2, Config.pickThread, h3]
    cases w.params.lifetimes <;> simp
  have hw : s.watching = false := by simp [Shared.watching, hr]
  have h5 : ∀ others, lifeStep (denote table) prog w others s ⟨.pure (.again (.builtin "lifetime.ask" ⟨[.int 13 k], []⟩)), c, p, st⟩ = .go s ⟨ret (.bool false), c, p, st⟩ := by
    intro others
    have hsp : Thread.special ⟨.pure (.again (.builtin "lifetime.ask" ⟨[.int 13 k], []⟩)), c, p, st⟩ = true := by
      simp [Thread.special, Thread.atCollectorCode]
    simp only [lifeStep, hsp, if_true]
    have hct : collectorTurn? w.params others s ⟨.pure (.again (.builtin "lifetime.ask" ⟨[.int 13 k], []⟩)), c, p, st⟩ = some (s, ⟨ret (.bool false), c, p, st⟩) := by
      simp [collectorTurn?, askTurn, hw]
    simp only [hct, hc, Bool.false_and, Bool.false_eq_true, if_false]
  simp only [sstep, h4, Config.move]
  simp [Config.run, Config.single, Shared.entering, h5, others_single, Thread.finalizes]
end Mine

end
section
open PySem PySem.W PyProof.Rows
set_option Elab.async false
set_option maxRecDepth 100000
namespace Mine
theorem qsched (prog : Program) (w : World) {o : Outcome} {s' : Shared} (ho : o.ends = true) : ∀ (n : Nat) (s : Shared) (t : Thread), runN qden prog w n s t = .halted o s' → s.asleep →
    (∀ k s₁ t₁, runN qden prog w k s t = .running s₁ t₁ → t₁.calm = true) → ∃ m, schedN (denote table) prog w m (.single s t) = .halted o s' := by
  intro n
  induction n with
  | zero => intro s t h; cases h
  | succ n ih =>
    intro s t h hz hc
    have hcalm : t.calm = true := hc 0 s t rfl
    have next : ∀ s₁ t₁, step qden prog w s t = .go s₁ t₁ → ∃ m, schedN (denote table) prog w m (.single s₁ t₁) = .halted o s' := by
      intro s₁ t₁ e
      refine ih s₁ t₁ (by simp only [runN, e] at h; exact h) (by simp only [Shared.asleep, step_life qden prog w s s₁ t t₁ e]; exact hz) fun k s₂ t₂ hk => hc (k + 1) s₂ t₂ (by simp only [runN, e]; exact hk)
    have real : step (denote table) prog w s t ≠ .halt (.unsupported "lifetime:generator-with-cleanup-left-suspended") s := by
      intro e
      rcases step_cmp prog w s t with h1 | ⟨s₁, c, p, st, k, _, h2⟩
      · simp only [runN, h1, e] at h
        injection h with h1 _
        subst h1
        exact absurd ho (by simp [Outcome.ends])
      · rw [e] at h2; cases h2
    have hs := (sstep_single (denote table) prog w s t hcalm hz).resolve_right real
    rcases step_cmp prog w s t with h1 | ⟨s₁, c, p, st, k, h1, h2⟩
    · cases e : step qden prog w s t with
      | halt o₂ s₂ =>
        simp only [runN, e] at h
        injection h with h3 h4
        subst h3 h4
        refine ⟨1, ?_⟩
        simp only [schedN, hs, ← h1, e]
        rfl
      | go s₁ t₁ =>
        obtain ⟨m, hm⟩ := next s₁ t₁ e
        refine ⟨m + 1, ?_⟩
        rw [schedN, hs, ← h1, e]
        exact hm
    · obtain ⟨m, hm⟩ := next _ _ h1
      have hz₁ : s₁.asleep := by simp only [Shared.asleep, step_life qden prog w s s₁ t _ h1]; exact hz
      refine ⟨m + 2, ?_⟩
      rw [schedN, hs, h2]
      show schedN (denote table) prog w (m + 1) (.single s₁ _) = _
      rw [schedN, sstep_ask prog w s₁ c p st k hz₁]
      exact hm
theorem runq_life (prog : Program) (w : World) {o : Outcome} {s' : Shared} : ∀ (n : Nat) (s : Shared) (t : Thread), runN qden prog w n s t = .halted o s' → s'.heap.life = s.heap.life := fun _ _ _ h => runN_life qden prog w h
theorem thread_ends_q {prog : Program} {w : World} {t : Sem Fin} {s : Shared} {R : Result → Shared → Prop} (hreg : s.asleep)
    (h : wpAny (qm prog w) callerA t (fun fin s' => ∃ f, fin = .done f ∧ (R (.ok f) s' ∧ leftWithCleanup s'.gens = false)) (fun e s' => R (.error e) s' ∧ leftWithCleanup s'.gens = false) s) :
    ∃ n r s' s'', s'.heap.life = s.heap.life ∧
      schedN (denote table) prog w n (.single s ⟨t, .builtin "claim.caller" {}, default, []⟩) = .halted (outcomeOf r) s' ∧ s'.forget = s''.forget ∧ R r s'' := by
  have h0 := wp_of_wpAny_done (R := fun r s' => R r s' ∧ leftWithCleanup s'.gens = false) caller_in h default
  obtain ⟨n, r, s₁, hn, hR⟩ := (wp_iff_halts (M := qm prog w) t R default s).mp h0
  obtain ⟨s₂, hr, hf, hc⟩ := runNI_real _ _ _ hn (outcomeOf_ends r)
  obtain ⟨m, hm⟩ := qsched prog w (outcomeOf_ends r) n s _ hr hreg hc
  exact ⟨m, r, s₂, s₁, runq_life prog w n s _ hr, hm, hf, hR⟩
end Mine

end
section
open PySem PySem.W PyProof.Rows
open Sem (wp)
set_option Elab.async false
set_option maxRecDepth 100000
namespace Mine
/-- not the code of a callable iterator's next -/
def noCI : Code → Bool
  | .builtin id _ => id != "callable_iterator.__next__"
  | _ => true
def FreeB (l : List (Code × Pos)) : Prop := ∀ x ∈ l, noCI x.1 = true
def wpF {α : Type} (M : Model) (A : Around) (t : Sem α) (Q : α → Shared → Prop) (E : Value → Shared → Prop) (s : Shared) : Prop :=
  ∀ Γ p, Γ.In A → noCI Γ.code = true → FreeB Γ.below → wp M Γ t (fun a _ s' => Q a s') (fun e _ s' => E e s') p s
def codeF (M : Model) (A : Around) (c : Code) (R : Result → Shared → Prop) (s : Shared) : Prop :=
  ∀ Γ p, Γ.code = c → Γ.Below A → FreeB Γ.below → wpCode M Γ R p s
section
variable {α β : Type} {M : Model} {A : Around} {E : Value → Shared → Prop} {s : Shared}
theorem wpF_of {t : Sem α} {Q : α → Shared → Prop} (h : wpAny M A t Q E s) : wpF M A t Q E s := fun Γ p hΓ _ _ => h Γ p hΓ
theorem codeF_of {c : Code} {R : Result → Shared → Prop} (h : codeAny M A c R s) : codeF M A c R s := fun Γ p hc hΓ _ => h Γ p hc hΓ
theorem wpF_pure {a : α} {Q : α → Shared → Prop} (h : Q a s) : wpF M A (pure a) Q E s := wpF_of (wpAny_pure h)
theorem wpF_mono {t : Sem α} {Q Q' : α → Shared → Prop} {E' : Value → Shared → Prop} (h : wpF M A t Q E s) (hQ : ∀ a s, Q a s → Q' a s) (hE : ∀ e s, E e s → E' e s) : wpF M A t Q' E' s :=
  fun Γ p hΓ h1 h2 => Sem.wp_mono M Γ t (fun a _ s => hQ a s) (fun e _ s => hE e s) p s (h Γ p hΓ h1 h2)
theorem wpF_bind {m : Sem α} {f : α → Sem β} {Q : β → Shared → Prop} (h : wpF M A m (fun a s' => wpF M A (f a) Q E s') E s) : wpF M A (m >>= f) Q E s := fun Γ p hΓ h1 h2 => by
  rw [Sem.wp_bind']
  exact Sem.wp_mono M Γ m (fun a p' s' h' => h' Γ p' hΓ h1 h2) (fun _ _ _ h' => h') p s (h Γ p hΓ h1 h2)
theorem wpF_onRaise {m : Sem α} {k : Value → Sem Unit} {Q : α → Shared → Prop} (h : wpF M A m Q (fun _ _ => False) s) : wpF M A (m.onRaise k) Q E s := fun Γ p hΓ h1 h2 => by
  rw [Sem.wp_onRaise]
  exact Sem.wp_mono M Γ m (fun _ _ _ h' => h') (fun e p' s' h' => h'.elim) p s (h Γ p hΓ h1 h2)
theorem wpF_attempt {m : Sem α} {Q : Except Value α → Shared → Prop} (h : wpF M A m (fun a => Q (.ok a)) (fun e => Q (.error e)) s) : wpF M A m.attempt Q E s := fun Γ p hΓ h1 h2 => by
  rw [Sem.wp_attempt]; exact h Γ p hΓ h1 h2
theorem wpF_holding {vs : List Value} {m : Sem α} {Q : α → Shared → Prop} (h : wpF M A m Q E s) : wpF M A (holding vs m) Q E s := fun Γ p hΓ h1 h2 => by
  rw [Sem.wp_holding]; exact h Γ p hΓ h1 h2
theorem free_cons {c : Code} {p : Pos} {l : List (Code × Pos)} (h1 : noCI c = true) (h2 : FreeB l) : FreeB ((c, p) :: l) := fun x hx => by
  rcases List.mem_cons.mp hx with rfl | hx
  · exact h1
  · exact h2 x hx
theorem wpF_runValue {c : Code} {Q : Value → Shared → Prop} (hc : codeF M A c (fun r s' => match r with | .ok (.ret v) => Q v s' | .ok _ => False | .error e => E e s') s) : wpF M A (runValue c) Q E s := fun Γ p hΓ h1 h2 => by
  rw [Sem.wp_runValue]
  exact hc _ p rfl (hΓ.enter c none p (by intro x; cases x)) (free_cons h1 h2)
theorem wpF_call {f : Value} {pos : List Value} {kw : List (Str × Value)} {Q : Value → Shared → Prop} (hc : codeF M A (.call f ⟨pos, kw⟩) (fun r s' => match r with | .ok (.ret v) => Q v s' | .ok _ => False | .error e => E e s') s) : wpF M A (call f pos kw) Q E s := wpF_runValue hc
theorem codeF_mono {c : Code} {R R' : Result → Shared → Prop} (h : codeF M A c R s) (hR : ∀ r s, R r s → R' r s) : codeF M A c R' s := fun Γ p hc hΓ h2 => wpCode_mono hR (h Γ p hc hΓ h2)
theorem codeF_of_tree {c : Code} {R : Result → Shared → Prop} (hn : noCI c = true)
    (h : wpF M (A.under c) (M.den c) (fun fin s' => match fin with | .done f => R (.ok f) s' | .again c' => c'.quiet = true ∧ codeF M A c' R s') (fun e s' => R (.error e) s') s) : codeF M A c R s := fun Γ p hc hΓ h2 => by
  rw [wpCode_iff_wp, hc]
  refine Sem.wp_mono M Γ _ (fun fin p' s' h' => ?_) (fun _ _ _ h' => h') p s (h Γ p (hc ▸ hΓ.in) (hc ▸ hn) h2)
  cases fin with
  | done f => exact h'
  | again c' => exact ⟨h'.1, h'.2 (Γ.goto c') p' rfl (hΓ.goto c') h2⟩
end
/-- a piece of a generator's run, seen from free contexts -/
def SegF (M : Model) (A : Around) (R : GenEnd) (Y : Protocol) : Nat → Shared → Code → Sem Fin → List Frame → Shared → Prop
  | 0 => fun s₀ c t fs s => ∀ Γ p, Γ.code = c → Γ.Woken A → FreeB Γ.below → ∃ e s', Runs M Γ p t fs s e s' ∧ SegEnd R Y 0 (fun _ _ _ _ => False) s₀ e s'
  | n + 1 => fun s₀ c t fs s => ∀ Γ p, Γ.code = c → Γ.Woken A → FreeB Γ.below → ∃ e s', Runs M Γ p t fs s e s' ∧
      SegEnd R Y (n + 1) (fun c' t' fs' s'' => SegF M A R Y n s'' c' t' fs' s'') s₀ e s'
def SegF.next (M : Model) (A : Around) (R : GenEnd) (Y : Protocol) : Nat → Code → Sem Fin → List Frame → Shared → Prop
  | 0 => fun _ _ _ _ => False
  | n + 1 => fun c t fs s'' => SegF M A R Y n s'' c t fs s''
section
variable {M : Model} {A : Around} {R : GenEnd} {Y : Protocol} {n : Nat} {s₀ : Shared} {c : Code} {fs : List Frame} {s : Shared}
theorem segF_iff {t : Sem Fin} : SegF M A R Y n s₀ c t fs s ↔ ∀ Γ p, Γ.code = c → Γ.Woken A → FreeB Γ.below → ∃ e s', Runs M Γ p t fs s e s' ∧ SegEnd R Y n (SegF.next M A R Y n) s₀ e s' := by
  cases n <;> rfl
/-- the codes of the frames are free -/
def FreeF (fs : List Frame) : Prop := FreeB (fs.map Frame.where_)
theorem free_over {Γ : Ctx} (h1 : FreeF fs) (h2 : FreeB Γ.below) : FreeB (Γ.over fs).below := by
  intro x hx
  rcases List.mem_append.mp hx with h | h
  · exact h1 x h
  · exact h2 x h
theorem segF_wrap {α : Type} {m : Sem α} {K : α → Sem Fin} {H : Value → Sem Fin} {gd lv} (hc : noCI c = true) (hf : FreeF fs)
    (h : wpF M (A.over c fs) m (fun a s' => SegF M A R Y n s₀ c (K a) fs s') (fun x s' => SegF M A R Y n s₀ c (H x) fs s') s) : SegF M A R Y n s₀ c (m.wrap K H gd lv) fs s := by
  rw [segF_iff]
  rintro Γ p rfl hΓ h2
  exact runs_wrap_of_wp K H gd lv m (h (Γ.over fs) p (hΓ.over fs) hc (free_over hf h2)) (fun a p' s' h' => segF_iff.mp h' Γ p' rfl hΓ h2) (fun x p' s' h' => segF_iff.mp h' Γ p' rfl hΓ h2)
theorem segF_at {p' : Pos} {k : Unit → Sem Fin} (h : SegF M A R Y n s₀ c (k ()) fs s) : SegF M A R Y n s₀ c (.at p' k) fs s := by
  rw [segF_iff]
  rintro Γ p rfl hΓ h2
  obtain ⟨e, s', hr, he⟩ := segF_iff.mp h Γ p' rfl hΓ h2
  exact ⟨e, s', Runs.head' (fun _ _ x => .at x) hr, he⟩
theorem segF_point {l : List Value} {k : Unit → Sem Fin} (h : SegF M A R Y n s₀ c (k ()) fs s) : SegF M A R Y n s₀ c (.point l k) fs s := by
  rw [segF_iff]
  rintro Γ p rfl hΓ h2
  obtain ⟨e, s', hr, he⟩ := segF_iff.mp h Γ p rfl hΓ h2
  exact ⟨e, s', Runs.head' (fun _ _ x => .point x) hr, he⟩
theorem segF_call {c' : Code} {h g l} {k : Result → Sem Fin} (hc : ∀ p, SegF M A R Y n s₀ c' (M.den c') (.ret k h g l c p [] :: fs) s) : SegF M A R Y n s₀ c (.call c' h g l k) fs s := by
  rw [segF_iff]
  rintro Γ p rfl hΓ h2
  obtain ⟨e, s', hr, he⟩ := segF_iff.mp (hc p) (Γ.goto c') p rfl (hΓ.goto c') h2
  exact ⟨e, s', runs_call_seg hr, he⟩
theorem segF_leaf {k h g l c₁ p₁ kp} (r : Result) (hk : SegF M A R Y n s₀ c₁ (k r) fs s) : SegF M A R Y n s₀ c (leafOf r) (.ret k h g l c₁ p₁ kp :: fs) s := by
  rw [segF_iff]
  rintro Γ p rfl hΓ h2
  obtain ⟨e, s', hr, he⟩ := segF_iff.mp hk (Γ.goto c₁) p₁ rfl (hΓ.goto c₁) h2
  exact ⟨e, s', Runs.pop r hr, he⟩
theorem segF_again {c' : Code} (hq : c'.quiet = true) (hc : SegF M A R Y n s₀ c' (M.den c') fs s) : SegF M A R Y n s₀ c (.pure (.again c')) fs s := by
  rw [segF_iff]
  rintro Γ p rfl hΓ h2
  obtain ⟨e, s', hr, he⟩ := segF_iff.mp hc (Γ.goto c') p rfl (hΓ.goto c') h2
  exact ⟨e, s', Runs.head (c₁ := c') (fun _ _ x => .again hq x) hr, he⟩
theorem segF_end (r : Result) (h : R n s₀ r s) : SegF M A R Y n s₀ c (leafOf r) [] s := by
  rw [segF_iff]
  rintro Γ p rfl _ _
  exact ⟨.ret r, s, Runs.leaf r, h⟩
theorem segF_yield {v g l} {k : Resume → Sem Fin} (hfs : splitAtGen fs = none) (hg : g = false) (hfg : fs.any Frame.guarded = false)
    (h : Y n s₀ v s fun r s'' => SegF M A R Y n s'' c (k r) fs s'') : SegF M A R Y (n + 1) s₀ c (.yield v g l k) fs s := by
  rintro Γ p rfl _ _
  exact ⟨_, s, Runs.yield' fs hfs, And.intro (by simp [End.quiet, hg, hfg]) h⟩
end
def GoesF (M : Model) (A : Around) (R : GenEnd) (Y : Protocol) (n : Nat) (gs : GenState) (r : Resume) (s : Shared) : Prop :=
  match gs with
  | .fresh c => r = .send .none ∧ SegF M A R Y n s c (M.den c) [] s
  | .suspended k _ c _ fs _ => SegF M A R Y n s c (k r) fs s
  | _ => False
theorem wpF_resume {M : Model} {A : Around} {R : GenEnd} {Y : Protocol} {n : Nat} {E : Value → Shared → Prop} {s : Shared} {g : Nat} {gs : GenState}
    {r : Resume} {l : List Value} {α : Type} {k : GenResult → Sem α} {Q : α → Shared → Prop} (hg : s.gens[g]? = some gs)
    (hgo : GoesF M A R Y n gs r (s.setGen g .running))
    (hR : ∀ x s₁, R n (s.setGen g .running) x s₁ → wpF M A (k (End.ret x).result) Q E (s₁.setGen g .finished))
    (hY : ∀ v s₁ gs', gs'.bare = true → Y (n - 1) (s.setGen g .running) v s₁ (fun r' s'' => match n with | 0 => False | m + 1 => GoesF M A R Y m gs' r' s'') →
      wpF M A (k (.yielded v)) Q E (s₁.setGen g gs')) :
    wpF M A (.resume g r l k) Q E s := by
  intro Γ p hΓ h1 h2
  rw [Sem.wp_resume]
  have fr : FreeB ((Γ.code, p) :: Γ.below) := free_cons h1 h2
  have fin : ∀ e₁ s₁, SegEnd R Y n (SegF.next M A R Y n) (s.setGen g .running) e₁ s₁ →
      wp M Γ (k e₁.result) (fun a _ s' => Q a s') (fun e _ s' => E e s') p (s₁.setGen g e₁.genState) ∧ e₁.quiet = true := by
    intro e₁ s₁ he
    cases e₁ with
    | ret x => exact ⟨hR x s₁ he Γ p hΓ h1 h2, rfl⟩
    | susp v g₀ l₀ k₀ c₀ p₀ fs₀ =>
      refine ⟨hY v s₁ _ (End.bare_of_quiet he.1) ?_ Γ p hΓ h1 h2, he.1⟩
      cases n with
      | zero => exact he.2
      | succ m => exact he.2
  cases gs with
  | fresh c =>
    obtain ⟨rfl, hs⟩ := hgo
    obtain ⟨e₁, s₁, hr, he⟩ := segF_iff.mp hs (Γ.wake c p) p rfl (hΓ.wake c p) fr
    exact ⟨_, _, by unfold Wakes; rw [hg]; exact ⟨e₁, s₁, hr, (fin e₁ s₁ he).2, rfl, rfl⟩, (fin e₁ s₁ he).1⟩
  | suspended k₀ l₀ c₀ p₀ fs₀ cl =>
    obtain ⟨e₁, s₁, hr, he⟩ := segF_iff.mp hgo (Γ.wake c₀ p) p₀ rfl (hΓ.wake c₀ p) fr
    exact ⟨_, _, by unfold Wakes; rw [hg]; exact ⟨e₁, s₁, hr, (fin e₁ s₁ he).2, rfl, rfl⟩, (fin e₁ s₁ he).1⟩
  | running => exact hgo.elim
  | finished => exact hgo.elim
end Mine

end
section
open PySem PySem.W PyProof.Rows PySem.Calls
set_option Elab.async false
set_option maxRecDepth 100000
namespace Mine
theorem thread_ends_f {prog : Program} {w : World} {t : Sem Fin} {s : Shared} {R : Result → Shared → Prop} (hreg : s.asleep)
    (h : wpF (qm prog w) callerA t (fun fin s' => ∃ f, fin = .done f ∧ (R (.ok f) s' ∧ leftWithCleanup s'.gens = false)) (fun e s' => R (.error e) s' ∧ leftWithCleanup s'.gens = false) s) :
    ∃ n r s' s'', s'.heap.life = s.heap.life ∧
      schedN (denote table) prog w n (.single s ⟨t, .builtin "claim.caller" {}, default, []⟩) = .halted (outcomeOf r) s' ∧ s'.forget = s''.forget ∧ R r s'' := by
  have h0 : Sem.wp (qm prog w) ⟨.builtin "claim.caller" {}, none, none, [], none⟩ t (Sem.finPost (qm prog w) ⟨.builtin "claim.caller" {}, none, none, [], none⟩ (fun r s' => R r s' ∧ leftWithCleanup s'.gens = false)) (fun e _ s' => R (.error e) s' ∧ leftWithCleanup s'.gens = false) default s := by
    refine Sem.wp_mono _ _ t (fun fin p' s' h' => ?_) (fun _ _ _ h' => h') default s (h _ default caller_in (by decide) (fun _ hx => nomatch hx))
    obtain ⟨f, rfl, hf⟩ := h'
    exact hf
  obtain ⟨n, r, s₁, hn, hR⟩ := (wp_iff_halts (M := qm prog w) t R default s).mp h0
  obtain ⟨s₂, hr, hf, hc⟩ := runNI_real _ _ _ hn (outcomeOf_ends r)
  obtain ⟨m, hm⟩ := qsched prog w (outcomeOf_ends r) n s _ hr hreg hc
  exact ⟨m, r, s₂, s₁, runq_life prog w n s _ hr, hm, hf, hR⟩
theorem callFrom_f {c : ClaimW} {tree : List Value → Sem Fin} {w : World} {s : Shared} {free : Addr → Prop} {gens : Prop} {kept : Heap → Prop} (hz : s.asleep) (hgens : s.gens = #[])
    (hspec : ∀ args, c.pre args = true → WData.layableAll args = true →
      ∀ ord : List DictEntry → List DictEntry, (∀ l, (ord l).Perm l) →
      ∃ vs s₁, layAllW c.records (classAt s.heap) w.params ord args s = some (vs, s₁) ∧
        wpF (qm c.prog w) callerA (tree vs) (fun fin s' => ∃ f, fin = .done f ∧ (c.Ends s args vs s₁ (.ok f) s' ∧ s'.os = s.os ∧ AllBare s'.gens ∧ kept s'.heap))
          (fun e s' => c.Ends s args vs s₁ (.error e) s' ∧ s'.os = s.os ∧ AllBare s'.gens ∧ kept s'.heap) s₁) :
    c.CallFrom (fun vs => ⟨tree vs, .builtin "claim.caller" {}, default, []⟩) w free gens kept s := by
  intro args hpre hlay ord hord
  obtain ⟨vs, s₁, hlaid, hcode⟩ := hspec args hpre hlay ord hord
  have hal := layAllW_rest _ _ _ hlaid
  obtain ⟨k, r, s', s'', hl, hsched, hfo, hcase, hos, hkp⟩ := thread_ends_f (prog := c.prog) (w := w) (t := tree vs) (s := s₁)
    (R := fun r s' => c.Ends s args vs s₁ r s' ∧ s'.os = s.os ∧ kept s'.heap) (Shared.asleep_of_life hal.2.2.2 hz)
    (wpF_mono hcode (fun fin s' ⟨f, e, h1, h2, h3, h4⟩ => ⟨f, e, ⟨h1, h2, h4⟩, leftWithCleanup_false_of_bare h3⟩)
      fun e s' ⟨h1, h2, h3, h4⟩ => ⟨⟨h1, h2, h4⟩, leftWithCleanup_false_of_bare h3⟩)
  obtain ⟨eh, _, _, eo, _⟩ := Shared.forget_eq hfo
  have hcase := hcase.congr eh
  have hkp : kept s'.heap := by rw [eh]; exact hkp
  rw [← eo] at hos
  refine ⟨vs, s₁, hlaid, k, _, s', hsched, ?_, (fun _ i x hx => by rw [hgens] at hx; simp at hx), hkp, by rw [hl, hal.2.2.2], Shared.rest_eq hos⟩
  rcases hcase with ⟨v, rfl, d1, d2, d3, d4, d5⟩ | ⟨e, ob, cls, rfl, d1, d2, d3, d4, d5⟩
  · exact .inl ⟨v, rfl, d1, d2, d3, fun b o y _ => d4 b o y, d5⟩
  · exact .inr ⟨e, ob, cls, rfl, d1, d2, d3, d4, fun b o y _ => d5 b o y⟩

abbrev WalkF (q : Program) (loose : List Str) (XP : (Str → Option Value) → Heap → Prop) (YP : World → Heap → Prop) (r : RowW) (d : DefRec) (kwd : List (Str × PySem.Expr)) : Prop :=
  ∀ (w : World) (s₀ s₁ : Shared) (mg mb : Str → Option Value), Ground q loose r.records XP w s₀ mg mb s₁.heap → YP w s₁.heap → ∀ (a : Addr) (o : Obj) (pm cd doc dV kV : Value), s₁.heap.get? a = some o →
    o.data = .func { docDef d.name d.params d.body d.scope pm cd doc with defaults := dV, kwdefaults := kV } → s₁.heap.CodeRec cd d.name → Dflts mg s₁.heap d.params kwd dV kV → mg d.name = some (.ref a) → s₁.gens = #[] →
    ∀ (args : List WData) (vals : List Value) (as : List Addr), r.claim.pre args = true → WData.layableAll args = true → ReadsAllW r.records (classAt s₀.heap) s₁.heap vals args as → WellAll w.params s₁.heap vals args → (∀ a ∈ as, (a == sysModules) = false) →
      wpF (qm r.prog w) callerA (PySem.call (.ref a) vals) (fun v s' => GoodWG r.claim (classAt s₀.heap) (ExcName.means s₀.heap) args s₁ (.ok (.ret v)) s')
        (fun e s' => GoodWG r.claim (classAt s₀.heap) (ExcName.means s₀.heap) args s₁ (.error e) s') s₁

theorem open_f {r : RowW} {q : Program} {loose defs kps : List Str} {writes : Bool} {Xt : Shared → Bool} {XP : (Str → Option Value) → Heap → Prop} {α : Type} {Yf : Shared → α} {Ya : World → α} {YP : World → Heap → Prop} {N : Nat}
    (left : LeftO r.prog q loose Xt Yf Ya N) (hY : ∀ w s, Yf s = Ya w → YP w s.heap) (hYk : ∀ w h h', YP w h → (∀ b o, h.get? b = some o → h'.get? b = some o) → YP w h') (hX : ∀ s, Xt s = true → XP (s.heap.nsMap mainGlobals) s.heap) (hXk : ∀ mg h h', XP mg h → (∀ b o, h.get? b = some o → h'.get? b = some o) → XP mg h')
    (hRf : ∀ s, Xt s = true → RecFacts r.records s.heap) (hwr : (!writes || r.records.isEmpty) = true) (ok : (chainsOk q && opensWell r.prog && (frees r && r.within.isEmpty)) = true) (hb : r.prog.bare) (hw : r.promised)
    (pin : ∀ w s, s.heap.isNs mainGlobals = true → Ground q loose [] XP w s (s.heap.nsMap mainGlobals) (s.heap.nsMap builtinsNs) s.heap → ∀ n ∈ defs, isTheDefsW r.prog s.heap n)
    (call : ∀ (w : World) (s₀ s₁ : Shared) (mg mb : Str → Option Value), Ground q loose r.records XP w s₀ mg mb s₁.heap → YP w s₁.heap → ∀ (args : List WData) (vs : List Value) (as : List Addr),
      r.claim.pre args = true → WData.layableAll args = true → Laid r.records w s₀ s₁ args vs as → sysModules < s₀.heap.objs.size → ∃ f, mg r.name = some f ∧
        wpF (qm r.prog w) callerA (PySem.call f vs) (fun v s' => GoodWG r.claim (classAt s₀.heap) (ExcName.means s₀.heap) args s₁ (.ok (.ret v)) s')
          (fun e s' => GoodWG r.claim (classAt s₀.heap) (ExcName.means s₀.heap) args s₁ (.error e) s') s₁) : r.claim.HoldsOpenBy (callStub r.name) defs kps writes := by
  obtain ⟨ok, k5⟩ := Bool.and_eq_true_iff.mp ok
  obtain ⟨hch, o1⟩ := Bool.and_eq_true_iff.mp ok
  obtain ⟨k5, k6⟩ := Bool.and_eq_true_iff.mp k5
  obtain ⟨hsame, hu, ha, hap, hm⟩ := frees_parts k5
  refine ⟨⟨hb, o1, by show r.makers.map _ = []; rw [hm]; rfl⟩, hw.witness, fun w => ⟨(left.behind hX hch w).1, fun s' hs' => ?_⟩⟩
  obtain ⟨s₀, hf, hg0, s, hT, hz, hgens, hg, G00, y⟩ := (left.behind (XP := fun mg h => XP mg h ∧ RecFacts r.records h) (fun s hs => ⟨hX s hs, hRf s hs⟩) hch w).2 s' hs'
  have G0 : Ground q loose [] XP w s (s.heap.nsMap mainGlobals) (s.heap.nsMap builtinsNs) s.heap := ⟨G00.T, G00.B, G00.D, G00.TE, G00.TD, G00.W, G00.X.1, G00.cls, G00.has, G00.apart, G00.once, G00.K⟩
  have RF := G00.X.2
  have hgens : s.gens = #[] := Array.eq_empty_of_size_eq_zero (beq_iff_eq.mp hgens)
  refine ⟨s₀, hf, hg0, s, hT, pin w s hg G0, RF.1, RF.2.1, ?_⟩
  have G : Ground q loose r.records XP w s _ _ s.heap := RF.ground G0
  refine callFrom_f (c := r.claim) (tree := fun vs => do match ← nsGet mainNs r.name with
      | some f => do ret (← PySem.call f vs)
      | none => unsupported "claim.caller:no-such-global") hz hgens fun args hpre hlay ord hord => ?_
  obtain ⟨⟨vs, s₁⟩, hlaid⟩ := Option.isSome_iff_exists.mp (layAllW_isSome (P := w.params) (ord := ord) G.has args r.args s (pre_splitW hpre).1)
  have keeps := layAllW_keeps _ _ _ hlaid
  have hal := layAllW_rest _ _ _ hlaid
  obtain ⟨as, hrd, hin, hold⟩ := reads_layAllW hord _ _ _ hlaid hlay s₁.heap (fun _ _ e => e)
  have L : Laid r.records w s s₁ args vs as := ⟨⟨ord, hord, hlaid⟩, hrd, hin, hold, keeps, hal.1.trans hgens, hal.2.2.1⟩
  have G₁ := G.keeps hXk keeps
  obtain ⟨f, hf', h⟩ := call w s s₁ _ _ G₁ (hYk _ _ _ (hY w s y) keeps) args vs as hpre hlay L G.low
  have hi := ident_freeW hu ha hap
  have hwi : r.claim.within = [] := List.isEmpty_iff.mp k6
  have hn : ∀ (v : Result) s', GoodWG r.claim (classAt s.heap) (ExcName.means s.heap) args s₁ v s' → r.claim.Ends s args vs s₁ v s' ∧ s'.os = s.os ∧ AllBare s'.gens ∧ (writes = true → namesKept r.prog kps s.heap s'.heap ∧ ∀ x ∈ r.claim.records, ∀ a, classAt s.heap x.1 = some a → recordClass s'.heap a x.1 (x.2.map (·.1)) = true) := fun v s' g => by
    have z := g.laid (c := r.claim) hsame hwi hi L
    exact ⟨z.1, z.2.1, z.2.2, fun q => ⟨namesKept_of hT hg kps keeps g.2.1.old, noTable hwr q⟩⟩
  refine ⟨vs, s₁, hlaid, wpF_bind (wpF_of (wpAny_nsGet G₁.T.g ?_))⟩
  rw [hf']
  exact wpF_bind (wpF_mono h (fun v s' g => wpF_pure ⟨_, rfl, hn _ _ g⟩) fun e s' g => hn _ _ g)

/-- the head of an open law over the asking model -/
theorem PySem.W.holds_open {r : OpenRow} {q : Program} {loose : List Str} {Xt : Shared → Bool} {XP : (Str → Option Value) → Heap → Prop} {α : Type} {Yf : Shared → α} {Ya : World → α} {YP : World → Heap → Prop} {d : DefRec} {kwd : List (Str × PySem.Expr)} {N : Nat}
    (left : LeftO r.prog q loose Xt Yf Ya N) (hY : ∀ w s, Yf s = Ya w → YP w s.heap) (hYk : ∀ w h h', YP w h → (∀ b o, h.get? b = some o → h'.get? b = some o) → YP w h')
    (hX : ∀ s, Xt s = true → XP (s.heap.nsMap mainGlobals) s.heap) (hXk : ∀ mg h h', XP mg h → (∀ b o, h.get? b = some o → h'.get? b = some o) → XP mg h')
    (hdef : defOf q r.name = some (d, kwd)) (hp : r.prog.theDef r.name = some (d.params, d.body, d.scope)) (hk : kwWritten? d.params.kwonlyargs d.params.kw_defaults = some kwd) (hRf : ∀ s, Xt s = true → RecFacts r.records s.heap) (hwr : (!r.writes || r.records.isEmpty) = true)
    (k1 : r.wellSaid = true) (ok : (chainsOk q && opensWell r.prog && (frees r.toRowW && r.within.isEmpty)) = true) (hb : r.prog.bare) (hw : r.toRowW.promised)
    (call : WalkF q loose XP YP r.toRowW d kwd) : r.Holds := by
  refine ⟨k1, hw, open_f (r := r.toRowW) left hY hYk hX hXk hRf hwr ok hb hw (fun w s hg G n hn => ?_) fun w s₀ s₁ mg mb G Y args vs as hpre hlay L low => ?_⟩
  · obtain rfl : n = r.name := by split at hn <;> simp_all
    exact pinned_of_view hg G hdef hp hk
  · obtain ⟨a, o, pm, cd, doc, dV, kV, h1, h2, h3, h4, h5⟩ := G.fn hdef
    exact ⟨.ref a, h1, call w s₀ s₁ mg mb G Y a o pm cd doc dV kV h2 h3 h4 h5 (defOf_name hdef ▸ h1) L.gens args vs as hpre hlay L.reads L.well (L.low low)⟩
set_option maxHeartbeats 0
open_top hd for PySem.Challenge.rw_et5023_01
end Mine

end
section
open PySem PySem.W PyProof.Rows
set_option Elab.async false
set_option maxRecDepth 100000
namespace Mine
theorem fmod_lo {a b : Int} (h : 0 < b) : 0 ≤ a.fmod b ∧ a.fmod b < b := ⟨Int.fmod_nonneg_of_pos a h, Int.fmod_lt_of_pos a h⟩
theorem News.of {h₀ h : Heap} {L : Addr} {l l' : List (Addr × Obj)} (N : News h₀ L h l) (hs : ∀ p ∈ l', p ∈ l) : News h₀ L h l' := fun p hp => N p (hs p hp)
/-- what is known of the state list -/
structure StOk (ns : List Int) (i sd : Int) : Prop where
  len : ns.length ≤ 60
  lo : 0 ≤ i
  hi : i ≤ ns.length
  slo : 0 ≤ sd
  shi : sd < 2147483647
def singL : List Str := [Str.ofString "+", Str.ofString "-", Str.ofString "*", Str.ofString "/", Str.ofString "|", Str.ofString "&", Str.ofString "^", Str.ofString "%", Str.ofString "<", Str.ofString ">", Str.ofString "="]
def doubL : List Str := [Str.ofString "==", Str.ofString "!=", Str.ofString "<=", Str.ofString ">=", Str.ofString "**", Str.ofString "//", Str.ofString ">>", Str.ofString "<<", Str.ofString "->", Str.ofString "+=", Str.ofString ":="]
end Mine
open PySem.Calls
namespace Mine
local macro_rules | `(tactic| k_all) => `(tactic| with_reducible assumption)
section
variable {w : World} {dp un : Nat} {gd : Option (List Code)} {cn : Str} {cs : Scope} {a : Addr} {ccd : Value} {cl : List (Str × Addr)} {outer : List Env} {A₀ : Around} {base h₀ : Heap} {L : Addr} {m : Str → Option Value} {rest news : List (Addr × Obj)} {s : Shared}
    {mean : ExcName → Option Value} {mg mb : Str → Option Value} {Q E : Value → Shared → Prop}
    {st ls : Addr} {vs : List Value} {ns : List Int} {i sd many : Int} {t1 t2 t3 : Tok} {n n' : Nat}
set_option maxHeartbeats 8000000 in
theorem next_spec (B : Below A₀ base outer h₀) (F : Fr h₀ L s.heap m) (X : (hd.heap_39 w.params).In h₀)
    (N : News h₀ L s.heap ((st, listOf [.ref ls, .int i t1, .int sd t2].toArray n) :: (ls, listOf vs.toArray n') :: rest))
    (hne : ls ≠ st) (hrest : ∀ p ∈ rest, p.1 ≠ st)
    (T : Top hd.view_39 (looseW hd.view_39 [Str.ofString "WHITESPACE_AFTER_COMMA_REGEX", Str.ofString "OPERATOR_REGEX"]) mean mg mb h₀)
    (hk : cs.kind = .function) (hv : IntsAre vs ns) (so : StOk ns i sd) (hm0 : 0 < many)
    (hdp : dp + 10 < recursionLimit)
    (ret : ∀ (r i' sd' : Int) (tr u1 u2 : Tok) (k : Nat) h' tk', Fr h₀ L h' m → News h₀ L h' ((st, listOf [.ref ls, .int i' u1, .int sd' u2].toArray k) :: (ls, listOf vs.toArray n') :: rest) →
      0 ≤ r → r < many → StOk ns i' sd' → Q (.int r tr) { s with heap := h', toks := tk' }) :
    wpAny (model Challenge.rw_et5023_01.row.prog w) (ktrTop dp un gd cn cs L a ccd cl outer) (call (.ref 62) [.ref st, .int many t3]) Q E s := by
  revert X; k_fill; intro X
  obtain ⟨hlen, hi0, hi1, hs0, hs1⟩ := so
  refine wpAny_call ?_
  k_dflt ktr_enter
  k_steps
  · refine ret _ _ _ _ _ _ _ _ _ (by assumption) (by assumption) (fmod_lo hm0).1 (fmod_lo hm0).2 ⟨hlen, by omega, by omega, (fmod_lo (by decide)).1, (fmod_lo (by decide)).2⟩
  · refine ret _ _ _ _ _ _ _ _ _ (by assumption) (by assumption) (fmod_lo hm0).1 (fmod_lo hm0).2 ⟨hlen, by omega, by omega, (fmod_lo (by decide)).1, (fmod_lo (by decide)).2⟩
set_option maxHeartbeats 8000000 in
theorem singles_spec (B : Below A₀ base outer h₀) (F : Fr h₀ L s.heap m) (X : (hd.heap_39 w.params).In h₀) (N : News h₀ L s.heap news)
    (T : Top hd.view_39 (looseW hd.view_39 [Str.ofString "WHITESPACE_AFTER_COMMA_REGEX", Str.ofString "OPERATOR_REGEX"]) mean mg mb h₀)
    (hk : cs.kind = .function) (hdp : dp + 10 < recursionLimit)
    (ret : ∀ x xs h' tk', StrsAre xs singL → Fr h₀ L h' m → News h₀ L h' ((x, listOf xs.toArray 0) :: news) → (∀ p ∈ news, p.1 < x) → Q (.ref x) { s with heap := h', toks := tk' }) :
    wpAny (model Challenge.rw_et5023_01.row.prog w) (ktrTop dp un gd cn cs L a ccd cl outer) (call (.ref 69) []) Q E s := by
  revert X; k_fill; intro X
  refine wpAny_call ?_
  k_dflt ktr_enter
  k_steps
  refine ret _ _ _ _ ?_ (by assumption) (by assumption) (by assumption)
  repeat (first | exact .nil | refine .cons _ _ ?_)
set_option maxHeartbeats 8000000 in
theorem doubles_spec (B : Below A₀ base outer h₀) (F : Fr h₀ L s.heap m) (X : (hd.heap_39 w.params).In h₀) (N : News h₀ L s.heap news)
    (T : Top hd.view_39 (looseW hd.view_39 [Str.ofString "WHITESPACE_AFTER_COMMA_REGEX", Str.ofString "OPERATOR_REGEX"]) mean mg mb h₀)
    (hk : cs.kind = .function) (hdp : dp + 10 < recursionLimit)
    (ret : ∀ x xs h' tk', StrsAre xs doubL → Fr h₀ L h' m → News h₀ L h' ((x, listOf xs.toArray 0) :: news) → (∀ p ∈ news, p.1 < x) → Q (.ref x) { s with heap := h', toks := tk' }) :
    wpAny (model Challenge.rw_et5023_01.row.prog w) (ktrTop dp un gd cn cs L a ccd cl outer) (call (.ref 76) []) Q E s := by
  revert X; k_fill; intro X
  refine wpAny_call ?_
  k_dflt ktr_enter
  k_steps
  refine ret _ _ _ _ ?_ (by assumption) (by assumption) (by assumption)
  repeat (first | exact .nil | refine .cons _ _ ?_)
end
end Mine

end
section
open PySem PySem.W PyProof.Rows
set_option Elab.async false
set_option maxRecDepth 100000
namespace Mine
/-- a goal laid aside -/
def Stop (p : Prop) : Prop := p
theorem Stop.out {p : Prop} (h : Stop p) : p := h
theorem Stop.mk {p : Prop} (h : p) : Stop p := h
theorem at0 {α : Type} { x : α} {r : List α} : (x :: r)[0]? = some x := rfl
theorem at1 {α : Type} {x0 x : α} {r : List α} : (x0 :: x :: r)[1]? = some x := rfl
theorem at2 {α : Type} {x0 x1 x : α} {r : List α} : (x0 :: x1 :: x :: r)[2]? = some x := rfl
theorem at3 {α : Type} {x0 x1 x2 x : α} {r : List α} : (x0 :: x1 :: x2 :: x :: r)[3]? = some x := rfl
theorem at4 {α : Type} {x0 x1 x2 x3 x : α} {r : List α} : (x0 :: x1 :: x2 :: x3 :: x :: r)[4]? = some x := rfl
theorem at5 {α : Type} {x0 x1 x2 x3 x4 x : α} {r : List α} : (x0 :: x1 :: x2 :: x3 :: x4 :: x :: r)[5]? = some x := rfl
theorem at6 {α : Type} {x0 x1 x2 x3 x4 x5 x : α} {r : List α} : (x0 :: x1 :: x2 :: x3 :: x4 :: x5 :: x :: r)[6]? = some x := rfl
theorem at7 {α : Type} {x0 x1 x2 x3 x4 x5 x6 x : α} {r : List α} : (x0 :: x1 :: x2 :: x3 :: x4 :: x5 :: x6 :: x :: r)[7]? = some x := rfl
theorem at8 {α : Type} {x0 x1 x2 x3 x4 x5 x6 x7 x : α} {r : List α} : (x0 :: x1 :: x2 :: x3 :: x4 :: x5 :: x6 :: x7 :: x :: r)[8]? = some x := rfl
theorem set_split {l : List (Addr × Obj)} {k : Nat} {d : Addr} {o o' : Obj} (h : l[k]? = some (d, o)) : ∃ pre post, l = pre ++ (d, o) :: post ∧ l.set k (d, o') = pre ++ (d, o') :: post ∧ l.eraseIdx k = pre ++ post := by
  induction l generalizing k with
  | nil => simp at h
  | cons x l ih =>
    cases k with
    | zero => simp at h; subst h; exact ⟨[], l, rfl, rfl, rfl⟩
    | succ k =>
      obtain ⟨pre, post, e1, e2, e3⟩ := ih (by simpa using h)
      exact ⟨x :: pre, post, by rw [e1]; rfl, by rw [List.set_cons_succ, e2]; rfl, by rw [List.eraseIdx_cons_succ, e3]; rfl⟩
end Mine
open PySem.Calls
namespace Mine
local macro_rules | `(tactic| k_all) => `(tactic| with_reducible assumption)
section
variable {w : World} {dp un : Nat} {gd : Option (List Code)} {cn : Str} {cs : Scope} {a : Addr} {ccd : Value} {cl : List (Str × Addr)} {outer : List Env} {A₀ : Around} {base h₀ : Heap} {L : Addr} {m : Str → Option Value} {rest news : List (Addr × Obj)} {s : Shared}
    {mean : ExcName → Option Value} {mg mb : Str → Option Value} {Q E : Value → Shared → Prop}
    {st ls : Addr} {vs : List Value} {ns : List Int} {i sd many : Int} {t1 t2 t3 : Tok} {n n' : Nat}
theorem next_hole {j : Nat} (B : Below A₀ base outer h₀) (F : Fr h₀ L s.heap m) (X : (hd.heap_39 w.params).In h₀)
    (N : News h₀ L s.heap news) (H : news[j]? = some (st, W.listOf [.ref ls, .int i t1, .int sd t2].toArray n)) (hap : ∀ p ∈ news.eraseIdx j, p.1 ≠ st) (hls : (ls, W.listOf vs.toArray n') ∈ news)
    (T : Top hd.view_39 (looseW hd.view_39 [Str.ofString "WHITESPACE_AFTER_COMMA_REGEX", Str.ofString "OPERATOR_REGEX"]) mean mg mb h₀)
    (hk : cs.kind = .function) (hv : IntsAre vs ns) (so : StOk ns i sd) (hm0 : 0 < many) (hdp : dp + 10 < recursionLimit)
    (ret : ∀ (r i' sd' : Int) (tr u1 u2 : Tok) (k : Nat) h' tk', Fr h₀ L h' m → News h₀ L h' (news.set j (st, W.listOf [.ref ls, .int i' u1, .int sd' u2].toArray k)) →
      0 ≤ r → r < many → StOk ns i' sd' → Q (.int r tr) { s with heap := h', toks := tk' }) :
    wpAny (model Challenge.rw_et5023_01.row.prog w) (ktrTop dp un gd cn cs L a ccd cl outer) (call (.ref 62) [.ref st, .int many t3]) Q E s := by
  obtain ⟨pre, post, e1, _, e3⟩ := set_split (o' := W.listOf [].toArray 0) H
  have hn : ∀ p ∈ pre ++ post, p.1 ≠ st := e3 ▸ hap
  have hls' : (ls, W.listOf vs.toArray n') ∈ pre ++ post := by
    rw [e1] at hls
    rcases List.mem_append.mp hls with h | h
    · exact List.mem_append.mpr (.inl h)
    · rcases List.mem_cons.mp h with h | h
      · exfalso
        have e := congrArg (fun p => p.2.data) h
        simp only [W.listOf, Data.seq.injEq] at e
        have e2 := congrArg Array.toList e.1
        simp only [] at e2
        rw [e2] at hv
        cases hv
      · exact List.mem_append.mpr (.inr h)
  refine next_spec (rest := pre ++ post) (st := st) (ls := ls) (n := n) (n' := n') (t1 := t1) (t2 := t2) B F X (News.of N fun p hp => ?_) (hn _ hls') hn T hk hv so hm0 hdp fun r i' sd' tr u1 u2 k h' tk' F' N' r0 r1 so' => ret r i' sd' tr u1 u2 k h' tk' F' ?_ r0 r1 so'
  · rw [e1]
    rcases List.mem_cons.mp hp with rfl | hp
    · simp
    · rcases List.mem_cons.mp hp with rfl | hp
      · exact e1 ▸ hls
      · rcases List.mem_append.mp hp with h | h <;> simp [h]
  · obtain ⟨pre', post', f1, f2, f3⟩ := set_split (o' := W.listOf [.ref ls, .int i' u1, .int sd' u2].toArray k) H
    rw [f2]
    have hpp : ∀ q, q ∈ pre' ++ post' ↔ q ∈ pre ++ post := fun q => by rw [← f3, e3]
    refine News.of N' fun p hp => ?_
    have h2 : p = (st, W.listOf [.ref ls, .int i' u1, .int sd' u2].toArray k) ∨ p ∈ pre' ++ post' := by
      rcases List.mem_append.mp hp with h | h
      · exact .inr (List.mem_append.mpr (.inl h))
      · rcases List.mem_cons.mp h with h | h
        · exact .inl h
        · exact .inr (List.mem_append.mpr (.inr h))
    rcases h2 with rfl | h
    · simp
    · exact List.mem_cons_of_mem _ (List.mem_cons_of_mem _ ((hpp p).mp h))
end
end Mine

end
section
open PySem PySem.W PyProof.Rows
set_option Elab.async false
set_option maxRecDepth 100000
namespace Mine
def nameL : List Str := [Str.ofString "a", Str.ofString "bc", Str.ofString "12", Str.ofString ")", Str.ofString "]", Str.ofString "(", Str.ofString "["]
def sepL : List Str := [Str.ofString ",", Str.ofString ",", Str.ofString ";", Str.ofString ":"]
def gapL : List Str := [Str.ofString "", Str.ofString "", Str.ofString " ", Str.ofString " ", Str.ofString "  ", Str.ofString "   ", Str.ofString "\t", Str.ofString " \t", Str.ofString "\t "]
def pieceL : List Str := nameL ++ singL ++ doubL ++ sepL
def isD (p : Str) : Bool := doubL.any (· == p)
def isS (p : Str) : Bool := singL.any (· == p)
def isOp (p : Str) : Bool := isD p || isS p
/-- an operator may take what stands ahead of it -/
def freeB (P : List Str) (k : Int) : Bool := match P.getLast? with
  | some q => !(q == Str.ofString ",") && !(k == (P.length : Int) - 1)
  | none => false
/-- what must not touch an operator -/
def stiff (q : Str) : Bool := q == Str.ofString ":" || isS q || isD q
inductive RowP : List Str → List Str → Int → Prop
  | nil : RowP [] [] (-1)
  | snoc {P G : List Str} {k : Int} {p g : Str} : RowP P G k → p ∈ pieceL → g ∈ gapL → (P = [] → g = Str.ofString "") → (isD p = true → freeB P k = true) →
      (isOp p = true → g = Str.ofString "" → ∀ q, P.getLast? = some q → stiff q = false) →
      RowP (P ++ [p]) (G ++ [g]) (if isOp p && freeB P k then (P.length : Int) else k)
theorem RowP.len {P G : List Str} {k : Int} (h : RowP P G k) : G.length = P.length := by
  induction h with
  | nil => rfl
  | snoc _ _ _ _ _ _ ih => simp [ih]
theorem RowP.rng {P G : List Str} {k : Int} (h : RowP P G k) : -1 ≤ k ∧ k < P.length ∨ P = [] ∧ k = -1 := by
  induction h with
  | nil => exact .inr ⟨rfl, rfl⟩
  | @snoc P G k p g _ _ _ _ _ _ ih =>
    left
    simp only [List.length_append, List.length_cons, List.length_nil]
    split
    · omega
    · rcases ih with ih | ⟨rfl, rfl⟩
      · omega
      · simp
theorem getD_mem {α : Type} {l : List α} {k : Int} {d : α} (h0 : 0 ≤ k) (h : k < (l.length : Int)) : l.getD k.toNat d ∈ l := by
  rw [List.getD_eq_getElem?_getD, List.getElem?_eq_getElem (by omega)]
  exact List.getElem_mem _
theorem last_eq {P : List Str} (h : 0 < P.length) : P.getLast? = some (P.getD (-1 + (P.length : Int)).toNat Str.empty) := by
  rw [List.getLast?_eq_getElem?, List.getD_eq_getElem?_getD, show (-1 + (P.length : Int)).toNat = P.length - 1 by omega, List.getElem?_eq_getElem (by omega)]
  rfl
theorem freeB_eq {P : List Str} {k : Int} (h : 0 < P.length) : freeB P k = ((P.getD (-1 + (P.length : Int)).toNat Str.empty != Str.ofString ",") && (k != (P.length : Int) - 1)) := by
  unfold freeB
  rw [last_eq h]
  rfl
theorem singL_len : singL.length = 11 := rfl
theorem doubL_len : doubL.length = 11 := rfl
theorem StrsAre.snoc {vs : List Value} {ws : List Str} (h : StrsAre vs ws) (w : Str) (t : Tok) : StrsAre (vs ++ [.str w t]) (ws ++ [w]) := by
  induction h with
  | nil => exact .cons _ _ .nil
  | cons a b _ ih => exact .cons a b ih
theorem allLt_in {d : Addr} : ∀ {l : List (Addr × Obj)}, AllLt d l → ∀ p ∈ l, p.1 < d
  | [], _ => fun _ h => nomatch h
  | _ :: _, h => fun p hp => by
    rcases List.mem_cons.mp hp with rfl | hp
    · exact h.1
    · exact allLt_in h.2 p hp
theorem allLt_ne {d : Addr} {l : List (Addr × Obj)} (h : AllLt d l) : ∀ p ∈ l, p.1 ≠ d := fun p hp => Nat.ne_of_lt (allLt_in h p hp)
/-- a goal cut behind a statement -/
theorem cutFN {M : Model} {A : Around} {s : Shared} {env : Env} {st : Stmt} {rest : List Stmt} {Q : Flow → Shared → Prop} {E : Value → Shared → Prop} {h₀ : Heap} {L : Addr} {m : Str → Option Value} {news : List (Addr × Obj)} (_F : Fr h₀ L s.heap m) (_N : News h₀ L s.heap news)
    (PP : (Heap → (Str → Option Value) → Prop) → (Heap → List (Addr × Obj) → Prop) → (Str → Option Value) → List (Addr × Obj) → Heap → Prop)
    (h1 : wpAny M A (exec st env) (fun f s' => Stop (f = .next ∧ ∃ h' tk', s' = { s with heap := h', toks := tk' } ∧ PP (Fr h₀ L) (News h₀ L) m news h')) E s)
    (h2 : ∀ h' tk', PP (Fr h₀ L) (News h₀ L) m news h' → wpAny M A (execs rest env) Q E { s with heap := h', toks := tk' }) : wpAny M A (execs (st :: rest) env) Q E s := by
  refine wpAny_execs_cons (wpAny_mono h1 (fun f s' h => ?_) fun _ _ x => x)
  obtain ⟨rfl, h', tk', rfl, hp⟩ := h
  exact h2 h' tk' hp
theorem Fr.congr {h₀ h : Heap} {L : Addr} {m m' : Str → Option Value} (F : Fr h₀ L h m) (e : ∀ y, m' y = m y) : Fr h₀ L h m' := by
  have : m' = m := funext e
  rw [this]; exact F

theorem lookup1 {β : Type} (y a : Str) (v : β) : List.lookup y [(a, v)] = if y = a then some v else none := by
  simp only [List.lookup]
  by_cases h : y = a
  · subst h; simp
  · have e : (y == a) = false := beq_eq_false_iff_ne.mpr h
    rw [e, if_neg h]

structure RS where
  (P G : List Str)
  kl : Int
  tkl : Tok
  (vp vg : List Value)
  (np ng : Nat)
  (i sd : Int)
  (u1 u2 : Tok)
  k : Nat
structure RSOk (ns : List Int) (c : RS) : Prop where
  p : StrsAre c.vp c.P
  g : StrsAre c.vg c.G
  st : StOk ns c.i c.sd
  row : RowP c.P c.G c.kl
def rsLed (sp pi ga xd xs st ls : Addr) (go dob so : Obj) (more : List (Addr × Obj)) (c : RS) : List (Addr × Obj) :=
  (sp, W.listOf c.vg.toArray c.ng) :: (pi, W.listOf c.vp.toArray c.np) :: (ga, go) :: (xd, dob) :: (xs, so) :: (st, W.listOf [.ref ls, .int c.i c.u1, .int c.sd c.u2].toArray c.k) :: more
def rsPs (c : RS) : List (Str × Value) := [(Str.ofString "looked", .int c.kl c.tkl)]
def rsTemps : List Str := [Str.ofString "form", Str.ofString "piece", Str.ofString "gap", Str.ofString "free", Str.ofString "operator"]
abbrev RowEnd (h₀ : Heap) (env : Env) (sp pi ga xd xs st ls : Addr) (go dob so : Obj) (more : List (Addr × Obj)) (ns : List Int) (m₀ : Str → Option Value) (pre : List Int) (at_ : Int) (own : List (Addr × Obj)) (s : Shared) (Q : Flow → Shared → Prop) : Flow → Shared → Prop :=
  InvPostN h₀ env.locals (KstS (rsLed sp pi ga xd xs st ls go dob so more) rsPs (RSOk ns) (Str.ofString "at") rsTemps m₀ (fun pre c => c.P.length = pre.length) (pre ++ [at_])) own (sp :: pi :: ga :: xd :: xs :: st :: more.map (·.1)) s Q
section
variable {prog : Program} {w : World} {A : Around} {E : Value → Shared → Prop} {s : Shared} {env : Env} {h₀ : Heap} {body : List Stmt} {Q : Flow → Shared → Prop}
/-- the loop of _law_row -/
theorem row_rule {r : Addr} {b₀ : Int} {t₀ u₀ v₀ : Tok} {m₀ : Str → Option Value} {sp pi ga xd xs st ls : Addr} {go dob so : Obj} {more : List (Addr × Obj)} {ns : List Int} {i sd : Int} {u1 u2 tl : Tok} {k : Nat}
    (hh : A.handled = none) (hr : IsRange s.heap r 0 b₀ 1 t₀ u₀ v₀) (hn : 0 ≤ b₀) (hn2 : b₀ ≤ 100) (F : Fr h₀ env.locals s.heap m₀)
    (N : News h₀ env.locals s.heap ((sp, W.listOf #[] 0) :: (pi, W.listOf #[] 0) :: (ga, go) :: (xd, dob) :: (xs, so) :: (st, W.listOf [.ref ls, .int i u1, .int sd u2].toArray k) :: more)) (sok : StOk ns i sd) (hsp : ∀ p ∈ more, p.1 ≠ sp) (hpi : ∀ p ∈ more, p.1 ≠ pi) (hst0 : ∀ p ∈ more, p.1 ≠ st) (hl : m₀ (Str.ofString "looked") = some (.int (-1) tl))
    (turn : ∀ (c : RS) (pre : List Int) (at_ : Int) t (u : Str → Option Value) h tk own, at_ = c.P.length → at_ < b₀ → (∀ p ∈ more ++ own, p.1 ≠ sp) → (∀ p ∈ more ++ own, p.1 ≠ pi) → (∀ p ∈ more ++ own, p.1 ≠ st) → RSOk ns c → c.P.length = pre.length →
      Fr h₀ env.locals h (fun y => if y = Str.ofString "at" then some (.int at_ t) else if y = Str.ofString "looked" then some (.int c.kl c.tkl) else if rsTemps.contains y then u y else m₀ y) →
      News h₀ env.locals h ((sp, W.listOf c.vg.toArray c.ng) :: (pi, W.listOf c.vp.toArray c.np) :: (ga, go) :: (xd, dob) :: (xs, so) :: (st, W.listOf [.ref ls, .int c.i c.u1, .int c.sd c.u2].toArray c.k) :: (more ++ own)) →
      wpAny (model prog w) A (execs body env) (RowEnd h₀ env sp pi ga xd xs st ls go dob so more ns m₀ pre at_ own { s with heap := h, toks := tk } Q) E { s with heap := h, toks := tk })
    (done : ∀ (c : RS) (u : Str → Option Value) h tk, RSOk ns c → (c.P.length : Int) = b₀ →
      Fr h₀ env.locals h (fun y => if y = Str.ofString "at" then u y else if y = Str.ofString "looked" then some (.int c.kl c.tkl) else if rsTemps.contains y then u y else m₀ y) →
      News h₀ env.locals h ((sp, W.listOf c.vg.toArray c.ng) :: (pi, W.listOf c.vp.toArray c.np) :: (ga, go) :: (xd, dob) :: (xs, so) :: (st, W.listOf [.ref ls, .int c.i c.u1, .int c.sd c.u2].toArray c.k) :: more) → Q .next { s with heap := h, toks := tk }) :
    wpAny (model prog w) A (pyIter (.ref r)) (fun it s₂ => LoopAtV prog w A h₀ env (Str.ofString "at") body Q E it s₂) E s := by
  have hsz : Builtin.Range.rangeSize 0 b₀ 1 = ((b₀.toNat : Nat) : Int) := by
    rw [PySem.rangeSize_one]
    split <;> omega
  have hsm : Builtin.Range.small 0 b₀ 1 = true := small_one (by decide) (by decide) (by omega) (by omega)
  refine kst_range (σ := RS) (rsLed sp pi ga xd xs st ls go dob so more) rsPs (RSOk ns) rsTemps (fun pre c => c.P.length = pre.length) ⟨[], [], -1, tl, [], [], 0, 0, i, sd, u1, u2, k⟩ hh hr hsm hsz F N ⟨.nil, .nil, sok, .nil⟩ ?_ rfl ?_ ?_
  · intro p hp
    rw [List.mem_singleton.mp hp]
    exact hl
  · intro c pre at_ t u h tk own e hlt hoff hf hp F' N'
    have off : ∀ {d : Addr}, (∀ p ∈ more, p.1 ≠ d) → d ∈ sp :: pi :: ga :: xd :: xs :: st :: more.map (·.1) → ∀ p ∈ more ++ own, p.1 ≠ d := by
      intro d h1 h2 p hp
      rcases List.mem_append.mp hp with h | h
      · exact h1 p h
      · exact hoff p h d h2
    exact turn c pre at_ t u h tk own (by rw [e, hp]; omega) (by omega) (off hsp (by simp)) (off hpi (by simp)) (off hst0 (by simp)) hf hp F' N'
  · intro c u h tk hf hp F' N'
    exact done c u h tk hf (by rw [hp, rangeKs_length]; omega) F' N'
end
theorem append_hole {prog : Program} {w : World} {A : Around} {E : Value → Shared → Prop} {s : Shared} {h₀ : Heap} {L D : Addr} {m : Str → Option Value} {news : List (Addr × Obj)} {j : Nat} {its : Array Value} {n : Nat} {x : Value} {Q : Value → Shared → Prop} (F : Fr h₀ L s.heap m) (N : News h₀ L s.heap news) (H : news[j]? = some (D, W.listOf its n)) (hap : ∀ p ∈ news.eraseIdx j, p.1 ≠ D)
    (h : ∀ h', Fr h₀ L h' m → News h₀ L h' (news.set j (D, W.listOf (its.push x) (n + 1))) → Q .none { s with heap := h' }) (hsz : its.size ≤ sizeLine) : wpAny (model prog w) A (call (.builtin "list.append") [.ref D, x]) Q E s := by
  obtain ⟨pre, post, e1, e2, e3⟩ := set_split (o' := W.listOf (its.push x) (n + 1)) H
  rw [e3] at hap
  have U : ∀ (l : List (Addr × Obj)), (∀ p ∈ l, p.1 ≠ D) → Upd D (W.listOf its n) (W.listOf (its.push x) (n + 1)) (l ++ (D, W.listOf its n) :: post) (l ++ (D, W.listOf (its.push x) (n + 1)) :: post) := by
    intro l hl
    induction l with
    | nil => exact .head fun p hp => hap p (List.mem_append_right _ hp)
    | cons a l ih => exact .tail (hl a (.head _)) (ih fun p hp => hl p (.tail _ hp))
  have U2 := U pre fun p hp => hap p (List.mem_append_left _ hp)
  rw [← e1, ← e2] at U2
  exact append_K (D := D) (its := its) (n := n) F N U2 h (by exact hsz)
theorem row_pick {h₀ h : Heap} {L : Addr} {p1 p2 p3 p4 p5 p6 p7 p8 p9 p10 : Addr × Obj} {rest : List (Addr × Obj)} (N : News h₀ L h (p1 :: p2 :: p3 :: p4 :: p5 :: p6 :: p7 :: p8 :: p9 :: p10 :: rest)) : News h₀ L h (p1 :: p2 :: p5 :: p9 :: p10 :: rest) := by
  refine News.of N fun p hp => ?_
  simp only [List.mem_cons] at hp ⊢
  rcases hp with h | h | h | h | h | h
  · exact .inl h
  · exact .inr (.inl h)
  · exact .inr (.inr (.inr (.inr (.inl h))))
  · exact .inr (.inr (.inr (.inr (.inr (.inr (.inr (.inr (.inl h))))))))
  · exact .inr (.inr (.inr (.inr (.inr (.inr (.inr (.inr (.inr (.inl h)))))))))
  · exact .inr (.inr (.inr (.inr (.inr (.inr (.inr (.inr (.inr (.inr h)))))))))
theorem temps_no {z : Str} (h : rsTemps.contains z = false) : z ≠ Str.ofString "form" ∧ z ≠ Str.ofString "piece" ∧ z ≠ Str.ofString "gap" ∧ z ≠ Str.ofString "free" ∧ z ≠ Str.ofString "operator" := by
  have hm : z ∉ rsTemps := by
    intro hz
    rw [List.contains_eq_mem] at h
    simp [hz] at h
  simp only [rsTemps, List.mem_cons, List.not_mem_nil, or_false, not_or] at hm
  exact hm
end Mine
open PySem.Calls
namespace Mine
local macro_rules | `(tactic| k_all) => `(tactic| with_reducible assumption)
local macro_rules | `(tactic| k_all) => `(tactic| (with_reducible apply allLt_ne; with_reducible assumption))
local macro_rules | `(tactic| walk_at "pyIter ref") => `(tactic| (k_here; refine Mine.Stop.out ?_))
local macro_rules | `(tactic| walk_at "call ref") => `(tactic| (k_here; k_dflt (refine' next_hole ?B ?F ?X ?N ?H ?ap ?ls ?T ?k ?v ?so ?m0 ?dp ?_; (case B => k_asm); (case F => k_asm); (case X => k_asm); (case T => k_asm); (case N => k_asm); (case H => first | exact at0 | exact at1 | exact at2 | exact at3 | exact at4 | exact at5 | exact at6 | exact at7 | exact at8); (case ap => ((simp only [List.eraseIdx_cons_succ, List.eraseIdx_cons_zero]); k_all)); (case ls => k_mem); (case k => first | rfl | assumption); (case v => assumption); (case so => assumption); (case m0 => decide); (case dp => ktr_room); k_whole); intro r' i' sd' tr' u1' u2' k' h' tk' F' N' r0' r1' so'; (try simp only [List.set_cons_succ, List.set_cons_zero] at N')))
local macro_rules | `(tactic| walk_at "call ref") => `(tactic| (k_here; k_dflt (refine' singles_spec ?B ?F ?X ?N ?T ?k ?dp ?_; (case B => k_asm); (case F => k_asm); (case X => k_asm); (case T => k_asm); (case N => assumption); (case k => first | rfl | assumption); (case dp => ktr_room); k_whole); intro x' xs' h' tk' xs1' F' N' l1'; (try k_lt l1')))
local macro_rules | `(tactic| walk_at "call ref") => `(tactic| (k_here; k_dflt (refine' doubles_spec ?B ?F ?X ?N ?T ?k ?dp ?_; (case B => k_asm); (case F => k_asm); (case X => k_asm); (case T => k_asm); (case N => assumption); (case k => first | rfl | assumption); (case dp => ktr_room); k_whole); intro x' xs' h' tk' xs1' F' N' l1'; (try k_lt l1')))
local macro_rules | `(tactic| walk_at "binaryOp Add ref ref") => `(tactic| (k_here; (with_reducible show wpAny _ _ (binaryOp _ (Value.ref _) (Value.ref _)) _ _ _); k_dflt (refine' kmk_add_lit ?F ?N ?a ?b ?e ?_ ?z; (case F => k_asm); (case N => k_asm); (case a => exact News.isList (by k_asm) (by k_mem)); (case b => exact News.isList (by k_asm) (by k_mem)); (case e => rfl); (case z => (simp only [List.length_cons, List.length_nil, sizeLine_eq]; omega))); intro D' h' F' N' l1; (try k_lt l1)))
local macro_rules | `(tactic| walk_at "call builtin:list.append") => `(tactic| (k_here; k_dflt (refine' append_hole ?F ?N ?H ?ap ?_ ?z; (case F => k_asm); (case N => k_asm); (case H => first | exact at0 | exact at1 | exact at2 | exact at3 | exact at4 | exact at5 | exact at6 | exact at7 | exact at8); (case ap => ((simp only [List.eraseIdx_cons_succ, List.eraseIdx_cons_zero]); k_all)); (case z => assumption); k_whole); intro h' F' N'; (try simp only [List.set_cons_succ, List.set_cons_zero] at N')))
local macro_rules | `(tactic| walk_at "subscriptTail") => `(tactic| (k_here; (with_reducible show wpAny _ _ (subscriptTail _ _ (Value.ref _) (Value.int _ _)) _ _ _); k_dflt (refine' KTb.item_list ?ktbl ?ktbw ?ktb0 ?ktb1 ?ktbf ?_; (case ktbl => exact News.isList (by k_asm) (by k_mem)); (case ktbw => first | assumption | (repeat constructor)); (case ktb0 => omega); (case ktb1 => ((try simp only [List.length_cons, List.length_nil, singL_len, doubL_len]); omega)); (case ktbf => omega)); intro tI' ltI'))
section
variable {w : World} {dp un : Nat} {gd : Option (List Code)} {cn : Str} {cs : Scope} {a : Addr} {ccd : Value} {cl : List (Str × Addr)} {outer : List Env} {A₀ : Around} {base h₀ : Heap} {L : Addr} {m : Str → Option Value} {rest news : List (Addr × Obj)} {s : Shared}
    {mean : ExcName → Option Value} {mg mb : Str → Option Value} {Q E : Value → Shared → Prop}
    {st ls : Addr} {vs : List Value} {ns : List Int} {i sd many : Int} {t1 t2 t3 : Tok} {n n' : Nat}
set_option pp.maxSteps 2000
set_option maxHeartbeats 8000000 in
theorem row_spec (B : Below A₀ base outer h₀) (F : Fr h₀ L s.heap m) (X : (hd.heap_39 w.params).In h₀)
    (N : News h₀ L s.heap ((st, W.listOf [.ref ls, .int i t1, .int sd t2].toArray n) :: (ls, W.listOf vs.toArray n') :: rest))
    (hne : ls ≠ st) (hrest : ∀ p ∈ rest, p.1 ≠ st)
    (T : Top hd.view_39 (looseW hd.view_39 [Str.ofString "WHITESPACE_AFTER_COMMA_REGEX", Str.ofString "OPERATOR_REGEX"]) mean mg mb h₀)
    (hk : cs.kind = .function) (hv : IntsAre vs ns) (so : StOk ns i sd)
    (hdp : dp + 20 < recursionLimit)
    (ret : ∀ (P G : List Str) (k : Int) (g : Str) (i' sd' : Int) (u1 u2 : Tok) (kk : Nat) (tup pi sp : Addr) (vp vg : List Value) (np : Nat) h' tk', RowP P G k → 2 ≤ P.length → P.length ≤ 10 → g ∈ gapL → StrsAre vp P → StrsAre vg (G ++ [g]) → StOk ns i' sd' → Fr h₀ L h' m →
      News h₀ L h' ((tup, { cls := .type "tuple", data := .seq #[.ref pi, .ref sp] }) :: (sp, W.listOf vg.toArray 0) :: (pi, W.listOf vp.toArray np) :: (st, W.listOf [.ref ls, .int i' u1, .int sd' u2].toArray kk) :: (ls, W.listOf vs.toArray n') :: rest) →
      (st < pi ∧ ls < pi ∧ AllLt pi rest) → (pi < sp ∧ st < sp ∧ ls < sp ∧ AllLt sp rest) → (sp < tup ∧ pi < tup ∧ st < tup ∧ ls < tup ∧ AllLt tup rest) → Q (.ref tup) { s with heap := h', toks := tk' }) :
    wpAny (model Challenge.rw_et5023_01.row.prog w) (ktrTop dp un gd cn cs L a ccd cl outer) (call (.ref 83) [.ref st]) Q E s := by
  revert X; k_fill; intro X
  refine wpAny_call ?_
  k_dflt ktr_enter
  (rename Fr _ _ _ (fun _ => _) => F9)
  replace F9 := Fr.congr F9 (m' := fun y => if y = Str.ofString "state" then some (.ref st) else none) (fun y => (lookup1 y _ _).symm)
  k_steps
  refine Stop.mk ?_
  repeat (rename _ ∧ _ => hZ; obtain ⟨hZ1, hZ2⟩ := hZ)
  k_dflt (refine' row_rule ?hh ?hr ?hn ?hn2 ?F ?N ?so ?hsp ?hpi ?hst0 ?hl ?turn ?done; (case hh => exact rfl); (case hr => assumption); (case hn => omega); (case hn2 => omega); (case F => assumption); (case N => assumption); (case so => assumption); (case hsp => k_all); (case hpi => k_all); (case hst0 => k_all); (case hl => rfl))
  case turn =>
    intro c pre at_ t u h tk own hat hlt hsp hpi hsm hok hpre F1 N1
    obtain ⟨hp, hg, hst, hrow⟩ := hok
    simp only [List.cons_append] at N1 hsp hpi hsm
    have hsp1 := fun p hp => hsp p (.tail _ hp)
    have hpi1 := fun p hp => hpi p (.tail _ hp)
    have hsm1 := fun p hp => hsm p (.tail _ hp)
    have hzp : c.vp.toArray.size ≤ sizeLine := by
      rw [List.size_toArray, hp.length, sizeLine_eq]; omega
    have hzg : c.vg.toArray.size ≤ sizeLine := by
      rw [List.size_toArray, hg.length, hrow.len, sizeLine_eq]; omega
    refine cutFN F1 N1 (fun FR NE m news h' => ∃ r tr i' sd' u1' u2' k', FR h' (fun y => if y = Str.ofString "form" then some (.int r tr) else m y) ∧ NE h' (news.set 5 (st, W.listOf [.ref ls, .int i' u1', .int sd' u2'].toArray k')) ∧ 0 ≤ r ∧ r < 5 ∧ StOk ns i' sd') ?_ ?_
    · k_steps
      exact ⟨by first | rfl | trivial, _, _, rfl, _, _, _, _, _, _, _, by assumption, by assumption, by assumption, by assumption, by assumption⟩
    intro h1 tk1 ⟨r, tr, i1, sd1, u11, u21, k1, F2, N2, hr0, hr5, hst1⟩
    (with_reducible show wpAny _ _ _ _ _ ⟨h1, s.gens, s.drawn, tk1, s.os⟩)
    simp only [List.set_cons_succ, List.set_cons_zero] at N2
    clear F1 N1
    refine cutFN F2 N2 (fun FR NE m news h' => ∃ p tp i' sd' u1' u2' k', FR h' (fun y => if y = Str.ofString "piece" then some (.str p tp) else m y) ∧ NE h' (news.set 5 (st, W.listOf [.ref ls, .int i' u1', .int sd' u2'].toArray k')) ∧ p ∈ pieceL ∧ StOk ns i' sd') ?_ ?_
    · k_steps
      · refine ⟨by first | rfl | trivial, _, _, rfl, _, _, _, _, _, _, _, by assumption, News.of (by assumption) (fun p hp => .tail _ hp), ?_, by assumption⟩
        exact List.mem_append_left _ (List.mem_append_left _ (List.mem_append_left _ (getD_mem (by assumption) (by assumption))))
      · refine ⟨by first | rfl | trivial, _, _, rfl, _, _, _, _, _, _, _, by assumption, by assumption, ?_, by assumption⟩
        exact List.mem_append_left _ (List.mem_append_left _ (List.mem_append_right _ (getD_mem (by assumption) (by assumption))))
      · refine ⟨by first | rfl | trivial, _, _, rfl, _, _, _, _, _, _, _, by assumption, by assumption, ?_, by assumption⟩
        exact List.mem_append_left _ (List.mem_append_right _ (getD_mem (by assumption) (by assumption)))
      · refine ⟨by first | rfl | trivial, _, _, rfl, _, _, _, _, _, _, _, by assumption, News.of (by assumption) (fun p hp => .tail _ hp), ?_, by assumption⟩
        exact List.mem_append_right _ (getD_mem (by assumption) (by assumption))
    intro h2 tk2 ⟨p, tp, i2, sd2, u12, u22, k2, F3, N3, hpL, hst2⟩
    (with_reducible show wpAny _ _ _ _ _ ⟨h2, s.gens, s.drawn, tk2, s.os⟩)
    simp only [List.set_cons_succ, List.set_cons_zero] at N3
    clear F2 N2
    refine cutFN F3 N3 (fun FR NE m news h' => ∃ g tg i' sd' u1' u2' k', FR h' (fun y => if y = Str.ofString "gap" then some (.str g tg) else m y) ∧ NE h' (news.set 5 (st, W.listOf [.ref ls, .int i' u1', .int sd' u2'].toArray k')) ∧ g ∈ gapL ∧ (at_ = 0 → g = Str.ofString "") ∧ StOk ns i' sd') ?_ ?_
    · k_steps
      · exact ⟨by first | rfl | trivial, _, _, rfl, _, _, _, _, _, _, _, by assumption, by assumption, .head _, fun _ => rfl, by assumption⟩
      · refine ⟨by first | rfl | trivial, _, _, rfl, _, _, _, _, _, _, _, by assumption, by assumption, ?_, fun e => absurd e (by assumption), by assumption⟩
        exact getD_mem (l := gapL) (by assumption) (by assumption)
    intro h3 tk3 ⟨g, tg, i3, sd3, u13, u23, k3, F4, N4, hgL, hg0, hst3⟩
    (with_reducible show wpAny _ _ _ _ _ ⟨h3, s.gens, s.drawn, tk3, s.os⟩)
    simp only [List.set_cons_succ, List.set_cons_zero] at N4
    clear F3 N3
    refine cutFN F4 N4 (fun FR NE m news h' => FR h' (fun y => if y = Str.ofString "free" then some (.bool (freeB c.P c.kl)) else m y) ∧ NE h' news) ?_ ?_
    · k_steps
      · refine ⟨by first | rfl | trivial, _, _, rfl, ?_, by assumption⟩
        rw [freeB_eq (by omega), (by assumption : (c.P.getD (-1 + (c.P.length : Int)).toNat Str.empty != Str.ofString ",") = true), ← hat, Bool.true_and]
        assumption
      · refine ⟨by first | rfl | trivial, _, _, rfl, ?_, by assumption⟩
        rw [freeB_eq (by omega)]
        (rename (c.P.getD (-1 + (c.P.length : Int)).toNat Str.empty != Str.ofString ",") = false => hcom)
        (rename Fr _ _ _ _ => FX)
        rw [hcom] at FX ⊢
        rw [Bool.false_and]
        exact FX
      · refine ⟨by first | rfl | trivial, _, _, rfl, ?_, by assumption⟩
        have hP : c.P = [] := List.eq_nil_of_length_eq_zero (by omega)
        (rename Fr _ _ _ _ => FX)
        rw [decide_eq_false (by omega)] at FX
        rw [hP]
        exact FX
    intro h4 tk4 ⟨F5, N5⟩
    (with_reducible show wpAny _ _ _ _ _ ⟨h4, s.gens, s.drawn, tk4, s.os⟩)
    clear F4 N4
    refine cutFN F5 N5 (fun FR NE m news h' => ∃ q tp', q = (if isD p && !freeB c.P c.kl then Str.ofString "+" else p) ∧ FR h' (fun y => if y = Str.ofString "piece" then some (.str q tp') else m y) ∧ NE h' news) ?_ ?_
    · k_steps
      · (rename (doubL.any fun x => x == p) = true => hd1)
        (rename freeB c.P c.kl = true => hf1)
        refine ⟨by first | rfl | trivial, _, _, rfl, p, tp, ?_, Fr.congr (by assumption) (fun y => ?_), by assumption⟩
        · rw [hf1, Bool.not_true, Bool.and_false]; rfl
        · by_cases hy : y = Str.ofString "piece"
          · subst hy; rfl
          · rw [if_neg hy]
      · (rename (doubL.any fun x => x == p) = true => hd1)
        (rename freeB c.P c.kl = false => hf1)
        refine ⟨by first | rfl | trivial, _, _, rfl, _, _, ?_, by assumption, by assumption⟩
        rw [hf1, show isD p = true from hd1]; rfl
      · (rename (doubL.any fun x => x == p) = false => hd1)
        refine ⟨by first | rfl | trivial, _, _, rfl, p, tp, ?_, Fr.congr (by assumption) (fun y => ?_), by assumption⟩
        · rw [show isD p = false from hd1]; rfl
        · by_cases hy : y = Str.ofString "piece"
          · subst hy; rfl
          · rw [if_neg hy]
    intro h5 tk5 ⟨q, tp', hq, F6, N6⟩
    (with_reducible show wpAny _ _ _ _ _ ⟨h5, s.gens, s.drawn, tk5, s.os⟩)
    clear F5 N5
    refine cutFN F6 N6 (fun FR NE m news h' => FR h' (fun y => if y = Str.ofString "operator" then some (.bool (isOp q)) else m y) ∧ NE h' news) ?_ ?_
    · k_steps
      · (rename (doubL.any fun x => x == q) = true => hd1)
        refine ⟨by first | rfl | trivial, _, _, rfl, ?_, by assumption⟩
        (rename Fr _ _ _ _ => FX)
        rw [hd1] at FX
        rw [show isOp q = true by unfold isOp; rw [show isD q = true from hd1]; rfl]
        exact FX
      · (rename (doubL.any fun x => x == q) = false => hd1)
        refine ⟨by first | rfl | trivial, _, _, rfl, ?_, by assumption⟩
        rw [show isOp q = isS q by unfold isOp; rw [show isD q = false from hd1]; rfl]
        assumption
    intro h6 tk6 ⟨F7, N7⟩
    (with_reducible show wpAny _ _ _ _ _ ⟨h6, s.gens, s.drawn, tk6, s.os⟩)
    clear F6 N6
    refine cutFN F7 N7 (fun FR NE m news h' => ∃ g' tg', FR h' (fun y => if y = Str.ofString "gap" then some (.str g' tg') else m y) ∧ NE h' news ∧ g' ∈ gapL ∧ (at_ = 0 → g' = Str.ofString "") ∧ (isOp q = true → g' = Str.ofString "" → ∀ q', c.P.getLast? = some q' → stiff q' = false)) ?_ ?_
    · k_steps
      all_goals (refine ⟨by first | rfl | trivial, _, _, rfl, ?_⟩)
      · exact ⟨_, _, by assumption, by assumption, .tail _ (.tail _ (.head _)), fun e => by omega, fun _ e => absurd e (by decide)⟩
      · exact ⟨_, _, by assumption, by assumption, .tail _ (.tail _ (.head _)), fun e => by omega, fun _ e => absurd e (by decide)⟩
      · exact ⟨_, _, by assumption, by assumption, .tail _ (.tail _ (.head _)), fun e => by omega, fun _ e => absurd e (by decide)⟩
      · refine ⟨g, tg, Fr.congr (by assumption) (fun y => ?_), by assumption, hgL, hg0, ?_⟩
        · by_cases hy : y = Str.ofString "gap"
          · subst hy; rfl
          · rw [if_neg hy]
        · intro _ _ q' hq'
          rw [last_eq (by omega)] at hq'
          cases hq'
          (rename (c.P.getD (-1 + (c.P.length : Int)).toNat Str.empty == Str.ofString ":") = false => e1)
          (rename (singL.any fun x => x == c.P.getD (-1 + (c.P.length : Int)).toNat Str.empty) = false => e2)
          (rename (doubL.any fun x => x == c.P.getD (-1 + (c.P.length : Int)).toNat Str.empty) = false => e3)
          unfold stiff isS isD
          rw [e1, e2, e3]; rfl
      · refine ⟨g, tg, Fr.congr (by assumption) (fun y => ?_), by assumption, hgL, hg0, fun e => ?_⟩
        rotate_left
        · (rename isOp q = false => e1)
          rw [e1] at e
          cases e
        by_cases hy : y = Str.ofString "gap"
        · subst hy; rfl
        · rw [if_neg hy]
      · refine ⟨g, tg, Fr.congr (by assumption) (fun y => ?_), by assumption, hgL, hg0, ?_⟩
        · by_cases hy : y = Str.ofString "gap"
          · subst hy; rfl
          · rw [if_neg hy]
        · intro _ _ q' hq'
          rw [List.eq_nil_of_length_eq_zero (l := c.P) (by omega)] at hq'
          cases hq'
      · refine ⟨g, tg, Fr.congr (by assumption) (fun y => ?_), by assumption, hgL, hg0, fun _ e => ?_⟩
        · by_cases hy : y = Str.ofString "gap"
          · subst hy; rfl
          · rw [if_neg hy]
        · subst e
          (rename (Str.ofString "" == Str.ofString "") = false => e1)
          exact absurd e1 (by decide)
    intro h7 tk7 ⟨g', tg', F8, N8, hgL', hg0', hstiff⟩
    (with_reducible show wpAny _ _ _ _ _ ⟨h7, s.gens, s.drawn, tk7, s.os⟩)
    clear F7 N7
    refine cutFN F8 N8 (fun FR NE m news h' => ∃ tl', FR h' (fun y => if y = Str.ofString "looked" then some (.int (if isOp q && freeB c.P c.kl then at_ else c.kl) tl') else m y) ∧ NE h' news) ?_ ?_
    · k_steps
      all_goals (refine ⟨by first | rfl | trivial, _, _, rfl, ?_⟩)
      · (rename isOp q = true => e1)
        (rename freeB c.P c.kl = true => e2)
        have ev : (if (isOp q && freeB c.P c.kl) = true then at_ else c.kl) = at_ := by rw [e1, e2]; rfl
        rw [ev]
        exact ⟨_, by assumption, by assumption⟩
      · (rename isOp q = true => e1)
        (rename freeB c.P c.kl = false => e2)
        have ev : (if (isOp q && freeB c.P c.kl) = true then at_ else c.kl) = c.kl := by rw [e1, e2]; rfl
        rw [ev]
        refine ⟨c.tkl, Fr.congr (by assumption) (fun y => ?_), by assumption⟩
        by_cases hy : y = Str.ofString "looked"
        · subst hy; rfl
        · rw [if_neg hy]
      · (rename isOp q = false => e1)
        have ev : (if (isOp q && freeB c.P c.kl) = true then at_ else c.kl) = c.kl := by rw [e1]; rfl
        rw [ev]
        refine ⟨c.tkl, Fr.congr (by assumption) (fun y => ?_), by assumption⟩
        by_cases hy : y = Str.ofString "looked"
        · subst hy; rfl
        · rw [if_neg hy]
    intro h8 tk8 ⟨tl', F9, N9⟩
    (with_reducible show wpAny _ _ _ _ _ ⟨h8, s.gens, s.drawn, tk8, s.os⟩)
    clear F8 N8
    k_steps
    (rename Fr _ _ _ _ => FX)
    (rename News _ _ _ _ => NX)
    simp only [List.push_toArray] at NX
    refine kst_end (c := ⟨c.P ++ [q], c.G ++ [g'], if isOp q && freeB c.P c.kl then at_ else c.kl, tl', c.vp ++ [.str q tp'], c.vg ++ [.str g' tg'], c.np + 1, c.ng + 1, i3, sd3, u13, u23, k3⟩) FX NX ?_ ?_ rfl ⟨StrsAre.snoc hp _ _, StrsAre.snoc hg _ _, hst3, ?_⟩ ?_ ?_ ?_
    · intro p hp
      simp only [rsLed, List.mem_cons, List.mem_append] at hp ⊢
      rcases hp with h | h | h | h | h | h | h | h <;> simp [h]
    · intro p hp
      simp [hp]
    · have := RowP.snoc (p := q) (g := g') hrow ?_ hgL' ?_ ?_ hstiff
      · rw [← hat] at this; exact this
      · rw [hq]; split
        · exact List.mem_append_left _ (List.mem_append_left _ (List.mem_append_right _ (.head _)))
        · exact hpL
      · intro e; exact hg0' (by rw [hat, e]; rfl)
      · intro e
        rw [hq] at e
        split at e
        · exact absurd e (by decide)
        · (rename ¬(isD p && !freeB c.P c.kl) = true => e3)
          rw [e] at e3
          simpa using e3
    · intro p hp
      rw [List.mem_singleton.mp hp]
      rfl
    · intro z h1 h2 h3
      obtain ⟨z1, z2, z3, z4, z5⟩ := temps_no h3
      have z6 : z ≠ Str.ofString "looked" := h2 _ (.head _)
      simp only [if_neg h1, if_neg z1, if_neg z2, if_neg z3, if_neg z4, if_neg z5, if_neg z6, h3]
      rfl
    · show (c.P ++ [q]).length = (pre ++ [at_]).length
      rw [List.length_append, List.length_append, hpre]; rfl
  case done =>
    intro c u h tk ⟨hp, hg, hst, hrow⟩ hlen F1 N1
    have hp1 := hp.length
    have hg1 := hg.length
    have hr1 := hrow.len
    k_steps
    (rename _ < _ ∧ _ => hT)
    (rename News _ _ _ _ => NX)
    have NY := row_pick NX
    refine ret c.P c.G c.kl _ _ _ _ _ _ _ _ _ c.vp _ c.np _ _ hrow (by omega) (by omega) ?_ hp (StrsAre.snoc hg _ _) (by assumption) (by assumption) NY ?_ ?_ ?_
    · exact getD_mem (l := gapL) (by assumption) (by assumption)
    all_goals (repeat (rename _ ∧ _ => hZ; obtain ⟨hZ1, hZ2⟩ := hZ))
    · exact ⟨by assumption, by assumption, by assumption⟩
    · exact ⟨by assumption, by assumption, by assumption, by assumption⟩
    · exact ⟨by assumption, by assumption, by assumption, by assumption, by assumption⟩
end
end Mine

end
section
open PySem PySem.W PyProof.Rows
set_option Elab.async false
set_option maxRecDepth 100000
namespace Mine
def tup2 (k : Int) (x : Str) : Dat := .tuple [.int k, .str x]
structure DS where
  (place looked : Int)
  (tp tlk : Tok)
  vd : List Value
  nd : Nat
  D : List Dat
def dsLed (due : Addr) (cst : List (Addr × Obj)) (c : DS) : List (Addr × Obj) := (due, W.listOf c.vd.toArray c.nd) :: cst
def psO (c : DS) : List (Str × Value) := [(Str.ofString "place", .int c.place c.tp), (Str.ofString "looked", .int c.looked c.tlk)]
def psC (c : DS) : List (Str × Value) := [(Str.ofString "place", .int c.place c.tp)]
def dsFacts (tl : List (Addr × Obj)) (c : DS) : Prop := DatAll tl c.vd c.D
abbrev DueEnd (h₀ : Heap) (env : Env) (due : Addr) (cst : List (Addr × Obj)) (ps : DS → List (Str × Value)) (temps : List Str) (Sp : Nat → Int × Int × List Dat) (m₀ : Str → Option Value) (pre : List Int) (at_ : Int) (own : List (Addr × Obj)) (s : Shared) (Q : Flow → Shared → Prop) : Flow → Shared → Prop :=
  InvPostG h₀ env.locals (KdS (dsLed due cst) [] ps dsFacts (Str.ofString "at") temps m₀ (fun (pre : List Int) c => Sp pre.length = (c.place, c.looked, c.D)) (due :: cst.map (·.1)) (pre ++ [at_])) own s Q
section
variable {prog : Program} {w : World} {A : Around} {E : Value → Shared → Prop} {s : Shared} {env : Env} {h₀ : Heap} {body : List Stmt} {Q : Flow → Shared → Prop}
/-- a loop that grows a list of data -/
theorem due_rule {r : Addr} {b₀ : Int} {t₀ u₀ v₀ : Tok} {m₀ : Str → Option Value} {due : Addr} {cst : List (Addr × Obj)} (ps : DS → List (Str × Value)) (temps : List Str) (Sp : Nat → Int × Int × List Dat) (pl lk : Int) (tp tlk : Tok)
    (hh : A.handled = none) (hr : IsRange s.heap r 0 b₀ 1 t₀ u₀ v₀) (hn : 0 ≤ b₀) (hn2 : b₀ ≤ 100) (F : Fr h₀ env.locals s.heap m₀)
    (N : News h₀ env.locals s.heap ((due, W.listOf #[] 0) :: cst)) (hd : ∀ p ∈ cst, p.1 ≠ due) (h0 : Sp 0 = (pl, lk, [])) (hk : ∀ p ∈ ps ⟨pl, lk, tp, tlk, [], 0, []⟩, m₀ p.1 = some p.2)
    (turn : ∀ (dd : Addr), dd = due → ∀ (c : DS) (pre : List Int) (at_ : Int) t (u : Str → Option Value) h tk tl own, at_ = pre.length → at_ < b₀ → KdSep own tl (due :: cst.map (·.1)) → (∀ p ∈ cst ++ (tl ++ own), p.1 ≠ due) → DatAll tl c.vd c.D → Sp pre.length = (c.place, c.looked, c.D) →
      Fr h₀ env.locals h (fun y => if y = Str.ofString "at" then some (.int at_ t) else kstB (fun z => if temps.contains z then u z else m₀ z) (ps c) y) →
      News h₀ env.locals h ((due, W.listOf c.vd.toArray c.nd) :: (cst ++ (tl ++ own))) →
      wpAny (model prog w) A (execs body env) (DueEnd h₀ env due cst ps temps Sp m₀ pre at_ own { s with heap := h, toks := tk } Q) E { s with heap := h, toks := tk })
    (done : ∀ (c : DS) (u : Str → Option Value) h tk tl, OwnOff tl (due :: cst.map (·.1)) → DatAll tl c.vd c.D → Sp b₀.toNat = (c.place, c.looked, c.D) →
      Fr h₀ env.locals h (fun y => if y = Str.ofString "at" then u y else kstB (fun z => if temps.contains z then u z else m₀ z) (ps c) y) →
      News h₀ env.locals h ((due, W.listOf c.vd.toArray c.nd) :: (cst ++ tl)) → Q .next { s with heap := h, toks := tk }) :
    wpAny (model prog w) A (pyIter (.ref r)) (fun it s₂ => LoopAtV prog w A h₀ env (Str.ofString "at") body Q E it s₂) E s := by
  have hsz : Builtin.Range.rangeSize 0 b₀ 1 = ((b₀.toNat : Nat) : Int) := by
    rw [PySem.rangeSize_one]
    split <;> omega
  have hsm : Builtin.Range.small 0 b₀ 1 = true := small_one (by decide) (by decide) (by omega) (by omega)
  have off : ∀ tl, OwnOff tl (due :: cst.map (·.1)) → ∀ p ∈ cst ++ tl, p.1 ≠ due := by
    intro tl ho p hp
    rcases List.mem_append.mp hp with h | h
    · exact hd p h
    · exact ho p h due (.head _)
  refine kd_range (σ := DS) (dsLed due cst) [] ps dsFacts temps (fun pre c => Sp pre.length = (c.place, c.looked, c.D)) (due :: cst.map (·.1)) ⟨pl, lk, tp, tlk, [], 0, []⟩ hh hr hsm hsz F N ?_ (fun c => ?_) .nil hk h0 ?_ ?_
  · intro p hp
    simpa [dsLed] using hp
  · rw [List.append_nil]; rfl
  · intro c tl pre at_ t u h tk own e hlt hsep hoff hf hp F' N'
    exact turn due rfl c pre at_ t u h tk tl own (by rw [e]; omega) (by omega) hsep (off _ hoff) hf hp F' N'
  · intro c tl u h tk hoff hf hp F' N'
    exact done c u h tk tl hoff hf (by rw [rangeKs_length] at hp; exact hp) F' N'
end
theorem len_strs {prog : Program} {w : World} {A : Around} {E : Value → Shared → Prop} {s : Shared} {l : Addr} {vs : List Value} {ws : List Str} {Q : Value → Shared → Prop} (hl : s.heap.IsList l vs.toArray) (hs : StrsAre vs ws) (hb : ws.length ≤ 1000)
    (h : ∀ t k, Q (.int ws.length t) { s with toks := k }) : wpAny (model prog w) A (call (.builtin "len") [.ref l]) Q E s := by
  have e : vs.toArray.size = ws.length := by rw [List.size_toArray, hs.length]
  refine PyProof.Rows.len_list hl (by rw [e]; omega) ?_
  rw [e]
  exact h _ _
theorem getD_fit {W : List Str} {k : Nat} (h : ∀ k, ((W.getD k Str.empty).length : Int) ≤ 10) : ¬ ((W.getD k Str.empty).length : Int) ≥ 2 ^ 63 := by have := h k; omega
def hasTab (g : Str) : Bool := !(Builtin.Str.occurrences g (Str.ofString "\t") 0 g.length 1).isEmpty
/-- what is told of a gap -/
def gapTell (g : Str) (k : Int) (a b : Str) : List Dat := if hasTab g then [tup2 k a] else if 1 < (g.length : Int) then [tup2 k b] else []
def e223 := Str.ofString "E223 tab before operator"
def e221 := Str.ofString "E221 multiple spaces before operator"
def e224 := Str.ofString "E224 tab after operator"
def e222 := Str.ofString "E222 multiple spaces after operator"
def takes (p q : Str) (at_ lk : Int) : Bool := isOp p && decide (0 < at_) && (q != Str.ofString ",") && decide (lk ≠ at_ - 1)
def opsStep (P G : List Str) (k : Nat) (c : Int × Int × List Dat) : Int × Int × List Dat :=
  let g := G.getD k Str.empty
  let p := P.getD k Str.empty
  let place := c.1 + (g.length : Int)
  if takes p (P.getD (k - 1) Str.empty) (k : Int) c.2.1 then
    (place + (p.length : Int), (k : Int), c.2.2 ++ (gapTell g c.1 e223 e221 ++ gapTell (G.getD (k + 1) Str.empty) (place + (p.length : Int)) e224 e222))
  else (place + (p.length : Int), c.2.1, c.2.2)
def opsUp (P G : List Str) : Nat → Int × Int × List Dat
  | 0 => (0, -1, [])
  | k + 1 => opsStep P G k (opsUp P G k)
theorem gapTell_len (g : Str) (k : Int) (a b : Str) : (gapTell g k a b).length ≤ 1 := by
  unfold gapTell; split
  · exact Nat.le_refl _
  · split
    · exact Nat.le_refl _
    · exact Nat.zero_le _
theorem gapTell_tab {g : Str} {k : Int} {a b : Str} (h : (Builtin.Str.occurrences g (Str.ofString "\t") 0 g.length 1).isEmpty = false) : gapTell g k a b = [tup2 k a] := if_pos (by unfold hasTab; rw [h]; rfl)
theorem gapTell_two {g : Str} {k : Int} {a b : Str} (h : (Builtin.Str.occurrences g (Str.ofString "\t") 0 g.length 1).isEmpty = true) (h2 : 1 < (g.length : Int)) : gapTell g k a b = [tup2 k b] := (if_neg (by unfold hasTab; rw [h]; exact Bool.false_ne_true)).trans (if_pos h2)
theorem gapTell_no {g : Str} {k : Int} {a b : Str} (h : (Builtin.Str.occurrences g (Str.ofString "\t") 0 g.length 1).isEmpty = true) (h2 : ¬ 1 < (g.length : Int)) : gapTell g k a b = [] := (if_neg (by unfold hasTab; rw [h]; exact Bool.false_ne_true)).trans (if_neg h2)
theorem takes_yes {p q : Str} {at_ lk : Int} (h1 : isOp p = true) (h2 : 0 < at_) (h3 : (q != Str.ofString ",") = true) (h4 : lk ≠ at_ - 1) : takes p q at_ lk = true := by simp [takes, h1, h2, h3, h4]
theorem takes_n1 {p q : Str} {at_ lk : Int} (h1 : isOp p = false) : takes p q at_ lk = false := by simp [takes, h1]
theorem takes_n2 {p q : Str} {at_ lk : Int} (h1 : ¬ 0 < at_) : takes p q at_ lk = false := by simp [takes, h1]
theorem takes_n3 {p q : Str} {at_ lk : Int} (h1 : (q != Str.ofString ",") = false) : takes p q at_ lk = false := by simp [takes, h1]
theorem takes_n4 {p q : Str} {at_ lk : Int} (h1 : ¬ lk ≠ at_ - 1) : takes p q at_ lk = false := by simp [takes, h1]
theorem takes_n5 {p q : Str} {at_ lk : Int} (h1 : lk = at_ - 1) : takes p q at_ lk = false := by simp [takes, h1]
theorem opsStep_of {P G : List Str} {k : Nat} {pl lk lk' : Int} {D ds : List Dat} (h : (lk', ds) = (if takes (P.getD k Str.empty) (P.getD (k - 1) Str.empty) (k : Int) lk then
      ((k : Int), gapTell (G.getD k Str.empty) pl e223 e221 ++ gapTell (G.getD (k + 1) Str.empty) (pl + ((G.getD k Str.empty).length : Int) + ((P.getD k Str.empty).length : Int)) e224 e222) else (lk, []))) :
    opsStep P G k (pl, lk, D) = (pl + ((G.getD k Str.empty).length : Int) + ((P.getD k Str.empty).length : Int), lk', D ++ ds) := by
  unfold opsStep
  dsimp only
  split
  · rename_i ht
    rw [if_pos ht] at h
    cases h
    rfl
  · rename_i ht
    rw [if_neg ht] at h
    cases h
    rw [List.append_nil]
theorem opsUp_len (P G : List Str) (k : Nat) : (opsUp P G k).2.2.length ≤ 2 * k := by
  induction k with
  | zero => exact Nat.zero_le _
  | succ k ih =>
    show (opsStep P G k (opsUp P G k)).2.2.length ≤ _
    unfold opsStep
    dsimp only
    split
    · simp only [List.length_append]
      have h1 := gapTell_len (G.getD k Str.empty) (opsUp P G k).1 e223 e221
      have h2 := gapTell_len (G.getD (k + 1) Str.empty) ((opsUp P G k).1 + ((G.getD k Str.empty).length : Int) + ((P.getD k Str.empty).length : Int)) e224 e222
      omega
    · show (opsUp P G k).2.2.length ≤ _
      omega
end Mine
open PySem.Calls
namespace Mine
local macro_rules | `(tactic| k_all) => `(tactic| with_reducible assumption)
local macro_rules | `(tactic| k_all) => `(tactic| (with_reducible apply allLt_ne; with_reducible assumption))
local macro_rules | `(tactic| walk_at "pyIter ref") => `(tactic| (k_here; refine Mine.Stop.out ?_))
local macro_rules | `(tactic| walk_at "call ref") => `(tactic| (k_here; k_dflt (refine' next_hole ?B ?F ?X ?N ?H ?ap ?ls ?T ?k ?v ?so ?m0 ?dp ?_; (case B => k_asm); (case F => k_asm); (case X => k_asm); (case T => k_asm); (case N => k_asm); (case H => first | exact at0 | exact at1 | exact at2 | exact at3 | exact at4 | exact at5 | exact at6 | exact at7 | exact at8); (case ap => ((simp only [List.eraseIdx_cons_succ, List.eraseIdx_cons_zero]); k_all)); (case ls => k_mem); (case k => first | rfl | assumption); (case v => assumption); (case so => assumption); (case m0 => decide); (case dp => ktr_room); k_whole); intro r' i' sd' tr' u1' u2' k' h' tk' F' N' r0' r1' so'; (try simp only [List.set_cons_succ, List.set_cons_zero] at N')))
local macro_rules | `(tactic| walk_at "call ref") => `(tactic| (k_here; k_dflt (refine' singles_spec ?B ?F ?X ?N ?T ?k ?dp ?_; (case B => k_asm); (case F => k_asm); (case X => k_asm); (case T => k_asm); (case N => assumption); (case k => first | rfl | assumption); (case dp => ktr_room); k_whole); intro x' xs' h' tk' xs1' F' N' l1'; (try k_lt l1')))
local macro_rules | `(tactic| walk_at "call ref") => `(tactic| (k_here; k_dflt (refine' doubles_spec ?B ?F ?X ?N ?T ?k ?dp ?_; (case B => k_asm); (case F => k_asm); (case X => k_asm); (case T => k_asm); (case N => assumption); (case k => first | rfl | assumption); (case dp => ktr_room); k_whole); intro x' xs' h' tk' xs1' F' N' l1'; (try k_lt l1')))
local macro_rules | `(tactic| walk_at "subscriptTail") => `(tactic| (k_here; (with_reducible show wpAny _ _ (subscriptTail _ _ (Value.ref _) (Value.int _ _)) _ _ _); k_dflt (refine' KTb.item_list ?ktbl ?ktbw ?ktb0 ?ktb1 ?ktbf ?_; (case ktbl => exact News.isList (by k_asm) (by k_mem)); (case ktbw => first | assumption | (repeat constructor)); (case ktb0 => omega); (case ktb1 => ((try simp only [List.length_cons, List.length_nil, singL_len, doubL_len]); omega)); (case ktbf => omega)); intro tI' ltI'))
local macro_rules | `(tactic| walk_at "call builtin:list.append") => `(tactic| (k_here; k_dflt (refine' append_hole ?F ?N ?H ?ap ?_ ?z; (case F => k_asm); (case N => k_asm); (case H => first | exact at0 | exact at1 | exact at2 | exact at3 | exact at4 | exact at5 | exact at6 | exact at7 | exact at8); (case ap => ((simp only [List.eraseIdx_cons_succ, List.eraseIdx_cons_zero]); k_all)); (case z => first | assumption | apply_assumption); k_whole); intro h' F' N'; (try simp only [List.set_cons_succ, List.set_cons_zero] at N')))

local macro_rules | `(tactic| walk_at "call builtin:len") => `(tactic| (k_here; (with_reducible show wpAny _ _ (call (Value.builtin "len") [Value.str _ _]) _ _ _); k_dflt (refine' PyProof.Rows.len_str ?B ?_; (case B => exact getD_fit (by assumption)))))
local macro_rules | `(tactic| walk_at "call builtin:len") => `(tactic| (k_here; (with_reducible show wpAny _ _ (call (Value.builtin "len") [Value.ref _]) _ _ _); k_dflt (refine' len_strs ?L ?S ?B ?_; (case L => exact News.isList (by k_asm) (by k_mem)); (case S => assumption); (case B => omega)); intro tL' kL'))
section
variable {w : World} {dp un : Nat} {gd : Option (List Code)} {cn : Str} {cs : Scope} {a : Addr} {ccd : Value} {cl : List (Str × Addr)} {outer : List Env} {A₀ : Around} {base h₀ : Heap} {L : Addr} {m : Str → Option Value} {rest news : List (Addr × Obj)} {s : Shared}
    {mean : ExcName → Option Value} {mg mb : Str → Option Value} {Q E : Value → Shared → Prop}
    {pi sp : Addr} {vp vg : List Value} {P G : List Str} {t1 t2 t3 : Tok} {np ng : Nat}
set_option pp.maxSteps 3000
set_option maxHeartbeats 8000000 in
theorem ops_spec (B : Below A₀ base outer h₀) (F : Fr h₀ L s.heap m) (X : (hd.heap_39 w.params).In h₀)
    (N : News h₀ L s.heap ((sp, W.listOf vg.toArray ng) :: (pi, W.listOf vp.toArray np) :: rest))
    (T : Top hd.view_39 (looseW hd.view_39 [Str.ofString "WHITESPACE_AFTER_COMMA_REGEX", Str.ofString "OPERATOR_REGEX"]) mean mg mb h₀)
    (hk : cs.kind = .function) (hp : StrsAre vp P) (hg : StrsAre vg G) (hlen : G.length = P.length + 1) (hP : P.length ≤ 10) (hpl : ∀ k, ((P.getD k Str.empty).length : Int) ≤ 10) (hgl : ∀ k, ((G.getD k Str.empty).length : Int) ≤ 10)
    (hdp : dp + 20 < recursionLimit)
    (ret : ∀ (due : Addr) (vd : List Value) (nd : Nat) (tl : List (Addr × Obj)) h' tk', DatAll tl vd (opsUp P G P.length).2.2 → Fr h₀ L h' m →
      News h₀ L h' ((due, W.listOf vd.toArray nd) :: (sp, W.listOf vg.toArray ng) :: (pi, W.listOf vp.toArray np) :: (rest ++ tl)) →
      OwnOff tl (due :: sp :: pi :: rest.map (·.1)) → (sp < due ∧ pi < due ∧ AllLt due rest) → Q (.ref due) { s with heap := h', toks := tk' }) :
    wpAny (model Challenge.rw_et5023_01.row.prog w) (ktrTop dp un gd cn cs L a ccd cl outer) (call (.ref 90) [.ref pi, .ref sp]) Q E s := by
  revert X; k_fill; intro X
  refine wpAny_call ?_
  k_dflt ktr_enter
  (rename Fr _ _ _ (fun _ => _) => F9)
  k_steps
  refine Stop.mk ?_
  (rename _ ∧ _ => hZ; obtain ⟨hZ1, hZ2, hZ3⟩ := hZ)
  k_dflt (refine' due_rule psO [Str.ofString "start", Str.ofString "piece", Str.ofString "operator", Str.ofString "behind"] (opsUp P G) 0 (-1) _ _ ?hh ?hr ?hn ?hn2 ?F ?N ?hd rfl ?hk ?turn ?done; (case hh => exact rfl); (case hr => assumption); (case hn => omega); (case hn2 => omega); (case F => assumption); (case N => assumption); (case hd => k_all); (case hk => intro p hp; simp only [psO, List.mem_cons, List.not_mem_nil, or_false] at hp; rcases hp with rfl | rfl <;> rfl))
  case turn =>
    intro due hdd
    subst hdd
    intro c pre at_ t u h tk tl own hat hlt hsep hoff hD hsp F1 N1
    simp only [List.cons_append] at N1 hoff
    have ho1 := fun p hp => hoff p (.tail _ (.tail _ hp))
    have F1 : Fr _ _ h (fun y => if y = Str.ofString "at" then some (.int at_ t) else if y = Str.ofString "place" then some (.int c.place c.tp) else if y = Str.ofString "looked" then some (.int c.looked c.tlk) else if [Str.ofString "start", Str.ofString "piece", Str.ofString "operator", Str.ofString "behind"].contains y then u y else _) := F1
    have hatn : at_.toNat = pre.length := by omega
    have hat1 : (at_ + 1).toNat = pre.length + 1 := by omega
    have hat2 : (at_ - 1).toNat = pre.length - 1 := by omega
    have hvl : c.vd.length ≤ 20 := by
      have h1 := opsUp_len P G pre.length
      rw [hsp] at h1
      have h2 := hD.length
      have h3 : c.D.length ≤ 2 * pre.length := h1
      omega
    have hz0 : c.vd.toArray.size ≤ sizeLine := by rw [List.size_toArray, sizeLine_eq]; omega
    have hz1 : ∀ x, (c.vd.toArray.push x).size ≤ sizeLine := fun x => by rw [Array.size_push, List.size_toArray, sizeLine_eq]; omega
    -- start, place, piece
    refine cutFN F1 N1 (fun FR NE m ws h' => ∃ t1, FR h' (fun y => if y = Str.ofString "start" then some (.int c.place t1) else m y) ∧ NE h' ws) ?_ ?_
    · k_steps
      exact ⟨by first | rfl | trivial, _, _, rfl, _, by assumption, by assumption⟩
    intro h1 tk1 ⟨t2, F2, N2⟩
    (with_reducible show wpAny _ _ _ _ _ ⟨h1, s.gens, s.drawn, tk1, s.os⟩)
    clear F1 N1
    refine cutFN F2 N2 (fun FR NE m ws h' => ∃ t1, FR h' (fun y => if y = Str.ofString "place" then some (.int (c.place + ((G.getD at_.toNat Str.empty).length : Int)) t1) else m y) ∧ NE h' ws) ?_ ?_
    · k_steps
      exact ⟨by first | rfl | trivial, _, _, rfl, _, by assumption, by assumption⟩
    intro h2 tk2 ⟨t3, F3, N3⟩
    (with_reducible show wpAny _ _ _ _ _ ⟨h2, s.gens, s.drawn, tk2, s.os⟩)
    clear F2 N2
    refine cutFN F3 N3 (fun FR NE m ws h' => ∃ t1, FR h' (fun y => if y = Str.ofString "piece" then some (.str (P.getD at_.toNat Str.empty) t1) else m y) ∧ NE h' ws) ?_ ?_
    · k_steps
      exact ⟨by first | rfl | trivial, _, _, rfl, _, by assumption, by assumption⟩
    intro h3 tk3 ⟨t4, F4, N4⟩
    (with_reducible show wpAny _ _ _ _ _ ⟨h3, s.gens, s.drawn, tk3, s.os⟩)
    clear F3 N3
    refine cutFN F4 N4 (fun FR NE m ws h' => FR h' (fun y => if y = Str.ofString "operator" then some (.bool (isOp (P.getD at_.toNat Str.empty))) else m y) ∧ NE h' ws) ?_ ?_
    · k_steps
      · (rename (singL.any fun x => x == P.getD at_.toNat Str.empty) = true => hd1)
        refine ⟨by first | rfl | trivial, _, _, rfl, ?_, News.of (by assumption) (fun _ hp => .tail _ hp)⟩
        (rename Fr _ _ _ (fun _ => _) => FX)
        rw [hd1] at FX
        rw [show isOp (P.getD at_.toNat Str.empty) = true by unfold isOp; rw [show isS (P.getD at_.toNat Str.empty) = true from hd1, Bool.or_true]]
        exact FX
      · (rename (singL.any fun x => x == P.getD at_.toNat Str.empty) = false => hd1)
        refine ⟨by first | rfl | trivial, _, _, rfl, ?_, News.of (by assumption) (fun _ hp => .tail _ (.tail _ hp))⟩
        (rename Fr _ _ _ (fun _ => _) => FX)
        rw [show isOp (P.getD at_.toNat Str.empty) = isD (P.getD at_.toNat Str.empty) by unfold isOp; rw [show isS (P.getD at_.toNat Str.empty) = false from hd1, Bool.or_false]]
        exact FX
    intro h4 tk4 ⟨F5, N5⟩
    (with_reducible show wpAny _ _ _ _ _ ⟨h4, s.gens, s.drawn, tk4, s.os⟩)
    clear F4 N4
    refine cutFN F5 N5 (fun FR NE m ws h' => ∃ (mb : Option Value) (lk : Int) (tlk : Tok) (vs' : List Value) (nd' : Nat) (add : List (Addr × Obj)) (ds : List Dat),
        FR h' (fun y => if y = Str.ofString "behind" then mb else if y = Str.ofString "looked" then some (.int lk tlk) else m y) ∧
        NE h' ((due, W.listOf (c.vd ++ vs').toArray nd') :: (add ++ ws.tail)) ∧ DatAll add vs' ds ∧ (∀ q ∈ add, ∀ p ∈ ws, p.1 < q.1) ∧
        (lk, ds) = (if takes (P.getD at_.toNat Str.empty) (P.getD (at_ - 1).toNat Str.empty) at_ c.looked then
          (at_, gapTell (G.getD at_.toNat Str.empty) c.place e223 e221 ++ gapTell (G.getD (at_ + 1).toNat Str.empty) (c.place + ((G.getD at_.toNat Str.empty).length : Int) + ((P.getD at_.toNat Str.empty).length : Int)) e224 e222) else (c.looked, []))) ?_ ?_
    · k_steps
      all_goals (refine ⟨by first | rfl | trivial, _, _, rfl, ?_⟩)
      all_goals (repeat (rename _ ∧ _ => hZ; obtain ⟨hZ1, hZ2⟩ := hZ))
      all_goals (rename News _ _ _ _ => NX)
      all_goals (try simp only [List.push_toArray, List.append_assoc, List.cons_append, List.nil_append] at NX)
      all_goals (try (first
          | exact ⟨_, at_, _, [.ref _, .ref _], _, [(_, _), (_, _)], [tup2 _ _, tup2 _ _], by assumption, News.of (by assumption) (by kqd_sub), (DatAll.cons (DatIn.tuple (.head _) (.cons (.int _ _) (.cons (.str _ _) .nil))) (DatAll.cons (DatIn.tuple (.tail _ (.head _)) (.cons (.int _ _) (.cons (.str _ _) .nil))) DatAll.nil)), List.forall_mem_cons.mpr ⟨allLt_in ⟨by assumption, by assumption, by assumption, by assumption⟩, List.forall_mem_cons.mpr ⟨allLt_in ⟨by assumption, by assumption, by assumption, by assumption⟩, List.forall_mem_nil _⟩⟩, by rw [takes_yes (by assumption) (by assumption) (by assumption) (by assumption), if_pos rfl, gapTell_tab (by assumption), gapTell_tab (by assumption)]; rfl⟩
          | exact ⟨_, at_, _, [.ref _, .ref _], _, [(_, _), (_, _)], [tup2 _ _, tup2 _ _], by assumption, News.of (by assumption) (by kqd_sub), (DatAll.cons (DatIn.tuple (.head _) (.cons (.int _ _) (.cons (.str _ _) .nil))) (DatAll.cons (DatIn.tuple (.tail _ (.head _)) (.cons (.int _ _) (.cons (.str _ _) .nil))) DatAll.nil)), List.forall_mem_cons.mpr ⟨allLt_in ⟨by assumption, by assumption, by assumption, by assumption⟩, List.forall_mem_cons.mpr ⟨allLt_in ⟨by assumption, by assumption, by assumption, by assumption⟩, List.forall_mem_nil _⟩⟩, by rw [takes_yes (by assumption) (by assumption) (by assumption) (by assumption), if_pos rfl, gapTell_tab (by assumption), gapTell_two (by assumption) (by assumption)]; rfl⟩
          | exact ⟨_, at_, _, [.ref _], _, [(_, _)], [tup2 _ _], by assumption, News.of (by assumption) (by kqd_sub), (DatAll.cons (DatIn.tuple (.head _) (.cons (.int _ _) (.cons (.str _ _) .nil))) DatAll.nil), List.forall_mem_cons.mpr ⟨allLt_in ⟨by assumption, by assumption, by assumption, by assumption⟩, List.forall_mem_nil _⟩, by rw [takes_yes (by assumption) (by assumption) (by assumption) (by assumption), if_pos rfl, gapTell_tab (by assumption), gapTell_no (by assumption) (by assumption)]; rfl⟩
          | exact ⟨_, at_, _, [.ref _, .ref _], _, [(_, _), (_, _)], [tup2 _ _, tup2 _ _], by assumption, News.of (by assumption) (by kqd_sub), (DatAll.cons (DatIn.tuple (.head _) (.cons (.int _ _) (.cons (.str _ _) .nil))) (DatAll.cons (DatIn.tuple (.tail _ (.head _)) (.cons (.int _ _) (.cons (.str _ _) .nil))) DatAll.nil)), List.forall_mem_cons.mpr ⟨allLt_in ⟨by assumption, by assumption, by assumption, by assumption⟩, List.forall_mem_cons.mpr ⟨allLt_in ⟨by assumption, by assumption, by assumption, by assumption⟩, List.forall_mem_nil _⟩⟩, by rw [takes_yes (by assumption) (by assumption) (by assumption) (by assumption), if_pos rfl, gapTell_two (by assumption) (by assumption), gapTell_tab (by assumption)]; rfl⟩
          | exact ⟨_, at_, _, [.ref _, .ref _], _, [(_, _), (_, _)], [tup2 _ _, tup2 _ _], by assumption, News.of (by assumption) (by kqd_sub), (DatAll.cons (DatIn.tuple (.head _) (.cons (.int _ _) (.cons (.str _ _) .nil))) (DatAll.cons (DatIn.tuple (.tail _ (.head _)) (.cons (.int _ _) (.cons (.str _ _) .nil))) DatAll.nil)), List.forall_mem_cons.mpr ⟨allLt_in ⟨by assumption, by assumption, by assumption, by assumption⟩, List.forall_mem_cons.mpr ⟨allLt_in ⟨by assumption, by assumption, by assumption, by assumption⟩, List.forall_mem_nil _⟩⟩, by rw [takes_yes (by assumption) (by assumption) (by assumption) (by assumption), if_pos rfl, gapTell_two (by assumption) (by assumption), gapTell_two (by assumption) (by assumption)]; rfl⟩
          | exact ⟨_, at_, _, [.ref _], _, [(_, _)], [tup2 _ _], by assumption, News.of (by assumption) (by kqd_sub), (DatAll.cons (DatIn.tuple (.head _) (.cons (.int _ _) (.cons (.str _ _) .nil))) DatAll.nil), List.forall_mem_cons.mpr ⟨allLt_in ⟨by assumption, by assumption, by assumption, by assumption⟩, List.forall_mem_nil _⟩, by rw [takes_yes (by assumption) (by assumption) (by assumption) (by assumption), if_pos rfl, gapTell_two (by assumption) (by assumption), gapTell_no (by assumption) (by assumption)]; rfl⟩
          | exact ⟨_, at_, _, [.ref _], _, [(_, _)], [tup2 _ _], by assumption, News.of (by assumption) (by kqd_sub), (DatAll.cons (DatIn.tuple (.head _) (.cons (.int _ _) (.cons (.str _ _) .nil))) DatAll.nil), List.forall_mem_cons.mpr ⟨allLt_in ⟨by assumption, by assumption, by assumption, by assumption⟩, List.forall_mem_nil _⟩, by rw [takes_yes (by assumption) (by assumption) (by assumption) (by assumption), if_pos rfl, gapTell_no (by assumption) (by assumption), gapTell_tab (by assumption)]; rfl⟩
          | exact ⟨_, at_, _, [.ref _], _, [(_, _)], [tup2 _ _], by assumption, News.of (by assumption) (by kqd_sub), (DatAll.cons (DatIn.tuple (.head _) (.cons (.int _ _) (.cons (.str _ _) .nil))) DatAll.nil), List.forall_mem_cons.mpr ⟨allLt_in ⟨by assumption, by assumption, by assumption, by assumption⟩, List.forall_mem_nil _⟩, by rw [takes_yes (by assumption) (by assumption) (by assumption) (by assumption), if_pos rfl, gapTell_no (by assumption) (by assumption), gapTell_two (by assumption) (by assumption)]; rfl⟩
          | exact ⟨_, at_, _, [], c.nd, [], [], by assumption, by rw [List.append_nil]; assumption, DatAll.nil, List.forall_mem_nil _, by rw [takes_yes (by assumption) (by assumption) (by assumption) (by assumption), if_pos rfl, gapTell_no (by assumption) (by assumption), gapTell_no (by assumption) (by assumption)]; rfl⟩))
      all_goals (
        refine' ⟨?mb, c.looked, c.tlk, [], c.nd, [], [], Fr.congr (by assumption) (fun y => ?fc), by rw [List.append_nil]; assumption, .nil, List.forall_mem_nil _, ?sp⟩
        case sp =>
          first | rw [takes_n1 (by assumption)] | rw [takes_n2 (by assumption)] | rw [takes_n3 (by assumption)] | rw [takes_n4 (by assumption)] | rw [takes_n5 (by assumption)]
          rfl
        case fc =>
          by_cases hy : y = Str.ofString "behind"
          · subst hy; exact if_pos rfl
          · rw [if_neg hy]
            by_cases hy2 : y = Str.ofString "looked"
            · subst hy2; rfl
            · rw [if_neg hy2])
    intro h5 tk5 ⟨mb', lk, tlk, vs', nd', add, ds, F6, N6, hda, hlt6, hspec⟩
    (with_reducible show wpAny _ _ _ _ _ ⟨h5, s.gens, s.drawn, tk5, s.os⟩)
    clear F5 N5
    refine cutFN F6 N6 (fun FR NE m ws h' => ∃ t1, FR h' (fun y => if y = Str.ofString "place" then some (.int (c.place + ((G.getD at_.toNat Str.empty).length : Int) + ((P.getD at_.toNat Str.empty).length : Int)) t1) else m y) ∧ NE h' ws) ?_ ?_
    · k_steps
      exact ⟨by first | rfl | trivial, _, _, rfl, _, by assumption, by assumption⟩
    intro h6 tk6 ⟨t6, FX, NX⟩
    (with_reducible show wpAny _ _ _ _ _ ⟨h6, s.gens, s.drawn, tk6, s.os⟩)
    clear F6 N6
    k_steps
    refine kd_end (c := ⟨c.place + ((G.getD at_.toNat Str.empty).length : Int) + ((P.getD at_.toNat Str.empty).length : Int), lk, t6, tlk, c.vd ++ vs', nd', c.D ++ ds⟩) add hsep FX NX ?_ ?_ (by rw [List.append_nil]; rfl) ?_ ?_ ?_ ?_ ?_ ?_
    · intro p hp
      simp only [dsLed, List.mem_cons, List.mem_append, List.not_mem_nil, or_false, List.cons_append, List.nil_append, List.tail_cons] at hp ⊢
      rcases hp with h | h | h | h | h | h <;> simp [h]
    · intro p hp
      simp [hp]
    · intro q hq b hb
      have hl := hlt6 q hq
      rcases List.mem_cons.mp hb with rfl | hb
      · exact Nat.ne_of_lt (hl _ (.head _))
      · obtain ⟨p, hp, rfl⟩ := List.mem_map.mp hb
        refine Nat.ne_of_lt (hl p (.tail _ ?_))
        rcases List.mem_cons.mp hp with rfl | hp
        · exact .head _
        · rcases List.mem_cons.mp hp with rfl | hp
          · exact .tail _ (.head _)
          · exact .tail _ (.tail _ (List.mem_append_left _ hp))
    · intro q hq p hp
      exact Nat.ne_of_lt (hlt6 q hq p (.tail _ (.tail _ (.tail _ (List.mem_append_right _ (List.mem_append_right _ hp))))))
    · intro p hp
      simp only [psO, List.mem_cons, List.not_mem_nil, or_false] at hp
      rcases hp with rfl | rfl <;> rfl
    · intro z h1 h2 h3
      have z1 : z ≠ Str.ofString "place" := h2 _ (.head _)
      have z2 : z ≠ Str.ofString "looked" := h2 _ (.tail _ (.head _))
      have h4 := h3
      simp only [List.contains_eq_mem, List.mem_cons, List.not_mem_nil, or_false, decide_eq_false_iff_not, not_or] at h4
      obtain ⟨z3, z4, z5, z6⟩ := h4
      simp only [if_neg h1, if_neg z1, if_neg z2, if_neg z3, if_neg z4, if_neg z5, if_neg z6, h3]
      rfl
    · refine DatAll.append (DatAll.mono (fun p hp => ?_) hD) (DatAll.mono (fun p hp => ?_) hda)
      · exact (List.mem_append_right add hp : p ∈ add ++ tl)
      · exact (List.mem_append_left tl hp : p ∈ add ++ tl)
    · rw [List.length_append]
      show opsStep P G pre.length (opsUp P G pre.length) = _
      rw [hsp]
      rw [hat2, hatn, hat1, hat] at hspec
      rw [hatn]
      exact opsStep_of hspec
  case done =>
    intro c u h tk tl hoff hD hsp F1 N1
    k_steps
    refine ret _ c.vd c.nd tl _ _ ?_ (by assumption) (by assumption) hoff ⟨by assumption, by assumption, by assumption⟩
    have e : ((P.length : Nat) : Int).toNat = P.length := rfl
    rw [e] at hsp
    rw [hsp]
    exact hD
end
end Mine

end
section
open PySem PySem.W PyProof.Rows
set_option Elab.async false
set_option maxRecDepth 100000
namespace Mine
def signL : List Str := [Str.ofString ",", Str.ofString ";", Str.ofString ":"]
def e242 (p : Str) : Str := Str.ofString "E242 tab after '" ++ p ++ Str.ofString "'"
def e241 (p : Str) : Str := Str.ofString "E241 multiple spaces after '" ++ p ++ Str.ofString "'"
def comStep (P G : List Str) (k : Nat) (c : Int × Int × List Dat) : Int × Int × List Dat :=
  let g := G.getD k Str.empty
  let p := P.getD k Str.empty
  let place := c.1 + (g.length : Int) + (p.length : Int)
  (place, c.2.1, c.2.2 ++ (if signL.any (· == p) then gapTell (G.getD (k + 1) Str.empty) place (e242 p) (e241 p) else []))
def comUp (P G : List Str) : Nat → Int × Int × List Dat
  | 0 => (0, 0, [])
  | k + 1 => comStep P G k (comUp P G k)
theorem add_fit {x : Str} {W : List Str} {k : Nat} (hx : x.length ≤ 100) (h : ∀ k, ((W.getD k Str.empty).length : Int) ≤ 10) : x.length + (W.getD k Str.empty).length ≤ sizeLine := by
  have := h k
  rw [sizeLine_eq]; omega
theorem add_fit2 {x y : Str} {W : List Str} {k : Nat} (hx : x.length ≤ 100) (hy : y.length ≤ 100) (h : ∀ k, ((W.getD k Str.empty).length : Int) ≤ 10) : (x ++ W.getD k Str.empty).length + y.length ≤ sizeLine := by
  have := h k
  have e : (x ++ W.getD k Str.empty).length = x.length + (W.getD k Str.empty).length := by
    show (x.cps ++ (W.getD k Str.empty).cps).size = _
    rw [Array.size_append]; rfl
  rw [sizeLine_eq, e]; omega
theorem comUp_len (P G : List Str) (k : Nat) : (comUp P G k).2.2.length ≤ k := by
  induction k with
  | zero => exact Nat.zero_le _
  | succ k ih =>
    show (comStep P G k (comUp P G k)).2.2.length ≤ _
    unfold comStep
    dsimp only
    rw [List.length_append]
    split
    · have h2 := gapTell_len (G.getD (k + 1) Str.empty) ((comUp P G k).1 + ((G.getD k Str.empty).length : Int) + ((P.getD k Str.empty).length : Int)) (e242 (P.getD k Str.empty)) (e241 (P.getD k Str.empty))
      omega
    · exact Nat.le_succ_of_le ih
end Mine
open PySem.Calls
namespace Mine
local macro_rules | `(tactic| k_all) => `(tactic| with_reducible assumption)
local macro_rules | `(tactic| k_all) => `(tactic| (with_reducible apply allLt_ne; with_reducible assumption))
local macro_rules | `(tactic| walk_at "pyIter ref") => `(tactic| (k_here; refine Mine.Stop.out ?_))
local macro_rules | `(tactic| walk_at "call ref") => `(tactic| (k_here; k_dflt (refine' next_hole ?B ?F ?X ?N ?H ?ap ?ls ?T ?k ?v ?so ?m0 ?dp ?_; (case B => k_asm); (case F => k_asm); (case X => k_asm); (case T => k_asm); (case N => k_asm); (case H => first | exact at0 | exact at1 | exact at2 | exact at3 | exact at4 | exact at5 | exact at6 | exact at7 | exact at8); (case ap => ((simp only [List.eraseIdx_cons_succ, List.eraseIdx_cons_zero]); k_all)); (case ls => k_mem); (case k => first | rfl | assumption); (case v => assumption); (case so => assumption); (case m0 => decide); (case dp => ktr_room); k_whole); intro r' i' sd' tr' u1' u2' k' h' tk' F' N' r0' r1' so'; (try simp only [List.set_cons_succ, List.set_cons_zero] at N')))
local macro_rules | `(tactic| walk_at "call ref") => `(tactic| (k_here; k_dflt (refine' singles_spec ?B ?F ?X ?N ?T ?k ?dp ?_; (case B => k_asm); (case F => k_asm); (case X => k_asm); (case T => k_asm); (case N => assumption); (case k => first | rfl | assumption); (case dp => ktr_room); k_whole); intro x' xs' h' tk' xs1' F' N' l1'; (try k_lt l1')))
local macro_rules | `(tactic| walk_at "call ref") => `(tactic| (k_here; k_dflt (refine' doubles_spec ?B ?F ?X ?N ?T ?k ?dp ?_; (case B => k_asm); (case F => k_asm); (case X => k_asm); (case T => k_asm); (case N => assumption); (case k => first | rfl | assumption); (case dp => ktr_room); k_whole); intro x' xs' h' tk' xs1' F' N' l1'; (try k_lt l1')))
local macro_rules | `(tactic| walk_at "subscriptTail") => `(tactic| (k_here; (with_reducible show wpAny _ _ (subscriptTail _ _ (Value.ref _) (Value.int _ _)) _ _ _); k_dflt (refine' KTb.item_list ?ktbl ?ktbw ?ktb0 ?ktb1 ?ktbf ?_; (case ktbl => exact News.isList (by k_asm) (by k_mem)); (case ktbw => first | assumption | (repeat constructor)); (case ktb0 => omega); (case ktb1 => ((try simp only [List.length_cons, List.length_nil, singL_len, doubL_len]); omega)); (case ktbf => omega)); intro tI' ltI'))
local macro_rules | `(tactic| walk_at "call builtin:list.append") => `(tactic| (k_here; k_dflt (refine' append_hole ?F ?N ?H ?ap ?_ ?z; (case F => k_asm); (case N => k_asm); (case H => first | exact at0 | exact at1 | exact at2 | exact at3 | exact at4 | exact at5 | exact at6 | exact at7 | exact at8); (case ap => ((simp only [List.eraseIdx_cons_succ, List.eraseIdx_cons_zero]); k_all)); (case z => first | assumption | apply_assumption); k_whole); intro h' F' N'; (try simp only [List.set_cons_succ, List.set_cons_zero] at N')))

local macro_rules | `(tactic| walk_at "call builtin:len") => `(tactic| (k_here; (with_reducible show wpAny _ _ (call (Value.builtin "len") [Value.str _ _]) _ _ _); k_dflt (refine' PyProof.Rows.len_str ?B ?_; (case B => exact getD_fit (by assumption)))))
local macro_rules | `(tactic| walk_at "call builtin:len") => `(tactic| (k_here; (with_reducible show wpAny _ _ (call (Value.builtin "len") [Value.ref _]) _ _ _); k_dflt (refine' len_strs ?L ?S ?B ?_; (case L => exact News.isList (by k_asm) (by k_mem)); (case S => assumption); (case B => omega)); intro tL' kL'))
local macro_rules | `(tactic| walk_at "binaryOp Add str str") => `(tactic| (k_here; (with_reducible show wpAny _ _ (binaryOp Operator.Add (Value.str _ _) (Value.str _ _)) _ _ _); (refine' PyProof.Rows.add_str ?_ ?z; (case z => first | exact add_fit (Nat.le_of_ble_eq_true rfl) (by assumption) | exact add_fit2 (Nat.le_of_ble_eq_true rfl) (Nat.le_of_ble_eq_true rfl) (by assumption))); intro tA' kA'))
section
variable {w : World} {dp un : Nat} {gd : Option (List Code)} {cn : Str} {cs : Scope} {a : Addr} {ccd : Value} {cl : List (Str × Addr)} {outer : List Env} {A₀ : Around} {base h₀ : Heap} {L : Addr} {m : Str → Option Value} {rest news : List (Addr × Obj)} {s : Shared}
    {mean : ExcName → Option Value} {mg mb : Str → Option Value} {Q E : Value → Shared → Prop}
    {pi sp : Addr} {vp vg : List Value} {P G : List Str} {t1 t2 t3 : Tok} {np ng : Nat}
set_option pp.maxSteps 3000
set_option maxHeartbeats 8000000 in
theorem coms_spec (B : Below A₀ base outer h₀) (F : Fr h₀ L s.heap m) (X : (hd.heap_39 w.params).In h₀)
    (N : News h₀ L s.heap ((sp, W.listOf vg.toArray ng) :: (pi, W.listOf vp.toArray np) :: rest))
    (T : Top hd.view_39 (looseW hd.view_39 [Str.ofString "WHITESPACE_AFTER_COMMA_REGEX", Str.ofString "OPERATOR_REGEX"]) mean mg mb h₀)
    (hk : cs.kind = .function) (hp : StrsAre vp P) (hg : StrsAre vg G) (hlen : G.length = P.length + 1) (hP : P.length ≤ 10) (hpl : ∀ k, ((P.getD k Str.empty).length : Int) ≤ 10) (hgl : ∀ k, ((G.getD k Str.empty).length : Int) ≤ 10)
    (hdp : dp + 20 < recursionLimit)
    (ret : ∀ (due : Addr) (vd : List Value) (nd : Nat) (tl : List (Addr × Obj)) h' tk', DatAll tl vd (comUp P G P.length).2.2 → Fr h₀ L h' m →
      News h₀ L h' ((due, W.listOf vd.toArray nd) :: (sp, W.listOf vg.toArray ng) :: (pi, W.listOf vp.toArray np) :: (rest ++ tl)) →
      OwnOff tl (due :: sp :: pi :: rest.map (·.1)) → (sp < due ∧ pi < due ∧ AllLt due rest) → Q (.ref due) { s with heap := h', toks := tk' }) :
    wpAny (model Challenge.rw_et5023_01.row.prog w) (ktrTop dp un gd cn cs L a ccd cl outer) (call (.ref 97) [.ref pi, .ref sp]) Q E s := by
  revert X; k_fill; intro X
  refine wpAny_call ?_
  k_dflt ktr_enter
  (rename Fr _ _ _ (fun _ => _) => F9)
  k_steps
  refine Stop.mk ?_
  (rename _ ∧ _ => hZ; obtain ⟨hZ1, hZ2, hZ3⟩ := hZ)
  k_dflt (refine' due_rule psC [] (comUp P G) 0 0 _ 0 ?hh ?hr ?hn ?hn2 ?F ?N ?hd rfl ?hk ?turn ?done; (case hh => exact rfl); (case hr => assumption); (case hn => omega); (case hn2 => omega); (case F => assumption); (case N => assumption); (case hd => k_all); (case hk => intro p hp; simp only [psC, List.mem_cons, List.not_mem_nil, or_false] at hp; rcases hp with rfl; rfl))
  case turn =>
    intro due hdd
    subst hdd
    intro c pre at_ t u h tk tl own hat hlt hsep hoff hD hsp F1 N1
    simp only [List.cons_append] at N1 hoff
    have ho1 := fun p hp => hoff p (.tail _ (.tail _ hp))
    have F1 : Fr _ _ h (fun y => if y = Str.ofString "at" then some (.int at_ t) else if y = Str.ofString "place" then some (.int c.place c.tp) else if ([] : List Str).contains y then u y else _) := F1
    have hatn : at_.toNat = pre.length := by omega
    have hat1 : (at_ + 1).toNat = pre.length + 1 := by omega
    have hat2 : (at_ - 1).toNat = pre.length - 1 := by omega
    have hvl : c.vd.length ≤ 20 := by
      have h1 := comUp_len P G pre.length
      rw [hsp] at h1
      have h2 := hD.length
      have h3 : c.D.length ≤ pre.length := h1
      omega
    have hz0 : c.vd.toArray.size ≤ sizeLine := by rw [List.size_toArray, sizeLine_eq]; omega
    have hz1 : ∀ x, (c.vd.toArray.push x).size ≤ sizeLine := fun x => by rw [Array.size_push, List.size_toArray, sizeLine_eq]; omega
    refine cutFN F1 N1 (fun FR NE m ws h' => ∃ t1, FR h' (fun y => if y = Str.ofString "place" then some (.int (c.place + ((G.getD at_.toNat Str.empty).length : Int) + ((P.getD at_.toNat Str.empty).length : Int)) t1) else m y) ∧ NE h' ws) ?_ ?_
    · k_steps
      exact ⟨by first | rfl | trivial, _, _, rfl, _, by assumption, by assumption⟩
    intro h2 tk2 ⟨t6, F3, N3⟩
    (with_reducible show wpAny _ _ _ _ _ ⟨h2, s.gens, s.drawn, tk2, s.os⟩)
    clear F1 N1
    refine cutFN F3 N3 (fun FR NE m ws h' => ∃ (vs' : List Value) (nd' : Nat) (add : List (Addr × Obj)) (ds : List Dat),
        FR h' m ∧ NE h' ((due, W.listOf (c.vd ++ vs').toArray nd') :: (add ++ ws.tail)) ∧ DatAll add vs' ds ∧ (∀ q ∈ add, ∀ p ∈ ws, p.1 < q.1) ∧
        ds = (if signL.any (· == P.getD at_.toNat Str.empty) then gapTell (G.getD (at_ + 1).toNat Str.empty) (c.place + ((G.getD at_.toNat Str.empty).length : Int) + ((P.getD at_.toNat Str.empty).length : Int)) (e242 (P.getD at_.toNat Str.empty)) (e241 (P.getD at_.toNat Str.empty)) else [])) ?_ ?_
    · k_steps
      all_goals (refine ⟨by first | rfl | trivial, _, _, rfl, ?_⟩)
      all_goals (repeat (rename _ ∧ _ => hZ; obtain ⟨hZ1, hZ2⟩ := hZ))
      all_goals (rename News _ _ _ _ => NX)
      all_goals (try simp only [List.push_toArray, List.append_assoc, List.cons_append, List.nil_append] at NX)
      all_goals (first
          | exact ⟨[.ref _], _, [(_, _)], [tup2 _ _], by assumption, News.of (by assumption) (by kqd_sub), (DatAll.cons (DatIn.tuple (.head _) (.cons (.int _ _) (.cons (.str _ _) .nil))) DatAll.nil), List.forall_mem_cons.mpr ⟨allLt_in ⟨by assumption, by assumption, by assumption, by assumption⟩, List.forall_mem_nil _⟩, by rw [if_pos (by assumption), gapTell_tab (by assumption)]; rfl⟩
          | exact ⟨[.ref _], _, [(_, _)], [tup2 _ _], by assumption, News.of (by assumption) (by kqd_sub), (DatAll.cons (DatIn.tuple (.head _) (.cons (.int _ _) (.cons (.str _ _) .nil))) DatAll.nil), List.forall_mem_cons.mpr ⟨allLt_in ⟨by assumption, by assumption, by assumption, by assumption⟩, List.forall_mem_nil _⟩, by rw [if_pos (by assumption), gapTell_two (by assumption) (by assumption)]; rfl⟩
          | exact ⟨[], c.nd, [], [], by assumption, by rw [List.append_nil]; exact News.of (by assumption) (by kqd_sub), DatAll.nil, List.forall_mem_nil _, by rw [if_pos (by assumption), gapTell_no (by assumption) (by assumption)]⟩
          | exact ⟨[], c.nd, [], [], by assumption, by rw [List.append_nil]; exact News.of (by assumption) (by kqd_sub), .nil, List.forall_mem_nil _, by rw [if_neg (by rename ((List.any _ _) = false) => hno; exact fun e => by rw [show signL.any (· == P.getD at_.toNat Str.empty) = false from hno] at e; cases e)]⟩)
    intro h5 tk5 ⟨vs', nd', add, ds, FX, NX, hda, hlt6, hspec⟩
    (with_reducible show wpAny _ _ _ _ _ ⟨h5, s.gens, s.drawn, tk5, s.os⟩)
    clear F3 N3
    k_steps
    refine kd_end (c := ⟨c.place + ((G.getD at_.toNat Str.empty).length : Int) + ((P.getD at_.toNat Str.empty).length : Int), c.looked, t6, c.tlk, c.vd ++ vs', nd', c.D ++ ds⟩) add hsep FX NX ?_ ?_ (by rw [List.append_nil]; rfl) ?_ ?_ ?_ ?_ ?_ ?_
    · intro p hp
      simp only [dsLed, List.mem_cons, List.mem_append, List.not_mem_nil, or_false, List.cons_append, List.nil_append, List.tail_cons] at hp ⊢
      rcases hp with h | h | h | h | h | h <;> simp [h]
    · intro p hp
      simp [hp]
    · intro q hq b hb
      have hl := hlt6 q hq
      rcases List.mem_cons.mp hb with rfl | hb
      · exact Nat.ne_of_lt (hl _ (.head _))
      · obtain ⟨p, hp, rfl⟩ := List.mem_map.mp hb
        refine Nat.ne_of_lt (hl p (.tail _ ?_))
        rcases List.mem_cons.mp hp with rfl | hp
        · exact .head _
        · rcases List.mem_cons.mp hp with rfl | hp
          · exact .tail _ (.head _)
          · exact .tail _ (.tail _ (List.mem_append_left _ hp))
    · intro q hq p hp
      exact Nat.ne_of_lt (hlt6 q hq p (.tail _ (.tail _ (.tail _ (List.mem_append_right _ (List.mem_append_right _ hp))))))
    · intro p hp
      simp only [psC, List.mem_cons, List.not_mem_nil, or_false] at hp
      rcases hp with rfl; rfl
    · intro z h1 h2 h3
      have z1 : z ≠ Str.ofString "place" := h2 _ (.head _)
      simp only [if_neg h1, if_neg z1]
      rfl
    · refine DatAll.append (DatAll.mono (fun p hp => ?_) hD) (DatAll.mono (fun p hp => ?_) hda)
      · exact (List.mem_append_right add hp : p ∈ add ++ tl)
      · exact (List.mem_append_left tl hp : p ∈ add ++ tl)
    · rw [List.length_append]
      show comStep P G pre.length (comUp P G pre.length) = _
      rw [hsp]
      rw [hatn, hat1] at hspec
      rw [hatn, hspec]
      rfl
  case done =>
    intro c u h tk tl hoff hD hsp F1 N1
    k_steps
    refine ret _ c.vd c.nd tl _ _ ?_ (by assumption) (by assumption) hoff ⟨by assumption, by assumption, by assumption⟩
    have e : ((P.length : Nat) : Int).toNat = P.length := rfl
    rw [e] at hsp
    rw [hsp]
    exact hD
end
end Mine

end
section
open PySem PySem.W PyProof.Rows
set_option Elab.async false
set_option maxRecDepth 100000
namespace Mine
section
variable {prog : Program} {w : World} {A : Around} {E : Value → Shared → Prop} {R : Result → Shared → Prop} {s : Shared}
theorem q_den_id {id : String} (h : id ≠ "gc.ask") (args : Args) : (qm prog w).den (.builtin id args) = denote table (.builtin id args) := by
  rcases qden_or (.builtin id args) with h1 | ⟨t, e, _⟩
  · exact h1
  · cases e; exact absurd rfl h
theorem q_builtin {id : String} {args : Args} {b : Builtin} (hb : entryFor table id = some b) (hne : id ≠ "gc.ask")
    (h : wpAny (qm prog w) (A.under (.builtin id args)) (b args)
      (fun fin s' => match fin with | .done f => R (.ok f) s' | .again c' => c'.quiet = true ∧ codeAny (qm prog w) A c' R s') (fun e s' => R (.error e) s') s) :
    codeAny (qm prog w) A (.builtin id args) R s := by
  refine codeAny_of_tree ?_
  rw [q_den_id hne, den_builtin hb]
  exact h
theorem q_call_builtin {id : String} {args : Args} {b : Builtin} (hq : plainId id = true) (hb : entryFor table id = some b) (hne : id ≠ "gc.ask")
    (h : wpAny (qm prog w) A.in1 (checkBuiltinCall id args) (fun _ s₁ => wpAny (qm prog w) A.in1 (b args)
      (fun fin s' => match fin with | .done f => R (.ok f) s' | .again c' => c'.quiet = true ∧ codeAny (qm prog w) A c' R s') (fun e s' => R (.error e) s') s₁)
      (fun e s' => R (.error e) s') s) : codeAny (qm prog w) A (.call (.builtin id) args) R s := by
  refine codeAny_of_tree ?_
  show wpAny _ A.in1 (do checkBuiltinCall id args; again (.builtin id args)) _ _ s
  refine wpAny_bind (wpAny_mono h (fun _ s₁ h₁ => wpAny_pure (And.intro (plainId_quiet hq args) (q_builtin hb hne (by rw [Around.under_plainId hq args]; exact h₁)))) fun _ _ h' => h')
theorem q_call_entry {T : String} {name : Str} {id : String} {b : Builtin} {self : Value} {rest : List Value} {Q : Value → Shared → Prop} (h : Slot T name id) (hT : s.TypeIs self T)
    (hb : entryFor table id = some b) (hne : id ≠ "gc.ask")
    (hc : wpAny (qm prog w) A.in1 (b ⟨self :: rest, []⟩) (fun fin s' => ∃ v, fin = .done (.ret v) ∧ Q v s') E s)
    (ha : argsOk id ⟨self :: rest, []⟩ := by rfl) :
    wpAny (qm prog w) A (call (.builtin id) (self :: rest)) Q E s := by
  refine wpAny_call (q_call_builtin h.plain hb hne (h.check _ _ _ _ _ _ _ _ hT ha (wpAny_mono hc (fun fin s' h' => ?_) fun _ _ h' => h')))
  obtain ⟨v, rfl, hv⟩ := h'; exact hv
/-- a generator's next item -/
theorem q_pyNext_gen {a : Addr} {g n : Nat} {gs : GenState} {Rg : GenEnd} {Y : Protocol} {Q : Option Value → Shared → Prop} (hh : A.handled = none)
    (hl : s.heap.NoLimit) (hroom : A.depth < recursionLimit) (hg : s.heap.IsGen a g) (hgs : s.gens[g]? = some gs)
    (hgo : gs.Goes (qm prog w) A.in1 Rg Y n (.send .none) (s.setGen g .running))
    (hY : ∀ v s₁ gs', gs'.bare = true → Y (n - 1) (s.setGen g .running) v s₁ (fun r' s'' => match n with | 0 => False | m + 1 => gs'.Goes (qm prog w) A.in1 Rg Y m r' s'') → Q (some v) (s₁.setGen g gs'))
    (hP : ∀ x s₁, Rg n (s.setGen g .running) x s₁ → x = .ok (.ret .none) ∧ ∀ h', (∀ b o, s₁.heap.get? b = some o → h'.get? b = some o) → Q none { s₁.setGen g .finished with heap := h' }) :
    wpAny (qm prog w) A (pyNext (.ref a)) Q E s := by
  unfold pyNext
  refine wpAny_bind (wpAny_attempt (wpAny_callSpecial?_slot (name := Str.ofString "__next__") hg.typeIs slot_gen_next
    (q_call_entry slot_gen_next hg.typeIs entry_gen_next (by decide) ?_ (args_gen_next _))))
  show wpAny _ A.in1 (Builtin.Generator.genWake (.ref a) (.send .none)) _ _ s
  unfold Builtin.Generator.genWake
  refine wpAny_bind (wpAny_holding (wpAny_genNumber hg (wpAny_bind (wpAny_genState hgs ?_))))
  cases gs with
  | running => exact hgo.elim
  | finished => exact hgo.elim
  | _ =>
    refine wpAny_bind (wpAny_roomToWake hl hroom ?_)
    show wpAny _ A.in1 (.resume g (.send .none) [] _) _ _ s
    refine wpAny_resumeQ hgs hgo (fun x s₁ hx => ?_) (fun v s₁ gs' hb hv => ?_)
    · obtain ⟨rfl, hp⟩ := hP x s₁ hx
      show wpAny _ A.in1 (newExc (.type "StopIteration") [] >>= _) _ _ _
      refine wpAny_bind ?_
      simp only [newExc, newTuple]
      refine wpAny_bind (wpAny_newObj_type ?_ (by size_fits))
      refine wpAny_bind (m := firstArgMember _ _) (wpAny_of_eq (a := Value.none) (by first | rfl | (simp only [firstArgMember]; rfl)) ?_)
      refine wpAny_newObj_type ?_ (by size_fits)
      simp only [raiseNew]
      refine wpAny_bind (wpAny_bind (wpAny_handled ?_))
      rw [show A.in1.handled = none from hh]
      refine wpAny_throw ?_
      refine wpAny_bind (wpAny_isInstance (T := "StopIteration") (b := true) ⟨_, Heap.get?_push_size _ rfl, rfl⟩ isSubtype_stop ?_)
      exact wpAny_pure (hp _ fun b o hb => Heap.get?_push_of_some _ (Heap.get?_push_of_some _ hb))
    · exact wpAny_pure ⟨v, rfl, wpAny_pure (hY v s₁ gs' hb hv)⟩

/-- what a state of a list being built from a generator is -/
structure Emits (prog : Program) (w : World) (A : Around) (I S : Addr) (gi : Nat) (Rg : GenEnd) (Y : Protocol) (St : Nat → Array Value → Shared → Prop) (Z : Shared → Prop) : Prop where
  obj : ∀ n acc s, St n acc s → ∃ c, s.heap.get? S = some { cls := .type "list", dict := none, data := .seq acc c, slots := #[] }
  gen : ∀ n acc s, St n acc s → s.heap.IsGen I gi ∧ s.heap.NoLimit ∧ acc.size ≤ 1000 ∧ ∃ gs, s.gens[gi]? = some gs ∧ gs.Goes (qm prog w) A.in1 Rg Y n (.send .none) (s.setGen gi .running)
  item : ∀ n acc s, St n acc s → ∀ v s₁ gs', gs'.bare = true → Y (n - 1) (s.setGen gi .running) v s₁ (fun r' s'' => match n with | 0 => False | m + 1 => gs'.Goes (qm prog w) A.in1 Rg Y m r' s'') →
    ∃ m, n = m + 1 ∧ (∃ c, s₁.heap.get? S = some { cls := .type "list", dict := none, data := .seq acc c, slots := #[] }) ∧
      St m (acc.push v) { s₁.setGen gi gs' with heap := s₁.heap.update S (Obj.mapSeq (·.push v)) }
  last : ∀ n acc s, St n acc s → ∀ x s₁, Rg n (s.setGen gi .running) x s₁ → x = .ok (.ret .none) ∧ ∀ h', (∀ b o, s₁.heap.get? b = some o → h'.get? b = some o) → Z { s₁.setGen gi .finished with heap := h' }
theorem q_extend_loop {I S : Addr} {gi : Nat} {Rg : GenEnd} {Y : Protocol} {St : Nat → Array Value → Shared → Prop} {Z : Shared → Prop} (W : Emits prog w A.in1 I S gi Rg Y St Z) (hh : A.handled = none) (hroom : A.depth < recursionLimit) (res : Value)
    (hR : ∀ s', Z s' → R (.ok (.ret res)) s') : ∀ (n : Nat) (acc : Array Value) (s : Shared), St n acc s → codeAny (qm prog w) A (.builtin "list.extend.loop" ⟨[.ref S, .ref I, res], []⟩) R s := by
  intro n
  induction n with
  | zero =>
    intro acc s hst
    obtain ⟨hg, hl, _, gs, hgs, hgo⟩ := W.gen _ _ _ hst
    refine q_builtin F.entry_extend_loop (by decide) ?_
    rw [Around.under_plainId F.plain_extend_loop _]
    show wpAny _ A.in1 (pyNext (.ref I) >>= _) _ _ s
    refine wpAny_bind (q_pyNext_gen hh hl hroom hg hgs hgo (fun v s₁ gs' hb hv => ?_) fun x s₁ hx => ?_)
    · obtain ⟨m, e, _⟩ := W.item _ _ _ hst v s₁ gs' hb hv
      cases e
    · obtain ⟨e, hz⟩ := W.last _ _ _ hst x s₁ hx
      exact ⟨e, fun h' hk => wpAny_pure (hR _ (hz h' hk))⟩
  | succ n ih =>
    intro acc s hst
    obtain ⟨hg, hl, hsz, gs, hgs, hgo⟩ := W.gen _ _ _ hst
    refine q_builtin F.entry_extend_loop (by decide) ?_
    rw [Around.under_plainId F.plain_extend_loop _]
    show wpAny _ A.in1 (pyNext (.ref I) >>= _) _ _ s
    refine wpAny_bind (q_pyNext_gen hh hl hroom hg hgs hgo (fun v s₁ gs' hb hv => ?_) fun x s₁ hx => ?_)
    · obtain ⟨m, e, ⟨c, hS⟩, hst'⟩ := W.item _ _ _ hst v s₁ gs' hb hv
      cases e
      show wpAny _ A.in1 (updateSeq S (·.push v) >>= _) _ _ _
      refine wpAny_bind (wpAny_updateSeq (s := s₁.setGen gi gs') hS rfl (wpAny_pure ⟨plainId_quiet F.plain_extend_loop _, ih _ _ hst'⟩) ?_ ?_)
      · rw [sizeLine_eq]; omega
      · show (acc.push v).size ≤ sizeLine + 1
        rw [Array.size_push, sizeLine_eq]; omega
    · obtain ⟨e, hz⟩ := W.last _ _ _ hst x s₁ hx
      exact ⟨e, fun h' hk => wpAny_pure (hR _ (hz h' hk))⟩
theorem q_extend {I S : Addr} {gi n : Nat} {Rg : GenEnd} {Y : Protocol} {St : Nat → Array Value → Shared → Prop} {Z : Shared → Prop} (W : Emits prog w A.in1 I S gi Rg Y St Z) (hh : A.handled = none) (hroom : A.depth < recursionLimit) (res : Value) (c₀ : Nat)
    (hg : s.heap.IsGen I gi) (hSI : S ≠ I) (hS : s.heap.get? S = some { cls := .type "list", data := .seq #[] c₀ })
    (h0 : ∀ h' c, h'.get? S = some { cls := .type "list", dict := none, data := .seq #[] c, slots := #[] } → (∀ b o, b ≠ S → s.heap.get? b = some o → h'.get? b = some o) → St n #[] { s with heap := h' })
    (hR : ∀ s', Z s' → R (.ok (.ret res)) s') :
    wpAny (qm prog w) A.in1 (Builtin.List.listExtendWith (.ref S) (.ref I) res)
      (fun fin s' => match fin with | .done f => R (.ok f) s' | .again c' => c'.quiet = true ∧ codeAny (qm prog w) A c' R s') (fun e s' => R (.error e) s') s := by
  unfold Builtin.List.listExtendWith
  refine wpAny_bind (wpAny_typeOf hg.typeIs ?_)
  have h1 : Builtin.List.listSameRef (.ref S) (.ref I) = false := by simp [Builtin.List.listSameRef, hSI]
  have h2 : (Value.type "generator" == Value.type "list") = false := by decide
  have h3 : (Value.type "generator" == Value.type "tuple") = false := by decide
  simp only [h1, h2, h3, Bool.or_false, Bool.false_eq_true, if_false]
  refine wpAny_bind (up (wpAny_pyIter_gen hg ?_))
  refine wpAny_bind (wpAny_holding ?_)
  unfold Builtin.List.listLengthHint
  refine wpAny_bind (wpAny_specialOf hg.typeIs F.gen_no_len ?_)
  show wpAny _ A.in1 (specialOf (Value.ref I) (Str.ofString "__length_hint__") >>= _) _ _ _
  refine wpAny_bind (wpAny_specialOf hg.typeIs F.gen_no_hint ?_)
  refine wpAny_pure ?_
  show wpAny _ A.in1 (rule "list.extend.makes-room" >>= fun _ => Builtin.List.listTouch (.ref S) >>= fun _ =>
    again (.builtin "list.extend.loop" ⟨[.ref S, .ref I, res], []⟩)) _ _ _
  refine wpAny_bind (wpAny_rule ?_)
  refine wpAny_bind ?_
  show wpAny _ A.in1 (updateSeq S (·.push .none) >>= fun _ => updateSeq S (·.pop)) _ _ _
  refine wpAny_bind (wpAny_updateSeq hS rfl ?_)
  have hS₂ := Heap.get?_update_self (Obj.mapSeq (·.push Value.none)) hS rfl
  refine wpAny_updateSeq (hz := by seq_fits) hS₂ rfl ?_
  have hS₃ := Heap.get?_update_self (Obj.mapSeq (·.pop)) hS₂ rfl
  refine wpAny_pure ⟨plainId_quiet F.plain_extend_loop _, q_extend_loop W hh hroom res hR n #[] _ (h0 _ _ hS₃ fun b o hb e => ?_)⟩
  exact (Heap.get?_update_other _ _ (Ne.symm hb)).trans ((Heap.get?_update_other _ _ (Ne.symm hb)).trans e)
theorem q_list_init {I S : Addr} {gi n : Nat} {Rg : GenEnd} {Y : Protocol} {St : Nat → Array Value → Shared → Prop} {Z : Shared → Prop} (W : Emits prog w A.in1 I S gi Rg Y St Z) (hh : A.handled = none) (hroom : A.depth < recursionLimit)
    (hg : s.heap.IsGen I gi) (hSI : S ≠ I) (hS : s.heap.get? S = some { cls := .type "list", data := .seq #[] })
    (h0 : ∀ h' c, h'.get? S = some { cls := .type "list", dict := none, data := .seq #[] c, slots := #[] } → (∀ b o, b ≠ S → s.heap.get? b = some o → h'.get? b = some o) → St n #[] { s with heap := h' })
    (hR : ∀ s', Z s' → R (.ok (.ret .none)) s') :
    wpAny (qm prog w) A.in1 (Builtin.«list.__init__» ⟨[.ref S, .ref I], []⟩)
      (fun fin s' => match fin with | .done f => R (.ok f) s' | .again c' => c'.quiet = true ∧ codeAny (qm prog w) A c' R s') (fun e s' => R (.error e) s') s := by
  show wpAny _ A.in1 (do let old ← Builtin.List.listItems (.ref S); Builtin.List.listUpdate (.ref S) (fun _ => #[]); letGo old.toList.reverse; Builtin.List.listExtendWith (.ref S) (.ref I) .none) _ _ s
  refine wpAny_bind ?_
  unfold Builtin.List.listItems
  refine wpAny_bind (wpAny_seqItems hS rfl (wpAny_pure ?_))
  show wpAny _ A.in1 (updateSeq S (fun _ => #[]) >>= fun _ => letGo (#[] : Array Value).toList.reverse >>= fun _ => Builtin.List.listExtendWith (.ref S) (.ref I) .none) _ _ s
  refine wpAny_bind (wpAny_updateSeq hS rfl ?_)
  have hS₂ := Heap.get?_update_self (Obj.mapSeq (fun _ => (#[] : Array Value))) hS rfl
  have oth : ∀ b o, b ≠ S → s.heap.get? b = some o → (s.heap.update S (Obj.mapSeq (fun _ => (#[] : Array Value)))).get? b = some o :=
    fun b o hb e => (Heap.get?_update_other _ _ (Ne.symm hb)).trans e
  refine wpAny_bind (wpAny_letGo ?_)
  obtain ⟨oI, nm, qn, hoI, hcI, hdI, hsI⟩ := hg
  refine q_extend W hh hroom .none _ ⟨oI, nm, qn, oth _ _ (Ne.symm hSI) hoI, hcI, hdI, hsI⟩ hSI hS₂ (fun h' c hS' hk => h0 h' c hS' fun b o hb e => hk b o hb (oth b o hb e)) hR
theorem q_callType {T newId initId : String} {Bi : Builtin} {args : List Value} {Q Q₁ : Value → Shared → Prop} (ft : TypeCalled T newId initId)
    (hct : checkTypeCall T ⟨args, []⟩ = pure ()) (entryI : entryFor table initId = some Bi) (hneI : initId ≠ "gc.ask")
    (hnew : codeAny (model prog w) A.in1 (.call (.builtin newId) ⟨.type T :: args, []⟩) (wants Q₁ fun _ _ => False) s)
    (hnext : ∀ obj s₁, Q₁ obj s₁ → s₁.TypeIs obj T ∧ argsOk initId ⟨obj :: args, []⟩ ∧
      wpAny (qm prog w) A.in1.in1 (Bi ⟨obj :: args, []⟩)
        (fun fin s' => match fin with | .done f => wants (fun r s₂ => r = .none ∧ Q obj s₂) E (.ok f) s' | .again c' => c'.quiet = true ∧ codeAny (qm prog w) A.in1 c' (wants (fun r s₂ => r = .none ∧ Q obj s₂) E) s')
        (fun e s' => wants (fun r s₂ => r = .none ∧ Q obj s₂) E (.error e) s') s₁) :
    wpAny (qm prog w) A (call (.type T) args) Q E s := by
  obtain ⟨c, tl, hmro⟩ := ft.mro
  have hmade := ft.made
  have hsub := ft.sub
  refine wpAny_call (codeAny_of_tree ?_)
  show wpAny _ _ (callAny (.type T) _) _ _ _
  refine wpAny_pure ⟨Code.quiet_builtin _ (by decide +kernel), q_builtin F.entry_type_call (by decide) ?_⟩
  rw [Around.under_plain (weight_type_call_type T args []) rfl]
  have h1 := ft.notType
  have h2 := ft.canCreate
  repeat (any_goals (first | assumption | wp_step))
  refine codeAny_mono (up_code hnew) fun r s₁ hr => ?_
  cases r with
  | error e => exact hr.elim
  | ok fl =>
    cases fl with
    | ret obj =>
      obtain ⟨hT, hok, hsi⟩ := hnext _ _ hr
      have hli := ft.init.lookup
      have hbi := ft.init.bind obj
      repeat (any_goals (first | assumption | wp_step))
      refine codeAny_mono (q_call_builtin ft.init.plain entryI hneI (ft.init.check _ _ _ _ _ _ _ _ hT hok hsi)) fun r₂ s₂ hr₂ => ?_
      cases r₂ with
      | error e => exact hr₂
      | ok fl₂ =>
        cases fl₂ with
        | ret r =>
          obtain ⟨rfl, hq⟩ := hr₂
          repeat (any_goals (first | assumption | wp_step))
        | _ => exact hr₂.elim
    | _ => exact hr.elim
theorem q_call_list {I : Addr} {gi n : Nat} {Rg : GenEnd} {Y : Protocol} {St : Nat → Array Value → Shared → Prop} {Z : Shared → Prop} {Q : Value → Shared → Prop} (W : Emits prog w A.in1.in1 I s.heap.objs.size gi Rg Y St Z) (hh : A.handled = none) (hroom : A.depth < recursionLimit)
    (hg : s.heap.IsGen I gi)
    (h0 : ∀ h' c, h'.get? s.heap.objs.size = some { cls := .type "list", dict := none, data := .seq #[] c, slots := #[] } → (∀ b o, s.heap.get? b = some o → h'.get? b = some o) → St n #[] { s with heap := h' })
    (hR : ∀ s', Z s' → Q (.ref s.heap.objs.size) s') : wpAny (qm prog w) A (call (.type "list") [.ref I]) Q E s := by
  have hSI : s.heap.objs.size ≠ I := fun e => by
    obtain ⟨o, _, _, ho, _⟩ := hg
    exact Nat.lt_irrefl _ (e ▸ Heap.lt_size ho)
  refine q_callType (Q₁ := fun obj s₁ => obj = .ref s.heap.objs.size ∧ s₁ = { s with heap := s.heap.push { cls := .type "list", data := .seq #[] } }) F.called_list (F.typeCall_list_1 _) F.entry_list_init (by decide)
    (code_list_new _ ⟨rfl, rfl⟩) fun obj s₁ h₁ => ?_
  obtain ⟨rfl, rfl⟩ := h₁
  have hS : (s.heap.push { cls := .type "list", data := .seq #[] }).get? s.heap.objs.size = some { cls := .type "list", data := .seq #[] } := Heap.get?_push_size _ rfl
  refine ⟨⟨_, hS, rfl⟩, F.args_list_init_2 _ _, q_list_init W hh hroom (hg.push _) hSI hS (fun h' c h1 h2 => h0 h' c h1 fun b o e => h2 b o (Nat.ne_of_lt (Heap.lt_size e)) (Heap.get?_push_of_some _ e)) fun s' hz => ⟨rfl, hR _ hz⟩⟩
end
end Mine

end
section
open PySem PySem.W PyProof.Rows
set_option Elab.async false
set_option maxRecDepth 100000
namespace Mine
section
variable {M : Model} {A : Around} {R : GenEnd} {Y : Protocol} {n : Nat} {s₀ : Shared} {c : Code} {fs : List Frame} {s : Shared} {env : Env}
  {K : Flow → Sem Fin} {H : Value → Sem Fin} {gd : Bool → Bool} {lv : List Value → List Value}
theorem seg_exec {st : Stmt} (h : wpAny M (A.over c fs) (exec st env) (fun f s' => Seg M A R Y n s₀ c (K f) fs s') (fun _ _ => False) s) : Seg M A R Y n s₀ c ((exec st env).wrap K H gd lv) fs s :=
  seg_wrap (wpAny_mono h (fun _ _ x => x) fun _ _ x => x.elim)
theorem seg_If {test : PySem.Expr} {body orelse : List Stmt} {pos : Pos}
    (h : wpAny M (A.over c fs) (isTrue test env (eval test env)) (fun b s' => if b = true then Seg M A R Y n s₀ c ((execs body env).wrap K H gd lv) fs s' else Seg M A R Y n s₀ c ((execs orelse env).wrap K H gd lv) fs s') (fun _ _ => False) s) :
    Seg M A R Y n s₀ c ((exec (.If test body orelse pos) env).wrap K H gd lv) fs s := by
  rw [exec_If]
  show Seg M A R Y n s₀ c (.at pos fun _ => (isTrue test env (eval test env) >>= fun b => if b = true then execs body env else execs orelse env).wrap K H gd lv) fs s
  refine seg_at ?_
  rw [Sem.bind_eq_wrap', Sem.wrap_wrap]
  refine seg_wrap (wpAny_mono h (fun b s' hb => ?_) fun _ _ x => x.elim)
  cases b with
  | true => rw [if_pos rfl] at hb; exact hb
  | false => rw [if_neg Bool.false_ne_true] at hb; exact hb
theorem seg_For {target iter : PySem.Expr} {body orelse : List Stmt} {pos : Pos} (hs : ∀ x, foldedSetIterable iter env x = pure x)
    (h : wpAny M (A.over c fs) (eval iter env) (fun x s₁ => wpAny M (A.over c fs) (pyIter x) (fun it s₂ => ∀ k p, (∀ f, k (.ok f) = K f) → Seg M A R Y n s₀ (.forLoop target it body orelse env) (M.den (.forLoop target it body orelse env)) (.ret k none (gd false) (lv []) c p [] :: fs) s₂) (fun _ _ => False) s₁) (fun _ _ => False) s) :
    Seg M A R Y n s₀ c ((exec (.For target iter body orelse pos) env).wrap K H gd lv) fs s := by
  rw [exec_For]
  show Seg M A R Y n s₀ c (.at pos fun _ => (eval iter env >>= fun v => foldedSetIterable iter env v >>= fun x => (standAt iter.pos >>= fun _ => holding [x] (pyIter x) >>= fun it => runOwn (.forLoop target it body orelse env) env)).wrap K H gd lv) fs s
  refine seg_at ?_
  rw [Sem.bind_eq_wrap', Sem.wrap_wrap]
  refine seg_wrap (wpAny_mono h (fun x s₁ h₁ => ?_) fun _ _ x => x.elim)
  rw [hs x]
  refine seg_at ?_
  show Seg M A R Y n s₀ c ((holding [x] (pyIter x) >>= fun it => runOwn (.forLoop target it body orelse env) env).wrap K H gd lv) fs s₁
  rw [Sem.bind_eq_wrap', Sem.wrap_wrap]
  refine seg_wrap (wpAny_holding (wpAny_mono h₁ (fun it s₂ h₂ => ?_) fun _ _ x => x.elim))
  exact seg_call fun p => h₂ _ p fun f => rfl
end
section
variable {prog : Program} {w : World} {A : Around} {R : GenEnd} {Y : Protocol} {n : Nat} {s₀ : Shared} {fs : List Frame} {s : Shared} {env : Env}
theorem seg_func_q {body : List Stmt}
    (h : ∀ H, Seg (qm prog w) A R Y n s₀ (.func body env) ((execs body env).wrap (fun f => .pure (.done (.ret (match f with | .ret v => v | _ => .none)))) H id id) fs s) :
    Seg (qm prog w) A R Y n s₀ (.func body env) ((qm prog w).den (.func body env)) fs s := by
  show Seg _ A R Y n s₀ _ (.point [] fun _ => ((execs body env).onRaise (leaving env)) >>= _) fs s
  refine seg_point ?_
  rw [Sem.onRaise_eq_wrap, Sem.bind_eq_wrap', Sem.wrap_wrap]
  rw [Sem.wrap_congr (execs body env) _ _ (K' := fun f => .pure (.done (.ret (match f with | .ret v => v | _ => .none))))
    (fun f => by cases f <;> rfl) (fun e => rfl)]
  exact h _
theorem seg_forLoop_q {x : Str} {px : Pos} {it : Value} {body : List Stmt}
    (h : wpAny (qm prog w) (A.over (.forLoop (.Name x px) it body [] env) fs) (pyNext it) (fun r s₁ => match r with
      | none => Seg (qm prog w) A R Y n s₀ (.block [] env) (.pure (.done .next)) fs s₁
      | some v => wpAny (qm prog w) (A.over (.forLoop (.Name x px) it body [] env) fs) (storeName env x v) (fun _ s₂ => ∀ H, Seg (qm prog w) A R Y n s₀ (.forLoop (.Name x px) it body [] env) ((execs body env).wrap (fun f => match f with
          | .next | .cont => .pure (.again (.forLoop (.Name x px) it body [] env))
          | .brk => .pure (.done .next)
          | .ret v => .pure (.done (.ret v))) H id id) fs s₂) (fun _ _ => False) s₁) (fun _ _ => False) s) :
    Seg (qm prog w) A R Y n s₀ (.forLoop (.Name x px) it body [] env) ((qm prog w).den (.forLoop (.Name x px) it body [] env)) fs s := by
  show Seg _ A R Y n s₀ _ ((forTurn (.Name x px) it body [] env).onRaise (fun x => do noteFrame x env; theTreesLotGoes x)) fs s
  unfold forTurn
  rw [Sem.onRaise_eq_wrap]
  show Seg _ A R Y n s₀ _ (.at _ fun _ => Sem.wrap _ _ _ _ (((pyNext it).onRaise _) >>= _)) fs s
  refine seg_at ?_
  rw [Sem.bind_eq_wrap', Sem.wrap_wrap]
  refine seg_wrap (wpAny_onRaise (wpAny_mono h (fun r s₁ h₁ => ?_) fun _ _ x => x.elim))
  cases r with
  | none => exact seg_again rfl h₁
  | some v =>
    show Seg _ A R Y n s₀ _ (Sem.wrap _ _ _ _ (assign (.Name x px) env v >>= _)) fs s₁
    rw [Sem.bind_eq_wrap', Sem.wrap_wrap]
    refine seg_wrap (wpAny_assign_Name (wpAny_mono h₁ (fun _ s₂ h₂ => ?_) fun _ _ x => x.elim))
    rw [Sem.bind_eq_wrap', Sem.wrap_wrap]
    rw [Sem.wrap_congr (execs body env) _ _ (K' := fun f => match f with
            | .next | .cont => .pure (.again (.forLoop (.Name x px) it body [] env))
            | .brk => .pure (.done .next)
            | .ret v => .pure (.done (.ret v)))
        (fun f => by cases f <;> rfl) (fun e => rfl)]
    exact h₂ _
end
end Mine

end
section
open PySem PySem.W PyProof.Rows
set_option Elab.async false
set_option maxRecDepth 100000
namespace Mine
namespace F
theorem slot_finditer : Slot "re.Pattern" "finditer" "re.Pattern.finditer" :=
  .of (owner := "re.Pattern") (n := "finditer") (by rw [typeLookup_type, builtinLookup_eq_fast]; kernel_rfl) (by decide +kernel) (by decide +kernel) (by decide +kernel)
    (by first | exact .inl (by decide +kernel) | exact .inr (by decide +kernel)) (by rw [isSubtype_type]; kernel_rfl)
theorem entry_finditer : entryFor table "re.Pattern.finditer" = some Builtin.«re.Pattern.finditer» := entryFor_of_tree (by kernel_rfl)
theorem type_finditer : typeOf (.builtin "re.Pattern.finditer") = pure (.type "method_descriptor") := by show builtinType _ = _; rw [builtinType_eq_fast]; kernel_rfl
theorem args_finditer (a b : Value) : argsOk "re.Pattern.finditer" ⟨[a, b], []⟩ := by unfold argsOk; kernel_rfl
theorem slot_groups : Slot "re.Match" "groups" "re.Match.groups" :=
  .of (owner := "re.Match") (n := "groups") (by rw [typeLookup_type, builtinLookup_eq_fast]; kernel_rfl) (by decide +kernel) (by decide +kernel) (by decide +kernel)
    (by first | exact .inl (by decide +kernel) | exact .inr (by decide +kernel)) (by rw [isSubtype_type]; kernel_rfl)
theorem entry_groups : entryFor table "re.Match.groups" = some Builtin.«re.Match.groups» := entryFor_of_tree (by kernel_rfl)
theorem type_groups : typeOf (.builtin "re.Match.groups") = pure (.type "method_descriptor") := by show builtinType _ = _; rw [builtinType_eq_fast]; kernel_rfl
theorem args_groups (a : Value) : argsOk "re.Match.groups" ⟨[a], []⟩ := by unfold argsOk; kernel_rfl
theorem slot_start : Slot "re.Match" "start" "re.Match.start" :=
  .of (owner := "re.Match") (n := "start") (by rw [typeLookup_type, builtinLookup_eq_fast]; kernel_rfl) (by decide +kernel) (by decide +kernel) (by decide +kernel)
    (by first | exact .inl (by decide +kernel) | exact .inr (by decide +kernel)) (by rw [isSubtype_type]; kernel_rfl)
theorem entry_start : entryFor table "re.Match.start" = some Builtin.«re.Match.start» := entryFor_of_tree (by kernel_rfl)
theorem type_start : typeOf (.builtin "re.Match.start") = pure (.type "method_descriptor") := by show builtinType _ = _; rw [builtinType_eq_fast]; kernel_rfl
theorem args_start0 (a : Value) : argsOk "re.Match.start" ⟨[a], []⟩ := by unfold argsOk; kernel_rfl
theorem args_start1 (a b : Value) : argsOk "re.Match.start" ⟨[a, b], []⟩ := by unfold argsOk; kernel_rfl
theorem slot_group : Slot "re.Match" "group" "re.Match.group" :=
  .of (owner := "re.Match") (n := "group") (by rw [typeLookup_type, builtinLookup_eq_fast]; kernel_rfl) (by decide +kernel) (by decide +kernel) (by decide +kernel)
    (by first | exact .inl (by decide +kernel) | exact .inr (by decide +kernel)) (by rw [isSubtype_type]; kernel_rfl)
theorem entry_group : entryFor table "re.Match.group" = some Builtin.«re.Match.group» := entryFor_of_tree (by kernel_rfl)
theorem type_group : typeOf (.builtin "re.Match.group") = pure (.type "method_descriptor") := by show builtinType _ = _; rw [builtinType_eq_fast]; kernel_rfl
theorem args_group (a : Value) : argsOk "re.Match.group" ⟨[a], []⟩ := by unfold argsOk; kernel_rfl
theorem slot_cnext : Slot "callable_iterator" "__next__" "callable_iterator.__next__" :=
  .of (owner := "callable_iterator") (n := "__next__") (by rw [typeLookup_type, builtinLookup_eq_fast]; kernel_rfl) (by decide +kernel) (by decide +kernel) (by decide +kernel)
    (by first | exact .inl (by decide +kernel) | exact .inr (by decide +kernel)) (by rw [isSubtype_type]; kernel_rfl)
theorem entry_cnext : entryFor table "callable_iterator.__next__" = some Builtin.«callable_iterator.__next__» := entryFor_of_tree (by kernel_rfl)
theorem args_cnext (a : Value) : argsOk "callable_iterator.__next__" ⟨[a], []⟩ := by unfold argsOk; kernel_rfl
theorem slot_citer : Slot "callable_iterator" "__iter__" "callable_iterator.__iter__" :=
  .of (owner := "callable_iterator") (n := "__iter__") (by rw [typeLookup_type, builtinLookup_eq_fast]; kernel_rfl) (by decide +kernel) (by decide +kernel) (by decide +kernel)
    (by first | exact .inl (by decide +kernel) | exact .inr (by decide +kernel)) (by rw [isSubtype_type]; kernel_rfl)
theorem entry_citer : entryFor table "callable_iterator.__iter__" = some Builtin.«dict_keyiterator.__iter__» :=
  entryFor_alias (id' := "dict_keyiterator.__iter__") (by kernel_rfl) rfl (by decide +kernel) (by kernel_rfl)
theorem args_citer (a : Value) : argsOk "callable_iterator.__iter__" ⟨[a], []⟩ := by unfold argsOk; kernel_rfl
theorem slot_search : Slot "_sre.SRE_Scanner" "search" "_sre.SRE_Scanner.search" :=
  .of (owner := "_sre.SRE_Scanner") (n := "search") (by rw [typeLookup_type, builtinLookup_eq_fast]; kernel_rfl) (by decide +kernel) (by decide +kernel) (by decide +kernel)
    (by first | exact .inl (by decide +kernel) | exact .inr (by decide +kernel)) (by rw [isSubtype_type]; kernel_rfl)
theorem entry_search : entryFor table "_sre.SRE_Scanner.search" = some Builtin.«_sre.SRE_Scanner.search» := entryFor_of_tree (by kernel_rfl)
theorem type_search : typeOf (.builtin "_sre.SRE_Scanner.search") = pure (.type "method_descriptor") := by show builtinType _ = _; rw [builtinType_eq_fast]; kernel_rfl
theorem args_search (a : Value) : argsOk "_sre.SRE_Scanner.search" ⟨[a], []⟩ := by unfold argsOk; kernel_rfl
end F
end Mine

end
section
open PySem PySem.W PyProof.Rows
set_option Elab.async false
set_option maxRecDepth 100000
namespace Mine
namespace F
theorem slot_sc_ga : Slot "_sre.SRE_Scanner" "__getattribute__" "object.__getattribute__" :=
  .of (owner := "object") (n := "__getattribute__") (by rw [typeLookup_type, builtinLookup_eq_fast]; kernel_rfl) (by decide +kernel) (by decide +kernel) (by decide +kernel)
    (by first | exact .inl (by decide +kernel) | exact .inr (by decide +kernel)) (by rw [isSubtype_type]; kernel_rfl)
theorem slot_md_get : Slot "method_descriptor" "__get__" "method_descriptor.__get__" :=
  .of (owner := "method_descriptor") (n := "__get__") (by rw [typeLookup_type, builtinLookup_eq_fast]; kernel_rfl) (by decide +kernel) (by decide +kernel) (by decide +kernel)
    (by first | exact .inl (by decide +kernel) | exact .inr (by decide +kernel)) (by rw [isSubtype_type]; kernel_rfl)
theorem md_no_set : typeLookup (.type "method_descriptor") "__set__" = pure none := by rw [typeLookup_type, builtinLookup_eq_fast]; kernel_rfl
theorem md_no_delete : typeLookup (.type "method_descriptor") "__delete__" = pure none := by rw [typeLookup_type, builtinLookup_eq_fast]; kernel_rfl
theorem sc_no_getattr : typeLookup (.type "_sre.SRE_Scanner") "__getattr__" = pure none := by rw [typeLookup_type, builtinLookup_eq_fast]; kernel_rfl
theorem entry_obj_ga : entryFor table "object.__getattribute__" = some Builtin.«object.__getattribute__» := entryFor_of_tree (by kernel_rfl)
theorem args_obj_ga (a b : Value) : argsOk "object.__getattribute__" ⟨[a, b], []⟩ := by unfold argsOk; kernel_rfl
theorem entry_md_get : entryFor table "method_descriptor.__get__" = some Builtin.«method_descriptor.__get__» := entryFor_of_tree (by kernel_rfl)
theorem args_md_get (a b c : Value) : argsOk "method_descriptor.__get__" ⟨[a, b, c], []⟩ := by unfold argsOk; kernel_rfl
theorem sub_sc_self : isSubtype (.type "_sre.SRE_Scanner") (.type "_sre.SRE_Scanner") = pure true := by rw [isSubtype_type]; kernel_rfl
theorem owner_search : ".".intercalate ("_sre.SRE_Scanner.search".cutAt '.').dropLast = "_sre.SRE_Scanner" := by decide +kernel
theorem sub_search_owner : isSubtype (.type "_sre.SRE_Scanner") (.type (".".intercalate ("_sre.SRE_Scanner.search".cutAt '.').dropLast)) = pure true := by
  rw [owner_search, isSubtype_type]; kernel_rfl
end F
section
variable {prog : Program} {w : World} {A : Around} {E : Value → Shared → Prop} {h : Heap} {g : Array GenState} {d : Drawn} {t : Nat} {os : OsState} {a : Addr} {vs : Array Value}
set_option pp.maxSteps 1000
set_option maxHeartbeats 1000000 in
theorem getattr_search {Q : Value → Shared → Prop} (hx : h.get? a = some { cls := .type "_sre.SRE_Scanner", dict := none, data := .fields vs, slots := #[] })
    (hq : Q (.ref h.objs.size) ⟨h.push { cls := .type "builtin_function_or_method", data := .fields #[.builtin "_sre.SRE_Scanner.search", .ref a] }, g, d, t + 1, os⟩) :
    wpAny (model prog w) A (getAttr (.ref a) "search") Q E ⟨h, g, d, t, os⟩ := by
  have hT : (⟨h, g, d, t + 1, os⟩ : Shared).TypeIs (.ref a) "_sre.SRE_Scanner" := ⟨_, hx, rfl⟩
  have f2 := F.slot_sc_ga.lookup
  have f3 := F.slot_sc_ga.bind (.ref a)
  have f4 := F.sc_no_getattr
  have f5 := F.slot_search.lookup
  have f6 := F.type_search
  have f7 := F.slot_md_get.lookup
  have f8 := F.md_no_set
  have f9 := F.md_no_delete
  unfold getAttr getAttrBy
  repeat (any_goals (first | assumption | wp_step))
  refine codeAny_call_builtin F.slot_sc_ga.plain F.entry_obj_ga (F.slot_sc_ga.check _ _ _ _ _ _ _ _ hT (F.args_obj_ga _ _) ?_)
  repeat (any_goals (first | assumption | wp_step))
  have hT5 : (⟨h, g, d, t + 1, os⟩ : Shared).TypeIs (.builtin "_sre.SRE_Scanner.search") "method_descriptor" := F.type_search
  refine codeAny_call_builtin F.slot_md_get.plain F.entry_md_get (F.slot_md_get.check _ _ _ _ _ _ _ _ hT5 (F.args_md_get _ _ _) ?_)
  have f10 := F.sub_search_owner
  have hcl : (typeOf (.ref a)) = typeOf (.ref a) := rfl
  repeat (any_goals (first | assumption | wp_step))
end
end Mine

end
section
open PySem PySem.W PyProof.Rows
set_option Elab.async false
set_option maxRecDepth 100000
namespace Mine
open PySem.Builtin.Re
theorem reNamed_finditer (id f : String) (v : Value) : reNamed id f ["string", "pos", "endpos"] 1 [v] [] = pure [some v, none, none] := by rfl
namespace F
theorem str_not_bytearray : isSubtype (.type "str") (.type "bytearray") = pure false := by rw [isSubtype_type]; kernel_rfl
end F
section
variable {prog : Program} {w : World} {A : Around} {E : Value → Shared → Prop} {h : Heap} {g : Array GenState} {d : Drawn} {t : Nat} {os : OsState} {p c : Addr} {pp pf : Value} {groups : Nat} {items : Array Value} {n : Nat} {x : Str} {tx : Tok}
set_option pp.maxSteps 1000
def patObj (pp pf : Value) (groups : Nat) (c : Addr) : Obj := { cls := .type "re.Pattern", dict := none, data := .fields #[pp, pf, .int groups 0, .none, .none, .ref c, .int 0 0], slots := #[] }
def codeObj (items : Array Value) (n : Nat) : Obj := { cls := .type "tuple", dict := none, data := .seq items n, slots := #[] }
def scanObj (p : Addr) (x : Str) (tx : Tok) (pos : Int) (must : Bool) : Obj := { cls := .type "_sre.SRE_Scanner", data := .fields #[.ref p, .str x tx, .int pos 0, .int 0 0, .int x.cps.size 0, .bool must] }
def methObj (a : Addr) : Obj := { cls := .type "builtin_function_or_method", data := .fields #[.builtin "_sre.SRE_Scanner.search", .ref a] }
def iterObj (a : Addr) : Obj := { cls := .type "callable_iterator", data := .fields #[.ref a, .none, .bool false] }
theorem reTarget_str {id f : String} {Q : ReTarget → Shared → Prop} (hp : h.get? p = some (patObj pp pf groups c)) (hc : h.get? c = some (codeObj items n)) (hx : x.cps.size < 2 ^ 63)
    (hq : Q { pattern := .ref p, string := .str x tx, code := (items.map reRawOf).map (·.toNat), text := x.cps, kind := 0, groups := groups, pos := 0, lim := x.cps.size } ⟨h, g, d, t, os⟩) :
    wpAny (model prog w) A (reTarget id f ⟨[.ref p, .str x tx], []⟩) Q E ⟨h, g, d, t, os⟩ := by
  have hn := reNamed_finditer id f (.str x tx)
  unfold patObj at hp
  unfold codeObj at hc
  unfold reTarget
  repeat (any_goals (first | assumption | wp_step))
  have e1 : min (0 : Int).toNat x.cps.size = 0 := by simp
  have e2 : min ((2 : Int) ^ 63 - 1).toNat x.cps.size = x.cps.size := by omega
  have e3 : ((groups : Int)).toNat = groups := rfl
  refine (congrArg (fun r => Q r ⟨h, g, d, t, os⟩) ?_ : _ = _).mpr hq
  exact ReTarget.mk.injEq .. |>.mpr ⟨rfl, rfl, rfl, rfl, rfl, e3, e1, e2⟩
theorem reNotHeld_str {id : String} {Q : Unit → Shared → Prop} {s : Shared} (hq : Q () s) : wpAny (model prog w) A (reNotHeld id (.str x tx)) Q E s := by
  have f1 := F.str_not_bytearray
  unfold reNotHeld
  repeat (any_goals (first | assumption | wp_step))
theorem newFields_at {M : Model} {T : String} {vs : List Value} {Q : Value → Shared → Prop} {s : Shared} (hz : vs.length ≤ 100) (hq : Q (.ref s.heap.objs.size) { s with heap := s.heap.push { cls := .type T, data := .fields vs.toArray } }) :
    wpAny M A (newFields T vs) Q E s := by
  unfold newFields
  exact wpAny_newObj_type hq (by size_fits)
theorem finditer_call {Q : Value → Shared → Prop} (hp : h.get? p = some (patObj pp pf groups c)) (hc : h.get? c = some (codeObj items n)) (hx : x.cps.size < 2 ^ 63)
    (hq : Q (.ref (h.objs.size + 2)) ⟨((h.push (scanObj p x tx 0 false)).push (methObj h.objs.size)).push (iterObj h.objs.size.succ), g, d, t + 1, os⟩) :
    wpAny (model prog w) A (call (.builtin "re.Pattern.finditer") [.ref p, .str x tx]) Q E ⟨h, g, d, t, os⟩ := by
  have hT : (⟨h, g, d, t, os⟩ : Shared).TypeIs (.ref p) "re.Pattern" := ⟨_, hp, rfl⟩
  refine wpAny_call (codeAny_call_builtin F.slot_finditer.plain F.entry_finditer (F.slot_finditer.check _ _ _ _ _ _ _ _ hT (F.args_finditer _ _) ?_))
  show wpAny _ _ (Builtin.«re.Pattern.finditer» _) _ _ _
  unfold Builtin.«re.Pattern.finditer»
  refine wpAny_bind (reTarget_str hp hc hx (wpAny_bind (reNotHeld_str (wpAny_bind (newFields_at (Nat.le_of_ble_eq_true rfl) (wpAny_bind (wpAny_holding ?_)))))))
  have hs : (Heap.push h (scanObj p x tx 0 false)).get? h.objs.size = some (scanObj p x tx 0 false) := Heap.get?_push_size _ rfl
  refine getattr_search hs (wpAny_bind (newFields_at (Nat.le_of_ble_eq_true rfl) (wpAny_pure ?_)))
  have e1 : (Heap.push h (scanObj p x tx 0 false)).objs.size = h.objs.size.succ := Heap.size_push ..
  have e2 : ((Heap.push h (scanObj p x tx 0 false)).push (methObj h.objs.size)).objs.size = h.objs.size + 2 := by rw [Heap.size_push, e1]
  show Q (.ref ((Heap.push h (scanObj p x tx 0 false)).push (methObj h.objs.size)).objs.size) ⟨((Heap.push h (scanObj p x tx 0 false)).push (methObj h.objs.size)).push (iterObj (Heap.push h (scanObj p x tx 0 false)).objs.size), g, d, t + 1, os⟩
  rw [e2, e1]
  exact hq
end
end Mine

end
section
open PySem PySem.W PyProof.Rows
set_option Elab.async false
set_option maxRecDepth 100000
namespace Mine
open PySem.Builtin.Re
section
variable {prog : Program} {w : World} {A : Around} {E : Value → Shared → Prop} {s : Shared}
theorem q_noCollect {stop : String} {Q : Unit → Shared → Prop} (hq : Q () s) : wpAny (qm prog w) A (noCollectionInside stop) Q E s := by
  unfold noCollectionInside
  refine wpAny_bind (wpAny_runValue (codeAny_of_tree ?_))
  show wpAny _ _ (ret (.bool false)) _ _ _
  refine wpAny_pure ?_
  show wpAny _ _ (if ((Value.bool false) != .bool false) = true then _ else _) _ _ _
  rw [if_neg (by decide)]
  exact wpAny_pure hq
end
theorem runFor_add (a b : Nat) (m : Sre.M) : m.runFor (a + b) = (m.runFor a).runFor b := by
  induction a generalizing m with
  | zero => rw [Nat.zero_add]; rfl
  | succ a ih =>
    rw [Nat.succ_add]
    show (if m.outcome.isSome then m else Sre.M.runFor (a + b) m.step) = Sre.M.runFor b (if m.outcome.isSome then m else Sre.M.runFor a m.step)
    by_cases h : m.outcome.isSome = true
    · rw [if_pos h, if_pos h]
      cases b with
      | zero => rfl
      | succ b => show m = (if m.outcome.isSome then m else _); rw [if_pos h]
    · rw [if_neg h, if_neg h]; exact ih _
theorem runFor_done {m : Sre.M} (h : m.outcome.isSome = true) (b : Nat) : m.runFor b = m := by
  cases b with
  | zero => rfl
  | succ b => show (if m.outcome.isSome then m else _) = m; rw [if_pos h]
section
variable {M : Model} {A : Around} {E : Value → Shared → Prop} {s : Shared}
theorem reDrive_ends {Q : Sre.M → Shared → Prop} {m' : Sre.M} (hm : m'.outcome.isSome = true) (hq : Q m' s) : ∀ (turns k : Nat) (m : Sre.M), m.runFor k = m' → k ≤ 4 * turns → 0 < turns → wpAny M A (reDrive turns m) Q E s := by
  intro turns
  induction turns with
  | zero => intro k m _ _ h; exact absurd h (Nat.lt_irrefl _)
  | succ turns ih =>
    intro k m hk hle _
    show wpAny M A (if (m.runFor 4).outcome.isSome then pure (m.runFor 4) else (rule "sre.turn" >>= fun _ => reDrive turns (m.runFor 4))) Q E s
    by_cases h : (m.runFor 4).outcome.isSome = true
    · rw [if_pos h]
      have e : m.runFor 4 = m' := by
        rcases Nat.le_total k 4 with h4 | h4
        · obtain ⟨j, e⟩ := Nat.exists_eq_add_of_le h4
          rw [e, runFor_add, hk, runFor_done hm]
        · obtain ⟨j, rfl⟩ := Nat.exists_eq_add_of_le h4
          rw [runFor_add, runFor_done h] at hk
          exact hk
      rw [e]; exact wpAny_pure hq
    · rw [if_neg h]
      have h4 : 4 ≤ k := by
        rcases Nat.lt_or_ge k 4 with h4 | h4
        · exfalso
          obtain ⟨j, e⟩ := Nat.exists_eq_add_of_le (Nat.le_of_lt h4)
          rw [e, runFor_add, hk, runFor_done hm] at h
          exact h hm
        · exact h4
      obtain ⟨j, rfl⟩ := Nat.exists_eq_add_of_le h4
      rw [runFor_add] at hk
      cases turns with
      | zero =>
        have : j = 0 := by omega
        subst this
        exfalso
        have e : m.runFor 4 = m' := hk
        rw [e] at h
        exact h hm
      | succ t => exact wpAny_bind (wpAny_rule (ih j _ hk (by omega) (Nat.succ_pos _)))
theorem reRun_matched {Q : Option Sre.M → Shared → Prop} {m m' : Sre.M} {k : Nat} (hk : m.runFor k = m') (hle : k ≤ 1000000) (ho : m'.outcome = some .matched) (hq : Q (some m') s) : wpAny M A (reRunToEnd m) Q E s := by
  unfold reRunToEnd
  refine wpAny_bind (reDrive_ends (m' := m') (by rw [ho]; rfl) ?_ _ k m hk (by omega) (by decide))
  refine wpAny_bind (wpAny_forIn_list _ (fun _ _ s' => s' = s) _ ?_ ?_ _ _ rfl)
  · rintro i rest _ s' rfl
    split
    · exact wpAny_bind (wpAny_rule (wpAny_pure rfl))
    · exact wpAny_pure rfl
  · rintro _ s' rfl
    rw [ho]
    exact wpAny_pure hq
theorem reRun_failed {Q : Option Sre.M → Shared → Prop} {m m' : Sre.M} {k : Nat} (hk : m.runFor k = m') (hle : k ≤ 1000000) (ho : m'.outcome = some .failed) (hq : Q none s) : wpAny M A (reRunToEnd m) Q E s := by
  unfold reRunToEnd
  refine wpAny_bind (reDrive_ends (m' := m') (by rw [ho]; rfl) ?_ _ k m hk (by omega) (by decide))
  refine wpAny_bind (wpAny_forIn_list _ (fun _ _ s' => s' = s) _ ?_ ?_ _ _ rfl)
  · rintro i rest _ s' rfl
    split
    · exact wpAny_bind (wpAny_rule (wpAny_pure rfl))
    · exact wpAny_pure rfl
  · rintro _ s' rfl
    rw [ho]
    exact wpAny_pure hq
end
end Mine

end
section
open PySem PySem.W PyProof.Rows
set_option Elab.async false
set_option maxRecDepth 100000
namespace Mine
open PySem.Builtin.Re
def tupObj (m : Sre.M) (spans : List Value) : Obj := { cls := .type "tuple", data := .seq (Value.int m.start 0 :: Value.int m.handed 0 :: spans).toArray }
def matchObj (p : Addr) (x : Str) (tx : Tok) (li : Int) (tup : Addr) : Obj := { cls := .type "re.Match", data := .fields #[.str x tx, .ref p, .int 0 0, .int x.cps.size 0, .int li 0, .ref tup] }
section
variable {M : Model} {prog : Program} {w : World} {A : Around} {E : Value → Shared → Prop} {h : Heap} {g : Array GenState} {d : Drawn} {t : Nat} {os : OsState} {p c a : Addr} {pp pf : Value} {groups : Nat} {items : Array Value} {n : Nat} {x : Str} {tx : Tok}
set_option pp.maxSteps 1000
theorem reWholeTarget_str {Q : ReTarget → Shared → Prop} (hp : h.get? p = some (patObj pp pf groups c)) (hc : h.get? c = some (codeObj items n))
    (hq : Q { pattern := .ref p, string := .str x tx, code := (items.map reRawOf).map (·.toNat), text := x.cps, kind := 0, groups := groups, pos := 0, lim := x.cps.size } ⟨h, g, d, t, os⟩) :
    wpAny M A (reWholeTarget (.ref p) (.str x tx)) Q E ⟨h, g, d, t, os⟩ := by
  unfold patObj at hp
  unfold codeObj at hc
  unfold reWholeTarget
  repeat (any_goals (first | assumption | wp_step))
theorem newTuple_at {vs : List Value} {Q : Value → Shared → Prop} {s : Shared} (hz : vs.length ≤ 100) (hq : Q (.ref s.heap.objs.size) { s with heap := s.heap.push { cls := .type "tuple", data := .seq vs.toArray } }) :
    wpAny M A (newTuple vs) Q E s := by
  unfold newTuple
  exact wpAny_newObj_type hq (by size_fits)
theorem newMatch0 {m : Sre.M} {Q : Value → Shared → Prop}
    (hq : Q (.ref h.objs.size.succ) ⟨(h.push (tupObj m [])).push (matchObj p x tx m.lastindex h.objs.size), g, d, t, os⟩) :
    wpAny M A (reNewMatch (.ref p) (.str x tx) 0 0 x.cps.size m) Q E ⟨h, g, d, t, os⟩ := by
  unfold reNewMatch
  refine wpAny_bind (newTuple_at (Nat.le_of_ble_eq_true rfl) (newFields_at (Nat.le_of_ble_eq_true rfl) ?_))
  have e1 : (Heap.push h (tupObj m [])).objs.size = h.objs.size.succ := Heap.size_push ..
  show Q (.ref (Heap.push h (tupObj m [])).objs.size) _
  rw [e1]
  exact hq
theorem newMatch2 {m : Sre.M} {b1 e1 b2 e2 : Nat} {Q : Value → Shared → Prop} (hm : m.marks = #[some b1, some e1, some b2, some e2]) (hl : m.lastmark = 3) (h1 : b1 ≤ e1) (h2 : b2 ≤ e2)
    (hq : Q (.ref h.objs.size.succ) ⟨(h.push (tupObj m [.int b1 0, .int e1 0, .int b2 0, .int e2 0])).push (matchObj p x tx m.lastindex h.objs.size), g, d, t, os⟩) :
    wpAny M A (reNewMatch (.ref p) (.str x tx) 2 0 x.cps.size m) Q E ⟨h, g, d, t, os⟩ := by
  unfold reNewMatch
  have hr : List.range 2 = [0, 1] := rfl
  have n1 : ¬ e1 < b1 := by omega
  have n2 : ¬ e2 < b2 := by omega
  rw [hr, hm, hl]
  show wpAny M A (if (List.any [0, 1] _) = true then _ else _) Q E _
  rw [if_neg (by simp [n1, n2])]
  refine wpAny_bind (newTuple_at (Nat.le_of_ble_eq_true rfl) (newFields_at (Nat.le_of_ble_eq_true rfl) ?_))
  have e1' : (Heap.push h (tupObj m [.int b1 0, .int e1 0, .int b2 0, .int e2 0])).objs.size = h.objs.size.succ := Heap.size_push ..
  show Q (.ref (Heap.push h (tupObj m [.int b1 0, .int e1 0, .int b2 0, .int e2 0])).objs.size) _
  rw [e1']
  exact hq
theorem scan_start {pos : Nat} {must : Bool} {Q : Fin → Shared → Prop} (hs : h.get? a = some (scanObj p x tx pos must)) (hp : h.get? p = some (patObj pp pf groups c)) (hc : h.get? c = some (codeObj items n))
    (hq : wpAny (qm prog w) A (do
      match ← reRunToEnd (Sre.forSearch ((items.map reRawOf).map (·.toNat)) x.cps groups pos x.cps.size must) with
      | none => setField (.ref a) 2 (rawInt (-1)); ret .none
      | some m =>
        setField (.ref a) 2 (rawInt m.handed)
        setField (.ref a) 5 (.bool (m.handed == m.start))
        ret (← reNewMatch (.ref p) (.str x tx) groups 0 x.cps.size m)) Q E ⟨h, g, d, t, os⟩) :
    wpAny (qm prog w) A (Builtin.«_sre.SRE_Scanner.search» ⟨[.ref a], []⟩) Q E ⟨h, g, d, t, os⟩ := by
  have hs' := hs
  unfold scanObj at hs
  unfold Builtin.«_sre.SRE_Scanner.search» reScan
  have n0 : ¬ ((pos : Int) < 0) := by omega
  repeat ((fail_if_success (with_reducible show wpAny _ _ (noCollectionInside _) _ _ _)); wp_step)
  refine q_noCollect ?_
  dsimp only
  refine wpAny_bind (reWholeTarget_str hp hc ?_)
  cases must <;> exact hq
end
end Mine

end
section
open PySem PySem.W PyProof.Rows
set_option Elab.async false
set_option maxRecDepth 100000
namespace Mine
open PySem.Builtin.Re
section
variable {M : Model} {prog : Program} {w : World} {A : Around} {E : Value → Shared → Prop} {h : Heap} {g : Array GenState} {d : Drawn} {t : Nat} {os : OsState} {me a : Addr} {vs : Array Value}
set_option pp.maxSteps 1000
theorem sig_search : Manifest.signature? "_sre.SRE_Scanner.search" = some ⟨.nothing, "SRE_Scanner.search", "search", .self, []⟩ := by kernel_rfl
theorem kind_search : builtinKind "_sre.SRE_Scanner.search" = some .method := by decide +kernel
theorem var_search : Manifest.varargsMethods.contains "_sre.SRE_Scanner.search" = false := by decide +kernel
theorem checkArgs_search (v : Value) : Bind.checkArgs "_sre.SRE_Scanner.search" ⟨.nothing, "SRE_Scanner.search", "search", .self, []⟩ ⟨[v], []⟩ = pure () := by kernel_rfl
theorem last1 : Bind.lastOf "_sre.SRE_Scanner" = "SRE_Scanner" := by decide +kernel
theorem last2 : Bind.lastOf "_sre.SRE_Scanner.search" = "search" := by decide +kernel
theorem full_search : (toString (Bind.lastOf "_sre.SRE_Scanner") ++ toString "." ++ toString "search") = "SRE_Scanner.search" := by rw [last1]; decide +kernel
theorem bound_search {Q : Unit → Shared → Prop} (hs : h.get? a = some { cls := .type "_sre.SRE_Scanner", dict := none, data := .fields vs, slots := #[] }) (hq : Q () ⟨h, g, d, t, os⟩) :
    wpAny M A (checkBoundCall "_sre.SRE_Scanner.search" ⟨[.ref a], []⟩) Q E ⟨h, g, d, t, os⟩ := by
  have hT : (⟨h, g, d, t, os⟩ : Shared).TypeIs (.ref a) "_sre.SRE_Scanner" := ⟨_, hs, rfl⟩
  have f1 : isSubtype (.type "_sre.SRE_Scanner") (.type "module") = pure false := by rw [isSubtype_type]; kernel_rfl
  unfold checkBoundCall
  rw [sig_search, kind_search, last2]
  simp only [var_search]
  repeat ((fail_if_success (with_reducible show wpAny _ _ (Bind.checkArgs _ _ _) _ _ _)); wp_step)
  show wpAny M A (Bind.checkArgs "_sre.SRE_Scanner.search" ⟨.nothing, toString (Bind.lastOf "_sre.SRE_Scanner") ++ toString "." ++ toString "search", "search", .self, []⟩ ⟨[.ref a], []⟩) Q E _
  rw [full_search]
  exact wpAny_of_eq (checkArgs_search _) hq
theorem q_meth_call {R : Result → Shared → Prop} (hm : h.get? me = some (methObj a)) (hs : h.get? a = some { cls := .type "_sre.SRE_Scanner", dict := none, data := .fields vs, slots := #[] })
    (hq : wpAny (qm prog w) A.in1 (Builtin.«_sre.SRE_Scanner.search» ⟨[.ref a], []⟩) (fun fin s' => match fin with | .done f => R (.ok f) s' | .again c' => c'.quiet = true ∧ codeAny (qm prog w) A c' R s') (fun e s' => R (.error e) s') ⟨h, g, d, t, os⟩) :
    codeAny (qm prog w) A (.call (.ref me) ⟨[], []⟩) R ⟨h, g, d, t, os⟩ := by
  refine codeAny_of_tree ?_
  show wpAny _ A.in1 (callAny (.ref me) ⟨[], []⟩) _ _ _
  unfold callAny
  refine wpAny_bind (wpAny_load hm ?_)
  show wpAny _ A.in1 (checkBoundCall "_sre.SRE_Scanner.search" ⟨[.ref a], []⟩ >>= fun _ => again (.builtin "_sre.SRE_Scanner.search" ⟨[.ref a], []⟩) >>= fun f => pure f) _ _ _
  refine wpAny_bind (bound_search hs ?_)
  refine wpAny_pure ⟨plainId_quiet F.slot_search.plain _, q_builtin F.entry_search (by decide) ?_⟩
  rw [Around.under_plainId F.slot_search.plain _]
  exact hq
theorem eq_none_match {m : Addr} {Q : Bool → Shared → Prop} (hu : A.units + 10 < cLine) (hm : h.get? m = some { cls := .type "re.Match", dict := none, data := .fields vs, slots := #[] }) (hq : Q false ⟨h, g, d, t, os⟩) :
    wpAny (model prog w) A (eqBool .none (.ref m)) Q E ⟨h, g, d, t, os⟩ := by
  have hT : (⟨h, g, d, t, os⟩ : Shared).TypeIs (.ref m) "re.Match" := ⟨_, hm, rfl⟩
  have f3 : isSubtype (.type "re.Match") (.type "NoneType") = pure false := by rw [isSubtype_type]; kernel_rfl
  have slotM : Slot "re.Match" (cmpInfo .Eq).2.2 "object.__eq__" :=
    .of (owner := "object") (n := "__eq__") (by rw [typeLookup_type, builtinLookup_eq_fast]; kernel_rfl) (by decide +kernel) (by decide +kernel) (by decide +kernel)
      (by first | exact .inl (by decide +kernel) | exact .inr (by decide +kernel)) (by rw [isSubtype_type]; kernel_rfl)
  have hN : (⟨h, g, d, t, os⟩ : Shared).TypeIs .none "NoneType" := rfl
  have entO : entryFor table "object.__eq__" = some Builtin.«object.__eq__» := entryFor_of_tree (by kernel_rfl)
  have argN : ∀ a b, argsOk "NoneType.__eq__" ⟨[a, b], []⟩ := fun a b => by unfold argsOk; kernel_rfl
  have argO : ∀ a b, argsOk "object.__eq__" ⟨[a, b], []⟩ := fun a b => by unfold argsOk; kernel_rfl
  unfold eqBool
  refine wpAny_holding ?_
  show wpAny _ _ (richCompare .Eq .none (.ref m) >>= truthOfDropped) _ _ _
  refine wpAny_bind ?_
  unfold richCompare
  refine wpAny_holding (wpAny_bind (wpAny_cRoomFor (by omega) ?_))
  show wpAny _ _ (typeOf .none >>= _) _ _ _
  refine wpAny_bind (wpAny_typeOf hN (wpAny_bind (wpAny_typeOf hT ?_)))
  show wpAny _ _ (isSubtype (.type "re.Match") (.type "NoneType") >>= _) _ _ _
  refine wpAny_bind (wpAny_of_eq f3 ?_)
  show wpAny _ _ (tryCompare .none (cmpInfo .Eq).2.1 (.ref m) >>= _) _ _ _
  refine wpAny_bind (wpAny_tryCompare_declines hN PySem.F.slot_NoneType_eq (wpAny_call_entry PySem.F.slot_NoneType_eq hN PySem.F.entry_NoneType_eq (wpAny_pure ⟨_, rfl, rfl, ?_⟩) (argN _ _)))
  show wpAny _ _ (tryCompare (.ref m) (cmpInfo .Eq).2.2 .none >>= _) _ _ _
  refine wpAny_bind (wpAny_tryCompare_declines hT slotM (wpAny_call_entry slotM hT entO (wpAny_pure ⟨_, rfl, rfl, ?_⟩) (argO _ _)))
  show wpAny _ _ (rule "compare.eq-identity" >>= _) _ _ _
  exact wpAny_bind (wpAny_rule (wpAny_pure (wpAny_pure hq)))
end
end Mine

end
section
open PySem PySem.W PyProof.Rows
set_option Elab.async false
set_option maxRecDepth 100000
namespace Mine
section
variable {prog : Program} {w : World} {A : Around} {E : Value → Shared → Prop} {R : Result → Shared → Prop} {s : Shared}
theorem f_builtin {id : String} {args : Args} {b : Builtin} (hb : entryFor table id = some b) (hne : id ≠ "gc.ask") (hci : (id != "callable_iterator.__next__") = true)
    (h : wpF (qm prog w) (A.under (.builtin id args)) (b args)
      (fun fin s' => match fin with | .done f => R (.ok f) s' | .again c' => c'.quiet = true ∧ codeF (qm prog w) A c' R s') (fun e s' => R (.error e) s') s) :
    codeF (qm prog w) A (.builtin id args) R s := by
  refine codeF_of_tree hci ?_
  rw [q_den_id hne, den_builtin hb]
  exact h
theorem f_call_builtin {id : String} {args : Args} {b : Builtin} (hq : plainId id = true) (hb : entryFor table id = some b) (hne : id ≠ "gc.ask") (hci : (id != "callable_iterator.__next__") = true)
    (h : wpAny (qm prog w) A.in1 (checkBuiltinCall id args) (fun _ s₁ => wpF (qm prog w) A.in1 (b args)
      (fun fin s' => match fin with | .done f => R (.ok f) s' | .again c' => c'.quiet = true ∧ codeF (qm prog w) A c' R s') (fun e s' => R (.error e) s') s₁)
      (fun e s' => R (.error e) s') s) : codeF (qm prog w) A (.call (.builtin id) args) R s := by
  refine codeF_of_tree rfl ?_
  show wpF _ A.in1 (do checkBuiltinCall id args; again (.builtin id args)) _ _ s
  refine wpF_bind (wpF_of (wpAny_mono h (fun _ s₁ h₁ => wpF_pure (And.intro (plainId_quiet hq args) (f_builtin hb hne hci (by rw [Around.under_plainId hq args]; exact h₁)))) fun _ _ h' => h'))
theorem f_call_entry {T : String} {name : Str} {id : String} {b : Builtin} {self : Value} {rest : List Value} {Q : Value → Shared → Prop} (h : Slot T name id) (hT : s.TypeIs self T)
    (hb : entryFor table id = some b) (hne : id ≠ "gc.ask") (hci : (id != "callable_iterator.__next__") = true)
    (hc : wpF (qm prog w) A.in1 (b ⟨self :: rest, []⟩) (fun fin s' => ∃ v, fin = .done (.ret v) ∧ Q v s') E s)
    (ha : argsOk id ⟨self :: rest, []⟩ := by rfl) :
    wpF (qm prog w) A (call (.builtin id) (self :: rest)) Q E s := by
  refine wpF_call (f_call_builtin h.plain hb hne hci (h.check _ _ _ _ _ _ _ _ hT ha (wpF_mono hc (fun fin s' h' => ?_) fun _ _ h' => h')))
  obtain ⟨v, rfl, hv⟩ := h'; exact hv
theorem f_callSpecial {M : Model} {self : Value} {T : String} {name : Str} {id : String} {args : List Value} {Q : Option Value → Shared → Prop} (hT : s.TypeIs self T) (h : Slot T name id)
    (hc : wpF M A (call (.builtin id) (self :: args) []) (fun v => Q (some v)) E s) : wpF M A (callSpecial? self name args []) Q E s := by
  simp only [callSpecial?]
  refine wpF_bind (wpF_of (wpAny_specialOf hT h.lookup ?_))
  show wpF M A (holding _ (bindSpecial (.builtin id) self >>= _)) Q E s
  refine wpF_holding ?_
  rw [h.bind]
  exact wpF_bind (m := call (.builtin id) (self :: args) []) (wpF_mono hc (fun v s' hv => wpF_pure hv) fun _ _ x => x)
/-- a generator's next item -/
theorem f_pyNext_gen {a : Addr} {g n : Nat} {gs : GenState} {Rg : GenEnd} {Y : Protocol} {Q : Option Value → Shared → Prop} (hh : A.handled = none)
    (hl : s.heap.NoLimit) (hroom : A.depth < recursionLimit) (hg : s.heap.IsGen a g) (hgs : s.gens[g]? = some gs)
    (hgo : GoesF (qm prog w) A.in1 Rg Y n gs (.send .none) (s.setGen g .running))
    (hY : ∀ v s₁ gs', gs'.bare = true → Y (n - 1) (s.setGen g .running) v s₁ (fun r' s'' => match n with | 0 => False | m + 1 => GoesF (qm prog w) A.in1 Rg Y m gs' r' s'') → Q (some v) (s₁.setGen g gs'))
    (hP : ∀ x s₁, Rg n (s.setGen g .running) x s₁ → x = .ok (.ret .none) ∧ ∀ h', (∀ b o, s₁.heap.get? b = some o → h'.get? b = some o) → Q none { s₁.setGen g .finished with heap := h' }) :
    wpF (qm prog w) A (pyNext (.ref a)) Q E s := by
  unfold pyNext
  refine wpF_bind (wpF_attempt (f_callSpecial (name := Str.ofString "__next__") hg.typeIs slot_gen_next
    (f_call_entry slot_gen_next hg.typeIs entry_gen_next (by decide) (by decide) ?_ (args_gen_next _))))
  show wpF _ A.in1 (Builtin.Generator.genWake (.ref a) (.send .none)) _ _ s
  unfold Builtin.Generator.genWake
  refine wpF_bind (wpF_of (wpAny_holding (wpAny_genNumber hg ?_)))
  refine wpF_bind (wpF_of (wpAny_genState hgs ?_))
  cases gs with
  | running => exact hgo.elim
  | finished => exact hgo.elim
  | _ =>
    refine wpF_bind (wpF_of (wpAny_roomToWake hl hroom ?_))
    show wpF _ A.in1 (.resume g (.send .none) [] _) _ _ s
    refine wpF_resume hgs hgo (fun x s₁ hx => ?_) (fun v s₁ gs' hb hv => ?_)
    · obtain ⟨rfl, hp⟩ := hP x s₁ hx
      show wpF _ A.in1 (newExc (.type "StopIteration") [] >>= _) _ _ _
      refine wpF_of (wpAny_bind ?_)
      simp only [newExc, newTuple]
      refine wpAny_bind (wpAny_newObj_type ?_ (by size_fits))
      refine wpAny_bind (m := firstArgMember _ _) (wpAny_of_eq (a := Value.none) (by first | rfl | (simp only [firstArgMember]; rfl)) ?_)
      refine wpAny_newObj_type ?_ (by size_fits)
      simp only [raiseNew]
      refine wpAny_bind (wpAny_bind (wpAny_handled ?_))
      rw [show A.in1.handled = none from hh]
      refine wpAny_throw ?_
      refine wpF_of (wpAny_bind (wpAny_isInstance (T := "StopIteration") (b := true) ⟨_, Heap.get?_push_size _ rfl, rfl⟩ isSubtype_stop ?_))
      exact wpAny_pure (hp _ fun b o hb => Heap.get?_push_of_some _ (Heap.get?_push_of_some _ hb))
    · exact wpF_pure ⟨v, rfl, wpF_pure (hY v s₁ gs' hb hv)⟩
/-- what a state of a list being built from a generator is -/
structure EmitsF (prog : Program) (w : World) (A : Around) (I S : Addr) (gi : Nat) (Rg : GenEnd) (Y : Protocol) (St : Nat → Array Value → Shared → Prop) (Z : Shared → Prop) : Prop where
  obj : ∀ n acc s, St n acc s → ∃ c, s.heap.get? S = some { cls := .type "list", dict := none, data := .seq acc c, slots := #[] }
  gen : ∀ n acc s, St n acc s → s.heap.IsGen I gi ∧ s.heap.NoLimit ∧ acc.size ≤ 1000 ∧ ∃ gs, s.gens[gi]? = some gs ∧ GoesF (qm prog w) A.in1 Rg Y n gs (.send .none) (s.setGen gi .running)
  item : ∀ n acc s, St n acc s → ∀ v s₁ gs', gs'.bare = true → Y (n - 1) (s.setGen gi .running) v s₁ (fun r' s'' => match n with | 0 => False | m + 1 => GoesF (qm prog w) A.in1 Rg Y m gs' r' s'') →
    ∃ m, n = m + 1 ∧ (∃ c, s₁.heap.get? S = some { cls := .type "list", dict := none, data := .seq acc c, slots := #[] }) ∧
      St m (acc.push v) { s₁.setGen gi gs' with heap := s₁.heap.update S (Obj.mapSeq (·.push v)) }
  last : ∀ n acc s, St n acc s → ∀ x s₁, Rg n (s.setGen gi .running) x s₁ → x = .ok (.ret .none) ∧ ∀ h', (∀ b o, s₁.heap.get? b = some o → h'.get? b = some o) → Z { s₁.setGen gi .finished with heap := h' }
theorem f_extend_loop {I S : Addr} {gi : Nat} {Rg : GenEnd} {Y : Protocol} {St : Nat → Array Value → Shared → Prop} {Z : Shared → Prop} (W : EmitsF prog w A.in1 I S gi Rg Y St Z) (hh : A.handled = none) (hroom : A.depth < recursionLimit) (res : Value)
    (hR : ∀ s', Z s' → R (.ok (.ret res)) s') : ∀ (n : Nat) (acc : Array Value) (s : Shared), St n acc s → codeF (qm prog w) A (.builtin "list.extend.loop" ⟨[.ref S, .ref I, res], []⟩) R s := by
  intro n
  induction n with
  | zero =>
    intro acc s hst
    obtain ⟨hg, hl, _, gs, hgs, hgo⟩ := W.gen _ _ _ hst
    refine f_builtin F.entry_extend_loop (by decide) (by decide) ?_
    rw [Around.under_plainId F.plain_extend_loop _]
    show wpF _ A.in1 (pyNext (.ref I) >>= _) _ _ s
    refine wpF_bind (f_pyNext_gen hh hl hroom hg hgs hgo (fun v s₁ gs' hb hv => ?_) fun x s₁ hx => ?_)
    · obtain ⟨m, e, _⟩ := W.item _ _ _ hst v s₁ gs' hb hv
      cases e
    · obtain ⟨e, hz⟩ := W.last _ _ _ hst x s₁ hx
      exact ⟨e, fun h' hk => wpF_pure (hR _ (hz h' hk))⟩
  | succ n ih =>
    intro acc s hst
    obtain ⟨hg, hl, hsz, gs, hgs, hgo⟩ := W.gen _ _ _ hst
    refine f_builtin F.entry_extend_loop (by decide) (by decide) ?_
    rw [Around.under_plainId F.plain_extend_loop _]
    show wpF _ A.in1 (pyNext (.ref I) >>= _) _ _ s
    refine wpF_bind (f_pyNext_gen hh hl hroom hg hgs hgo (fun v s₁ gs' hb hv => ?_) fun x s₁ hx => ?_)
    · obtain ⟨m, e, ⟨c, hS⟩, hst'⟩ := W.item _ _ _ hst v s₁ gs' hb hv
      cases e
      show wpF _ A.in1 (updateSeq S (·.push v) >>= _) _ _ _
      refine wpF_bind (wpF_of (wpAny_updateSeq (s := s₁.setGen gi gs') hS rfl (wpF_pure ⟨plainId_quiet F.plain_extend_loop _, ih _ _ hst'⟩) ?_ ?_))
      · rw [sizeLine_eq]; omega
      · show (acc.push v).size ≤ sizeLine + 1
        rw [Array.size_push, sizeLine_eq]; omega
    · obtain ⟨e, hz⟩ := W.last _ _ _ hst x s₁ hx
      exact ⟨e, fun h' hk => wpF_pure (hR _ (hz h' hk))⟩
theorem f_extend {I S : Addr} {gi n : Nat} {Rg : GenEnd} {Y : Protocol} {St : Nat → Array Value → Shared → Prop} {Z : Shared → Prop} (W : EmitsF prog w A.in1 I S gi Rg Y St Z) (hh : A.handled = none) (hroom : A.depth < recursionLimit) (res : Value) (c₀ : Nat)
    (hg : s.heap.IsGen I gi) (hSI : S ≠ I) (hS : s.heap.get? S = some { cls := .type "list", data := .seq #[] c₀ })
    (h0 : ∀ h' c, h'.get? S = some { cls := .type "list", dict := none, data := .seq #[] c, slots := #[] } → (∀ b o, b ≠ S → s.heap.get? b = some o → h'.get? b = some o) → St n #[] { s with heap := h' })
    (hR : ∀ s', Z s' → R (.ok (.ret res)) s') :
    wpF (qm prog w) A.in1 (Builtin.List.listExtendWith (.ref S) (.ref I) res)
      (fun fin s' => match fin with | .done f => R (.ok f) s' | .again c' => c'.quiet = true ∧ codeF (qm prog w) A c' R s') (fun e s' => R (.error e) s') s := by
  unfold Builtin.List.listExtendWith
  refine wpF_bind (wpF_of (wpAny_typeOf hg.typeIs ?_))
  have h1 : Builtin.List.listSameRef (.ref S) (.ref I) = false := by simp [Builtin.List.listSameRef, hSI]
  have h2 : (Value.type "generator" == Value.type "list") = false := by decide
  have h3 : (Value.type "generator" == Value.type "tuple") = false := by decide
  simp only [h1, h2, h3, Bool.or_false, Bool.false_eq_true, if_false]
  refine wpF_bind (wpF_of (up (wpAny_pyIter_gen hg ?_)))
  refine wpF_bind (wpF_holding (wpF_of ?_))
  unfold Builtin.List.listLengthHint
  refine wpAny_bind (wpAny_specialOf hg.typeIs F.gen_no_len ?_)
  show wpAny _ A.in1 (specialOf (Value.ref I) (Str.ofString "__length_hint__") >>= _) _ _ _
  refine wpAny_bind (wpAny_specialOf hg.typeIs F.gen_no_hint ?_)
  refine wpAny_pure ?_
  show wpF _ A.in1 (rule "list.extend.makes-room" >>= fun _ => Builtin.List.listTouch (.ref S) >>= fun _ =>
    again (.builtin "list.extend.loop" ⟨[.ref S, .ref I, res], []⟩)) _ _ _
  refine wpF_bind (wpF_of (wpAny_rule ?_))
  refine wpF_bind (wpF_of ?_)
  show wpAny _ A.in1 (updateSeq S (·.push .none) >>= fun _ => updateSeq S (·.pop)) _ _ _
  refine wpAny_bind (wpAny_updateSeq hS rfl ?_)
  have hS₂ := Heap.get?_update_self (Obj.mapSeq (·.push Value.none)) hS rfl
  refine wpAny_updateSeq (hz := by seq_fits) hS₂ rfl ?_
  have hS₃ := Heap.get?_update_self (Obj.mapSeq (·.pop)) hS₂ rfl
  refine wpF_pure ⟨plainId_quiet F.plain_extend_loop _, f_extend_loop W hh hroom res hR n #[] _ (h0 _ _ hS₃ fun b o hb e => ?_)⟩
  exact (Heap.get?_update_other _ _ (Ne.symm hb)).trans ((Heap.get?_update_other _ _ (Ne.symm hb)).trans e)
theorem f_list_init {I S : Addr} {gi n : Nat} {Rg : GenEnd} {Y : Protocol} {St : Nat → Array Value → Shared → Prop} {Z : Shared → Prop} (W : EmitsF prog w A.in1 I S gi Rg Y St Z) (hh : A.handled = none) (hroom : A.depth < recursionLimit)
    (hg : s.heap.IsGen I gi) (hSI : S ≠ I) (hS : s.heap.get? S = some { cls := .type "list", data := .seq #[] })
    (h0 : ∀ h' c, h'.get? S = some { cls := .type "list", dict := none, data := .seq #[] c, slots := #[] } → (∀ b o, b ≠ S → s.heap.get? b = some o → h'.get? b = some o) → St n #[] { s with heap := h' })
    (hR : ∀ s', Z s' → R (.ok (.ret .none)) s') :
    wpF (qm prog w) A.in1 (Builtin.«list.__init__» ⟨[.ref S, .ref I], []⟩)
      (fun fin s' => match fin with | .done f => R (.ok f) s' | .again c' => c'.quiet = true ∧ codeF (qm prog w) A c' R s') (fun e s' => R (.error e) s') s := by
  show wpF _ A.in1 (do let old ← Builtin.List.listItems (.ref S); Builtin.List.listUpdate (.ref S) (fun _ => #[]); letGo old.toList.reverse; Builtin.List.listExtendWith (.ref S) (.ref I) .none) _ _ s
  refine wpF_bind (wpF_of ?_)
  unfold Builtin.List.listItems
  refine wpAny_bind (wpAny_seqItems hS rfl (wpAny_pure ?_))
  show wpF _ A.in1 (updateSeq S (fun _ => #[]) >>= fun _ => letGo (#[] : Array Value).toList.reverse >>= fun _ => Builtin.List.listExtendWith (.ref S) (.ref I) .none) _ _ s
  refine wpF_bind (wpF_of (wpAny_updateSeq hS rfl ?_))
  have hS₂ := Heap.get?_update_self (Obj.mapSeq (fun _ => (#[] : Array Value))) hS rfl
  have oth : ∀ b o, b ≠ S → s.heap.get? b = some o → (s.heap.update S (Obj.mapSeq (fun _ => (#[] : Array Value)))).get? b = some o :=
    fun b o hb e => (Heap.get?_update_other _ _ (Ne.symm hb)).trans e
  refine wpF_bind (wpF_of (wpAny_letGo ?_))
  obtain ⟨oI, nm, qn, hoI, hcI, hdI, hsI⟩ := hg
  refine f_extend W hh hroom .none _ ⟨oI, nm, qn, oth _ _ (Ne.symm hSI) hoI, hcI, hdI, hsI⟩ hSI hS₂ (fun h' c hS' hk => h0 h' c hS' fun b o hb e => hk b o hb (oth b o hb e)) hR
theorem f_call_list {I : Addr} {gi n : Nat} {Rg : GenEnd} {Y : Protocol} {St : Nat → Array Value → Shared → Prop} {Z : Shared → Prop} {Q : Value → Shared → Prop} (W : EmitsF prog w A.in1.in1 I s.heap.objs.size gi Rg Y St Z) (hh : A.handled = none) (hroom : A.depth < recursionLimit)
    (hg : s.heap.IsGen I gi)
    (h0 : ∀ h' c, h'.get? s.heap.objs.size = some { cls := .type "list", dict := none, data := .seq #[] c, slots := #[] } → (∀ b o, s.heap.get? b = some o → h'.get? b = some o) → St n #[] { s with heap := h' })
    (hR : ∀ s', Z s' → Q (.ref s.heap.objs.size) s') : wpF (qm prog w) A (call (.type "list") [.ref I]) Q E s := by
  have hSI : s.heap.objs.size ≠ I := fun e => by
    obtain ⟨o, _, _, ho, _⟩ := hg
    exact Nat.lt_irrefl _ (e ▸ Heap.lt_size ho)
  refine wpF_call (codeF_of_tree rfl ?_)
  show wpF _ _ (callAny (.type "list") _) _ _ _
  refine wpF_pure ⟨Code.quiet_builtin _ (by decide +kernel), f_builtin F.entry_type_call (by decide) (by decide) ?_⟩
  rw [Around.under_plain (weight_type_call_type "list" [.ref I] []) rfl]
  unfold Builtin.«type.__call__»
  have h1 := F.called_list.notType
  have h2 := F.called_list.canCreate
  simp only [h1, h2, F.typeCall_list_1, F.mro_list, F.called_list.made, Bool.false_eq_true, if_false]
  show wpF _ _ (holding [Value.builtin "list.__new__"] (call (.builtin "list.__new__") [.type "list", .ref I]) >>= _) _ _ _
  refine wpF_bind (wpF_of (wpAny_holding (up (wpAny_call (codeAny_mono (code_list_new (E := fun _ _ => False) (Q₁ := fun obj s₁ => obj = .ref s.heap.objs.size ∧ s₁ = { s with heap := s.heap.push { cls := .type "list", data := .seq #[] } }) _ ⟨rfl, rfl⟩) fun r s₁ hr => ?_)))))
  cases r with
  | error e => exact hr.elim
  | ok fl =>
    cases fl with
    | ret obj =>
      obtain ⟨rfl, rfl⟩ := hr
      have hS : (s.heap.push { cls := .type "list", data := .seq #[] }).get? s.heap.objs.size = some { cls := .type "list", data := .seq #[] } := Heap.get?_push_size _ rfl
      have hT : ({ s with heap := s.heap.push { cls := .type "list", data := .seq #[] } } : Shared).TypeIs (.ref s.heap.objs.size) "list" := ⟨_, hS, rfl⟩
      refine wpF_bind (wpF_of (wpAny_isInstance hT F.called_list.sub ?_))
      show wpF _ _ (holding [Value.ref s.heap.objs.size] (callSpecial? (.ref s.heap.objs.size) "__init__" [.ref I]) >>= _) _ _ _
      refine wpF_bind (wpF_holding (f_callSpecial hT F.called_list.init (wpF_call (codeF_mono (R := fun r s' => r = .ok (.ret .none) ∧ Z s') (f_call_builtin F.called_list.init.plain F.entry_list_init (by decide) (by decide)
        (F.called_list.init.check _ _ _ _ _ _ _ _ hT (F.args_list_init_2 _ _) ?_)) fun r s' hr => ?_))))
      · exact f_list_init (R := fun r s' => r = .ok (.ret .none) ∧ Z s') (s := { s with heap := s.heap.push { cls := .type "list", data := .seq #[] } }) W hh hroom (hg.push _) hSI hS (fun h' c h1 h2 => h0 h' c h1 fun b o e => h2 b o (Nat.ne_of_lt (Heap.lt_size e)) (Heap.get?_push_of_some _ e)) fun s' hz => ⟨rfl, hz⟩
      · obtain ⟨rfl, hz⟩ := hr
        exact wpF_pure (hR s' hz)
    | _ => exact hr.elim
end
end Mine

end
section
open PySem PySem.W PyProof.Rows
set_option Elab.async false
set_option maxRecDepth 100000
namespace Mine
section
variable {M : Model} {A : Around} {R : GenEnd} {Y : Protocol} {n : Nat} {s₀ : Shared} {c : Code} {fs : List Frame} {s : Shared} {env : Env}
  {K : Flow → Sem Fin} {H : Value → Sem Fin} {gd : Bool → Bool} {lv : List Value → List Value}
theorem segF_exec {st : Stmt} (hc : noCI c = true) (hf : FreeF fs) (h : wpF M (A.over c fs) (exec st env) (fun f s' => SegF M A R Y n s₀ c (K f) fs s') (fun _ _ => False) s) : SegF M A R Y n s₀ c ((exec st env).wrap K H gd lv) fs s :=
  segF_wrap hc hf (wpF_mono h (fun _ _ x => x) fun _ _ x => x.elim)
theorem segF_If {test : PySem.Expr} {body orelse : List Stmt} {pos : Pos} (hc : noCI c = true) (hf : FreeF fs)
    (h : wpF M (A.over c fs) (isTrue test env (eval test env)) (fun b s' => if b = true then SegF M A R Y n s₀ c ((execs body env).wrap K H gd lv) fs s' else SegF M A R Y n s₀ c ((execs orelse env).wrap K H gd lv) fs s') (fun _ _ => False) s) :
    SegF M A R Y n s₀ c ((exec (.If test body orelse pos) env).wrap K H gd lv) fs s := by
  rw [exec_If]
  show SegF M A R Y n s₀ c (.at pos fun _ => (isTrue test env (eval test env) >>= fun b => if b = true then execs body env else execs orelse env).wrap K H gd lv) fs s
  refine segF_at ?_
  rw [Sem.bind_eq_wrap', Sem.wrap_wrap]
  refine segF_wrap hc hf (wpF_mono h (fun b s' hb => ?_) fun _ _ x => x.elim)
  cases b with
  | true => rw [if_pos rfl] at hb; exact hb
  | false => rw [if_neg Bool.false_ne_true] at hb; exact hb
theorem segF_For {target iter : PySem.Expr} {body orelse : List Stmt} {pos : Pos} (hc : noCI c = true) (hf : FreeF fs) (hs : ∀ x, foldedSetIterable iter env x = pure x)
    (h : wpF M (A.over c fs) (eval iter env) (fun x s₁ => wpF M (A.over c fs) (pyIter x) (fun it s₂ => ∀ k p, (∀ f, k (.ok f) = K f) → SegF M A R Y n s₀ (.forLoop target it body orelse env) (M.den (.forLoop target it body orelse env)) (.ret k none (gd false) (lv []) c p [] :: fs) s₂) (fun _ _ => False) s₁) (fun _ _ => False) s) :
    SegF M A R Y n s₀ c ((exec (.For target iter body orelse pos) env).wrap K H gd lv) fs s := by
  rw [exec_For]
  show SegF M A R Y n s₀ c (.at pos fun _ => (eval iter env >>= fun v => foldedSetIterable iter env v >>= fun x => (standAt iter.pos >>= fun _ => holding [x] (pyIter x) >>= fun it => runOwn (.forLoop target it body orelse env) env)).wrap K H gd lv) fs s
  refine segF_at ?_
  rw [Sem.bind_eq_wrap', Sem.wrap_wrap]
  refine segF_wrap hc hf (wpF_mono h (fun x s₁ h₁ => ?_) fun _ _ x => x.elim)
  rw [hs x]
  refine segF_at ?_
  show SegF M A R Y n s₀ c ((holding [x] (pyIter x) >>= fun it => runOwn (.forLoop target it body orelse env) env).wrap K H gd lv) fs s₁
  rw [Sem.bind_eq_wrap', Sem.wrap_wrap]
  refine segF_wrap hc hf (wpF_holding (wpF_mono h₁ (fun it s₂ h₂ => ?_) fun _ _ x => x.elim))
  exact segF_call fun p => h₂ _ p fun f => rfl
end
section
variable {prog : Program} {w : World} {A : Around} {R : GenEnd} {Y : Protocol} {n : Nat} {s₀ : Shared} {fs : List Frame} {s : Shared} {env : Env}
theorem segF_func {body : List Stmt}
    (h : ∀ H, SegF (qm prog w) A R Y n s₀ (.func body env) ((execs body env).wrap (fun f => .pure (.done (.ret (match f with | .ret v => v | _ => .none)))) H id id) fs s) :
    SegF (qm prog w) A R Y n s₀ (.func body env) ((qm prog w).den (.func body env)) fs s := by
  show SegF _ A R Y n s₀ _ (.point [] fun _ => ((execs body env).onRaise (leaving env)) >>= _) fs s
  refine segF_point ?_
  rw [Sem.onRaise_eq_wrap, Sem.bind_eq_wrap', Sem.wrap_wrap]
  rw [Sem.wrap_congr (execs body env) _ _ (K' := fun f => .pure (.done (.ret (match f with | .ret v => v | _ => .none))))
    (fun f => by cases f <;> rfl) (fun e => rfl)]
  exact h _
theorem wpF_assign {M : Model} {E : Value → Shared → Prop} {x : Str} {pos : Pos} {v : Value} {Q : Unit → Shared → Prop} (h : wpF M A (storeName env x v) Q E s) : wpF M A (assign (.Name x pos) env v) Q E s := by
  rw [PySem.assign_Name]
  refine wpF_bind (wpF_of (wpAny_standAt ?_))
  exact fun Γ p hΓ h1 h2 => by rw [Sem.wp_bindName]; exact h Γ p hΓ h1 h2
theorem wpF_execs_cons {M : Model} {E : Value → Shared → Prop} {st : Stmt} {rest : List Stmt} {Q : Flow → Shared → Prop} (h : wpF M A (exec st env) (fun f s' => match f with | .next => wpF M A (execs rest env) Q E s' | f => Q f s') E s) : wpF M A (execs (st :: rest) env) Q E s := by
  rw [execs_cons]
  refine wpF_bind (wpF_mono h (fun f s' hf => ?_) fun _ _ x => x)
  cases f <;> first | exact hf | exact wpF_pure hf
theorem segF_forLoop {x : Str} {px : Pos} {it : Value} {body : List Stmt} (hf : FreeF fs)
    (h : wpF (qm prog w) (A.over (.forLoop (.Name x px) it body [] env) fs) (pyNext it) (fun r s₁ => match r with
      | none => SegF (qm prog w) A R Y n s₀ (.block [] env) (.pure (.done .next)) fs s₁
      | some v => wpF (qm prog w) (A.over (.forLoop (.Name x px) it body [] env) fs) (storeName env x v) (fun _ s₂ => ∀ H, SegF (qm prog w) A R Y n s₀ (.forLoop (.Name x px) it body [] env) ((execs body env).wrap (fun f => match f with
          | .next | .cont => .pure (.again (.forLoop (.Name x px) it body [] env))
          | .brk => .pure (.done .next)
          | .ret v => .pure (.done (.ret v))) H id id) fs s₂) (fun _ _ => False) s₁) (fun _ _ => False) s) :
    SegF (qm prog w) A R Y n s₀ (.forLoop (.Name x px) it body [] env) ((qm prog w).den (.forLoop (.Name x px) it body [] env)) fs s := by
  show SegF _ A R Y n s₀ _ ((forTurn (.Name x px) it body [] env).onRaise (fun x => do noteFrame x env; theTreesLotGoes x)) fs s
  unfold forTurn
  rw [Sem.onRaise_eq_wrap]
  show SegF _ A R Y n s₀ _ (.at _ fun _ => Sem.wrap _ _ _ _ (((pyNext it).onRaise _) >>= _)) fs s
  refine segF_at ?_
  rw [Sem.bind_eq_wrap', Sem.wrap_wrap]
  refine segF_wrap rfl hf (wpF_onRaise (wpF_mono h (fun r s₁ h₁ => ?_) fun _ _ x => x.elim))
  cases r with
  | none => exact segF_again rfl h₁
  | some v =>
    show SegF _ A R Y n s₀ _ (Sem.wrap _ _ _ _ (assign (.Name x px) env v >>= _)) fs s₁
    rw [Sem.bind_eq_wrap', Sem.wrap_wrap]
    refine segF_wrap rfl hf (wpF_assign (wpF_mono h₁ (fun _ s₂ h₂ => ?_) fun _ _ x => x.elim))
    rw [Sem.bind_eq_wrap', Sem.wrap_wrap]
    rw [Sem.wrap_congr (execs body env) _ _ (K' := fun f => match f with
            | .next | .cont => .pure (.again (.forLoop (.Name x px) it body [] env))
            | .brk => .pure (.done .next)
            | .ret v => .pure (.done (.ret v)))
        (fun f => by cases f <;> rfl) (fun e => rfl)]
    exact h₂ _
end
end Mine

end
section
open PySem PySem.W PyProof.Rows
set_option Elab.async false
set_option maxRecDepth 100000
namespace Mine
open PySem.Builtin.Re
section
variable {prog : Program} {w : World} {A : Around} {E : Value → Shared → Prop} {h : Heap} {g : Array GenState} {d : Drawn} {t : Nat} {os : OsState} {p c a me it : Addr} {pp pf : Value} {groups : Nat} {items : Array Value} {n : Nat} {x : Str} {tx : Tok} {pos : Nat} {must : Bool}
set_option pp.maxSteps 1000
def codeOf (items : Array Value) : Array Nat := (items.map reRawOf).map (·.toNat)
/-- what a step of the scanner leaves: the scanner alone is changed -/
structure Scanned (a p : Addr) (x : Str) (tx : Tok) (h h' : Heap) (pos : Int) (must : Bool) : Prop where
  same : Heap.SameBut a h h'
  at_ : h'.get? a = some (scanObj p x tx pos must)
theorem search_matched {m m' : Sre.M} {k : Nat} {spans : List Value} {Q : Fin → Shared → Prop} (hs : h.get? a = some (scanObj p x tx pos must)) (hp : h.get? p = some (patObj pp pf groups c)) (hc : h.get? c = some (codeObj items n))
    (em : Sre.forSearch (codeOf items) x.cps groups pos x.cps.size must = m) (hk : m.runFor k = m') (hle : k ≤ 1000000) (ho : m'.outcome = some .matched)
    (hnm : ∀ (h : Heap) (Q : Value → Shared → Prop), Q (.ref h.objs.size.succ) ⟨(h.push (tupObj m' spans)).push (matchObj p x tx m'.lastindex h.objs.size), g, d, t, os⟩ → wpAny (qm prog w) A (reNewMatch (.ref p) (.str x tx) groups 0 x.cps.size m') Q E ⟨h, g, d, t, os⟩)
    (hq : ∀ h', Scanned a p x tx h h' m'.handed (m'.handed == m'.start) → Q (.done (.ret (.ref h'.objs.size.succ))) ⟨(h'.push (tupObj m' spans)).push (matchObj p x tx m'.lastindex h'.objs.size), g, d, t, os⟩) :
    wpAny (qm prog w) A (Builtin.«_sre.SRE_Scanner.search» ⟨[.ref a], []⟩) Q E ⟨h, g, d, t, os⟩ := by
  refine scan_start hs hp hc ?_
  have em' : Sre.forSearch ((items.map reRawOf).map (·.toNat)) x.cps groups pos x.cps.size must = m := em
  rw [em']
  refine wpAny_bind (reRun_matched hk hle ho ?_)
  refine wpAny_bind (up (wpAny_setField_rec hs (by simp) fun h1 e1 b1 => ?_))
  refine wpAny_bind (up (wpAny_setField_rec e1 (by simp) fun h2 e2 b2 => ?_))
  exact wpAny_bind (hnm h2 _ (wpAny_pure (hq h2 ⟨b1.trans b2, e2⟩)))
theorem search_failed {m m' : Sre.M} {k : Nat} {Q : Fin → Shared → Prop} (hs : h.get? a = some (scanObj p x tx pos must)) (hp : h.get? p = some (patObj pp pf groups c)) (hc : h.get? c = some (codeObj items n))
    (em : Sre.forSearch (codeOf items) x.cps groups pos x.cps.size must = m) (hk : m.runFor k = m') (hle : k ≤ 1000000) (ho : m'.outcome = some .failed)
    (hq : ∀ h', Scanned a p x tx h h' (-1) must → Q (.done (.ret .none)) ⟨h', g, d, t, os⟩) :
    wpAny (qm prog w) A (Builtin.«_sre.SRE_Scanner.search» ⟨[.ref a], []⟩) Q E ⟨h, g, d, t, os⟩ := by
  refine scan_start hs hp hc ?_
  have em' : Sre.forSearch ((items.map reRawOf).map (·.toNat)) x.cps groups pos x.cps.size must = m := em
  rw [em']
  refine wpAny_bind (reRun_failed hk hle ho ?_)
  refine wpAny_bind (up (wpAny_setField_rec hs (by simp) fun h1 e1 b1 => ?_))
  exact wpAny_pure (hq h1 ⟨b1, e1⟩)
theorem callOut_meth {Q : Value → Shared → Prop} (hm : h.get? me = some (methObj a)) (hq : wpAny (qm prog w) A (call (.ref me) []) Q E ⟨h, g, d, t, os⟩) : wpAny (qm prog w) A (callOutOfASlot (.ref me)) Q E ⟨h, g, d, t, os⟩ := by
  unfold methObj at hm
  unfold callOutOfASlot
  refine wpAny_bind ?_
  unfold borrowsExactly
  refine wpAny_bind (wpAny_load hm ?_)
  exact wpAny_pure hq
end
end Mine

end
section
open PySem PySem.W PyProof.Rows
open Sem (wp)
set_option Elab.async false
set_option maxRecDepth 100000
namespace Mine
/-- a piece of the tree of a code, seen from free contexts -/
def wpO {α : Type} (M : Model) (A : Around) (c : Code) (t : Sem α) (Q : α → Shared → Prop) (E : Value → Shared → Prop) (s : Shared) : Prop :=
  ∀ Γ p, Γ.code = c → Γ.Below A → FreeB Γ.below → wp M Γ t (fun a _ s' => Q a s') (fun e _ s' => E e s') p s
section
variable {α β : Type} {M : Model} {A : Around} {c : Code} {E : Value → Shared → Prop} {s : Shared}
theorem wpO_of {t : Sem α} {Q : α → Shared → Prop} (h : wpAny M (A.under c) t Q E s) : wpO M A c t Q E s := fun Γ p hc hΓ _ => h Γ p (hc ▸ hΓ.in)
theorem wpO_bind {m : Sem α} {f : α → Sem β} {Q : β → Shared → Prop} (h : wpO M A c m (fun a s' => wpO M A c (f a) Q E s') E s) : wpO M A c (m >>= f) Q E s := fun Γ p hc hΓ h2 => by
  rw [Sem.wp_bind']
  exact Sem.wp_mono M Γ m (fun a p' s' h' => h' Γ p' hc hΓ h2) (fun _ _ _ h' => h') p s (h Γ p hc hΓ h2)
theorem wpO_stack {Q : List (Code × Pos) → Shared → Prop} (h : ∀ p below, FreeB below → Q ((c, p) :: below) s) : wpO M A c stack Q E s := fun Γ p hc _ h2 => by
  show Q ((Γ.code, p) :: Γ.below) s
  rw [hc]; exact h p Γ.below h2
theorem codeF_of_O {R : Result → Shared → Prop}
    (h : wpO M A c (M.den c) (fun fin s' => match fin with | .done f => R (.ok f) s' | .again c' => c'.quiet = true ∧ codeF M A c' R s') (fun e s' => R (.error e) s') s) : codeF M A c R s := fun Γ p hc hΓ h2 => by
  rw [wpCode_iff_wp, hc]
  refine Sem.wp_mono M Γ _ (fun fin p' s' h' => ?_) (fun _ _ _ h' => h') p s (h Γ p hc hΓ h2)
  cases fin with
  | done f => exact h'
  | again c' => exact ⟨h'.1, h'.2 (Γ.goto c') p' rfl (hΓ.goto c') h2⟩
end
end Mine

end
section
open PySem PySem.W PyProof.Rows
set_option Elab.async false
set_option maxRecDepth 100000
namespace Mine
open PySem.Builtin.Re
section
variable {M : Model} {prog : Program} {w : World} {A : Around} {E : Value → Shared → Prop} {h : Heap} {g : Array GenState} {d : Drawn} {t : Nat} {os : OsState} {me it a : Addr}
set_option pp.maxSteps 1500
theorem cnext_found {Q : Fin → Shared → Prop} (hi : h.get? it = some (iterObj me)) (hm : h.get? me = some (methObj a))
    (hcall : wpAny (qm prog w) A (call (.ref me) []) (fun r s' => s'.heap.get? it = some (iterObj me) ∧ wpAny (qm prog w) A (eqBool .none r) (fun b s'' => b = false ∧ Q (.done (.ret r)) s'') E s') (fun _ _ => False) ⟨h, g, d, t, os⟩) :
    wpAny (qm prog w) A (Builtin.«callable_iterator.__next__» ⟨[.ref it], []⟩) Q E ⟨h, g, d, t, os⟩ := by
  have hi2 := hi
  unfold iterObj at hi
  unfold Builtin.«callable_iterator.__next__»
  repeat ((fail_if_success (with_reducible show wpAny _ _ (callOutOfASlot _) _ _ _)); wp_step)
  refine callOut_meth hm (wpAny_mono hcall (fun r s' hr => ?_) fun _ _ x => x.elim)
  obtain ⟨h1, h2⟩ := hr
  unfold iterObj at h1
  repeat ((fail_if_success (with_reducible show wpAny _ _ (eqBool _ _) _ _ _)); wp_step)
  refine wpAny_mono h2 (fun b s'' hb => ?_) fun _ _ x => x
  obtain ⟨rfl, hq⟩ := hb
  exact wpAny_pure hq
end
end Mine

end
section
open PySem PySem.Sre
set_option Elab.async false
set_option maxRecDepth 100000
namespace Mine
def comCode : Array Nat := #[14, 10, 4, 2, 4294967295, 16, 44, 22, 58, 59, 0, 13, 7, 16, 44, 22, 58, 59, 0, 24, 9, 0, 4294967295, 13, 4, 8, 12, 0, 1, 7, 7, 16, 32, 16, 32, 15, 7, 5, 16, 9, 15, 2, 0, 1]
def isSp (c : Nat) : Bool := Unicode.isSpace c
def isSign (c : Nat) : Bool := c == 44 || (decide (58 ≤ c) && decide (c ≤ 59))
theorem inSet_adm (c : Nat) (seen : Seen) : ∃ seen', inSet comCode c comCode.size 5 true seen = .ok (isSign c, seen') := by
  have e : ∃ s1 s2 s3, inSet comCode c comCode.size 5 true seen = (if (c == 44) = true then Except.ok (true, s1) else if (decide (58 ≤ c) && decide (c ≤ 59)) = true then Except.ok (true, s2) else Except.ok (!true, s3)) := ⟨_, _, _, rfl⟩
  obtain ⟨s1, s2, s3, e⟩ := e
  rw [e]
  unfold isSign
  cases h : (c == 44) with
  | true => exact ⟨s1, rfl⟩
  | false =>
    cases h2 : (decide (58 ≤ c) && decide (c ≤ 59)) with
    | true => exact ⟨s2, rfl⟩
    | false => exact ⟨s3, rfl⟩
theorem inSet_in (c : Nat) (seen : Seen) : ∃ seen', accepts comCode 11 c seen = .ok (isSign c, seen') := by
  have e : ∃ s1 s2 s3, accepts comCode 11 c seen = (if (c == 44) = true then Except.ok (true, s1) else if (decide (58 ≤ c) && decide (c ≤ 59)) = true then Except.ok (true, s2) else Except.ok (!true, s3)) := ⟨_, _, _, rfl⟩
  obtain ⟨s1, s2, s3, e⟩ := e
  rw [e]
  unfold isSign
  cases h : (c == 44) with
  | true => exact ⟨s1, rfl⟩
  | false =>
    cases h2 : (decide (58 ≤ c) && decide (c ≤ 59)) with
    | true => exact ⟨s2, rfl⟩
    | false => exact ⟨s3, rfl⟩
theorem acc_sp (c : Nat) (seen : Seen) : ∃ seen', accepts comCode 23 c seen = .ok (isSp c, seen') := by
  have e : ∃ s1 s2, accepts comCode 23 c seen = ((category 12 c) >>= fun b => if b = true then pure (true, s1) else Except.ok (!true, s2)) := ⟨_, _, rfl⟩
  obtain ⟨s1, s2, e⟩ := e
  have e2 : category 12 c = .ok (isSp c) := by
    unfold isSp category
    cases h : Unicode.isSpace c <;> simp [h, Except.map]
  rw [e, e2]
  cases isSp c with
  | true => exact ⟨s1, rfl⟩
  | false => exact ⟨s2, rfl⟩
/-- how many of the next k signs are so -/
def runW (f : Nat → Bool) (T : Array Nat) : Nat → Nat → Nat
  | 0, _ => 0
  | k + 1, p => if f (T.getD p 0) then runW f T k (p + 1) + 1 else 0
theorem runW_le (f : Nat → Bool) (T : Array Nat) : ∀ k p, runW f T k p ≤ k
  | 0, _ => Nat.le_refl _
  | k + 1, p => by
    unfold runW
    split
    · exact Nat.succ_le_succ (runW_le f T k (p + 1))
    · exact Nat.zero_le _
theorem run_is {code T : Array Nat} {i : Nat} {f : Nat → Bool} (ha : ∀ c seen, ∃ seen', accepts code i c seen = .ok (f c, seen')) : ∀ (k p found : Nat) (seen : Seen), ∃ seen', Sre.run code T i k p found seen = .ok (found + runW f T k p, seen')
  | 0, p, found, seen => ⟨seen, rfl⟩
  | k + 1, p, found, seen => by
    obtain ⟨s1, e⟩ := ha (T.getD p 0) seen
    unfold runW
    show ∃ seen', (accepts code i (T.getD p 0) seen >>= fun x => match x with | (yes, seen) => if yes = true then Sre.run code T i k (p + 1) (found + 1) seen else pure (found, seen)) = _
    rw [e]
    cases hf : f (T.getD p 0) with
    | true =>
      obtain ⟨s2, e2⟩ := run_is ha k (p + 1) (found + 1) s1
      refine ⟨s2, ?_⟩
      show Sre.run code T i k (p + 1) (found + 1) s1 = _
      rw [e2, if_pos rfl]
      congr 2
      omega
    | false => exact ⟨s1, rfl⟩
end Mine

end
section
open PySem PySem.Sre
set_option Elab.async false
set_option maxRecDepth 100000
namespace Mine
section
variable {T : Array Nat} {n s pc pos hd wt c : Nat} {om : Bool} {fs : List Sre.Frame} {ans : Option Bool} {seen : Seen} {oc : Option Sre.Outcome}
/-- a state of the comma machine -/
def cm (T : Array Nat) (n s pc pos hd : Nat) (om : Bool) (fs : List Sre.Frame) (wt : Nat) (ans : Option Bool) (seen : Seen) (oc : Option Sre.Outcome) : Sre.M :=
  { code := comCode, text := T, lim := n, start := s, lastStart := n, pc := pc, pos := pos, handed := hd, outermost := om, marks := #[], frames := fs, weight := wt, answer := ans, seen := seen, outcome := oc }
def nsF (s : Nat) (om : Bool) : Sre.Frame := { wait := .nextStart, pc := 11, pos := s, outermost := om }
def gbF (pos : Nat) (om : Bool) (c : Int) : Sre.Frame := { wait := .giveBack, pc := 19, pos := pos, outermost := om, count := c }
def nbF (pc pos : Nat) (om : Bool) : Sre.Frame := { wait := .nextBranch, pc := pc, pos := pos, outermost := om }
theorem cs_in (h : pos < n) (hs : isSign (T.getD pos 0) = true) : ∃ seen', (cm T n s 11 pos hd om fs wt none seen none).step = cm T n s 19 (pos + 1) hd om fs wt none seen' none := by
  have e : ∃ X sn, (cm T n s 11 pos hd om fs wt none seen none).step = (if pos ≥ n then X else match accepts comCode 11 (T.getD pos 0) sn with
    | .error why => { cm T n s 11 pos hd om fs wt none sn none with outcome := some (.stuck why) }
    | .ok (false, seen) => { cm T n s 11 pos hd om fs wt none sn none with seen, answer := some false }
    | .ok (true, seen) => { cm T n s 11 pos hd om fs wt none sn none with seen, pc := 11 + itemWidth comCode 11, pos := pos + 1 }) := ⟨_, _, rfl⟩
  obtain ⟨X, sn, e⟩ := e
  obtain ⟨s1, e1⟩ := inSet_in (T.getD pos 0) sn
  rw [e, if_neg (by omega), e1, hs]
  exact ⟨s1, rfl⟩
theorem cs_rep (hw : wt ≤ 100) (hp : pos ≤ n) : ∃ seen', (cm T n s 19 pos hd om fs wt none seen none).step = cm T n s 29 (pos + runW isSp T (min 4294967295 (n - pos)) pos) (pos + runW isSp T (min 4294967295 (n - pos)) pos) om (gbF (pos + runW isSp T (min 4294967295 (n - pos)) pos) om (runW isSp T (min 4294967295 (n - pos)) pos) :: fs) (wt + 1) none seen' none := by
  have hroom : ((n : Int) - pos).toNat = n - pos := by omega
  obtain ⟨s1, e1⟩ := run_is (T := T) acc_sp (min 4294967295 ((n : Int) - pos).toNat) pos 0 ((seen.add 24).add 13)
  refine ⟨s1, ?_⟩
  rw [hroom, Nat.zero_add] at e1
  have h1 : (cm T n s 19 pos hd om fs wt none seen none).step = (cm T n s 19 pos hd om fs wt none seen none).exec := rfl
  rw [h1]
  unfold Sre.M.exec
  have h2 : ops[(cm T n s 19 pos hd om fs wt none seen none).word 0]? = some .REPEAT_ONE := rfl
  rw [h2]
  dsimp only
  refine (if_neg ?_).trans ?_
  · show ¬ (((0 : Nat) : Int) > (n : Int) - pos); omega
  generalize hr : Sre.run _ _ _ _ _ _ _ = r
  have hr2 : Sre.run comCode T 23 (min 4294967295 (n - pos)) pos 0 ((seen.add 24).add 13) = r := by rw [← hroom]; exact hr
  rw [e1] at hr2
  subst hr2
  refine (if_neg (Nat.not_lt_zero _)).trans ?_
  show (if wt + 1 + 0 > 16777216 then _ else _) = _
  refine (if_neg (by omega)).trans ?_
  rfl

theorem cs_br (hw : wt ≤ 100) : ∃ seen', (cm T n s 29 pos hd om fs wt none seen none).step = cm T n s 31 pos pos om (nbF 30 pos om :: fs) (wt + 1) none seen' none := by
  refine ⟨seen.add 7, ?_⟩
  show (if wt + 1 + 0 > 16777216 then _ else _) = _
  refine (if_neg (by omega)).trans ?_
  rfl
theorem cs_lit31 : (cm T n s 31 pos hd om fs wt none seen none).step = (if pos < n ∧ T.getD pos 0 = 32 then cm T n s 33 (pos + 1) hd om fs wt none (seen.add 16) none else cm T n s 31 pos hd om fs wt (some false) (seen.add 16) none) := by
  have e : (cm T n s 31 pos hd om fs wt none seen none).step = (if pos ≥ n then cm T n s 31 pos hd om fs wt (some false) (seen.add 16) none else match (Except.ok (T.getD pos 0 == 32, seen.add 16) : Except String (Bool × Seen)) with
    | .error why => { cm T n s 31 pos hd om fs wt none (seen.add 16) none with outcome := some (.stuck why) }
    | .ok (false, seen) => cm T n s 31 pos hd om fs wt (some false) seen none
    | .ok (true, seen) => cm T n s 33 (pos + 1) hd om fs wt none seen none) := rfl
  rw [e]
  by_cases hp : pos < n
  · by_cases hx : T.getD pos 0 = 32
    · rw [if_neg (by omega), if_pos ⟨hp, hx⟩, hx]
      rfl
    · rw [if_neg (by omega), if_neg (fun h => hx h.2), show (T.getD pos 0 == 32) = false from beq_eq_false_iff_ne.mpr hx]
  · rw [if_pos (by omega), if_neg (fun h => hp h.1)]
theorem cs_lit33 : (cm T n s 33 pos hd om fs wt none seen none).step = (if pos < n ∧ T.getD pos 0 = 32 then cm T n s 35 (pos + 1) hd om fs wt none (seen.add 16) none else cm T n s 33 pos hd om fs wt (some false) (seen.add 16) none) := by
  have e : (cm T n s 33 pos hd om fs wt none seen none).step = (if pos ≥ n then cm T n s 33 pos hd om fs wt (some false) (seen.add 16) none else match (Except.ok (T.getD pos 0 == 32, seen.add 16) : Except String (Bool × Seen)) with
    | .error why => { cm T n s 33 pos hd om fs wt none (seen.add 16) none with outcome := some (.stuck why) }
    | .ok (false, seen) => cm T n s 33 pos hd om fs wt (some false) seen none
    | .ok (true, seen) => cm T n s 35 (pos + 1) hd om fs wt none seen none) := rfl
  rw [e]
  by_cases hp : pos < n
  · by_cases hx : T.getD pos 0 = 32
    · rw [if_neg (by omega), if_pos ⟨hp, hx⟩, hx]
      rfl
    · rw [if_neg (by omega), if_neg (fun h => hx h.2), show (T.getD pos 0 == 32) = false from beq_eq_false_iff_ne.mpr hx]
  · rw [if_pos (by omega), if_neg (fun h => hp h.1)]
theorem cs_lit38 : (cm T n s 38 pos hd om fs wt none seen none).step = (if pos < n ∧ T.getD pos 0 = 9 then cm T n s 40 (pos + 1) hd om fs wt none (seen.add 16) none else cm T n s 38 pos hd om fs wt (some false) (seen.add 16) none) := by
  have e : (cm T n s 38 pos hd om fs wt none seen none).step = (if pos ≥ n then cm T n s 38 pos hd om fs wt (some false) (seen.add 16) none else match (Except.ok (T.getD pos 0 == 9, seen.add 16) : Except String (Bool × Seen)) with
    | .error why => { cm T n s 38 pos hd om fs wt none (seen.add 16) none with outcome := some (.stuck why) }
    | .ok (false, seen) => cm T n s 38 pos hd om fs wt (some false) seen none
    | .ok (true, seen) => cm T n s 40 (pos + 1) hd om fs wt none seen none) := rfl
  rw [e]
  by_cases hp : pos < n
  · by_cases hx : T.getD pos 0 = 9
    · rw [if_neg (by omega), if_pos ⟨hp, hx⟩, hx]
      rfl
    · rw [if_neg (by omega), if_neg (fun h => hx h.2), show (T.getD pos 0 == 9) = false from beq_eq_false_iff_ne.mpr hx]
  · rw [if_pos (by omega), if_neg (fun h => hp h.1)]
theorem cs_jump1 : ∃ seen', (cm T n s 35 pos hd om fs wt none seen none).step = cm T n s 43 pos hd om fs wt none seen' none := ⟨_, rfl⟩
theorem cs_jump2 : ∃ seen', (cm T n s 40 pos hd om fs wt none seen none).step = cm T n s 43 pos hd om fs wt none seen' none := ⟨_, rfl⟩
theorem cs_succ : ∃ seen', (cm T n s 43 pos hd om fs wt none seen none).step = cm T n s 43 pos pos om fs wt (some true) seen' none := by
  cases om <;> exact ⟨_, rfl⟩
theorem cs_nb1 {p : Nat} {o : Bool} (hw : wt ≤ 100) : (cm T n s pc pos hd om (nbF 30 p o :: fs) (wt + 1) (some false) seen none).step = cm T n s 38 p p o (nbF 37 p o :: fs) (wt + 1) none seen none := by
  show (if wt + 1 - (1 + 0) + 1 + 0 > 16777216 then _ else _) = _
  refine (if_neg (by omega)).trans ?_
  rfl
theorem cs_nb2 {p : Nat} {o : Bool} : (cm T n s pc pos hd om (nbF 37 p o :: fs) (wt + 1) (some false) seen none).step = cm T n s 37 p hd o fs wt (some false) seen none := rfl
theorem cs_nby {q p : Nat} {o : Bool} : (cm T n s pc pos hd om (nbF q p o :: fs) (wt + 1) (some true) seen none).step = cm T n s q p hd o fs wt (some true) seen none := rfl
theorem cs_gby {p : Nat} {o : Bool} {c : Int} : (cm T n s pc pos hd om (gbF p o c :: fs) (wt + 1) (some true) seen none).step = cm T n s 19 p hd o fs wt (some true) seen none := rfl
theorem cs_nsy {p : Nat} {o : Bool} : (cm T n s pc pos hd om (nsF p o :: fs) (wt + 1) (some true) seen none).step = cm T n s 11 p hd o fs wt (some true) seen none := rfl
theorem cs_gb0 {p : Nat} {o : Bool} : (cm T n s pc pos hd om (gbF p o 0 :: fs) (wt + 1) (some false) seen none).step = cm T n s 19 p hd o fs wt (some false) seen none := rfl
theorem cs_gbS {p c : Nat} {o : Bool} (hw : wt ≤ 100) : (cm T n s pc pos hd om (gbF p o ((c + 1 : Nat) : Int) :: fs) (wt + 1) (some false) seen none).step = cm T n s 29 (p - 1) (p - 1) o (gbF (p - 1) o (c : Int) :: fs) (wt + 1) none seen none := by
  have e : (((c + 1 : Nat) : Int) - 1) = (c : Int) := by omega
  show (if ((c + 1 : Nat) : Int) - 1 < ((0 : Nat) : Int) then _ else (if wt + 1 - (1 + 0) + 1 + 0 > 16777216 then _ else _)) = _
  rw [if_neg (by omega), if_neg (by omega)]
  show cm T n s 29 (p - 1) (p - 1) o (gbF (p - 1) o (((c + 1 : Nat) : Int) - 1) :: fs) (wt + 1) none seen none = _
  rw [e]
theorem cs_out {b : Bool} : (cm T n s pc pos hd om [] wt (some b) seen none).step = cm T n s pc pos hd om [] wt (some b) seen (some (if b then .matched else .failed)) := rfl
end
end Mine

end
section
open PySem PySem.Sre
set_option Elab.async false
set_option maxRecDepth 100000
namespace Mine
/-- the machine comes there in at most so many steps -/
def Reach (B : Nat) (m m' : Sre.M) : Prop := ∃ k, k ≤ B ∧ m.runFor k = m'
theorem Reach.here (m : Sre.M) : Reach 0 m m := ⟨0, Nat.le_refl _, rfl⟩
theorem Reach.step {B : Nat} {m m1 m' : Sre.M} (h : m.outcome = none) (e : m.step = m1) (r : Reach B m1 m') : Reach (B + 1) m m' := by
  obtain ⟨k, hk, rk⟩ := r
  refine ⟨k + 1, Nat.succ_le_succ hk, ?_⟩
  show (if m.outcome.isSome then m else Sre.M.runFor k m.step) = m'
  rw [h, e]
  exact rk
theorem Reach.trans {B C : Nat} {m m1 m' : Sre.M} (r : Reach B m m1) (r2 : Reach C m1 m') : Reach (B + C) m m' := by
  obtain ⟨k, hk, rk⟩ := r
  obtain ⟨j, hj, rj⟩ := r2
  exact ⟨k + j, Nat.add_le_add hk hj, by rw [runFor_add, rk, rj]⟩
theorem Reach.le {B C : Nat} {m m' : Sre.M} (r : Reach B m m') (h : B ≤ C) : Reach C m m' := by
  obtain ⟨k, hk, rk⟩ := r
  exact ⟨k, Nat.le_trans hk h, rk⟩
/-- what may stand behind the blanks: two blanks or a tab -/
def brAt (T : Array Nat) (n p : Nat) : Option Nat :=
  if p < n ∧ T.getD p 0 = 32 then (if p + 1 < n ∧ T.getD (p + 1) 0 = 32 then some (p + 2) else none)
  else if p < n ∧ T.getD p 0 = 9 then some (p + 1) else none
section
variable {T : Array Nat} {n s pc pos hd wt c : Nat} {om : Bool} {fs : List Sre.Frame} {seen : Seen}
theorem cr_yes {e : Nat} (hw : wt ≤ 90) (hb : brAt T n pos = some e) : ∃ q seen', Reach 9 (cm T n s 29 pos hd om fs wt none seen none) (cm T n s q pos e om fs wt (some true) seen' none) := by
  obtain ⟨s1, e1⟩ := cs_br (T := T) (n := n) (s := s) (pos := pos) (hd := hd) (om := om) (fs := fs) (seen := seen) (wt := wt) (by omega)
  unfold brAt at hb
  by_cases h1 : pos < n ∧ T.getD pos 0 = 32
  · rw [if_pos h1] at hb
    by_cases h2 : pos + 1 < n ∧ T.getD (pos + 1) 0 = 32
    · rw [if_pos h2] at hb
      cases hb
      have e2 := cs_lit31 (T := T) (n := n) (s := s) (pos := pos) (hd := pos) (om := om) (fs := nbF 30 pos om :: fs) (seen := s1) (wt := wt + 1)
      rw [if_pos h1] at e2
      have e3 := cs_lit33 (T := T) (n := n) (s := s) (pos := pos + 1) (hd := pos) (om := om) (fs := nbF 30 pos om :: fs) (seen := s1.add 16) (wt := wt + 1)
      rw [if_pos h2] at e3
      obtain ⟨s4, e4⟩ := cs_jump1 (T := T) (n := n) (s := s) (pos := pos + 1 + 1) (hd := pos) (om := om) (fs := nbF 30 pos om :: fs) (seen := (s1.add 16).add 16) (wt := wt + 1)
      obtain ⟨s5, e5⟩ := cs_succ (T := T) (n := n) (s := s) (pos := pos + 1 + 1) (hd := pos) (om := om) (fs := nbF 30 pos om :: fs) (seen := s4) (wt := wt + 1)
      refine ⟨30, s5, (Reach.step rfl e1 (.step rfl e2 (.step rfl e3 (.step rfl e4 (.step rfl e5 (.step rfl (cs_nby (q := 30)) (.here _))))))).le (by omega)⟩
    · rw [if_neg h2] at hb; cases hb
  · rw [if_neg h1] at hb
    by_cases h2 : pos < n ∧ T.getD pos 0 = 9
    · rw [if_pos h2] at hb
      cases hb
      have e2 := cs_lit31 (T := T) (n := n) (s := s) (pos := pos) (hd := pos) (om := om) (fs := nbF 30 pos om :: fs) (seen := s1) (wt := wt + 1)
      rw [if_neg h1] at e2
      have e3 := cs_nb1 (T := T) (n := n) (s := s) (pc := 31) (pos := pos) (hd := pos) (om := om) (fs := fs) (seen := s1.add 16) (wt := wt) (p := pos) (o := om) (by omega)
      have e4 := cs_lit38 (T := T) (n := n) (s := s) (pos := pos) (hd := pos) (om := om) (fs := nbF 37 pos om :: fs) (seen := s1.add 16) (wt := wt + 1)
      rw [if_pos h2] at e4
      obtain ⟨s5, e5⟩ := cs_jump2 (T := T) (n := n) (s := s) (pos := pos + 1) (hd := pos) (om := om) (fs := nbF 37 pos om :: fs) (seen := (s1.add 16).add 16) (wt := wt + 1)
      obtain ⟨s6, e6⟩ := cs_succ (T := T) (n := n) (s := s) (pos := pos + 1) (hd := pos) (om := om) (fs := nbF 37 pos om :: fs) (seen := s5) (wt := wt + 1)
      refine ⟨37, s6, (Reach.step rfl e1 (.step rfl e2 (.step rfl e3 (.step rfl e4 (.step rfl e5 (.step rfl e6 (.step rfl (cs_nby (q := 37)) (.here _)))))))).le (by omega)⟩
    · rw [if_neg h2] at hb; cases hb
theorem cr_no (hw : wt ≤ 90) (hb : brAt T n pos = none) : ∃ hd' seen', Reach 9 (cm T n s 29 pos hd om fs wt none seen none) (cm T n s 37 pos hd' om fs wt (some false) seen' none) := by
  obtain ⟨s1, e1⟩ := cs_br (T := T) (n := n) (s := s) (pos := pos) (hd := hd) (om := om) (fs := fs) (seen := seen) (wt := wt) (by omega)
  unfold brAt at hb
  have tail : ∀ (q x : Nat) (sn : Seen), ¬ (pos < n ∧ T.getD pos 0 = 9) → ∃ hd' seen', Reach 3 (cm T n s q x pos om (nbF 30 pos om :: fs) (wt + 1) (some false) sn none) (cm T n s 37 pos hd' om fs wt (some false) seen' none) := by
    intro q x sn h9
    have e3 := cs_nb1 (T := T) (n := n) (s := s) (pc := q) (pos := x) (hd := pos) (om := om) (fs := fs) (seen := sn) (wt := wt) (p := pos) (o := om) (by omega)
    have e4 := cs_lit38 (T := T) (n := n) (s := s) (pos := pos) (hd := pos) (om := om) (fs := nbF 37 pos om :: fs) (seen := sn) (wt := wt + 1)
    rw [if_neg h9] at e4
    exact ⟨_, _, Reach.step rfl e3 (.step rfl e4 (.step rfl cs_nb2 (.here _)))⟩
  by_cases h1 : pos < n ∧ T.getD pos 0 = 32
  · rw [if_pos h1] at hb
    by_cases h2 : pos + 1 < n ∧ T.getD (pos + 1) 0 = 32
    · rw [if_pos h2] at hb; cases hb
    · have e2 := cs_lit31 (T := T) (n := n) (s := s) (pos := pos) (hd := pos) (om := om) (fs := nbF 30 pos om :: fs) (seen := s1) (wt := wt + 1)
      rw [if_pos h1] at e2
      have e3 := cs_lit33 (T := T) (n := n) (s := s) (pos := pos + 1) (hd := pos) (om := om) (fs := nbF 30 pos om :: fs) (seen := s1.add 16) (wt := wt + 1)
      rw [if_neg h2] at e3
      obtain ⟨hd', s', r⟩ := tail 33 (pos + 1) ((s1.add 16).add 16) (fun h => by rw [h1.2] at h; exact absurd h.2 (by decide))
      exact ⟨hd', s', (Reach.step rfl e1 (.step rfl e2 (.step rfl e3 r))).le (by omega)⟩
  · rw [if_neg h1] at hb
    by_cases h2 : pos < n ∧ T.getD pos 0 = 9
    · rw [if_pos h2] at hb; cases hb
    · have e2 := cs_lit31 (T := T) (n := n) (s := s) (pos := pos) (hd := pos) (om := om) (fs := nbF 30 pos om :: fs) (seen := s1) (wt := wt + 1)
      rw [if_neg h1] at e2
      obtain ⟨hd', s', r⟩ := tail 31 pos (s1.add 16) h2
      exact ⟨hd', s', (Reach.step rfl e1 (.step rfl e2 r)).le (by omega)⟩
/-- giving blanks back -/
def giveAt (T : Array Nat) (n p : Nat) : Nat → Option Nat
  | 0 => brAt T n p
  | c + 1 => match brAt T n (p + c + 1) with | some e => some e | none => giveAt T n p c
theorem cg_yes {p e : Nat} (hw : wt ≤ 80) : ∀ (c hd : Nat) (seen : Seen), giveAt T n p c = some e → ∃ q x seen', Reach (10 * (c + 1)) (cm T n s 29 (p + c) hd om (gbF (p + c) om (c : Int) :: fs) (wt + 1) none seen none) (cm T n s q x e om fs wt (some true) seen' none)
  | 0, hd, seen, h => by
    obtain ⟨q, s1, r⟩ := cr_yes (T := T) (n := n) (s := s) (pos := p + 0) (hd := hd) (om := om) (fs := gbF (p + 0) om ((0 : Nat) : Int) :: fs) (wt := wt + 1) (seen := seen) (by omega) h
    exact ⟨19, p + 0, s1, (r.trans (Reach.step rfl cs_gby (.here _))).le (by omega)⟩
  | c + 1, hd, seen, h => by
    unfold giveAt at h
    cases hb : brAt T n (p + c + 1) with
    | some e2 =>
      rw [hb] at h
      cases h
      obtain ⟨q, s1, r⟩ := cr_yes (T := T) (n := n) (s := s) (pos := p + (c + 1)) (hd := hd) (om := om) (fs := gbF (p + (c + 1)) om ((c + 1 : Nat) : Int) :: fs) (wt := wt + 1) (seen := seen) (by omega) hb
      exact ⟨19, p + (c + 1), s1, (r.trans (Reach.step rfl cs_gby (.here _))).le (by omega)⟩
    | none =>
      rw [hb] at h
      obtain ⟨hd2, s1, r⟩ := cr_no (T := T) (n := n) (s := s) (pos := p + (c + 1)) (hd := hd) (om := om) (fs := gbF (p + (c + 1)) om ((c + 1 : Nat) : Int) :: fs) (wt := wt + 1) (seen := seen) (by omega) hb
      obtain ⟨q, x, s2, r2⟩ := cg_yes hw c (p + c) s1 h
      have e := cs_gbS (T := T) (n := n) (s := s) (pc := 37) (pos := p + (c + 1)) (hd := hd2) (om := om) (fs := fs) (wt := wt) (seen := s1) (p := p + (c + 1)) (c := c) (o := om) (by omega)
      exact ⟨q, x, s2, (r.trans (Reach.step rfl e r2)).le (by omega)⟩
theorem cg_no {p : Nat} (hw : wt ≤ 80) : ∀ (c hd : Nat) (seen : Seen), giveAt T n p c = none → ∃ q x hd' seen', Reach (10 * (c + 1)) (cm T n s 29 (p + c) hd om (gbF (p + c) om (c : Int) :: fs) (wt + 1) none seen none) (cm T n s q x hd' om fs wt (some false) seen' none)
  | 0, hd, seen, h => by
    obtain ⟨hd2, s1, r⟩ := cr_no (T := T) (n := n) (s := s) (pos := p + 0) (hd := hd) (om := om) (fs := gbF (p + 0) om ((0 : Nat) : Int) :: fs) (wt := wt + 1) (seen := seen) (by omega) h
    exact ⟨19, p + 0, hd2, s1, (r.trans (Reach.step rfl cs_gb0 (.here _))).le (by omega)⟩
  | c + 1, hd, seen, h => by
    unfold giveAt at h
    cases hb : brAt T n (p + c + 1) with
    | some e2 => rw [hb] at h; cases h
    | none =>
      rw [hb] at h
      obtain ⟨hd2, s1, r⟩ := cr_no (T := T) (n := n) (s := s) (pos := p + (c + 1)) (hd := hd) (om := om) (fs := gbF (p + (c + 1)) om ((c + 1 : Nat) : Int) :: fs) (wt := wt + 1) (seen := seen) (by omega) hb
      obtain ⟨q, x, hd3, s2, r2⟩ := cg_no hw c (p + c) s1 h
      have e := cs_gbS (T := T) (n := n) (s := s) (pc := 37) (pos := p + (c + 1)) (hd := hd2) (om := om) (fs := fs) (wt := wt) (seen := s1) (p := p + (c + 1)) (c := c) (o := om) (by omega)
      exact ⟨q, x, hd3, s2, (r.trans (Reach.step rfl e r2)).le (by omega)⟩
end
end Mine

end
section
open PySem PySem.Sre
set_option Elab.async false
set_option maxRecDepth 100000
namespace Mine
def firstF (f : Nat → Bool) (T : Array Nat) (n : Nat) : Nat → Nat → Option Nat
  | 0, _ => none
  | k + 1, s => if s ≥ n then none else if f (T.getD s 0) then some s else firstF f T n k (s + 1)
theorem firstF_lt {f : Nat → Bool} {T : Array Nat} {n : Nat} : ∀ {k s r : Nat}, firstF f T n k s = some r → s ≤ r ∧ r < n ∧ f (T.getD r 0) = true
  | 0, _, _, h => nomatch h
  | k + 1, s, r, h => by
    unfold firstF at h
    split at h
    · cases h
    · split at h
      · cases h; exact ⟨Nat.le_refl _, by omega, by assumption⟩
      · obtain ⟨a, b, c⟩ := firstF_lt h
        exact ⟨by omega, b, c⟩
theorem adm_is {m : Sre.M} {f : Nat → Bool} (ha : ∀ c seen, ∃ seen', inSet m.code c m.code.size 5 true seen = .ok (f c, seen')) : ∀ (k s : Nat) (seen : Seen), ∃ seen', Sre.M.admitted m k s seen = .ok (firstF f m.text m.lim k s, seen')
  | 0, s, seen => ⟨seen, rfl⟩
  | k + 1, s, seen => by
    unfold firstF Sre.M.admitted
    by_cases h : s ≥ m.lim
    · rw [if_pos h, if_pos h]; exact ⟨seen, rfl⟩
    · rw [if_neg h, if_neg h]
      obtain ⟨s1, e⟩ := ha (m.text.getD s 0) seen
      rw [e]
      cases hf : f (m.text.getD s 0) with
      | true => exact ⟨s1, rfl⟩
      | false => exact adm_is ha k (s + 1) s1
def comMatch (T : Array Nat) (n s : Nat) : Option Nat := giveAt T n (s + 1) (runW isSp T (min 4294967295 (n - (s + 1))) (s + 1))
def comFind (T : Array Nat) (n : Nat) : Nat → Nat → Option (Nat × Nat)
  | 0, _ => none
  | k + 1, s => match firstF isSign T n (n + 1 - s) s with
    | none => none
    | some s' => match comMatch T n s' with
      | some e => some (s', e)
      | none => comFind T n k (s' + 1)
section
variable {T : Array Nat} {n s pos hd : Nat} {om must : Bool} {seen : Seen}
theorem ca_some {s' : Nat} {first : Bool} {q : Nat} (h : firstF isSign T n (n + 1 - q) q = some s') : ∃ seen', (({ cm T n s 11 pos hd om [] 0 none seen none with mustAdvance := must } : Sre.M).attemptFrom q first) = cm T n s' 11 s' s' first [nsF s' first] 1 none seen' none := by
  obtain ⟨s1, e⟩ := adm_is (m := { cm T n s 11 pos hd om [] 0 none seen none with mustAdvance := must }) (f := isSign) inSet_adm (n + 1 - q) q seen
  have e' : Sre.M.admitted { cm T n s 11 pos hd om [] 0 none seen none with mustAdvance := must } (n + 1 - q) q seen = .ok (some s', s1) := e.trans (by show Except.ok (firstF isSign T n (n + 1 - q) q, s1) = _; rw [h])
  refine ⟨s1, ?_⟩
  unfold Sre.M.attemptFrom
  refine (if_neg (show ¬ (false = true) from Bool.false_ne_true)).trans ?_
  generalize hr : Sre.M.admitted _ _ _ _ = r
  have : r = .ok (some s', s1) := hr.symm.trans e'
  subst this
  rfl
theorem ca_none {first : Bool} {q : Nat} (h : firstF isSign T n (n + 1 - q) q = none) : ∃ seen', (({ cm T n s 11 pos hd om [] 0 none seen none with mustAdvance := must } : Sre.M).attemptFrom q first) = { cm T n s 11 pos hd om [] 0 (some false) seen' none with mustAdvance := must } := by
  obtain ⟨s1, e⟩ := adm_is (m := { cm T n s 11 pos hd om [] 0 none seen none with mustAdvance := must }) (f := isSign) inSet_adm (n + 1 - q) q seen
  have e' : Sre.M.admitted { cm T n s 11 pos hd om [] 0 none seen none with mustAdvance := must } (n + 1 - q) q seen = .ok (none, s1) := e.trans (by show Except.ok (firstF isSign T n (n + 1 - q) q, s1) = _; rw [h])
  refine ⟨s1, ?_⟩
  unfold Sre.M.attemptFrom
  refine (if_neg (show ¬ (false = true) from Bool.false_ne_true)).trans ?_
  generalize hr : Sre.M.admitted _ _ _ _ = r
  have : r = .ok (none, s1) := hr.symm.trans e'
  subst this
  rfl
theorem cs_ns {p q x : Nat} {o : Bool} (h : p < n) : (cm T n s q x hd om [nsF p o] 1 (some false) seen none).step = ({ cm T n s 11 p hd o [] 0 none seen none with mustAdvance := false } : Sre.M).attemptFrom (p + 1) false := by
  show (if p < n then _ else _) = _
  rw [if_pos h]
  rfl
/-- the search of the comma pattern -/
theorem com_go : ∀ (k q : Nat) (s pos hd : Nat) (om must first : Bool) (seen : Seen), n < q + k →
    (∀ s' e, comFind T n k q = some (s', e) → ∃ q2 x o seen', Reach (k * (10 * (n + 4))) (({ cm T n s 11 pos hd om [] 0 none seen none with mustAdvance := must } : Sre.M).attemptFrom q first) (cm T n s' q2 x e o [] 0 (some true) seen' (some .matched))) ∧
    (comFind T n k q = none → ∃ m', Reach (k * (10 * (n + 4)) + 1) (({ cm T n s 11 pos hd om [] 0 none seen none with mustAdvance := must } : Sre.M).attemptFrom q first) m' ∧ m'.outcome = some .failed) := by
  intro k
  induction k with
  | zero =>
    intro q s pos hd om must first seen h
    refine ⟨(fun _ _ h => by cases h), fun _ => ?_⟩
    have hn : firstF isSign T n (n + 1 - q) q = none := by
      rw [show n + 1 - q = 0 by omega]; rfl
    obtain ⟨s1, e⟩ := ca_none (T := T) (n := n) (s := s) (pos := pos) (hd := hd) (om := om) (must := must) (seen := seen) (first := first) hn
    rw [e]
    exact ⟨_, (Reach.step rfl rfl (.here _)).le (by omega), rfl⟩
  | succ k ih =>
    intro q s pos hd om must first seen h
    have hmul : (k + 1) * (10 * (n + 4)) = k * (10 * (n + 4)) + 10 * (n + 4) := Nat.succ_mul ..
    cases hf : firstF isSign T n (n + 1 - q) q with
    | none =>
      have hcf : comFind T n (k + 1) q = none := by unfold comFind; rw [hf]
      refine ⟨(fun _ _ h => by rw [hcf] at h; cases h), fun _ => ?_⟩
      obtain ⟨s1, e⟩ := ca_none (T := T) (n := n) (s := s) (pos := pos) (hd := hd) (om := om) (must := must) (seen := seen) (first := first) hf
      rw [e]
      exact ⟨_, (Reach.step rfl rfl (.here _)).le (by omega), rfl⟩
    | some s' =>
      obtain ⟨hq, hlt, hsg⟩ := firstF_lt hf
      obtain ⟨s1, e⟩ := ca_some (T := T) (n := n) (s := s) (pos := pos) (hd := hd) (om := om) (must := must) (seen := seen) (first := first) hf
      obtain ⟨s2, e2⟩ := cs_in (T := T) (n := n) (s := s') (pos := s') (hd := s') (om := first) (fs := [nsF s' first]) (wt := 1) (seen := s1) hlt hsg
      obtain ⟨s3, e3⟩ := cs_rep (T := T) (n := n) (s := s') (pos := s' + 1) (hd := s') (om := first) (fs := [nsF s' first]) (wt := 1) (seen := s2) (by decide) (by omega)
      have hR := runW_le isSp T (min 4294967295 (n - (s' + 1))) (s' + 1)
      rw [e]
      cases hc : comMatch T n s' with
      | some ee =>
        have hcf : comFind T n (k + 1) q = some (s', ee) := by unfold comFind; rw [hf]; dsimp only; rw [hc]
        refine ⟨fun a b h => ?_, (fun h => by rw [hcf] at h; cases h)⟩
        rw [hcf] at h
        cases h
        obtain ⟨q2, x, s4, r⟩ := cg_yes (T := T) (n := n) (s := s') (om := first) (fs := [nsF s' first]) (wt := 1) (by decide) (runW isSp T (min 4294967295 (n - (s' + 1))) (s' + 1)) (s' + 1 + runW isSp T (min 4294967295 (n - (s' + 1))) (s' + 1)) s3 hc
        refine ⟨11, s', first, s4, (Reach.step rfl e2 (Reach.step rfl e3 (r.trans (Reach.step rfl cs_nsy (Reach.step rfl cs_out (.here _)))))).le ?_⟩
        omega
      | none =>
        have hcf : comFind T n (k + 1) q = comFind T n k (s' + 1) := by
          rw [show comFind T n (k + 1) q = (match firstF isSign T n (n + 1 - q) q with
            | none => none
            | some s' => match comMatch T n s' with
              | some e => some (s', e)
              | none => comFind T n k (s' + 1)) from rfl, hf]
          dsimp only
          rw [hc]
        obtain ⟨q2, x, hd2, s4, r⟩ := cg_no (T := T) (n := n) (s := s') (om := first) (fs := [nsF s' first]) (wt := 1) (by decide) (runW isSp T (min 4294967295 (n - (s' + 1))) (s' + 1)) (s' + 1 + runW isSp T (min 4294967295 (n - (s' + 1))) (s' + 1)) s3 hc
        have e5 := cs_ns (T := T) (n := n) (s := s') (hd := hd2) (om := first) (seen := s4) (p := s') (q := q2) (x := x) (o := first) hlt
        obtain ⟨n1, n2⟩ := ih (s' + 1) s' s' hd2 first false false s4 (by omega)
        rw [hcf]
        refine ⟨fun a b h => ?_, fun h => ?_⟩
        · obtain ⟨q3, x3, o3, s7, r2⟩ := n1 a b h
          refine ⟨q3, x3, o3, s7, (Reach.step rfl e2 (Reach.step rfl e3 (r.trans (Reach.step rfl e5 r2)))).le ?_⟩
          omega
        · obtain ⟨m', r2, hm⟩ := n2 h
          refine ⟨m', (Reach.step rfl e2 (Reach.step rfl e3 (r.trans (Reach.step rfl e5 r2)))).le ?_, hm⟩
          omega
end
end Mine

end
section
open PySem PySem.Sre
set_option Elab.async false
set_option maxRecDepth 100000
namespace Mine
section
variable {T : Array Nat} {n : Nat}
theorem brAt_rng {p e : Nat} (h : brAt T n p = some e) : p + 1 ≤ e ∧ e ≤ n := by
  unfold brAt at h
  split at h
  · split at h
    · cases h; omega
    · cases h
  · split at h
    · cases h; omega
    · cases h
theorem giveAt_rng {p e : Nat} : ∀ {c : Nat}, giveAt T n p c = some e → p + 1 ≤ e ∧ e ≤ n
  | 0, h => brAt_rng h
  | c + 1, h => by
    unfold giveAt at h
    cases hb : brAt T n (p + c + 1) with
    | some e2 =>
      rw [hb] at h
      cases h
      have := brAt_rng hb
      omega
    | none => rw [hb] at h; exact giveAt_rng h
theorem comFind_rng {s' e : Nat} : ∀ {k q : Nat}, comFind T n k q = some (s', e) → q ≤ s' ∧ s' + 2 ≤ e ∧ e ≤ n
  | 0, _, h => by cases h
  | k + 1, q, h => by
    unfold comFind at h
    cases hf : firstF isSign T n (n + 1 - q) q with
    | none => rw [hf] at h; cases h
    | some s1 =>
      rw [hf] at h
      obtain ⟨h1, _, _⟩ := firstF_lt hf
      dsimp only at h
      cases hc : comMatch T n s1 with
      | some e1 =>
        rw [hc] at h
        cases h
        have := giveAt_rng hc
        omega
      | none =>
        rw [hc] at h
        have := comFind_rng h
        omega
theorem com_fresh {q : Nat} {must : Bool} (h : ¬ (q > n ∨ n - q < 2)) : ∃ seen, Sre.forSearch comCode T 0 q n must = (({ cm T n q 11 q q true [] 0 none seen none with mustAdvance := must } : Sre.M).attemptFrom q true) := by
  refine ⟨({} : Seen).add 14, ?_⟩
  show (if (decide (q > n) || decide (n - q < 2)) = true then _ else _) = _
  rw [if_neg (by simpa using h)]
  rfl
theorem com_some {q s' e : Nat} {must : Bool} (h : comFind T n (n + 1) q = some (s', e)) : ∃ m', Reach ((n + 1) * (10 * (n + 4))) (Sre.forSearch comCode T 0 q n must) m' ∧ m'.outcome = some .matched ∧ m'.start = s' ∧ m'.handed = e ∧ m'.lastindex = -1 := by
  obtain ⟨h1, h2, h3⟩ := comFind_rng h
  obtain ⟨sn, ef⟩ := com_fresh (T := T) (n := n) (q := q) (must := must) (by omega)
  rw [ef]
  obtain ⟨q2, x, o, s4, r⟩ := (com_go (T := T) (n := n) (n + 1) q q q q true must true sn (by omega)).1 s' e h
  exact ⟨_, r, rfl, rfl, rfl, rfl⟩
theorem com_none {q : Nat} {must : Bool} (h : comFind T n (n + 1) q = none) : ∃ m', Reach ((n + 1) * (10 * (n + 4)) + 1) (Sre.forSearch comCode T 0 q n must) m' ∧ m'.outcome = some .failed := by
  by_cases hq : q > n ∨ n - q < 2
  · have e : ∃ m : Sre.M, Sre.forSearch comCode T 0 q n must = m ∧ m.outcome = none ∧ m.answer = some false ∧ m.frames = [] := by
      refine ⟨{ cm T n q 11 q q true [] 0 (some false) (({} : Seen).add 14) none with mustAdvance := must, lastStart := 0 }, ?_, rfl, rfl, rfl⟩
      show (if (decide (q > n) || decide (n - q < 2)) = true then _ else _) = _
      rw [if_pos (by simpa using hq)]
      rfl
    obtain ⟨m, e1, e2, e3, e4⟩ := e
    rw [e1]
    refine ⟨{ m with outcome := some .failed }, (Reach.step e2 ?_ (.here _)).le (by omega), rfl⟩
    unfold Sre.M.step
    rw [e2, e3, e4]
    rfl
  · obtain ⟨sn, ef⟩ := com_fresh (T := T) (n := n) (q := q) (must := must) hq
    rw [ef]
    exact (com_go (T := T) (n := n) (n + 1) q q q q true must true sn (by omega)).2 h
end
end Mine

end
section
open PySem PySem.Sre
set_option Elab.async false
set_option maxRecDepth 100000
namespace Mine
def opCode : Array Nat := #[14, 10, 4, 2, 4294967295, 21, 16, 44, 8, 12, 0, 13, 7, 21, 16, 44, 8, 12, 0, 17, 0, 24, 9, 0, 4294967295, 13, 4, 8, 12, 0, 1, 17, 1, 7, 20, 24, 16, 1, 4294967295, 13, 11, 9, 0, 1879092322, 1073741824, 268435456, 0, 0, 0, 0, 0, 1, 15, 9, 7, 16, 58, 16, 61, 15, 2, 0, 17, 2, 24, 9, 0, 4294967295, 13, 4, 8, 12, 0, 1, 17, 3, 1]
def isHead (c : Nat) : Bool := !(c == 44) && !(isSp c)
def isOpc (c : Nat) : Bool := decide (c < 256) && (opCode.getD (41 + (1 + c / 32)) 0).testBit (c % 32)
theorem cat12 (c : Nat) : category 12 c = .ok (isSp c) := by
  unfold isSp category
  cases h : Unicode.isSpace c <;> simp [Except.map]
theorem o_adm (c : Nat) (seen : Seen) : ∃ seen', inSet opCode c opCode.size 5 true seen = .ok (isHead c, seen') := by
  have e : ∃ s1 s2 s3, inSet opCode c opCode.size 5 true seen = (if (c == 44) = true then Except.ok (false, s1) else ((category 12 c) >>= fun b => if b = true then pure (false, s2) else Except.ok (true, s3))) := ⟨_, _, _, rfl⟩
  obtain ⟨s1, s2, s3, e⟩ := e
  rw [e, cat12]
  unfold isHead
  cases h : (c == 44) with
  | true => exact ⟨s1, rfl⟩
  | false =>
    cases h2 : isSp c with
    | true => exact ⟨s2, rfl⟩
    | false => exact ⟨s3, rfl⟩
theorem o_acc (c : Nat) (seen : Seen) : ∃ seen', accepts opCode 11 c seen = .ok (isHead c, seen') := by
  have e : ∃ s1 s2 s3, accepts opCode 11 c seen = (if (c == 44) = true then Except.ok (false, s1) else ((category 12 c) >>= fun b => if b = true then pure (false, s2) else Except.ok (true, s3))) := ⟨_, _, _, rfl⟩
  obtain ⟨s1, s2, s3, e⟩ := e
  rw [e, cat12]
  unfold isHead
  cases h : (c == 44) with
  | true => exact ⟨s1, rfl⟩
  | false =>
    cases h2 : isSp c with
    | true => exact ⟨s2, rfl⟩
    | false => exact ⟨s3, rfl⟩
theorem o_sp25 (c : Nat) (seen : Seen) : ∃ seen', accepts opCode 25 c seen = .ok (isSp c, seen') := by
  have e : ∃ s1 s2, accepts opCode 25 c seen = ((category 12 c) >>= fun b => if b = true then pure (true, s1) else Except.ok (!true, s2)) := ⟨_, _, rfl⟩
  obtain ⟨s1, s2, e⟩ := e
  rw [e, cat12]
  cases isSp c with
  | true => exact ⟨s1, rfl⟩
  | false => exact ⟨s2, rfl⟩
theorem o_sp68 (c : Nat) (seen : Seen) : ∃ seen', accepts opCode 68 c seen = .ok (isSp c, seen') := by
  have e : ∃ s1 s2, accepts opCode 68 c seen = ((category 12 c) >>= fun b => if b = true then pure (true, s1) else Except.ok (!true, s2)) := ⟨_, _, rfl⟩
  obtain ⟨s1, s2, e⟩ := e
  rw [e, cat12]
  cases isSp c with
  | true => exact ⟨s1, rfl⟩
  | false => exact ⟨s2, rfl⟩
theorem o_op39 (c : Nat) (seen : Seen) : ∃ seen', accepts opCode 39 c seen = .ok (isOpc c, seen') := by
  have e : ∃ s1 s2, accepts opCode 39 c seen = (if (decide (c < 256) && (opCode.getD (41 + (1 + c / 32)) 0).testBit (c % 32)) = true then Except.ok (true, s1) else Except.ok (!true, s2)) := ⟨_, _, rfl⟩
  obtain ⟨s1, s2, e⟩ := e
  rw [e]
  unfold isOpc
  cases (decide (c < 256) && (opCode.getD (41 + (1 + c / 32)) 0).testBit (c % 32)) with
  | true => exact ⟨s1, rfl⟩
  | false => exact ⟨s2, rfl⟩
/-- a state of the operator machine -/
def pm (T : Array Nat) (n s pc pos hd : Nat) (om : Bool) (mk : Array (Option Nat)) (lm li : Int) (fs : List Sre.Frame) (wt : Nat) (ans : Option Bool) (seen : Seen) (oc : Option Sre.Outcome) : Sre.M :=
  { code := opCode, text := T, lim := n, start := s, lastStart := n, pc := pc, pos := pos, handed := hd, outermost := om, marks := mk, lastmark := lm, lastindex := li, frames := fs, weight := wt, answer := ans, seen := seen, outcome := oc }
def gbO (pc pos : Nat) (om : Bool) (c : Int) (lm li : Int) : Sre.Frame := { wait := .giveBack, pc := pc, pos := pos, outermost := om, count := c, kept := { lastmark := lm, lastindex := li } }
def nbO (pc pos : Nat) (om : Bool) (lm li : Int) : Sre.Frame := { wait := .nextBranch, pc := pc, pos := pos, outermost := om, kept := { lastmark := lm, lastindex := li } }
section
variable {T : Array Nat} {n s pc pos hd wt : Nat} {om : Bool} {mk : Array (Option Nat)} {lm li : Int} {fs : List Sre.Frame} {seen : Seen} {a b c d : Option Nat}
theorem os_in (h : pos < n) (hs : isHead (T.getD pos 0) = true) : ∃ seen', (pm T n s 11 pos hd om mk lm li fs wt none seen none).step = pm T n s 19 (pos + 1) hd om mk lm li fs wt none seen' none := by
  have e : ∃ X sn, (pm T n s 11 pos hd om mk lm li fs wt none seen none).step = (if pos ≥ n then X else match accepts opCode 11 (T.getD pos 0) sn with
    | .error why => { pm T n s 11 pos hd om mk lm li fs wt none sn none with outcome := some (.stuck why) }
    | .ok (false, seen) => { pm T n s 11 pos hd om mk lm li fs wt none sn none with seen, answer := some false }
    | .ok (true, seen) => { pm T n s 11 pos hd om mk lm li fs wt none sn none with seen, pc := 11 + itemWidth opCode 11, pos := pos + 1 }) := ⟨_, _, rfl⟩
  obtain ⟨X, sn, e⟩ := e
  obtain ⟨s1, e1⟩ := o_acc (T.getD pos 0) sn
  rw [e, if_neg (by omega), e1, hs]
  exact ⟨s1, rfl⟩
theorem os_m0 : ∃ seen', (pm T n s 19 pos hd om #[a, b, c, d] (-1) (-1) fs wt none seen none).step = pm T n s 21 pos hd om #[some pos, b, c, d] 0 (-1) fs wt none seen' none := ⟨_, rfl⟩
theorem os_m1 : ∃ seen', (pm T n s 31 pos hd om #[a, b, c, d] 0 (-1) fs wt none seen none).step = pm T n s 33 pos hd om #[a, some pos, c, d] 1 1 fs wt none seen' none := ⟨seen.add 17, by kernel_rfl⟩
theorem os_m2 : ∃ seen', (pm T n s 62 pos hd om #[a, b, c, d] 1 1 fs wt none seen none).step = pm T n s 64 pos hd om #[a, b, some pos, d] 2 1 fs wt none seen' none := ⟨seen.add 17, by kernel_rfl⟩
theorem os_m3 : ∃ seen', (pm T n s 74 pos hd om #[a, b, c, d] 2 1 fs wt none seen none).step = pm T n s 76 pos hd om #[a, b, c, some pos] 3 2 fs wt none seen' none := ⟨seen.add 17, by kernel_rfl⟩
theorem os_jump1 : ∃ seen', (pm T n s 52 pos hd om mk lm li fs wt none seen none).step = pm T n s 62 pos hd om mk lm li fs wt none seen' none := ⟨_, rfl⟩
theorem os_jump2 : ∃ seen', (pm T n s 59 pos hd om mk lm li fs wt none seen none).step = pm T n s 62 pos hd om mk lm li fs wt none seen' none := ⟨_, rfl⟩
theorem os_succ : ∃ seen', (pm T n s 76 pos hd om mk lm li fs wt none seen none).step = pm T n s 76 pos pos om mk lm li fs wt (some true) seen' none := by
  cases om <;> exact ⟨_, rfl⟩
theorem os_br (hw : wt ≤ 100) : ∃ seen', (pm T n s 33 pos hd om mk lm li fs wt none seen none).step = pm T n s 35 pos pos om mk lm li (nbO 34 pos om lm li :: fs) (wt + 1) none seen' none := by
  refine ⟨seen.add 7, ?_⟩
  show (if wt + 1 + 0 > 16777216 then _ else _) = _
  refine (if_neg (by omega)).trans ?_
  rfl
end
end Mine

end
section
open PySem PySem.Sre
set_option Elab.async false
set_option maxRecDepth 100000
namespace Mine
section
variable {T : Array Nat} {n s pc pos hd wt : Nat} {om : Bool} {mk : Array (Option Nat)} {lm li : Int} {fs : List Sre.Frame} {seen : Seen}
theorem os_rep1 (hw : wt ≤ 100) (hp : pos ≤ n) : ∃ seen', (pm T n s 21 pos hd om mk lm li fs wt none seen none).step = pm T n s 31 (pos + (runW isSp T (min 4294967295 (n - pos)) pos)) (pos + (runW isSp T (min 4294967295 (n - pos)) pos)) om mk lm li (gbO 21 (pos + (runW isSp T (min 4294967295 (n - pos)) pos)) om ((runW isSp T (min 4294967295 (n - pos)) pos) : Nat) lm li :: fs) (wt + 1) none seen' none := by
  have hroom : ((n : Int) - pos).toNat = n - pos := by omega
  obtain ⟨s1, e1⟩ := run_is (T := T) o_sp25 (min 4294967295 ((n : Int) - pos).toNat) pos 0 ((seen.add 24).add 13)
  refine ⟨s1, ?_⟩
  rw [hroom, Nat.zero_add] at e1
  have h1 : (pm T n s 21 pos hd om mk lm li fs wt none seen none).step = (pm T n s 21 pos hd om mk lm li fs wt none seen none).exec := rfl
  rw [h1]
  unfold Sre.M.exec
  have h2 : ops[(pm T n s 21 pos hd om mk lm li fs wt none seen none).word 0]? = some .REPEAT_ONE := rfl
  rw [h2]
  dsimp only
  refine (if_neg ?_).trans ?_
  · show ¬ (((0 : Nat) : Int) > (n : Int) - pos); omega
  generalize hr : Sre.run _ _ _ _ _ _ _ = r
  have hr2 : Sre.run opCode T 25 (min 4294967295 (n - pos)) pos 0 ((seen.add 24).add 13) = r := by rw [← hroom]; exact hr
  rw [e1] at hr2
  subst hr2
  refine (if_neg (Nat.not_lt_zero _)).trans ?_
  show (if wt + 1 + 0 > 16777216 then _ else _) = _
  refine (if_neg (by omega)).trans ?_
  rfl
theorem os_rep2 (hw : wt ≤ 100) (hp : pos ≤ n) : ∃ seen', (pm T n s 64 pos hd om mk lm li fs wt none seen none).step = pm T n s 74 (pos + (runW isSp T (min 4294967295 (n - pos)) pos)) (pos + (runW isSp T (min 4294967295 (n - pos)) pos)) om mk lm li (gbO 64 (pos + (runW isSp T (min 4294967295 (n - pos)) pos)) om ((runW isSp T (min 4294967295 (n - pos)) pos) : Nat) lm li :: fs) (wt + 1) none seen' none := by
  have hroom : ((n : Int) - pos).toNat = n - pos := by omega
  obtain ⟨s1, e1⟩ := run_is (T := T) o_sp68 (min 4294967295 ((n : Int) - pos).toNat) pos 0 ((seen.add 24).add 13)
  refine ⟨s1, ?_⟩
  rw [hroom, Nat.zero_add] at e1
  have h1 : (pm T n s 64 pos hd om mk lm li fs wt none seen none).step = (pm T n s 64 pos hd om mk lm li fs wt none seen none).exec := rfl
  rw [h1]
  unfold Sre.M.exec
  have h2 : ops[(pm T n s 64 pos hd om mk lm li fs wt none seen none).word 0]? = some .REPEAT_ONE := rfl
  rw [h2]
  dsimp only
  refine (if_neg ?_).trans ?_
  · show ¬ (((0 : Nat) : Int) > (n : Int) - pos); omega
  generalize hr : Sre.run _ _ _ _ _ _ _ = r
  have hr2 : Sre.run opCode T 68 (min 4294967295 (n - pos)) pos 0 ((seen.add 24).add 13) = r := by rw [← hroom]; exact hr
  rw [e1] at hr2
  subst hr2
  refine (if_neg (Nat.not_lt_zero _)).trans ?_
  show (if wt + 1 + 0 > 16777216 then _ else _) = _
  refine (if_neg (by omega)).trans ?_
  rfl
theorem os_op_yes (hw : wt ≤ 100) (hp : pos < n) (h1 : 1 ≤ (runW isOpc T (min 4294967295 (n - pos)) pos)) : ∃ seen', (pm T n s 35 pos hd om mk lm li fs wt none seen none).step = pm T n s 52 (pos + (runW isOpc T (min 4294967295 (n - pos)) pos)) (pos + (runW isOpc T (min 4294967295 (n - pos)) pos)) om mk lm li (gbO 35 (pos + (runW isOpc T (min 4294967295 (n - pos)) pos)) om ((runW isOpc T (min 4294967295 (n - pos)) pos) : Nat) lm li :: fs) (wt + 1) none seen' none := by
  have hroom : ((n : Int) - pos).toNat = n - pos := by omega
  obtain ⟨s1, e1⟩ := run_is (T := T) o_op39 (min 4294967295 ((n : Int) - pos).toNat) pos 0 ((seen.add 24).add 13)
  refine ⟨s1, ?_⟩
  rw [hroom, Nat.zero_add] at e1
  have h1' : (pm T n s 35 pos hd om mk lm li fs wt none seen none).step = (pm T n s 35 pos hd om mk lm li fs wt none seen none).exec := rfl
  rw [h1']
  unfold Sre.M.exec
  have h2 : ops[(pm T n s 35 pos hd om mk lm li fs wt none seen none).word 0]? = some .REPEAT_ONE := rfl
  rw [h2]
  dsimp only
  refine (if_neg ?_).trans ?_
  · show ¬ (((1 : Nat) : Int) > (n : Int) - pos); omega
  generalize hr : Sre.run _ _ _ _ _ _ _ = r
  have hr2 : Sre.run opCode T 39 (min 4294967295 (n - pos)) pos 0 ((seen.add 24).add 13) = r := by rw [← hroom]; exact hr
  rw [e1] at hr2
  subst hr2
  refine (if_neg (by show ¬ ((runW isOpc T (min 4294967295 (n - pos)) pos) < 1); omega)).trans ?_
  show (if wt + 1 + 0 > 16777216 then _ else _) = _
  refine (if_neg (by omega)).trans ?_
  rfl
theorem os_op_no (h1 : pos < n → (runW isOpc T (min 4294967295 (n - pos)) pos) = 0) : ∃ q x seen', (pm T n s 35 pos hd om mk lm li fs wt none seen none).step = pm T n s q x hd om mk lm li fs wt (some false) seen' none := by
  have h1' : (pm T n s 35 pos hd om mk lm li fs wt none seen none).step = (pm T n s 35 pos hd om mk lm li fs wt none seen none).exec := rfl
  rw [h1']
  unfold Sre.M.exec
  have h2 : ops[(pm T n s 35 pos hd om mk lm li fs wt none seen none).word 0]? = some .REPEAT_ONE := rfl
  rw [h2]
  dsimp only
  by_cases hp : pos < n
  · have hroom : ((n : Int) - pos).toNat = n - pos := by omega
    obtain ⟨s1, e1⟩ := run_is (T := T) o_op39 (min 4294967295 ((n : Int) - pos).toNat) pos 0 ((seen.add 24).add 13)
    rw [hroom, Nat.zero_add, h1 hp] at e1
    refine ⟨35, pos, s1, (if_neg ?_).trans ?_⟩
    · show ¬ (((1 : Nat) : Int) > (n : Int) - pos); omega
    generalize hr : Sre.run _ _ _ _ _ _ _ = r
    have hr2 : Sre.run opCode T 39 (min 4294967295 (n - pos)) pos 0 ((seen.add 24).add 13) = r := by rw [← hroom]; exact hr
    rw [e1] at hr2
    subst hr2
    exact if_pos (Nat.zero_lt_one)
  · refine ⟨35, pos, seen.add 24, (if_pos ?_).trans rfl⟩
    show ((1 : Nat) : Int) > (n : Int) - pos
    omega
theorem os_lit55 : (pm T n s 55 pos hd om mk lm li fs wt none seen none).step = (if pos < n ∧ T.getD pos 0 = 58 then pm T n s 57 (pos + 1) hd om mk lm li fs wt none (seen.add 16) none else pm T n s 55 pos hd om mk lm li fs wt (some false) (seen.add 16) none) := by
  have e : (pm T n s 55 pos hd om mk lm li fs wt none seen none).step = (if pos ≥ n then pm T n s 55 pos hd om mk lm li fs wt (some false) (seen.add 16) none else match (Except.ok (T.getD pos 0 == 58, seen.add 16) : Except String (Bool × Seen)) with
    | .error why => { pm T n s 55 pos hd om mk lm li fs wt none (seen.add 16) none with outcome := some (.stuck why) }
    | .ok (false, seen) => pm T n s 55 pos hd om mk lm li fs wt (some false) seen none
    | .ok (true, seen) => pm T n s 57 (pos + 1) hd om mk lm li fs wt none seen none) := rfl
  rw [e]
  by_cases hp : pos < n
  · by_cases hx : T.getD pos 0 = 58
    · rw [if_neg (by omega), if_pos ⟨hp, hx⟩, hx]
      rfl
    · rw [if_neg (by omega), if_neg (fun h => hx h.2), show (T.getD pos 0 == 58) = false from beq_eq_false_iff_ne.mpr hx]
  · rw [if_pos (by omega), if_neg (fun h => hp h.1)]
theorem os_lit57 : (pm T n s 57 pos hd om mk lm li fs wt none seen none).step = (if pos < n ∧ T.getD pos 0 = 61 then pm T n s 59 (pos + 1) hd om mk lm li fs wt none (seen.add 16) none else pm T n s 57 pos hd om mk lm li fs wt (some false) (seen.add 16) none) := by
  have e : (pm T n s 57 pos hd om mk lm li fs wt none seen none).step = (if pos ≥ n then pm T n s 57 pos hd om mk lm li fs wt (some false) (seen.add 16) none else match (Except.ok (T.getD pos 0 == 61, seen.add 16) : Except String (Bool × Seen)) with
    | .error why => { pm T n s 57 pos hd om mk lm li fs wt none (seen.add 16) none with outcome := some (.stuck why) }
    | .ok (false, seen) => pm T n s 57 pos hd om mk lm li fs wt (some false) seen none
    | .ok (true, seen) => pm T n s 59 (pos + 1) hd om mk lm li fs wt none seen none) := rfl
  rw [e]
  by_cases hp : pos < n
  · by_cases hx : T.getD pos 0 = 61
    · rw [if_neg (by omega), if_pos ⟨hp, hx⟩, hx]
      rfl
    · rw [if_neg (by omega), if_neg (fun h => hx h.2), show (T.getD pos 0 == 61) = false from beq_eq_false_iff_ne.mpr hx]
  · rw [if_pos (by omega), if_neg (fun h => hp h.1)]
theorem os_nb34 {p : Nat} {o : Bool} {l1 i1 : Int} (hw : wt ≤ 100) : (pm T n s pc pos hd om mk lm li (nbO 34 p o l1 i1 :: fs) (wt + 1) (some false) seen none).step = pm T n s 55 p p o mk l1 i1 (nbO 54 p o l1 i1 :: fs) (wt + 1) none seen none := by
  show (if wt + 1 - (1 + 0) + 1 + 0 > 16777216 then _ else _) = _
  refine (if_neg (by omega)).trans ?_
  rfl
theorem os_nb54 {p : Nat} {o : Bool} {l1 i1 : Int} : (pm T n s pc pos hd om mk lm li (nbO 54 p o l1 i1 :: fs) (wt + 1) (some false) seen none).step = pm T n s 54 p hd o mk l1 i1 fs wt (some false) seen none := rfl
theorem os_nby {q p : Nat} {o : Bool} {l1 i1 : Int} : (pm T n s pc pos hd om mk lm li (nbO q p o l1 i1 :: fs) (wt + 1) (some true) seen none).step = pm T n s q p hd o mk lm li fs wt (some true) seen none := rfl
theorem os_gby {q p : Nat} {o : Bool} {c l1 i1 : Int} : (pm T n s pc pos hd om mk lm li (gbO q p o c l1 i1 :: fs) (wt + 1) (some true) seen none).step = pm T n s q p hd o mk lm li fs wt (some true) seen none := rfl
theorem os_nsy {p : Nat} {o : Bool} : (pm T n s pc pos hd om mk lm li (nsF p o :: fs) (wt + 1) (some true) seen none).step = pm T n s 11 p hd o mk lm li fs wt (some true) seen none := rfl
theorem os_gb0 {p : Nat} {o : Bool} {l1 i1 : Int} : (pm T n s pc pos hd om mk lm li (gbO 21 p o 0 l1 i1 :: fs) (wt + 1) (some false) seen none).step = pm T n s 21 p hd o mk l1 i1 fs wt (some false) seen none := rfl
theorem os_gbS {p c : Nat} {o : Bool} {l1 i1 : Int} (hw : wt ≤ 100) : (pm T n s pc pos hd om mk lm li (gbO 21 p o ((c + 1 : Nat) : Int) l1 i1 :: fs) (wt + 1) (some false) seen none).step = pm T n s 31 (p - 1) (p - 1) o mk l1 i1 (gbO 21 (p - 1) o (c : Int) l1 i1 :: fs) (wt + 1) none seen none := by
  have e : (((c + 1 : Nat) : Int) - 1) = (c : Int) := by omega
  show (if ((c + 1 : Nat) : Int) - 1 < ((0 : Nat) : Int) then _ else (if wt + 1 - (1 + 0) + 1 + 0 > 16777216 then _ else _)) = _
  rw [if_neg (by omega), if_neg (by omega)]
  show pm T n s 31 (p - 1) (p - 1) o mk l1 i1 (gbO 21 (p - 1) o (((c + 1 : Nat) : Int) - 1) l1 i1 :: fs) (wt + 1) none seen none = _
  rw [e]
theorem os_out {b : Bool} : (pm T n s pc pos hd om mk lm li [] wt (some b) seen none).step = pm T n s pc pos hd om mk lm li [] wt (some b) seen (some (if b then .matched else .failed)) := rfl
end
end Mine

end
section
open PySem PySem.Sre
set_option Elab.async false
set_option maxRecDepth 100000
namespace Mine
def runTo (f : Nat → Bool) (T : Array Nat) (n p : Nat) : Nat := p + runW f T (min 4294967295 (n - p)) p
/-- where an operator that begins at p ends -/
def opTry (T : Array Nat) (n p : Nat) : Option Nat :=
  if p < n ∧ 1 ≤ runW isOpc T (min 4294967295 (n - p)) p then some (runTo isOpc T n p)
  else if p < n ∧ T.getD p 0 = 58 then (if p + 1 < n ∧ T.getD (p + 1) 0 = 61 then some (p + 2) else none) else none
theorem runTo_le {f : Nat → Bool} {T : Array Nat} {n p : Nat} (h : p ≤ n) : runTo f T n p ≤ n := by
  have := runW_le f T (min 4294967295 (n - p)) p
  unfold runTo
  omega
theorem opTry_rng {T : Array Nat} {n p e : Nat} (h : opTry T n p = some e) : p + 1 ≤ e ∧ e ≤ n := by
  unfold opTry at h
  split at h
  · cases h
    have := runTo_le (f := isOpc) (T := T) (n := n) (p := p) (by omega)
    refine ⟨?_, this⟩
    unfold runTo
    omega
  · split at h
    · split at h
      · cases h; omega
      · cases h
    · cases h
section
variable {T : Array Nat} {n s pc pos hd wt : Nat} {om : Bool} {mk : Array (Option Nat)} {lm li : Int} {fs : List Sre.Frame} {seen : Seen} {a b c d : Option Nat}
/-- behind the operator -/
theorem ot_end (hw : wt ≤ 90) (hp : pos ≤ n) : ∃ x seen', Reach 6 (pm T n s 62 pos hd om #[a, b, c, d] 1 1 fs wt none seen none) (pm T n s 64 x (runTo isSp T n pos) om #[a, b, some pos, some (runTo isSp T n pos)] 3 2 fs wt (some true) seen' none) := by
  obtain ⟨s1, e1⟩ := os_m2 (T := T) (n := n) (s := s) (pos := pos) (hd := hd) (om := om) (fs := fs) (wt := wt) (seen := seen) (a := a) (b := b) (c := c) (d := d)
  obtain ⟨s2, e2⟩ := os_rep2 (T := T) (n := n) (s := s) (pos := pos) (hd := hd) (om := om) (mk := #[a, b, some pos, d]) (lm := 2) (li := 1) (fs := fs) (wt := wt) (seen := s1) (by omega) hp
  obtain ⟨s3, e3⟩ := os_m3 (T := T) (n := n) (s := s) (pos := runTo isSp T n pos) (hd := runTo isSp T n pos) (om := om) (fs := gbO 64 (runTo isSp T n pos) om (runW isSp T (min 4294967295 (n - pos)) pos : Nat) 2 1 :: fs) (wt := wt + 1) (seen := s2) (a := a) (b := b) (c := some pos) (d := d)
  obtain ⟨s4, e4⟩ := os_succ (T := T) (n := n) (s := s) (pos := runTo isSp T n pos) (hd := runTo isSp T n pos) (om := om) (mk := #[a, b, some pos, some (runTo isSp T n pos)]) (lm := 3) (li := 2) (fs := gbO 64 (runTo isSp T n pos) om (runW isSp T (min 4294967295 (n - pos)) pos : Nat) 2 1 :: fs) (wt := wt + 1) (seen := s3)
  exact ⟨_, s4, (Reach.step rfl e1 (.step rfl e2 (.step rfl e3 (.step rfl e4 (.step rfl os_gby (.here _)))))).le (by omega)⟩
theorem ot_yes {e : Nat} (hw : wt ≤ 80) (h : opTry T n pos = some e) : ∃ q x seen', Reach 20 (pm T n s 31 pos hd om #[a, b, c, d] 0 (-1) fs wt none seen none) (pm T n s q x (runTo isSp T n e) om #[a, some pos, some e, some (runTo isSp T n e)] 3 2 fs wt (some true) seen' none) := by
  obtain ⟨hr1, hr2⟩ := opTry_rng h
  obtain ⟨s1, e1⟩ := os_m1 (T := T) (n := n) (s := s) (pos := pos) (hd := hd) (om := om) (fs := fs) (wt := wt) (seen := seen) (a := a) (b := b) (c := c) (d := d)
  obtain ⟨s2, e2⟩ := os_br (T := T) (n := n) (s := s) (pos := pos) (hd := hd) (om := om) (mk := #[a, some pos, c, d]) (lm := 1) (li := 1) (fs := fs) (wt := wt) (seen := s1) (by omega)
  unfold opTry at h
  by_cases h1 : pos < n ∧ 1 ≤ runW isOpc T (min 4294967295 (n - pos)) pos
  · rw [if_pos h1] at h
    cases h
    obtain ⟨s3, e3⟩ := os_op_yes (T := T) (n := n) (s := s) (pos := pos) (hd := pos) (om := om) (mk := #[a, some pos, c, d]) (lm := 1) (li := 1) (fs := nbO 34 pos om 1 1 :: fs) (wt := wt + 1) (seen := s2) (by omega) h1.1 h1.2
    obtain ⟨s4, e4⟩ := os_jump1 (T := T) (n := n) (s := s) (pos := runTo isOpc T n pos) (hd := runTo isOpc T n pos) (om := om) (mk := #[a, some pos, c, d]) (lm := 1) (li := 1) (fs := gbO 35 (runTo isOpc T n pos) om (runW isOpc T (min 4294967295 (n - pos)) pos : Nat) 1 1 :: nbO 34 pos om 1 1 :: fs) (wt := wt + 1 + 1) (seen := s3)
    obtain ⟨x, s5, r5⟩ := ot_end (T := T) (n := n) (s := s) (pos := runTo isOpc T n pos) (hd := runTo isOpc T n pos) (om := om) (a := a) (b := some pos) (c := c) (d := d) (fs := gbO 35 (runTo isOpc T n pos) om (runW isOpc T (min 4294967295 (n - pos)) pos : Nat) 1 1 :: nbO 34 pos om 1 1 :: fs) (wt := wt + 1 + 1) (seen := s4) (by omega) hr2
    exact ⟨_, _, s5, (Reach.step rfl e1 (.step rfl e2 (.step rfl e3 (.step rfl e4 (r5.trans (.step rfl os_gby (.step rfl os_nby (.here _)))))))).le (by omega)⟩
  · rw [if_neg h1] at h
    by_cases h2 : pos < n ∧ T.getD pos 0 = 58
    · rw [if_pos h2] at h
      by_cases h3 : pos + 1 < n ∧ T.getD (pos + 1) 0 = 61
      · rw [if_pos h3] at h
        cases h
        obtain ⟨q, x, s3, e3⟩ := os_op_no (T := T) (n := n) (s := s) (pos := pos) (hd := pos) (om := om) (mk := #[a, some pos, c, d]) (lm := 1) (li := 1) (fs := nbO 34 pos om 1 1 :: fs) (wt := wt + 1) (seen := s2) (fun hp => by
          rcases Nat.lt_or_ge 0 (runW isOpc T (min 4294967295 (n - pos)) pos) with h | h
          · exact absurd ⟨hp, h⟩ h1
          · omega)
        have e4 := os_nb34 (T := T) (n := n) (s := s) (pc := q) (pos := x) (hd := pos) (om := om) (mk := #[a, some pos, c, d]) (lm := 1) (li := 1) (fs := fs) (wt := wt) (seen := s3) (p := pos) (o := om) (l1 := 1) (i1 := 1) (by omega)
        have e5 := os_lit55 (T := T) (n := n) (s := s) (pos := pos) (hd := pos) (om := om) (mk := #[a, some pos, c, d]) (lm := 1) (li := 1) (fs := nbO 54 pos om 1 1 :: fs) (wt := wt + 1) (seen := s3)
        rw [if_pos h2] at e5
        have e6 := os_lit57 (T := T) (n := n) (s := s) (pos := pos + 1) (hd := pos) (om := om) (mk := #[a, some pos, c, d]) (lm := 1) (li := 1) (fs := nbO 54 pos om 1 1 :: fs) (wt := wt + 1) (seen := s3.add 16)
        rw [if_pos h3] at e6
        obtain ⟨s7, e7⟩ := os_jump2 (T := T) (n := n) (s := s) (pos := pos + 1 + 1) (hd := pos) (om := om) (mk := #[a, some pos, c, d]) (lm := 1) (li := 1) (fs := nbO 54 pos om 1 1 :: fs) (wt := wt + 1) (seen := (s3.add 16).add 16)
        obtain ⟨x2, s8, r8⟩ := ot_end (T := T) (n := n) (s := s) (pos := pos + 2) (hd := pos) (om := om) (a := a) (b := some pos) (c := c) (d := d) (fs := nbO 54 pos om 1 1 :: fs) (wt := wt + 1) (seen := s7) (by omega) hr2
        exact ⟨_, _, s8, (Reach.step rfl e1 (.step rfl e2 (.step rfl e3 (.step rfl e4 (.step rfl e5 (.step rfl e6 (.step rfl e7 (r8.trans (.step rfl os_nby (.here _)))))))))).le (by omega)⟩
      · rw [if_neg h3] at h; cases h
    · rw [if_neg h2] at h; cases h
theorem ot_no (hw : wt ≤ 80) (h : opTry T n pos = none) : ∃ q x hd' seen', Reach 20 (pm T n s 31 pos hd om #[a, b, c, d] 0 (-1) fs wt none seen none) (pm T n s q x hd' om #[a, some pos, c, d] 1 1 fs wt (some false) seen' none) := by
  obtain ⟨s1, e1⟩ := os_m1 (T := T) (n := n) (s := s) (pos := pos) (hd := hd) (om := om) (fs := fs) (wt := wt) (seen := seen) (a := a) (b := b) (c := c) (d := d)
  obtain ⟨s2, e2⟩ := os_br (T := T) (n := n) (s := s) (pos := pos) (hd := hd) (om := om) (mk := #[a, some pos, c, d]) (lm := 1) (li := 1) (fs := fs) (wt := wt) (seen := s1) (by omega)
  unfold opTry at h
  by_cases h1 : pos < n ∧ 1 ≤ runW isOpc T (min 4294967295 (n - pos)) pos
  · rw [if_pos h1] at h; cases h
  · rw [if_neg h1] at h
    obtain ⟨q, x, s3, e3⟩ := os_op_no (T := T) (n := n) (s := s) (pos := pos) (hd := pos) (om := om) (mk := #[a, some pos, c, d]) (lm := 1) (li := 1) (fs := nbO 34 pos om 1 1 :: fs) (wt := wt + 1) (seen := s2) (fun hp => by
      rcases Nat.lt_or_ge 0 (runW isOpc T (min 4294967295 (n - pos)) pos) with h | h
      · exact absurd ⟨hp, h⟩ h1
      · omega)
    have e4 := os_nb34 (T := T) (n := n) (s := s) (pc := q) (pos := x) (hd := pos) (om := om) (mk := #[a, some pos, c, d]) (lm := 1) (li := 1) (fs := fs) (wt := wt) (seen := s3) (p := pos) (o := om) (l1 := 1) (i1 := 1) (by omega)
    have e5 := os_lit55 (T := T) (n := n) (s := s) (pos := pos) (hd := pos) (om := om) (mk := #[a, some pos, c, d]) (lm := 1) (li := 1) (fs := nbO 54 pos om 1 1 :: fs) (wt := wt + 1) (seen := s3)
    by_cases h2 : pos < n ∧ T.getD pos 0 = 58
    · rw [if_pos h2] at h e5
      by_cases h3 : pos + 1 < n ∧ T.getD (pos + 1) 0 = 61
      · rw [if_pos h3] at h; cases h
      · have e6 := os_lit57 (T := T) (n := n) (s := s) (pos := pos + 1) (hd := pos) (om := om) (mk := #[a, some pos, c, d]) (lm := 1) (li := 1) (fs := nbO 54 pos om 1 1 :: fs) (wt := wt + 1) (seen := s3.add 16)
        rw [if_neg h3] at e6
        exact ⟨_, _, _, _, (Reach.step rfl e1 (.step rfl e2 (.step rfl e3 (.step rfl e4 (.step rfl e5 (.step rfl e6 (.step rfl os_nb54 (.here _)))))))).le (by omega)⟩
    · rw [if_neg h2] at e5
      exact ⟨_, _, _, _, (Reach.step rfl e1 (.step rfl e2 (.step rfl e3 (.step rfl e4 (.step rfl e5 (.step rfl os_nb54 (.here _))))))).le (by omega)⟩
end
end Mine

end
section
open PySem PySem.Sre
set_option Elab.async false
set_option maxRecDepth 100000
namespace Mine
/-- giving blanks back: where the operator begins and ends -/
def giveO (T : Array Nat) (n p : Nat) : Nat → Option (Nat × Nat)
  | 0 => match opTry T n p with | some e => some (p, e) | none => none
  | c + 1 => match opTry T n (p + c + 1) with | some e => some (p + c + 1, e) | none => giveO T n p c
def opMatch (T : Array Nat) (n s : Nat) : Option (Nat × Nat) := giveO T n (s + 1) (runW isSp T (min 4294967295 (n - (s + 1))) (s + 1))
def opFind (T : Array Nat) (n : Nat) : Nat → Nat → Option (Nat × Nat × Nat)
  | 0, _ => none
  | k + 1, s => match firstF isHead T n (n + 1 - s) s with
    | none => none
    | some s' => match opMatch T n s' with
      | some (p, e) => some (s', p, e)
      | none => opFind T n k (s' + 1)
section
variable {T : Array Nat} {n s pos hd wt : Nat} {om must : Bool} {lm li : Int} {fs : List Sre.Frame} {seen : Seen} {a b c d : Option Nat}
theorem og_yes {p p1 e : Nat} (hw : wt ≤ 70) : ∀ (k hd : Nat) (seen : Seen) (b c d : Option Nat), giveO T n p k = some (p1, e) → ∃ q x seen', Reach (30 * (k + 1)) (pm T n s 31 (p + k) hd om #[a, b, c, d] 0 (-1) (gbO 21 (p + k) om (k : Int) 0 (-1) :: fs) (wt + 1) none seen none) (pm T n s q x (runTo isSp T n e) om #[a, some p1, some e, some (runTo isSp T n e)] 3 2 fs wt (some true) seen' none)
  | 0, hd, seen, b, c, d, h => by
    unfold giveO at h
    cases hb : opTry T n p with
    | none => rw [hb] at h; cases h
    | some e2 =>
      rw [hb] at h
      cases h
      obtain ⟨q, x, s1, r⟩ := ot_yes (T := T) (n := n) (s := s) (pos := p + 0) (hd := hd) (om := om) (fs := gbO 21 (p + 0) om ((0 : Nat) : Int) 0 (-1) :: fs) (wt := wt + 1) (seen := seen) (a := a) (b := b) (c := c) (d := d) (by omega) hb
      exact ⟨_, _, s1, (r.trans (Reach.step rfl os_gby (.here _))).le (by omega)⟩
  | k + 1, hd, seen, b, c, d, h => by
    unfold giveO at h
    cases hb : opTry T n (p + k + 1) with
    | some e2 =>
      rw [hb] at h
      cases h
      obtain ⟨q, x, s1, r⟩ := ot_yes (T := T) (n := n) (s := s) (pos := p + (k + 1)) (hd := hd) (om := om) (fs := gbO 21 (p + (k + 1)) om ((k + 1 : Nat) : Int) 0 (-1) :: fs) (wt := wt + 1) (seen := seen) (a := a) (b := b) (c := c) (d := d) (by omega) hb
      exact ⟨_, _, s1, (r.trans (Reach.step rfl os_gby (.here _))).le (by omega)⟩
    | none =>
      rw [hb] at h
      obtain ⟨q, x, hd2, s1, r⟩ := ot_no (T := T) (n := n) (s := s) (pos := p + (k + 1)) (hd := hd) (om := om) (fs := gbO 21 (p + (k + 1)) om ((k + 1 : Nat) : Int) 0 (-1) :: fs) (wt := wt + 1) (seen := seen) (a := a) (b := b) (c := c) (d := d) (by omega) hb
      obtain ⟨q2, x2, s2, r2⟩ := og_yes hw k (p + k) s1 (some (p + (k + 1))) c d h
      have e := os_gbS (T := T) (n := n) (s := s) (pc := q) (pos := x) (hd := hd2) (om := om) (mk := #[a, some (p + (k + 1)), c, d]) (lm := 1) (li := 1) (fs := fs) (wt := wt) (seen := s1) (p := p + (k + 1)) (c := k) (o := om) (l1 := 0) (i1 := -1) (by omega)
      exact ⟨q2, x2, s2, (r.trans (Reach.step rfl e r2)).le (by omega)⟩
theorem og_no {p : Nat} (hw : wt ≤ 70) : ∀ (k hd : Nat) (seen : Seen) (b c d : Option Nat), giveO T n p k = none → ∃ q x hd' b' seen', Reach (30 * (k + 1)) (pm T n s 31 (p + k) hd om #[a, b, c, d] 0 (-1) (gbO 21 (p + k) om (k : Int) 0 (-1) :: fs) (wt + 1) none seen none) (pm T n s q x hd' om #[a, b', c, d] 0 (-1) fs wt (some false) seen' none)
  | 0, hd, seen, b, c, d, h => by
    unfold giveO at h
    cases hb : opTry T n p with
    | some e2 => rw [hb] at h; cases h
    | none =>
      obtain ⟨q, x, hd2, s1, r⟩ := ot_no (T := T) (n := n) (s := s) (pos := p + 0) (hd := hd) (om := om) (fs := gbO 21 (p + 0) om ((0 : Nat) : Int) 0 (-1) :: fs) (wt := wt + 1) (seen := seen) (a := a) (b := b) (c := c) (d := d) (by omega) hb
      exact ⟨_, _, hd2, _, s1, (r.trans (Reach.step rfl os_gb0 (.here _))).le (by omega)⟩
  | k + 1, hd, seen, b, c, d, h => by
    unfold giveO at h
    cases hb : opTry T n (p + k + 1) with
    | some e2 => rw [hb] at h; cases h
    | none =>
      rw [hb] at h
      obtain ⟨q, x, hd2, s1, r⟩ := ot_no (T := T) (n := n) (s := s) (pos := p + (k + 1)) (hd := hd) (om := om) (fs := gbO 21 (p + (k + 1)) om ((k + 1 : Nat) : Int) 0 (-1) :: fs) (wt := wt + 1) (seen := seen) (a := a) (b := b) (c := c) (d := d) (by omega) hb
      obtain ⟨q2, x2, hd3, b2, s2, r2⟩ := og_no hw k (p + k) s1 (some (p + (k + 1))) c d h
      have e := os_gbS (T := T) (n := n) (s := s) (pc := q) (pos := x) (hd := hd2) (om := om) (mk := #[a, some (p + (k + 1)), c, d]) (lm := 1) (li := 1) (fs := fs) (wt := wt) (seen := s1) (p := p + (k + 1)) (c := k) (o := om) (l1 := 0) (i1 := -1) (by omega)
      exact ⟨q2, x2, hd3, b2, s2, (r.trans (Reach.step rfl e r2)).le (by omega)⟩
theorem oa_some {s' : Nat} {first : Bool} {q : Nat} {mk : Array (Option Nat)} (h : firstF isHead T n (n + 1 - q) q = some s') : ∃ seen', (({ pm T n s 11 pos hd om mk lm li [] 0 none seen none with mustAdvance := must } : Sre.M).attemptFrom q first) = pm T n s' 11 s' s' first mk (-1) (-1) [nsF s' first] 1 none seen' none := by
  obtain ⟨s1, e⟩ := adm_is (m := { pm T n s 11 pos hd om mk lm li [] 0 none seen none with mustAdvance := must }) (f := isHead) o_adm (n + 1 - q) q seen
  have e' : Sre.M.admitted { pm T n s 11 pos hd om mk lm li [] 0 none seen none with mustAdvance := must } (n + 1 - q) q seen = .ok (some s', s1) := e.trans (by show Except.ok (firstF isHead T n (n + 1 - q) q, s1) = _; rw [h])
  refine ⟨s1, ?_⟩
  unfold Sre.M.attemptFrom
  refine (if_neg (show ¬ (false = true) from Bool.false_ne_true)).trans ?_
  generalize hr : Sre.M.admitted _ _ _ _ = r
  have : r = .ok (some s', s1) := hr.symm.trans e'
  subst this
  rfl
theorem oa_none {first : Bool} {q : Nat} {mk : Array (Option Nat)} (h : firstF isHead T n (n + 1 - q) q = none) : ∃ seen', (({ pm T n s 11 pos hd om mk lm li [] 0 none seen none with mustAdvance := must } : Sre.M).attemptFrom q first) = { pm T n s 11 pos hd om mk lm li [] 0 (some false) seen' none with mustAdvance := must } := by
  obtain ⟨s1, e⟩ := adm_is (m := { pm T n s 11 pos hd om mk lm li [] 0 none seen none with mustAdvance := must }) (f := isHead) o_adm (n + 1 - q) q seen
  have e' : Sre.M.admitted { pm T n s 11 pos hd om mk lm li [] 0 none seen none with mustAdvance := must } (n + 1 - q) q seen = .ok (none, s1) := e.trans (by show Except.ok (firstF isHead T n (n + 1 - q) q, s1) = _; rw [h])
  refine ⟨s1, ?_⟩
  unfold Sre.M.attemptFrom
  refine (if_neg (show ¬ (false = true) from Bool.false_ne_true)).trans ?_
  generalize hr : Sre.M.admitted _ _ _ _ = r
  have : r = .ok (none, s1) := hr.symm.trans e'
  subst this
  rfl
theorem os_ns {p q x : Nat} {o : Bool} {mk : Array (Option Nat)} (h : p < n) : (pm T n s q x hd om mk lm li [nsF p o] 1 (some false) seen none).step = ({ pm T n s 11 p hd o mk (-1) (-1) [] 0 none seen none with mustAdvance := false } : Sre.M).attemptFrom (p + 1) false ∨ (pm T n s q x hd om mk lm li [nsF p o] 1 (some false) seen none).step = ({ pm T n s 11 p hd o mk lm li [] 0 none seen none with mustAdvance := false } : Sre.M).attemptFrom (p + 1) false := by
  right
  show (if p < n then _ else _) = _
  rw [if_pos h]
  rfl
end
end Mine

end
section
open PySem PySem.Sre
set_option Elab.async false
set_option maxRecDepth 100000
namespace Mine
section
variable {T : Array Nat} {n s pos hd wt : Nat} {om must : Bool} {lm li : Int} {fs : List Sre.Frame} {seen : Seen}
theorem os_ns2 {p q x : Nat} {o : Bool} {mk : Array (Option Nat)} (h : p < n) : (pm T n s q x hd om mk lm li [nsF p o] 1 (some false) seen none).step = ({ pm T n s 11 p hd o mk lm li [] 0 none seen none with mustAdvance := false } : Sre.M).attemptFrom (p + 1) false := by
  show (if p < n then _ else _) = _
  rw [if_pos h]
  rfl
/-- the search of the operator pattern -/
theorem op_go : ∀ (k q : Nat) (s pos hd : Nat) (om must first : Bool) (a b c d : Option Nat) (lm li : Int) (seen : Seen), n < q + k →
    (∀ s' p e, opFind T n k q = some (s', p, e) → ∃ q2 x o seen', Reach (k * (30 * (n + 4))) (({ pm T n s 11 pos hd om #[a, b, c, d] lm li [] 0 none seen none with mustAdvance := must } : Sre.M).attemptFrom q first)
      (pm T n s' q2 x (runTo isSp T n e) o #[some (s' + 1), some p, some e, some (runTo isSp T n e)] 3 2 [] 0 (some true) seen' (some .matched))) ∧
    (opFind T n k q = none → ∃ m', Reach (k * (30 * (n + 4)) + 1) (({ pm T n s 11 pos hd om #[a, b, c, d] lm li [] 0 none seen none with mustAdvance := must } : Sre.M).attemptFrom q first) m' ∧ m'.outcome = some .failed) := by
  intro k
  induction k with
  | zero =>
    intro q s pos hd om must first a b c d lm li seen h
    refine ⟨(fun _ _ _ h => by cases h), fun _ => ?_⟩
    have hn : firstF isHead T n (n + 1 - q) q = none := by
      rw [show n + 1 - q = 0 by omega]; rfl
    obtain ⟨s1, e⟩ := oa_none (T := T) (n := n) (s := s) (pos := pos) (hd := hd) (om := om) (must := must) (lm := lm) (li := li) (seen := seen) (first := first) (mk := #[a, b, c, d]) hn
    rw [e]
    exact ⟨_, (Reach.step rfl rfl (.here _)).le (by omega), rfl⟩
  | succ k ih =>
    intro q s pos hd om must first a b c d lm li seen h
    have hmul : (k + 1) * (30 * (n + 4)) = k * (30 * (n + 4)) + 30 * (n + 4) := Nat.succ_mul ..
    cases hf : firstF isHead T n (n + 1 - q) q with
    | none =>
      have hcf : opFind T n (k + 1) q = none := by unfold opFind; rw [hf]
      refine ⟨(fun _ _ _ h => by rw [hcf] at h; cases h), fun _ => ?_⟩
      obtain ⟨s1, e⟩ := oa_none (T := T) (n := n) (s := s) (pos := pos) (hd := hd) (om := om) (must := must) (lm := lm) (li := li) (seen := seen) (first := first) (mk := #[a, b, c, d]) hf
      rw [e]
      exact ⟨_, (Reach.step rfl rfl (.here _)).le (by omega), rfl⟩
    | some s' =>
      obtain ⟨hq, hlt, hsg⟩ := firstF_lt hf
      obtain ⟨s1, e⟩ := oa_some (T := T) (n := n) (s := s) (pos := pos) (hd := hd) (om := om) (must := must) (lm := lm) (li := li) (seen := seen) (first := first) (mk := #[a, b, c, d]) hf
      obtain ⟨s2, e2⟩ := os_in (T := T) (n := n) (s := s') (pos := s') (hd := s') (om := first) (mk := #[a, b, c, d]) (lm := -1) (li := -1) (fs := [nsF s' first]) (wt := 1) (seen := s1) hlt hsg
      obtain ⟨s3, e3⟩ := os_m0 (T := T) (n := n) (s := s') (pos := s' + 1) (hd := s') (om := first) (a := a) (b := b) (c := c) (d := d) (fs := [nsF s' first]) (wt := 1) (seen := s2)
      obtain ⟨s4, e4⟩ := os_rep1 (T := T) (n := n) (s := s') (pos := s' + 1) (hd := s') (om := first) (mk := #[some (s' + 1), b, c, d]) (lm := 0) (li := -1) (fs := [nsF s' first]) (wt := 1) (seen := s3) (by decide) (by omega)
      have hR := runW_le isSp T (min 4294967295 (n - (s' + 1))) (s' + 1)
      rw [e]
      cases hc : opMatch T n s' with
      | some pe =>
        obtain ⟨pp, ee⟩ := pe
        have hcf : opFind T n (k + 1) q = some (s', pp, ee) := by unfold opFind; rw [hf]; dsimp only; rw [hc]
        refine ⟨fun s9 p9 e9 h => ?_, (fun h => by rw [hcf] at h; cases h)⟩
        rw [hcf] at h
        cases h
        obtain ⟨q2, x, s5, r⟩ := og_yes (T := T) (n := n) (s := s') (om := first) (fs := [nsF s' first]) (wt := 1) (a := some (s' + 1)) (by decide) (runW isSp T (min 4294967295 (n - (s' + 1))) (s' + 1)) (s' + 1 + runW isSp T (min 4294967295 (n - (s' + 1))) (s' + 1)) s4 b c d hc
        refine ⟨11, s', first, s5, (Reach.step rfl e2 (Reach.step rfl e3 (Reach.step rfl e4 (r.trans (Reach.step rfl os_nsy (Reach.step rfl os_out (.here _))))))).le ?_⟩
        omega
      | none =>
        have hcf : opFind T n (k + 1) q = opFind T n k (s' + 1) := by
          rw [show opFind T n (k + 1) q = (match firstF isHead T n (n + 1 - q) q with
            | none => none
            | some s' => match opMatch T n s' with
              | some (p, e) => some (s', p, e)
              | none => opFind T n k (s' + 1)) from rfl, hf]
          dsimp only
          rw [hc]
        obtain ⟨q2, x, hd2, b2, s5, r⟩ := og_no (T := T) (n := n) (s := s') (om := first) (fs := [nsF s' first]) (wt := 1) (a := some (s' + 1)) (by decide) (runW isSp T (min 4294967295 (n - (s' + 1))) (s' + 1)) (s' + 1 + runW isSp T (min 4294967295 (n - (s' + 1))) (s' + 1)) s4 b c d hc
        have e5 := os_ns2 (T := T) (n := n) (s := s') (hd := hd2) (om := first) (mk := #[some (s' + 1), b2, c, d]) (lm := 0) (li := -1) (seen := s5) (p := s') (q := q2) (x := x) (o := first) hlt
        obtain ⟨n1, n2⟩ := ih (s' + 1) s' s' hd2 first false false (some (s' + 1)) b2 c d 0 (-1) s5 (by omega)
        rw [hcf]
        refine ⟨fun s9 p9 e9 h => ?_, fun h => ?_⟩
        · obtain ⟨q3, x3, o3, s7, r2⟩ := n1 s9 p9 e9 h
          refine ⟨q3, x3, o3, s7, (Reach.step rfl e2 (Reach.step rfl e3 (Reach.step rfl e4 (r.trans (Reach.step rfl e5 r2))))).le ?_⟩
          omega
        · obtain ⟨m', r2, hm⟩ := n2 h
          refine ⟨m', (Reach.step rfl e2 (Reach.step rfl e3 (Reach.step rfl e4 (r.trans (Reach.step rfl e5 r2))))).le ?_, hm⟩
          omega
end
end Mine

end
section
open PySem PySem.Sre
set_option Elab.async false
set_option maxRecDepth 100000
namespace Mine
section
variable {T : Array Nat} {n : Nat}
theorem giveO_rng {p p1 e : Nat} : ∀ {c : Nat}, giveO T n p c = some (p1, e) → p ≤ p1 ∧ p1 ≤ p + c ∧ opTry T n p1 = some e
  | 0, h => by
    unfold giveO at h
    cases hb : opTry T n p with
    | none => rw [hb] at h; cases h
    | some e2 => rw [hb] at h; cases h; exact ⟨Nat.le_refl _, Nat.le_refl _, hb⟩
  | c + 1, h => by
    unfold giveO at h
    cases hb : opTry T n (p + c + 1) with
    | some e2 => rw [hb] at h; cases h; exact ⟨by omega, by omega, hb⟩
    | none =>
      rw [hb] at h
      obtain ⟨h1, h2, h3⟩ := giveO_rng h
      exact ⟨h1, by omega, h3⟩
theorem opFind_rng {s' p e : Nat} : ∀ {k q : Nat}, opFind T n k q = some (s', p, e) → q ≤ s' ∧ s' + 1 ≤ p ∧ p + 1 ≤ e ∧ e ≤ n
  | 0, _, h => by cases h
  | k + 1, q, h => by
    unfold opFind at h
    cases hf : firstF isHead T n (n + 1 - q) q with
    | none => rw [hf] at h; cases h
    | some s1 =>
      rw [hf] at h
      obtain ⟨h1, _, _⟩ := firstF_lt hf
      dsimp only at h
      cases hc : opMatch T n s1 with
      | some pe =>
        obtain ⟨p1, e1⟩ := pe
        rw [hc] at h
        cases h
        obtain ⟨g1, _, g3⟩ := giveO_rng hc
        have := opTry_rng g3
        omega
      | none =>
        rw [hc] at h
        have := opFind_rng h
        omega
theorem op_fresh {q : Nat} {must : Bool} (h : ¬ (q > n ∨ n - q < 2)) : ∃ seen, Sre.forSearch opCode T 2 q n must = (({ pm T n q 11 q q true #[none, none, none, none] (-1) (-1) [] 0 none seen none with mustAdvance := must } : Sre.M).attemptFrom q true) := by
  refine ⟨({} : Seen).add 14, ?_⟩
  show (if (decide (q > n) || decide (n - q < 2)) = true then _ else _) = _
  rw [if_neg (by simpa using h)]
  rfl
theorem op_some {q s' p e : Nat} {must : Bool} (h : opFind T n (n + 1) q = some (s', p, e)) : ∃ m', Reach ((n + 1) * (30 * (n + 4))) (Sre.forSearch opCode T 2 q n must) m' ∧ m'.outcome = some .matched ∧ m'.start = s' ∧ m'.handed = runTo isSp T n e ∧
    m'.marks = #[some (s' + 1), some p, some e, some (runTo isSp T n e)] ∧ m'.lastmark = 3 ∧ m'.lastindex = 2 := by
  obtain ⟨h1, h2, h3, h4⟩ := opFind_rng h
  obtain ⟨sn, ef⟩ := op_fresh (T := T) (n := n) (q := q) (must := must) (by omega)
  rw [ef]
  obtain ⟨q2, x, o, s4, r⟩ := (op_go (T := T) (n := n) (n + 1) q q q q true must true none none none none (-1) (-1) sn (by omega)).1 s' p e h
  exact ⟨_, r, rfl, rfl, rfl, rfl, rfl, rfl⟩
theorem op_none {q : Nat} {must : Bool} (h : opFind T n (n + 1) q = none) : ∃ m', Reach ((n + 1) * (30 * (n + 4)) + 1) (Sre.forSearch opCode T 2 q n must) m' ∧ m'.outcome = some .failed := by
  by_cases hq : q > n ∨ n - q < 2
  · have e : ∃ m : Sre.M, Sre.forSearch opCode T 2 q n must = m ∧ m.outcome = none ∧ m.answer = some false ∧ m.frames = [] := by
      refine ⟨{ pm T n q 11 q q true #[none, none, none, none] (-1) (-1) [] 0 (some false) (({} : Seen).add 14) none with mustAdvance := must, lastStart := 0 }, ?_, rfl, rfl, rfl⟩
      show (if (decide (q > n) || decide (n - q < 2)) = true then _ else _) = _
      rw [if_pos (by simpa using hq)]
      rfl
    obtain ⟨m, e1, e2, e3, e4⟩ := e
    rw [e1]
    refine ⟨{ m with outcome := some .failed }, (Reach.step e2 ?_ (.here _)).le (by omega), rfl⟩
    unfold Sre.M.step
    rw [e2, e3, e4]
    rfl
  · obtain ⟨sn, ef⟩ := op_fresh (T := T) (n := n) (q := q) (must := must) hq
    rw [ef]
    exact (op_go (T := T) (n := n) (n + 1) q q q q true must true none none none none (-1) (-1) sn (by omega)).2 h
end
end Mine

end
section
open PySem PySem.W PyProof.Rows
set_option Elab.async false
set_option maxRecDepth 100000
namespace Mine
def lookedUp (P : List Str) : Nat → Int
  | 0 => -1
  | k + 1 => if takes (P.getD k Str.empty) (P.getD (k - 1) Str.empty) (k : Int) (lookedUp P k) then (k : Int) else lookedUp P k
theorem opsUp_looked (P G : List Str) : ∀ k, (opsUp P G k).2.1 = lookedUp P k
  | 0 => rfl
  | k + 1 => by
    have ih := opsUp_looked P G k
    show (opsStep P G k (opsUp P G k)).2.1 = _
    unfold opsStep lookedUp
    dsimp only
    rw [ih]
    split
    · rfl
    · rfl
theorem getD_app_lt {P Q : List Str} {k : Nat} (h : k < P.length) : (P ++ Q).getD k Str.empty = P.getD k Str.empty := by
  rw [List.getD_eq_getElem?_getD, List.getD_eq_getElem?_getD, List.getElem?_append_left h]
theorem getD_app_len {P : List Str} {p : Str} : (P ++ [p]).getD P.length Str.empty = p := by
  rw [List.getD_eq_getElem?_getD, List.getElem?_append_right (Nat.le_refl _), Nat.sub_self]
  rfl
theorem lookedUp_app {P Q : List Str} : ∀ k, k ≤ P.length → lookedUp (P ++ Q) k = lookedUp P k
  | 0, _ => rfl
  | k + 1, h => by
    unfold lookedUp
    rw [lookedUp_app k (by omega), getD_app_lt (by omega), getD_app_lt (by omega)]
theorem takes_free {P : List Str} {p : Str} {k : Int} : takes p (P.getD (P.length - 1) Str.empty) (P.length : Int) k = (isOp p && freeB P k) := by
  unfold takes
  rcases Nat.eq_zero_or_pos P.length with h | h
  · have : P = [] := List.eq_nil_of_length_eq_zero h
    subst this
    simp [freeB]
  · have e : (-1 + (P.length : Int)).toNat = P.length - 1 := by omega
    rw [freeB_eq h, e]
    have h0 : decide (0 < (P.length : Int)) = true := decide_eq_true (by omega)
    rw [h0, Bool.and_true, Bool.and_assoc]
    congr 1
    congr 1
    by_cases hk : k = (P.length : Int) - 1
    · simp [hk]
    · simp [hk]
structure RowAt (P G : List Str) (j : Nat) : Prop where
  p : P.getD j Str.empty ∈ pieceL
  g : G.getD j Str.empty ∈ gapL
  g0 : j = 0 → G.getD j Str.empty = Str.ofString ""
  dbl : isD (P.getD j Str.empty) = true → takes (P.getD j Str.empty) (P.getD (j - 1) Str.empty) (j : Int) (lookedUp P j) = true
  touch : isOp (P.getD j Str.empty) = true → G.getD j Str.empty = Str.ofString "" → 0 < j → stiff (P.getD (j - 1) Str.empty) = false
theorem RowP.idx {P G : List Str} {kl : Int} (h : RowP P G kl) : kl = lookedUp P P.length ∧ ∀ j, j < P.length → RowAt P G j := by
  induction h with
  | nil => exact ⟨rfl, fun j hj => absurd hj (Nat.not_lt_zero _)⟩
  | @snoc P G k p g hr hp hg h0 hd ht ih =>
    obtain ⟨ih1, ih2⟩ := ih
    have hl := hr.len
    have el : (P ++ [p]).length = P.length + 1 := by simp
    have elast : (P ++ [p]).getD (P.length - 1) Str.empty = (if P.length = 0 then p else P.getD (P.length - 1) Str.empty) := by
      split
      · rename_i h
        have : P = [] := List.eq_nil_of_length_eq_zero h
        subst this; rfl
      · exact getD_app_lt (by omega)
    have tk : takes ((P ++ [p]).getD P.length Str.empty) ((P ++ [p]).getD (P.length - 1) Str.empty) (P.length : Int) (lookedUp (P ++ [p]) P.length) = (isOp p && freeB P k) := by
      rw [getD_app_len, lookedUp_app _ (Nat.le_refl _), ← ih1, ← takes_free]
      rcases Nat.eq_zero_or_pos P.length with h | h
      · have h0 : ∀ (q r : Str), takes p q (P.length : Int) k = takes p r (P.length : Int) k := by
          intro q r
          unfold takes
          rw [h]
          simp
        exact h0 _ _
      · rw [getD_app_lt (by omega)]
    refine ⟨?_, fun j hj => ?_⟩
    · rw [el]
      show _ = (if takes _ _ _ _ then _ else _)
      rw [tk, lookedUp_app _ (Nat.le_refl _), ← ih1]
    · rw [el] at hj
      rcases Nat.lt_or_ge j P.length with hj1 | hj1
      · have r := ih2 j hj1
        have e1 : (P ++ [p]).getD j Str.empty = P.getD j Str.empty := getD_app_lt hj1
        have e2 : (G ++ [g]).getD j Str.empty = G.getD j Str.empty := getD_app_lt (by omega)
        have e3 : (P ++ [p]).getD (j - 1) Str.empty = P.getD (j - 1) Str.empty := getD_app_lt (by omega)
        exact ⟨by rw [e1]; exact r.p, by rw [e2]; exact r.g, fun h => by rw [e2]; exact r.g0 h, fun h => by
          rw [e1] at h ⊢
          rw [e3, lookedUp_app j (by omega)]
          exact r.dbl h, fun h1 h2 h3 => by
          rw [e1] at h1
          rw [e2] at h2
          rw [e3]
          exact r.touch h1 h2 h3⟩
      · have ej : j = P.length := by omega
        subst ej
        have e1 : (P ++ [p]).getD P.length Str.empty = p := getD_app_len
        have e2 : (G ++ [g]).getD P.length Str.empty = g := by rw [← hl]; exact getD_app_len
        refine ⟨by rw [e1]; exact hp, by rw [e2]; exact hg, fun h => by rw [e2]; exact h0 (List.eq_nil_of_length_eq_zero h), fun h => ?_, fun h1 h2 h3 => ?_⟩
        · rw [tk]
          rw [e1] at h
          rw [hd h, Bool.and_true]
          unfold isOp
          rw [h]; rfl
        · rw [e1] at h1
          rw [e2] at h2
          rw [getD_app_lt (by omega)]
          have e := last_eq h3
          rw [show (-1 + (P.length : Int)).toNat = P.length - 1 by omega] at e
          exact ht h1 h2 _ e
end Mine

end
section
open PySem PySem.W PyProof.Rows
set_option Elab.async false
set_option maxRecDepth 100000
namespace Mine
/-- the signs of a row's text -/
def flat : List Str → List Str → List Nat
  | _, [] => []
  | [], g :: _ => g.cps.toList
  | p :: ps, g :: gs => g.cps.toList ++ (p.cps.toList ++ flat ps gs)
theorem flat_cut : ∀ (k : Nat) (P G : List Str), k ≤ P.length → G.length = P.length + 1 →
    ∃ l, flat P G = l ++ flat (P.drop k) (G.drop k) ∧ (l.length : Int) = (opsUp P G k).1
  | 0, P, G, _, _ => ⟨[], rfl, rfl⟩
  | k + 1, P, G, hk, hG => by
    obtain ⟨l, e1, e2⟩ := flat_cut k P G (by omega) hG
    have hp : k < P.length := by omega
    have hg : k < G.length := by omega
    have dp : P.drop k = P[k] :: P.drop (k + 1) := (List.getElem_cons_drop (h := hp)).symm
    have dg : G.drop k = G[k] :: G.drop (k + 1) := (List.getElem_cons_drop (h := hg)).symm
    have gp : P.getD k Str.empty = P[k] := by rw [List.getD_eq_getElem?_getD, List.getElem?_eq_getElem hp]; rfl
    have gg : G.getD k Str.empty = G[k] := by rw [List.getD_eq_getElem?_getD, List.getElem?_eq_getElem hg]; rfl
    refine ⟨l ++ (G[k].cps.toList ++ P[k].cps.toList), ?_, ?_⟩
    · rw [e1, dp, dg]
      show l ++ (G[k].cps.toList ++ (P[k].cps.toList ++ flat (P.drop (k + 1)) (G.drop (k + 1)))) = _
      simp [List.append_assoc]
    · have st : (opsUp P G (k + 1)).1 = (opsUp P G k).1 + ((G.getD k Str.empty).length : Int) + ((P.getD k Str.empty).length : Int) := by
        show (opsStep P G k (opsUp P G k)).1 = _
        unfold opsStep
        dsimp only
        split <;> rfl
      rw [st, ← e2, gp, gg]
      simp only [List.length_append]
      show ((l.length + (G[k].cps.toList.length + P[k].cps.toList.length) : Nat) : Int) = l.length + (G[k].cps.size : Int) + (P[k].cps.size : Int)
      have a1 : G[k].cps.toList.length = G[k].cps.size := Array.length_toList
      have a2 : P[k].cps.toList.length = P[k].cps.size := Array.length_toList
      omega
end Mine

end
section
open PySem PySem.W PyProof.Rows
set_option Elab.async false
set_option maxRecDepth 100000
namespace Mine
section
variable {T : Array Nat} {n : Nat}
theorem firstF_fuel {f : Nat → Bool} : ∀ (k q : Nat), n + 1 - q ≤ k → firstF f T n k q = firstF f T n (n + 1 - q) q := by
  intro k
  induction k with
  | zero => intro q h; rw [show n + 1 - q = 0 by omega]
  | succ k ih =>
    intro q h
    by_cases hq : q ≥ n
    · have e : firstF f T n (k + 1) q = none := by unfold firstF; rw [if_pos hq]
      rw [e]
      rcases Nat.eq_zero_or_pos (n + 1 - q) with h0 | h0
      · rw [h0]; rfl
      · obtain ⟨j, hj⟩ : ∃ j, n + 1 - q = j + 1 := ⟨n + 1 - q - 1, by omega⟩
        rw [hj]; unfold firstF; rw [if_pos hq]
    · obtain ⟨j, hj⟩ : ∃ j, n + 1 - q = j + 1 := ⟨n + 1 - q - 1, by omega⟩
      rw [hj]
      unfold firstF
      rw [if_neg hq, if_neg hq]
      have e : n + 1 - (q + 1) = j := by omega
      rw [ih (q + 1) (by omega), e]
theorem firstF_hit {f : Nat → Bool} {q : Nat} (h : q < n) (hf : f (T.getD q 0) = true) : firstF f T n (n + 1 - q) q = some q := by
  obtain ⟨j, hj⟩ : ∃ j, n + 1 - q = j + 1 := ⟨n + 1 - q - 1, by omega⟩
  rw [hj]
  unfold firstF
  rw [if_neg (by omega), if_pos hf]
theorem firstF_skip {f : Nat → Bool} {q : Nat} (h : q < n) (hf : f (T.getD q 0) = false) : firstF f T n (n + 1 - q) q = firstF f T n (n + 1 - (q + 1)) (q + 1) := by
  obtain ⟨j, hj⟩ : ∃ j, n + 1 - q = j + 1 := ⟨n + 1 - q - 1, by omega⟩
  have e : n + 1 - (q + 1) = j := by omega
  rw [hj, e]
  show (if q ≥ n then none else if f (T.getD q 0) = true then some q else firstF f T n j (q + 1)) = _
  rw [if_neg (by omega), hf, if_neg Bool.false_ne_true]
theorem firstF_end {f : Nat → Bool} {q : Nat} (h : n ≤ q) : firstF f T n (n + 1 - q) q = none := by
  rcases Nat.eq_zero_or_pos (n + 1 - q) with h0 | h0
  · rw [h0]; rfl
  · obtain ⟨j, hj⟩ : ∃ j, n + 1 - q = j + 1 := ⟨n + 1 - q - 1, by omega⟩
    rw [hj]; unfold firstF; rw [if_pos h]
theorem comFind_fuel : ∀ (k k' q : Nat), n < q + k → n < q + k' → comFind T n k q = comFind T n k' q := by
  intro k
  induction k with
  | zero =>
    intro k' q h _
    cases k' with
    | zero => rfl
    | succ k' => unfold comFind; rw [firstF_end (by omega)]
  | succ k ih =>
    intro k' q h h'
    cases k' with
    | zero => unfold comFind; rw [firstF_end (by omega)]
    | succ k' =>
      unfold comFind
      cases hf : firstF isSign T n (n + 1 - q) q with
      | none => rfl
      | some s' =>
        obtain ⟨h1, _, _⟩ := firstF_lt hf
        dsimp only
        cases hc : comMatch T n s' with
        | some e => rfl
        | none => exact ih k' (s' + 1) (by omega) (by omega)
def comNext (T : Array Nat) (n q : Nat) : Option (Nat × Nat) := comFind T n (n + 1) q
theorem comNext_hit {q e : Nat} (h : q < n) (hf : isSign (T.getD q 0) = true) (hm : comMatch T n q = some e) : comNext T n q = some (q, e) := by
  show comFind T n (n + 1) q = _
  unfold comFind
  rw [firstF_hit h hf]
  dsimp only
  rw [hm]
theorem comNext_end {q : Nat} (h : n ≤ q) : comNext T n q = none := by
  show comFind T n (n + 1) q = _
  unfold comFind
  rw [firstF_end h]
theorem comNext_skip {q : Nat} (h : q < n) (hf : isSign (T.getD q 0) = false ∨ comMatch T n q = none) : comNext T n q = comNext T n (q + 1) := by
  rcases hf with hf | hm
  · show comFind T n (n + 1) q = comFind T n (n + 1) (q + 1)
    unfold comFind
    rw [firstF_skip h hf]
  · cases hs : isSign (T.getD q 0) with
    | false =>
      show comFind T n (n + 1) q = comFind T n (n + 1) (q + 1)
      unfold comFind
      rw [firstF_skip h hs]
    | true =>
      have e : comNext T n q = comFind T n n (q + 1) := by
        show comFind T n (n + 1) q = _
        rw [show comFind T n (n + 1) q = (match firstF isSign T n (n + 1 - q) q with
          | none => none
          | some s' => match comMatch T n s' with
            | some e => some (s', e)
            | none => comFind T n n (s' + 1)) from rfl, firstF_hit h hs]
        dsimp only
        rw [hm]
      rw [e]
      exact comFind_fuel _ _ _ (by omega) (by omega)
theorem opFind_fuel : ∀ (k k' q : Nat), n < q + k → n < q + k' → opFind T n k q = opFind T n k' q := by
  intro k
  induction k with
  | zero =>
    intro k' q h _
    cases k' with
    | zero => rfl
    | succ k' => unfold opFind; rw [firstF_end (by omega)]
  | succ k ih =>
    intro k' q h h'
    cases k' with
    | zero => unfold opFind; rw [firstF_end (by omega)]
    | succ k' =>
      unfold opFind
      cases hf : firstF isHead T n (n + 1 - q) q with
      | none => rfl
      | some s' =>
        obtain ⟨h1, _, _⟩ := firstF_lt hf
        dsimp only
        cases hc : opMatch T n s' with
        | some e => rfl
        | none => exact ih k' (s' + 1) (by omega) (by omega)
def opNext (T : Array Nat) (n q : Nat) : Option (Nat × Nat × Nat) := opFind T n (n + 1) q
theorem opNext_hit {q p e : Nat} (h : q < n) (hf : isHead (T.getD q 0) = true) (hm : opMatch T n q = some (p, e)) : opNext T n q = some (q, p, e) := by
  show opFind T n (n + 1) q = _
  unfold opFind
  rw [firstF_hit h hf]
  dsimp only
  rw [hm]
theorem opNext_end {q : Nat} (h : n ≤ q) : opNext T n q = none := by
  show opFind T n (n + 1) q = _
  unfold opFind
  rw [firstF_end h]
theorem opNext_skip {q : Nat} (h : q < n) (hf : isHead (T.getD q 0) = false ∨ opMatch T n q = none) : opNext T n q = opNext T n (q + 1) := by
  rcases hf with hf | hm
  · show opFind T n (n + 1) q = opFind T n (n + 1) (q + 1)
    unfold opFind
    rw [firstF_skip h hf]
  · cases hs : isHead (T.getD q 0) with
    | false =>
      show opFind T n (n + 1) q = opFind T n (n + 1) (q + 1)
      unfold opFind
      rw [firstF_skip h hs]
    | true =>
      have e : opNext T n q = opFind T n n (q + 1) := by
        show opFind T n (n + 1) q = _
        rw [show opFind T n (n + 1) q = (match firstF isHead T n (n + 1 - q) q with
          | none => none
          | some s' => match opMatch T n s' with
            | some (p, e) => some (s', p, e)
            | none => opFind T n n (s' + 1)) from rfl, firstF_hit h hs]
        dsimp only
        rw [hm]
      rw [e]
      exact opFind_fuel _ _ _ (by omega) (by omega)
end
end Mine

end
section
open PySem PySem.W PyProof.Rows
set_option Elab.async false
set_option maxRecDepth 100000
namespace Mine
theorem gap_sp : ∀ g ∈ gapL, ∀ c ∈ g.cps.toList, isSp c = true := by decide +kernel
theorem gap_len : ∀ g ∈ gapL, g.cps.toList.length ≤ 3 := by decide +kernel
theorem sp_facts : ∀ c ∈ [9, 32], isSp c = true ∧ isOpc c = false ∧ isSign c = false ∧ isHead c = false ∧ c ≠ 58 ∧ c ≠ 61 := by decide +kernel
theorem gap_chars : ∀ g ∈ gapL, ∀ c ∈ g.cps.toList, c ∈ [9, 32] := by decide +kernel
theorem piece_facts : ∀ p ∈ pieceL, p.cps.toList ≠ [] ∧ p.cps.toList.length ≤ 2 ∧ (∀ c ∈ p.cps.toList, isSp c = false) := by decide +kernel
/-- the pieces' shapes, as the scanners see them -/
theorem piece_op : ∀ p ∈ pieceL, isOp p = true → (p = Str.ofString ":=" ∨ ∀ c ∈ p.cps.toList, isOpc c = true) := by decide +kernel
theorem piece_notop : ∀ p ∈ pieceL, isOp p = false → ∀ c ∈ p.cps.toList, isOpc c = false := by decide +kernel
theorem piece_eq : ∀ p ∈ pieceL, isOp p = false → p.cps.toList.head? ≠ some 61 := by decide +kernel
theorem piece_sign : ∀ p ∈ pieceL, signL.any (· == p) = true → p.cps.toList.length = 1 ∧ isSign (p.cps.toList.headD 0) = true := by decide +kernel
theorem piece_nosign : ∀ p ∈ pieceL, signL.any (· == p) = false → (∀ c ∈ p.cps.toList, isSign c = false) ∨ p = Str.ofString ":=" := by decide +kernel
theorem piece_comma : ∀ p ∈ pieceL, p ≠ Str.ofString "," → ∀ c ∈ p.cps.toList, isHead c = true := by decide +kernel
end Mine

end
section
open PySem PySem.W PyProof.Rows
set_option Elab.async false
set_option maxRecDepth 100000
namespace Mine
theorem at_suf {l r : List Nat} (i : Nat) : ((l ++ r).toArray).getD (l.length + i) 0 = r.getD i 0 := by
  rw [Array.getD_eq_getD_getElem?, List.getElem?_toArray, List.getElem?_append_right (by omega), Nat.add_sub_cancel_left, List.getD_eq_getElem?_getD]
theorem runW_suf (f : Nat → Bool) : ∀ (k : Nat) (l r : List Nat), k ≤ r.length → runW f (l ++ r).toArray k l.length = ((r.take k).takeWhile f).length
  | 0, l, r, _ => by rw [List.take_zero]; rfl
  | k + 1, l, r, h => by
    cases r with
    | nil => exact absurd h (by simp)
    | cons c r =>
      unfold runW
      have e0 : ((l ++ c :: r).toArray).getD l.length 0 = c := by
        have := at_suf (l := l) (r := c :: r) 0
        simpa using this
      rw [e0, List.take_succ_cons, List.takeWhile_cons]
      cases hf : f c with
      | false => rfl
      | true =>
        rw [if_pos rfl, if_pos rfl]
        have e1 : l ++ c :: r = (l ++ [c]) ++ r := by simp
        have e2 : l.length + 1 = (l ++ [c]).length := by simp
        rw [e1, e2, runW_suf f k (l ++ [c]) r (by simp at h; omega)]
        rfl
theorem run_suf {f : Nat → Bool} {l r : List Nat} (h : (l ++ r).length ≤ 1000) : runW f (l ++ r).toArray (min 4294967295 ((l ++ r).length - l.length)) l.length = (r.takeWhile f).length := by
  have e : min 4294967295 ((l ++ r).length - l.length) = r.length := by
    rw [List.length_append] at *
    omega
  rw [e, runW_suf f r.length l r (Nat.le_refl _), List.take_length]
theorem takeWhile_app {f : Nat → Bool} {a r : List Nat} (ha : ∀ c ∈ a, f c = true) (hr : ∀ c, r.head? = some c → f c = false) : (a ++ r).takeWhile f = a := by
  induction a with
  | nil =>
    cases r with
    | nil => rfl
    | cons c r => rw [List.nil_append, List.takeWhile_cons, hr c rfl]; rfl
  | cons x a ih =>
    rw [List.cons_append, List.takeWhile_cons, ha x (.head _), if_pos rfl, ih fun c hc => ha c (.tail _ hc)]
end Mine

end
section
open PySem PySem.W PyProof.Rows
set_option Elab.async false
set_option maxRecDepth 100000
namespace Mine
def brL : List Nat → Option Nat
  | c :: r => if c = 32 then (if r.head? = some 32 then some 2 else none) else if c = 9 then some 1 else none
  | [] => none
theorem brAt_suf {l r : List Nat} : brAt (l ++ r).toArray (l ++ r).length l.length = (brL r).map (l.length + ·) := by
  cases r with
  | nil =>
    unfold brAt
    rw [if_neg (by simp), if_neg (by simp)]
    rfl
  | cons c r =>
    have e0 : ((l ++ c :: r).toArray).getD l.length 0 = c := by
      have := at_suf (l := l) (r := c :: r) 0
      simp at this
      simpa using this
    have e1 : ((l ++ c :: r).toArray).getD (l.length + 1) 0 = r.getD 0 0 := at_suf (l := l) (r := c :: r) 1
    have hl : l.length < (l ++ c :: r).length := by simp
    unfold brAt brL
    rw [e0, e1]
    dsimp only
    by_cases h : c = 32
    · rw [if_pos ⟨hl, h⟩, if_pos h]
      cases r with
      | nil => rw [if_neg (by simp), if_neg (by simp)]; rfl
      | cons d r =>
        by_cases hd : d = 32
        · subst hd
          rw [if_pos ⟨by simp, rfl⟩]
          rfl
        · rw [if_neg (fun hh => hd hh.2), if_neg (fun hh => hd (by simpa using hh))]; rfl
    · rw [if_neg (fun hh => h hh.2), if_neg h]
      by_cases h9 : c = 9
      · rw [if_pos ⟨hl, h9⟩, if_pos h9]; rfl
      · rw [if_neg (fun hh => h9 hh.2), if_neg h9]; rfl
def giveL (r : List Nat) : Nat → Option Nat
  | 0 => brL r
  | c + 1 => match brL (r.drop (c + 1)) with | some e => some (c + 1 + e) | none => giveL r c
theorem giveAt_suf {l r : List Nat} : ∀ (c : Nat), c ≤ r.length → giveAt (l ++ r).toArray (l ++ r).length l.length c = (giveL r c).map (l.length + ·)
  | 0, _ => brAt_suf
  | c + 1, h => by
    unfold giveAt giveL
    have e : l ++ r = (l ++ r.take (c + 1)) ++ r.drop (c + 1) := by rw [List.append_assoc, List.take_append_drop]
    have el : (l ++ r.take (c + 1)).length = l.length + c + 1 := by
      rw [List.length_append, List.length_take]; omega
    have b := brAt_suf (l := l ++ r.take (c + 1)) (r := r.drop (c + 1))
    rw [← e, el] at b
    rw [b, giveAt_suf c (by omega)]
    cases brL (r.drop (c + 1)) with
    | none => rfl
    | some x =>
      show some (l.length + c + 1 + x) = some (l.length + (c + 1 + x))
      congr 1
      omega
end Mine

end
section
open PySem PySem.W PyProof.Rows
set_option Elab.async false
set_option maxRecDepth 100000
namespace Mine
def opTryL (r : List Nat) : Option Nat :=
  if 1 ≤ (r.takeWhile isOpc).length then some (r.takeWhile isOpc).length
  else if r.head? = some 58 then (if r.tail.head? = some 61 then some 2 else none) else none
theorem opTry_suf {l r : List Nat} (hn : (l ++ r).length ≤ 1000) : opTry (l ++ r).toArray (l ++ r).length l.length = (opTryL r).map (l.length + ·) := by
  unfold opTry opTryL runTo
  rw [run_suf hn]
  cases r with
  | nil =>
    rw [if_neg (by simp), if_neg (by simp), if_neg (by simp), if_neg (by simp)]
    rfl
  | cons c r =>
    have e0 : ((l ++ c :: r).toArray).getD l.length 0 = c := by
      have := at_suf (l := l) (r := c :: r) 0
      simp at this
      simpa using this
    have e1 : ((l ++ c :: r).toArray).getD (l.length + 1) 0 = r.getD 0 0 := at_suf (l := l) (r := c :: r) 1
    have hl : l.length < (l ++ c :: r).length := by simp
    rw [e0, e1]
    by_cases h : 1 ≤ ((c :: r).takeWhile isOpc).length
    · rw [if_pos ⟨hl, h⟩, if_pos h]; rfl
    · rw [if_neg (fun hh => h hh.2), if_neg h]
      by_cases h5 : c = 58
      · subst h5
        rw [if_pos ⟨hl, rfl⟩, if_pos (show (58 :: r).head? = some 58 from rfl)]
        cases r with
        | nil => rw [if_neg (by simp), if_neg (by simp)]; rfl
        | cons d r =>
          by_cases hd : d = 61
          · subst hd
            rw [if_pos ⟨by simp, rfl⟩]; rfl
          · rw [if_neg (fun hh => hd hh.2), if_neg (fun hh => hd (by simpa using hh))]; rfl
      · rw [if_neg (fun hh => h5 hh.2), if_neg (fun hh => h5 (by simpa using hh))]; rfl
end Mine

end
section
open PySem PySem.W PyProof.Rows
set_option Elab.async false
set_option maxRecDepth 100000
namespace Mine
/-- blanks given back do not let an operator in -/
theorem opTryL_sp {c : Nat} {r : List Nat} (h : c ∈ [9, 32]) : opTryL (c :: r) = none := by
  obtain ⟨_, h1, _, _, h2, _⟩ := sp_facts c h
  unfold opTryL
  rw [List.takeWhile_cons, h1, if_neg (by simp), if_neg (by simpa using h2)]
theorem giveO_none {T : Array Nat} {n p : Nat} : ∀ (k : Nat), (∀ j, j ≤ k → opTry T n (p + j) = none) → giveO T n p k = none
  | 0, h => by
    unfold giveO
    have := h 0 (Nat.le_refl _)
    rw [Nat.add_zero] at this
    rw [this]
  | k + 1, h => by
    unfold giveO
    have := h (k + 1) (Nat.le_refl _)
    rw [← Nat.add_assoc] at this
    rw [this]
    exact giveO_none k fun j hj => h j (by omega)
theorem giveO_top {T : Array Nat} {n p e : Nat} : ∀ (k : Nat), opTry T n (p + k) = some e → giveO T n p k = some (p + k, e)
  | 0, h => by unfold giveO; rw [Nat.add_zero] at h; rw [h]; rfl
  | k + 1, h => by unfold giveO; rw [← Nat.add_assoc] at h; rw [h]; rfl
end Mine

end
section
open PySem PySem.W PyProof.Rows
set_option Elab.async false
set_option maxRecDepth 100000
namespace Mine
/-- a slice -/
def sl (T : Array Nat) (b e : Nat) : Str := ⟨T.extract b e⟩
theorem sl_mid {l m r : List Nat} {b e : Nat} (hb : b = l.length) (he : e = l.length + m.length) : sl (l ++ (m ++ r)).toArray b e = ⟨m.toArray⟩ := by
  subst hb he
  unfold sl
  congr 1
  rw [List.extract_toArray, List.extract_eq_drop_take]
  congr 1
  rw [List.drop_left, Nat.add_sub_cancel_left, List.take_left]
theorem str_of_list (p : Str) : (⟨p.cps.toList.toArray⟩ : Str) = p := by cases p; simp
def comDat (T : Array Nat) (s e : Nat) : Dat := tup2 ((s : Int) + 1) (if hasTab (sl T s e) then e242 (sl T s (s + 1)) else e241 (sl T s (s + 1)))
inductive ComTells (T : Array Nat) (n : Nat) : Nat → List Dat → Prop
  | stop {q : Nat} : comNext T n q = none → ComTells T n q []
  | hit {q s e : Nat} {out : List Dat} : comNext T n q = some (s, e) → ComTells T n e out → ComTells T n q (comDat T s e :: out)
def opDats (T : Array Nat) (n s p e : Nat) : List Dat := gapTell (sl T (s + 1) p) ((s : Int) + 1) e223 e221 ++ gapTell (sl T e (runTo isSp T n e)) (e : Int) e224 e222
inductive OpTells (T : Array Nat) (n : Nat) : Nat → List Dat → Prop
  | stop {q : Nat} : opNext T n q = none → OpTells T n q []
  | hit {q s p e : Nat} {out : List Dat} : opNext T n q = some (s, p, e) → OpTells T n (runTo isSp T n e) out → OpTells T n q (opDats T n s p e ++ out)
section
variable {T : Array Nat} {n : Nat} {out : List Dat}
theorem ComTells.of_eq {q q' : Nat} (e : comNext T n q = comNext T n q') (h : ComTells T n q' out) : ComTells T n q out := by
  cases h with
  | stop h => exact .stop (e.trans h)
  | hit h t => exact .hit (e.trans h) t
theorem OpTells.of_eq {q q' : Nat} (e : opNext T n q = opNext T n q') (h : OpTells T n q' out) : OpTells T n q out := by
  cases h with
  | stop h => exact .stop (e.trans h)
  | hit h t => exact .hit (e.trans h) t
end
theorem at_head {l r : List Nat} {c : Nat} : ((l ++ c :: r).toArray).getD l.length 0 = c := by
  simp
theorem len_head {l r : List Nat} {c : Nat} : l.length < (l ++ c :: r).length := by simp
/-- a comma's match, by what stands behind the sign -/
def comHit (r : List Nat) : Option Nat := giveL r (r.takeWhile isSp).length
theorem comMatch_suf {l r : List Nat} {c : Nat} (hn : (l ++ c :: r).length ≤ 1000) : comMatch (l ++ c :: r).toArray (l ++ c :: r).length l.length = (comHit r).map (l.length + 1 + ·) := by
  have e : l ++ c :: r = (l ++ [c]) ++ r := by simp
  have el : l.length + 1 = (l ++ [c]).length := by simp
  have hn' : ((l ++ [c]) ++ r).length ≤ 1000 := by rw [← e]; exact hn
  unfold comMatch comHit
  rw [e, el, run_suf hn', giveAt_suf _ (List.takeWhile_prefix ..).length_le]
section
variable {l r : List Nat} {c : Nat} {out : List Dat}
theorem com_skip (hn : (l ++ c :: r).length ≤ 1000) (hf : isSign c = false ∨ comHit r = none) : comNext (l ++ c :: r).toArray (l ++ c :: r).length l.length = comNext (l ++ c :: r).toArray (l ++ c :: r).length (l.length + 1) := by
  refine comNext_skip len_head ?_
  rw [at_head, comMatch_suf hn]
  rcases hf with h | h
  · exact .inl h
  · rw [h]; exact .inr rfl
theorem com_hit {e : Nat} (hn : (l ++ c :: r).length ≤ 1000) (hf : isSign c = true) (h : comHit r = some e) (ht : ComTells (l ++ c :: r).toArray (l ++ c :: r).length (l.length + 1 + e) out) :
    ComTells (l ++ c :: r).toArray (l ++ c :: r).length l.length (comDat (l ++ c :: r).toArray l.length (l.length + 1 + e) :: out) := by
  refine .hit (comNext_hit len_head (by rw [at_head]; exact hf) (by rw [comMatch_suf hn, h]; rfl)) ht
end
/-- signs that are none are passed -/
theorem com_pass : ∀ (x l r : List Nat), (l ++ (x ++ r)).length ≤ 1000 → (∀ c ∈ x, isSign c = false) →
    (comNext (l ++ (x ++ r)).toArray (l ++ (x ++ r)).length l.length = comNext (l ++ (x ++ r)).toArray (l ++ (x ++ r)).length (l.length + x.length))
  | [], l, r, _, _ => rfl
  | c :: x, l, r, hn, hx => by
    rw [List.cons_append] at hn ⊢
    rw [com_skip hn (.inl (hx c (.head _)))]
    have e : l ++ c :: (x ++ r) = (l ++ [c]) ++ (x ++ r) := by simp
    have el : l.length + 1 = (l ++ [c]).length := by simp
    rw [e] at hn ⊢
    rw [el, com_pass x (l ++ [c]) r hn fun c hc => hx c (.tail _ hc), List.length_cons, ← el]
    congr 1
    omega
def spc (r : List Nat) : Prop := ∀ c, r.head? = some c → c ∉ [9, 32]
theorem brL_spc {r : List Nat} (h : spc r) : brL r = none := by
  cases r with
  | nil => rfl
  | cons c r =>
    have := h c rfl
    show (if c = 32 then (if r.head? = some 32 then some 2 else none) else if c = 9 then some 1 else none) = none
    rw [if_neg (fun e => this (by rw [e]; decide)), if_neg (fun e => this (by rw [e]; decide))]
/-- what a gap gives behind a sign -/
def comGap (g : Str) : Option Nat :=
  if g = Str.ofString "  " then some 2 else if g = Str.ofString "   " then some 3 else if g = Str.ofString "\t" then some 1 else if g = Str.ofString " \t" then some 2 else if g = Str.ofString "\t " then some 1 else none
theorem comGap_none : ∀ g ∈ gapL, comGap g = none → hasTab g = false ∧ g.cps.toList.length ≤ 1 := by decide +kernel
theorem comGap_some : ∀ g ∈ gapL, ∀ s ∈ signL, ∀ e, comGap g = some e → e ≤ g.cps.toList.length ∧ hasTab ⟨(s.cps.toList ++ g.cps.toList.take e).toArray⟩ = hasTab g ∧ (hasTab g = true ∨ 1 < g.cps.toList.length) := by
  intro g hg s hs e he
  have : ∀ g ∈ gapL, ∀ s ∈ signL, (comGap g).all (fun e => decide (e ≤ g.cps.toList.length ∧ hasTab ⟨(s.cps.toList ++ g.cps.toList.take e).toArray⟩ = hasTab g ∧ (hasTab g = true ∨ 1 < g.cps.toList.length))) = true := by decide +kernel
  have h := this g hg s hs
  rw [he] at h
  simpa using h
end Mine

end
section
open PySem PySem.W PyProof.Rows
set_option Elab.async false
set_option maxRecDepth 100000
namespace Mine
def spcS (r : List Nat) : Prop := ∀ c, r.head? = some c → isSp c = false
theorem spcS.spc {r : List Nat} (h : spcS r) : spc r := fun c hc hm => by
  have := h c hc
  rw [(sp_facts c hm).1] at this
  cases this
theorem gap_shapes : ∀ g ∈ gapL, (g.cps.toList = [] ∧ comGap g = none) ∨ (g.cps.toList = [32] ∧ comGap g = none) ∨ (g.cps.toList = [32, 32] ∧ comGap g = some 2) ∨ (g.cps.toList = [32, 32, 32] ∧ comGap g = some 3) ∨
    (g.cps.toList = [9] ∧ comGap g = some 1) ∨ (g.cps.toList = [32, 9] ∧ comGap g = some 2) ∨ (g.cps.toList = [9, 32] ∧ comGap g = some 1) := by decide +kernel
theorem brL_32 {r : List Nat} (h : spc r) : brL (32 :: r) = none := by
  show (if (32 : Nat) = 32 then (if r.head? = some 32 then some 2 else none) else if (32 : Nat) = 9 then some 1 else none) = none
  rw [if_pos rfl, if_neg]
  intro e
  exact h 32 e (by simp)
theorem comHit_gap {g : Str} {r : List Nat} (hg : g ∈ gapL) (hr : spcS r) : comHit (g.cps.toList ++ r) = comGap g := by
  have b0 := brL_spc hr.spc
  have b1 := brL_32 hr.spc
  have e : (g.cps.toList ++ r).takeWhile isSp = g.cps.toList := takeWhile_app (gap_sp g hg) hr
  unfold comHit
  rw [e]
  rcases gap_shapes g hg with ⟨e1, e2⟩ | ⟨e1, e2⟩ | ⟨e1, e2⟩ | ⟨e1, e2⟩ | ⟨e1, e2⟩ | ⟨e1, e2⟩ | ⟨e1, e2⟩ <;> rw [e1, e2]
  · exact b0
  · show (match brL r with | some e => some (0 + 1 + e) | none => brL (32 :: r)) = none
    rw [b0]; exact b1
  · show (match brL r with | some e => some (1 + 1 + e) | none => match brL (32 :: r) with | some e => some (0 + 1 + e) | none => brL (32 :: 32 :: r)) = _
    rw [b0]; dsimp only; rw [b1]; rfl
  · show (match brL r with | some e => some (2 + 1 + e) | none => match brL (32 :: r) with | some e => some (1 + 1 + e) | none => match brL (32 :: 32 :: r) with | some e => some (0 + 1 + e) | none => brL (32 :: 32 :: 32 :: r)) = _
    rw [b0]; dsimp only; rw [b1]; rfl
  · show (match brL r with | some e => some (0 + 1 + e) | none => brL (9 :: r)) = _
    rw [b0]; rfl
  · show (match brL r with | some e => some (1 + 1 + e) | none => match brL (9 :: r) with | some e => some (0 + 1 + e) | none => brL (32 :: 9 :: r)) = _
    rw [b0]; rfl
  · show (match brL r with | some e => some (1 + 1 + e) | none => match brL (32 :: r) with | some e => some (0 + 1 + e) | none => brL (9 :: 32 :: r)) = _
    rw [b0]; dsimp only; rw [b1]; rfl
/-- what is due from a place on, by the pieces that are left -/
def comDue (a : Nat) : List Str → List Str → List Dat
  | p :: ps, g :: gs => (if signL.any (· == p) then gapTell (gs.getD 0 Str.empty) ((a + g.cps.toList.length + p.cps.toList.length : Nat) : Int) (e242 p) (e241 p) else []) ++ comDue (a + g.cps.toList.length + p.cps.toList.length) ps gs
  | _, _ => []
theorem flat_spc {P G : List Str} (hP : ∀ p ∈ P, p ∈ pieceL) (r : List Nat) (hr : spcS r) : ∀ p ps, P = p :: ps → spcS (p.cps.toList ++ r) := by
  rintro p ps rfl c hc
  obtain ⟨h1, _, h3⟩ := piece_facts p (hP p (.head _))
  cases hp : p.cps.toList with
  | nil => exact absurd hp h1
  | cons d x =>
    rw [hp] at hc h3
    cases hc
    exact h3 c (.head _)
/-- a row's tail begins with the gap ahead, and no blank follows it -/
theorem flat_head : ∀ {P G : List Str}, (∀ p ∈ P, p ∈ pieceL) → G.length = P.length + 1 → ∃ r, flat P G = (G.getD 0 Str.empty).cps.toList ++ r ∧ spcS r
  | [], g :: gs, _, hl => by
    cases gs with
    | nil => exact ⟨[], by simp [flat], fun c hc => by cases hc⟩
    | cons => simp at hl
  | p :: ps, g :: gs, hP, hl => by
    obtain ⟨h1, _, h3⟩ := piece_facts p (hP p (.head _))
    refine ⟨p.cps.toList ++ flat ps gs, rfl, fun c hc => ?_⟩
    cases hp : p.cps.toList with
    | nil => exact absurd hp h1
    | cons d x =>
      rw [hp] at hc h3
      cases hc
      exact h3 c (.head _)
  | [], [], _, hl => by simp at hl
  | _ :: _, [], _, hl => by simp at hl
theorem len_cps (g : Str) : (g.length : Int) = (g.cps.toList.length : Int) := by
  show (g.cps.size : Int) = _
  rw [Array.length_toList]
theorem gapTell_nil {g : Str} {k : Int} {a b : Str} (h1 : hasTab g = false) (h2 : g.cps.toList.length ≤ 1) : gapTell g k a b = [] := by
  unfold gapTell
  rw [h1, if_neg Bool.false_ne_true, len_cps, if_neg (by omega)]
theorem gapTell_one {g : Str} {k : Int} {a b : Str} (h : hasTab g = true ∨ 1 < g.cps.toList.length) : gapTell g k a b = [tup2 k (if hasTab g then a else b)] := by
  unfold gapTell
  cases ht : hasTab g with
  | true => rfl
  | false =>
    rw [ht] at h
    rcases h with h | h
    · cases h
    · rw [if_neg Bool.false_ne_true, len_cps, if_pos (by omega)]; rfl
theorem sign_mem {p : Str} (h : signL.any (· == p) = true) : p ∈ signL := by
  obtain ⟨q, hq, e⟩ := List.any_eq_true.mp h
  rw [← eq_of_beq e]; exact hq
theorem sign_gone : ∀ p ∈ pieceL, signL.any (· == p) = true → ∃ c, p.cps.toList = [c] ∧ isSign c = true := fun p hp h => by
  obtain ⟨h1, h2⟩ := piece_sign p hp h
  cases hc : p.cps.toList with
  | nil => rw [hc] at h1; cases h1
  | cons c x =>
    cases x with
    | nil => rw [hc] at h2; exact ⟨c, rfl, h2⟩
    | cons => rw [hc] at h1; simp at h1
theorem walrus_cps : (Str.ofString ":=").cps.toList = [58, 61] := by decide +kernel
theorem gap_nosign {g : Str} (hg : g ∈ gapL) : ∀ c ∈ g.cps.toList, isSign c = false := fun c hc => (sp_facts c (gap_chars g hg c hc)).2.2.1
/-- the comma scanner over a row -/
theorem com_tells : ∀ (P G : List Str) (l : List Nat), (∀ p ∈ P, p ∈ pieceL) → (∀ g ∈ G, g ∈ gapL) → G.length = P.length + 1 → (l ++ flat P G).length ≤ 1000 →
    ComTells (l ++ flat P G).toArray (l ++ flat P G).length l.length (comDue l.length P G)
  | [], [], _, _, _, hl, _ => by simp at hl
  | _ :: _, [], _, _, _, hl, _ => by simp at hl
  | [], g :: gs, l, _, hG, hl, hn => by
    cases gs with
    | cons => simp at hl
    | nil =>
      show ComTells (l ++ g.cps.toList).toArray (l ++ g.cps.toList).length l.length []
      have hn' : (l ++ (g.cps.toList ++ [])).length ≤ 1000 := by simpa [flat] using hn
      have h := com_pass g.cps.toList l [] hn' (gap_nosign (hG g (.head _)))
      rw [List.append_nil] at h
      exact .stop (h.trans (comNext_end (by simp)))
  | p :: ps, g :: gs, l, hP, hG, hl, hn => by
    have hps : ∀ q ∈ ps, q ∈ pieceL := fun q hq => hP q (.tail _ hq)
    have hgs : ∀ q ∈ gs, q ∈ gapL := fun q hq => hG q (.tail _ hq)
    have hl' : gs.length = ps.length + 1 := by simpa using hl
    have ef : l ++ flat (p :: ps) (g :: gs) = (l ++ g.cps.toList ++ p.cps.toList) ++ flat ps gs := by simp [flat]
    have ih := com_tells ps gs (l ++ g.cps.toList ++ p.cps.toList) hps hgs hl' (by rw [← ef]; exact hn)
    rw [← ef] at ih
    have el : (l ++ g.cps.toList ++ p.cps.toList).length = l.length + g.cps.toList.length + p.cps.toList.length := by simp only [List.length_append, List.length_cons, List.length_nil] <;> omega
    rw [el] at ih
    have pass1 := com_pass g.cps.toList l (p.cps.toList ++ flat ps gs) (by exact hn) (gap_nosign (hG g (.head _)))
    refine .of_eq pass1 ?_
    show ComTells (l ++ flat (p :: ps) (g :: gs)).toArray (l ++ flat (p :: ps) (g :: gs)).length _ _
    have e2 : l ++ flat (p :: ps) (g :: gs) = (l ++ g.cps.toList) ++ (p.cps.toList ++ flat ps gs) := by simp [flat]
    have el2 : l.length + g.cps.toList.length = (l ++ g.cps.toList).length := by simp only [List.length_append, List.length_cons, List.length_nil] <;> omega
    show ComTells _ _ _ ((if signL.any (· == p) then gapTell (gs.getD 0 Str.empty) ((l.length + g.cps.toList.length + p.cps.toList.length : Nat) : Int) (e242 p) (e241 p) else []) ++ comDue (l.length + g.cps.toList.length + p.cps.toList.length) ps gs)
    cases hs : signL.any (· == p) with
    | false =>
      rw [if_neg Bool.false_ne_true, List.nil_append]
      rcases piece_nosign p (hP p (.head _)) hs with hp | rfl
      · rw [el2] at ih ⊢
        rw [e2] at ih hn ⊢
        exact .of_eq (com_pass p.cps.toList (l ++ g.cps.toList) (flat ps gs) hn hp) ih
      · rw [el2] at ih ⊢
        rw [e2] at ih hn ⊢
        rw [walrus_cps] at ih hn ⊢
        refine .of_eq (com_skip (l := l ++ g.cps.toList) (c := 58) (r := 61 :: flat ps gs) hn (.inr ?_)) ?_
        · unfold comHit
          rw [List.takeWhile_cons, show isSp 61 = false by decide +kernel]
          rfl
        · have e3 : (l ++ g.cps.toList) ++ ([58, 61] ++ flat ps gs) = ((l ++ g.cps.toList) ++ [58]) ++ 61 :: flat ps gs := by simp
          have el3 : (l ++ g.cps.toList).length + 1 = ((l ++ g.cps.toList) ++ [58]).length := by simp only [List.length_append, List.length_cons, List.length_nil] <;> omega
          have el4 : (l ++ g.cps.toList).length + [58, 61].length = ((l ++ g.cps.toList) ++ [58]).length + 1 := by simp only [List.length_append, List.length_cons, List.length_nil] <;> omega
          rw [el4] at ih ⊢
          show ComTells ((l ++ g.cps.toList) ++ ([58, 61] ++ flat ps gs)).toArray ((l ++ g.cps.toList) ++ ([58, 61] ++ flat ps gs)).length _ _
          rw [el3]
          rw [e3] at ih hn ⊢
          exact .of_eq (com_skip (c := 61) hn (.inl (by decide))) ih
    | true =>
      obtain ⟨c, hc, hcs⟩ := sign_gone p (hP p (.head _)) hs
      obtain ⟨r, er, hr⟩ := flat_head hps hl'
      have hg' : gs.getD 0 Str.empty ∈ gapL := by
        cases gs with
        | nil => simp at hl'
        | cons x y => exact hgs x (.head _)
      generalize hG1 : gs.getD 0 Str.empty = g' at er hg'
      have ch := comHit_gap (r := r) hg' hr
      rw [if_pos rfl]
      have e3 : l ++ flat (p :: ps) (g :: gs) = (l ++ g.cps.toList) ++ c :: (g'.cps.toList ++ r) := by rw [e2, hc, er]; rfl
      have hp1 : p.cps.toList.length = 1 := by rw [hc]; rfl
      cases hcg : comGap g' with
      | none =>
        obtain ⟨a1, a2⟩ := comGap_none g' hg' hcg
        rw [gapTell_nil a1 a2, List.nil_append]
        rw [hcg] at ch
        rw [hp1, el2] at ih ⊢
        rw [e3] at ih hn ⊢
        exact .of_eq (com_skip hn (.inr ch)) ih
      | some e =>
        obtain ⟨a1, a2, a3⟩ := comGap_some g' hg' p (sign_mem hs) e hcg
        rw [hcg] at ch
        rw [gapTell_one a3]
        have key : ComTells (l ++ flat (p :: ps) (g :: gs)).toArray (l ++ flat (p :: ps) (g :: gs)).length ((l ++ g.cps.toList).length + 1 + e) (comDue (l.length + g.cps.toList.length + p.cps.toList.length) ps gs) := by
          have e4 : l ++ flat (p :: ps) (g :: gs) = ((l ++ g.cps.toList) ++ [c]) ++ (g'.cps.toList.take e ++ (g'.cps.toList.drop e ++ r)) := by
            rw [e3, ← List.append_assoc (g'.cps.toList.take e), List.take_append_drop]; simp
          have pass := com_pass (g'.cps.toList.take e) ((l ++ g.cps.toList) ++ [c]) (g'.cps.toList.drop e ++ r) (by rw [← e4]; exact hn) fun c hc => gap_nosign hg' c (List.mem_of_mem_take hc)
          rw [← e4] at pass
          have el5 : (g'.cps.toList.take e).length = e := by rw [List.length_take]; omega
          have el6 : ((l ++ g.cps.toList) ++ [c]).length = l.length + g.cps.toList.length + p.cps.toList.length := by rw [hp1]; simp only [List.length_append, List.length_cons, List.length_nil] <;> omega
          rw [el5, el6] at pass
          have el7 : (l ++ g.cps.toList).length + 1 + e = l.length + g.cps.toList.length + p.cps.toList.length + e := by rw [hp1]; simp only [List.length_append, List.length_cons, List.length_nil] <;> omega
          rw [el7]
          exact .of_eq pass.symm ih
        rw [e3] at key hn ⊢
        have hit := com_hit hn hcs ch key
        have d1 : sl ((l ++ g.cps.toList) ++ c :: (g'.cps.toList ++ r)).toArray (l ++ g.cps.toList).length ((l ++ g.cps.toList).length + 1 + e) = ⟨(p.cps.toList ++ g'.cps.toList.take e).toArray⟩ := by
          have e5 : (l ++ g.cps.toList) ++ c :: (g'.cps.toList ++ r) = (l ++ g.cps.toList) ++ ((p.cps.toList ++ g'.cps.toList.take e) ++ (g'.cps.toList.drop e ++ r)) := by
            rw [hc, List.append_assoc (as := [c]), ← List.append_assoc (g'.cps.toList.take e), List.take_append_drop]; rfl
          rw [e5]
          refine sl_mid rfl ?_
          rw [List.length_append, List.length_append, hp1, List.length_take]; omega
        have d2 : sl ((l ++ g.cps.toList) ++ c :: (g'.cps.toList ++ r)).toArray (l ++ g.cps.toList).length ((l ++ g.cps.toList).length + 1) = p := by
          have e5 : (l ++ g.cps.toList) ++ c :: (g'.cps.toList ++ r) = (l ++ g.cps.toList) ++ (p.cps.toList ++ (g'.cps.toList ++ r)) := by rw [hc]; rfl
          rw [e5, sl_mid rfl (by rw [hp1]), str_of_list]
        unfold comDat at hit
        rw [d1, d2, a2] at hit
        rw [hp1]
        rw [hp1] at hit
        rw [el2]
        simpa using hit
end Mine

end
section
open PySem PySem.W PyProof.Rows
set_option Elab.async false
set_option maxRecDepth 100000
namespace Mine
/-- an operator's match, by what stands behind the head: blanks, the operator's signs -/
def opHit (r : List Nat) : Option (Nat × Nat) := (opTryL (r.drop (r.takeWhile isSp).length)).map fun k => ((r.takeWhile isSp).length, (r.takeWhile isSp).length + k)
theorem opMatch_suf {l u v : List Nat} {c : Nat} (hn : (l ++ c :: (u ++ v)).length ≤ 1000) (hu : ∀ d ∈ u, d ∈ [9, 32]) (hv : spcS v) :
    opMatch (l ++ c :: (u ++ v)).toArray (l ++ c :: (u ++ v)).length l.length = (opTryL v).map fun k => (l.length + 1 + u.length, l.length + 1 + u.length + k) := by
  have e : l ++ c :: (u ++ v) = (l ++ [c]) ++ (u ++ v) := by simp
  have el : l.length + 1 = (l ++ [c]).length := by simp
  have hn' : ((l ++ [c]) ++ (u ++ v)).length ≤ 1000 := by rw [← e]; exact hn
  have tw : (u ++ v).takeWhile isSp = u := takeWhile_app (fun d hd => (sp_facts d (hu d hd)).1) hv
  unfold opMatch
  rw [e, el, run_suf hn', tw]
  have e2 : (l ++ [c]) ++ (u ++ v) = ((l ++ [c]) ++ u) ++ v := by simp
  have el2 : (l ++ [c]).length + u.length = ((l ++ [c]) ++ u).length := by simp only [List.length_append]
  have tr := opTry_suf (l := (l ++ [c]) ++ u) (r := v) (by rw [← e2]; exact hn')
  rw [← e2, ← el2] at tr
  cases h : opTryL v with
  | some k =>
    rw [h] at tr
    rw [giveO_top u.length tr]
    rfl
  | none =>
    rw [h] at tr
    rw [giveO_none u.length fun j hj => ?_]
    · rfl
    · rcases Nat.lt_or_ge j u.length with hj1 | hj1
      · have e3 : (l ++ [c]) ++ (u ++ v) = ((l ++ [c]) ++ u.take j) ++ (u.drop j ++ v) := by
          rw [List.append_assoc (l ++ [c]), ← List.append_assoc (u.take j), List.take_append_drop]
        have el3 : (l ++ [c]).length + j = ((l ++ [c]) ++ u.take j).length := by
          rw [List.length_append (as := l ++ [c]), List.length_take]; omega
        rw [el3, e3, opTry_suf (by rw [← e3]; exact hn')]
        have ed : u.drop j = u[j] :: u.drop (j + 1) := (List.getElem_cons_drop (h := hj1)).symm
        rw [ed, List.cons_append, opTryL_sp (hu _ (List.getElem_mem hj1))]
        rfl
      · have : j = u.length := by omega
        rw [this]; exact tr
section
variable {l u v : List Nat} {c : Nat} {out : List Dat}
theorem op_skip (hn : (l ++ c :: (u ++ v)).length ≤ 1000) (hu : ∀ d ∈ u, d ∈ [9, 32]) (hv : spcS v) (h : opTryL v = none) : opNext (l ++ c :: (u ++ v)).toArray (l ++ c :: (u ++ v)).length l.length = opNext (l ++ c :: (u ++ v)).toArray (l ++ c :: (u ++ v)).length (l.length + 1) := by
  refine opNext_skip len_head (.inr ?_)
  rw [opMatch_suf hn hu hv, h]; rfl
theorem op_skip_nohead {r : List Nat} (hc : isHead c = false) : opNext (l ++ c :: r).toArray (l ++ c :: r).length l.length = opNext (l ++ c :: r).toArray (l ++ c :: r).length (l.length + 1) := by
  refine opNext_skip len_head (.inl ?_)
  rw [at_head]; exact hc
end
theorem op_pass : ∀ (x l r : List Nat), (∀ c ∈ x, isHead c = false) →
    (opNext (l ++ (x ++ r)).toArray (l ++ (x ++ r)).length l.length = opNext (l ++ (x ++ r)).toArray (l ++ (x ++ r)).length (l.length + x.length))
  | [], l, r, _ => rfl
  | c :: x, l, r, hx => by
    rw [List.cons_append, op_skip_nohead (hx c (.head _))]
    have e : l ++ c :: (x ++ r) = (l ++ [c]) ++ (x ++ r) := by simp
    have el : l.length + 1 = (l ++ [c]).length := by simp
    rw [e, el, op_pass x (l ++ [c]) r fun c hc => hx c (.tail _ hc), List.length_cons, ← el]
    congr 1
    omega
theorem gap_nohead {g : Str} (hg : g ∈ gapL) : ∀ c ∈ g.cps.toList, isHead c = false := fun c hc => (sp_facts c (gap_chars g hg c hc)).2.2.2.1
/-- may an operator take what stands ahead -/
def avail (q : Option Str) (lk : Bool) : Bool := match q with
  | some q => (q != Str.ofString ",") && !lk
  | none => false
/-- what is due of operators from a place on -/
def opDue (a : Nat) (q : Option Str) (lk : Bool) : List Str → List Str → List Dat
  | p :: ps, g :: gs =>
    (if isOp p && avail q lk then gapTell g (a : Int) e223 e221 ++ gapTell (gs.getD 0 Str.empty) ((a + g.cps.toList.length + p.cps.toList.length : Nat) : Int) e224 e222 else []) ++
      opDue (a + g.cps.toList.length + p.cps.toList.length) (some p) (isOp p && avail q lk) ps gs
  | _, _ => []
/-- a row's tail is in order -/
def RowOk (q : Option Str) (lk : Bool) : List Str → List Str → Prop
  | p :: ps, g :: gs => (p ∈ pieceL ∧ g ∈ gapL ∧ (isD p = true → avail q lk = true) ∧ (isOp p = true → g.cps.toList = [] → ∀ q', q = some q' → stiff q' = false)) ∧ RowOk (some p) (isOp p && avail q lk) ps gs
  | [], [g] => g ∈ gapL
  | _, _ => False
theorem RowOk.len : ∀ {P G : List Str} {q : Option Str} {lk : Bool}, RowOk q lk P G → G.length = P.length + 1
  | p :: ps, g :: gs, _, _, h => by simp [RowOk.len h.2]
  | [], [g], _, _, _ => rfl
  | [], [], _, _, h => h.elim
  | [], _ :: _ :: _, _, _, h => h.elim
  | _ :: _, [], _, _, h => h.elim
theorem RowOk.pieces : ∀ {P G : List Str} {q : Option Str} {lk : Bool}, RowOk q lk P G → ∀ p ∈ P, p ∈ pieceL
  | p :: ps, g :: gs, _, _, h => fun x hx => by
    rcases List.mem_cons.mp hx with rfl | hx
    · exact h.1.1
    · exact RowOk.pieces h.2 x hx
  | [], _, _, _, _ => fun _ hx => nomatch hx
theorem RowOk.gaps : ∀ {P G : List Str} {q : Option Str} {lk : Bool}, RowOk q lk P G → ∀ g ∈ G, g ∈ gapL
  | p :: ps, g :: gs, _, _, h => fun x hx => by
    rcases List.mem_cons.mp hx with rfl | hx
    · exact h.1.2.1
    · exact RowOk.gaps h.2 x hx
  | [], [g], _, _, h => fun x hx => by
    rcases List.mem_cons.mp hx with rfl | hx
    · exact h
    · cases hx
  | [], [], _, _, h => h.elim
  | [], _ :: _ :: _, _, _, h => h.elim
  | _ :: _, [], _, _, h => h.elim
theorem piece_len1 : ∀ p ∈ pieceL, isOp p = true → isD p = false → p.cps.toList.length = 1 := by decide +kernel
theorem piece_two : ∀ p ∈ pieceL, isOp p = false → ∀ c ∈ p.cps.toList.drop 1, isOpc c = false ∧ c ≠ 58 := by decide +kernel
theorem piece_colon : ∀ p ∈ pieceL, isOp p = false → p.cps.toList.head? = some 58 → p = Str.ofString ":" := by decide +kernel
theorem stiff_op {p : Str} (h : isOp p = true) : stiff p = true := by
  unfold isOp at h; unfold stiff
  cases h1 : isD p <;> cases h2 : isS p <;> simp_all
theorem stiff_colon : stiff (Str.ofString ":") = true := by decide +kernel
theorem comma_notop : isOp (Str.ofString ",") = false := by decide +kernel
theorem comma_cps : (Str.ofString ",").cps.toList = [44] := by decide +kernel
theorem walrus_opc : isOpc 58 = false := by decide +kernel
theorem spcS_piece {p : Str} {r : List Nat} (hp : p ∈ pieceL) : spcS (p.cps.toList ++ r) := by
  intro c hc
  obtain ⟨h1, _, h3⟩ := piece_facts p hp
  cases e : p.cps.toList with
  | nil => exact absurd e h1
  | cons d x =>
    rw [e] at hc h3
    cases hc
    exact h3 c (.head _)
/-- what stands behind a piece: a gap, or with no gap a piece that does not go on with an operator -/
theorem behind {q : Str} {lk : Bool} : ∀ {P G : List Str}, RowOk (some q) lk P G → stiff q = true → ∀ c, (flat P G).head? = some c → isOpc c = false ∧ c ≠ 61
  | p :: ps, g :: gs, h, hq, c, hc => by
    obtain ⟨⟨hp, hg, _, ht⟩, _⟩ := h
    cases e : g.cps.toList with
    | cons d x =>
      have hc' : (g.cps.toList ++ (p.cps.toList ++ flat ps gs)).head? = some c := hc
      rw [e] at hc'
      cases hc'
      have := sp_facts c (gap_chars g hg c (by rw [e]; exact .head _))
      exact ⟨this.2.1, this.2.2.2.2.2⟩
    | nil =>
      have hc' : (g.cps.toList ++ (p.cps.toList ++ flat ps gs)).head? = some c := hc
      rw [e, List.nil_append] at hc'
      have hop : isOp p = false := by
        cases ho : isOp p with
        | false => rfl
        | true =>
          have := ht ho e q rfl
          rw [hq] at this; cases this
      obtain ⟨h1, _, _⟩ := piece_facts p hp
      have h2 := piece_notop p hp hop
      have h3 := piece_eq p hp hop
      cases e2 : p.cps.toList with
      | nil => exact absurd e2 h1
      | cons d x =>
        rw [e2] at hc' h2 h3
        cases hc'
        exact ⟨h2 c (.head _), fun ee => h3 (by rw [ee]; rfl)⟩
  | [], [g], h, _, c, hc => by
    have hg : g ∈ gapL := h
    have hc' : g.cps.toList.head? = some c := by simpa [flat] using hc
    cases e : g.cps.toList with
    | nil => rw [e] at hc'; cases hc'
    | cons d x =>
      rw [e] at hc'
      cases hc'
      have := sp_facts c (gap_chars g hg c (by rw [e]; exact .head _))
      exact ⟨this.2.1, this.2.2.2.2.2⟩
  | [], [], h, _, _, _ => h.elim
  | [], _ :: _ :: _, h, _, _, _ => h.elim
  | _ :: _, [], h, _, _, _ => h.elim
/-- an operator piece is taken whole -/
theorem try_op {p : Str} {r : List Nat} (hp : p ∈ pieceL) (ho : isOp p = true) (hr : ∀ c, r.head? = some c → isOpc c = false) : opTryL (p.cps.toList ++ r) = some p.cps.toList.length := by
  rcases piece_op p hp ho with rfl | h
  · rw [walrus_cps]
    unfold opTryL
    have e : ([58, 61] ++ r).takeWhile isOpc = [] := by
      show List.takeWhile isOpc (58 :: 61 :: r) = []
      rw [List.takeWhile_cons, walrus_opc]; rfl
    rw [e, if_neg (by simp), if_pos (by rfl), if_pos (by rfl)]
    rfl
  · obtain ⟨h1, _, _⟩ := piece_facts p hp
    have e : (p.cps.toList ++ r).takeWhile isOpc = p.cps.toList := takeWhile_app h hr
    unfold opTryL
    rw [e, if_pos]
    cases e2 : p.cps.toList with
    | nil => exact absurd e2 h1
    | cons d x => simp
/-- no operator begins at a piece that is none -/
theorem try_notop {p : Str} {r : List Nat} (hp : p ∈ pieceL) (ho : isOp p = false) (hr : p = Str.ofString ":" → ∀ c, r.head? = some c → c ≠ 61) : opTryL (p.cps.toList ++ r) = none := by
  obtain ⟨h1, h2, _⟩ := piece_facts p hp
  have hn := piece_notop p hp ho
  have hc := piece_colon p hp ho
  cases e : p.cps.toList with
  | nil => exact absurd e h1
  | cons d x =>
    rw [e] at hn hc
    have e1 : (d :: x ++ r).takeWhile isOpc = [] := by
      show List.takeWhile isOpc (d :: (x ++ r)) = []
      rw [List.takeWhile_cons, hn d (.head _)]; rfl
    unfold opTryL
    rw [e1, if_neg (by simp)]
    by_cases h5 : d = 58
    · subst h5
      rw [if_pos (by rfl)]
      have hp' := hc rfl
      have hx : x = [] := by
        rw [hp'] at e
        have : (Str.ofString ":").cps.toList = [58] := by decide +kernel
        rw [this] at e
        injection e with _ e; exact e.symm
      subst hx
      rw [if_neg]
      intro hh
      exact hr hp' 61 hh rfl
    · rw [if_neg]
      intro hh
      exact h5 (by simpa using hh)
end Mine

end
section
open PySem PySem.W PyProof.Rows
set_option Elab.async false
set_option maxRecDepth 100000
namespace Mine
theorem avail_taken {q : Option Str} : avail q true = false := by
  cases q with
  | none => rfl
  | some q => show ((q != Str.ofString ",") && !true) = false; simp
theorem runTo_suf {l g r : List Nat} (hg : ∀ c ∈ g, isSp c = true) (hr : spcS r) (hn : (l ++ (g ++ r)).length ≤ 1000) : runTo isSp (l ++ (g ++ r)).toArray (l ++ (g ++ r)).length l.length = l.length + g.length := by
  unfold runTo
  rw [run_suf hn, takeWhile_app hg hr]
/-- the operator scanner over a row -/
theorem op_tells : ∀ (P G : List Str) (q : Option Str) (lk : Bool) (l : List Nat), RowOk q lk P G → (l ++ flat P G).length ≤ 1000 →
    (avail q lk = false → OpTells (l ++ flat P G).toArray (l ++ flat P G).length l.length (opDue l.length q lk P G)) ∧
    (avail q lk = true → ∀ l' c, l = l' ++ [c] → isHead c = true → OpTells (l ++ flat P G).toArray (l ++ flat P G).length l'.length (opDue l.length q lk P G))
  | [], [], _, _, _, h, _ => h.elim
  | _ :: _, [], _, _, _, h, _ => h.elim
  | [], _ :: _ :: _, _, _, _, h, _ => h.elim
  | [], [g], q, lk, l, h, hn => by
    have hg : g ∈ gapL := h
    have ef : l ++ flat [] [g] = l ++ (g.cps.toList ++ []) := by simp [flat]
    rw [ef] at hn ⊢
    have tl : OpTells (l ++ (g.cps.toList ++ [])).toArray (l ++ (g.cps.toList ++ [])).length l.length [] := by
      refine .of_eq (op_pass g.cps.toList l [] (gap_nohead hg)) (.stop (opNext_end (by simp)))
    refine ⟨fun _ => tl, fun _ l' c hl hc => ?_⟩
    show OpTells _ _ _ []
    subst hl
    have e : l' ++ [c] ++ (g.cps.toList ++ []) = l' ++ c :: (g.cps.toList ++ []) := by simp
    have el : (l' ++ [c]).length = l'.length + 1 := by simp
    rw [el] at tl
    rw [e] at tl hn ⊢
    exact .of_eq (op_skip hn (gap_chars g hg) (fun c hc => nomatch hc) rfl) tl
  | p :: ps, g :: gs, q, lk, l, h, hn => by
    obtain ⟨⟨hp, hg, hd, ht⟩, hrest⟩ := h
    have ef : l ++ flat (p :: ps) (g :: gs) = (l ++ g.cps.toList ++ p.cps.toList) ++ flat ps gs := by simp [flat]
    have ih := op_tells ps gs (some p) (isOp p && avail q lk) (l ++ g.cps.toList ++ p.cps.toList) hrest (by rw [← ef]; exact hn)
    have el : (l ++ g.cps.toList ++ p.cps.toList).length = l.length + g.cps.toList.length + p.cps.toList.length := by simp only [List.length_append]
    rw [← ef, el] at ih
    have eg : l ++ flat (p :: ps) (g :: gs) = l ++ (g.cps.toList ++ (p.cps.toList ++ flat ps gs)) := rfl
    have elg : (l ++ g.cps.toList).length = l.length + g.cps.toList.length := by simp only [List.length_append]
    have e2 : l ++ flat (p :: ps) (g :: gs) = (l ++ g.cps.toList) ++ (p.cps.toList ++ flat ps gs) := by simp [flat]
    have passg := op_pass g.cps.toList l (p.cps.toList ++ flat ps gs) (gap_nohead hg)
    rw [← eg] at passg
    -- from the piece's begin, where the piece is not taken
    have K : (isOp p && avail q lk) = false → OpTells (l ++ flat (p :: ps) (g :: gs)).toArray (l ++ flat (p :: ps) (g :: gs)).length (l.length + g.cps.toList.length) (opDue (l.length + g.cps.toList.length + p.cps.toList.length) (some p) (isOp p && avail q lk) ps gs) := by
      intro htk
      rw [htk] at ih ⊢
      by_cases hcm : p = Str.ofString ","
      · have i1 := ih.1 (by rw [hcm]; rfl)
        have pp := op_pass p.cps.toList (l ++ g.cps.toList) (flat ps gs) (by rw [hcm, comma_cps]; intro c hc; rcases List.mem_singleton.mp hc with rfl; decide)
        rw [← e2, elg] at pp
        exact .of_eq pp i1
      · have av : avail (some p) false = true := by
          show ((p != Str.ofString ",") && !false) = true
          simpa using hcm
        have hh := piece_comma p hp hcm
        obtain ⟨h1, h2, _⟩ := piece_facts p hp
        have one : isOp p = true → p.cps.toList.length = 1 := fun ho => piece_len1 p hp ho (by
          cases hdd : isD p with
          | false => rfl
          | true => rw [ho, hd hdd] at htk; cases htk)
        cases e : p.cps.toList with
        | nil => exact absurd e h1
        | cons b x =>
          cases x with
          | nil =>
            have i2 := ih.2 av (l ++ g.cps.toList) b (by rw [e]) (hh b (by rw [e]; exact .head _))
            rw [elg, e] at i2
            exact i2
          | cons c y =>
            have hy : y = [] := by
              rw [e] at h2
              cases y with
              | nil => rfl
              | cons => simp at h2
            subst hy
            have ho : isOp p = false := by
              cases ho : isOp p with
              | false => rfl
              | true => have := one ho; rw [e] at this; simp at this
            have tw := piece_two p hp ho c (by rw [e]; exact .head _)
            have i2 := ih.2 av (l ++ g.cps.toList ++ [b]) c (by rw [e]; simp) (hh c (by rw [e]; exact .tail _ (.head _)))
            have el3 : (l ++ g.cps.toList ++ [b]).length = (l ++ g.cps.toList).length + 1 := by simp only [List.length_append, List.length_cons, List.length_nil]
            have e3 : l ++ flat (p :: ps) (g :: gs) = (l ++ g.cps.toList) ++ b :: ([] ++ (c :: flat ps gs)) := by rw [e2, e]; rfl
            rw [el3] at i2
            rw [← elg, ← e]
            rw [e3] at i2 hn ⊢
            rw [elg] at i2 ⊢
            rw [← elg] at ⊢
            refine .of_eq (op_skip (u := []) hn (fun d hd => nomatch hd) (fun d hd => ?_) ?_) (by rw [elg]; exact i2)
            · cases hd
              obtain ⟨_, _, h3⟩ := piece_facts p hp
              exact h3 c (by rw [e]; exact .tail _ (.head _))
            · unfold opTryL
              have e5 : (c :: flat ps gs).takeWhile isOpc = [] := by rw [List.takeWhile_cons, tw.1]; rfl
              rw [e5, if_neg (by simp), if_neg]
              intro hh
              exact tw.2 (by simpa using hh)
    refine ⟨fun hav => ?_, fun hav l' c hl hc => ?_⟩
    · have htk : (isOp p && avail q lk) = false := by rw [hav, Bool.and_false]
      have k := K htk
      show OpTells _ _ _ ((if (isOp p && avail q lk) = true then _ else []) ++ opDue (l.length + g.cps.toList.length + p.cps.toList.length) (some p) (isOp p && avail q lk) ps gs)
      rw [if_neg (by rw [htk]; exact Bool.false_ne_true), List.nil_append]
      exact .of_eq passg k
    · show OpTells _ _ _ ((if (isOp p && avail q lk) = true then _ else []) ++ opDue (l.length + g.cps.toList.length + p.cps.toList.length) (some p) (isOp p && avail q lk) ps gs)
      have e4 : l ++ flat (p :: ps) (g :: gs) = l' ++ c :: (g.cps.toList ++ (p.cps.toList ++ flat ps gs)) := by rw [eg, hl]; simp
      have ell : l.length = l'.length + 1 := by rw [hl]; simp
      have hhd : ∀ d, (flat ps gs).head? = some d → stiff p = true → isOpc d = false ∧ d ≠ 61 := fun d hd hs => behind hrest hs d hd
      cases hop : isOp p with
      | false =>
        have htk : (isOp p && avail q lk) = false := by rw [hop]; rfl
        have k := K htk
        rw [hop] at k
        rw [if_neg (by simp), List.nil_append]
        have tn : opTryL (p.cps.toList ++ flat ps gs) = none := try_notop hp hop fun hcol d hd => (hhd d hd (by rw [hcol]; exact stiff_colon)).2
        have k1 := OpTells.of_eq passg k
        rw [ell] at k1 ⊢
        rw [e4] at k1 hn ⊢
        exact .of_eq (op_skip hn (gap_chars g hg) (spcS_piece hp) tn) k1
      | true =>
        have htk : (isOp p && avail q lk) = true := by rw [hop, hav]; rfl
        rw [if_pos (by rw [hav]; rfl)]
        have tn : opTryL (p.cps.toList ++ flat ps gs) = some p.cps.toList.length := try_op hp hop fun d hd => (hhd d hd (stiff_op hop)).1
        obtain ⟨r, er, hr⟩ := flat_head hrest.pieces hrest.len
        have hg' : gs.getD 0 Str.empty ∈ gapL := by
          have := hrest.len
          cases gs with
          | nil => simp at this
          | cons x y => exact hrest.gaps x (.head _)
        generalize gs.getD 0 Str.empty = g' at er hg' ⊢
        have e6 : l ++ flat (p :: ps) (g :: gs) = (l ++ g.cps.toList ++ p.cps.toList) ++ (g'.cps.toList ++ r) := by rw [ef, er]
        have rt := runTo_suf (l := l ++ g.cps.toList ++ p.cps.toList) (g := g'.cps.toList) (r := r) (gap_sp g' hg') hr (by rw [← e6]; exact hn)
        have ps2 := op_pass g'.cps.toList (l ++ g.cps.toList ++ p.cps.toList) r (gap_nohead hg')
        rw [← e6, el] at rt ps2
        have i1 := ih.1 (by rw [htk]; exact avail_taken)
        have nx := OpTells.of_eq ps2.symm i1
        rw [← rt] at nx
        have mt := opMatch_suf (l := l') (c := c) (by rw [← e4]; exact hn) (gap_chars g hg) (spcS_piece (r := flat ps gs) hp)
        rw [← e4, tn, ← ell] at mt
        have hit := OpTells.hit (opNext_hit (by rw [e4]; exact len_head) (by rw [e4, at_head]; exact hc) mt) nx
        unfold opDats at hit
        rw [rt] at hit
        have d1 : sl (l ++ flat (p :: ps) (g :: gs)).toArray (l'.length + 1) (l.length + g.cps.toList.length) = g := by
          rw [eg, sl_mid ell.symm rfl, str_of_list]
        have d2 : sl (l ++ flat (p :: ps) (g :: gs)).toArray (l.length + g.cps.toList.length + p.cps.toList.length) (l.length + g.cps.toList.length + p.cps.toList.length + g'.cps.toList.length) = g' := by
          rw [e6, sl_mid el.symm (by rw [el]), str_of_list]
        rw [d1, d2] at hit
        rw [hop] at hit
        have e7 : ((l'.length : Int) + 1) = (l.length : Int) := by rw [ell]; simp
        rw [e7] at hit
        exact hit
end Mine

end
section
open PySem PySem.W PyProof.Rows
set_option Elab.async false
set_option maxRecDepth 100000
namespace Mine
theorem getD_get {P : List Str} {k : Nat} (h : k < P.length) : P.getD k Str.empty = P[k] := by rw [List.getD_eq_getElem?_getD, List.getElem?_eq_getElem h]; rfl
theorem drop_get {P : List Str} {k : Nat} (h : k < P.length) : P.drop k = P.getD k Str.empty :: P.drop (k + 1) := by
  rw [getD_get h]; exact (List.getElem_cons_drop (h := h)).symm
theorem drop_getD {P : List Str} {k : Nat} : (P.drop k).getD 0 Str.empty = P.getD k Str.empty := by
  rw [List.getD_eq_getElem?_getD, List.getD_eq_getElem?_getD, List.getElem?_drop, Nat.add_zero]
theorem comDue_up {P G : List Str} (hl : G.length = P.length + 1) : ∀ k, k ≤ P.length → ∃ a : Nat, (a : Int) = (comUp P G k).1 ∧ comDue 0 P G = (comUp P G k).2.2 ++ comDue a (P.drop k) (G.drop k)
  | 0, _ => ⟨0, rfl, rfl⟩
  | k + 1, hk => by
    obtain ⟨a, e1, e2⟩ := comDue_up hl k (by omega)
    have hp : k < P.length := by omega
    have hg : k < G.length := by omega
    refine ⟨a + (G.getD k Str.empty).cps.toList.length + (P.getD k Str.empty).cps.toList.length, ?_, ?_⟩
    · show _ = (comUp P G k).1 + ((G.getD k Str.empty).length : Int) + ((P.getD k Str.empty).length : Int)
      rw [← e1, len_cps, len_cps]
      omega
    · rw [e2, drop_get hp, drop_get hg]
      show _ ++ ((if signL.any (· == P.getD k Str.empty) = true then gapTell ((G.drop (k + 1)).getD 0 Str.empty) ((a + (G.getD k Str.empty).cps.toList.length + (P.getD k Str.empty).cps.toList.length : Nat) : Int) (e242 (P.getD k Str.empty)) (e241 (P.getD k Str.empty)) else []) ++ comDue _ (P.drop (k + 1)) (G.drop (k + 1))) =
        ((comUp P G k).2.2 ++ (if signL.any (· == P.getD k Str.empty) = true then gapTell (G.getD (k + 1) Str.empty) ((comUp P G k).1 + ((G.getD k Str.empty).length : Int) + ((P.getD k Str.empty).length : Int)) (e242 (P.getD k Str.empty)) (e241 (P.getD k Str.empty)) else [])) ++ _
      rw [drop_getD, ← List.append_assoc, ← e1, len_cps, len_cps]
      push_cast
      rfl
theorem comDue_eq {P G : List Str} (hl : G.length = P.length + 1) : comDue 0 P G = (comUp P G P.length).2.2 := by
  obtain ⟨a, _, e⟩ := comDue_up hl P.length (Nat.le_refl _)
  rw [e, List.drop_length]
  have : comDue a [] (G.drop P.length) = [] := by
    cases G.drop P.length <;> rfl
  rw [this, List.append_nil]
def qk (P : List Str) : Nat → Option Str × Bool
  | 0 => (none, false)
  | k + 1 => (some (P.getD k Str.empty), takes (P.getD k Str.empty) (P.getD (k - 1) Str.empty) (k : Int) (lookedUp P k))
theorem lookedUp_lt (P : List Str) : ∀ k, lookedUp P k < k
  | 0 => by show (-1 : Int) < 0; decide
  | k + 1 => by
    have := lookedUp_lt P k
    unfold lookedUp
    split <;> omega
theorem qk_takes (P : List Str) (p : Str) : ∀ k, (isOp p && avail (qk P k).1 (qk P k).2) = takes p (P.getD (k - 1) Str.empty) (k : Int) (lookedUp P k)
  | 0 => by
    show (isOp p && false) = _
    unfold takes
    simp
  | k + 1 => by
    have hlt := lookedUp_lt P k
    have key : decide (lookedUp P (k + 1) ≠ ((k + 1 : Nat) : Int) - 1) = !(takes (P.getD k Str.empty) (P.getD (k - 1) Str.empty) (k : Int) (lookedUp P k)) := by
      have eu : lookedUp P (k + 1) = if takes (P.getD k Str.empty) (P.getD (k - 1) Str.empty) (k : Int) (lookedUp P k) then (k : Int) else lookedUp P k := rfl
      rw [eu]
      cases takes (P.getD k Str.empty) (P.getD (k - 1) Str.empty) (k : Int) (lookedUp P k) with
      | true => rw [if_pos rfl]; simp
      | false =>
        rw [if_neg Bool.false_ne_true]
        simp
        omega
    show (isOp p && ((P.getD k Str.empty != Str.ofString ",") && !(takes (P.getD k Str.empty) (P.getD (k - 1) Str.empty) (k : Int) (lookedUp P k)))) = _
    rw [← key]
    unfold takes
    have h0 : decide ((0 : Int) < ((k + 1 : Nat) : Int)) = true := decide_eq_true (by omega)
    rw [h0, Bool.and_true, Nat.add_sub_cancel, Bool.and_assoc]
theorem opDue_up {P G : List Str} (hl : G.length = P.length + 1) : ∀ k, k ≤ P.length → ∃ a : Nat, (a : Int) = (opsUp P G k).1 ∧ opDue 0 none false P G = (opsUp P G k).2.2 ++ opDue a (qk P k).1 (qk P k).2 (P.drop k) (G.drop k)
  | 0, _ => ⟨0, rfl, rfl⟩
  | k + 1, hk => by
    obtain ⟨a, e1, e2⟩ := opDue_up hl k (by omega)
    have hp : k < P.length := by omega
    have hg : k < G.length := by omega
    have tk := qk_takes P (P.getD k Str.empty) k
    refine ⟨a + (G.getD k Str.empty).cps.toList.length + (P.getD k Str.empty).cps.toList.length, ?_, ?_⟩
    · show _ = (opsStep P G k (opsUp P G k)).1
      have : (opsStep P G k (opsUp P G k)).1 = (opsUp P G k).1 + ((G.getD k Str.empty).length : Int) + ((P.getD k Str.empty).length : Int) := by
        unfold opsStep
        dsimp only
        split <;> rfl
      rw [this, ← e1, len_cps, len_cps]
      omega
    · rw [e2, drop_get hp, drop_get hg]
      show _ ++ ((if (isOp (P.getD k Str.empty) && avail (qk P k).1 (qk P k).2) = true then
          gapTell (G.getD k Str.empty) (a : Int) e223 e221 ++ gapTell ((G.drop (k + 1)).getD 0 Str.empty) ((a + (G.getD k Str.empty).cps.toList.length + (P.getD k Str.empty).cps.toList.length : Nat) : Int) e224 e222 else []) ++
          opDue _ (some (P.getD k Str.empty)) (isOp (P.getD k Str.empty) && avail (qk P k).1 (qk P k).2) (P.drop (k + 1)) (G.drop (k + 1))) = (opsStep P G k (opsUp P G k)).2.2 ++ _
      rw [tk, drop_getD, ← List.append_assoc]
      have es : (opsStep P G k (opsUp P G k)).2.2 = (opsUp P G k).2.2 ++ (if takes (P.getD k Str.empty) (P.getD (k - 1) Str.empty) (k : Int) (lookedUp P k) = true then
          gapTell (G.getD k Str.empty) (a : Int) e223 e221 ++ gapTell (G.getD (k + 1) Str.empty) ((a + (G.getD k Str.empty).cps.toList.length + (P.getD k Str.empty).cps.toList.length : Nat) : Int) e224 e222 else []) := by
        unfold opsStep
        dsimp only
        rw [opsUp_looked, len_cps, len_cps, ← e1]
        split
        · push_cast; rfl
        · exact (List.append_nil _).symm
      rw [es]
      rfl
theorem opDue_eq {P G : List Str} (hl : G.length = P.length + 1) : opDue 0 none false P G = (opsUp P G P.length).2.2 := by
  obtain ⟨a, _, e⟩ := opDue_up hl P.length (Nat.le_refl _)
  rw [e, List.drop_length]
  have : opDue a (qk P P.length).1 (qk P P.length).2 [] (G.drop P.length) = [] := by
    cases G.drop P.length <;> rfl
  rw [this, List.append_nil]
theorem cps_nil : ∀ g ∈ gapL, g.cps.toList = [] → g = Str.ofString "" := by decide +kernel
theorem RowP.ok {P G : List Str} {kl : Int} {g : Str} (h : RowP P G kl) (hg : g ∈ gapL) : ∀ j k, k + j = P.length → RowOk (qk P k).1 (qk P k).2 (P.drop k) ((G ++ [g]).drop k)
  | 0, k, e => by
    have hl := h.len
    have e1 : P.drop k = [] := by rw [show k = P.length by omega]; exact List.drop_length
    have e2 : (G ++ [g]).drop k = [g] := by
      rw [show k = G.length by omega]
      exact List.drop_left
    rw [e1, e2]
    exact hg
  | j + 1, k, e => by
    have hl := h.len
    have hp : k < P.length := by omega
    have hgl : k < (G ++ [g]).length := by simp; omega
    have ih := RowP.ok h hg j (k + 1) (by omega)
    have r := h.idx.2 k hp
    have tk := qk_takes P (P.getD k Str.empty) k
    rw [drop_get hp, drop_get hgl]
    have eg : (G ++ [g]).getD k Str.empty = G.getD k Str.empty := getD_app_lt (by omega)
    rw [eg]
    refine ⟨⟨r.p, r.g, fun hd => ?_, fun ho hn q' hq => ?_⟩, ?_⟩
    · have := r.dbl hd
      rw [← tk] at this
      exact (Bool.and_eq_true_iff.mp this).2
    · cases k with
      | zero => cases hq
      | succ k =>
        cases hq
        exact r.touch ho (cps_nil _ r.g hn) (by omega)
    · rw [tk]
      exact ih
theorem row_tells {P G : List Str} {kl : Int} {g : Str} (h : RowP P G kl) (hg : g ∈ gapL) (hn : (flat P (G ++ [g])).length ≤ 1000) :
    ComTells (flat P (G ++ [g])).toArray (flat P (G ++ [g])).length 0 (comUp P (G ++ [g]) P.length).2.2 ∧ OpTells (flat P (G ++ [g])).toArray (flat P (G ++ [g])).length 0 (opsUp P (G ++ [g]) P.length).2.2 := by
  have hl : (G ++ [g]).length = P.length + 1 := by simp [h.len]
  have ok : RowOk none false P (G ++ [g]) := RowP.ok h hg P.length 0 (by omega)
  refine ⟨?_, ?_⟩
  · rw [← comDue_eq hl]
    exact com_tells P (G ++ [g]) [] ok.pieces ok.gaps hl hn
  · rw [← opDue_eq hl]
    exact (op_tells P (G ++ [g]) none false [] ok hn).1 rfl
end Mine

end
section
open PySem PySem.W PyProof.Rows
open Sem (wp)
set_option Elab.async false
set_option maxRecDepth 100000
namespace Mine
open PySem.Builtin.Re
section
variable {α : Type} {M : Model} {A : Around} {c : Code} {E : Value → Shared → Prop} {s : Shared}
theorem wpO_mono {t : Sem α} {Q Q' : α → Shared → Prop} {E' : Value → Shared → Prop} (h : wpO M A c t Q E s) (hQ : ∀ a s, Q a s → Q' a s) (hE : ∀ e s, E e s → E' e s) : wpO M A c t Q' E' s :=
  fun Γ p hc hΓ h2 => Sem.wp_mono M Γ t (fun a _ s => hQ a s) (fun e _ s => hE e s) p s (h Γ p hc hΓ h2)
theorem wpO_pure {a : α} {Q : α → Shared → Prop} (h : Q a s) : wpO M A c (pure a) Q E s := wpO_of (wpAny_pure h)
end
section
variable {M : Model} {prog : Program} {w : World} {A : Around} {C : Code} {E : Value → Shared → Prop} {h : Heap} {g : Array GenState} {d : Drawn} {t : Nat} {os : OsState} {me it a : Addr}
theorem slotLets_free {who : String} {busy : Code → Bool} {Q : Unit → Shared → Prop} (hm : h.get? me = some (methObj a)) (hb : ∀ c, noCI c = true → busy c = false) (hq : Q () ⟨h, g, d, t, os⟩) :
    wpO M A C (slotLetsGo who (.ref me) busy) Q E ⟨h, g, d, t, os⟩ := by
  unfold methObj at hm
  show wpO M A C (borrowsExactly (.ref me) >>= fun b => if b = true then pure () else stack >>= fun l => if ((l.drop 1).any fun (c, _) => busy c) = true then unsupported _ else pure ()) Q E _
  refine wpO_bind (wpO_of (Q := fun b s' => wpO M A C (if b = true then pure () else stack >>= fun l => if ((l.drop 1).any fun (c, _) => busy c) = true then unsupported _ else pure ()) Q E s') ?_)
  unfold borrowsExactly
  refine wpAny_bind (wpAny_load hm ?_)
  refine wpAny_pure (a := false) ?_
  rw [if_neg Bool.false_ne_true]
  refine wpO_bind (wpO_stack fun p below hf => ?_)
  have e : (((C, p) :: below).drop 1).any (fun (c, _) => busy c) = false := by
    rw [List.any_eq_false]
    intro x hx
    show ¬ (busy x.1 = true)
    rw [hb x.1 (hf x hx)]
    exact Bool.false_ne_true
  rw [e, if_neg Bool.false_ne_true]
  exact wpO_pure hq
theorem cnext_none {Q : Fin → Shared → Prop} (hh : A.handled = none) (hC : (A.under C).handled = none) (hi : h.get? it = some (iterObj me)) (hm : h.get? me = some (methObj a))
    (hu : (A.under C).units + 10 < cLine)
    (hcall : wpAny (qm prog w) (A.under C) (call (.ref me) []) (fun r s' => r = .none ∧ s'.heap.get? it = some (iterObj me) ∧ s'.heap.get? me = some (methObj a) ∧
      ∀ h' x oe, oe.cls = .type "StopIteration" → (∀ b o, b ≠ it → s'.heap.get? b = some o → h'.get? b = some o) → h'.get? x = some oe → E (.ref x) { s' with heap := h' }) (fun _ _ => False) ⟨h, g, d, t, os⟩) :
    wpO (qm prog w) A C (Builtin.«callable_iterator.__next__» ⟨[.ref it], []⟩) Q E ⟨h, g, d, t, os⟩ := by
  have hi2 := hi
  unfold iterObj at hi
  unfold Builtin.«callable_iterator.__next__»
  refine wpO_bind (wpO_of ?_)
  repeat wp_step
  show wpO _ _ _ (field (.ref it) 2 >>= _) _ _ _
  refine wpO_bind (wpO_of ?_)
  repeat wp_step
  show wpO _ _ _ (field (.ref it) 0 >>= _) _ _ _
  refine wpO_bind (wpO_of ?_)
  repeat wp_step
  show wpO _ _ _ ((callOutOfASlot (.ref me)).attempt >>= _) _ _ _
  refine wpO_bind (wpO_of (wpAny_attempt (callOut_meth hm (wpAny_mono hcall (fun r s' hr => ?_) fun _ _ x => x.elim))))
  obtain ⟨rfl, h1, h2, h3⟩ := hr
  obtain ⟨h', g', d', t', os'⟩ := s'
  have h1' := h1
  unfold iterObj at h1
  show wpO _ _ _ (field (.ref it) 2 >>= _) _ _ _
  refine wpO_bind (wpO_of ?_)
  repeat wp_step
  show wpO _ _ _ (field (.ref it) 1 >>= _) _ _ _
  refine wpO_bind (wpO_of ?_)
  repeat wp_step
  show wpO _ _ _ (holding [.none] (eqBool .none .none) >>= _) _ _ _
  refine wpO_bind (wpO_of ?_)
  refine wpAny_holding (wpAny_holding ?_)
  show wpAny _ _ (rule _ >>= _) _ _ _
  refine wpAny_bind (wpAny_rule (wpAny_pure ?_))
  show wpO _ _ _ (rule _ >>= _) _ _ _
  refine wpO_bind (wpO_of (wpAny_rule ?_))
  show wpO _ _ _ ((field (.ref it) 0 >>= fun v => slotLetsGo _ v _ >>= fun _ => setField (.ref it) 0 .none >>= fun _ => setField (.ref it) 1 .none >>= fun _ => setField (.ref it) 2 (.bool true)) >>= _) _ _ _
  refine wpO_bind (wpO_bind (wpO_of ?_))
  repeat wp_step
  show wpO _ _ _ (slotLetsGo _ (.ref me) _ >>= _) _ _ _
  refine wpO_bind (slotLets_free h2 ?_ ?_)
  · intro c hc
    cases c <;> try rfl
    rename_i id args
    have hne : id ≠ "callable_iterator.__next__" := fun e => by rw [e] at hc; exact absurd hc (by simp [noCI])
    split
    · rename_i e; cases e; exact absurd rfl hne
    · rfl
  refine wpO_of ?_
  refine wpAny_bind (up (wpAny_setField_rec h1 (by simp) fun x1 a1 b1 => ?_))
  refine wpAny_bind (up (wpAny_setField_rec a1 (by simp) fun x2 a2 b2 => ?_))
  refine (up (wpAny_setField_rec a2 (by simp) fun x3 a3 b3 => ?_))
  refine wpO_of ?_
  show wpAny _ _ (newExc (.type "StopIteration") [] >>= _) _ _ _
  refine wpAny_bind ?_
  simp only [newExc, newTuple]
  refine wpAny_bind (wpAny_newObj_type ?_ (by size_fits))
  refine wpAny_bind (m := firstArgMember _ _) (wpAny_of_eq (a := Value.none) (by first | rfl | (simp only [firstArgMember]; rfl)) ?_)
  refine wpAny_newObj_type ?_ (by size_fits)
  simp only [raiseNew]
  refine wpAny_bind (wpAny_handled ?_)
  rw [show (A.under C).handled = none from hC]
  refine wpAny_throw ?_
  refine h3 _ _ _ ?_ ?_ (Heap.get?_push_size _ rfl)
  · rfl
  · intro b o hb e
    refine Heap.get?_push_of_some _ (Heap.get?_push_of_some _ ?_)
    exact (b3.2 b hb).trans ((b2.2 b hb).trans ((b1.2 b hb).trans e))
end
end Mine

end
section
open PySem PySem.W PyProof.Rows
open Sem (wp)
set_option Elab.async false
set_option maxRecDepth 100000
namespace Mine
open PySem.Builtin.Re
section
variable {M : Model} {prog : Program} {w : World} {A : Around} {E : Value → Shared → Prop} {h : Heap} {g : Array GenState} {d : Drawn} {t : Nat} {os : OsState} {p c a me it : Addr} {pp pf : Value} {groups : Nat} {items : Array Value} {n : Nat} {x : Str} {tx : Tok} {pos : Nat} {must : Bool}
theorem f_citer {R : Result → Shared → Prop} {s : Shared} (hT : s.TypeIs (.ref it) "callable_iterator")
    (hO : wpO (qm prog w) A (.builtin "callable_iterator.__next__" ⟨[.ref it], []⟩) (Builtin.«callable_iterator.__next__» ⟨[.ref it], []⟩)
      (fun fin s' => match fin with | .done f => R (.ok f) s' | .again c' => c'.quiet = true ∧ codeF (qm prog w) A c' R s') (fun e s' => R (.error e) s') s) :
    codeF (qm prog w) A (.call (.builtin "callable_iterator.__next__") ⟨[.ref it], []⟩) R s := by
  refine codeF_of_tree rfl ?_
  show wpF _ A.in1 (do checkBuiltinCall "callable_iterator.__next__" ⟨[.ref it], []⟩; again (.builtin "callable_iterator.__next__" ⟨[.ref it], []⟩)) _ _ s
  refine wpF_bind (wpF_of (F.slot_cnext.check _ _ _ _ _ _ _ _ hT (F.args_cnext _) (wpF_pure (And.intro (plainId_quiet F.slot_cnext.plain _) (codeF_of_O ?_)))))
  rw [q_den_id (by decide), den_builtin F.entry_cnext]
  exact hO
theorem f_next_found {m m' : Sre.M} {k : Nat} {spans : List Value} {Q : Option Value → Shared → Prop}
    (hi : h.get? it = some (iterObj me)) (hm : h.get? me = some (methObj a)) (hs : h.get? a = some (scanObj p x tx pos must)) (hp : h.get? p = some (patObj pp pf groups c)) (hc : h.get? c = some (codeObj items n))
    (hia : it ≠ a) (hu : A.units + 30 < cLine)
    (em : Sre.forSearch (codeOf items) x.cps groups pos x.cps.size must = m) (hk : m.runFor k = m') (hle : k ≤ 1000000) (ho : m'.outcome = some .matched)
    (hnm : ∀ (A : Around) (E : Value → Shared → Prop) (h : Heap) (Q : Value → Shared → Prop), Q (.ref h.objs.size.succ) ⟨(h.push (tupObj m' spans)).push (matchObj p x tx m'.lastindex h.objs.size), g, d, t, os⟩ → wpAny (qm prog w) A (reNewMatch (.ref p) (.str x tx) groups 0 x.cps.size m') Q E ⟨h, g, d, t, os⟩)
    (hq : ∀ h', Scanned a p x tx h h' m'.handed (m'.handed == m'.start) → Q (some (.ref h'.objs.size.succ)) ⟨(h'.push (tupObj m' spans)).push (matchObj p x tx m'.lastindex h'.objs.size), g, d, t, os⟩) :
    wpF (qm prog w) A (pyNext (.ref it)) Q E ⟨h, g, d, t, os⟩ := by
  have hT : (⟨h, g, d, t, os⟩ : Shared).TypeIs (.ref it) "callable_iterator" := ⟨_, hi, rfl⟩
  unfold pyNext
  refine wpF_bind (wpF_attempt (f_callSpecial (name := Str.ofString "__next__") hT F.slot_cnext (wpF_call (f_citer hT (wpO_of (cnext_found hi hm ?_))))))
  rw [Around.under_plainId F.slot_cnext.plain]
  refine wpAny_call (q_meth_call hm hs (search_matched hs hp hc em hk hle ho (hnm _ _) fun h' hsc => ?_))
  have hi' : h'.get? it = some (iterObj me) := (hsc.same.2 it hia).trans hi
  refine ⟨Heap.get?_push_of_some _ (Heap.get?_push_of_some _ hi'), up (eq_none_match (by show A.units + 1 + 10 < cLine; omega) (vs := #[.str x tx, .ref p, .int 0 0, .int x.cps.size 0, .int m'.lastindex 0, .ref h'.objs.size]) ?_ ⟨rfl, ?_⟩)⟩
  · have e1 : (h'.push (tupObj m' spans)).objs.size = h'.objs.size.succ := Heap.size_push ..
    rw [← e1]
    exact Heap.get?_push_size _ rfl
  · exact wpF_pure (hq h' hsc)
theorem f_next_none {m m' : Sre.M} {k : Nat} {Q : Option Value → Shared → Prop} (hh : A.handled = none)
    (hi : h.get? it = some (iterObj me)) (hm : h.get? me = some (methObj a)) (hs : h.get? a = some (scanObj p x tx pos must)) (hp : h.get? p = some (patObj pp pf groups c)) (hc : h.get? c = some (codeObj items n))
    (hia : it ≠ a) (hma : me ≠ a) (hu : A.units + 30 < cLine)
    (em : Sre.forSearch (codeOf items) x.cps groups pos x.cps.size must = m) (hk : m.runFor k = m') (hle : k ≤ 1000000) (ho : m'.outcome = some .failed)
    (hq : ∀ h', (∀ b o, b ≠ it → b ≠ a → h.get? b = some o → h'.get? b = some o) → Q none ⟨h', g, d, t, os⟩) :
    wpF (qm prog w) A (pyNext (.ref it)) Q E ⟨h, g, d, t, os⟩ := by
  have hT : (⟨h, g, d, t, os⟩ : Shared).TypeIs (.ref it) "callable_iterator" := ⟨_, hi, rfl⟩
  unfold pyNext
  refine wpF_bind (wpF_attempt (f_callSpecial (name := Str.ofString "__next__") hT F.slot_cnext (wpF_call (f_citer hT (cnext_none hh ?_ hi hm ?_ ?_)))))
  · rw [Around.under_plainId F.slot_cnext.plain]; exact hh
  · rw [Around.under_plainId F.slot_cnext.plain]; show A.units + 1 + 10 < cLine; omega
  rw [Around.under_plainId F.slot_cnext.plain]
  refine wpAny_call (q_meth_call hm hs (search_failed hs hp hc em hk hle ho fun h' hsc => ⟨rfl, (hsc.same.2 it hia).trans hi, (hsc.same.2 me hma).trans hm, fun h'' xe oe hcls hk' hx => ?_⟩))
  refine wpF_of (wpAny_bind (wpAny_isInstance (T := "StopIteration") (b := true) ⟨_, hx, hcls⟩ isSubtype_stop ?_))
  exact wpAny_pure (hq h'' fun b o hb1 hb2 e => hk' b o hb1 ((hsc.same.2 b hb2).trans e))
theorem f_pyIter_citer {M : Model} {Q : Value → Shared → Prop} {s : Shared} (hT : s.TypeIs (.ref it) "callable_iterator") (hq : Q (.ref it) s) : wpAny (model prog w) A (pyIter (.ref it)) Q E s := by
  refine wpAny_pyIter_slot hT F.slot_citer (wpAny_call_entry F.slot_citer hT F.entry_citer ?_ (F.args_citer _))
  show wpAny _ _ (ret (.ref it)) _ _ s
  exact wpAny_pure ⟨_, rfl, "callable_iterator", _, hT, F.slot_cnext.lookup, hq⟩
end
end Mine

end
section
open PySem PySem.W PyProof.Rows
set_option Elab.async false
set_option maxRecDepth 100000
namespace Mine
open PySem.Builtin.Re
namespace F
theorem plain_match : PlainAttrs "re.Match" :=
  ⟨⟨"object.__getattribute__", by rw [typeLookup_type, builtinLookup_eq_fast]; kernel_rfl, by decide +kernel⟩, by rw [typeLookup_type, builtinLookup_eq_fast]; kernel_rfl⟩
theorem plain_pattern : PlainAttrs "re.Pattern" :=
  ⟨⟨"object.__getattribute__", by rw [typeLookup_type, builtinLookup_eq_fast]; kernel_rfl, by decide +kernel⟩, by rw [typeLookup_type, builtinLookup_eq_fast]; kernel_rfl⟩
end F
/-- a match object, as an object of the heap -/
def mObj (p : Addr) (x : Str) (tx : Tok) (li : Int) (tup : Addr) : Obj := { cls := .type "re.Match", dict := none, data := .fields #[.str x tx, .ref p, .int 0 0, .int x.cps.size 0, .int li 0, .ref tup], slots := #[] }
section
variable {M : Model} {prog : Program} {w : World} {A : Around} {E : Value → Shared → Prop} {s : Shared} {p tup mt : Addr} {x : Str} {tx : Tok} {li : Int} {b1 e1 b2 e2 : Nat} {nt : Nat}
theorem getm_match {name : Str} {id : String} {pl : Sem Bool} {Q : Value × List Value → Shared → Prop} (hm : s.heap.get? mt = some (mObj p x tx li tup)) (slot : Slot "re.Match" name id) (hty : typeOf (.builtin id) = pure (.type "method_descriptor")) (hq : Q (.builtin id, [.ref mt]) s) :
    wpAny M A (getMethod (.ref mt) name pl) Q E s :=
  getMethod_builtin ⟨_, hm, rfl⟩ F.plain_match slot hty (fun a e => by cases e; exact ⟨_, hm, rfl⟩) hq
theorem getm_pattern {pp pf : Value} {groups : Nat} {c : Addr} {name : Str} {id : String} {pl : Sem Bool} {Q : Value × List Value → Shared → Prop} (hm : s.heap.get? p = some (patObj pp pf groups c)) (slot : Slot "re.Pattern" name id) (hty : typeOf (.builtin id) = pure (.type "method_descriptor")) (hq : Q (.builtin id, [.ref p]) s) :
    wpAny M A (getMethod (.ref p) name pl) Q E s :=
  getMethod_builtin ⟨_, hm, rfl⟩ F.plain_pattern slot hty (fun a e => by cases e; exact ⟨_, hm, rfl⟩) hq
theorem reNamed_groups (id f : String) : reNamed id f ["default"] 0 [] [] = pure [none] := by rfl
set_option pp.maxSteps 2000
theorem reFound_two {Q : ReFound → Shared → Prop} (hm : s.heap.get? mt = some (mObj p x tx li tup)) {vs : Array Value} (ht : s.heap.get? tup = some { cls := .type "tuple", dict := none, data := .seq vs nt, slots := #[] })
    (hq : Q ⟨#[.str x tx, .ref p, .int 0 0, .int x.cps.size 0, .int li 0, .ref tup], vs.map reRawOf⟩ s) : wpAny M A (reFound (.ref mt)) Q E s := by
  unfold mObj at hm
  unfold reFound
  repeat (any_goals (first | assumption | wp_step))
theorem reTextOf_str {Q : Array Nat × Nat → Shared → Prop} (hq : Q (x.cps, 0) s) : wpAny M A (reTextOf (.str x tx)) Q E s := by
  unfold reTextOf
  repeat (any_goals (first | assumption | wp_step))
theorem reGroupText_at {fs : ReFound} {k b e : Nat} {dv : Value} {Q : Value → Shared → Prop} (h0 : fs.fields.getD 0 .none = .str x tx) (hb : fs.spans.getD (2 * k) (-1) = (b : Int)) (he : fs.spans.getD (2 * k + 1) (-1) = (e : Int)) (hx : x.cps.size ≤ 1000)
    (hq : Q (.str (sl x.cps b e) s.toks) { s with toks := s.toks + 1 }) : wpAny M A (reGroupText fs k dv) Q E s := by
  unfold reGroupText
  rw [hb, he, h0]
  show wpAny M A (if ((decide ((b : Int) < 0) || decide ((e : Int) < 0)) = true) then pure dv else reTextOf (.str x tx) >>= _) Q E s
  rw [if_neg (by simp)]
  refine wpAny_bind (reTextOf_str ?_)
  show wpAny M A (reSlice x.cps 0 (b : Int).toNat (e : Int).toNat) Q E s
  unfold reSlice
  rw [if_pos (by rfl)]
  have hz : ¬ ((⟨x.cps.extract (b : Int).toNat (e : Int).toNat⟩ : Str).length > sizeLine) := by
    show ¬ ((x.cps.extract (b : Int).toNat (e : Int).toNat).size > sizeLine)
    rw [Array.size_extract, sizeLine_eq]
    omega
  unfold mkStr
  rw [if_neg hz]
  refine wpAny_bind (wpAny_fresh (wpAny_pure ?_))
  exact hq
def tup6 (s0 h0 b1 e1 b2 e2 : Nat) (nt : Nat) : Obj := { cls := .type "tuple", dict := none, data := .seq #[.int s0 0, .int h0 0, .int b1 0, .int e1 0, .int b2 0, .int e2 0] nt, slots := #[] }
def tup2o (s0 h0 : Nat) (nt : Nat) : Obj := { cls := .type "tuple", dict := none, data := .seq #[.int s0 0, .int h0 0] nt, slots := #[] }
variable {s0 h0 : Nat}
theorem map6 {s0 h0 b1 e1 b2 e2 : Nat} : Array.map reRawOf #[Value.int s0 0, .int h0 0, .int b1 0, .int e1 0, .int b2 0, .int e2 0] = #[(s0 : Int), (h0 : Int), (b1 : Int), (e1 : Int), (b2 : Int), (e2 : Int)] := by simp only [List.map_toArray, List.map_cons, List.map_nil]; rfl
theorem map2 {s0 h0 : Nat} : Array.map reRawOf #[Value.int s0 0, .int h0 0] = #[(s0 : Int), (h0 : Int)] := by simp only [List.map_toArray, List.map_cons, List.map_nil]; rfl
theorem call_groups {Q : Value → Shared → Prop} (hm : s.heap.get? mt = some (mObj p x tx li tup)) (ht : s.heap.get? tup = some (tup6 s0 h0 b1 e1 b2 e2 nt)) (hx : x.cps.size ≤ 1000)
    (hq : Q (.ref s.heap.objs.size) { s with toks := s.toks + 1 + 1, heap := s.heap.push { cls := .type "tuple", data := .seq #[.str (sl x.cps b1 e1) s.toks, .str (sl x.cps b2 e2) (s.toks + 1)] } }) :
    wpAny (model prog w) A (call (.builtin "re.Match.groups") [.ref mt]) Q E s := by
  have hT : s.TypeIs (.ref mt) "re.Match" := ⟨_, hm, rfl⟩
  refine wpAny_call (codeAny_call_builtin F.slot_groups.plain F.entry_groups (F.slot_groups.check _ _ _ _ _ _ _ _ hT (F.args_groups _) ?_))
  show wpAny _ _ (Builtin.«re.Match.groups» _) _ _ _
  unfold Builtin.«re.Match.groups» reWithDefault
  refine wpAny_bind ?_
  show wpAny _ _ (reNamed "re.Match.groups" "groups" ["default"] 0 [] [] >>= _) _ _ _
  rw [reNamed_groups]
  show wpAny _ _ (reFound (.ref mt) >>= _) _ _ _
  refine wpAny_bind (reFound_two hm ht ?_)
  rw [map6]
  refine wpAny_pure ?_
  have hr : List.range (#[(s0 : Int), (h0 : Int), (b1 : Int), (e1 : Int), (b2 : Int), (e2 : Int)].size / 2 - 1) = [0, 1] := by
    have hz : #[(s0 : Int), (h0 : Int), (b1 : Int), (e1 : Int), (b2 : Int), (e2 : Int)].size = 6 := rfl
    rw [hz]; rfl
  dsimp only
  rw [hr]
  show wpAny _ _ ((reGroupText _ 1 _ >>= fun a => reGroupText _ 2 _ >>= fun b => pure [b, a].reverse) >>= _) _ _ _
  refine wpAny_bind (wpAny_bind (reGroupText_at rfl rfl rfl hx (wpAny_bind (reGroupText_at rfl rfl rfl hx (wpAny_pure ?_)))))
  refine wpAny_bind (newTuple_at (Nat.le_of_ble_eq_true rfl) (wpAny_pure ?_))
  exact hq
theorem call_start0 {Q : Value → Shared → Prop} {vs : Array Value} {sp : Array Int} (hm : s.heap.get? mt = some (mObj p x tx li tup)) (ht : s.heap.get? tup = some { cls := .type "tuple", dict := none, data := .seq vs nt, slots := #[] }) (hsp : vs.map reRawOf = sp) (h0 : sp.getD 0 (-1) = (s0 : Int))
    (hq : Q (.int s0 s.toks) { s with toks := s.toks + 1 }) :
    wpAny (model prog w) A (call (.builtin "re.Match.start") [.ref mt]) Q E s := by
  have hT : s.TypeIs (.ref mt) "re.Match" := ⟨_, hm, rfl⟩
  refine wpAny_call (codeAny_call_builtin F.slot_start.plain F.entry_start (F.slot_start.check _ _ _ _ _ _ _ _ hT (F.args_start0 _) ?_))
  show wpAny _ _ (Builtin.«re.Match.start» _) _ _ _
  unfold Builtin.«re.Match.start» reOneGroup
  repeat ((fail_if_success (with_reducible show wpAny _ _ (reFound _) _ _ _)); wp_step)
  refine reFound_two hm ht ?_
  rw [hsp]
  repeat wp_step
  show Q (.int (sp.getD 0 (-1)) s.toks) _
  rw [h0]
  exact hq
theorem call_start1 {Q : Value → Shared → Prop} {k : Nat} {tk : Tok} (hm : s.heap.get? mt = some (mObj p x tx li tup)) (ht : s.heap.get? tup = some (tup6 s0 h0 b1 e1 b2 e2 nt)) (hk : k = 1 ∨ k = 2)
    (hq : Q (.int (if k = 1 then b1 else b2 : Nat) s.toks) { s with toks := s.toks + 1 }) :
    wpAny (model prog w) A (call (.builtin "re.Match.start") [.ref mt, .int k tk]) Q E s := by
  have hT : s.TypeIs (.ref mt) "re.Match" := ⟨_, hm, rfl⟩
  refine wpAny_call (codeAny_call_builtin F.slot_start.plain F.entry_start (F.slot_start.check _ _ _ _ _ _ _ _ hT (F.args_start1 _ _) ?_))
  show wpAny _ _ (Builtin.«re.Match.start» _) _ _ _
  unfold Builtin.«re.Match.start» reOneGroup
  repeat ((fail_if_success (with_reducible show wpAny _ _ (reFound _) _ _ _)); wp_step)
  refine reFound_two hm ht ?_
  rw [map6]
  repeat wp_step
  have hlt : ¬ ((decide ((k : Int) < 0) || decide (2 * (k : Int) ≥ ((#[(s0 : Int), (h0 : Int), (b1 : Int), (e1 : Int), (b2 : Int), (e2 : Int)] : Array Int).size : Int))) = true) := by
    rcases hk with rfl | rfl <;> simp
  rw [if_neg hlt]
  rcases hk with rfl | rfl
  · exact wpAny_pure (wpAny_pure (wpAny_bind (wpAny_bind (wpAny_fresh (wpAny_pure (wpAny_pure hq))))))
  · exact wpAny_pure (wpAny_pure (wpAny_bind (wpAny_bind (wpAny_fresh (wpAny_pure (wpAny_pure hq))))))
theorem call_group {Q : Value → Shared → Prop} (hm : s.heap.get? mt = some (mObj p x tx li tup)) (ht : s.heap.get? tup = some (tup2o s0 h0 nt)) (hx : x.cps.size ≤ 1000)
    (hq : Q (.str (sl x.cps s0 h0) s.toks) { s with toks := s.toks + 1 }) :
    wpAny (model prog w) A (call (.builtin "re.Match.group") [.ref mt]) Q E s := by
  have hT : s.TypeIs (.ref mt) "re.Match" := ⟨_, hm, rfl⟩
  refine wpAny_call (codeAny_call_builtin F.slot_group.plain F.entry_group (F.slot_group.check _ _ _ _ _ _ _ _ hT (F.args_group _) ?_))
  show wpAny _ _ (Builtin.«re.Match.group» _) _ _ _
  unfold Builtin.«re.Match.group»
  repeat ((fail_if_success (with_reducible show wpAny _ _ (reFound _) _ _ _)); wp_step)
  refine reFound_two hm ht ?_
  rw [map2]
  refine wpAny_bind (reGroupText_at rfl rfl rfl hx (wpAny_pure ?_))
  exact hq
end
end Mine

end
section
open PySem PySem.W PyProof.Rows
open Sem (wp)
set_option Elab.async false
set_option maxRecDepth 100000
namespace Mine
section
variable {M : Model} {A : Around} {R : GenEnd} {Y : Protocol} {n : Nat} {s₀ : Shared} {c : Code} {fs : List Frame} {s : Shared} {env : Env}
  {K : Flow → Sem Fin} {H : Value → Sem Fin} {gd : Bool → Bool} {lv : List Value → List Value}
theorem segF_cons {st : Stmt} {rest : List Stmt}
    (h : SegF M A R Y n s₀ c ((exec st env).wrap (fun f => match f with | .next => (execs rest env).wrap K H gd lv | f => K f) H gd lv) fs s) :
    SegF M A R Y n s₀ c ((execs (st :: rest) env).wrap K H gd lv) fs s := by rw [execs_cons_wrap]; exact h
theorem segF_nil (h : SegF M A R Y n s₀ c (K .next) fs s) : SegF M A R Y n s₀ c ((execs [] env).wrap K H gd lv) fs s := h
theorem segF_Yield {e : PySem.Expr} {ypos pos : Pos} (hc : noCI c = true) (hf : FreeF fs) (hfs : splitAtGen fs = none) (hgd : gd false = false) (hfg : fs.any Frame.guarded = false)
    (h : wpF M (A.over c fs) (eval e env) (fun v s' => ∀ kap : Resume → Shared → Prop,
        (∀ s'', SegF M A R Y n s'' c (K .next) fs s'' → kap (.send .none) s'') → Y n s₀ v s' kap) (fun _ _ => False) s) (hco : env.scope.isCoroutine = false := by rfl) (hi : interactive env = false := by rfl) :
    SegF M A R Y (n + 1) s₀ c ((exec (.Expr (.Yield (some e) ypos) pos) env).wrap K H gd lv) fs s := by
  rw [exec_Expr env _ pos hi rfl]
  show SegF M A R Y (n + 1) s₀ c (.at pos fun _ => ((eval e env >>= fun v => (standAt ypos >>= fun _ => yieldOut env v)) >>= fun x =>
    dropValue (.Yield (some e) ypos) pos x).wrap K H gd lv) fs s
  have hy : ∀ v, yieldOut env v = yieldValue v := fun v => by simp only [yieldOut, hco, Bool.false_eq_true, if_false]
  simp only [hy]
  refine segF_at ?_
  rw [Sem.bind_eq_wrap', Sem.bind_eq_wrap', Sem.wrap_wrap, Sem.wrap_wrap]
  refine segF_wrap hc hf (wpF_mono h (fun v s' h' => ?_) fun _ _ x => x.elim)
  refine segF_at (segF_yield hfs hgd hfg ?_)
  exact h' _ fun s'' hx => hx
end
/-- the surroundings of a generator's body, seen as a function's -/
theorem over_func {dp un : Nat} {gd : Option (List Code)} {cn cn' : Str} {cs cs' : Scope} {L L' a a' : Addr} {ccd ccd' : Value} {cl cl' : List (Str × Addr)} {outer : List Env} {body : List Stmt} :
    (ktrTop dp un gd cn cs L a ccd cl outer).over (.func body (envX cn' cs' L' a' ccd' cl')) [] = ktrTop (dp + 1) (un + 3) gd cn' cs' L' a' ccd' cl' (envX cn cs L a ccd cl :: outer) := by
  cases gd <;> rfl
theorem over_loop {dp un : Nat} {gd : Option (List Code)} {cn cn' : Str} {cs cs' : Scope} {L L' a a' : Addr} {ccd ccd' : Value} {cl cl' : List (Str × Addr)} {outer : List Env} {body b o : List Stmt} {t : PySem.Expr} {it : Value} {k : Result → Sem Fin} {g : Bool} {l : List Value} {p : Pos} {kp : List Value} :
    (ktrTop dp un gd cn cs L a ccd cl outer).over (.forLoop t it b o (envX cn' cs' L' a' ccd' cl')) [.ret k none g l (.func body (envX cn' cs' L' a' ccd' cl')) p kp] = ktrTop (dp + 1) (un + 3) gd cn' cs' L' a' ccd' cl' (envX cn cs L a ccd cl :: outer) := by
  cases gd <;> rfl
/-- what a generator's own objects are that change -/
def soft (o : Obj) : Bool := o.cls == .type "callable_iterator" || o.cls == .type "_sre.SRE_Scanner"
structure Since (L : Addr) (h h' : Heap) : Prop where
  firm : ∀ b o, b ≠ L → soft o = false → h.get? b = some o → h'.get? b = some o
theorem Since.refl {L : Addr} {h : Heap} : Since L h h := ⟨fun _ _ _ _ e => e⟩
theorem Since.trans {L : Addr} {h h' h'' : Heap} (a : Since L h h') (b : Since L h' h'') : Since L h h'' := ⟨fun x o h1 h2 e => b.firm x o h1 h2 (a.firm x o h1 h2 e)⟩
/-- a ledger of what stands firm -/
theorem led_of (hG h : Heap) (L : Addr) : ∃ led : List (Addr × Obj), ∀ p, p ∈ led ↔ (h.get? p.1 = some p.2 ∧ p.1 ≠ L ∧ hG.get? p.1 = none ∧ soft p.2 = false) := by
  classical
  refine ⟨(List.range h.objs.size).filterMap fun b => match h.get? b with
    | some o => if b ≠ L ∧ hG.get? b = none ∧ soft o = false then some (b, o) else none
    | none => none, fun p => ?_⟩
  rw [List.mem_filterMap]
  constructor
  · rintro ⟨b, _, e⟩
    split at e
    · rename_i o ho
      split at e
      · rename_i hh
        cases e
        exact ⟨ho, hh⟩
      · cases e
    · cases e
  · rintro ⟨h1, h2⟩
    refine ⟨p.1, List.mem_range.mpr (Heap.lt_size h1), ?_⟩
    rw [h1]
    dsimp only
    rw [if_pos h2]
theorem since_led {hG h h' : Heap} {L : Addr} {m m' : Str → Option Value} {led : List (Addr × Obj)} (hl : ∀ p, p ∈ led ↔ (h.get? p.1 = some p.2 ∧ p.1 ≠ L ∧ hG.get? p.1 = none ∧ soft p.2 = false))
    (F : Fr hG L h m) (F' : Fr hG L h' m') (N : ∀ p ∈ led, h'.get? p.1 = some p.2) : Since L h h' := ⟨fun b o h1 h2 e => by
  cases hg : hG.get? b with
  | none => exact N (b, o) ((hl (b, o)).mpr ⟨e, h1, hg, h2⟩)
  | some o' =>
    have e1 := F.keep b o' hg
    rw [e] at e1
    cases e1
    exact F'.keep b o hg⟩
end Mine

end
section
open PySem PySem.W PyProof.Rows
open Sem (wp)
set_option Elab.async false
set_option maxRecDepth 100000
namespace Mine
open PySem.Builtin.Re
/-- the patterns in the heap -/
structure PatAt (h : Heap) (p c : Addr) (groups : Nat) (code : Array Nat) : Prop where
  at_ : ∃ pp pf items n, h.get? p = some (patObj pp pf groups c) ∧ h.get? c = some (codeObj items n) ∧ codeOf items = code
theorem PatAt.keeps {h h' : Heap} {p c : Addr} {groups : Nat} {code : Array Nat} (P : PatAt h p c groups code) (hk : ∀ b o, h.get? b = some o → h'.get? b = some o) : PatAt h' p c groups code :=
  let ⟨pp, pf, items, n, h1, h2, h3⟩ := P.at_
  ⟨pp, pf, items, n, hk _ _ h1, hk _ _ h2, h3⟩
/-- the scanner's objects, in a generator's ground -/
structure ScanSt (hG : Heap) (L it me sc p : Addr) (x : Str) (tx : Tok) (q : Nat) (must : Bool) (h : Heap) : Prop where
  keep : ∀ b o, hG.get? b = some o → h.get? b = some o
  it : h.get? it = some (iterObj me) ∧ it ≠ L ∧ hG.get? it = none
  me : h.get? me = some (methObj sc) ∧ me ≠ L ∧ hG.get? me = none
  sc : h.get? sc = some (scanObj p x tx q must) ∧ sc ≠ L ∧ hG.get? sc = none
section
variable {hG h : Heap} {L it me sc p : Addr} {x : Str} {tx : Tok} {q : Nat} {must : Bool}
theorem ScanSt.it_sc (S : ScanSt hG L it me sc p x tx q must h) : it ≠ sc := by
  intro e
  have a := S.it.1
  rw [e, S.sc.1] at a
  simp [scanObj, iterObj] at a
theorem ScanSt.me_sc (S : ScanSt hG L it me sc p x tx q must h) : me ≠ sc := by
  intro e
  have a := S.me.1
  rw [e, S.sc.1] at a
  simp [scanObj, methObj] at a
theorem soft_it {me : Addr} : soft (iterObj me) = true := by
  show ((Value.type "callable_iterator" == .type "callable_iterator") || _) = true
  simp
theorem soft_sc {p : Addr} {x : Str} {tx : Tok} {q : Int} {must : Bool} : soft (scanObj p x tx q must) = true := by
  show ((Value.type "_sre.SRE_Scanner" == .type "callable_iterator") || (Value.type "_sre.SRE_Scanner" == .type "_sre.SRE_Scanner")) = true
  simp
variable {prog : Program} {w : World} {A : Around} {E : Value → Shared → Prop} {g : Array GenState} {d : Drawn} {t : Nat} {os : OsState} {c : Addr}
/-- what a found match leaves -/
structure Found (hG : Heap) (L it me sc p mt tup : Addr) (x : Str) (tx : Tok) (q : Nat) (li : Int) (spans : List Value) (must : Bool) (h h' : Heap) : Prop where
  st : ScanSt hG L it me sc p x tx q must h'
  mt : h'.get? mt = some (mObj p x tx li tup) ∧ mt ≠ L ∧ hG.get? mt = none
  tup : (∃ n, h'.get? tup = some { cls := .type "tuple", dict := none, data := .seq spans.toArray n, slots := #[] }) ∧ tup ≠ L ∧ hG.get? tup = none
  since : Since L h h'
  ns : ∀ m, h.Ns L m → h'.Ns L m
theorem found_of {h1 : Heap} {li : Int} {spans : List Value} {q' : Nat} {must' : Bool} (S : ScanSt hG L it me sc p x tx q must h) (hL : ∃ m, h.Ns L m) (hsc : Scanned sc p x tx h h1 q' must') :
    Found hG L it me sc p h1.objs.size.succ h1.objs.size x tx q' li spans must' h ((h1.push { cls := .type "tuple", data := .seq spans.toArray }).push { cls := .type "re.Match", data := .fields #[.str x tx, .ref p, .int 0 0, .int x.cps.size 0, .int li 0, .ref h1.objs.size] }) := by
  have up2 : ∀ b o, h1.get? b = some o → ((h1.push { cls := .type "tuple", data := .seq spans.toArray }).push { cls := .type "re.Match", data := .fields #[.str x tx, .ref p, .int 0 0, .int x.cps.size 0, .int li 0, .ref h1.objs.size] }).get? b = some o :=
    fun b o e => Heap.get?_push_of_some _ (Heap.get?_push_of_some _ e)
  have e1 : (h1.push { cls := .type "tuple", data := .seq spans.toArray }).objs.size = h1.objs.size.succ := Heap.size_push ..
  have hsz : h1.objs.size = h.objs.size := hsc.same.1
  obtain ⟨m, hm⟩ := hL
  have hLs : L < h.objs.size := by
    obtain ⟨oL, es, ep, ho, _⟩ := hm
    exact Heap.lt_size ho
  have gnone : ∀ b, h.objs.size ≤ b → hG.get? b = none := fun b hb => by
    cases e : hG.get? b with
    | none => rfl
    | some o => exact absurd (Heap.lt_size (S.keep b o e)) (Nat.not_lt.mpr hb)
  have kG : ∀ b o, hG.get? b = some o → h1.get? b = some o := fun b o e => (hsc.same.2 b (fun ee => by rw [ee, S.sc.2.2] at e; cases e)).trans (S.keep b o e)
  refine ⟨⟨fun b o e => up2 b o (kG b o e), ⟨up2 _ _ ((hsc.same.2 it S.it_sc).trans S.it.1), S.it.2⟩, ⟨up2 _ _ ((hsc.same.2 me S.me_sc).trans S.me.1), S.me.2⟩, ⟨up2 _ _ hsc.at_, S.sc.2⟩⟩, ⟨?_, ?_, ?_⟩, ⟨⟨0, ?_⟩, ?_, ?_⟩, ⟨fun b o h1' h2' e => up2 b o ((hsc.same.2 b fun ee => ?_).trans e)⟩, fun m' hm' => ?_⟩
  · rw [← e1]; exact Heap.get?_push_size _ rfl
  · exact fun e => absurd hLs (by rw [← e, ← hsz]; exact Nat.not_lt.mpr (Nat.le_succ _))
  · exact gnone _ (by rw [← hsz]; exact Nat.le_succ _)
  · exact Heap.get?_push_of_some _ (Heap.get?_push_size _ rfl)
  · exact fun e => absurd hLs (by rw [← e, ← hsz]; exact Nat.lt_irrefl _)
  · exact gnone _ (by rw [← hsz]; exact Nat.le_refl _)
  · rw [ee, S.sc.1] at e
    cases e
    rw [soft_sc] at h2'
    cases h2'
  · obtain ⟨oL, es, ep, ho, hd, hk, hf⟩ := hm'
    exact ⟨oL, es, ep, up2 _ _ ((hsc.same.2 L (Ne.symm S.sc.2.1)).trans ho), hd, hk, hf⟩
theorem op_hit {s1 p1 e1 : Nat} {Q : Option Value → Shared → Prop} (S : ScanSt hG L it me sc p x tx q must h) (P : PatAt hG p c 2 opCode) (hL : ∃ m, h.Ns L m) (hu : A.units + 30 < cLine) (hx : x.cps.size ≤ 100)
    (hn : opNext x.cps x.cps.size q = some (s1, p1, e1))
    (hq : ∀ h' mt tup, Found hG L it me sc p mt tup x tx (runTo isSp x.cps x.cps.size e1) 2 [.int s1 0, .int (runTo isSp x.cps x.cps.size e1 : Nat) 0, .int ((s1 + 1 : Nat) : Int) 0, .int p1 0, .int e1 0, .int (runTo isSp x.cps x.cps.size e1 : Nat) 0] false h h' → Q (some (.ref mt)) ⟨h', g, d, t, os⟩) :
    wpF (qm prog w) A (pyNext (.ref it)) Q E ⟨h, g, d, t, os⟩ := by
  obtain ⟨pp, pf, items, n, a1, a2, a3⟩ := P.at_
  obtain ⟨m', hr, ho, hst, hhd, hmk, hlm, hli⟩ := op_some (must := must) hn
  obtain ⟨r1, r2, r3, r4⟩ := opFind_rng hn
  obtain ⟨k, hle, hk⟩ := hr
  have hge : e1 ≤ runTo isSp x.cps x.cps.size e1 := Nat.le_add_right _ _
  have hb : (m'.handed == m'.start) = false := by rw [hhd, hst]; simp; omega
  refine f_next_found (spans := [.int ((s1 + 1 : Nat) : Int) 0, .int p1 0, .int e1 0, .int (runTo isSp x.cps x.cps.size e1 : Nat) 0]) S.it.1 S.me.1 S.sc.1 (S.keep _ _ a1) (S.keep _ _ a2) S.it_sc hu (by rw [a3]) hk ?_ ho (fun A E h Q hQ => newMatch2 hmk hlm (by omega) hge hQ) fun h1 hsc => ?_
  · refine Nat.le_trans hle ?_
    refine Nat.le_trans (Nat.mul_le_mul (Nat.succ_le_succ hx) (Nat.mul_le_mul_left 30 (Nat.add_le_add_right hx 4))) (by decide)
  · rw [hb, hhd] at hsc
    unfold tupObj matchObj
    rw [hst, hhd, hli]
    exact hq _ _ _ (found_of S hL hsc)
theorem op_miss {Q : Option Value → Shared → Prop} (hh : A.handled = none) (S : ScanSt hG L it me sc p x tx q must h) (P : PatAt hG p c 2 opCode) (hu : A.units + 30 < cLine) (hx : x.cps.size ≤ 100)
    (hn : opNext x.cps x.cps.size q = none)
    (hq : ∀ h', Since L h h' → (∀ b o, hG.get? b = some o → h'.get? b = some o) → (∀ m, h.Ns L m → h'.Ns L m) → Q none ⟨h', g, d, t, os⟩) :
    wpF (qm prog w) A (pyNext (.ref it)) Q E ⟨h, g, d, t, os⟩ := by
  obtain ⟨pp, pf, items, n, a1, a2, a3⟩ := P.at_
  obtain ⟨m', ⟨k, hle, hk⟩, ho⟩ := op_none (must := must) hn
  refine f_next_none hh S.it.1 S.me.1 S.sc.1 (S.keep _ _ a1) (S.keep _ _ a2) S.it_sc S.me_sc hu (by rw [a3]) hk ?_ ho fun h' hk' => ?_
  · refine Nat.le_trans hle ?_
    refine Nat.le_trans (Nat.succ_le_succ (Nat.mul_le_mul (Nat.succ_le_succ hx) (Nat.mul_le_mul_left 30 (Nat.add_le_add_right hx 4)))) (by decide)
  · refine hq h' ⟨fun b o h1 h2 e => hk' b o (fun ee => ?_) (fun ee => ?_) e⟩ (fun b o e => hk' b o (fun ee => ?_) (fun ee => ?_) (S.keep b o e)) fun m hm => ?_
    · rw [ee, S.it.1] at e; cases e; rw [soft_it] at h2; cases h2
    · rw [ee, S.sc.1] at e; cases e; rw [soft_sc] at h2; cases h2
    · rw [ee, S.it.2.2] at e; cases e
    · rw [ee, S.sc.2.2] at e; cases e
    · obtain ⟨oL, es, ep, ho, hd, hkk, hf⟩ := hm
      exact ⟨oL, es, ep, hk' L oL (Ne.symm S.it.2.1) (Ne.symm S.sc.2.1) ho, hd, hkk, hf⟩
theorem com_hit2 {s1 e1 : Nat} {Q : Option Value → Shared → Prop} (S : ScanSt hG L it me sc p x tx q must h) (P : PatAt hG p c 0 comCode) (hL : ∃ m, h.Ns L m) (hu : A.units + 30 < cLine) (hx : x.cps.size ≤ 100)
    (hn : comNext x.cps x.cps.size q = some (s1, e1))
    (hq : ∀ h' mt tup, Found hG L it me sc p mt tup x tx e1 (-1) [.int s1 0, .int e1 0] false h h' → Q (some (.ref mt)) ⟨h', g, d, t, os⟩) :
    wpF (qm prog w) A (pyNext (.ref it)) Q E ⟨h, g, d, t, os⟩ := by
  obtain ⟨pp, pf, items, n, a1, a2, a3⟩ := P.at_
  obtain ⟨m', hr, ho, hst, hhd, hli⟩ := com_some (must := must) hn
  obtain ⟨r1, r2, r3⟩ := comFind_rng hn
  obtain ⟨k, hle, hk⟩ := hr
  have hb : (m'.handed == m'.start) = false := by rw [hhd, hst]; simp; omega
  refine f_next_found (spans := []) S.it.1 S.me.1 S.sc.1 (S.keep _ _ a1) (S.keep _ _ a2) S.it_sc hu (by rw [a3]) hk ?_ ho (fun A E h Q hQ => newMatch0 hQ) fun h1 hsc => ?_
  · refine Nat.le_trans hle ?_
    refine Nat.le_trans (Nat.mul_le_mul (Nat.succ_le_succ hx) (Nat.mul_le_mul_left 10 (Nat.add_le_add_right hx 4))) (by decide)
  · rw [hb, hhd] at hsc
    unfold tupObj matchObj
    rw [hst, hhd, hli]
    exact hq _ _ _ (found_of S hL hsc)
theorem com_miss {Q : Option Value → Shared → Prop} (hh : A.handled = none) (S : ScanSt hG L it me sc p x tx q must h) (P : PatAt hG p c 0 comCode) (hu : A.units + 30 < cLine) (hx : x.cps.size ≤ 100)
    (hn : comNext x.cps x.cps.size q = none)
    (hq : ∀ h', Since L h h' → (∀ b o, hG.get? b = some o → h'.get? b = some o) → (∀ m, h.Ns L m → h'.Ns L m) → Q none ⟨h', g, d, t, os⟩) :
    wpF (qm prog w) A (pyNext (.ref it)) Q E ⟨h, g, d, t, os⟩ := by
  obtain ⟨pp, pf, items, n, a1, a2, a3⟩ := P.at_
  obtain ⟨m', ⟨k, hle, hk⟩, ho⟩ := com_none (must := must) hn
  refine f_next_none hh S.it.1 S.me.1 S.sc.1 (S.keep _ _ a1) (S.keep _ _ a2) S.it_sc S.me_sc hu (by rw [a3]) hk ?_ ho fun h' hk' => ?_
  · refine Nat.le_trans hle ?_
    refine Nat.le_trans (Nat.succ_le_succ (Nat.mul_le_mul (Nat.succ_le_succ hx) (Nat.mul_le_mul_left 10 (Nat.add_le_add_right hx 4)))) (by decide)
  · refine hq h' ⟨fun b o h1 h2 e => hk' b o (fun ee => ?_) (fun ee => ?_) e⟩ (fun b o e => hk' b o (fun ee => ?_) (fun ee => ?_) (S.keep b o e)) fun m hm => ?_
    · rw [ee, S.it.1] at e; cases e; rw [soft_it] at h2; cases h2
    · rw [ee, S.sc.1] at e; cases e; rw [soft_sc] at h2; cases h2
    · rw [ee, S.it.2.2] at e; cases e
    · rw [ee, S.sc.2.2] at e; cases e
    · obtain ⟨oL, es, ep, ho, hd, hkk, hf⟩ := hm
      exact ⟨oL, es, ep, hk' L oL (Ne.symm S.it.2.1) (Ne.symm S.sc.2.1) ho, hd, hkk, hf⟩
end
end Mine

end
section
open PySem PySem.W PyProof.Rows PySem.Calls
open Sem (wp)
set_option Elab.async false
set_option maxRecDepth 100000
namespace Mine
open PySem.Builtin.Re
theorem pat_of {P : Params} {h : Heap} {p c : Addr} {groups : Nat} {code : Array Nat} {pp pf : Value} {items : Array Value} {n : Nat} (X : (hd.heap_39 P).In h)
    (h1 : (hd.heap_39 P).lookup p = some (patObj pp pf groups c)) (h2 : (hd.heap_39 P).lookup c = some (codeObj items n)) (h3 : codeOf items = code) : PatAt h p c groups code := ⟨⟨_, _, _, _, X _ _ h1, X _ _ h2, h3⟩⟩
theorem pat_op {P : Params} {h : Heap} (X : (hd.heap_39 P).In h) : PatAt h 41 40 2 opCode := by
  have Z : Challenge.rw_et5023_01 = Challenge.rw_et5023_01 := rfl
  revert Z X; k_fill; intro X _
  refine' pat_of X ?h1 ?h2 ?h3
  case h1 => unfold patObj; k_is
  case h2 => unfold codeObj; k_is
  case h3 => decide +kernel
theorem pat_com {P : Params} {h : Heap} (X : (hd.heap_39 P).In h) : PatAt h 36 35 0 comCode := by
  have Z : Challenge.rw_et5023_01 = Challenge.rw_et5023_01 := rfl
  revert Z X; k_fill; intro X _
  refine' pat_of X ?h1 ?h2 ?h3
  case h1 => unfold patObj; k_is
  case h2 => unfold codeObj; k_is
  case h3 => decide +kernel
end Mine

end
section
open PySem PySem.W PyProof.Rows PySem.Calls
open Sem (wp)
set_option Elab.async false
set_option maxRecDepth 100000
namespace Mine
open PySem.Builtin.Re
theorem lk_eq {K : Frag} {a : Addr} {o1 o2 : Obj} (h1 : K.lookup a = some o1) (h2 : K.lookup a = some o2) : o1 = o2 := Option.some.inj (h1.symm.trans h2)
section
variable {M : Model} {prog : Program} {w : World} {A : Around} {E : Value → Shared → Prop} {s : Shared} {p tup mt : Addr} {x : Str} {tx : Tok} {li : Int} {b1 e1 b2 e2 s0 h0 : Nat} {nt : Nat} {h₀ : Heap} {L : Addr} {m : Str → Option Value} {news : List (Addr × Obj)}
theorem k_getm {name : Str} {id : String} {pl : Sem Bool} {Q : Value × List Value → Shared → Prop} (N : News h₀ L s.heap news) (hm : (mt, mObj p x tx li tup) ∈ news) (slot : Slot "re.Match" name id) (hty : typeOf (.builtin id) = pure (.type "method_descriptor")) (hq : Q (.builtin id, [.ref mt]) s) :
    wpAny M A (getMethod (.ref mt) name pl) Q E s := getm_match (N.get hm) slot hty hq
theorem k_push {o : Obj} (hfr : o.isFreed = false) {Q : Value → Shared → Prop} {tk : Nat} (F : Fr h₀ L s.heap m) (N : News h₀ L s.heap news)
    (ret : ∀ b h' tk', Fr h₀ L h' m → News h₀ L h' ((b, o) :: news) → (∀ p ∈ news, p.1 < b) → Q (.ref b) { s with heap := h', toks := tk' }) : Q (.ref s.heap.objs.size) { s with heap := s.heap.push o, toks := tk } := by
  have hL : L < s.heap.objs.size := by
    obtain ⟨oL, es, ep, ho, _⟩ := F.ns
    exact Heap.lt_size ho
  refine ret _ _ _ ⟨?_, fun b ob e => Heap.get?_push_of_some _ (F.keep b ob e), F.above⟩ (fun q hq => ?_) fun q hq => Heap.lt_size (N.get hq)
  · obtain ⟨oL, es, ep, ho, h1, h2, h3⟩ := F.ns
    exact ⟨oL, es, ep, Heap.get?_push_of_some _ ho, h1, h2, h3⟩
  · rcases List.mem_cons.mp hq with rfl | hq
    · refine ⟨Heap.get?_push_size _ hfr, fun e => absurd hL (by rw [← e]; exact Nat.lt_irrefl _), ?_⟩
      cases e : h₀.get? s.heap.objs.size with
      | none => rfl
      | some o => exact absurd (Heap.lt_size (F.keep _ o e)) (Nat.lt_irrefl _)
    · exact ⟨Heap.get?_push_of_some _ (N q hq).1, (N q hq).2⟩
theorem k_groups {Q : Value → Shared → Prop} (F : Fr h₀ L s.heap m) (N : News h₀ L s.heap news) (hm : (mt, mObj p x tx li tup) ∈ news) (ht : (tup, tup6 s0 h0 b1 e1 b2 e2 nt) ∈ news) (hx : x.cps.size ≤ 1000)
    (ret : ∀ b t1 t2 h' tk', Fr h₀ L h' m → News h₀ L h' ((b, ({ cls := .type "tuple", data := .seq [.str (sl x.cps b1 e1) t1, .str (sl x.cps b2 e2) t2].toArray 0 } : Obj)) :: news) → (∀ p ∈ news, p.1 < b) → Q (.ref b) { s with heap := h', toks := tk' }) :
    wpAny (model prog w) A (call (.builtin "re.Match.groups") [.ref mt]) Q E s := by
  refine call_groups (N.get hm) (N.get ht) hx ?_
  exact k_push rfl (s := s) (Q := Q) F N fun b h' tk' F' N' l => ret b _ _ h' tk' F' N' l
theorem k_start1 {Q : Value → Shared → Prop} {tk : Tok} (N : News h₀ L s.heap news) (hm : (mt, mObj p x tx li tup) ∈ news) (ht : (tup, tup6 s0 h0 b1 e1 b2 e2 nt) ∈ news)
    (ret : ∀ t, Q (.int b1 t) { s with toks := s.toks + 1 }) :
    wpAny (model prog w) A (call (.builtin "re.Match.start") [.ref mt, .int 1 tk]) Q E s := call_start1 (k := 1) (N.get hm) (N.get ht) (.inl rfl) (ret _)
theorem k_start2 {Q : Value → Shared → Prop} {tk : Tok} (N : News h₀ L s.heap news) (hm : (mt, mObj p x tx li tup) ∈ news) (ht : (tup, tup6 s0 h0 b1 e1 b2 e2 nt) ∈ news)
    (ret : ∀ t, Q (.int b2 t) { s with toks := s.toks + 1 }) :
    wpAny (model prog w) A (call (.builtin "re.Match.start") [.ref mt, .int 2 tk]) Q E s := call_start1 (k := 2) (N.get hm) (N.get ht) (.inr rfl) (ret _)
theorem sl_len {T : Array Nat} {b e : Nat} {n : Nat} (h : T.size ≤ n) : (sl T b e).length ≤ n := by
  show (T.extract b e).size ≤ n
  rw [Array.size_extract]; omega
theorem sl_fit {T : Array Nat} {b e : Nat} (h : T.size ≤ 1000) : ¬ ((sl T b e).length : Int) ≥ 2 ^ 63 := by
  have := sl_len (b := b) (e := e) h
  omega
end
end Mine
open PySem.Calls
namespace Mine
local macro_rules | `(tactic| k_all) => `(tactic| with_reducible assumption)
local macro_rules | `(tactic| walk_at "getMethod ref") => `(tactic| (k_here; (with_reducible show wpAny _ _ (getMethod (Value.ref _) (Str.ofString "groups") _) _ _ _); k_dflt (refine' k_getm ?N ?m F.slot_groups F.type_groups ?_; (case N => k_asm); (case m => k_mem))))
local macro_rules | `(tactic| walk_at "getMethod ref") => `(tactic| (k_here; (with_reducible show wpAny _ _ (getMethod (Value.ref _) (Str.ofString "start") _) _ _ _); k_dflt (refine' k_getm ?N ?m F.slot_start F.type_start ?_; (case N => k_asm); (case m => k_mem))))
local macro_rules | `(tactic| walk_at "call builtin:re.Match.groups") => `(tactic| (k_here; k_dflt (refine' k_groups ?F ?N ?m ?t ?x ?_; (case F => k_asm); (case N => k_asm); (case m => k_mem); (case t => k_mem); (case x => assumption); k_whole); intro b' t1' t2' h' tk' F' N' l1'; (try k_lt l1')))
local macro_rules | `(tactic| walk_at "call builtin:re.Match.start") => `(tactic| (k_here; k_dflt (refine' k_start1 ?N ?m ?t ?_; (case N => k_asm); (case m => k_mem); (case t => k_mem)); intro t'))
local macro_rules | `(tactic| walk_at "call builtin:re.Match.start") => `(tactic| (k_here; k_dflt (refine' k_start2 ?N ?m ?t ?_; (case N => k_asm); (case m => k_mem); (case t => k_mem)); intro t'))
local macro_rules | `(tactic| walk_at "call builtin:len") => `(tactic| (k_here; (with_reducible show wpAny _ _ (call (Value.builtin "len") [Value.str _ _]) _ _ _); k_dflt (refine' PyProof.Rows.len_str ?B ?_; (case B => exact sl_fit (by assumption)))))
section
variable {w : World} {dp un : Nat} {gd : Option (List Code)} {outer : List Env} {A₀ : Around} {base h₀ : Heap} {L : Addr} {m : Str → Option Value} {led : List (Addr × Obj)} {s : Shared}
    {mean : ExcName → Option Value} {mg mb : Str → Option Value} {E : Value → Shared → Prop}
    {oc : Value} {od : Option Addr} {osl : Array (Option Value)} {name qual : Str} {params : Arguments} {body : List Stmt} {scope : Scope} {dV kV doc pm cdv ct : Value} {an : Option Addr}
    {p tup mt : Addr} {x : Str} {tx : Tok} {li : Int} {b1 e1 b2 e2 s0 h0 : Nat} {nt : Nat} {tg it ta tb tc td ea eb ec ed : PySem.Expr} {st1 : Stmt} {oe : List Stmt} {q1 q2 q3 q4 q5 q6 q1' q2' q3' q4' q5' q6' q9 : Pos} {v1 v2 : Str} {k1 k2 : Tok}
set_option maxHeartbeats 8000000 in
theorem w_groups {Q : Flow → Shared → Prop} (F : Fr h₀ L s.heap (fun y => if y = Str.ofString "match" then some (.ref mt) else m y)) (B : Below A₀ base outer h₀) (X : (hd.heap_39 w.params).In h₀)
    (T : Top hd.view_39 (looseW hd.view_39 [Str.ofString "WHITESPACE_AFTER_COMMA_REGEX", Str.ofString "OPERATOR_REGEX"]) mean mg mb h₀)
    (ho : (hd.heap_39 w.params).lookup 48 = some ⟨oc, od, .func (fnOf name qual params [Stmt.For tg it [st1, .If ta [.Expr (.Yield (some ea) q1) q2] [.If tb [.Expr (.Yield (some eb) q3) q4] [] q5] q6, .If tc [.Expr (.Yield (some ec) q1') q2'] [.If td [.Expr (.Yield (some ed) q3') q4'] [] q5'] q6'] oe q9] scope dV kV doc pm an cdv ct), osl⟩)
    (N : News h₀ L s.heap ((mt, mObj p x tx li tup) :: (tup, tup6 s0 h0 b1 e1 b2 e2 nt) :: led)) (hx : x.cps.size ≤ 1000)
    (ret : ∀ t1 t2 h' tk', Fr h₀ L h' (fun y => if y = Str.ofString "after" then some (.str (sl x.cps b2 e2) t2) else if y = Str.ofString "before" then some (.str (sl x.cps b1 e1) t1) else if y = Str.ofString "match" then some (.ref mt) else m y) →
      News h₀ L h' ((mt, mObj p x tx li tup) :: (tup, tup6 s0 h0 b1 e1 b2 e2 nt) :: led) → Q .next { s with heap := h', toks := tk' }) :
    wpAny (model Challenge.rw_et5023_01.row.prog w) (ktrTop dp un gd qual scope L 48 cdv [] outer) (exec st1 (envX qual scope L 48 cdv [])) Q E s := by
  revert X; k_fill; intro X
  refine' (fun e => ?_ : _ → _) (lk_eq ?l1 ho)
  case l1 => k_is
  cases e
  clear ho
  k_steps
  exact ret _ _ _ _ (by assumption) (News.of (by assumption) fun _ hp => .tail _ hp)
set_option maxHeartbeats 8000000 in
theorem w_tab1 {Q : Bool → Shared → Prop} (F : Fr h₀ L s.heap (fun y => if y = Str.ofString "after" then some (.str (sl x.cps b2 e2) k2) else if y = Str.ofString "before" then some (.str (sl x.cps b1 e1) k1) else if y = Str.ofString "match" then some (.ref mt) else m y)) (B : Below A₀ base outer h₀) (X : (hd.heap_39 w.params).In h₀)
    (T : Top hd.view_39 (looseW hd.view_39 [Str.ofString "WHITESPACE_AFTER_COMMA_REGEX", Str.ofString "OPERATOR_REGEX"]) mean mg mb h₀)
    (ho : (hd.heap_39 w.params).lookup 48 = some ⟨oc, od, .func (fnOf name qual params [Stmt.For tg it [st1, .If ta [.Expr (.Yield (some ea) q1) q2] [.If tb [.Expr (.Yield (some eb) q3) q4] [] q5] q6, .If tc [.Expr (.Yield (some ec) q1') q2'] [.If td [.Expr (.Yield (some ed) q3') q4'] [] q5'] q6'] oe q9] scope dV kV doc pm an cdv ct), osl⟩)
    (N : News h₀ L s.heap ((mt, mObj p x tx li tup) :: (tup, tup6 s0 h0 b1 e1 b2 e2 nt) :: led)) (hx : x.cps.size ≤ 1000)
    (ret : ∀ tk', Q (hasTab (sl x.cps b1 e1)) { s with toks := tk' }) :
    wpAny (model Challenge.rw_et5023_01.row.prog w) (ktrTop dp un gd qual scope L 48 cdv [] outer) (isTrue ta (envX qual scope L 48 cdv []) (eval ta (envX qual scope L 48 cdv []))) Q E s := by
  revert X; k_fill; intro X
  refine' (fun e => ?_ : _ → _) (lk_eq ?l1 ho)
  case l1 => k_is
  cases e
  clear ho
  k_steps
  exact ret _
set_option maxHeartbeats 8000000 in
theorem w_tab2 {Q : Bool → Shared → Prop} (F : Fr h₀ L s.heap (fun y => if y = Str.ofString "after" then some (.str (sl x.cps b2 e2) k2) else if y = Str.ofString "before" then some (.str (sl x.cps b1 e1) k1) else if y = Str.ofString "match" then some (.ref mt) else m y)) (B : Below A₀ base outer h₀) (X : (hd.heap_39 w.params).In h₀)
    (T : Top hd.view_39 (looseW hd.view_39 [Str.ofString "WHITESPACE_AFTER_COMMA_REGEX", Str.ofString "OPERATOR_REGEX"]) mean mg mb h₀)
    (ho : (hd.heap_39 w.params).lookup 48 = some ⟨oc, od, .func (fnOf name qual params [Stmt.For tg it [st1, .If ta [.Expr (.Yield (some ea) q1) q2] [.If tb [.Expr (.Yield (some eb) q3) q4] [] q5] q6, .If tc [.Expr (.Yield (some ec) q1') q2'] [.If td [.Expr (.Yield (some ed) q3') q4'] [] q5'] q6'] oe q9] scope dV kV doc pm an cdv ct), osl⟩)
    (N : News h₀ L s.heap ((mt, mObj p x tx li tup) :: (tup, tup6 s0 h0 b1 e1 b2 e2 nt) :: led)) (hx : x.cps.size ≤ 1000)
    (ret : ∀ tk', Q (hasTab (sl x.cps b2 e2)) { s with toks := tk' }) :
    wpAny (model Challenge.rw_et5023_01.row.prog w) (ktrTop dp un gd qual scope L 48 cdv [] outer) (isTrue tc (envX qual scope L 48 cdv []) (eval tc (envX qual scope L 48 cdv []))) Q E s := by
  revert X; k_fill; intro X
  refine' (fun e => ?_ : _ → _) (lk_eq ?l1 ho)
  case l1 => k_is
  cases e
  clear ho
  k_steps
  exact ret _
set_option maxHeartbeats 8000000 in
theorem w_len1 {Q : Bool → Shared → Prop} (F : Fr h₀ L s.heap (fun y => if y = Str.ofString "after" then some (.str (sl x.cps b2 e2) k2) else if y = Str.ofString "before" then some (.str (sl x.cps b1 e1) k1) else if y = Str.ofString "match" then some (.ref mt) else m y)) (B : Below A₀ base outer h₀) (X : (hd.heap_39 w.params).In h₀)
    (T : Top hd.view_39 (looseW hd.view_39 [Str.ofString "WHITESPACE_AFTER_COMMA_REGEX", Str.ofString "OPERATOR_REGEX"]) mean mg mb h₀)
    (ho : (hd.heap_39 w.params).lookup 48 = some ⟨oc, od, .func (fnOf name qual params [Stmt.For tg it [st1, .If ta [.Expr (.Yield (some ea) q1) q2] [.If tb [.Expr (.Yield (some eb) q3) q4] [] q5] q6, .If tc [.Expr (.Yield (some ec) q1') q2'] [.If td [.Expr (.Yield (some ed) q3') q4'] [] q5'] q6'] oe q9] scope dV kV doc pm an cdv ct), osl⟩)
    (N : News h₀ L s.heap ((mt, mObj p x tx li tup) :: (tup, tup6 s0 h0 b1 e1 b2 e2 nt) :: led)) (hx : x.cps.size ≤ 1000)
    (ret : ∀ tk', Q (decide (1 < ((sl x.cps b1 e1).length : Int))) { s with toks := tk' }) :
    wpAny (model Challenge.rw_et5023_01.row.prog w) (ktrTop dp un gd qual scope L 48 cdv [] outer) (isTrue tb (envX qual scope L 48 cdv []) (eval tb (envX qual scope L 48 cdv []))) Q E s := by
  revert X; k_fill; intro X
  refine' (fun e => ?_ : _ → _) (lk_eq ?l1 ho)
  case l1 => k_is
  cases e
  clear ho
  k_steps
  exact ret _
set_option maxHeartbeats 8000000 in
theorem w_len2 {Q : Bool → Shared → Prop} (F : Fr h₀ L s.heap (fun y => if y = Str.ofString "after" then some (.str (sl x.cps b2 e2) k2) else if y = Str.ofString "before" then some (.str (sl x.cps b1 e1) k1) else if y = Str.ofString "match" then some (.ref mt) else m y)) (B : Below A₀ base outer h₀) (X : (hd.heap_39 w.params).In h₀)
    (T : Top hd.view_39 (looseW hd.view_39 [Str.ofString "WHITESPACE_AFTER_COMMA_REGEX", Str.ofString "OPERATOR_REGEX"]) mean mg mb h₀)
    (ho : (hd.heap_39 w.params).lookup 48 = some ⟨oc, od, .func (fnOf name qual params [Stmt.For tg it [st1, .If ta [.Expr (.Yield (some ea) q1) q2] [.If tb [.Expr (.Yield (some eb) q3) q4] [] q5] q6, .If tc [.Expr (.Yield (some ec) q1') q2'] [.If td [.Expr (.Yield (some ed) q3') q4'] [] q5'] q6'] oe q9] scope dV kV doc pm an cdv ct), osl⟩)
    (N : News h₀ L s.heap ((mt, mObj p x tx li tup) :: (tup, tup6 s0 h0 b1 e1 b2 e2 nt) :: led)) (hx : x.cps.size ≤ 1000)
    (ret : ∀ tk', Q (decide (1 < ((sl x.cps b2 e2).length : Int))) { s with toks := tk' }) :
    wpAny (model Challenge.rw_et5023_01.row.prog w) (ktrTop dp un gd qual scope L 48 cdv [] outer) (isTrue td (envX qual scope L 48 cdv []) (eval td (envX qual scope L 48 cdv []))) Q E s := by
  revert X; k_fill; intro X
  refine' (fun e => ?_ : _ → _) (lk_eq ?l1 ho)
  case l1 => k_is
  cases e
  clear ho
  k_steps
  exact ret _
set_option maxHeartbeats 8000000 in
theorem w_pair1 {Q : Value → Shared → Prop} (F : Fr h₀ L s.heap (fun y => if y = Str.ofString "after" then some (.str (sl x.cps b2 e2) k2) else if y = Str.ofString "before" then some (.str (sl x.cps b1 e1) k1) else if y = Str.ofString "match" then some (.ref mt) else m y)) (B : Below A₀ base outer h₀) (X : (hd.heap_39 w.params).In h₀)
    (T : Top hd.view_39 (looseW hd.view_39 [Str.ofString "WHITESPACE_AFTER_COMMA_REGEX", Str.ofString "OPERATOR_REGEX"]) mean mg mb h₀)
    (ho : (hd.heap_39 w.params).lookup 48 = some ⟨oc, od, .func (fnOf name qual params [Stmt.For tg it [st1, .If ta [.Expr (.Yield (some ea) q1) q2] [.If tb [.Expr (.Yield (some eb) q3) q4] [] q5] q6, .If tc [.Expr (.Yield (some ec) q1') q2'] [.If td [.Expr (.Yield (some ed) q3') q4'] [] q5'] q6'] oe q9] scope dV kV doc pm an cdv ct), osl⟩)
    (N : News h₀ L s.heap ((mt, mObj p x tx li tup) :: (tup, tup6 s0 h0 b1 e1 b2 e2 nt) :: led)) (hx : x.cps.size ≤ 1000)
    (ret : ∀ b t1 t2 n h' tk', Fr h₀ L h' (fun y => if y = Str.ofString "after" then some (.str (sl x.cps b2 e2) k2) else if y = Str.ofString "before" then some (.str (sl x.cps b1 e1) k1) else if y = Str.ofString "match" then some (.ref mt) else m y) →
      News h₀ L h' ((b, ({ cls := .type "tuple", data := .seq [.int b1 t1, .str e223 t2].toArray n } : Obj)) :: (mt, mObj p x tx li tup) :: (tup, tup6 s0 h0 b1 e1 b2 e2 nt) :: led) → Q (.ref b) { s with heap := h', toks := tk' }) :
    wpAny (model Challenge.rw_et5023_01.row.prog w) (ktrTop dp un gd qual scope L 48 cdv [] outer) (eval ea (envX qual scope L 48 cdv [])) Q E s := by
  revert X; k_fill; intro X
  refine' (fun e => ?_ : _ → _) (lk_eq ?l1 ho)
  case l1 => k_is
  cases e
  clear ho
  k_steps
  exact ret _ _ _ _ _ _ (by assumption) (by assumption)
set_option maxHeartbeats 8000000 in
theorem w_pair2 {Q : Value → Shared → Prop} (F : Fr h₀ L s.heap (fun y => if y = Str.ofString "after" then some (.str (sl x.cps b2 e2) k2) else if y = Str.ofString "before" then some (.str (sl x.cps b1 e1) k1) else if y = Str.ofString "match" then some (.ref mt) else m y)) (B : Below A₀ base outer h₀) (X : (hd.heap_39 w.params).In h₀)
    (T : Top hd.view_39 (looseW hd.view_39 [Str.ofString "WHITESPACE_AFTER_COMMA_REGEX", Str.ofString "OPERATOR_REGEX"]) mean mg mb h₀)
    (ho : (hd.heap_39 w.params).lookup 48 = some ⟨oc, od, .func (fnOf name qual params [Stmt.For tg it [st1, .If ta [.Expr (.Yield (some ea) q1) q2] [.If tb [.Expr (.Yield (some eb) q3) q4] [] q5] q6, .If tc [.Expr (.Yield (some ec) q1') q2'] [.If td [.Expr (.Yield (some ed) q3') q4'] [] q5'] q6'] oe q9] scope dV kV doc pm an cdv ct), osl⟩)
    (N : News h₀ L s.heap ((mt, mObj p x tx li tup) :: (tup, tup6 s0 h0 b1 e1 b2 e2 nt) :: led)) (hx : x.cps.size ≤ 1000)
    (ret : ∀ b t1 t2 n h' tk', Fr h₀ L h' (fun y => if y = Str.ofString "after" then some (.str (sl x.cps b2 e2) k2) else if y = Str.ofString "before" then some (.str (sl x.cps b1 e1) k1) else if y = Str.ofString "match" then some (.ref mt) else m y) →
      News h₀ L h' ((b, ({ cls := .type "tuple", data := .seq [.int b1 t1, .str e221 t2].toArray n } : Obj)) :: (mt, mObj p x tx li tup) :: (tup, tup6 s0 h0 b1 e1 b2 e2 nt) :: led) → Q (.ref b) { s with heap := h', toks := tk' }) :
    wpAny (model Challenge.rw_et5023_01.row.prog w) (ktrTop dp un gd qual scope L 48 cdv [] outer) (eval eb (envX qual scope L 48 cdv [])) Q E s := by
  revert X; k_fill; intro X
  refine' (fun e => ?_ : _ → _) (lk_eq ?l1 ho)
  case l1 => k_is
  cases e
  clear ho
  k_steps
  exact ret _ _ _ _ _ _ (by assumption) (by assumption)
set_option maxHeartbeats 8000000 in
theorem w_pair3 {Q : Value → Shared → Prop} (F : Fr h₀ L s.heap (fun y => if y = Str.ofString "after" then some (.str (sl x.cps b2 e2) k2) else if y = Str.ofString "before" then some (.str (sl x.cps b1 e1) k1) else if y = Str.ofString "match" then some (.ref mt) else m y)) (B : Below A₀ base outer h₀) (X : (hd.heap_39 w.params).In h₀)
    (T : Top hd.view_39 (looseW hd.view_39 [Str.ofString "WHITESPACE_AFTER_COMMA_REGEX", Str.ofString "OPERATOR_REGEX"]) mean mg mb h₀)
    (ho : (hd.heap_39 w.params).lookup 48 = some ⟨oc, od, .func (fnOf name qual params [Stmt.For tg it [st1, .If ta [.Expr (.Yield (some ea) q1) q2] [.If tb [.Expr (.Yield (some eb) q3) q4] [] q5] q6, .If tc [.Expr (.Yield (some ec) q1') q2'] [.If td [.Expr (.Yield (some ed) q3') q4'] [] q5'] q6'] oe q9] scope dV kV doc pm an cdv ct), osl⟩)
    (N : News h₀ L s.heap ((mt, mObj p x tx li tup) :: (tup, tup6 s0 h0 b1 e1 b2 e2 nt) :: led)) (hx : x.cps.size ≤ 1000)
    (ret : ∀ b t1 t2 n h' tk', Fr h₀ L h' (fun y => if y = Str.ofString "after" then some (.str (sl x.cps b2 e2) k2) else if y = Str.ofString "before" then some (.str (sl x.cps b1 e1) k1) else if y = Str.ofString "match" then some (.ref mt) else m y) →
      News h₀ L h' ((b, ({ cls := .type "tuple", data := .seq [.int b2 t1, .str e224 t2].toArray n } : Obj)) :: (mt, mObj p x tx li tup) :: (tup, tup6 s0 h0 b1 e1 b2 e2 nt) :: led) → Q (.ref b) { s with heap := h', toks := tk' }) :
    wpAny (model Challenge.rw_et5023_01.row.prog w) (ktrTop dp un gd qual scope L 48 cdv [] outer) (eval ec (envX qual scope L 48 cdv [])) Q E s := by
  revert X; k_fill; intro X
  refine' (fun e => ?_ : _ → _) (lk_eq ?l1 ho)
  case l1 => k_is
  cases e
  clear ho
  k_steps
  exact ret _ _ _ _ _ _ (by assumption) (by assumption)
set_option maxHeartbeats 8000000 in
theorem w_pair4 {Q : Value → Shared → Prop} (F : Fr h₀ L s.heap (fun y => if y = Str.ofString "after" then some (.str (sl x.cps b2 e2) k2) else if y = Str.ofString "before" then some (.str (sl x.cps b1 e1) k1) else if y = Str.ofString "match" then some (.ref mt) else m y)) (B : Below A₀ base outer h₀) (X : (hd.heap_39 w.params).In h₀)
    (T : Top hd.view_39 (looseW hd.view_39 [Str.ofString "WHITESPACE_AFTER_COMMA_REGEX", Str.ofString "OPERATOR_REGEX"]) mean mg mb h₀)
    (ho : (hd.heap_39 w.params).lookup 48 = some ⟨oc, od, .func (fnOf name qual params [Stmt.For tg it [st1, .If ta [.Expr (.Yield (some ea) q1) q2] [.If tb [.Expr (.Yield (some eb) q3) q4] [] q5] q6, .If tc [.Expr (.Yield (some ec) q1') q2'] [.If td [.Expr (.Yield (some ed) q3') q4'] [] q5'] q6'] oe q9] scope dV kV doc pm an cdv ct), osl⟩)
    (N : News h₀ L s.heap ((mt, mObj p x tx li tup) :: (tup, tup6 s0 h0 b1 e1 b2 e2 nt) :: led)) (hx : x.cps.size ≤ 1000)
    (ret : ∀ b t1 t2 n h' tk', Fr h₀ L h' (fun y => if y = Str.ofString "after" then some (.str (sl x.cps b2 e2) k2) else if y = Str.ofString "before" then some (.str (sl x.cps b1 e1) k1) else if y = Str.ofString "match" then some (.ref mt) else m y) →
      News h₀ L h' ((b, ({ cls := .type "tuple", data := .seq [.int b2 t1, .str e222 t2].toArray n } : Obj)) :: (mt, mObj p x tx li tup) :: (tup, tup6 s0 h0 b1 e1 b2 e2 nt) :: led) → Q (.ref b) { s with heap := h', toks := tk' }) :
    wpAny (model Challenge.rw_et5023_01.row.prog w) (ktrTop dp un gd qual scope L 48 cdv [] outer) (eval ed (envX qual scope L 48 cdv [])) Q E s := by
  revert X; k_fill; intro X
  refine' (fun e => ?_ : _ → _) (lk_eq ?l1 ho)
  case l1 => k_is
  cases e
  clear ho
  k_steps
  exact ret _ _ _ _ _ _ (by assumption) (by assumption)
end
end Mine

end
section
open PySem PySem.W PyProof.Rows PySem.Calls
open Sem (wp)
set_option Elab.async false
set_option maxRecDepth 100000
namespace Mine
open PySem.Builtin.Re
def listAt (h : Heap) (S : Addr) : Prop := ∃ acc c, h.get? S = some { cls := .type "list", dict := none, data := .seq acc c, slots := #[] }
/-- how a generator ends -/
def GR (hG : Heap) (L : Addr) : GenEnd := fun n s₀ r s => n = 0 ∧ r = .ok (.ret .none) ∧ Since L s₀.heap s.heap ∧ (∀ b o, hG.get? b = some o → s.heap.get? b = some o) ∧ s.gens = s₀.gens ∧ s.os = s₀.os
/-- what it yields: from the right, the datum's number -/
def GY (hG : Heap) (L S : Addr) (all : List Dat) : Protocol := fun k s₀ v s κ =>
  (∃ kk x b n t1 t2, all.reverse[k]? = some (tup2 kk x) ∧ v = .ref b ∧ s.heap.get? b = some { cls := .type "tuple", dict := none, data := .seq #[.int kk t1, .str x t2] n, slots := #[] } ∧ b ≠ L ∧ hG.get? b = none) ∧
  Since L s₀.heap s.heap ∧ (∀ b o, hG.get? b = some o → s.heap.get? b = some o) ∧ s.gens = s₀.gens ∧ s.os = s₀.os ∧
  ∀ s'', s''.os = s.os → (∀ b o, b ≠ S → s.heap.get? b = some o → s''.heap.get? b = some o) → listAt s.heap S → κ (.send .none) s''
/-- a turn's state -/
structure TurnSt (hG : Heap) (L it me sc p mt tup : Addr) (x : Str) (tx : Tok) (q : Nat) (li : Int) (spans : List Value) (m : Str → Option Value) (h : Heap) : Prop where
  F : Fr hG L h m
  st : ScanSt hG L it me sc p x tx q false h
  mt : h.get? mt = some (mObj p x tx li tup) ∧ mt ≠ L ∧ hG.get? mt = none
  tup : (∃ n, h.get? tup = some { cls := .type "tuple", dict := none, data := .seq spans.toArray n, slots := #[] }) ∧ tup ≠ L ∧ hG.get? tup = none
section
variable {hG h h' : Heap} {L S it me sc p mt tup : Addr} {x : Str} {tx : Tok} {q : Nat} {must : Bool} {li : Int} {spans : List Value} {m m' : Str → Option Value}
theorem ScanSt.resume (hS : hG.get? S = none) (hl : listAt h S) (hk : ∀ b o, b ≠ S → h.get? b = some o → h'.get? b = some o) (t : ScanSt hG L it me sc p x tx q must h) : ScanSt hG L it me sc p x tx q must h' := by
  obtain ⟨acc, c, e⟩ := hl
  refine ⟨fun b o eb => hk b o (fun ee => by rw [ee, hS] at eb; cases eb) (t.keep b o eb), ⟨hk _ _ (fun ee => ?_) t.it.1, t.it.2⟩, ⟨hk _ _ (fun ee => ?_) t.me.1, t.me.2⟩, ⟨hk _ _ (fun ee => ?_) t.sc.1, t.sc.2⟩⟩
  · have := t.it.1; rw [ee, e] at this; simp [iterObj] at this
  · have := t.me.1; rw [ee, e] at this; simp [methObj] at this
  · have := t.sc.1; rw [ee, e] at this; simp [scanObj] at this
theorem fr_resume (hS : hG.get? S = none) (hl : listAt h S) (hk : ∀ b o, b ≠ S → h.get? b = some o → h'.get? b = some o) (F : Fr hG L h m) : Fr hG L h' m := by
  obtain ⟨acc, c, e⟩ := hl
  refine ⟨?_, fun b o eb => hk b o (fun ee => by rw [ee, hS] at eb; cases eb) (F.keep b o eb), F.above⟩
  obtain ⟨oL, es, ep, ho, h1, h2, h3⟩ := F.ns
  refine ⟨oL, es, ep, hk _ _ (fun ee => ?_) ho, h1, h2, h3⟩
  rw [ee, e] at ho
  cases ho
  simp at h1
theorem TurnSt.resume (hS : hG.get? S = none) (hl : listAt h S) (hk : ∀ b o, b ≠ S → h.get? b = some o → h'.get? b = some o) (t : TurnSt hG L it me sc p mt tup x tx q li spans m h) : TurnSt hG L it me sc p mt tup x tx q li spans m h' := by
  refine ⟨fr_resume hS hl hk t.F, t.st.resume hS hl hk, ⟨hk _ _ (fun ee => ?_) t.mt.1, t.mt.2⟩, ⟨?_, t.tup.2⟩⟩
  · obtain ⟨acc, c, e⟩ := hl
    have := t.mt.1; rw [ee, e] at this; simp [mObj] at this
  · obtain ⟨acc, c, e⟩ := hl
    obtain ⟨n, hn⟩ := t.tup.1
    exact ⟨n, hk _ _ (fun ee => by rw [ee, e] at hn; simp at hn) hn⟩
/-- the ledger a step walks over -/
theorem TurnSt.ledger (t : TurnSt hG L it me sc p mt tup x tx q li spans m h) : ∃ nt led, News hG L h ((mt, mObj p x tx li tup) :: (tup, { cls := .type "tuple", dict := none, data := .seq spans.toArray nt, slots := #[] }) :: led) ∧
    ∀ h' m', Fr hG L h' m' → News hG L h' ((mt, mObj p x tx li tup) :: (tup, { cls := .type "tuple", dict := none, data := .seq spans.toArray nt, slots := #[] }) :: led) → TurnSt hG L it me sc p mt tup x tx q li spans m' h' ∧ Since L h h' := by
  obtain ⟨led, hl⟩ := led_of hG h L
  obtain ⟨nt, ht⟩ := t.tup.1
  refine ⟨nt, (it, iterObj me) :: (me, methObj sc) :: (sc, scanObj p x tx q false) :: led, fun b hb => ?_, fun h' m' F' N' => ⟨⟨F', ⟨F'.keep, ?_, ?_, ?_⟩, ?_, ⟨nt, ?_⟩, t.tup.2⟩, ?_⟩⟩
  · rcases List.mem_cons.mp hb with rfl | hb
    · exact t.mt
    rcases List.mem_cons.mp hb with rfl | hb
    · exact ⟨ht, t.tup.2⟩
    rcases List.mem_cons.mp hb with rfl | hb
    · exact t.st.it
    rcases List.mem_cons.mp hb with rfl | hb
    · exact t.st.me
    rcases List.mem_cons.mp hb with rfl | hb
    · exact t.st.sc
    · obtain ⟨a1, a2, a3, _⟩ := (hl b).mp hb
      exact ⟨a1, a2, a3⟩
  · exact N' (it, _) (.tail _ (.tail _ (.head _)))
  · exact N' (me, _) (.tail _ (.tail _ (.tail _ (.head _))))
  · exact N' (sc, _) (.tail _ (.tail _ (.tail _ (.tail _ (.head _)))))
  · exact N' (mt, _) (.head _)
  · exact (N' (tup, _) (.tail _ (.head _))).1
  · exact since_led hl t.F F' fun b hb => (N' b (.tail _ (.tail _ (.tail _ (.tail _ (.tail _ hb)))))).1
end
end Mine

end
section
open PySem PySem.W PyProof.Rows PySem.Calls
open Sem (wp)
set_option Elab.async false
set_option maxRecDepth 100000
namespace Mine
theorem rev_at {all done rest : List Dat} {d : Dat} (h : all = done ++ (d :: rest)) : all.reverse[rest.length]? = some d := by
  rw [h, List.reverse_append, List.reverse_cons, List.append_assoc, List.getElem?_append_right (by simp)]
  simp
section
variable {prog : Program} {w : World} {A TOP : Around} {env : Env} {c : Code} {fs : List Frame} {s₀ s : Shared} {K : Flow → Sem Fin} {H : Value → Sem Fin} {all done rest : List Dat}
  {hG : Heap} {L S it me sc p mt tup : Addr} {x : Str} {tx : Tok} {q : Nat} {li : Int} {spans : List Value} {m : Str → Option Value} {xa xb g : Str} {kk : Int} {q1 q2 q3 q4 q5 q6 : Pos}
/-- what a yielded pair's expression does -/
def PairOk (prog : Program) (w : World) (TOP : Around) (env : Env) (hG : Heap) (L : Addr) (I : Heap → Prop) (e : PySem.Expr) (kk : Int) (xa : Str) : Prop :=
  ∀ (s : Shared) (E : Value → Shared → Prop) (Q : Value → Shared → Prop), I s.heap → (∀ b t1 t2 n h' tk', I h' → Since L s.heap h' → h'.get? b = some { cls := .type "tuple", dict := none, data := .seq #[.int kk t1, .str xa t2] n, slots := #[] } → b ≠ L → hG.get? b = none → Q (.ref b) { s with heap := h', toks := tk' }) →
    wpAny (model prog w) TOP (eval e env) Q E s
def TestOk (prog : Program) (w : World) (TOP : Around) (env : Env) (I : Heap → Prop) (e : PySem.Expr) (b : Bool) : Prop :=
  ∀ (s : Shared) (E : Value → Shared → Prop) (Q : Bool → Shared → Prop), I s.heap → (∀ tk', Q b { s with toks := tk' }) → wpAny (model prog w) TOP (isTrue e env (eval e env)) Q E s
/-- where a generator's piece stands -/
structure PlaceOk (A TOP : Around) (env : Env) (c : Code) (fs : List Frame) : Prop where
  code : noCI c = true
  free : FreeF fs
  split : splitAtGen fs = none
  guarded : fs.any Frame.guarded = false
  over : A.over c fs = TOP
  co : env.scope.isCoroutine = false
  inter : interactive env = false
/-- what holds between the segments -/
structure Inv (I : Heap → Prop) (hG : Heap) (L S : Addr) : Prop where
  keep : ∀ h, I h → ∀ b o, hG.get? b = some o → h.get? b = some o
  resume : ∀ h h', I h → listAt h S → (∀ b o, b ≠ S → h.get? b = some o → h'.get? b = some o) → I h'
variable {I : Heap → Prop} {ea eb ta tb : PySem.Expr}
theorem yield_one (PO : PlaceOk A TOP env c fs) (V : Inv I hG L S) (he : PairOk prog w TOP env hG L I ea kk xa) (hall : all = done ++ (tup2 kk xa :: rest))
    (hI : I s.heap) (hs : Since L s₀.heap s.heap) (hg : s.gens = s₀.gens) (ho : s.os = s₀.os)
    (cont : ∀ s₀' s', I s'.heap → Since L s₀'.heap s'.heap → s'.gens = s₀'.gens → s'.os = s₀'.os → SegF (qm prog w) A (GR hG L) (GY hG L S all) rest.length s₀' c (K .next) fs s') :
    SegF (qm prog w) A (GR hG L) (GY hG L S all) (rest.length + 1) s₀ c ((execs [.Expr (.Yield (some ea) q1) q2] env).wrap K H id id) fs s := by
  refine segF_cons (segF_Yield PO.code PO.free PO.split rfl PO.guarded ?_ PO.co PO.inter)
  rw [PO.over]
  refine wpF_of (up (he s _ _ hI fun b t1 t2 n h' tk' hI' hs' hb hbL hbG => ?_))
  intro kap hk
  refine ⟨⟨kk, xa, b, n, t1, t2, rev_at hall, rfl, hb, hbL, hbG⟩, hs.trans hs', V.keep _ hI', hg, ho, fun s'' ho'' hk'' hl => hk s'' ?_⟩
  exact segF_nil (cont s'' s'' (V.resume _ _ hI' hl hk'') Since.refl rfl rfl)
theorem gap_if (PO : PlaceOk A TOP env c fs) (V : Inv I hG L S) (hta : TestOk prog w TOP env I ta (hasTab g)) (htb : TestOk prog w TOP env I tb (decide (1 < (g.length : Int))))
    (hea : PairOk prog w TOP env hG L I ea kk xa) (heb : PairOk prog w TOP env hG L I eb kk xb) (hall : all = done ++ (gapTell g kk xa xb ++ rest))
    (hI : I s.heap) (hs : Since L s₀.heap s.heap) (hg : s.gens = s₀.gens) (ho : s.os = s₀.os)
    (cont : ∀ s₀' s', I s'.heap → Since L s₀'.heap s'.heap → s'.gens = s₀'.gens → s'.os = s₀'.os → SegF (qm prog w) A (GR hG L) (GY hG L S all) rest.length s₀' c (K .next) fs s') :
    SegF (qm prog w) A (GR hG L) (GY hG L S all) ((gapTell g kk xa xb).length + rest.length) s₀ c ((exec (.If ta [.Expr (.Yield (some ea) q1) q2] [.If tb [.Expr (.Yield (some eb) q3) q4] [] q5] q6) env).wrap K H id id) fs s := by
  refine segF_If PO.code PO.free ?_
  rw [PO.over]
  refine wpF_of (up (hta s _ _ hI fun tk' => ?_))
  cases h1 : hasTab g with
  | true =>
    rw [if_pos rfl]
    have eg : gapTell g kk xa xb = [tup2 kk xa] := by unfold gapTell; rw [h1, if_pos rfl]
    rw [eg] at hall ⊢
    rw [show [tup2 kk xa].length + rest.length = rest.length + 1 from Nat.add_comm _ _]
    exact yield_one PO V hea hall hI hs hg ho cont
  | false =>
    rw [if_neg Bool.false_ne_true]
    refine segF_cons (segF_If PO.code PO.free ?_)
    rw [PO.over]
    refine wpF_of (up (htb _ _ _ hI fun tk'' => ?_))
    by_cases h2 : 1 < (g.length : Int)
    · rw [decide_eq_true h2, if_pos rfl]
      have eg : gapTell g kk xa xb = [tup2 kk xb] := by unfold gapTell; rw [h1, if_neg Bool.false_ne_true, if_pos h2]
      rw [eg] at hall ⊢
      rw [show [tup2 kk xb].length + rest.length = rest.length + 1 from Nat.add_comm _ _]
      refine yield_one PO V heb hall hI hs hg ho fun s₀' s' a1 a2 a3 a4 => ?_
      exact segF_nil (cont s₀' s' a1 a2 a3 a4)
    · rw [decide_eq_false h2, if_neg Bool.false_ne_true]
      have eg : gapTell g kk xa xb = [] := by unfold gapTell; rw [h1, if_neg Bool.false_ne_true, if_neg h2]
      rw [eg]
      show SegF _ _ _ _ (0 + rest.length) _ _ _ _ _
      rw [Nat.zero_add]
      exact segF_nil (segF_nil (cont _ _ hI hs hg ho))
end
end Mine

end
section
open PySem PySem.W PyProof.Rows PySem.Calls
open Sem (wp)
set_option Elab.async false
set_option maxRecDepth 100000
namespace Mine
section
variable {w : World} {dp un : Nat} {gd : Option (List Code)} {outer : List Env} {A₀ A : Around} {base hG : Heap} {L S it me sc p mt tup : Addr} {m : Str → Option Value} {s₀ s : Shared}
    {mean : ExcName → Option Value} {mg mb : Str → Option Value} {c : Code} {fs : List Frame} {K : Flow → Sem Fin} {H : Value → Sem Fin} {all done rest : List Dat}
    {oc : Value} {od : Option Addr} {osl : Array (Option Value)} {name qual : Str} {params : Arguments} {scope : Scope} {dV kV doc pm cdv ct : Value} {an : Option Addr}
    {x : Str} {tx : Tok} {q : Nat} {tg itx ta tb tc td ea eb ec ed : PySem.Expr} {st1 : Stmt} {oe : List Stmt} {q1 q2 q3 q4 q5 q6 q1' q2' q3' q4' q5' q6' q9 : Pos} {s1 p1 e1 hd' : Nat} {k1 k2 : Tok}
abbrev opSpans (s1 p1 e1 hd' : Nat) : List Value := [.int s1 0, .int hd' 0, .int ((s1 + 1 : Nat) : Int) 0, .int p1 0, .int e1 0, .int hd' 0]
abbrev opVars (x : Str) (mt : Addr) (s1 p1 e1 hd' : Nat) (k1 k2 : Tok) (m : Str → Option Value) : Str → Option Value := fun y => if y = Str.ofString "after" then some (.str (sl x.cps e1 hd') k2) else if y = Str.ofString "before" then some (.str (sl x.cps (s1 + 1) p1) k1) else if y = Str.ofString "match" then some (.ref mt) else m y
theorem turn_inv (hS : hG.get? S = none) {li : Int} {spans : List Value} {m : Str → Option Value} : Inv (TurnSt hG L it me sc p mt tup x tx q li spans m) hG L S :=
  ⟨fun _ t => t.F.keep, fun _ _ t hl hk => t.resume hS hl hk⟩
theorem ops_turn (PO : PlaceOk A (ktrTop dp un gd qual scope L 48 cdv [] outer) (envX qual scope L 48 cdv []) c fs) (B : Below A₀ base outer hG) (X : (hd.heap_39 w.params).In hG)
    (T : Top hd.view_39 (looseW hd.view_39 [Str.ofString "WHITESPACE_AFTER_COMMA_REGEX", Str.ofString "OPERATOR_REGEX"]) mean mg mb hG)
    (ho : (hd.heap_39 w.params).lookup 48 = some ⟨oc, od, .func (fnOf name qual params [Stmt.For tg itx [st1, .If ta [.Expr (.Yield (some ea) q1) q2] [.If tb [.Expr (.Yield (some eb) q3) q4] [] q5] q6, .If tc [.Expr (.Yield (some ec) q1') q2'] [.If td [.Expr (.Yield (some ed) q3') q4'] [] q5'] q6'] oe q9] scope dV kV doc pm an cdv ct), osl⟩)
    (hS : hG.get? S = none) (hx : x.cps.size ≤ 1000)
    (t : TurnSt hG L it me sc p mt tup x tx q 2 (opSpans s1 p1 e1 hd') (fun y => if y = Str.ofString "match" then some (.ref mt) else m y) s.heap)
    (hall : all = done ++ ((gapTell (sl x.cps (s1 + 1) p1) ((s1 + 1 : Nat) : Int) e223 e221 ++ gapTell (sl x.cps e1 hd') (e1 : Int) e224 e222) ++ rest))
    (hs : Since L s₀.heap s.heap) (hg : s.gens = s₀.gens) (hos : s.os = s₀.os)
    (cont : ∀ s₀' s' m', Fr hG L s'.heap m' → ScanSt hG L it me sc p x tx q false s'.heap → Since L s₀'.heap s'.heap → s'.gens = s₀'.gens → s'.os = s₀'.os → SegF (qm Challenge.rw_et5023_01.row.prog w) A (GR hG L) (GY hG L S all) rest.length s₀' c (K .next) fs s') :
    SegF (qm Challenge.rw_et5023_01.row.prog w) A (GR hG L) (GY hG L S all) ((gapTell (sl x.cps (s1 + 1) p1) ((s1 + 1 : Nat) : Int) e223 e221 ++ gapTell (sl x.cps e1 hd') (e1 : Int) e224 e222).length + rest.length) s₀ c
      ((execs [st1, .If ta [.Expr (.Yield (some ea) q1) q2] [.If tb [.Expr (.Yield (some eb) q3) q4] [] q5] q6, .If tc [.Expr (.Yield (some ec) q1') q2'] [.If td [.Expr (.Yield (some ed) q3') q4'] [] q5'] q6'] (envX qual scope L 48 cdv [])).wrap K H id id) fs s := by
  refine segF_cons (segF_exec PO.code PO.free ?_)
  rw [PO.over]
  obtain ⟨nt, led, N, back⟩ := t.ledger
  refine wpF_of (up (w_groups t.F B X T ho N hx fun t1 t2 h' tk' F' N' => ?_))
  obtain ⟨t', sn⟩ := back h' _ F' N'
  have V := turn_inv (L := L) (it := it) (me := me) (sc := sc) (p := p) (mt := mt) (tup := tup) (x := x) (tx := tx) (q := q) (li := 2) (spans := opSpans s1 p1 e1 hd') (m := opVars x mt s1 p1 e1 hd' t1 t2 m) hS
  have hta : TestOk Challenge.rw_et5023_01.row.prog w (ktrTop dp un gd qual scope L 48 cdv [] outer) (envX qual scope L 48 cdv []) (TurnSt hG L it me sc p mt tup x tx q 2 (opSpans s1 p1 e1 hd') (opVars x mt s1 p1 e1 hd' t1 t2 m)) ta (hasTab (sl x.cps (s1 + 1) p1)) := fun s E Q ht hQ => by
    obtain ⟨nt, led, N, back⟩ := ht.ledger
    exact w_tab1 ht.F B X T ho N hx hQ
  have htb : TestOk Challenge.rw_et5023_01.row.prog w (ktrTop dp un gd qual scope L 48 cdv [] outer) (envX qual scope L 48 cdv []) (TurnSt hG L it me sc p mt tup x tx q 2 (opSpans s1 p1 e1 hd') (opVars x mt s1 p1 e1 hd' t1 t2 m)) tb (decide (1 < ((sl x.cps (s1 + 1) p1).length : Int))) := fun s E Q ht hQ => by
    obtain ⟨nt, led, N, back⟩ := ht.ledger
    exact w_len1 ht.F B X T ho N hx hQ
  have htc : TestOk Challenge.rw_et5023_01.row.prog w (ktrTop dp un gd qual scope L 48 cdv [] outer) (envX qual scope L 48 cdv []) (TurnSt hG L it me sc p mt tup x tx q 2 (opSpans s1 p1 e1 hd') (opVars x mt s1 p1 e1 hd' t1 t2 m)) tc (hasTab (sl x.cps e1 hd')) := fun s E Q ht hQ => by
    obtain ⟨nt, led, N, back⟩ := ht.ledger
    exact w_tab2 ht.F B X T ho N hx hQ
  have htd : TestOk Challenge.rw_et5023_01.row.prog w (ktrTop dp un gd qual scope L 48 cdv [] outer) (envX qual scope L 48 cdv []) (TurnSt hG L it me sc p mt tup x tx q 2 (opSpans s1 p1 e1 hd') (opVars x mt s1 p1 e1 hd' t1 t2 m)) td (decide (1 < ((sl x.cps e1 hd').length : Int))) := fun s E Q ht hQ => by
    obtain ⟨nt, led, N, back⟩ := ht.ledger
    exact w_len2 ht.F B X T ho N hx hQ
  have hea : PairOk Challenge.rw_et5023_01.row.prog w (ktrTop dp un gd qual scope L 48 cdv [] outer) (envX qual scope L 48 cdv []) hG L (TurnSt hG L it me sc p mt tup x tx q 2 (opSpans s1 p1 e1 hd') (opVars x mt s1 p1 e1 hd' t1 t2 m)) ea ((s1 + 1 : Nat) : Int) e223 := fun s E Q ht hQ => by
    obtain ⟨nt, led, N, back⟩ := ht.ledger
    exact w_pair1 ht.F B X T ho N hx fun b t1 t2 n h' tk' F' N' => let ⟨r1, r2⟩ := back h' _ F' (News.of N' fun _ hp => .tail _ hp); hQ b t1 t2 n h' tk' r1 r2 (N' _ (.head _)).1 (N' _ (.head _)).2.1 (N' _ (.head _)).2.2
  have heb : PairOk Challenge.rw_et5023_01.row.prog w (ktrTop dp un gd qual scope L 48 cdv [] outer) (envX qual scope L 48 cdv []) hG L (TurnSt hG L it me sc p mt tup x tx q 2 (opSpans s1 p1 e1 hd') (opVars x mt s1 p1 e1 hd' t1 t2 m)) eb ((s1 + 1 : Nat) : Int) e221 := fun s E Q ht hQ => by
    obtain ⟨nt, led, N, back⟩ := ht.ledger
    exact w_pair2 ht.F B X T ho N hx fun b t1 t2 n h' tk' F' N' => let ⟨r1, r2⟩ := back h' _ F' (News.of N' fun _ hp => .tail _ hp); hQ b t1 t2 n h' tk' r1 r2 (N' _ (.head _)).1 (N' _ (.head _)).2.1 (N' _ (.head _)).2.2
  have hec : PairOk Challenge.rw_et5023_01.row.prog w (ktrTop dp un gd qual scope L 48 cdv [] outer) (envX qual scope L 48 cdv []) hG L (TurnSt hG L it me sc p mt tup x tx q 2 (opSpans s1 p1 e1 hd') (opVars x mt s1 p1 e1 hd' t1 t2 m)) ec (e1 : Int) e224 := fun s E Q ht hQ => by
    obtain ⟨nt, led, N, back⟩ := ht.ledger
    exact w_pair3 ht.F B X T ho N hx fun b t1 t2 n h' tk' F' N' => let ⟨r1, r2⟩ := back h' _ F' (News.of N' fun _ hp => .tail _ hp); hQ b t1 t2 n h' tk' r1 r2 (N' _ (.head _)).1 (N' _ (.head _)).2.1 (N' _ (.head _)).2.2
  have hed : PairOk Challenge.rw_et5023_01.row.prog w (ktrTop dp un gd qual scope L 48 cdv [] outer) (envX qual scope L 48 cdv []) hG L (TurnSt hG L it me sc p mt tup x tx q 2 (opSpans s1 p1 e1 hd') (opVars x mt s1 p1 e1 hd' t1 t2 m)) ed (e1 : Int) e222 := fun s E Q ht hQ => by
    obtain ⟨nt, led, N, back⟩ := ht.ledger
    exact w_pair4 ht.F B X T ho N hx fun b t1 t2 n h' tk' F' N' => let ⟨r1, r2⟩ := back h' _ F' (News.of N' fun _ hp => .tail _ hp); hQ b t1 t2 n h' tk' r1 r2 (N' _ (.head _)).1 (N' _ (.head _)).2.1 (N' _ (.head _)).2.2
  rw [List.length_append, Nat.add_assoc, ← List.length_append (as := gapTell (sl x.cps e1 hd') (e1 : Int) e224 e222)]
  refine segF_cons (gap_if PO V hta htb hea heb (rest := gapTell (sl x.cps e1 hd') (e1 : Int) e224 e222 ++ rest) (done := done) (by rw [hall, List.append_assoc]) t' (hs.trans sn) hg hos fun s₀' s' a1 a2 a3 a4 => ?_)
  rw [List.length_append]
  exact segF_cons (gap_if PO V htc htd hec hed (rest := rest) (done := done ++ gapTell (sl x.cps (s1 + 1) p1) ((s1 + 1 : Nat) : Int) e223 e221) (by rw [hall]; simp only [List.append_assoc]) a1 a2 a3 a4 fun s₀'' s'' b1 b2 b3 b4 => segF_nil (cont _ _ _ b1.F b1.st b2 b3 b4))
end
end Mine

end
section
open PySem PySem.W PyProof.Rows PySem.Calls
open Sem (wp)
set_option Elab.async false
set_option maxRecDepth 100000
namespace Mine
section
variable {w : World} {dp un : Nat} {gd : Option (List Code)} {outer : List Env} {A₀ A : Around} {base hG : Heap} {L S it me sc : Addr} {m : Str → Option Value} {s₀ s : Shared}
    {mean : ExcName → Option Value} {mg mb : Str → Option Value} {fs : List Frame} {all done rest : List Dat}
    {oc : Value} {od : Option Addr} {osl : Array (Option Value)} {name qual : Str} {params : Arguments} {scope : Scope} {dV kV doc pm cdv ct : Value} {an : Option Addr}
    {x : Str} {tx : Tok} {q : Nat} {must : Bool} {mx : Str} {px q9 : Pos} {itx : PySem.Expr} {lb oe : List Stmt}
theorem found_turn {h h' : Heap} {p mt tup : Addr} {li : Int} {spans : List Value} (F : Fr hG L h m) (W : Found hG L it me sc p mt tup x tx q li spans false h h') : TurnSt hG L it me sc p mt tup x tx q li spans m h' :=
  ⟨⟨W.ns m F.ns, W.st.keep, F.above⟩, W.st, W.mt, W.tup⟩
theorem ops_loop (B : Below A₀ base outer hG) (X : (hd.heap_39 w.params).In hG)
    (T : Top hd.view_39 (looseW hd.view_39 [Str.ofString "WHITESPACE_AFTER_COMMA_REGEX", Str.ofString "OPERATOR_REGEX"]) mean mg mb hG)
    (ho : (hd.heap_39 w.params).lookup 48 = some ⟨oc, od, .func (fnOf name qual params [Stmt.For (.Name mx px) itx lb oe q9] scope dV kV doc pm an cdv ct), osl⟩)
    (PO : PlaceOk A (ktrTop dp un gd qual scope L 48 cdv [] outer) (envX qual scope L 48 cdv []) (.forLoop (.Name mx px) (.ref it) lb [] (envX qual scope L 48 cdv [])) fs)
    (hS : hG.get? S = none) (hx : x.cps.size ≤ 100) (hu : un + 30 < cLine)
    (fin : ∀ s₀' s', Since L s₀'.heap s'.heap → (∀ b o, hG.get? b = some o → s'.heap.get? b = some o) → s'.gens = s₀'.gens → s'.os = s₀'.os →
      SegF (qm Challenge.rw_et5023_01.row.prog w) A (GR hG L) (GY hG L S all) 0 s₀' (.block [] (envX qual scope L 48 cdv [])) (.pure (.done .next)) fs s')
    (ht : OpTells x.cps x.cps.size q rest) :
    ∀ (done : List Dat) (must : Bool) (m : Str → Option Value) (s₀ s : Shared), all = done ++ rest → Fr hG L s.heap m → ScanSt hG L it me sc 41 x tx q must s.heap → Since L s₀.heap s.heap → s.gens = s₀.gens → s.os = s₀.os →
    SegF (qm Challenge.rw_et5023_01.row.prog w) A (GR hG L) (GY hG L S all) rest.length s₀ (.forLoop (.Name mx px) (.ref it) lb [] (envX qual scope L 48 cdv [])) ((qm Challenge.rw_et5023_01.row.prog w).den (.forLoop (.Name mx px) (.ref it) lb [] (envX qual scope L 48 cdv []))) fs s := by
  revert X; k_fill; intro X
  refine' (fun e => ?_ : _ → _) (lk_eq ?l1 ho)
  case l1 => k_is
  cases e
  have P := pat_op X
  induction ht with
  | @stop q hn =>
    intro done must m s₀ s hall F st hs hg hos
    obtain ⟨h, g, d, t, os⟩ := s
    refine segF_forLoop PO.free ?_
    rw [PO.over]
    exact op_miss rfl st P hu hx hn fun h' sn kG _ => fin _ _ (hs.trans sn) kG hg hos
  | @hit q s1 p1 e1 out hn ht ih =>
    intro done must m s₀ s hall F st hs hg hos
    obtain ⟨h, g, d, t, os⟩ := s
    refine segF_forLoop PO.free ?_
    rw [PO.over]
    refine op_hit st P ⟨m, F.ns⟩ hu hx hn fun h' mt tup W => ?_
    have tt := found_turn F W
    obtain ⟨nt, led, N, back⟩ := tt.ledger
    refine wpF_of (up (storeX_L tt.F N fun h'' F'' N'' H => ?_))
    obtain ⟨t2, sn⟩ := back h'' _ F'' N''
    have e7 : ((s1 : Int) + 1) = ((s1 + 1 : Nat) : Int) := by simp
    rw [List.length_append]
    unfold opDats
    rw [e7]
    unfold opDats at hall
    rw [e7] at hall
    refine ops_turn (s1 := s1) (p1 := p1) (e1 := e1) (hd' := runTo isSp x.cps x.cps.size e1) (rest := out) (done := done) PO B X T ho hS (by omega) t2 (by rw [hall, List.append_assoc]) (hs.trans (W.since.trans sn)) hg hos fun s₀' s' m' a1 a2 a3 a4 a5 => ?_
    exact segF_again rfl (ih _ _ _ _ _ (by rw [hall, ← List.append_assoc]) a1 a2 a3 a4 a5)
end
end Mine

end
section
open PySem PySem.W PyProof.Rows PySem.Calls
open Sem (wp)
set_option Elab.async false
set_option maxRecDepth 100000
namespace Mine
section
variable {M : Model} {prog : Program} {w : World} {A : Around} {E : Value → Shared → Prop} {s : Shared} {p c : Addr} {groups : Nat} {code : Array Nat} {x : Str} {tx : Tok} {h h₀ : Heap} {L : Addr} {m : Str → Option Value} {news : List (Addr × Obj)} {o : Obj}
theorem fr_push (F : Fr h₀ L h m) : Fr h₀ L (h.push o) m := by
  obtain ⟨oL, es, ep, ho, h1, h2, h3⟩ := F.ns
  exact ⟨⟨oL, es, ep, Heap.get?_push_of_some _ ho, h1, h2, h3⟩, fun b ob e => Heap.get?_push_of_some _ (F.keep b ob e), F.above⟩
theorem news_push (hfr : o.isFreed = false) (F : Fr h₀ L h m) (N : News h₀ L h news) : News h₀ L (h.push o) ((h.objs.size, o) :: news) := by
  have hL : L < h.objs.size := by
    obtain ⟨oL, es, ep, ho, _⟩ := F.ns
    exact Heap.lt_size ho
  intro q hq
  rcases List.mem_cons.mp hq with rfl | hq
  · refine ⟨Heap.get?_push_size _ hfr, fun e => absurd hL (by rw [← e]; exact Nat.lt_irrefl _), ?_⟩
    cases e : h₀.get? h.objs.size with
    | none => rfl
    | some o => exact absurd (Heap.lt_size (F.keep _ o e)) (Nat.lt_irrefl _)
  · exact ⟨Heap.get?_push_of_some _ (N q hq).1, (N q hq).2⟩
theorem k_finditer {Q : Value → Shared → Prop} (P : PatAt h₀ p c groups code) (F : Fr h₀ L s.heap m) (N : News h₀ L s.heap news) (hx : x.cps.size ≤ 1000)
    (ret : ∀ it me sc h' tk', Fr h₀ L h' m → News h₀ L h' ((it, iterObj me) :: (me, methObj sc) :: (sc, scanObj p x tx 0 false) :: news) → Q (.ref it) { s with heap := h', toks := tk' }) :
    wpAny (model prog w) A (call (.builtin "re.Pattern.finditer") [.ref p, .str x tx]) Q E s := by
  obtain ⟨pp, pf, items, n, a1, a2, a3⟩ := P.at_
  obtain ⟨h, g, d, t, os⟩ := s
  refine finditer_call (F.keep _ _ a1) (F.keep _ _ a2) (Nat.lt_of_le_of_lt hx (by decide)) ?_
  have F1 : Fr h₀ L (h.push (scanObj p x tx 0 false)) m := fr_push F
  have N1 : News h₀ L (h.push (scanObj p x tx 0 false)) ((h.objs.size, scanObj p x tx 0 false) :: news) := news_push rfl F N
  have s1 : (h.push (scanObj p x tx 0 false)).objs.size = h.objs.size.succ := Heap.size_push ..
  have F2 : Fr h₀ L ((h.push (scanObj p x tx 0 false)).push (methObj h.objs.size)) m := fr_push F1
  have N2 := news_push (o := methObj h.objs.size) rfl F1 N1
  have s2 : ((h.push (scanObj p x tx 0 false)).push (methObj h.objs.size)).objs.size = h.objs.size + 2 := by rw [Heap.size_push, s1]
  have N3 := news_push (o := iterObj h.objs.size.succ) rfl F2 N2
  rw [s2, s1] at N3
  exact ret _ _ _ _ _ (fr_push F2) N3
theorem k_getp {name : Str} {id : String} {pl : Sem Bool} {Q : Value × List Value → Shared → Prop} (P : PatAt h₀ p c groups code) (F : Fr h₀ L s.heap m) (slot : Slot "re.Pattern" name id) (hty : typeOf (.builtin id) = pure (.type "method_descriptor")) (hq : Q (.builtin id, [.ref p]) s) :
    wpAny M A (getMethod (.ref p) name pl) Q E s := by
  obtain ⟨pp, pf, items, n, a1, a2, a3⟩ := P.at_
  exact getm_pattern (F.keep _ _ a1) slot hty hq
end
end Mine
open PySem.Calls
namespace Mine
local macro_rules | `(tactic| k_all) => `(tactic| with_reducible assumption)
local macro_rules | `(tactic| walk_at "getMethod ref") => `(tactic| (k_here; (with_reducible show wpAny _ _ (getMethod (Value.ref _) (Str.ofString "finditer") _) _ _ _); k_dflt (refine' k_getp ?P ?F F.slot_finditer F.type_finditer ?_; (case P => assumption); (case F => k_asm))))
local macro_rules | `(tactic| walk_at "call builtin:re.Pattern.finditer") => `(tactic| (k_here; k_dflt (refine' k_finditer ?P ?F ?N ?x ?_; (case P => assumption); (case F => k_asm); (case N => k_asm); (case x => assumption); k_whole); intro i' m' c' h' tk' F' N'))
section
variable {w : World} {dp un : Nat} {gd : Option (List Code)} {outer : List Env} {A₀ : Around} {base h₀ : Heap} {L : Addr} {m : Str → Option Value} {led : List (Addr × Obj)} {s : Shared}
    {mean : ExcName → Option Value} {mg mb : Str → Option Value} {E : Value → Shared → Prop}
    {oc : Value} {od : Option Addr} {osl : Array (Option Value)} {name qual : Str} {params : Arguments} {body : List Stmt} {scope : Scope} {dV kV doc pm cdv ct : Value} {an : Option Addr}
    {x : Str} {tx : Tok} {tg itx : PySem.Expr} {lb oe : List Stmt} {q9 : Pos} {ppos : Value}
set_option pp.maxSteps 3000
set_option maxHeartbeats 8000000 in
theorem w_iter48 {Q : Value → Shared → Prop} (B : Below A₀ base outer h₀) (F : Fr h₀ L s.heap (fun y => if y = Str.ofString "logical_line" then some (.str x tx) else none)) (X : (hd.heap_39 w.params).In h₀)
    (T : Top hd.view_39 (looseW hd.view_39 [Str.ofString "WHITESPACE_AFTER_COMMA_REGEX", Str.ofString "OPERATOR_REGEX"]) mean mg mb h₀)
    (ho : (hd.heap_39 w.params).lookup 48 = some ⟨oc, od, .func (fnOf name qual params [Stmt.For tg itx lb oe q9] scope dV kV doc pm an cdv ct), osl⟩)
    (N : News h₀ L s.heap led) (hx : x.cps.size ≤ 1000)
    (ret : ∀ it me sc h' tk', Fr h₀ L h' (fun y => if y = Str.ofString "logical_line" then some (.str x tx) else none) → News h₀ L h' ((it, iterObj me) :: (me, methObj sc) :: (sc, scanObj 41 x tx 0 false) :: led) → Q (.ref it) { s with heap := h', toks := tk' }) :
    wpAny (model Challenge.rw_et5023_01.row.prog w) (ktrTop dp un gd qual scope L 48 cdv [] outer) (eval itx (envX qual scope L 48 cdv [])) Q E s := by
  have P := pat_op X
  revert X; k_fill; intro X
  refine' (fun e => ?_ : _ → _) (lk_eq ?l1 ho)
  case l1 => k_is
  cases e
  clear ho
  k_steps
  exact ret _ _ _ _ _ (by assumption) (by assumption)
set_option maxHeartbeats 8000000 in
theorem w_iter55 {Q : Value → Shared → Prop} (B : Below A₀ base outer h₀) (F : Fr h₀ L s.heap (fun y => if y = Str.ofString "line" then some (.str x tx) else m y)) (X : (hd.heap_39 w.params).In h₀)
    (T : Top hd.view_39 (looseW hd.view_39 [Str.ofString "WHITESPACE_AFTER_COMMA_REGEX", Str.ofString "OPERATOR_REGEX"]) mean mg mb h₀) {st0 : Stmt}
    (ho : (hd.heap_39 w.params).lookup 55 = some ⟨oc, od, .func (fnOf name qual params [st0, Stmt.For tg itx lb oe q9] scope dV kV doc pm an cdv ct), osl⟩)
    (N : News h₀ L s.heap led) (hx : x.cps.size ≤ 1000)
    (ret : ∀ it me sc h' tk', Fr h₀ L h' (fun y => if y = Str.ofString "line" then some (.str x tx) else m y) → News h₀ L h' ((it, iterObj me) :: (me, methObj sc) :: (sc, scanObj 36 x tx 0 false) :: led) → Q (.ref it) { s with heap := h', toks := tk' }) :
    wpAny (model Challenge.rw_et5023_01.row.prog w) (ktrTop dp un gd qual scope L 55 cdv [] outer) (eval itx (envX qual scope L 55 cdv [])) Q E s := by
  have P := pat_com X
  revert X; k_fill; intro X
  refine' (fun e => ?_ : _ → _) (lk_eq ?l1 ho)
  case l1 => k_is
  cases e
  clear ho
  k_steps
  exact ret _ _ _ _ _ (by assumption) (by assumption)
end
end Mine

end
section
open PySem PySem.W PyProof.Rows PySem.Calls
open Sem (wp)
set_option Elab.async false
set_option maxRecDepth 100000
namespace Mine
open PySem.Builtin.Re
section
variable {M : Model} {prog : Program} {w : World} {A : Around} {E : Value → Shared → Prop} {s : Shared} {p tup mt : Addr} {x : Str} {tx : Tok} {li : Int} {s0 h0 : Nat} {nt : Nat} {h₀ : Heap} {L : Addr} {m : Str → Option Value} {news : List (Addr × Obj)}
theorem k_start0 {Q : Value → Shared → Prop} (N : News h₀ L s.heap news) (hm : (mt, mObj p x tx li tup) ∈ news) (ht : (tup, tup2o s0 h0 nt) ∈ news)
    (ret : ∀ t, Q (.int s0 t) { s with toks := s.toks + 1 }) :
    wpAny (model prog w) A (call (.builtin "re.Match.start") [.ref mt]) Q E s := call_start0 (s0 := s0) (N.get hm) (N.get ht) map2 rfl (ret _)
theorem k_group {Q : Value → Shared → Prop} (N : News h₀ L s.heap news) (hm : (mt, mObj p x tx li tup) ∈ news) (ht : (tup, tup2o s0 h0 nt) ∈ news) (hx : x.cps.size ≤ 1000)
    (ret : ∀ t, Q (.str (sl x.cps s0 h0) t) { s with toks := s.toks + 1 }) :
    wpAny (model prog w) A (call (.builtin "re.Match.group") [.ref mt]) Q E s := call_group (N.get hm) (N.get ht) hx (ret _)
theorem item_first {T : Array Nat} {s0 h0 : Nat} (hlt : s0 < h0) (hle : h0 ≤ T.size) : Txt.item (sl T s0 h0) 0 = sl T s0 (s0 + 1) := by
  have hz : (sl T s0 h0).cps.size = h0 - s0 := by
    show (T.extract s0 h0).size = _
    rw [Array.size_extract]; omega
  have e : Txt.charAt (sl T s0 h0) 0 = some (T[s0]'(by omega)) := by
    unfold Txt.charAt
    have h1 : seqIndex? 0 (sl T s0 h0).length = some 0 := by
      show seqIndex? 0 (sl T s0 h0).cps.size = some 0
      rw [hz]
      unfold seqIndex?
      simp
      omega
    rw [h1]
    show (T.extract s0 h0)[0]? = _
    rw [Array.getElem?_extract]
    simp
    omega
  unfold Txt.item
  rw [e]
  unfold sl
  congr 1
  apply Array.ext
  · simp; omega
  · intro i h1 h2
    simp at h1
    subst h1
    simp
end
end Mine
open PySem.Calls
namespace Mine
local macro_rules | `(tactic| k_all) => `(tactic| with_reducible assumption)
local macro_rules | `(tactic| walk_at "getMethod ref") => `(tactic| (k_here; (with_reducible show wpAny _ _ (getMethod (Value.ref _) (Str.ofString "group") _) _ _ _); k_dflt (refine' k_getm ?N ?m F.slot_group F.type_group ?_; (case N => k_asm); (case m => k_mem))))
local macro_rules | `(tactic| walk_at "getMethod ref") => `(tactic| (k_here; (with_reducible show wpAny _ _ (getMethod (Value.ref _) (Str.ofString "start") _) _ _ _); k_dflt (refine' k_getm ?N ?m F.slot_start F.type_start ?_; (case N => k_asm); (case m => k_mem))))
local macro_rules | `(tactic| walk_at "call builtin:re.Match.group") => `(tactic| (k_here; k_dflt (refine' k_group ?N ?m ?t ?x ?_; (case N => k_asm); (case m => k_mem); (case t => k_mem); (case x => assumption)); intro t'))
local macro_rules | `(tactic| walk_at "call builtin:re.Match.start") => `(tactic| (k_here; k_dflt (refine' k_start0 ?N ?m ?t ?_; (case N => k_asm); (case m => k_mem); (case t => k_mem)); intro t'))
section
variable {w : World} {dp un : Nat} {gd : Option (List Code)} {outer : List Env} {A₀ : Around} {base h₀ : Heap} {L : Addr} {m : Str → Option Value} {led : List (Addr × Obj)} {s : Shared}
    {mean : ExcName → Option Value} {mg mb : Str → Option Value} {E : Value → Shared → Prop}
    {oc : Value} {od : Option Addr} {osl : Array (Option Value)} {name qual : Str} {params : Arguments} {body : List Stmt} {scope : Scope} {dV kV doc pm cdv ct : Value} {an : Option Addr}
    {p tup mt : Addr} {x : Str} {tx : Tok} {li : Int} {s0 h0 : Nat} {nt : Nat} {tg itx ta ea eb : PySem.Expr} {st0 st1 : Stmt} {oe : List Stmt} {q1 q2 q3 q4 q6 q9 : Pos} {k1 : Tok}
set_option pp.maxSteps 3000
set_option maxHeartbeats 8000000 in
theorem w_found {Q : Flow → Shared → Prop} (F : Fr h₀ L s.heap (fun y => if y = Str.ofString "m" then some (.ref mt) else m y)) (B : Below A₀ base outer h₀) (X : (hd.heap_39 w.params).In h₀)
    (T : Top hd.view_39 (looseW hd.view_39 [Str.ofString "WHITESPACE_AFTER_COMMA_REGEX", Str.ofString "OPERATOR_REGEX"]) mean mg mb h₀)
    (ho : (hd.heap_39 w.params).lookup 55 = some ⟨oc, od, .func (fnOf name qual params [st0, Stmt.For tg itx [st1, .If ta [.Expr (.Yield (some ea) q1) q2] [.Expr (.Yield (some eb) q3) q4] q6] oe q9] scope dV kV doc pm an cdv ct), osl⟩)
    (N : News h₀ L s.heap ((mt, mObj p x tx li tup) :: (tup, tup2o s0 h0 nt) :: led)) (hx : x.cps.size ≤ 1000)
    (ret : ∀ t1 h' tk', Fr h₀ L h' (fun y => if y = Str.ofString "found" then some (.int ((s0 : Int) + 1) t1) else if y = Str.ofString "m" then some (.ref mt) else m y) →
      News h₀ L h' ((mt, mObj p x tx li tup) :: (tup, tup2o s0 h0 nt) :: led) → Q .next { s with heap := h', toks := tk' }) :
    wpAny (model Challenge.rw_et5023_01.row.prog w) (ktrTop dp un gd qual scope L 55 cdv [] outer) (exec st1 (envX qual scope L 55 cdv [])) Q E s := by
  revert X; k_fill; intro X
  refine' (fun e => ?_ : _ → _) (lk_eq ?l1 ho)
  case l1 => k_is
  cases e
  clear ho
  k_steps
  exact ret _ _ _ (by assumption) (by assumption)
set_option maxHeartbeats 8000000 in
theorem w_ctab {Q : Bool → Shared → Prop} (F : Fr h₀ L s.heap (fun y => if y = Str.ofString "found" then some (.int ((s0 : Int) + 1) k1) else if y = Str.ofString "m" then some (.ref mt) else m y)) (B : Below A₀ base outer h₀) (X : (hd.heap_39 w.params).In h₀)
    (T : Top hd.view_39 (looseW hd.view_39 [Str.ofString "WHITESPACE_AFTER_COMMA_REGEX", Str.ofString "OPERATOR_REGEX"]) mean mg mb h₀)
    (ho : (hd.heap_39 w.params).lookup 55 = some ⟨oc, od, .func (fnOf name qual params [st0, Stmt.For tg itx [st1, .If ta [.Expr (.Yield (some ea) q1) q2] [.Expr (.Yield (some eb) q3) q4] q6] oe q9] scope dV kV doc pm an cdv ct), osl⟩)
    (N : News h₀ L s.heap ((mt, mObj p x tx li tup) :: (tup, tup2o s0 h0 nt) :: led)) (hx : x.cps.size ≤ 1000)
    (ret : ∀ tk', Q (hasTab (sl x.cps s0 h0)) { s with toks := tk' }) :
    wpAny (model Challenge.rw_et5023_01.row.prog w) (ktrTop dp un gd qual scope L 55 cdv [] outer) (isTrue ta (envX qual scope L 55 cdv []) (eval ta (envX qual scope L 55 cdv []))) Q E s := by
  revert X; k_fill; intro X
  refine' (fun e => ?_ : _ → _) (lk_eq ?l1 ho)
  case l1 => k_is
  cases e
  clear ho
  k_steps
  exact ret _
set_option maxHeartbeats 8000000 in
theorem w_cpair1 {Q : Value → Shared → Prop} (hlt : s0 < h0) (hle : h0 ≤ x.cps.size) (F : Fr h₀ L s.heap (fun y => if y = Str.ofString "found" then some (.int ((s0 : Int) + 1) k1) else if y = Str.ofString "m" then some (.ref mt) else m y)) (B : Below A₀ base outer h₀) (X : (hd.heap_39 w.params).In h₀)
    (T : Top hd.view_39 (looseW hd.view_39 [Str.ofString "WHITESPACE_AFTER_COMMA_REGEX", Str.ofString "OPERATOR_REGEX"]) mean mg mb h₀)
    (ho : (hd.heap_39 w.params).lookup 55 = some ⟨oc, od, .func (fnOf name qual params [st0, Stmt.For tg itx [st1, .If ta [.Expr (.Yield (some ea) q1) q2] [.Expr (.Yield (some eb) q3) q4] q6] oe q9] scope dV kV doc pm an cdv ct), osl⟩)
    (N : News h₀ L s.heap ((mt, mObj p x tx li tup) :: (tup, tup2o s0 h0 nt) :: led)) (hx : x.cps.size ≤ 1000)
    (ret : ∀ b t1 t2 n h' tk', Fr h₀ L h' (fun y => if y = Str.ofString "found" then some (.int ((s0 : Int) + 1) k1) else if y = Str.ofString "m" then some (.ref mt) else m y) →
      News h₀ L h' ((b, ({ cls := .type "tuple", data := .seq [.int ((s0 : Int) + 1) t1, .str (e242 (sl x.cps s0 (s0 + 1))) t2].toArray n } : Obj)) :: (mt, mObj p x tx li tup) :: (tup, tup2o s0 h0 nt) :: led) → Q (.ref b) { s with heap := h', toks := tk' }) :
    wpAny (model Challenge.rw_et5023_01.row.prog w) (ktrTop dp un gd qual scope L 55 cdv [] outer) (eval ea (envX qual scope L 55 cdv [])) Q E s := by
  revert X; k_fill; intro X
  refine' (fun e => ?_ : _ → _) (lk_eq ?l1 ho)
  case l1 => k_is
  cases e
  clear ho
  have hln : (sl x.cps s0 h0).length = h0 - s0 := by
    show (x.cps.extract s0 h0).size = _
    rw [Array.size_extract]; omega
  k_steps
  (rename News _ _ _ _ => NX)
  rw [item_first hlt hle] at NX
  exact ret _ _ _ _ _ _ (by assumption) NX
set_option maxHeartbeats 8000000 in
theorem w_cpair2 {Q : Value → Shared → Prop} (hlt : s0 < h0) (hle : h0 ≤ x.cps.size) (F : Fr h₀ L s.heap (fun y => if y = Str.ofString "found" then some (.int ((s0 : Int) + 1) k1) else if y = Str.ofString "m" then some (.ref mt) else m y)) (B : Below A₀ base outer h₀) (X : (hd.heap_39 w.params).In h₀)
    (T : Top hd.view_39 (looseW hd.view_39 [Str.ofString "WHITESPACE_AFTER_COMMA_REGEX", Str.ofString "OPERATOR_REGEX"]) mean mg mb h₀)
    (ho : (hd.heap_39 w.params).lookup 55 = some ⟨oc, od, .func (fnOf name qual params [st0, Stmt.For tg itx [st1, .If ta [.Expr (.Yield (some ea) q1) q2] [.Expr (.Yield (some eb) q3) q4] q6] oe q9] scope dV kV doc pm an cdv ct), osl⟩)
    (N : News h₀ L s.heap ((mt, mObj p x tx li tup) :: (tup, tup2o s0 h0 nt) :: led)) (hx : x.cps.size ≤ 1000)
    (ret : ∀ b t1 t2 n h' tk', Fr h₀ L h' (fun y => if y = Str.ofString "found" then some (.int ((s0 : Int) + 1) k1) else if y = Str.ofString "m" then some (.ref mt) else m y) →
      News h₀ L h' ((b, ({ cls := .type "tuple", data := .seq [.int ((s0 : Int) + 1) t1, .str (e241 (sl x.cps s0 (s0 + 1))) t2].toArray n } : Obj)) :: (mt, mObj p x tx li tup) :: (tup, tup2o s0 h0 nt) :: led) → Q (.ref b) { s with heap := h', toks := tk' }) :
    wpAny (model Challenge.rw_et5023_01.row.prog w) (ktrTop dp un gd qual scope L 55 cdv [] outer) (eval eb (envX qual scope L 55 cdv [])) Q E s := by
  revert X; k_fill; intro X
  refine' (fun e => ?_ : _ → _) (lk_eq ?l1 ho)
  case l1 => k_is
  cases e
  clear ho
  have hln : (sl x.cps s0 h0).length = h0 - s0 := by
    show (x.cps.extract s0 h0).size = _
    rw [Array.size_extract]; omega
  k_steps
  (rename News _ _ _ _ => NX)
  rw [item_first hlt hle] at NX
  exact ret _ _ _ _ _ _ (by assumption) NX
end
end Mine

end
section
open PySem PySem.W PyProof.Rows PySem.Calls
open Sem (wp)
set_option Elab.async false
set_option maxRecDepth 100000
namespace Mine
section
variable {w : World} {dp un : Nat} {gd : Option (List Code)} {outer : List Env} {A₀ A : Around} {base hG : Heap} {L S it me sc p mt tup : Addr} {m : Str → Option Value} {s₀ s : Shared}
    {mean : ExcName → Option Value} {mg mb : Str → Option Value} {c : Code} {fs : List Frame} {K : Flow → Sem Fin} {H : Value → Sem Fin} {all done rest : List Dat}
    {oc : Value} {od : Option Addr} {osl : Array (Option Value)} {name qual : Str} {params : Arguments} {scope : Scope} {dV kV doc pm cdv ct : Value} {an : Option Addr}
    {x : Str} {tx : Tok} {q : Nat} {must : Bool} {tg itx ta ea eb : PySem.Expr} {st0 st1 : Stmt} {oe lb : List Stmt} {q1 q2 q3 q4 q6 q9 px : Pos} {s1 e1 : Nat} {mx : Str}
abbrev comSpans (s1 e1 : Nat) : List Value := [.int s1 0, .int e1 0]
theorem com_turn (PO : PlaceOk A (ktrTop dp un gd qual scope L 55 cdv [] outer) (envX qual scope L 55 cdv []) c fs) (B : Below A₀ base outer hG) (X : (hd.heap_39 w.params).In hG)
    (T : Top hd.view_39 (looseW hd.view_39 [Str.ofString "WHITESPACE_AFTER_COMMA_REGEX", Str.ofString "OPERATOR_REGEX"]) mean mg mb hG)
    (ho : (hd.heap_39 w.params).lookup 55 = some ⟨oc, od, .func (fnOf name qual params [st0, Stmt.For tg itx [st1, .If ta [.Expr (.Yield (some ea) q1) q2] [.Expr (.Yield (some eb) q3) q4] q6] oe q9] scope dV kV doc pm an cdv ct), osl⟩)
    (hS : hG.get? S = none) (hx : x.cps.size ≤ 1000) (hlt : s1 < e1) (hle : e1 ≤ x.cps.size)
    (t : TurnSt hG L it me sc p mt tup x tx q (-1) (comSpans s1 e1) (fun y => if y = Str.ofString "m" then some (.ref mt) else m y) s.heap)
    (hall : all = done ++ (comDat x.cps s1 e1 :: rest))
    (hs : Since L s₀.heap s.heap) (hg : s.gens = s₀.gens) (hos : s.os = s₀.os)
    (cont : ∀ s₀' s' m', Fr hG L s'.heap m' → ScanSt hG L it me sc p x tx q false s'.heap → Since L s₀'.heap s'.heap → s'.gens = s₀'.gens → s'.os = s₀'.os → SegF (qm Challenge.rw_et5023_01.row.prog w) A (GR hG L) (GY hG L S all) rest.length s₀' c (K .next) fs s') :
    SegF (qm Challenge.rw_et5023_01.row.prog w) A (GR hG L) (GY hG L S all) (rest.length + 1) s₀ c
      ((execs [st1, .If ta [.Expr (.Yield (some ea) q1) q2] [.Expr (.Yield (some eb) q3) q4] q6] (envX qual scope L 55 cdv [])).wrap K H id id) fs s := by
  refine segF_cons (segF_exec PO.code PO.free ?_)
  rw [PO.over]
  obtain ⟨nt, led, N, back⟩ := t.ledger
  refine wpF_of (up (w_found t.F B X T ho N hx fun t1 h' tk' F' N' => ?_))
  obtain ⟨t', sn⟩ := back h' _ F' N'
  have V := turn_inv (L := L) (it := it) (me := me) (sc := sc) (p := p) (mt := mt) (tup := tup) (x := x) (tx := tx) (q := q) (li := -1) (spans := comSpans s1 e1) (m := fun y => if y = Str.ofString "found" then some (.int ((s1 : Int) + 1) t1) else if y = Str.ofString "m" then some (.ref mt) else m y) hS
  have hea : PairOk Challenge.rw_et5023_01.row.prog w (ktrTop dp un gd qual scope L 55 cdv [] outer) (envX qual scope L 55 cdv []) hG L (TurnSt hG L it me sc p mt tup x tx q (-1) (comSpans s1 e1) (fun y => if y = Str.ofString "found" then some (.int ((s1 : Int) + 1) t1) else if y = Str.ofString "m" then some (.ref mt) else m y)) ea ((s1 : Int) + 1) (e242 (sl x.cps s1 (s1 + 1))) := fun s E Q ht hQ => by
    obtain ⟨nt, led, N, back⟩ := ht.ledger
    exact w_cpair1 hlt hle ht.F B X T ho N hx fun b t1 t2 n h' tk' F' N' => let ⟨r1, r2⟩ := back h' _ F' (News.of N' fun _ hp => .tail _ hp); hQ b t1 t2 n h' tk' r1 r2 (N' _ (.head _)).1 (N' _ (.head _)).2.1 (N' _ (.head _)).2.2
  have heb : PairOk Challenge.rw_et5023_01.row.prog w (ktrTop dp un gd qual scope L 55 cdv [] outer) (envX qual scope L 55 cdv []) hG L (TurnSt hG L it me sc p mt tup x tx q (-1) (comSpans s1 e1) (fun y => if y = Str.ofString "found" then some (.int ((s1 : Int) + 1) t1) else if y = Str.ofString "m" then some (.ref mt) else m y)) eb ((s1 : Int) + 1) (e241 (sl x.cps s1 (s1 + 1))) := fun s E Q ht hQ => by
    obtain ⟨nt, led, N, back⟩ := ht.ledger
    exact w_cpair2 hlt hle ht.F B X T ho N hx fun b t1 t2 n h' tk' F' N' => let ⟨r1, r2⟩ := back h' _ F' (News.of N' fun _ hp => .tail _ hp); hQ b t1 t2 n h' tk' r1 r2 (N' _ (.head _)).1 (N' _ (.head _)).2.1 (N' _ (.head _)).2.2
  refine segF_cons (segF_If PO.code PO.free ?_)
  rw [PO.over]
  obtain ⟨nt2, led2, N2, back2⟩ := t'.ledger
  refine wpF_of (up (w_ctab t'.F B X T ho N2 hx fun tk'' => ?_))
  unfold comDat at hall
  cases h1 : hasTab (sl x.cps s1 e1) with
  | true =>
    rw [h1, if_pos rfl] at hall
    rw [if_pos rfl]
    exact yield_one PO V hea hall t' (hs.trans sn) hg hos fun s₀' s' b1 b2 b3 b4 => segF_nil (cont _ _ _ b1.F b1.st b2 b3 b4)
  | false =>
    rw [h1, if_neg Bool.false_ne_true] at hall
    rw [if_neg Bool.false_ne_true]
    exact yield_one PO V heb hall t' (hs.trans sn) hg hos fun s₀' s' b1 b2 b3 b4 => segF_nil (cont _ _ _ b1.F b1.st b2 b3 b4)
theorem com_loop (B : Below A₀ base outer hG) (X : (hd.heap_39 w.params).In hG)
    (T : Top hd.view_39 (looseW hd.view_39 [Str.ofString "WHITESPACE_AFTER_COMMA_REGEX", Str.ofString "OPERATOR_REGEX"]) mean mg mb hG)
    (ho : (hd.heap_39 w.params).lookup 55 = some ⟨oc, od, .func (fnOf name qual params [st0, Stmt.For (.Name mx px) itx lb oe q9] scope dV kV doc pm an cdv ct), osl⟩)
    (PO : PlaceOk A (ktrTop dp un gd qual scope L 55 cdv [] outer) (envX qual scope L 55 cdv []) (.forLoop (.Name mx px) (.ref it) lb [] (envX qual scope L 55 cdv [])) fs)
    (hS : hG.get? S = none) (hx : x.cps.size ≤ 100) (hu : un + 30 < cLine)
    (fin : ∀ s₀' s', Since L s₀'.heap s'.heap → (∀ b o, hG.get? b = some o → s'.heap.get? b = some o) → s'.gens = s₀'.gens → s'.os = s₀'.os →
      SegF (qm Challenge.rw_et5023_01.row.prog w) A (GR hG L) (GY hG L S all) 0 s₀' (.block [] (envX qual scope L 55 cdv [])) (.pure (.done .next)) fs s')
    (ht : ComTells x.cps x.cps.size q rest) :
    ∀ (done : List Dat) (must : Bool) (m : Str → Option Value) (s₀ s : Shared), all = done ++ rest → Fr hG L s.heap m → ScanSt hG L it me sc 36 x tx q must s.heap → Since L s₀.heap s.heap → s.gens = s₀.gens → s.os = s₀.os →
    SegF (qm Challenge.rw_et5023_01.row.prog w) A (GR hG L) (GY hG L S all) rest.length s₀ (.forLoop (.Name mx px) (.ref it) lb [] (envX qual scope L 55 cdv [])) ((qm Challenge.rw_et5023_01.row.prog w).den (.forLoop (.Name mx px) (.ref it) lb [] (envX qual scope L 55 cdv []))) fs s := by
  revert X; k_fill; intro X
  refine' (fun e => ?_ : _ → _) (lk_eq ?l1 ho)
  case l1 => k_is
  cases e
  have P := pat_com X
  induction ht with
  | @stop q hn =>
    intro done must m s₀ s hall F st hs hg hos
    obtain ⟨h, g, d, t, os⟩ := s
    refine segF_forLoop PO.free ?_
    rw [PO.over]
    exact com_miss rfl st P hu hx hn fun h' sn kG _ => fin _ _ (hs.trans sn) kG hg hos
  | @hit q s1 e1 out hn ht ih =>
    intro done must m s₀ s hall F st hs hg hos
    obtain ⟨r1, r2, r3⟩ := comFind_rng hn
    obtain ⟨h, g, d, t, os⟩ := s
    refine segF_forLoop PO.free ?_
    rw [PO.over]
    refine com_hit2 st P ⟨m, F.ns⟩ hu hx hn fun h' mt tup W => ?_
    have tt := found_turn F W
    obtain ⟨nt, led, N, back⟩ := tt.ledger
    refine wpF_of (up (storeX_L tt.F N fun h'' F'' N'' H => ?_))
    obtain ⟨t2, sn⟩ := back h'' _ F'' N''
    refine com_turn (s1 := s1) (e1 := e1) (rest := out) (done := done) PO B X T ho hS (by omega) (by omega) r3 t2 hall (hs.trans (W.since.trans sn)) hg hos fun s₀' s' m' a1 a2 a3 a4 a5 => ?_
    exact segF_again rfl (ih (done ++ [comDat x.cps s1 e1]) _ _ _ _ (by rw [hall, List.append_assoc]; rfl) a1 a2 a3 a4 a5)
end
end Mine

end
section
open PySem PySem.W PyProof.Rows PySem.Calls
open Sem (wp)
set_option Elab.async false
set_option maxRecDepth 100000
namespace Mine
theorem led_news {hG h : Heap} {L : Addr} {led : List (Addr × Obj)} (hl : ∀ p, p ∈ led ↔ (h.get? p.1 = some p.2 ∧ p.1 ≠ L ∧ hG.get? p.1 = none ∧ soft p.2 = false)) : News hG L h led := fun b hb => by
  obtain ⟨a1, a2, a3, _⟩ := (hl b).mp hb
  exact ⟨a1, a2, a3⟩
section
variable {w : World} {dp un : Nat} {gd : Option (List Code)} {outer : List Env} {A₀ : Around} {base hG : Heap} {L S : Addr} {s : Shared} {cn : Str} {cs : Scope} {Ll al : Addr} {ccd : Value} {cl : List (Str × Addr)}
    {mean : ExcName → Option Value} {mg mb : Str → Option Value} {all : List Dat} {E : Value → Shared → Prop} {m : Str → Option Value} {led : List (Addr × Obj)}
    {oc : Value} {od : Option Addr} {osl : Array (Option Value)} {name qual : Str} {params : Arguments} {scope : Scope} {dV kV doc pm cdv ct : Value} {an : Option Addr}
    {x : Str} {tx : Tok} {body : List Stmt}
theorem ops_func (B : Below A₀ base (envX cn cs Ll al ccd cl :: outer) hG) (X : (hd.heap_39 w.params).In hG)
    (T : Top hd.view_39 (looseW hd.view_39 [Str.ofString "WHITESPACE_AFTER_COMMA_REGEX", Str.ofString "OPERATOR_REGEX"]) mean mg mb hG)
    (ho : (hd.heap_39 w.params).lookup 48 = some ⟨oc, od, .func (fnOf name qual params body scope dV kV doc pm an cdv ct), osl⟩)
    (hS : hG.get? S = none) (hx : x.cps.size ≤ 100) (hu : un + 40 < cLine)
    (F : Fr hG L s.heap (fun y => if y = Str.ofString "logical_line" then some (.str x tx) else none)) (ht : OpTells x.cps x.cps.size 0 all) :
    SegF (qm Challenge.rw_et5023_01.row.prog w) (ktrTop dp un gd cn cs Ll al ccd cl outer) (GR hG L) (GY hG L S all) all.length s (.func body (envX qual scope L 48 cdv [])) ((qm Challenge.rw_et5023_01.row.prog w).den (.func body (envX qual scope L 48 cdv []))) [] s := by
  revert X; k_fill; intro X
  refine' (fun e => ?_ : _ → _) (lk_eq ?l1 ho)
  case l1 => k_is
  cases e
  refine segF_func fun H => ?_
  refine segF_cons (segF_For rfl (fun _ hx => nomatch hx) (fun _ => rfl) ?_)
  rw [over_func]
  obtain ⟨led, hl⟩ := led_of hG s.heap L
  refine wpF_of (up (w_iter48 B F X T ho (led_news hl) (by omega) fun it me sc h' tk' F' N' => ?_))
  refine wpF_of (up (f_pyIter_citer (M := model Challenge.rw_et5023_01.row.prog w) ⟨_, (N' (it, iterObj me) (.head _)).1, rfl⟩ ?_))
  intro k p hk
  refine ops_loop B X T ho ⟨rfl, ?_, rfl, rfl, over_loop, rfl, rfl⟩ hS hx (by omega) (fun s₀' s' a1 a2 a3 a4 => ?_) ht [] false _ _ _ rfl F' ⟨F'.keep, N' (it, _) (.head _), N' (me, _) (.tail _ (.head _)), N' (sc, _) (.tail _ (.tail _ (.head _)))⟩ (since_led hl F F' fun b hb => (N' b (.tail _ (.tail _ (.tail _ hb)))).1) rfl rfl
  · intro z hz
    rcases List.mem_singleton.mp hz with rfl
    rfl
  · refine segF_leaf (.ok .next) ?_
    rw [hk]
    exact segF_end (.ok (.ret .none)) ⟨rfl, rfl, a1, a2, a3, a4⟩
end
end Mine
open PySem.Calls
namespace Mine
local macro_rules | `(tactic| k_all) => `(tactic| with_reducible assumption)
section
variable {w : World} {dp un : Nat} {gd : Option (List Code)} {outer : List Env} {A₀ : Around} {base hG : Heap} {L S : Addr} {s : Shared} {cn : Str} {cs : Scope} {Ll al : Addr} {ccd : Value} {cl : List (Str × Addr)}
    {mean : ExcName → Option Value} {mg mb : Str → Option Value} {all : List Dat} {E : Value → Shared → Prop} {m : Str → Option Value} {led : List (Addr × Obj)}
    {oc : Value} {od : Option Addr} {osl : Array (Option Value)} {name qual : Str} {params : Arguments} {scope : Scope} {dV kV doc pm cdv ct : Value} {an : Option Addr}
    {x : Str} {tx : Tok} {body rest : List Stmt} {st0 : Stmt}
theorem w_line {Q : Flow → Shared → Prop} (B : Below A₀ base outer hG) (F : Fr hG L s.heap (fun y => if y = Str.ofString "logical_line" then some (.str x tx) else none)) (X : (hd.heap_39 w.params).In hG)
    (T : Top hd.view_39 (looseW hd.view_39 [Str.ofString "WHITESPACE_AFTER_COMMA_REGEX", Str.ofString "OPERATOR_REGEX"]) mean mg mb hG)
    (ho : (hd.heap_39 w.params).lookup 55 = some ⟨oc, od, .func (fnOf name qual params (st0 :: rest) scope dV kV doc pm an cdv ct), osl⟩)
    (N : News hG L s.heap led)
    (ret : ∀ h' tk', Fr hG L h' (fun y => if y = Str.ofString "line" then some (.str x tx) else if y = Str.ofString "logical_line" then some (.str x tx) else none) → News hG L h' led → Q .next { s with heap := h', toks := tk' }) :
    wpAny (model Challenge.rw_et5023_01.row.prog w) (ktrTop dp un gd qual scope L 55 cdv [] outer) (exec st0 (envX qual scope L 55 cdv [])) Q E s := by
  revert X; k_fill; intro X
  refine' (fun e => ?_ : _ → _) (lk_eq ?l1 ho)
  case l1 => k_is
  cases e
  clear ho
  k_steps
  exact ret _ _ (by assumption) (by assumption)
theorem coms_func (B : Below A₀ base (envX cn cs Ll al ccd cl :: outer) hG) (X : (hd.heap_39 w.params).In hG)
    (T : Top hd.view_39 (looseW hd.view_39 [Str.ofString "WHITESPACE_AFTER_COMMA_REGEX", Str.ofString "OPERATOR_REGEX"]) mean mg mb hG)
    (ho : (hd.heap_39 w.params).lookup 55 = some ⟨oc, od, .func (fnOf name qual params body scope dV kV doc pm an cdv ct), osl⟩)
    (hS : hG.get? S = none) (hx : x.cps.size ≤ 100) (hu : un + 40 < cLine)
    (F : Fr hG L s.heap (fun y => if y = Str.ofString "logical_line" then some (.str x tx) else none)) (ht : ComTells x.cps x.cps.size 0 all) :
    SegF (qm Challenge.rw_et5023_01.row.prog w) (ktrTop dp un gd cn cs Ll al ccd cl outer) (GR hG L) (GY hG L S all) all.length s (.func body (envX qual scope L 55 cdv [])) ((qm Challenge.rw_et5023_01.row.prog w).den (.func body (envX qual scope L 55 cdv []))) [] s := by
  revert X; k_fill; intro X
  refine' (fun e => ?_ : _ → _) (lk_eq ?l1 ho)
  case l1 => k_is
  cases e
  refine segF_func fun H => ?_
  obtain ⟨led, hl⟩ := led_of hG s.heap L
  refine segF_cons (segF_exec rfl (fun _ hx => nomatch hx) ?_)
  rw [over_func]
  refine wpF_of (up (w_line B F X T ho (led_news hl) fun h0 tk0 F0 N0 => ?_))
  refine segF_cons (segF_For rfl (fun _ hx => nomatch hx) (fun _ => rfl) ?_)
  rw [over_func]
  refine wpF_of (up (w_iter55 B F0 X T ho N0 (by omega) fun it me sc h' tk' F' N' => ?_))
  refine wpF_of (up (f_pyIter_citer (M := model Challenge.rw_et5023_01.row.prog w) ⟨_, (N' (it, iterObj me) (.head _)).1, rfl⟩ ?_))
  intro k p hk
  refine com_loop B X T ho ⟨rfl, ?_, rfl, rfl, over_loop, rfl, rfl⟩ hS hx (by omega) (fun s₀' s' a1 a2 a3 a4 => ?_) ht [] false _ _ _ rfl F' ⟨F'.keep, N' (it, _) (.head _), N' (me, _) (.tail _ (.head _)), N' (sc, _) (.tail _ (.tail _ (.head _)))⟩ (since_led hl F F' fun b hb => (N' b (.tail _ (.tail _ (.tail _ hb)))).1) rfl rfl
  · intro z hz
    rcases List.mem_singleton.mp hz with rfl
    rfl
  · refine segF_leaf (.ok .next) ?_
    rw [hk]
    exact segF_end (.ok (.ret .none)) ⟨rfl, rfl, a1, a2, a3, a4⟩
end
end Mine

end
section
open PySem PySem.W PyProof.Rows PySem.Calls
open Sem (wp)
set_option Elab.async false
set_option maxRecDepth 100000
namespace Mine
/-- what list() of one of the generators leaves -/
structure Listed (hG : Heap) (S gi : Nat) (all : List Dat) (g₀ : Array GenState) (os₀ : OsState) (s : Shared) : Prop where
  made : ∃ (acc : Array Value) (c : Nat) (tl : List (Addr × Obj)), s.heap.get? S = some { cls := .type "list", dict := none, data := .seq acc c, slots := #[] } ∧ DatAll tl acc.toList all ∧
    ∀ p ∈ tl, s.heap.get? p.1 = some p.2 ∧ hG.get? p.1 = none ∧ p.1 ≠ S
  keep : ∀ b o, hG.get? b = some o → s.heap.get? b = some o
  gens : AllBare g₀ → AllBare s.gens
  os : s.os = os₀
structure StL (prog : Program) (w : World) (A : Around) (hG : Heap) (L S I gi : Nat) (all : List Dat) (g₀ : Array GenState) (os₀ : OsState) (n : Nat) (acc : Array Value) (s : Shared) : Prop where
  split : ∃ done rest, all = done ++ rest ∧ rest.length = n ∧ ∃ tl, DatAll tl acc.toList done ∧ ∀ p ∈ tl, s.heap.get? p.1 = some p.2 ∧ soft p.2 = false ∧ p.1 ≠ L ∧ hG.get? p.1 = none ∧ p.1 ≠ S
  obj : ∃ c, s.heap.get? S = some { cls := .type "list", dict := none, data := .seq acc c, slots := #[] }
  gen : s.heap.IsGen I gi
  keep : ∀ b o, hG.get? b = some o → s.heap.get? b = some o
  gs : ∃ gs, s.gens[gi]? = some gs ∧ GoesF (qm prog w) A.in1 (GR hG L) (GY hG L S all) n gs (.send .none) (s.setGen gi .running)
  others : ∀ k, k ≠ gi → s.gens[k]? = g₀[k]?
  size : g₀.size ≤ gi + 1
  os : s.os = os₀
theorem listL {h : Heap} {S L : Addr} {acc : Array Value} {c : Nat} {m : Str → Option Value} (h1 : h.get? S = some { cls := .type "list", dict := none, data := .seq acc c, slots := #[] }) (h2 : h.Ns L m) : S ≠ L := by
  obtain ⟨oL, es, ep, ho, hd, _⟩ := h2
  intro e
  rw [← e, h1] at ho
  cases ho
  simp at hd
section
variable {prog : Program} {w : World} {A : Around} {hG : Heap} {L S I gi : Nat} {all : List Dat} {g₀ : Array GenState} {os₀ : OsState}
theorem emitsL (hlim : hG.NoLimit) (hlen : all.length ≤ 1000) (hSL : S ≠ L) (hIL : I ≠ L) (hSI : S ≠ I) (hSG : hG.get? S = none) : EmitsF prog w A I S gi (GR hG L) (GY hG L S all) (StL prog w A hG L S I gi all g₀ os₀) (Listed hG S gi all g₀ os₀) := by
  refine ⟨fun n acc s st => st.obj, fun n acc s st => ⟨st.gen, hlim.keeps st.keep, ?_, st.gs⟩, fun n acc s st v s₁ gs' hb hy => ?_, fun n acc s st x s₁ hr => ?_⟩
  · obtain ⟨done, rest, e1, e2, tl, hd, _⟩ := st.split
    have := hd.length
    rw [Array.length_toList] at this
    have : done.length ≤ all.length := by rw [e1, List.length_append]; omega
    omega
  · obtain ⟨⟨kk, x, b, nn, t1, t2, hdat, rfl, hb1, hb2, hb3⟩, sn, hk, hg, hos, kap⟩ := hy
    obtain ⟨c, hS⟩ := st.obj
    have hS1 : s₁.heap.get? S = some { cls := .type "list", dict := none, data := .seq acc c, slots := #[] } := sn.firm S _ hSL (by simp [soft]) hS
    have hbS : b ≠ S := fun e => by rw [e, hS1] at hb1; simp at hb1
    cases n with
    | zero =>
      exact (kap s₁ rfl (fun _ _ _ e => e) ⟨_, _, hS1⟩).elim
    | succ m =>
      refine ⟨m, rfl, ⟨c, hS1⟩, ?_⟩
      have up2 : ∀ b o, b ≠ S → s₁.heap.get? b = some o → (s₁.heap.update S (Obj.mapSeq (·.push (.ref b)))).get? b = some o := fun b o hb e => (Heap.get?_update_other _ _ (Ne.symm hb)).trans e
      have upd : ∀ (f : Obj → Obj) b' o, b' ≠ S → s₁.heap.get? b' = some o → (s₁.heap.update S f).get? b' = some o := fun f b' o hb e => (Heap.get?_update_other _ _ (Ne.symm hb)).trans e
      obtain ⟨done, rest, e1, e2, tl, hd, htl⟩ := st.split
      obtain ⟨gs, hgs, _⟩ := st.gs
      cases rest with
      | nil => simp at e2
      | cons d rest =>
        have e2' : rest.length = m := by simpa using e2
        have hdd : d = tup2 kk x := by
          have r := rev_at e1
          rw [e2'] at r
          have hdat' : all.reverse[m]? = some (tup2 kk x) := hdat
          rw [r] at hdat'
          exact Option.some.inj hdat'
        subst hdd
        have hgl : gi < s.gens.size := by
          rcases Nat.lt_or_ge gi s.gens.size with h' | h'
          · exact h'
          · rw [Array.getElem?_eq_none h'] at hgs; cases hgs
        have hsz : gi < s₁.gens.size := by rw [hg]; simpa [Shared.setGen] using hgl
        refine ⟨⟨done ++ [tup2 kk x], rest, by rw [e1]; simp, e2', tl ++ [(b, { cls := .type "tuple", dict := none, data := .seq #[.int kk t1, .str x t2] nn, slots := #[] })], ?_, ?_⟩, ⟨_, Heap.get?_update_self (Obj.mapSeq (·.push (.ref b))) hS1 rfl⟩, ?_, ?_, ⟨gs', ?_, ?_⟩, ?_, st.size, ?_⟩
        · rw [Array.toList_push]
          refine DatAll.append (DatAll.mono (fun p hp => List.mem_append_left _ hp) hd) (DatAll.one (DatIn.tuple (vs := [.int kk t1, .str x t2]) (List.mem_append_right _ (.head _)) (.cons (.int _ _) (.cons (.str _ _) .nil))))
        · intro p hp
          rcases List.mem_append.mp hp with hp | hp
          · obtain ⟨a1, a2, a3, a4, a5⟩ := htl p hp
            exact ⟨upd _ _ _ a5 (sn.firm _ _ a3 a2 a1), a2, a3, a4, a5⟩
          · rcases List.mem_singleton.mp hp with rfl
            exact ⟨upd _ _ _ hbS hb1, by simp [soft], hb2, hb3, hbS⟩
        · obtain ⟨oI, nm, qn, hoI, hcI, hdI, hsI⟩ := st.gen
          exact ⟨oI, nm, qn, upd _ _ _ (Ne.symm hSI) (sn.firm _ _ hIL (by simp [soft, hcI]) hoI), hcI, hdI, hsI⟩
        · intro b' o e
          exact upd _ _ _ (fun ee => by rw [ee, hSG] at e; cases e) (hk b' o e)
        · show (s₁.gens.setIfInBounds gi gs')[gi]? = some gs'
          simp [hsz]
        · have := kap ({ s₁.setGen gi gs' with heap := s₁.heap.update S (Obj.mapSeq (·.push (.ref b))) }.setGen gi .running) rfl (fun b' o hb' e => upd _ _ _ hb' e) ⟨_, _, hS1⟩
          exact this
        · intro k hkk
          show (s₁.gens.setIfInBounds gi gs')[k]? = _
          rw [hg]
          show ((s.gens.setIfInBounds gi .running).setIfInBounds gi gs')[k]? = _
          rw [Array.getElem?_setIfInBounds_ne (Ne.symm hkk), Array.getElem?_setIfInBounds_ne (Ne.symm hkk)]
          exact st.others k hkk
        · show s₁.os = os₀
          rw [hos]; exact st.os
  · obtain ⟨rfl, rfl, sn, hk, hg, hos⟩ := hr
    refine ⟨rfl, fun h' hk' => ?_⟩
    obtain ⟨c, hS⟩ := st.obj
    have hS1 : s₁.heap.get? S = some { cls := .type "list", dict := none, data := .seq acc c, slots := #[] } := sn.firm S _ hSL (by simp [soft]) hS
    obtain ⟨done, rest, e1, e2, tl, hd, htl⟩ := st.split
    have : rest = [] := List.eq_nil_of_length_eq_zero e2
    subst this
    rw [List.append_nil] at e1
    subst e1
    refine ⟨⟨acc, c, tl, hk' _ _ hS1, hd, fun p hp => ?_⟩, fun b o e => hk' _ _ (hk b o e), fun hab y hy => ?_, ?_⟩
    · obtain ⟨a1, a2, a3, a4, a5⟩ := htl p hp
      exact ⟨hk' _ _ (sn.firm _ _ a3 a2 a1), a4, a5⟩
    · have hy' : y ∈ s₁.gens.setIfInBounds gi .finished := hy
      rw [hg] at hy'
      have hy2 : y ∈ (s.gens.setIfInBounds gi .running).setIfInBounds gi .finished := hy'
      obtain ⟨k, hk1⟩ := Array.mem_iff_getElem?.mp hy2
      by_cases hkk : k = gi
      · subst hkk
        have hlt : k < ((s.gens.setIfInBounds k .running).setIfInBounds k .finished).size := by
          rcases Nat.lt_or_ge k ((s.gens.setIfInBounds k .running).setIfInBounds k .finished).size with h' | h'
          · exact h'
          · rw [Array.getElem?_eq_none h'] at hk1; cases hk1
        rw [Array.getElem?_setIfInBounds_self_of_lt (by simpa using hlt)] at hk1
        cases hk1
        rfl
      · rw [Array.getElem?_setIfInBounds_ne (Ne.symm hkk), Array.getElem?_setIfInBounds_ne (Ne.symm hkk), st.others k hkk] at hk1
        exact hab y (Array.mem_iff_getElem?.mpr ⟨k, hk1⟩)
    · show s₁.os = os₀
      rw [hos]; exact st.os
end
end Mine

end
section
open PySem PySem.W PyProof.Rows PySem.Calls
open Sem (wp)
set_option Elab.async false
set_option maxRecDepth 100000
namespace Mine
/-- a generator just made -/
structure Made (prog : Program) (w : World) (A : Around) (hG : Heap) (L I gi : Nat) (all : List Dat) (g₀ : Array GenState) (s : Shared) : Prop where
  gen : s.heap.IsGen I gi
  gs : ∃ c, s.gens[gi]? = some (.fresh c) ∧ ∀ S s'', hG.get? S = none → (∀ b o, s.heap.get? b = some o → s''.heap.get? b = some o) → SegF (qm prog w) A.in1.in1.in1 (GR hG L) (GY hG L S all) all.length s'' c ((qm prog w).den c) [] s''
  others : ∀ k, k ≠ gi → s.gens[k]? = g₀[k]?
  size : g₀.size = gi
  keep : ∀ b o, hG.get? b = some o → s.heap.get? b = some o
  L : L ≠ I ∧ L < s.heap.objs.size
section
variable {prog : Program} {w : World} {A : Around} {hG : Heap} {L I gi : Nat} {all : List Dat} {g₀ : Array GenState} {s : Shared} {E : Value → Shared → Prop}
theorem Made.heap (W : Made prog w A hG L I gi all g₀ s) {s' : Shared} (hh : s'.heap = s.heap) (hg : s'.gens = s.gens) : Made prog w A hG L I gi all g₀ s' :=
  ⟨hh ▸ W.gen, hg ▸ let ⟨c, e, h⟩ := W.gs; ⟨c, e, fun S s'' h1 h2 => h S s'' h1 (hh ▸ h2)⟩, hg ▸ W.others, W.size, hh ▸ W.keep, hh ▸ W.L⟩
theorem list_made {Q : Value → Shared → Prop} (W : Made prog w A hG L I gi all g₀ s) (hlim : hG.NoLimit) (hlen : all.length ≤ 1000) (hh : A.handled = none) (hroom : A.depth < recursionLimit)
    (hq : ∀ s', Listed hG s.heap.objs.size gi all g₀ s.os s' → Q (.ref s.heap.objs.size) s') : wpF (qm prog w) A (call (.type "list") [.ref I]) Q E s := by
  have hSL : s.heap.objs.size ≠ L := fun e => absurd W.L.2 (by rw [← e]; exact Nat.lt_irrefl _)
  have hSI : s.heap.objs.size ≠ I := fun e => by
    obtain ⟨o, _, _, ho, _⟩ := W.gen
    exact Nat.lt_irrefl _ (e ▸ Heap.lt_size ho)
  have hSG : hG.get? s.heap.objs.size = none := by
    cases e : hG.get? s.heap.objs.size with
    | none => rfl
    | some o => exact absurd (Heap.lt_size (W.keep _ o e)) (Nat.lt_irrefl _)
  refine f_call_list (emitsL (A := A.in1.in1) (g₀ := g₀) (os₀ := s.os) hlim hlen hSL (Ne.symm W.L.1) hSI hSG) hh hroom W.gen (n := all.length) (fun h' c h1 h2 => ?_) hq
  obtain ⟨c0, hc0, hgo⟩ := W.gs
  refine ⟨⟨[], all, rfl, rfl, [], .nil, fun _ hp => nomatch hp⟩, ⟨c, h1⟩, W.gen.keeps h2, fun b o e => h2 b o (W.keep b o e), ⟨_, hc0, rfl, hgo _ _ hSG h2⟩, W.others, by rw [W.size]; exact Nat.le_succ _, rfl⟩
end
section
variable {w : World} {dp un : Nat} {gd : Option (List Code)} {outer : List Env} {A₀ : Around} {base h₀ : Heap} {Ll al : Addr} {s : Shared} {cn : Str} {cs : Scope} {ccd : Value} {cl : List (Str × Addr)}
    {mean : ExcName → Option Value} {mg mb : Str → Option Value} {all : List Dat} {E : Value → Shared → Prop} {m : Str → Option Value} {x : Str} {tx : Tok}
theorem lookup_ll {v : Value} (y : Str) : (fun z => ([(Str.ofString "logical_line", v)] : List (Str × Value)).reverse.lookup z) y = (fun z => if z = Str.ofString "logical_line" then some v else none) y := by
  show _ = if y = Str.ofString "logical_line" then some v else none
  by_cases h : y = Str.ofString "logical_line"
  · rw [if_pos h, h]; rfl
  · rw [if_neg h]
    show (match y == Str.ofString "logical_line" with | true => some v | false => none) = none
    rw [beq_eq_false_iff_ne.mpr h]
theorem gen48_of {Q : Value → Shared → Prop} {oc : Value} {od : Option Addr} {osl : Array (Option Value)} {name qual : Str} {params : Arguments} {scope : Scope} {dV kV doc pm cdv ct : Value} {an : Option Addr} {body : List Stmt}
    (B : Below A₀ base outer h₀) (F : Fr h₀ Ll s.heap m) (X : (hd.heap_39 w.params).In h₀)
    (T : Top hd.view_39 (looseW hd.view_39 [Str.ofString "WHITESPACE_AFTER_COMMA_REGEX", Str.ofString "OPERATOR_REGEX"]) mean mg mb h₀)
    (ho : (hd.heap_39 w.params).lookup 48 = some ⟨oc, od, .func (fnOf name qual params body scope dV kV doc pm an cdv ct), osl⟩)
    (hk : cs.kind = .function) (hdp : dp + 10 < recursionLimit) (hu : un + 50 < cLine) (hx : x.cps.size ≤ 100) (ht : OpTells x.cps x.cps.size 0 all)
    (ret : ∀ I s', Made Challenge.rw_et5023_01.row.prog w (ktrTop dp un gd cn cs Ll al ccd cl outer) s.heap s.heap.objs.size I s.gens.size all s.gens s' → s'.os = s.os → Q (.ref I) s') :
    wpAny (model Challenge.rw_et5023_01.row.prog w) (ktrTop dp un gd cn cs Ll al ccd cl outer) (call (.ref 48) [.str x tx]) Q E s := by
  have X' := X.keeps F.keep
  have T' := T.keeps F.keep
  have B' : Below (ktrTop dp un gd cn cs Ll al ccd cl outer) base (envX cn cs Ll al ccd cl :: outer) s.heap := by
    have := pushX B F (env := envX cn cs Ll al ccd cl) rfl hk
    exact ⟨rfl, this.stays, this.frames⟩
  have X0 := X
  revert X; k_fill; intro X
  refine' (fun e => ?_ : _ → _) (lk_eq ?l1 ho)
  case l1 => k_is
  cases e
  refine wpAny_call ?_
  refine' codeAny_call_generator (show dp < recursionLimit by omega) (X' _ _ ho) rfl rfl rfl rfl (codeRec_of X' ?hcd) ?h
  case hcd => k_is
  case h =>
    refine wpAny_of_eq (a := [(Str.ofString "logical_line", Value.str x tx)]) rfl ?_
    refine wpAny_newFunctionEnv (by decide) (locs rfl) (fun h₁ hns hsb => ?_) rfl
    have F1 : Fr s.heap s.heap.objs.size h₁ (fun y => if y = Str.ofString "logical_line" then some (.str x tx) else none) := by
      refine Fr.congr ⟨hns, fun b o e => hsb.extBut b o (Nat.ne_of_lt (Heap.lt_size e)) (Heap.get?_push_of_some _ e), Nat.le_refl _⟩ fun y => ?_
      exact (lookup_ll y).symm
    have hL1 : s.heap.objs.size < h₁.objs.size := by
      obtain ⟨oL, es, ep, hoL, _⟩ := F1.ns
      exact Heap.lt_size hoL
    refine ⟨(T'.nolimit).keeps F1.keep, ret _ _ ⟨⟨_, _, _, Heap.get?_push_size _ rfl, rfl, rfl, rfl⟩, ⟨_, Array.getElem?_push_size, fun S s'' hS hk' => ?_⟩, fun k hk' => ?_, rfl, fun b o e => Heap.get?_push_of_some _ (F1.keep b o e), ⟨Nat.ne_of_lt hL1, ?_⟩⟩ rfl⟩
    · have hk2 : ∀ b o, h₁.get? b = some o → s''.heap.get? b = some o := fun b o e => hk' b o (Heap.get?_push_of_some _ e)
      exact ops_func (un := un + 1 + 1 + 1) B' X' T' ho hS hx (by omega) ⟨F1.ns.keeps hk2, fun b o e => hk2 b o (F1.keep b o e), F1.above⟩ ht
    · show (s.gens.push _)[k]? = s.gens[k]?
      rw [Array.getElem?_push, if_neg hk']
    · show s.heap.objs.size < (Heap.push h₁ _).objs.size
      rw [Heap.size_push]; exact Nat.lt_succ_of_lt hL1
theorem gen55_of {Q : Value → Shared → Prop} {oc : Value} {od : Option Addr} {osl : Array (Option Value)} {name qual : Str} {params : Arguments} {scope : Scope} {dV kV doc pm cdv ct : Value} {an : Option Addr} {body : List Stmt}
    (B : Below A₀ base outer h₀) (F : Fr h₀ Ll s.heap m) (X : (hd.heap_39 w.params).In h₀)
    (T : Top hd.view_39 (looseW hd.view_39 [Str.ofString "WHITESPACE_AFTER_COMMA_REGEX", Str.ofString "OPERATOR_REGEX"]) mean mg mb h₀)
    (ho : (hd.heap_39 w.params).lookup 55 = some ⟨oc, od, .func (fnOf name qual params body scope dV kV doc pm an cdv ct), osl⟩)
    (hk : cs.kind = .function) (hdp : dp + 10 < recursionLimit) (hu : un + 50 < cLine) (hx : x.cps.size ≤ 100) (ht : ComTells x.cps x.cps.size 0 all)
    (ret : ∀ I s', Made Challenge.rw_et5023_01.row.prog w (ktrTop dp un gd cn cs Ll al ccd cl outer) s.heap s.heap.objs.size I s.gens.size all s.gens s' → s'.os = s.os → Q (.ref I) s') :
    wpAny (model Challenge.rw_et5023_01.row.prog w) (ktrTop dp un gd cn cs Ll al ccd cl outer) (call (.ref 55) [.str x tx]) Q E s := by
  have X' := X.keeps F.keep
  have T' := T.keeps F.keep
  have B' : Below (ktrTop dp un gd cn cs Ll al ccd cl outer) base (envX cn cs Ll al ccd cl :: outer) s.heap := by
    have := pushX B F (env := envX cn cs Ll al ccd cl) rfl hk
    exact ⟨rfl, this.stays, this.frames⟩
  have X0 := X
  revert X; k_fill; intro X
  refine' (fun e => ?_ : _ → _) (lk_eq ?l1 ho)
  case l1 => k_is
  cases e
  refine wpAny_call ?_
  refine' codeAny_call_generator (show dp < recursionLimit by omega) (X' _ _ ho) rfl rfl rfl rfl (codeRec_of X' ?hcd) ?h
  case hcd => k_is
  case h =>
    refine wpAny_of_eq (a := [(Str.ofString "logical_line", Value.str x tx)]) rfl ?_
    refine wpAny_newFunctionEnv (by decide) (locs rfl) (fun h₁ hns hsb => ?_) rfl
    have F1 : Fr s.heap s.heap.objs.size h₁ (fun y => if y = Str.ofString "logical_line" then some (.str x tx) else none) := by
      refine Fr.congr ⟨hns, fun b o e => hsb.extBut b o (Nat.ne_of_lt (Heap.lt_size e)) (Heap.get?_push_of_some _ e), Nat.le_refl _⟩ fun y => ?_
      exact (lookup_ll y).symm
    have hL1 : s.heap.objs.size < h₁.objs.size := by
      obtain ⟨oL, es, ep, hoL, _⟩ := F1.ns
      exact Heap.lt_size hoL
    refine ⟨(T'.nolimit).keeps F1.keep, ret _ _ ⟨⟨_, _, _, Heap.get?_push_size _ rfl, rfl, rfl, rfl⟩, ⟨_, Array.getElem?_push_size, fun S s'' hS hk' => ?_⟩, fun k hk' => ?_, rfl, fun b o e => Heap.get?_push_of_some _ (F1.keep b o e), ⟨Nat.ne_of_lt hL1, ?_⟩⟩ rfl⟩
    · have hk2 : ∀ b o, h₁.get? b = some o → s''.heap.get? b = some o := fun b o e => hk' b o (Heap.get?_push_of_some _ e)
      exact coms_func (un := un + 1 + 1 + 1) B' X' T' ho hS hx (by omega) ⟨F1.ns.keeps hk2, fun b o e => hk2 b o (F1.keep b o e), F1.above⟩ ht
    · show (s.gens.push _)[k]? = s.gens[k]?
      rw [Array.getElem?_push, if_neg hk']
    · show s.heap.objs.size < (Heap.push h₁ _).objs.size
      rw [Heap.size_push]; exact Nat.lt_succ_of_lt hL1
theorem gen48 {Q : Value → Shared → Prop} (B : Below A₀ base outer h₀) (F : Fr h₀ Ll s.heap m) (X : (hd.heap_39 w.params).In h₀)
    (T : Top hd.view_39 (looseW hd.view_39 [Str.ofString "WHITESPACE_AFTER_COMMA_REGEX", Str.ofString "OPERATOR_REGEX"]) mean mg mb h₀)
    (hk : cs.kind = .function) (hdp : dp + 10 < recursionLimit) (hu : un + 50 < cLine) (hx : x.cps.size ≤ 100) (ht : OpTells x.cps x.cps.size 0 all)
    (ret : ∀ I s', Made Challenge.rw_et5023_01.row.prog w (ktrTop dp un gd cn cs Ll al ccd cl outer) s.heap s.heap.objs.size I s.gens.size all s.gens s' → s'.os = s.os → Q (.ref I) s') :
    wpAny (model Challenge.rw_et5023_01.row.prog w) (ktrTop dp un gd cn cs Ll al ccd cl outer) (call (.ref 48) [.str x tx]) Q E s := by
  have X0 := X
  revert X; k_fill; intro X
  refine' gen48_of B F X0 T ?lk hk hdp hu hx ht ret
  case lk => k_is
theorem gen55 {Q : Value → Shared → Prop} (B : Below A₀ base outer h₀) (F : Fr h₀ Ll s.heap m) (X : (hd.heap_39 w.params).In h₀)
    (T : Top hd.view_39 (looseW hd.view_39 [Str.ofString "WHITESPACE_AFTER_COMMA_REGEX", Str.ofString "OPERATOR_REGEX"]) mean mg mb h₀)
    (hk : cs.kind = .function) (hdp : dp + 10 < recursionLimit) (hu : un + 50 < cLine) (hx : x.cps.size ≤ 100) (ht : ComTells x.cps x.cps.size 0 all)
    (ret : ∀ I s', Made Challenge.rw_et5023_01.row.prog w (ktrTop dp un gd cn cs Ll al ccd cl outer) s.heap s.heap.objs.size I s.gens.size all s.gens s' → s'.os = s.os → Q (.ref I) s') :
    wpAny (model Challenge.rw_et5023_01.row.prog w) (ktrTop dp un gd cn cs Ll al ccd cl outer) (call (.ref 55) [.str x tx]) Q E s := by
  have X0 := X
  revert X; k_fill; intro X
  refine' gen55_of B F X0 T ?lk hk hdp hu hx ht ret
  case lk => k_is
end
end Mine

end
section
open PySem PySem.W PyProof.Rows PySem.Calls
open Sem (wp)
set_option Elab.async false
set_option maxRecDepth 100000
namespace Mine
section
variable {prog : Program} {w : World} {A : Around} {E : Value → Shared → Prop} {R : Result → Shared → Prop} {s : Shared} {env : Env}
theorem codeF_func {body : List Stmt}
    (h : wpF (qm prog w) (A.deeper env) (execs body env) (fun f s' => R (.ok (.ret (match f with | .ret v => v | _ => .none))) s') (fun _ _ => False) s) : codeF (qm prog w) A (.func body env) R s := by
  refine codeF_of_tree rfl ?_
  show wpF _ (A.deeper env) (do point; match ← (execs body env).onRaise (leaving env) with | .ret v => ret v | _ => ret .none) _ _ s
  refine wpF_bind (wpF_of (wpAny_point (wpF_bind (wpF_onRaise (wpF_mono h (fun f s' h' => ?_) fun _ _ x => x.elim)))))
  cases f <;> exact wpF_pure h'
theorem codeF_call_function {a : Addr} {args : Args} {o : Obj} {fd : FuncData} {body : List Stmt} (hroom : A.depth < recursionLimit)
    (ho : s.heap.get? a = some o)
    (hd' : o.data = .func fd) (hco : fd.scope.isCoroutine = false) (hgen : fd.scope.isGenerator = false) (hbody : fd.body = .stmts body) (hcd : s.heap.CodeRec fd.code fd.qualname)
    (h : wpAny (qm prog w) A.in1 (bindArgs fd args) (fun binds s₁ =>
      wpAny (qm prog w) A.in1 (newFunctionEnv fd.scope fd.globals fd.closure binds (fd.qualname ++ ".<locals>.") (some a) fd.code none fd.builtins)
        (fun env s₂ => s₂.heap.NoLimit ∧ codeF (qm prog w) A (.func body env) R s₂) (fun e s' => R (.error e) s') s₁) (fun e s' => R (.error e) s') s) :
    codeF (qm prog w) A (.call (.ref a) args) R s := by
  refine codeF_of_tree rfl ?_
  show wpF _ A.in1 (callAny (.ref a) args) _ _ s
  refine wpF_of ?_
  simp only [callAny]
  refine wpAny_bind (wpAny_load ho ?_)
  obtain ⟨c, oc, vs, tq, hc, hoc, hdc, hq⟩ := hcd
  simp only [hd', callFunction, hco, hgen, hbody, hc]
  rw [hc] at h
  refine wpAny_bind (m := field (.ref c) 1) (wpAny_field hoc hdc hq (wpAny_bind (wpAny_pure ?_)))
  exact wpAny_bind (wpAny_mono h (fun binds s₁ h₁ => wpAny_bind (wpAny_mono h₁ (fun env s₂ h₂ => wpAny_bind (wpAny_enterFrame h₂.1 hroom
    (wpAny_pure (And.intro rfl h₂.2)))) fun _ _ h' => h')) fun _ _ h' => h')
theorem codeF_call_def {a : Addr} {o : Obj} {fd : FuncData} {body : List Stmt} {args : Args} {binds : List (Str × Value)}
    (hroom : A.depth < recursionLimit) (ho : s.heap.get? a = some o) (hdata : o.data = .func fd) (hlim : s.heap.NoLimit) (hcd : s.heap.CodeRec fd.code fd.qualname)
    (hbody : fd.body = .stmts body) (hbind : bindArgs fd args = pure binds)
    (hcell : ∀ x ∈ fd.scope.names, x.2 ≠ .cell) (hloc : ∀ x ∈ binds, fd.scope.names.lookup x.1 = some .local)
    (h : ∀ h₀, Fr s.heap s.heap.objs.size h₀ (fun x => binds.reverse.lookup x) →
      wpF (qm prog w) (A.deeper (callEnv fd s.heap.objs.size a)) (execs body (callEnv fd s.heap.objs.size a)) (fun f s' => R (.ok (.ret (match f with | .ret v => v | _ => .none))) s') (fun _ _ => False)
        { s with heap := h₀, toks := s.toks + binds.length })
    (hco : fd.scope.isCoroutine = false) (hgen : fd.scope.isGenerator = false) (hk : fd.scope.kind = .function) :
    codeF (qm prog w) A (.call (.ref a) args) R s := by
  refine codeF_call_function hroom ho hdata hco hgen hbody hcd ?_
  rw [hbind]
  refine wpAny_pure (wpAny_newFunctionEnv hcell hloc (fun h₀ hns₀ hsb₀ => ⟨hlim.fresh _ hsb₀, codeF_func (h h₀ ⟨hns₀, fun b o e => ?_, Nat.le_refl _⟩)⟩) hk)
  exact hsb₀.extBut b o (Nat.ne_of_lt (Heap.lt_size e)) (Heap.get?_push_of_some _ e)
theorem wpF_For {M : Model} {target iter : PySem.Expr} {body orelse : List Stmt} {pos : Pos} {Q : Flow → Shared → Prop} (hs : ∀ x, foldedSetIterable iter env x = pure x)
    (h : wpF M A (eval iter env) (fun x s₁ => wpF M A (pyIter x) (fun it s₂ => codeF M A (.forLoop target it body orelse env) (fun r s' => match r with | .ok f => Q f s' | .error _ => False) s₂) (fun _ _ => False) s₁) (fun _ _ => False) s) :
    wpF M A (exec (.For target iter body orelse pos) env) Q E s := by
  rw [exec_For]
  refine wpF_bind (wpF_of (wpAny_standAt (wpF_bind (wpF_mono h (fun x s₁ h₁ => ?_) fun _ _ x => x.elim))))
  rw [hs x]
  refine wpF_bind (wpF_pure (wpF_bind (wpF_of (wpAny_standAt (wpF_bind (wpF_holding (wpF_mono h₁ (fun it s₂ h₂ => ?_) fun _ _ x => x.elim)))))))
  show wpF M A (runOwn (.forLoop target it body orelse env) env) Q E s₂
  unfold runOwn
  refine wpF_onRaise fun Γ p hΓ f1 f2 => ?_
  rw [Sem.wp_run]
  refine wpCode_mono (fun r s' hr => ?_) (h₂ _ p rfl (hΓ.enter _ none p (by intro x; cases x)) (free_cons f1 f2))
  cases r with
  | ok f => exact hr
  | error e => exact hr.elim
theorem codeF_forLoop {x : Str} {px : Pos} {it : Value} {body : List Stmt} (hw : A.under (.forLoop (.Name x px) it body [] env) = A)
    (h : wpF (qm prog w) A (pyNext it) (fun r s₁ => match r with
      | none => R (.ok .next) s₁
      | some v => wpF (qm prog w) A (storeName env x v) (fun _ s₂ => wpF (qm prog w) A (execs body env) (fun f s₃ => match f with
          | .next | .cont => codeF (qm prog w) A (.forLoop (.Name x px) it body [] env) R s₃
          | .brk => R (.ok .next) s₃
          | .ret v => R (.ok (.ret v)) s₃) (fun _ _ => False) s₂) (fun _ _ => False) s₁) (fun _ _ => False) s) :
    codeF (qm prog w) A (.forLoop (.Name x px) it body [] env) R s := by
  refine codeF_of_tree rfl ?_
  rw [hw]
  show wpF _ A ((forTurn (.Name x px) it body [] env).onRaise (fun x => do noteFrame x env; theTreesLotGoes x)) _ _ s
  refine wpF_onRaise ?_
  simp only [forTurn]
  refine wpF_bind (wpF_of (wpAny_standAt (wpF_bind (wpF_onRaise (wpF_mono h (fun r s₁ h₁ => ?_) fun _ _ x => x)))))
  cases r with
  | none =>
    refine wpF_pure ⟨rfl, ?_⟩
    refine codeF_of_tree rfl ?_
    show wpF _ _ (do return Fin.done (← (execs [] env).onRaise (fun x => do noteFrame x env; theTreesLotGoes x))) _ _ s₁
    exact wpF_bind (wpF_onRaise (wpF_pure (wpF_pure h₁)))
  | some v =>
    show wpF _ A (assign (.Name x px) env v >>= _) _ _ s₁
    refine wpF_bind (wpF_assign (wpF_mono h₁ (fun _ s₂ h₂ => wpF_bind (wpF_mono h₂ (fun f s₃ h₃ => ?_) fun _ _ x => x)) fun _ _ x => x))
    cases f with
    | next => exact wpF_pure ⟨rfl, h₃⟩
    | cont => exact wpF_pure ⟨rfl, h₃⟩
    | brk => exact wpF_pure h₃
    | ret v => exact wpF_pure h₃
theorem f_args1 {M : Model} {f : Value} {t : Sem Value} {Q : Args → Shared → Prop} (h : wpF M A t (fun v s' => Q ⟨[v], []⟩ s') E s) : wpF M A (evalArgs f true [(false, t)] []) Q E s := by
  unfold evalArgs
  show wpF M A (spliced [(false, t)] >>= _) Q E s
  refine wpF_bind ?_
  rw [spliced]
  refine wpF_bind (wpF_mono h (fun v s₁ h₁ => ?_) fun _ _ x => x)
  simp only [Bool.false_eq_true, if_false]
  refine wpF_bind (wpF_pure (wpF_bind (wpF_holding (wpF_pure (wpF_pure ?_)))))
  refine wpF_holding ?_
  exact wpF_bind (wpF_pure (wpF_bind (wpF_pure (wpF_pure h₁))))
theorem f_callWith_builtin {M : Model} {pos : Pos} {id : String} {first : List Value} {t : Sem Value} {Q : Value → Shared → Prop}
    (h : wpF M A t (fun v s₁ => wpF M A (call (.builtin id) (first ++ [v])) Q E s₁) E s) : wpF M A (callWith pos (.builtin id) first [(false, t)] []) Q E s := by
  unfold callWith
  refine wpF_bind (wpF_holding (f_args1 (wpF_mono h (fun v s₁ h₁ => wpF_bind (wpF_of (wpAny_standAt ?_))) fun _ _ x => x)))
  simp only [List.any_cons, List.any_nil, Bool.or_false]
  refine wpF_bind (wpF_pure ?_)
  exact wpF_bind (wpF_mono h₁ (fun r s₂ hr => wpF_bind (wpF_holding (wpF_of (wpAny_point (wpF_pure hr))))) fun _ _ x => x)
theorem f_callWith_type {M : Model} {pos : Pos} {T : String} {first : List Value} {t : Sem Value} {Q : Value → Shared → Prop}
    (h : wpF M A t (fun v s₁ => wpF M A (call (.type T) (first ++ [v])) Q E s₁) E s) : wpF M A (callWith pos (.type T) first [(false, t)] []) Q E s := by
  unfold callWith
  refine wpF_bind (wpF_holding (f_args1 (wpF_mono h (fun v s₁ h₁ => wpF_bind (wpF_of (wpAny_standAt ?_))) fun _ _ x => x)))
  simp only [List.any_cons, List.any_nil, Bool.or_false]
  refine wpF_bind (wpF_pure ?_)
  exact wpF_bind (wpF_mono h₁ (fun r s₂ hr => wpF_bind (wpF_holding (wpF_of (wpAny_point (wpF_pure hr))))) fun _ _ x => x)
end
end Mine

end
section
open PySem PySem.W PyProof.Rows PySem.Calls
open Sem (wp)
set_option Elab.async false
set_option maxRecDepth 100000
namespace Mine
section
variable {prog : Program} {w : World} {A : Around} {E : Value → Shared → Prop} {s : Shared} {env : Env}
theorem f_method1 {o arg : PySem.Expr} {name : Str} {apos pos : Pos} {pl : Sem Bool} {id : String} {first : List Value} {Q : Value → Shared → Prop}
    (h : wpAny (model prog w) A (eval o env) (fun ov s₁ => wpAny (model prog w) A (getMethod ov name pl) (fun fx s₂ => fx = (.builtin id, first) ∧
      wpF (qm prog w) A (eval arg env) (fun v s₃ => wpF (qm prog w) A (call (.builtin id) (first ++ [v])) Q E s₃) E s₂) E s₁) E s)
    (he : eval (.Call (.Attribute o name apos) [arg] [] pos) env = (do
      let ov ← eval o env
      standAt apos.atName
      let (f, first) ← holding [ov] (getMethod ov name pl)
      callWith pos f first (backTo pos (starEach [arg] env)) []) := by rfl) (hst : starEach [arg] env = [(false, eval arg env)] := by rfl) :
    wpF (qm prog w) A (eval (.Call (.Attribute o name apos) [arg] [] pos) env) Q E s := by
  rw [he]
  refine wpF_bind (wpF_of (up (wpAny_mono h (fun ov s₁ h₁ => wpF_bind (wpF_of (wpAny_standAt (wpF_bind (wpF_holding (wpF_of (up (wpAny_mono h₁ (fun fx s₂ h₂ => ?_) fun _ _ x => x)))))))) fun _ _ x => x)))
  obtain ⟨rfl, h3⟩ := h₂
  rw [hst]
  exact f_callWith_builtin h3
theorem f_typecall1 {fn arg : PySem.Expr} {pos : Pos} {T : String} {Q : Value → Shared → Prop}
    (h : wpAny (model prog w) A (eval fn env) (fun f s₁ => f = .type T ∧ wpF (qm prog w) A (eval arg env) (fun v s₂ => wpF (qm prog w) A (call (.type T) [v]) Q E s₂) E s₁) E s)
    (he : eval (.Call fn [arg] [] pos) env = (do callWith pos (← eval fn env) [] (backTo pos (starEach [arg] env)) (backToKw pos (keywordEach [] env))) := by rfl) (hst : starEach [arg] env = [(false, eval arg env)] := by rfl) :
    wpF (qm prog w) A (eval (.Call fn [arg] [] pos) env) Q E s := by
  rw [he]
  refine wpF_bind (wpF_of (up (wpAny_mono h (fun f s₁ h₁ => ?_) fun _ _ x => x)))
  obtain ⟨rfl, h3⟩ := h₁
  rw [hst]
  exact f_callWith_type h3
theorem f_Expr {e : PySem.Expr} {pos : Pos} {Q : Flow → Shared → Prop} (h : wpF (qm prog w) A (eval e env) (fun v s' => v = .none ∧ Q .next s') E s)
    (hi : interactive env = false := by rfl) (hs : swapsWith e none pos.line env = pure false := by rfl) : wpF (qm prog w) A (exec (.Expr e pos) env) Q E s := by
  rw [exec_Expr env e pos hi hs]
  refine wpF_bind (wpF_of (wpAny_standAt (wpF_bind (wpF_mono h (fun v s' h' => ?_) fun _ _ x => x))))
  obtain ⟨rfl, h3⟩ := h'
  have hd : dropValue e pos .none = pure .next := dropValue_plain (fun a h => by cases h)
  rw [hd]
  exact wpF_pure h3
end
end Mine

end
section
open PySem PySem.W PyProof.Rows PySem.Calls
open Sem (wp)
set_option Elab.async false
set_option maxRecDepth 100000
namespace Mine
theorem add_fitA {x : Str} {W : List Str} {k : Nat} (hx : x.length ≤ 1000) (h : ∀ k, ((W.getD k Str.empty).length : Int) ≤ 10) : x.length + (W.getD k Str.empty).length ≤ sizeLine := by
  have := h k
  rw [sizeLine_eq]; omega
theorem add_fitB {x : Str} {W V : List Str} {k j : Nat} (hx : x.length ≤ 1000) (h : ∀ k, ((W.getD k Str.empty).length : Int) ≤ 10) (h2 : ∀ k, ((V.getD k Str.empty).length : Int) ≤ 10) : (x ++ W.getD k Str.empty).length + (V.getD j Str.empty).length ≤ sizeLine := by
  have := h k
  have := h2 j
  have e : (x ++ W.getD k Str.empty).length = x.length + (W.getD k Str.empty).length := by
    show (x.cps ++ (W.getD k Str.empty).cps).size = _
    rw [Array.size_append]; rfl
  rw [sizeLine_eq, e]; omega
end Mine
namespace Mine
local macro_rules | `(tactic| walk_at "binaryOp Add str str") => `(tactic| (k_here; (with_reducible show wpAny _ _ (binaryOp Operator.Add (Value.str _ _) (Value.str _ _)) _ _ _); (refine' PyProof.Rows.add_str ?_ ?z; (case z => first | exact add_fitA (by assumption) (by assumption) | exact add_fitB (by assumption) (by assumption) (by assumption))); intro tA' kA'))
local macro_rules | `(tactic| walk_at "call builtin:list.append") => `(tactic| (k_here; k_dflt (refine' append_hole ?F ?N ?H ?ap ?_ ?z; (case F => k_asm); (case N => k_asm); (case H => first | exact at0 | exact at1 | exact at2 | exact at3 | exact at4 | exact at5 | exact at6 | exact at7 | exact at8); (case ap => first | apply_assumption | ((simp only [List.eraseIdx_cons_succ, List.eraseIdx_cons_zero]); k_all)); (case z => first | assumption | apply_assumption); k_whole); intro h' F' N'; (try simp only [List.set_cons_succ, List.set_cons_zero] at N')))
local macro_rules | `(tactic| k_all) => `(tactic| with_reducible assumption)
local macro_rules | `(tactic| k_all) => `(tactic| (with_reducible apply allLt_ne; with_reducible assumption))
local macro_rules | `(tactic| walk_at "pyIter ref") => `(tactic| (k_here; refine Mine.Stop.out ?_))
local macro_rules | `(tactic| walk_at "call ref") => `(tactic| (k_here; k_dflt (refine' row_spec ?B ?F ?X ?N ?ne ?rs ?T ?k ?v ?so ?dp ?_; (case B => k_asm); (case F => k_asm); (case X => k_asm); (case T => k_asm); (case N => k_asm); (case ne => assumption); (case rs => assumption); (case k => first | rfl | assumption); (case v => assumption); (case so => assumption); (case dp => ktr_room); k_whole); intro P' G' k' g' i' sd' u1' u2' kk' tup' pi' sp' vp' vg' np' h' tk' hrow' hl1' hl2' hgm' hsp' hsg' hst' F' N' o1' o2' o3'))
local macro_rules | `(tactic| walk_at "call ref") => `(tactic| (k_here; k_dflt (refine' ops_spec ?B ?F ?X ?N ?T ?k ?hp ?hg ?hlen ?hP ?hpl ?hgl ?dp ?_; (case B => k_asm); (case F => k_asm); (case X => k_asm); (case T => k_asm); (case N => k_asm); (case k => first | rfl | assumption); (case hp => assumption); (case hg => assumption); (case hlen => assumption); (case hP => assumption); (case hpl => assumption); (case hgl => assumption); (case dp => ktr_room); k_whole); intro due' vd' nd' tl' h' tk' hD' F' N' off' ord'))
local macro_rules | `(tactic| walk_at "call ref") => `(tactic| (k_here; k_dflt (refine' coms_spec ?B ?F ?X ?N ?T ?k ?hp ?hg ?hlen ?hP ?hpl ?hgl ?dp ?_; (case B => k_asm); (case F => k_asm); (case X => k_asm); (case T => k_asm); (case N => k_asm); (case k => first | rfl | assumption); (case hp => assumption); (case hg => assumption); (case hlen => assumption); (case hP => assumption); (case hpl => assumption); (case hgl => assumption); (case dp => ktr_room); k_whole); intro due' vd' nd' tl' h' tk' hD' F' N' off' ord'))
local macro_rules | `(tactic| walk_at "subscriptTail") => `(tactic| (k_here; (with_reducible show wpAny _ _ (subscriptTail _ _ (Value.ref _) (Value.int _ _)) _ _ _); k_dflt (refine' KTb.item_list ?ktbl ?ktbw ?ktb0 ?ktb1 ?ktbf ?_; (case ktbl => exact News.isList (by k_asm) (by k_mem)); (case ktbw => first | assumption | (repeat constructor)); (case ktb0 => omega); (case ktb1 => ((try simp only [List.length_cons, List.length_nil]); omega)); (case ktbf => omega)); intro tI' ltI'))
local macro_rules | `(tactic| walk_at "call builtin:len") => `(tactic| (k_here; (with_reducible show wpAny _ _ (call (Value.builtin "len") [Value.ref _]) _ _ _); k_dflt (refine' len_strs ?L ?S ?B ?_; (case L => exact News.isList (by k_asm) (by k_mem)); (case S => assumption); (case B => omega)); intro tL' kL'))
section
variable {w : World} {dp un : Nat} {gd : Option (List Code)} {fa : Addr} {outer : List Env} {A₀ : Around} {base h₀ : Heap} {L : Addr} {u : Str → Option Value} {rest : List (Addr × Obj)} {s : Shared}
    {mean : ExcName → Option Value} {mg mb : Str → Option Value} {E : Value → Shared → Prop}
    {oc : Value} {od : Option Addr} {osl : Array (Option Value)} {name qual : Str} {params : Arguments} {scope : Scope} {dV kV doc pm cdv cdw ct : Value} {an : Option Addr}
    {a1 a2 a3 b1 b2 b3 b4 b5 b6 b7 b8 r1 : Stmt} {tg itx : PySem.Expr} {oe : List Stmt} {q1 : Pos}
    {st td du ls pi sp : Addr} {vs vp vg vt vd : List Value} {ns : List Int} {P G : List Str} {i sd : Int} {t1 t2 t3 : Tok} {n n' np ng nt nd : Nat} {x : Str}
set_option pp.maxSteps 3000
set_option maxHeartbeats 8000000 in
theorem w_b1 {Q : Flow → Shared → Prop} (B : Below A₀ base outer h₀) (F : Fr h₀ L s.heap (fun y => if y = Str.ofString "state" then some (.ref st) else if y = Str.ofString "told" then some (.ref td) else if y = Str.ofString "due" then some (.ref du) else u y)) (X : (hd.heap_39 w.params).In h₀)
    (T : Top hd.view_39 (looseW hd.view_39 [Str.ofString "WHITESPACE_AFTER_COMMA_REGEX", Str.ofString "OPERATOR_REGEX"]) mean mg mb h₀)
    (ho : (hd.heap_39 w.params).lookup 104 = some ⟨oc, od, .func (fnOf name qual params [a1, a2, a3, .For tg itx [b1, b2, b3, b4, b5, b6, b7, b8] oe q1, r1] scope dV kV doc pm an cdw ct), osl⟩)
    (N : News h₀ L s.heap ((st, W.listOf [.ref ls, .int i t1, .int sd t2].toArray n) :: (ls, W.listOf vs.toArray n') :: rest))
    (hne : ls ≠ st) (hrest : ∀ p ∈ rest, p.1 ≠ st) (hv : IntsAre vs ns) (so : StOk ns i sd) (hdp : dp + 30 < recursionLimit)
    (ret : ∀ (P G : List Str) (k : Int) (g : Str) (i' sd' : Int) (u1 u2 : Tok) (kk : Nat) (pi sp : Addr) (vp vg : List Value) (np : Nat) h' tk', RowP P G k → 2 ≤ P.length → P.length ≤ 10 → g ∈ gapL → StrsAre vp P → StrsAre vg (G ++ [g]) → StOk ns i' sd' →
      Fr h₀ L h' (fun y => if y = Str.ofString "spaces" then some (.ref sp) else if y = Str.ofString "pieces" then some (.ref pi) else if y = Str.ofString "state" then some (.ref st) else if y = Str.ofString "told" then some (.ref td) else if y = Str.ofString "due" then some (.ref du) else u y) →
      News h₀ L h' ((sp, W.listOf vg.toArray 0) :: (pi, W.listOf vp.toArray np) :: (st, W.listOf [.ref ls, .int i' u1, .int sd' u2].toArray kk) :: (ls, W.listOf vs.toArray n') :: rest) →
      (st < pi ∧ ls < pi ∧ AllLt pi rest) → (pi < sp ∧ st < sp ∧ ls < sp ∧ AllLt sp rest) → Q .next { s with heap := h', toks := tk' }) :
    wpAny (model Challenge.rw_et5023_01.row.prog w) (ktrTop dp un gd qual scope L fa cdv [] outer) (exec b1 (envX qual scope L fa cdv [])) Q E s := by
  revert X; k_fill; intro X
  refine' (fun e => ?_ : _ → _) (lk_eq ?l1 ho)
  case l1 => k_is
  cases e
  clear ho
  k_steps
  exact ret _ _ _ _ _ _ _ _ _ _ _ _ _ _ _ _ (by assumption) (by assumption) (by assumption) (by assumption) (by assumption) (by assumption) (by assumption) (by assumption) (News.of (by assumption) fun _ hp => .tail _ hp) (by assumption) (by assumption)
set_option maxHeartbeats 8000000 in
theorem w_b2 {Q : Flow → Shared → Prop} (B : Below A₀ base outer h₀) (F : Fr h₀ L s.heap (fun y => if y = Str.ofString "spaces" then some (.ref sp) else if y = Str.ofString "pieces" then some (.ref pi) else if y = Str.ofString "state" then some (.ref st) else if y = Str.ofString "told" then some (.ref td) else if y = Str.ofString "due" then some (.ref du) else u y)) (X : (hd.heap_39 w.params).In h₀)
    (T : Top hd.view_39 (looseW hd.view_39 [Str.ofString "WHITESPACE_AFTER_COMMA_REGEX", Str.ofString "OPERATOR_REGEX"]) mean mg mb h₀)
    (ho : (hd.heap_39 w.params).lookup 104 = some ⟨oc, od, .func (fnOf name qual params [a1, a2, a3, .For tg itx [b1, b2, b3, b4, b5, b6, b7, b8] oe q1, r1] scope dV kV doc pm an cdw ct), osl⟩)
    (N : News h₀ L s.heap rest)
    (ret : ∀ t1 h' tk', Fr h₀ L h' (fun y => if y = Str.ofString "text" then some (.str (Str.ofString "") t1) else if y = Str.ofString "spaces" then some (.ref sp) else if y = Str.ofString "pieces" then some (.ref pi) else if y = Str.ofString "state" then some (.ref st) else if y = Str.ofString "told" then some (.ref td) else if y = Str.ofString "due" then some (.ref du) else u y) → News h₀ L h' rest → Q .next { s with heap := h', toks := tk' }) :
    wpAny (model Challenge.rw_et5023_01.row.prog w) (ktrTop dp un gd qual scope L fa cdv [] outer) (exec b2 (envX qual scope L fa cdv [])) Q E s := by
  revert X; k_fill; intro X
  refine' (fun e => ?_ : _ → _) (lk_eq ?l1 ho)
  case l1 => k_is
  cases e
  clear ho
  k_steps
  exact ret _ _ _ (by assumption) (by assumption)
set_option maxHeartbeats 8000000 in
theorem w_b4 {Q : Flow → Shared → Prop} (B : Below A₀ base outer h₀) (F : Fr h₀ L s.heap (fun y => if y = Str.ofString "text" then some (.str x t3) else if y = Str.ofString "spaces" then some (.ref sp) else if y = Str.ofString "pieces" then some (.ref pi) else if y = Str.ofString "state" then some (.ref st) else if y = Str.ofString "told" then some (.ref td) else if y = Str.ofString "due" then some (.ref du) else u y)) (X : (hd.heap_39 w.params).In h₀)
    (T : Top hd.view_39 (looseW hd.view_39 [Str.ofString "WHITESPACE_AFTER_COMMA_REGEX", Str.ofString "OPERATOR_REGEX"]) mean mg mb h₀)
    (ho : (hd.heap_39 w.params).lookup 104 = some ⟨oc, od, .func (fnOf name qual params [a1, a2, a3, .For tg itx [b1, b2, b3, b4, b5, b6, b7, b8] oe q1, r1] scope dV kV doc pm an cdw ct), osl⟩)
    (N : News h₀ L s.heap ((sp, W.listOf vg.toArray 0) :: rest)) (hg : StrsAre vg G) (hG : 1 ≤ G.length) (hG2 : G.length ≤ 20) (hx : x.length ≤ 1000) (hgl : ∀ k, ((G.getD k Str.empty).length : Int) ≤ 10)
    (ret : ∀ t1 h' tk', Fr h₀ L h' (fun y => if y = Str.ofString "text" then some (.str (x ++ G.getD (G.length - 1) Str.empty) t1) else if y = Str.ofString "text" then some (.str x t3) else if y = Str.ofString "spaces" then some (.ref sp) else if y = Str.ofString "pieces" then some (.ref pi) else if y = Str.ofString "state" then some (.ref st) else if y = Str.ofString "told" then some (.ref td) else if y = Str.ofString "due" then some (.ref du) else u y) → News h₀ L h' ((sp, W.listOf vg.toArray 0) :: rest) → Q .next { s with heap := h', toks := tk' }) :
    wpAny (model Challenge.rw_et5023_01.row.prog w) (ktrTop dp un gd qual scope L fa cdv [] outer) (exec b4 (envX qual scope L fa cdv [])) Q E s := by
  revert X; k_fill; intro X
  refine' (fun e => ?_ : _ → _) (lk_eq ?l1 ho)
  case l1 => k_is
  cases e
  clear ho
  k_steps
  (rename Fr _ _ _ _ => FX)
  rw [show (-1 + (G.length : Int)).toNat = G.length - 1 by omega] at FX
  exact ret _ _ _ FX (by assumption)
set_option maxHeartbeats 8000000 in
theorem w_b6 {Q : Flow → Shared → Prop} (B : Below A₀ base outer h₀) (F : Fr h₀ L s.heap (fun y => if y = Str.ofString "text" then some (.str x t3) else if y = Str.ofString "spaces" then some (.ref sp) else if y = Str.ofString "pieces" then some (.ref pi) else if y = Str.ofString "state" then some (.ref st) else if y = Str.ofString "told" then some (.ref td) else if y = Str.ofString "due" then some (.ref du) else u y)) (X : (hd.heap_39 w.params).In h₀)
    (T : Top hd.view_39 (looseW hd.view_39 [Str.ofString "WHITESPACE_AFTER_COMMA_REGEX", Str.ofString "OPERATOR_REGEX"]) mean mg mb h₀)
    (ho : (hd.heap_39 w.params).lookup 104 = some ⟨oc, od, .func (fnOf name qual params [a1, a2, a3, .For tg itx [b1, b2, b3, b4, b5, b6, b7, b8] oe q1, r1] scope dV kV doc pm an cdw ct), osl⟩)
    (N : News h₀ L s.heap ((sp, W.listOf vg.toArray 0) :: (pi, W.listOf vp.toArray np) :: (du, W.listOf vd.toArray nd) :: rest)) (hp : StrsAre vp P) (hg : StrsAre vg G) (hlen : G.length = P.length + 1) (hP : P.length ≤ 10) (hpl : ∀ k, ((P.getD k Str.empty).length : Int) ≤ 10) (hgl : ∀ k, ((G.getD k Str.empty).length : Int) ≤ 10)
    (hds : du ≠ sp) (hdq : du ≠ pi) (hdr : ∀ p ∈ rest, p.1 ≠ du) (hvd : vd.toArray.size ≤ sizeLine) (hdp : dp + 30 < recursionLimit)
    (ret : ∀ (dd : Addr) (vdd : List Value) (ndd : Nat) (tl : List (Addr × Obj)) h' tk', DatAll tl vdd (opsUp P G P.length).2.2 → Fr h₀ L h' (fun y => if y = Str.ofString "text" then some (.str x t3) else if y = Str.ofString "spaces" then some (.ref sp) else if y = Str.ofString "pieces" then some (.ref pi) else if y = Str.ofString "state" then some (.ref st) else if y = Str.ofString "told" then some (.ref td) else if y = Str.ofString "due" then some (.ref du) else u y) →
      News h₀ L h' ((dd, W.listOf vdd.toArray ndd) :: (sp, W.listOf vg.toArray 0) :: (pi, W.listOf vp.toArray np) :: (du, W.listOf (vd ++ [Value.ref dd]).toArray (nd + 1)) :: (rest ++ tl)) →
      OwnOff tl (dd :: sp :: pi :: du :: rest.map (·.1)) → (sp < dd ∧ pi < dd ∧ du < dd ∧ AllLt dd rest) → Q .next { s with heap := h', toks := tk' }) :
    wpAny (model Challenge.rw_et5023_01.row.prog w) (ktrTop dp un gd qual scope L fa cdv [] outer) (exec b6 (envX qual scope L fa cdv [])) Q E s := by
  revert X; k_fill; intro X
  refine' (fun e => ?_ : _ → _) (lk_eq ?l1 ho)
  case l1 => k_is
  cases e
  clear ho
  k_steps
  (rename Fr _ _ _ _ => FX)
  (rename News _ _ _ _ => NX)
  (rename OwnOff _ _ => OX)
  (rename _ < _ ∧ _ => ord)
  obtain ⟨o1, o2, o3, o4⟩ := ord
  simp only [List.cons_append] at NX
  refine append_hole (j := 3) FX NX rfl ?_ (fun h' F' N' => ?_) hvd
  · intro p hp
    simp only [List.eraseIdx_cons_succ, List.eraseIdx_cons_zero, List.mem_cons, List.mem_append] at hp
    rcases hp with rfl | rfl | rfl | hp | hp
    · exact (Nat.ne_of_lt o3).symm
    · exact Ne.symm hds
    · exact Ne.symm hdq
    · exact hdr p hp
    · exact OX p hp du (by simp)
  · simp only [List.set_cons_succ, List.set_cons_zero, List.push_toArray] at N'
    exact ret _ _ _ _ _ _ (by assumption) F' N' OX ⟨o1, o2, o3, o4⟩
set_option maxHeartbeats 8000000 in
theorem w_b8 {Q : Flow → Shared → Prop} (B : Below A₀ base outer h₀) (F : Fr h₀ L s.heap (fun y => if y = Str.ofString "text" then some (.str x t3) else if y = Str.ofString "spaces" then some (.ref sp) else if y = Str.ofString "pieces" then some (.ref pi) else if y = Str.ofString "state" then some (.ref st) else if y = Str.ofString "told" then some (.ref td) else if y = Str.ofString "due" then some (.ref du) else u y)) (X : (hd.heap_39 w.params).In h₀)
    (T : Top hd.view_39 (looseW hd.view_39 [Str.ofString "WHITESPACE_AFTER_COMMA_REGEX", Str.ofString "OPERATOR_REGEX"]) mean mg mb h₀)
    (ho : (hd.heap_39 w.params).lookup 104 = some ⟨oc, od, .func (fnOf name qual params [a1, a2, a3, .For tg itx [b1, b2, b3, b4, b5, b6, b7, b8] oe q1, r1] scope dV kV doc pm an cdw ct), osl⟩)
    (N : News h₀ L s.heap ((sp, W.listOf vg.toArray 0) :: (pi, W.listOf vp.toArray np) :: (du, W.listOf vd.toArray nd) :: rest)) (hp : StrsAre vp P) (hg : StrsAre vg G) (hlen : G.length = P.length + 1) (hP : P.length ≤ 10) (hpl : ∀ k, ((P.getD k Str.empty).length : Int) ≤ 10) (hgl : ∀ k, ((G.getD k Str.empty).length : Int) ≤ 10)
    (hds : du ≠ sp) (hdq : du ≠ pi) (hdr : ∀ p ∈ rest, p.1 ≠ du) (hvd : vd.toArray.size ≤ sizeLine) (hdp : dp + 30 < recursionLimit)
    (ret : ∀ (dd : Addr) (vdd : List Value) (ndd : Nat) (tl : List (Addr × Obj)) h' tk', DatAll tl vdd (comUp P G P.length).2.2 → Fr h₀ L h' (fun y => if y = Str.ofString "text" then some (.str x t3) else if y = Str.ofString "spaces" then some (.ref sp) else if y = Str.ofString "pieces" then some (.ref pi) else if y = Str.ofString "state" then some (.ref st) else if y = Str.ofString "told" then some (.ref td) else if y = Str.ofString "due" then some (.ref du) else u y) →
      News h₀ L h' ((dd, W.listOf vdd.toArray ndd) :: (sp, W.listOf vg.toArray 0) :: (pi, W.listOf vp.toArray np) :: (du, W.listOf (vd ++ [Value.ref dd]).toArray (nd + 1)) :: (rest ++ tl)) →
      OwnOff tl (dd :: sp :: pi :: du :: rest.map (·.1)) → (sp < dd ∧ pi < dd ∧ du < dd ∧ AllLt dd rest) → Q .next { s with heap := h', toks := tk' }) :
    wpAny (model Challenge.rw_et5023_01.row.prog w) (ktrTop dp un gd qual scope L fa cdv [] outer) (exec b8 (envX qual scope L fa cdv [])) Q E s := by
  revert X; k_fill; intro X
  refine' (fun e => ?_ : _ → _) (lk_eq ?l1 ho)
  case l1 => k_is
  cases e
  clear ho
  k_steps
  (rename Fr _ _ _ _ => FX)
  (rename News _ _ _ _ => NX)
  (rename OwnOff _ _ => OX)
  (rename _ < _ ∧ _ => ord)
  obtain ⟨o1, o2, o3, o4⟩ := ord
  simp only [List.cons_append] at NX
  refine append_hole (j := 3) FX NX rfl ?_ (fun h' F' N' => ?_) hvd
  · intro p hp
    simp only [List.eraseIdx_cons_succ, List.eraseIdx_cons_zero, List.mem_cons, List.mem_append] at hp
    rcases hp with rfl | rfl | rfl | hp | hp
    · exact (Nat.ne_of_lt o3).symm
    · exact Ne.symm hds
    · exact Ne.symm hdq
    · exact hdr p hp
    · exact OX p hp du (by simp)
  · simp only [List.set_cons_succ, List.set_cons_zero, List.push_toArray] at N'
    exact ret _ _ _ _ _ _ (by assumption) F' N' OX ⟨o1, o2, o3, o4⟩
end
end Mine

end
section
open PySem PySem.W PyProof.Rows PySem.Calls
open Sem (wp)
set_option Elab.async false
set_option maxRecDepth 100000
namespace Mine
def textUp (P G : List Str) : Nat → Str
  | 0 => Str.ofString ""
  | k + 1 => textUp P G k ++ G.getD k Str.empty ++ P.getD k Str.empty
theorem str_app_len (x y : Str) : (x ++ y).length = x.length + y.length := by
  show (x.cps ++ y.cps).size = _
  rw [Array.size_append]; rfl
theorem textUp_len {P G : List Str} (hp : ∀ k, ((P.getD k Str.empty).length : Int) ≤ 10) (hg : ∀ k, ((G.getD k Str.empty).length : Int) ≤ 10) : ∀ k, (textUp P G k).length ≤ 20 * k
  | 0 => Nat.zero_le _
  | k + 1 => by
    have := textUp_len hp hg k
    have a := hp k
    have b := hg k
    show (textUp P G k ++ G.getD k Str.empty ++ P.getD k Str.empty).length ≤ _
    rw [str_app_len, str_app_len]
    omega
def psT (c : Str × Tok) : List (Str × Value) := [(Str.ofString "text", .str c.1 c.2)]
abbrev TextEnd (h₀ : Heap) (env : Env) (cst : List (Addr × Obj)) (P G : List Str) (m₀ : Str → Option Value) (pre : List Int) (at_ : Int) (own : List (Addr × Obj)) (s : Shared) (Q : Flow → Shared → Prop) : Flow → Shared → Prop :=
  InvPostN h₀ env.locals (KstS (fun (_ : Str × Tok) => cst) psT (fun _ => True) (Str.ofString "at") [] m₀ (fun (pre : List Int) c => c.1 = textUp P G pre.length) (pre ++ [at_])) own (cst.map (·.1)) s Q
section
variable {prog : Program} {w : World} {A : Around} {E : Value → Shared → Prop} {s : Shared} {env : Env} {h₀ : Heap} {body : List Stmt} {Q : Flow → Shared → Prop} {P G : List Str}
theorem text_rule {r : Addr} {b₀ : Int} {t₀ u₀ v₀ tx : Tok} {m₀ : Str → Option Value} {cst : List (Addr × Obj)}
    (hh : A.handled = none) (hr : IsRange s.heap r 0 b₀ 1 t₀ u₀ v₀) (hn : 0 ≤ b₀) (hn2 : b₀ ≤ 100) (F : Fr h₀ env.locals s.heap m₀)
    (N : News h₀ env.locals s.heap cst) (hk : m₀ (Str.ofString "text") = some (.str (Str.ofString "") tx))
    (turn : ∀ (c : Str × Tok) (pre : List Int) (at_ : Int) t (u : Str → Option Value) h tk own, at_ = pre.length → at_ < b₀ → c.1 = textUp P G pre.length →
      Fr h₀ env.locals h (fun y => if y = Str.ofString "at" then some (.int at_ t) else if y = Str.ofString "text" then some (.str c.1 c.2) else m₀ y) → News h₀ env.locals h (cst ++ own) →
      wpAny (model prog w) A (execs body env) (TextEnd h₀ env cst P G m₀ pre at_ own { s with heap := h, toks := tk } Q) E { s with heap := h, toks := tk })
    (done : ∀ (c : Str × Tok) (u : Str → Option Value) h tk, c.1 = textUp P G b₀.toNat →
      Fr h₀ env.locals h (fun y => if y = Str.ofString "at" then u y else if y = Str.ofString "text" then some (.str c.1 c.2) else m₀ y) →
      News h₀ env.locals h cst → Q .next { s with heap := h, toks := tk }) :
    wpAny (model prog w) A (pyIter (.ref r)) (fun it s₂ => LoopAtV prog w A h₀ env (Str.ofString "at") body Q E it s₂) E s := by
  have hsz : Builtin.Range.rangeSize 0 b₀ 1 = ((b₀.toNat : Nat) : Int) := by
    rw [PySem.rangeSize_one]
    split <;> omega
  have hsm : Builtin.Range.small 0 b₀ 1 = true := small_one (by decide) (by decide) (by omega) (by omega)
  refine kst_range (σ := Str × Tok) (fun _ => cst) psT (fun _ => True) [] (fun pre c => c.1 = textUp P G pre.length) (Str.ofString "", tx) hh hr hsm hsz F N trivial ?_ rfl ?_ ?_
  · intro p hp
    rw [List.mem_singleton.mp hp]
    exact hk
  · intro c pre at_ t u h tk own e hlt hoff hf hp F' N'
    exact turn c pre at_ t u h tk own (by rw [e]; omega) (by omega) hp F' N'
  · intro c u h tk hf hp F' N'
    exact done c u h tk (by rw [hp, rangeKs_length]) F' N'
end
end Mine
namespace Mine
local macro_rules | `(tactic| walk_at "binaryOp Add str str") => `(tactic| (k_here; (with_reducible show wpAny _ _ (binaryOp Operator.Add (Value.str _ _) (Value.str _ _)) _ _ _); (refine' PyProof.Rows.add_str ?_ ?z; (case z => first | exact add_fitA (by assumption) (by assumption) | exact add_fitB (by assumption) (by assumption) (by assumption))); intro tA' kA'))
local macro_rules | `(tactic| walk_at "call builtin:list.append") => `(tactic| (k_here; k_dflt (refine' append_hole ?F ?N ?H ?ap ?_ ?z; (case F => k_asm); (case N => k_asm); (case H => first | exact at0 | exact at1 | exact at2 | exact at3 | exact at4 | exact at5 | exact at6 | exact at7 | exact at8); (case ap => first | apply_assumption | ((simp only [List.eraseIdx_cons_succ, List.eraseIdx_cons_zero]); k_all)); (case z => first | assumption | apply_assumption); k_whole); intro h' F' N'; (try simp only [List.set_cons_succ, List.set_cons_zero] at N')))
local macro_rules | `(tactic| k_all) => `(tactic| with_reducible assumption)
local macro_rules | `(tactic| k_all) => `(tactic| (with_reducible apply allLt_ne; with_reducible assumption))
local macro_rules | `(tactic| walk_at "pyIter ref") => `(tactic| (k_here; refine Mine.Stop.out ?_))
local macro_rules | `(tactic| walk_at "call ref") => `(tactic| (k_here; k_dflt (refine' row_spec ?B ?F ?X ?N ?ne ?rs ?T ?k ?v ?so ?dp ?_; (case B => k_asm); (case F => k_asm); (case X => k_asm); (case T => k_asm); (case N => k_asm); (case ne => assumption); (case rs => assumption); (case k => first | rfl | assumption); (case v => assumption); (case so => assumption); (case dp => ktr_room); k_whole); intro P' G' k' g' i' sd' u1' u2' kk' tup' pi' sp' vp' vg' np' h' tk' hrow' hl1' hl2' hgm' hsp' hsg' hst' F' N' o1' o2' o3'))
local macro_rules | `(tactic| walk_at "call ref") => `(tactic| (k_here; k_dflt (refine' ops_spec ?B ?F ?X ?N ?T ?k ?hp ?hg ?hlen ?hP ?hpl ?hgl ?dp ?_; (case B => k_asm); (case F => k_asm); (case X => k_asm); (case T => k_asm); (case N => k_asm); (case k => first | rfl | assumption); (case hp => assumption); (case hg => assumption); (case hlen => assumption); (case hP => assumption); (case hpl => assumption); (case hgl => assumption); (case dp => ktr_room); k_whole); intro due' vd' nd' tl' h' tk' hD' F' N' off' ord'))
local macro_rules | `(tactic| walk_at "call ref") => `(tactic| (k_here; k_dflt (refine' coms_spec ?B ?F ?X ?N ?T ?k ?hp ?hg ?hlen ?hP ?hpl ?hgl ?dp ?_; (case B => k_asm); (case F => k_asm); (case X => k_asm); (case T => k_asm); (case N => k_asm); (case k => first | rfl | assumption); (case hp => assumption); (case hg => assumption); (case hlen => assumption); (case hP => assumption); (case hpl => assumption); (case hgl => assumption); (case dp => ktr_room); k_whole); intro due' vd' nd' tl' h' tk' hD' F' N' off' ord'))
local macro_rules | `(tactic| walk_at "subscriptTail") => `(tactic| (k_here; (with_reducible show wpAny _ _ (subscriptTail _ _ (Value.ref _) (Value.int _ _)) _ _ _); k_dflt (refine' KTb.item_list ?ktbl ?ktbw ?ktb0 ?ktb1 ?ktbf ?_; (case ktbl => exact News.isList (by k_asm) (by k_mem)); (case ktbw => first | assumption | (repeat constructor)); (case ktb0 => omega); (case ktb1 => ((try simp only [List.length_cons, List.length_nil]); omega)); (case ktbf => omega)); intro tI' ltI'))
local macro_rules | `(tactic| walk_at "call builtin:len") => `(tactic| (k_here; (with_reducible show wpAny _ _ (call (Value.builtin "len") [Value.ref _]) _ _ _); k_dflt (refine' len_strs ?L ?S ?B ?_; (case L => exact News.isList (by k_asm) (by k_mem)); (case S => assumption); (case B => omega)); intro tL' kL'))
section
variable {w : World} {dp un : Nat} {gd : Option (List Code)} {fa : Addr} {outer : List Env} {A₀ : Around} {base h₀ : Heap} {L : Addr} {u : Str → Option Value} {rest : List (Addr × Obj)} {s : Shared}
    {mean : ExcName → Option Value} {mg mb : Str → Option Value} {E : Value → Shared → Prop}
    {oc : Value} {od : Option Addr} {osl : Array (Option Value)} {name qual : Str} {params : Arguments} {scope : Scope} {dV kV doc pm cdv cdw ct : Value} {an : Option Addr}
    {a1 a2 a3 b1 b2 b3 b4 b5 b6 b7 b8 r1 : Stmt} {tg itx : PySem.Expr} {oe : List Stmt} {q1 : Pos}
    {st td du ls pi sp : Addr} {vs vp vg vt vd : List Value} {ns : List Int} {P G : List Str} {i sd : Int} {t1 t2 t3 : Tok} {n n' np ng nt nd : Nat} {x : Str}
set_option pp.maxSteps 3000
set_option maxHeartbeats 8000000 in
theorem w_b3 {Q : Flow → Shared → Prop} (B : Below A₀ base outer h₀) (F : Fr h₀ L s.heap (fun y => if y = Str.ofString "text" then some (.str (Str.ofString "") t3) else if y = Str.ofString "spaces" then some (.ref sp) else if y = Str.ofString "pieces" then some (.ref pi) else if y = Str.ofString "state" then some (.ref st) else if y = Str.ofString "told" then some (.ref td) else if y = Str.ofString "due" then some (.ref du) else u y)) (X : (hd.heap_39 w.params).In h₀)
    (T : Top hd.view_39 (looseW hd.view_39 [Str.ofString "WHITESPACE_AFTER_COMMA_REGEX", Str.ofString "OPERATOR_REGEX"]) mean mg mb h₀)
    (ho : (hd.heap_39 w.params).lookup 104 = some ⟨oc, od, .func (fnOf name qual params [a1, a2, a3, .For tg itx [b1, b2, b3, b4, b5, b6, b7, b8] oe q1, r1] scope dV kV doc pm an cdw ct), osl⟩)
    (N : News h₀ L s.heap ((sp, W.listOf vg.toArray 0) :: (pi, W.listOf vp.toArray np) :: rest)) (hp : StrsAre vp P) (hg : StrsAre vg G) (hlen : G.length = P.length + 1) (hP : P.length ≤ 10) (hpl : ∀ k, ((P.getD k Str.empty).length : Int) ≤ 10) (hgl : ∀ k, ((G.getD k Str.empty).length : Int) ≤ 10)
    (ret : ∀ t1 v h' tk', Fr h₀ L h' (fun y => if y = Str.ofString "at" then v else if y = Str.ofString "text" then some (.str (textUp P G P.length) t1) else if y = Str.ofString "text" then some (.str (Str.ofString "") t3) else if y = Str.ofString "spaces" then some (.ref sp) else if y = Str.ofString "pieces" then some (.ref pi) else if y = Str.ofString "state" then some (.ref st) else if y = Str.ofString "told" then some (.ref td) else if y = Str.ofString "due" then some (.ref du) else u y) →
      News h₀ L h' ((sp, W.listOf vg.toArray 0) :: (pi, W.listOf vp.toArray np) :: rest) → Q .next { s with heap := h', toks := tk' }) :
    wpAny (model Challenge.rw_et5023_01.row.prog w) (ktrTop dp un gd qual scope L fa cdv [] outer) (exec b3 (envX qual scope L fa cdv [])) Q (fun _ _ => False) s := by
  revert X; k_fill; intro X
  refine' (fun e => ?_ : _ → _) (lk_eq ?l1 ho)
  case l1 => k_is
  cases e
  clear ho
  k_steps
  refine Stop.mk ?_
  k_dflt (refine' text_rule (P := P) (G := G) ?hh ?hr ?hn ?hn2 ?F ?N ?hk ?turn ?done; (case hh => exact rfl); (case hr => assumption); (case hn => omega); (case hn2 => omega); (case F => assumption); (case N => assumption); (case hk => rfl))
  case turn =>
    intro c pre at_ t u9 h tk own hat hlt hc F1 N1
    simp only [List.cons_append] at N1
    dsimp only at F1
    have hatn : at_.toNat = pre.length := by omega
    have hxl : c.1.length ≤ 1000 := by
      have := textUp_len hpl hgl pre.length
      rw [hc]; omega
    k_steps
    (rename Fr _ _ _ _ => FX)
    (rename News _ _ _ _ => NX)
    (rename Heap => hZ)
    obtain ⟨tA, FX⟩ : ∃ tA, Fr h₀ L hZ (fun y => if y = Str.ofString "text" then some (.str (c.1 ++ G.getD at_.toNat Str.empty ++ P.getD at_.toNat Str.empty) tA) else if y = Str.ofString "at" then some (.int at_ t) else if y = Str.ofString "text" then some (.str c.1 c.2) else if y = Str.ofString "text" then some (.str (Str.ofString "") t3) else if y = Str.ofString "spaces" then some (.ref sp) else if y = Str.ofString "pieces" then some (.ref pi) else if y = Str.ofString "state" then some (.ref st) else if y = Str.ofString "told" then some (.ref td) else if y = Str.ofString "due" then some (.ref du) else u y) := ⟨_, FX⟩
    refine kst_end (c := (c.1 ++ G.getD at_.toNat Str.empty ++ P.getD at_.toNat Str.empty, tA)) FX NX ?_ ?_ rfl trivial ?_ ?_ ?_
    · intro p hp
      simp only [List.mem_cons, List.mem_append] at hp ⊢
      rcases hp with h | h | h <;> simp [h]
    · intro p hp
      simp [hp]
    · intro p hp
      rw [List.mem_singleton.mp hp]
      rfl
    · intro z h1 h2 h3
      have z1 : z ≠ Str.ofString "text" := h2 _ (.head _)
      simp only [if_neg z1, if_neg h1]
    · rw [List.length_append, hatn, hc]
      rfl
  case done =>
    intro c u' h tk hc F1 N1
    have F2 := Fr.congr F1 (m' := fun y => if y = Str.ofString "at" then u' (Str.ofString "at") else if y = Str.ofString "text" then some (.str (textUp P G P.length) c.2) else if y = Str.ofString "text" then some (.str (Str.ofString "") t3) else if y = Str.ofString "spaces" then some (.ref sp) else if y = Str.ofString "pieces" then some (.ref pi) else if y = Str.ofString "state" then some (.ref st) else if y = Str.ofString "told" then some (.ref td) else if y = Str.ofString "due" then some (.ref du) else u y) (fun y => by
      by_cases h1 : y = Str.ofString "at"
      · rw [if_pos h1, if_pos h1, h1]
      · rw [if_neg h1, if_neg h1, hc]; rfl)
    exact ret _ _ _ _ F2 N1
end
end Mine

end
section
open PySem PySem.W PyProof.Rows PySem.Calls
open Sem (wp)
set_option Elab.async false
set_option maxRecDepth 100000
namespace Mine
local macro_rules | `(tactic| walk_at "binaryOp Add str str") => `(tactic| (k_here; (with_reducible show wpAny _ _ (binaryOp Operator.Add (Value.str _ _) (Value.str _ _)) _ _ _); (refine' PyProof.Rows.add_str ?_ ?z; (case z => first | exact add_fitA (by assumption) (by assumption) | exact add_fitB (by assumption) (by assumption) (by assumption))); intro tA' kA'))
local macro_rules | `(tactic| walk_at "call builtin:list.append") => `(tactic| (k_here; k_dflt (refine' append_hole ?F ?N ?H ?ap ?_ ?z; (case F => k_asm); (case N => k_asm); (case H => first | exact at0 | exact at1 | exact at2 | exact at3 | exact at4 | exact at5 | exact at6 | exact at7 | exact at8); (case ap => first | apply_assumption | ((simp only [List.eraseIdx_cons_succ, List.eraseIdx_cons_zero]); k_all)); (case z => first | assumption | apply_assumption); k_whole); intro h' F' N'; (try simp only [List.set_cons_succ, List.set_cons_zero] at N')))
local macro_rules | `(tactic| k_all) => `(tactic| with_reducible assumption)
local macro_rules | `(tactic| k_all) => `(tactic| (with_reducible apply allLt_ne; with_reducible assumption))
local macro_rules | `(tactic| walk_at "pyIter ref") => `(tactic| (k_here; refine Mine.Stop.out ?_))
local macro_rules | `(tactic| walk_at "call ref") => `(tactic| (k_here; k_dflt (refine' row_spec ?B ?F ?X ?N ?ne ?rs ?T ?k ?v ?so ?dp ?_; (case B => k_asm); (case F => k_asm); (case X => k_asm); (case T => k_asm); (case N => k_asm); (case ne => assumption); (case rs => assumption); (case k => first | rfl | assumption); (case v => assumption); (case so => assumption); (case dp => ktr_room); k_whole); intro P' G' k' g' i' sd' u1' u2' kk' tup' pi' sp' vp' vg' np' h' tk' hrow' hl1' hl2' hgm' hsp' hsg' hst' F' N' o1' o2' o3'))
local macro_rules | `(tactic| walk_at "call ref") => `(tactic| (k_here; k_dflt (refine' ops_spec ?B ?F ?X ?N ?T ?k ?hp ?hg ?hlen ?hP ?hpl ?hgl ?dp ?_; (case B => k_asm); (case F => k_asm); (case X => k_asm); (case T => k_asm); (case N => k_asm); (case k => first | rfl | assumption); (case hp => assumption); (case hg => assumption); (case hlen => assumption); (case hP => assumption); (case hpl => assumption); (case hgl => assumption); (case dp => ktr_room); k_whole); intro due' vd' nd' tl' h' tk' hD' F' N' off' ord'))
local macro_rules | `(tactic| walk_at "call ref") => `(tactic| (k_here; k_dflt (refine' coms_spec ?B ?F ?X ?N ?T ?k ?hp ?hg ?hlen ?hP ?hpl ?hgl ?dp ?_; (case B => k_asm); (case F => k_asm); (case X => k_asm); (case T => k_asm); (case N => k_asm); (case k => first | rfl | assumption); (case hp => assumption); (case hg => assumption); (case hlen => assumption); (case hP => assumption); (case hpl => assumption); (case hgl => assumption); (case dp => ktr_room); k_whole); intro due' vd' nd' tl' h' tk' hD' F' N' off' ord'))
local macro_rules | `(tactic| walk_at "subscriptTail") => `(tactic| (k_here; (with_reducible show wpAny _ _ (subscriptTail _ _ (Value.ref _) (Value.int _ _)) _ _ _); k_dflt (refine' KTb.item_list ?ktbl ?ktbw ?ktb0 ?ktb1 ?ktbf ?_; (case ktbl => exact News.isList (by k_asm) (by k_mem)); (case ktbw => first | assumption | (repeat constructor)); (case ktb0 => omega); (case ktb1 => ((try simp only [List.length_cons, List.length_nil]); omega)); (case ktbf => omega)); intro tI' ltI'))
local macro_rules | `(tactic| walk_at "call builtin:len") => `(tactic| (k_here; (with_reducible show wpAny _ _ (call (Value.builtin "len") [Value.ref _]) _ _ _); k_dflt (refine' len_strs ?L ?S ?B ?_; (case L => exact News.isList (by k_asm) (by k_mem)); (case S => assumption); (case B => omega)); intro tL' kL'))
local macro_rules | `(tactic| walk_at "call ref") => `(tactic| (k_here; k_dflt (refine' next_spec ?B ?F ?X ?N ?ne ?rs ?T ?k ?v ?so ?m0 ?dp ?_; (case B => k_asm); (case F => k_asm); (case X => k_asm); (case T => k_asm); (case N => k_asm); (case ne => assumption); (case rs => assumption); (case k => first | rfl | assumption); (case v => assumption); (case so => assumption); (case m0 => decide); (case dp => ktr_room); k_whole); intro r' i' sd' tr' u1' u2' k' h' tk' F' N' r0' r1' so'))
local macro_rules | `(tactic| walk_at "compareOp Eq ref ref") => `(tactic| (k_here; k_dflt (refine' kqd_eq ?N ?ma ?ca ?da ?Da ?sa ?mb ?cb ?db ?Db ?sb ?ha ?hb ?hu ?_; (case N => k_asm); (case ma => exact hmt); (case ca => rfl); (case da => rfl); (case Da => exact hDt); (case sa => assumption); (case mb => exact hmd); (case cb => rfl); (case db => rfl); (case Db => exact hDd); (case sb => assumption); (case ha => assumption); (case hb => assumption); (case hu => ktr_units))))
section
variable {w : World} {dp un : Nat} {gd : Option (List Code)} {fa : Addr} {outer : List Env} {A₀ : Around} {base h₀ : Heap} {L : Addr} {u : Str → Option Value} {rest : List (Addr × Obj)} {s : Shared}
    {mean : ExcName → Option Value} {mg mb : Str → Option Value} {E : Value → Shared → Prop}
    {oc : Value} {od : Option Addr} {osl : Array (Option Value)} {name qual : Str} {params : Arguments} {scope : Scope} {dV kV doc pm cdv cdw ct : Value} {an : Option Addr}
    {a1 a2 a3 b1 b2 b3 b4 b5 b6 b7 b8 r1 : Stmt} {tg itx : PySem.Expr} {oe : List Stmt} {q1 : Pos}
    {st td du ls pi sp : Addr} {vs vp vg vt vd : List Value} {ns : List Int} {P G : List Str} {i sd : Int} {t1 t2 t3 : Tok} {n n' np ng nt nd : Nat} {x : Str}
set_option pp.maxSteps 3000
set_option maxHeartbeats 8000000 in
theorem w_a1 {al : Addr} {Q : Flow → Shared → Prop} (B : Below A₀ base outer h₀) (F : Fr h₀ L s.heap (fun y => if y = Str.ofString "script" then some (.ref al) else none)) (X : (hd.heap_39 w.params).In h₀)
    (T : Top hd.view_39 (looseW hd.view_39 [Str.ofString "WHITESPACE_AFTER_COMMA_REGEX", Str.ofString "OPERATOR_REGEX"]) mean mg mb h₀)
    (ho : (hd.heap_39 w.params).lookup 104 = some ⟨oc, od, .func (fnOf name qual params [a1, a2, a3, .For tg itx [b1, b2, b3, b4, b5, b6, b7, b8] oe q1, r1] scope dV kV doc pm an cdw ct), osl⟩)
    (N : News h₀ L s.heap []) (hl : h₀.IsList al vs.toArray) (hv : IntsAre vs ns) (hlen : ns.length ≤ 63)
    (ret : ∀ st ls ws t1 t2 h' tk', IntsAre ws (ns.take 60) → ls < st → Fr h₀ L h' (fun y => if y = Str.ofString "state" then some (.ref st) else if y = Str.ofString "script" then some (.ref al) else none) → News h₀ L h' [(st, W.listOf [.ref ls, .int 0 t1, .int 17 t2].toArray 0), (ls, W.listOf ws.toArray 0)] → Q .next { s with heap := h', toks := tk' }) :
    wpAny (model Challenge.rw_et5023_01.row.prog w) (ktrTop dp un gd qual scope L fa cdv [] outer) (exec a1 (envX qual scope L fa cdv [])) Q E s := by
  revert X; k_fill; intro X
  refine' (fun e => ?_ : _ → _) (lk_eq ?l1 ho)
  case l1 => k_is
  cases e
  clear ho
  k_steps
  exact ret _ _ _ _ _ _ _ (by assumption) (by assumption) (by assumption) (by assumption)
set_option maxHeartbeats 8000000 in
theorem w_a2 {al : Addr} {Q : Flow → Shared → Prop} (B : Below A₀ base outer h₀) (F : Fr h₀ L s.heap (fun y => if y = Str.ofString "state" then some (.ref st) else if y = Str.ofString "script" then some (.ref al) else none)) (X : (hd.heap_39 w.params).In h₀)
    (T : Top hd.view_39 (looseW hd.view_39 [Str.ofString "WHITESPACE_AFTER_COMMA_REGEX", Str.ofString "OPERATOR_REGEX"]) mean mg mb h₀)
    (ho : (hd.heap_39 w.params).lookup 104 = some ⟨oc, od, .func (fnOf name qual params [a1, a2, a3, .For tg itx [b1, b2, b3, b4, b5, b6, b7, b8] oe q1, r1] scope dV kV doc pm an cdw ct), osl⟩)
    (N : News h₀ L s.heap rest)
    (ret : ∀ (td : Addr) h' tk', (∀ p ∈ rest, p.1 < td) → Fr h₀ L h' (fun y => if y = Str.ofString "told" then some (.ref td) else if y = Str.ofString "state" then some (.ref st) else if y = Str.ofString "script" then some (.ref al) else none) → News h₀ L h' ((td, W.listOf #[] 0) :: rest) → Q .next { s with heap := h', toks := tk' }) :
    wpAny (model Challenge.rw_et5023_01.row.prog w) (ktrTop dp un gd qual scope L fa cdv [] outer) (exec a2 (envX qual scope L fa cdv [])) Q E s := by
  revert X; k_fill; intro X
  refine' (fun e => ?_ : _ → _) (lk_eq ?l1 ho)
  case l1 => k_is
  cases e
  clear ho
  k_steps
  exact ret _ _ _ (by assumption) (by assumption) (by assumption)
set_option maxHeartbeats 8000000 in
theorem w_a3 {al : Addr} {Q : Flow → Shared → Prop} (B : Below A₀ base outer h₀) (F : Fr h₀ L s.heap (fun y => if y = Str.ofString "told" then some (.ref td) else if y = Str.ofString "state" then some (.ref st) else if y = Str.ofString "script" then some (.ref al) else none)) (X : (hd.heap_39 w.params).In h₀)
    (T : Top hd.view_39 (looseW hd.view_39 [Str.ofString "WHITESPACE_AFTER_COMMA_REGEX", Str.ofString "OPERATOR_REGEX"]) mean mg mb h₀)
    (ho : (hd.heap_39 w.params).lookup 104 = some ⟨oc, od, .func (fnOf name qual params [a1, a2, a3, .For tg itx [b1, b2, b3, b4, b5, b6, b7, b8] oe q1, r1] scope dV kV doc pm an cdw ct), osl⟩)
    (N : News h₀ L s.heap rest)
    (ret : ∀ (du : Addr) h' tk', (∀ p ∈ rest, p.1 < du) → Fr h₀ L h' (fun y => if y = Str.ofString "due" then some (.ref du) else if y = Str.ofString "told" then some (.ref td) else if y = Str.ofString "state" then some (.ref st) else if y = Str.ofString "script" then some (.ref al) else none) → News h₀ L h' ((du, W.listOf #[] 0) :: rest) → Q .next { s with heap := h', toks := tk' }) :
    wpAny (model Challenge.rw_et5023_01.row.prog w) (ktrTop dp un gd qual scope L fa cdv [] outer) (exec a3 (envX qual scope L fa cdv [])) Q E s := by
  revert X; k_fill; intro X
  refine' (fun e => ?_ : _ → _) (lk_eq ?l1 ho)
  case l1 => k_is
  cases e
  clear ho
  k_steps
  exact ret _ _ _ (by assumption) (by assumption) (by assumption)
set_option maxHeartbeats 8000000 in
theorem w_itx {Q : Value → Shared → Prop} (B : Below A₀ base outer h₀) (F : Fr h₀ L s.heap (fun y => if y = Str.ofString "state" then some (.ref st) else if y = Str.ofString "told" then some (.ref td) else if y = Str.ofString "due" then some (.ref du) else u y)) (X : (hd.heap_39 w.params).In h₀)
    (T : Top hd.view_39 (looseW hd.view_39 [Str.ofString "WHITESPACE_AFTER_COMMA_REGEX", Str.ofString "OPERATOR_REGEX"]) mean mg mb h₀)
    (ho : (hd.heap_39 w.params).lookup 104 = some ⟨oc, od, .func (fnOf name qual params [a1, a2, a3, .For tg itx [b1, b2, b3, b4, b5, b6, b7, b8] oe q1, r1] scope dV kV doc pm an cdw ct), osl⟩)
    (N : News h₀ L s.heap ((st, W.listOf [.ref ls, .int i t1, .int sd t2].toArray n) :: (ls, W.listOf vs.toArray n') :: rest))
    (hne : ls ≠ st) (hrest : ∀ p ∈ rest, p.1 ≠ st) (hv : IntsAre vs ns) (so : StOk ns i sd) (hdp : dp + 30 < recursionLimit)
    (ret : ∀ r b i' sd' u1 u2 kk t u' v h' tk', 1 ≤ b → b ≤ 3 → StOk ns i' sd' → IsRange h' r 0 b 1 t u' v → Fr h₀ L h' (fun y => if y = Str.ofString "state" then some (.ref st) else if y = Str.ofString "told" then some (.ref td) else if y = Str.ofString "due" then some (.ref du) else u y) →
      News h₀ L h' ((st, W.listOf [.ref ls, .int i' u1, .int sd' u2].toArray kk) :: (ls, W.listOf vs.toArray n') :: rest) → Q (.ref r) { s with heap := h', toks := tk' }) :
    wpAny (model Challenge.rw_et5023_01.row.prog w) (ktrTop dp un gd qual scope L fa cdv [] outer) (eval itx (envX qual scope L fa cdv [])) Q E s := by
  revert X; k_fill; intro X
  refine' (fun e => ?_ : _ → _) (lk_eq ?l1 ho)
  case l1 => k_is
  cases e
  clear ho
  k_steps
  refine ret _ _ _ _ _ _ _ _ _ _ _ _ ?_ ?_ (by assumption) (by assumption) (by assumption) (by assumption)
  · omega
  · omega
set_option maxHeartbeats 8000000 in
theorem w_r1 {led tl : List (Addr × Obj)} {D : List Dat} {Q : Flow → Shared → Prop} (B : Below A₀ base outer h₀) (F : Fr h₀ L s.heap (fun y => if y = Str.ofString "state" then some (.ref st) else if y = Str.ofString "told" then some (.ref td) else if y = Str.ofString "due" then some (.ref du) else u y)) (X : (hd.heap_39 w.params).In h₀)
    (T : Top hd.view_39 (looseW hd.view_39 [Str.ofString "WHITESPACE_AFTER_COMMA_REGEX", Str.ofString "OPERATOR_REGEX"]) mean mg mb h₀)
    (ho : (hd.heap_39 w.params).lookup 104 = some ⟨oc, od, .func (fnOf name qual params [a1, a2, a3, .For tg itx [b1, b2, b3, b4, b5, b6, b7, b8] oe q1, r1] scope dV kV doc pm an cdw ct), osl⟩)
    (N : News h₀ L s.heap led) (hmt : (td, W.listOf vt.toArray nt) ∈ led) (hmd : (du, W.listOf vd.toArray nd) ∈ led) (hDt : DatAll tl vt D) (hDd : DatAll tl vd D) (hsub : ∀ p ∈ tl, p ∈ led) (hok : ∀ d ∈ D, kqdOk 8 d = true) (hun : un + 80 < cLine)
    (ret : Q (.ret (.bool true)) s) :
    wpAny (model Challenge.rw_et5023_01.row.prog w) (ktrTop dp un gd qual scope L fa cdv [] outer) (exec r1 (envX qual scope L fa cdv [])) Q E s := by
  revert X; k_fill; intro X
  refine' (fun e => ?_ : _ → _) (lk_eq ?l1 ho)
  case l1 => k_is
  cases e
  clear ho
  walk1
  walk1
  walk1
  walk1
  refine kqd_eq N hmt rfl rfl hDt hsub hmd rfl rfl hDd hsub hok hok (show un + 64 < cLine by omega) ?_
  refine (congrArg (fun b => Q (.ret (.bool b)) s) ?_ : _ = _).mpr ret
  simp
end
end Mine

end
section
open PySem PySem.W PyProof.Rows PySem.Calls
open Sem (wp)
set_option Elab.async false
set_option maxRecDepth 100000
namespace Mine
section
variable {prog : Program} {w : World} {A : Around} {E : Value → Shared → Prop} {h₀ hG : Heap} {L td S gi : Nat} {m : Str → Option Value} {led : List (Addr × Obj)} {vt : List Value} {nt : Nat} {all : List Dat} {g₀ : Array GenState} {os₀ : OsState} {s : Shared}
/-- what list() left is appended -/
theorem listed_append {Q : Flow → Shared → Prop} (F : Fr h₀ L hG m) (N : News h₀ L hG ((td, W.listOf vt.toArray nt) :: led)) (hoff : ∀ p ∈ led, p.1 ≠ td) (hvt : vt.toArray.size ≤ sizeLine) (Wl : Listed hG S gi all g₀ os₀ s) (hSG : hG.get? S = none) (hbare : AllBare g₀)
    (ret : ∀ acc c tl h', DatAll tl acc all → Fr h₀ L h' m → News h₀ L h' ((td, W.listOf (vt ++ [Value.ref S]).toArray (nt + 1)) :: (S, W.listOf acc.toArray c) :: (led ++ tl)) →
      (∀ p ∈ tl, p.1 ≠ S ∧ hG.get? p.1 = none) → AllBare s.gens → s.os = os₀ → Q .next { s with heap := h' }) :
    wpF (qm prog w) A (call (.builtin "list.append") ([.ref td] ++ [.ref S])) (fun v s' => v = .none ∧ Q .next s') E s := by
  obtain ⟨acc, c, tl, h1, h2, h3⟩ := Wl.made
  have nG : ∀ b, hG.get? b = none → b ≠ L ∧ h₀.get? b = none := fun b hb => by
    refine ⟨fun e => ?_, ?_⟩
    · obtain ⟨oL, es, ep, ho, _⟩ := F.ns
      rw [e, ho] at hb; cases hb
    · cases e : h₀.get? b with
      | none => rfl
      | some o => rw [F.keep b o e] at hb; cases hb
  have F2 : Fr h₀ L s.heap m := ⟨F.ns.keeps Wl.keep, fun b o e => Wl.keep b o (F.keep b o e), F.above⟩
  have N2 : News h₀ L s.heap ((td, W.listOf vt.toArray nt) :: (S, W.listOf acc.toList.toArray c) :: (led ++ tl)) := by
    intro p hp
    rcases List.mem_cons.mp hp with rfl | hp
    · have := N _ (.head _); exact ⟨Wl.keep _ _ this.1, this.2⟩
    rcases List.mem_cons.mp hp with rfl | hp
    · exact ⟨by simpa [W.listOf] using h1, nG S hSG⟩
    rcases List.mem_append.mp hp with hp | hp
    · have := N p (.tail _ hp); exact ⟨Wl.keep _ _ this.1, this.2⟩
    · obtain ⟨a1, a2, a3⟩ := h3 p hp
      exact ⟨a1, nG _ a2⟩
  have tdG : hG.get? td ≠ none := by rw [(N _ (.head _)).1]; exact fun e => nomatch e
  refine wpF_of (up (append_hole (j := 0) F2 N2 rfl ?_ (fun h' F' N' => ⟨rfl, ?_⟩) hvt))
  · intro p hp
    have hp : p ∈ (S, W.listOf acc.toList.toArray c) :: (led ++ tl) := hp
    rcases List.mem_cons.mp hp with rfl | hp
    · exact fun e => tdG (e ▸ hSG)
    rcases List.mem_append.mp hp with hp | hp
    · exact hoff p hp
    · exact fun e => tdG (e ▸ (h3 p hp).2.1)
  · have N3 : News h₀ L h' ((td, W.listOf (vt.toArray.push (.ref S)) (nt + 1)) :: (S, W.listOf acc.toList.toArray c) :: (led ++ tl)) := N'
    rw [List.push_toArray] at N3
    exact ret _ _ _ _ h2 F' N3 (fun p hp => ⟨(h3 p hp).2.2, (h3 p hp).2.1⟩) (Wl.gens hbare) Wl.os
end
end Mine
open PySem.Calls
namespace Mine
local macro_rules | `(tactic| k_all) => `(tactic| with_reducible assumption)
local macro_rules | `(tactic| walk_at "call ref") => `(tactic| (k_here; k_dflt (refine' gen48 ?B ?F ?X ?T ?k ?dp ?u ?x ?t ?_; (case B => k_asm); (case F => k_asm); (case X => k_asm); (case T => k_asm); (case k => first | rfl | assumption); (case dp => ktr_room); (case u => assumption); (case x => assumption); (case t => assumption)); intro I' s' W' os'))
local macro_rules | `(tactic| walk_at "call ref") => `(tactic| (k_here; k_dflt (refine' gen55 ?B ?F ?X ?T ?k ?dp ?u ?x ?t ?_; (case B => k_asm); (case F => k_asm); (case X => k_asm); (case T => k_asm); (case k => first | rfl | assumption); (case dp => ktr_room); (case u => assumption); (case x => assumption); (case t => assumption)); intro I' s' W' os'))
section
variable {w : World} {dp un : Nat} {gd : Option (List Code)} {fa : Addr} {outer : List Env} {A₀ : Around} {base h₀ : Heap} {L : Addr} {u : Str → Option Value} {led : List (Addr × Obj)} {s : Shared}
    {mean : ExcName → Option Value} {mg mb : Str → Option Value} {E : Value → Shared → Prop}
    {oc : Value} {od : Option Addr} {osl : Array (Option Value)} {name qual : Str} {params : Arguments} {scope : Scope} {dV kV doc pm cdv cdw ct : Value} {an : Option Addr}
    {a1 a2 a3 b1 b2 b3 b4 b5 b6 b7 b8 r1 : Stmt} {tg itx : PySem.Expr} {oe : List Stmt} {q1 : Pos}
    {st td du pi sp : Addr} {vt : List Value} {t3 : Tok} {nt : Nat} {x : Str} {all : List Dat}
set_option pp.maxSteps 3000
set_option maxHeartbeats 8000000 in
theorem f_b5 {Q : Flow → Shared → Prop} (B : Below A₀ base outer h₀) (F : Fr h₀ L s.heap (fun y => if y = Str.ofString "text" then some (.str x t3) else if y = Str.ofString "spaces" then some (.ref sp) else if y = Str.ofString "pieces" then some (.ref pi) else if y = Str.ofString "state" then some (.ref st) else if y = Str.ofString "told" then some (.ref td) else if y = Str.ofString "due" then some (.ref du) else u y)) (X : (hd.heap_39 w.params).In h₀)
    (T : Top hd.view_39 (looseW hd.view_39 [Str.ofString "WHITESPACE_AFTER_COMMA_REGEX", Str.ofString "OPERATOR_REGEX"]) mean mg mb h₀)
    (ho : (hd.heap_39 w.params).lookup 104 = some ⟨oc, od, .func (fnOf name qual params [a1, a2, a3, .For tg itx [b1, b2, b3, b4, b5, b6, b7, b8] oe q1, r1] scope dV kV doc pm an cdw ct), osl⟩)
    (N : News h₀ L s.heap ((td, W.listOf vt.toArray nt) :: led)) (hoff : ∀ p ∈ led, p.1 ≠ td) (hvt : vt.toArray.size ≤ sizeLine) (hx : x.cps.size ≤ 100) (ht : OpTells x.cps x.cps.size 0 all) (hlen : all.length ≤ 1000) (hdp : dp + 30 < recursionLimit) (hun : un + 50 < cLine) (hbare : AllBare s.gens)
    (ret : ∀ S acc c tl s', DatAll tl acc all → Fr h₀ L s'.heap (fun y => if y = Str.ofString "text" then some (.str x t3) else if y = Str.ofString "spaces" then some (.ref sp) else if y = Str.ofString "pieces" then some (.ref pi) else if y = Str.ofString "state" then some (.ref st) else if y = Str.ofString "told" then some (.ref td) else if y = Str.ofString "due" then some (.ref du) else u y) → News h₀ L s'.heap ((td, W.listOf (vt ++ [Value.ref S]).toArray (nt + 1)) :: (S, W.listOf acc.toArray c) :: (led ++ tl)) →
      (∀ p ∈ tl, p.1 ≠ S ∧ s.heap.get? p.1 = none) → s.heap.get? S = none → AllBare s'.gens → s'.os = s.os → Q .next s') :
    wpF (qm Challenge.rw_et5023_01.row.prog w) (ktrTop dp un gd qual scope L fa cdv [] outer) (exec b5 (envX qual scope L fa cdv [])) Q E s := by
  have F00 := F
  have N00 := N
  have hlim := T.nolimit.keeps F.keep
  revert X; k_fill; intro X
  refine' (fun e => ?_ : _ → _) (lk_eq ?l1 ho)
  case l1 => k_is
  cases e
  clear ho
  refine f_Expr (f_method1 (id := "list.append") (first := [.ref td]) ?_)
  k_steps
  refine f_typecall1 (T := "list") ?_
  k_steps
  refine wpF_of (up ?_)
  k_steps
  (rename Shared => sG)
  (rename Made _ _ _ _ _ _ _ _ _ _ => WM)
  (rename Shared.os _ = _ => hos)
  refine list_made WM hlim hlen rfl (show dp < recursionLimit by omega) fun s5 Wl => ?_
  have hSG : s.heap.get? sG.heap.objs.size = none := by
    refine Option.eq_none_iff_forall_ne_some.mpr fun o e => ?_
    exact absurd (Heap.lt_size (WM.keep _ o e)) (Nat.lt_irrefl _)
  refine listed_append F00 N00 hoff hvt Wl hSG hbare fun acc c tl h' hD F' N' hoff' hb' ho' => ?_
  exact ret _ _ _ _ _ hD F' N' hoff' hSG hb' (ho'.trans hos)
set_option maxHeartbeats 8000000 in
theorem f_b7 {Q : Flow → Shared → Prop} (B : Below A₀ base outer h₀) (F : Fr h₀ L s.heap (fun y => if y = Str.ofString "text" then some (.str x t3) else if y = Str.ofString "spaces" then some (.ref sp) else if y = Str.ofString "pieces" then some (.ref pi) else if y = Str.ofString "state" then some (.ref st) else if y = Str.ofString "told" then some (.ref td) else if y = Str.ofString "due" then some (.ref du) else u y)) (X : (hd.heap_39 w.params).In h₀)
    (T : Top hd.view_39 (looseW hd.view_39 [Str.ofString "WHITESPACE_AFTER_COMMA_REGEX", Str.ofString "OPERATOR_REGEX"]) mean mg mb h₀)
    (ho : (hd.heap_39 w.params).lookup 104 = some ⟨oc, od, .func (fnOf name qual params [a1, a2, a3, .For tg itx [b1, b2, b3, b4, b5, b6, b7, b8] oe q1, r1] scope dV kV doc pm an cdw ct), osl⟩)
    (N : News h₀ L s.heap ((td, W.listOf vt.toArray nt) :: led)) (hoff : ∀ p ∈ led, p.1 ≠ td) (hvt : vt.toArray.size ≤ sizeLine) (hx : x.cps.size ≤ 100) (ht : ComTells x.cps x.cps.size 0 all) (hlen : all.length ≤ 1000) (hdp : dp + 30 < recursionLimit) (hun : un + 50 < cLine) (hbare : AllBare s.gens)
    (ret : ∀ S acc c tl s', DatAll tl acc all → Fr h₀ L s'.heap (fun y => if y = Str.ofString "text" then some (.str x t3) else if y = Str.ofString "spaces" then some (.ref sp) else if y = Str.ofString "pieces" then some (.ref pi) else if y = Str.ofString "state" then some (.ref st) else if y = Str.ofString "told" then some (.ref td) else if y = Str.ofString "due" then some (.ref du) else u y) → News h₀ L s'.heap ((td, W.listOf (vt ++ [Value.ref S]).toArray (nt + 1)) :: (S, W.listOf acc.toArray c) :: (led ++ tl)) →
      (∀ p ∈ tl, p.1 ≠ S ∧ s.heap.get? p.1 = none) → s.heap.get? S = none → AllBare s'.gens → s'.os = s.os → Q .next s') :
    wpF (qm Challenge.rw_et5023_01.row.prog w) (ktrTop dp un gd qual scope L fa cdv [] outer) (exec b7 (envX qual scope L fa cdv [])) Q E s := by
  have F00 := F
  have N00 := N
  have hlim := T.nolimit.keeps F.keep
  revert X; k_fill; intro X
  refine' (fun e => ?_ : _ → _) (lk_eq ?l1 ho)
  case l1 => k_is
  cases e
  clear ho
  refine f_Expr (f_method1 (id := "list.append") (first := [.ref td]) ?_)
  k_steps
  refine f_typecall1 (T := "list") ?_
  k_steps
  refine wpF_of (up ?_)
  k_steps
  (rename Shared => sG)
  (rename Made _ _ _ _ _ _ _ _ _ _ => WM)
  (rename Shared.os _ = _ => hos)
  refine list_made WM hlim hlen rfl (show dp < recursionLimit by omega) fun s5 Wl => ?_
  have hSG : s.heap.get? sG.heap.objs.size = none := by
    refine Option.eq_none_iff_forall_ne_some.mpr fun o e => ?_
    exact absurd (Heap.lt_size (WM.keep _ o e)) (Nat.lt_irrefl _)
  refine listed_append F00 N00 hoff hvt Wl hSG hbare fun acc c tl h' hD F' N' hoff' hb' ho' => ?_
  exact ret _ _ _ _ _ hD F' N' hoff' hSG hb' (ho'.trans hos)
end
end Mine

end
section
open PySem PySem.W PyProof.Rows PySem.Calls
open Sem (wp)
set_option Elab.async false
set_option maxRecDepth 100000
namespace Mine
theorem str_ext {x y : Str} (h : x.cps.toList = y.cps.toList) : x = y := by
  cases x; cases y
  congr 1
  exact Array.toList_inj.mp h
theorem str_app (x y : Str) : (x ++ y).cps.toList = x.cps.toList ++ y.cps.toList := by
  show (x.cps ++ y.cps).toList = _
  exact Array.toList_append
theorem text_flat {P G : List Str} (hl : G.length = P.length + 1) : ∀ k, k ≤ P.length → flat P G = (textUp P G k).cps.toList ++ flat (P.drop k) (G.drop k)
  | 0, _ => rfl
  | k + 1, hk => by
    have hp : k < P.length := by omega
    have hg : k < G.length := by omega
    rw [text_flat hl k (by omega), drop_get hp, drop_get hg]
    show _ ++ ((G.getD k Str.empty).cps.toList ++ ((P.getD k Str.empty).cps.toList ++ flat (P.drop (k + 1)) (G.drop (k + 1)))) = (textUp P G k ++ G.getD k Str.empty ++ P.getD k Str.empty).cps.toList ++ _
    rw [str_app, str_app]
    simp only [List.append_assoc]
theorem text_all {P G : List Str} (hl : G.length = P.length + 1) : (textUp P G P.length ++ G.getD (G.length - 1) Str.empty).cps = (flat P G).toArray := by
  have h := text_flat hl P.length (Nat.le_refl _)
  rw [List.drop_length] at h
  have hg : P.length < G.length := by omega
  have e : flat [] (G.drop P.length) = (G.getD P.length Str.empty).cps.toList := by
    rw [drop_get hg]; rfl
  rw [e, ← str_app] at h
  rw [show G.length - 1 = P.length by omega, h, Array.toArray_toList]
theorem piece_len2 : ∀ p ∈ pieceL, (p.length : Int) ≤ 2 := by decide +kernel
theorem gap_len3 : ∀ g ∈ gapL, (g.length : Int) ≤ 3 := by decide +kernel
theorem getD_len {P : List Str} {c : Int} (hc : 0 ≤ c) (h : ∀ p ∈ P, (p.length : Int) ≤ c) (k : Nat) : ((P.getD k Str.empty).length : Int) ≤ c := by
  rw [List.getD_eq_getElem?_getD]
  cases e : P[k]? with
  | none => exact hc
  | some p => exact h p (List.mem_of_getElem? e)
theorem RowP.mem {P G : List Str} {kl : Int} (h : RowP P G kl) : (∀ p ∈ P, p ∈ pieceL) ∧ (∀ g ∈ G, g ∈ gapL) := by
  induction h with
  | nil => exact ⟨(fun _ h => nomatch h), (fun _ h => nomatch h)⟩
  | snoc _ hp hg _ _ _ ih =>
    refine ⟨fun p h => ?_, fun g h => ?_⟩
    · rcases List.mem_append.mp h with h | h
      · exact ih.1 p h
      · rw [List.mem_singleton.mp h]; exact hp
    · rcases List.mem_append.mp h with h | h
      · exact ih.2 g h
      · rw [List.mem_singleton.mp h]; exact hg
theorem gapTell_ok {g : Str} {k : Int} {a b : Str} (ha : PyData.strOk a = true) (hb : PyData.strOk b = true) : ∀ d ∈ gapTell g k a b, kqdOk 7 d = true := by
  intro d hd
  unfold gapTell at hd
  split at hd
  · rw [List.mem_singleton.mp hd]
    show ([Dat.int k, Dat.str a].all (kqdOk 6)) = true
    simp [kqdOk, ha]
  · split at hd
    · rw [List.mem_singleton.mp hd]
      show ([Dat.int k, Dat.str b].all (kqdOk 6)) = true
      simp [kqdOk, hb]
    · cases hd
theorem e_ok : PyData.strOk e223 = true ∧ PyData.strOk e221 = true ∧ PyData.strOk e224 = true ∧ PyData.strOk e222 = true := by decide +kernel
theorem opsUp_ok (P G : List Str) : ∀ k, ∀ d ∈ (opsUp P G k).2.2, kqdOk 7 d = true
  | 0, _, h => nomatch h
  | k + 1, d, h => by
    have h' : d ∈ (opsStep P G k (opsUp P G k)).2.2 := h
    unfold opsStep at h'
    dsimp only at h'
    split at h'
    · rcases List.mem_append.mp h' with h' | h'
      · exact opsUp_ok P G k d h'
      · rcases List.mem_append.mp h' with h' | h'
        · exact gapTell_ok e_ok.1 e_ok.2.1 d h'
        · exact gapTell_ok e_ok.2.2.1 e_ok.2.2.2 d h'
    · exact opsUp_ok P G k d h'
theorem sg_ok : ∀ p ∈ signL, PyData.strOk (e242 p) = true ∧ PyData.strOk (e241 p) = true := by decide +kernel
theorem comUp_ok (P G : List Str) : ∀ k, ∀ d ∈ (comUp P G k).2.2, kqdOk 7 d = true
  | 0, _, h => nomatch h
  | k + 1, d, h => by
    have h' : d ∈ (comStep P G k (comUp P G k)).2.2 := h
    unfold comStep at h'
    dsimp only at h'
    rcases List.mem_append.mp h' with h' | h'
    · exact comUp_ok P G k d h'
    · split at h'
      · rename_i hs
        have := sg_ok _ (sign_mem hs)
        exact gapTell_ok this.1 this.2 d h'
      · cases h'
theorem list_ok {ds : List Dat} (h : ∀ d ∈ ds, kqdOk 7 d = true) : kqdOk 8 (.list ds) = true := by
  show ds.all (kqdOk 7) = true
  exact List.all_eq_true.mpr h
section
variable {h₀ h : Heap} {L : Addr} {m : Str → Option Value} {tv sv pv a b c : Value}
theorem fr_canon (F : Fr h₀ L h m) (ht : m (Str.ofString "text") = some tv) (hs : m (Str.ofString "spaces") = some sv) (hp : m (Str.ofString "pieces") = some pv) (h1 : m (Str.ofString "state") = some a) (h2 : m (Str.ofString "told") = some b) (h3 : m (Str.ofString "due") = some c) :
    Fr h₀ L h (fun y => if y = Str.ofString "text" then some tv else if y = Str.ofString "spaces" then some sv else if y = Str.ofString "pieces" then some pv else if y = Str.ofString "state" then some a else if y = Str.ofString "told" then some b else if y = Str.ofString "due" then some c else m y) := by
  refine Fr.congr F fun y => ?_
  by_cases e1 : y = Str.ofString "text"
  · rw [if_pos e1, e1, ht]
  rw [if_neg e1]
  by_cases e2 : y = Str.ofString "spaces"
  · rw [if_pos e2, e2, hs]
  rw [if_neg e2]
  by_cases e3 : y = Str.ofString "pieces"
  · rw [if_pos e3, e3, hp]
  rw [if_neg e3]
  by_cases e4 : y = Str.ofString "state"
  · rw [if_pos e4, e4, h1]
  rw [if_neg e4]
  by_cases e5 : y = Str.ofString "told"
  · rw [if_pos e5, e5, h2]
  rw [if_neg e5]
  by_cases e6 : y = Str.ofString "due"
  · rw [if_pos e6, e6, h3]
  rw [if_neg e6]
theorem fr_vm (F : Fr h₀ L h m) (h1 : m (Str.ofString "state") = some a) (h2 : m (Str.ofString "told") = some b) (h3 : m (Str.ofString "due") = some c) :
    Fr h₀ L h (fun y => if y = Str.ofString "state" then some a else if y = Str.ofString "told" then some b else if y = Str.ofString "due" then some c else m y) := by
  refine Fr.congr F fun y => ?_
  by_cases e4 : y = Str.ofString "state"
  · rw [if_pos e4, e4, h1]
  rw [if_neg e4]
  by_cases e5 : y = Str.ofString "told"
  · rw [if_pos e5, e5, h2]
  rw [if_neg e5]
  by_cases e6 : y = Str.ofString "due"
  · rw [if_pos e6, e6, h3]
  rw [if_neg e6]
end
end Mine

end
section
open PySem PySem.W PyProof.Rows PySem.Calls
open Sem (wp)
set_option Elab.async false
set_option maxRecDepth 100000
namespace Mine
/-- the law's state at a turn's begin -/
structure LS (h₀ : Heap) (L td du st ls it : Addr) (n' : Nat) (vs : List Value) (ns : List Int) (io : Obj) (os₀ : OsState) (k : Nat) (s : Shared) : Prop where
  ex : ∃ (u : Str → Option Value) (vt vd : List Value) (nt nd : Nat) (i sd : Int) (t1 t2 : Tok) (n : Nat) (tl : List (Addr × Obj)) (D : List Dat),
    Fr h₀ L s.heap (fun y => if y = Str.ofString "state" then some (.ref st) else if y = Str.ofString "told" then some (.ref td) else if y = Str.ofString "due" then some (.ref du) else u y) ∧
    News h₀ L s.heap ((td, W.listOf vt.toArray nt) :: (du, W.listOf vd.toArray nd) :: (st, W.listOf [.ref ls, .int i t1, .int sd t2].toArray n) :: (ls, W.listOf vs.toArray n') :: (it, io) :: tl) ∧
    DatAll tl vt D ∧ DatAll tl vd D ∧ (∀ d ∈ D, kqdOk 8 d = true) ∧ D.length ≤ 2 * k ∧ StOk ns i sd ∧ (∀ p ∈ tl, p.1 ≠ td ∧ p.1 ≠ du ∧ p.1 ≠ st ∧ p.1 ≠ it)
  bare : AllBare s.gens
  os : s.os = os₀
structure Apart (td du st ls it : Addr) : Prop where
  h1 : td ≠ du
  h2 : td ≠ st
  h3 : ls ≠ td
  h4 : it ≠ td
  h5 : du ≠ st
  h6 : ls ≠ du
  h7 : it ≠ du
  h8 : ls ≠ st
  h9 : it ≠ st
theorem textUp_len5 {P G : List Str} (hp : ∀ k, ((P.getD k Str.empty).length : Int) ≤ 2) (hg : ∀ k, ((G.getD k Str.empty).length : Int) ≤ 3) : ∀ k, (textUp P G k).length ≤ 5 * k
  | 0 => Nat.zero_le _
  | k + 1 => by
    have := textUp_len5 hp hg k
    have a := hp k
    have b := hg k
    show (textUp P G k ++ G.getD k Str.empty ++ P.getD k Str.empty).length ≤ _
    rw [str_app_len, str_app_len]
    omega
section
variable {w : World} {dp un : Nat} {gd : Option (List Code)} {fa : Addr} {outer : List Env} {A₀ : Around} {base h₀ : Heap} {L : Addr} {s : Shared}
    {mean : ExcName → Option Value} {mg mb : Str → Option Value}
    {oc : Value} {od : Option Addr} {osl : Array (Option Value)} {name qual : Str} {params : Arguments} {scope : Scope} {dV kV doc pm cdv cdw ct : Value} {an : Option Addr}
    {a1 a2 a3 b1 b2 b3 b4 b5 b6 b7 b8 r1 : Stmt} {tg itx : PySem.Expr} {oe : List Stmt} {q1 : Pos}
    {st td du ls it : Addr} {vs : List Value} {ns : List Int} {n' : Nat} {io : Obj} {os₀ : OsState} {k : Nat}
set_option pp.maxSteps 3000
theorem law_turn (B : Below A₀ base outer h₀) (X : (hd.heap_39 w.params).In h₀)
    (T : Top hd.view_39 (looseW hd.view_39 [Str.ofString "WHITESPACE_AFTER_COMMA_REGEX", Str.ofString "OPERATOR_REGEX"]) mean mg mb h₀)
    (ho : (hd.heap_39 w.params).lookup 104 = some ⟨oc, od, .func (fnOf name qual params [a1, a2, a3, .For tg itx [b1, b2, b3, b4, b5, b6, b7, b8] oe q1, r1] scope dV kV doc pm an cdw ct), osl⟩)
    (hdp : dp + 40 < recursionLimit) (hun : un + 80 < cLine) (ap : Apart td du st ls it) (hv : IntsAre vs ns) (hk : k ≤ 100)
    (S : LS h₀ L td du st ls it n' vs ns io os₀ k s) :
    wpF (qm Challenge.rw_et5023_01.row.prog w) (ktrTop dp un gd qual scope L fa cdv [] outer) (execs [b1, b2, b3, b4, b5, b6, b7, b8] (envX qual scope L fa cdv [])) (fun f s' => f = .next ∧ LS h₀ L td du st ls it n' vs ns io os₀ (k + 1) s') (fun _ _ => False) s := by
  obtain ⟨⟨u, vt, vd, nt, nd, i, sd, t1, t2, n, tl, D, F, N, hDt, hDd, hok, hDl, so, off⟩, bare, hos⟩ := S
  obtain ⟨h1, h2, h3, h4, h5, h6, h7, h8, h9⟩ := ap
  have Na : News h₀ L s.heap ((st, W.listOf [.ref ls, .int i t1, .int sd t2].toArray n) :: (ls, W.listOf vs.toArray n') :: (td, W.listOf vt.toArray nt) :: (du, W.listOf vd.toArray nd) :: (it, io) :: tl) := News.of N (fun p hp => by simp only [List.mem_cons, List.mem_append] at hp ⊢; rcases hp with h | h | h | h | h | h <;> simp [h])
  refine wpF_execs_cons (wpF_of (up (w_b1 B F X T ho Na h8 ?_ hv so (by omega)
    fun P G kl g i' sd' u1 u2 kk pi sp vp vg np h' tk' hrow hl1 hl2 hg hsp hsg so' F1 N1 o1 o2 => ?_)))
  · intro p hp
    simp only [List.mem_cons] at hp
    rcases hp with rfl | rfl | rfl | hp
    · exact h2
    · exact h5
    · exact h9
    · exact (off p hp).2.2.1
  obtain ⟨o11, o12, o13, o14, o15, o16⟩ := o1
  obtain ⟨o21, o22, o23, o24, o25, o26, o27⟩ := o2
  have hlen : (G ++ [g]).length = P.length + 1 := by rw [List.length_append, hrow.len]; rfl
  have hmG : ∀ x ∈ G ++ [g], x ∈ gapL := fun x hx => by
    rcases List.mem_append.mp hx with hx | hx
    · exact hrow.mem.2 x hx
    · rw [List.mem_singleton.mp hx]; exact hg
  have hpl2 : ∀ k, ((P.getD k Str.empty).length : Int) ≤ 2 := fun k => getD_len (by decide) (fun p hp => piece_len2 p (hrow.mem.1 p hp)) k
  have hgl3 : ∀ k, (((G ++ [g]).getD k Str.empty).length : Int) ≤ 3 := fun k => getD_len (by decide) (fun p hp => gap_len3 p (hmG p hp)) k
  have hpl : ∀ k, ((P.getD k Str.empty).length : Int) ≤ 10 := fun k => Int.le_trans (hpl2 k) (by decide)
  have hgl : ∀ k, (((G ++ [g]).getD k Str.empty).length : Int) ≤ 10 := fun k => Int.le_trans (hgl3 k) (by decide)
  refine wpF_execs_cons (wpF_of (up (w_b2 B F1 X T ho N1 fun t3 h' tk' F2 N2 => ?_)))
  refine wpF_execs_cons (wpF_of (up (w_b3 B F2 X T ho N2 hsp hsg hlen hl2 hpl hgl fun t4 v h' tk' F3 N3 => ?_)))
  have F3c := fr_canon F3 rfl rfl rfl rfl rfl rfl
  have hxl : (textUp P (G ++ [g]) P.length).length ≤ 50 := by
    have := textUp_len5 hpl2 hgl3 P.length
    omega
  refine wpF_execs_cons (wpF_of (up (w_b4 B F3c X T ho N3 hsg (by omega) (by omega) (by omega) hgl fun t5 h4' tk' F4 N4 => ?_)))
  have F4c := fr_canon F4 rfl rfl rfl rfl rfl rfl
  have hxc : (textUp P (G ++ [g]) P.length ++ (G ++ [g]).getD ((G ++ [g]).length - 1) Str.empty).cps = (flat P (G ++ [g])).toArray := text_all hlen
  have hx100 : (textUp P (G ++ [g]) P.length ++ (G ++ [g]).getD ((G ++ [g]).length - 1) Str.empty).cps.size ≤ 100 := by
    have h9 := str_app_len (textUp P (G ++ [g]) P.length) ((G ++ [g]).getD ((G ++ [g]).length - 1) Str.empty)
    have h8 := hgl3 ((G ++ [g]).length - 1)
    have : (textUp P (G ++ [g]) P.length ++ (G ++ [g]).getD ((G ++ [g]).length - 1) Str.empty).length ≤ 100 := by omega
    exact this
  generalize textUp P (G ++ [g]) P.length ++ (G ++ [g]).getD ((G ++ [g]).length - 1) Str.empty = x at hxc hx100 F4 F4c
  have hxs : x.cps.size = (flat P (G ++ [g])).length := by rw [hxc]; simp
  obtain ⟨tc, to⟩ := row_tells hrow hg (by omega)
  rw [← hxc, ← hxs] at tc to
  have lo : (opsUp P (G ++ [g]) P.length).2.2.length ≤ 1000 := by
    have := opsUp_len P (G ++ [g]) P.length
    omega
  have lc : (comUp P (G ++ [g]) P.length).2.2.length ≤ 1000 := by
    have := comUp_len P (G ++ [g]) P.length
    omega
  have vtl : vt.length ≤ 200 := by have := hDt.length; omega
  have vdl : vd.length ≤ 200 := by have := hDd.length; omega
  have Nb : News h₀ L h4' ((td, W.listOf vt.toArray nt) :: (sp, W.listOf vg.toArray 0) :: (pi, W.listOf vp.toArray np) :: (st, W.listOf [.ref ls, .int i' u1, .int sd' u2].toArray kk) :: (ls, W.listOf vs.toArray n') :: (du, W.listOf vd.toArray nd) :: (it, io) :: tl) := News.of N4 (fun p hp => by simp only [List.mem_cons, List.mem_append] at hp ⊢; rcases hp with h | h | h | h | h | h | h | h <;> simp [h])
  have g4 : ∀ p ∈ [td, sp, pi, st, ls, du, it], h4'.get? p ≠ none := by
    intro p hp
    simp only [List.mem_cons, List.not_mem_nil, or_false] at hp
    rcases hp with rfl | rfl | rfl | rfl | rfl | rfl | rfl
    · rw [(Nb _ (.head _)).1]; exact fun e => nomatch e
    · rw [(Nb _ (.tail _ (.head _))).1]; exact fun e => nomatch e
    · rw [(Nb _ (.tail _ (.tail _ (.head _)))).1]; exact fun e => nomatch e
    · rw [(Nb _ (.tail _ (.tail _ (.tail _ (.head _))))).1]; exact fun e => nomatch e
    · rw [(Nb _ (.tail _ (.tail _ (.tail _ (.tail _ (.head _)))))).1]; exact fun e => nomatch e
    · rw [(Nb _ (.tail _ (.tail _ (.tail _ (.tail _ (.tail _ (.head _))))))).1]; exact fun e => nomatch e
    · rw [(Nb _ (.tail _ (.tail _ (.tail _ (.tail _ (.tail _ (.tail _ (.head _)))))))).1]; exact fun e => nomatch e
  refine wpF_execs_cons (f_b5 B F4c X T ho Nb ?_ (by rw [List.size_toArray, sizeLine_eq]; omega) hx100 to lo (by omega) (by omega) bare fun S1 acc1 c1 tl1 s5 D1 F5 N5 off1 hS1 bare5 os5 => ?_)
  · intro p hp
    simp only [List.mem_cons] at hp
    rcases hp with rfl | rfl | rfl | rfl | rfl | rfl | hp
    · exact (Nat.ne_of_lt o24).symm
    · exact (Nat.ne_of_lt o13).symm
    · exact Ne.symm h2
    · exact h3
    · exact Ne.symm h1
    · exact h4
    · exact (off p hp).1
  have S1ne : ∀ a ∈ [td, sp, pi, st, ls, du, it], S1 ≠ a := fun a ha e => g4 a ha (e ▸ hS1)
  have t1ne : ∀ p ∈ tl1, ∀ a ∈ [td, sp, pi, st, ls, du, it], p.1 ≠ a := fun p hp a ha e => g4 a ha (e ▸ (off1 p hp).2)
  simp only [List.cons_append] at N5
  have Nc : News h₀ L s5.heap ((sp, W.listOf vg.toArray 0) :: (pi, W.listOf vp.toArray np) :: (du, W.listOf vd.toArray nd) :: (td, W.listOf (vt ++ [Value.ref S1]).toArray (nt + 1)) :: (S1, W.listOf acc1.toArray c1) :: (st, W.listOf [.ref ls, .int i' u1, .int sd' u2].toArray kk) :: (ls, W.listOf vs.toArray n') :: (it, io) :: (tl ++ tl1)) := News.of N5 (fun p hp => by simp only [List.mem_cons, List.mem_append] at hp ⊢; rcases hp with h | h | h | h | h | h | h | h | h | h <;> simp [h])
  refine wpF_execs_cons (wpF_of (up (w_b6 B F5 X T ho Nc hsp hsg hlen hl2 hpl hgl (Nat.ne_of_lt o25) (Nat.ne_of_lt o14) ?_ (by rw [List.size_toArray, sizeLine_eq]; omega) (by omega) fun dd1 vd1 nd1 tl2 h6' tk' D2 F6 N6 off2 ord2 => ?_)))
  · intro p hp
    simp only [List.mem_cons, List.mem_append] at hp
    rcases hp with rfl | rfl | rfl | rfl | rfl | hp | hp
    · exact h1
    · exact S1ne du (by simp)
    · exact Ne.symm h5
    · exact h6
    · exact h7
    · exact (off p hp).2.1
    · exact t1ne p hp du (by simp)
  obtain ⟨p21, p22, p23, p24, p25, p26, p27, p28, p29⟩ := ord2
  simp only [List.cons_append] at N6
  have Nd : News h₀ L h6' ((td, W.listOf (vt ++ [Value.ref S1]).toArray (nt + 1)) :: (sp, W.listOf vg.toArray 0) :: (pi, W.listOf vp.toArray np) :: (dd1, W.listOf vd1.toArray nd1) :: (du, W.listOf (vd ++ [Value.ref dd1]).toArray (nd + 1)) :: (S1, W.listOf acc1.toArray c1) :: (st, W.listOf [.ref ls, .int i' u1, .int sd' u2].toArray kk) :: (ls, W.listOf vs.toArray n') :: (it, io) :: (tl ++ tl1 ++ tl2)) := News.of N6 (fun p hp => by simp only [List.mem_cons, List.mem_append] at hp ⊢; rcases hp with h | h | h | h | h | h | h | h | h | (h | h) | h <;> simp [h])
  have g6 : ∀ p ∈ [td, sp, pi, dd1, du, S1, st, ls, it], h6'.get? p ≠ none := by
    intro p hp
    simp only [List.mem_cons, List.not_mem_nil, or_false] at hp
    rcases hp with rfl | rfl | rfl | rfl | rfl | rfl | rfl | rfl | rfl
    · rw [(Nd _ (.head _)).1]; exact fun e => nomatch e
    · rw [(Nd _ (.tail _ (.head _))).1]; exact fun e => nomatch e
    · rw [(Nd _ (.tail _ (.tail _ (.head _)))).1]; exact fun e => nomatch e
    · rw [(Nd _ (.tail _ (.tail _ (.tail _ (.head _))))).1]; exact fun e => nomatch e
    · rw [(Nd _ (.tail _ (.tail _ (.tail _ (.tail _ (.head _)))))).1]; exact fun e => nomatch e
    · rw [(Nd _ (.tail _ (.tail _ (.tail _ (.tail _ (.tail _ (.head _))))))).1]; exact fun e => nomatch e
    · rw [(Nd _ (.tail _ (.tail _ (.tail _ (.tail _ (.tail _ (.tail _ (.head _)))))))).1]; exact fun e => nomatch e
    · rw [(Nd _ (.tail _ (.tail _ (.tail _ (.tail _ (.tail _ (.tail _ (.tail _ (.head _))))))))).1]; exact fun e => nomatch e
    · rw [(Nd _ (.tail _ (.tail _ (.tail _ (.tail _ (.tail _ (.tail _ (.tail _ (.tail _ (.head _)))))))))).1]; exact fun e => nomatch e
  refine wpF_execs_cons (f_b7 B F6 X T ho Nd ?_ (by rw [List.size_toArray, sizeLine_eq, List.length_append]; simp only [List.length_cons, List.length_nil]; omega) hx100 tc lc (by omega) (by omega) bare5 fun S2 acc2 c2 tl3 s7 D3 F7 N7 off3 hS2 bare7 os7 => ?_)
  · intro p hp
    simp only [List.mem_cons, List.mem_append] at hp
    rcases hp with rfl | rfl | rfl | rfl | rfl | rfl | rfl | rfl | (hp | hp) | hp
    · exact (Nat.ne_of_lt o24).symm
    · exact (Nat.ne_of_lt o13).symm
    · exact (Nat.ne_of_lt p24).symm
    · exact Ne.symm h1
    · exact S1ne td (by simp)
    · exact Ne.symm h2
    · exact h3
    · exact h4
    · exact (off p hp).1
    · exact t1ne p hp td (by simp)
    · exact off2 p hp td (by simp)
  have S2ne : ∀ a ∈ [td, sp, pi, dd1, du, S1, st, ls, it], S2 ≠ a := fun a ha e => g6 a ha (e ▸ hS2)
  have t3ne : ∀ p ∈ tl3, ∀ a ∈ [td, sp, pi, dd1, du, S1, st, ls, it], p.1 ≠ a := fun p hp a ha e => g6 a ha (e ▸ (off3 p hp).2)
  simp only [List.cons_append] at N7
  have Ne' : News h₀ L s7.heap ((sp, W.listOf vg.toArray 0) :: (pi, W.listOf vp.toArray np) :: (du, W.listOf (vd ++ [Value.ref dd1]).toArray (nd + 1)) :: (td, W.listOf (vt ++ [Value.ref S1] ++ [Value.ref S2]).toArray (nt + 1 + 1)) :: (S2, W.listOf acc2.toArray c2) :: (dd1, W.listOf vd1.toArray nd1) :: (S1, W.listOf acc1.toArray c1) :: (st, W.listOf [.ref ls, .int i' u1, .int sd' u2].toArray kk) :: (ls, W.listOf vs.toArray n') :: (it, io) :: (tl ++ tl1 ++ tl2 ++ tl3)) := News.of N7 (fun p hp => by simp only [List.mem_cons, List.mem_append] at hp ⊢; rcases hp with h | h | h | h | h | h | h | h | h | h | ((h | h) | h) | h <;> simp [h])
  refine wpF_execs_cons (wpF_of (up (w_b8 B F7 X T ho Ne' hsp hsg hlen hl2 hpl hgl (Nat.ne_of_lt o25) (Nat.ne_of_lt o14) ?_ (by rw [List.size_toArray, sizeLine_eq, List.length_append]; simp only [List.length_cons, List.length_nil]; omega) (by omega) fun dd2 vd2 nd2 tl4 h8' tk' D4 F8 N8 off4 ord4 => ?_)))
  · intro p hp
    simp only [List.mem_cons, List.mem_append] at hp
    rcases hp with rfl | rfl | rfl | rfl | rfl | rfl | rfl | ((hp | hp) | hp) | hp
    · exact h1
    · exact S2ne du (by simp)
    · exact (Nat.ne_of_lt p23).symm
    · exact S1ne du (by simp)
    · exact Ne.symm h5
    · exact h6
    · exact h7
    · exact (off p hp).2.1
    · exact t1ne p hp du (by simp)
    · exact off2 p hp du (by simp)
    · exact t3ne p hp du (by simp)
  obtain ⟨p41, p42, p43, p44, p45, p46, p47, p48, p49, p410, p411⟩ := ord4
  simp only [List.cons_append] at N8
  refine wpF_pure ⟨rfl, ⟨⟨_, vt ++ [Value.ref S1] ++ [Value.ref S2], vd ++ [Value.ref dd1] ++ [Value.ref dd2], nt + 1 + 1, nd + 1 + 1, i', sd', u1, u2, kk, (S1, W.listOf acc1.toArray c1) :: (dd1, W.listOf vd1.toArray nd1) :: (S2, W.listOf acc2.toArray c2) :: (dd2, W.listOf vd2.toArray nd2) :: (tl ++ tl1 ++ tl2 ++ tl3 ++ tl4), D ++ [.list (opsUp P (G ++ [g]) P.length).2.2] ++ [.list (comUp P (G ++ [g]) P.length).2.2], fr_vm F8 rfl rfl rfl, News.of N8 (fun p hp => by simp only [List.mem_cons, List.mem_append] at hp ⊢; rcases hp with h | h | h | h | h | h | h | h | h | (((h | h) | h) | h) | h <;> simp [h]), ?_, ?_, ?_, ?_, so', ?_⟩, bare7, os7.trans (os5.trans hos)⟩⟩
  · refine DatAll.append (DatAll.append (DatAll.mono (fun p hp => ?_) hDt) (DatAll.one (DatIn.list (vs := acc1) (n := c1) (by simp) (DatAll.mono (fun p hp => ?_) D1)))) (DatAll.one (DatIn.list (vs := acc2) (n := c2) (by simp) (DatAll.mono (fun p hp => ?_) D3)))
    · simp [hp]
    · simp [hp]
    · simp [hp]
  · refine DatAll.append (DatAll.append (DatAll.mono (fun p hp => ?_) hDd) (DatAll.one (DatIn.list (vs := vd1) (n := nd1) (by simp) (DatAll.mono (fun p hp => ?_) D2)))) (DatAll.one (DatIn.list (vs := vd2) (n := nd2) (by simp) (DatAll.mono (fun p hp => ?_) D4)))
    · simp [hp]
    · simp [hp]
    · simp [hp]
  · intro d hd
    rcases List.mem_append.mp hd with hd | hd
    · rcases List.mem_append.mp hd with hd | hd
      · exact hok d hd
      · rw [List.mem_singleton.mp hd]; exact list_ok (opsUp_ok _ _ _)
    · rw [List.mem_singleton.mp hd]; exact list_ok (comUp_ok _ _ _)
  · simp only [List.length_append, List.length_cons, List.length_nil]
    omega
  · intro p hp
    simp only [List.mem_cons, List.mem_append] at hp
    rcases hp with rfl | rfl | rfl | rfl | (((hp | hp) | hp) | hp) | hp
    · exact ⟨S1ne td (by simp), S1ne du (by simp), S1ne st (by simp), S1ne it (by simp)⟩
    · exact ⟨(Nat.ne_of_lt p24).symm, (Nat.ne_of_lt p23).symm, (Nat.ne_of_lt p26).symm, (Nat.ne_of_lt p28).symm⟩
    · exact ⟨S2ne td (by simp), S2ne du (by simp), S2ne st (by simp), S2ne it (by simp)⟩
    · exact ⟨(Nat.ne_of_lt p44).symm, (Nat.ne_of_lt p43).symm, (Nat.ne_of_lt p48).symm, (Nat.ne_of_lt p410).symm⟩
    · exact off p hp
    · exact ⟨t1ne p hp td (by simp), t1ne p hp du (by simp), t1ne p hp st (by simp), t1ne p hp it (by simp)⟩
    · exact ⟨off2 p hp td (by simp), off2 p hp du (by simp), off2 p hp st (by simp), off2 p hp it (by simp)⟩
    · exact ⟨t3ne p hp td (by simp), t3ne p hp du (by simp), t3ne p hp st (by simp), t3ne p hp it (by simp)⟩
    · exact ⟨off4 p hp td (by simp), off4 p hp du (by simp), off4 p hp st (by simp), off4 p hp it (by simp)⟩
end
end Mine

end
section
open PySem PySem.W PyProof.Rows PySem.Calls
open Sem (wp)
set_option Elab.async false
set_option maxRecDepth 100000
namespace Mine
def rng (x left : Int) : Obj := { cls := .type "range_iterator", dict := none, data := .fields #[rawInt x, rawInt left, rawInt 1], slots := #[] }
/-- the law's state at its end -/
structure LE (h₀ : Heap) (L : Addr) (os₀ : OsState) (s : Shared) : Prop where
  ex : ∃ (td du st : Addr) (u : Str → Option Value) (vt vd : List Value) (nt nd : Nat) (led tl : List (Addr × Obj)) (D : List Dat),
    Fr h₀ L s.heap (fun y => if y = Str.ofString "state" then some (.ref st) else if y = Str.ofString "told" then some (.ref td) else if y = Str.ofString "due" then some (.ref du) else u y) ∧ News h₀ L s.heap led ∧ (td, W.listOf vt.toArray nt) ∈ led ∧ (du, W.listOf vd.toArray nd) ∈ led ∧
    DatAll tl vt D ∧ DatAll tl vd D ∧ (∀ p ∈ tl, p ∈ led) ∧ (∀ d ∈ D, kqdOk 8 d = true)
  bare : AllBare s.gens
  os : s.os = os₀
section
variable {w : World} {dp un : Nat} {gd : Option (List Code)} {fa : Addr} {outer : List Env} {A₀ : Around} {base h₀ : Heap} {L : Addr} {s : Shared}
    {mean : ExcName → Option Value} {mg mb : Str → Option Value}
    {oc : Value} {od : Option Addr} {osl : Array (Option Value)} {name qual : Str} {params : Arguments} {scope : Scope} {dV kV doc pm cdv cdw ct : Value} {an : Option Addr}
    {a1 a2 a3 b1 b2 b3 b4 b5 b6 b7 b8 r1 : Stmt} {itx : PySem.Expr} {q1 px : Pos} {xn : Str}
    {st td du ls it : Addr} {vs : List Value} {ns : List Int} {n' : Nat} {os₀ : OsState}
theorem under_loop {t : PySem.Expr} {b o : List Stmt} {v : Value} : (ktrTop dp un gd qual scope L fa cdv [] outer).under (.forLoop t v b o (envX qual scope L fa cdv [])) = (ktrTop dp un gd qual scope L fa cdv [] outer) := by
  cases gd <;> rfl
theorem LS.moved {k : Nat} {io io' : Obj} (S : LS h₀ L td du st ls it n' vs ns io os₀ k s) (ap : Apart td du st ls it) (hls : ls ≠ it) {s' : Shared} (hi : s'.heap.get? it = some io') (hk : ∀ b o, b ≠ it → s.heap.get? b = some o → s'.heap.get? b = some o) (hg : s'.gens = s.gens) (ho : s'.os = s.os) :
    LS h₀ L td du st ls it n' vs ns io' os₀ k s' := by
  obtain ⟨⟨u, vt, vd, nt, nd, i, sd, t1, t2, n, tl, D, F, N, hDt, hDd, hok, hDl, so, off⟩, bare, hos⟩ := S
  have Nit := N (it, io) (by simp)
  refine ⟨⟨u, vt, vd, nt, nd, i, sd, t1, t2, n, tl, D, ?_, ?_, hDt, hDd, hok, hDl, so, off⟩, hg ▸ bare, ho.trans hos⟩
  · obtain ⟨oL, es, ep, h1, h2, h3, h4⟩ := F.ns
    refine ⟨⟨oL, es, ep, hk _ _ (Ne.symm Nit.2.1) h1, h2, h3, h4⟩, fun b o e => hk b o (fun ee => ?_) (F.keep b o e), F.above⟩
    rw [ee, Nit.2.2] at e; cases e
  · intro p hp
    simp only [List.mem_cons] at hp
    rcases hp with rfl | rfl | rfl | rfl | rfl | hp
    · have := N (td, W.listOf vt.toArray nt) (by simp); exact ⟨hk _ _ (Ne.symm ap.h4) this.1, this.2⟩
    · have := N (du, W.listOf vd.toArray nd) (by simp); exact ⟨hk _ _ (Ne.symm ap.h7) this.1, this.2⟩
    · have := N (st, W.listOf [.ref ls, .int i t1, .int sd t2].toArray n) (by simp); exact ⟨hk _ _ (Ne.symm ap.h9) this.1, this.2⟩
    · have := N (ls, W.listOf vs.toArray n') (by simp); exact ⟨hk _ _ hls this.1, this.2⟩
    · exact ⟨hi, Nit.2⟩
    · have := N p (by simp [hp]); exact ⟨hk _ _ (off p hp).2.2.2 this.1, this.2⟩
theorem LS.ends {k : Nat} {io : Obj} (S : LS h₀ L td du st ls it n' vs ns io os₀ k s) (ap : Apart td du st ls it) {s' : Shared} (hk : ∀ b o, b ≠ it → s.heap.get? b = some o → s'.heap.get? b = some o) (hg : s'.gens = s.gens) (ho : s'.os = s.os) :
    LE h₀ L os₀ s' := by
  obtain ⟨⟨u, vt, vd, nt, nd, i, sd, t1, t2, n, tl, D, F, N, hDt, hDd, hok, hDl, so, off⟩, bare, hos⟩ := S
  have Nit := N (it, io) (by simp)
  refine ⟨⟨td, du, st, u, vt, vd, nt, nd, (td, W.listOf vt.toArray nt) :: (du, W.listOf vd.toArray nd) :: tl, tl, D, ?_, ?_, .head _, .tail _ (.head _), hDt, hDd, fun p hp => .tail _ (.tail _ hp), hok⟩, hg ▸ bare, ho.trans hos⟩
  · obtain ⟨oL, es, ep, h1, h2, h3, h4⟩ := F.ns
    refine ⟨⟨oL, es, ep, hk _ _ (Ne.symm Nit.2.1) h1, h2, h3, h4⟩, fun b o e => hk b o (fun ee => ?_) (F.keep b o e), F.above⟩
    rw [ee, Nit.2.2] at e; cases e
  · intro p hp
    simp only [List.mem_cons] at hp
    rcases hp with rfl | rfl | hp
    · have := N (td, W.listOf vt.toArray nt) (by simp); exact ⟨hk _ _ (Ne.symm ap.h4) this.1, this.2⟩
    · have := N (du, W.listOf vd.toArray nd) (by simp); exact ⟨hk _ _ (Ne.symm ap.h7) this.1, this.2⟩
    · have := N p (by simp [hp]); exact ⟨hk _ _ (off p hp).2.2.2 this.1, this.2⟩
theorem law_loop (B : Below A₀ base outer h₀) (X : (hd.heap_39 w.params).In h₀)
    (T : Top hd.view_39 (looseW hd.view_39 [Str.ofString "WHITESPACE_AFTER_COMMA_REGEX", Str.ofString "OPERATOR_REGEX"]) mean mg mb h₀)
    (ho : (hd.heap_39 w.params).lookup 104 = some ⟨oc, od, .func (fnOf name qual params [a1, a2, a3, .For (.Name xn px) itx [b1, b2, b3, b4, b5, b6, b7, b8] [] q1, r1] scope dV kV doc pm an cdw ct), osl⟩)
    (hdp : dp + 40 < recursionLimit) (hun : un + 80 < cLine) (ap : Apart td du st ls it) (hls : ls ≠ it) (hv : IntsAre vs ns) : ∀ (left k : Nat) (x : Int) (s : Shared), left + k ≤ 100 →
    LS h₀ L td du st ls it n' vs ns (rng x left) os₀ k s →
    codeF (qm Challenge.rw_et5023_01.row.prog w) (ktrTop dp un gd qual scope L fa cdv [] outer) (.forLoop (.Name xn px) (.ref it) [b1, b2, b3, b4, b5, b6, b7, b8] [] (envX qual scope L fa cdv [])) (fun r s' => r = .ok .next ∧ LE h₀ L os₀ s') s := by
  revert X; k_fill; intro X
  refine' (fun e => ?_ : _ → _) (lk_eq ?l1 ho)
  case l1 => k_is
  cases e
  intro left
  induction left with
  | zero =>
    intro k x s hle S
    have hit : IsRangeIter s.heap it x (0 : Nat) 1 := by
      obtain ⟨⟨u, vt, vd, nt, nd, i, sd, t1, t2, n, tl, D, F, N, _⟩, _, _⟩ := S
      exact (N (it, rng x (0 : Nat)) (by simp)).1
    refine codeF_forLoop under_loop (wpF_of (up (wpAny_pyNext_range_end rfl hit (Int.le_refl _) fun h' he => ?_)))
    exact ⟨rfl, S.ends ap (fun b o hb e => he b o hb e) rfl rfl⟩
  | succ left ih =>
    intro k x s hle S
    have hit : IsRangeIter s.heap it x ((left + 1 : Nat) : Int) 1 := by
      obtain ⟨⟨u, vt, vd, nt, nd, i, sd, t1, t2, n, tl, D, F, N, _⟩, _, _⟩ := S
      exact (N (it, rng x ((left + 1 : Nat) : Int)) (by simp)).1
    refine codeF_forLoop under_loop (wpF_of (up (wpAny_pyNext_range_item hit (by omega) fun h' hi' hsb => ?_)))
    have el : ((left + 1 : Nat) : Int) - 1 = (left : Nat) := by omega
    rw [el] at hi'
    have S2 : LS h₀ L td du st ls it n' vs ns (rng (x + 1) left) os₀ k { s with heap := h', toks := s.toks + 1 } := S.moved ap hls hi' (fun b o hb e => (hsb.2 b hb).trans e) rfl rfl
    obtain ⟨⟨u, vt, vd, nt, nd, i, sd, t1, t2, n, tl, D, F, N, hDt, hDd, hok, hDl, so, off⟩, bare, hos⟩ := S2
    refine wpF_of (up (storeX_L F N fun h'' F2 N2 => ?_))
    refine wpF_mono (law_turn B X T ho hdp hun ap hv (by omega) ⟨⟨_, vt, vd, nt, nd, i, sd, t1, t2, n, tl, D, fr_vm F2 rfl rfl rfl, N2, hDt, hDd, hok, hDl, so, off⟩, bare, hos⟩) (fun f s' hf => ?_) fun _ _ z => z
    obtain ⟨rfl, S3⟩ := hf
    exact ih (k + 1) (x + 1) s' (by omega) S3
end
end Mine

end
section
open PySem PySem.W PyProof.Rows PySem.Calls
open Sem (wp)
set_option Elab.async false
set_option maxRecDepth 100000
namespace Mine
section
variable {w : World} {dp un : Nat} {gd : Option (List Code)} {fa al : Addr} {outer : List Env} {A₀ : Around} {base h₀ : Heap} {L : Addr} {s : Shared}
    {mean : ExcName → Option Value} {mg mb : Str → Option Value}
    {oc : Value} {od : Option Addr} {osl : Array (Option Value)} {name qual : Str} {params : Arguments} {scope : Scope} {dV kV doc pm cdv cdw ct : Value} {an : Option Addr}
    {a1 a2 a3 b1 b2 b3 b4 b5 b6 b7 b8 r1 : Stmt} {itx : PySem.Expr} {q1 px : Pos} {xn : Str}
    {vs : List Value} {ns : List Int}
theorem law_body (B : Below A₀ base outer h₀) (X : (hd.heap_39 w.params).In h₀)
    (T : Top hd.view_39 (looseW hd.view_39 [Str.ofString "WHITESPACE_AFTER_COMMA_REGEX", Str.ofString "OPERATOR_REGEX"]) mean mg mb h₀)
    (ho : (hd.heap_39 w.params).lookup 104 = some ⟨oc, od, .func (fnOf name qual params [a1, a2, a3, .For (.Name xn px) itx [b1, b2, b3, b4, b5, b6, b7, b8] [] q1, r1] scope dV kV doc pm an cdw ct), osl⟩)
    (hdp : dp + 40 < recursionLimit) (hun : un + 80 < cLine) (F : Fr h₀ L s.heap (fun y => if y = Str.ofString "script" then some (.ref al) else none))
    (hl : h₀.IsList al vs.toArray) (hv : IntsAre vs ns) (hlen : ns.length ≤ 63) (bare : AllBare s.gens) :
    wpF (qm Challenge.rw_et5023_01.row.prog w) (ktrTop dp un gd qual scope L fa cdv [] outer) (execs [a1, a2, a3, .For (.Name xn px) itx [b1, b2, b3, b4, b5, b6, b7, b8] [] q1, r1] (envX qual scope L fa cdv []))
      (fun f s' => f = .ret (.bool true) ∧ AllBare s'.gens ∧ s'.os = s.os ∧ ∀ b o, h₀.get? b = some o → s'.heap.get? b = some o) (fun _ _ => False) s := by
  have X0 := X
  revert X; k_fill; intro X
  refine' (fun e => ?_ : _ → _) (lk_eq ?l1 ho)
  case l1 => k_is
  cases e
  refine wpF_execs_cons (wpF_of (up (w_a1 B F X T ho (fun _ h => nomatch h) hl hv hlen fun st ls ws t1 t2 h1 tk1 hI l1 F1 N1 => ?_)))
  refine wpF_execs_cons (wpF_of (up (w_a2 B F1 X T ho N1 fun td h2 tk2 l2 F2 N2 => ?_)))
  refine wpF_execs_cons (wpF_of (up (w_a3 B F2 X T ho N2 fun du h3 tk3 l3 F3 N3 => ?_)))
  have ls_td : ls < td := l2 _ (.tail _ (.head _))
  have st_td : st < td := l2 _ (.head _)
  have td_du : td < du := l3 _ (.head _)
  have st_du : st < du := l3 _ (.tail _ (.head _))
  have ls_du : ls < du := l3 _ (.tail _ (.tail _ (.head _)))
  have Fv := fr_vm F3 rfl rfl rfl
  have Na : News h₀ L h3 ((st, W.listOf [.ref ls, .int 0 t1, .int 17 t2].toArray 0) :: (ls, W.listOf ws.toArray 0) :: [(td, W.listOf #[] 0), (du, W.listOf #[] 0)]) := News.of N3 (fun p hp => by simp only [List.mem_cons, List.not_mem_nil, or_false] at hp ⊢; rcases hp with h | h | h | h <;> simp [h])
  refine wpF_execs_cons (wpF_For (fun _ => rfl) (wpF_of (up (w_itx B Fv X T ho Na (Nat.ne_of_lt l1) ?_ hI ?_ (by omega) fun r b i' sd' u1 u2 kk t u' v h4 tk4 hb1 hb3 so' hR F4 N4 => ?_))))
  · intro p hp
    simp only [List.mem_cons, List.not_mem_nil, or_false] at hp
    rcases hp with rfl | rfl
    · exact (Nat.ne_of_lt st_td).symm
    · exact (Nat.ne_of_lt st_du).symm
  · refine ⟨by rw [List.length_take]; omega, by decide, by omega, by decide, by decide⟩
  have hsm : Builtin.Range.small 0 b 1 = true := small_one (by decide) (by decide) (by omega) (by omega)
  have hsz : Builtin.Range.rangeSize 0 b 1 = ((b.toNat : Nat) : Int) := by
    rw [PySem.rangeSize_one]
    split <;> omega
  refine wpF_of (up (wpAny_pyIter_range hR hsm ?_))
  rw [hsz]
  have N5 := news_push (o := rng 0 b.toNat) rfl F4 N4
  have F5 : Fr h₀ L (h4.push (rng 0 b.toNat)) _ := fr_push F4
  have lt4 : ∀ p ∈ [st, ls, td, du], p < h4.objs.size := by
    intro p hp
    simp only [List.mem_cons, List.not_mem_nil, or_false] at hp
    rcases hp with rfl | rfl | rfl | rfl
    · exact Heap.lt_size (N4 _ (.head _)).1
    · exact Heap.lt_size (N4 _ (.tail _ (.head _))).1
    · exact Heap.lt_size (N4 _ (.tail _ (.tail _ (.head _)))).1
    · exact Heap.lt_size (N4 _ (.tail _ (.tail _ (.tail _ (.head _))))).1
  have ap : Apart td du st ls h4.objs.size := ⟨Nat.ne_of_lt td_du, (Nat.ne_of_lt st_td).symm, Nat.ne_of_lt ls_td, (Nat.ne_of_lt (lt4 td (by simp))).symm, (Nat.ne_of_lt st_du).symm, Nat.ne_of_lt ls_du, (Nat.ne_of_lt (lt4 du (by simp))).symm, Nat.ne_of_lt l1, (Nat.ne_of_lt (lt4 st (by simp))).symm⟩
  have N6 : News h₀ L (h4.push (rng 0 b.toNat)) ((td, W.listOf ([] : List Value).toArray 0) :: (du, W.listOf ([] : List Value).toArray 0) :: (st, W.listOf [.ref ls, .int i' u1, .int sd' u2].toArray kk) :: (ls, W.listOf ws.toArray 0) :: (h4.objs.size, rng 0 b.toNat) :: []) := News.of N5 (fun p hp => by simp only [List.mem_cons, List.not_mem_nil, or_false] at hp ⊢; rcases hp with h | h | h | h | h <;> simp [h])
  have S0 : ∀ s9 : Shared, s9.heap = h4.push (rng 0 b.toNat) → s9.gens = s.gens → s9.os = s.os → LS h₀ L td du st ls h4.objs.size 0 ws (ns.take 60) (rng 0 b.toNat) s.os 0 s9 := fun s9 e1 e2 e3 =>
    ⟨⟨_, [], [], 0, 0, i', sd', u1, u2, kk, [], [], by rw [e1]; exact F5, by rw [e1]; exact N6, .nil, .nil, (fun _ hd => nomatch hd), Nat.zero_le _, so', (fun _ hp => nomatch hp)⟩, e2 ▸ bare, e3⟩
  refine codeF_mono (law_loop B X0 T ho hdp hun ap (Nat.ne_of_lt (lt4 ls (by simp))) hI b.toNat 0 0 _ (by omega) (S0 _ rfl rfl rfl)) fun r s' hr => ?_
  obtain ⟨rfl, ⟨td', du', st', u9, vt, vd, nt, nd, led, tl, D, F9, N9, m1, m2, d1, d2, sub, hok⟩, bare9, os9⟩ := hr
  refine wpF_execs_cons (wpF_of (up (w_r1 B F9 X T ho N9 m1 m2 d1 d2 sub hok hun ?_)))
  exact ⟨rfl, bare9, os9, F9.keep⟩
end
end Mine

end
section
open PySem PySem.W PyProof.Rows PySem.Calls
open Sem (wp)
set_option Elab.async false
set_option maxRecDepth 100000
namespace Mine
set_option pp.maxSteps 4000
theorem deeper_caller {qual : Str} {scope : Scope} {L fa : Addr} {cdv : Value} : callerA.deeper (envX qual scope L fa cdv []) = ktrTop (2 + claimMargin) 7 (some []) qual scope L fa cdv [] [] := by
  show Around.mk none (1 + claimMargin + 1) (some [_]) (some []) 7 = _
  rw [show 1 + claimMargin + 1 = 2 + claimMargin by omega]
theorem lookup_sc {v : Value} (y : Str) : (fun z => ([(Str.ofString "script", v)] : List (Str × Value)).reverse.lookup z) y = (fun z => if z = Str.ofString "script" then some v else none) y := by
  show _ = if y = Str.ofString "script" then some v else none
  by_cases h : y = Str.ofString "script"
  · rw [if_pos h, h]; rfl
  · rw [if_neg h]
    show (match y == Str.ofString "script" with | true => some v | false => none) = none
    rw [beq_eq_false_iff_ne.mpr h]
theorem codeF_full {prog : Program} {w : World} {A : Around} {R : Result → Shared → Prop} {s : Shared} {name : Str} {params : Arguments} {body : List Stmt} {scope : Scope}
    {dV kV pm cd doc : Value} {a : Addr} {o : Obj} {args : Args} {binds : List (Str × Value)}
    (hroom : A.depth < recursionLimit) (ho : s.heap.get? a = some o) (hdata : o.data = .func { docDef name params body scope pm cd doc with defaults := dV, kwdefaults := kV }) (hlim : s.heap.NoLimit) (hcd : s.heap.CodeRec cd name)
    (hbind : bindArgs { docDef name params body scope pm cd doc with defaults := dV, kwdefaults := kV } args = pure binds)
    (hloc : ∀ x ∈ binds, scope.names.lookup x.1 = some .local)
    (h : ∀ h₁, Fr s.heap s.heap.objs.size h₁ (fun x => binds.reverse.lookup x) →
      wpF (qm prog w) (A.deeper (envX name scope s.heap.objs.size a cd [])) (execs body (envX name scope s.heap.objs.size a cd []))
        (fun f s' => R (.ok (.ret (match f with | .ret v => v | _ => .none))) s') (fun _ _ => False) { s with heap := h₁, toks := s.toks + binds.length })
    (hcell : ∀ x ∈ scope.names, x.2 ≠ .cell) (hco : scope.isCoroutine = false) (hgen : scope.isGenerator = false) (hk : scope.kind = .function) :
    codeF (qm prog w) A (.call (.ref a) args) R s :=
  codeF_call_def hroom ho hdata hlim hcd rfl hbind hcell hloc h hco hgen hk
set_option maxHeartbeats 8000000 in
theorem law_holds : PySem.Challenge.rw_et5023_01.Holds := by
  refine hd ?_
  k_fill
  intro w s₀ s₁ mg mb G Y fa o pm cd doc dV kV ho hd hcd hD hmg hg args vals as hpre hlay hrd hwl hlo
  have KX := kIn_of Y
  refine Ground.open G ?_
  intro T B D TE TW
  clear B D TE TW hmg
  wrow_args hpre hlay hrd hwl hlo
  (rename Heap.IsList _ _ _ => hL)
  (rename IntsAre _ _ => hI)
  (rename ¬ (_ < _) => hlen)
  have eD := Dflts.none hD rfl
  have eK := Dflts.noKw hD
  subst eD
  subst eK
  refine wpF_call (codeF_full (show 1 + claimMargin < recursionLimit by decide +kernel) ho hd (Top.nolimit T) hcd (binds := [(Str.ofString "script", _)]) rfl (locs rfl) (fun h₁ F => ?_) (by decide) rfl rfl rfl)
  have F2 := Fr.congr F (fun y => (lookup_sc y).symm)
  rw [deeper_caller]
  refine' wpF_mono (law_body (below_caller s₁.heap) KX T ?lk (by decide +kernel) (by decide) F2 hL hI (by omega) ?bare) (fun f s' hf => ?_) (fun _ _ x => x.elim)
  case lk => k_is
  case bare => exact .of_eq hg
  obtain ⟨rfl, hb, hos, hk⟩ := hf
  exact ⟨.inl ⟨_, _, [], rfl, (fun _ => rfl), ReadsW.bool true, by first | rfl | wrow_post, fun _ => ⟨List.nodup_nil, fun _ hm => (nomatch hm)⟩⟩, OldK.of_keep hk, hos, hb⟩
end Mine

end
theorem PySem.Challenge.cw_et5023_01_holds : PySem.Challenge.rw_et5023_01.Holds :=
  Mine.law_holds
