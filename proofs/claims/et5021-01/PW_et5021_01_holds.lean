import PyProof.Rows.All
import Wide.All
import OpenK.AllK
import Wide.FinOn
import PySem.Challenge.RW_et5021_01
set_option Elab.async false

section
open PySem PySem.W PyProof.Rows
set_option Elab.async false
namespace Mine
set_option linter.unusedVariables false

/-- the one question that the walked code asks of the collector: whether a collection could start here -/
def isAsk : Code → Bool
  | .builtin id ⟨[.int 13 0], []⟩ => id == "gc.ask"
  | _ => false
def askC : Code := .builtin "gc.ask" ⟨[rawInt 13], []⟩
def askL : Code := .builtin "lifetime.ask" ⟨[rawInt 13], []⟩

theorem isAsk_eq {c : Code} (h : isAsk c = true) : c = askC := by
  unfold isAsk at h
  split at h
  · have := beq_iff_eq.mp h
    subst this
    rfl
  · cases h

/-- the denotation in which that question is answered at once -/
def den1 (c : Code) : Sem Fin := if isAsk c then ret (.bool false) else denote table c
def M1 (prog : Program) (w : World) : Model := ⟨den1, prog, w⟩

theorem den1_of {c : Code} (h : isAsk c = false) : den1 c = denote table c := if_neg (by rw [h]; exact Bool.false_ne_true)
theorem den1_ask : den1 askC = ret (.bool false) := rfl

theorem entry_ask : entryFor table "gc.ask" = some Builtin.«gc.ask» := entryFor_of_tree (by kernel_rfl)
theorem denote_builtin {id : String} {args : Args} {b : Builtin} (hb : entryFor table id = some b) : denote table (.builtin id args) = b args := by
  show (match entryFor table id with | some b => b args | none => unsupported ((withoutEnding? id "#data").getD id)) = _
  rw [hb]
theorem denote_ask : denote table askC = .pure (.again askL) := denote_builtin entry_ask
theorem askL_loud : askL.quiet = false := by decide +kernel

section embed
variable {prog : Program} {w : World}

theorem not_ask {Γ : Ctx} {p : Pos} {c : Code} {s s' : Shared} {e : End} (h : Runs (model prog w) Γ p (denote table c) [] s e s') : isAsk c = false := by
  cases hc : isAsk c with
  | false => rfl
  | true =>
    rw [isAsk_eq hc, denote_ask] at h
    cases h with
    | again hq _ => rw [askL_loud] at hq; cases hq

theorem runs_embed {Γ : Ctx} {p : Pos} {t : Sem Fin} {fs : List Frame} {s s' : Shared} {e : End} (h : Runs (model prog w) Γ p t fs s e s') : Runs (M1 prog w) Γ p t fs s e s' := by
  induction h with
  | again hq h ih => exact .again hq (by show Runs _ _ _ (den1 _) _ _ _ _; rw [den1_of (not_ask h)]; exact ih)
  | call h1 h2 ih1 ih2 => exact .call (by show Runs _ _ _ (den1 _) _ _ _ _; rw [den1_of (not_ask h1)]; exact ih1) ih2
  | callSusp h ih => exact .callSusp (by show Runs _ _ _ (den1 _) _ _ _ _; rw [den1_of (not_ask h)]; exact ih)
  | resumeFresh hg h1 hq h2 ih1 ih2 => exact .resumeFresh hg (by show Runs _ _ _ (den1 _) _ _ _ _; rw [den1_of (not_ask h1)]; exact ih1) hq ih2
  | done => exact .done
  | raise => exact .raise
  | rule _ ih => exact .rule ih
  | «at» _ ih => exact .at ih
  | load ho _ ih => exact .load ho ih
  | update ho _ ih => exact .update ho ih
  | loadIfAlive _ ih => exact .loadIfAlive ih
  | point _ ih => exact .point ih
  | alloc _ ih => exact .alloc ih
  | fresh _ ih => exact .fresh ih
  | ask _ ih => exact .ask ih
  | choose hn _ ih => exact .choose hn ih
  | os _ ih => exact .os ih
  | handled _ ih => exact .handled ih
  | genState hg _ ih => exact .genState hg ih
  | stack _ ih => exact .stack ih
  | thread _ ih => exact .thread ih
  | newGen _ ih => exact .newGen ih
  | yield => exact .yield
  | resumeSuspended hg h1 hq h2 ih1 ih2 => exact .resumeSuspended hg ih1 hq ih2
  | resumeJustStarted hg hv _ ih => exact .resumeJustStarted hg hv ih
  | resumeThrowFresh hg _ ih => exact .resumeThrowFresh hg ih
  | resumeRunning hg _ ih => exact .resumeRunning hg ih
  | resumeFinished hg _ ih => exact .resumeFinished hg ih
  | segRet _ _ ih1 ih2 => exact .segRet ih1 ih2
  | segGen _ _ ih1 ih2 => exact .segGen ih1 ih2
  | segSuspOut hs _ ih => exact .segSuspOut hs ih
  | segSuspGen hs _ hq _ ih1 ih2 => exact .segSuspGen hs ih1 hq ih2

theorem wpCode_embed {Γ : Ctx} {R : Result → Shared → Prop} {p : Pos} {s : Shared} (h : wpCode (model prog w) Γ R p s) : wpCode (M1 prog w) Γ R p s := by
  obtain ⟨r, s', hr, hR⟩ := h
  refine ⟨r, s', ?_, hR⟩
  have hr : Runs (model prog w) Γ p (denote table Γ.code) [] s (.ret r) s' := hr
  show Runs _ _ _ (den1 _) _ _ _ _
  rw [den1_of (not_ask hr)]
  exact runs_embed hr

theorem wakes_embed {Γ : Ctx} {p : Pos} {g : Nat} {r : Resume} {s s' : Shared} {res : GenResult} (h : Wakes (model prog w) Γ p g r s res s') : Wakes (M1 prog w) Γ p g r s res s' := by
  unfold Wakes at h ⊢
  cases hg : s.gens[g]? with
  | none => simp only [hg] at h
  | some st =>
    simp only [hg] at h ⊢
    cases st with
    | fresh c =>
      cases r with
      | send v =>
        cases v with
        | none =>
          obtain ⟨e₁, s₁, h1, h2⟩ := h
          have h1 : Runs (model prog w) (Γ.wake c p) p (denote table c) [] (s.setGen g .running) e₁ s₁ := h1
          refine ⟨e₁, s₁, ?_, h2⟩
          show Runs _ _ _ (den1 _) _ _ _ _
          rw [den1_of (not_ask h1)]
          exact runs_embed h1
        | _ => exact h
      | throw x => exact h
    | suspended k₀ l c₀ p₀ fs cl =>
      obtain ⟨e₁, s₁, h1, h2⟩ := h
      exact ⟨e₁, s₁, runs_embed h1, h2⟩
    | running => exact h
    | finished => exact h

theorem wp_embed {α : Type} {Γ : Ctx} {t : Sem α} {Q : α → Pos → Shared → Prop} {E : Value → Pos → Shared → Prop} {p : Pos} {s : Shared}
    (h : Sem.wp (model prog w) Γ t Q E p s) : Sem.wp (M1 prog w) Γ t Q E p s := by
  revert h
  induction t generalizing p s with
  | pure x => exact id
  | raise v => exact id
  | unsupported | finish | yield | fork | await | register => exact id
  | rule _ k ih | «at» _ k ih | alloc _ k ih | loadIfAlive _ k ih | point _ k ih | fresh k ih | ask k ih | os _ _ k ih | handled _ k ih | newGen _ k ih | stack k ih | thread k ih => exact ih _
  | load a _ k ih | genState a k ih => exact fun ⟨o, ho, h⟩ => ⟨o, ho, ih _ h⟩
  | update a _ f k ih | choose _ _ k ih => exact fun ⟨ha, h⟩ => ⟨ha, ih _ h⟩
  | call c h g l k ih => exact fun x => wpCode_embed (wpCode_mono (fun r s' => ih r) x)
  | resume g r l k ih => exact fun ⟨res, s', hw, h⟩ => ⟨res, s', wakes_embed hw, ih _ h⟩

theorem wpAny_embed {α : Type} {A : Around} {t : Sem α} {Q : α → Shared → Prop} {E : Value → Shared → Prop} {s : Shared}
    (h : wpAny (model prog w) A t Q E s) : wpAny (M1 prog w) A t Q E s := fun Γ p hΓ => wp_embed (h Γ p hΓ)
theorem codeAny_embed {A : Around} {c : Code} {R : Result → Shared → Prop} {s : Shared}
    (h : codeAny (model prog w) A c R s) : codeAny (M1 prog w) A c R s := fun Γ p hc hΓ => wpCode_embed (h Γ p hc hΓ)

/-- the rule for the question -/
theorem ask_ok {A : Around} {Q : Value → Shared → Prop} {E : Value → Shared → Prop} {s : Shared} (h : Q (.bool false) s) :
    wpAny (M1 prog w) A (runValue (.builtin "gc.ask" ⟨[rawInt 13], []⟩)) Q E s := by
  refine wpAny_runValue (codeAny_of_tree ?_)
  show wpAny _ _ (den1 askC) _ _ _
  rw [den1_ask]
  exact wpAny_pure h
end embed

section sim
variable {prog : Program} {w : World}

theorem step_den (s : Shared) (t : Thread) : step (denote table) prog w s t = step den1 prog w s t ∨
    ∃ s₂ p st, step (denote table) prog w s t = .go s₂ ⟨denote table askC, askC, p, st⟩ ∧ step den1 prog w s t = .go s₂ ⟨ret (.bool false), askC, p, st⟩ := by
  obtain ⟨heap, gens, drawn, toks, os⟩ := s
  obtain ⟨cur, code, pos, stack⟩ := t
  have key : ∀ c, den1 c = denote table c ∨ (c = askC ∧ den1 c = ret (.bool false)) := fun c => by
    cases hc : isAsk c with
    | false => exact .inl (den1_of hc)
    | true => exact .inr ⟨isAsk_eq hc, by rw [isAsk_eq hc]; rfl⟩
  cases cur with
  | pure f =>
    cases f with
    | done f => exact .inl rfl
    | again c =>
      rcases key c with e | ⟨e, e'⟩
      · left; simp only [step, e]
      · right; subst e; exact ⟨_, _, _, rfl, rfl⟩
  | call c h g l k =>
    rcases key c with e | ⟨e, e'⟩
    · left; simp only [step, e]
    · right; subst e; exact ⟨_, _, _, rfl, rfl⟩
  | resume g r l k =>
    cases hg : gens[g]? with
    | none => left; simp only [step, hg]
    | some st =>
      cases st with
      | fresh c =>
        rcases key c with e | ⟨e, e'⟩
        · left; simp only [step, hg, e]
        · subst e
          cases r with
          | throw x => left; simp only [step, hg]
          | send v =>
            cases v with
            | none => right; exact ⟨_, _, _, by simp only [step, hg]; rfl, by simp only [step, hg, e']⟩
            | _ => left; simp only [step, hg]
      | _ => left; simp only [step, hg]
  | _ => exact .inl rfl

theorem lifeStep_turn {c' c : Code} {p : Pos} {st : List Frame} {s s' : Shared} {t' : Thread} {others : List Value} (hs : Thread.special ⟨.pure (.again c'), c, p, st⟩ = true)
    (hct : collectorTurn? w.params others s ⟨.pure (.again c'), c, p, st⟩ = some (s', t')) (hc : s'.heap.life.counting = false) :
    lifeStep (denote table) prog w others s ⟨.pure (.again c'), c, p, st⟩ = .go s' t' := by
  unfold lifeStep
  rw [if_pos hs]
  dsimp only
  rw [hct]
  simp only [hc, Bool.false_and, Bool.false_eq_true, if_false]

theorem askL_step {c : Code} {p : Pos} {st : List Frame} {s : Shared} (hz : s.asleep) :
    sstep (denote table) prog w (.single s ⟨.pure (.again askL), c, p, st⟩) = .go (.single s ⟨ret (.bool false), c, p, st⟩) := by
  obtain ⟨hr, hc⟩ := hz
  have hw : s.watching = false := by unfold Shared.watching; rw [hr]; rfl
  have h1 : (Config.single s ⟨.pure (.again askL), c, p, st⟩).collect? w.params = none := by
    simp [Config.collect?, Config.single, hw]
  have h2 : (Config.single s ⟨.pure (.again askL), c, p, st⟩).collectable = [] := by
    simp [Config.collectable, Config.single, hw]
  have h3 : (Config.single s ⟨.pure (.again askL), c, p, st⟩).moves w.params.profile = [.run 0] := by
    simp [Config.moves, Config.single, movesFrom, Thread.moves, Thread.atomic, Thread.rests, Thread.tells, askL]
  have hp : (Config.single s ⟨.pure (.again askL), c, p, st⟩).pick w = .ok (.run 0, .single s ⟨.pure (.again askL), c, p, st⟩) := by
    simp only [Config.pick, h1, h2, Config.pickThread, h3]
    cases w.params.lifetimes <;> simp
  have hs : Thread.special ⟨.pure (.again askL), c, p, st⟩ = true := by
    have : Thread.atCollectorCode ⟨.pure (.again askL), c, p, st⟩ = true := by
      show ("lifetime.ask".startsWith "lifetime.") = true
      decide +kernel
    simp only [Thread.special, this, Bool.true_or]
  have hl : lifeStep (denote table) prog w [] s ⟨.pure (.again askL), c, p, st⟩ = .go s ⟨ret (.bool false), c, p, st⟩ := by
    have hct : collectorTurn? w.params [] s ⟨.pure (.again askL), c, p, st⟩ = some (s, ⟨ret (.bool false), c, p, st⟩) := by
      show some (if (!s.heap.life.gcEnabled || s.heap.life.thresholds.head? == some 0 || s.heap.life.collecting || !s.watching) then (s, _) else _) = _
      rw [hw, Bool.not_false, Bool.or_true, if_pos rfl]
    exact lifeStep_turn hs hct hc
  have ho : Config.others ⟨s, #[.live ⟨.pure (.again askL), c, p, st⟩], 0⟩ 0 = some [] := others_single _ _ _
  unfold sstep
  rw [hp]
  show (Config.single s ⟨.pure (.again askL), c, p, st⟩).run (denote table) prog w 0 = _
  simp only [Config.run, Config.single, entering_same]
  simp only [askL] at hl ho hs
  simp [ho, hl, hs, Thread.finalizes, askL, askC]

theorem sched_sim {o : Outcome} {s'' : Shared} (ho : o.ends = true) (n : Nat) : ∀ (s : Shared) (t : Thread), s.asleep → runN den1 prog w n s t = .halted o s'' →
    (∀ k s₁ t₁, runN den1 prog w k s t = .running s₁ t₁ → t₁.calm = true) → ∃ m, schedN (denote table) prog w m (.single s t) = .halted o s'' := by
  induction n with
  | zero => intro s t _ h; cases h
  | succ n ih =>
    intro s t hz h hc
    have hcalm := hc 0 s t rfl
    have hc' : ∀ {s₂ t₂}, step den1 prog w s t = .go s₂ t₂ → ∀ k s₁ t₁, runN den1 prog w k s₂ t₂ = .running s₁ t₁ → t₁.calm = true := fun hs k s₁ t₁ hk =>
      hc (k + 1) s₁ t₁ (by simp only [runN, hs]; exact hk)
    have hz' : ∀ {s₂ t₂}, step den1 prog w s t = .go s₂ t₂ → s₂.asleep := fun hs => Shared.asleep_of_life (step_life _ _ _ _ _ _ _ hs) hz
    simp only [runN] at h
    rcases sstep_single (denote table) prog w s t hcalm hz with q | q
    · rcases step_den (prog := prog) (w := w) s t with e | ⟨s₂, p, st, e1, e2⟩
      · cases hs : step den1 prog w s t with
        | go s₂ t₂ =>
          simp only [hs] at h
          obtain ⟨m, hm⟩ := ih s₂ t₂ (hz' hs) h (hc' hs)
          refine ⟨m + 1, ?_⟩
          simp only [schedN, q, e, hs, Step.lift]
          exact hm
        | halt o₂ s₂ =>
          simp only [hs] at h
          refine ⟨1, ?_⟩
          simp only [schedN, q, e, hs, Step.lift]
          injection h with h1 h2
          rw [h1, h2]
      · simp only [e2] at h
        obtain ⟨m, hm⟩ := ih s₂ _ (hz' e2) h (hc' e2)
        refine ⟨m + 1 + 1, ?_⟩
        rw [denote_ask] at e1
        simp only [schedN, q, e1, Step.lift, askL_step (hz' e2)]
        exact hm
    · exfalso
      rcases step_den (prog := prog) (w := w) s t with e | ⟨s₂, p, st, e1, e2⟩
      · rw [← e, q] at h
        injection h with h1 _
        subst h1
        exact absurd ho (by simp [Outcome.ends])
      · rw [e1] at q; cases q

end sim

/-! contexts without a `callable_iterator.__next__` among the codes below: the end of that iterator looks for one -/
section clean
def isCI : Code → Bool
  | .builtin id _ => id == "callable_iterator.__next__"
  | _ => false
def cleanB (Γ : Ctx) : Prop := ∀ x ∈ Γ.below, isCI x.1 = false
def InC (A : Around) (Γ : Ctx) : Prop := Γ.In A ∧ cleanB Γ ∧ isCI Γ.code = false
def InB (A : Around) (Γ : Ctx) : Prop := Γ.In A ∧ cleanB Γ

def wpK {α : Type} (prog : Program) (w : World) (K : Ctx → Prop) (t : Sem α) (Q : α → Shared → Prop) (E : Value → Shared → Prop) (s : Shared) : Prop :=
  ∀ Γ p, K Γ → Sem.wp (M1 prog w) Γ t (fun a _ s' => Q a s') (fun e _ s' => E e s') p s
abbrev wpC {α : Type} (prog : Program) (w : World) (A : Around) (t : Sem α) (Q : α → Shared → Prop) (E : Value → Shared → Prop) (s : Shared) : Prop := wpK prog w (InC A) t Q E s
abbrev wpB {α : Type} (prog : Program) (w : World) (A : Around) (t : Sem α) (Q : α → Shared → Prop) (E : Value → Shared → Prop) (s : Shared) : Prop := wpK prog w (InB A) t Q E s
def codeC (prog : Program) (w : World) (A : Around) (c : Code) (R : Result → Shared → Prop) (s : Shared) : Prop :=
  ∀ Γ p, Γ.code = c → Γ.Below A → cleanB Γ → wpCode (M1 prog w) Γ R p s

section
variable {α β : Type} {prog : Program} {w : World} {K : Ctx → Prop} {A : Around} {E : Value → Shared → Prop} {s : Shared}

theorem wpC_of {t : Sem α} {Q : α → Shared → Prop} (h : wpAny (M1 prog w) A t Q E s) : wpC prog w A t Q E s := fun Γ p hΓ => h Γ p hΓ.1
theorem wpC_emb {t : Sem α} {Q : α → Shared → Prop} (h : wpAny (model prog w) A t Q E s) : wpC prog w A t Q E s := wpC_of (wpAny_embed h)
theorem wpB_of {t : Sem α} {Q : α → Shared → Prop} (h : wpAny (M1 prog w) A t Q E s) : wpB prog w A t Q E s := fun Γ p hΓ => h Γ p hΓ.1
theorem wpB_emb {t : Sem α} {Q : α → Shared → Prop} (h : wpAny (model prog w) A t Q E s) : wpB prog w A t Q E s := wpB_of (wpAny_embed h)
theorem wpK_pure {a : α} {Q : α → Shared → Prop} (h : Q a s) : wpK prog w K (pure a) Q E s := fun _ _ _ => h
theorem wpK_throw {e : Value} {Q : α → Shared → Prop} (h : E e s) : wpK prog w K (throw e : Sem α) Q E s := fun _ _ _ => h
theorem wpK_mono {t : Sem α} {Q Q' : α → Shared → Prop} {E' : Value → Shared → Prop} (h : wpK prog w K t Q E s)
    (hQ : ∀ a s, Q a s → Q' a s) (hE : ∀ e s, E e s → E' e s) : wpK prog w K t Q' E' s :=
  fun Γ p hΓ => Sem.wp_mono _ Γ t (fun a _ s => hQ a s) (fun e _ s => hE e s) p s (h Γ p hΓ)
theorem wpK_bind {m : Sem α} {f : α → Sem β} {Q : β → Shared → Prop} (h : wpK prog w K m (fun a s' => wpK prog w K (f a) Q E s') E s) :
    wpK prog w K (m >>= f) Q E s := fun Γ p hΓ => by
  rw [Sem.wp_bind']
  exact Sem.wp_mono _ Γ m (fun a p' s' h' => h' Γ p' hΓ) (fun _ _ _ h' => h') p s (h Γ p hΓ)
theorem wpK_onRaise {m : Sem α} {k : Value → Sem Unit} {Q : α → Shared → Prop}
    (h : wpK prog w K m Q (fun e s' => wpK prog w K (k e) (fun _ s'' => E e s'') E s') s) : wpK prog w K (m.onRaise k) Q E s := fun Γ p hΓ => by
  rw [Sem.wp_onRaise]
  exact Sem.wp_mono _ Γ m (fun _ _ _ h' => h') (fun e p' s' h' => h' Γ p' hΓ) p s (h Γ p hΓ)
theorem wpK_attempt {m : Sem α} {Q : Except Value α → Shared → Prop} (h : wpK prog w K m (fun a => Q (.ok a)) (fun e => Q (.error e)) s) :
    wpK prog w K m.attempt Q E s := fun Γ p hΓ => by rw [Sem.wp_attempt]; exact h Γ p hΓ
theorem wpK_holding {vs : List Value} {m : Sem α} {Q : α → Shared → Prop} (h : wpK prog w K m Q E s) : wpK prog w K (holding vs m) Q E s :=
  fun Γ p hΓ => by rw [Sem.wp_holding]; exact h Γ p hΓ
theorem wpK_standAt {pos : Pos} {Q : Unit → Shared → Prop} (h : Q () s) : wpK prog w K (standAt pos) Q E s := fun _ _ _ => h
theorem wpK_rule {tag : String} {Q : Unit → Shared → Prop} (h : Q () s) : wpK prog w K (rule tag) Q E s := fun _ _ _ => h
theorem wpK_point {Q : Unit → Shared → Prop} (h : Q () s) : wpK prog w K point Q E s := fun _ _ _ => h
theorem wpK_of_eq {t t' : Sem α} {Q : α → Shared → Prop} (e : t = t') (h : wpK prog w K t' Q E s) : wpK prog w K t Q E s := e ▸ h
theorem wpB_stack {Q : List (Code × Pos) → Shared → Prop} (h : ∀ x p below, (∀ y ∈ below, isCI y.1 = false) → Q ((x, p) :: below) s) : wpB prog w A stack Q E s := fun Γ p hΓ => by
  show Q ((Γ.code, p) :: Γ.below) s
  exact h _ _ _ hΓ.2

theorem codeC_mono {c : Code} {R R' : Result → Shared → Prop} (h : codeC prog w A c R s) (hR : ∀ r s, R r s → R' r s) : codeC prog w A c R' s :=
  fun Γ p hc hΓ hb => wpCode_mono hR (h Γ p hc hΓ hb)
theorem codeC_of {c : Code} {R : Result → Shared → Prop} (h : codeAny (M1 prog w) A c R s) : codeC prog w A c R s := fun Γ p hc hΓ _ => h Γ p hc hΓ
theorem codeC_emb {c : Code} {R : Result → Shared → Prop} (h : codeAny (model prog w) A c R s) : codeC prog w A c R s := codeC_of (codeAny_embed h)

theorem clean_enter {Γ : Ctx} {c : Code} {h : Option Value} {p : Pos} (hb : cleanB Γ) (hc : isCI Γ.code = false) : cleanB (Γ.enter c h p) := fun x hx => by
  rcases List.mem_cons.mp hx with rfl | hx
  · exact hc
  · exact hb x hx

theorem wpC_run {c : Code} {Q : Flow → Shared → Prop}
    (hc : codeC prog w A c (fun r s' => match r with | .ok f => Q f s' | .error e => E e s') s) : wpC prog w A (run c) Q E s :=
  fun Γ p hΓ => by rw [Sem.wp_run]; exact hc _ p rfl (hΓ.1.enter c none p (by intro x; cases x)) (clean_enter hΓ.2.1 hΓ.2.2)
theorem wpC_runValue {c : Code} {Q : Value → Shared → Prop}
    (hc : codeC prog w A c (fun r s' => match r with | .ok (.ret v) => Q v s' | .ok _ => False | .error e => E e s') s) :
    wpC prog w A (runValue c) Q E s := fun Γ p hΓ => by rw [Sem.wp_runValue]; exact hc _ p rfl (hΓ.1.enter c none p (by intro x; cases x)) (clean_enter hΓ.2.1 hΓ.2.2)
theorem wpC_call {f : Value} {pos : List Value} {kw : List (Str × Value)} {Q : Value → Shared → Prop}
    (hc : codeC prog w A (.call f ⟨pos, kw⟩) (fun r s' => match r with | .ok (.ret v) => Q v s' | .ok _ => False | .error e => E e s') s) :
    wpC prog w A (call f pos kw) Q E s := wpC_runValue hc

/-- what a code's tree must leave -/
abbrev finC (prog : Program) (w : World) (A : Around) (R : Result → Shared → Prop) (fin : Fin) (s' : Shared) : Prop :=
  match fin with | .done f => R (.ok f) s' | .again c' => c'.quiet = true ∧ codeC prog w A c' R s'

theorem codeC_tree {c : Code} {R : Result → Shared → Prop} (hc : isAsk c = false) (hci : isCI c = false)
    (h : wpC prog w (A.under c) (denote table c) (finC prog w A R) (fun e s' => R (.error e) s') s) : codeC prog w A c R s := fun Γ p e hΓ hb => by
  rw [wpCode_iff_wp, e]
  show Sem.wp _ Γ (den1 c) _ _ p s
  rw [den1_of hc]
  refine Sem.wp_mono _ Γ _ (fun fin p' s' h' => ?_) (fun _ _ _ h' => h') p s (h Γ p ⟨e ▸ hΓ.in, hb, e ▸ hci⟩)
  cases fin with
  | done f => exact h'
  | again c' => exact ⟨h'.1, h'.2 (Γ.goto c') p' rfl (hΓ.goto c') hb⟩
theorem codeB_tree {c : Code} {R : Result → Shared → Prop} (hc : isAsk c = false)
    (h : wpB prog w (A.under c) (denote table c) (finC prog w A R) (fun e s' => R (.error e) s') s) : codeC prog w A c R s := fun Γ p e hΓ hb => by
  rw [wpCode_iff_wp, e]
  show Sem.wp _ Γ (den1 c) _ _ p s
  rw [den1_of hc]
  refine Sem.wp_mono _ Γ _ (fun fin p' s' h' => ?_) (fun _ _ _ h' => h') p s (h Γ p ⟨e ▸ hΓ.in, hb⟩)
  cases fin with
  | done f => exact h'
  | again c' => exact ⟨h'.1, h'.2 (Γ.goto c') p' rfl (hΓ.goto c') hb⟩
end
end clean

section ends
variable {prog : Program} {w : World}
theorem thread_ends1 {t : Sem Fin} {s : Shared} {R : Result → Shared → Prop} (hz : s.asleep)
    (h : wpC prog w callerA t (fun fin s' => ∃ f, fin = .done f ∧ (R (.ok f) s' ∧ leftWithCleanup s'.gens = false)) (fun e s' => R (.error e) s' ∧ leftWithCleanup s'.gens = false) s) :
    ∃ n r s' s'', schedN (denote table) prog w n (.single s ⟨t, .builtin "claim.caller" {}, default, []⟩) = .halted (outcomeOf r) s' ∧ s'.heap.life = s.heap.life ∧ s'.forget = s''.forget ∧ R r s'' := by
  have h0 := h ⟨.builtin "claim.caller" {}, none, none, [], none⟩ default ⟨caller_in, (fun _ hx => nomatch hx), by decide +kernel⟩
  obtain ⟨n, r, s₁, hn, hR⟩ := (wp_iff_halts (M := M1 prog w) (c := .builtin "claim.caller" {}) t R default s).mp (by
    refine Sem.wp_mono _ _ t (fun fin p' s' h' => ?_) (fun _ _ _ h' => h') default s h0
    obtain ⟨f, rfl, hf⟩ := h'
    exact hf)
  obtain ⟨s₂, h2, hf, hcalm⟩ := runNI_real den1 prog w hn (outcomeOf_ends r)
  obtain ⟨m, hm⟩ := sched_sim (outcomeOf_ends r) n s _ hz h2 hcalm
  exact ⟨m, r, s₂, s₁, hm, runN_life den1 prog w h2, hf, hR⟩
end ends
end Mine
end

section
open PySem PySem.W PySem.Calls PyProof.Rows
set_option Elab.async false
namespace Mine
set_option linter.unusedVariables false

/-- a caller's answer as the law's end wants it, over the extended model -/
abbrev Ends1 (r : RowW) (w : World) (s₀ s₁ : Shared) (args : List WData) (t : Sem Value) : Prop :=
  wpC r.prog w callerA t (fun v s' => GoodWG r.claim (classAt s₀.heap) (ExcName.means s₀.heap) args s₁ (.ok (.ret v)) s')
    (fun e s' => GoodWG r.claim (classAt s₀.heap) (ExcName.means s₀.heap) args s₁ (.error e) s') s₁

abbrev Walk1 (q : Program) (loose : List Str) (XP : (Str → Option Value) → Heap → Prop) (YP : World → Heap → Prop) (r : RowW) (d : DefRec) (kwd : List (Str × Expr)) : Prop :=
  ∀ (w : World) (s₀ s₁ : Shared) (mg mb : Str → Option Value), Ground q loose r.records XP w s₀ mg mb s₁.heap → YP w s₁.heap → ∀ (a : Addr) (o : Obj) (pm cd doc dV kV : Value), s₁.heap.get? a = some o →
    o.data = .func { docDef d.name d.params d.body d.scope pm cd doc with defaults := dV, kwdefaults := kV } → s₁.heap.CodeRec cd d.name → Dflts mg s₁.heap d.params kwd dV kV → mg d.name = some (.ref a) → s₁.gens = #[] →
    ∀ (args : List WData) (vals : List Value) (as : List Addr), r.claim.pre args = true → WData.layableAll args = true → ReadsAllW r.records (classAt s₀.heap) s₁.heap vals args as → WellAll w.params s₁.heap vals args → (∀ a ∈ as, (a == sysModules) = false) →
      Ends1 r w s₀ s₁ args (PySem.call (.ref a) vals)

/-- the tree that a caller runs -/
def callerTree (name : Str) (vs : List Value) : Sem Fin := do match ← nsGet mainNs name with
  | some f => do ret (← PySem.call f vs)
  | none => unsupported "claim.caller:no-such-global"

theorem callerTree_ok {prog : Program} {w : World} {name : Str} {vs : List Value} {s : Shared} {mg : Str → Option Value} {f : Value} {Q : Fin → Shared → Prop} {E : Value → Shared → Prop}
    (hg : s.heap.Ns mainGlobals mg) (hf : mg name = some f) (h : wpC prog w callerA (PySem.call f vs) (fun v s' => Q (.done (.ret v)) s') E s) :
    wpC prog w callerA (callerTree name vs) Q E s := by
  unfold callerTree
  refine wpK_bind (wpC_emb (wpAny_nsGet hg ?_))
  rw [hf]
  exact wpK_bind (wpK_mono h (fun v s' x => wpK_pure x) fun _ _ x => x)

section head
variable {r : OpenRow} {q : Program} {loose : List Str} {Xt : Shared → Bool} {XP : (Str → Option Value) → Heap → Prop} {α : Type} {Yf : Shared → α} {Ya : World → α} {YP : World → Heap → Prop} {d : DefRec} {kwd : List (Str × Expr)} {N : Nat}

theorem PySem.W.holds_open
    (left : LeftO r.prog q loose Xt Yf Ya N) (hY : ∀ w s, Yf s = Ya w → YP w s.heap) (hYk : ∀ w h h', YP w h → (∀ b o, h.get? b = some o → h'.get? b = some o) → YP w h')
    (hX : ∀ s, Xt s = true → XP (s.heap.nsMap mainGlobals) s.heap) (hXk : ∀ mg h h', XP mg h → (∀ b o, h.get? b = some o → h'.get? b = some o) → XP mg h')
    (hdef : defOf q r.name = some (d, kwd)) (hp : r.prog.theDef r.name = some (d.params, d.body, d.scope)) (hk : kwWritten? d.params.kwonlyargs d.params.kw_defaults = some kwd) (hRf : ∀ s, Xt s = true → RecFacts r.records s.heap) (hwr : (!r.writes || r.records.isEmpty) = true)
    (k1 : r.wellSaid = true) (ok : (chainsOk q && opensWell r.prog && (frees r.toRowW && r.within.isEmpty)) = true) (hb : r.prog.bare) (hw : r.toRowW.promised)
    (call : Walk1 q loose XP YP r.toRowW d kwd) : r.Holds := by
  rw [Bool.and_eq_true_iff, Bool.and_eq_true_iff, Bool.and_eq_true_iff] at ok
  obtain ⟨⟨chains, opens⟩, isFree, noWithin⟩ := ok
  obtain ⟨hsame, hu, ha, hap, hm⟩ := frees_parts isFree
  have hid := ident_freeW hu ha hap
  have hwi : r.toRowW.claim.within = [] := List.isEmpty_iff.mp noWithin
  have back := fun w => left.behind (XP := fun mg h => XP mg h ∧ RecFacts r.records h) (fun s hs => ⟨hX s hs, hRf s hs⟩) chains w
  refine ⟨k1, hw, ⟨hb, opens, by show r.makers.map _ = []; rw [hm]; rfl⟩, hw.witness, fun w => ⟨(back w).1, fun sE hE => ?_⟩⟩
  obtain ⟨s₀, fenced, bare, s, ran, sleeps, noGen, isNs, Gr, yes⟩ := (back w).2 sE hE
  have Grd : Ground q loose [] XP w s (s.heap.nsMap mainGlobals) (s.heap.nsMap builtinsNs) s.heap := ⟨Gr.T, Gr.B, Gr.D, Gr.TE, Gr.TD, Gr.W, Gr.X.1, Gr.cls, Gr.has, Gr.apart, Gr.once, Gr.K⟩
  have recs := Gr.X.2
  have G : Ground q loose r.records XP w s (s.heap.nsMap mainGlobals) (s.heap.nsMap builtinsNs) s.heap := recs.ground Grd
  have noGen' : s.gens = #[] := Array.eq_empty_of_size_eq_zero (beq_iff_eq.mp noGen)
  refine ⟨s₀, fenced, bare, s, ran, fun n hn => ?_, recs.1, recs.2.1, fun args hpre hlay ord hord => ?_⟩
  · obtain rfl : n = r.name := by split at hn <;> simp_all
    exact pinned_of_view isNs Grd hdef hp hk
  obtain ⟨⟨vs, s₁⟩, laid⟩ := Option.isSome_iff_exists.mp (layAllW_isSome (P := w.params) (ord := ord) G.has args r.args s (pre_splitW hpre).1)
  obtain ⟨g1, _, o1, l1⟩ := layAllW_rest _ _ _ laid
  have keeps := layAllW_keeps _ _ _ laid
  obtain ⟨as, reads, inn, olds⟩ := reads_layAllW hord _ _ _ laid hlay s₁.heap (fun _ _ e => e)
  have L : Laid r.records w s s₁ args vs as := ⟨⟨ord, hord, laid⟩, reads, inn, olds, keeps, g1.trans noGen', o1⟩
  have G₁ := G.keeps hXk keeps
  obtain ⟨fa, fo, pm, cd, doc, dV, kV, f1, f2, f3, f4, f5⟩ := G₁.fn hdef
  have low := L.low G.low
  have run := call w s s₁ _ _ G₁ (hYk _ _ _ (hY w s yes) keeps) fa fo pm cd doc dV kV f2 f3 f4 f5 (defOf_name hdef ▸ f1) L.gens args vs as hpre hlay L.reads L.well low
  have done : ∀ (res : Result) (s' : Shared), GoodWG r.toRowW.claim (classAt s.heap) (ExcName.means s.heap) args s₁ res s' →
      (r.toRowW.claim.Ends s args vs s₁ res s' ∧ s'.os = s.os ∧ (r.writes = true → namesKept r.prog r.keeps s.heap s'.heap ∧ ∀ x ∈ r.records, ∀ a, classAt s.heap x.1 = some a → recordClass s'.heap a x.1 (x.2.map (·.1)) = true)) ∧ leftWithCleanup s'.gens = false := fun res s' g => by
    obtain ⟨e1, e2, e3⟩ := g.laid (c := r.toRowW.claim) hsame hwi hid L
    exact ⟨⟨e1, e2, fun wr => ⟨namesKept_of ran isNs _ keeps g.2.1.old, noTable hwr wr⟩⟩, leftWithCleanup_false_of_bare e3⟩
  obtain ⟨k, res, s', s'', sched, life, same, ends, osSame, kept⟩ := thread_ends1 (t := callerTree r.name vs)
    (R := fun res s' => r.toRowW.claim.Ends s args vs s₁ res s' ∧ s'.os = s.os ∧ (r.writes = true → namesKept r.prog r.keeps s.heap s'.heap ∧ ∀ x ∈ r.records, ∀ a, classAt s.heap x.1 = some a → recordClass s'.heap a x.1 (x.2.map (·.1)) = true))
    (Shared.asleep_of_life l1 sleeps)
    (callerTree_ok G₁.T.g f1 (wpK_mono run (fun v s' g => ⟨_, rfl, done _ _ g⟩) fun e s' g => done _ _ g))
  obtain ⟨eh, _, _, eo, _⟩ := Shared.forget_eq same
  have ends := ends.congr eh
  rw [← eh] at kept
  rw [← eo] at osSame
  refine ⟨vs, s₁, laid, k, _, s', sched, ?_, fun _ i x hx => ?_, kept, by rw [life, l1], Shared.rest_eq osSame⟩
  · rcases ends with ⟨v, rfl, a1, a2, a3, a4, a5⟩ | ⟨e, ob, cls, rfl, a1, a2, a3, a4, a5⟩
    · exact .inl ⟨v, rfl, a1, a2, a3, fun b o y _ => a4 b o y, a5⟩
    · exact .inr ⟨e, ob, cls, rfl, a1, a2, a3, a4, fun b o y _ => a5 b o y⟩
  · rw [noGen'] at hx; simp at hx
end head
end Mine
end

section
open PySem PySem.W PyProof.Rows
set_option Elab.async false
namespace Mine
set_option maxRecDepth 100000 in
set_option maxHeartbeats 8000000 in
open_top hd for PySem.Challenge.rw_et5021_01
end Mine
end

section
open PySem PySem.W PyProof.Rows
local macro_rules | `(tactic| walk_at "again0") => `(tactic| skip)
local macro_rules | `(tactic| walk_at "again1") => `(tactic| skip)
local macro_rules | `(tactic| walk_at "again2") => `(tactic| skip)
local macro_rules | `(tactic| walk_at "again3") => `(tactic| skip)
local macro_rules | `(tactic| walk_at "again4") => `(tactic| skip)
local macro_rules | `(tactic| walk_at "again5") => `(tactic| skip)
local macro_rules | `(tactic| walk_at "again6") => `(tactic| skip)
local macro_rules | `(tactic| walk_at "again7") => `(tactic| skip)
local macro_rules | `(tactic| walk_at "again8") => `(tactic| skip)
local macro_rules | `(tactic| walk_at "again9") => `(tactic| skip)
local macro_rules | `(tactic| walk_at "again10") => `(tactic| skip)
local macro_rules | `(tactic| walk_at "again11") => `(tactic| skip)
local macro_rules | `(tactic| walk_at "again12") => `(tactic| skip)
local macro_rules | `(tactic| walk_at "again13") => `(tactic| skip)
local macro_rules | `(tactic| walk_at "again14") => `(tactic| skip)
local macro_rules | `(tactic| walk_at "again15") => `(tactic| skip)
local macro_rules | `(tactic| walk_at "again16") => `(tactic| skip)
local macro_rules | `(tactic| walk_at "again17") => `(tactic| skip)
local macro_rules | `(tactic| walk_at "again18") => `(tactic| skip)
local macro_rules | `(tactic| walk_at "again19") => `(tactic| skip)
theorem Mine.again_F2 : True := by
  w_top off
  try (walk1; fail)
  trivial
end

section
open PySem PySem.W PyProof.Rows PySem.Calls
set_option Elab.async false
set_option pp.deepTerms false
set_option pp.deepTerms.threshold 8
set_option linter.unusedVariables false
namespace Mine
noncomputable abbrev Lz : List Str := looseW hd.view_39 [Str.ofString "KEYWORD_REGEX"]
noncomputable abbrev PG : Program := PySem.Challenge.rw_et5021_01.row.prog
abbrev stObj (sl : Addr) (i : Int) (ti : Tok) (sd : Int) (ts : Tok) (n : Nat) : Obj := listOf #[.ref sl, .int i ti, .int sd ts] n
def wordsL : List Str := [Str.ofString "and", Str.ofString "as", Str.ofString "assert", Str.ofString "async", Str.ofString "await", Str.ofString "break", Str.ofString "class", Str.ofString "continue", Str.ofString "def", Str.ofString "del", Str.ofString "elif", Str.ofString "else", Str.ofString "except", Str.ofString "finally", Str.ofString "for", Str.ofString "from", Str.ofString "global", Str.ofString "if", Str.ofString "\x69mport", Str.ofString "in", Str.ofString "is", Str.ofString "lambda", Str.ofString "nonlocal", Str.ofString "not", Str.ofString "or", Str.ofString "pass", Str.ofString "raise", Str.ofString "return", Str.ofString "try", Str.ofString "while", Str.ofString "with", Str.ofString "yield", Str.ofString "print"]
def othersL : List Str := [Str.ofString "android", Str.ofString "x_in", Str.ofString "in_", Str.ofString "inn", Str.ofString "is2", Str.ofString "True", Str.ofString "None", Str.ofString "12", Str.ofString "(", Str.ofString ")", Str.ofString "=", Str.ofString ",", Str.ofString "orb", Str.ofString "a"]
def gapsL : List Str := [Str.ofString "", Str.ofString " ", Str.ofString " ", Str.ofString "  ", Str.ofString "   ", Str.ofString "\t", Str.ofString " \t"]

theorem fm_lo (a : Int) {n : Int} (h : 0 < n) : 0 ≤ a.fmod n := Int.fmod_nonneg_of_pos a h
theorem fm_hi (a : Int) {n : Int} (h : 0 < n) : a.fmod n < n := Int.fmod_lt_of_pos a h

section
local macro_rules | `(tactic| k_all) => `(tactic| assumption)

set_option maxRecDepth 100000 in
set_option maxHeartbeats 4000000 in
theorem next_ok0 {w : World} {mean : ExcName → Option Value} {mg mb : Str → Option Value}
   {dp un : Nat} {gd : Option (List Code)} {cn : Str} {cs : Scope} {a : Addr} {ccd : Value} {cl : List (Str × Addr)} {outer : List Env} {A₀ : Around} {base h₀ : Heap} {L : Addr} {m : Str → Option Value} {s : Shared} {Q E : Value → Shared → Prop}
   (B : Below A₀ base outer h₀) (F : Fr h₀ L s.heap m) (X : (hd.heap_39 w.params).In h₀) (T : Top hd.view_39 Lz mean mg mb h₀) (hk : cs.kind = .function)
   {st sl : Addr} {i sd : Int} {ti ts : Tok} {n n2 : Nat} {vs : List Value} {ns : List Int} {rest : List (Addr × Obj)}
   (N : News h₀ L s.heap ((st, stObj sl i ti sd ts n) :: (sl, listOf vs.toArray n2) :: rest))
   (hrs : ∀ p ∈ rest, p.1 ≠ st) (hne : @Ne Nat sl st) (hi : IntsAre vs ns) (hns : ns.length ≤ 63) (h0 : 0 ≤ i) (hi63 : i ≤ 100) (h1 : 0 ≤ sd) (h2 : sd < 2147483647)
   {many : Int} {tm : Tok} (hm : 0 < many)
   (hd1 : dp + 5 < recursionLimit) (hu : un + 40 < cLine)
   (hret : ∀ r t h' tk' i' ti' sd' ts', Fr h₀ L h' m → News h₀ L h' ((st, stObj sl i' ti' sd' ts' n) :: (sl, listOf vs.toArray n2) :: rest) → 0 ≤ i' → i' ≤ 100 → 0 ≤ sd' → sd' < 2147483647 → 0 ≤ r → r < many → Q (.int r t) { s with heap := h', toks := tk' }) :
   wpAny (model PySem.Challenge.rw_et5021_01.row.prog w) (ktrTop dp un gd cn cs L a ccd cl outer) (call (.ref 50) [.ref st, .int many tm]) Q E s := by
  revert X; k_fill; intro X
  refine wpAny_call ?_
  k_dflt ktr_enter
  k_steps
  · exact hret _ _ _ _ _ _ _ _ (by assumption) (by assumption) (by omega) (by omega) (fm_lo _ (by decide)) (fm_hi _ (by decide)) (fm_lo _ hm) (fm_hi _ hm)
  · exact hret _ _ _ _ _ _ _ _ (by assumption) (by assumption) (by omega) (by omega) (fm_lo _ (by decide)) (fm_hi _ (by decide)) (fm_lo _ hm) (fm_hi _ hm)
end

theorem mem_set_cases {α : Type} {l : List α} {k : Nat} {x p : α} (h : p ∈ l.set k x) : p = x ∨ p ∈ l.eraseIdx k := by
  induction l generalizing k with
  | nil => cases h
  | cons y r ih =>
    cases k with
    | zero => rcases List.mem_cons.mp h with h | h <;> simp_all
    | succ k =>
      rcases List.mem_cons.mp h with h | h
      · right; simp [h]
      · rcases ih h with h | h
        · exact .inl h
        · right; simp [h]

theorem next_ok {w : World} {mean : ExcName → Option Value} {mg mb : Str → Option Value}
   {dp un : Nat} {gd : Option (List Code)} {cn : Str} {cs : Scope} {a : Addr} {ccd : Value} {cl : List (Str × Addr)} {outer : List Env} {A₀ : Around} {base h₀ : Heap} {L : Addr} {m : Str → Option Value} {s : Shared} {Q E : Value → Shared → Prop}
   (k : Nat) {st sl : Addr} {i sd : Int} {ti ts : Tok} {n n2 : Nat} {vs : List Value} {ns : List Int} {news : List (Addr × Obj)}
   (B : Below A₀ base outer h₀) (F : Fr h₀ L s.heap m) (X : (hd.heap_39 w.params).In h₀) (T : Top hd.view_39 Lz mean mg mb h₀) (hk : cs.kind = .function)
   (N : News h₀ L s.heap news) (hat : news[k]? = some (st, stObj sl i ti sd ts n)) (hsl : (sl, listOf vs.toArray n2) ∈ news)
   (hrs : ∀ p ∈ news.eraseIdx k, p.1 ≠ st) (hne : @Ne Nat sl st) (hi : IntsAre vs ns) (hns : ns.length ≤ 63) (h0 : 0 ≤ i) (hi63 : i ≤ 100) (h1 : 0 ≤ sd) (h2 : sd < 2147483647)
   {many : Int} {tm : Tok} (hm : 0 < many)
   (hd1 : dp + 5 < recursionLimit) (hu : un + 40 < cLine)
   (hret : ∀ r t h' tk' i' ti' sd' ts', Fr h₀ L h' m → News h₀ L h' (news.set k (st, stObj sl i' ti' sd' ts' n)) → 0 ≤ i' → i' ≤ 100 → 0 ≤ sd' → sd' < 2147483647 → 0 ≤ r → r < many → Q (.int r t) { s with heap := h', toks := tk' }) :
   wpAny (model PySem.Challenge.rw_et5021_01.row.prog w) (ktrTop dp un gd cn cs L a ccd cl outer) (call (.ref 50) [.ref st, .int many tm]) Q E s := by
  refine next_ok0 (ti := ti) (ts := ts) (n := n) (n2 := n2) B F X T hk (rest := news.eraseIdx k) (fun p hp => N p ?_) hrs hne hi hns h0 hi63 h1 h2 hm hd1 hu ?_
  · rcases List.mem_cons.mp hp with rfl | hp
    · exact List.mem_of_getElem? hat
    · rcases List.mem_cons.mp hp with rfl | hp
      · exact hsl
      · exact List.mem_of_mem_eraseIdx hp
  · intro r t h' tk' i' ti' sd' ts' F' N'
    refine hret r t h' tk' i' ti' sd' ts' F' fun p hp => N' p ?_
    rcases mem_set_cases hp with rfl | hp
    · exact .head _
    · exact .tail _ (.tail _ hp)

set_option maxRecDepth 100000 in
set_option maxHeartbeats 4000000 in
theorem words_ok {w : World} {mean : ExcName → Option Value} {mg mb : Str → Option Value}
   {dp un : Nat} {gd : Option (List Code)} {cn : Str} {cs : Scope} {a : Addr} {ccd : Value} {cl : List (Str × Addr)} {outer : List Env} {A₀ : Around} {base h₀ : Heap} {L : Addr} {m : Str → Option Value} {s : Shared} {Q E : Value → Shared → Prop}
   (B : Below A₀ base outer h₀) (F : Fr h₀ L s.heap m) (X : (hd.heap_39 w.params).In h₀) (T : Top hd.view_39 Lz mean mg mb h₀) (hk : cs.kind = .function)
   {rest : List (Addr × Obj)}
   (N : News h₀ L s.heap rest)
   (hd1 : dp + 5 < recursionLimit) (hu : un + 40 < cLine)
   (hret : ∀ l vs h' tk', Fr h₀ L h' m → News h₀ L h' ((l, listOf (List.toArray vs) 0) :: rest) → StrsAre vs wordsL → (∀ p ∈ rest, p.1 < l) → Q (.ref l) { s with heap := h', toks := tk' }) :
   wpAny (model PySem.Challenge.rw_et5021_01.row.prog w) (ktrTop dp un gd cn cs L a ccd cl outer) (call (.ref 57) []) Q E s := by
  revert X; k_fill; intro X
  refine wpAny_call ?_
  k_dflt ktr_enter
  k_steps
  exact hret _ _ _ _ (by assumption) (by with_unfolding_all assumption) (by repeat constructor) (by assumption)

set_option maxRecDepth 100000 in
set_option maxHeartbeats 4000000 in
theorem isword_ok {w : World} {mean : ExcName → Option Value} {mg mb : Str → Option Value}
   {dp un : Nat} {gd : Option (List Code)} {cn : Str} {cs : Scope} {a : Addr} {ccd : Value} {cl : List (Str × Addr)} {outer : List Env} {A₀ : Around} {base h₀ : Heap} {L : Addr} {m : Str → Option Value} {s : Shared} {Q E : Value → Shared → Prop}
   (B : Below A₀ base outer h₀) (F : Fr h₀ L s.heap m) (X : (hd.heap_39 w.params).In h₀) (T : Top hd.view_39 Lz mean mg mb h₀) (hk : cs.kind = .function)
   {rest : List (Addr × Obj)} {x : Str} {tx : Tok} (hx : 0 < x.length) (hx2 : x.length ≤ 100)
   (N : News h₀ L s.heap rest)
   (hd1 : dp + 5 < recursionLimit) (hu : un + 40 < cLine)
   (hret : ∀ h' tk', Fr h₀ L h' m → News h₀ L h' rest → Q (.bool (Txt.isalnum (Txt.item x 0))) { s with heap := h', toks := tk' }) :
   wpAny (model PySem.Challenge.rw_et5021_01.row.prog w) (ktrTop dp un gd cn cs L a ccd cl outer) (call (.ref 64) [.str x tx]) Q E s := by
  revert X; k_fill; intro X
  refine wpAny_call ?_
  k_dflt ktr_enter
  k_steps
  exact hret _ _ (by assumption) (by assumption)
end Mine
end

section
open PySem PySem.W PyProof.Rows PySem.Calls PySem.Spec
set_option Elab.async false
set_option pp.deepTerms false
set_option pp.deepTerms.threshold 8
set_option linter.unusedVariables false
namespace Mine
theorem allLt_mem {d : Addr} : ∀ {l : List (Addr × Obj)}, AllLt d l → ∀ p ∈ l, @LT.lt Nat _ p.1 d
  | [], _, _, h => nomatch h
  | _ :: _, x, p, h => by
    rcases List.mem_cons.mp h with rfl | h
    · exact x.1
    · exact allLt_mem x.2 p h
theorem wordsL_len : wordsL.length = 33 := rfl
theorem othersL_len : othersL.length = 14 := rfl
theorem gapsL_len : gapsL.length = 7 := rfl
def menuL : List Str := wordsL ++ othersL
theorem menu_ok : ∀ y ∈ menuL, PyData.strOk y = true ∧ 0 < y.length ∧ y.length ≤ 10 := by decide +kernel
theorem gaps_ok : ∀ y ∈ gapsL, PyData.strOk y = true ∧ y.length ≤ 3 := by decide +kernel
def isw (x : Str) : Bool := Txt.isalnum (Txt.item x 0)
theorem words_get {k : Nat} (h : k < wordsL.length) : wordsL.getD k Str.empty ∈ menuL := by
  rw [List.getD_eq_getElem?_getD, List.getElem?_eq_getElem h]
  exact List.mem_append_left _ (List.getElem_mem h)
theorem others_get {k : Nat} (h : k < othersL.length) : othersL.getD k Str.empty ∈ menuL := by
  rw [List.getD_eq_getElem?_getD, List.getElem?_eq_getElem h]
  exact List.mem_append_right _ (List.getElem_mem h)
theorem gaps_get {k : Nat} (h : k < gapsL.length) : gapsL.getD k Str.empty ∈ gapsL := by
  rw [List.getD_eq_getElem?_getD, List.getElem?_eq_getElem h]
  exact List.getElem_mem h
theorem strs_carried : ∀ {vs : List Value} {ys : List Str}, StrsAre vs ys → CarriedAll vs (ys.map PyData.str)
  | _, _, .nil => .nil
  | _, _, .cons _ t r => .cons (.str _ t) (strs_carried r)
theorem strs_canLay : ∀ {ys : List Str}, (∀ y ∈ ys, PyData.strOk y = true) → PyData.canLayAll0 (ys.map PyData.str) = true
  | [], _ => rfl
  | y :: r, h => by
    simp only [List.map_cons, PyData.canLayAll0, PyData.canLay0, h y (.head _), strs_canLay fun z hz => h z (.tail _ hz), Bool.and_self]
theorem strs_depth : ∀ ys : List Str, PyData.depthAll (ys.map PyData.str) = 0
  | [] => rfl
  | _ :: r => by simp [PyData.depthAll, PyData.depth, strs_depth r]
theorem strs_shaped {ys : List Str} (h : ∀ y ∈ ys, PyData.strOk y = true) : SeqAt.shaped (.list (ys.map PyData.str)) = true := by
  simp [SeqAt.shaped, PyData.canLay0, PyData.depth, strs_canLay h, strs_depth]
theorem eqv_nil (ys : List Str) : PyData.eqv (.list (ys.map PyData.str)) (.list []) = decide (ys = []) := by
  cases ys <;> simp [PyData.eqv, PyData.eqvAll]
section
variable {prog : Program} {w : World} {A : Around} {E : Value → Shared → Prop} {s : Shared} {h₀ : Heap} {L a b : Addr} {news : List (Addr × Obj)} {xs : List Value} {ys : List Str} {n k : Nat} {Q : Value → Shared → Prop}
theorem ne_nil (N : News h₀ L s.heap news) (ha : (a, listOf xs.toArray n) ∈ news) (hb : (b, listOf #[] k) ∈ news) (hs : StrsAre xs ys) (hm : ∀ y ∈ ys, y ∈ menuL) (hu : A.units + 64 < cLine)
    (h : Q (.bool (!decide (ys = []))) s) : wpAny (model prog w) A (compareOp .NotEq (.ref a) (.ref b)) Q E s :=
  ne_dataH (reads_newData (PySem.IsL.isList (n := n) (N _ ha).1) (strs_carried hs)) (reads_newData (ys := []) (PySem.IsL.isList (n := k) (N _ hb).1) .nil)
    (strs_shaped fun y hy => (menu_ok y (hm y hy)).1) rfl hu (by rw [eqv_nil]; exact h)
theorem add_own {ys' : List Value} {m : Str → Option Value} {Q : Value → Shared → Prop} (F : Fr h₀ L s.heap m) (N : News h₀ L s.heap news) (ha : (a, listOf xs.toArray n) ∈ news) (hb : (b, listOf ys'.toArray k) ∈ news) (hsz : xs.length + ys'.length ≤ 1000)
    (h : ∀ S h', Fr h₀ L h' m → News h₀ L h' ((S, listOf (xs ++ ys').toArray 0) :: news) → (∀ p ∈ news, p.1 < S) → Q (.ref S) { s with heap := h' }) : wpAny (model prog w) A (binaryOp .Add (.ref a) (.ref b)) Q E s :=
  add_arrays F N (PySem.IsL.isList (n := n) (N _ ha).1) (PySem.IsL.isList (n := k) (N _ hb).1) (fun h' F' N' => h _ h' F' N' fun p hp => Heap.lt_size (N p hp).1)
    (by rw [List.size_toArray, List.size_toArray]; exact Nat.le_trans hsz (by rw [sizeLine_eq]; decide))
theorem item_last {value slice : PySem.Expr} {u : Tok} (N : News h₀ L s.heap news) (ha : (a, listOf xs.toArray n) ∈ news) (hs : StrsAre xs ys) (hne : ys ≠ [])
    (h : ∀ t', Q (.str (ys.getLast hne) t') s)
    (hsu : subscripted slice false (.ref a) (.int (-1) u) = operate [.ref a, .int (-1) u] (getItem (.ref a) (.int (-1) u)) := by with_unfolding_all rfl) (hg : ∀ r, letTemporaryGo value (.ref a) r = pure () := by intro _; with_unfolding_all rfl) :
    wpAny (model prog w) A (subscriptTail value slice (.ref a) (.int (-1) u)) Q E s := by
  have hlen : 0 < ys.length := List.length_pos_iff.mpr hne
  have hx : xs.length = ys.length := hs.length
  obtain ⟨t', e⟩ := hs.get (ys.length - 1) (ys.getLast hne) (by rw [List.getLast_eq_getElem]; exact List.getElem?_eq_getElem _)
  refine kim_back (x := .str (ys.getLast hne) t') N ha rfl rfl (by decide) (by omega) (by decide) ?_ (h t') hsu hg
  rw [show (-1 + (xs.length : Int)).toNat = ys.length - 1 by omega]
  exact e
end
end Mine
end

section
open PySem PySem.W PyProof.Rows
local macro_rules | `(tactic| walk_at "again0") => `(tactic| skip)
local macro_rules | `(tactic| walk_at "again1") => `(tactic| skip)
local macro_rules | `(tactic| walk_at "again2") => `(tactic| skip)
local macro_rules | `(tactic| walk_at "again3") => `(tactic| skip)
local macro_rules | `(tactic| walk_at "again4") => `(tactic| skip)
local macro_rules | `(tactic| walk_at "again5") => `(tactic| skip)
local macro_rules | `(tactic| walk_at "again6") => `(tactic| skip)
local macro_rules | `(tactic| walk_at "again7") => `(tactic| skip)
local macro_rules | `(tactic| walk_at "again8") => `(tactic| skip)
local macro_rules | `(tactic| walk_at "again9") => `(tactic| skip)
local macro_rules | `(tactic| walk_at "again10") => `(tactic| skip)
local macro_rules | `(tactic| walk_at "again11") => `(tactic| skip)
local macro_rules | `(tactic| walk_at "again12") => `(tactic| skip)
local macro_rules | `(tactic| walk_at "again13") => `(tactic| skip)
local macro_rules | `(tactic| walk_at "again14") => `(tactic| skip)
local macro_rules | `(tactic| walk_at "again15") => `(tactic| skip)
local macro_rules | `(tactic| walk_at "again16") => `(tactic| skip)
local macro_rules | `(tactic| walk_at "again17") => `(tactic| skip)
local macro_rules | `(tactic| walk_at "again18") => `(tactic| skip)
local macro_rules | `(tactic| walk_at "again19") => `(tactic| skip)
theorem Mine.again_F3 : True := by
  w_top off
  try (walk1; fail)
  trivial
end

section
open PySem PySem.W PyProof.Rows PySem.Calls
set_option Elab.async false
set_option pp.deepTerms false
set_option pp.deepTerms.threshold 8
set_option linter.unusedVariables false
namespace Mine
inductive RowOk : List Str → List Str → Prop
  | nil : RowOk [] []
  | snoc {ps gs : List Str} {p g : Str} : RowOk ps gs → p ∈ menuL → g ∈ gapsL → (g = Str.ofString "" → ∀ q, ps.getLast? = some q → ¬ (isw q = true ∧ isw p = true)) → RowOk (ps ++ [p]) (gs ++ [g])
theorem rowOk_menu {ps gs : List Str} (h : RowOk ps gs) : ∀ y ∈ ps, y ∈ menuL := by
  induction h with
  | nil => intro y hy; cases hy
  | snoc h hp hg ho ih => intro y hy; rcases List.mem_append.mp hy with hy | hy; exact ih y hy; rw [List.mem_singleton.mp hy]; exact hp
theorem rowOk_len {ps gs : List Str} (h : RowOk ps gs) : gs.length = ps.length := by
  induction h with
  | nil => rfl
  | snoc h hp hg ho ih => simp [ih]
theorem strs_snoc {x : Str} {t : Tok} : ∀ {vs : List Value} {ys : List Str}, StrsAre vs ys → StrsAre (vs ++ [.str x t]) (ys ++ [x])
  | _, _, .nil => .cons x t .nil
  | _, _, .cons y u r => .cons y u (strs_snoc r)
structure RS where
  i : Int
  sd : Int
  ti : Tok
  ts : Tok
  pv : List Value
  ps : List Str
  pn : Nat
  sv : List Value
  gs : List Str
  sn : Nat
abbrev rsLed (st sl pA sA wA oA gA : Addr) (n n2 : Nat) (vs wv ov gv : List Value) (rest : List (Addr × Obj)) (c : RS) : List (Addr × Obj) :=
  (st, stObj sl c.i c.ti c.sd c.ts n) :: (pA, listOf c.pv.toArray c.pn) :: (sA, listOf c.sv.toArray c.sn) :: (gA, listOf gv.toArray 0) :: (oA, listOf ov.toArray 0) :: (wA, listOf wv.toArray 0) :: (sl, listOf vs.toArray n2) :: rest
def rsFacts (c : RS) : Prop := 0 ≤ c.i ∧ c.i ≤ 100 ∧ 0 ≤ c.sd ∧ c.sd < 2147483647 ∧ StrsAre c.pv c.ps ∧ StrsAre c.sv c.gs
def rsP (pre : List Int) (c : RS) : Prop := c.ps.length = pre.length ∧ RowOk c.ps c.gs
local macro_rules | `(tactic| k_all) => `(tactic| assumption)
local macro_rules | `(tactic| walk_at "call ref") => `(tactic| (k_here; (with_reducible show wpAny _ _ (call (Value.ref 57) _) _ _ _); k_dflt (refine' words_ok ?k1 ?k2 ?k3 ?k4 ?k5 ?k6 ?k7 ?k8 ?_; (case k1 => k_asm); (case k2 => k_asm); (case k3 => k_asm); (case k4 => k_asm); (case k5 => first | exact rfl | assumption); (case k6 => k_asm); (case k7 => ktr_room); (case k8 => ktr_units)); intro l' vs' h' tk' F' N' hS' l1; (try k_lt l1)))
local macro_rules | `(tactic| walk_at "call ref") => `(tactic| (k_here; (with_reducible show wpAny _ _ (call (Value.ref 50) _) _ _ _); k_dflt (first | (refine' next_ok 0 ?k1 ?k2 ?k3 ?k4 ?k5 ?k6 ?k7 ?k8 ?k9 ?k10 ?k11 ?k12 ?k13 ?k14 ?k15 ?k16 ?k17 ?k18 ?k19 ?_; (case k2 => k_asm); (case k6 => k_asm); (case k7 => exact rfl)) | (refine' next_ok 1 ?k1 ?k2 ?k3 ?k4 ?k5 ?k6 ?k7 ?k8 ?k9 ?k10 ?k11 ?k12 ?k13 ?k14 ?k15 ?k16 ?k17 ?k18 ?k19 ?_; (case k2 => k_asm); (case k6 => k_asm); (case k7 => exact rfl)) | (refine' next_ok 2 ?k1 ?k2 ?k3 ?k4 ?k5 ?k6 ?k7 ?k8 ?k9 ?k10 ?k11 ?k12 ?k13 ?k14 ?k15 ?k16 ?k17 ?k18 ?k19 ?_; (case k2 => k_asm); (case k6 => k_asm); (case k7 => exact rfl)) | (refine' next_ok 3 ?k1 ?k2 ?k3 ?k4 ?k5 ?k6 ?k7 ?k8 ?k9 ?k10 ?k11 ?k12 ?k13 ?k14 ?k15 ?k16 ?k17 ?k18 ?k19 ?_; (case k2 => k_asm); (case k6 => k_asm); (case k7 => exact rfl)) | (refine' next_ok 4 ?k1 ?k2 ?k3 ?k4 ?k5 ?k6 ?k7 ?k8 ?k9 ?k10 ?k11 ?k12 ?k13 ?k14 ?k15 ?k16 ?k17 ?k18 ?k19 ?_; (case k2 => k_asm); (case k6 => k_asm); (case k7 => exact rfl)) | (refine' next_ok 5 ?k1 ?k2 ?k3 ?k4 ?k5 ?k6 ?k7 ?k8 ?k9 ?k10 ?k11 ?k12 ?k13 ?k14 ?k15 ?k16 ?k17 ?k18 ?k19 ?_; (case k2 => k_asm); (case k6 => k_asm); (case k7 => exact rfl)) | (refine' next_ok 6 ?k1 ?k2 ?k3 ?k4 ?k5 ?k6 ?k7 ?k8 ?k9 ?k10 ?k11 ?k12 ?k13 ?k14 ?k15 ?k16 ?k17 ?k18 ?k19 ?_; (case k2 => k_asm); (case k6 => k_asm); (case k7 => exact rfl))); (case k1 => k_asm); (case k3 => k_asm); (case k4 => k_asm); (case k5 => first | exact rfl | assumption); (case k8 => k_mem); (case k9 => k_all); (case k10 => k_ne); (case k11 => assumption); (case k12 => assumption); (case k13 => omega); (case k14 => omega); (case k15 => omega); (case k16 => omega); (case k17 => omega); (case k18 => ktr_room); (case k19 => ktr_units); intro r' t' h' tk' i' ti' sd' ts' F' N' c1' c2' c3' c4' c5' c6'; dsimp only [List.set] at N'))

theorem row_end {g' h' : Heap} {L' : Addr} {m' m₀ : Str → Option Value} {news' rest own : List (Addr × Obj)} {adr : List Addr} {s₁ : Shared} {tk : Nat} {st sl pA sA wA oA gA : Addr} {n n2 : Nat} {vs wv ov gv : List Value} {pre : List Int} {k : Int}
    {pv sv : List Value} {ps gs : List Str} {pn sn : Nat} {i sd : Int} {ti ts tp tg : Tok} {p g : Str}
    (F : Fr g' L' h' m') (N : News g' L' h' news') (m1 : (st, stObj sl i ti sd ts n) ∈ news') (m2 : (pA, listOf (pv.toArray.push (.str p tp)) (pn + 1)) ∈ news') (m3 : (sA, listOf (sv.toArray.push (.str g tg)) (sn + 1)) ∈ news')
    (m4 : ∀ q ∈ (gA, listOf gv.toArray 0) :: (oA, listOf ov.toArray 0) :: (wA, listOf wv.toArray 0) :: (sl, listOf vs.toArray n2) :: rest, q ∈ news') (m5 : ∀ q ∈ own, q ∈ news')
    (ha : adr = st :: pA :: sA :: gA :: oA :: wA :: sl :: rest.map (·.1))
    (b1 : 0 ≤ i) (b2 : i ≤ 100) (b3 : 0 ≤ sd) (b4 : sd < 2147483647) (f5 : StrsAre pv ps) (f6 : StrsAre sv gs) (hp1 : ps.length = pre.length) (hp2 : RowOk ps gs)
    (hp : p ∈ menuL) (hg : g ∈ gapsL) (hc : g = Str.ofString "" → ∀ q, ps.getLast? = some q → ¬ (isw q = true ∧ isw p = true))
    (hr : ∀ z, z ≠ Str.ofString "_" → z ≠ Str.ofString "piece" → z ≠ Str.ofString "gap" → m' z = m₀ z) :
    InvEndN g' L' (KstS (rsLed st sl pA sA wA oA gA n n2 vs wv ov gv rest) (fun _ => []) rsFacts (Str.ofString "_") [Str.ofString "piece", Str.ofString "gap"] m₀ rsP (pre ++ [k])) own adr s₁ { s₁ with heap := h', toks := tk } := by
  refine kst_end ⟨i, sd, ti, ts, pv ++ [.str p tp], ps ++ [p], pn + 1, sv ++ [.str g tg], gs ++ [g], sn + 1⟩ F N ?_ m5 (by rw [ha]; rfl) ⟨b1, b2, b3, b4, ?_, ?_⟩ (fun _ h => nomatch h) (fun z z1 _ z3 => hr z z1 ?_ ?_) ⟨by simp [hp1], .snoc hp2 hp hg hc⟩
  · intro q hq
    rcases List.mem_cons.mp hq with rfl | hq
    · exact m1
    rcases List.mem_cons.mp hq with rfl | hq
    · show (pA, listOf (pv ++ [Value.str p tp]).toArray (pn + 1)) ∈ news'
      rw [← List.push_toArray]; exact m2
    rcases List.mem_cons.mp hq with rfl | hq
    · show (sA, listOf (sv ++ [Value.str g tg]).toArray (sn + 1)) ∈ news'
      rw [← List.push_toArray]; exact m3
    · exact m4 q hq
  · exact strs_snoc f5
  · exact strs_snoc f6
  · intro e; subst e; exact absurd z3 (by decide)
  · intro e; subst e; exact absurd z3 (by decide)
theorem gap_ne {g : Str} (h : (g == Str.ofString "") = false) : g ≠ Str.ofString "" := fun e => by subst e; exact absurd h (by decide)
theorem cont_no {z : Str} (h1 : z ≠ Str.ofString "piece") (h2 : z ≠ Str.ofString "gap") : [Str.ofString "piece", Str.ofString "gap"].contains z = false := by
  simp [h1, h2]
theorem isw_no {p : Str} (h : Txt.isalnum (Txt.item p 0) = false) (k : isw p = true) : False := Bool.noConfusion (h.symm.trans k)
theorem isw_of {x : Str} : isw x = Txt.isalnum (Txt.item x 0) := rfl

local macro_rules | `(tactic| k_steps) => `(tactic| repeat' ((fail_if_success (with_reducible show wpAny _ _ (pyIter _) _ _ _)); (fail_if_success (with_reducible show InvEndN _ _ _ _ _ _ _)); (first | (k_unfold; (try dsimp only)) | (k_end; kc_close) | walk1 | (dsimp only; walk1) | (leave1; walk_say "STEP leave1"; (try dsimp only)) | fail "no step")))
local macro_rules | `(tactic| walk_at "subscriptTail") => `(tactic| (k_here; (with_reducible show wpAny _ _ (subscriptTail _ _ (Value.ref _) (Value.int _ _)) _ _ _); k_dflt (refine' KTb.item_list ?kl ?kw ?k0 ?k1 ?kf ?_; (case kl => exact News.isList (by k_asm) (by k_mem)); (case kw => assumption); (case k0 => omega); (case k1 => (simp only [wordsL_len, othersL_len, gapsL_len]; omega)); (case kf => omega)); intro t' hlt'))
local macro_rules | `(tactic| walk_at "compareOp NotEq ref ref") => `(tactic| (k_here; (with_reducible show wpAny _ _ (compareOp CmpOp.NotEq (Value.ref _) (Value.ref _)) _ _ _); k_dflt (refine' ne_nil ?kN ?ka ?kb ?ks ?km ?ku ?_; (case kN => k_asm); (case ka => k_mem); (case kb => k_mem); (case ks => assumption); (case km => assumption); (case ku => ktr_units))))
local macro_rules | `(tactic| walk_at "subscriptTail") => `(tactic| (k_here; (with_reducible show wpAny _ _ (subscriptTail _ _ (Value.ref _) (Value.int (-1) _)) _ _ _); k_dflt (refine' item_last ?kN ?ka ?ks ?kn ?_ ?kz1 ?kz2; (case kN => k_asm); (case ka => k_mem); (case ks => assumption); (case kn => (intro he; simp_all; done)); (case kz1 => with_unfolding_all rfl); (case kz2 => (intro _; with_unfolding_all rfl))); intro t'))
local macro_rules | `(tactic| walk_at "call ref") => `(tactic| (k_here; (with_reducible show wpAny _ _ (call (Value.ref 64) _) _ _ _); k_dflt (refine' isword_ok ?k1 ?k2 ?k3 ?k4 ?k5 ?k6 ?k7 ?k8 ?k9 ?k10 ?_; (case k1 => k_asm); (case k2 => k_asm); (case k3 => k_asm); (case k4 => k_asm); (case k5 => first | exact rfl | assumption); (case k8 => k_asm); (case k9 => ktr_room); (case k10 => ktr_units); (case k6 => first | exact (menu_ok _ (words_get (by assumption))).2.1 | exact (menu_ok _ (others_get (by assumption))).2.1 | exact (menu_ok _ ((by assumption : ∀ y ∈ _, y ∈ menuL) _ (List.getLast_mem _))).2.1); (case k7 => refine Nat.le_trans ?_ (by decide : 10 ≤ 100); first | exact (menu_ok _ (words_get (by assumption))).2.2 | exact (menu_ok _ (others_get (by assumption))).2.2 | exact (menu_ok _ ((by assumption : ∀ y ∈ _, y ∈ menuL) _ (List.getLast_mem _))).2.2)); intro h' tk' F' N'))
local macro_rules | `(tactic| walk_at "binaryOp Add ref ref") => `(tactic| (k_here; (with_reducible show wpAny _ _ (binaryOp Operator.Add (Value.ref _) (Value.ref _)) _ _ _); k_dflt (refine' add_own ?kF ?kN ?ka ?kb ?kz ?_; (case kF => k_asm); (case kN => k_asm); (case ka => k_mem); (case kb => k_mem); (case kz => (simp only [List.length_cons, List.length_nil]; omega))); intro S' h' F' N' l1; (try k_lt l1)))
def RowOk2 (ps gs : List Str) : Prop := ∃ gs0 g, gs = gs0 ++ [g] ∧ RowOk ps gs0 ∧ g ∈ gapsL ∧ 2 ≤ ps.length ∧ ps.length ≤ 9
abbrev tupObj (its : Array Value) : Obj := { cls := .type "tuple", data := .seq its }
set_option maxRecDepth 100000 in
set_option maxHeartbeats 6000000 in
theorem row_ok {w : World} {mean : ExcName → Option Value} {mg mb : Str → Option Value}
   {dp un : Nat} {gd : Option (List Code)} {cn : Str} {cs : Scope} {a : Addr} {ccd : Value} {cl : List (Str × Addr)} {outer : List Env} {A₀ : Around} {base h₀ : Heap} {L : Addr} {m : Str → Option Value} {s : Shared} {Q E : Value → Shared → Prop}
   {st sl : Addr} {i sd : Int} {ti ts : Tok} {n n2 : Nat} {vs : List Value} {ns : List Int} {rest : List (Addr × Obj)}
   (B : Below A₀ base outer h₀) (F : Fr h₀ L s.heap m) (X : (hd.heap_39 w.params).In h₀) (T : Top hd.view_39 Lz mean mg mb h₀) (hk : cs.kind = .function)
   (N : News h₀ L s.heap ((st, stObj sl i ti sd ts n) :: (sl, listOf vs.toArray n2) :: rest))
   (hrs : ∀ p ∈ rest, p.1 ≠ st) (hne : @LT.lt Nat _ sl st) (hi : IntsAre vs ns) (hns : ns.length ≤ 63) (h0 : 0 ≤ i) (hi63 : i ≤ 100) (h1 : 0 ≤ sd) (h2 : sd < 2147483647)
   (hd1 : dp + 15 < recursionLimit) (hu : un + 100 < cLine)
   (hret : ∀ (D S P : Addr) (pv sv : List Value) (ps gs : List Str) (pn : Nat) (i' : Int) (ti' : Tok) (sd' : Int) (ts' : Tok) h' tk', Fr h₀ L h' m →
      News h₀ L h' ((D, tupObj #[.ref P, .ref S]) :: (S, listOf sv.toArray 0) :: (P, listOf pv.toArray pn) :: (st, stObj sl i' ti' sd' ts' n) :: (sl, listOf vs.toArray n2) :: rest) →
      StrsAre pv ps → StrsAre sv gs → RowOk2 ps gs → 0 ≤ i' → i' ≤ 100 → 0 ≤ sd' → sd' < 2147483647 → @LT.lt Nat _ P S → @LT.lt Nat _ S D → @LT.lt Nat _ st P → @LT.lt Nat _ sl P → AllLt P rest →
      Q (.ref D) { s with heap := h', toks := tk' }) :
   wpAny (model PySem.Challenge.rw_et5021_01.row.prog w) (ktrTop dp un gd cn cs L a ccd cl outer) (call (.ref 71) [.ref st]) Q E s := by
  revert X; k_fill; intro X
  refine wpAny_call ?_
  k_dflt ktr_enter
  k_steps
  rename_i g' L' hq12 FG B1 X1 T1 tk4 wA wv hq11 tkw hSw l1w hq10 oA hq9 l1o hq8 tk3 gA hq7 l1g hq6 tk2 pA hq5 l1p hq4 tk1 sA hq3 l1s hq2 lF0 N0 r t hq1 tkr i1 ti1 sd1 ts1 F1 N1 c1 c2 c3 c4 c5 c6 hq tkh t1 u1 v1 hR F2 N2 hkeep
  clear N0 lF0 N1 F1
  suffices H : ∀ ov gv, StrsAre ov othersL → StrsAre gv gapsL → News g' L' hq ((sA, listOf #[] 0) :: (pA, listOf #[] 0) :: (gA, listOf (List.toArray gv) 0) :: (oA, listOf (List.toArray ov) 0) :: (wA, listOf (List.toArray wv) 0) :: (st, stObj sl i1 ti1 sd1 ts1 n) :: (sl, listOf (List.toArray vs) n2) :: rest) → _ by
    with_unfolding_all exact H _ _ (by repeat constructor) (by repeat constructor) N2
  clear N2
  intro ov gv hSo hSg N2
  refine kst_range (rsLed st sl pA sA wA oA gA n n2 vs wv ov gv rest) (fun _ => []) rsFacts [Str.ofString "piece", Str.ofString "gap"] rsP ⟨i1, sd1, ti1, ts1, [], [], 0, [], [], 0⟩ (n := (2 + r - 0).toNat) rfl hR ?_ ?_ F2 ?_ ?_ ?_ ?_ ?_ ?_
  · exact small_one (by omega) (by omega) (by omega) (by omega)
  · exact rangeSize_nat _ _
  · intro p hp
    refine N2 p ?_
    simp only [rsLed, List.mem_cons] at hp
    rcases hp with h|h|h|h|h|h|h|h
    all_goals first | (subst h; simp; done) | (simp [h]; done)
  · exact ⟨c1, c2, c3, c4, .nil, .nil⟩
  · intro p hp; cases hp
  · exact ⟨rfl, .nil⟩
  · rintro ⟨ci, csd, cti, cts, pv, ps, pn, sv, gs, sn⟩ pre k tk0 u h tk' own hkk hpre hoff ⟨f1, f2, f3, f4, f5, f6⟩ ⟨hp1, hp2⟩ F3 N3
    dsimp only [kstB, rsLed] at F3 N3 hoff f1 f2 f3 f4 f5 f6 hp1 hp2
    have hst : ∀ p ∈ rest ++ own, p.1 ≠ st := fun p hp => (List.mem_append.mp hp).elim (hrs p) fun h => hoff p h st (by simp)
    have hpA : ∀ p ∈ rest ++ own, p.1 ≠ pA := fun p hp => (List.mem_append.mp hp).elim (fun h => Nat.ne_of_lt (allLt_mem l1p.2.2.2.2.2 p h)) fun h => hoff p h pA (by simp)
    have hsA : ∀ p ∈ rest ++ own, p.1 ≠ sA := fun p hp => (List.mem_append.mp hp).elim (fun h => Nat.ne_of_lt (allLt_mem l1s.2.2.2.2.2.2 p h)) fun h => hoff p h sA (by simp)
    simp only [List.cons_append] at N3
    have hmen : ∀ y ∈ ps, y ∈ menuL := rowOk_menu hp2
    have hgl : gs.length = ps.length := rowOk_len hp2
    have hz1 : pv.length = pre.length := by rw [f5.length]; exact hp1
    have hz2 : sv.length = pre.length := by rw [f6.length, hgl]; exact hp1
    have hz3 : pre.length < 11 := by omega
    have hoff' := hoff
    clear hoff hi63 h0 h1 h2 c1 c2 c3 c4 F2 N2 hkeep hR N F
    k_steps
    all_goals (rename Fr _ _ _ _ => zF; rename News _ _ _ _ => zN)
    all_goals refine row_end (pv := pv) (sv := sv) (ps := ps) (gs := gs) zF zN (by k_mem) (by k_mem) (by k_mem) ?_ ?_ rfl (by assumption) (by assumption) (by assumption) (by assumption) f5 f6 hp1 hp2 ?_ ?_ ?_ ?_
    all_goals first
      | exact words_get (by assumption)
      | exact others_get (by assumption)
      | exact gaps_get (by assumption)
      | (intro he; exact absurd he (gap_ne (by assumption)))
      | (intro he; exact absurd he (by decide))
      | (intro z z1 z2 z3; simp only [if_neg z1, if_neg z2, if_neg z3, cont_no z2 z3, Bool.false_eq_true, if_false]; done)
      | (intro q hq; simp only [List.mem_cons, List.mem_append] at hq ⊢; grind)
      | (intro _ q hq; rw [(by assumption : ps = [])] at hq; cases hq)
      | (intro _ q hq hh; rw [List.getLast?_eq_some_getLast (by assumption)] at hq; injection hq with hq; subst hq; exact Bool.noConfusion ((by assumption : Txt.isalnum (Txt.item (ps.getLast _) 0) = false).symm.trans hh.1))
      | (intro _ q hq hh; exact isw_no (by assumption) hh.2)
      | decide
      | skip
  · rintro ⟨ci, csd, cti, cts, pv, ps, pn, sv, gs, sn⟩ u h tk' ⟨f1, f2, f3, f4, f5, f6⟩ ⟨hp1, hp2⟩ F3 N3
    dsimp only [kstB, rsLed] at F3 N3 f1 f2 f3 f4 f5 f6 hp1 hp2
    have hgl : gs.length = ps.length := rowOk_len hp2
    have hlen : ps.length = (2 + r).toNat := by rw [hp1, rangeKs_length]; congr 1; omega
    have hz1 : pv.length = ps.length := f5.length
    have hz2 : sv.length = ps.length := by rw [f6.length, hgl]
    have hz3 : ps.length < 11 := by omega
    have hz4 : 2 ≤ ps.length := by omega
    clear hi63 h0 h1 h2 c1 c2 c3 c4 F2 N2 hkeep hR N F
    k_steps
    rename_i r9 t9 h6 tk6 i9 ti9 sd9 ts9 d1 d2 d3 d4 d5 d6 t7 hlt7 l7 h7 l17 S' h8 l18 D' h9 F' N' l19 kF kN Tc kX
    dsimp only at kF kN
    refine hret D' S' pA pv (sv ++ [Value.str _ t7]) ps _ pn i9 ti9 sd9 ts9 _ _ kF (fun q hq => kN q ?_) f5 (strs_snoc f6) ⟨gs, _, rfl, hp2, gaps_get hlt7, by omega, by omega⟩ d1 d2 d3 d4 (by omega) (by omega) (by omega) (by omega) l1p.2.2.2.2.2
    simp only [List.mem_cons] at hq ⊢
    grind
end Mine
end

section
open PySem PySem.W PyProof.Rows PySem.Calls PySem.Spec
set_option Elab.async false
set_option pp.deepTerms false
set_option pp.deepTerms.threshold 8
set_option linter.unusedVariables false
namespace Mine
structure DS where
  place : Int
  tp : Tok
  dv : List Value
  dn : Nat
  ds : List Dat
def placeAt (ps gs : List Str) : Nat → Int
  | 0 => 0
  | k + 1 => placeAt ps gs k + ((gs.getD k Str.empty).length : Int) + ((ps.getD k Str.empty).length : Int)
def datOf (x : Int × Str) : Dat := .tuple [.int x.1, .str x.2]
def tab (g : Str) : Bool := !(Builtin.Str.occurrences g (Str.ofString "\t") 0 g.length 1).isEmpty
def inW (p : Str) : Bool := wordsL.any (fun x => x == p)
def m274 : Str := Str.ofString "E274 tab before keyword"
def m272 : Str := Str.ofString "E272 multiple spaces before keyword"
def m273 : Str := Str.ofString "E273 tab after keyword"
def m271 : Str := Str.ofString "E271 multiple spaces after keyword"
def gapMsg (g : Str) (at' : Int) (a b : Str) : List (Int × Str) := if tab g = true then [(at', a)] else if 1 < g.length then [(at', b)] else []
def dueBefore (ps gs : List Str) (k : Nat) : List (Int × Str) :=
  if inW (ps.getD k Str.empty) = true ∧ (k = 0 ∨ inW (ps.getD (k - 1) Str.empty) = false) then gapMsg (gs.getD k Str.empty) (placeAt ps gs k) m274 m272 else []
def dueAfter (ps gs : List Str) (k : Nat) : List (Int × Str) :=
  if inW (ps.getD k Str.empty) = true then gapMsg (gs.getD (k + 1) Str.empty) (placeAt ps gs k + ((gs.getD k Str.empty).length : Int) + ((ps.getD k Str.empty).length : Int)) m273 m271 else []
def dueStep (ps gs : List Str) (k : Nat) : List (Int × Str) := dueBefore ps gs k ++ dueAfter ps gs k
def dueUpto (ps gs : List Str) : Nat → List (Int × Str)
  | 0 => []
  | k + 1 => dueUpto ps gs k ++ dueStep ps gs k
theorem gapMsg_len (g : Str) (p : Int) (a b : Str) : (gapMsg g p a b).length ≤ 1 := by
  unfold gapMsg; (repeat' split) <;> simp
theorem dueUpto_len (ps gs : List Str) : ∀ k, (dueUpto ps gs k).length ≤ 2 * k
  | 0 => Nat.le_refl _
  | k + 1 => by
    have h := dueUpto_len ps gs k
    have h1 : (dueBefore ps gs k).length ≤ 1 := by unfold dueBefore; split; exact gapMsg_len _ _ _ _; exact Nat.zero_le _
    have h2 : (dueAfter ps gs k).length ≤ 1 := by unfold dueAfter; split; exact gapMsg_len _ _ _ _; exact Nat.zero_le _
    simp only [dueUpto, dueStep, List.length_append]; omega
def dueP (ps gs : List Str) (pre : List Int) (c : DS) : Prop := c.ds = (dueUpto ps gs pre.length).map datOf ∧ c.place = placeAt ps gs pre.length
abbrev tup2 (i : Int) (t : Tok) (x : Str) (u : Tok) : Obj := { cls := .type "tuple", data := .seq #[.int i t, .str x u] }
theorem dat_tup {news : List (Addr × Obj)} {D : Addr} {i : Int} {t : Tok} {x : Str} {u : Tok} (h : (D, tup2 i t x u) ∈ news) : DatIn news (.ref D) (datOf (i, x)) :=
  DatIn.tuple (vs := [.int i t, .str x u]) h (.cons (.int i t) (.cons (.str x u) .nil))
theorem allLt_app {d : Addr} {l l' : List (Addr × Obj)} (h : AllLt d (l ++ l')) : AllLt d l ∧ AllLt d l' := by
  induction l with
  | nil => exact ⟨trivial, h⟩
  | cons p r ih => exact ⟨⟨h.1, (ih h.2).1⟩, (ih h.2).2⟩
section
variable {g' h' : Heap} {L' : Addr} {m' m₀ : Str → Option Value} {news' rest tl own : List (Addr × Obj)} {s₁ : Shared} {tk : Nat} {dA wA P S : Addr} {wv pv sv : List Value} {pn : Nat} {pre : List Int} {k : Int}
    {ps gs : List Str} {place place' : Int} {tp tp' : Tok} {dv : List Value} {dn : Nat} {ds : List Dat}
abbrev dueInv (dA wA P S : Addr) (wv pv sv : List Value) (pn : Nat) (ps gs : List Str) (rest : List (Addr × Obj)) (m₀ : Str → Option Value) (pre : List Int) : (Str → Option Value) → List (Addr × Obj) → Prop :=
  KdS (fun c : DS => [(dA, listOf c.dv.toArray c.dn)]) ((wA, listOf wv.toArray 0) :: (P, listOf pv.toArray pn) :: (S, listOf sv.toArray 0) :: rest) (fun c => [(Str.ofString "place", .int c.place c.tp)]) (fun l c => DatAll l c.dv c.ds)
    (Str.ofString "at") [Str.ofString "gap", Str.ofString "start", Str.ofString "behind"] m₀ (dueP ps gs) (dA :: wA :: P :: S :: rest.map (·.1)) pre
theorem due_end (add : List (Addr × Obj)) {dv' : List Value} {dn' : Nat} (h0 : KdSep own tl (dA :: wA :: P :: S :: rest.map (·.1))) (F : Fr g' L' h' m') (N : News g' L' h' news')
    (m1 : (dA, listOf (dv ++ dv').toArray dn') ∈ news') (m2 : ∀ p ∈ add, p ∈ news') (m3 : ∀ p ∈ (wA, listOf wv.toArray 0) :: (P, listOf pv.toArray pn) :: (S, listOf sv.toArray 0) :: (rest ++ (tl ++ own)), p ∈ news')
    (o1 : ∀ q ∈ add, @LT.lt Nat _ dA q.1 ∧ @LT.lt Nat _ wA q.1 ∧ @LT.lt Nat _ P q.1 ∧ @LT.lt Nat _ S q.1 ∧ AllLt q.1 (rest ++ (tl ++ own)))
    (hf : DatAll ((wA, listOf wv.toArray 0) :: (P, listOf pv.toArray pn) :: (S, listOf sv.toArray 0) :: rest ++ tl) dv ds) (hp1 : ds = (dueUpto ps gs pre.length).map datOf) (hp2 : place = placeAt ps gs pre.length)
    {x1 x2 : List (Int × Str)} (hb1 : dueBefore ps gs pre.length = x1) (hb2 : dueAfter ps gs pre.length = x2) (hd : DatAll add dv' (List.map datOf (x1 ++ x2)))
    (hpl : place' = place + ((gs.getD pre.length Str.empty).length : Int) + ((ps.getD pre.length Str.empty).length : Int)) (hm : m' (Str.ofString "place") = some (.int place' tp'))
    (hr : ∀ z, z ≠ Str.ofString "at" → z ≠ Str.ofString "place" → z ≠ Str.ofString "gap" → z ≠ Str.ofString "start" → z ≠ Str.ofString "behind" → m' z = m₀ z) :
    InvEndG g' L' (dueInv dA wA P S wv pv sv pn ps gs rest m₀ (pre ++ [k])) own s₁ { s₁ with heap := h', toks := tk } := by
  refine kd_end (⟨place', tp', dv ++ dv', dn', ds ++ (x1 ++ x2).map datOf⟩ : DS) add h0 F N ?_ (fun p hp => m3 p (by simp [hp])) rfl ?_ ?_ ?_ (fun z z1 z2 z3 => hr z z1 ?_ ?_ ?_ ?_) ?_ ⟨?_, ?_⟩
  · intro p hp
    simp only [List.cons_append, List.nil_append, List.mem_cons, List.mem_append] at hp
    rcases hp with rfl | rfl | rfl | rfl | h | h | h
    · exact m1
    · exact m3 _ (.head _)
    · exact m3 _ (.tail _ (.head _))
    · exact m3 _ (.tail _ (.tail _ (.head _)))
    · exact m3 _ (by simp [h])
    · exact m2 _ h
    · exact m3 _ (by simp [h])
  · intro q hq b hb e
    obtain ⟨a1, a2, a3, a4, a5⟩ := o1 q hq
    simp only [List.mem_cons, List.mem_map] at hb
    rcases hb with rfl | rfl | rfl | rfl | ⟨p, hp, rfl⟩
    · exact Nat.ne_of_lt a1 e
    · exact Nat.ne_of_lt a2 e
    · exact Nat.ne_of_lt a3 e
    · exact Nat.ne_of_lt a4 e
    · exact Nat.ne_of_lt (allLt_mem (allLt_app a5).1 p hp) e
  · intro q hq p hp e
    exact Nat.ne_of_lt (allLt_mem (allLt_app (allLt_app (o1 q hq).2.2.2.2).2).2 p hp) e
  · intro p hp
    rw [List.mem_singleton.mp hp]
    exact hm
  · exact z2 (Str.ofString "place", .int place' tp') (List.mem_singleton.mpr rfl)
  · intro e; subst e; exact absurd z3 (by decide)
  · intro e; subst e; exact absurd z3 (by decide)
  · intro e; subst e; exact absurd z3 (by decide)
  · refine DatAll.append (hf.mono ?_) (hd.mono ?_)
    · intro p hp
      simp only [List.cons_append, List.mem_cons, List.mem_append] at hp ⊢
      rcases hp with h | h | h | h | h <;> simp [h]
    · intro p hp
      simp only [List.cons_append, List.mem_cons, List.mem_append]
      simp [hp]
  · show ds ++ (x1 ++ x2).map datOf = _
    rw [List.length_append, List.length_singleton, dueUpto, dueStep, hb1, hb2, hp1]; simp only [List.map_append]
  · show place' = _
    rw [List.length_append, List.length_singleton, placeAt, hpl, hp2]
end
section
variable {ps gs : List Str} {i : Nat}
theorem tab_no {g : Str} (h : (Builtin.Str.occurrences g (Str.ofString "\t") 0 g.length 1).isEmpty = true) : ¬ tab g = true := by unfold tab; rw [h]; decide
theorem tab_yes {g : Str} (h : (Builtin.Str.occurrences g (Str.ofString "\t") 0 g.length 1).isEmpty = false) : tab g = true := by unfold tab; rw [h]; rfl
theorem bf_not (h : (wordsL.any fun x => x == ps.getD ((i : Nat) : Int).toNat Str.empty) = false) : dueBefore ps gs i = [] := by
  unfold dueBefore; rw [if_neg]; intro k; rw [show inW (ps.getD i Str.empty) = false from h] at k; exact absurd k.1 (by decide)
theorem af_not (h : (wordsL.any fun x => x == ps.getD ((i : Nat) : Int).toNat Str.empty) = false) : dueAfter ps gs i = [] := by
  unfold dueAfter; rw [if_neg]; intro k; rw [show inW (ps.getD i Str.empty) = false from h] at k; exact absurd k (by decide)
theorem prevW {b : Bool} (h0 : ((i : Nat) : Int) ≠ 0) (h : (wordsL.any fun x => x == ps.getD (((i : Nat) : Int) - 1).toNat Str.empty) = b) : inW (ps.getD (i - 1) Str.empty) = b := by
  rw [show i - 1 = (((i : Nat) : Int) - 1).toNat by omega]; exact h
theorem bf_prev (h0 : ((i : Nat) : Int) ≠ 0) (h : (wordsL.any fun x => x == ps.getD (((i : Nat) : Int) - 1).toNat Str.empty) = true) : dueBefore ps gs i = [] := by
  unfold dueBefore; rw [if_neg]; rintro ⟨_, k | k⟩
  · omega
  · rw [prevW h0 h] at k; cases k
theorem bf_go (h : (wordsL.any fun x => x == ps.getD ((i : Nat) : Int).toNat Str.empty) = true) (hc : ((i : Nat) : Int) = 0 ∨ ((i : Nat) : Int) ≠ 0 ∧ (wordsL.any fun x => x == ps.getD (((i : Nat) : Int) - 1).toNat Str.empty) = false) :
    dueBefore ps gs i = gapMsg (gs.getD i Str.empty) (placeAt ps gs i) m274 m272 := by
  unfold dueBefore; rw [if_pos]
  refine ⟨h, ?_⟩
  rcases hc with hc | ⟨h0, hc⟩
  · left; omega
  · right; exact prevW h0 hc
theorem af_go (h : (wordsL.any fun x => x == ps.getD ((i : Nat) : Int).toNat Str.empty) = true) :
    dueAfter ps gs i = gapMsg (gs.getD (i + 1) Str.empty) (placeAt ps gs i + ((gs.getD i Str.empty).length : Int) + ((ps.getD i Str.empty).length : Int)) m273 m271 := by
  unfold dueAfter; rw [if_pos]; exact h
theorem gm_tab {g : Str} {p : Int} {a b : Str} (h : (Builtin.Str.occurrences g (Str.ofString "\t") 0 g.length 1).isEmpty = false) : gapMsg g p a b = [(p, a)] := by
  unfold gapMsg; rw [if_pos (tab_yes h)]
theorem gm_len {g : Str} {p : Int} {a b : Str} (h : (Builtin.Str.occurrences g (Str.ofString "\t") 0 g.length 1).isEmpty = true) (k : 1 < ((g.length : Nat) : Int)) : gapMsg g p a b = [(p, b)] := by
  unfold gapMsg; rw [if_neg (tab_no h), if_pos (by omega)]
theorem gm_no {g : Str} {p : Int} {a b : Str} (h : (Builtin.Str.occurrences g (Str.ofString "\t") 0 g.length 1).isEmpty = true) (k : ¬ 1 < ((g.length : Nat) : Int)) : gapMsg g p a b = [] := by
  unfold gapMsg; rw [if_neg (tab_no h), if_neg (by omega)]
end
section
variable {prog : Program} {w : World} {A : Around} {E : Value → Shared → Prop} {s : Shared} {env : Env} {g' : Heap} {L' : Addr} {mc : Str → Option Value} {Q : Flow → Shared → Prop} {st : Stmt} {more : List Stmt}
  {rest tl own : List (Addr × Obj)} {dA wA P S : Addr} {wv pv sv : List Value} {pn : Nat} {ps gs : List Str} {i : Nat} {dv : List Value}
structure DueHas (g' : Heap) (L' : Addr) (mc : Str → Option Value) (dA wA P S : Addr) (wv pv sv : List Value) (pn : Nat) (ps gs : List Str) (i : Nat) (dv : List Value) (old : List (Addr × Obj)) (h2 : Heap) (zs : List (Addr × Obj)) (dv1 : List Value) (dn1 : Nat) (x1 : List (Int × Str)) (add1 : List (Addr × Obj)) : Prop where
  fr : Fr g' L' h2 mc
  nw : News g' L' h2 ((dA, listOf (dv ++ dv1).toArray dn1) :: (wA, listOf wv.toArray 0) :: (P, listOf pv.toArray pn) :: (S, listOf sv.toArray 0) :: zs)
  off : ∀ p ∈ zs, p.1 ≠ dA
  kept : ∀ p ∈ old, p ∈ zs
  add : ∀ p ∈ add1, p ∈ zs
  ord : ∀ q ∈ add1, @LT.lt Nat _ dA q.1 ∧ @LT.lt Nat _ wA q.1 ∧ @LT.lt Nat _ P q.1 ∧ @LT.lt Nat _ S q.1 ∧ AllLt q.1 old
  dat : DatAll add1 dv1 (x1.map datOf)
  says : dueBefore ps gs i = x1
  len : dv1.length ≤ 1
def DueMid (s : Shared) (g' : Heap) (L' : Addr) (mc : Str → Option Value) (dA wA P S : Addr) (wv pv sv : List Value) (pn : Nat) (ps gs : List Str) (i : Nat) (dv : List Value) (old : List (Addr × Obj)) (f : Flow) (s2 : Shared) : Prop :=
  f = .next ∧ ∃ h2 tk2 zs dv1 dn1 x1 add1, s2 = { s with heap := h2, toks := tk2 } ∧ DueHas g' L' mc dA wA P S wv pv sv pn ps gs i dv old h2 zs dv1 dn1 x1 add1
theorem due_cut (old : List (Addr × Obj)) (F : Fr g' L' s.heap mc) (h1 : wpAny (model prog w) A (exec st env) (DueMid s g' L' mc dA wA P S wv pv sv pn ps gs i dv old) E s)
    (h2 : ∀ h2 tk2 zs dv1 dn1 x1 add1, DueHas g' L' mc dA wA P S wv pv sv pn ps gs i dv old h2 zs dv1 dn1 x1 add1 → wpAny (model prog w) A (execs more env) Q E { s with heap := h2, toks := tk2 }) :
    wpAny (model prog w) A (execs (st :: more) env) Q E s := by
  refine wpAny_execs_cons (wpAny_mono h1 ?_ fun _ _ h => h)
  rintro f s2 ⟨rfl, h2', tk2, zs, dv1, dn1, x1, add1, rfl, H⟩
  exact h2 h2' tk2 zs dv1 dn1 x1 add1 H
theorem due_mid0 {h2 : Heap} {tk2 dn : Nat} {old : List (Addr × Obj)} (F : Fr g' L' h2 mc) (N : News g' L' h2 ((dA, listOf dv.toArray dn) :: (wA, listOf wv.toArray 0) :: (P, listOf pv.toArray pn) :: (S, listOf sv.toArray 0) :: old)) (hd : ∀ p ∈ old, p.1 ≠ dA)
    (hb : dueBefore ps gs i = []) : DueMid s g' L' mc dA wA P S wv pv sv pn ps gs i dv old .next { s with heap := h2, toks := tk2 } :=
  ⟨rfl, h2, tk2, old, [], dn, [], [], rfl, F, by rw [List.append_nil]; exact N, hd, fun _ h => h, fun _ h => (nomatch h), fun _ h => (nomatch h), .nil, hb, Nat.zero_le _⟩
theorem due_mid1 {h2 : Heap} {tk2 dn : Nat} {old : List (Addr × Obj)} {D : Addr} {p : Int} {t u : Tok} {x : Str} (F : Fr g' L' h2 mc) (N : News g' L' h2 ((D, tup2 p t x u) :: (dA, listOf (dv.toArray.push (.ref D)) dn) :: (wA, listOf wv.toArray 0) :: (P, listOf pv.toArray pn) :: (S, listOf sv.toArray 0) :: old)) (hd : ∀ p ∈ old, p.1 ≠ dA)
    (ho : @LT.lt Nat _ dA D ∧ @LT.lt Nat _ wA D ∧ @LT.lt Nat _ P D ∧ @LT.lt Nat _ S D ∧ AllLt D old)
    (hb : dueBefore ps gs i = [(p, x)]) : DueMid s g' L' mc dA wA P S wv pv sv pn ps gs i dv old .next { s with heap := h2, toks := tk2 } := by
  refine ⟨rfl, h2, tk2, (D, tup2 p t x u) :: old, [.ref D], dn, [(p, x)], [(D, tup2 p t x u)], rfl, F, ?_, ?_, fun _ h => .tail _ h, fun _ h => List.mem_cons.mpr (.inl (List.mem_singleton.mp h)), ?_, .cons (dat_tup (.head _)) .nil, hb, Nat.le_refl _⟩
  · intro q hq
    rw [← List.push_toArray] at hq
    refine N q ?_
    simp only [List.mem_cons] at hq ⊢
    rcases hq with h | h | h | h | h | h <;> simp [h]
  · intro q hq
    rcases List.mem_cons.mp hq with rfl | hq
    · exact fun e => Nat.ne_of_lt ho.1 e.symm
    · exact hd q hq
  · intro q hq
    rw [List.mem_singleton.mp hq]
    exact ho
variable {m' m₀ : Str → Option Value} {s₁ : Shared} {h' : Heap} {tk : Nat} {pre : List Int} {k : Int} {place place' : Int} {tp' : Tok} {ds : List Dat} {h2 : Heap} {zs : List (Addr × Obj)} {dv1 : List Value} {dn1 : Nat} {x1 : List (Int × Str)} {add1 : List (Addr × Obj)}
theorem due_fin0 (H : DueHas g' L' mc dA wA P S wv pv sv pn ps gs pre.length dv (rest ++ (tl ++ own)) h2 zs dv1 dn1 x1 add1) (h0 : KdSep own tl (dA :: wA :: P :: S :: rest.map (·.1))) (F : Fr g' L' h' m')
    (N : News g' L' h' ((dA, listOf (dv ++ dv1).toArray dn1) :: (wA, listOf wv.toArray 0) :: (P, listOf pv.toArray pn) :: (S, listOf sv.toArray 0) :: zs))
    (hf : DatAll ((wA, listOf wv.toArray 0) :: (P, listOf pv.toArray pn) :: (S, listOf sv.toArray 0) :: rest ++ tl) dv ds) (hp1 : ds = (dueUpto ps gs pre.length).map datOf) (hp2 : place = placeAt ps gs pre.length)
    (hb2 : dueAfter ps gs pre.length = []) (hpl : place' = place + ((gs.getD pre.length Str.empty).length : Int) + ((ps.getD pre.length Str.empty).length : Int)) (hm : m' (Str.ofString "place") = some (.int place' tp'))
    (hr : ∀ z, z ≠ Str.ofString "at" → z ≠ Str.ofString "place" → z ≠ Str.ofString "gap" → z ≠ Str.ofString "start" → z ≠ Str.ofString "behind" → m' z = m₀ z) :
    InvEndG g' L' (dueInv dA wA P S wv pv sv pn ps gs rest m₀ (pre ++ [k])) own s₁ { s₁ with heap := h', toks := tk } := by
  refine due_end add1 (dv' := dv1) (dn' := dn1) (x1 := x1) (x2 := []) h0 F N (.head _) (fun p hp => ?_) (fun p hp => ?_) H.ord hf hp1 hp2 H.says hb2 (by rw [List.append_nil]; exact H.dat) hpl hm hr
  · have := H.add p hp; simp [this]
  · simp only [List.mem_cons] at hp ⊢
    rcases hp with h | h | h | h
    · simp [h]
    · simp [h]
    · simp [h]
    · have := H.kept p h; simp [this]
theorem due_fin1 {D : Addr} {p : Int} {t u : Tok} {x : Str} {dn : Nat} (H : DueHas g' L' mc dA wA P S wv pv sv pn ps gs pre.length dv (rest ++ (tl ++ own)) h2 zs dv1 dn1 x1 add1) (h0 : KdSep own tl (dA :: wA :: P :: S :: rest.map (·.1))) (F : Fr g' L' h' m')
    (N : News g' L' h' ((D, tup2 p t x u) :: (dA, listOf ((dv ++ dv1).toArray.push (.ref D)) dn) :: (wA, listOf wv.toArray 0) :: (P, listOf pv.toArray pn) :: (S, listOf sv.toArray 0) :: zs))
    (ho : @LT.lt Nat _ dA D ∧ @LT.lt Nat _ wA D ∧ @LT.lt Nat _ P D ∧ @LT.lt Nat _ S D ∧ AllLt D zs)
    (hf : DatAll ((wA, listOf wv.toArray 0) :: (P, listOf pv.toArray pn) :: (S, listOf sv.toArray 0) :: rest ++ tl) dv ds) (hp1 : ds = (dueUpto ps gs pre.length).map datOf) (hp2 : place = placeAt ps gs pre.length)
    (hb2 : dueAfter ps gs pre.length = [(p, x)]) (hpl : place' = place + ((gs.getD pre.length Str.empty).length : Int) + ((ps.getD pre.length Str.empty).length : Int)) (hm : m' (Str.ofString "place") = some (.int place' tp'))
    (hr : ∀ z, z ≠ Str.ofString "at" → z ≠ Str.ofString "place" → z ≠ Str.ofString "gap" → z ≠ Str.ofString "start" → z ≠ Str.ofString "behind" → m' z = m₀ z) :
    InvEndG g' L' (dueInv dA wA P S wv pv sv pn ps gs rest m₀ (pre ++ [k])) own s₁ { s₁ with heap := h', toks := tk } := by
  refine due_end ((D, tup2 p t x u) :: add1) (dv' := dv1 ++ [.ref D]) (dn' := dn) (x1 := x1) (x2 := [(p, x)]) h0 F N ?_ (fun q hq => ?_) (fun q hq => ?_) (fun q hq => ?_) hf hp1 hp2 H.says hb2 ?_ hpl hm hr
  · rw [← List.append_assoc, ← List.push_toArray]
    exact .tail _ (.head _)
  · rcases List.mem_cons.mp hq with rfl | hq
    · exact .head _
    · have := H.add q hq; simp [this]
  · simp only [List.mem_cons] at hq ⊢
    rcases hq with h | h | h | h
    · simp [h]
    · simp [h]
    · simp [h]
    · have := H.kept q h; simp [this]
  · rcases List.mem_cons.mp hq with rfl | hq
    · exact ⟨ho.1, ho.2.1, ho.2.2.1, ho.2.2.2.1, allLt_of fun q hq => allLt_mem ho.2.2.2.2 q (H.kept q hq)⟩
    · exact H.ord q hq
  · rw [List.map_append]
    refine DatAll.append (H.dat.mono fun q hq => .tail _ hq) (.cons (dat_tup (.head _)) .nil)
theorem five_no {z : Str} (h1 : z ≠ Str.ofString "gap") (h2 : z ≠ Str.ofString "start") (h3 : z ≠ Str.ofString "behind") : [Str.ofString "gap", Str.ofString "start", Str.ofString "behind"].contains z = false := by simp [h1, h2, h3]
end
end Mine
end

section
open PySem PySem.W PyProof.Rows
local macro_rules | `(tactic| walk_at "again0") => `(tactic| skip)
local macro_rules | `(tactic| walk_at "again1") => `(tactic| skip)
local macro_rules | `(tactic| walk_at "again2") => `(tactic| skip)
local macro_rules | `(tactic| walk_at "again3") => `(tactic| skip)
local macro_rules | `(tactic| walk_at "again4") => `(tactic| skip)
local macro_rules | `(tactic| walk_at "again5") => `(tactic| skip)
local macro_rules | `(tactic| walk_at "again6") => `(tactic| skip)
local macro_rules | `(tactic| walk_at "again7") => `(tactic| skip)
local macro_rules | `(tactic| walk_at "again8") => `(tactic| skip)
local macro_rules | `(tactic| walk_at "again9") => `(tactic| skip)
local macro_rules | `(tactic| walk_at "again10") => `(tactic| skip)
local macro_rules | `(tactic| walk_at "again11") => `(tactic| skip)
local macro_rules | `(tactic| walk_at "again12") => `(tactic| skip)
local macro_rules | `(tactic| walk_at "again13") => `(tactic| skip)
local macro_rules | `(tactic| walk_at "again14") => `(tactic| skip)
local macro_rules | `(tactic| walk_at "again15") => `(tactic| skip)
local macro_rules | `(tactic| walk_at "again16") => `(tactic| skip)
local macro_rules | `(tactic| walk_at "again17") => `(tactic| skip)
local macro_rules | `(tactic| walk_at "again18") => `(tactic| skip)
local macro_rules | `(tactic| walk_at "again19") => `(tactic| skip)
theorem Mine.again_F4 : True := by
  w_top off
  try (walk1; fail)
  trivial
end

section
open PySem PySem.W PyProof.Rows PySem.Calls PySem.Spec
set_option Elab.async false
set_option pp.deepTerms false
set_option pp.deepTerms.threshold 8
set_option linter.unusedVariables false
namespace Mine
theorem getD_len {l : List Str} {n : Nat} (h : ∀ y ∈ l, y.length ≤ n) (j : Nat) : (l.getD j Str.empty).length ≤ n := by
  rw [List.getD_eq_getElem?_getD]
  cases e : l[j]? with
  | none => exact Nat.zero_le _
  | some y => exact h y (List.mem_of_getElem? e)
theorem rowOk_gaps {ps gs : List Str} (h : RowOk ps gs) : ∀ y ∈ gs, y ∈ gapsL := by
  induction h with
  | nil => intro y hy; cases hy
  | snoc h hp hg ho ih => intro y hy; rcases List.mem_append.mp hy with hy | hy; exact ih y hy; rw [List.mem_singleton.mp hy]; exact hg
theorem rowOk2_gaps {ps gs : List Str} (h : RowOk2 ps gs) : ∀ y ∈ gs, y.length ≤ 3 := by
  obtain ⟨gs0, g, rfl, h0, hg, _⟩ := h
  intro y hy
  rcases List.mem_append.mp hy with hy | hy
  · exact (gaps_ok y (rowOk_gaps h0 y hy)).2
  · rw [List.mem_singleton.mp hy]; exact (gaps_ok g hg).2
section
local macro_rules | `(tactic| k_all) => `(tactic| assumption)
local macro_rules | `(tactic| walk_at "call ref") => `(tactic| (k_here; (with_reducible show wpAny _ _ (call (Value.ref 57) _) _ _ _); k_dflt (refine' words_ok ?k1 ?k2 ?k3 ?k4 ?k5 ?k6 ?k7 ?k8 ?_; (case k1 => k_asm); (case k2 => k_asm); (case k3 => k_asm); (case k4 => k_asm); (case k5 => first | exact rfl | assumption); (case k6 => k_asm); (case k7 => ktr_room); (case k8 => ktr_units)); intro l' vs' h' tk' F' N' hS' l1; (try k_lt l1)))
local macro_rules | `(tactic| k_steps) => `(tactic| repeat' ((fail_if_success (with_reducible show wpAny _ _ (pyIter _) _ _ _)); (fail_if_success (with_reducible show InvEndG _ _ _ _ _ _)); (first | (k_unfold; (try dsimp only)) | (k_end; kc_close) | walk1 | (dsimp only; walk1) | (leave1; walk_say "STEP leave1"; (try dsimp only)) | fail "no step")))
local macro_rules | `(tactic| walk_at "subscriptTail") => `(tactic| (k_here; (with_reducible show wpAny _ _ (subscriptTail _ _ (Value.ref _) (Value.int _ _)) _ _ _); k_dflt (refine' KTb.item_list ?kl ?kw ?k0 ?k1 ?kf ?_; (case kl => exact News.isList (by k_asm) (by k_mem)); (case kw => assumption); (case k0 => omega); (case k1 => omega); (case kf => omega)); intro t' hlt'))
local macro_rules | `(tactic| walk_at "call builtin:len") => `(tactic| (k_here; (with_reducible show wpAny _ _ (call (Value.builtin "len") [Value.str _ _]) _ _ _); refine' PyProof.Rows.len_str ?h ?_; (case h => solve_by_elim)))
local macro_rules | `(tactic| k_steps) => `(tactic| repeat' ((fail_if_success (with_reducible show wpAny _ _ (pyIter _) _ _ _)); (fail_if_success (with_reducible show InvEndG _ _ _ _ _ _)); (fail_if_success (with_reducible show DueMid _ _ _ _ _ _ _ _ _ _ _ _ _ _ _ _ _ _ _)); (fail_if_success (with_reducible show wpAny _ _ (execs (Stmt.If _ _ _ _ :: _ :: _) _) _ _ _)); (first | (k_unfold; (try dsimp only)) | (k_end; kc_close) | walk1 | (dsimp only; walk1) | (leave1; walk_say "STEP leave1"; (try dsimp only)) | fail "no step")))
set_option maxRecDepth 100000 in
set_option maxHeartbeats 1500000 in
theorem due_ok {w : World} {mean : ExcName → Option Value} {mg mb : Str → Option Value}
   {dp un : Nat} {gd : Option (List Code)} {cn : Str} {cs : Scope} {a : Addr} {ccd : Value} {cl : List (Str × Addr)} {outer : List Env} {A₀ : Around} {base h₀ : Heap} {L : Addr} {m : Str → Option Value} {s : Shared} {Q E : Value → Shared → Prop}
   {P S : Addr} {pv sv : List Value} {ps gs : List Str} {pn : Nat} {rest : List (Addr × Obj)}
   (B : Below A₀ base outer h₀) (F : Fr h₀ L s.heap m) (X : (hd.heap_39 w.params).In h₀) (T : Top hd.view_39 Lz mean mg mb h₀) (hk : cs.kind = .function)
   (N : News h₀ L s.heap ((P, listOf pv.toArray pn) :: (S, listOf sv.toArray 0) :: rest)) (hp : StrsAre pv ps) (hs : StrsAre sv gs) (hr : RowOk2 ps gs)
   (hd1 : dp + 15 < recursionLimit) (hu : un + 100 < cLine)
   (hret : ∀ (D wA : Addr) (wv dv : List Value) (dn : Nat) (tl : List (Addr × Obj)) h' tk', Fr h₀ L h' m →
      News h₀ L h' ((D, listOf dv.toArray dn) :: (wA, listOf wv.toArray 0) :: (P, listOf pv.toArray pn) :: (S, listOf sv.toArray 0) :: (rest ++ tl)) →
      DatAll ((wA, listOf wv.toArray 0) :: (P, listOf pv.toArray pn) :: (S, listOf sv.toArray 0) :: rest ++ tl) dv ((dueUpto ps gs ps.length).map datOf) →
      (∀ q ∈ (P, listOf pv.toArray pn) :: (S, listOf sv.toArray 0) :: rest, D ≠ q.1 ∧ wA ≠ q.1 ∧ ∀ p ∈ tl, p.1 ≠ q.1) →
      Q (.ref D) { s with heap := h', toks := tk' }) :
   wpAny (model PySem.Challenge.rw_et5021_01.row.prog w) (ktrTop dp un gd cn cs L a ccd cl outer) (call (.ref 78) [.ref P, .ref S]) Q E s := by
  revert X; k_fill; intro X
  obtain ⟨gs0, g9, hgs, hr0, hg9, hlo, hhi⟩ := hr
  have hGl : ∀ j, ¬ ((gs.getD j Str.empty).length : Int) ≥ 2 ^ 63 := fun j => by
    have := getD_len (fun y hy => (rowOk2_gaps ⟨gs0, g9, hgs, hr0, hg9, hlo, hhi⟩ y hy)) j
    omega
  have hPl : ∀ j, ¬ ((ps.getD j Str.empty).length : Int) ≥ 2 ^ 63 := fun j => by
    have := getD_len (fun y hy => (menu_ok y (rowOk_menu hr0 y hy)).2.2) j
    omega
  have hlen : gs.length = ps.length + 1 := by rw [hgs]; simp [rowOk_len hr0]
  have hz1 : pv.length = ps.length := hp.length
  have hz2 : sv.length = ps.length + 1 := by rw [hs.length, hlen]
  refine wpAny_call ?_
  k_dflt ktr_enter
  k_steps
  rename_i g' L' hq6 FG B1 X1 T1 tk1 wA wv hq5 tk2 hSw l1w hq4 dA hq3 l1d hq2 hq1 F1 N1 hq tkq t1 u1 v1 hR F2 N2 hkeep
  clear F1 N1
  refine kd_range (fun c : DS => [(dA, listOf c.dv.toArray c.dn)]) ((wA, listOf wv.toArray 0) :: (P, listOf pv.toArray pn) :: (S, listOf sv.toArray 0) :: rest) (fun c => [(Str.ofString "place", .int c.place c.tp)]) (fun l c => DatAll l c.dv c.ds)
    [Str.ofString "gap", Str.ofString "start", Str.ofString "behind"] (dueP ps gs) (dA :: wA :: P :: S :: rest.map (·.1)) ⟨0, tk, [], 0, []⟩ (n := ((ps.length : Int) - 0).toNat) rfl hR (small_one (by omega) (by omega) (by omega) (by omega)) (rangeSize_nat _ _) F2 N2 ?_ (fun _ => rfl) .nil ?_ ⟨rfl, rfl⟩ ?_ ?_
  · intro p hp
    simpa using hp
  · intro p hp
    rw [List.mem_singleton.mp hp]
    rfl
  · rintro ⟨place, tp, dv, dn, ds⟩ tl pre k tk0 u h tk' own hkk hpre hsep hoff hf ⟨hp1, hp2⟩ F3 N3
    dsimp only [kstB] at F3 N3 hf hp1 hp2
    have hdA : ∀ p ∈ rest ++ (tl ++ own), p.1 ≠ dA := fun p hp => (List.mem_append.mp hp).elim (fun h => Nat.ne_of_lt (allLt_mem l1d.2.2.2 p h)) fun h => hoff p h dA (by simp)
    have hle : pre.length < ps.length := by omega
    obtain rfl : k = (pre.length : Int) := by omega
    have hdl : dv.length ≤ 18 := by
      have e1 := hf.length
      have e2 := dueUpto_len ps gs pre.length
      rw [hp1, List.length_map] at e1
      omega
    generalize hi : pre.length = i at *
    simp only [List.cons_append, List.nil_append] at N3
    clear F2 N2 hkeep hR N F
    k_steps
    rename Fr _ _ _ _ => zF
    refine due_cut (i := i) (dv := dv) (dA := dA) (wA := wA) (P := P) (S := S) (wv := wv) (pv := pv) (sv := sv) (pn := pn) (ps := ps) (gs := gs) (rest ++ (tl ++ own)) zF ?_ ?_
    · k_steps
      all_goals (rename Fr _ _ _ _ => yF; rename News _ _ _ _ => yN)
      all_goals first
        | exact due_mid0 yF yN hdA (bf_not (by assumption))
        | exact due_mid0 yF yN hdA (bf_prev (by assumption) (by assumption))
        | exact due_mid0 yF yN hdA ((bf_go (by assumption) (by first | exact .inl (by assumption) | exact .inr ⟨by assumption, by assumption⟩)).trans (gm_no (by assumption) (by assumption)))
        | (rw [hp2] at yN; exact due_mid1 yF yN hdA (by assumption) ((bf_go (by assumption) (by first | exact .inl (by assumption) | exact .inr ⟨by assumption, by assumption⟩)).trans (gm_tab (by assumption))))
        | (rw [hp2] at yN; exact due_mid1 yF yN hdA (by assumption) ((bf_go (by assumption) (by first | exact .inl (by assumption) | exact .inr ⟨by assumption, by assumption⟩)).trans (gm_len (by assumption) (by assumption))))
    · intro h2 tk2 zs dv1 dn1 x1 add1 H
      have F4 := H.fr
      have N4 := H.nw
      have hdA' := H.off
      have hlen' : (dv ++ dv1).length ≤ 20 := by have := H.len; rw [List.length_append]; omega
      clear N3 zF F3
      k_steps
      all_goals (rename Fr _ _ _ _ => yF; rename News _ _ _ _ => yN)
      all_goals subst hi
      all_goals rw [hp2] at yF
      all_goals first
        | refine due_fin0 H hsep yF yN hf hp1 rfl (af_not (by assumption)) rfl rfl ?_
        | refine due_fin0 H hsep yF yN hf hp1 rfl ((af_go (by assumption)).trans (gm_no (by assumption) (by assumption))) rfl rfl ?_
        | (rw [hp2] at yN; refine due_fin1 H hsep yF yN (by assumption) hf hp1 rfl ((af_go (by assumption)).trans (gm_tab (by assumption))) rfl rfl ?_)
        | (rw [hp2] at yN; refine due_fin1 H hsep yF yN (by assumption) hf hp1 rfl ((af_go (by assumption)).trans (gm_len (by assumption) (by assumption))) rfl rfl ?_)
      all_goals (intro z z1 z2 z3 z4 z5; simp only [if_neg z1, if_neg z2, if_neg z3, if_neg z4, if_neg z5, five_no z3 z4 z5, Bool.false_eq_true, if_false]; done)
  · rintro ⟨place, tp, dv, dn, ds⟩ tl u h tk' hoff hf ⟨hp1, hp2⟩ F3 N3
    dsimp only [kstB] at F3 N3 hf hp1 hp2
    simp only [List.cons_append, List.nil_append] at N3
    have hn : (rangeKs 0 ((ps.length : Int) - 0).toNat).length = ps.length := by rw [rangeKs_length]; omega
    rw [hn] at hp1
    clear F2 N2 hkeep hR N F
    k_steps
    rename_i kF kN Tc kX
    dsimp only at kF kN
    rw [hp1] at hf
    refine hret dA wA wv dv dn tl _ _ kF kN hf ?_
    intro q hq
    have hlt : @LT.lt Nat _ q.1 wA ∧ @LT.lt Nat _ q.1 dA := by
      simp only [List.mem_cons] at hq
      rcases hq with rfl | rfl | hq
      · exact ⟨l1w.1, l1d.2.1⟩
      · exact ⟨l1w.2.1, l1d.2.2.1⟩
      · exact ⟨allLt_mem l1w.2.2 q hq, allLt_mem l1d.2.2.2 q hq⟩
    refine ⟨fun e => Nat.ne_of_lt hlt.2 e.symm, fun e => Nat.ne_of_lt hlt.1 e.symm, fun p hp => hoff p hp _ ?_⟩
    simp only [List.mem_cons] at hq ⊢
    rcases hq with rfl | rfl | hq
    · simp
    · simp
    · right; right; right; right; exact List.mem_map_of_mem hq
end
end Mine
end

section
open PySem PySem.Sre
set_option linter.unusedVariables false
namespace Mine
def codeOf (p : Program) : Array Nat := match (p.main.body.drop 2 : List Stmt) with
  | .Assign _ (.Call _ (_ :: _ :: .List es _ :: _) _ _) _ :: _ => (es.filterMap fun e => match e with | .Constant (.int i) _ _ => some i.toNat | _ => none).toArray
  | _ => #[]
def reCode : Array Nat := codeOf PySem.Challenge.pw_et5021_01
def kwC : List (List Nat) := (["and", "as", "assert", "async", "await", "break", "class", "continue", "def", "del", "elif", "else", "except", "finally", "for", "from", "global", "if", "\x69mport", "in", "is", "lambda", "nonlocal", "not", "or", "pass", "raise", "return", "try", "while", "with", "yield", "print"] : List String).map fun s => s.toList.map Char.toNat
def altOk (cd : Array Nat) (a : Nat) (W : List Nat) : Bool :=
  cd.getD a 0 == 2 * W.length + 3 && cd.getD (a + 1 + 2 * W.length) 0 == 15 && a + 2 + 2 * W.length + cd.getD (a + 2 + 2 * W.length) 0 == 416 &&
  (List.range W.length).all fun i => cd.getD (a + 1 + 2 * i) 0 == 16 && cd.getD (a + 2 + 2 * i) 0 == W.getD i 0
def chk (cd : Array Nat) : Nat → List (List Nat) → Bool
  | a, [] => cd.getD a 0 == 0
  | a, W :: r => altOk cd a W && chk cd (a + 2 * W.length + 3) r
structure CodeOk (cd : Array Nat) : Prop where
  size : cd.size = 433
  alts : chk cd 22 kwC = true
  heads : (List.range 22).map (fun i => cd.getD i 0) = [14, 4, 0, 2, 4294967295, 17, 0, 24, 9, 0, 4294967295, 13, 4, 8, 12, 0, 1, 17, 1, 6, 10, 7]
  tails : (List.range 17).map (fun i => cd.getD (416 + i) 0) = [6, 10, 17, 2, 24, 9, 0, 4294967295, 13, 4, 8, 12, 0, 1, 17, 3, 1]
theorem reCode_ok : CodeOk reCode := ⟨by decide +kernel, by decide +kernel, by decide +kernel, by decide +kernel⟩
end Mine
end

section
open PySem PySem.Sre
set_option linter.unusedVariables false
namespace Mine
theorem getD_of_map {f : Nat → Nat} {n i v : Nat} {l : List Nat} (h : (List.range n).map f = l) (hv : l[i]? = some v) : f i = v := by
  rw [← h, List.getElem?_map] at hv
  cases e : (List.range n)[i]? with
  | none => rw [e] at hv; cases hv
  | some j =>
    rw [e] at hv
    obtain ⟨h1, h2⟩ := List.getElem?_eq_some_iff.mp e
    rw [List.getElem_range] at h2
    subst h2
    simpa using hv
theorem CodeOk.hd {cd : Array Nat} (C : CodeOk cd) {i v : Nat} (h : (([14, 4, 0, 2, 4294967295, 17, 0, 24, 9, 0, 4294967295, 13, 4, 8, 12, 0, 1, 17, 1, 6, 10, 7] : List Nat)[i]?) = some v) : cd.getD i 0 = v := getD_of_map (f := fun i => cd.getD i 0) C.heads h
theorem CodeOk.tl {cd : Array Nat} (C : CodeOk cd) {i v : Nat} (h : (([6, 10, 17, 2, 24, 9, 0, 4294967295, 13, 4, 8, 12, 0, 1, 17, 3, 1] : List Nat)[i]?) = some v) : cd.getD (416 + i) 0 = v := getD_of_map (f := fun i => cd.getD (416 + i) 0) C.tails h

inductive Steps : Nat → M → M → Prop
  | zero (m : M) : Steps 0 m m
  | succ {n : Nat} {m m' : M} : m.outcome = none → Steps n m.step m' → Steps (n + 1) m m'
theorem Steps.trans {a b : Nat} {m m' m'' : M} (h : Steps a m m') (k : Steps b m' m'') : Steps (a + b) m m'' := by
  induction h with
  | zero m => simpa using k
  | succ h1 h2 ih => rw [Nat.add_right_comm]; exact .succ h1 (ih k)
theorem Steps.runFor {a : Nat} {m m' : M} (h : Steps a m m') : ∀ k, m.runFor (a + k) = m'.runFor k := by
  induction h with
  | zero m => intro k; rw [Nat.zero_add]
  | succ h1 h2 ih => intro k; rw [Nat.add_right_comm]; show (if _ then _ else _) = _; rw [h1]; exact ih k
theorem runFor_add (m : M) : ∀ a b, m.runFor (a + b) = (m.runFor a).runFor b := by
  intro a
  induction a generalizing m with
  | zero => intro b; rw [Nat.zero_add]; rfl
  | succ a ih =>
    intro b
    rw [Nat.add_right_comm]
    show (if _ then _ else _) = M.runFor b (if _ then _ else _)
    split
    · rename_i h
      cases b with
      | zero => rfl
      | succ b => show _ = (if _ then _ else _); rw [if_pos h]
    · exact ih _ b
/-- within b steps from m to a state that P says -/
def Reach (b : Nat) (m : M) (P : M → Prop) : Prop := ∃ n m', n ≤ b ∧ Steps n m m' ∧ P m'
theorem Reach.here {b : Nat} {m : M} {P : M → Prop} (h : P m) : Reach b m P := ⟨0, m, Nat.zero_le _, .zero m, h⟩
theorem Reach.step {b : Nat} {m : M} {P : M → Prop} (h0 : m.outcome = none) (h : Reach b m.step P) : Reach (b + 1) m P :=
  let ⟨n, m', a, s, p⟩ := h; ⟨n + 1, m', Nat.succ_le_succ a, .succ h0 s, p⟩
theorem Reach.trans {a b : Nat} {m : M} {P R : M → Prop} (h : Reach a m P) (k : ∀ m', P m' → Reach b m' R) : Reach (a + b) m R :=
  let ⟨n, m', x, s, p⟩ := h
  let ⟨n2, m2, y, s2, r⟩ := k m' p
  ⟨n + n2, m2, Nat.add_le_add x y, s.trans s2, r⟩
theorem Reach.le {a b : Nat} {m : M} {P : M → Prop} (h : Reach a m P) (hb : a ≤ b) : Reach b m P :=
  let ⟨n, m', x, s, p⟩ := h; ⟨n, m', Nat.le_trans x hb, s, p⟩
theorem Reach.mono {a : Nat} {m : M} {P R : M → Prop} (h : Reach a m P) (k : ∀ m', P m' → R m') : Reach a m R :=
  let ⟨n, m', x, s, p⟩ := h; ⟨n, m', x, s, k _ p⟩

/-- the machine over our code: text, last start, start -/
def S (cd T : Array Nat) (ls st pc pos hd : Nat) (o : Bool) (mk : Array (Option Nat)) (lm li : Int) (fr : List Sre.Frame) (ans : Option Bool) (sn : Seen) : M :=
  { code := cd, text := T, lim := T.size, start := st, lastStart := ls, pc := pc, pos := pos, handed := hd, outermost := o, marks := mk, lastmark := lm, lastindex := li, frames := fr, weight := fr.length, answer := ans, seen := sn }

variable {cd T : Array Nat} {ls st pc pos hd : Nat} {o : Bool} {mk : Array (Option Nat)} {lm li : Int} {fr : List Sre.Frame} {sn : Seen}

theorem step_exec (C : CodeOk cd) (h : pc < 433) : (S cd T ls st pc pos hd o mk lm li fr none sn).step = (S cd T ls st pc pos hd o mk lm li fr none sn).exec := by
  unfold M.step
  show (if pc < cd.size then _ else _) = _
  rw [if_pos (by rw [C.size]; exact h)]
theorem S_word (k : Nat) : (S cd T ls st pc pos hd o mk lm li fr none sn).word k = cd.getD (pc + k) 0 := rfl

theorem st_LITERAL (C : CodeOk cd) {c : Nat} (h : pc < 433) (h0 : cd.getD pc 0 = 16) (h1 : cd.getD (pc + 1) 0 = c) :
    ∃ sn', (S cd T ls st pc pos hd o mk lm li fr none sn).step = if pos < T.size ∧ T.getD pos 0 = c then S cd T ls st (pc + 2) (pos + 1) hd o mk lm li fr none sn' else S cd T ls st pc pos hd o mk lm li fr (some false) sn' := by
  refine ⟨sn.add 16, ?_⟩
  rw [step_exec C h]
  unfold M.exec
  simp only [S_word, Nat.add_zero, h0]
  show (if pos ≥ T.size then _ else _) = _
  have ha : accepts cd pc (T.getD pos 0) (sn.add 16) = .ok (T.getD pos 0 == c, sn.add 16) := by
    unfold accepts
    simp only [h0, h1]
    rfl
  have hw : itemWidth cd pc = 2 := by unfold itemWidth; simp only [h0]; rfl
  by_cases hp : pos ≥ T.size
  · rw [if_pos hp, if_neg (by omega)]; rfl
  · rw [if_neg hp]
    show (match accepts cd pc (T.getD pos 0) (sn.add 16) with | .error why => _ | .ok (false, seen) => _ | .ok (true, seen) => _) = _
    rw [ha]
    by_cases hc : T.getD pos 0 = c
    · rw [if_pos ⟨by omega, hc⟩]
      have hb : (T.getD pos 0 == c) = true := by simpa using hc
      rw [hb]
      show ({ (S cd T ls st pc pos hd o mk lm li fr none (sn.add 16)) with pc := pc + itemWidth cd pc, pos := pos + 1 } : M) = _
      rw [hw]; rfl
    · rw [if_neg (fun x => hc x.2)]
      have hb : (T.getD pos 0 == c) = false := by simpa using hc
      rw [hb]; rfl
theorem st_JUMP (C : CodeOk cd) {k : Nat} (h : pc < 433) (h0 : cd.getD pc 0 = 15) (h1 : pc + 1 + cd.getD (pc + 1) 0 = k) :
    ∃ sn', (S cd T ls st pc pos hd o mk lm li fr none sn).step = S cd T ls st k pos hd o mk lm li fr none sn' := by
  refine ⟨sn.add 15, ?_⟩
  rw [step_exec C h]
  unfold M.exec
  simp only [S_word, Nat.add_zero, h0]
  subst h1
  rfl
end Mine
end

section
open PySem PySem.Sre
set_option linter.unusedVariables false
namespace Mine
variable {cd T : Array Nat} {ls st pc pos hd : Nat} {o : Bool} {mk : Array (Option Nat)} {lm li : Int} {fr : List Sre.Frame} {sn : Seen}

def bd (T : Array Nat) (q : Nat) : Bool := T.size != 0 && ((decide (q > 0) && isWordUni (T.getD (q - 1) 0)) != (decide (q < T.size) && isWordUni (T.getD q 0)))
def wsrun (T : Array Nat) : Nat → Nat → Nat
  | 0, _ => 0
  | n + 1, p => if Unicode.isSpace (T.getD p 0) then wsrun T n (p + 1) + 1 else 0
abbrev keptOf (lm li : Int) : Sre.Kept := { lastmark := lm, lastindex := li, whole := false, marks := #[] }
abbrev fGive (pc pos : Nat) (o : Bool) (n : Nat) (lm li : Int) : Sre.Frame := { wait := .giveBack, pc := pc, pos := pos, outermost := o, count := n, kept := keptOf lm li }
abbrev fBr (a pos : Nat) (o : Bool) (lm li : Int) : Sre.Frame := { wait := .nextBranch, pc := a, pos := pos, outermost := o, kept := keptOf lm li }
abbrev fStart (s : Nat) (o : Bool) : Sre.Frame := { wait := .nextStart, pc := 5, pos := s, outermost := o }

theorem st_AT (C : CodeOk cd) (h : pc < 433) (h0 : cd.getD pc 0 = 6) (h1 : cd.getD (pc + 1) 0 = 10) :
    ∃ sn', (S cd T ls st pc pos hd o mk lm li fr none sn).step = if bd T pos = true then S cd T ls st (pc + 2) pos hd o mk lm li fr none sn' else S cd T ls st pc pos hd o mk lm li fr (some false) sn' := by
  refine ⟨(sn.add 6).add 53, ?_⟩
  rw [step_exec C h]
  unfold M.exec
  simp only [S_word, Nat.add_zero, h0]
  show (match (S cd T ls st pc pos hd o mk lm li fr none (sn.add 6)).isAt (cd.getD (pc + 1) 0) with | .error why => _ | .ok yes => _) = _
  rw [h1]
  have e : (S cd T ls st pc pos hd o mk lm li fr none (sn.add 6)).isAt 10 = .ok (bd T pos) := by
    show Except.ok _ = Except.ok _
    congr 1
    show (T.size != 0 && ((decide (pos > 0) && isWordUni (T.getD (pos - 1) 0)) != (decide (pos < T.size) && isWordUni (T.getD pos 0))) == true) = _
    unfold bd
    cases (T.size != 0) <;> cases ((decide (pos > 0) && isWordUni (T.getD (pos - 1) 0)) != (decide (pos < T.size) && isWordUni (T.getD pos 0))) <;> rfl
  rw [e]
  cases bd T pos <;> (show (_ : M) = _) <;> (try rfl)
  · show M.say { S cd T ls st pc pos hd o mk lm li fr none (sn.add 6) with seen := (sn.add 6).add (43 + cd.getD (pc + 1) 0) } false = _
    rw [h1]; rfl
  · show ({ { S cd T ls st pc pos hd o mk lm li fr none (sn.add 6) with seen := (sn.add 6).add (43 + cd.getD (pc + 1) 0) } with pc := pc + 2 } : M) = _
    rw [h1]; rfl
theorem st_MARK (C : CodeOk cd) {i : Nat} (h : pc < 433) (h0 : cd.getD pc 0 = 17) (h1 : cd.getD (pc + 1) 0 = i) (hi : (i : Int) ≤ lm + 1) :
    ∃ sn', (S cd T ls st pc pos hd o mk lm li fr none sn).step = S cd T ls st (pc + 2) pos hd o (mk.setIfInBounds i (some pos)) (max lm i) (if i % 2 == 1 then (i / 2 + 1 : Nat) else li) fr none sn' := by
  refine ⟨sn.add 17, ?_⟩
  rw [step_exec C h]
  unfold M.exec
  simp only [S_word, Nat.add_zero, h0]
  show M.mark (S cd T ls st pc pos hd o mk lm li fr none (sn.add 17)) (cd.getD (pc + 1) 0) = _
  rw [h1]
  unfold M.mark
  have e : (if (i : Int) ≤ (S cd T ls st pc pos hd o mk lm li fr none (sn.add 17)).lastmark + 1 then (S cd T ls st pc pos hd o mk lm li fr none (sn.add 17)).marks
    else (List.range i).foldl (fun (a : Array (Option Nat)) (j : Nat) => if (j : Int) > (S cd T ls st pc pos hd o mk lm li fr none (sn.add 17)).lastmark then a.setIfInBounds j none else a) (S cd T ls st pc pos hd o mk lm li fr none (sn.add 17)).marks) = mk := if_pos (show (i : Int) ≤ lm + 1 from hi)
  simp only [e]
  rfl
theorem inSet_ws (C : CodeOk cd) {k c : Nat} (sn : Seen) (h0 : cd.getD k 0 = 8) (h1 : cd.getD (k + 1) 0 = 12) (h2 : cd.getD (k + 2) 0 = 0) :
    ∃ sn', inSet cd c cd.size k true sn = .ok (Unicode.isSpace c, sn') := by
  rw [C.size]
  have e2 : ∀ s : Seen, inSet cd c 432 (k + 2) true s = .ok (false, s.add 0) := by
    intro s
    show inSet cd c (431 + 1) (k + 2) true s = _
    unfold inSet
    simp only [Nat.add_zero, h2]
    rfl
  show ∃ sn', inSet cd c (432 + 1) k true sn = _
  unfold inSet
  simp only [Nat.add_zero, h0, h1]
  have e : category 12 c = .ok (Unicode.isSpace c) := by
    show (Except.ok (Unicode.isSpace c)).map (· != (12 % 2 == 1)) = _
    show Except.ok (Unicode.isSpace c != (12 % 2 == 1)) = _
    cases Unicode.isSpace c <;> rfl
  show ∃ sn', (category 12 c >>= fun r => if r then pure (true, (sn.add 8).add (55 + 12)) else inSet cd c 432 (k + 2) true ((sn.add 8).add (55 + 12))) = _
  rw [e]
  cases Unicode.isSpace c
  · exact ⟨_, e2 _⟩
  · exact ⟨_, rfl⟩
theorem run_ws (C : CodeOk cd) {k : Nat} (h0 : cd.getD k 0 = 13) (h1 : cd.getD (k + 2) 0 = 8) (h2 : cd.getD (k + 3) 0 = 12) (h3 : cd.getD (k + 4) 0 = 0) :
    ∀ (n p found : Nat) (sn : Seen), ∃ sn', run cd T k n p found sn = .ok (found + wsrun T n p, sn') := by
  intro n
  induction n with
  | zero => intro p found sn; exact ⟨sn, rfl⟩
  | succ n ih =>
    intro p found sn
    have ha : ∃ sn', accepts cd k (T.getD p 0) sn = .ok (Unicode.isSpace (T.getD p 0), sn') := by
      unfold accepts
      simp only [h0]
      exact inSet_ws C sn h1 h2 h3
    obtain ⟨s1, ha⟩ := ha
    show ∃ sn', (accepts cd k (T.getD p 0) sn >>= fun r => if r.1 then run cd T k n (p + 1) (found + 1) r.2 else pure (found, r.2)) = _
    rw [ha]
    unfold wsrun
    cases hs : Unicode.isSpace (T.getD p 0) with
    | false => exact ⟨s1, rfl⟩
    | true =>
      obtain ⟨s2, e2⟩ := ih (p + 1) (found + 1) s1
      refine ⟨s2, ?_⟩
      show run cd T k n (p + 1) (found + 1) s1 = _
      rw [e2]
      simp only [if_true]
      rw [show found + 1 + wsrun T n (p + 1) = found + (wsrun T n (p + 1) + 1) by omega]
theorem st_REP (C : CodeOk cd) (h : pc < 420 + 1) (h0 : cd.getD pc 0 = 24) (h1 : cd.getD (pc + 1) 0 = 9) (h2 : cd.getD (pc + 2) 0 = 0) (h3 : cd.getD (pc + 3) 0 = 4294967295)
    (h4 : cd.getD (pc + 4) 0 = 13) (h6 : cd.getD (pc + 6) 0 = 8) (h7 : cd.getD (pc + 7) 0 = 12) (h8 : cd.getD (pc + 8) 0 = 0) (hp : pos ≤ T.size) (hT : T.size ≤ 4294967295) (hf : fr.length ≤ 100) :
    ∃ sn', (S cd T ls st pc pos hd o mk lm li fr none sn).step =
      S cd T ls st (pc + 10) (pos + wsrun T (T.size - pos) pos) (pos + wsrun T (T.size - pos) pos) o mk lm li (fGive pc (pos + wsrun T (T.size - pos) pos) o (wsrun T (T.size - pos) pos) lm li :: fr) none sn' := by
  obtain ⟨s1, e1⟩ := run_ws (T := T) C (k := pc + 4) h4 h6 h7 h8 (T.size - pos) pos 0 ((sn.add 24).add 13)
  refine ⟨s1, ?_⟩
  rw [step_exec C (by omega)]
  unfold M.exec
  simp only [S_word, Nat.add_zero, h0]
  show (if ((cd.getD (pc + 2) 0 : Nat) : Int) > ((T.size : Nat) : Int) - ((pos : Nat) : Int) then _ else
    match run cd T (pc + 4) (min (cd.getD (pc + 3) 0) (((T.size : Nat) : Int) - ((pos : Nat) : Int)).toNat) pos 0 ((sn.add 24).add (cd.getD (pc + 4) 0)) with | .error why => _ | .ok (n, seen) => _) = _
  rw [h2, h3, h4, if_neg (by omega), show min 4294967295 (((T.size : Nat) : Int) - ((pos : Nat) : Int)).toNat = T.size - pos by omega, e1, Nat.zero_add]
  generalize wsrun T (T.size - pos) pos = n
  show (if n < cd.getD (pc + 2) 0 then S cd T ls st pc pos hd o mk lm li fr (some false) s1 else M.afterRun (S cd T ls st pc (pos + n) hd o mk lm li fr none s1) .giveBack n (keptOf lm li)) = _
  rw [h2, if_neg (Nat.not_lt_zero n)]
  unfold M.afterRun M.attempt
  have hw : ¬ ((S cd T ls st pc (pos + n) hd o mk lm li fr none s1).weight + 1 + ({ (S cd T ls st pc (pos + n) hd o mk lm li fr none s1).frame .giveBack with count := (n : Int), kept := keptOf lm li } : Sre.Frame).kept.marks.size > 16777216) := by
    show ¬ (fr.length + 1 + 0 > 16777216); omega
  rw [if_neg hw]
  rw [S_word, h1]
  rfl
theorem st_SUCCESS (C : CodeOk cd) (h : pc < 433) (h0 : cd.getD pc 0 = 1) :
    ∃ sn', (S cd T ls st pc pos hd o mk lm li fr none sn).step = S cd T ls st pc pos pos o mk lm li fr (some true) sn' := by
  refine ⟨sn.add 1, ?_⟩
  rw [step_exec C h]
  unfold M.exec
  simp only [S_word, Nat.add_zero, h0]
  show (if (o && ((false && _) || (false && _))) = true then _ else _) = _
  rw [if_neg (by simp)]
  rfl
theorem alt_go {a : Nat} (h : cd.getD a 0 ≠ 0) (hf : fr.length ≤ 100) : (S cd T ls st pc pos hd o mk lm li fr none sn).alternative a (keptOf lm li) = S cd T ls st (a + 1) pos pos o mk lm li (fBr a pos o lm li :: fr) none sn := by
  unfold M.alternative
  show (if (cd.getD a 0 == 0) = true then _ else _) = _
  rw [if_neg (by simpa using h)]
  unfold M.attempt
  have hw : ¬ ((S cd T ls st pc pos hd o mk lm li fr none sn).weight + 1 + ({ (S cd T ls st pc pos hd o mk lm li fr none sn).frame .nextBranch with pc := a, kept := keptOf lm li } : Sre.Frame).kept.marks.size > 16777216) := by
    show ¬ (fr.length + 1 + 0 > 16777216); omega
  rw [if_neg hw]
  rfl
theorem alt_end {a : Nat} (h : cd.getD a 0 = 0) : (S cd T ls st pc pos hd o mk lm li fr none sn).alternative a (keptOf lm li) = S cd T ls st pc pos hd o mk lm li fr (some false) sn := by
  unfold M.alternative
  show (if (cd.getD a 0 == 0) = true then _ else _) = _
  rw [if_pos (by simpa using h)]
  rfl
theorem st_BRANCH (C : CodeOk cd) : ∃ sn', (S cd T ls st 21 pos hd o mk lm li fr none sn).step = (S cd T ls st 21 pos hd o mk lm li fr none sn').alternative 22 (keptOf lm li) := by
  refine ⟨sn.add 7, ?_⟩
  rw [step_exec C (by decide)]
  unfold M.exec
  simp only [S_word, Nat.add_zero, C.hd (i := 21) rfl]
  rfl
-- the frames
variable {y : Bool} {f : Sre.Frame}
theorem pop_true {a p : Nat} {o' : Bool} {l1 l2 : Int} : (S cd T ls st pc pos hd o mk lm li (fBr a p o' l1 l2 :: fr) (some true) sn).step = S cd T ls st a p hd o' mk lm li fr (some true) sn := rfl
theorem pop_give {a p n : Nat} {o' : Bool} {l1 l2 : Int} : (S cd T ls st pc pos hd o mk lm li (fGive a p o' n l1 l2 :: fr) (some true) sn).step = S cd T ls st a p hd o' mk lm li fr (some true) sn := rfl
theorem pop_start {p : Nat} {o' : Bool} : (S cd T ls st pc pos hd o mk lm li (fStart p o' :: fr) (some true) sn).step = S cd T ls st 5 p hd o' mk lm li fr (some true) sn := rfl
theorem pop_end : (S cd T ls st pc pos hd o mk lm li [] (some y) sn).step = { S cd T ls st pc pos hd o mk lm li [] (some y) sn with outcome := some (if y then .matched else .failed) } := rfl
theorem back_br {a p : Nat} {o' : Bool} {l1 l2 : Int} : (S cd T ls st pc pos hd o mk lm li (fBr a p o' l1 l2 :: fr) (some false) sn).step = (S cd T ls st a p hd o' mk l1 l2 fr none sn).alternative (a + cd.getD a 0) (keptOf l1 l2) := rfl
theorem back_give0 (a p : Nat) {o' : Bool} {l1 l2 : Int} (h : 0 ≤ ((cd.getD (a + 2) 0 : Nat) : Int)) : (S cd T ls st pc pos hd o mk lm li (fGive a p o' 0 l1 l2 :: fr) (some false) sn).step = S cd T ls st a p hd o' mk l1 l2 fr (some false) sn := by
  show (if ((0 : Nat) : Int) - 1 < ((cd.getD (a + 2) 0 : Nat) : Int) then S cd T ls st a p hd o' mk l1 l2 fr (some false) sn else M.afterRun (S cd T ls st a (p - 1) hd o' mk l1 l2 fr none sn) .giveBack (((0 : Nat) : Int) - 1) (keptOf l1 l2)) = _
  rw [if_pos (by omega)]
theorem back_give {a p n : Nat} {o' : Bool} {l1 l2 : Int} (h1 : cd.getD (a + 1) 0 = 9) (h2 : cd.getD (a + 2) 0 = 0) (hf : fr.length ≤ 100) :
    (S cd T ls st pc pos hd o mk lm li (fGive a (p + 1) o' (n + 1) l1 l2 :: fr) (some false) sn).step = S cd T ls st (a + 10) p p o' mk l1 l2 (fGive a p o' n l1 l2 :: fr) none sn := by
  show (if ((n + 1 : Nat) : Int) - 1 < ((cd.getD (a + 2) 0 : Nat) : Int) then _ else M.afterRun (S cd T ls st a p hd o' mk l1 l2 fr none sn) .giveBack (((n + 1 : Nat) : Int) - 1) (keptOf l1 l2)) = _
  rw [if_neg (by rw [h2]; omega), show ((n + 1 : Nat) : Int) - 1 = (n : Int) by omega]
  unfold M.afterRun M.attempt
  have hw : ¬ ((S cd T ls st a p hd o' mk l1 l2 fr none sn).weight + 1 + ({ (S cd T ls st a p hd o' mk l1 l2 fr none sn).frame .giveBack with count := (n : Int), kept := keptOf l1 l2 } : Sre.Frame).kept.marks.size > 16777216) := by
    show ¬ (fr.length + 1 + 0 > 16777216); omega
  rw [if_neg hw]
  rw [S_word, h1]
  rfl
theorem attempt_at {s : Nat} (b : Bool) (hf : fr.length ≤ 100) : (S cd T ls st 5 pos hd o mk lm li fr none sn).attemptAt s b = S cd T ls s 5 s s b mk (-1) (-1) (fStart s b :: fr) none sn := by
  unfold M.attemptAt M.attempt
  rw [if_neg (by show ¬ (fr.length + 1 + 0 > 16777216); omega)]
  rfl
theorem attempt_from (C : CodeOk cd) {s : Nat} (b : Bool) (hf : fr.length ≤ 100) : (S cd T ls st 5 pos hd o mk lm li fr none sn).attemptFrom s b = S cd T ls s 5 s s b mk (-1) (-1) (fStart s b :: fr) none sn := by
  unfold M.attemptFrom
  have e : (S cd T ls st 5 pos hd o mk lm li fr none sn).hasFirstSet = false := by
    show ((match ops[cd.getD 0 0]? with | some .INFO => true | _ => false) && cd.getD 2 0 == 4) = false
    rw [C.hd (i := 2) rfl]
    simp
  rw [e]
  exact attempt_at b hf
theorem back_start (C : CodeOk cd) {p : Nat} {o' : Bool} (hf : fr.length ≤ 100) : (S cd T ls st pc pos hd o mk lm li (fStart p o' :: fr) (some false) sn).step =
    if p < ls then S cd T ls (p + 1) 5 (p + 1) (p + 1) false mk (-1) (-1) (fStart (p + 1) false :: fr) none sn else S cd T ls st 5 p hd o' mk lm li fr (some false) sn := by
  show (if p < ls then (S cd T ls st 5 p hd o' mk lm li fr none sn).attemptFrom (p + 1) false else _) = _
  split
  · exact attempt_from C false hf
  · rfl
end Mine
end

section
open PySem PySem.Sre
set_option linter.unusedVariables false
namespace Mine
variable {cd T : Array Nat} {ls st pc pos hd : Nat} {o : Bool} {mk : Array (Option Nat)} {lm li : Int} {fr : List Sre.Frame} {sn : Seen}

/-- W stands at q in T -/
def litAt (T : Array Nat) : List Nat → Nat → Bool
  | [], _ => true
  | c :: r, q => decide (q < T.size) && (T.getD q 0 == c) && litAt T r (q + 1)
/-- W stands at q, and a boundary behind it -/
def hit (T : Array Nat) (q : Nat) (W : List Nat) : Bool := litAt T W q && bd T (q + W.length)

/-- a state that has failed: the answer is no, the frames are fr -/
def Fail (cd T : Array Nat) (ls st : Nat) (mk : Array (Option Nat)) (fr : List Sre.Frame) (m : M) : Prop :=
  ∃ pc pos hd o lm li sn, m = S cd T ls st pc pos hd o mk lm li fr (some false) sn

theorem lits (C : CodeOk cd) : ∀ (W : List Nat) (a q : Nat) (sn : Seen), (∀ i, i < W.length → cd.getD (a + 2 * i) 0 = 16 ∧ cd.getD (a + 1 + 2 * i) 0 = W.getD i 0) → a + 2 * W.length < 433 →
    (litAt T W q = true → Reach W.length (S cd T ls st a q hd o mk lm li fr none sn) (fun m => ∃ sn', m = S cd T ls st (a + 2 * W.length) (q + W.length) hd o mk lm li fr none sn')) ∧
    (litAt T W q = false → Reach W.length (S cd T ls st a q hd o mk lm li fr none sn) (Fail cd T ls st mk fr)) := by
  intro W
  induction W with
  | nil => intro a q sn _ _; exact ⟨fun _ => .here ⟨sn, rfl⟩, fun h => by cases h⟩
  | cons c r ih =>
    intro a q sn h hsz
    obtain ⟨h0, h1⟩ := h 0 (by simp)
    have hs : a + 2 * (r.length + 1) < 433 := by simpa using hsz
    obtain ⟨s1, e1⟩ := st_LITERAL (T := T) (ls := ls) (st := st) (hd := hd) (o := o) (mk := mk) (lm := lm) (li := li) (fr := fr) (sn := sn) (pos := q) C (pc := a) (c := c) (by omega) (by simpa using h0) (by simpa using h1)
    have hr := ih (a + 2) (q + 1) s1 (fun i hi => by
      obtain ⟨x, y⟩ := h (i + 1) (by simp; omega)
      rw [show a + 2 + 2 * i = a + 2 * (i + 1) by omega, show a + 2 + 1 + 2 * i = a + 1 + 2 * (i + 1) by omega]
      exact ⟨x, by simpa using y⟩) (by omega)
    have hb : litAt T (c :: r) q = (decide (q < T.size) && (T.getD q 0 == c) && litAt T r (q + 1)) := rfl
    constructor
    · intro hl
      rw [hb] at hl
      simp only [Bool.and_eq_true, decide_eq_true_eq, beq_iff_eq] at hl
      refine Reach.step rfl ?_
      rw [e1, if_pos hl.1]
      refine (hr.1 hl.2).mono ?_
      rintro m ⟨sn', rfl⟩
      refine ⟨sn', ?_⟩
      rw [List.length_cons, show a + 2 + 2 * r.length = a + 2 * (r.length + 1) by omega, show q + 1 + r.length = q + (r.length + 1) by omega]
    · intro hl
      refine Reach.step rfl ?_
      rw [e1]
      by_cases hc : q < T.size ∧ T.getD q 0 = c
      · rw [if_pos hc]
        refine hr.2 ?_
        rw [hb] at hl
        simpa [hc.1, hc.2] using hl
      · rw [if_neg hc]
        exact .here ⟨_, _, _, _, _, _, _, rfl⟩

theorem altOk_iff {a : Nat} {W : List Nat} (h : altOk cd a W = true) :
    cd.getD a 0 = 2 * W.length + 3 ∧ cd.getD (a + 1 + 2 * W.length) 0 = 15 ∧ a + 2 + 2 * W.length + cd.getD (a + 2 + 2 * W.length) 0 = 416 ∧
    ∀ i, i < W.length → cd.getD (a + 1 + 2 * i) 0 = 16 ∧ cd.getD (a + 1 + 1 + 2 * i) 0 = W.getD i 0 := by
  unfold altOk at h
  simp only [Bool.and_eq_true, beq_iff_eq, List.all_eq_true, List.mem_range] at h
  exact ⟨h.1.1.1, h.1.1.2, h.1.2, fun i hi => by
    have := h.2 i hi
    rw [show a + 1 + 1 + 2 * i = a + 2 + 2 * i by omega]
    exact this⟩

/-- one alternative from its first literal to the place behind the branch, or to a failure -/
theorem alt_one (C : CodeOk cd) {a q : Nat} {W : List Nat} (h : altOk cd a W = true) (hs : a + 2 * W.length + 3 < 433) (sn : Seen) :
    (hit T q W = true → Reach (W.length + 2) (S cd T ls st (a + 1) q hd o mk lm li fr none sn) (fun m => ∃ sn', m = S cd T ls st 418 (q + W.length) hd o mk lm li fr none sn')) ∧
    (hit T q W = false → Reach (W.length + 2) (S cd T ls st (a + 1) q hd o mk lm li fr none sn) (Fail cd T ls st mk fr)) := by
  obtain ⟨h1, h2, h3, h4⟩ := altOk_iff h
  have hl := lits (T := T) (ls := ls) (st := st) (hd := hd) (o := o) (mk := mk) (lm := lm) (li := li) (fr := fr) C W (a + 1) q sn (fun i hi => ⟨(h4 i hi).1, (h4 i hi).2⟩) (by omega)
  have go : litAt T W q = true → ∀ R : M → Prop, (∀ sn', R (if bd T (q + W.length) = true then S cd T ls st 418 (q + W.length) hd o mk lm li fr none sn' else S cd T ls st 416 (q + W.length) hd o mk lm li fr (some false) sn')) → Reach (W.length + 2) (S cd T ls st (a + 1) q hd o mk lm li fr none sn) R := by
    intro hla R hR
    refine Reach.trans (hl.1 hla) ?_
    rintro m ⟨sn', rfl⟩
    refine Reach.step rfl ?_
    obtain ⟨s2, e2⟩ := st_JUMP (T := T) (ls := ls) (st := st) (hd := hd) (o := o) (mk := mk) (lm := lm) (li := li) (fr := fr) (sn := sn') (pos := q + W.length) C (pc := a + 1 + 2 * W.length) (k := 416) (by omega) h2 (by
      rw [show a + 1 + 2 * W.length + 1 = a + 2 + 2 * W.length by omega]; exact h3)
    rw [e2]
    refine Reach.step rfl ?_
    obtain ⟨s3, e3⟩ := st_AT (T := T) (ls := ls) (st := st) (hd := hd) (o := o) (mk := mk) (lm := lm) (li := li) (fr := fr) (sn := s2) (pos := q + W.length) C (pc := 416) (by decide) (C.tl (i := 0) rfl) (C.tl (i := 1) rfl)
    rw [e3]
    exact .here (hR s3)
  constructor
  · intro hh
    simp only [hit, Bool.and_eq_true] at hh
    refine go hh.1 _ fun sn' => ⟨sn', ?_⟩
    rw [if_pos hh.2]
  · intro hh
    cases hla : litAt T W q with
    | false => exact (hl.2 hla).le (by omega)
    | true =>
      refine go hla _ fun sn' => ?_
      have hb : bd T (q + W.length) = false := by simpa [hit, hla] using hh
      rw [if_neg (by simp [hb])]
      exact ⟨_, _, _, _, _, _, _, rfl⟩

def cost : List (List Nat) → Nat
  | [] => 0
  | W :: r => W.length + 3 + cost r

/-- the branch: some word hits (the first one that does), or none -/
theorem branch (C : CodeOk cd) (hf : fr.length ≤ 90) : ∀ (r : List (List Nat)) (a q : Nat) (pc hd : Nat) (o : Bool) (mk : Array (Option Nat)) (lm li : Int) (sn : Seen), chk cd a r = true → a + 2 * (r.map List.length).sum + 3 * r.length < 433 →
    ((∀ W ∈ r, hit T q W = false) → Reach (cost r) ((S cd T ls st pc q hd o mk lm li fr none sn).alternative a (keptOf lm li)) (Fail cd T ls st mk fr)) ∧
    (∀ W, r.find? (hit T q) = some W → Reach (cost r) ((S cd T ls st pc q hd o mk lm li fr none sn).alternative a (keptOf lm li)) (fun m => ∃ a' sn' hd', m = S cd T ls st 418 (q + W.length) hd' o mk lm li (fBr a' q o lm li :: fr) none sn')) := by
  intro r
  induction r with
  | nil =>
    intro a q pc hd o mk lm li sn hc hsz
    have h0 : cd.getD a 0 = 0 := by simpa [chk] using hc
    constructor
    · intro _; rw [alt_end h0]; exact .here ⟨_, _, _, _, _, _, _, rfl⟩
    · intro W h; cases h
  | cons V r ih =>
    intro a q pc hd o mk lm li sn hc hsz
    simp only [chk, Bool.and_eq_true] at hc
    simp only [List.map_cons, List.sum_cons, List.length_cons] at hsz
    obtain ⟨h1, h2, h3, h4⟩ := altOk_iff hc.1
    have hone := alt_one (T := T) (ls := ls) (st := st) (hd := q) (o := o) (mk := mk) (lm := lm) (li := li) (fr := fBr a q o lm li :: fr) C (q := q) hc.1 (by omega) sn
    rw [alt_go (by rw [h1]; omega) (by omega)]
    cases hh : hit T q V with
    | true =>
      constructor
      · intro hall; have := hall V (.head _); rw [hh] at this; cases this
      · intro W hW
        rw [List.find?_cons, hh] at hW
        cases hW
        refine ((hone.1 hh).mono ?_).le (by simp only [cost]; omega)
        rintro m ⟨sn', rfl⟩
        exact ⟨a, sn', q, rfl⟩
    | false =>
      have nxt : ∀ R : M → Prop, (∀ (pc' hd' : Nat) (sn' : Seen), Reach (cost r) ((S cd T ls st pc' q hd' o mk lm li fr none sn').alternative (a + 2 * V.length + 3) (keptOf lm li)) R) → Reach (cost (V :: r)) (S cd T ls st (a + 1) q q o mk lm li (fBr a q o lm li :: fr) none sn) R := by
        intro R hR
        have : cost (V :: r) = V.length + 2 + (cost r + 1) := by simp only [cost]; omega
        rw [this]
        refine Reach.trans (hone.2 hh) ?_
        rintro m ⟨pc', pos', hd', o', lm', li', sn', rfl⟩
        refine Reach.step rfl ?_
        rw [back_br, h1, show a + (2 * V.length + 3) = a + 2 * V.length + 3 by omega]
        exact hR _ _ _
      constructor
      · intro hall
        refine nxt _ fun pc' hd' sn' => ?_
        exact (ih (a + 2 * V.length + 3) q pc' hd' o mk lm li sn' hc.2 (by omega)).1 fun W hW => hall W (.tail _ hW)
      · intro W hW
        rw [List.find?_cons, hh] at hW
        refine nxt _ fun pc' hd' sn' => ?_
        exact (ih (a + 2 * V.length + 3) q pc' hd' o mk lm li sn' hc.2 (by omega)).2 W hW
end Mine
end

section
open PySem PySem.Sre
set_option linter.unusedVariables false
namespace Mine
variable {cd T : Array Nat} {ls st pc pos hd : Nat} {o : Bool} {mk : Array (Option Nat)} {lm li : Int} {fr : List Sre.Frame} {sn : Seen}

theorem cost_kw : cost kwC = 246 := by decide +kernel
theorem kw_small : 22 + 2 * (kwC.map List.length).sum + 3 * kwC.length < 433 := by decide +kernel

def noHit (T : Array Nat) (q : Nat) : Prop := bd T q = false ∨ ∀ W ∈ kwC, hit T q W = false

theorem find_none {T : Array Nat} {q : Nat} {r : List (List Nat)} (h : r.find? (hit T q) = none) : ∀ W ∈ r, hit T q W = false := by
  intro W hW
  have := List.find?_eq_none.mp h W hW
  simpa using this

/-- from the second mark: no word hits here, the answer is no -/
theorem tail_no (C : CodeOk cd) (hf : fr.length ≤ 80) (hmk : mk.size = 4) {q : Nat} (hn : noHit T q) (sn : Seen) :
    Reach 257 (S cd T ls st 17 q hd o mk 0 (-1) fr none sn) (fun m => ∃ mk', mk'.size = 4 ∧ Fail cd T ls st mk' fr m) := by
  refine Reach.le (a := 254 + 1 + 1 + 1) ?_ (by decide)
  refine Reach.step rfl ?_
  obtain ⟨s1, e1⟩ := st_MARK (T := T) (ls := ls) (st := st) (hd := hd) (o := o) (mk := mk) (lm := 0) (li := -1) (fr := fr) (sn := sn) (pos := q) C (pc := 17) (i := 1) (by decide) (C.hd (i := 17) rfl) (C.hd (i := 18) rfl) (by decide)
  rw [e1]
  refine Reach.step rfl ?_
  obtain ⟨s2, e2⟩ := st_AT (T := T) (ls := ls) (st := st) (hd := hd) (o := o) (mk := mk.setIfInBounds 1 (some q)) (lm := max 0 ((1 : Nat) : Int)) (li := if 1 % 2 == 1 then ((1 / 2 + 1 : Nat) : Int) else -1) (fr := fr) (sn := s1) (pos := q) C (pc := 19) (by decide) (C.hd (i := 19) rfl) (C.hd (i := 20) rfl)
  rw [e2]
  have hmk' : (mk.setIfInBounds 1 (some q)).size = 4 := by rw [Array.size_setIfInBounds]; exact hmk
  by_cases hb : bd T q = true
  · rw [if_pos hb]
    refine Reach.step rfl ?_
    obtain ⟨s3, e3⟩ := st_BRANCH (T := T) (ls := ls) (st := st) (hd := hd) (o := o) (mk := mk.setIfInBounds 1 (some q)) (lm := max 0 ((1 : Nat) : Int)) (li := if 1 % 2 == 1 then ((1 / 2 + 1 : Nat) : Int) else -1) (fr := fr) (sn := s2) (pos := q) C
    rw [e3]
    have hn' : ∀ W ∈ kwC, hit T q W = false := by
      rcases hn with h | h
      · rw [hb] at h; cases h
      · exact h
    refine ((branch (T := T) (ls := ls) (st := st) C (by omega) kwC 22 q 21 hd o _ _ _ s3 C.alts kw_small).1 hn').mono ?_ |>.le (by rw [cost_kw]; decide)
    intro m hm
    exact ⟨_, hmk', hm⟩
  · rw [if_neg hb]
    exact .here ⟨_, hmk', _, _, _, _, _, _, _, rfl⟩

/-- the blanks ahead given back, one by one: nowhere a hit -/
theorem give_no (C : CodeOk cd) (hf : fr.length ≤ 70) : ∀ (n s hd : Nat) (o : Bool) (mk : Array (Option Nat)) (sn : Seen), mk.size = 4 → (∀ j, j ≤ n → noHit T (s + j)) →
    Reach ((n + 1) * 258) (S cd T ls st 17 (s + n) hd o mk 0 (-1) (fGive 7 (s + n) o n 0 (-1) :: fr) none sn) (fun m => ∃ mk', mk'.size = 4 ∧ Fail cd T ls st mk' fr m) := by
  intro n
  induction n with
  | zero =>
    intro s hd o mk sn hmk hn
    refine Reach.le (a := 257 + 1) (Reach.trans (tail_no C (by simp; omega) hmk (hn 0 (Nat.le_refl 0)) sn) ?_) (by decide)
    rintro m ⟨mk', hmk', pc', pos', hd', o', lm', li', sn', rfl⟩
    refine Reach.step rfl ?_
    rw [back_give0 7 (s + 0) (by omega)]
    exact .here ⟨mk', hmk', _, _, _, _, _, _, _, rfl⟩
  | succ n ih =>
    intro s hd o mk sn hmk hn
    rw [show (n + 1 + 1) * 258 = 257 + ((n + 1) * 258 + 1) by omega]
    refine Reach.trans (tail_no C (by simp; omega) hmk (hn (n + 1) (Nat.le_refl _)) sn) ?_
    rintro m ⟨mk', hmk', pc', pos', hd', o', lm', li', sn', rfl⟩
    refine Reach.step rfl ?_
    rw [show s + (n + 1) = s + n + 1 by omega, back_give (p := s + n) (n := n) (C.hd (i := 8) rfl) (C.hd (i := 9) rfl) (by omega)]
    exact ih s (s + n) o mk' sn' hmk' fun j hj => hn j (by omega)

abbrev wsN (T : Array Nat) (p : Nat) : Nat := wsrun T (T.size - p) p

/-- an attempt that fails -/
theorem attempt_no (C : CodeOk cd) (hT : T.size ≤ 4294967295) (hf : fr.length ≤ 60) (hmk : mk.size = 4) {s : Nat} (hs : s ≤ T.size) (hn : ∀ j, j ≤ wsN T s → noHit T (s + j)) (sn : Seen) :
    Reach ((wsN T s + 1) * 258 + 2) (S cd T ls s 5 s hd o mk (-1) (-1) fr none sn) (fun m => ∃ mk', mk'.size = 4 ∧ Fail cd T ls s mk' fr m) := by
  refine Reach.step rfl ?_
  obtain ⟨s1, e1⟩ := st_MARK (T := T) (ls := ls) (st := s) (hd := hd) (o := o) (mk := mk) (lm := -1) (li := -1) (fr := fr) (sn := sn) (pos := s) C (pc := 5) (i := 0) (by decide) (C.hd (i := 5) rfl) (C.hd (i := 6) rfl) (by decide)
  rw [e1]
  refine Reach.step rfl ?_
  obtain ⟨s2, e2⟩ := st_REP (T := T) (ls := ls) (st := s) (hd := hd) (o := o) (mk := mk.setIfInBounds 0 (some s)) (lm := 0) (li := -1) (fr := fr) (sn := s1) (pos := s) C (pc := 7) (by decide) (C.hd (i := 7) rfl) (C.hd (i := 8) rfl) (C.hd (i := 9) rfl) (C.hd (i := 10) rfl) (C.hd (i := 11) rfl) (C.hd (i := 13) rfl) (C.hd (i := 14) rfl) (C.hd (i := 15) rfl) hs hT (by omega)
  have e2' : (S cd T ls s (5 + 2) s hd o (mk.setIfInBounds 0 (some s)) (max (-1) ((0 : Nat) : Int)) (if 0 % 2 == 1 then ((0 / 2 + 1 : Nat) : Int) else -1) fr none s1).step = _ := e2
  rw [e2']
  exact give_no C (by omega) _ s _ o _ s2 (by rw [Array.size_setIfInBounds]; exact hmk) hn

/-- the state at a match's end -/
def Found (cd T : Array Nat) (ls s q e1 e2 : Nat) (m : M) : Prop :=
  ∃ o mk sn, m = { S cd T ls s 5 s e2 o mk 3 2 [] (some true) sn with outcome := some .matched } ∧ mk.size = 4 ∧ mk[0]? = some (some s) ∧ mk[1]? = some (some q) ∧ mk[2]? = some (some e1) ∧ mk[3]? = some (some e2)

theorem attempt_yes (C : CodeOk cd) (hT : T.size ≤ 4294967295) (hmk : mk.size = 4) {s : Nat} (hs : s ≤ T.size) {W : List Nat} (hb : bd T (s + wsN T s) = true) (hw : kwC.find? (hit T (s + wsN T s)) = some W) (he : s + wsN T s + W.length ≤ T.size) (sn : Seen) :
    Reach 280 (S cd T ls s 5 s hd o mk (-1) (-1) [fStart s o] none sn) (Found cd T ls s (s + wsN T s) (s + wsN T s + W.length) (s + wsN T s + W.length + wsN T (s + wsN T s + W.length))) := by
  generalize hq : s + wsN T s = q at *
  generalize he1 : q + W.length = e1 at *
  generalize he2 : e1 + wsN T e1 = e2
  refine Reach.le (a := 254 + 9 + 1 + 1 + 1 + 1 + 1) ?_ (by decide)
  refine Reach.step rfl ?_
  obtain ⟨s1, x1⟩ := st_MARK (T := T) (ls := ls) (st := s) (hd := hd) (o := o) (mk := mk) (lm := -1) (li := -1) (fr := [fStart s o]) (sn := sn) (pos := s) C (pc := 5) (i := 0) (by decide) (C.hd (i := 5) rfl) (C.hd (i := 6) rfl) (by decide)
  rw [x1]
  refine Reach.step rfl ?_
  obtain ⟨s2, x2⟩ := st_REP (T := T) (ls := ls) (st := s) (hd := hd) (o := o) (mk := mk.setIfInBounds 0 (some s)) (lm := 0) (li := -1) (fr := [fStart s o]) (sn := s1) (pos := s) C (pc := 7) (by decide) (C.hd (i := 7) rfl) (C.hd (i := 8) rfl) (C.hd (i := 9) rfl) (C.hd (i := 10) rfl) (C.hd (i := 11) rfl) (C.hd (i := 13) rfl) (C.hd (i := 14) rfl) (C.hd (i := 15) rfl) hs hT (by simp)
  have x2' : (S cd T ls s (5 + 2) s hd o (mk.setIfInBounds 0 (some s)) (max (-1) ((0 : Nat) : Int)) (if 0 % 2 == 1 then ((0 / 2 + 1 : Nat) : Int) else -1) [fStart s o] none s1).step = _ := x2
  rw [x2']
  rw [show s + wsrun T (T.size - s) s = q from hq]
  refine Reach.step rfl ?_
  obtain ⟨s3, x3⟩ := st_MARK (T := T) (ls := ls) (st := s) (hd := q) (o := o) (mk := mk.setIfInBounds 0 (some s)) (lm := 0) (li := -1) (fr := [fGive 7 q o (wsrun T (T.size - s) s) 0 (-1), fStart s o]) (sn := s2) (pos := q) C (pc := 17) (i := 1) (by decide) (C.hd (i := 17) rfl) (C.hd (i := 18) rfl) (by decide)
  rw [show 7 + 10 = 17 from rfl, x3]
  refine Reach.step rfl ?_
  obtain ⟨s4, x4⟩ := st_AT (T := T) (ls := ls) (st := s) (hd := q) (o := o) (mk := (mk.setIfInBounds 0 (some s)).setIfInBounds 1 (some q)) (lm := max 0 ((1 : Nat) : Int)) (li := if 1 % 2 == 1 then ((1 / 2 + 1 : Nat) : Int) else -1) (fr := [fGive 7 q o (wsrun T (T.size - s) s) 0 (-1), fStart s o]) (sn := s3) (pos := q) C (pc := 19) (by decide) (C.hd (i := 19) rfl) (C.hd (i := 20) rfl)
  rw [show 17 + 2 = 19 from rfl, x4, if_pos hb]
  refine Reach.step rfl ?_
  obtain ⟨s5, x5⟩ := st_BRANCH (T := T) (ls := ls) (st := s) (hd := q) (o := o) (mk := (mk.setIfInBounds 0 (some s)).setIfInBounds 1 (some q)) (lm := max 0 ((1 : Nat) : Int)) (li := if 1 % 2 == 1 then ((1 / 2 + 1 : Nat) : Int) else -1) (fr := [fGive 7 q o (wsrun T (T.size - s) s) 0 (-1), fStart s o]) (sn := s4) (pos := q) C
  rw [show 19 + 2 = 21 from rfl, x5]
  refine Reach.trans (((branch (T := T) (ls := ls) (st := s) C (by simp) kwC 22 q 21 q o _ _ _ s5 C.alts kw_small).2 W hw).le (by rw [cost_kw]; decide)) ?_
  rintro m ⟨a', s6, hd6, rfl⟩
  rw [he1]
  refine Reach.le (a := 0 + 1 + 1 + 1 + 1 + 1 + 1 + 1 + 1 + 1) ?_ (by decide)
  refine Reach.step rfl ?_
  obtain ⟨s7, x7⟩ := st_MARK (T := T) (ls := ls) (st := s) (hd := hd6) (o := o) (mk := (mk.setIfInBounds 0 (some s)).setIfInBounds 1 (some q)) (lm := 1) (li := 1) (fr := [fBr a' q o 1 1, fGive 7 q o (wsrun T (T.size - s) s) 0 (-1), fStart s o]) (sn := s6) (pos := e1) C (pc := 418) (i := 2) (by decide) (C.tl (i := 2) rfl) (C.tl (i := 3) rfl) (by decide)
  have x7' := x7
  rw [show (S cd T ls s 418 e1 hd6 o ((mk.setIfInBounds 0 (some s)).setIfInBounds 1 (some q)) (max 0 ((1 : Nat) : Int)) (if 1 % 2 == 1 then ((1 / 2 + 1 : Nat) : Int) else -1) [fBr a' q o (max 0 ((1 : Nat) : Int)) (if 1 % 2 == 1 then ((1 / 2 + 1 : Nat) : Int) else -1), fGive 7 q o (wsrun T (T.size - s) s) 0 (-1), fStart s o] none s6).step = _ from x7']
  refine Reach.step rfl ?_
  obtain ⟨s8, x8⟩ := st_REP (T := T) (ls := ls) (st := s) (hd := hd6) (o := o) (mk := ((mk.setIfInBounds 0 (some s)).setIfInBounds 1 (some q)).setIfInBounds 2 (some e1)) (lm := 2) (li := 1) (fr := [fBr a' q o 1 1, fGive 7 q o (wsrun T (T.size - s) s) 0 (-1), fStart s o]) (sn := s7) (pos := e1) C (pc := 420) (by decide) (C.tl (i := 4) rfl) (C.tl (i := 5) rfl) (C.tl (i := 6) rfl) (C.tl (i := 7) rfl) (C.tl (i := 8) rfl) (C.tl (i := 10) rfl) (C.tl (i := 11) rfl) (C.tl (i := 12) rfl) he hT (by simp)
  rw [show (S cd T ls s (418 + 2) e1 hd6 o (((mk.setIfInBounds 0 (some s)).setIfInBounds 1 (some q)).setIfInBounds 2 (some e1)) (max 1 ((2 : Nat) : Int)) (if 2 % 2 == 1 then ((2 / 2 + 1 : Nat) : Int) else 1) [fBr a' q o 1 1, fGive 7 q o (wsrun T (T.size - s) s) 0 (-1), fStart s o] none s7).step = _ from x8]
  rw [show e1 + wsrun T (T.size - e1) e1 = e2 from he2]
  refine Reach.step rfl ?_
  obtain ⟨s9, x9⟩ := st_MARK (T := T) (ls := ls) (st := s) (hd := e2) (o := o) (mk := ((mk.setIfInBounds 0 (some s)).setIfInBounds 1 (some q)).setIfInBounds 2 (some e1)) (lm := 2) (li := 1) (fr := [fGive 420 e2 o (wsrun T (T.size - e1) e1) 2 1, fBr a' q o 1 1, fGive 7 q o (wsrun T (T.size - s) s) 0 (-1), fStart s o]) (sn := s8) (pos := e2) C (pc := 430) (i := 3) (by decide) (C.tl (i := 14) rfl) (C.tl (i := 15) rfl) (by decide)
  rw [show 420 + 10 = 430 from rfl, x9]
  refine Reach.step rfl ?_
  obtain ⟨s10, x10⟩ := st_SUCCESS (T := T) (ls := ls) (st := s) (hd := e2) (o := o) (mk := (((mk.setIfInBounds 0 (some s)).setIfInBounds 1 (some q)).setIfInBounds 2 (some e1)).setIfInBounds 3 (some e2)) (lm := max 2 ((3 : Nat) : Int)) (li := if 3 % 2 == 1 then ((3 / 2 + 1 : Nat) : Int) else 1) (fr := [fGive 420 e2 o (wsrun T (T.size - e1) e1) 2 1, fBr a' q o 1 1, fGive 7 q o (wsrun T (T.size - s) s) 0 (-1), fStart s o]) (sn := s9) (pos := e2) C (pc := 432) (by decide) (C.tl (i := 16) rfl)
  rw [show 430 + 2 = 432 from rfl, x10]
  refine Reach.step rfl ?_
  rw [pop_give]
  refine Reach.step rfl ?_
  rw [pop_true]
  refine Reach.step rfl ?_
  rw [pop_give]
  refine Reach.step rfl ?_
  rw [pop_start]
  refine Reach.step rfl ?_
  rw [pop_end]
  refine .here ⟨o, _, s10, rfl, ?_, ?_, ?_, ?_, ?_⟩
  all_goals simp [hmk]
end Mine
end

section
open PySem PySem.Sre
set_option linter.unusedVariables false
namespace Mine
variable {cd T : Array Nat} {ls st pc pos hd : Nat} {o : Bool} {mk : Array (Option Nat)} {lm li : Int} {fr : List Sre.Frame} {sn : Seen}

theorem wsrun_le (T : Array Nat) : ∀ n p, wsrun T n p ≤ n
  | 0, _ => Nat.le_refl _
  | n + 1, p => by
    unfold wsrun
    split
    · exact Nat.succ_le_succ (wsrun_le T n _)
    · exact Nat.zero_le _

def attB (T : Array Nat) : Nat := (T.size + 1) * 258 + 3

def Nxt (cd T : Array Nat) (ls s : Nat) (m : M) : Prop :=
  ∃ mk sn, mk.size = 4 ∧ ((s < ls ∧ m = S cd T ls (s + 1) 5 (s + 1) (s + 1) false mk (-1) (-1) [fStart (s + 1) false] none sn) ∨ (¬ s < ls ∧ ∃ hd o lm li, m = S cd T ls s 5 s hd o mk lm li [] (some false) sn))
theorem att_no (C : CodeOk cd) (hT : T.size ≤ 4294967295) (hmk : mk.size = 4) {s : Nat} (hs : s ≤ T.size) (hn : ∀ j, j ≤ wsN T s → noHit T (s + j)) (sn : Seen) :
    Reach (attB T) (S cd T ls s 5 s hd o mk (-1) (-1) [fStart s o] none sn) (Nxt cd T ls s) := by
  have hw : wsN T s ≤ T.size := Nat.le_trans (wsrun_le _ _ _) (Nat.sub_le _ _)
  refine Reach.le (a := ((wsN T s + 1) * 258 + 2) + (0 + 1)) (Reach.trans (attempt_no C hT (Nat.le_of_ble_eq_true rfl) hmk hs hn sn) ?_) (by unfold attB; omega)
  rintro m ⟨mk', hmk', pc', pos', hd', o', lm', li', sn', rfl⟩
  refine Reach.step rfl ?_
  rw [back_start C (Nat.le_of_ble_eq_true rfl)]
  refine .here ⟨mk', sn', hmk', ?_⟩
  by_cases hl : s < ls
  · rw [if_pos hl]; exact .inl ⟨hl, rfl⟩
  · rw [if_neg hl]; exact .inr ⟨hl, _, _, _, _, rfl⟩

theorem find_yes (C : CodeOk cd) (hT : T.size ≤ 4294967295) {W : List Nat} {s q : Nat} (hq : s + wsN T s = q) (hls : s ≤ ls) (hlT : ls ≤ T.size) (hb : bd T q = true) (hw : kwC.find? (hit T q) = some W) (he : q + W.length ≤ T.size) :
    ∀ (d p hd : Nat) (o : Bool) (mk : Array (Option Nat)) (sn : Seen), p + d = s → mk.size = 4 → (∀ x, p ≤ x → x < q → noHit T x) → (∀ x, p ≤ x → x < s → x + wsN T x < q) →
      Reach (d * attB T + 280) (S cd T ls p 5 p hd o mk (-1) (-1) [fStart p o] none sn) (Found cd T ls s q (q + W.length) (q + W.length + wsN T (q + W.length))) := by
  intro d
  induction d with
  | zero =>
    intro p hd o mk sn hp hmk _ _
    have hp' : p = s := by omega
    subst hp'
    subst hq
    exact (attempt_yes C hT hmk (by omega) hb hw he sn).le (by omega)
  | succ d ih =>
    intro p hd o mk sn hp hmk h1 h2
    rw [show (d + 1) * attB T + 280 = attB T + (d * attB T + 280) by rw [Nat.succ_mul]; omega]
    refine Reach.trans (att_no C hT hmk (by omega) (fun j hj => h1 _ (by omega) ?_) sn) ?_
    · have := h2 p (Nat.le_refl _) (by omega); omega
    · rintro m ⟨mk', sn', hmk', ⟨hl, rfl⟩ | ⟨hl, _⟩⟩
      · exact ih (p + 1) _ _ mk' sn' (by omega) hmk' (fun x hx => h1 x (by omega)) fun x hx => h2 x (by omega)
      · exact absurd (show p < ls by omega) hl

theorem find_no (C : CodeOk cd) (hT : T.size ≤ 4294967295) (hlT : ls ≤ T.size) :
    ∀ (d p hd : Nat) (o : Bool) (mk : Array (Option Nat)) (sn : Seen), p + d = ls → mk.size = 4 → (∀ x, p ≤ x → x ≤ T.size → noHit T x) →
      Reach ((d + 1) * attB T + 1) (S cd T ls p 5 p hd o mk (-1) (-1) [fStart p o] none sn) (fun m => m.outcome = some .failed) := by
  intro d
  induction d with
  | zero =>
    intro p hd o mk sn hp hmk h1
    rw [show (0 + 1) * attB T + 1 = attB T + (0 + 1) by omega]
    refine Reach.trans (att_no C hT hmk (by omega) (fun j hj => h1 _ (by omega) ?_) sn) ?_
    · have : wsN T p ≤ T.size - p := wsrun_le _ _ _
      omega
    · rintro m ⟨mk', sn', hmk', ⟨hl, _⟩ | ⟨hl, _, _, _, _, rfl⟩⟩
      · omega
      · refine Reach.step rfl ?_
        rw [pop_end]
        exact .here rfl
  | succ d ih =>
    intro p hd o mk sn hp hmk h1
    rw [show (d + 1 + 1) * attB T + 1 = attB T + ((d + 1) * attB T + 1) by rw [Nat.succ_mul (d + 1)]; omega]
    refine Reach.trans (att_no C hT hmk (by omega) (fun j hj => h1 _ (by omega) ?_) sn) ?_
    · have : wsN T p ≤ T.size - p := wsrun_le _ _ _
      omega
    · rintro m ⟨mk', sn', hmk', ⟨hl, rfl⟩ | ⟨hl, _⟩⟩
      · exact ih (p + 1) _ _ mk' sn' (by omega) hmk' fun x hx => h1 x (by omega)
      · exact absurd (show p < ls by omega) hl

theorem header_eq (C : CodeOk cd) : header cd = (2, 5) := by
  unfold header
  simp only [C.hd (i := 0) rfl, C.hd (i := 1) rfl, C.hd (i := 3) rfl]
  rfl
theorem search_shape (start : Nat) : ∀ h : Nat × Nat, header cd = h → forSearch cd T 2 start T.size false =
    (let m : M := { code := cd, text := T, lim := T.size, start := start, pc := h.2, pos := start, handed := start, marks := Array.replicate (2 * 2) none, mustAdvance := false, seen := if h.2 == 0 then {} else ({} : Seen).add 14 }
     if start > T.size || T.size - start < h.1 then m.say false
     else M.attemptFrom { m with lastStart := if h.1 > 1 && !(h.2 != 0 && cd.getD 2 0 &&& 5 != 0) then max start (T.size - (h.1 - 1)) else T.size } start true) := by
  intro h e
  subst e
  rfl
theorem search_eq (C : CodeOk cd) (start : Nat) : forSearch cd T 2 start T.size false =
    if start > T.size ∨ T.size - start < 2 then S cd T 0 start 5 start start true (Array.replicate 4 none) (-1) (-1) [] (some false) (({} : Seen).add 14)
    else S cd T (max start (T.size - 1)) start 5 start start true (Array.replicate 4 none) (-1) (-1) [fStart start true] none (({} : Seen).add 14) := by
  rw [search_shape start _ (header_eq C)]
  by_cases h : start > T.size ∨ T.size - start < 2
  · rw [if_pos h]
    have : (decide (start > T.size) || decide (T.size - start < 2)) = true := by simpa using h
    show (if (decide (start > T.size) || decide (T.size - start < 2)) = true then _ else _) = _
    rw [if_pos this]; rfl
  · rw [if_neg h]
    have : ¬ (decide (start > T.size) || decide (T.size - start < 2)) = true := by simpa using h
    show (if (decide (start > T.size) || decide (T.size - start < 2)) = true then _ else M.attemptFrom (S cd T (if (decide (2 > 1) && !(5 != 0 && cd.getD 2 0 &&& 5 != 0)) = true then max start (T.size - 1) else T.size) start 5 start start true (Array.replicate 4 none) (-1) (-1) [] none (({} : Seen).add 14)) start true) = _
    rw [if_neg this, C.hd (i := 2) rfl, attempt_from C true (Nat.zero_le _)]
    rfl

/-- a search that finds -/
theorem search_found (C : CodeOk cd) (hT : T.size ≤ 100000) {W : List Nat} {start s q : Nat} (h0 : start ≤ s) (hq : s + wsN T s = q) (hb : bd T q = true) (hw : kwC.find? (hit T q) = some W) (hl : 2 ≤ W.length) (he : q + W.length ≤ T.size)
    (h1 : ∀ x, start ≤ x → x < q → noHit T x) (h2 : ∀ x, start ≤ x → x < s → x + wsN T x < q) :
    Reach (10 ^ 15) (forSearch cd T 2 start T.size false) (fun m => ∃ ls, Found cd T ls s q (q + W.length) (q + W.length + wsN T (q + W.length)) m) := by
  rw [search_eq C, if_neg (by omega)]
  refine ((find_yes C (by omega) hq (ls := max start (T.size - 1)) (by omega) (by omega) hb hw he (s - start) start start true _ _ (by omega) (Array.size_replicate ..) h1 h2).mono fun m hm => ⟨_, hm⟩).le ?_
  have a1 : attB T ≤ 25800261 := by unfold attB; omega
  have a2 : (s - start) * attB T ≤ 100000 * 25800261 := Nat.mul_le_mul (by omega) a1
  generalize (s - start) * attB T = z at a2
  omega
theorem search_none (C : CodeOk cd) (hT : T.size ≤ 100000) {start : Nat} (h1 : ∀ x, start ≤ x → x ≤ T.size → noHit T x) :
    Reach (10 ^ 15) (forSearch cd T 2 start T.size false) (fun m => m.outcome = some .failed) := by
  rw [search_eq C]
  by_cases h : start > T.size ∨ T.size - start < 2
  · rw [if_pos h]
    refine Reach.le (a := 0 + 1) (Reach.step rfl ?_) (by decide)
    rw [pop_end]
    exact .here rfl
  · rw [if_neg h]
    refine (find_no C (by omega) (ls := max start (T.size - 1)) (by omega) (max start (T.size - 1) - start) start start true _ _ (by omega) (Array.size_replicate ..) h1).le ?_
    have a1 : attB T ≤ 25800261 := by unfold attB; omega
    have a2 : (max start (T.size - 1) - start + 1) * attB T ≤ 100001 * 25800261 := Nat.mul_le_mul (by omega) a1
    generalize (max start (T.size - 1) - start + 1) * attB T = z at a2
    omega
end Mine
end

section
open PySem PySem.W PySem.Calls PyProof.Rows
set_option Elab.async false
set_option linter.unusedVariables false
namespace Mine

/-! ## codes at M1 in clean contexts -/
section codes
variable {prog : Program} {w : World} {A : Around} {E : Value → Shared → Prop} {s : Shared} {R : Result → Shared → Prop} {env : Env}

theorem codeC_builtin {id : String} {args : Args} {b : Builtin} (hask : isAsk (.builtin id args) = false) (hci : isCI (.builtin id args) = false) (hb : entryFor table id = some b)
    (h : wpC prog w (A.under (.builtin id args)) (b args) (finC prog w A R) (fun e s' => R (.error e) s') s) : codeC prog w A (.builtin id args) R s :=
  codeC_tree hask hci (by rw [denote_builtin hb]; exact h)

theorem codeC_call_builtin {id : String} {args : Args} {b : Builtin} (hask : isAsk (.builtin id args) = false) (hci : isCI (.builtin id args) = false) (hq : plainId id = true) (hb : entryFor table id = some b)
    (h : wpC prog w A.in1 (checkBuiltinCall id args) (fun _ s₁ => wpC prog w A.in1 (b args) (finC prog w A R) (fun e s' => R (.error e) s') s₁) (fun e s' => R (.error e) s') s) :
    codeC prog w A (.call (.builtin id) args) R s := by
  refine codeC_tree rfl rfl ?_
  show wpC prog w A.in1 (do checkBuiltinCall id args; again (.builtin id args)) _ _ s
  refine wpK_bind (wpK_mono h (fun _ s₁ h₁ => wpK_pure (And.intro (plainId_quiet hq args) (codeC_builtin hask hci hb ?_))) fun _ _ h' => h')
  rw [Around.under_plainId hq args]; exact h₁

theorem codeC_func {body : List Stmt}
    (h : wpC prog w (A.deeper env) (execs body env) (fun f s' => R (.ok (.ret (match f with | .ret v => v | _ => .none))) s')
      (fun e s' => wpC prog w (A.deeper env) (leaving env e) (fun _ s'' => R (.error e) s'') (fun e' s'' => R (.error e') s'') s') s) :
    codeC prog w A (.func body env) R s := by
  refine codeC_tree rfl rfl ?_
  show wpC prog w (A.deeper env) (do point; match ← (execs body env).onRaise (leaving env) with | .ret v => ret v | _ => ret .none) _ _ s
  refine wpK_bind (wpK_point (wpK_bind (wpK_onRaise (wpK_mono h (fun f s' h' => ?_) fun _ _ h' => h'))))
  cases f <;> exact wpK_pure h'

theorem codeC_call_function {a : Addr} {args : Args} {o : Obj} {fd : FuncData} {body : List Stmt} (hroom : A.depth < recursionLimit)
    (ho : s.heap.get? a = some o)
    (hd' : o.data = .func fd) (hco : fd.scope.isCoroutine = false) (hgen : fd.scope.isGenerator = false) (hbody : fd.body = .stmts body) (hcd : s.heap.CodeRec fd.code fd.qualname)
    (h : wpAny (M1 prog w) A.in1 (bindArgs fd args) (fun binds s₁ =>
      wpAny (M1 prog w) A.in1 (newFunctionEnv fd.scope fd.globals fd.closure binds (fd.qualname ++ ".<locals>.") (some a) fd.code none fd.builtins)
        (fun env s₂ => s₂.heap.NoLimit ∧ codeC prog w A (.func body env) R s₂) (fun e s' => R (.error e) s') s₁) (fun e s' => R (.error e) s') s) :
    codeC prog w A (.call (.ref a) args) R s := by
  refine codeC_tree rfl rfl ?_
  show wpC prog w A.in1 (callAny (.ref a) args) _ _ s
  simp only [callAny]
  refine wpK_bind (wpC_of (wpAny_load ho ?_))
  obtain ⟨c, oc, vs, tq, hc, hoc, hdc, hq⟩ := hcd
  simp only [hd', callFunction, hco, hgen, hbody, hc]
  rw [hc] at h
  refine wpK_bind (m := field (.ref c) 1) (wpC_of (wpAny_field hoc hdc hq ?_))
  refine wpK_bind (wpK_pure ?_)
  refine wpK_bind (wpC_of (wpAny_mono h (fun binds s₁ h₁ => ?_) fun _ _ h' => h'))
  refine wpK_bind (wpC_of (wpAny_mono h₁ (fun env s₂ h₂ => ?_) fun _ _ h' => h'))
  refine wpK_bind (wpC_of (wpAny_enterFrame h₂.1 hroom ?_))
  exact wpK_pure (And.intro rfl h₂.2)

theorem call_fullC {name : Str} {params : Arguments} {body : List Stmt} {scope : Scope}
    {dV kV pm cd doc : Value} {a : Addr} {o : Obj} {args : Args} {binds : List (Str × Value)}
    (hroom : A.depth < recursionLimit) (ho : s.heap.get? a = some o) (hdata : o.data = .func { docDef name params body scope pm cd doc with defaults := dV, kwdefaults := kV }) (hlim : s.heap.NoLimit) (hcd : s.heap.CodeRec cd name)
    (hbind : BindsTo s { docDef name params body scope pm cd doc with defaults := dV, kwdefaults := kV } args binds)
    (hloc : ∀ x ∈ binds, scope.names.lookup x.1 = some .local)
    (h : ∀ h₁, Fr s.heap s.heap.objs.size h₁ (fun x => binds.reverse.lookup x) →
      wpC prog w (A.deeper (envOf name scope s.heap.objs.size a cd)) (execs body (envOf name scope s.heap.objs.size a cd))
        (fun f s' => R (.ok (.ret (match f with | .ret v => v | _ => .none))) s')
        (fun e s' => wpC prog w (A.deeper (envOf name scope s.heap.objs.size a cd)) (leaving (envOf name scope s.heap.objs.size a cd) e)
          (fun _ s'' => R (.error e) s'') (fun e' s'' => R (.error e') s'') s')
        { s with heap := h₁, toks := s.toks + binds.length })
    (hco : scope.isCoroutine = false := by rfl) (hgen : scope.isGenerator = false := by rfl) (hk : scope.kind = .function := by rfl)
    (hcell : ∀ x ∈ scope.names, x.2 ≠ .cell := by decide) :
    codeC prog w A (.call (.ref a) args) R s := by
  refine codeC_call_function hroom ho hdata hco hgen rfl hcd (hbind _ _ _ _ ?_)
  refine wpAny_newFunctionEnv hcell hloc (fun h₀ hns₀ hsb₀ => ⟨hlim.fresh _ hsb₀, codeC_func (h h₀ ⟨hns₀, fun b o e => ?_, Nat.le_refl _⟩)⟩) hk
  exact hsb₀.extBut b o (Nat.ne_of_lt (Heap.lt_size e)) (Heap.get?_push_of_some _ e)

/-- a call of a generator function -/
theorem call_genC {a : Addr} {args : Args} {o : Obj} {fd : FuncData} {body : List Stmt} {binds : List (Str × Value)} {Q : Value → Shared → Prop} (hroom : A.depth < recursionLimit)
    (ho : s.heap.get? a = some o)
    (hd' : o.data = .func fd) (hco : fd.scope.isCoroutine = false) (hgen : fd.scope.isGenerator = true) (hbody : fd.body = .stmts body) (hcd : s.heap.CodeRec fd.code fd.qualname)
    (hbind : BindsTo s fd args binds) (hlim : s.heap.NoLimit) (hk : fd.scope.kind = .function)
    (hcell : ∀ x ∈ fd.scope.names, x.2 ≠ .cell) (hloc : ∀ x ∈ binds, fd.scope.names.lookup x.1 = some .local)
    (h : ∀ (h₀ : Heap) (tk : Nat), h₀.Ns s.heap.objs.size (fun x => binds.reverse.lookup x) → (∀ b o, s.heap.get? b = some o → h₀.get? b = some o) → h₀.objs.size = s.heap.objs.size + 1 →
      Q (.ref h₀.objs.size) { s with heap := h₀.push { cls := .type "generator", data := .fields #[.int s.gens.size 0, .str fd.name tk, .str fd.qualname (tk + 1)] }, gens := s.gens.push (.fresh (.func body (callEnv fd s.heap.objs.size a))), toks := tk + 1 + 1 }) :
    wpAny (model prog w) A (PySem.call (.ref a) args.pos args.kw) Q E s := by
  refine wpAny_call (codeAny_of_tree ?_)
  show wpAny _ A.in1 (callAny (.ref a) args) _ _ s
  simp only [callAny]
  refine wpAny_bind (wpAny_load ho ?_)
  obtain ⟨c, oc, vs, tq, hc, hoc, hdc, hq⟩ := hcd
  simp only [hd', callFunction, hco, hgen, hbody, hc]
  refine wpAny_bind (m := field (.ref c) 1) (wpAny_field hoc hdc hq (wpAny_bind (wpAny_pure ?_)))
  refine wpAny_bind (hbind _ _ _ _ ?_)
  refine wpAny_bind (wpAny_newFunctionEnv hcell hloc (fun h₀ hns₀ hsb₀ => ?_) hk)
  have hlim' : h₀.NoLimit := hlim.fresh _ hsb₀
  refine wpAny_bind (wpAny_enterFrame hlim' hroom ?_)
  simp only [newGenerator, newFields]
  refine wpAny_bind (wpAny_bind (wpAny_newGen ?_))
  refine wpAny_bind (wpAny_mkText ?_)
  refine wpAny_bind (wpAny_mkText ?_)
  refine wpAny_newObj_type ?_ (by size_fits)
  refine wpAny_pure ?_
  have key := h h₀ (s.toks + binds.length) hns₀ (fun b o e => hsb₀.extBut b o (Nat.ne_of_lt (Heap.lt_size e)) (Heap.get?_push_of_some _ e)) (by rw [hsb₀.1, Heap.size_push])
  unfold callEnv at key
  rw [hc] at key
  exact key
end codes
end Mine
end

section
open PySem PySem.W PySem.Calls PyProof.Rows
set_option Elab.async false
set_option linter.unusedVariables false
namespace Mine

section stmts
variable {prog : Program} {w : World} {A : Around} {E : Value → Shared → Prop} {s : Shared} {R : Result → Shared → Prop} {env : Env}

theorem execs_app (a b : List Stmt) : execs (a ++ b) env = execs a env >>= fun f => match f with | .next => execs b env | f => pure f := by
  induction a with
  | nil => rfl
  | cons st rest ih =>
    rw [List.cons_append, execs_cons, execs_cons, ih]
    rw [bind_assoc]
    congr 1
    funext f
    cases f <;> rfl

theorem wpC_split {Q : Flow → Shared → Prop} (pre rest : List Stmt)
    (h : wpC prog w A (execs pre env) (fun f s' => match f with | .next => wpC prog w A (execs rest env) Q E s' | f => Q f s') E s) : wpC prog w A (execs (pre ++ rest) env) Q E s := by
  rw [execs_app]
  refine wpK_bind (wpK_mono h (fun f s' h' => ?_) fun _ _ x => x)
  cases f <;> first | exact h' | exact wpK_pure h'

theorem wpC_cons {Q : Flow → Shared → Prop} {st : Stmt} {rest : List Stmt}
    (h : wpC prog w A (exec st env) (fun f s' => match f with | .next => wpC prog w A (execs rest env) Q E s' | f => Q f s') E s) : wpC prog w A (execs (st :: rest) env) Q E s := by
  rw [execs_cons]
  refine wpK_bind (wpK_mono h (fun f s' h' => ?_) fun _ _ x => x)
  cases f <;> first | exact h' | exact wpK_pure h'
theorem wpC_nil {Q : Flow → Shared → Prop} (h : Q .next s) : wpC prog w A (execs [] env) Q E s := wpK_pure h

/-- nothing is raised -/
abbrev NoE : Value → Shared → Prop := fun _ _ => False

theorem blockC (h : R (.ok .next) s) : codeC prog w A (.block [] env) R s := by
  refine codeC_tree rfl rfl ?_
  rw [Around.under_of_weight rfl]
  show wpC prog w A (do return Fin.done (← (execs [] env).onRaise (fun x => do noteFrame x env; theTreesLotGoes x))) _ _ s
  exact wpK_bind (wpK_onRaise (wpK_pure (wpK_pure h)))

theorem forLoopC {target : Expr} {it : Value} {body : List Stmt} (I : Nat → Shared → Prop)
    (turn : ∀ n s, I n s → wpC prog w A (pyNext it) (fun r s₁ => match r with
      | none => R (.ok .next) s₁
      | some v => wpC prog w A (assign target env v) (fun _ s₂ => wpC prog w A (execs body env) (fun f s₃ => f = .next ∧ ∃ m, m < n ∧ I m s₃) NoE s₂) NoE s₁) NoE s)
    (ht : ∀ v, letOwnedTupleGo target it v = pure ()) (n : Nat) : ∀ s, I n s → codeC prog w A (.forLoop target it body [] env) R s := by
  induction n using Nat.strongRecOn with
  | ind n ih =>
    intro s hI
    refine codeC_tree rfl rfl ?_
    rw [Around.under_of_weight rfl]
    show wpC prog w A ((forTurn target it body [] env).onRaise (fun x => do noteFrame x env; theTreesLotGoes x)) _ _ s
    refine wpK_onRaise (wpK_mono (?_ : wpC prog w A (forTurn target it body [] env) (finC prog w A R) NoE s) (fun _ _ x => x) fun _ _ x => x.elim)
    simp only [forTurn]
    refine wpK_bind (wpK_standAt (wpK_bind (wpK_onRaise (wpK_mono (turn n s hI) (fun r s₁ h₁ => ?_) fun _ _ x => x.elim))))
    cases r with
    | none => exact wpK_pure (And.intro rfl (blockC h₁))
    | some v =>
      refine wpK_bind (wpK_of_eq (ht v) (wpK_pure ?_))
      refine wpK_bind (wpK_mono h₁ (fun _ s₂ h₂ => ?_) fun _ _ x => x.elim)
      refine wpK_bind (wpK_mono h₂ (fun f s₃ h₃ => ?_) fun _ _ x => x.elim)
      obtain ⟨rfl, m, hm, hI'⟩ := h₃
      exact wpK_pure (And.intro rfl (ih m hm s₃ hI'))

theorem wpC_For {target iter : Expr} {body : List Stmt} {pos : Pos} {Q : Flow → Shared → Prop}
    (h : wpC prog w A (eval iter env) (fun x s₁ => wpC prog w A (pyIter x) (fun it s₂ =>
      codeC prog w A (.forLoop target it body [] env) (fun r s' => match r with | .ok f => Q f s' | .error e => False) s₂) NoE s₁) NoE s)
    (hs : ∀ x, foldedSetIterable iter env x = pure x := by intro _; rfl) :
    wpC prog w A (exec (.For target iter body [] pos) env) Q E s := by
  rw [exec_For]
  refine wpK_bind (wpK_standAt (wpK_bind (wpK_mono h (fun x s₁ h₁ => ?_) fun _ _ x => x.elim)))
  refine wpK_bind (wpK_of_eq (hs x) (wpK_pure ?_))
  refine wpK_bind (wpK_standAt (wpK_bind (wpK_holding (wpK_mono h₁ (fun it s₂ h₂ => ?_) fun _ _ x => x.elim))))
  unfold runOwn
  refine wpK_onRaise (wpC_run (codeC_mono h₂ fun r s' hr => ?_))
  cases r with
  | ok f => exact hr
  | error e => exact hr.elim

theorem wpC_Expr {e : Expr} {pos : Pos} {Q : Flow → Shared → Prop} (hi : interactive env = false) (hs : swapsWith e none pos.line env = pure false)
    (h : wpC prog w A (eval e env) (fun v s' => Q .next s') E s) : wpC prog w A (exec (.Expr e pos) env) Q E s := by
  rw [exec_Expr env e pos hi hs]
  exact wpK_bind (wpK_standAt (wpK_bind (wpK_mono h (fun v s' h' => wpC_emb (wpAny_dropValue h')) fun _ _ x => x)))
end stmts

/-! ## segments of a generator's run in clean contexts -/
section seg
variable {prog : Program} {w : World}

def SegC (prog : Program) (w : World) (A : Around) (R : GenEnd) (Y : Protocol) : Nat → Shared → Code → Sem Fin → List Frame → Shared → Prop
  | 0 => fun s₀ c t fs s => ∀ Γ p, Γ.code = c → Γ.Woken A → cleanB Γ → ∃ e s', Runs (M1 prog w) Γ p t fs s e s' ∧ SegEnd R Y 0 (fun _ _ _ _ => False) s₀ e s'
  | n + 1 => fun s₀ c t fs s => ∀ Γ p, Γ.code = c → Γ.Woken A → cleanB Γ → ∃ e s', Runs (M1 prog w) Γ p t fs s e s' ∧
      SegEnd R Y (n + 1) (fun c' t' fs' s'' => SegC prog w A R Y n s'' c' t' fs' s'') s₀ e s'

def SegC.next (prog : Program) (w : World) (A : Around) (R : GenEnd) (Y : Protocol) : Nat → Code → Sem Fin → List Frame → Shared → Prop
  | 0 => fun _ _ _ _ => False
  | n + 1 => fun c t fs s'' => SegC prog w A R Y n s'' c t fs s''

theorem segC_iff {A : Around} {R : GenEnd} {Y : Protocol} {n : Nat} {s₀ c t fs s} :
    SegC prog w A R Y n s₀ c t fs s ↔ ∀ Γ p, Γ.code = c → Γ.Woken A → cleanB Γ → ∃ e s', Runs (M1 prog w) Γ p t fs s e s' ∧ SegEnd R Y n (SegC.next prog w A R Y n) s₀ e s' := by
  cases n <;> rfl

def cleanF (fs : List Frame) : Prop := ∀ F ∈ fs, isCI F.where_.1 = false

variable {A : Around} {R : GenEnd} {Y : Protocol} {n : Nat} {s₀ : Shared} {c : Code} {fs : List Frame} {s : Shared}

theorem clean_over {Γ : Ctx} (hf : cleanF fs) (hb : cleanB Γ) : cleanB (Γ.over fs) := fun x hx => by
  rcases List.mem_append.mp hx with hx | hx
  · obtain ⟨F, hF, rfl⟩ := List.mem_map.mp hx
    exact hf F hF
  · exact hb x hx

theorem segC_wrap {α : Type} {m : Sem α} {K : α → Sem Fin} {H : Value → Sem Fin} {gd lv} (hf : cleanF fs) (hc : isCI c = false)
    (h : wpC prog w (A.over c fs) m (fun a s' => SegC prog w A R Y n s₀ c (K a) fs s') (fun x s' => SegC prog w A R Y n s₀ c (H x) fs s') s) :
    SegC prog w A R Y n s₀ c (m.wrap K H gd lv) fs s := by
  rw [segC_iff]
  rintro Γ p rfl hΓ hb
  exact runs_wrap_of_wp K H gd lv m (h (Γ.over fs) p ⟨hΓ.over fs, clean_over hf hb, hc⟩) (fun a p' s' h' => segC_iff.mp h' Γ p' rfl hΓ hb)
    (fun x p' s' h' => segC_iff.mp h' Γ p' rfl hΓ hb)

theorem segC_bind {α : Type} {m : Sem α} {K : α → Sem Fin} (hf : cleanF fs) (hc : isCI c = false)
    (h : wpC prog w (A.over c fs) m (fun a s' => SegC prog w A R Y n s₀ c (K a) fs s') (fun x s' => SegC prog w A R Y n s₀ c (.raise x) fs s') s) :
    SegC prog w A R Y n s₀ c (m >>= K) fs s := by
  rw [Sem.bind_eq_wrap']; exact segC_wrap hf hc h

theorem segC_at {p' : Pos} {k : Unit → Sem Fin} (h : SegC prog w A R Y n s₀ c (k ()) fs s) : SegC prog w A R Y n s₀ c (.at p' k) fs s := by
  rw [segC_iff] at h ⊢
  rintro Γ p rfl hΓ hb
  obtain ⟨e, s', hr, he⟩ := h Γ p' rfl hΓ hb
  exact ⟨e, s', Runs.head' (fun _ _ x => .at x) hr, he⟩
theorem segC_point {l : List Value} {k : Unit → Sem Fin} (h : SegC prog w A R Y n s₀ c (k ()) fs s) : SegC prog w A R Y n s₀ c (.point l k) fs s := by
  rw [segC_iff] at h ⊢
  rintro Γ p rfl hΓ hb
  obtain ⟨e, s', hr, he⟩ := h Γ p rfl hΓ hb
  exact ⟨e, s', Runs.head' (fun _ _ x => .point x) hr, he⟩

theorem segC_call {c' : Code} {h g l} {k : Result → Sem Fin} (hask : isAsk c' = false) (hc : ∀ p, SegC prog w A R Y n s₀ c' (denote table c') (.ret k h g l c p [] :: fs) s) :
    SegC prog w A R Y n s₀ c (.call c' h g l k) fs s := by
  rw [segC_iff]
  rintro Γ p rfl hΓ hb
  obtain ⟨e, s', hr, he⟩ := segC_iff.mp (hc p) (Γ.goto c') p rfl (hΓ.goto c') hb
  rw [← den1_of hask] at hr
  exact ⟨e, s', runs_call_seg hr, he⟩

theorem segC_leaf {k h g l c₁ p₁ kp} (r : Result) (hk : SegC prog w A R Y n s₀ c₁ (k r) fs s) : SegC prog w A R Y n s₀ c (leafOf r) (.ret k h g l c₁ p₁ kp :: fs) s := by
  rw [segC_iff]
  rintro Γ p rfl hΓ hb
  obtain ⟨e, s', hr, he⟩ := segC_iff.mp hk (Γ.goto c₁) p₁ rfl (hΓ.goto c₁) hb
  exact ⟨e, s', Runs.pop r hr, he⟩

theorem segC_again {c' : Code} (hask : isAsk c' = false) (hq : c'.quiet = true) (hc : SegC prog w A R Y n s₀ c' (denote table c') fs s) : SegC prog w A R Y n s₀ c (.pure (.again c')) fs s := by
  rw [segC_iff]
  rintro Γ p rfl hΓ hb
  obtain ⟨e, s', hr, he⟩ := segC_iff.mp hc (Γ.goto c') p rfl (hΓ.goto c') hb
  rw [← den1_of hask] at hr
  exact ⟨e, s', Runs.head (c₁ := c') (fun _ _ x => .again hq x) hr, he⟩

theorem segC_end (r : Result) (h : R n s₀ r s) : SegC prog w A R Y n s₀ c (leafOf r) [] s := by
  rw [segC_iff]
  rintro Γ p rfl _ _
  exact ⟨.ret r, s, Runs.leaf r, h⟩

theorem segC_yield {v g l} {k : Resume → Sem Fin} (hfs : splitAtGen fs = none) (hg : g = false) (hfg : fs.any Frame.guarded = false)
    (h : Y n s₀ v s fun r s'' => SegC prog w A R Y n s'' c (k r) fs s'') : SegC prog w A R Y (n + 1) s₀ c (.yield v g l k) fs s := by
  rintro Γ p rfl _ _
  exact ⟨_, s, Runs.yield' fs hfs, And.intro (by simp [End.quiet, hg, hfg]) h⟩

def GoesC (prog : Program) (w : World) (A : Around) (R : GenEnd) (Y : Protocol) (n : Nat) (gs : GenState) (r : Resume) (s : Shared) : Prop :=
  match gs with
  | .fresh c => r = .send .none ∧ SegC prog w A R Y n s c (den1 c) [] s
  | .suspended k _ c _ fs _ => SegC prog w A R Y n s c (k r) fs s
  | _ => False

theorem resumeC {E : Value → Shared → Prop} {g : Nat} {gs : GenState}
    {r : Resume} {l : List Value} {α : Type} {k : GenResult → Sem α} {Q : α → Shared → Prop} (hg : s.gens[g]? = some gs)
    (hgo : GoesC prog w A R Y n gs r (s.setGen g .running))
    (hR : ∀ x s₁, R n (s.setGen g .running) x s₁ → wpC prog w A (k (End.ret x).result) Q E (s₁.setGen g .finished))
    (hY : ∀ v s₁ gs', gs'.bare = true → Y (n - 1) (s.setGen g .running) v s₁ (fun r' s'' => match n with | 0 => False | m + 1 => GoesC prog w A R Y m gs' r' s'') →
      wpC prog w A (k (.yielded v)) Q E (s₁.setGen g gs')) :
    wpC prog w A (.resume g r l k) Q E s := by
  intro Γ p hΓ
  rw [Sem.wp_resume]
  have hB : ∀ c, (Γ.wake c p).Woken A := fun c => hΓ.1.wake c p
  have hK : ∀ c, cleanB (Γ.wake c p) := fun c x hx => by
    rcases List.mem_cons.mp hx with rfl | hx
    · exact hΓ.2.2
    · exact hΓ.2.1 x hx
  have fin : ∀ e₁ s₁, SegEnd R Y n (SegC.next prog w A R Y n) (s.setGen g .running) e₁ s₁ →
      Sem.wp (M1 prog w) Γ (k e₁.result) (fun a _ s' => Q a s') (fun e _ s' => E e s') p (s₁.setGen g e₁.genState) := by
    intro e₁ s₁ he
    cases e₁ with
    | ret x => exact hR x s₁ he Γ p hΓ
    | susp v g₀ l₀ k₀ c₀ p₀ fs₀ =>
      refine hY v s₁ _ (End.bare_of_quiet he.1) ?_ Γ p hΓ
      cases n with
      | zero => exact he.2
      | succ m => exact he.2
  have hqt : ∀ e₁ s₁, SegEnd R Y n (SegC.next prog w A R Y n) (s.setGen g .running) e₁ s₁ → e₁.quiet = true := by
    intro e₁ s₁ he
    cases e₁ with
    | ret x => rfl
    | susp v g₀ l₀ k₀ c₀ p₀ fs₀ => exact he.1
  cases gs with
  | fresh c =>
    obtain ⟨rfl, hs⟩ := hgo
    obtain ⟨e₁, s₁, hr, he⟩ := segC_iff.mp hs (Γ.wake c p) p rfl (hB c) (hK c)
    exact ⟨_, _, by unfold Wakes; rw [hg]; exact ⟨e₁, s₁, hr, hqt e₁ s₁ he, rfl, rfl⟩, fin e₁ s₁ he⟩
  | suspended k₀ l₀ c₀ p₀ fs₀ cl =>
    obtain ⟨e₁, s₁, hr, he⟩ := segC_iff.mp hgo (Γ.wake c₀ p) p₀ rfl (hB c₀) (hK c₀)
    exact ⟨_, _, by unfold Wakes; rw [hg]; exact ⟨e₁, s₁, hr, hqt e₁ s₁ he, rfl, rfl⟩, fin e₁ s₁ he⟩
  | running => exact hgo.elim
  | finished => exact hgo.elim
end seg
end Mine
end

section
open PySem PySem.W PySem.Calls PyProof.Rows
set_option Elab.async false
set_option linter.unusedVariables false
set_option maxRecDepth 100000
namespace Mine

section special
variable {prog : Program} {w : World} {A : Around} {E : Value → Shared → Prop} {s : Shared}

theorem callSpecialC {self : Value} {T : String} {name : Str} {id : String} {args : List Value} {kw : List (Str × Value)}
    {Q : Option Value → Shared → Prop} (hT : s.TypeIs self T) (h : Slot T name id)
    (hc : wpC prog w A (PySem.call (.builtin id) (self :: args) kw) (fun v => Q (some v)) E s) : wpC prog w A (callSpecial? self name args kw) Q E s := by
  simp only [callSpecial?]
  refine wpK_bind (wpC_of (wpAny_specialOf hT h.lookup ?_))
  simp only [h.bind]
  exact wpK_holding (wpK_bind (wpK_pure (wpK_bind (wpK_mono hc (fun v s' h' => wpK_pure h') fun _ _ h' => h'))))

theorem call_entryC {T : String} {name : Str}
    {id : String} {b : Builtin} {self : Value} {rest : List Value} {Q : Value → Shared → Prop} (h : Slot T name id) (hT : s.TypeIs self T)
    (hb : entryFor table id = some b) (hask : isAsk (.builtin id ⟨self :: rest, []⟩) = false) (hci : isCI (.builtin id ⟨self :: rest, []⟩) = false)
    (hc : wpC prog w A.in1 (b ⟨self :: rest, []⟩) (fun fin s' => ∃ v, fin = .done (.ret v) ∧ Q v s') E s)
    (ha : argsOk id ⟨self :: rest, []⟩ := by rfl) :
    wpC prog w A (PySem.call (.builtin id) (self :: rest)) Q E s := by
  refine wpC_call (codeC_call_builtin hask hci h.plain hb (wpC_of (h.check _ _ _ _ _ _ _ _ hT ha (wpK_mono hc (fun fin s' h' => ?_) fun _ _ h' => h'))))
  obtain ⟨v, rfl, hv⟩ := h'; exact hv

theorem pyNext_genC {a : Addr} {g n : Nat} {gs : GenState} {P : Nat → Shared → Shared → Prop} {Y : Protocol} {Q : Option Value → Shared → Prop} (hh : A.handled = none)
    (hl : s.heap.NoLimit) (hroom : A.depth < recursionLimit)
    (hg : s.heap.IsGen a g) (hgs : s.gens[g]? = some gs)
    (hgo : GoesC prog w A.in1 (fun n s₀ r s₁ => r = .ok (.ret .none) ∧ P n s₀ s₁) Y n gs (.send .none) (s.setGen g .running))
    (hY : ∀ v s₁ gs', gs'.bare = true → Y (n - 1) (s.setGen g .running) v s₁ (fun r' s'' => match n with
        | 0 => False
        | m + 1 => GoesC prog w A.in1 (fun n s₀ r s₁ => r = .ok (.ret .none) ∧ P n s₀ s₁) Y m gs' r' s'') → Q (some v) (s₁.setGen g gs'))
    (hP : ∀ s₁, P n (s.setGen g .running) s₁ → ∀ h', (∀ b o, s₁.heap.get? b = some o → h'.get? b = some o) → Q none { s₁.setGen g .finished with heap := h' }) :
    wpC prog w A (pyNext (.ref a)) Q E s := by
  unfold pyNext
  refine wpK_bind (wpK_attempt (callSpecialC (name := Str.ofString "__next__") hg.typeIs slot_gen_next
    (call_entryC slot_gen_next hg.typeIs entry_gen_next rfl rfl ?_ (args_gen_next _))))
  show wpC prog w A.in1 (Builtin.Generator.genWake (.ref a) (.send .none)) _ _ s
  unfold Builtin.Generator.genWake
  refine wpK_bind (wpK_holding (wpC_of (wpAny_genNumber hg ?_)))
  refine wpK_bind (wpC_of (wpAny_genState hgs ?_))
  cases gs with
  | running => exact hgo.elim
  | finished => exact hgo.elim
  | _ =>
    refine wpK_bind (wpC_of (wpAny_roomToWake hl hroom ?_))
    show wpC prog w A.in1 (.resume g (.send .none) [] _) _ _ s
    refine resumeC hgs hgo (fun x s₁ hx => ?_) (fun v s₁ gs' hb hv => ?_)
    · obtain ⟨rfl, hp⟩ := hx
      refine wpC_of ?_
      show wpAny _ A.in1 (newExc (.type "StopIteration") [] >>= _) _ _ _
      refine wpAny_bind ?_
      simp only [newExc, newTuple]
      refine wpAny_bind (wpAny_newObj_type ?_ (by size_fits))
      refine wpAny_bind (m := firstArgMember _ _) (wpAny_of_eq (a := Value.none) (by first | rfl | (simp only [firstArgMember]; rfl)) ?_)
      refine wpAny_newObj_type ?_ (by size_fits)
      simp only [raiseNew]
      refine wpAny_bind (wpAny_bind (wpAny_handled ?_))
      first | rw [show A.in1.handled = none from hh] | rw [hh]
      refine wpAny_throw ?_
      refine wpK_bind (wpC_of (wpAny_isInstance (T := "StopIteration") (b := true) ⟨_, Heap.get?_push_size _ rfl, rfl⟩ isSubtype_stop ?_))
      exact wpK_pure (hP s₁ hp _ fun b o hb => Heap.get?_push_of_some _ (Heap.get?_push_of_some _ hb))
    · exact wpK_pure ⟨v, rfl, wpK_pure (hY v s₁ gs' hb hv)⟩
end special

section list
variable {prog : Program} {w : World} {A : Around} {E : Value → Shared → Prop} {s : Shared} {R : Result → Shared → Prop}

/-- the loop of `list.extend` over an iterator: the turns -/
theorem extendC {S I : Addr} {res : Value} (St : Nat → Array Value → Shared → Prop)
    (item : ∀ n acc s, St n acc s → wpC prog w A.in1 (pyNext (.ref I)) (fun r s' => match r with
      | none => R (.ok (.ret res)) s'
      | some v => ∃ c m, m < n ∧ s'.heap.get? S = some { cls := .type "list", data := .seq acc c } ∧ acc.size + 1 ≤ 1000 ∧
          St m (acc.push v) { s' with heap := s'.heap.update S (Obj.mapSeq (·.push v)) }) (fun _ _ => False) s)
    (n : Nat) : ∀ (acc : Array Value) (s : Shared), St n acc s → codeC prog w A (.builtin "list.extend.loop" ⟨[.ref S, .ref I, res], []⟩) R s := by
  induction n using Nat.strongRecOn with
  | ind n ih =>
    intro acc s hst
    refine codeC_builtin rfl rfl F.entry_extend_loop ?_
    rw [Around.under_plainId F.plain_extend_loop _]
    show wpC prog w A.in1 (pyNext (.ref I) >>= _) _ _ s
    refine wpK_bind (wpK_mono (item n acc s hst) (fun r s' h' => ?_) fun _ _ x => x.elim)
    cases r with
    | none => exact wpK_pure h'
    | some v =>
      obtain ⟨c, m, hm, hS, hsz, hst'⟩ := h'
      show wpC prog w A.in1 (updateSeq S (·.push v) >>= _) _ _ _
      have hsl : acc.size + 1 ≤ sizeLine := Nat.le_trans hsz (by size_fits)
      refine wpK_bind (wpC_of (wpAny_updateSeq hS rfl ?_ (by omega) (by show (acc.push v).size ≤ sizeLine + 1; rw [Array.size_push]; omega)))
      exact wpK_pure (And.intro (plainId_quiet F.plain_extend_loop _) (ih m hm _ _ hst'))

/-- `list.__init__` of a fresh list over a generator -/
theorem list_initC {S I : Addr} {g : Nat} (hI : s.heap.IsGen I g) (hSI : S ≠ I)
    (hS : s.heap.get? S = some { cls := .type "list", data := .seq #[] })
    (h : ∀ h' c, (∀ b o, b ≠ S → s.heap.get? b = some o → h'.get? b = some o) → h'.objs.size = s.heap.objs.size → h'.get? S = some { cls := .type "list", data := .seq #[] c } →
      codeC prog w A (.builtin "list.extend.loop" ⟨[.ref S, .ref I, .none], []⟩) R { s with heap := h' }) :
    wpC prog w A.in1 (Builtin.«list.__init__» ⟨[.ref S, .ref I], []⟩) (finC prog w A R) (fun e s' => R (.error e) s') s := by
  show wpC prog w A.in1 (do let old ← Builtin.List.listItems (.ref S); Builtin.List.listUpdate (.ref S) (fun _ => #[]); letGo old.toList.reverse; Builtin.List.listExtendWith (.ref S) (.ref I) .none) _ _ s
  refine wpK_bind ?_
  unfold Builtin.List.listItems
  refine wpC_of (wpAny_bind (wpAny_seqItems hS rfl (wpAny_pure ?_)))
  show wpC prog w A.in1 (updateSeq S (fun _ => #[]) >>= fun _ => letGo (#[] : Array Value).toList.reverse >>= fun _ => Builtin.List.listExtendWith (.ref S) (.ref I) .none) _ _ s
  refine wpK_bind (wpC_of (wpAny_updateSeq hS rfl ?_))
  have hS₁ := Heap.get?_update_self (Obj.mapSeq (fun _ => (#[] : Array Value))) hS rfl
  have oth : ∀ b o, b ≠ S → s.heap.get? b = some o → (s.heap.update S (Obj.mapSeq (fun _ => (#[] : Array Value)))).get? b = some o :=
    fun b o hb e => (Heap.get?_update_other _ _ (Ne.symm hb)).trans e
  refine wpK_bind (wpC_of (wpAny_letGo ?_))
  have hIn : (s.heap.update S (Obj.mapSeq (fun _ => (#[] : Array Value)))).IsGen I g := by
    obtain ⟨o, nm, qn, ho, r⟩ := hI
    exact ⟨o, nm, qn, oth I o (Ne.symm hSI) ho, r⟩
  unfold Builtin.List.listExtendWith
  refine wpK_bind (wpC_of (wpAny_typeOf hIn.typeIs ?_))
  have h1 : Builtin.List.listSameRef (.ref S) (.ref I) = false := by simp [Builtin.List.listSameRef, hSI]
  have h2 : (Value.type "generator" == Value.type "list") = false := by decide
  have h3 : (Value.type "generator" == Value.type "tuple") = false := by decide
  simp only [h1, h2, h3, Bool.or_false, Bool.false_eq_true, if_false]
  refine wpK_bind (wpC_emb (wpAny_pyIter_gen hIn ?_))
  refine wpK_bind (wpK_holding ?_)
  unfold Builtin.List.listLengthHint
  refine wpC_of (wpAny_bind (wpAny_specialOf hIn.typeIs F.gen_no_len ?_))
  show wpAny _ A.in1 (specialOf (Value.ref I) (Str.ofString "__length_hint__") >>= _) _ _ _
  refine wpAny_bind (wpAny_specialOf hIn.typeIs F.gen_no_hint ?_)
  refine wpAny_pure ?_
  show wpC prog w A.in1 (rule "list.extend.makes-room" >>= fun _ => Builtin.List.listTouch (.ref S) >>= fun _ =>
    again (.builtin "list.extend.loop" ⟨[.ref S, .ref I, .none], []⟩)) _ _ _
  refine wpK_bind (wpK_rule ?_)
  refine wpK_bind ?_
  show wpC prog w A.in1 (updateSeq S (·.push .none) >>= fun _ => updateSeq S (·.pop)) _ _ _
  refine wpC_of (wpAny_bind (wpAny_updateSeq hS₁ rfl ?_))
  have hS₂ := Heap.get?_update_self (Obj.mapSeq (·.push Value.none)) hS₁ rfl
  refine wpAny_updateSeq (hz := by seq_fits) hS₂ rfl ?_
  have hS₃ := Heap.get?_update_self (Obj.mapSeq (·.pop)) hS₂ rfl
  refine wpK_pure (And.intro (plainId_quiet F.plain_extend_loop _) (h _ _ (fun b o hb e => ?_) ?_ hS₃))
  · exact (Heap.get?_update_other _ _ (Ne.symm hb)).trans ((Heap.get?_update_other _ _ (Ne.symm hb)).trans (oth b o hb e))
  · simp only [Heap.size_after_update]
end list
end Mine
end

section
open PySem PySem.W PySem.Calls PyProof.Rows
set_option Elab.async false
set_option linter.unusedVariables false
set_option maxRecDepth 100000
namespace Mine
section list
variable {prog : Program} {w : World} {A : Around} {E : Value → Shared → Prop} {s : Shared} {R : Result → Shared → Prop}

theorem call_listC {I : Addr} {g : Nat} {Q : Value → Shared → Prop} (hI : s.heap.IsGen I g)
    (h : ∀ (h' : Heap) c, (∀ b o, s.heap.get? b = some o → h'.get? b = some o) → h'.objs.size = s.heap.objs.size + 1 → h'.get? s.heap.objs.size = some { cls := .type "list", data := .seq #[] c } →
      codeC prog w A.in1 (.builtin "list.extend.loop" ⟨[.ref s.heap.objs.size, .ref I, .none], []⟩) (fun r s' => r = .ok (.ret .none) ∧ Q (.ref s.heap.objs.size) s') { s with heap := h' }) :
    wpC prog w A (PySem.call (.type "list") [.ref I]) Q E s := by
  obtain ⟨c, tl, hmro⟩ := F.called_list.mro
  have hmade := F.called_list.made
  have hsub := F.called_list.sub
  have h1 := F.called_list.notType
  have h2 := F.called_list.canCreate
  have hct := F.typeCall_list_1 (.ref I)
  refine wpC_call (codeC_tree rfl rfl ?_)
  show wpC prog w _ (callAny (.type "list") _) _ _ _
  refine wpK_pure (And.intro (Code.quiet_builtin _ (by decide +kernel)) (codeC_builtin rfl rfl F.entry_type_call ?_))
  rw [Around.under_plain (weight_type_call_type "list" [.ref I] []) rfl]
  unfold Builtin.«type.__call__»
  dsimp only
  simp only [h1, Bool.false_eq_true, if_false]
  rw [if_neg (by rw [h2]; exact Bool.false_ne_true)]
  refine wpK_bind (wpK_of_eq hct (wpK_pure ?_))
  refine wpK_bind (wpK_of_eq hmro (wpK_pure ?_))
  rw [if_neg (by exact Bool.false_ne_true)]
  refine wpK_bind (wpK_of_eq hmade (wpK_pure ?_))
  dsimp only
  refine wpK_bind (wpK_pure (wpK_bind (wpK_holding (wpC_emb (wpAny_call ?_)))))
  refine code_list_new _ ?_
  have hS : (s.heap.push { cls := .type "list", data := .seq #[] }).get? s.heap.objs.size = some { cls := .type "list", data := .seq #[] } := Heap.get?_push_size _ rfl
  refine wpK_bind (wpC_of (wpAny_isInstance (T := "list") (b := true) ⟨_, hS, rfl⟩ hsub ?_))
  rw [if_neg (by exact Bool.false_ne_true)]
  have hI' : (s.heap.push { cls := .type "list", data := .seq #[] }).IsGen I g := by
    obtain ⟨o, nm, qn, ho, r⟩ := hI
    exact ⟨o, nm, qn, Heap.get?_push_of_some _ ho, r⟩
  have hlt : I < s.heap.objs.size := by obtain ⟨o, nm, qn, ho, r⟩ := hI; exact Heap.lt_size ho
  refine wpK_bind (wpK_holding (callSpecialC (T := "list") ⟨_, hS, rfl⟩ F.called_list.init (wpC_call (codeC_call_builtin rfl rfl F.called_list.init.plain F.entry_list_init
    (wpC_of (F.called_list.init.check _ _ _ _ _ _ _ _ ⟨_, hS, rfl⟩ (F.args_list_init_2 _ _) (list_initC (g := g) hI' (Nat.ne_of_gt hlt) hS fun h' c hk hsz hS' => ?_)))))))
  refine codeC_mono (h h' c (fun b o e => hk b o (Nat.ne_of_lt (Heap.lt_size e)) (Heap.get?_push_of_some _ e)) (by rw [hsz]; exact Heap.size_push ..) hS') fun r s' hr => ?_
  obtain ⟨rfl, hq⟩ := hr
  dsimp only
  rw [if_neg (by decide)]
  exact wpK_pure hq
end list
end Mine
end

section
open PySem PySem.W PySem.Calls PyProof.Rows
set_option Elab.async false
set_option linter.unusedVariables false
set_option maxRecDepth 100000
namespace Mine
open PySem.Sre (M)

theorem Steps.split {b : Nat} : ∀ (a : Nat) {m m' : M}, Steps (a + b) m m' → ∃ m₁, Steps a m m₁ ∧ Steps b m₁ m' := by
  intro a
  induction a with
  | zero => intro m m' h; rw [Nat.zero_add] at h; exact ⟨m, .zero m, h⟩
  | succ a ih =>
    intro m m' h
    rw [Nat.add_right_comm] at h
    cases h with
    | succ h0 h1 =>
      obtain ⟨m₁, x, y⟩ := ih h1
      exact ⟨m₁, .succ h0 x, y⟩

theorem runFor_over {m : M} (h : m.outcome.isSome = true) (k : Nat) : m.runFor k = m := by
  cases k with
  | zero => rfl
  | succ k => unfold M.runFor; rw [if_pos h]

section run
variable {MM : Model} {A : Around} {E : Value → Shared → Prop} {s : Shared}

theorem drive_ok {m' : M} (ho : m'.outcome.isSome = true) {Q : M → Shared → Prop} (hQ : Q m' s) : ∀ (turns n : Nat) (m : M), Steps n m m' → n < 4 * turns → wpAny MM A (Builtin.Re.reDrive turns m) Q E s := by
  intro turns
  induction turns with
  | zero => intro n m _ hn; omega
  | succ turns ih =>
    intro n m h hn
    unfold Builtin.Re.reDrive
    by_cases h4 : n ≤ 4
    · have e : m.runFor Builtin.Re.reTurnSteps = m' := by
        show m.runFor 4 = m'
        have := h.runFor (4 - n)
        rw [Nat.add_sub_cancel' h4, runFor_over ho] at this
        exact this
      rw [e]
      dsimp only
      rw [if_pos ho]
      exact wpAny_pure hQ
    · obtain ⟨k, rfl⟩ : ∃ k, n = 4 + (k + 1) := ⟨n - 5, by omega⟩
      obtain ⟨m₁, x, y⟩ := Steps.split 4 h
      have e : m.runFor Builtin.Re.reTurnSteps = m₁ := x.runFor 0
      have o1 : m₁.outcome = none := by cases y with | succ h0 _ => exact h0
      rw [e]
      dsimp only
      rw [if_neg (by rw [o1]; exact Bool.false_ne_true)]
      exact wpAny_bind (wpAny_rule (ih (k + 1) m₁ y (by omega)))

theorem reRun_names {m : M} {Q : PUnit → Shared → Prop} (hQ : Q ⟨⟩ s) : wpAny MM A (forIn (List.range Sre.names.size) PUnit.unit fun i _ => do
    if m.seen.has i then do rule (Sre.names.getD i ""); pure (ForInStep.yield PUnit.unit) else pure (ForInStep.yield PUnit.unit)) Q E s := by
  refine wpAny_forIn_list _ (fun _ _ s' => Q ⟨⟩ s') Q (fun x rest b s' h => ?_) (fun b s' h => h) _ _ hQ
  split
  · exact wpAny_bind (wpAny_rule (wpAny_pure h))
  · exact wpAny_pure h

theorem reRun_some {m : M} {P : M → Prop} {b : Nat} (h : Reach b m P) (hb : b ≤ 10 ^ 15) (hP : ∀ m', P m' → m'.outcome = some .matched) {Q : Option M → Shared → Prop} (hQ : ∀ m', P m' → Q (some m') s) :
    wpAny MM A (Builtin.Re.reRunToEnd m) Q E s := by
  obtain ⟨n, m', hn, hs, hp⟩ := h
  have ho := hP m' hp
  unfold Builtin.Re.reRunToEnd
  refine wpAny_bind (drive_ok (by rw [ho]; rfl) ?_ _ n m hs (by omega))
  refine wpAny_bind ?_
  refine wpAny_mono (reRun_names (m := m') (Q := fun _ s' => wpAny MM A _ Q E s') ?_) (fun _ _ x => x) fun _ _ x => x
  rw [ho]
  exact wpAny_pure (hQ m' hp)

theorem reRun_none {m : M} {b : Nat} (h : Reach b m (fun m => m.outcome = some .failed)) (hb : b ≤ 10 ^ 15) {Q : Option M → Shared → Prop} (hQ : Q none s) :
    wpAny MM A (Builtin.Re.reRunToEnd m) Q E s := by
  obtain ⟨n, m', hn, hs, ho⟩ := h
  unfold Builtin.Re.reRunToEnd
  refine wpAny_bind (drive_ok (by rw [ho]; rfl) ?_ _ n m hs (by omega))
  refine wpAny_bind ?_
  refine wpAny_mono (reRun_names (m := m') (Q := fun _ s' => wpAny MM A _ Q E s') ?_) (fun _ _ x => x) fun _ _ x => x
  rw [ho]
  exact wpAny_pure hQ
end run
end Mine
end

section
open PySem PySem.W PySem.Calls PyProof.Rows
set_option Elab.async false
set_option linter.unusedVariables false
set_option maxRecDepth 100000
namespace Mine
open PySem.Sre (M)

/-- the pattern and its code, as the heap holds them -/
structure PatAt (h : Heap) (pa ca : Addr) (cd : Array Nat) : Prop where
  pat : ∃ v0 v1 v3 v4, h.get? pa = some { cls := .type "re.Pattern", data := .fields #[v0, v1, .int 2 0, v3, v4, .ref ca, .int 0 0] }
  code : ∃ o vs n, h.get? ca = some o ∧ o.data = .seq vs n ∧ (vs.map Builtin.Re.reRawOf).map (·.toNat) = cd

abbrev scObj (pa : Addr) (T : Str) (t : Tok) (p lim : Nat) : Obj := { cls := .type "_sre.SRE_Scanner", data := .fields #[.ref pa, .str T t, rawInt p, rawInt 0, rawInt lim, .bool false] }
abbrev endObj (pa : Addr) (T : Str) (t : Tok) (lim : Nat) : Obj := { cls := .type "_sre.SRE_Scanner", data := .fields #[.ref pa, .str T t, rawInt (-1), rawInt 0, rawInt lim, .bool false] }
abbrev spanObj (s q e1 e2 : Nat) : Obj := { cls := .type "tuple", data := .seq #[rawInt s, rawInt e2, rawInt s, rawInt q, rawInt e1, rawInt e2] }
abbrev matchObj (pa : Addr) (T : Str) (t : Tok) (lim : Nat) (ta : Addr) : Obj := { cls := .type "re.Match", data := .fields #[.str T t, .ref pa, rawInt 0, rawInt lim, rawInt 2, .ref ta] }

section scan
variable {prog : Program} {w : World} {A : Around} {E : Value → Shared → Prop} {s : Shared}

theorem whole_ok {MM : Model} {pa ca : Addr} {cd : Array Nat} {T : Str} {t : Tok} {Q : Builtin.Re.ReTarget → Shared → Prop} (P : PatAt s.heap pa ca cd)
    (hQ : Q { pattern := .ref pa, string := .str T t, code := cd, text := T.cps, kind := 0, groups := 2, pos := 0, lim := T.cps.size } s) :
    wpAny MM A (Builtin.Re.reWholeTarget (.ref pa) (.str T t)) Q E s := by
  obtain ⟨o, vs, n, hc, hcd, hcode⟩ := P.code
  obtain ⟨v0, v1, v3, v4, hp⟩ := P.pat
  unfold Builtin.Re.reWholeTarget
  refine wpAny_bind (wpAny_fieldsOf hp rfl ?_)
  refine wpAny_bind ?_
  unfold Builtin.Re.reTextOf
  refine wpAny_bind (m := asStr? (.str T t)) (wpAny_pure ?_)
  dsimp only
  refine wpAny_pure ?_
  dsimp only
  rw [if_neg (by show ¬ ((_ : Nat) == 0 && false) = true; rw [Bool.and_false]; exact Bool.false_ne_true)]
  rw [if_neg (by show ¬ ((0 : Nat) == 1 && true) = true; decide)]
  unfold Builtin.Re.reNoCollectionInside
  rw [if_neg (by decide)]
  refine wpAny_bind (wpAny_pure ?_)
  refine wpAny_bind ?_
  show wpAny MM A (Builtin.Re.reRawItems (.ref ca)) _ E s
  unfold Builtin.Re.reRawItems
  refine wpAny_bind (wpAny_seqItems hc hcd ?_)
  refine wpAny_pure ?_
  refine wpAny_pure ?_
  show Q { pattern := .ref pa, string := .str T t, code := (vs.map Builtin.Re.reRawOf).map (·.toNat), text := T.cps, kind := 0, groups := 2, pos := 0, lim := T.cps.size } s
  rw [hcode]; exact hQ

theorem raw_nat (n : Nat) : Builtin.Re.reRawNat (rawInt n) = n := rfl
theorem raw_of (n : Nat) : Builtin.Re.reRawOf (rawInt n) = n := rfl

theorem scan_start {pa ca : Addr} {cd : Array Nat} {T : Str} {t : Tok} {SC : Addr} {start lim : Nat} {Q : Fin → Shared → Prop} (P : PatAt s.heap pa ca cd) (hS : s.heap.get? SC = some (scObj pa T t start lim))
    (h : wpAny (M1 prog w) A (do match ← Builtin.Re.reRunToEnd (Sre.forSearch cd T.cps 2 start lim false) with
      | none => setField (.ref SC) 2 (rawInt (-1)); ret .none
      | some m =>
        setField (.ref SC) 2 (rawInt m.handed)
        setField (.ref SC) 5 (.bool (m.handed == m.start))
        ret (← Builtin.Re.reNewMatch (.ref pa) (.str T t) 2 0 lim m)) Q E s) :
    wpAny (M1 prog w) A (Builtin.«_sre.SRE_Scanner.search» ⟨[.ref SC], []⟩) Q E s := by
  show wpAny (M1 prog w) A (Builtin.Re.reScan "search" true ⟨[.ref SC], []⟩) Q E s
  unfold Builtin.Re.reScan
  dsimp only
  rw [if_neg (by decide)]
  refine wpAny_bind (wpAny_fieldsOf hS rfl ?_)
  rw [if_neg (by show ¬ ((start : Int) < 0); omega)]
  unfold noCollectionInside
  refine wpAny_bind (wpAny_bind (ask_ok ?_))
  rw [if_neg (by decide)]
  refine wpAny_pure ?_
  refine wpAny_bind (whole_ok P ?_)
  exact h

theorem getD_of {mk : Array (Option Nat)} {i : Nat} {x : Option Nat} (h : mk[i]? = some x) : mk.getD i none = x := by
  rw [Array.getD_eq_getD_getElem?, h]; rfl

theorem newMatch_eq {m : M} {pat str : Value} {pos lim a q e1 e2 : Nat} (h0 : m.marks[0]? = some (some a)) (h1 : m.marks[1]? = some (some q)) (h2 : m.marks[2]? = some (some e1)) (h3 : m.marks[3]? = some (some e2))
    (hl : m.lastmark = 3) (hi : m.lastindex = 2) (hs : m.start = a) (hh : m.handed = e2) (l1 : a ≤ q) (l2 : e1 ≤ e2) :
    Builtin.Re.reNewMatch pat str 2 pos lim m = (do newFields "re.Match" [str, pat, rawInt pos, rawInt lim, rawInt 2, ← newTuple [rawInt a, rawInt e2, rawInt a, rawInt q, rawInt e1, rawInt e2]]) := by
  have r : List.range 2 = [0, 1] := rfl
  have d1 : decide (q < a) = false := decide_eq_false (by omega)
  have d2 : decide (e2 < e1) = false := decide_eq_false (by omega)
  unfold Builtin.Re.reNewMatch
  simp [r, h0, h1, h2, h3, hl, hi, hs, hh, Nat.not_lt.mpr l1, Nat.not_lt.mpr l2]

theorem search_found1 {pa ca : Addr} {cd : Array Nat} {T : Str} {t : Tok} {SC : Addr} {start a q e1 e2 : Nat} {Q : Fin → Shared → Prop} (P : PatAt s.heap pa ca cd) (hS : s.heap.get? SC = some (scObj pa T t start T.cps.size))
    (hr : Reach (10 ^ 15) (Sre.forSearch cd T.cps 2 start T.cps.size false) (fun m => ∃ ls, Found cd T.cps ls a q e1 e2 m)) (h1 : a ≤ q) (h2 : q ≤ e1) (h3 : e1 ≤ e2) (h4 : a < e2)
    (hQ : ∀ h' : Heap, (∀ b o, b ≠ SC → s.heap.get? b = some o → h'.get? b = some o) → h'.objs.size = s.heap.objs.size + 2 → h'.get? SC = some (scObj pa T t e2 T.cps.size) →
      h'.get? s.heap.objs.size = some (spanObj a q e1 e2) → h'.get? (s.heap.objs.size + 1) = some (matchObj pa T t T.cps.size s.heap.objs.size) → Q (.done (.ret (.ref (s.heap.objs.size + 1)))) { s with heap := h' }) :
    wpAny (M1 prog w) A (Builtin.«_sre.SRE_Scanner.search» ⟨[.ref SC], []⟩) Q E s := by
  refine scan_start P hS ?_
  refine wpAny_bind (reRun_some hr (Nat.le_refl _) (fun m' ⟨ls, o, mk, sn, e, _⟩ => by rw [e]) fun m' hm => ?_)
  obtain ⟨ls, o, mk, sn, rfl, hz, m0, m1, m2, m3⟩ := hm
  dsimp only
  refine wpAny_bind (wpAny_setField hS rfl (by show 2 < 6; decide) ?_)
  have hS1 := Heap.get?_update_self (Obj.mapFields (·.setIfInBounds 2 (rawInt e2))) hS rfl
  refine wpAny_bind (wpAny_setField hS1 rfl (by show 5 < 6; decide) ?_)
  have hS2 := Heap.get?_update_self (Obj.mapFields (·.setIfInBounds 5 (.bool (e2 == a)))) hS1 rfl
  rw [newMatch_eq m0 m1 m2 m3 rfl rfl rfl rfl h1 h3]
  dsimp only
  refine wpAny_bind (wpAny_bind (wpAny_newObj_type ?_ (by size_fits)))
  refine wpAny_newObj_type ?_ (by size_fits)
  refine wpAny_pure ?_
  have hea : (e2 == a) = false := by rw [beq_eq_false_iff_ne]; omega
  have sz : ∀ (h : Heap) f, (h.update SC f).objs.size = h.objs.size := fun h f => Heap.size_after_update ..
  generalize hH : ((s.heap.update SC (Obj.mapFields fun x => x.setIfInBounds 2 (rawInt e2))).update SC (Obj.mapFields fun x => x.setIfInBounds 5 (Value.bool (e2 == a)))) = H at hS2
  have zH : H.objs.size = s.heap.objs.size := by rw [← hH, sz, sz]
  have kH : ∀ b o, b ≠ SC → s.heap.get? b = some o → H.get? b = some o := fun b o hb e => by
    rw [← hH]; exact (Heap.get?_update_other _ _ (Ne.symm hb)).trans ((Heap.get?_update_other _ _ (Ne.symm hb)).trans e)
  have hS3 : H.get? SC = some (scObj pa T t e2 T.cps.size) := by rw [hS2, hea]; rfl
  have key := hQ ((H.push (spanObj a q e1 e2)).push (matchObj pa T t T.cps.size H.objs.size)) (fun b o hb e => Heap.get?_push_of_some _ (Heap.get?_push_of_some _ (kH b o hb e)))
    (by rw [Heap.size_push, Heap.size_push, zH]) (Heap.get?_push_of_some _ (Heap.get?_push_of_some _ hS3))
    (by rw [← zH]; exact Heap.get?_push_of_some _ (Heap.get?_push_size _ rfl)) (by rw [← zH, ← Heap.size_push H (spanObj a q e1 e2)]; exact Heap.get?_push_size _ rfl)
  have e1' : (H.push (spanObj a q e1 e2)).objs.size = s.heap.objs.size + 1 := by rw [Heap.size_push, zH]
  rw [← e1', ← hH] at key
  exact key

theorem search_none1 {pa ca : Addr} {cd : Array Nat} {T : Str} {t : Tok} {SC : Addr} {start : Nat} {Q : Fin → Shared → Prop} (P : PatAt s.heap pa ca cd) (hS : s.heap.get? SC = some (scObj pa T t start T.cps.size))
    (hr : Reach (10 ^ 15) (Sre.forSearch cd T.cps 2 start T.cps.size false) (fun m => m.outcome = some .failed))
    (hQ : ∀ h' : Heap, (∀ b o, b ≠ SC → s.heap.get? b = some o → h'.get? b = some o) → h'.objs.size = s.heap.objs.size → h'.get? SC = some (endObj pa T t T.cps.size) → Q (.done (.ret .none)) { s with heap := h' }) :
    wpAny (M1 prog w) A (Builtin.«_sre.SRE_Scanner.search» ⟨[.ref SC], []⟩) Q E s := by
  refine scan_start P hS ?_
  refine wpAny_bind (reRun_none hr (Nat.le_refl _) ?_)
  dsimp only
  refine wpAny_bind (wpAny_setField hS rfl (by show 2 < 6; decide) ?_)
  have hS1 := Heap.get?_update_self (Obj.mapFields (·.setIfInBounds 2 (rawInt (-1)))) hS rfl
  exact wpAny_pure (hQ _ (fun b o hb e => (Heap.get?_update_other _ _ (Ne.symm hb)).trans e) (Heap.size_after_update ..) hS1)
end scan
end Mine
end

section
open PySem PySem.W PySem.Calls PyProof.Rows
set_option Elab.async false
set_option linter.unusedVariables false
set_option maxRecDepth 100000
namespace Mine

theorem slot_ci_next : Slot "callable_iterator" "__next__" "callable_iterator.__next__" :=
  .of (owner := "callable_iterator") (n := "__next__") (by rw [typeLookup_type, builtinLookup_eq_fast]; kernel_rfl) (by decide +kernel) (by decide +kernel) (by decide +kernel)
    (by first | exact .inl (by decide +kernel) | exact .inr (by decide +kernel)) (by rw [isSubtype_type]; kernel_rfl)
theorem slot_ci_iter : Slot "callable_iterator" "__iter__" "callable_iterator.__iter__" :=
  .of (owner := "callable_iterator") (n := "__iter__") (by rw [typeLookup_type, builtinLookup_eq_fast]; kernel_rfl) (by decide +kernel) (by decide +kernel) (by decide +kernel)
    (by first | exact .inl (by decide +kernel) | exact .inr (by decide +kernel)) (by rw [isSubtype_type]; kernel_rfl)
theorem slot_finditer : Slot "re.Pattern" "finditer" "re.Pattern.finditer" :=
  .of (owner := "re.Pattern") (n := "finditer") (by rw [typeLookup_type, builtinLookup_eq_fast]; kernel_rfl) (by decide +kernel) (by decide +kernel) (by decide +kernel)
    (by first | exact .inl (by decide +kernel) | exact .inr (by decide +kernel)) (by rw [isSubtype_type]; kernel_rfl)
theorem slot_groups : Slot "re.Match" "groups" "re.Match.groups" :=
  .of (owner := "re.Match") (n := "groups") (by rw [typeLookup_type, builtinLookup_eq_fast]; kernel_rfl) (by decide +kernel) (by decide +kernel) (by decide +kernel)
    (by first | exact .inl (by decide +kernel) | exact .inr (by decide +kernel)) (by rw [isSubtype_type]; kernel_rfl)
theorem slot_start : Slot "re.Match" "start" "re.Match.start" :=
  .of (owner := "re.Match") (n := "start") (by rw [typeLookup_type, builtinLookup_eq_fast]; kernel_rfl) (by decide +kernel) (by decide +kernel) (by decide +kernel)
    (by first | exact .inl (by decide +kernel) | exact .inr (by decide +kernel)) (by rw [isSubtype_type]; kernel_rfl)
theorem slot_search : Slot "_sre.SRE_Scanner" "search" "_sre.SRE_Scanner.search" :=
  .of (owner := "_sre.SRE_Scanner") (n := "search") (by rw [typeLookup_type, builtinLookup_eq_fast]; kernel_rfl) (by decide +kernel) (by decide +kernel) (by decide +kernel)
    (by first | exact .inl (by decide +kernel) | exact .inr (by decide +kernel)) (by rw [isSubtype_type]; kernel_rfl)
theorem entry_ci_next : entryFor table "callable_iterator.__next__" = some Builtin.«callable_iterator.__next__» := entryFor_of_tree (by kernel_rfl)
theorem entry_finditer : entryFor table "re.Pattern.finditer" = some Builtin.«re.Pattern.finditer» := entryFor_of_tree (by kernel_rfl)
theorem entry_groups : entryFor table "re.Match.groups" = some Builtin.«re.Match.groups» := entryFor_of_tree (by kernel_rfl)
theorem entry_start : entryFor table "re.Match.start" = some Builtin.«re.Match.start» := entryFor_of_tree (by kernel_rfl)
theorem entry_search : entryFor table "_sre.SRE_Scanner.search" = some Builtin.«_sre.SRE_Scanner.search» := entryFor_of_tree (by kernel_rfl)
theorem own_ci : Manifest.owners.lookup (String.ofList ['r', 'o', 't', 'a', 'r', 'e', 't', 'i', '_', 'e', 'l', 'b', 'a', 'l', 'l', 'a', 'c'].reverse) = some Manifest.sig_callable_iterator := by kernel_rfl
theorem own_pat : Manifest.owners.lookup (String.ofList ['n', 'r', 'e', 't', 't', 'a', 'P', '.', 'e', 'r'].reverse) = some Manifest.sig_re_Pattern := by kernel_rfl
theorem own_match : Manifest.owners.lookup (String.ofList ['h', 'c', 't', 'a', 'M', '.', 'e', 'r'].reverse) = some Manifest.sig_re_Match := by kernel_rfl
theorem args_ci_next (a : Value) : argsOk "callable_iterator.__next__" ⟨[a], []⟩ := by
  unfold argsOk; rw [signature?_of (id := "callable_iterator.__next__") (n := ['_', '_', 't', 'x', 'e', 'n', '_', '_']) (o := ['r', 'o', 't', 'a', 'r', 'e', 't', 'i', '_', 'e', 'l', 'b', 'a', 'l', 'l', 'a', 'c']) (by kernel_rfl) own_ci]; kernel_rfl
theorem args_finditer (a b : Value) : argsOk "re.Pattern.finditer" ⟨[a, b], []⟩ := by
  unfold argsOk; rw [signature?_of (id := "re.Pattern.finditer") (n := ['r', 'e', 't', 'i', 'd', 'n', 'i', 'f']) (o := ['n', 'r', 'e', 't', 't', 'a', 'P', '.', 'e', 'r']) (by kernel_rfl) own_pat]; kernel_rfl
theorem args_groups (a : Value) : argsOk "re.Match.groups" ⟨[a], []⟩ := by
  unfold argsOk; rw [signature?_of (id := "re.Match.groups") (n := ['s', 'p', 'u', 'o', 'r', 'g']) (o := ['h', 'c', 't', 'a', 'M', '.', 'e', 'r']) (by kernel_rfl) own_match]; kernel_rfl
theorem args_start (a b : Value) : argsOk "re.Match.start" ⟨[a, b], []⟩ := by
  unfold argsOk; rw [signature?_of (id := "re.Match.start") (n := ['t', 'r', 'a', 't', 's']) (o := ['h', 'c', 't', 'a', 'M', '.', 'e', 'r']) (by kernel_rfl) own_match]; kernel_rfl
end Mine
end

section
open PySem PySem.W PySem.Calls PyProof.Rows
set_option Elab.async false
set_option linter.unusedVariables false
set_option maxRecDepth 100000
namespace Mine
open PySem.Sre (M)

theorem entry_ci_iter : entryFor table "callable_iterator.__iter__" = some Builtin.«dict_keyiterator.__iter__» :=
  entryFor_alias (id' := "dict_keyiterator.__iter__") (by rw [fastTable_eq_tree]; kernel_rfl) rfl (by decide +kernel) (by rw [fastTable_eq_tree]; kernel_rfl)
theorem args_ci_iter (a : Value) : argsOk "callable_iterator.__iter__" ⟨[a], []⟩ := by
  unfold argsOk; rw [signature?_of (id := "callable_iterator.__iter__") (n := ['_', '_', 'r', 'e', 't', 'i', '_', '_']) (o := ['r', 'o', 't', 'a', 'r', 'e', 't', 'i', '_', 'e', 'l', 'b', 'a', 'l', 'l', 'a', 'c']) (by kernel_rfl) own_ci]; kernel_rfl
theorem own_sc : Manifest.owners.lookup (String.ofList ['r', 'e', 'n', 'n', 'a', 'c', 'S', '_', 'E', 'R', 'S', '.', 'e', 'r', 's', '_'].reverse) = some Manifest.sig__sre_SRE_Scanner := by kernel_rfl
theorem sig_search : Manifest.signature? "_sre.SRE_Scanner.search" = Manifest.sig__sre_SRE_Scanner.lookup (String.ofList ['h', 'c', 'r', 'a', 'e', 's'].reverse) := signature?_of (by kernel_rfl) own_sc

abbrev bmObj (SC : Addr) : Obj := { cls := .type "builtin_function_or_method", data := .fields #[.builtin "_sre.SRE_Scanner.search", .ref SC] }
abbrev ciObj (BM : Addr) : Obj := { cls := .type "callable_iterator", data := .fields #[.ref BM, .none, .bool false] }

theorem sub_scanner_module : isSubtype (.type "_sre.SRE_Scanner") (.type "module") = pure false := by rw [isSubtype_type]; kernel_rfl
abbrev searchFull : String := s!"{Bind.lastOf "_sre.SRE_Scanner"}.{Bind.lastOf "_sre.SRE_Scanner.search"}"
theorem bound_args (a : Value) : (match Manifest.signature? "_sre.SRE_Scanner.search" with | some sig => Bind.checkArgs "_sre.SRE_Scanner.search" { sig with full := searchFull } ⟨[a], []⟩ | none => pure ()) = pure () := by
  rw [sig_search]; kernel_rfl
theorem bound_search (a : Value) : ∃ sig, Manifest.signature? "_sre.SRE_Scanner.search" = some sig ∧ builtinKind "_sre.SRE_Scanner.search" = some .method ∧ Manifest.varargsMethods.contains "_sre.SRE_Scanner.search" = false ∧
    Bind.checkArgs "_sre.SRE_Scanner.search" { sig with full := searchFull } ⟨[a], []⟩ = pure () := by
  have hsome : (Manifest.signature? "_sre.SRE_Scanner.search").isSome = true := by
    rw [sig_search]; decide +kernel
  obtain ⟨sig, hs⟩ := Option.isSome_iff_exists.mp hsome
  refine ⟨sig, hs, by decide +kernel, by decide +kernel, ?_⟩
  have := bound_args a
  rw [hs] at this
  exact this

section ci
variable {prog : Program} {w : World} {A : Around} {E : Value → Shared → Prop} {s : Shared}

theorem code1_builtin {id : String} {args : Args} {b : Builtin} {R : Result → Shared → Prop} (hask : isAsk (.builtin id args) = false) (hb : entryFor table id = some b) (hp : plainId id = true)
    (h : wpAny (M1 prog w) A.in1 (b args) (fun fin s' => match fin with | .done f => R (.ok f) s' | .again c' => c'.quiet = true ∧ codeAny (M1 prog w) A c' R s') (fun e s' => R (.error e) s') s) :
    codeAny (M1 prog w) A (.builtin id args) R s := by
  refine codeAny_of_tree ?_
  show wpAny _ _ (den1 (.builtin id args)) _ _ s
  rw [den1_of hask, denote_builtin hb, Around.under_plainId hp]
  exact h
theorem search_noask (SC : Addr) : isAsk (.builtin "_sre.SRE_Scanner.search" ⟨[.ref SC], []⟩) = false := by rfl
theorem bound_call {SC BM : Addr} {Q : Value → Shared → Prop} {o : Obj} (hB : s.heap.get? BM = some (bmObj SC)) (hS : s.heap.get? SC = some o) (ho : o.cls = .type "_sre.SRE_Scanner") {vs : Array Value} (hdat : o.data = .fields vs)
    (h : wpAny (M1 prog w) A.in1 (Builtin.«_sre.SRE_Scanner.search» ⟨[.ref SC], []⟩) (fun fin s' => ∃ v, fin = .done (.ret v) ∧ Q v s') E s) :
    wpAny (M1 prog w) A (PySem.call (.ref BM) []) Q E s := by
  obtain ⟨sig, hsig, hkind, hvar, hargs⟩ := bound_search (.ref SC)
  refine wpAny_call (codeAny_of_tree ?_)
  show wpAny _ A.in1 (den1 (.call (.ref BM) ⟨[], []⟩)) _ _ s
  rw [den1_of rfl]
  show wpAny _ A.in1 (callAny (.ref BM) ⟨[], []⟩) _ _ s
  simp only [callAny]
  refine wpAny_bind (wpAny_load hB ?_)
  dsimp only
  rw [if_pos (by decide)]
  rw [show (#[Value.builtin "_sre.SRE_Scanner.search", Value.ref SC] : Array Value)[0]? = some (.builtin "_sre.SRE_Scanner.search") from rfl, show (#[Value.builtin "_sre.SRE_Scanner.search", Value.ref SC] : Array Value)[1]? = some (.ref SC) from rfl]
  dsimp only
  rw [if_pos (by decide)]
  have hTI : s.TypeIs (.ref SC) "_sre.SRE_Scanner" := ⟨o, hS, ho⟩
  have fin : wpAny (M1 prog w) A.in1 (again (Code.builtin "_sre.SRE_Scanner.search" { pos := [.ref SC] })) (fun fin s' =>
      match fin with
      | Fin.done f =>
        match Except.ok f with
        | Except.ok (Flow.ret v) => Q v s'
        | Except.ok a => False
        | Except.error e => E e s'
      | Fin.again c' =>
        c'.quiet = true ∧
          codeAny (M1 prog w) A c'
            (fun r s' =>
              match r with
              | Except.ok (Flow.ret v) => Q v s'
              | Except.ok a => False
              | Except.error e => E e s')
            s') (fun e s' => E e s') s := by
    refine wpAny_pure (And.intro (plainId_quiet slot_search.plain _) (code1_builtin (search_noask SC) entry_search slot_search.plain ?_))
    refine wpAny_mono h (fun fin s' h' => ?_) fun _ _ x => x
    obtain ⟨v, rfl, hv⟩ := h'
    exact hv
  refine wpAny_bind ?_
  unfold checkBoundCall
  rw [hsig, hkind]
  dsimp only
  rw [if_neg (by decide)]
  refine wpAny_bind (wpAny_isInstance hTI sub_scanner_module ?_)
  rw [hvar]
  rw [if_neg (by decide)]
  have hnt : wpAny (M1 prog w) A.in1 (isType (.ref SC)) (fun b s' => b = false ∧ s' = s) E s := by
    unfold isType loadHead
    refine wpAny_bind (wpAny_loadPart hS ?_)
    refine wpAny_pure ?_
    rw [hdat]
    exact ⟨rfl, rfl⟩
  refine wpAny_bind (wpAny_mono hnt (fun b s' hb => ?_) fun _ _ x => x)
  obtain ⟨rfl, rfl⟩ := hb
  rw [if_neg (by decide)]
  refine wpAny_bind (wpAny_typeOf hTI ?_)
  dsimp only
  rw [hargs]
  exact wpAny_pure fin
end ci
end Mine
end

section
open PySem PySem.W PySem.Calls PyProof.Rows
set_option Elab.async false
set_option linter.unusedVariables false
set_option maxRecDepth 100000
namespace Mine
open PySem.Sre (M)

theorem slot_match_eq_refl : Slot "re.Match" (cmpInfo .Eq).2.2 "object.__eq__" :=
  .of (owner := "object") (n := "__eq__") (by rw [typeLookup_type, builtinLookup_eq_fast]; kernel_rfl) (by decide +kernel) (by decide +kernel) (by decide +kernel)
    (by first | exact .inl (by decide +kernel) | exact .inr (by decide +kernel)) (by rw [isSubtype_type]; kernel_rfl)
theorem sub_match_none : isSubtype (.type "re.Match") (.type "NoneType") = pure false := by rw [isSubtype_type]; kernel_rfl

theorem ne_of_cls {h : Heap} {a b : Addr} {o o' : Obj} (h1 : h.get? a = some o) (h2 : h.get? b = some o') (hc : (o.cls == o'.cls) = false) : a ≠ b := fun e => by
  subst e
  rw [h1] at h2
  injection h2 with h2
  subst h2
  simp at hc

section ci
variable {prog : Program} {w : World} {A : Around} {E : Value → Shared → Prop} {s : Shared}

theorem eq_none_match {a : Addr} {o : Obj} (ho : s.heap.get? a = some o) (hc : o.cls = .type "re.Match") (hu : A.units < cLine) {Q : Bool → Shared → Prop} (h : Q false s) :
    wpAny (model prog w) A (eqBool .none (.ref a)) Q E s := by
  unfold eqBool
  refine wpAny_holding ?_
  refine wpAny_ite_split (fun hab => absurd (eq_of_beq hab) nofun) (fun _ => ?_)
  refine wpAny_bind (SeqAt.rc_eq_decline_or (k := false) (Tb := "re.Match") rfl ⟨_, ho, hc⟩ (by decide) sub_match_none F.slot_NoneType_eq slot_match_eq_refl
    (fun _ hq => call_gives F.slot_NoneType_eq rfl F.entry_NoneType_eq (F.args_NoneType_eq_2 _ _) (SeqAt.NoneType___eq___none_ref_0 a) hq)
    (fun _ hq => call_gives slot_match_eq_refl ⟨_, ho, hc⟩ F.entry_object_eq (F.args_object_eq_2 _ _) (TypeEq.object_eq_other rfl rfl) hq)
    (fun _ hq => wpAny_of_eq (rfl : isSame .none (.ref a) = pure false) hq) (.inr hu) (wpAny_truthy_bool h))

theorem borrows_no {MM : Model} {SC BM : Addr} (hB : s.heap.get? BM = some (bmObj SC)) {Q : Bool → Shared → Prop} (h : Q false s) : wpAny MM A (borrowsExactly (.ref BM)) Q E s := by
  unfold borrowsExactly
  refine wpAny_bind (wpAny_load hB ?_)
  exact wpAny_pure h

/-- the call of the callable iterator's slot, a match being found -/
theorem ci_item {pa ca : Addr} {cd : Array Nat} {T : Str} {t : Tok} {I BM SC : Addr} {start a q e1 e2 : Nat} {R : Result → Shared → Prop} (P : PatAt s.heap pa ca cd)
    (hI : s.heap.get? I = some (ciObj BM)) (hB : s.heap.get? BM = some (bmObj SC)) (hS : s.heap.get? SC = some (scObj pa T t start T.cps.size)) (hu : A.units + 1 < cLine)
    (hr : Reach (10 ^ 15) (Sre.forSearch cd T.cps 2 start T.cps.size false) (fun m => ∃ ls, Found cd T.cps ls a q e1 e2 m)) (h1 : a ≤ q) (h2 : q ≤ e1) (h3 : e1 ≤ e2) (h4 : a < e2)
    (hQ : ∀ h' : Heap, (∀ b o, b ≠ SC → s.heap.get? b = some o → h'.get? b = some o) → h'.objs.size = s.heap.objs.size + 2 → h'.get? SC = some (scObj pa T t e2 T.cps.size) →
      h'.get? s.heap.objs.size = some (spanObj a q e1 e2) → h'.get? (s.heap.objs.size + 1) = some (matchObj pa T t T.cps.size s.heap.objs.size) → R (.ok (.ret (.ref (s.heap.objs.size + 1)))) { s with heap := h' }) :
    codeC prog w A (.builtin "callable_iterator.__next__" ⟨[.ref I], []⟩) R s := by
  have hIS : I ≠ SC := ne_of_cls hI hS (by show (Value.type "callable_iterator" == Value.type "_sre.SRE_Scanner") = false; decide)
  refine codeB_tree rfl ?_
  rw [denote_builtin entry_ci_next, Around.under_plainId slot_ci_next.plain]
  unfold Builtin.«callable_iterator.__next__»
  refine wpK_bind (m := slotArgs _ _ _) (wpK_of_eq (t' := pure (.ref I, [])) rfl (wpK_pure ?_))
  refine wpK_bind (wpB_of (wpAny_field (x := .bool false) hI rfl rfl ?_))
  rw [if_neg (by decide)]
  refine wpK_bind (wpB_of (wpAny_field (x := .ref BM) hI rfl rfl ?_))
  refine wpK_bind (wpK_attempt ?_)
  unfold callOutOfASlot
  refine wpK_bind (wpB_of (borrows_no hB ?_))
  rw [if_neg (by exact Bool.false_ne_true)]
  refine wpB_of (bound_call hB hS rfl rfl (search_found1 P hS hr h1 h2 h3 h4 fun h' k z c1 c2 c3 => ⟨_, rfl, ?_⟩))
  dsimp only
  have hI' := k I _ hIS hI
  refine wpK_bind (wpB_of (wpAny_field (x := .bool false) hI' rfl rfl ?_))
  rw [if_neg (by decide)]
  refine wpK_bind (wpB_of (wpAny_field (x := .none) hI' rfl rfl ?_))
  refine wpK_bind (wpK_holding (wpB_emb (eq_none_match c3 rfl hu ?_)))
  rw [if_pos (by decide)]
  exact wpK_pure (hQ h' k z c1 c2 c3)

theorem letsGo_ok {SC BM : Addr} {who : String} {busy : Code → Bool} (hb : ∀ c, isCI c = false → busy c = false) (hB : s.heap.get? BM = some (bmObj SC)) {Q : Unit → Shared → Prop} (h : Q () s) :
    wpB prog w A (slotLetsGo who (.ref BM) busy) Q E s := by
  unfold slotLetsGo
  refine wpK_bind (wpB_of (borrows_no hB ?_))
  rw [if_neg (by exact Bool.false_ne_true)]
  refine wpK_bind (wpB_stack fun x p below hbel => ?_)
  rw [if_neg]
  · exact wpK_pure h
  · rw [Bool.not_eq_true, List.any_eq_false]
    intro y hy
    rw [Bool.not_eq_true]
    exact hb _ (hbel y hy)

theorem pyNext_item {pa ca : Addr} {cd : Array Nat} {T : Str} {t : Tok} {I BM SC : Addr} {start a q e1 e2 : Nat} {Q : Option Value → Shared → Prop} (P : PatAt s.heap pa ca cd)
    (hI : s.heap.get? I = some (ciObj BM)) (hB : s.heap.get? BM = some (bmObj SC)) (hS : s.heap.get? SC = some (scObj pa T t start T.cps.size)) (hu : A.units + 1 < cLine)
    (hr : Reach (10 ^ 15) (Sre.forSearch cd T.cps 2 start T.cps.size false) (fun m => ∃ ls, Found cd T.cps ls a q e1 e2 m)) (h1 : a ≤ q) (h2 : q ≤ e1) (h3 : e1 ≤ e2) (h4 : a < e2)
    (hQ : ∀ h' : Heap, (∀ b o, b ≠ SC → s.heap.get? b = some o → h'.get? b = some o) → h'.objs.size = s.heap.objs.size + 2 → h'.get? SC = some (scObj pa T t e2 T.cps.size) →
      h'.get? s.heap.objs.size = some (spanObj a q e1 e2) → h'.get? (s.heap.objs.size + 1) = some (matchObj pa T t T.cps.size s.heap.objs.size) → Q (some (.ref (s.heap.objs.size + 1))) { s with heap := h' }) :
    wpC prog w A (pyNext (.ref I)) Q E s := by
  have hT : s.TypeIs (.ref I) "callable_iterator" := ⟨_, hI, rfl⟩
  unfold pyNext
  refine wpK_bind (wpK_attempt (callSpecialC (name := Str.ofString "__next__") hT slot_ci_next (wpC_call (codeC_tree rfl rfl ?_))))
  show wpC prog w A.in1 (do checkBuiltinCall "callable_iterator.__next__" ⟨[.ref I], []⟩; again (.builtin "callable_iterator.__next__" ⟨[.ref I], []⟩)) _ _ s
  refine wpK_bind (wpC_of (slot_ci_next.check _ _ _ _ _ _ _ _ hT (args_ci_next _) ?_))
  refine wpK_pure (And.intro (plainId_quiet slot_ci_next.plain _) (ci_item P hI hB hS hu hr h1 h2 h3 h4 fun h' k z c1 c2 c3 => ?_))
  exact wpK_pure (hQ h' k z c1 c2 c3)

/-- the call of the callable iterator's slot, none being found -/
theorem ci_end {pa ca : Addr} {cd : Array Nat} {T : Str} {t : Tok} {I BM SC : Addr} {start : Nat} {R : Result → Shared → Prop} (P : PatAt s.heap pa ca cd)
    (hI : s.heap.get? I = some (ciObj BM)) (hB : s.heap.get? BM = some (bmObj SC)) (hS : s.heap.get? SC = some (scObj pa T t start T.cps.size)) (hh : A.handled = none)
    (hr : Reach (10 ^ 15) (Sre.forSearch cd T.cps 2 start T.cps.size false) (fun m => m.outcome = some .failed))
    (hQ : ∀ (h' : Heap) (e : Addr) o, (∀ b o, b ≠ SC → b ≠ I → s.heap.get? b = some o → h'.get? b = some o) → h'.get? e = some o → o.cls = .type "StopIteration" → R (.error (.ref e)) { s with heap := h' }) :
    codeC prog w A (.builtin "callable_iterator.__next__" ⟨[.ref I], []⟩) R s := by
  have hIS : I ≠ SC := ne_of_cls hI hS (by show (Value.type "callable_iterator" == Value.type "_sre.SRE_Scanner") = false; decide)
  have hBS : BM ≠ SC := ne_of_cls hB hS (by show (Value.type "builtin_function_or_method" == Value.type "_sre.SRE_Scanner") = false; decide)
  refine codeB_tree rfl ?_
  rw [denote_builtin entry_ci_next, Around.under_plainId slot_ci_next.plain]
  unfold Builtin.«callable_iterator.__next__»
  refine wpK_bind (m := slotArgs _ _ _) (wpK_of_eq (t' := pure (.ref I, [])) rfl (wpK_pure ?_))
  refine wpK_bind (wpB_of (wpAny_field (x := .bool false) hI rfl rfl ?_))
  rw [if_neg (by decide)]
  refine wpK_bind (wpB_of (wpAny_field (x := .ref BM) hI rfl rfl ?_))
  refine wpK_bind (wpK_attempt ?_)
  unfold callOutOfASlot
  refine wpK_bind (wpB_of (borrows_no hB ?_))
  rw [if_neg (by exact Bool.false_ne_true)]
  refine wpB_of (bound_call hB hS rfl rfl (search_none1 P hS hr fun h' k z c1 => ⟨_, rfl, ?_⟩))
  dsimp only
  have hI' := k I _ hIS hI
  have hB' := k BM _ hBS hB
  refine wpK_bind (wpB_of (wpAny_field (x := .bool false) hI' rfl rfl ?_))
  rw [if_neg (by decide)]
  refine wpK_bind (wpB_of (wpAny_field (x := .none) hI' rfl rfl ?_))
  refine wpK_bind (wpK_holding ?_)
  unfold eqBool
  refine wpK_holding ?_
  rw [if_pos (by decide)]
  refine wpK_bind (wpK_rule (wpK_pure ?_))
  rw [if_neg (by decide)]
  refine wpK_bind (wpK_rule ?_)
  refine wpK_bind ?_
  show wpB prog w A.in1 (do slotLetsGo "callable_iterator.__next__" (← field (.ref I) 0) (fun | .builtin "callable_iterator.__next__" x => x.pos.head? == some (.ref I) | _ => false); setField (.ref I) 0 .none; setField (.ref I) 1 .none; setField (.ref I) 2 (.bool true)) _ _ _
  refine wpK_bind (wpB_of (wpAny_field (x := .ref BM) hI' rfl rfl ?_))
  refine wpK_bind (letsGo_ok (SC := SC) (fun c hc => ?_) hB' ?_)
  · split
    · exact absurd hc (by show ¬ (("callable_iterator.__next__" == "callable_iterator.__next__") = false); decide)
    · rfl
  refine wpK_bind (wpB_of (wpAny_setField hI' rfl (by show 0 < 3; decide) ?_))
  have g1 := Heap.get?_update_self (Obj.mapFields (·.setIfInBounds 0 .none)) hI' rfl
  refine wpK_bind (wpB_of (wpAny_setField g1 rfl (by show 1 < 3; decide) ?_))
  have g2 := Heap.get?_update_self (Obj.mapFields (·.setIfInBounds 1 .none)) g1 rfl
  refine wpB_of (wpAny_setField g2 rfl (by show 2 < 3; decide) ?_)
  generalize hH : ((h'.update I (Obj.mapFields (·.setIfInBounds 0 .none))).update I (Obj.mapFields (·.setIfInBounds 1 .none))).update I (Obj.mapFields (·.setIfInBounds 2 (.bool true))) = H
  have kH : ∀ b o, b ≠ I → h'.get? b = some o → H.get? b = some o := fun b o hb e => by
    rw [← hH]; exact (Heap.get?_update_other _ _ (Ne.symm hb)).trans ((Heap.get?_update_other _ _ (Ne.symm hb)).trans ((Heap.get?_update_other _ _ (Ne.symm hb)).trans e))
  refine wpB_of ?_
  unfold Builtin.SmallTypes.stopIteration
  refine wpAny_bind ?_
  simp only [newExc, newTuple]
  refine wpAny_bind (wpAny_newObj_type ?_ (by size_fits))
  refine wpAny_bind (m := firstArgMember _ _) (wpAny_of_eq (a := Value.none) (by first | rfl | (simp only [firstArgMember]; rfl)) ?_)
  refine wpAny_newObj_type ?_ (by size_fits)
  simp only [raiseNew]
  refine wpAny_bind (wpAny_handled ?_)
  rw [show A.in1.handled = none from hh]
  refine wpAny_throw ?_
  exact hQ _ _ _ (fun b o h1 h2 e => Heap.get?_push_of_some _ (Heap.get?_push_of_some _ (kH b o h2 (k b o h1 e)))) (Heap.get?_push_size _ rfl) rfl

theorem pyNext_end {pa ca : Addr} {cd : Array Nat} {T : Str} {t : Tok} {I BM SC : Addr} {start : Nat} {Q : Option Value → Shared → Prop} (P : PatAt s.heap pa ca cd)
    (hI : s.heap.get? I = some (ciObj BM)) (hB : s.heap.get? BM = some (bmObj SC)) (hS : s.heap.get? SC = some (scObj pa T t start T.cps.size)) (hh : A.handled = none)
    (hr : Reach (10 ^ 15) (Sre.forSearch cd T.cps 2 start T.cps.size false) (fun m => m.outcome = some .failed))
    (hQ : ∀ h' : Heap, (∀ b o, b ≠ SC → b ≠ I → s.heap.get? b = some o → h'.get? b = some o) → Q none { s with heap := h' }) :
    wpC prog w A (pyNext (.ref I)) Q E s := by
  have hT : s.TypeIs (.ref I) "callable_iterator" := ⟨_, hI, rfl⟩
  unfold pyNext
  refine wpK_bind (wpK_attempt (callSpecialC (name := Str.ofString "__next__") hT slot_ci_next (wpC_call (codeC_tree rfl rfl ?_))))
  show wpC prog w A.in1 (do checkBuiltinCall "callable_iterator.__next__" ⟨[.ref I], []⟩; again (.builtin "callable_iterator.__next__" ⟨[.ref I], []⟩)) _ _ s
  refine wpK_bind (wpC_of (slot_ci_next.check _ _ _ _ _ _ _ _ hT (args_ci_next _) ?_))
  refine wpK_pure (And.intro (plainId_quiet slot_ci_next.plain _) (ci_end P hI hB hS hh hr fun h' e o k he hc => ?_))
  dsimp only
  refine wpK_bind (wpC_of (wpAny_isInstance (T := "StopIteration") (b := true) ⟨o, he, hc⟩ isSubtype_stop ?_))
  rw [if_pos rfl]
  exact wpK_pure (hQ h' k)
end ci
end Mine
end

section
open PySem PySem.W PySem.Calls PyProof.Rows
set_option Elab.async false
set_option linter.unusedVariables false
set_option maxRecDepth 100000
namespace Mine

section match_
variable {prog : Program} {w : World} {A : Around} {E : Value → Shared → Prop} {s : Shared}

theorem found_ok {MM : Model} {pa ta ma : Addr} {T : Str} {t : Tok} {lim a q e1 e2 : Nat} (hm : s.heap.get? ma = some (matchObj pa T t lim ta)) (ht : s.heap.get? ta = some (spanObj a q e1 e2))
    {Q : Builtin.Re.ReFound → Shared → Prop} (hQ : Q ⟨#[.str T t, .ref pa, rawInt 0, rawInt lim, rawInt 2, .ref ta], #[(a : Int), (e2 : Int), (a : Int), (q : Int), (e1 : Int), (e2 : Int)]⟩ s) :
    wpAny MM A (Builtin.Re.reFound (.ref ma)) Q E s := by
  unfold Builtin.Re.reFound
  refine wpAny_bind (wpAny_fieldsOf hm rfl ?_)
  show wpAny MM A (Builtin.Re.reRawItems (.ref ta) >>= _) Q E s
  refine wpAny_bind ?_
  unfold Builtin.Re.reRawItems
  refine wpAny_bind (wpAny_seqItems ht rfl ?_)
  refine wpAny_pure (wpAny_pure ?_)
  have e : Array.map Builtin.Re.reRawOf ((some #[rawInt a, rawInt e2, rawInt a, rawInt q, rawInt e1, rawInt e2]).getD #[]) = #[(a : Int), (e2 : Int), (a : Int), (q : Int), (e1 : Int), (e2 : Int)] := by
    simp [Builtin.Re.reRawOf, rawInt]
  rw [e]; exact hQ

theorem start_ok {pa ta ma : Addr} {T : Str} {t tk : Tok} {lim a q e1 e2 : Nat} (k : Nat) (hk : k = 1 ∨ k = 2) (hm : s.heap.get? ma = some (matchObj pa T t lim ta)) (ht : s.heap.get? ta = some (spanObj a q e1 e2))
    {Q : Value → Shared → Prop} (hQ : Q (.int ((if k = 1 then a else e1 : Nat) : Int) s.toks) { s with toks := s.toks + 1 }) :
    wpAny (model prog w) A (PySem.call (.builtin "re.Match.start") [.ref ma, .int k tk]) Q E s := by
  refine wpAny_call_entry slot_start ⟨_, hm, rfl⟩ entry_start ?_ (args_start _ _)
  unfold Builtin.«re.Match.start»
  refine wpAny_bind ?_
  unfold Builtin.Re.reOneGroup
  refine wpAny_bind (wpAny_of_eq (a := (Value.ref ma, [Value.int k tk])) rfl ?_)
  dsimp only
  refine wpAny_bind (found_ok hm ht ?_)
  refine wpAny_bind ?_
  have hg : wpAny (model prog w) A.in1 (Builtin.Re.reGroupNumber ⟨#[.str T t, .ref pa, rawInt 0, rawInt lim, rawInt 2, .ref ta], #[(a : Int), (e2 : Int), (a : Int), (q : Int), (e1 : Int), (e2 : Int)]⟩ (.int k tk)) (fun n s' => n = k ∧ s' = s) E s := by
    unfold Builtin.Re.reGroupNumber
    rcases hk with rfl | rfl
    · exact wpAny_pure ⟨rfl, rfl⟩
    · exact wpAny_pure ⟨rfl, rfl⟩
  refine wpAny_mono hg (fun n s' hn => ?_) fun _ _ x => x
  obtain ⟨rfl, rfl⟩ := hn
  refine wpAny_pure ?_
  rcases hk with rfl | rfl
  · exact wpAny_bind (wpAny_mkInt (wpAny_pure ⟨_, rfl, hQ⟩))
  · exact wpAny_bind (wpAny_mkInt (wpAny_pure ⟨_, rfl, hQ⟩))

abbrev cutS (T : Str) (b e : Nat) : Str := ⟨T.cps.extract b e⟩

theorem cut_len (T : Str) (b e : Nat) (hT : T.cps.size ≤ 100000) : (cutS T b e).length ≤ 100000 := by
  show (T.cps.extract b e).size ≤ 100000
  rw [Array.size_extract]; omega

theorem text_ok {MM : Model} {x : Builtin.Re.ReFound} {T : Str} {t : Tok} {g b e : Nat} {d : Value} (h0 : x.fields.getD 0 .none = .str T t) (hb : x.spans.getD (2 * g) (-1) = (b : Int)) (he : x.spans.getD (2 * g + 1) (-1) = (e : Int)) (hT : T.cps.size ≤ 100000)
    {Q : Value → Shared → Prop} (hQ : Q (.str (cutS T b e) s.toks) { s with toks := s.toks + 1 }) : wpAny MM A (Builtin.Re.reGroupText x g d) Q E s := by
  unfold Builtin.Re.reGroupText
  rw [hb, he, h0]
  dsimp only
  have hn : (decide ((b : Int) < 0) || decide ((e : Int) < 0)) = false := by
    rw [decide_eq_false (by omega), decide_eq_false (by omega)]; rfl
  rw [hn, if_neg (by exact Bool.false_ne_true)]
  refine wpAny_bind ?_
  unfold Builtin.Re.reTextOf
  refine wpAny_bind (m := asStr? (.str T t)) (wpAny_pure ?_)
  dsimp only
  refine wpAny_pure ?_
  show wpAny MM A (mkStr (cutS T b e)) Q E s
  exact wpAny_mkStr hQ (Nat.le_trans (cut_len T b e hT) (by size_fits))

theorem groups_ok {pa ta ma : Addr} {T : Str} {t : Tok} {lim a q e1 e2 : Nat} (hm : s.heap.get? ma = some (matchObj pa T t lim ta)) (ht : s.heap.get? ta = some (spanObj a q e1 e2)) (hT : T.cps.size ≤ 100000)
    {Q : Value → Shared → Prop} (hQ : Q (.ref s.heap.objs.size) { s with heap := s.heap.push { cls := .type "tuple", data := .seq #[.str (cutS T a q) s.toks, .str (cutS T e1 e2) (s.toks + 1)] }, toks := s.toks + 1 + 1 }) :
    wpAny (model prog w) A (PySem.call (.builtin "re.Match.groups") [.ref ma]) Q E s := by
  refine wpAny_call_entry slot_groups ⟨_, hm, rfl⟩ entry_groups ?_ (args_groups _)
  unfold Builtin.«re.Match.groups»
  refine wpAny_bind ?_
  unfold Builtin.Re.reWithDefault
  refine wpAny_bind (m := Builtin.Re.reNamed _ _ _ _ _ _) (wpAny_of_eq (a := [none]) (by kernel_rfl) ?_)
  dsimp only
  refine wpAny_bind (found_ok hm ht ?_)
  refine wpAny_pure ?_
  have r : List.range (#[(a : Int), (e2 : Int), (a : Int), (q : Int), (e1 : Int), (e2 : Int)].size / 2 - 1) = [0, 1] := by
    rw [show (#[(a : Int), (e2 : Int), (a : Int), (q : Int), (e1 : Int), (e2 : Int)].size) = 6 from rfl]; rfl
  rw [r]
  simp only [List.mapM_cons, List.mapM_nil]
  refine wpAny_bind (wpAny_bind (text_ok (b := a) (e := q) rfl rfl rfl hT ?_))
  refine wpAny_bind (wpAny_bind (text_ok (b := e1) (e := e2) rfl rfl rfl hT ?_))
  refine wpAny_bind (wpAny_pure (wpAny_pure (wpAny_pure ?_)))
  exact wpAny_bind (wpAny_newObj_type (wpAny_pure ⟨_, rfl, hQ⟩) (by size_fits))
end match_
end Mine
end

section
open PySem PySem.W PySem.Calls PyProof.Rows
set_option Elab.async false
set_option linter.unusedVariables false
set_option maxRecDepth 100000
namespace Mine

theorem slot_sc_ga : Slot "_sre.SRE_Scanner" "__getattribute__" "object.__getattribute__" :=
  .of (owner := "object") (n := "__getattribute__") (by rw [typeLookup_type, builtinLookup_eq_fast]; kernel_rfl) (by decide +kernel) (by decide +kernel) (by decide +kernel)
    (by first | exact .inl (by decide +kernel) | exact .inr (by decide +kernel)) (by rw [isSubtype_type]; kernel_rfl)
theorem slot_md_get : Slot "method_descriptor" "__get__" "method_descriptor.__get__" :=
  .of (owner := "method_descriptor") (n := "__get__") (by rw [typeLookup_type, builtinLookup_eq_fast]; kernel_rfl) (by decide +kernel) (by decide +kernel) (by decide +kernel)
    (by first | exact .inl (by decide +kernel) | exact .inr (by decide +kernel)) (by rw [isSubtype_type]; kernel_rfl)
theorem md_no_set : typeLookup (.type "method_descriptor") "__set__" = pure none := by rw [typeLookup_type, builtinLookup_eq_fast]; kernel_rfl
theorem md_no_del : typeLookup (.type "method_descriptor") "__delete__" = pure none := by rw [typeLookup_type, builtinLookup_eq_fast]; kernel_rfl
theorem sc_no_hook : typeLookup (.type "_sre.SRE_Scanner") "__getattr__" = pure none := by rw [typeLookup_type, builtinLookup_eq_fast]; kernel_rfl
theorem type_search : typeOf (.builtin "_sre.SRE_Scanner.search") = pure (.type "method_descriptor") := by show builtinType _ = _; rw [builtinType_eq_fast]; kernel_rfl
theorem entry_md_get : entryFor table "method_descriptor.__get__" = some Builtin.«method_descriptor.__get__» := entryFor_of_tree (by kernel_rfl)
theorem own_md : Manifest.owners.lookup (String.ofList ['r', 'o', 't', 'p', 'i', 'r', 'c', 's', 'e', 'd', '_', 'd', 'o', 'h', 't', 'e', 'm'].reverse) = some Manifest.sig_method_descriptor := by kernel_rfl
theorem args_md_get (a b c : Value) : argsOk "method_descriptor.__get__" ⟨[a, b, c], []⟩ := by
  unfold argsOk; rw [signature?_of (id := "method_descriptor.__get__") (n := ['_', '_', 't', 'e', 'g', '_', '_']) (o := ['r', 'o', 't', 'p', 'i', 'r', 'c', 's', 'e', 'd', '_', 'd', 'o', 'h', 't', 'e', 'm']) (by kernel_rfl) own_md]; kernel_rfl
theorem sub_sc_self : isSubtype (.type "_sre.SRE_Scanner") (.type "_sre.SRE_Scanner") = pure true := by rw [isSubtype_type]; kernel_rfl

theorem owner_search : (".".intercalate ("_sre.SRE_Scanner.search".cutAt '.').dropLast) = "_sre.SRE_Scanner" := by
  have e0 : "_sre.SRE_Scanner.search".cutAt '.' = ["_sre", "SRE_Scanner", "search"] := by first | rfl | decide +kernel
  rw [e0]; decide +kernel
theorem sub_search_owner : isSubtype (.type "_sre.SRE_Scanner") (.type (".".intercalate ("_sre.SRE_Scanner.search".cutAt '.').dropLast)) = pure true := by
  rw [owner_search]; exact sub_sc_self

section bound
variable {prog : Program} {w : World} {A : Around} {E : Value → Shared → Prop} {h : Heap} {g : Array GenState} {d : Drawn} {t : Nat} {os : OsState} {a : Addr} {o : Obj}

theorem md_get {R : Result → Shared → Prop} (hx : h.get? a = some o) (hc : o.cls = .type "_sre.SRE_Scanner") (hq : R (.ok (.ret (.ref h.objs.size))) ⟨h.push (bmObj a), g, d, t, os⟩) :
    codeAny (model prog w) A (.call (.builtin "method_descriptor.__get__") ⟨[.builtin "_sre.SRE_Scanner.search", .ref a, .type "_sre.SRE_Scanner"], []⟩) R ⟨h, g, d, t, os⟩ := by
  have hT : (⟨h, g, d, t, os⟩ : Shared).TypeIs (.ref a) "_sre.SRE_Scanner" := ⟨_, hx, hc⟩
  have hT5 : (⟨h, g, d, t, os⟩ : Shared).TypeIs (.builtin "_sre.SRE_Scanner.search") "method_descriptor" := type_search
  have f8 := sub_search_owner
  refine codeAny_call_builtin slot_md_get.plain entry_md_get (slot_md_get.check _ _ _ _ _ _ _ _ hT5 (args_md_get _ _ _) ?_)
  repeat (any_goals (first | assumption | wp_step))

theorem ga_entry {vs : Array Value} {tk : Tok} {Q : Fin → Shared → Prop} (hx : h.get? a = some { cls := .type "_sre.SRE_Scanner", data := .fields vs }) (hq : Q (.done (.ret (.ref h.objs.size))) ⟨h.push (bmObj a), g, d, t, os⟩) :
    wpAny (model prog w) A (Builtin.«object.__getattribute__» ⟨[.ref a, .str "search" tk], []⟩) Q E ⟨h, g, d, t, os⟩ := by
  have hT : (⟨h, g, d, t, os⟩ : Shared).TypeIs (.ref a) "_sre.SRE_Scanner" := ⟨_, hx, rfl⟩
  have hT5 : (⟨h, g, d, t, os⟩ : Shared).TypeIs (.builtin "_sre.SRE_Scanner.search") "method_descriptor" := type_search
  have f4 := slot_search.lookup
  have f6 := slot_md_get.lookup
  have f7 := md_no_set
  have f9 := md_no_del
  repeat (any_goals (first | assumption | wp_step))
  refine md_get hx rfl ?_
  exact wpAny_pure hq

theorem ga_call {vs : Array Value} {tk : Tok} {R : Result → Shared → Prop} (hx : h.get? a = some { cls := .type "_sre.SRE_Scanner", data := .fields vs }) (hq : R (.ok (.ret (.ref h.objs.size))) ⟨h.push (bmObj a), g, d, t, os⟩) :
    codeAny (model prog w) A (.call (.builtin "object.__getattribute__") ⟨[.ref a, .str "search" tk], []⟩) R ⟨h, g, d, t, os⟩ :=
  codeAny_call_builtin slot_sc_ga.plain F.entry_object_getattribute (slot_sc_ga.check _ _ _ _ _ _ _ _ (show (⟨h, g, d, t, os⟩ : Shared).TypeIs (.ref a) "_sre.SRE_Scanner" from ⟨_, hx, rfl⟩) (F.args_object_getattribute_2 _ _) (ga_entry hx hq))

theorem get_search {vs : Array Value} {Q : Value → Shared → Prop} (hx : h.get? a = some { cls := .type "_sre.SRE_Scanner", data := .fields vs }) (hq : Q (.ref h.objs.size) ⟨h.push (bmObj a), g, d, t + 1, os⟩) :
    wpAny (model prog w) A (getAttr (.ref a) "search") Q E ⟨h, g, d, t, os⟩ := by
  have hT : (⟨h, g, d, t + 1, os⟩ : Shared).TypeIs (.ref a) "_sre.SRE_Scanner" := ⟨_, hx, rfl⟩
  have f2 := slot_sc_ga.lookup
  have f3 := slot_sc_ga.bind (.ref a)
  unfold getAttr getAttrBy
  refine wpAny_bind (wpAny_mkText ?_)
  repeat (any_goals (first | assumption | wp_step))
  refine ga_call hx ?_
  repeat (any_goals (first | assumption | wp_step))
end bound
end Mine
end

section
open PySem PySem.W PySem.Calls PyProof.Rows
set_option Elab.async false
set_option linter.unusedVariables false
set_option maxRecDepth 100000
namespace Mine

section finditer
variable {prog : Program} {w : World} {A : Around} {E : Value → Shared → Prop} {s : Shared}

theorem target_ok {MM : Model} {pa ca : Addr} {cd : Array Nat} {T : Str} {t : Tok} {Q : Builtin.Re.ReTarget → Shared → Prop} (P : PatAt s.heap pa ca cd) (hT : T.cps.size ≤ 100000)
    (hQ : Q { pattern := .ref pa, string := .str T t, code := cd, text := T.cps, kind := 0, groups := 2, pos := 0, lim := T.cps.size } s) :
    wpAny MM A (Builtin.Re.reTarget "re.Pattern.finditer" "finditer" ⟨[.ref pa, .str T t], []⟩) Q E s := by
  obtain ⟨o, vs, n, hc, hcd, hcode⟩ := P.code
  obtain ⟨v0, v1, v3, v4, hp⟩ := P.pat
  unfold Builtin.Re.reTarget
  dsimp only
  refine wpAny_bind (m := Builtin.Re.reNamed _ _ _ _ _ _) (wpAny_of_eq (a := [some (.str T t), none, none]) (by kernel_rfl) ?_)
  dsimp only
  refine wpAny_bind (wpAny_pure (wpAny_bind (wpAny_pure ?_)))
  refine wpAny_bind (wpAny_fieldsOf hp rfl ?_)
  refine wpAny_bind ?_
  unfold Builtin.Re.reTextOf
  refine wpAny_bind (m := asStr? (.str T t)) (wpAny_pure ?_)
  dsimp only
  refine wpAny_pure ?_
  dsimp only
  rw [if_neg (by show ¬ ((_ : Nat) == 0 && false) = true; rw [Bool.and_false]; exact Bool.false_ne_true)]
  rw [if_neg (by show ¬ ((0 : Nat) == 1 && true) = true; decide)]
  unfold Builtin.Re.reNoCollectionInside
  rw [if_neg (by decide)]
  refine wpAny_bind (wpAny_pure ?_)
  refine wpAny_bind ?_
  show wpAny MM A (Builtin.Re.reRawItems (.ref ca)) _ E s
  unfold Builtin.Re.reRawItems
  refine wpAny_bind (wpAny_seqItems hc hcd ?_)
  refine wpAny_pure ?_
  refine wpAny_pure ?_
  have hl : min ((2 : Int) ^ 63 - 1).toNat T.cps.size = T.cps.size := by
    have : ((2 : Int) ^ 63 - 1).toNat = 9223372036854775807 := by decide
    rw [this]; omega
  have h0 : min (0 : Int).toNat T.cps.size = 0 := by simp
  show Q { pattern := .ref pa, string := .str T t, code := (vs.map Builtin.Re.reRawOf).map (·.toNat), text := T.cps, kind := 0, groups := 2, pos := min (0 : Int).toNat T.cps.size, lim := min ((2 : Int) ^ 63 - 1).toNat T.cps.size } s
  rw [hcode, hl, h0]; exact hQ

theorem finditer_ok {pa ca : Addr} {cd : Array Nat} {T : Str} {t : Tok} {Q : Value → Shared → Prop} (P : PatAt s.heap pa ca cd) (hT : T.cps.size ≤ 100000)
    (hQ : Q (.ref (s.heap.objs.size + 2)) { s with heap := ((s.heap.push (scObj pa T t 0 T.cps.size)).push (bmObj s.heap.objs.size)).push (ciObj (s.heap.objs.size + 1)), toks := s.toks + 1 }) :
    wpAny (model prog w) A (PySem.call (.builtin "re.Pattern.finditer") [.ref pa, .str T t]) Q E s := by
  have hp : s.TypeIs (.ref pa) "re.Pattern" := by obtain ⟨v0, v1, v3, v4, hp⟩ := P.pat; exact ⟨_, hp, rfl⟩
  refine wpAny_call_entry slot_finditer hp entry_finditer ?_ (args_finditer _ _)
  unfold Builtin.«re.Pattern.finditer»
  refine wpAny_bind (target_ok P hT ?_)
  refine wpAny_bind ?_
  unfold Builtin.Re.reNotHeld
  dsimp only
  refine wpAny_bind (wpAny_isInstance (T := "str") (b := false) rfl (by rw [isSubtype_type]; kernel_rfl) ?_)
  rw [if_neg (by exact Bool.false_ne_true)]
  refine wpAny_pure ?_
  refine wpAny_bind (wpAny_newObj_type ?_ (by size_fits))
  refine wpAny_bind (wpAny_holding ?_)
  obtain ⟨h, g, d, tk, os⟩ := s
  refine get_search (Heap.get?_push_size _ rfl) ?_
  have z : (h.push (scObj pa T t 0 T.cps.size)).objs.size = h.objs.size + 1 := Heap.size_push ..
  have z2 : ((h.push (scObj pa T t 0 T.cps.size)).push (bmObj h.objs.size)).objs.size = h.objs.size + 2 := by rw [Heap.size_push, z]
  refine wpAny_bind (wpAny_newObj_type ?_ (by size_fits))
  refine wpAny_pure ⟨_, rfl, ?_⟩
  have hQ' : Q (.ref (h.objs.size + 2)) ⟨((h.push (scObj pa T t 0 T.cps.size)).push (bmObj h.objs.size)).push (ciObj (h.objs.size + 1)), g, d, tk + 1, os⟩ := hQ
  rw [← z, ← z2] at hQ'
  exact hQ'
end finditer
end Mine
end

section
open PySem PySem.W PySem.Calls PyProof.Rows
set_option Elab.async false
set_option linter.unusedVariables false
set_option maxRecDepth 100000
namespace Mine

section segs
variable {prog : Program} {w : World} {A : Around} {R : GenEnd} {Y : Protocol} {n : Nat} {s₀ : Shared} {c : Code} {fs : List Frame} {s : Shared} {env : Env}
  {K : Flow → Sem Fin} {H : Value → Sem Fin} {gd : Bool → Bool} {lv : List Value → List Value}

theorem segC_nil (h : SegC prog w A R Y n s₀ c (K .next) fs s) : SegC prog w A R Y n s₀ c ((execs [] env).wrap K H gd lv) fs s := h

theorem segC_cons {st : Stmt} {rest : List Stmt}
    (h : SegC prog w A R Y n s₀ c ((exec st env).wrap (fun f => match f with | .next => (execs rest env).wrap K H gd lv | f => K f) H gd lv) fs s) :
    SegC prog w A R Y n s₀ c ((execs (st :: rest) env).wrap K H gd lv) fs s := by rw [execs_cons_wrap]; exact h

/-- a plain statement, walked at the model -/
theorem segC_plain {st : Stmt} {rest : List Stmt} (hf : cleanF fs) (hc : isCI c = false)
    (h : wpAny (model prog w) (A.over c fs) (execs [st] env) (fun f s' => f = .next ∧ SegC prog w A R Y n s₀ c ((execs rest env).wrap K H gd lv) fs s') (fun _ _ => False) s) :
    SegC prog w A R Y n s₀ c ((execs (st :: rest) env).wrap K H gd lv) fs s := by
  have e : execs (st :: rest) env = execs [st] env >>= fun f => match f with | .next => execs rest env | f => pure f := execs_app [st] rest
  rw [e, Sem.bind_eq_wrap', Sem.wrap_wrap]
  refine segC_wrap hf hc (wpC_emb (wpAny_mono h (fun f s' h' => ?_) fun _ _ x => x.elim))
  obtain ⟨rfl, h'⟩ := h'
  exact h'

theorem segC_If {test : Expr} {body orelse : List Stmt} {pos : Pos} (hf : cleanF fs) (hc : isCI c = false)
    (h : wpAny (model prog w) (A.over c fs) (isTrue test env (eval test env)) (fun b s' => if b = true then SegC prog w A R Y n s₀ c ((execs body env).wrap K H gd lv) fs s'
      else SegC prog w A R Y n s₀ c ((execs orelse env).wrap K H gd lv) fs s') (fun _ _ => False) s) :
    SegC prog w A R Y n s₀ c ((exec (.If test body orelse pos) env).wrap K H gd lv) fs s := by
  rw [exec_If]
  show SegC prog w A R Y n s₀ c (.at pos fun _ => (isTrue test env (eval test env) >>= fun b => if b = true then execs body env else execs orelse env).wrap K H gd lv) fs s
  refine segC_at ?_
  rw [Sem.bind_eq_wrap', Sem.wrap_wrap]
  refine segC_wrap hf hc (wpC_emb (wpAny_mono h (fun b s' hb => ?_) fun _ _ x => x.elim))
  cases b with
  | true => rw [if_pos rfl] at hb ⊢; exact hb
  | false => rw [if_neg Bool.false_ne_true] at hb ⊢; exact hb

theorem segC_Yield {e : Expr} {ypos pos : Pos} (hf : cleanF fs) (hc : isCI c = false) (hfs : splitAtGen fs = none) (hgd : gd false = false) (hfg : fs.any Frame.guarded = false)
    (h : wpAny (model prog w) (A.over c fs) (eval e env) (fun v s' => ∀ kap : Resume → Shared → Prop,
        (∀ s'', SegC prog w A R Y n s'' c (K .next) fs s'' → kap (.send .none) s'') → Y n s₀ v s' kap)
      (fun _ _ => False) s) (hco : env.scope.isCoroutine = false) (hi : interactive env = false) :
    SegC prog w A R Y (n + 1) s₀ c ((exec (.Expr (.Yield (some e) ypos) pos) env).wrap K H gd lv) fs s := by
  rw [exec_Expr env _ pos hi rfl]
  show SegC prog w A R Y (n + 1) s₀ c (.at pos fun _ => ((eval e env >>= fun v => (standAt ypos >>= fun _ => yieldOut env v)) >>= fun x =>
    dropValue (.Yield (some e) ypos) pos x).wrap K H gd lv) fs s
  have hy : ∀ v, yieldOut env v = yieldValue v := fun v => by simp only [yieldOut, hco, Bool.false_eq_true, if_false]
  simp only [hy]
  refine segC_at ?_
  rw [Sem.bind_eq_wrap', Sem.bind_eq_wrap', Sem.wrap_wrap, Sem.wrap_wrap]
  refine segC_wrap hf hc (wpC_emb (wpAny_mono h (fun v s' h' => ?_) fun _ _ x => x.elim))
  refine segC_at (segC_yield hfs hgd hfg ?_)
  refine h' _ fun s'' hx => ?_
  exact hx

theorem segC_For {target iter : Expr} {body : List Stmt} {pos : Pos} (hf : cleanF fs) (hc : isCI c = false)
    (h : wpAny (model prog w) (A.over c fs) (eval iter env) (fun x s₁ => wpAny (model prog w) (A.over c fs) (pyIter x) (fun it s₂ => ∀ p,
      SegC prog w A R Y n s₀ (.forLoop target it body [] env) (denote table (.forLoop target it body [] env))
      (.ret (fun r => ((match r with | .ok f => (.pure f : Sem Flow) | .error e => .raise e).onRaise fun (x : Value) => do
        if (← field x 1) == Value.none then unsupported "frame.own-activation:exception-without-traceback"
        setFlight x env.frame).wrap K H gd lv) none (gd false) (lv []) c p [] :: fs) s₂) (fun _ _ => False) s₁) (fun _ _ => False) s)
    (hs : ∀ x, foldedSetIterable iter env x = pure x) :
    SegC prog w A R Y n s₀ c ((exec (.For target iter body [] pos) env).wrap K H gd lv) fs s := by
  rw [exec_For]
  show SegC prog w A R Y n s₀ c (.at pos fun _ => ((eval iter env >>= fun v => foldedSetIterable iter env v >>= fun x => standAt iter.pos >>= fun _ => holding [x] (pyIter x) >>= fun it => runOwn (.forLoop target it body [] env) env)).wrap K H gd lv) fs s
  refine segC_at ?_
  rw [Sem.bind_eq_wrap', Sem.wrap_wrap]
  refine segC_wrap hf hc (wpC_emb (wpAny_mono h (fun x s₁ h₁ => ?_) fun _ _ x => x.elim))
  rw [hs x]
  show SegC prog w A R Y n s₀ c (.at iter.pos fun _ => (holding [x] (pyIter x) >>= fun it => runOwn (.forLoop target it body [] env) env).wrap K H gd lv) fs s₁
  refine segC_at ?_
  rw [Sem.bind_eq_wrap', Sem.wrap_wrap]
  refine segC_wrap hf hc (wpC_emb (wpAny_holding (wpAny_mono h₁ (fun it s₂ h₂ => ?_) fun _ _ x => x.elim)))
  exact segC_call rfl h₂

/-- a turn of the loop -/
theorem segC_turn {target : Expr} {it : Value} {body : List Stmt} (hf : cleanF fs) (ht : ∀ v, letOwnedTupleGo target it v = pure ())
    (h : wpC prog w (A.over (.forLoop target it body [] env) fs) (pyNext it) (fun r s₁ => match r with
      | none => ∀ c', SegC prog w A R Y n s₀ c' (leafOf (.ok .next)) fs s₁
      | some v => wpAny (model prog w) (A.over (.forLoop target it body [] env) fs) (assign target env v) (fun _ s₂ =>
          ∀ H', SegC prog w A R Y n s₀ (.forLoop target it body [] env) ((execs body env).wrap (fun f => match f with
            | .next | .cont => .pure (.again (.forLoop target it body [] env))
            | .brk => .pure (.done .next)
            | .ret v => .pure (.done (.ret v))) H' id id) fs s₂) (fun _ _ => False) s₁) (fun _ _ => False) s) :
    SegC prog w A R Y n s₀ (.forLoop target it body [] env) (denote table (.forLoop target it body [] env)) fs s := by
  show SegC prog w A R Y n s₀ _ ((forTurn target it body [] env).onRaise (fun x => do noteFrame x env; theTreesLotGoes x)) fs s
  unfold forTurn
  rw [Sem.onRaise_eq_wrap]
  refine segC_at ?_
  show SegC prog w A R Y n s₀ _ ((((pyNext it).onRaise (fun _ => standAt { target.pos with line := 0 })) >>= fun r => match r with
    | none => again (.block [] env)
    | some v => letOwnedTupleGo target it v >>= fun _ => assign target env v >>= fun _ => execs body env >>= fun f => match f with
      | .next | .cont => again (.forLoop target it body [] env)
      | .brk => pure (.done .next)
      | .ret v => pure (.done (.ret v))).wrap .pure (fun e => (do noteFrame e env; theTreesLotGoes e : Sem Unit).bind fun _ => .raise e) id id) fs s
  rw [Sem.onRaise_eq_wrap, Sem.bind_eq_wrap', Sem.wrap_wrap, Sem.wrap_wrap]
  refine segC_wrap hf rfl (wpK_mono h (fun r s₁ h₁ => ?_) fun _ _ x => x.elim)
  cases r with
  | none =>
    refine segC_again rfl rfl ?_
    exact h₁ _
  | some v =>
    show SegC prog w A R Y n s₀ _ ((letOwnedTupleGo target it v >>= fun _ => assign target env v >>= fun _ => execs body env >>= fun f => match f with
      | .next | .cont => again (.forLoop target it body [] env)
      | .brk => pure (.done .next)
      | .ret v => pure (.done (.ret v))).wrap .pure (fun e => (do noteFrame e env; theTreesLotGoes e : Sem Unit).bind fun _ => .raise e) id id) fs s₁
    rw [ht v]
    show SegC prog w A R Y n s₀ _ ((assign target env v >>= fun _ => execs body env >>= fun f => match f with
      | .next | .cont => again (.forLoop target it body [] env)
      | .brk => pure (.done .next)
      | .ret v => pure (.done (.ret v))).wrap .pure (fun e => (do noteFrame e env; theTreesLotGoes e : Sem Unit).bind fun _ => .raise e) id id) fs s₁
    rw [Sem.bind_eq_wrap', Sem.wrap_wrap]
    refine segC_wrap hf rfl (wpC_emb (wpAny_mono h₁ (fun _ s₂ h₂ => ?_) fun _ _ x => x.elim))
    rw [Sem.bind_eq_wrap', Sem.wrap_wrap]
    have e : (fun f : Flow => Sem.wrap .pure (fun e => (do noteFrame e env; theTreesLotGoes e : Sem Unit).bind fun _ => .raise e) id id (match f with
      | .next | .cont => again (.forLoop target it body [] env)
      | .brk => pure (.done .next)
      | .ret v => pure (.done (.ret v)) : Sem Fin)) = (fun f => match f with
            | .next | .cont => .pure (.again (.forLoop target it body [] env))
            | .brk => .pure (.done .next)
            | .ret v => .pure (.done (.ret v)) : Flow → Sem Fin) := by
      funext f; cases f <;> rfl
    rw [e]
    exact h₂ _

theorem segC_func {body : List Stmt}
    (h : SegC prog w A R Y n s₀ (.func body env) ((execs body env).wrap (fun f => .pure (.done (.ret (match f with | .ret v => v | _ => .none))))
      (fun e => (leaving env e).wrap (fun _ => .raise e) .raise id id) id id) fs s) :
    SegC prog w A R Y n s₀ (.func body env) (denote table (.func body env)) fs s := by
  show SegC prog w A R Y n s₀ _ (.point [] fun _ => ((execs body env).onRaise (leaving env)) >>= _) fs s
  refine segC_point ?_
  rw [Sem.onRaise_eq_wrap, Sem.bind_eq_wrap', Sem.wrap_wrap]
  rw [Sem.wrap_congr (execs body env) _ _ (K' := fun f => .pure (.done (.ret (match f with | .ret v => v | _ => .none))))
    (H' := fun e => (leaving env e).wrap (fun _ => .raise e) .raise id id) (fun f => by cases f <;> rfl)
    (fun e => by rw [Sem.bind_eq_wrap, Sem.wrap_wrap]; rfl)]
  exact h
end segs
end Mine
end

section
open PySem PySem.W PyProof.Rows PySem.Calls
set_option Elab.async false
set_option pp.deepTerms false
set_option pp.deepTerms.threshold 6
set_option linter.unusedVariables false
set_option maxRecDepth 100000
namespace Mine

/-- the function object of the generator, as the top leaves it -/
noncomputable def gObj (P : Params) : Obj := ((hd.heap_39 P).lookup 43).getD default
noncomputable def gData (P : Params) : FuncData := match (gObj P).data with | .func fd => fd | _ => default
noncomputable def gBody (P : Params) : List Stmt := match (gData P).body with | .stmts b => b | _ => []
theorem gObj_eq (P : Params) : (hd.heap_39 P).lookup 43 = some (gObj P) := by rfl
theorem gData_eq (P : Params) : (gObj P).data = .func (gData P) := by rfl
theorem gBody_eq (P : Params) : (gData P).body = .stmts (gBody P) := by rfl
theorem g_gen (P : Params) : (gData P).scope.isGenerator = true := by rfl
theorem g_co (P : Params) : (gData P).scope.isCoroutine = false := by rfl
theorem g_kind (P : Params) : (gData P).scope.kind = .function := by rfl
theorem g_cells (P : Params) : ∀ x ∈ (gData P).scope.names, x.2 ≠ .cell := by
  have h : ((gData P).scope.names.all fun x => x.2 != .cell) = true := by rfl
  intro x hx e
  have := List.all_eq_true.mp h x hx
  rw [e] at this
  exact absurd this (by decide)
theorem g_bind (P : Params) (v : Value) : bindArgs (gData P) ⟨[v], []⟩ = pure [(Str.ofString "logical_line", v)] := by rfl
theorem g_loc (P : Params) (v : Value) : ∀ x ∈ [((Str.ofString "logical_line", v) : Str × Value)], (gData P).scope.names.lookup x.1 = some .local := by
  intro x hx
  rcases List.mem_cons.mp hx with rfl | hx
  · rfl
  · cases hx
noncomputable def gFor (P : Params) : Stmt := (gBody P).headD default
noncomputable def gIter (P : Params) : Expr := match gFor P with | .For _ i _ _ _ => i | _ => default
noncomputable def gTarget (P : Params) : Expr := match gFor P with | .For t _ _ _ _ => t | _ => default
noncomputable def gLoop (P : Params) : List Stmt := match gFor P with | .For _ _ b _ _ => b | _ => default
noncomputable def gPos (P : Params) : Pos := match gFor P with | .For _ _ _ _ p => p | _ => default
theorem gBody_for (P : Params) : gBody P = [.For (gTarget P) (gIter P) (gLoop P) [] (gPos P)] := by rfl
theorem gLoop_three (P : Params) : (gLoop P).length = 3 := by rfl
theorem g_code (P : Params) : codeIn (hd.heap_39 P) (gData P).code (gData P).qualname = true := by rfl
end Mine
end

section
open PySem PySem.W PyProof.Rows
local macro_rules | `(tactic| walk_at "again0") => `(tactic| skip)
local macro_rules | `(tactic| walk_at "again1") => `(tactic| skip)
local macro_rules | `(tactic| walk_at "again2") => `(tactic| skip)
local macro_rules | `(tactic| walk_at "again3") => `(tactic| skip)
local macro_rules | `(tactic| walk_at "again4") => `(tactic| skip)
local macro_rules | `(tactic| walk_at "again5") => `(tactic| skip)
local macro_rules | `(tactic| walk_at "again6") => `(tactic| skip)
local macro_rules | `(tactic| walk_at "again7") => `(tactic| skip)
local macro_rules | `(tactic| walk_at "again8") => `(tactic| skip)
local macro_rules | `(tactic| walk_at "again9") => `(tactic| skip)
local macro_rules | `(tactic| walk_at "again10") => `(tactic| skip)
local macro_rules | `(tactic| walk_at "again11") => `(tactic| skip)
local macro_rules | `(tactic| walk_at "again12") => `(tactic| skip)
local macro_rules | `(tactic| walk_at "again13") => `(tactic| skip)
local macro_rules | `(tactic| walk_at "again14") => `(tactic| skip)
local macro_rules | `(tactic| walk_at "again15") => `(tactic| skip)
local macro_rules | `(tactic| walk_at "again16") => `(tactic| skip)
local macro_rules | `(tactic| walk_at "again17") => `(tactic| skip)
local macro_rules | `(tactic| walk_at "again18") => `(tactic| skip)
local macro_rules | `(tactic| walk_at "again19") => `(tactic| skip)
theorem Mine.again_G2 : True := by
  w_top off
  try (walk1; fail)
  trivial
end

section
open PySem PySem.W PyProof.Rows PySem.Calls
set_option Elab.async false
set_option pp.deepTerms false
set_option pp.deepTerms.threshold 8
set_option linter.unusedVariables false
set_option maxRecDepth 100000
namespace Mine
noncomputable abbrev genv (P : Params) (L : Addr) : Env := envOf (gData P).qualname (gData P).scope L 43 (gData P).code

theorem plain_match : PlainAttrs "re.Match" := ⟨⟨"object.__getattribute__", by rw [typeLookup_type, builtinLookup_eq_fast]; kernel_rfl, by decide +kernel⟩, by rw [typeLookup_type, builtinLookup_eq_fast]; kernel_rfl⟩
theorem plain_pattern : PlainAttrs "re.Pattern" := ⟨⟨"object.__getattribute__", by rw [typeLookup_type, builtinLookup_eq_fast]; kernel_rfl, by decide +kernel⟩, by rw [typeLookup_type, builtinLookup_eq_fast]; kernel_rfl⟩
theorem type_groups : typeOf (.builtin "re.Match.groups") = pure (.type "method_descriptor") := by show builtinType _ = _; rw [builtinType_eq_fast]; kernel_rfl
theorem type_start : typeOf (.builtin "re.Match.start") = pure (.type "method_descriptor") := by show builtinType _ = _; rw [builtinType_eq_fast]; kernel_rfl
theorem type_finditer : typeOf (.builtin "re.Pattern.finditer") = pure (.type "method_descriptor") := by show builtinType _ = _; rw [builtinType_eq_fast]; kernel_rfl

section rules
variable {prog : Program} {w : World} {A : Around} {E : Value → Shared → Prop} {s : Shared} {h₀ : Heap} {L : Addr} {m : Str → Option Value} {news : List (Addr × Obj)}
  {ma ta pa : Addr} {T : Str} {t : Tok} {lim p q e1 e2 : Nat}

theorem meth_groups {pl : Sem Bool} {Q : Value × List Value → Shared → Prop} (N : News h₀ L s.heap news) (h1 : (ma, matchObj pa T t lim ta) ∈ news) (h : Q (.builtin "re.Match.groups", [.ref ma]) s) :
    wpAny (model prog w) A (getMethod (.ref ma) (Str.ofString "groups") pl) Q E s :=
  getMethod_builtin ⟨_, N.get h1, rfl⟩ plain_match slot_groups type_groups (fun a e => by cases e; exact ⟨_, N.get h1, rfl⟩) h
theorem meth_start {pl : Sem Bool} {Q : Value × List Value → Shared → Prop} (N : News h₀ L s.heap news) (h1 : (ma, matchObj pa T t lim ta) ∈ news) (h : Q (.builtin "re.Match.start", [.ref ma]) s) :
    wpAny (model prog w) A (getMethod (.ref ma) (Str.ofString "start") pl) Q E s :=
  getMethod_builtin ⟨_, N.get h1, rfl⟩ plain_match slot_start type_start (fun a e => by cases e; exact ⟨_, N.get h1, rfl⟩) h

theorem groups_N {Q : Value → Shared → Prop} (F : Fr h₀ L s.heap m) (N : News h₀ L s.heap news) (h1 : (ma, matchObj pa T t lim ta) ∈ news) (h2 : (ta, spanObj p q e1 e2) ∈ news) (hT : T.cps.size ≤ 100000)
    (h : ∀ (g : Addr) (u v : Tok) (h' : Heap) tk, Fr h₀ L h' m → News h₀ L h' ((g, tupObj #[.str (cutS T p q) u, .str (cutS T e1 e2) v]) :: news) → Q (.ref g) { s with heap := h', toks := tk }) :
    wpAny (model prog w) A (PySem.call (.builtin "re.Match.groups") [.ref ma]) Q E s :=
  groups_ok (N.get h1) (N.get h2) hT (h _ _ _ _ _ (F.push _) (N.push F _))
theorem start_N1 {tk : Tok} {Q : Value → Shared → Prop} (N : News h₀ L s.heap news) (h1 : (ma, matchObj pa T t lim ta) ∈ news) (h2 : (ta, spanObj p q e1 e2) ∈ news)
    (h : ∀ tk', Q (.int (p : Nat) tk') { s with toks := tk' + 1 }) : wpAny (model prog w) A (PySem.call (.builtin "re.Match.start") [.ref ma, .int 1 tk]) Q E s :=
  start_ok 1 (.inl rfl) (N.get h1) (N.get h2) (h _)
theorem start_N2 {tk : Tok} {Q : Value → Shared → Prop} (N : News h₀ L s.heap news) (h1 : (ma, matchObj pa T t lim ta) ∈ news) (h2 : (ta, spanObj p q e1 e2) ∈ news)
    (h : ∀ tk', Q (.int (e1 : Nat) tk') { s with toks := tk' + 1 }) : wpAny (model prog w) A (PySem.call (.builtin "re.Match.start") [.ref ma, .int 2 tk]) Q E s :=
  start_ok 2 (.inr rfl) (N.get h1) (N.get h2) (h _)
end rules

local macro_rules | `(tactic| k_all) => `(tactic| assumption)
local macro_rules | `(tactic| walk_at "getMethod ref") => `(tactic| (k_here; k_dflt (first | (refine' meth_groups ?k1 ?k2 ?_; (case k1 => k_asm); (case k2 => k_mem); k_whole) | (refine' meth_start ?k1 ?k2 ?_; (case k1 => k_asm); (case k2 => k_mem); k_whole))))
local macro_rules | `(tactic| walk_at "call builtin:re.Match.groups") => `(tactic| (k_here; k_dflt (refine' groups_N ?k1 ?k2 ?k3 ?k4 ?k5 ?_; (case k1 => k_asm); (case k2 => k_asm); (case k3 => k_mem); (case k4 => k_mem); (case k5 => assumption); k_whole); intro g' u' v' h' tk' F' N'))
local macro_rules | `(tactic| walk_at "call builtin:re.Match.start") => `(tactic| (k_here; k_dflt (first | (refine' start_N1 ?k1 ?k2 ?k3 ?_; (case k1 => k_asm); (case k2 => k_mem); (case k3 => k_mem); k_whole) | (refine' start_N2 ?k1 ?k2 ?k3 ?_; (case k1 => k_asm); (case k2 => k_mem); (case k3 => k_mem); k_whole)); intro tk'))

/-- the locals of a turn -/
abbrev setM (ma : Addr) (m : Str → Option Value) : Str → Option Value := fun y => if y = Str.ofString "match" then some (.ref ma) else m y
abbrev setB (b c : Str) (u v : Tok) (m : Str → Option Value) : Str → Option Value := fun y => if y = Str.ofString "after" then some (.str c v) else if y = Str.ofString "before" then some (.str b u) else m y

noncomputable def gS (P : Params) (k : Nat) : Stmt := (gLoop P).getD k default
noncomputable def ifT (st : Stmt) : Expr := match st with | .If t _ _ _ => t | _ => default
noncomputable def ifB (st : Stmt) : List Stmt := match st with | .If _ b _ _ => b | _ => default
noncomputable def ifO (st : Stmt) : List Stmt := match st with | .If _ _ o _ => o | _ => default
noncomputable def ifP (st : Stmt) : Pos := match st with | .If _ _ _ p => p | _ => default
noncomputable def yE (l : List Stmt) : Expr := match l with | [.Expr (.Yield (some e) _) _] => e | _ => default
noncomputable def yP (l : List Stmt) : Pos := match l with | [.Expr (.Yield (some _) p) _] => p | _ => default
noncomputable def yQ (l : List Stmt) : Pos := match l with | [.Expr (.Yield (some _) _) p] => p | _ => default
noncomputable def in2 (st : Stmt) : Stmt := (ifO st).headD default
theorem gLoop_eq (P : Params) : gLoop P = [gS P 0, gS P 1, gS P 2] := by rfl
theorem gS1_if (P : Params) : gS P 1 = .If (ifT (gS P 1)) (ifB (gS P 1)) (ifO (gS P 1)) (ifP (gS P 1)) := by rfl
theorem gS1_o (P : Params) : ifO (gS P 1) = [.If (ifT (in2 (gS P 1))) (ifB (in2 (gS P 1))) [] (ifP (in2 (gS P 1)))] := by rfl
theorem gS2_if (P : Params) : gS P 2 = .If (ifT (gS P 2)) (ifB (gS P 2)) (ifO (gS P 2)) (ifP (gS P 2)) := by rfl
theorem gS2_o (P : Params) : ifO (gS P 2) = [.If (ifT (in2 (gS P 2))) (ifB (in2 (gS P 2))) [] (ifP (in2 (gS P 2)))] := by rfl
theorem gS1_y (P : Params) : ifB (gS P 1) = [.Expr (.Yield (some (yE (ifB (gS P 1)))) (yP (ifB (gS P 1)))) (yQ (ifB (gS P 1)))] := by rfl
theorem gS1_y2 (P : Params) : ifB (in2 (gS P 1)) = [.Expr (.Yield (some (yE (ifB (in2 (gS P 1))))) (yP (ifB (in2 (gS P 1))))) (yQ (ifB (in2 (gS P 1))))] := by rfl
theorem gS2_y (P : Params) : ifB (gS P 2) = [.Expr (.Yield (some (yE (ifB (gS P 2)))) (yP (ifB (gS P 2)))) (yQ (ifB (gS P 2)))] := by rfl
theorem gS2_y2 (P : Params) : ifB (in2 (gS P 2)) = [.Expr (.Yield (some (yE (ifB (in2 (gS P 2))))) (yP (ifB (in2 (gS P 2))))) (yQ (ifB (in2 (gS P 2))))] := by rfl

set_option maxHeartbeats 1000000 in
theorem st1 {w : World} {mean : ExcName → Option Value} {mg mb : Str → Option Value}
   {dp un : Nat} {gd : Option (List Code)} {cn : Str} {cs : Scope} {a : Addr} {ccd : Value} {cl : List (Str × Addr)} {outer : List Env} {h₀ : Heap} {L L0 : Addr} {m : Str → Option Value} {s : Shared} {Q : Flow → Shared → Prop} {E : Value → Shared → Prop}
   {ma ta pa : Addr} {T : Str} {t : Tok} {lim p q e1 e2 : Nat} {rest : List (Addr × Obj)}
   (F : Fr h₀ L s.heap (setM ma m)) (X : (hd.heap_39 w.params).In h₀) (TT : Top hd.view_39 Lz mean mg mb h₀)
   (N : News h₀ L s.heap ((ma, matchObj pa T t lim ta) :: (ta, spanObj p q e1 e2) :: rest)) (hT : T.cps.size ≤ 100000)
   (hret : ∀ u v h' tk', Fr h₀ L h' (setB (cutS T p q) (cutS T e1 e2) u v (setM ma m)) → News h₀ L h' ((ma, matchObj pa T t lim ta) :: (ta, spanObj p q e1 e2) :: rest) → Q .next { s with heap := h', toks := tk' }) :
   wpAny (model PySem.Challenge.rw_et5021_01.row.prog w) ((ktrTop dp un gd cn cs L0 a ccd cl outer).deeper (genv w.params L)) (execs [gS w.params 0] (genv w.params L)) Q E s := by
  revert X; k_fill; intro X
  show wpAny _ ((ktrTop dp un gd cn cs L0 a ccd cl outer).deeper (envOf _ _ L 43 _)) (execs [.Assign _ _ _] (envOf _ _ L 43 _)) Q E s
  k_steps
  exact hret _ _ _ _ (by assumption) (News.tail' (by assumption))


set_option maxHeartbeats 1000000 in
theorem tB1 {w : World} {mean : ExcName → Option Value} {mg mb : Str → Option Value}
   {dp un : Nat} {gd : Option (List Code)} {cn : Str} {cs : Scope} {a : Addr} {ccd : Value} {cl : List (Str × Addr)} {outer : List Env} {h₀ : Heap} {L L0 : Addr} {m : Str → Option Value} {s : Shared} {Q : Bool → Shared → Prop} {E : Value → Shared → Prop}
   {b c : Str} {u v : Tok} {rest : List (Addr × Obj)}
   (F : Fr h₀ L s.heap (setB b c u v m)) (X : (hd.heap_39 w.params).In h₀) (TT : Top hd.view_39 Lz mean mg mb h₀)
   (N : News h₀ L s.heap rest) (hb : b.length ≤ 100000) (hc : c.length ≤ 100000) (hret : ∀ tk', Q (tab b) { s with toks := tk' }) :
   wpAny (model PySem.Challenge.rw_et5021_01.row.prog w) ((ktrTop dp un gd cn cs L0 a ccd cl outer).deeper (genv w.params L)) (isTrue (ifT (gS w.params 1)) (genv w.params L) (eval (ifT (gS w.params 1)) (genv w.params L))) Q E s := by
  revert X; k_fill; intro X
  show wpAny _ ((ktrTop dp un gd cn cs L0 a ccd cl outer).deeper (envOf _ _ L 43 _)) (isTrue (.Compare _ _ _ _) (envOf _ _ L 43 _) (eval (.Compare _ _ _ _) (envOf _ _ L 43 _))) Q E s
  k_steps
  exact hret _

set_option maxHeartbeats 1000000 in
theorem tB2 {w : World} {mean : ExcName → Option Value} {mg mb : Str → Option Value}
   {dp un : Nat} {gd : Option (List Code)} {cn : Str} {cs : Scope} {a : Addr} {ccd : Value} {cl : List (Str × Addr)} {outer : List Env} {h₀ : Heap} {L L0 : Addr} {m : Str → Option Value} {s : Shared} {Q : Bool → Shared → Prop} {E : Value → Shared → Prop}
   {b c : Str} {u v : Tok} {rest : List (Addr × Obj)}
   (F : Fr h₀ L s.heap (setB b c u v m)) (X : (hd.heap_39 w.params).In h₀) (TT : Top hd.view_39 Lz mean mg mb h₀)
   (N : News h₀ L s.heap rest) (hb : b.length ≤ 100000) (hc : c.length ≤ 100000) (hret : ∀ tk', Q (decide ((1 : Int) < b.length)) { s with toks := tk' }) :
   wpAny (model PySem.Challenge.rw_et5021_01.row.prog w) ((ktrTop dp un gd cn cs L0 a ccd cl outer).deeper (genv w.params L)) (isTrue (ifT (in2 (gS w.params 1))) (genv w.params L) (eval (ifT (in2 (gS w.params 1))) (genv w.params L))) Q E s := by
  revert X; k_fill; intro X
  show wpAny _ ((ktrTop dp un gd cn cs L0 a ccd cl outer).deeper (envOf _ _ L 43 _)) (isTrue (.Compare _ _ _ _) (envOf _ _ L 43 _) (eval (.Compare _ _ _ _) (envOf _ _ L 43 _))) Q E s
  k_steps
  exact hret _

set_option maxHeartbeats 1000000 in
theorem tA1 {w : World} {mean : ExcName → Option Value} {mg mb : Str → Option Value}
   {dp un : Nat} {gd : Option (List Code)} {cn : Str} {cs : Scope} {a : Addr} {ccd : Value} {cl : List (Str × Addr)} {outer : List Env} {h₀ : Heap} {L L0 : Addr} {m : Str → Option Value} {s : Shared} {Q : Bool → Shared → Prop} {E : Value → Shared → Prop}
   {b c : Str} {u v : Tok} {rest : List (Addr × Obj)}
   (F : Fr h₀ L s.heap (setB b c u v m)) (X : (hd.heap_39 w.params).In h₀) (TT : Top hd.view_39 Lz mean mg mb h₀)
   (N : News h₀ L s.heap rest) (hb : b.length ≤ 100000) (hc : c.length ≤ 100000) (hret : ∀ tk', Q (tab c) { s with toks := tk' }) :
   wpAny (model PySem.Challenge.rw_et5021_01.row.prog w) ((ktrTop dp un gd cn cs L0 a ccd cl outer).deeper (genv w.params L)) (isTrue (ifT (gS w.params 2)) (genv w.params L) (eval (ifT (gS w.params 2)) (genv w.params L))) Q E s := by
  revert X; k_fill; intro X
  show wpAny _ ((ktrTop dp un gd cn cs L0 a ccd cl outer).deeper (envOf _ _ L 43 _)) (isTrue (.Compare _ _ _ _) (envOf _ _ L 43 _) (eval (.Compare _ _ _ _) (envOf _ _ L 43 _))) Q E s
  k_steps
  exact hret _

set_option maxHeartbeats 1000000 in
theorem tA2 {w : World} {mean : ExcName → Option Value} {mg mb : Str → Option Value}
   {dp un : Nat} {gd : Option (List Code)} {cn : Str} {cs : Scope} {a : Addr} {ccd : Value} {cl : List (Str × Addr)} {outer : List Env} {h₀ : Heap} {L L0 : Addr} {m : Str → Option Value} {s : Shared} {Q : Bool → Shared → Prop} {E : Value → Shared → Prop}
   {b c : Str} {u v : Tok} {rest : List (Addr × Obj)}
   (F : Fr h₀ L s.heap (setB b c u v m)) (X : (hd.heap_39 w.params).In h₀) (TT : Top hd.view_39 Lz mean mg mb h₀)
   (N : News h₀ L s.heap rest) (hb : b.length ≤ 100000) (hc : c.length ≤ 100000) (hret : ∀ tk', Q (decide ((1 : Int) < c.length)) { s with toks := tk' }) :
   wpAny (model PySem.Challenge.rw_et5021_01.row.prog w) ((ktrTop dp un gd cn cs L0 a ccd cl outer).deeper (genv w.params L)) (isTrue (ifT (in2 (gS w.params 2))) (genv w.params L) (eval (ifT (in2 (gS w.params 2))) (genv w.params L))) Q E s := by
  revert X; k_fill; intro X
  show wpAny _ ((ktrTop dp un gd cn cs L0 a ccd cl outer).deeper (envOf _ _ L 43 _)) (isTrue (.Compare _ _ _ _) (envOf _ _ L 43 _) (eval (.Compare _ _ _ _) (envOf _ _ L 43 _))) Q E s
  k_steps
  exact hret _

set_option maxHeartbeats 1000000 in
theorem yB1 {w : World} {mean : ExcName → Option Value} {mg mb : Str → Option Value}
   {dp un : Nat} {gd : Option (List Code)} {cn : Str} {cs : Scope} {a : Addr} {ccd : Value} {cl : List (Str × Addr)} {outer : List Env} {h₀ : Heap} {L L0 : Addr} {m : Str → Option Value} {s : Shared} {Q : Value → Shared → Prop} {E : Value → Shared → Prop}
   {ma ta pa : Addr} {T : Str} {t : Tok} {lim p q e1 e2 : Nat} {b c : Str} {u v : Tok} {rest : List (Addr × Obj)}
   (F : Fr h₀ L s.heap (setB b c u v (setM ma m))) (X : (hd.heap_39 w.params).In h₀) (TT : Top hd.view_39 Lz mean mg mb h₀)
   (N : News h₀ L s.heap ((ma, matchObj pa T t lim ta) :: (ta, spanObj p q e1 e2) :: rest))
   (hret : ∀ (g : Addr) (x y : Tok) (h' : Heap) tk', Fr h₀ L h' (setB b c u v (setM ma m)) → News h₀ L h' ((g, tupObj #[.int (p : Nat) x, .str m274 y]) :: (ma, matchObj pa T t lim ta) :: (ta, spanObj p q e1 e2) :: rest) → Q (.ref g) { s with heap := h', toks := tk' }) :
   wpAny (model PySem.Challenge.rw_et5021_01.row.prog w) ((ktrTop dp un gd cn cs L0 a ccd cl outer).deeper (genv w.params L)) (eval (yE (ifB (gS w.params 1))) (genv w.params L)) Q E s := by
  revert X; k_fill; intro X
  show wpAny _ ((ktrTop dp un gd cn cs L0 a ccd cl outer).deeper (envOf _ _ L 43 _)) (eval (.Tuple _ _ _) (envOf _ _ L 43 _)) Q E s
  k_steps
  exact hret _ _ _ _ _ (by assumption) (by assumption)

set_option maxHeartbeats 1000000 in
theorem yB2 {w : World} {mean : ExcName → Option Value} {mg mb : Str → Option Value}
   {dp un : Nat} {gd : Option (List Code)} {cn : Str} {cs : Scope} {a : Addr} {ccd : Value} {cl : List (Str × Addr)} {outer : List Env} {h₀ : Heap} {L L0 : Addr} {m : Str → Option Value} {s : Shared} {Q : Value → Shared → Prop} {E : Value → Shared → Prop}
   {ma ta pa : Addr} {T : Str} {t : Tok} {lim p q e1 e2 : Nat} {b c : Str} {u v : Tok} {rest : List (Addr × Obj)}
   (F : Fr h₀ L s.heap (setB b c u v (setM ma m))) (X : (hd.heap_39 w.params).In h₀) (TT : Top hd.view_39 Lz mean mg mb h₀)
   (N : News h₀ L s.heap ((ma, matchObj pa T t lim ta) :: (ta, spanObj p q e1 e2) :: rest))
   (hret : ∀ (g : Addr) (x y : Tok) (h' : Heap) tk', Fr h₀ L h' (setB b c u v (setM ma m)) → News h₀ L h' ((g, tupObj #[.int (p : Nat) x, .str m272 y]) :: (ma, matchObj pa T t lim ta) :: (ta, spanObj p q e1 e2) :: rest) → Q (.ref g) { s with heap := h', toks := tk' }) :
   wpAny (model PySem.Challenge.rw_et5021_01.row.prog w) ((ktrTop dp un gd cn cs L0 a ccd cl outer).deeper (genv w.params L)) (eval (yE (ifB (in2 (gS w.params 1)))) (genv w.params L)) Q E s := by
  revert X; k_fill; intro X
  show wpAny _ ((ktrTop dp un gd cn cs L0 a ccd cl outer).deeper (envOf _ _ L 43 _)) (eval (.Tuple _ _ _) (envOf _ _ L 43 _)) Q E s
  k_steps
  exact hret _ _ _ _ _ (by assumption) (by assumption)

set_option maxHeartbeats 1000000 in
theorem yA1 {w : World} {mean : ExcName → Option Value} {mg mb : Str → Option Value}
   {dp un : Nat} {gd : Option (List Code)} {cn : Str} {cs : Scope} {a : Addr} {ccd : Value} {cl : List (Str × Addr)} {outer : List Env} {h₀ : Heap} {L L0 : Addr} {m : Str → Option Value} {s : Shared} {Q : Value → Shared → Prop} {E : Value → Shared → Prop}
   {ma ta pa : Addr} {T : Str} {t : Tok} {lim p q e1 e2 : Nat} {b c : Str} {u v : Tok} {rest : List (Addr × Obj)}
   (F : Fr h₀ L s.heap (setB b c u v (setM ma m))) (X : (hd.heap_39 w.params).In h₀) (TT : Top hd.view_39 Lz mean mg mb h₀)
   (N : News h₀ L s.heap ((ma, matchObj pa T t lim ta) :: (ta, spanObj p q e1 e2) :: rest))
   (hret : ∀ (g : Addr) (x y : Tok) (h' : Heap) tk', Fr h₀ L h' (setB b c u v (setM ma m)) → News h₀ L h' ((g, tupObj #[.int (e1 : Nat) x, .str m273 y]) :: (ma, matchObj pa T t lim ta) :: (ta, spanObj p q e1 e2) :: rest) → Q (.ref g) { s with heap := h', toks := tk' }) :
   wpAny (model PySem.Challenge.rw_et5021_01.row.prog w) ((ktrTop dp un gd cn cs L0 a ccd cl outer).deeper (genv w.params L)) (eval (yE (ifB (gS w.params 2))) (genv w.params L)) Q E s := by
  revert X; k_fill; intro X
  show wpAny _ ((ktrTop dp un gd cn cs L0 a ccd cl outer).deeper (envOf _ _ L 43 _)) (eval (.Tuple _ _ _) (envOf _ _ L 43 _)) Q E s
  k_steps
  exact hret _ _ _ _ _ (by assumption) (by assumption)

set_option maxHeartbeats 1000000 in
theorem yA2 {w : World} {mean : ExcName → Option Value} {mg mb : Str → Option Value}
   {dp un : Nat} {gd : Option (List Code)} {cn : Str} {cs : Scope} {a : Addr} {ccd : Value} {cl : List (Str × Addr)} {outer : List Env} {h₀ : Heap} {L L0 : Addr} {m : Str → Option Value} {s : Shared} {Q : Value → Shared → Prop} {E : Value → Shared → Prop}
   {ma ta pa : Addr} {T : Str} {t : Tok} {lim p q e1 e2 : Nat} {b c : Str} {u v : Tok} {rest : List (Addr × Obj)}
   (F : Fr h₀ L s.heap (setB b c u v (setM ma m))) (X : (hd.heap_39 w.params).In h₀) (TT : Top hd.view_39 Lz mean mg mb h₀)
   (N : News h₀ L s.heap ((ma, matchObj pa T t lim ta) :: (ta, spanObj p q e1 e2) :: rest))
   (hret : ∀ (g : Addr) (x y : Tok) (h' : Heap) tk', Fr h₀ L h' (setB b c u v (setM ma m)) → News h₀ L h' ((g, tupObj #[.int (e1 : Nat) x, .str m271 y]) :: (ma, matchObj pa T t lim ta) :: (ta, spanObj p q e1 e2) :: rest) → Q (.ref g) { s with heap := h', toks := tk' }) :
   wpAny (model PySem.Challenge.rw_et5021_01.row.prog w) ((ktrTop dp un gd cn cs L0 a ccd cl outer).deeper (genv w.params L)) (eval (yE (ifB (in2 (gS w.params 2)))) (genv w.params L)) Q E s := by
  revert X; k_fill; intro X
  show wpAny _ ((ktrTop dp un gd cn cs L0 a ccd cl outer).deeper (envOf _ _ L 43 _)) (eval (.Tuple _ _ _) (envOf _ _ L 43 _)) Q E s
  k_steps
  exact hret _ _ _ _ _ (by assumption) (by assumption)

end Mine
end

section
open PySem PySem.W PyProof.Rows
local macro_rules | `(tactic| walk_at "again0") => `(tactic| skip)
local macro_rules | `(tactic| walk_at "again1") => `(tactic| skip)
local macro_rules | `(tactic| walk_at "again2") => `(tactic| skip)
local macro_rules | `(tactic| walk_at "again3") => `(tactic| skip)
local macro_rules | `(tactic| walk_at "again4") => `(tactic| skip)
local macro_rules | `(tactic| walk_at "again5") => `(tactic| skip)
local macro_rules | `(tactic| walk_at "again6") => `(tactic| skip)
local macro_rules | `(tactic| walk_at "again7") => `(tactic| skip)
local macro_rules | `(tactic| walk_at "again8") => `(tactic| skip)
local macro_rules | `(tactic| walk_at "again9") => `(tactic| skip)
local macro_rules | `(tactic| walk_at "again10") => `(tactic| skip)
local macro_rules | `(tactic| walk_at "again11") => `(tactic| skip)
local macro_rules | `(tactic| walk_at "again12") => `(tactic| skip)
local macro_rules | `(tactic| walk_at "again13") => `(tactic| skip)
local macro_rules | `(tactic| walk_at "again14") => `(tactic| skip)
local macro_rules | `(tactic| walk_at "again15") => `(tactic| skip)
local macro_rules | `(tactic| walk_at "again16") => `(tactic| skip)
local macro_rules | `(tactic| walk_at "again17") => `(tactic| skip)
local macro_rules | `(tactic| walk_at "again18") => `(tactic| skip)
local macro_rules | `(tactic| walk_at "again19") => `(tactic| skip)
theorem Mine.again_G3 : True := by
  w_top off
  try (walk1; fail)
  trivial
end

section
open PySem PySem.W PyProof.Rows PySem.Calls
set_option Elab.async false
set_option pp.deepTerms false
set_option pp.deepTerms.threshold 8
set_option linter.unusedVariables false
set_option maxRecDepth 100000
namespace Mine

noncomputable def cObj (P : Params) : Obj := ((hd.heap_39 P).lookup 35).getD default
noncomputable def cVs (P : Params) : Array Value := match (cObj P).data with | .seq vs _ => vs | _ => #[]
theorem cObj_eq (P : Params) : (hd.heap_39 P).lookup 35 = some (cObj P) := by rfl
theorem cVs_eq (P : Params) : ∃ n, (cObj P).data = .seq (cVs P) n := ⟨_, by rfl⟩
theorem cVs_const (P P' : Params) : cVs P = cVs P' := by rfl
theorem cVs_code (P : Params) : ((cVs P).map Builtin.Re.reRawOf).map (·.toNat) = reCode := by
  apply Array.ext'
  rw [Array.toList_map, Array.toList_map]
  kernel_rfl
theorem pat_look (P : Params) : ∃ v0 v1 v3 v4, (hd.heap_39 P).lookup 36 = some { cls := .type "re.Pattern", data := .fields #[v0, v1, .int 2 0, v3, v4, .ref 35, .int 0 0] } := ⟨_, _, _, _, by rfl⟩
theorem pat_of {P : Params} {h : Heap} (X : (hd.heap_39 P).In h) : PatAt h 36 35 reCode := by
  obtain ⟨v0, v1, v3, v4, hp⟩ := pat_look P
  obtain ⟨n, hn⟩ := cVs_eq P
  exact ⟨⟨v0, v1, v3, v4, X _ _ hp⟩, ⟨_, _, _, X _ _ (cObj_eq P), hn, cVs_code P⟩⟩

section rules
variable {prog : Program} {w : World} {A : Around} {E : Value → Shared → Prop} {s : Shared} {h₀ : Heap} {L : Addr} {m : Str → Option Value} {news : List (Addr × Obj)} {cd : Array Nat}

theorem meth_finditer {P : Params} {pl : Sem Bool} {Q : Value × List Value → Shared → Prop} (F : Fr h₀ L s.heap m) (X : (hd.heap_39 P).In h₀) (h : Q (.builtin "re.Pattern.finditer", [.ref 36]) s) :
    wpAny (model prog w) A (getMethod (.ref 36) (Str.ofString "finditer") pl) Q E s := by
  obtain ⟨v0, v1, v3, v4, hp⟩ := (pat_of (X.keeps F.keep)).pat
  exact getMethod_builtin ⟨_, hp, rfl⟩ plain_pattern slot_finditer type_finditer (fun a e => by cases e; exact ⟨_, hp, rfl⟩) h

theorem finditer_N {P : Params} {T : Str} {t : Tok} {Q : Value → Shared → Prop} (F : Fr h₀ L s.heap m) (X : (hd.heap_39 P).In h₀) (N : News h₀ L s.heap news) (hT : T.cps.size ≤ 100000)
    (h : ∀ (I BM SC : Addr) (h' : Heap) tk, Fr h₀ L h' m → News h₀ L h' ((I, ciObj BM) :: (BM, bmObj SC) :: (SC, scObj 36 T t 0 T.cps.size) :: news) → Q (.ref I) { s with heap := h', toks := tk }) :
    wpAny (model prog w) A (PySem.call (.builtin "re.Pattern.finditer") [.ref 36, .str T t]) Q E s := by
  refine finditer_ok (pat_of (X.keeps F.keep)) hT ?_
  have N1 := N.push F (scObj 36 T t 0 T.cps.size)
  have F1 := F.push (scObj 36 T t 0 T.cps.size)
  have N2 := N1.push F1 (bmObj s.heap.objs.size)
  have F2 := F1.push (bmObj s.heap.objs.size)
  have N3 := N2.push F2 (ciObj (s.heap.objs.size + 1))
  have z1 : (s.heap.push (scObj 36 T t 0 T.cps.size)).objs.size = s.heap.objs.size + 1 := Heap.size_push ..
  have z2 : ((s.heap.push (scObj 36 T t 0 T.cps.size)).push (bmObj s.heap.objs.size)).objs.size = s.heap.objs.size + 2 := by rw [Heap.size_push, z1]
  rw [z1, z2] at N3
  exact h _ _ _ _ _ (F2.push _) N3

theorem pyIter_ci {I BM : Addr} {Q : Value → Shared → Prop} (N : News h₀ L s.heap news) (hm : (I, ciObj BM) ∈ news) (h : Q (.ref I) s) : wpAny (model prog w) A (pyIter (.ref I)) Q E s := by
  have hT : s.TypeIs (.ref I) "callable_iterator" := ⟨_, N.get hm, rfl⟩
  refine wpAny_pyIter_slot hT slot_ci_iter (wpAny_call_entry slot_ci_iter hT entry_ci_iter ?_ (args_ci_iter _))
  show wpAny _ _ (ret (.ref I)) _ _ s
  exact wpAny_pure ⟨_, rfl, "callable_iterator", _, hT, slot_ci_next.lookup, h⟩
end rules

local macro_rules | `(tactic| k_all) => `(tactic| assumption)
local macro_rules | `(tactic| walk_at "getMethod ref") => `(tactic| (k_here; (with_reducible show wpAny _ _ (getMethod (Value.ref 36) _ _) _ _ _); k_dflt (refine' meth_finditer ?k1 ?k2 ?_; (case k1 => k_asm); (case k2 => k_asm); k_whole)))
local macro_rules | `(tactic| walk_at "call builtin:re.Pattern.finditer") => `(tactic| (k_here; k_dflt (refine' finditer_N ?k1 ?k2 ?k3 ?k4 ?_; (case k1 => k_asm); (case k2 => k_asm); (case k3 => k_asm); (case k4 => assumption); k_whole); intro I' BM' SC' h' tk' F' N'))

set_option maxHeartbeats 1000000 in
theorem it_ok {w : World} {mean : ExcName → Option Value} {mg mb : Str → Option Value}
   {dp un : Nat} {gd : Option (List Code)} {cn : Str} {cs : Scope} {a : Addr} {ccd : Value} {cl : List (Str × Addr)} {outer : List Env} {h₀ : Heap} {L L0 : Addr} {s : Shared} {Q : Value → Shared → Prop} {E : Value → Shared → Prop}
   {T : Str} {t : Tok} {rest : List (Addr × Obj)}
   (F : Fr h₀ L s.heap (fun x => [(Str.ofString "logical_line", Value.str T t)].reverse.lookup x)) (X : (hd.heap_39 w.params).In h₀) (TT : Top hd.view_39 Lz mean mg mb h₀)
   (N : News h₀ L s.heap rest) (hT : T.cps.size ≤ 100000)
   (hret : ∀ (I BM SC : Addr) (h' : Heap) tk', Fr h₀ L h' (fun x => [(Str.ofString "logical_line", Value.str T t)].reverse.lookup x) → News h₀ L h' ((I, ciObj BM) :: (BM, bmObj SC) :: (SC, scObj 36 T t 0 T.cps.size) :: rest) → Q (.ref I) { s with heap := h', toks := tk' }) :
   wpAny (model PySem.Challenge.rw_et5021_01.row.prog w) ((ktrTop dp un gd cn cs L0 a ccd cl outer).deeper (genv w.params L)) (eval (gIter w.params) (genv w.params L)) Q E s := by
  revert X; k_fill; intro X
  show wpAny _ ((ktrTop dp un gd cn cs L0 a ccd cl outer).deeper (envOf _ _ L 43 _)) (eval (.Call _ _ _ _) (envOf _ _ L 43 _)) Q E s
  k_steps
  exact hret _ _ _ _ _ (by assumption) (by assumption)

set_option maxHeartbeats 1000000 in
theorem as_ok {w : World} {mean : ExcName → Option Value} {mg mb : Str → Option Value}
   {dp un : Nat} {gd : Option (List Code)} {cn : Str} {cs : Scope} {a : Addr} {ccd : Value} {cl : List (Str × Addr)} {outer : List Env} {h₀ : Heap} {L L0 : Addr} {m : Str → Option Value} {s : Shared} {Q : Unit → Shared → Prop} {E : Value → Shared → Prop}
   {ma : Addr} {rest : List (Addr × Obj)}
   (F : Fr h₀ L s.heap m) (X : (hd.heap_39 w.params).In h₀) (TT : Top hd.view_39 Lz mean mg mb h₀) (N : News h₀ L s.heap rest)
   (hret : ∀ (h' : Heap) tk', Fr h₀ L h' (setM ma m) → News h₀ L h' rest → Q () { s with heap := h', toks := tk' }) :
   wpAny (model PySem.Challenge.rw_et5021_01.row.prog w) ((ktrTop dp un gd cn cs L0 a ccd cl outer).deeper (genv w.params L)) (assign (gTarget w.params) (genv w.params L) (.ref ma)) Q E s := by
  revert X; k_fill; intro X
  show wpAny _ ((ktrTop dp un gd cn cs L0 a ccd cl outer).deeper (envOf _ _ L 43 _)) (assign (.Name _ _) (envOf _ _ L 43 _) (.ref ma)) Q E s
  k_steps
  exact hret _ _ (by assumption) (by assumption)
end Mine
end

section
open PySem PySem.W PyProof.Rows PySem.Calls
set_option Elab.async false
set_option pp.deepTerms false
set_option pp.deepTerms.threshold 8
set_option linter.unusedVariables false
set_option maxRecDepth 100000
namespace Mine

/-- the scan of a text: the matches from a place on -/
inductive Scan (T : Array Nat) : Nat → List (Nat × Nat × Nat × Nat) → Prop
  | none {st : Nat} : (∀ x, st ≤ x → x ≤ T.size → noHit T x) → Scan T st []
  | some {st a q : Nat} {W : List Nat} {rest : List (Nat × Nat × Nat × Nat)} : st ≤ a → a + wsN T a = q → bd T q = true → kwC.find? (hit T q) = some W → 2 ≤ W.length → q + W.length ≤ T.size →
      (∀ x, st ≤ x → x < q → noHit T x) → (∀ x, st ≤ x → x < a → x + wsN T x < q) → Scan T (q + W.length + wsN T (q + W.length)) rest →
      Scan T st ((a, q, q + W.length, q + W.length + wsN T (q + W.length)) :: rest)

def yOf (T : Str) (x : Nat × Nat × Nat × Nat) : List (Int × Str) := gapMsg (cutS T x.1 x.2.1) x.1 m274 m272 ++ gapMsg (cutS T x.2.2.1 x.2.2.2) x.2.2.1 m273 m271
def yAll (T : Str) (ms : List (Nat × Nat × Nat × Nat)) : List (Int × Str) := ms.flatMap (yOf T)

/-- the objects that outlive a segment: sequences and generators -/
def listy (o : Obj) : Bool := match o.data with
  | .seq _ _ => true
  | .fields _ => o.cls == .type "generator"
  | _ => false
def Keep (h h' : Heap) : Prop := ∀ b o, listy o = true → h.get? b = some o → h'.get? b = some o
theorem Keep.refl (h : Heap) : Keep h h := fun _ _ _ e => e
theorem Keep.trans {h h' h'' : Heap} (x : Keep h h') (y : Keep h' h'') : Keep h h'' := fun b o l e => y b o l (x b o l e)

def fullRest (hb : Heap) (L : Addr) (h : Heap) : List (Addr × Obj) := (List.range h.objs.size).filterMap fun b => match h.get? b with
  | some o => if (hb.get? b).isNone && b != L && listy o then some (b, o) else none
  | none => none
theorem mem_full {hb h : Heap} {L b : Addr} {o : Obj} : (b, o) ∈ fullRest hb L h ↔ h.get? b = some o ∧ hb.get? b = none ∧ b ≠ L ∧ listy o = true := by
  unfold fullRest
  rw [List.mem_filterMap]
  constructor
  · rintro ⟨x, hx, e⟩
    cases hg : h.get? x with
    | none => rw [hg] at e; cases e
    | some o' =>
      rw [hg] at e
      dsimp only at e
      split at e
      · rename_i hc
        cases e
        simp only [Bool.and_eq_true, Option.isNone_iff_eq_none, bne_iff_ne, ne_eq] at hc
        exact ⟨hg, hc.1.1, hc.1.2, hc.2⟩
      · cases e
  · rintro ⟨h1, h2, h3, h4⟩
    refine ⟨b, List.mem_range.mpr (Heap.lt_size h1), ?_⟩
    rw [h1]
    simp [h2, h3, h4]
theorem full_news {hb h : Heap} {L : Addr} : News hb L h (fullRest hb L h) := fun p hp => by
  obtain ⟨h1, h2, h3, _⟩ := mem_full.mp hp
  exact ⟨h1, h3, h2⟩
theorem keep_of {hb h h' : Heap} {L : Addr} {m m' : Str → Option Value} {own : List (Addr × Obj)} (F : Fr hb L h m) (F' : Fr hb L h' m') (N : News hb L h' (own ++ fullRest hb L h)) : Keep h h' := by
  intro b o hl e
  cases hq : hb.get? b with
  | some o' =>
    have := F.keep b o' hq
    rw [e] at this
    cases this
    exact F'.keep b _ hq
  | none =>
    by_cases hb' : b = L
    · subst hb'
      obtain ⟨oL, es, ep, hL, hd, _⟩ := F.ns
      rw [e] at hL
      cases hL
      unfold listy at hl
      rw [hd] at hl
      cases hl
    · exact (N _ (List.mem_append_right _ (mem_full.mpr ⟨e, hq, hb', hl⟩))).1

/-- what the consumer may do between two segments: write one list -/
structure After (hb : Heap) (s s'' : Shared) : Prop where
  one : ∃ S o, (∃ vs n, o.data = .seq vs n) ∧ o.cls = .type "list" ∧ s.heap.get? S = some o ∧ hb.get? S = none ∧ ∀ b o, b ≠ S → s.heap.get? b = some o → s''.heap.get? b = some o
  os : s''.os = s.os

theorem After.fr {hb : Heap} {s s'' : Shared} {L : Addr} {m : Str → Option Value} (x : After hb s s'') (F : Fr hb L s.heap m) : Fr hb L s''.heap m := by
  obtain ⟨S, o, ⟨vs, n, hd⟩, _, hS, hbS, hk⟩ := x.one
  obtain ⟨oL, es, ep, hL, hdL, hr⟩ := F.ns
  have hne : L ≠ S := fun e => by subst e; rw [hS] at hL; cases hL; rw [hd] at hdL; cases hdL
  exact ⟨⟨oL, es, ep, hk L oL hne hL, hdL, hr⟩, fun b o' e => hk b o' (fun q => by subst q; rw [hbS] at e; cases e) (F.keep b o' e), F.above⟩
theorem After.news {hb : Heap} {s s'' : Shared} {L : Addr} {news : List (Addr × Obj)} (x : After hb s s'') (N : News hb L s.heap news) (hc : ∀ p ∈ news, p.2.cls ≠ .type "list") : News hb L s''.heap news := fun p hp => by
  obtain ⟨S, o, _, hcl, hS, _, hk⟩ := x.one
  obtain ⟨h1, h2, h3⟩ := N p hp
  exact ⟨hk p.1 p.2 (fun e => by rw [e, hS] at h1; cases h1; exact hc p hp hcl) h1, h2, h3⟩
end Mine
end

section
open PySem PySem.W PyProof.Rows PySem.Calls
set_option Elab.async false
set_option pp.deepTerms false
set_option pp.deepTerms.threshold 8
set_option linter.unusedVariables false
set_option maxRecDepth 100000
namespace Mine

def Kept (hb : Heap) (s₀ s : Shared) : Prop := Keep s₀.heap s.heap ∧ (∀ b o, hb.get? b = some o → s.heap.get? b = some o) ∧ s.gens = s₀.gens ∧ s.os = s₀.os
abbrev PGen (hb : Heap) : Nat → Shared → Shared → Prop := fun n s₀ s => n = 0 ∧ Kept hb s₀ s
abbrev RGen (hb : Heap) : GenEnd := fun n s₀ r s => r = .ok (.ret .none) ∧ PGen hb n s₀ s
def YGen (hb : Heap) (items : List (Int × Str)) : Protocol := fun n s₀ v s kap =>
  ∃ (ta : Addr) (i : Int) (msg : Str) (u1 u2 : Tok), v = .ref ta ∧ items[items.length - 1 - n]? = some (i, msg) ∧ n < items.length ∧ s.heap.get? ta = some (tupObj #[.int i u1, .str msg u2]) ∧ hb.get? ta = none ∧
    Kept hb s₀ s ∧ ∀ s'', After hb s s'' → kap (.send .none) s''

section stage
variable {prog : Program} {w : World} {AG AX : Around} {hb : Heap} {items : List (Int × Str)} {env : Env} {c : Code} {fs : List Frame} {K : Flow → Sem Fin} {H : Value → Sem Fin}
  {t1 t2 e1 e2 : Expr} {p1 p2 y1 y2 x1 x2 : Pos} {g : Str} {i : Int} {msg1 msg2 : Str} {St : Shared → Shared → Prop}

theorem stage_if (hf : cleanF fs) (hc : isCI c = false) (hfs : splitAtGen fs = none) (hfg : fs.any Frame.guarded = false) (hA : AG.over c fs = AX) (hco : env.scope.isCoroutine = false) (hi : interactive env = false)
    (hT1 : ∀ s₀ s, St s₀ s → wpAny (model prog w) AX (isTrue t1 env (eval t1 env)) (fun b s' => b = tab g ∧ St s₀ s') (fun _ _ => False) s)
    (hT2 : ∀ s₀ s, St s₀ s → wpAny (model prog w) AX (isTrue t2 env (eval t2 env)) (fun b s' => b = decide ((1 : Int) < g.length) ∧ St s₀ s') (fun _ _ => False) s)
    (hY1 : ∀ s₀ s, St s₀ s → wpAny (model prog w) AX (eval e1 env) (fun v s' => ∃ (ta : Addr) (u1 u2 : Tok), v = .ref ta ∧ s'.heap.get? ta = some (tupObj #[.int i u1, .str msg1 u2]) ∧ hb.get? ta = none ∧ St s₀ s') (fun _ _ => False) s)
    (hY2 : ∀ s₀ s, St s₀ s → wpAny (model prog w) AX (eval e2 env) (fun v s' => ∃ (ta : Addr) (u1 u2 : Tok), v = .ref ta ∧ s'.heap.get? ta = some (tupObj #[.int i u1, .str msg2 u2]) ∧ hb.get? ta = none ∧ St s₀ s') (fun _ _ => False) s)
    (hK : ∀ s₀ s, St s₀ s → Kept hb s₀ s) (hAf : ∀ s₀ s s'', St s₀ s → After hb s s'' → St s'' s'')
    (n : Nat) (hn : n + (gapMsg g i msg1 msg2).length ≤ items.length) (hit : ∀ x ∈ gapMsg g i msg1 msg2, items[items.length - 1 - n]? = some x)
    (next : ∀ s₀ s, St s₀ s → SegC prog w AG (RGen hb) (YGen hb items) n s₀ c (K .next) fs s) (s₀ s : Shared) (h : St s₀ s) :
    SegC prog w AG (RGen hb) (YGen hb items) (n + (gapMsg g i msg1 msg2).length) s₀ c
      ((exec (.If t1 [.Expr (.Yield (some e1) y1) x1] [.If t2 [.Expr (.Yield (some e2) y2) x2] [] p2] p1) env).wrap K H id id) fs s := by
  refine segC_If hf hc ?_
  rw [hA]
  refine wpAny_mono (hT1 s₀ s h) (fun b s' hb' => ?_) fun _ _ x => x
  obtain ⟨rfl, h'⟩ := hb'
  cases ht : tab g with
  | true =>
    have hg : gapMsg g i msg1 msg2 = [(i, msg1)] := by unfold gapMsg; rw [if_pos ht]
    rw [if_pos rfl]
    rw [hg] at hit hn ⊢
    refine segC_cons (segC_Yield hf hc hfs rfl hfg ?_ hco hi)
    rw [hA]
    refine wpAny_mono (hY1 s₀ s' h') (fun v s₁ hv => ?_) fun _ _ x => x
    obtain ⟨ta, u1, u2, rfl, g1, g2, h1⟩ := hv
    intro kap hk
    exact ⟨ta, i, msg1, u1, u2, rfl, hit _ (List.mem_singleton.mpr rfl), by simp at hn; omega, g1, g2, hK _ _ h1, fun s'' af => hk s'' (next _ _ (hAf _ _ _ h1 af))⟩
  | false =>
    rw [if_neg (by exact Bool.false_ne_true)]
    refine segC_cons (segC_If hf hc ?_)
    rw [hA]
    refine wpAny_mono (hT2 s₀ s' h') (fun b s₁ hb1 => ?_) fun _ _ x => x
    obtain ⟨rfl, h1⟩ := hb1
    by_cases hl : 1 < g.length
    · have hg : gapMsg g i msg1 msg2 = [(i, msg2)] := by unfold gapMsg; rw [if_neg (by rw [ht]; exact Bool.false_ne_true), if_pos hl]
      rw [if_pos (decide_eq_true (by omega))]
      rw [hg] at hit hn ⊢
      refine segC_cons (segC_Yield hf hc hfs rfl hfg ?_ hco hi)
      rw [hA]
      refine wpAny_mono (hY2 s₀ s₁ h1) (fun v s₂ hv => ?_) fun _ _ x => x
      obtain ⟨ta, u1, u2, rfl, g1, g2, h2⟩ := hv
      intro kap hk
      exact ⟨ta, i, msg2, u1, u2, rfl, hit _ (List.mem_singleton.mpr rfl), by simp at hn; omega, g1, g2, hK _ _ h2, fun s'' af => hk s'' (next _ _ (hAf _ _ _ h2 af))⟩
    · have hg : gapMsg g i msg1 msg2 = [] := by unfold gapMsg; rw [if_neg (by rw [ht]; exact Bool.false_ne_true), if_neg hl]
      rw [if_neg (by rw [decide_eq_true_eq]; omega)]
      rw [hg]
      exact next _ _ h1
end stage
end Mine
end

section
open PySem PySem.W PyProof.Rows PySem.Calls
set_option Elab.async false
set_option pp.deepTerms false
set_option pp.deepTerms.threshold 8
set_option linter.unusedVariables false
set_option maxRecDepth 100000
namespace Mine

/-- the iterator's three objects in the ledger -/
abbrev itLed (I BM SC : Addr) (T : Str) (t : Tok) (st : Nat) : List (Addr × Obj) := [(I, ciObj BM), (BM, bmObj SC), (SC, scObj 36 T t st T.cps.size)]
/-- the state at the loop's head -/
def StH (hb : Heap) (L I BM SC : Addr) (T : Str) (t : Tok) (st : Nat) (s₀ s : Shared) : Prop :=
  ∃ m m₀, Fr hb L s₀.heap m₀ ∧ Fr hb L s.heap m ∧ News hb L s.heap (itLed I BM SC T t st ++ fullRest hb L s₀.heap) ∧ s.gens = s₀.gens ∧ s.os = s₀.os
/-- the state in a turn -/
def StT (hb : Heap) (L I BM SC ma ta : Addr) (T : Str) (t : Tok) (a q e1 e2 : Nat) (s₀ s : Shared) : Prop :=
  ∃ u v m m₀, Fr hb L s₀.heap m₀ ∧ Fr hb L s.heap (setB (cutS T a q) (cutS T e1 e2) u v (setM ma m)) ∧
    News hb L s.heap ((ma, matchObj 36 T t T.cps.size ta) :: (ta, spanObj a q e1 e2) :: (itLed I BM SC T t e2 ++ fullRest hb L s₀.heap)) ∧ s.gens = s₀.gens ∧ s.os = s₀.os

section
variable {hb : Heap} {L I BM SC ma ta : Addr} {T : Str} {t : Tok} {st a q e1 e2 : Nat} {s₀ s s'' : Shared}

theorem StT.kept (x : StT hb L I BM SC ma ta T t a q e1 e2 s₀ s) : Kept hb s₀ s := by
  obtain ⟨u, v, m, m₀, F₀, F, N, g, o⟩ := x
  exact ⟨keep_of (own := (ma, matchObj 36 T t T.cps.size ta) :: (ta, spanObj a q e1 e2) :: itLed I BM SC T t e2) F₀ F N, F.keep, g, o⟩
theorem StH.kept (x : StH hb L I BM SC T t st s₀ s) : Kept hb s₀ s := by
  obtain ⟨m, m₀, F₀, F, N, g, o⟩ := x
  exact ⟨keep_of F₀ F N, F.keep, g, o⟩
theorem StT.head (x : StT hb L I BM SC ma ta T t a q e1 e2 s₀ s) : StH hb L I BM SC T t e2 s₀ s := by
  obtain ⟨u, v, m, m₀, F₀, F, N, g, o⟩ := x
  exact ⟨_, m₀, F₀, F, N.tail'.tail', g, o⟩
theorem StT.after (x : StT hb L I BM SC ma ta T t a q e1 e2 s₀ s) (af : After hb s s'') : StT hb L I BM SC ma ta T t a q e1 e2 s'' s'' := by
  obtain ⟨u, v, m, m₀, F₀, F, N, g, o⟩ := x
  refine ⟨u, v, m, _, af.fr F, af.fr F, ?_, rfl, rfl⟩
  have N1 : News hb L s.heap ((ma, matchObj 36 T t T.cps.size ta) :: (ta, spanObj a q e1 e2) :: itLed I BM SC T t e2) := fun p hp => N p (by
    rcases List.mem_cons.mp hp with rfl | hp
    · exact .head _
    rcases List.mem_cons.mp hp with rfl | hp
    · exact .tail _ (.head _)
    · exact .tail _ (.tail _ (List.mem_append_left _ hp)))
  have N2 := af.news N1 (fun p hp => by
    simp only [List.mem_cons, List.not_mem_nil, or_false] at hp
    rcases hp with rfl | rfl | rfl | rfl | rfl <;> (intro e; injection e with e; revert e; decide))
  exact News.append N2 full_news
end

theorem gap_one {g : Str} {i : Int} {x1 x2 : Str} {x : Int × Str} (h : x ∈ gapMsg g i x1 x2) : gapMsg g i x1 x2 = [x] := by
  unfold gapMsg at h ⊢
  split
  · rename_i c; rw [if_pos c] at h; rw [List.mem_singleton.mp h]
  · rename_i c
    rw [if_neg c] at h
    split
    · rename_i d; rw [if_pos d] at h; rw [List.mem_singleton.mp h]
    · rename_i d; rw [if_neg d] at h; cases h

section turn
variable {w : World} {mean : ExcName → Option Value} {mg mb : Str → Option Value} {dp un : Nat} {gd : Option (List Code)} {cn : Str} {cs : Scope} {a0 : Addr} {ccd : Value} {cl : List (Str × Addr)} {outer : List Env} {hb : Heap} {L L0 : Addr}
  {AG : Around} {items : List (Int × Str)} {c : Code} {fs : List Frame} {K : Flow → Sem Fin} {H : Value → Sem Fin} {I BM SC ma ta : Addr} {T : Str} {t : Tok} {a q e1 e2 : Nat}

theorem turn_seg (X : (hd.heap_39 w.params).In hb) (TT : Top hd.view_39 Lz mean mg mb hb) (hT : T.cps.size ≤ 100000)
    (hf : cleanF fs) (hc : isCI c = false) (hfs : splitAtGen fs = none) (hfg : fs.any Frame.guarded = false) (hA : AG.over c fs = (ktrTop dp un gd cn cs L0 a0 ccd cl outer).deeper (genv w.params L))
    (n : Nat) (hn : n + (yOf T (a, q, e1, e2)).length ≤ items.length) (hit : ∀ k x, (yOf T (a, q, e1, e2))[k]? = some x → items[items.length - (n + (yOf T (a, q, e1, e2)).length) + k]? = some x)
    (next : ∀ s₀ s, StH hb L I BM SC T t e2 s₀ s → SegC PG w AG (RGen hb) (YGen hb items) n s₀ c (K .next) fs s)
    (s₀ s : Shared) (m m₀ : Str → Option Value) (F₀ : Fr hb L s₀.heap m₀) (F : Fr hb L s.heap (setM ma m))
    (N : News hb L s.heap ((ma, matchObj 36 T t T.cps.size ta) :: (ta, spanObj a q e1 e2) :: (itLed I BM SC T t e2 ++ fullRest hb L s₀.heap))) (hg : s.gens = s₀.gens) (ho : s.os = s₀.os) :
    SegC PG w AG (RGen hb) (YGen hb items) (n + (yOf T (a, q, e1, e2)).length) s₀ c ((execs (gLoop w.params) (genv w.params L)).wrap K H id id) fs s := by
  have lb := cut_len T a q hT
  have lc := cut_len T e1 e2 hT
  have hlen : (yOf T (a, q, e1, e2)).length = (gapMsg (cutS T e1 e2) e1 m273 m271).length + (gapMsg (cutS T a q) a m274 m272).length := by
    unfold yOf; rw [List.length_append, Nat.add_comm]
  rw [gLoop_eq]
  refine segC_plain hf hc ?_
  rw [hA]
  refine st1 F X TT N hT fun u v h' tk' F' N' => ⟨rfl, ?_⟩
  have S0 : StT hb L I BM SC ma ta T t a q e1 e2 s₀ { s with heap := h', toks := tk' } := ⟨u, v, m, m₀, F₀, F', N', hg, ho⟩
  generalize ({ s with heap := h', toks := tk' } : Shared) = s1 at S0
  have hco : (genv w.params L).scope.isCoroutine = false := g_co w.params
  have hin : interactive (genv w.params L) = false := by rfl
  refine segC_cons ?_
  rw [gS1_if, gS1_o, gS1_y, gS1_y2, hlen, ← Nat.add_assoc]
  refine stage_if (St := StT hb L I BM SC ma ta T t a q e1 e2) hf hc hfs hfg hA hco hin ?_ ?_ ?_ ?_ (fun _ _ x => x.kept) (fun _ _ _ x af => x.after af) (n + (gapMsg (cutS T e1 e2) e1 m273 m271).length) (by omega) ?_ ?_ s₀ s1 S0
  · rintro s₀ s ⟨u, v, m, m₀, F₀, F, N, g, o⟩
    exact tB1 F X TT N lb lc fun tk' => ⟨rfl, u, v, m, m₀, F₀, F, N, g, o⟩
  · rintro s₀ s ⟨u, v, m, m₀, F₀, F, N, g, o⟩
    exact tB2 F X TT N lb lc fun tk' => ⟨rfl, u, v, m, m₀, F₀, F, N, g, o⟩
  · rintro s₀ s ⟨u, v, m, m₀, F₀, F, N, g, o⟩
    exact yB1 F X TT N fun G x y h' tk' F' N' => ⟨G, x, y, rfl, N'.get (.head _), N'.fresh (.head _), u, v, m, m₀, F₀, F', N'.tail', g, o⟩
  · rintro s₀ s ⟨u, v, m, m₀, F₀, F, N, g, o⟩
    exact yB2 F X TT N fun G x y h' tk' F' N' => ⟨G, x, y, rfl, N'.get (.head _), N'.fresh (.head _), u, v, m, m₀, F₀, F', N'.tail', g, o⟩
  · intro x hx
    have e1' := gap_one hx
    have k := hit 0 x (by unfold yOf; rw [e1']; rfl)
    have hl : (yOf T (a, q, e1, e2)).length = (gapMsg (cutS T e1 e2) e1 m273 m271).length + 1 := by rw [hlen, e1']; rfl
    rw [hl] at k hn
    rw [← k]
    congr 1
    omega
  intro s₀ s S1
  refine segC_cons ?_
  rw [gS2_if, gS2_o, gS2_y, gS2_y2]
  refine stage_if (St := StT hb L I BM SC ma ta T t a q e1 e2) hf hc hfs hfg hA hco hin ?_ ?_ ?_ ?_ (fun _ _ x => x.kept) (fun _ _ _ x af => x.after af) n (by omega) ?_ ?_ s₀ s S1
  · rintro s₀ s ⟨u, v, m, m₀, F₀, F, N, g, o⟩
    exact tA1 F X TT N lb lc fun tk' => ⟨rfl, u, v, m, m₀, F₀, F, N, g, o⟩
  · rintro s₀ s ⟨u, v, m, m₀, F₀, F, N, g, o⟩
    exact tA2 F X TT N lb lc fun tk' => ⟨rfl, u, v, m, m₀, F₀, F, N, g, o⟩
  · rintro s₀ s ⟨u, v, m, m₀, F₀, F, N, g, o⟩
    exact yA1 F X TT N fun G x y h' tk' F' N' => ⟨G, x, y, rfl, N'.get (.head _), N'.fresh (.head _), u, v, m, m₀, F₀, F', N'.tail', g, o⟩
  · rintro s₀ s ⟨u, v, m, m₀, F₀, F, N, g, o⟩
    exact yA2 F X TT N fun G x y h' tk' F' N' => ⟨G, x, y, rfl, N'.get (.head _), N'.fresh (.head _), u, v, m, m₀, F₀, F', N'.tail', g, o⟩
  · intro x hx
    have e1' := gap_one hx
    have hl : (yOf T (a, q, e1, e2)).length = 1 + (gapMsg (cutS T a q) a m274 m272).length := by rw [hlen, e1']; rfl
    have k := hit (gapMsg (cutS T a q) a m274 m272).length x (by
      unfold yOf
      show (gapMsg (cutS T a q) (a : Int) m274 m272 ++ gapMsg (cutS T e1 e2) (e1 : Int) m273 m271)[(gapMsg (cutS T a q) a m274 m272).length]? = some x
      rw [e1', List.getElem?_append_right (Nat.le_refl _), Nat.sub_self]; rfl)
    rw [hl] at k hn
    rw [← k]
    congr 1
    omega
  intro s₀ s S2
  exact next s₀ s S2.head
end turn
end Mine
end

section
open PySem PySem.W PyProof.Rows PySem.Calls
set_option Elab.async false
set_option pp.deepTerms false
set_option pp.deepTerms.threshold 8
set_option linter.unusedVariables false
set_option maxRecDepth 100000
namespace Mine

noncomputable abbrev fcode (P : Params) (L I : Addr) : Code := .forLoop (gTarget P) (.ref I) (gLoop P) [] (genv P L)
theorem fr_but {hb h h' : Heap} {L S : Addr} {m : Str → Option Value} (F : Fr hb L h m) (hLS : L ≠ S) (hS : hb.get? S = none) (k : ∀ b o, b ≠ S → h.get? b = some o → h'.get? b = some o) : Fr hb L h' m := by
  obtain ⟨oL, a1, a2, hL, a3⟩ := F.ns
  exact ⟨⟨oL, a1, a2, k L oL hLS hL, a3⟩, fun b o e => k b o (fun q => by subst q; rw [hS] at e; cases e) (F.keep b o e), F.above⟩
theorem full_ne {hb h h' : Heap} {L S : Addr} {o : Obj} (N : News hb L h' (fullRest hb L h)) (hS : h'.get? S = some o) (hl : listy o = false) : ∀ p ∈ fullRest hb L h, p.1 ≠ S := fun p hp e => by
  have h1 := (N p hp).1
  rw [e, hS] at h1
  cases h1
  rw [(mem_full.mp hp).2.2.2] at hl
  cases hl

section loop
variable {w : World} {mean : ExcName → Option Value} {mg mb : Str → Option Value} {dp un : Nat} {gd : Option (List Code)} {cn : Str} {cs : Scope} {a0 : Addr} {ccd : Value} {cl : List (Str × Addr)} {outer : List Env} {hb : Heap} {L L0 : Addr}
  {AG : Around} {items : List (Int × Str)} {fs : List Frame} {I BM SC : Addr} {T : Str} {t : Tok}

theorem loop_seg (X : (hd.heap_39 w.params).In hb) (TT : Top hd.view_39 Lz mean mg mb hb) (hT : T.cps.size ≤ 100000) (hu : un + 10 < cLine)
    (hf : cleanF fs) (hfs : splitAtGen fs = none) (hfg : fs.any Frame.guarded = false) (hA : AG.over (fcode w.params L I) fs = (ktrTop dp un gd cn cs L0 a0 ccd cl outer).deeper (genv w.params L))
    (hend : ∀ c' s₀ s, Kept hb s₀ s → SegC PG w AG (RGen hb) (YGen hb items) 0 s₀ c' (leafOf (.ok .next)) fs s)
    {st : Nat} {ms : List (Nat × Nat × Nat × Nat)} (sc : Scan T.cps st ms) : ∀ (n : Nat), n = (yAll T ms).length → items.drop (items.length - n) = yAll T ms → n ≤ items.length → ∀ s₀ s, StH hb L I BM SC T t st s₀ s →
      SegC PG w AG (RGen hb) (YGen hb items) n s₀ (fcode w.params L I) (denote table (fcode w.params L I)) fs s := by
  induction sc with
  | @none st hno =>
    intro n hn hdrop hle s₀ s S
    obtain ⟨m, m₀, F₀, F, N, g, o⟩ := S
    subst hn
    refine segC_turn hf (fun v => by rfl) ?_
    rw [hA]
    have N0 : News hb L s.heap (fullRest hb L s₀.heap) := fun p hp => N p (List.mem_append_right _ hp)
    have hI := N.get (a := I) (o := ciObj BM) (by simp)
    have hB := N.get (a := BM) (o := bmObj SC) (by simp)
    have hS := N.get (a := SC) (o := scObj 36 T t st T.cps.size) (by simp)
    refine pyNext_end (pat_of (X.keeps F.keep)) hI hB hS rfl (search_none reCode_ok hT hno) fun h' k => ?_
    intro c'
    refine hend c' s₀ _ ⟨?_, ?_, g, o⟩
    · have K1 := keep_of F₀ F N
      intro b x hl e
      have e' := K1 b x hl e
      exact k b x (fun q => by subst q; rw [hS] at e'; cases e'; cases hl) (fun q => by subst q; rw [hI] at e'; cases e'; cases hl) e'
    · intro b x e
      have nS := (N (SC, scObj 36 T t st T.cps.size) (by simp)).2.2
      have nI := (N (I, ciObj BM) (by simp)).2.2
      exact k b x (fun q => by subst q; rw [nS] at e; cases e) (fun q => by subst q; rw [nI] at e; cases e) (F.keep b x e)
  | @some st a q W rest h1 h2 h3 h4 h5 h6 h7 h8 hrest ih =>
    intro n hn hdrop hle s₀ s S
    obtain ⟨m, m₀, F₀, F, N, g, o⟩ := S
    have hsplit : n = (yAll T rest).length + (yOf T (a, q, q + W.length, q + W.length + wsN T.cps (q + W.length))).length := by
      rw [hn]; unfold yAll; rw [List.flatMap_cons, List.length_append, Nat.add_comm]
    subst hsplit
    refine segC_turn hf (fun v => by rfl) ?_
    rw [hA]
    have N0 : News hb L s.heap (fullRest hb L s₀.heap) := fun p hp => N p (List.mem_append_right _ hp)
    have hI := N.get (a := I) (o := ciObj BM) (by simp)
    have hB := N.get (a := BM) (o := bmObj SC) (by simp)
    have hS := N.get (a := SC) (o := scObj 36 T t st T.cps.size) (by simp)
    have nS := (N (SC, scObj 36 T t st T.cps.size) (by simp)).2
    refine pyNext_item (pat_of (X.keeps F.keep)) hI hB hS (by show un + 3 + 1 < cLine; omega) (search_found reCode_ok hT h1 h2 h3 h4 h5 h6 h7 h8) (by omega) (by omega) (by omega) (by omega) fun h' k z c1 c2 c3 => ?_
    have F' : Fr hb L h' m := fr_but F (Ne.symm nS.1) nS.2 k
    have hLlt : L < s.heap.objs.size := F.ns.lt
    have hbsz : hb.objs.size ≤ s.heap.objs.size := Nat.le_trans F.above (Nat.le_of_lt hLlt)
    have fresh : ∀ x, s.heap.objs.size ≤ x → hb.get? x = none := fun x hx => by
      cases hq : hb.get? x with
      | none => rfl
      | some o => exact absurd (Heap.lt_size hq) (Nat.not_lt.mpr (Nat.le_trans hbsz hx))
    have N' : News hb L h' ((s.heap.objs.size + 1, matchObj 36 T t T.cps.size s.heap.objs.size) :: (s.heap.objs.size, spanObj a q (q + W.length) (q + W.length + wsN T.cps (q + W.length))) ::
        (itLed I BM SC T t (q + W.length + wsN T.cps (q + W.length)) ++ fullRest hb L s₀.heap)) := by
      intro p hp
      rcases List.mem_cons.mp hp with rfl | hp
      · exact ⟨c3, Nat.ne_of_gt (Nat.lt_succ_of_lt hLlt), fresh _ (Nat.le_succ _)⟩
      rcases List.mem_cons.mp hp with rfl | hp
      · exact ⟨c2, Nat.ne_of_gt hLlt, fresh _ (Nat.le_refl _)⟩
      rcases List.mem_append.mp hp with hp | hp
      · simp only [List.mem_cons, List.not_mem_nil, or_false] at hp
        rcases hp with rfl | rfl | rfl
        · exact ⟨k _ _ (ne_of_cls hI hS (by show (Value.type "callable_iterator" == Value.type "_sre.SRE_Scanner") = false; decide)) hI, (N (I, ciObj BM) (by simp)).2⟩
        · exact ⟨k _ _ (ne_of_cls hB hS (by show (Value.type "builtin_function_or_method" == Value.type "_sre.SRE_Scanner") = false; decide)) hB, (N (BM, bmObj SC) (by simp)).2⟩
        · exact ⟨c1, nS⟩
      · exact ⟨k _ _ (full_ne N0 hS (by rfl) p hp) (N0 p hp).1, (N0 p hp).2⟩
    refine as_ok F' X TT N' fun h'' tk' F'' N'' => ?_
    intro H'
    refine turn_seg X TT hT hf rfl hfs hfg hA (yAll T rest).length hle ?_ ?_ s₀ _ m m₀ F₀ F'' N'' g o
    · intro kk x hx
      have hd : (items.drop (items.length - ((yAll T rest).length + (yOf T (a, q, q + W.length, q + W.length + wsN T.cps (q + W.length))).length)))[kk]? = some x := by
        rw [hdrop]; unfold yAll; rw [List.flatMap_cons, List.getElem?_append_left (by exact (List.getElem?_eq_some_iff.mp hx).1)]; exact hx
      rw [List.getElem?_drop] at hd
      exact hd
    · intro s₀ s S
      refine segC_again rfl rfl ?_
      refine ih _ rfl ?_ (by omega) s₀ s S
      have e : items.length - (yAll T rest).length = (items.length - ((yAll T rest).length + (yOf T (a, q, q + W.length, q + W.length + wsN T.cps (q + W.length))).length)) + (yOf T (a, q, q + W.length, q + W.length + wsN T.cps (q + W.length))).length := by omega
      rw [e, ← List.drop_drop, hdrop]
      unfold yAll
      rw [List.flatMap_cons, List.drop_left]
end loop
end Mine
end

section
open PySem PySem.W PyProof.Rows PySem.Calls
set_option Elab.async false
set_option pp.deepTerms false
set_option pp.deepTerms.threshold 8
set_option linter.unusedVariables false
set_option maxRecDepth 100000
namespace Mine
section gen
variable {w : World} {mean : ExcName → Option Value} {mg mb : Str → Option Value} {dp un : Nat} {gd : Option (List Code)} {cn : Str} {cs : Scope} {a0 : Addr} {ccd : Value} {cl : List (Str × Addr)} {outer : List Env} {hb : Heap} {L L0 : Addr}
  {T : Str} {t : Tok} {ms : List (Nat × Nat × Nat × Nat)}

theorem gen_goes (X : (hd.heap_39 w.params).In hb) (TT : Top hd.view_39 Lz mean mg mb hb) (hT : T.cps.size ≤ 100000) (hu : un + 10 < cLine) (sc : Scan T.cps 0 ms) (s : Shared)
    (F : Fr hb L s.heap (fun x => [(Str.ofString "logical_line", Value.str T t)].reverse.lookup x)) :
    GoesC PG w (ktrTop dp un gd cn cs L0 a0 ccd cl outer) (RGen hb) (YGen hb (yAll T ms)) (yAll T ms).length (.fresh (.func (gBody w.params) (genv w.params L))) (.send .none) s := by
  refine ⟨rfl, ?_⟩
  rw [den1_of rfl]
  refine segC_func ?_
  rw [gBody_for]
  refine segC_cons (segC_For (fun _ h => nomatch h) rfl ?_ (fun x => by rfl))
  have hA0 : (ktrTop dp un gd cn cs L0 a0 ccd cl outer).over (.func [.For (gTarget w.params) (gIter w.params) (gLoop w.params) [] (gPos w.params)] (genv w.params L)) [] = (ktrTop dp un gd cn cs L0 a0 ccd cl outer).deeper (genv w.params L) := by rfl
  rw [hA0]
  refine it_ok F X TT full_news hT fun I BM SC h' tk' F' N' => ?_
  refine pyIter_ci N' (List.Mem.head _) ?_
  intro p
  refine loop_seg (st := 0) (I := I) (BM := BM) (SC := SC) X TT hT hu ?_ rfl rfl rfl ?_ sc _ rfl (by simp) (Nat.le_refl _) s _ ⟨_, _, F, F', N', rfl, rfl⟩
  · intro x hx
    rcases List.mem_cons.mp hx with rfl | hx
    · rfl
    · cases hx
  · intro c' s₀ s' hk
    refine segC_leaf (.ok .next) ?_
    show SegC _ _ _ _ _ 0 s₀ _ (leafOf (.ok (.ret .none))) [] s'
    exact segC_end _ ⟨rfl, rfl, hk⟩
end gen
end Mine
end

section
open PySem PySem.W PyProof.Rows PySem.Calls
set_option Elab.async false
set_option pp.deepTerms false
set_option pp.deepTerms.threshold 8
set_option linter.unusedVariables false
set_option maxRecDepth 100000
namespace Mine

/-- the told pairs, as the heap holds them -/
def Told (hb : Heap) (items : List (Int × Str)) (h : Heap) (acc : Array Value) : Prop :=
  ∀ (j : Nat) (v : Value), acc[j]? = some v → ∃ (ta : Addr) (i : Int) (msg : Str) (u1 u2 : Tok), v = .ref ta ∧ items[j]? = some (i, msg) ∧ h.get? ta = some (tupObj #[.int i u1, .str msg u2]) ∧ hb.get? ta = none

structure StL (w : World) (A : Around) (hb : Heap) (items : List (Int × Str)) (S G g : Nat) (os : OsState) (gens : Array GenState) (n : Nat) (acc : Array Value) (s : Shared) : Prop where
  len : acc.size + n = items.length
  list : ∃ c, s.heap.get? S = some { cls := .type "list", data := .seq acc c }
  told : Told hb items s.heap acc
  base : ∀ b o, hb.get? b = some o → s.heap.get? b = some o
  freshS : hb.get? S = none
  isGen : s.heap.IsGen G g
  at_ : ∃ gs, s.gens[g]? = some gs ∧ gs.bare = true ∧ ∀ s'' : Shared, s''.heap = s.heap → s''.os = s.os → GoesC PG w A (RGen hb) (YGen hb items) n gs (.send .none) s''
  rest : ∀ k, k ≠ g → s.gens[k]? = gens[k]?
  size : s.gens.size = gens.size
  os_ : s.os = os

theorem isGen_keep {h h' : Heap} {a : Addr} {g : Nat} (x : h.IsGen a g) (k : Keep h h') : h'.IsGen a g := by
  obtain ⟨o, nm, qn, ho, hc, hd, hs⟩ := x
  exact ⟨o, nm, qn, k a o (by unfold listy; rw [hd]; dsimp only; rw [hc]; rfl) ho, hc, hd, hs⟩

section
variable {w : World} {A : Around} {hb : Heap} {items : List (Int × Str)} {S G g : Nat} {os : OsState} {gens : Array GenState} {R : Result → Shared → Prop}

theorem list_turns (hh : A.handled = none) (hroom : A.depth < recursionLimit) (hl : hb.NoLimit) (hlen : items.length ≤ 900) (hSG : S ≠ G)
    (fin : ∀ s acc c, s.heap.get? S = some { cls := .type "list", data := .seq acc c } → acc.size = items.length → Told hb items s.heap acc → (∀ b o, hb.get? b = some o → s.heap.get? b = some o) →
      (∀ k, k ≠ g → s.gens[k]? = gens[k]?) → s.gens[g]? = some .finished → s.gens.size = gens.size → s.os = os → R (.ok (.ret .none)) s) (n : Nat) (acc : Array Value) (s : Shared)
    (h : StL w A.in1.in1 hb items S G g os gens n acc s) : codeC PG w A (.builtin "list.extend.loop" ⟨[.ref S, .ref G, .none], []⟩) R s := by
  refine extendC (StL w A.in1.in1 hb items S G g os gens) (fun n acc s st => ?_) n acc s h
  obtain ⟨len, ⟨c, hS⟩, told, base, freshS, isGen, ⟨gs, hgs, hbare, go⟩, hrest, hsize, hos⟩ := st
  refine pyNext_genC (P := PGen hb) (Y := YGen hb items) (n := n) hh (hl.keeps base) hroom isGen hgs (go _ rfl rfl) (fun v s₁ gs' hb' hv => ?_) (fun s₁ hp h' hk => ?_)
  · obtain ⟨ta, i, msg, u1, u2, rfl, hit, hlt, g1, g2, ⟨kk, kb, kg, ko⟩, af⟩ := hv
    have hS1 : s₁.heap.get? S = some { cls := .type "list", data := .seq acc c } := kk S _ rfl hS
    have oth : ∀ b o, b ≠ S → s₁.heap.get? b = some o → (s₁.heap.update S (Obj.mapSeq (·.push (.ref ta)))).get? b = some o := fun b o hb e => (Heap.get?_update_other _ _ (Ne.symm hb)).trans e
    have aft : ∀ s'' : Shared, s''.heap = s₁.heap.update S (Obj.mapSeq (·.push (.ref ta))) → s''.os = s₁.os → After hb s₁ s'' := fun s'' e1 e2 =>
      ⟨⟨S, _, ⟨_, _, rfl⟩, rfl, hS1, freshS, fun b o hb e => by rw [e1]; exact oth b o hb e⟩, e2⟩
    cases n with
    | zero => exact (af { s₁ with heap := s₁.heap.update S (Obj.mapSeq (·.push (.ref ta))) } (aft _ rfl rfl)).elim
    | succ m =>
      have hts : ta ≠ S := ne_of_cls g1 hS1 (by show (Value.type "tuple" == Value.type "list") = false; decide)
      have gz : ∀ x, (s₁.setGen g x).gens.size = s.gens.size := fun x => by
        show (s₁.gens.setIfInBounds g x).size = _
        rw [Array.size_setIfInBounds, kg]
        show (s.gens.setIfInBounds g _).size = _
        rw [Array.size_setIfInBounds]
      refine ⟨c, m, Nat.lt_succ_self m, hS1, by omega, ?_, ⟨_, Heap.get?_update_self _ hS1 rfl⟩, ?_, ?_, freshS, ?_, ⟨gs', ?_, hb', ?_⟩, ?_, ?_, ?_⟩
      · rw [Array.size_push]; omega
      · intro j v hj
        rw [Array.getElem?_push] at hj
        split at hj
        · rename_i e
          cases hj
          refine ⟨ta, i, msg, u1, u2, rfl, ?_, oth _ _ hts g1, g2⟩
          rw [← hit]; congr 1; rw [e]; show acc.size = items.length - 1 - m; omega
        · obtain ⟨tb, i', msg', x1, x2, rfl, q1, q2, q3⟩ := told j v hj
          have q4 := kk tb _ rfl q2
          exact ⟨tb, i', msg', x1, x2, rfl, q1, oth _ _ (ne_of_cls q4 hS1 (by show (Value.type "tuple" == Value.type "list") = false; decide)) q4, q3⟩
      · intro b o e
        exact oth b o (fun q => by subst q; rw [freshS] at e; cases e) (kb b o e)
      · obtain ⟨o, nm, qn, ho, r⟩ := isGen_keep isGen kk
        exact ⟨o, nm, qn, oth G o (Ne.symm hSG) ho, r⟩
      · exact setGen_self (gs := .running) (by rw [kg]; exact setGen_self hgs)
      · intro s'' e1 e2
        exact af s'' (aft s'' e1 (e2.trans rfl))
      · intro k hk
        show (s₁.gens.setIfInBounds g gs')[k]? = _
        rw [Array.getElem?_setIfInBounds_ne (Ne.symm hk), kg]
        show (s.gens.setIfInBounds g _)[k]? = _
        rw [Array.getElem?_setIfInBounds_ne (Ne.symm hk)]
        exact hrest k hk
      · exact (gz gs').trans hsize
      · exact ko.trans hos
  · obtain ⟨rfl, kk, kb, kg, ko⟩ := hp
    refine fin _ acc c (hk _ _ (kk S _ rfl hS)) (by omega) (fun j v hj => ?_) (fun b o e => hk _ _ (kb b o e)) ?_ ?_ ?_ (ko.trans hos)
    · obtain ⟨tb, i', msg', x1, x2, rfl, q1, q2, q3⟩ := told j v hj
      exact ⟨tb, i', msg', x1, x2, rfl, q1, hk _ _ (kk tb _ rfl q2), q3⟩
    · intro k hk'
      show (s₁.gens.setIfInBounds g _)[k]? = _
      rw [Array.getElem?_setIfInBounds_ne (Ne.symm hk'), kg]
      show (s.gens.setIfInBounds g _)[k]? = _
      rw [Array.getElem?_setIfInBounds_ne (Ne.symm hk')]
      exact hrest k hk'
    · exact setGen_self (gs := .running) (by rw [kg]; exact setGen_self hgs)
    · show (s₁.gens.setIfInBounds g _).size = _
      rw [Array.size_setIfInBounds, kg]
      show (s.gens.setIfInBounds g _).size = _
      rw [Array.size_setIfInBounds]; exact hsize
end
end Mine
end

section
open PySem PySem.W PyProof.Rows PySem.Calls
set_option Elab.async false
set_option pp.deepTerms false
set_option pp.deepTerms.threshold 8
set_option linter.unusedVariables false
set_option maxRecDepth 100000
namespace Mine
section
variable {w : World} {mean : ExcName → Option Value} {mg mb : Str → Option Value} {A : Around} {h₀ : Heap} {L : Addr} {m : Str → Option Value} {s : Shared} {E : Value → Shared → Prop}

theorem callEnv_genv (P : Params) (L : Addr) : callEnv (gData P) L 43 = genv P L := by rfl

theorem make_gen {T : Str} {t : Tok} {Q : Value → Shared → Prop} (F : Fr h₀ L s.heap m) (X : (hd.heap_39 w.params).In h₀) (TT : Top hd.view_39 Lz mean mg mb h₀) (hroom : A.depth < recursionLimit)
    (h : ∀ (h₁ : Heap) (tk : Nat), Fr s.heap s.heap.objs.size h₁ (fun x => [(Str.ofString "logical_line", Value.str T t)].reverse.lookup x) → h₁.objs.size = s.heap.objs.size + 1 →
      Q (.ref h₁.objs.size) { s with heap := h₁.push { cls := .type "generator", data := .fields #[.int s.gens.size 0, .str (gData w.params).name tk, .str (gData w.params).qualname (tk + 1)] }, gens := s.gens.push (.fresh (.func (gBody w.params) (genv w.params s.heap.objs.size))), toks := tk + 1 + 1 }) :
    wpAny (model PG w) A (PySem.call (.ref 43) [.str T t]) Q E s := by
  have X' := X.keeps F.keep
  refine call_genC (args := ⟨[.str T t], []⟩) hroom (X' _ _ (gObj_eq w.params)) (gData_eq w.params) (g_co _) (g_gen _) (gBody_eq _) (codeRec_of X' (g_code w.params)) (.of_eq (g_bind w.params _)) (TT.nolimit.keeps F.keep) (g_kind _) (g_cells _) (g_loc w.params _) fun h₁ tk hn hk hz => ?_
  rw [callEnv_genv]
  exact h h₁ tk ⟨hn, hk, Nat.le_refl _⟩ hz
end

section
variable {w : World} {mean : ExcName → Option Value} {mg mb : Str → Option Value} {dp un : Nat} {gd : Option (List Code)} {cn : Str} {cs : Scope} {a0 : Addr} {ccd : Value} {cl : List (Str × Addr)} {outer : List Env} {hb : Heap} {L0 : Addr} {s : Shared} {E : Value → Shared → Prop}

theorem list_ok {T : Str} {t : Tok} {ms : List (Nat × Nat × Nat × Nat)} {G g : Nat} {L : Addr} {Q : Value → Shared → Prop} (X : (hd.heap_39 w.params).In hb) (TT : Top hd.view_39 Lz mean mg mb hb) (hT : T.cps.size ≤ 100000) (hu : un + 20 < cLine) (hd1 : dp < recursionLimit)
    (sc : Scan T.cps 0 ms) (hlen : (yAll T ms).length ≤ 900) (F : Fr hb L s.heap (fun x => [(Str.ofString "logical_line", Value.str T t)].reverse.lookup x)) (hG : s.heap.IsGen G g)
    (hgs : s.gens[g]? = some (.fresh (.func (gBody w.params) (genv w.params L))))
    (hQ : ∀ s' acc c, s'.heap.get? s.heap.objs.size = some { cls := .type "list", data := .seq acc c } → acc.size = (yAll T ms).length → Told hb (yAll T ms) s'.heap acc → (∀ b o, hb.get? b = some o → s'.heap.get? b = some o) →
      (∀ k, k ≠ g → s'.gens[k]? = s.gens[k]?) → s'.gens[g]? = some .finished → s'.gens.size = s.gens.size → s'.os = s.os → Q (.ref s.heap.objs.size) s') :
    wpC PG w (ktrTop dp un gd cn cs L0 a0 ccd cl outer) (PySem.call (.type "list") [.ref G]) Q E s := by
  have hbs : hb.get? s.heap.objs.size = none := F.fresh
  have hGlt : G < s.heap.objs.size := by obtain ⟨o, nm, qn, ho, r⟩ := hG; exact Heap.lt_size ho
  refine call_listC hG fun h' c hk hz hS => ?_
  have F' := F.keeps hk
  refine list_turns (items := yAll T ms) (hb := hb) (g := g) (os := s.os) (gens := s.gens) rfl hd1 TT.nolimit hlen (Nat.ne_of_gt hGlt) (fun s' acc c' a1 a2 a3 a4 a5 a6 a7 a8 => ⟨rfl, hQ s' acc c' a1 a2 a3 a4 a5 a6 a7 a8⟩) (yAll T ms).length #[] _ ?_
  refine ⟨by simp, ⟨c, hS⟩, (fun j v hj => by simp at hj), F'.keep, hbs, ?_, ⟨_, hgs, rfl, fun s'' e1 e2 => ?_⟩, fun _ _ => rfl, rfl, rfl⟩
  · obtain ⟨o, nm, qn, ho, r⟩ := hG
    exact ⟨o, nm, qn, hk _ _ ho, r⟩
  · exact gen_goes (un := un + 3) X TT hT (by omega) sc s'' (by rw [e1]; exact F')
end
end Mine
end

section
open PySem PySem.Sre
set_option linter.unusedVariables false
namespace Mine
structure Lay (T : Array Nat) (n : Nat) (G P : Nat → Nat) (kw wd : Nat → Bool) : Prop where
  g0 : G 0 = 0
  gp : ∀ k, k ≤ n → G k ≤ P k
  pg : ∀ k, k < n → P k < G (k + 1)
  top : P n = T.size
  gap : ∀ k x, k ≤ n → G k ≤ x → x < P k → Unicode.isSpace (T.getD x 0) = true ∧ isWordUni (T.getD x 0) = false
  pc : ∀ k x, k < n → P k ≤ x → x < G (k + 1) → Unicode.isSpace (T.getD x 0) = false ∧ isWordUni (T.getD x 0) = wd k
  off : ∀ k, k + 1 < n → wd k = true → wd (k + 1) = true → G (k + 1) < P (k + 1)
  kw_wd : ∀ k, k < n → kw k = true → wd k = true
  kw_yes : ∀ k, k < n → kw k = true → ∃ W ∈ kwC, P k + W.length = G (k + 1) ∧ litAt T W (P k) = true
  kw_no : ∀ k, k < n → kw k = false → ∀ W ∈ kwC, P k + W.length = G (k + 1) → litAt T W (P k) = false
  wn : ∀ W ∈ kwC, 2 ≤ W.length
  wc : ∀ W ∈ kwC, ∀ i, i < W.length → isWordUni (W.getD i 0) = true
theorem litAt_iff (T : Array Nat) : ∀ (W : List Nat) (q : Nat), litAt T W q = true ↔ ∀ i, i < W.length → q + i < T.size ∧ T.getD (q + i) 0 = W.getD i 0
  | [], q => ⟨fun _ i h => absurd h (Nat.not_lt_zero i), fun _ => rfl⟩
  | c :: r, q => by
    unfold litAt
    rw [Bool.and_eq_true, Bool.and_eq_true, decide_eq_true_eq, beq_iff_eq, litAt_iff T r (q + 1)]
    constructor
    · rintro ⟨⟨h1, h2⟩, h3⟩ i hi
      cases i with
      | zero => exact ⟨h1, h2⟩
      | succ i =>
        have := h3 i (Nat.lt_of_succ_lt_succ hi)
        rw [show q + 1 + i = q + (i + 1) by omega] at this
        exact ⟨this.1, by rw [this.2]; rfl⟩
    · intro h
      refine ⟨h 0 (Nat.succ_pos _), fun i hi => ?_⟩
      have := h (i + 1) (Nat.succ_lt_succ hi)
      rw [show q + 1 + i = q + (i + 1) by omega]
      exact ⟨this.1, by rw [this.2]; rfl⟩
theorem wsrun_eq (T : Array Nat) : ∀ (n p d : Nat), d ≤ n → (∀ x, p ≤ x → x < p + d → Unicode.isSpace (T.getD x 0) = true) → (d < n → Unicode.isSpace (T.getD (p + d) 0) = false) → wsrun T n p = d
  | 0, p, d, hd, _, _ => by have : d = 0 := by omega
                            rw [this]; rfl
  | n + 1, p, d, hd, h1, h2 => by
    unfold wsrun
    cases d with
    | zero => rw [if_neg]; intro e; rw [show p = p + 0 from rfl, h2 (Nat.succ_pos _)] at e; cases e
    | succ d =>
      rw [if_pos (h1 p (Nat.le_refl _) (by omega)), wsrun_eq T n (p + 1) d (by omega) (fun x a b => h1 x (by omega) (by omega)) (fun h => by rw [show p + 1 + d = p + (d + 1) by omega]; exact h2 (by omega))]
theorem bd_in {T : Array Nat} {q : Nat} (h0 : 0 < q) (h1 : isWordUni (T.getD (q - 1) 0) = true) (h2 : q < T.size) (h3 : isWordUni (T.getD q 0) = true) : bd T q = false := by
  unfold bd; rw [decide_eq_true h0, h1, decide_eq_true h2, h3]; simp
theorem bd_lo {T : Array Nat} {q : Nat} (h1 : q = 0 ∨ isWordUni (T.getD (q - 1) 0) = false) (h2 : q < T.size) (h3 : isWordUni (T.getD q 0) = true) : bd T q = true := by
  unfold bd; rw [decide_eq_true h2, h3]
  have : (T.size != 0) = true := by rw [bne_iff_ne]; omega
  rw [this]
  rcases h1 with h1 | h1
  · rw [decide_eq_false (by omega)]; rfl
  · rw [h1, Bool.and_false]; rfl
theorem bd_hi {T : Array Nat} {q : Nat} (h0 : 0 < q) (hq : q ≤ T.size) (h1 : isWordUni (T.getD (q - 1) 0) = true) (h2 : q < T.size → isWordUni (T.getD q 0) = false) : bd T q = true := by
  unfold bd; rw [decide_eq_true h0, h1]
  have : (T.size != 0) = true := by rw [bne_iff_ne]; omega
  rw [this]
  by_cases h : q < T.size
  · rw [h2 h, Bool.and_false]; rfl
  · rw [decide_eq_false h]; rfl
namespace Lay
variable {T : Array Nat} {n : Nat} {G P : Nat → Nat} {kw wd : Nat → Bool} (Y : Lay T n G P kw wd)
include Y
theorem mono : ∀ d k, k + d ≤ n → G k ≤ G (k + d)
  | 0, k, h => Nat.le_refl _
  | d + 1, k, h => by
    have a := mono d k (by omega)
    have b := Y.gp (k + d) (by omega)
    have c := Y.pg (k + d) (by omega)
    rw [show k + (d + 1) = k + d + 1 by omega]; omega
theorem mono' {j k : Nat} (h : j ≤ k) (hk : k ≤ n) : G j ≤ G k := by have := Y.mono (k - j) j (by omega); rwa [show j + (k - j) = k by omega] at this
theorem le_top {k : Nat} (hk : k ≤ n) : G k ≤ T.size := by have := Y.mono' hk (Nat.le_refl n); have := Y.gp n (Nat.le_refl n); have := Y.top; omega
theorem ple_top {k : Nat} (hk : k ≤ n) : P k ≤ T.size := by
  rcases Nat.lt_or_ge k n with h | h
  · have := Y.pg k h; have := Y.le_top (k := k + 1) h; omega
  · have : k = n := by omega
    rw [this, Y.top]; exact Nat.le_refl _
theorem wsN_gap {k x : Nat} (hk : k ≤ n) (h1 : G k ≤ x) (h2 : x ≤ P k) : x + wsN T x = P k := by
  have ht := Y.ple_top hk
  have : wsN T x = P k - x := by
    refine wsrun_eq T _ x _ (by omega) (fun y a b => (Y.gap k y hk (by omega) (by omega)).1) fun h => ?_
    rw [show x + (P k - x) = P k by omega]
    have hkn : k < n := by
      rcases Nat.lt_or_ge k n with h' | h'
      · exact h'
      · have : k = n := by omega
        subst this; have := Y.top; omega
    exact (Y.pc k _ hkn (Nat.le_refl _) (Y.pg k hkn)).1
  omega
theorem wsN_pc {k x : Nat} (hk : k < n) (h1 : P k ≤ x) (h2 : x < G (k + 1)) : wsN T x = 0 :=
  wsrun_eq T _ x 0 (Nat.zero_le _) (fun y a b => by omega) fun h => (Y.pc k x hk h1 h2).1
theorem wsLt : ∀ k, k ≤ n → ∀ x, x < G k → x + wsN T x < G k
  | 0, _, x, h => by rw [Y.g0] at h; omega
  | k + 1, hk, x, h => by
    have hp := Y.pg k hk
    have hg := Y.gp k (by omega)
    rcases Nat.lt_or_ge x (G k) with a | a
    · have := wsLt k (by omega) x a; omega
    · rcases Nat.lt_or_ge x (P k) with b | b
      · have := Y.wsN_gap (k := k) (by omega) a (by omega); omega
      · rw [Y.wsN_pc hk b h]; exact h
theorem no_word {x : Nat} (h : x < T.size → isWordUni (T.getD x 0) = false) : noHit T x := by
  refine .inr fun W hW => ?_
  unfold hit
  cases hl : litAt T W x with
  | false => rfl
  | true =>
    have h2 := Y.wn W hW
    obtain ⟨a, b⟩ := (litAt_iff T W x).mp hl 0 (by omega)
    have := Y.wc W hW 0 (by omega)
    rw [← b] at this
    rw [show x + 0 = x from rfl] at this a
    rw [h a] at this
    cases this
theorem no_gap {k x : Nat} (hk : k ≤ n) (h1 : G k ≤ x) (h2 : x < P k) : noHit T x := Y.no_word fun _ => (Y.gap k x hk h1 h2).2
theorem in_word {k x : Nat} (hk : k < n) (hw : wd k = true) (h1 : P k < x) (h2 : x < G (k + 1)) : bd T x = false := by
  have := Y.le_top (k := k + 1) hk
  refine bd_in (by omega) ?_ (by omega) ?_
  · rw [(Y.pc k _ hk (by omega) (by omega)).2, hw]
  · rw [(Y.pc k _ hk (by omega) (by omega)).2, hw]
/-- behind a word stands no word sign -/
theorem behind {k : Nat} (hk : k < n) (hw : wd k = true) (h : G (k + 1) < T.size) : isWordUni (T.getD (G (k + 1)) 0) = false := by
  rcases Nat.lt_or_ge (G (k + 1)) (P (k + 1)) with a | a
  · exact (Y.gap (k + 1) _ hk (Nat.le_refl _) a).2
  · have hg := Y.gp (k + 1) hk
    rcases Nat.lt_or_ge (k + 1) n with b | b
    · have hp := Y.pg (k + 1) b
      rw [(Y.pc (k + 1) _ b a (by omega)).2]
      cases c : wd (k + 1) with
      | false => rfl
      | true => have := Y.off k b hw c; omega
    · have e : k + 1 = n := by omega
      rw [e] at a h; have := Y.top; omega
/-- ahead of a word stands none -/
theorem ahead {k : Nat} (hk : k < n) (hw : wd k = true) : P k = 0 ∨ isWordUni (T.getD (P k - 1) 0) = false := by
  rcases Nat.lt_or_ge (G k) (P k) with a | a
  · exact .inr (Y.gap k _ (by omega) (by omega) (by omega)).2
  · have hg := Y.gp k (by omega)
    cases k with
    | zero => left; have := Y.g0; omega
    | succ k =>
      right
      have hp := Y.pg k (by omega)
      rw [(Y.pc k _ (by omega) (by omega) (by omega)).2]
      cases c : wd k with
      | false => rfl
      | true => have := Y.off k hk c hw; omega
theorem hit_len {k : Nat} (hk : k < n) (hw : wd k = true) {W : List Nat} (hW : W ∈ kwC) (h : hit T (P k) W = true) : litAt T W (P k) = true ∧ P k + W.length = G (k + 1) := by
  unfold hit at h
  rw [Bool.and_eq_true] at h
  refine ⟨h.1, ?_⟩
  have hl := (litAt_iff T W _).mp h.1
  have h2 := Y.wn W hW
  have hp := Y.pg k hk
  rcases Nat.lt_trichotomy (P k + W.length) (G (k + 1)) with a | a | a
  · rw [Y.in_word hk hw (by omega) a] at h; cases h.2
  · exact a
  · exfalso
    obtain ⟨b, c⟩ := hl (G (k + 1) - P k) (by omega)
    rw [show P k + (G (k + 1) - P k) = G (k + 1) by omega] at b c
    have d := Y.wc W hW (G (k + 1) - P k) (by omega)
    rw [← c, Y.behind hk hw b] at d
    cases d
theorem no_piece {k x : Nat} (hk : k < n) (hkw : kw k = false) (h1 : P k ≤ x) (h2 : x < G (k + 1)) : noHit T x := by
  cases hw : wd k with
  | false => exact Y.no_word fun _ => by rw [(Y.pc k x hk h1 h2).2, hw]
  | true =>
    rcases Nat.lt_or_ge (P k) x with a | a
    · exact .inl (Y.in_word hk hw a h2)
    · have e : x = P k := by omega
      subst e
      refine .inr fun W hW => ?_
      cases hh : hit T (P k) W with
      | false => rfl
      | true =>
        obtain ⟨b, c⟩ := Y.hit_len hk hw hW hh
        rw [Y.kw_no k hk hkw W hW c] at b
        cases b
theorem no_end {x : Nat} (h : T.size ≤ x) : noHit T x := Y.no_word fun h' => by omega
theorem yes_kw {k : Nat} (hk : k < n) (hkw : kw k = true) : ∃ W, bd T (P k) = true ∧ kwC.find? (hit T (P k)) = some W ∧ 2 ≤ W.length ∧ P k + W.length = G (k + 1) := by
  have hw := Y.kw_wd k hk hkw
  have hp := Y.pg k hk
  have ht := Y.le_top (k := k + 1) hk
  obtain ⟨W, hW, hl, hlit⟩ := Y.kw_yes k hk hkw
  have hh : hit T (P k) W = true := by
    unfold hit
    rw [hlit, hl, Bool.true_and]
    exact bd_hi (by omega) ht (by rw [(Y.pc k _ hk (by omega) (by omega)).2, hw]) fun h => Y.behind hk hw h
  have hb : bd T (P k) = true := bd_lo (Y.ahead hk hw) (by omega) (by rw [(Y.pc k _ hk (Nat.le_refl _) hp).2, hw])
  cases hf : kwC.find? (hit T (P k)) with
  | none => have := find_none hf W hW; rw [hh] at this; cases this
  | some V =>
    have hV := List.mem_of_find?_eq_some hf
    have hhV := List.find?_some hf
    exact ⟨V, hb, rfl, Y.wn V hV, (Y.hit_len hk hw hV hhV).2⟩
end Lay

/-- the scan of a text: the matches from a place on -/
inductive ScanP (T : Array Nat) : Nat → List (Nat × Nat × Nat × Nat) → Prop
  | none {st : Nat} : (∀ x, st ≤ x → x ≤ T.size → noHit T x) → ScanP T st []
  | some {st a q : Nat} {W : List Nat} {rest : List (Nat × Nat × Nat × Nat)} : st ≤ a → a + wsN T a = q → bd T q = true → kwC.find? (hit T q) = some W → 2 ≤ W.length → q + W.length ≤ T.size →
      (∀ x, st ≤ x → x < q → noHit T x) → (∀ x, st ≤ x → x < a → x + wsN T x < q) → ScanP T (q + W.length + wsN T (q + W.length)) rest →
      ScanP T st ((a, q, q + W.length, q + W.length + wsN T (q + W.length)) :: rest)
def prevK (kw : Nat → Bool) : Nat → Bool
  | 0 => false
  | k + 1 => kw k
def mFrom (G P : Nat → Nat) (kw : Nat → Bool) : Nat → Nat → List (Nat × Nat × Nat × Nat)
  | 0, k => []
  | f + 1, k => if kw k = true then (if prevK kw k = true then P k else G k, P k, G (k + 1), P (k + 1)) :: mFrom G P kw f (k + 1) else mFrom G P kw f (k + 1)
theorem scan_from {T : Array Nat} {n : Nat} {G P : Nat → Nat} {kw wd : Nat → Bool} (Y : Lay T n G P kw wd) : ∀ (f k st : Nat), k + f = n →
    ((prevK kw k = false ∧ st ≤ G k ∧ ∀ x, st ≤ x → x < G k → noHit T x) ∨ (prevK kw k = true ∧ st = P k)) → ScanP T st (mFrom G P kw f k)
  | 0, k, st, h, hc => by
    have e : k = n := by omega
    subst e
    refine .none fun x h1 h2 => ?_
    rcases Nat.lt_or_ge x T.size with a | a
    · rcases hc with ⟨_, b, c⟩ | ⟨_, b⟩
      · rcases Nat.lt_or_ge x (G k) with d | d
        · exact c x h1 d
        · exact Y.no_gap (Nat.le_refl _) d (by rw [Y.top]; exact a)
      · rw [b, Y.top] at h1; omega
    · exact Y.no_end a
  | f + 1, k, st, h, hc => by
    have hk : k < n := by omega
    have hg := Y.gp k (by omega)
    have hp := Y.pg k hk
    have hno : ∀ x, st ≤ x → x < P k → noHit T x := fun x h1 h2 => by
      rcases hc with ⟨_, b, c⟩ | ⟨_, b⟩
      · rcases Nat.lt_or_ge x (G k) with d | d
        · exact c x h1 d
        · exact Y.no_gap (by omega) d h2
      · omega
    unfold mFrom
    cases hkw : kw k with
    | false =>
      rw [if_neg (by decide)]
      refine scan_from Y f (k + 1) st (by omega) (.inl ⟨hkw, ?_, fun x h1 h2 => ?_⟩)
      · rcases hc with ⟨_, b, c⟩ | ⟨_, b⟩ <;> omega
      · rcases Nat.lt_or_ge x (P k) with d | d
        · exact hno x h1 d
        · exact Y.no_piece hk hkw d h2
    | true =>
      rw [if_pos rfl]
      obtain ⟨W, hb, hf, h2, hl⟩ := Y.yes_kw hk hkw
      have hws : G (k + 1) + wsN T (G (k + 1)) = P (k + 1) := Y.wsN_gap (k := k + 1) (by omega) (Nat.le_refl _) (Y.gp (k + 1) (by omega))
      have r := scan_from Y f (k + 1) (P (k + 1)) (by omega) (.inr ⟨hkw, rfl⟩)
      have ht := Y.le_top (k := k + 1) (by omega)
      have ha : st ≤ (if prevK kw k = true then P k else G k) ∧ G k ≤ (if prevK kw k = true then P k else G k) ∧ (if prevK kw k = true then P k else G k) ≤ P k := by
        rcases hc with ⟨a, b, c⟩ | ⟨a, b⟩
        · rw [a, if_neg (by decide)]; omega
        · rw [a, if_pos rfl]; omega
      have hlt : ∀ x, st ≤ x → x < (if prevK kw k = true then P k else G k) → x + wsN T x < P k := fun x h1 h2 => by
        rcases hc with ⟨a, b, c⟩ | ⟨a, b⟩
        · rw [a, if_neg (by decide)] at h2
          have := Y.wsLt k (by omega) x h2
          omega
        · rw [a, if_pos rfl] at h2; omega
      have sm := ScanP.some (T := T) (rest := mFrom G P kw f (k + 1)) ha.1 (Y.wsN_gap (by omega) ha.2.1 ha.2.2) hb hf h2 (by omega) hno hlt (by rw [hl, hws]; exact r)
      rw [hl, hws] at sm
      exact sm
end Mine
end

section
open PySem PySem.Sre
set_option linter.unusedVariables false
set_option maxRecDepth 100000
namespace Mine
theorem gaps_fact : ∀ g ∈ gapsL, g.length ≤ 3 ∧ ∀ i, i < g.length → (Unicode.isSpace (g.cps.getD i 0) = true ∧ isWordUni (g.cps.getD i 0) = false) := by decide +kernel
theorem menu_fact : ∀ p ∈ menuL, ∀ i, i < p.length → (Unicode.isSpace (p.cps.getD i 0) = false ∧ isWordUni (p.cps.getD i 0) = isw p) := by decide +kernel
theorem kw_fact : ∀ W ∈ kwC, 2 ≤ W.length ∧ ∀ i, i < W.length → isWordUni (W.getD i 0) = true := by decide +kernel
theorem kw_words : kwC = wordsL.map (fun p => p.cps.toList) := by decide +kernel
theorem words_isw : ∀ p ∈ wordsL, isw p = true := by decide +kernel
theorem inW_iff {p : Str} : inW p = true ↔ p ∈ wordsL := by
  unfold inW; rw [List.any_eq_true]
  constructor
  · rintro ⟨x, hx, e⟩; rw [beq_iff_eq] at e; subst e; exact hx
  · intro h; exact ⟨p, h, by simp⟩

def txUp (ps gs : List Str) : Nat → Str
  | 0 => Str.empty
  | k + 1 => ((txUp ps gs k).append (gs.getD k Str.empty)).append (ps.getD k Str.empty)
def txAll (ps gs : List Str) : Str := (txUp ps gs ps.length).append (gs.getD ps.length Str.empty)
def gN (ps gs : List Str) (k : Nat) : Nat := (txUp ps gs k).cps.size
def pN (ps gs : List Str) (k : Nat) : Nat := gN ps gs k + (gs.getD k Str.empty).cps.size
theorem gN_succ (ps gs : List Str) (k : Nat) : gN ps gs (k + 1) = pN ps gs k + (ps.getD k Str.empty).cps.size := by
  show (((txUp ps gs k).cps ++ (gs.getD k Str.empty).cps) ++ (ps.getD k Str.empty).cps).size = _
  rw [Array.size_append, Array.size_append]; rfl
theorem placeAt_gN (ps gs : List Str) : ∀ k, placeAt ps gs k = (gN ps gs k : Int)
  | 0 => rfl
  | k + 1 => by
    rw [gN_succ, placeAt, placeAt_gN ps gs k]
    unfold pN
    rw [Int.natCast_add, Int.natCast_add]; rfl
theorem txUp_pre (ps gs : List Str) (k : Nat) : ∀ j, ∃ R, (txUp ps gs (k + j)).cps = (txUp ps gs k).cps ++ R
  | 0 => ⟨#[], by simp⟩
  | j + 1 => by
    obtain ⟨R, e⟩ := txUp_pre ps gs k j
    refine ⟨R ++ (gs.getD (k + j) Str.empty).cps ++ (ps.getD (k + j) Str.empty).cps, ?_⟩
    show ((txUp ps gs (k + j)).cps ++ (gs.getD (k + j) Str.empty).cps) ++ (ps.getD (k + j) Str.empty).cps = _
    rw [e]; simp [Array.append_assoc]
theorem txAll_pre (ps gs : List Str) {k : Nat} (h : k < ps.length) : ∃ R, (txAll ps gs).cps = (((txUp ps gs k).cps ++ (gs.getD k Str.empty).cps) ++ (ps.getD k Str.empty).cps) ++ R := by
  obtain ⟨R, e⟩ := txUp_pre ps gs (k + 1) (ps.length - (k + 1))
  rw [show k + 1 + (ps.length - (k + 1)) = ps.length by omega] at e
  refine ⟨R ++ (gs.getD ps.length Str.empty).cps, ?_⟩
  show (txUp ps gs ps.length).cps ++ (gs.getD ps.length Str.empty).cps = _
  rw [e]
  show (((txUp ps gs k).cps ++ (gs.getD k Str.empty).cps) ++ (ps.getD k Str.empty).cps) ++ R ++ _ = _
  simp [Array.append_assoc]
theorem getD_l {a b : Array Nat} {x : Nat} (h : x < a.size) : (a ++ b).getD x 0 = a.getD x 0 := by
  rw [Array.getD_eq_getD_getElem?, Array.getD_eq_getD_getElem?, Array.getElem?_append_left h]
theorem getD_r {a b : Array Nat} {x : Nat} (h : a.size ≤ x) : (a ++ b).getD x 0 = b.getD (x - a.size) 0 := by
  rw [Array.getD_eq_getD_getElem?, Array.getD_eq_getD_getElem?, Array.getElem?_append_right h]
theorem tx_gap (ps gs : List Str) {k x : Nat} (hk : k ≤ ps.length) (h1 : gN ps gs k ≤ x) (h2 : x < pN ps gs k) : (txAll ps gs).cps.getD x 0 = (gs.getD k Str.empty).cps.getD (x - gN ps gs k) 0 := by
  unfold pN at h2
  unfold gN at h1 h2 ⊢
  rcases Nat.lt_or_ge k ps.length with h | h
  · obtain ⟨R, e⟩ := txAll_pre ps gs h
    rw [e, getD_l (by rw [Array.size_append, Array.size_append]; omega), getD_l (by rw [Array.size_append]; omega), getD_r h1]
  · have : k = ps.length := by omega
    subst this
    show ((txUp ps gs ps.length).cps ++ (gs.getD ps.length Str.empty).cps).getD x 0 = _
    rw [getD_r h1]
theorem tx_pc (ps gs : List Str) {k x : Nat} (hk : k < ps.length) (h1 : pN ps gs k ≤ x) (h2 : x < gN ps gs (k + 1)) : (txAll ps gs).cps.getD x 0 = (ps.getD k Str.empty).cps.getD (x - pN ps gs k) 0 := by
  rw [gN_succ] at h2
  unfold pN gN at h1 h2 ⊢
  obtain ⟨R, e⟩ := txAll_pre ps gs hk
  rw [e, getD_l (by rw [Array.size_append, Array.size_append]; omega), getD_r (by rw [Array.size_append]; omega), Array.size_append]
theorem mid_extract (A B C : Array Nat) : ((A ++ B) ++ C).extract A.size (A.size + B.size) = B := by
  simp [Array.extract_append]
theorem cut_gap (ps gs : List Str) {k : Nat} (hk : k ≤ ps.length) : cutS (txAll ps gs) (gN ps gs k) (pN ps gs k) = gs.getD k Str.empty := by
  show (⟨(txAll ps gs).cps.extract (gN ps gs k) (pN ps gs k)⟩ : Str) = _
  unfold pN gN
  rcases Nat.lt_or_ge k ps.length with h | h
  · obtain ⟨R, e⟩ := txAll_pre ps gs h
    rw [e, Array.append_assoc, mid_extract]
  · have : k = ps.length := by omega
    subst this
    have e : (txAll ps gs).cps = ((txUp ps gs ps.length).cps ++ (gs.getD ps.length Str.empty).cps) ++ #[] := by simp; rfl
    rw [e, mid_extract]

theorem toList_getD (a : Array Nat) (i : Nat) : a.getD i 0 = a.toList.getD i 0 := by
  rw [Array.getD_eq_getD_getElem?, List.getD_eq_getElem?_getD, Array.getElem?_toList]
theorem rowOk_off {ps gs : List Str} (h : RowOk ps gs) : ∀ (k : Nat) (p q g : Str), ps[k]? = some p → ps[k + 1]? = some q → gs[k + 1]? = some g → g = Str.ofString "" → ¬ (isw p = true ∧ isw q = true) := by
  induction h with
  | nil => intro k p q g h; simp at h
  | @snoc ps gs p0 g0 h hp hg ho ih =>
    intro k p q g h1 h2 h3 h4
    have hl := rowOk_len h
    rcases Nat.lt_trichotomy (k + 1) ps.length with a | a | a
    · rw [List.getElem?_append_left (by omega)] at h1 h2
      rw [List.getElem?_append_left (by omega)] at h3
      exact ih k p q g h1 h2 h3 h4
    · rw [List.getElem?_append_left (by omega)] at h1
      rw [List.getElem?_append_right (by omega), show k + 1 - ps.length = 0 by omega] at h2
      rw [List.getElem?_append_right (by omega), show k + 1 - gs.length = 0 by omega] at h3
      cases h2; cases h3
      refine ho h4 p ?_
      rw [List.getLast?_eq_getElem?, show ps.length - 1 = k by omega]
      exact h1
    · have := (List.getElem?_eq_some_iff.mp h2).1
      rw [List.length_append, List.length_singleton] at this
      omega
theorem str_len0 {g : Str} (h : g.cps.size = 0) : g = Str.ofString "" := by
  cases g with | mk c => have : c = #[] := Array.eq_empty_of_size_eq_zero h; subst this; decide +kernel
theorem getD_some {α : Type} {l : List α} {k : Nat} {d : α} (h : k < l.length) : l[k]? = some (l.getD k d) := by
  rw [List.getD_eq_getElem?_getD, List.getElem?_eq_getElem h]; rfl
theorem getD_mem' {α : Type} {l : List α} {k : Nat} {d : α} (h : k < l.length) : l.getD k d ∈ l := List.mem_of_getElem? (getD_some h)
theorem row_len {ps gs : List Str} (H : RowOk2 ps gs) : gs.length = ps.length + 1 := by
  obtain ⟨gs0, g, rfl, h, _⟩ := H
  rw [List.length_append, List.length_singleton, rowOk_len h]
theorem row_gap {ps gs : List Str} (H : RowOk2 ps gs) {k : Nat} (hk : k ≤ ps.length) : gs.getD k Str.empty ∈ gapsL := by
  have hl := row_len H
  have hm := getD_mem' (d := Str.empty) (show k < gs.length by omega)
  obtain ⟨gs0, g, rfl, h, hg, _⟩ := H
  rcases List.mem_append.mp hm with hm | hm
  · exact rowOk_gaps h _ hm
  · rw [List.mem_singleton.mp hm]; exact hg
theorem row_menu {ps gs : List Str} (H : RowOk2 ps gs) {k : Nat} (hk : k < ps.length) : ps.getD k Str.empty ∈ menuL := by
  obtain ⟨gs0, g, rfl, h, hg, _⟩ := H
  exact rowOk_menu h _ (getD_mem' hk)
theorem row_off {ps gs : List Str} (H : RowOk2 ps gs) {k : Nat} (hk : k + 1 < ps.length) (h1 : isw (ps.getD k Str.empty) = true) (h2 : isw (ps.getD (k + 1) Str.empty) = true) : 0 < (gs.getD (k + 1) Str.empty).cps.size := by
  rcases Nat.eq_zero_or_pos (gs.getD (k + 1) Str.empty).cps.size with e | e
  · exfalso
    obtain ⟨gs0, g, rfl, h, hg, _⟩ := H
    have hl := rowOk_len h
    have e1 : (gs0 ++ [g]).getD (k + 1) Str.empty = gs0.getD (k + 1) Str.empty := by
      rw [List.getD_eq_getElem?_getD, List.getD_eq_getElem?_getD, List.getElem?_append_left (by omega)]
    rw [e1] at e
    exact rowOk_off h k _ _ _ (getD_some (d := Str.empty) (by omega)) (getD_some (d := Str.empty) hk) (getD_some (d := Str.empty) (by omega)) (str_len0 e) ⟨h1, h2⟩
  · exact e

theorem row_lay {ps gs : List Str} (H : RowOk2 ps gs) : Lay (txAll ps gs).cps ps.length (gN ps gs) (pN ps gs) (fun k => inW (ps.getD k Str.empty)) (fun k => isw (ps.getD k Str.empty)) where
  g0 := rfl
  gp k hk := Nat.le_add_right _ _
  pg k hk := by
    rw [gN_succ]
    have := (menu_ok _ (row_menu H hk)).2.1
    exact Nat.lt_add_of_pos_right this
  top := by
    show _ = ((txUp ps gs ps.length).cps ++ (gs.getD ps.length Str.empty).cps).size
    rw [Array.size_append]; rfl
  gap k x hk h1 h2 := by
    rw [tx_gap ps gs hk h1 h2]
    exact (gaps_fact _ (row_gap H hk)).2 _ (by unfold pN at h2; show _ < (gs.getD k Str.empty).cps.size; omega)
  pc k x hk h1 h2 := by
    rw [tx_pc ps gs hk h1 h2]
    exact menu_fact _ (row_menu H hk) _ (by rw [gN_succ] at h2; show _ < (ps.getD k Str.empty).cps.size; omega)
  off k hk h1 h2 := by
    have := row_off H hk h1 h2
    unfold pN; omega
  kw_wd k hk h := words_isw _ (inW_iff.mp h)
  kw_yes k hk h := by
    refine ⟨(ps.getD k Str.empty).cps.toList, ?_, ?_, ?_⟩
    · rw [kw_words]; exact List.mem_map.mpr ⟨_, inW_iff.mp h, rfl⟩
    · rw [gN_succ]; rfl
    · rw [litAt_iff]
      intro i hi
      have hi' : i < (ps.getD k Str.empty).cps.size := hi
      have hg := gN_succ ps gs k
      have hx : pN ps gs k + i < gN ps gs (k + 1) := by omega
      refine ⟨?_, ?_⟩
      · obtain ⟨R, e⟩ := txAll_pre ps gs hk
        rw [e, Array.size_append, Array.size_append, Array.size_append]
        unfold pN gN
        omega
      · rw [tx_pc ps gs hk (Nat.le_add_right _ _) hx, show pN ps gs k + i - pN ps gs k = i by omega, toList_getD]
  kw_no k hk h W hW hl := by
    cases hlit : litAt (txAll ps gs).cps W (pN ps gs k) with
    | false => rfl
    | true =>
      exfalso
      have hi := (litAt_iff _ _ _).mp hlit
      have hg := gN_succ ps gs k
      rw [kw_words] at hW
      obtain ⟨p, hp, rfl⟩ := List.mem_map.mp hW
      have hle : p.cps.size = (ps.getD k Str.empty).cps.size := by
        have : p.cps.toList.length = p.cps.size := rfl
        omega
      have e : p.cps = (ps.getD k Str.empty).cps := by
        refine Array.ext hle fun i h1 h2 => ?_
        have := (hi i h1).2
        rw [tx_pc ps gs hk (Nat.le_add_right _ _) (by omega), show pN ps gs k + i - pN ps gs k = i by omega, ← toList_getD, Array.getD_eq_getD_getElem?, Array.getD_eq_getD_getElem?, Array.getElem?_eq_getElem h1, Array.getElem?_eq_getElem h2] at this
        exact this.symm
      have e' : p = ps.getD k Str.empty := by
        cases p; revert e; cases ps.getD k Str.empty; intro e; cases e; rfl
      rw [e'] at hp
      rw [inW_iff.mpr hp] at h
      cases h
  wn W hW := (kw_fact W hW).1
  wc W hW := (kw_fact W hW).2

theorem scan_of {T : Array Nat} {st : Nat} {ms : List (Nat × Nat × Nat × Nat)} (h : ScanP T st ms) : Scan T st ms := by
  induction h with
  | none h => exact .none h
  | some a b c d e f g h i ih => exact .some a b c d e f g h ih

theorem gapMsg_nil (T : Str) (q : Nat) (p : Int) (a b : Str) : gapMsg (cutS T q q) p a b = [] := by
  have : cutS T q q = Str.empty := by
    show (⟨T.cps.extract q q⟩ : Str) = _
    rw [Array.extract_empty_of_stop_le_start (Nat.le_refl _)]; rfl
  rw [this]
  unfold gapMsg
  rw [if_neg (by decide +kernel), if_neg (by decide +kernel)]

theorem due_from (ps gs : List Str) : ∀ (f k : Nat), k + f ≤ ps.length → dueUpto ps gs (k + f) = dueUpto ps gs k ++ yAll (txAll ps gs) (mFrom (gN ps gs) (pN ps gs) (fun k => inW (ps.getD k Str.empty)) f k)
  | 0, k, h => by show dueUpto ps gs k = _ ++ []; rw [List.append_nil]
  | f + 1, k, h => by
    rw [show k + (f + 1) = (k + 1) + f by omega, due_from ps gs f (k + 1) (by omega)]
    show (dueUpto ps gs k ++ dueStep ps gs k) ++ _ = _
    rw [List.append_assoc]
    congr 1
    show dueStep ps gs k ++ yAll (txAll ps gs) (mFrom (gN ps gs) (pN ps gs) (fun k => inW (ps.getD k Str.empty)) f (k + 1)) = yAll (txAll ps gs) (if inW (ps.getD k Str.empty) = true then (if prevK (fun k => inW (ps.getD k Str.empty)) k = true then pN ps gs k else gN ps gs k, pN ps gs k, gN ps gs (k + 1), pN ps gs (k + 1)) :: mFrom (gN ps gs) (pN ps gs) (fun k => inW (ps.getD k Str.empty)) f (k + 1) else mFrom (gN ps gs) (pN ps gs) (fun k => inW (ps.getD k Str.empty)) f (k + 1))
    cases hk : inW (ps.getD k Str.empty) with
    | false =>
      rw [if_neg (by decide)]
      unfold dueStep dueBefore dueAfter
      rw [hk, if_neg (by simp), if_neg (by decide)]
      rfl
    | true =>
      rw [if_pos rfl]
      show _ = yOf (txAll ps gs) _ ++ yAll (txAll ps gs) _
      congr 1
      unfold dueStep yOf
      congr 1
      · unfold dueBefore
        rw [hk]
        cases k with
        | zero =>
          rw [if_pos ⟨rfl, .inl rfl⟩, placeAt_gN]
          show _ = gapMsg (cutS (txAll ps gs) (gN ps gs 0) (pN ps gs 0)) _ _ _
          rw [cut_gap ps gs (Nat.zero_le _)]; rfl
        | succ j =>
          show _ = gapMsg (cutS (txAll ps gs) (if inW (ps.getD j Str.empty) = true then pN ps gs (j + 1) else gN ps gs (j + 1)) (pN ps gs (j + 1))) ((if inW (ps.getD j Str.empty) = true then pN ps gs (j + 1) else gN ps gs (j + 1) : Nat) : Int) _ _
          cases hj : inW (ps.getD j Str.empty) with
          | true =>
            rw [if_neg, if_pos rfl, gapMsg_nil]
            rintro ⟨_, h | h⟩
            · cases h
            · rw [show j + 1 - 1 = j from rfl, hj] at h; cases h
          | false =>
            rw [if_pos ⟨rfl, .inr hj⟩, if_neg (by decide), placeAt_gN, cut_gap ps gs (by omega)]
      · unfold dueAfter
        rw [hk, if_pos rfl]
        show _ = gapMsg (cutS (txAll ps gs) (gN ps gs (k + 1)) (pN ps gs (k + 1))) ((gN ps gs (k + 1) : Nat) : Int) _ _
        rw [cut_gap ps gs (by omega), ← placeAt_gN]
        rfl

theorem gN_le {ps gs : List Str} (H : RowOk2 ps gs) : ∀ k, k ≤ ps.length → gN ps gs k ≤ 13 * k
  | 0, _ => Nat.le_refl _
  | k + 1, h => by
    have a := gN_le H k (by omega)
    have b := (gaps_fact _ (row_gap H (k := k) (by omega))).1
    have c := (menu_ok _ (row_menu H (k := k) h)).2.2
    rw [gN_succ]
    have b' : (gs.getD k Str.empty).cps.size ≤ 3 := b
    have c' : (ps.getD k Str.empty).cps.size ≤ 10 := c
    unfold pN
    omega
/-- the plain law: the scan of a row tells what is due -/
theorem row_scan {ps gs : List Str} (H : RowOk2 ps gs) : ∃ ms, Scan (txAll ps gs).cps 0 ms ∧ yAll (txAll ps gs) ms = dueUpto ps gs ps.length ∧ (yAll (txAll ps gs) ms).length ≤ 18 ∧ (txAll ps gs).cps.size ≤ 200 := by
  have e := due_from ps gs ps.length 0 (by omega)
  rw [Nat.zero_add] at e
  have hn : ps.length ≤ 9 := by obtain ⟨_, _, _, _, _, _, h⟩ := H; exact h
  have e' : yAll (txAll ps gs) (mFrom (gN ps gs) (pN ps gs) (fun k => inW (ps.getD k Str.empty)) ps.length 0) = dueUpto ps gs ps.length := by rw [e]; rfl
  refine ⟨mFrom (gN ps gs) (pN ps gs) (fun k => inW (ps.getD k Str.empty)) ps.length 0, scan_of (scan_from (row_lay H) ps.length 0 0 (by omega) (.inl ⟨rfl, Nat.zero_le _, fun x h1 h2 => ?_⟩)), e', ?_, ?_⟩
  · exact absurd h2 (Nat.not_lt_zero _)
  · rw [e']; have := dueUpto_len ps gs ps.length; omega
  · rw [← (row_lay H).top]
    have a := gN_le H ps.length (Nat.le_refl _)
    have b : (gs.getD ps.length Str.empty).cps.size ≤ 3 := (gaps_fact _ (row_gap H (Nat.le_refl _))).1
    unfold pN
    omega
end Mine
end

section
open PySem PySem.W PyProof.Rows
local macro_rules | `(tactic| walk_at "again0") => `(tactic| skip)
local macro_rules | `(tactic| walk_at "again1") => `(tactic| skip)
local macro_rules | `(tactic| walk_at "again2") => `(tactic| skip)
local macro_rules | `(tactic| walk_at "again3") => `(tactic| skip)
local macro_rules | `(tactic| walk_at "again4") => `(tactic| skip)
local macro_rules | `(tactic| walk_at "again5") => `(tactic| skip)
local macro_rules | `(tactic| walk_at "again6") => `(tactic| skip)
local macro_rules | `(tactic| walk_at "again7") => `(tactic| skip)
local macro_rules | `(tactic| walk_at "again8") => `(tactic| skip)
local macro_rules | `(tactic| walk_at "again9") => `(tactic| skip)
local macro_rules | `(tactic| walk_at "again10") => `(tactic| skip)
local macro_rules | `(tactic| walk_at "again11") => `(tactic| skip)
local macro_rules | `(tactic| walk_at "again12") => `(tactic| skip)
local macro_rules | `(tactic| walk_at "again13") => `(tactic| skip)
local macro_rules | `(tactic| walk_at "again14") => `(tactic| skip)
local macro_rules | `(tactic| walk_at "again15") => `(tactic| skip)
local macro_rules | `(tactic| walk_at "again16") => `(tactic| skip)
local macro_rules | `(tactic| walk_at "again17") => `(tactic| skip)
local macro_rules | `(tactic| walk_at "again18") => `(tactic| skip)
local macro_rules | `(tactic| walk_at "again19") => `(tactic| skip)
theorem Mine.again_L1 : True := by
  w_top off
  try (walk1; fail)
  trivial
end

section
open PySem PySem.W PyProof.Rows PySem.Calls
set_option Elab.async false
set_option pp.deepTerms false
set_option pp.deepTerms.threshold 8
set_option linter.unusedVariables false
set_option maxRecDepth 100000
namespace Mine

noncomputable def lObj (P : Params) : Obj := ((hd.heap_39 P).lookup 85).getD default
noncomputable def lData (P : Params) : FuncData := match (lObj P).data with | .func fd => fd | _ => default
noncomputable def lBody (P : Params) : List Stmt := match (lData P).body with | .stmts b => b | _ => []
noncomputable def lFor (P : Params) : Stmt := (lBody P).getD 3 default
noncomputable def lLoop (P : Params) : List Stmt := match lFor P with | .For _ _ b _ _ => b | _ => default
noncomputable def lS (P : Params) (k : Nat) : Stmt := (lLoop P).getD k default
noncomputable abbrev lEnv (P : Params) (L fa : Addr) (cd : Value) : Env := envOf (lData P).qualname (lData P).scope L fa cd
noncomputable abbrev lA (P : Params) (L fa : Addr) (cd : Value) : Around := callerA.deeper (lEnv P L fa cd)
theorem lLoop_eq (P : Params) : lLoop P = [lS P 0, lS P 1, lS P 2, lS P 3, lS P 4, lS P 5] := by rfl
theorem lBody_len (P : Params) : (lBody P).length = 5 := by rfl

theorem txUp_len {ps gs : List Str} (H : RowOk2 ps gs) (k : Nat) (hk : k ≤ ps.length) : (txUp ps gs k).length ≤ 13 * k := gN_le H k hk
structure TxS where
  tx : Str
  tt : Tok
def txP (ps gs : List Str) (pre : List Int) (c : TxS) : Prop := c.tx = txUp ps gs pre.length
section
local macro_rules | `(tactic| k_all) => `(tactic| assumption)
local macro_rules | `(tactic| walk_at "call ref") => `(tactic| (k_here; (with_reducible show wpAny _ _ (call (Value.ref 71) _) _ _ _); k_dflt (refine' row_ok ?k1 ?k2 ?k3 ?k4 ?k5 ?k6 ?k7 ?k8 ?k9 ?k10 ?k11 ?k12 ?k13 ?k14 ?k15 ?k16 ?_; (case k1 => k_asm); (case k2 => k_asm); (case k3 => k_asm); (case k4 => k_asm); (case k5 => first | exact rfl | assumption); (case k6 => k_asm); (case k7 => assumption); (case k8 => assumption); (case k9 => assumption); (case k10 => omega); (case k11 => omega); (case k12 => omega); (case k13 => omega); (case k14 => omega); (case k15 => decide); (case k16 => decide))))
local macro_rules | `(tactic| walk_at "subscriptTail") => `(tactic| (k_here; (with_reducible show wpAny _ _ (subscriptTail _ _ (Value.ref _) (Value.int _ _)) _ _ _); k_dflt (refine' KTb.item_list ?kl ?kw ?k0 ?k1 ?kf ?_; (case kl => exact News.isList (by k_asm) (by k_mem)); (case kw => assumption); (case k0 => omega); (case k1 => omega); (case kf => omega)); intro t' hlt'))
local macro_rules | `(tactic| walk_at "binaryOp Add") => `(tactic| (k_here; (with_reducible show wpAny _ _ (binaryOp Operator.Add (Value.str _ _) (Value.str _ _)) _ _ _); (refine KOpn.add ?hs ?_; (case hs => omega)); intro t' tk' hl'))
local macro_rules | `(tactic| k_steps) => `(tactic| repeat' ((fail_if_success (with_reducible show wpAny _ _ (pyIter _) _ _ _)); (fail_if_success (with_reducible show InvEndN _ _ _ _ _ _ _)); (fail_if_success (with_reducible show InvEndG _ _ _ _ _ _)); (first | (k_unfold; (try dsimp only)) | (k_end; kc_close) | walk1 | (dsimp only; walk1) | (leave1; walk_say "STEP leave1"; (try dsimp only)) | fail "no step")))
set_option maxHeartbeats 1000000 in
theorem seg_a {w : World} {mean : ExcName → Option Value} {mg mb : Str → Option Value} {h₀ : Heap} {L fa : Addr} {cd : Value} {m : Str → Option Value} {s : Shared} {Q : Flow → Shared → Prop}
   {st sl : Addr} {i sd : Int} {ti ts : Tok} {n n2 : Nat} {vs : List Value} {ns : List Int} {rest : List (Addr × Obj)}
   (B : Below callerA h₀ [] h₀) (F : Fr h₀ L s.heap (fun y => if y = Str.ofString "state" then some (.ref st) else m y)) (X : (hd.heap_39 w.params).In h₀) (T : Top hd.view_39 Lz mean mg mb h₀)
   (N : News h₀ L s.heap ((st, stObj sl i ti sd ts n) :: (sl, listOf vs.toArray n2) :: rest))
   (hrs : ∀ p ∈ rest, p.1 ≠ st) (hne : @LT.lt Nat _ sl st) (hi : IntsAre vs ns) (hns : ns.length ≤ 63) (h0 : 0 ≤ i) (hi63 : i ≤ 100) (h1 : 0 ≤ sd) (h2 : sd < 2147483647)
   (hret : ∀ (D S P : Addr) (pv sv : List Value) (ps gs : List Str) (pn : Nat) (i' : Int) (ti' : Tok) (sd' : Int) (ts' tx : Tok) (m' : Str → Option Value) h' tk', Fr h₀ L h' m' → m' (Str.ofString "pieces") = some (.ref P) → m' (Str.ofString "spaces") = some (.ref S) → m' (Str.ofString "text") = some (.str (txAll ps gs) tx) →
      (∀ y, y ≠ Str.ofString "pieces" → y ≠ Str.ofString "spaces" → y ≠ Str.ofString "text" → y ≠ Str.ofString "at" → m' y = if y = Str.ofString "state" then some (.ref st) else m y) →
      News h₀ L h' ((S, listOf sv.toArray 0) :: (P, listOf pv.toArray pn) :: (st, stObj sl i' ti' sd' ts' n) :: (sl, listOf vs.toArray n2) :: rest) →
      StrsAre pv ps → StrsAre sv gs → RowOk2 ps gs → 0 ≤ i' → i' ≤ 100 → 0 ≤ sd' → sd' < 2147483647 → @LT.lt Nat _ P S → @LT.lt Nat _ st P → @LT.lt Nat _ sl P → AllLt P rest →
      Q .next { s with heap := h', toks := tk' }) :
   wpAny (model PySem.Challenge.rw_et5021_01.row.prog w) (lA w.params L fa cd) (execs [lS w.params 0, lS w.params 1, lS w.params 2, lS w.params 3] (lEnv w.params L fa cd)) Q (fun _ _ => False) s := by
  revert X; k_fill; intro X
  show wpAny _ (callerA.deeper (envOf _ _ L fa cd)) (execs [.Assign _ _ _, .Assign _ _ _, .For _ _ _ _ _, .Assign _ _ _] (envOf _ _ L fa cd)) Q (fun _ _ => False) s
  k_steps
  rename_i D S P pv sv ps gs pn i1 ti1 sd1 ts1 q1 tk1 c1 c2 c3 c4 c5 c6 c7 c8 c9 c10 c11 c12 q2 q3 q4 q5 F1 N1
  have hr := c3
  obtain ⟨gs0, g9, hgs, hr0, hg9, hlo, hhi⟩ := hr
  have hlen : gs.length = ps.length + 1 := by rw [hgs]; simp [rowOk_len hr0]
  have hz1 : pv.length = ps.length := c1.length
  have hz2 : sv.length = ps.length + 1 := by rw [c2.length, hlen]
  have hGl : ∀ j, (gs.getD j Str.empty).length ≤ 3 := fun j => getD_len (fun y hy => (rowOk2_gaps c3 y hy)) j
  have hPl : ∀ j, (ps.getD j Str.empty).length ≤ 10 := fun j => getD_len (fun y hy => (menu_ok y (rowOk_menu hr0 y hy)).2.2) j
  k_steps
  rename_i q6 tk6 t1 u1 v1 hR F2 N2 hkeep
  refine kst_range (fun c : TxS => (D, tupObj #[.ref P, .ref S]) :: (S, listOf sv.toArray 0) :: (P, listOf pv.toArray pn) :: (st, stObj sl i1 ti1 sd1 ts1 n) :: (sl, listOf vs.toArray n2) :: rest) (fun c => [(Str.ofString "text", .str c.tx c.tt)]) (fun _ => True) [] (txP ps gs) ⟨Str.ofString "", tk⟩ (n := ((ps.length : Int) - 0).toNat) rfl hR (small_one (by omega) (by omega) (by omega) (by omega)) (rangeSize_nat _ _) F2 N2 trivial ?_ ?_ ?_ ?_
  · intro p hp
    rw [List.mem_singleton.mp hp]
    rfl
  · rfl
  · rintro ⟨tx, tt⟩ pre k tk0 u h tk' own hkk hpre hoff hf hp1 F3 N3
    dsimp only [kstB] at F3 N3
    have hle : pre.length < ps.length := by omega
    obtain rfl : k = (pre.length : Int) := by omega
    clear F2 N2 hkeep hR
    have hT := txUp_len c3 pre.length (by omega)
    rw [← hp1] at hT
    dsimp only at hT
    have hG := hGl (pre.length : Int).toNat
    have hP := hPl (pre.length : Int).toNat
    k_steps
    rename_i y1 y2 y3 y4 y5 y6 y7 y8 h' F' N'
    have hp1' : tx = txUp ps gs pre.length := hp1
    refine kst_end (⟨tx ++ gs.getD (pre.length : Int).toNat Str.empty ++ ps.getD (pre.length : Int).toNat Str.empty, y6⟩ : TxS) F' N' (fun p hp => List.mem_append_left _ hp) (fun p hp => List.mem_append_right _ hp) rfl trivial ?_ (fun z z1 z2 z3 => ?_) ?_
    · intro p hp
      rw [List.mem_singleton.mp hp]
      rfl
    · have zt := z2 (Str.ofString "text", .str (tx ++ gs.getD (pre.length : Int).toNat Str.empty ++ ps.getD (pre.length : Int).toNat Str.empty) y6) (List.mem_singleton.mpr rfl)
      dsimp only at zt
      simp only [if_neg z1, if_neg zt, List.contains_nil, Bool.false_eq_true, if_false]
    · show tx ++ _ ++ _ = txUp ps gs (pre ++ [(pre.length : Int)]).length
      rw [List.length_append, List.length_singleton]
      show _ = ((txUp ps gs pre.length).append _).append _
      rw [← hp1']
      rfl
  · rintro ⟨tx, tt⟩ u h tk' hf hp1 F3 N3
    dsimp only [kstB] at F3 N3
    clear F2 N2 hkeep hR
    have hn : (rangeKs 0 ((ps.length : Int) - 0).toNat).length = ps.length := by rw [rangeKs_length]; omega
    unfold txP at hp1
    rw [hn] at hp1
    have hT := txUp_len c3 ps.length (by omega)
    rw [← hp1] at hT
    have hG := hGl (-1 + (gs.length : Int)).toNat
    k_steps
    rename_i y1 y2 y3 y4 h' F' N'
    rename StrsAre sv gs => c2'
    have e : tx ++ gs.getD (-1 + (gs.length : Int)).toNat Str.empty = txAll ps gs := by
      rw [show (-1 + (gs.length : Int)).toNat = ps.length by omega]
      show tx.append _ = (txUp ps gs ps.length).append _
      rw [← hp1]
    rw [e] at F'
    refine hret D S P pv sv ps gs pn i1 ti1 sd1 ts1 _ _ _ _ F' rfl rfl rfl (fun y a1 a2 a3 a4 => ?_) (fun p hp => N' p (.tail _ hp)) c1 c2' c3 c4 c5 c6 c7 c8 c10 c11 c12
    simp only [if_neg a1, if_neg a2, if_neg a3, if_neg a4, List.contains_nil, Bool.false_eq_true, if_false]
end
end Mine
end

section
open PySem PySem.W PyProof.Rows PySem.Calls
set_option Elab.async false
set_option pp.deepTerms false
set_option pp.deepTerms.threshold 8
set_option linter.unusedVariables false
set_option maxRecDepth 100000
namespace Mine
section rules
variable {prog : Program} {w : World} {A : Around} {E : Value → Shared → Prop} {s : Shared} {env : Env}
theorem splicedC_nil {Q : List Value → Shared → Prop} (h : Q [] s) : wpC prog w A (spliced []) Q E s := wpK_pure h
theorem splicedC_cons {x : Sem Value} {rest : List (Bool × Sem Value)} {Q : List Value → Shared → Prop}
    (h : wpC prog w A x (fun v s₁ => wpC prog w A (spliced rest) (fun vs s₂ => Q (v :: vs) s₂) E s₁) E s) : wpC prog w A (spliced ((false, x) :: rest)) Q E s := by
  rw [spliced]
  refine wpK_bind (wpK_mono h (fun v s₁ h₁ => ?_) fun _ _ x => x)
  simp only [Bool.false_eq_true, if_false]
  refine wpK_bind (wpK_pure ?_)
  exact wpK_bind (wpK_holding (wpK_mono h₁ (fun vs s₂ h₂ => wpK_pure h₂) fun _ _ x => x))
theorem argsC_one {f : Value} {x : Sem Value} {Q : Args → Shared → Prop}
    (h : wpC prog w A x (fun v s' => Q ⟨[v], []⟩ s') E s) : wpC prog w A (evalArgs f true [(false, x)] []) Q E s := by
  unfold evalArgs
  show wpC prog w A (spliced [(false, x)] >>= _) Q E s
  refine wpK_bind (splicedC_cons (wpK_mono h (fun v s' h' => splicedC_nil ?_) fun _ _ x => x))
  refine wpK_holding ?_
  exact wpK_bind (wpK_pure (wpK_bind (wpK_pure (wpK_pure h'))))
theorem callWithC_plain {pos : Pos} {f : Value} {first : List Value} {x : Sem Value} {Q : Value → Shared → Prop} (hk : keeperOf f = pure .machine)
    (h : wpC prog w A x (fun v s₁ => wpC prog w A (call f (first ++ [v]) []) Q E s₁) E s) :
    wpC prog w A (callWith pos f first [(false, x)] []) Q E s := by
  unfold callWith
  refine wpK_bind (wpK_holding (argsC_one (wpK_mono h (fun v s₁ h₁ => ?_) fun _ _ x => x)))
  refine wpK_bind (wpK_standAt ?_)
  rw [hk]
  simp only [List.any_cons, List.any_nil, Bool.or_false]
  refine wpK_bind (wpK_pure ?_)
  exact wpK_bind (wpK_mono h₁ (fun r s₂ hr => wpK_bind (wpK_holding (wpK_point (wpK_pure hr)))) fun _ _ x => x)
theorem callNameC {id : Str} {p pos : Pos} {e : Expr} {f : Value} {Q : Value → Shared → Prop} (hk : keeperOf f = pure .machine)
    (hf : wpAny (model prog w) A (eval (.Name id p) env) (fun v s₁ => v = f ∧ s₁ = s) E s) (htrees : backTo pos (starEach [e] env) = [(false, eval e env)])
    (h : wpC prog w A (eval e env) (fun y s₁ => wpC prog w A (call f [y] []) Q E s₁) E s) :
    wpC prog w A (eval (.Call (.Name id p) [e] [] pos) env) Q E s := by
  show wpC prog w A (eval (.Name id p) env >>= fun v => callWith pos v [] (backTo pos (starEach [e] env)) (backToKw pos (keywordEach [] env))) Q E s
  refine wpK_bind (wpK_mono (wpC_emb hf) (fun v s₁ h₁ => ?_) fun _ _ x => x)
  obtain ⟨rfl, rfl⟩ := h₁
  rw [htrees]
  exact callWithC_plain hk h
theorem appendC {o e : Expr} {apos pos pos2 : Pos} {D : Addr} {Q : Flow → Shared → Prop} (hi : interactive env = false) (hs : swapsWith (.Call (.Attribute o (Str.ofString "append") apos) [e] [] pos) none pos2.line env = pure false)
    (hbase : attributeBase o (Str.ofString "append") env (eval o env) = eval o env) (hline : (apos.endLine == pos.line) = true) (htrees : backTo pos (starEach [e] env) = [(false, eval e env)])
    (hn : wpAny (model prog w) A (eval o env) (fun v s₁ => v = .ref D ∧ s₁ = s) E s) (hD : ∃ its n, s.heap.get? D = some (listOf its n))
    (h : wpC prog w A (eval e env) (fun y s₂ => ∃ its n, s₂.heap.get? D = some (listOf its n) ∧ its.size ≤ 100 ∧ ∀ h', Heap.SameBut D s₂.heap h' → h'.get? D = some (listOf (its.push y) (n + 1)) → Q .next { s₂ with heap := h' }) E s) :
    wpC prog w A (exec (.Expr (.Call (.Attribute o (Str.ofString "append") apos) [e] [] pos) pos2) env) Q E s := by
  refine wpC_Expr hi hs ?_
  rw [arm_eval_Call, hbase]
  refine wpK_bind (wpK_mono (wpC_emb hn) (fun v s₁ h₁ => ?_) fun _ _ x => x)
  obtain ⟨rfl, rfl⟩ := h₁
  refine wpK_bind (wpK_standAt ?_)
  have hform : methodCallForm (([e] : List Expr).length + ([] : List Keyword).length) (backTo pos (starEach [e] env)) (backToKw pos (keywordEach [] env)) = true := by rw [htrees]; rfl
  have hpos : methodCallPos true o env apos pos = pure pos := by unfold methodCallPos; simp [hline]
  unfold methodCall
  rw [hform]
  obtain ⟨its, n, hD⟩ := hD
  refine wpK_bind (wpK_holding (wpC_emb (Calls.getMethod_list_append hD rfl rfl ?_)))
  refine wpK_bind (wpK_of_eq hpos (wpK_pure ?_))
  rw [htrees]
  refine callWithC_plain rfl (wpK_mono h (fun y s₂ h₂ => ?_) fun _ _ x => x)
  obtain ⟨its, n, h1, h2, h3⟩ := h₂
  exact wpC_emb (append_at (hsz := Nat.le_trans h2 (by rw [sizeLine_eq]; decide)) h1 fun h' hs ho => h3 h' hs ho)
end rules
end Mine
end

section
open PySem PySem.W PyProof.Rows
local macro_rules | `(tactic| walk_at "again0") => `(tactic| skip)
local macro_rules | `(tactic| walk_at "again1") => `(tactic| skip)
local macro_rules | `(tactic| walk_at "again2") => `(tactic| skip)
local macro_rules | `(tactic| walk_at "again3") => `(tactic| skip)
local macro_rules | `(tactic| walk_at "again4") => `(tactic| skip)
local macro_rules | `(tactic| walk_at "again5") => `(tactic| skip)
local macro_rules | `(tactic| walk_at "again6") => `(tactic| skip)
local macro_rules | `(tactic| walk_at "again7") => `(tactic| skip)
local macro_rules | `(tactic| walk_at "again8") => `(tactic| skip)
local macro_rules | `(tactic| walk_at "again9") => `(tactic| skip)
local macro_rules | `(tactic| walk_at "again10") => `(tactic| skip)
local macro_rules | `(tactic| walk_at "again11") => `(tactic| skip)
local macro_rules | `(tactic| walk_at "again12") => `(tactic| skip)
local macro_rules | `(tactic| walk_at "again13") => `(tactic| skip)
local macro_rules | `(tactic| walk_at "again14") => `(tactic| skip)
local macro_rules | `(tactic| walk_at "again15") => `(tactic| skip)
local macro_rules | `(tactic| walk_at "again16") => `(tactic| skip)
local macro_rules | `(tactic| walk_at "again17") => `(tactic| skip)
local macro_rules | `(tactic| walk_at "again18") => `(tactic| skip)
local macro_rules | `(tactic| walk_at "again19") => `(tactic| skip)
theorem Mine.again_L3 : True := by
  w_top off
  try (walk1; fail)
  trivial
end

section
open PySem PySem.W PyProof.Rows PySem.Calls
set_option Elab.async false
set_option pp.deepTerms false
set_option pp.deepTerms.threshold 8
set_option linter.unusedVariables false
set_option maxRecDepth 100000
namespace Mine
noncomputable def cO (st : Stmt) : Expr := match st with | .Expr (.Call (.Attribute o _ _) _ _ _) _ => o | _ => default
noncomputable def cE (st : Stmt) : Expr := match st with | .Expr (.Call _ [e] _ _) _ => e | _ => default
noncomputable def cA (st : Stmt) : Pos := match st with | .Expr (.Call (.Attribute _ _ p) _ _ _) _ => p | _ => default
noncomputable def cP (st : Stmt) : Pos := match st with | .Expr (.Call _ _ _ p) _ => p | _ => default
noncomputable def cQ (st : Stmt) : Pos := match st with | .Expr _ p => p | _ => default
noncomputable def nP (e : Expr) : Pos := match e with | .Call (.Name _ p) _ _ _ => p | _ => default
noncomputable def nE (e : Expr) : Expr := match e with | .Call _ [e] _ _ => e | _ => default
noncomputable def nQ (e : Expr) : Pos := match e with | .Call _ _ _ p => p | _ => default
theorem lA_depth {e : Env} : (callerA.deeper e).depth < recursionLimit := by
  show 1 + claimMargin + 1 < recursionLimit
  decide
theorem lS4_eq (P : Params) : lS P 4 = .Expr (.Call (.Attribute (cO (lS P 4)) (Str.ofString "append") (cA (lS P 4))) [cE (lS P 4)] [] (cP (lS P 4))) (cQ (lS P 4)) := by rfl
theorem lS5_eq (P : Params) : lS P 5 = .Expr (.Call (.Attribute (cO (lS P 5)) (Str.ofString "append") (cA (lS P 5))) [cE (lS P 5)] [] (cP (lS P 5))) (cQ (lS P 5)) := by rfl
theorem cE4_eq (P : Params) : cE (lS P 4) = .Call (.Name (Str.ofString "list") (nP (cE (lS P 4)))) [nE (cE (lS P 4))] [] (nQ (cE (lS P 4))) := by rfl

section
local macro_rules | `(tactic| k_all) => `(tactic| assumption)
local macro_rules | `(tactic| walk_at "call ref") => `(tactic| (k_here; (with_reducible show wpAny _ _ (call (Value.ref 43) _) _ _ _); k_dflt (refine' make_gen ?k1 ?k2 ?k3 ?k4 ?_; (case k1 => k_asm); (case k2 => k_asm); (case k3 => k_asm); (case k4 => decide)); intro h1' tk1' F1' hz1'))
local macro_rules | `(tactic| walk_at "call ref") => `(tactic| (k_here; (with_reducible show wpAny _ _ (call (Value.ref 78) _) _ _ _); k_dflt (refine' due_ok ?k1 ?k2 ?k3 ?k4 ?k5 ?k6 ?k7 ?k8 ?k9 ?k10 ?k11 ?_; (case k1 => k_asm); (case k2 => k_asm); (case k3 => k_asm); (case k4 => k_asm); (case k5 => first | exact rfl | assumption); (case k6 => assumption); (case k7 => assumption); (case k8 => assumption); (case k9 => assumption); (case k10 => decide); (case k11 => decide))))
variable {w : World} {mean : ExcName → Option Value} {mg mb : Str → Option Value} {h₀ : Heap} {L fa : Addr} {cd : Value} {m : Str → Option Value} {s : Shared} {E : Value → Shared → Prop}

theorem told_name {D : Addr} (F : Fr h₀ L s.heap (fun y => if y = Str.ofString "told" then some (.ref D) else m y)) (X : (hd.heap_39 w.params).In h₀) (T : Top hd.view_39 Lz mean mg mb h₀) :
   wpAny (model PySem.Challenge.rw_et5021_01.row.prog w) (lA w.params L fa cd) (eval (cO (lS w.params 4)) (lEnv w.params L fa cd)) (fun v s₁ => v = .ref D ∧ s₁ = s) E s := by
  revert X; k_fill; intro X
  show wpAny _ (callerA.deeper (envOf _ _ L fa cd)) (eval (.Name _ _) (envOf _ _ L fa cd)) _ E s
  k_steps
theorem due_name {D : Addr} (F : Fr h₀ L s.heap (fun y => if y = Str.ofString "due" then some (.ref D) else m y)) (X : (hd.heap_39 w.params).In h₀) (T : Top hd.view_39 Lz mean mg mb h₀) :
   wpAny (model PySem.Challenge.rw_et5021_01.row.prog w) (lA w.params L fa cd) (eval (cO (lS w.params 5)) (lEnv w.params L fa cd)) (fun v s₁ => v = .ref D ∧ s₁ = s) E s := by
  revert X; k_fill; intro X
  show wpAny _ (callerA.deeper (envOf _ _ L fa cd)) (eval (.Name _ _) (envOf _ _ L fa cd)) _ E s
  k_steps
theorem list_name (F : Fr h₀ L s.heap m) (X : (hd.heap_39 w.params).In h₀) (T : Top hd.view_39 Lz mean mg mb h₀) :
   wpAny (model PySem.Challenge.rw_et5021_01.row.prog w) (lA w.params L fa cd) (eval (.Name (Str.ofString "list") (nP (cE (lS w.params 4)))) (lEnv w.params L fa cd)) (fun v s₁ => v = .type "list" ∧ s₁ = s) E s := by
  revert X; k_fill; intro X
  show wpAny _ (callerA.deeper (envOf _ _ L fa cd)) (eval (.Name _ _) (envOf _ _ L fa cd)) _ E s
  k_steps
theorem gen_made {T : Str} {t : Tok} {Q : Value → Shared → Prop} (F : Fr h₀ L s.heap (fun y => if y = Str.ofString "text" then some (.str T t) else m y)) (X : (hd.heap_39 w.params).In h₀) (TT : Top hd.view_39 Lz mean mg mb h₀)
   (h : ∀ (h₁ : Heap) (tk : Nat), Fr s.heap s.heap.objs.size h₁ (fun x => [(Str.ofString "logical_line", Value.str T t)].reverse.lookup x) → h₁.objs.size = s.heap.objs.size + 1 →
      Q (.ref h₁.objs.size) { s with heap := h₁.push { cls := .type "generator", data := .fields #[.int s.gens.size 0, .str (gData w.params).name tk, .str (gData w.params).qualname (tk + 1)] }, gens := s.gens.push (.fresh (.func (gBody w.params) (genv w.params s.heap.objs.size))), toks := tk + 1 + 1 }) :
   wpAny (model PySem.Challenge.rw_et5021_01.row.prog w) (lA w.params L fa cd) (eval (nE (cE (lS w.params 4))) (lEnv w.params L fa cd)) Q E s := by
  revert X; k_fill; intro X
  show wpAny _ (callerA.deeper (envOf _ _ L fa cd)) (eval (.Call _ _ _ _) (envOf _ _ L fa cd)) _ E s
  k_steps
  exact make_gen F X TT lA_depth h
theorem due_made {P S : Addr} {pv sv : List Value} {ps gs : List Str} {pn : Nat} {rest : List (Addr × Obj)} {Q : Value → Shared → Prop} (B : Below callerA h₀ [] h₀)
   (F : Fr h₀ L s.heap (fun y => if y = Str.ofString "pieces" then some (.ref P) else if y = Str.ofString "spaces" then some (.ref S) else m y)) (X : (hd.heap_39 w.params).In h₀) (TT : Top hd.view_39 Lz mean mg mb h₀)
   (N : News h₀ L s.heap ((P, listOf pv.toArray pn) :: (S, listOf sv.toArray 0) :: rest)) (hp : StrsAre pv ps) (hs : StrsAre sv gs) (hr : RowOk2 ps gs)
   (h : ∀ (D wA : Addr) (wv dv : List Value) (dn : Nat) (tl : List (Addr × Obj)) h' tk' m', Fr h₀ L h' m' → m' = (fun y => if y = Str.ofString "pieces" then some (.ref P) else if y = Str.ofString "spaces" then some (.ref S) else m y) →
      News h₀ L h' ((D, listOf dv.toArray dn) :: (wA, listOf wv.toArray 0) :: (P, listOf pv.toArray pn) :: (S, listOf sv.toArray 0) :: (rest ++ tl)) →
      DatAll ((wA, listOf wv.toArray 0) :: (P, listOf pv.toArray pn) :: (S, listOf sv.toArray 0) :: rest ++ tl) dv ((dueUpto ps gs ps.length).map datOf) →
      (∀ q ∈ (P, listOf pv.toArray pn) :: (S, listOf sv.toArray 0) :: rest, D ≠ q.1 ∧ wA ≠ q.1 ∧ ∀ p ∈ tl, p.1 ≠ q.1) →
      Q (.ref D) { s with heap := h', toks := tk' }) :
   wpAny (model PySem.Challenge.rw_et5021_01.row.prog w) (lA w.params L fa cd) (eval (cE (lS w.params 5)) (lEnv w.params L fa cd)) Q E s := by
  revert X; k_fill; intro X
  show wpAny _ (callerA.deeper (envOf _ _ L fa cd)) (eval (.Call _ _ _ _) (envOf _ _ L fa cd)) _ E s
  k_steps
  exact h _ _ _ _ _ _ _ _ _ (by assumption) rfl (by assumption) (by assumption) (by assumption)
end
end Mine
end

section
open PySem PySem.W PyProof.Rows PySem.Calls
set_option Elab.async false
set_option pp.deepTerms false
set_option pp.deepTerms.threshold 8
set_option linter.unusedVariables false
set_option maxRecDepth 100000
namespace Mine
theorem bindM {m : Str → Option Value} {x : Str} {v : Value} (h : m x = some v) : (fun y => if y = x then some v else m y) = m := by
  funext y
  split
  · rename_i e; rw [e, h]
  · rfl
theorem told_dat {hb h : Heap} : ∀ (vs : List Value) (is : List (Int × Str)), vs.length = is.length →
    (∀ (j : Nat) (v : Value), vs[j]? = some v → ∃ (ta : Addr) (i : Int) (msg : Str) (u1 u2 : Tok), v = .ref ta ∧ is[j]? = some (i, msg) ∧ h.get? ta = some (tupObj #[.int i u1, .str msg u2]) ∧ hb.get? ta = none) →
    ∃ tl : List (Addr × Obj), (∀ p ∈ tl, h.get? p.1 = some p.2 ∧ hb.get? p.1 = none) ∧ DatAll tl vs (is.map datOf)
  | [], [], _, _ => ⟨[], fun _ h => (nomatch h), .nil⟩
  | v :: vs, (i, msg) :: is, hl, ht => by
    obtain ⟨tl, h1, h2⟩ := told_dat vs is (by simpa using hl) fun j v hj => ht (j + 1) v (by simpa using hj)
    obtain ⟨ta, i', msg', u1, u2, rfl, e, g1, g2⟩ := ht 0 v rfl
    cases e
    refine ⟨(ta, tup2 i u1 msg u2) :: tl, fun p hp => ?_, .cons (dat_tup (.head _)) (h2.mono fun p hp => .tail _ hp)⟩
    rcases List.mem_cons.mp hp with rfl | hp
    · exact ⟨g1, g2⟩
    · exact h1 p hp
theorem dat_tups {news news' : List (Addr × Obj)} (hs : ∀ p ∈ news, p.2.cls = .type "tuple" → p ∈ news') : ∀ (xs : List (Int × Str)) (vs : List Value), DatAll news vs (xs.map datOf) → DatAll news' vs (xs.map datOf)
  | [], _, .nil => .nil
  | x :: xs, _, .cons hd r => by
    refine .cons ?_ (dat_tups hs xs _ r)
    cases hd with
    | tuple hm ha =>
      refine .tuple (hs _ hm rfl) ?_
      cases ha with
      | cons a b =>
        cases b with
        | cons c d =>
          cases a; cases c; cases d
          exact .cons (.int _ _) (.cons (.str _ _) .nil)
theorem gap_strs (g : Str) (p : Int) (a b : Str) (ha : PyData.strOk a = true) (hb : PyData.strOk b = true) : ∀ x ∈ gapMsg g p a b, PyData.strOk x.2 = true := by
  intro x hx
  unfold gapMsg at hx
  split at hx
  · rw [List.mem_singleton.mp hx]; exact ha
  · split at hx
    · rw [List.mem_singleton.mp hx]; exact hb
    · cases hx
theorem due_strs (ps gs : List Str) : ∀ k, ∀ x ∈ dueUpto ps gs k, PyData.strOk x.2 = true
  | 0, x, hx => nomatch hx
  | k + 1, x, hx => by
    rcases List.mem_append.mp hx with hx | hx
    · exact due_strs ps gs k x hx
    · rcases List.mem_append.mp hx with hx | hx
      · unfold dueBefore at hx
        split at hx
        · exact gap_strs _ _ _ _ (by decide +kernel) (by decide +kernel) x hx
        · cases hx
      · unfold dueAfter at hx
        split at hx
        · exact gap_strs _ _ _ _ (by decide +kernel) (by decide +kernel) x hx
        · cases hx
theorem due_kqd (ps gs : List Str) (k : Nat) : kqdOk 8 (.list ((dueUpto ps gs k).map datOf)) = true := by
  show List.all _ (kqdOk 7) = true
  rw [List.all_eq_true]
  intro d hd
  obtain ⟨x, hx, rfl⟩ := List.mem_map.mp hd
  show List.all [Dat.int x.1, Dat.str x.2] (kqdOk 6) = true
  have := due_strs ps gs k x hx
  simp [kqdOk, this]
end Mine
end

section
open PySem PySem.W PyProof.Rows PySem.Calls
set_option Elab.async false
set_option pp.deepTerms false
set_option pp.deepTerms.threshold 8
set_option linter.unusedVariables false
set_option maxRecDepth 100000
namespace Mine

/-- the law's state between two turns -/
structure LI (h₀ : Heap) (L st sl tA dA I : Addr) (io : Obj) (vs : List Value) (n n2 : Nat) (os : OsState) (k : Nat) (s : Shared) : Prop where
  ex : ∃ (m : Str → Option Value) (i : Int) (ti : Tok) (sd : Int) (ts : Tok) (tv dv : List Value) (tn dn : Nat) (ds : List Dat) (rest : List (Addr × Obj)),
    Fr h₀ L s.heap m ∧ m (Str.ofString "state") = some (.ref st) ∧ m (Str.ofString "told") = some (.ref tA) ∧ m (Str.ofString "due") = some (.ref dA) ∧
    News h₀ L s.heap ((st, stObj sl i ti sd ts n) :: (sl, listOf vs.toArray n2) :: (tA, listOf tv.toArray tn) :: (dA, listOf dv.toArray dn) :: (I, io) :: rest) ∧
    (∀ p ∈ rest, p.1 ≠ st ∧ p.1 ≠ tA ∧ p.1 ≠ dA ∧ p.1 ≠ I) ∧ DatAll rest tv ds ∧ DatAll rest dv ds ∧ (∀ d ∈ ds, kqdOk 8 d = true) ∧ ds.length + k ≤ 10 ∧
    0 ≤ i ∧ i ≤ 100 ∧ 0 ≤ sd ∧ sd < 2147483647
  bare : AllBare s.gens
  os_ : s.os = os

set_option maxHeartbeats 1000000 in
theorem law_turn {w : World} {mean : ExcName → Option Value} {mg mb : Str → Option Value} {h₀ : Heap} {L fa : Addr} {cd : Value} {s : Shared} {st sl tA dA I : Addr} {io : Obj} {vs : List Value} {ns : List Int} {n n2 : Nat} {os : OsState} {k : Nat}
   (B : Below callerA h₀ [] h₀) (X : (hd.heap_39 w.params).In h₀) (T : Top hd.view_39 Lz mean mg mb h₀) (hne : @LT.lt Nat _ sl st) (n1 : tA ≠ st) (n2' : dA ≠ st) (n3 : I ≠ st) (n4 : tA ≠ sl) (n5 : dA ≠ sl) (n6 : tA ≠ dA) (n7 : I ≠ tA) (n8 : I ≠ dA)
   (hi : IntsAre vs ns) (hns : ns.length ≤ 63) (hio : io.cls ≠ .type "tuple") (H : LI h₀ L st sl tA dA I io vs n n2 os (k + 1) s) :
   wpC PySem.Challenge.rw_et5021_01.row.prog w (lA w.params L fa cd) (execs (lLoop w.params) (lEnv w.params L fa cd)) (fun f s' => f = .next ∧ LI h₀ L st sl tA dA I io vs n n2 os k s') NoE s := by
  obtain ⟨⟨m, i, ti, sd, ts, tv, dv, tn, dn, ds, rest, F, hm1, hm2, hm3, N, hoff, hD1, hD2, hok, hlen, i0, i1, d0, d1⟩, hbare, hos⟩ := H
  rw [← bindM hm1] at F
  rw [lLoop_eq]
  refine wpC_split [lS w.params 0, lS w.params 1, lS w.params 2, lS w.params 3] [lS w.params 4, lS w.params 5] (wpC_emb (seg_a B F X T N ?_ hne hi hns i0 i1 d0 d1 ?_))
  · intro p hp
    simp only [List.mem_cons] at hp
    rcases hp with rfl | rfl | rfl | hp
    · exact n1
    · exact n2'
    · exact n3
    · exact (hoff p hp).1
  intro D S P pv sv ps gs pn i' ti' sd' ts' tx m' h' tk' F1 mp ms mt mo N1 c1 c2 c3 e1 e2 e3 e4 g1 g2 g3 g4
  show wpC _ _ _ (execs [lS w.params 4, lS w.params 5] _) _ _ _
  have mst : m' (Str.ofString "state") = some (.ref st) := (mo _ (by decide) (by decide) (by decide) (by decide)).trans (if_pos rfl)
  have mto : m' (Str.ofString "told") = some (.ref tA) := (mo _ (by decide) (by decide) (by decide) (by decide)).trans ((if_neg (by decide)).trans hm2)
  have mdu : m' (Str.ofString "due") = some (.ref dA) := (mo _ (by decide) (by decide) (by decide) (by decide)).trans ((if_neg (by decide)).trans hm3)
  obtain ⟨msc, sc, hy, hyl, hsz⟩ := row_scan c3
  have htA := N1 (tA, listOf tv.toArray tn) (by simp)
  have hdA := N1 (dA, listOf dv.toArray dn) (by simp)
  have X1 := X.keeps F1.keep
  have T1 := T.keeps F1.keep
  have tvl : tv.length = ds.length := hD1.length
  have dvl : dv.length = ds.length := hD2.length
  suffices key : ∀ (S' : Addr) (s' : Shared) (acc : Array Value) (c : Nat), h'.get? S' = none → s'.heap.get? S' = some { cls := .type "list", data := .seq acc c } → acc.size = (yAll (txAll ps gs) msc).length →
      Told h' (yAll (txAll ps gs) msc) s'.heap acc → (∀ b o, h'.get? b = some o → s'.heap.get? b = some o) → AllBare s'.gens → s'.os = os →
      ∃ its n', s'.heap.get? tA = some (listOf its n') ∧ its.size ≤ 100 ∧ ∀ h2, Heap.SameBut tA s'.heap h2 → h2.get? tA = some (listOf (its.push (.ref S')) (n' + 1)) →
        wpC PySem.Challenge.rw_et5021_01.row.prog w (lA w.params L fa cd) (execs [lS w.params 5] (lEnv w.params L fa cd)) (fun f s' => f = .next ∧ LI h₀ L st sl tA dA I io vs n n2 os k s') NoE { s' with heap := h2 } by
    refine wpC_cons ?_
    rw [lS4_eq]
    refine appendC (D := tA) rfl rfl rfl rfl rfl (told_name (by rw [bindM mto]; exact F1) X T) ⟨_, _, htA.1⟩ ?_
    rw [cE4_eq]
    refine callNameC (f := .type "list") rfl (list_name F1 X T) rfl (wpC_emb (gen_made (by rw [bindM mt]; exact F1) X T fun h₁ tk FG hz => ?_))
    refine list_ok (hb := h') (L := h'.objs.size) (G := h₁.objs.size) (g := s.gens.size) (T := txAll ps gs) X1 T1 (by omega) (by decide) (lA_depth (e := lEnv w.params L fa cd)) sc (by omega) (FG.push _) ⟨_, _, _, Heap.get?_push_size _ rfl, rfl, rfl, rfl⟩ (by simp) ?_
    intro s' acc c q1 q2 q3 q4 q5 q6 q7 q8
    refine key _ s' acc c (FG.push _).fresh q1 q2 q3 q4 (fun y hy => ?_) (q8.trans hos)
    obtain ⟨j, hj⟩ := Array.mem_iff_getElem?.mp hy
    by_cases e : j = s.gens.size
    · rw [e, q6] at hj
      cases hj; rfl
    · rw [q5 j e] at hj
      dsimp only at hj
      rw [Array.getElem?_push, if_neg e] at hj
      exact hbare y (Array.mem_of_getElem? hj)
  intro S' s' acc c fS q1 q2 q3 q4 bare' os'
  refine ⟨tv.toArray, tn, q4 _ _ htA.1, ?_, fun h2 hs2 ho2 => ?_⟩
  · rw [List.size_toArray]; omega
  obtain ⟨tlT, hT1, hT2⟩ := told_dat acc.toList (yAll (txAll ps gs) msc) (by simpa using q2) (fun j v hj => q3 j v (by simpa using hj))
  rw [hy] at hT2
  have hn : ∀ b, h'.get? b = none → b ≠ tA ∧ b ≠ L ∧ h₀.get? b = none := fun b hb => by
    refine ⟨?_, ?_, ?_⟩
    · rintro rfl; rw [htA.1] at hb; cases hb
    · rintro rfl; obtain ⟨oL, es, ep, hL, _⟩ := F1.ns; rw [hL] at hb; cases hb
    · cases hq : h₀.get? b with
      | none => rfl
      | some o => rw [F1.keep b o hq] at hb; cases hb
  have F2 : Fr h₀ L h2 m' := (F1.keeps q4).change hs2 htA.2.1 htA.2.2
  have old : ∀ p : Addr × Obj, (h'.get? p.1 = some p.2 ∧ p.1 ≠ L ∧ h₀.get? p.1 = none) → p.1 ≠ tA → h2.get? p.1 = some p.2 ∧ p.1 ≠ L ∧ h₀.get? p.1 = none := fun p hp ne => ⟨(hs2.2 _ ne).trans (q4 _ _ hp.1), hp.2⟩
  have new : ∀ p : Addr × Obj, s'.heap.get? p.1 = some p.2 → h'.get? p.1 = none → h2.get? p.1 = some p.2 ∧ p.1 ≠ L ∧ h₀.get? p.1 = none := fun p hp hb => ⟨(hs2.2 _ (hn _ hb).1).trans hp, (hn _ hb).2⟩
  have g4' := fun p hp => allLt_mem g4 p hp
  have neP : P ≠ tA := fun e => Nat.lt_irrefl _ (show @LT.lt Nat _ tA tA from by have := g4' (tA, listOf tv.toArray tn) (.head _); rw [e] at this; exact this)
  have neS : S ≠ tA := fun e => Nat.lt_irrefl _ (show @LT.lt Nat _ tA tA from by have := g4' (tA, listOf tv.toArray tn) (.head _); exact Nat.lt_trans this (by rw [e] at g1; exact g1))
  have N2 : News h₀ L h2 ((P, listOf pv.toArray pn) :: (S, listOf sv.toArray 0) :: (st, stObj sl i' ti' sd' ts' n) :: (sl, listOf vs.toArray n2) :: (tA, listOf (tv.toArray.push (.ref S')) (tn + 1)) :: (dA, listOf dv.toArray dn) :: (I, io) :: (S', listOf acc.toList.toArray c) :: (rest ++ tlT)) := by
    intro p hp
    simp only [List.mem_cons, List.mem_append] at hp
    rcases hp with rfl | rfl | rfl | rfl | rfl | rfl | rfl | rfl | hp | hp
    · exact old _ (N1 _ (by simp)) neP
    · exact old _ (N1 _ (by simp)) neS
    · exact old _ (N1 _ (by simp)) (Ne.symm n1)
    · exact old _ (N1 _ (by simp)) (Ne.symm n4)
    · exact ⟨ho2, htA.2⟩
    · exact old _ hdA (Ne.symm n6)
    · exact old _ (N1 (I, io) (by simp)) n7
    · exact new _ (by simpa using q1) fS
    · exact old _ (N1 _ (by simp [hp])) (hoff p hp).2.1
    · exact new _ (hT1 p hp).1 (hT1 p hp).2
  have hdA2 := N2 (dA, listOf dv.toArray dn) (by simp)
  refine wpC_cons ?_
  rw [lS5_eq]
  have mpp : (fun y => if y = Str.ofString "pieces" then some (.ref P) else if y = Str.ofString "spaces" then some (.ref S) else m' y) = m' :=
    (congrArg (fun (f : Str → Option Value) => fun y => if y = Str.ofString "pieces" then some (.ref P) else f y) (bindM ms)).trans (bindM mp)
  refine appendC (D := dA) rfl rfl rfl rfl rfl (due_name (by rw [bindM mdu]; exact F2) X T) ⟨_, _, hdA2.1⟩ ?_
  refine wpC_emb (due_made (m := m') B (by rw [mpp]; exact F2) X T N2 c1 c2 c3 fun Dd wA wv dv' dn' tl h3 tk3 m3 F3 hm3' N3 hD3 ho3 => ?_)
  rw [mpp] at hm3'
  subst hm3'
  have hdA3 := N3 (dA, listOf dv.toArray dn) (by simp)
  refine ⟨dv.toArray, dn, hdA3.1, ?_, fun h4 hs4 ho4 => ?_⟩
  · rw [List.size_toArray]; omega
  refine wpC_nil ⟨rfl, ⟨⟨m3, i', ti', sd', ts', tv ++ [.ref S'], dv ++ [.ref Dd], tn + 1, dn + 1, ds ++ [.list ((dueUpto ps gs ps.length).map datOf)], (Dd, listOf dv'.toArray dn') :: (S', listOf acc.toList.toArray c) :: (rest ++ (tlT ++ tl)), F3.change hs4 hdA3.2.1 hdA3.2.2, mst, mto, mdu, ?_, ?_, ?_, ?_, ?_, ?_, e1, e2, e3, e4⟩, bare', os'⟩⟩
  · intro p hp
    have at3 : ∀ p : Addr × Obj, p ∈ (Dd, listOf dv'.toArray dn') :: (wA, listOf wv.toArray 0) :: (P, listOf pv.toArray pn) :: (S, listOf sv.toArray 0) :: (((st, stObj sl i' ti' sd' ts' n) :: (sl, listOf vs.toArray n2) :: (tA, listOf (tv.toArray.push (.ref S')) (tn + 1)) :: (dA, listOf dv.toArray dn) :: (I, io) :: (S', listOf acc.toList.toArray c) :: (rest ++ tlT)) ++ tl) → p.1 ≠ dA → h4.get? p.1 = some p.2 ∧ p.1 ≠ L ∧ h₀.get? p.1 = none :=
      fun p hp ne => ⟨(hs4.2 _ ne).trans (N3 p hp).1, (N3 p hp).2⟩
    have hq := ho3 (dA, listOf dv.toArray dn) (by simp)
    have nS : S' ≠ dA := fun e => by rw [e, hdA.1] at fS; cases fS
    simp only [List.mem_cons, List.mem_append] at hp
    rcases hp with rfl | rfl | rfl | rfl | rfl | rfl | rfl | hp | hp | hp
    · exact at3 _ (by simp) (Ne.symm n2')
    · exact at3 _ (by simp) (Ne.symm n5)
    · rw [← List.push_toArray]; exact at3 _ (by simp) n6
    · rw [← List.push_toArray]; exact ⟨ho4, hdA3.2⟩
    · exact at3 _ (by simp) n8
    · exact at3 _ (by simp) hq.1
    · exact at3 _ (by simp) nS
    · exact at3 _ (by simp [hp]) (hoff p hp).2.2.1
    · exact at3 _ (by simp [hp]) (fun e => by have := (hT1 p hp).2; rw [e, hdA.1] at this; cases this)
    · exact at3 _ (by simp [hp]) (hq.2.2 p hp)
  · intro p hp
    have w1 := ho3 (st, stObj sl i' ti' sd' ts' n) (by simp)
    have w2 := ho3 (tA, listOf (tv.toArray.push (.ref S')) (tn + 1)) (by simp)
    have w3 := ho3 (dA, listOf dv.toArray dn) (by simp)
    have w4 := ho3 (I, io) (by simp)
    have z1 := (N1 (st, stObj sl i' ti' sd' ts' n) (by simp)).1
    have z4 := (N1 (I, io) (by simp)).1
    have off : ∀ b, h'.get? b = none → b ≠ st ∧ b ≠ tA ∧ b ≠ dA ∧ b ≠ I := fun b hb => by
      refine ⟨?_, ?_, ?_, ?_⟩ <;> rintro rfl
      · rw [z1] at hb; cases hb
      · rw [htA.1] at hb; cases hb
      · rw [hdA.1] at hb; cases hb
      · rw [z4] at hb; cases hb
    simp only [List.mem_cons, List.mem_append] at hp
    rcases hp with rfl | rfl | hp | hp | hp
    · exact ⟨w1.1, w2.1, w3.1, w4.1⟩
    · exact off _ fS
    · exact hoff p hp
    · exact off _ (hT1 p hp).2
    · exact ⟨w1.2.2 p hp, w2.2.2 p hp, w3.2.2 p hp, w4.2.2 p hp⟩
  · refine DatAll.append (hD1.mono fun p hp => by simp [hp]) (.cons (.list (vs := acc.toList) (n := c) (by simp) (hT2.mono fun p hp => by simp [hp])) .nil)
  · refine DatAll.append (hD2.mono fun p hp => by simp [hp]) (.cons (.list (vs := dv') (n := dn') (by simp) (dat_tups (fun p hp ht => ?_) _ _ hD3)) .nil)
    have nl : ∀ (xs : Array Value) (z : Nat), (listOf xs z).cls = .type "tuple" → False := fun xs z e => by
      have e' : Value.type "list" = Value.type "tuple" := e
      injection e' with e'
      exact absurd e' (by decide)
    simp only [List.cons_append, List.mem_cons, List.mem_append] at hp
    rcases hp with rfl | rfl | rfl | rfl | rfl | rfl | rfl | rfl | rfl | (hp | hp) | hp
    · exact (nl _ _ ht).elim
    · exact (nl _ _ ht).elim
    · exact (nl _ _ ht).elim
    · exact (nl _ _ ht).elim
    · exact (nl _ _ ht).elim
    · exact (nl _ _ ht).elim
    · exact (nl _ _ ht).elim
    · exact (hio ht).elim
    · exact (nl _ _ ht).elim
    · simp [hp]
    · simp [hp]
    · simp [hp]
  · intro d hd
    rcases List.mem_append.mp hd with hd | hd
    · exact hok d hd
    · rw [List.mem_singleton.mp hd]; exact due_kqd ps gs _
  · rw [List.length_append, List.length_singleton]; omega
end Mine
end

section
open PySem PySem.W PyProof.Rows
local macro_rules | `(tactic| walk_at "again0") => `(tactic| skip)
local macro_rules | `(tactic| walk_at "again1") => `(tactic| skip)
local macro_rules | `(tactic| walk_at "again2") => `(tactic| skip)
local macro_rules | `(tactic| walk_at "again3") => `(tactic| skip)
local macro_rules | `(tactic| walk_at "again4") => `(tactic| skip)
local macro_rules | `(tactic| walk_at "again5") => `(tactic| skip)
local macro_rules | `(tactic| walk_at "again6") => `(tactic| skip)
local macro_rules | `(tactic| walk_at "again7") => `(tactic| skip)
local macro_rules | `(tactic| walk_at "again8") => `(tactic| skip)
local macro_rules | `(tactic| walk_at "again9") => `(tactic| skip)
local macro_rules | `(tactic| walk_at "again10") => `(tactic| skip)
local macro_rules | `(tactic| walk_at "again11") => `(tactic| skip)
local macro_rules | `(tactic| walk_at "again12") => `(tactic| skip)
local macro_rules | `(tactic| walk_at "again13") => `(tactic| skip)
local macro_rules | `(tactic| walk_at "again14") => `(tactic| skip)
local macro_rules | `(tactic| walk_at "again15") => `(tactic| skip)
local macro_rules | `(tactic| walk_at "again16") => `(tactic| skip)
local macro_rules | `(tactic| walk_at "again17") => `(tactic| skip)
local macro_rules | `(tactic| walk_at "again18") => `(tactic| skip)
local macro_rules | `(tactic| walk_at "again19") => `(tactic| skip)
theorem Mine.again_L5 : True := by
  w_top off
  try (walk1; fail)
  trivial
end

section
open PySem PySem.W PyProof.Rows PySem.Calls
set_option Elab.async false
set_option pp.deepTerms false
set_option pp.deepTerms.threshold 8
set_option linter.unusedVariables false
set_option maxRecDepth 100000
namespace Mine
noncomputable def lIter (P : Params) : Expr := match lFor P with | .For _ i _ _ _ => i | _ => default
noncomputable def lTarget (P : Params) : Expr := match lFor P with | .For t _ _ _ _ => t | _ => default
noncomputable def lPos (P : Params) : Pos := match lFor P with | .For _ _ _ _ p => p | _ => default
noncomputable def lB (P : Params) (k : Nat) : Stmt := (lBody P).getD k default
theorem lBody_eq (P : Params) : lBody P = [lB P 0, lB P 1, lB P 2] ++ [.For (lTarget P) (lIter P) (lLoop P) [] (lPos P), lB P 4] := by rfl
section
local macro_rules | `(tactic| k_all) => `(tactic| assumption)
variable {w : World} {mean : ExcName → Option Value} {mg mb : Str → Option Value} {h₀ : Heap} {L fa : Addr} {cd : Value} {m : Str → Option Value} {s : Shared} {E : Value → Shared → Prop}
set_option maxHeartbeats 1000000 in
theorem seg_0 {sc : Addr} {xs : List Value} {is : List Int} {Q : Flow → Shared → Prop} (B : Below callerA h₀ [] h₀)
   (F : Fr h₀ L s.heap (fun y => if y = Str.ofString "script" then some (.ref sc) else m y)) (X : (hd.heap_39 w.params).In h₀) (T : Top hd.view_39 Lz mean mg mb h₀) (N : News h₀ L s.heap [])
   (hL : h₀.IsList sc xs.toArray) (hI : IntsAre xs is) (hlen : ¬ ((63 : Nat) : Int) < ((is.length : Nat) : Int))
   (hret : ∀ (sl st tA dA : Addr) (ti ts : Tok) (vs : List Value) (ns : List Int) (m' : Str → Option Value) h' tk', Fr h₀ L h' m' → m' (Str.ofString "state") = some (.ref st) → m' (Str.ofString "told") = some (.ref tA) → m' (Str.ofString "due") = some (.ref dA) →
      News h₀ L h' [(dA, listOf #[] 0), (tA, listOf #[] 0), (st, stObj sl 0 ti 17 ts 0), (sl, listOf vs.toArray 0)] → IntsAre vs ns → ns.length ≤ 63 → @LT.lt Nat _ sl st → @LT.lt Nat _ st tA → @LT.lt Nat _ tA dA → Q .next { s with heap := h', toks := tk' }) :
   wpAny (model PySem.Challenge.rw_et5021_01.row.prog w) (lA w.params L fa cd) (execs [lB w.params 0, lB w.params 1, lB w.params 2] (lEnv w.params L fa cd)) Q (fun _ _ => False) s := by
  revert X; k_fill; intro X
  show wpAny _ (callerA.deeper (envOf _ _ L fa cd)) (execs [.Assign _ _ _, .Assign _ _ _, .Assign _ _ _] (envOf _ _ L fa cd)) _ _ s
  k_steps
  rename_i sl vs y1 hI' hC' hL' l3 st y2 l2 y3 y4 tA y5 l1 y6 y7 dA y8 l0 h' F' N'
  exact hret sl st tA dA _ _ vs (List.take 60 is) _ _ _ F' rfl rfl rfl N' hI' (by omega) l2 l1.1 l0.1
local macro_rules | `(tactic| k_steps) => `(tactic| repeat' ((fail_if_success (with_reducible show wpAny _ _ (call (Value.ref 50) _) _ _ _)); (first | (k_unfold; (try dsimp only)) | (k_end; kc_close) | walk1 | (dsimp only; walk1) | (leave1; walk_say "STEP leave1"; (try dsimp only)) | fail "no step")))
set_option maxHeartbeats 1000000 in
theorem iter_ok {sl st tA dA : Addr} {ti ts : Tok} {vs : List Value} {ns : List Int} {Q : Value → Shared → Prop} (B : Below callerA h₀ [] h₀)
   (F : Fr h₀ L s.heap (fun y => if y = Str.ofString "state" then some (.ref st) else m y)) (X : (hd.heap_39 w.params).In h₀) (T : Top hd.view_39 Lz mean mg mb h₀)
   (N : News h₀ L s.heap [(dA, listOf #[] 0), (tA, listOf #[] 0), (st, stObj sl 0 ti 17 ts 0), (sl, listOf vs.toArray 0)]) (hI : IntsAre vs ns) (hlen : ns.length ≤ 63) (l1 : @LT.lt Nat _ sl st) (l2 : @LT.lt Nat _ st tA) (l3 : @LT.lt Nat _ tA dA)
   (hret : ∀ (ra : Addr) (r : Int) (i' : Int) (ti' : Tok) (sd' : Int) (ts' : Tok) (u1 u2 u3 : Tok) h' tk' m', Fr h₀ L h' m' → m' = (fun y => if y = Str.ofString "state" then some (.ref st) else m y) → News h₀ L h' [(dA, listOf #[] 0), (tA, listOf #[] 0), (st, stObj sl i' ti' sd' ts' 0), (sl, listOf vs.toArray 0)] →
      IsRange h' ra 0 (1 + r) 1 u1 u2 u3 → 0 ≤ r → r < 3 → 0 ≤ i' → i' ≤ 100 → 0 ≤ sd' → sd' < 2147483647 → Q (.ref ra) { s with heap := h', toks := tk' }) :
   wpAny (model PySem.Challenge.rw_et5021_01.row.prog w) (lA w.params L fa cd) (eval (lIter w.params) (lEnv w.params L fa cd)) Q E s := by
  have hst : ∀ p ∈ [(dA, listOf #[] 0), (tA, listOf #[] 0), (sl, listOf vs.toArray 0)], p.1 ≠ st := by
    intro p hp
    simp only [List.mem_cons, List.not_mem_nil, or_false] at hp
    rcases hp with rfl | rfl | rfl
    · exact fun e => Nat.ne_of_lt (Nat.lt_trans l2 l3) e.symm
    · exact fun e => Nat.ne_of_lt l2 e.symm
    · exact Nat.ne_of_lt l1
  have hne : @Ne Nat sl st := Nat.ne_of_lt l1
  revert X; k_fill; intro X
  show wpAny _ (callerA.deeper (envOf _ _ L fa cd)) (eval (.Call _ _ _ _) (envOf _ _ L fa cd)) _ E s
  k_steps
  refine' next_ok (n2 := 0) 2 B ?k2 X T ?k5 ?k6 ?k7 ?k8 ?k9 hne hI hlen ?k13 ?k14 ?k15 ?k16 ?k17 ?k18 ?k19 ?_
  case k2 => exact F
  case k6 => exact N
  case k5 => exact rfl
  case k7 => exact rfl
  case k8 => simp
  case k9 => exact hst
  case k13 => decide
  case k14 => decide
  case k15 => decide
  case k16 => decide
  case k17 => decide
  case k18 => decide
  case k19 => decide
  intro r t h' tk' i' ti' sd' ts' F' N' c1 c2 c3 c4 c5 c6
  dsimp only [List.set] at N'
  k_steps
  rename IsRange _ _ _ _ _ _ _ _ => hR
  exact hret _ r i' ti' sd' ts' _ _ _ _ _ _ (by assumption) rfl (by assumption) hR c5 c6 c1 c2 c3 c4
theorem as_us {v : Value} {rest : List (Addr × Obj)} {Q : Unit → Shared → Prop}
   (F : Fr h₀ L s.heap m) (X : (hd.heap_39 w.params).In h₀) (TT : Top hd.view_39 Lz mean mg mb h₀) (N : News h₀ L s.heap rest)
   (hret : ∀ (h' : Heap) tk', Fr h₀ L h' (fun y => if y = Str.ofString "_" then some v else m y) → News h₀ L h' rest → Q () { s with heap := h', toks := tk' }) :
   wpAny (model PySem.Challenge.rw_et5021_01.row.prog w) (lA w.params L fa cd) (assign (lTarget w.params) (lEnv w.params L fa cd) v) Q E s := by
  revert X; k_fill; intro X
  show wpAny _ (callerA.deeper (envOf _ _ L fa cd)) (assign (.Name _ _) (envOf _ _ L fa cd) v) Q E s
  k_steps
  exact hret _ _ (by assumption) (by assumption)
theorem ret_ok {tA dA : Addr} {tv dv : List Value} {tn dn : Nat} {ds : List Dat} {rest : List (Addr × Obj)} {Q : Flow → Shared → Prop}
   (F : Fr h₀ L s.heap (fun y => if y = Str.ofString "told" then some (.ref tA) else if y = Str.ofString "due" then some (.ref dA) else m y)) (X : (hd.heap_39 w.params).In h₀) (TT : Top hd.view_39 Lz mean mg mb h₀)
   (N : News h₀ L s.heap ((tA, listOf tv.toArray tn) :: (dA, listOf dv.toArray dn) :: rest)) (hD1 : DatAll rest tv ds) (hD2 : DatAll rest dv ds) (hok : ∀ d ∈ ds, kqdOk 8 d = true) (hQ : ∀ tk', Q (.ret (.bool true)) { s with toks := tk' }) :
   wpAny (model PySem.Challenge.rw_et5021_01.row.prog w) (lA w.params L fa cd) (execs [lB w.params 4] (lEnv w.params L fa cd)) Q E s := by
  have hsub : ∀ p ∈ rest, p ∈ (tA, listOf tv.toArray tn) :: (dA, listOf dv.toArray dn) :: rest := fun p hp => .tail _ (.tail _ hp)
  revert X; k_fill; intro X
  show wpAny _ (callerA.deeper (envOf _ _ L fa cd)) (execs [.Return _ _] (envOf _ _ L fa cd)) Q E s
  k_steps
  exact hQ s.toks
end
end Mine
end

section
open PySem PySem.W PyProof.Rows PySem.Calls
set_option Elab.async false
set_option pp.deepTerms false
set_option pp.deepTerms.threshold 8
set_option linter.unusedVariables false
set_option maxRecDepth 100000
namespace Mine
abbrev rIt (x : Int) (k : Int) : Obj := { cls := .type "range_iterator", data := .fields #[rawInt x, rawInt k, rawInt 1] }
section
variable {w : World} {mean : ExcName → Option Value} {mg mb : Str → Option Value} {h₀ : Heap} {L fa : Addr} {cd : Value} {m : Str → Option Value} {s : Shared}

theorem LI.next {st sl tA dA I : Addr} {io io' : Obj} {vs : List Value} {n n2 : Nat} {os : OsState} {k : Nat} (hLI : LI h₀ L st sl tA dA I io vs n n2 os k s) (n3 : I ≠ st) (n5 : I ≠ sl) (n7 : I ≠ tA) (n8 : I ≠ dA) {h' : Heap} (hs : Heap.SameBut I s.heap h') (hI : h'.get? I = some io') (tk : Nat) {Q : Unit → Shared → Prop}
   (X : (hd.heap_39 w.params).In h₀) (T : Top hd.view_39 Lz mean mg mb h₀) {v : Value} (hQ : ∀ s', LI h₀ L st sl tA dA I io' vs n n2 os k s' → Q () s') :
   wpC PySem.Challenge.rw_et5021_01.row.prog w (lA w.params L fa cd) (assign (lTarget w.params) (lEnv w.params L fa cd) v) Q NoE { s with heap := h', toks := tk } := by
  obtain ⟨⟨m, i, ti, sd, ts, tv, dv, tn, dn, ds, rest, F, hm1, hm2, hm3, N, hoff, hD1, hD2, hok, hlen, i0, i1, d0, d1⟩, hbare, hos⟩ := hLI
  have hI0 := N (I, io) (by simp)
  have N' : News h₀ L h' ((st, stObj sl i ti sd ts n) :: (sl, listOf vs.toArray n2) :: (tA, listOf tv.toArray tn) :: (dA, listOf dv.toArray dn) :: (I, io') :: rest) := by
    have old : ∀ p : Addr × Obj, (s.heap.get? p.1 = some p.2 ∧ p.1 ≠ L ∧ h₀.get? p.1 = none) → p.1 ≠ I → h'.get? p.1 = some p.2 ∧ p.1 ≠ L ∧ h₀.get? p.1 = none := fun p hp ne => ⟨(hs.2 _ ne).trans hp.1, hp.2⟩
    intro p hp
    simp only [List.mem_cons] at hp
    rcases hp with rfl | rfl | rfl | rfl | rfl | hp
    · exact old _ (N _ (by simp)) (Ne.symm n3)
    · exact old _ (N _ (by simp)) (Ne.symm n5)
    · exact old _ (N _ (by simp)) (Ne.symm n7)
    · exact old _ (N _ (by simp)) (Ne.symm n8)
    · exact ⟨hI, hI0.2⟩
    · exact old _ (N _ (by simp [hp])) (hoff p hp).2.2.2
  refine wpC_emb (as_us (F.change hs hI0.2.1 hI0.2.2) X T N' fun h3 tk3 F3 N3 => hQ _ ?_)
  exact ⟨⟨_, i, ti, sd, ts, tv, dv, tn, dn, ds, rest, F3, (if_neg (by decide)).trans hm1, (if_neg (by decide)).trans hm2, (if_neg (by decide)).trans hm3, N3, hoff, hD1, hD2, hok, hlen, i0, i1, d0, d1⟩, hbare, hos⟩

set_option maxHeartbeats 1000000 in
theorem law_body {sc : Addr} {xs : List Value} {is : List Int} {Q : Flow → Shared → Prop} (B : Below callerA h₀ [] h₀)
   (F : Fr h₀ L s.heap (fun y => if y = Str.ofString "script" then some (.ref sc) else m y)) (X : (hd.heap_39 w.params).In h₀) (T : Top hd.view_39 Lz mean mg mb h₀) (N : News h₀ L s.heap [])
   (hL : h₀.IsList sc xs.toArray) (hI : IntsAre xs is) (hlen : ¬ ((63 : Nat) : Int) < ((is.length : Nat) : Int)) (hg : AllBare s.gens)
   (hQ : ∀ m' s', Fr h₀ L s'.heap m' → AllBare s'.gens → s'.os = s.os → Q (.ret (.bool true)) s') :
   wpC PySem.Challenge.rw_et5021_01.row.prog w (lA w.params L fa cd) (execs (lBody w.params) (lEnv w.params L fa cd)) Q NoE s := by
  rw [lBody_eq]
  refine wpC_split _ _ (wpC_emb (seg_0 B F X T N hL hI hlen ?_))
  intro sl st tA dA ti ts vs ns m1 h1 tk1 F1 ms mt md N1 hV hn l1 l2 l3
  show wpC _ _ _ (execs [.For _ _ _ [] _, lB w.params 4] _) _ _ _
  refine wpC_cons (wpC_For ?_)
  refine wpC_emb (iter_ok B (by rw [bindM ms]; exact F1) X T N1 hV hn l1 l2 l3 ?_)
  intro ra r i' ti' sd' ts' u1 u2 u3 h2 tk2 m2 F2 hm2 N2 hR r0 r3 c1 c2 c3 c4
  rw [bindM ms] at hm2
  subst hm2
  refine wpC_emb (wpAny_pyIter_range hR (small_one (by omega) (by omega) (by omega) (by omega)) ?_)
  have hsz : Builtin.Range.rangeSize 0 (1 + r) 1 = (((1 + r - 0).toNat : Nat) : Int) := rangeSize_nat _ _
  rw [hsz]
  have b1 : @LT.lt Nat _ st h2.objs.size := Heap.lt_size (N2 (st, stObj sl i' ti' sd' ts' 0) (by simp)).1
  have b2 : @LT.lt Nat _ sl h2.objs.size := Heap.lt_size (N2 (sl, listOf vs.toArray 0) (by simp)).1
  have b3 : @LT.lt Nat _ tA h2.objs.size := Heap.lt_size (N2 (tA, listOf #[] 0) (by simp)).1
  have b4 : @LT.lt Nat _ dA h2.objs.size := Heap.lt_size (N2 (dA, listOf #[] 0) (by simp)).1
  have x1 : h2.objs.size ≠ st := Nat.ne_of_gt b1
  have x2 : h2.objs.size ≠ sl := Nat.ne_of_gt b2
  have x3 : h2.objs.size ≠ tA := Nat.ne_of_gt b3
  have x4 : h2.objs.size ≠ dA := Nat.ne_of_gt b4
  have y1 : tA ≠ st := Nat.ne_of_gt l2
  have y2 : dA ≠ st := Nat.ne_of_gt (Nat.lt_trans l2 l3)
  have y3 : tA ≠ sl := Nat.ne_of_gt (Nat.lt_trans l1 l2)
  have y4 : dA ≠ sl := Nat.ne_of_gt (Nat.lt_trans (Nat.lt_trans l1 l2) l3)
  have y5 : tA ≠ dA := Nat.ne_of_lt l3
  refine forLoopC (fun k s' => ∃ x, LI h₀ L st sl tA dA h2.objs.size (rIt x k) vs 0 0 s.os k s') (fun k s' hI' => ?_) (by intro _; rfl) (1 + r - 0).toNat _ ⟨0, ⟨⟨m2, i', ti', sd', ts', [], [], 0, 0, [], [], F2.push _, ms, mt, md, ?_, ?_, .nil, .nil, ?_, ?_, c1, c2, c3, c4⟩, hg, rfl⟩⟩
  · obtain ⟨x, H⟩ := hI'
    cases k with
    | zero =>
      obtain ⟨⟨m, i, ti, sd, ts, tv, dv, tn, dn, ds, rest, F, hm1, hm2, hm3, N, hoff, hD1, hD2, hok, hlen, i0, i1, d0, d1⟩, hbare, hos⟩ := H
      have hI0 := N (h2.objs.size, rIt x (0 : Nat)) (by simp)
      refine wpC_emb (wpAny_pyNext_range_end rfl hI0.1 (Int.le_refl 0) fun h' he => ?_)
      show wpC _ _ _ (execs [lB w.params 4] _) _ _ _
      have F' : Fr h₀ L h' m := by
        obtain ⟨oL, es, ep, hL, hdL, hr⟩ := F.ns
        exact ⟨⟨oL, es, ep, he L oL (Ne.symm hI0.2.1) hL, hdL, hr⟩, fun b o' e => he b o' (fun q => by subst q; rw [hI0.2.2] at e; cases e) (F.keep b o' e), F.above⟩
      have N' : News h₀ L h' ((tA, listOf tv.toArray tn) :: (dA, listOf dv.toArray dn) :: rest) := by
        have old : ∀ p : Addr × Obj, (s'.heap.get? p.1 = some p.2 ∧ p.1 ≠ L ∧ h₀.get? p.1 = none) → p.1 ≠ h2.objs.size → h'.get? p.1 = some p.2 ∧ p.1 ≠ L ∧ h₀.get? p.1 = none := fun p hp ne => ⟨he _ _ ne hp.1, hp.2⟩
        intro p hp
        simp only [List.mem_cons] at hp
        rcases hp with rfl | rfl | hp
        · exact old _ (N _ (by simp)) (Ne.symm x3)
        · exact old _ (N _ (by simp)) (Ne.symm x4)
        · exact old _ (N _ (by simp [hp])) (hoff p hp).2.2.2
      refine wpC_emb (ret_ok (m := m) (tA := tA) (dA := dA) ?_ X T N' hD1 hD2 hok fun tk => hQ _ _ F' hbare hos)
      have e : (fun y => if y = Str.ofString "told" then some (.ref tA) else if y = Str.ofString "due" then some (.ref dA) else m y) = m :=
        (congrArg (fun (f : Str → Option Value) => fun y => if y = Str.ofString "told" then some (.ref tA) else f y) (bindM hm3)).trans (bindM hm2)
      rw [e]
      exact F'
    | succ k =>
      have hit : s'.heap.get? h2.objs.size = some (rIt x ((k + 1 : Nat) : Int)) := by
        obtain ⟨m, i, ti, sd, ts, tv, dv, tn, dn, ds, rest, F, hm1, hm2, hm3, N, _⟩ := H.ex
        exact (N (h2.objs.size, rIt x ((k + 1 : Nat) : Int)) (by simp)).1
      refine wpC_emb (wpAny_pyNext_range_item hit (by omega) fun h' hit' hs' => ?_)
      rw [show ((k + 1 : Nat) : Int) - 1 = (k : Int) by omega] at hit'
      refine H.next x1 x2 x3 x4 hs' hit' _ X T fun s'' H'' => ?_
      refine wpK_mono (law_turn B X T l1 y1 y2 x1 y3 y4 y5 x3 x4 hV hn ?_ H'') (fun f s3 e => ⟨e.1, k, Nat.lt_succ_self k, x + 1, e.2⟩) fun _ _ h => h
      intro e
      have e' : Value.type "range_iterator" = Value.type "tuple" := e
      injection e' with e'
      exact absurd e' (by decide)
  · have Np := N2.push F2 (rIt 0 (((1 + r - 0).toNat : Nat) : Int))
    intro p hp
    refine Np p ?_
    simp only [List.mem_cons, List.not_mem_nil, or_false] at hp ⊢
    rcases hp with rfl | rfl | rfl | rfl | rfl
    · simp
    · simp
    · simp
    · simp
    · simp
  · intro p hp; cases hp
  · intro d hd; cases hd
  · show 0 + (1 + r - 0).toNat ≤ 10
    omega
end
end Mine
end

section
open PySem PySem.W PyProof.Rows
local macro_rules | `(tactic| walk_at "again0") => `(tactic| skip)
local macro_rules | `(tactic| walk_at "again1") => `(tactic| skip)
local macro_rules | `(tactic| walk_at "again2") => `(tactic| skip)
local macro_rules | `(tactic| walk_at "again3") => `(tactic| skip)
local macro_rules | `(tactic| walk_at "again4") => `(tactic| skip)
local macro_rules | `(tactic| walk_at "again5") => `(tactic| skip)
local macro_rules | `(tactic| walk_at "again6") => `(tactic| skip)
local macro_rules | `(tactic| walk_at "again7") => `(tactic| skip)
local macro_rules | `(tactic| walk_at "again8") => `(tactic| skip)
local macro_rules | `(tactic| walk_at "again9") => `(tactic| skip)
local macro_rules | `(tactic| walk_at "again10") => `(tactic| skip)
local macro_rules | `(tactic| walk_at "again11") => `(tactic| skip)
local macro_rules | `(tactic| walk_at "again12") => `(tactic| skip)
local macro_rules | `(tactic| walk_at "again13") => `(tactic| skip)
local macro_rules | `(tactic| walk_at "again14") => `(tactic| skip)
local macro_rules | `(tactic| walk_at "again15") => `(tactic| skip)
local macro_rules | `(tactic| walk_at "again16") => `(tactic| skip)
local macro_rules | `(tactic| walk_at "again17") => `(tactic| skip)
local macro_rules | `(tactic| walk_at "again18") => `(tactic| skip)
local macro_rules | `(tactic| walk_at "again19") => `(tactic| skip)
theorem Mine.again_L7 : True := by
  w_top off
  try (walk1; fail)
  trivial
end

section
open PySem PySem.W PyProof.Rows PySem.Calls
set_option Elab.async false
set_option pp.deepTerms false
set_option pp.deepTerms.threshold 8
set_option linter.unusedVariables false
namespace Mine
theorem enter_callC {prog : Program} {w : World} {A : Around} {s : Shared} {f : Value} {pos : List Value} {c : ClaimW} {cl : PySem.Str → Option Addr} {mean : ExcName → Option Value} {args : List WData} {s₁ : Shared}
    (h : codeC prog w A (.call f ⟨pos, []⟩) (GoodWG c cl mean args s₁) s) : wpC prog w A (PySem.call f pos) (fun v s' => GoodWG c cl mean args s₁ (.ok (.ret v)) s') (fun e s' => GoodWG c cl mean args s₁ (.error e) s') s :=
  wpC_call (codeC_mono h fun res s' g => by rcases g.1 with ⟨v, _, _, rfl, _⟩ | ⟨e, _, _, rfl, _⟩ <;> exact g)
theorem goodWG_bool {c : ClaimW} {cl : PySem.Str → Option Addr} {mean : ExcName → Option Value} {args : List WData} {s₁ s' : Shared} {L : Addr} {m : PySem.Str → Option Value} {b : Bool}
    (F : Fr s₁.heap L s'.heap m) (hg : AllBare s'.gens) (hn : ∀ cls, c.raises args cls = false) (hp : c.post args (.bool b) args = true) (hos : s'.os = s₁.os) :
    GoodWG c cl mean args s₁ (.ok (.ret (.bool b))) s' := by
  have g := goodW_bool (c := c) (cl := cl) (mean := mean) (args := args) (s₁ := s₁) (s' := { s' with gens := #[] }) (b := b) F rfl hn hp hos
  exact ⟨g.1, .of_keep g.2.1, hos, hg⟩
theorem look1 (k : PySem.Str) (v : Value) : (fun x => List.lookup x [(k, v)].reverse) = fun y => if y = k then some v else none := by
  funext y
  show List.lookup y [(k, v)] = _
  rw [List.lookup_cons]
  by_cases e : y = k
  · rw [if_pos e, e, beq_self_eq_true]
  · rw [if_neg e, beq_eq_false_iff_ne.mpr e]; rfl
set_option maxRecDepth 100000 in
set_option maxHeartbeats 4000000 in
theorem law_holds : PySem.Challenge.rw_et5021_01.Holds := by
  refine hd ?_
  k_fill
  intro w s₀ s₁ mg mb G Y fa o pm cd doc dV kV ho hd hcd hD hmg hg args vals as hpre hlay hrd hwl hlo
  have KX := kIn_of Y
  have X := (Ground.X G).1
  have V := (Ground.X G).2
  try w_nolog (first | (have GL := glob_more (Ground.glob G (by first | k_qdec | decide +kernel) (by first | k_qdec | decide +kernel)) V) | (have GL := glob_more (Ground.glob G (by decide +kernel)) V))
  refine Ground.open G ?_
  intro T B D TE TW
  try (refine guard_noD D (by decide +kernel) ?_; clear D)
  obtain ⟨_, _, M⟩ := bmod_of_top T
  have TA := at_of_top T
  try (obtain ⟨_, _, he, B0⟩ := based_of_top T rfl hmg ho hd; have he' : cd = _ := he; subst he'; clear he)
  clear hmg
  wrow_args hpre hlay hrd hwl hlo
  refine enter_callC ?_
  w_top on
  have K0 := below_caller (Top.heap T)
  have he := Dflts.none hD rfl
  subst he
  refine call_fullC (by decide) ho hd (Top.nolimit T) hcd (BindsTo.of_eq rfl) (locs rfl) fun h₁ F => ?_
  w_binds F
  have N0 := (News.nil : News _ _ _ []).at F
  clear hd TA
  k_drop
  have K1 : Below callerA s₁.heap [] s₁.heap := K0
  have F1 := F
  rw [look1] at F1
  refine wpK_mono (law_body (m := fun _ => none) (fa := fa) K1 F1 KX T N0 (by assumption) (by assumption) (by assumption) (.of_eq hg) (fun m' s' F' hb hos => ?_)) (fun _ _ h => h) (fun _ _ h => h.elim)
  refine goodWG_bool F' hb (raisesW_false ?_) ?_ hos
  · wrow_none_raised
  · kc_post
end Mine
end

theorem PySem.Challenge.cw_et5021_01_holds : PySem.Challenge.rw_et5021_01.Holds := by
  exact Mine.law_holds
