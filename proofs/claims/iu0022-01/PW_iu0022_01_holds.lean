import PyProof.Rows.All
import Wide.All
import OpenK.AllK
import Open.Tops
import Wide.FinOn
import Lean
import PySem.Challenge.RW_iu0022_01
open PySem PySem.W PyProof.Rows
set_option Elab.async false
set_option maxRecDepth 100000
set_option linter.unusedVariables false
set_option compiler.extract_closed false
namespace Mine
section
open PySem PySem.W PyProof.Rows
noncomputable def Cm (p : Program) (w : World) (s : Shared) (t : Thread) (s' : Shared) (t' : Thread) : Prop :=
  ∃ n, schedN (denote table) p w n (.single s t) = .running (.single s' t')
section
variable {p : Program} {w : World} {s s₁ s' : Shared} {t t₁ t' : Thread}
theorem Cm.refl (s : Shared) (t : Thread) : Cm p w s t s t := ⟨0, rfl⟩
theorem Cm.step (hr : s.asleep) (hc : t.calm = true) (h : PySem.step (denote table) p w s t = .go s₁ t₁) (k : Cm p w s₁ t₁ s' t') : Cm p w s t s' t' := by
  have e : sstep (denote table) p w (.single s t) = .go (.single s₁ t₁) := by
    rcases sstep_single (denote table) p w s t hc hr with e | e
    · rw [e, h]; rfl
    · rw [h] at e; cases e
  obtain ⟨n, hn⟩ := k
  exact ⟨n + 1, by simp only [schedN, e]; exact hn⟩
theorem Cm.trans (a : Cm p w s t s₁ t₁) (b : Cm p w s₁ t₁ s' t') : Cm p w s t s' t' := by
  obtain ⟨n, hn⟩ := a
  obtain ⟨m, hm⟩ := b
  refine ⟨n + m, ?_⟩
  generalize Config.single s t = c at hn ⊢
  induction n generalizing c with
  | zero =>
    have e : SRun.running c = .running (.single s₁ t₁) := hn
    injection e with e
    rw [Nat.zero_add, e]; exact hm
  | succ n ih =>
    rw [show n + 1 + m = n + m + 1 by lia]
    simp only [schedN] at hn ⊢
    cases hs : sstep (denote table) p w c with
    | go c' => simp only [hs] at hn ⊢; exact ih c' hn
    | halt o q => simp only [hs] at hn; cases hn
end
section
variable {α : Type} {p : Program} {w : World} {n₀ : Nat} {ann : Option Value} {B : List Frame} {K' : α → Sem Fin} {H' : Value → Sem Fin} {gd : Bool → Bool} {lv : List Value → List Value} {res : α → Flow}
/-- the end of a run of a tree with a dummy end -/
theorem end_rel {t t' : Thread} {f : Flow} (R : Rel2 (fun a => .pure (.done (res a))) K' deadEnd H' gd lv B t t') (he : endAt B.length t = some f) :
    ∃ a, res a = f ∧ t' = ⟨K' a, t.code, t.pos, B⟩ := by
  obtain ⟨cur', code', pos', st'⟩ := t'
  obtain ⟨e1, e2, ⟨e3, e4, x, e5, e6⟩ | ⟨_, F⟩⟩ := R
  · have hx : ∃ a, x = .pure a ∧ res a = f := by
      clear e6
      unfold endAt at he
      rw [e5, e3, beq_self_eq_true] at he
      cases x with
      | pure a => exact ⟨a, rfl, Option.some.inj he⟩
      | _ => exact nomatch he
    obtain ⟨a, hx, q⟩ := hx
    rw [hx] at e6
    exact ⟨a, q, by rw [e1, e2]; exact congr (congrArg (fun c => Thread.mk c code' pos') e6) e4⟩
  · unfold endAt at he
    rw [beq_eq_false_iff_ne.mpr (Nat.ne_of_gt F.longer.1)] at he
    exact nomatch he
theorem calm_outer {x : Sem α} {K : α → Sem Fin} {code : Code} {pos : Pos} (hp : ∀ a, x ≠ .pure a) (hr : ∀ e, x ≠ .raise e) (h : Thread.calm ⟨x.wrap K deadEnd gd lv, code, pos, B⟩ = true) :
    Thread.calm ⟨x.wrap K' H' gd lv, code, pos, B⟩ = true := by
  cases x with
  | pure a => exact absurd rfl (hp a)
  | raise e => exact absurd rfl (hr e)
  | _ => exact h
theorem calm_inner {K : α → Sem Fin} {H : Value → Sem Fin} (hB : splitAtGen B = none) {cur : Sem Fin} {code : Code} {pos : Pos} {a b : List Frame} (F : Frames2 K K' H H' gd lv B a b) (h : Thread.calm ⟨cur, code, pos, a⟩ = true) :
    Thread.calm ⟨cur, code, pos, b⟩ = true := by
  have e : Thread.calm ⟨cur, code, pos, b⟩ = Thread.calm ⟨cur, code, pos, a⟩ := by
    rcases F.split hB with ⟨u, v⟩ | ⟨fs, n, k, k', c, p, ra, rb, u, v, _⟩ <;> (cases cur <;> first | rfl | simp only [Thread.calm, Thread.yieldsInsideHandler, Thread.atCollectorCode, Thread.atExit, u, v])
  exact e.trans h
theorem raise_halt (e : Value) (code : Code) (pos : Pos) (s s₂ : Shared) (t₂ : Thread) : ¬ PySem.step (denote table) p w s ⟨(.unsupported "a raise at the top" : Sem Fin), code, pos, B⟩ = .go s₂ t₂ := fun h => by
  obtain ⟨heap, gens, drawn, toks, os⟩ := s
  exact nomatch h
/-- one step of it -/
theorem step_rel (hB : splitAtGen B = none) {s s₂ : Shared} {t t' t₂ : Thread} (R : Rel2 (fun a => .pure (.done (res a))) K' deadEnd H' gd lv B t t') (he : endAt B.length t = none) (hc : t.calm = true) (hs : PySem.step (denote table) p w s t = .go s₂ t₂) :
    t'.calm = true ∧ ∃ t₂', PySem.step (denote table) p w s t' = .go s₂ t₂' ∧ Rel2 (fun a => .pure (.done (res a))) K' deadEnd H' gd lv B t₂ t₂' := by
  obtain ⟨cur, code, pos, st⟩ := t
  obtain ⟨cur', code', pos', st'⟩ := t'
  obtain ⟨e1, e2, R⟩ := R
  dsimp only at e1 e2 R
  subst e1 e2
  rcases R with ⟨rfl, rfl, x, rfl, rfl⟩ | ⟨rfl, F⟩
  · have hp : ∀ a, x ≠ .pure a := fun a q => by
      rw [q] at he
      unfold endAt at he
      rw [beq_self_eq_true] at he
      exact nomatch he
    have hr : ∀ e, x ≠ .raise e := fun e q => by
      rw [q] at hs
      exact raise_halt (p := p) (w := w) e _ _ _ _ _ hs
    exact ⟨calm_outer hp hr hc, step_outer hB hp hs⟩
  · exact ⟨calm_inner hB F hc, step_inner hB F hs⟩
theorem segRun_inv {b n : Nat} {s s' : Shared} {t : Thread} {f : Flow} {c' : Code} {p' : Pos} (h : segRun table p w n₀ ann b (n + 1) s t = some (f, s', c', p')) :
    (endAt b t = some f ∧ s = s' ∧ t.code = c' ∧ t.pos = p') ∨ (endAt b t = none ∧ t.calm = true ∧ ∃ s₂ t₂, PySem.step (denote table) p w s t = .go s₂ t₂ ∧ segRun table p w n₀ ann b n s₂ t₂ = some (f, s', c', p')) := by
  unfold segRun at h
  split at h
  · rename_i g he
    injection h with h
    injection h with h1 h
    injection h with h2 h
    injection h with h3 h
    exact .inl ⟨h1 ▸ he, h2, h3, h⟩
  · rename_i he
    split at h
    · exact nomatch h
    · rename_i hk
      split at h
      · rename_i s₂ t₂ hs
        exact .inr ⟨he, (Bool.and_eq_true_iff.mp hk).1, s₂, t₂, hs, h⟩
      · exact nomatch h
/-- a run of a tree with a dummy end, told as a run of the tree with its true end -/
theorem seg_cm (hB : splitAtGen B = none) : ∀ (n : Nat) (s : Shared) (t t' : Thread) (f : Flow) (s' : Shared) (c' : Code) (p' : Pos), Rel2 (fun a => .pure (.done (res a))) K' deadEnd H' gd lv B t t' →
    segRun table p w n₀ ann B.length n s t = some (f, s', c', p') → s.asleep → ∃ a, res a = f ∧ Cm p w s t' s' ⟨K' a, c', p', B⟩ ∧ s'.asleep
  | 0, _, _, _, _, _, _, _, _, h, _ => nomatch h
  | n + 1, s, t, t', f, s', c', p', R, h, hr => by
    rcases segRun_inv h with ⟨he, e1, e2, e3⟩ | ⟨he, hc, s₂, t₂, hs, h2⟩
    · obtain ⟨a, ha, e⟩ := end_rel R he
      rw [e, e1, e2, e3]
      exact ⟨a, ha, .refl _ _, e1 ▸ hr⟩
    · obtain ⟨k1, t₂', k3, R'⟩ := step_rel hB R he hc hs
      obtain ⟨a, ha, hN, z⟩ := seg_cm hB n s₂ t₂ t₂' f s' c' p' R' h2 (Shared.asleep_of_life (step_life _ _ _ _ _ _ _ hs) hr)
      exact ⟨a, ha, .step hr k1 k3 hN, z⟩
theorem runN_inv {n : Nat} {s s' : Shared} {t t' : Thread} (h : runN (denote table) p w (n + 1) s t = .running s' t') :
    ∃ s₂ t₂, PySem.step (denote table) p w s t = .go s₂ t₂ ∧ runN (denote table) p w n s₂ t₂ = .running s' t' := by
  unfold runN at h
  split at h
  · rename_i s₂ t₂ hs; exact ⟨s₂, t₂, hs, h⟩
  · exact nomatch h
theorem runN_go {n : Nat} {s s₂ : Shared} {t t₂ : Thread} (h : PySem.step (denote table) p w s t = .go s₂ t₂) : runN (denote table) p w (n + 1) s t = runN (denote table) p w n s₂ t₂ := by
  simp only [runN, h]
/-- the same of a plain run, all of whose threads are calm and none of which has ended before -/
theorem run_cm (hB : splitAtGen B = none) : ∀ (n : Nat) (s : Shared) (t t' : Thread) (f : Flow) (s' : Shared) (t1 : Thread), Rel2 (fun a => .pure (.done (res a))) K' deadEnd H' gd lv B t t' →
    runN (denote table) p w n s t = .running s' t1 → endAt B.length t1 = some f →
    (∀ k, k < n → ∀ s₁ t₁, runN (denote table) p w k s t = .running s₁ t₁ → t₁.calm = true ∧ endAt B.length t₁ = none) → s.asleep → ∃ a, res a = f ∧ Cm p w s t' s' ⟨K' a, t1.code, t1.pos, B⟩ ∧ s'.heap.life = s.heap.life
  | 0, s, t, t', f, s', t1, R, h, hl, _, hr => by
    injection h with a1 a2
    rw [← a2] at hl ⊢
    obtain ⟨a, ha, e⟩ := end_rel R hl
    rw [e, a1]
    exact ⟨a, ha, .refl _ _, rfl⟩
  | n + 1, s, t, t', f, s', t1, R, h, hl, hall, hr => by
    obtain ⟨hc, he⟩ := hall 0 (Nat.succ_pos n) _ _ rfl
    obtain ⟨s₂, t₂, hs, h2⟩ := runN_inv h
    obtain ⟨k1, t₂', k3, R'⟩ := step_rel hB R he hc hs
    obtain ⟨a, ha, hN, z⟩ := run_cm hB n s₂ t₂ t₂' f s' t1 R' h2 hl (fun k hk s₃ t₃ h3 => hall (k + 1) (Nat.succ_lt_succ hk) s₃ t₃ ((runN_go hs).trans h3)) (Shared.asleep_of_life (step_life _ _ _ _ _ _ _ hs) hr)
    exact ⟨a, ha, .step hr k1 k3 hN, z.trans (step_life _ _ _ _ _ _ _ hs)⟩
end
theorem wp_wrap {α β : Type} (M : Model) (Γ : Ctx) (x : Sem α) (K : α → Sem β) (H : Value → Sem β) (gd : Bool → Bool) (lv : List Value → List Value) (Q : β → Pos → Shared → Prop) (E : Value → Pos → Shared → Prop) (p : Pos) (s : Shared) :
    Sem.wp M Γ (x.wrap K H gd lv) Q E p s = Sem.wp M Γ x (fun a p s => Sem.wp M Γ (K a) Q E p s) (fun e p s => Sem.wp M Γ (H e) Q E p s) p s := by
  induction x generalizing p s <;> simp only [Sem.wrap, Sem.wp, *]
theorem endAt_forget (b : Nat) (t : Thread) : endAt b t.forget = endAt b t := by
  obtain ⟨cur, code, pos, st⟩ := t
  have : (forgetAll st).length = st.length := List.length_map _
  simp only [endAt, Thread.forget, this]
/-- a tree whose wp is known, run from a thread that goes on with it -/
theorem wp_cm {p : Program} {w : World} {B : List Frame} {code : Code} {pos : Pos} {s : Shared} {x : Sem Value} {K' : Value → Sem Fin} {H' : Value → Sem Fin} {gd : Bool → Bool} {lv : List Value → List Value} {Q : Value → Shared → Prop}
    (hB : splitAtGen B = none) (hr : s.asleep) (hg : ∀ v s', Q v s' → s'.gens = #[])
    (h : Sem.wp (model p w) (Ctx.of code B) x (fun v _ s' => Q v s') (fun _ _ _ => False) pos s) :
    ∃ v p' s', Q v s' ∧ Cm p w s ⟨x.wrap K' H' gd lv, code, pos, B⟩ s' ⟨K' v, code, p', B⟩ ∧ s'.heap.life = s.heap.life := by
  have h1 : Sem.wp (model p w) (Ctx.of code B) (x.wrap (fun a => (.pure (.done (.ret a)) : Sem Fin)) deadEnd gd lv) (fun fin _ s' => ∃ a, fin = .done (.ret a) ∧ Q a s') (fun _ _ _ => False) pos s := by
    rw [wp_wrap]
    exact Sem.wp_mono _ _ _ (fun a q s' z => by rw [Sem.wp_pure]; exact ⟨a, rfl, z⟩) (fun _ _ _ z => z.elim) _ _ h
  obtain ⟨s', p', leaf, ⟨n, hn, hall⟩, hl⟩ := wp_comesBy (Good := fun th => endAt B.length th = none) (st := B) (Ctx.fits_of code B)
    (fun t c q ht => by
      cases t with
      | pure a => exact absurd rfl (ht a)
      | _ => simp [endAt])
    (fun t c q pre F => by
      have : ((pre ++ F :: B).length == B.length) = false := by
        rw [beq_eq_false_iff_ne, List.length_append, List.length_cons]; lia
      simp only [endAt, this]) _ _ _ _ _ h1
  rcases hl with ⟨a, rfl, v, rfl, hQ⟩ | ⟨e, _, hF⟩
  · have hn' : runNI (denote table) p w n s ⟨x.wrap (fun a => (.pure (.done (.ret a)) : Sem Fin)) deadEnd gd lv, code, pos, B⟩ = .running s' ⟨.pure (.done (.ret v)), code, p', B⟩ := hn
    obtain ⟨σ, tau, hr1, hσ, htau⟩ := runNI_running_real hn'
    have hσ' : σ = s' := by
      have := hg v s' hQ
      exact Shared.eq_of_forget_eq hσ this
    subst hσ'
    obtain ⟨cur, cd, ps, st⟩ := tau
    have e5 : forgetAll st = forgetAll B := congrArg Thread.stack htau
    have e1 : cur = .pure (.done (.ret v)) := congrArg Thread.cur htau
    have e2 : cd = code := congrArg Thread.code htau
    have e3 : ps = p' := congrArg Thread.pos htau
    subst e1 e2 e3
    have hlen : endAt B.length ⟨.pure (.done (.ret v)), cd, ps, st⟩ = some (.ret v) := by
      have h1 : (forgetAll st).length = st.length := List.length_map _
      have h2 : (forgetAll B).length = B.length := List.length_map _
      unfold endAt
      rw [show (st.length == B.length) = true from beq_iff_eq.mpr (by rw [← h1, ← h2, e5])]
    have side : ∀ k, k < n → ∀ s₁ t₁, runN (denote table) p w k s ⟨x.wrap (fun a => (.pure (.done (.ret a)) : Sem Fin)) deadEnd gd lv, cd, pos, B⟩ = .running s₁ t₁ → t₁.calm = true ∧ endAt B.length t₁ = none := by
      intro k hk s₁ t₁ hk₁
      obtain ⟨s₂, t₂, h₂⟩ := runNI_prefix (Nat.le_of_lt hk) hn'
      obtain ⟨s₃, t₃, h₃⟩ := runNI_prefix (k := k + 1) hk hn'
      obtain ⟨σ₂, tau₂, hr₂, _, htau₂⟩ := runNI_running_real h₂
      rw [hr₂] at hk₁
      injection hk₁ with _ e
      subst e
      have hgd := hall k hk s₂ t₂ h₂
      refine ⟨?_, by rw [← endAt_forget, htau₂, endAt_forget]; exact hgd⟩
      rw [← Thread.calm_forget, htau₂, Thread.calm_forget]
      have hstep : ∃ s₄ t₄, stepI (denote table) p w s₂ t₂ = .go s₄ t₄ := by
        cases hs : stepI (denote table) p w s₂ t₂ with
        | go s₄ t₄ => exact ⟨s₄, t₄, rfl⟩
        | halt o s₄ =>
          exfalso
          have hx : ∀ (k : Nat) (s : Shared) (t : Thread), runNI (denote table) p w k s t = .running s₂ t₂ → runNI (denote table) p w (k + 1) s t = .halted o s₄ := by
            intro k
            induction k with
            | zero =>
              intro s t h
              have e : Run.running s t = .running s₂ t₂ := h
              injection e with e1 e2
              subst e1 e2
              simp only [runNI, hs]
            | succ k ih =>
              intro s t h
              simp only [runNI] at h
              cases hq : stepI (denote table) p w s t with
              | halt o' s' => simp only [hq] at h; cases h
              | go s' t' =>
                simp only [hq] at h
                have := ih s' t' h
                rw [show k + 1 + 1 = (k + 1) + 1 from rfl]
                unfold runNI
                simp only [hq]
                exact this
          rw [hx k _ _ h₂] at h₃
          cases h₃
      obtain ⟨s₄, t₄, hs⟩ := hstep
      rw [Thread.calm_eq]
      cases hld : t₂.loud with
      | true => rw [stepI_loud _ _ _ hld] at hs; cases hs
      | false =>
        cases hrf : t₂.refused with
        | true =>
          rw [stepI_quiet _ _ _ hld] at hs
          obtain ⟨what, hw⟩ := stepK_refused (denote table) p w (s := s₂) hrf
          rw [hw] at hs; cases hs
        | false => rfl
    obtain ⟨a, ha, hC, z⟩ := run_cm (p := p) (w := w) (res := Flow.ret) (K' := K') (H' := H') (gd := gd) (lv := lv) hB n s ⟨x.wrap (fun a => (.pure (.done (.ret a)) : Sem Fin)) deadEnd gd lv, cd, pos, B⟩ ⟨x.wrap K' H' gd lv, cd, pos, B⟩ (.ret v) σ ⟨.pure (.done (.ret v)), cd, ps, st⟩ ⟨rfl, rfl, .inl ⟨rfl, rfl, x, rfl, rfl⟩⟩ hr1 hlen side hr
    injection ha with ha
    subst ha
    exact ⟨a, ps, σ, hQ, hC, z⟩
  · exact hF.elim
section
variable {p : Program} {w : World} {n₀ : Nat} {ann : Option Value} {B : List Frame} {env : Env}
theorem piece_cm {n : Nat} {s s' : Shared} {l rest : List Stmt} {c c' : Code} {pos p' : Pos} (hB : splitAtGen B = none) (h : segRun table p w n₀ ann B.length n s (piecesOf l env c pos B) = some (.next, s', c', p')) (hr : s.asleep) :
    Cm p w s (restOf (l ++ rest) env c pos B) s' (restOf rest env c' p' B) ∧ s'.asleep := by
  obtain ⟨a, ha, hC, z⟩ := seg_cm (res := id) (K' := fun f => match f with | .next => (execs rest env).wrap doneF (leaveH env) id id | f => doneF f) (H' := leaveH env) (B := B) hB n s (piecesOf l env c pos B)
    ⟨(execs l env).wrap (fun f => match f with | .next => (execs rest env).wrap doneF (leaveH env) id id | f => doneF f) (leaveH env) id id, c, pos, B⟩ _ _ _ _ ⟨rfl, rfl, .inl ⟨rfl, rfl, _, rfl, rfl⟩⟩ h hr
  obtain rfl : a = .next := ha
  unfold restOf
  rw [execs_app_wrap]
  exact ⟨hC, z⟩
theorem block_cm {n : Nat} {s s' : Shared} {b : List Stmt} {c c' : Code} {pos p' : Pos} (hB : splitAtGen B = none) (h : segRun table p w n₀ ann B.length n s (blockOf b env c pos B) = some (.next, s', c', p')) (hr : s.asleep) :
    Cm p w s ⟨denote table (.body b env), c, pos, B⟩ s' (restOf b env c' p' B) ∧ s'.asleep := by
  obtain ⟨a, ha, hC, z⟩ := seg_cm (res := fun _ : Unit => Flow.next) (K' := fun _ => (execs b env).wrap doneF (leaveH env) id id) (H' := Sem.raise) (B := B) hB n s (blockOf b env c pos B)
    ⟨(blockStart b env).wrap (fun _ => (execs b env).wrap doneF (leaveH env) id id) .raise id id, c, pos, B⟩ _ _ _ _ ⟨rfl, rfl, .inl ⟨rfl, rfl, _, rfl, rfl⟩⟩ h hr
  rw [body_wrap]
  exact ⟨hC, z⟩
theorem val_cm {n : Nat} {s s' : Shared} {x : Sem Value} {v : Value} {c c' : Code} {pos p' : Pos} {K' : Value → Sem Fin} {H' : Value → Sem Fin} {gd : Bool → Bool} {lv : List Value → List Value} (hB : splitAtGen B = none)
    (h : segRun table p w n₀ ann B.length n s ⟨x.wrap (fun a => .pure (.done (.ret a))) deadEnd gd lv, c, pos, B⟩ = some (.ret v, s', c', p')) (hr : s.asleep) :
    Cm p w s ⟨x.wrap K' H' gd lv, c, pos, B⟩ s' ⟨K' v, c', p', B⟩ ∧ s'.asleep := by
  obtain ⟨a, ha, hC, z⟩ := seg_cm (res := Flow.ret) (K' := K') (H' := H') (B := B) hB n s ⟨x.wrap (fun a => .pure (.done (.ret a))) deadEnd gd lv, c, pos, B⟩ ⟨x.wrap K' H' gd lv, c, pos, B⟩ _ _ _ _ ⟨rfl, rfl, .inl ⟨rfl, rfl, x, rfl, rfl⟩⟩ h hr
  injection ha with ha
  subst ha
  exact ⟨hC, z⟩
theorem flow_cm {n : Nat} {s s' : Shared} {x : Sem Flow} {f : Flow} {c c' : Code} {pos p' : Pos} {K' : Flow → Sem Fin} {H' : Value → Sem Fin} {gd : Bool → Bool} {lv : List Value → List Value} (hB : splitAtGen B = none)
    (h : segRun table p w n₀ ann B.length n s ⟨x.wrap doneF deadEnd gd lv, c, pos, B⟩ = some (f, s', c', p')) (hr : s.asleep) :
    Cm p w s ⟨x.wrap K' H' gd lv, c, pos, B⟩ s' ⟨K' f, c', p', B⟩ ∧ s'.asleep := by
  obtain ⟨a, ha, hC, z⟩ := seg_cm (res := id) (K' := K') (H' := H') (B := B) hB n s ⟨x.wrap doneF deadEnd gd lv, c, pos, B⟩ ⟨x.wrap K' H' gd lv, c, pos, B⟩ _ _ _ _ ⟨rfl, rfl, .inl ⟨rfl, rfl, x, rfl, rfl⟩⟩ h hr
  obtain rfl : a = f := ha
  exact ⟨hC, z⟩
theorem runT {n : Nat} {s s' : SharedT} {t : Thread} {f : Flow} {c : Code} {q : Pos} {b : Nat} (h : segRunT treeTable p w n₀ ann b n s t = some (f, s', c, q)) : segRun table p w n₀ ann b n s.abs t = some (f, s'.abs, c, q) := by
  rw [table_eq_tree]; exact segRun_of h
/-- a display's elements, one behind the other -/
theorem spl_cons {e : PySem.Expr} {rest : List PySem.Expr} {pos : Pos} {s s₁ s' : Shared} {K : List Value → Sem Fin} {H : Value → Sem Fin} {pre vs : List Value} {v : Value} {c : Code} {q : Pos} {T : Thread}
    (he : starEach (e :: rest) env = (false, eval e env) :: starEach rest env)
    (h1 : ∀ (K1 : Value → Sem Fin), ∃ q1, Cm p w s ⟨(eval e env).wrap K1 H id (pre ++ ·), c, q, B⟩ s₁ ⟨K1 v, c, q1, B⟩)
    (h2 : ∀ (K2 : List Value → Sem Fin) (pre2 : List Value) (q1 : Pos), ∃ q2, Cm p w s₁ ⟨(spliced (backTo pos (starEach rest env))).wrap K2 H id (pre2 ++ ·), c, q1, B⟩ s' ⟨K2 vs, c, q2, B⟩) :
    ∃ q2, Cm p w s ⟨(spliced (backTo pos (starEach (e :: rest) env))).wrap K H id (pre ++ ·), c, q, B⟩ s' ⟨K (v :: vs), c, q2, B⟩ := by
  have e1 : spliced (backTo pos (starEach (e :: rest) env)) = (eval e env).bind fun v => (holding [v] (spliced (backTo pos (starEach rest env)))).bind fun r => .pure ([v] ++ r) := by
    rw [he]; rfl
  have e2 : ∀ a : Value, (((holding [a] (spliced (backTo pos (starEach rest env)))).bind fun r => (.pure ([a] ++ r) : Sem (List Value))).wrap K H id (pre ++ ·)) =
      (spliced (backTo pos (starEach rest env))).wrap (fun r => K (a :: r)) H id ((pre ++ [a].filter Value.isRef) ++ ·) := by
    intro a
    rw [holding_eq_keep, Sem.keep_eq_wrap, Sem.bind_eq_wrap, Sem.wrap_wrap, Sem.wrap_wrap]
    have : (fun l : List Value => pre ++ ([a].filter Value.isRef ++ l)) = ((pre ++ [a].filter Value.isRef) ++ ·) := by
      funext l; rw [List.append_assoc]
    simp only [id]
    rw [this]
    rfl
  rw [e1, Sem.bind_eq_wrap, Sem.wrap_wrap]
  obtain ⟨q1, C1⟩ := h1 fun a => ((holding [a] (spliced (backTo pos (starEach rest env)))).bind fun r => (.pure ([a] ++ r) : Sem (List Value))).wrap K H id (pre ++ ·)
  rw [e2 v] at C1
  obtain ⟨q2, C2⟩ := h2 (fun r => K (v :: r)) (pre ++ [v].filter Value.isRef) q1
  exact ⟨q2, C1.trans C2⟩
theorem spl_nil {pos : Pos} {s : Shared} {K : List Value → Sem Fin} {H : Value → Sem Fin} {pre : List Value} {c : Code} {q : Pos} :
    ∃ q2, Cm p w s ⟨(spliced (backTo pos (starEach [] env))).wrap K H id (pre ++ ·), c, q, B⟩ s ⟨K [], c, q2, B⟩ := ⟨q, .refl _ _⟩
end
section
noncomputable def lay : List Str → Tok → List (Str × Tok)
  | [], _ => []
  | x :: r, t => (x, t) :: lay r (t + 1)
theorem lay_length : ∀ (l : List Str) (t : Tok), (lay l t).length = l.length
  | [], _ => rfl
  | _ :: r, t => by simp only [lay, List.length_cons, lay_length r]
theorem lay_any (f : Str → Bool) : ∀ (l : List Str) (t : Tok), (lay l t).any (fun x => f x.1) = l.any f
  | [], _ => rfl
  | _ :: r, t => by simp only [lay, List.any_cons, lay_any f r]
noncomputable def strsOf : List PySem.Expr → List Str
  | .Constant (.str x) _ _ :: r => x :: strsOf r
  | _ => []
noncomputable def allStr : List PySem.Expr → Bool
  | [] => true
  | .Constant (.str _) _ _ :: r => allStr r
  | _ => false
variable {p : Program} {w : World} {A : Around} {E : Value → Shared → Prop}
theorem allStr_cons {e : PySem.Expr} {r : List PySem.Expr} (h : allStr (e :: r) = true) : ∃ x k ps, e = .Constant (.str x) k ps ∧ allStr r = true := by
  unfold allStr at h
  split at h
  · rename_i q; cases q
  · rename_i x k ps r' q
    cases q
    exact ⟨_, _, _, rfl, h⟩
  · cases h
theorem strsOf_length (l : List PySem.Expr) (h : allStr l = true) : (strsOf l).length = l.length := by
  induction l with
  | nil => rfl
  | cons e r ih =>
    obtain ⟨x, k, ps, rfl, ha⟩ := allStr_cons h
    exact congrArg Nat.succ (ih ha)
theorem all_plain (l : List PySem.Expr) (h : allStr l = true) : l.all kdsPlain = true := by
  induction l with
  | nil => rfl
  | cons e r ih =>
    obtain ⟨x, k, ps, rfl, ha⟩ := allStr_cons h
    exact ih ha
theorem kds_cons_str {env : Env} {x : Str} {k : Nat} {ps : Pos} {r : List PySem.Expr} {s : Shared} {Q : List Value → Shared → Prop}
    (h : KdsAll (model p w) A E env r (fun vs => Q (.str x s.toks :: vs)) { s with toks := s.toks + 1 }) : KdsAll (model p w) A E env (.Constant (.str x) k ps :: r) Q s :=
  wpAny_Constant_str h
theorem kds_strs {env : Env} (elts : List PySem.Expr) : ∀ (s : Shared) (Q : List Value → Shared → Prop), allStr elts = true →
    Q ((lay (strsOf elts) s.toks).map fun x => .str x.1 x.2) { s with toks := s.toks + elts.length } → KdsAll (model p w) A E env elts Q s := by
  induction elts with
  | nil => intro s Q _ h; exact h
  | cons e r ih =>
    intro s Q ha h
    obtain ⟨x, k, ps, rfl, ha⟩ := allStr_cons ha
    have e : s.toks + 1 + r.length = s.toks + (r.length + 1) := by lia
    rw [List.length_cons, ← e] at h
    exact kds_cons_str (ih { s with toks := s.toks + 1 } _ ha h)
theorem unled_wp {a : Addr} {s : Shared} {S : Str → Bool} {n : Nat} {Q : Unit → Shared → Prop} (hS : s.heap.SetOf (strKind p w) a S n)
    (h : ∀ h', Heap.SameBut a s.heap h' → h'.SetOf (strKind p w) a S n → Q () { s with heap := h' }) : wpAny (model p w) A (setUnled a) Q E s := by
  obtain ⟨o, es, ep, t, ho, hex, hd, hel, hmem, hb, hf, hn⟩ := hS
  unfold setUnled
  refine wpAny_bind (wpAny_setState_of ho hd hf ?_)
  refine wpAny_storeSet_of ho hd ?_ (fits_of_scanBound hb)
  have hf' : ({ t with led := false } : SetTable).fits es.size = true := hf
  obtain ⟨_, hS1⟩ := SetOf_store (knd := strKind p w) (t' := { t with led := false }) ho hex hd hel hmem hb hf'
  exact h _ (Heap.SameBut.update s.heap a _) (hn ▸ hS1)
theorem fill_set {a : Addr} {h0 : Heap} {Q : Value → Shared → Prop} : ∀ (xs : List (Str × Tok)) (s : Shared) (S : Str → Bool) (n : Nat),
    Heap.SameBut a h0 s.heap → s.heap.SetOf (strKind p w) a S n → n + xs.length < scanBound →
    (∀ s', s'.toks = s.toks + xs.length → s'.gens = s.gens → s'.os = s.os → s'.drawn = s.drawn → Heap.SameBut a h0 s'.heap → (∃ m, s'.heap.SetOf (strKind p w) a (fun k => S k || xs.any fun x => decide (k = x.1)) m) → Q (.ref a) s') →
    KdsFill (model p w) A E true a Q (xs.map fun x => .str x.1 x.2) s
  | [], s, S, n, hb, hS, _, h => by
    refine kds_fill_unled rfl (unled_wp hS fun h' hs hS' => h _ rfl rfl rfl rfl (hb.trans hs) ⟨n, ?_⟩)
    have : (fun k => S k || List.any ([] : List (Str × Tok)) fun x => decide (k = x.1)) = S := by funext k; simp
    rw [this]; exact hS'
  | (x, t) :: r, s, S, n, hb, hS, hl, h => by
    rw [List.map_cons]
    refine kds_fill_cons ?_
    have hkey : (strKind p w).is x (.str x t) = true := by show Value.isStrOf x (.str x t) = true; simp [Value.isStrOf]
    unfold setAdd
    refine wpAny_holding (wpAny_bind ((strKind p w).pyHash hkey ?_))
    rw [List.length_cons] at hl
    refine wpAny_setAddHashed_of (s := { s with toks := s.toks + 1 }) hkey rfl hS (by lia) fun h' hsb hS' => ?_
    refine fill_set r _ _ _ (hb.trans hsb) hS' (by split <;> lia) fun s' e1 e2 e3 e4 hb' hS'' => h s' ?_ e2 e3 e4 hb' ?_
    · rw [e1, List.length_cons]; show s.toks + 1 + r.length = _; lia
    · obtain ⟨m, hm⟩ := hS''
      refine ⟨m, ?_⟩
      have : (fun k => S k || List.any ((x, t) :: r) fun x => decide (k = x.1)) = (fun k => (S k || decide (k = x)) || r.any fun x => decide (k = x.1)) := by
        funext k; rw [List.any_cons, Bool.or_assoc]
      rw [this]; exact hm
theorem wp_set {s : Shared} {elts : List PySem.Expr} {k : Nat} {pos : Pos} {env : Env} {c : Addr} {o : Obj} {vs : Array Value} (hc : env.code = .ref c) (ho : s.heap.get? c = some o) (hd : o.data = .fields vs)
    (hroad : displayRoad k elts = .unsure) (hall : allStr elts = true) (hlen : elts.length ≤ 30) :
    wpAny (model p w) A (eval (.Set elts k pos) env) (fun v s' => v = .ref s.heap.objs.size ∧ s'.toks = s.toks + 2 * elts.length ∧ s'.gens = s.gens ∧ s'.os = s.os ∧ s'.drawn = s.drawn ∧
      (∃ o0 : Obj, Heap.SameBut s.heap.objs.size (s.heap.push o0) s'.heap) ∧ ∃ m, s'.heap.SetOf (strKind p w) s.heap.objs.size (fun k => (strsOf elts).any fun x => decide (k = x)) m) E s := by
  rw [arm_eval_Set]
  refine wpAny_bind (wpAny_standAt ?_)
  obtain ⟨oc, od, odt, osl⟩ := o
  dsimp only at hd
  subst hd
  have X : Frag.In [(c, (⟨oc, od, .fields vs, osl⟩ : Obj))] s.heap := fun a o' e => by
    simp only [List.lookup] at e
    split at e
    · rename_i q; cases e; rw [beq_iff_eq.mp q]; exact ho
    · cases e
  refine wpAny_bind (kds_main (K := [(c, ⟨oc, od, .fields vs, osl⟩)]) X (by rw [hc]; simp [kdsCode, List.lookup]) fun b => ?_)
  rw [kds_star elts (all_plain elts hall), List.map_map]
  refine kds_core (ts := (evalEach elts env).map fun t => do let v ← t; standAt pos; pure v) (by rw [hroad]; rfl) ?_ ?_ ?_ fun led => ?_
  · refine List.findIdx?_eq_none_iff.mpr fun x hx => ?_
    obtain ⟨t, _, rfl⟩ := List.mem_map.mp hx
    rfl
  · rw [List.length_map, kds_len]; exact hlen
  · rw [List.map_map]; try rfl
  · refine kds_all pos elts _ _ (kds_strs elts _ _ hall ?_)
    rw [hroad]
    have hS0 : (s.heap.push { cls := .type "set", dict := none, data := .set #[] 0 (.fresh 0 0 led) }).SetOf (strKind p w) s.heap.objs.size (fun _ => false) 0 := by
      exact ⟨_, #[], 0, .fresh 0 0 led, Heap.get?_push_size _ rfl, ⟨rfl, rfl, rfl⟩, rfl, (fun e he => nomatch he), (fun k => Iff.intro (fun h => Bool.noConfusion h) (fun h => by obtain ⟨e, he, _⟩ := h; cases he)), by decide, rfl, rfl⟩
    refine fill_set _ _ _ 0 (Heap.SameBut.refl _ _) hS0 ?_ fun s' e1 e2 e3 e4 hb hS => ⟨rfl, ?_, e2, e3, e4, ⟨_, hb⟩, ?_⟩
    · rw [lay_length, strsOf_length elts hall]; exact Nat.lt_of_le_of_lt (by lia : 0 + elts.length ≤ 30) (by decide)
    · rw [e1, lay_length, strsOf_length elts hall]; show s.toks + elts.length + elts.length = _; lia
    · obtain ⟨m, hm⟩ := hS
      refine ⟨m, ?_⟩
      have : (fun k => (strsOf elts).any fun x => decide (k = x)) = (fun k => (fun _ => false) k || (lay (strsOf elts) s.toks).any fun x => decide (k = x.1)) := by
        funext k
        rw [Bool.false_or, lay_any (fun x => decide (k = x))]
      rw [this]; exact hm
end
noncomputable def mkS (t : BT) (n toks : Nat) (os : OsState) : SharedT := ⟨t, n, {}, #[], {}, toks, os⟩
/-- what is known of a set's data -/
noncomputable def SetD (p : Program) (w : World) (xs : List Str) (D : Data) : Prop :=
  ∃ es ep t, D = .set es ep t ∧ ElemsOf (strKind p w) es.toList ∧ (∀ k, (xs.any fun x => decide (k = x)) = true ↔ ∃ e ∈ es.toList, (strKind p w).is k e.2 = true) ∧ es.size < scanBound ∧ t.fits es.size = true
noncomputable def allAlive (T : BT) (n : Nat) : Bool := (List.range n).all fun i => match T.get i with | some o => (alive o).isSome | none => false
theorem get?_objs {h : Heap} {a : Nat} {o : Obj} (e : h.get? a = some o) : h.objs[a]? = some o := by
  unfold Heap.get? at e
  split at e
  · cases e
  · exact e
theorem abs_alive {T : BT} {n : Nat} {life : Life} (h : allAlive T n = true) {i : Nat} (hi : i < n) : ∃ o, T.get i = some o ∧ (absHeap T n life).get? i = some o := by
  have := List.all_eq_true.mp h i (List.mem_range.mpr hi)
  cases g : T.get i with
  | none => rw [g] at this; cases this
  | some o =>
    rw [g] at this
    refine ⟨o, rfl, ?_⟩
    rw [abs_get hi g]
    obtain ⟨c, d, dt, sl⟩ := o
    cases dt <;> first | rfl | cases this
theorem heap_same {T : BT} {n : Nat} {life : Life} {h' : Heap} {o0 o' : Obj} (hal : allAlive T n = true) (hins : ((T.ins n o').get n).isSome = true) (hs : Heap.SameBut n ((absHeap T n life).push o0) h') (hn : h'.get? n = some o') (hl : h'.life = life) :
    h' = absHeap (T.ins n o') (n + 1) life := by
  have hsz : h'.objs.size = n + 1 := by
    rw [hs.1]; show ((absHeap T n life).objs.push o0).size = n + 1
    rw [Array.size_push, absHeap_size]
  have e : h'.objs = (absHeap (T.ins n o') (n + 1) life).objs := by
    apply Array.ext_getElem?
    intro i
    by_cases hi : i < n
    · obtain ⟨o, g, ga⟩ := abs_alive (life := life) hal hi
      have h1 : ((absHeap T n life).push o0).get? i = some o := Heap.get?_push_of_some _ ga
      have h2 := get?_objs ((hs.2 i (Nat.ne_of_lt hi)).trans h1)
      rw [h2, absHeap_at, if_pos (Nat.lt_succ_of_lt hi), BT.get_ins o' T n hins, if_neg (Nat.ne_of_lt hi), g]; rfl
    · by_cases h2 : i = n
      · subst h2
        rw [get?_objs hn, absHeap_at, if_pos (Nat.lt_succ_self _), BT.get_ins o' T _ hins, if_pos rfl]; rfl
      · rw [absHeap_at, if_neg (by lia), Array.getElem?_eq_none (by rw [hsz]; lia)]
  obtain ⟨ob, lf⟩ := h'
  dsimp only at e hl
  rw [e, hl]; rfl
theorem set_cm {p : Program} {w : World} {T : BT} {n toks : Nat} {os : OsState} {B : List Frame} {code : Code} {pos : Pos} {elts : List PySem.Expr} {k : Nat} {ps : Pos} {env : Env} {c : Addr} {o : Obj} {vs : Array Value}
    {K' : Value → Sem Fin} {H' : Value → Sem Fin} {gd : Bool → Bool} {lv : List Value → List Value}
    (hB : splitAtGen B = none) (hal : allAlive T n = true) (hins : ∀ o', ((T.ins n o').get n).isSome = true) (hc : env.code = .ref c) (hcn : c < n) (ho : T.get c = some o) (hd : o.data = .fields vs)
    (hroad : displayRoad k elts = .unsure) (hall : allStr elts = true) (hlen : elts.length ≤ 30) :
    ∃ D p', SetD p w (strsOf elts) D ∧ Cm p w (mkS T n toks os).abs ⟨(eval (.Set elts k ps) env).wrap K' H' gd lv, code, pos, B⟩ (mkS (T.ins n ⟨.type "set", none, D, #[]⟩) (n + 1) (toks + 2 * elts.length) os).abs ⟨K' (.ref n), code, p', B⟩ := by
  have ho' : (absHeap T n {}).get? c = some o := by
    obtain ⟨o2, g, ga⟩ := abs_alive (life := {}) hal hcn
    rw [ho] at g; cases g; exact ga
  have W := wp_set (p := p) (w := w) (A := { handled := topHandled B, depth := frameCount (B.map Frame.where_) + code.weight, frames := none, guards := none, units := (Ctx.of code B).units }) (E := fun _ _ => False)
    (s := (mkS T n toks os).abs) (elts := elts) (k := k) (pos := ps) (env := env) hc ho' hd hroad hall hlen
  have W' := W (Ctx.of code B) pos ⟨rfl, Nat.le_refl _, (fun l h => by cases h), (fun g h => by cases h), Nat.le_refl _⟩
  obtain ⟨v, p', s', ⟨hv, h1, h2, h3, h4, ⟨o0, hsb⟩, m, hS⟩, hC, hl⟩ := wp_cm (K' := K') (H' := H') (gd := gd) (lv := lv) hB (s := (mkS T n toks os).abs) ⟨rfl, rfl⟩ (fun v s' h => h.2.2.1.trans rfl) W'
  have hsz : (mkS T n toks os).abs.heap.objs.size = n := absHeap_size T n {}
  rw [hsz] at hv hsb hS
  obtain ⟨o', es, ep, t, a1, ⟨x1, x2, x3⟩, a3, a4, a5, a6, a7, _⟩ := hS
  obtain ⟨cls, dict, data, slots⟩ := o'
  dsimp only at x1 x2 x3 a3
  subst x1 x2 x3 a3
  refine ⟨.set es ep t, p', ⟨es, ep, t, rfl, a4, a5, a6, a7⟩, ?_⟩
  have hh := heap_same (life := {}) hal (hins _) hsb a1 hl
  obtain ⟨heap, gens, drawn, tk, os'⟩ := s'
  dsimp only at h1 h2 h3 h4 hh
  subst h1 h2 h3 h4 hh hv
  exact hC
end
section
open PySem PySem.W PyProof.Rows
noncomputable def tailA (t value : PySem.Expr) (env : Env) (v : Value) : Sem Flow := (swappedStores [t] value env).bind fun sw => assignStores env v sw ((assignEach [t] env).map (·.2))
theorem exec_assign1 {t value : PySem.Expr} {pos : Pos} {env : Env} (h : swapsWithSole [t] value pos.line env = .pure false) :
    exec (.Assign [t] value pos) env = .at pos fun _ => (eval value env).bind fun v => tailA t value env v := by
  rw [arm_exec_Assign, h]; rfl
section
variable {p : Program} {w : World} {n₀ : Nat} {ann : Option Value} {B : List Frame} {env : Env}
theorem rest_assign {t value : PySem.Expr} {pos : Pos} {rest : List Stmt} {c : Code} {q : Pos} (h : swapsWithSole [t] value pos.line env = .pure false) :
    restOf (.Assign [t] value pos :: rest) env c q B = ⟨.at pos fun _ => (eval value env).wrap (fun v => (tailA t value env v).wrap (fun f => match f with | .next => (execs rest env).wrap doneF (leaveH env) id id | f => doneF f) (leaveH env) id id) (leaveH env) id id, c, q, B⟩ := by
  unfold restOf
  rw [execs_cons_wrap, exec_assign1 h]
  simp only [Sem.wrap, Sem.bind_eq_wrap, Sem.wrap_wrap]
  rfl
theorem at_cm {s s' : Shared} {pos : Pos} {k : Unit → Sem Fin} {c : Code} {q : Pos} {t' : Thread} (hr : s.asleep) (h : Cm p w s ⟨k (), c, pos, B⟩ s' t') : Cm p w s ⟨.at pos k, c, q, B⟩ s' t' :=
  .step hr rfl rfl h
theorem set_stmt {t : PySem.Expr} {elts : List PySem.Expr} {k : Nat} {ps pos : Pos} {rest : List Stmt} {c : Code} {q q' : Pos} {T : BT} {n toks N : Nat} {os : OsState} {cd : Addr} {o : Obj} {vs : Array Value} {S' : Data → SharedT}
    (hsw : swapsWithSole [t] (.Set elts k ps) pos.line env = .pure false) (hB : splitAtGen B = none) (hal : allAlive T n = true) (hins : ∀ o', ((T.ins n o').get n).isSome = true) (hc : env.code = .ref cd) (hcn : cd < n) (ho : T.get cd = some o) (hd : o.data = .fields vs)
    (hroad : displayRoad k elts = .unsure) (hall : allStr elts = true) (hlen : elts.length ≤ 30)
    (tail : ∀ D p', segRunT treeTable p w n₀ ann B.length N (mkS (T.ins n ⟨.type "set", none, D, #[]⟩) (n + 1) (toks + 2 * elts.length) os) ⟨(tailA t (.Set elts k ps) env (.ref n)).wrap doneF deadEnd id id, c, p', B⟩ = some (.next, S' D, c, q')) :
    ∃ D, SetD p w (strsOf elts) D ∧ Cm p w (mkS T n toks os).abs (restOf (.Assign [t] (.Set elts k ps) pos :: rest) env c q B) (S' D).abs (restOf rest env c q' B) := by
  obtain ⟨D, p', hD, hC⟩ := set_cm (p := p) (w := w) (code := c) (pos := pos) (toks := toks) (os := os) (k := k) (ps := ps)
    (K' := fun v => (tailA t (.Set elts k ps) env v).wrap (fun f => match f with | .next => (execs rest env).wrap doneF (leaveH env) id id | f => doneF f) (leaveH env) id id) (H' := leaveH env) (gd := id) (lv := id) hB hal hins hc hcn ho hd hroad hall hlen
  refine ⟨D, hD, ?_⟩
  rw [rest_assign hsw]
  refine at_cm ⟨rfl, rfl⟩ (hC.trans ?_)
  exact (flow_cm (K' := fun f => match f with | .next => (execs rest env).wrap doneF (leaveH env) id id | f => doneF f) (H' := leaveH env) hB (runT (tail D p')) ⟨rfl, rfl⟩).1
theorem list_stmt {t : PySem.Expr} {elts : List PySem.Expr} {ps pos : Pos} {rest : List Stmt} {c : Code} {q q' : Pos} {S S1 S2 : SharedT} {N : Nat} {vs : List Value}
    (hsw : swapsWithSole [t] (.List elts ps) pos.line env = .pure false) (hB : splitAtGen B = none) (hr : S.abs.asleep) (hr1 : S1.abs.asleep)
    (spl : ∀ (K : List Value → Sem Fin) (H : Value → Sem Fin) (pre : List Value) (q1 : Pos), ∃ q2, Cm p w S.abs ⟨(spliced (backTo ps (starEach elts env))).wrap K H id (pre ++ ·), c, q1, B⟩ S1.abs ⟨K vs, c, q2, B⟩)
    (tail : ∀ p', segRunT treeTable p w n₀ ann B.length N S1 ⟨((newList vs).bind fun v => tailA t (.List elts ps) env v).wrap doneF deadEnd id id, c, p', B⟩ = some (.next, S2, c, q')) :
    Cm p w S.abs (restOf (.Assign [t] (.List elts ps) pos :: rest) env c q B) S2.abs (restOf rest env c q' B) := by
  rw [rest_assign hsw]
  refine at_cm hr ?_
  have e : (eval (.List elts ps) env).wrap (fun v => (tailA t (.List elts ps) env v).wrap (fun f => match f with | .next => (execs rest env).wrap doneF (leaveH env) id id | f => doneF f) (leaveH env) id id) (leaveH env) id id =
      .at ps fun _ => (spliced (backTo ps (starEach elts env))).wrap (fun vs => ((newList vs).bind fun v => tailA t (.List elts ps) env v).wrap (fun f => match f with | .next => (execs rest env).wrap doneF (leaveH env) id id | f => doneF f) (leaveH env) id id) (leaveH env) id ([] ++ ·) := by
    have e1 : eval (.List elts ps) env = .at ps fun _ => (spliced (backTo ps (starEach elts env))).bind newList := rfl
    rw [e1]
    simp only [Sem.wrap, Sem.bind_eq_wrap, Sem.wrap_wrap]
    rfl
  rw [e]
  refine at_cm hr ?_
  obtain ⟨q2, h2⟩ := spl (fun vs => ((newList vs).bind fun v => tailA t (.List elts ps) env v).wrap (fun f => match f with | .next => (execs rest env).wrap doneF (leaveH env) id id | f => doneF f) (leaveH env) id id) (leaveH env) [] ps
  refine h2.trans ?_
  exact (flow_cm (K' := fun f => match f with | .next => (execs rest env).wrap doneF (leaveH env) id id | f => doneF f) (H' := leaveH env) hB (runT (tail q2)) hr1).1
end
section
variable {α : Type} {p : Program} {w : World} {n₀ : Nat} {ann : Option Value} {B : List Frame} {K' : α → Sem Fin} {H' : Value → Sem Fin} {gd : Bool → Bool} {lv : List Value → List Value} {res : α → Flow}
theorem go_cm : ∀ (n : Nat) (s : Shared) (t : Thread) (s' : Shared) (t' : Thread), topGo table p w n₀ ann n s t = some (s', t') → s.asleep → Cm p w s t s' t' ∧ s'.asleep
  | 0, s, t, s', t', h, hr => by
    obtain ⟨rfl, rfl⟩ : s = s' ∧ t = t' := by simpa [topGo] using h
    exact ⟨.refl _ _, hr⟩
  | n + 1, s, t, s', t', h, hr => by
    unfold topGo at h
    cases ht : through t with
    | true => rw [ht] at h; cases h
    | false =>
      rw [ht] at h
      cases hk : stepOk n₀ ann t with
      | false => rw [hk] at h; cases h
      | true =>
        rw [hk] at h
        cases hs : PySem.step (denote table) p w s t with
        | halt o s₂ => rw [hs] at h; cases h
        | go s₂ t₂ =>
          rw [hs] at h
          have hr₂ : s₂.asleep := Shared.asleep_of_life (step_life _ _ _ _ _ _ _ hs) hr
          obtain ⟨a, b⟩ := go_cm n s₂ t₂ s' t' h hr₂
          exact ⟨.step hr (Bool.and_eq_true_iff.mp hk).1 hs a, b⟩
theorem seg_go_cm (hB : splitAtGen B = none) : ∀ (n : Nat) (s : Shared) (t t' : Thread) (s1 : Shared) (t1 : Thread), Rel2 (fun a => .pure (.done (res a))) K' deadEnd H' gd lv B t t' →
    segGo table p w n₀ ann B.length n s t = some (s1, t1) → s.asleep → ∃ t1', Rel2 (fun a => .pure (.done (res a))) K' deadEnd H' gd lv B t1 t1' ∧ Cm p w s t' s1 t1' ∧ s1.asleep := by
  intro n
  induction n with
  | zero =>
    intro s t t' s1 t1 R h hr
    obtain ⟨rfl, rfl⟩ : s = s1 ∧ t = t1 := by simpa [segGo] using h
    exact ⟨t', R, .refl _ _, hr⟩
  | succ n ih =>
    rintro s ⟨cur, code, pos, st⟩ ⟨cur', code', pos', st'⟩ s1 t1 R h hr
    obtain ⟨e1, e2, R⟩ := R
    dsimp only at e1 e2 R
    subst e1 e2
    unfold segGo at h
    cases he : endAt B.length ⟨cur, code, pos, st⟩ with
    | some g => rw [he] at h; cases h
    | none =>
      rw [he] at h
      cases hk : stepOk n₀ ann ⟨cur, code, pos, st⟩ with
      | false => rw [hk] at h; cases h
      | true =>
        rw [hk] at h
        cases hs : PySem.step (denote table) p w s ⟨cur, code, pos, st⟩ with
        | halt o s₂ => rw [hs] at h; cases h
        | go s₂ t₂ =>
          rw [hs] at h
          have key : stepOk n₀ ann ⟨cur', code, pos, st'⟩ = true ∧ ∃ t₂', PySem.step (denote table) p w s ⟨cur', code, pos, st'⟩ = .go s₂ t₂' ∧ Rel2 (fun a => .pure (.done (res a))) K' deadEnd H' gd lv B t₂ t₂' := by
            rcases R with ⟨rfl, rfl, x, rfl, rfl⟩ | ⟨rfl, F⟩
            · have hp : ∀ a, x ≠ .pure a := by
                rintro a rfl
                simp [endAt, Sem.wrap] at he
              have hr : ∀ e, x ≠ .raise e := by
                rintro e rfl
                obtain ⟨heap, gens, drawn, toks, os⟩ := s
                simp only [Sem.wrap, PySem.step] at hs
                cases hs
              exact ⟨(okOuter (K' := K') (H' := H') hp hr hk).1, step_outer hB hp hs⟩
            · exact ⟨(okInner hB F hk).1, step_inner hB F hs⟩
          obtain ⟨k1, t₂', k3, R'⟩ := key
          have hr₂ : s₂.asleep := Shared.asleep_of_life (step_life _ _ _ _ _ _ _ hs) hr
          obtain ⟨t1', a, b, c⟩ := ih s₂ t₂ t₂' s1 t1 R' h hr₂
          exact ⟨t1', a, .step hr (Bool.and_eq_true_iff.mp k1).1 k3 b, c⟩
end
section
variable {p : Program} {w : World} {n₀ : Nat} {ann : Option Value} {env : Env} {q : Pos}
/-- a class statement: to its body, the body under whatever frame, the rest behind it -/
theorem class_stmt {R : Shared → Prop} {st : Stmt} {rest : List Stmt} {c c2 c' bc : Code} {p0 cp p2 p' : Pos} {s s1 : Shared} {n N : Nat} {kk : Result → Sem Fin} {live kept : List Value}
    (hr : s.asleep) (hgo : segGo table p w n₀ ann 1 n s (piecesOf [st] env c p0 [topFrame q]) = some (s1, ⟨denote table bc, bc, cp, [.ret kk none false live c2 p2 kept, topFrame q]⟩))
    (body : ∀ k' : Result → Sem Fin, ∃ s2 s3 p3, R s3 ∧ s2.asleep ∧ Cm p w s1 ⟨denote table bc, bc, cp, [.ret k' none false live c2 p2 kept, topFrame q]⟩ s2 ⟨.pure (.done .next), bc, p3, [.ret k' none false live c2 p2 kept, topFrame q]⟩ ∧
      segRun table p w n₀ ann 1 N s2 ⟨kk (.ok .next), c2, p2, [topFrame q]⟩ = some (.next, s3, c', p')) :
    ∃ s3, R s3 ∧ Cm p w s (restOf (st :: rest) env c p0 [topFrame q]) s3 (restOf rest env c' p' [topFrame q]) ∧ s3.asleep := by
  obtain ⟨t1', R1, C1, z1⟩ := seg_go_cm (res := id) (K' := fun f => match f with | .next => (execs rest env).wrap doneF (leaveH env) id id | f => doneF f) (H' := leaveH env) (gd := id) (lv := id) (B := [topFrame q]) rfl n s (piecesOf [st] env c p0 [topFrame q])
    ⟨(execs [st] env).wrap (fun f => match f with | .next => (execs rest env).wrap doneF (leaveH env) id id | f => doneF f) (leaveH env) id id, c, p0, [topFrame q]⟩ _ _ ⟨rfl, rfl, .inl ⟨rfl, rfl, _, rfl, rfl⟩⟩ hgo hr
  obtain ⟨cur, code, pos, stk⟩ := t1'
  obtain ⟨e1, e2, R1⟩ := R1
  dsimp only at e1 e2 R1
  subst e1 e2
  rcases R1 with ⟨h1, _⟩ | ⟨h1, F⟩
  · cases h1
  subst h1
  have hk : ∃ y : Result → Sem Flow, kk = (fun r => (y r).wrap (fun a => .pure (.done (id a))) deadEnd id id) ∧ stk = [.ret (fun r => (y r).wrap (fun f => match f with | .next => (execs rest env).wrap doneF (leaveH env) id id | f => doneF f) (leaveH env) id id) none false live c2 p2 kept, topFrame q] := by
    cases F with
    | ret y => exact ⟨y, rfl, rfl⟩
    | cons f F => exact absurd F.longer.1 (by simp)
  obtain ⟨y, rfl, rfl⟩ := hk
  obtain ⟨s2, s3, p3, hR, hs2, C2, epi⟩ := body _
  have R3 : Rel2 (fun a => .pure (.done (id a))) (fun f => match f with | .next => (execs rest env).wrap doneF (leaveH env) id id | f => doneF f) deadEnd (leaveH env) id id [topFrame q]
    ⟨(y (.ok .next)).wrap (fun a => .pure (.done (id a))) deadEnd id id, c2, p2, [topFrame q]⟩ ⟨(y (.ok .next)).wrap (fun f => match f with | .next => (execs rest env).wrap doneF (leaveH env) id id | f => doneF f) (leaveH env) id id, c2, p2, [topFrame q]⟩ := ⟨rfl, rfl, .inl ⟨rfl, rfl, _, rfl, rfl⟩⟩
  obtain ⟨a, ha, C3, z3⟩ := seg_cm (res := id) (B := [topFrame q]) rfl N s2 _ _ _ s3 c' p' R3 epi hs2
  obtain rfl : a = .next := ha
  refine ⟨s3, hR, ?_, z3⟩
  have e : restOf (st :: rest) env c p0 [topFrame q] = ⟨(execs [st] env).wrap (fun f => match f with | .next => (execs rest env).wrap doneF (leaveH env) id id | f => doneF f) (leaveH env) id id, c, p0, [topFrame q]⟩ := by
    unfold restOf
    rw [show st :: rest = [st] ++ rest from rfl, execs_app_wrap]
    rfl
  rw [e]
  exact C1.trans (C2.trans (.step hs2 rfl rfl C3))
end
theorem starEach_plain {e : PySem.Expr} {rest : List PySem.Expr} {env : Env} (h : kdsPlain e = true) : starEach (e :: rest) env = (false, eval e env) :: starEach rest env := by
  cases e <;> first | rfl | exact absurd h (by simp [kdsPlain])
theorem drop_cons {α : Type} (d : α) : ∀ (l : List α) (i : Nat), i < l.length → l.drop i = (l.drop i).headD d :: l.drop (i + 1)
  | [], i, h => by cases h
  | a :: l, 0, _ => rfl
  | a :: l, i + 1, h => by
    simp only [List.drop_succ_cons]
    exact drop_cons d l i (Nat.lt_of_succ_lt_succ h)
theorem spl_all {p : Program} {w : World} {n₀ : Nat} {ann : Option Value} {B : List Frame} {env : Env} {elts : List PySem.Expr} {ps : Pos} {c : Code} (d : PySem.Expr) (S : Nat → SharedT) (v : Nat → Value) (L N : Nat)
    (hB : splitAtGen B = none) (hL : elts.length = L) (hp : elts.all kdsPlain = true) (hr : ∀ i, (S i).abs.asleep)
    (seg : ∀ i, i < L → ∀ (pre : List Value) (q : Pos), ∃ q', segRunT treeTable p w n₀ ann B.length N (S i) ⟨(eval ((elts.drop i).headD d) env).wrap (fun a => .pure (.done (.ret a))) deadEnd id (pre ++ ·), c, q, B⟩ = some (.ret (v i), S (i + 1), c, q')) :
    ∀ (j i : Nat), i + j = L → ∀ (K : List Value → Sem Fin) (H : Value → Sem Fin) (pre : List Value) (q : Pos), ∃ q2, Cm p w (S i).abs ⟨(spliced (backTo ps (starEach (elts.drop i) env))).wrap K H id (pre ++ ·), c, q, B⟩ (S L).abs ⟨K ((List.range' i j).map v), c, q2, B⟩
  | 0, i, e, K, H, pre, q => by
    obtain rfl : i = L := by lia
    rw [List.drop_eq_nil_of_le (by lia)]
    exact spl_nil
  | j + 1, i, e, K, H, pre, q => by
    have hi : i < elts.length := by lia
    rw [drop_cons d elts i hi]
    have hpl : kdsPlain ((elts.drop i).headD d) = true := by
      have hm : (elts.drop i).headD d ∈ elts := by
        have := drop_cons d elts i hi
        exact List.mem_of_mem_drop (by rw [this]; exact .head _)
      exact List.all_eq_true.mp hp _ hm
    refine spl_cons (s₁ := (S (i + 1)).abs) (v := v i) (vs := (List.range' (i + 1) j).map v) (T := ⟨.pure (.done .next), c, q, B⟩) (starEach_plain hpl) (fun K1 => ?_) fun K2 pre2 q1 => spl_all d S v L N hB hL hp hr seg j (i + 1) (by lia) K2 H pre2 q1
    obtain ⟨q', h⟩ := seg i (by lia) pre q
    exact ⟨q', (val_cm (K' := K1) (H' := H) hB (runT h) (hr i)).1⟩
end
section
open PySem PySem.W PyProof.Rows
set_option maxHeartbeats 0
noncomputable def pwG : (String → Str) → Program := by
  apply (fun (xx : (String → Str) → Program) (_ : True) => xx)
  rotate_left
  · have f : ∀ G : (String → Str) → Program, (∀ fs, Str.ofString = fs → PySem.Challenge.pw_iu0022_01 = G fs) → True := fun _ _ => trivial
    specialize f ?xx (by
      intro fs h
      delta PySem.Challenge.pw_iu0022_01
      rw [h])
    clear f; trivial
theorem pwG_is : PySem.Challenge.pw_iu0022_01 = pwG Str.ofString := rfl
end
section
open PySem PySem.W PyProof.Rows
set_option maxHeartbeats 0
open PySem.W.S in
/-- the code points of UTF-8 bytes below 224 (one and two bytes a letter); c: the first byte of a pair -/
noncomputable def dec2 (l : List UInt8) : Nat → List Nat := List.rec (motive := fun _ => Nat → List Nat) (fun _ => []) (fun b _ ih c => @Bool.rec (fun _ => List Nat) (((c - 192) * 64 + (b.toNat - 128)) :: ih 0) (@Bool.rec (fun _ => List Nat) (ih b.toNat) (b.toNat :: ih 0) (Nat.ble b.toNat 127)) (Nat.beq c 0)) l
noncomputable def low2 (l : List UInt8) : Bool := List.rec (motive := fun _ => Bool) true (fun b _ ih => @Bool.rec (fun _ => Bool) false ih (Nat.ble b.toNat 223)) l
theorem low2_cons (b : UInt8) (l : List UInt8) : low2 (b :: l) = (Nat.ble b.toNat 223 && low2 l) := by
  have e : low2 (b :: l) = @Bool.rec (fun _ => Bool) false (low2 l) (Nat.ble b.toNat 223) := rfl
  rw [e]
  cases Nat.ble b.toNat 223 <;> rfl
theorem low2_app : ∀ (a l : List UInt8), low2 (a ++ l) = (low2 a && low2 l)
  | [], l => by show low2 l = (true && low2 l); rw [Bool.true_and]
  | b :: a, l => by rw [List.cons_append, low2_cons, low2_cons, low2_app a l, Bool.and_assoc]
theorem dec2_one {b : UInt8} {l : List UInt8} (h : b.toNat ≤ 127) : dec2 (b :: l) 0 = b.toNat :: dec2 l 0 := by
  show @Bool.rec (fun _ => List Nat) _ _ (Nat.ble b.toNat 127) = _
  rw [Nat.ble_eq_true_of_le h]
  rfl
theorem dec2_two {a b : UInt8} {l : List UInt8} (h : 127 < a.toNat) : dec2 (a :: b :: l) 0 = ((a.toNat - 192) * 64 + (b.toNat - 128)) :: dec2 l 0 := by
  show @Bool.rec (fun _ => List Nat) _ _ (Nat.ble a.toNat 127) = _
  have : Nat.ble a.toNat 127 = false := by
    cases q : Nat.ble a.toNat 127 with
    | false => rfl
    | true => have := Nat.le_of_ble_eq_true q; lia
  rw [this]
  show @Bool.rec (fun _ => List Nat) _ _ (Nat.beq a.toNat 0) = _
  have : Nat.beq a.toNat 0 = false := by
    cases q : Nat.beq a.toNat 0 with
    | false => rfl
    | true => have := Nat.eq_of_beq_eq_true q; lia
  rw [this]
  rfl
theorem dec2_enc : ∀ l : List Char, low2 (PySem.W.S.encL l) = true → dec2 (PySem.W.S.encL l) 0 = l.map Char.toNat
  | [], _ => rfl
  | c :: l, h => by
    have e : PySem.W.S.encL (c :: l) = PySem.W.S.encC c (PySem.W.S.encL l) := rfl
    rw [e, PySem.W.S.encC_eq] at h ⊢
    rw [low2_app] at h
    have hh := Bool.and_eq_true _ _ ▸ h
    obtain ⟨h1, h2⟩ := hh
    have ih := dec2_enc l h2
    rw [List.map_cons]
    have hc : c.toNat = c.val.toNat := rfl
    unfold String.utf8EncodeChar at h1 ⊢
    by_cases q1 : c.val.toNat ≤ 0x7f
    · simp only [q1, if_true, List.cons_append, List.nil_append]
      have u := PySem.W.S.u8 (n := c.val.toNat) (by lia)
      rw [dec2_one (by rw [u]; exact q1), u, ih, hc]
    · by_cases q2 : c.val.toNat ≤ 0x7ff
      · simp only [q1, q2, if_true, if_false, List.cons_append, List.nil_append]
        have u1 := PySem.W.S.u8 (n := c.val.toNat / 64 % 0x20 + 0xc0) (by lia)
        have u2 := PySem.W.S.u8 (n := c.val.toNat % 0x40 + 0x80) (by lia)
        rw [dec2_two (by rw [u1]; exact Nat.lt_of_lt_of_le (by decide : 127 < 0xc0) (Nat.le_add_left _ _)), u1, u2, ih, hc]
        congr 1
        rw [Nat.add_sub_cancel, Nat.add_sub_cancel, Nat.mod_eq_of_lt (Nat.div_lt_of_lt_mul (Nat.lt_of_le_of_lt q2 (by decide))), Nat.mul_comm]
        exact Nat.div_add_mod _ _
      · exfalso
        simp only [q1, q2, if_false] at h1
        split at h1
        · rw [low2_cons, PySem.W.S.u8 (by lia)] at h1
          have z := (Bool.and_eq_true _ _ ▸ h1 : _ ∧ _).1
          have := Nat.le_of_ble_eq_true z
          lia
        · rw [low2_cons, PySem.W.S.u8 (by lia)] at h1
          have z := (Bool.and_eq_true _ _ ▸ h1 : _ ∧ _).1
          have := Nat.le_of_ble_eq_true z
          lia
noncomputable def fastStr (s : String) : Str := @Bool.rec (fun _ => Str) (Str.ofString s) ⟨⟨dec2 (PySem.W.S.bytesOf s) 0⟩⟩ (low2 (PySem.W.S.bytesOf s))
theorem fastStr_eq : Str.ofString = fastStr := by
  funext s
  have e : fastStr s = @Bool.rec (fun _ => Str) (Str.ofString s) ⟨⟨dec2 (PySem.W.S.bytesOf s) 0⟩⟩ (low2 (PySem.W.S.bytesOf s)) := rfl
  rw [e]
  cases q : low2 (PySem.W.S.bytesOf s) with
  | false => rfl
  | true =>
    rw [PySem.W.S.bytes_list] at q
    show Str.ofString s = ⟨⟨dec2 (PySem.W.S.bytesOf s) 0⟩⟩
    rw [PySem.W.S.bytes_list, dec2_enc _ q, Str.ofString_eq_byList]
    rfl
theorem pw_fast0 : PySem.Challenge.pw_iu0022_01 = pwG fastStr := Eq.rec (motive := fun f _ => PySem.Challenge.pw_iu0022_01 = pwG f) pwG_is fastStr_eq
end
section
open PySem PySem.W PyProof.Rows
set_option maxHeartbeats 0
abbrev pw : Program := PySem.Challenge.pw_iu0022_01
theorem pw_fast : pw = pwG fastStr := pw_fast0
noncomputable def dumS : List String := ["set", "object.__init_subclass__", "type.__prepare__", "CzechStemmer."]
theorem dumS_self : dumS = dumS := rfl
name_quick dumSQ for dumS by dumS_self
noncomputable def en (P : Params) (x : Str) (t : Tok) (v : Value) : DictEntry := ⟨PyData.keyHash P x, .str x t, v⟩
noncomputable def stN (pz : Program) (i : Nat) : Stmt := (pz.main.body.drop i).headD (.Pass default)
noncomputable def clsB (pz : Program) : List Stmt := match (stN pz) 6 with | .ClassDef _ _ _ b _ _ _ _ _ _ _ => b | _ => []
noncomputable def clsN (pz : Program) (i : Nat) : Stmt := ((clsB pz).drop i).headD (.Pass default)
noncomputable def clsSc (pz : Program) : Scope := match (stN pz) 6 with | .ClassDef _ _ _ _ _ _ sc _ _ _ _ => sc | _ => default
noncomputable def cenv (pz : Program) : Env := { scope := (clsSc pz), locals := 227, globals := 3, cells := [], qual := PySem.W.SL.s14897562933256489448x13, func := none, code := .ref 230, frame := some 231, builtins := 0 }
noncomputable def fnD (s : Stmt) (qual : Str) (glob : Addr) (md cd : Value) (bi : Addr) : Data := match s with
  | .FunctionDef name args body _ _ _ sc _ _ _ => .func { name := name, qualname := qual, params := args, body := .stmts body, scope := sc, globals := glob, closure := [], defaults := .none, kwdefaults := .none, doc := .none, pyModule := md, annotations := none, code := cd, closureTuple := .none, builtins := bi }
  | _ => .plain
noncomputable def env1 (pz : Program) : Env := { scope := pz.main.scope, locals := mainNs, globals := mainNs, cells := [], code := .ref 13, frame := some 14 }
noncomputable def clsOf (s : Stmt) : List Stmt := match s with | .ClassDef _ _ _ b _ _ _ _ _ _ _ => b | _ => []
noncomputable def bsN (pz : Program) (i : Nat) : Stmt := ((clsOf ((stN pz) 2)).drop i).headD (.Pass default)
noncomputable def amN (pz : Program) (i : Nat) : Stmt := ((clsOf ((stN pz) 4)).drop i).headD (.Pass default)
noncomputable abbrev ann6 : Option Value := some (.ref 6)
noncomputable abbrev zp : Pos := ⟨0, 0, 0, 0⟩
abbrev cpos : Pos := ⟨177, 0, 385, 1225⟩
noncomputable def clsFr (pz : Program) (k : Result → Sem Fin) (b : List Stmt) : Frame := .ret k none false [.ref 199, .ref 225, .ref 225, .ref 227, .ref 231] (.body b (env1 pz)) cpos []
noncomputable def ccode (pz : Program) : Code := .body (clsB pz) (cenv pz)
noncomputable def nm0 : Str := ⟨⟨[nat_lit 115]⟩⟩
noncomputable def nm1 : Str := ⟨⟨[nat_lit 115, nat_lit 117, nat_lit 98, nat_lit 115, nat_lit 116, nat_lit 114, nat_lit 105, nat_lit 110, nat_lit 103, nat_lit 95, nat_lit 105]⟩⟩
noncomputable def nm2 : Str := ⟨⟨[nat_lit 114, nat_lit 101, nat_lit 115, nat_lit 117, nat_lit 108, nat_lit 116]⟩⟩
noncomputable def nm3 : Str := ⟨⟨[nat_lit 115, nat_lit 101, nat_lit 108, nat_lit 102]⟩⟩
noncomputable def nm4 : Str := ⟨⟨[nat_lit 99]⟩⟩
noncomputable def nm24 : Str := ⟨⟨[nat_lit 269]⟩⟩
noncomputable def nm32 : Str := ⟨⟨[nat_lit 104]⟩⟩
noncomputable def nm35 : Str := ⟨⟨[nat_lit 97]⟩⟩
noncomputable def nm40 : Str := ⟨⟨[nat_lit 101]⟩⟩
noncomputable def nm48 : Str := ⟨⟨[nat_lit 105]⟩⟩
noncomputable def nm71 : Str := ⟨⟨[nat_lit 111]⟩⟩
noncomputable def nm76 : Str := ⟨⟨[nat_lit 101, nat_lit 116]⟩⟩
noncomputable def nm77 : Str := ⟨⟨[nat_lit 117]⟩⟩
noncomputable def nm82 : Str := ⟨⟨[nat_lit 121]⟩⟩
noncomputable def nm84 : Str := ⟨⟨[nat_lit 225]⟩⟩
noncomputable def nm85 : Str := ⟨⟨[nat_lit 233]⟩⟩
noncomputable def nm87 : Str := ⟨⟨[nat_lit 237]⟩⟩
noncomputable def nm88 : Str := ⟨⟨[nat_lit 253]⟩⟩
noncomputable def nm89 : Str := ⟨⟨[nat_lit 283]⟩⟩
noncomputable def nm92 : Str := ⟨⟨[nat_lit 367]⟩⟩
noncomputable def nm94 : Str := ⟨⟨[nat_lit 47, nat_lit 99, nat_lit 108, nat_lit 97, nat_lit 105, nat_lit 109, nat_lit 47, nat_lit 99, nat_lit 117, nat_lit 116, nat_lit 46, nat_lit 112, nat_lit 121]⟩⟩
noncomputable def nm96 : Str := ⟨⟨[nat_lit 95, nat_lit 95, nat_lit 110, nat_lit 97, nat_lit 109, nat_lit 101, nat_lit 95, nat_lit 95]⟩⟩
noncomputable def nm97 : Str := ⟨⟨[nat_lit 115, nat_lit 110, nat_lit 111, nat_lit 119, nat_lit 98, nat_lit 97, nat_lit 108, nat_lit 108, nat_lit 115, nat_lit 116, nat_lit 101, nat_lit 109, nat_lit 109, nat_lit 101, nat_lit 114, nat_lit 46, nat_lit 98, nat_lit 97, nat_lit 115, nat_lit 101, nat_lit 115, nat_lit 116, nat_lit 101, nat_lit 109, nat_lit 109, nat_lit 101, nat_lit 114]⟩⟩
noncomputable def nm98 : Str := ⟨⟨[nat_lit 95, nat_lit 95, nat_lit 100, nat_lit 111, nat_lit 99, nat_lit 95, nat_lit 95]⟩⟩
noncomputable def nm99 : Str := ⟨⟨[nat_lit 95, nat_lit 95, nat_lit 112, nat_lit 97, nat_lit 99, nat_lit 107, nat_lit 97, nat_lit 103, nat_lit 101, nat_lit 95, nat_lit 95]⟩⟩
noncomputable def nm100 : Str := ⟨⟨[nat_lit 95, nat_lit 95, nat_lit 108, nat_lit 111, nat_lit 97, nat_lit 100, nat_lit 101, nat_lit 114, nat_lit 95, nat_lit 95]⟩⟩
noncomputable def nm101 : Str := ⟨⟨[nat_lit 95, nat_lit 95, nat_lit 115, nat_lit 112, nat_lit 101, nat_lit 99, nat_lit 95, nat_lit 95]⟩⟩
noncomputable def nm102 : Str := ⟨⟨[nat_lit 95, nat_lit 95, nat_lit 97, nat_lit 110, nat_lit 110, nat_lit 111, nat_lit 116, nat_lit 97, nat_lit 116, nat_lit 105, nat_lit 111, nat_lit 110, nat_lit 115, nat_lit 95, nat_lit 95]⟩⟩
noncomputable def nm103 : Str := ⟨⟨[nat_lit 95, nat_lit 95, nat_lit 98, nat_lit 117, nat_lit 105, nat_lit 108, nat_lit 116, nat_lit 105, nat_lit 110, nat_lit 115, nat_lit 95, nat_lit 95]⟩⟩
noncomputable def nm104 : Str := ⟨⟨[nat_lit 95, nat_lit 95, nat_lit 102, nat_lit 105, nat_lit 108, nat_lit 101, nat_lit 95, nat_lit 95]⟩⟩
noncomputable def nm105 : Str := ⟨⟨[nat_lit 95, nat_lit 95, nat_lit 99, nat_lit 97, nat_lit 99, nat_lit 104, nat_lit 101, nat_lit 100, nat_lit 95, nat_lit 95]⟩⟩
noncomputable def nm106 : Str := ⟨⟨[nat_lit 95, nat_lit 119, nat_lit 97, nat_lit 108, nat_lit 108]⟩⟩
noncomputable def nm107 : Str := ⟨⟨[nat_lit 107]⟩⟩
noncomputable def nm108 : Str := ⟨⟨[nat_lit 66, nat_lit 97, nat_lit 115, nat_lit 101, nat_lit 83, nat_lit 116, nat_lit 101, nat_lit 109, nat_lit 109, nat_lit 101, nat_lit 114]⟩⟩
noncomputable def nm109 : Str := ⟨⟨[nat_lit 95, nat_lit 95, nat_lit 109, nat_lit 111, nat_lit 100, nat_lit 117, nat_lit 108, nat_lit 101, nat_lit 95, nat_lit 95]⟩⟩
noncomputable def nm110 : Str := ⟨⟨[nat_lit 95, nat_lit 95, nat_lit 113, nat_lit 117, nat_lit 97, nat_lit 108, nat_lit 110, nat_lit 97, nat_lit 109, nat_lit 101, nat_lit 95, nat_lit 95]⟩⟩
noncomputable def nm111 : Str := ⟨⟨[nat_lit 95, nat_lit 95, nat_lit 102, nat_lit 105, nat_lit 114, nat_lit 115, nat_lit 116, nat_lit 108, nat_lit 105, nat_lit 110, nat_lit 101, nat_lit 110, nat_lit 111, nat_lit 95, nat_lit 95]⟩⟩
noncomputable def nm112 : Str := ⟨⟨[nat_lit 95, nat_lit 95, nat_lit 105, nat_lit 110, nat_lit 105, nat_lit 116, nat_lit 95, nat_lit 95]⟩⟩
noncomputable def nm113 : Str := ⟨⟨[nat_lit 115, nat_lit 101, nat_lit 116, nat_lit 95, nat_lit 99, nat_lit 117, nat_lit 114, nat_lit 114, nat_lit 101, nat_lit 110, nat_lit 116]⟩⟩
noncomputable def nm114 : Str := ⟨⟨[nat_lit 103, nat_lit 101, nat_lit 116, nat_lit 95, nat_lit 99, nat_lit 117, nat_lit 114, nat_lit 114, nat_lit 101, nat_lit 110, nat_lit 116]⟩⟩
noncomputable def nm115 : Str := ⟨⟨[nat_lit 99, nat_lit 111, nat_lit 112, nat_lit 121, nat_lit 95, nat_lit 102, nat_lit 114, nat_lit 111, nat_lit 109]⟩⟩
noncomputable def nm116 : Str := ⟨⟨[nat_lit 105, nat_lit 110, nat_lit 95, nat_lit 103, nat_lit 114, nat_lit 111, nat_lit 117, nat_lit 112, nat_lit 105, nat_lit 110, nat_lit 103]⟩⟩
noncomputable def nm117 : Str := ⟨⟨[nat_lit 103, nat_lit 111, nat_lit 95, nat_lit 105, nat_lit 110, nat_lit 95, nat_lit 103, nat_lit 114, nat_lit 111, nat_lit 117, nat_lit 112, nat_lit 105, nat_lit 110, nat_lit 103]⟩⟩
noncomputable def nm118 : Str := ⟨⟨[nat_lit 105, nat_lit 110, nat_lit 95, nat_lit 103, nat_lit 114, nat_lit 111, nat_lit 117, nat_lit 112, nat_lit 105, nat_lit 110, nat_lit 103, nat_lit 95, nat_lit 98]⟩⟩
noncomputable def nm119 : Str := ⟨⟨[nat_lit 103, nat_lit 111, nat_lit 95, nat_lit 105, nat_lit 110, nat_lit 95, nat_lit 103, nat_lit 114, nat_lit 111, nat_lit 117, nat_lit 112, nat_lit 105, nat_lit 110, nat_lit 103, nat_lit 95, nat_lit 98]⟩⟩
noncomputable def nm120 : Str := ⟨⟨[nat_lit 111, nat_lit 117, nat_lit 116, nat_lit 95, nat_lit 103, nat_lit 114, nat_lit 111, nat_lit 117, nat_lit 112, nat_lit 105, nat_lit 110, nat_lit 103]⟩⟩
noncomputable def nm121 : Str := ⟨⟨[nat_lit 103, nat_lit 111, nat_lit 95, nat_lit 111, nat_lit 117, nat_lit 116, nat_lit 95, nat_lit 103, nat_lit 114, nat_lit 111, nat_lit 117, nat_lit 112, nat_lit 105, nat_lit 110, nat_lit 103]⟩⟩
noncomputable def nm122 : Str := ⟨⟨[nat_lit 111, nat_lit 117, nat_lit 116, nat_lit 95, nat_lit 103, nat_lit 114, nat_lit 111, nat_lit 117, nat_lit 112, nat_lit 105, nat_lit 110, nat_lit 103, nat_lit 95, nat_lit 98]⟩⟩
noncomputable def nm123 : Str := ⟨⟨[nat_lit 103, nat_lit 111, nat_lit 95, nat_lit 111, nat_lit 117, nat_lit 116, nat_lit 95, nat_lit 103, nat_lit 114, nat_lit 111, nat_lit 117, nat_lit 112, nat_lit 105, nat_lit 110, nat_lit 103, nat_lit 95, nat_lit 98]⟩⟩
noncomputable def nm124 : Str := ⟨⟨[nat_lit 101, nat_lit 113, nat_lit 95, nat_lit 115]⟩⟩
noncomputable def nm125 : Str := ⟨⟨[nat_lit 101, nat_lit 113, nat_lit 95, nat_lit 115, nat_lit 95, nat_lit 98]⟩⟩
noncomputable def nm126 : Str := ⟨⟨[nat_lit 102, nat_lit 105, nat_lit 110, nat_lit 100, nat_lit 95, nat_lit 97, nat_lit 109, nat_lit 111, nat_lit 110, nat_lit 103]⟩⟩
noncomputable def nm127 : Str := ⟨⟨[nat_lit 102, nat_lit 105, nat_lit 110, nat_lit 100, nat_lit 95, nat_lit 97, nat_lit 109, nat_lit 111, nat_lit 110, nat_lit 103, nat_lit 95, nat_lit 98]⟩⟩
noncomputable def nm128 : Str := ⟨⟨[nat_lit 114, nat_lit 101, nat_lit 112, nat_lit 108, nat_lit 97, nat_lit 99, nat_lit 101, nat_lit 95, nat_lit 115]⟩⟩
noncomputable def nm129 : Str := ⟨⟨[nat_lit 115, nat_lit 108, nat_lit 105, nat_lit 99, nat_lit 101, nat_lit 95, nat_lit 102, nat_lit 114, nat_lit 111, nat_lit 109]⟩⟩
noncomputable def nm130 : Str := ⟨⟨[nat_lit 115, nat_lit 108, nat_lit 105, nat_lit 99, nat_lit 101, nat_lit 95, nat_lit 100, nat_lit 101, nat_lit 108]⟩⟩
noncomputable def nm131 : Str := ⟨⟨[nat_lit 105, nat_lit 110, nat_lit 115, nat_lit 101, nat_lit 114, nat_lit 116]⟩⟩
noncomputable def nm132 : Str := ⟨⟨[nat_lit 115, nat_lit 108, nat_lit 105, nat_lit 99, nat_lit 101, nat_lit 95, nat_lit 116, nat_lit 111]⟩⟩
noncomputable def nm133 : Str := ⟨⟨[nat_lit 97, nat_lit 115, nat_lit 115, nat_lit 105, nat_lit 103, nat_lit 110, nat_lit 95, nat_lit 116, nat_lit 111]⟩⟩
noncomputable def nm134 : Str := ⟨⟨[nat_lit 115, nat_lit 116, nat_lit 101, nat_lit 109, nat_lit 87, nat_lit 111, nat_lit 114, nat_lit 100]⟩⟩
noncomputable def nm135 : Str := ⟨⟨[nat_lit 115, nat_lit 116, nat_lit 101, nat_lit 109, nat_lit 87, nat_lit 111, nat_lit 114, nat_lit 100, nat_lit 115]⟩⟩
noncomputable def nm136 : Str := ⟨⟨[nat_lit 95, nat_lit 95, nat_lit 115, nat_lit 116, nat_lit 97, nat_lit 116, nat_lit 105, nat_lit 99, nat_lit 95, nat_lit 97, nat_lit 116, nat_lit 116, nat_lit 114, nat_lit 105, nat_lit 98, nat_lit 117, nat_lit 116, nat_lit 101, nat_lit 115, nat_lit 95, nat_lit 95]⟩⟩
noncomputable def nm137 : Str := ⟨⟨[nat_lit 66, nat_lit 97, nat_lit 115, nat_lit 101, nat_lit 83, nat_lit 116, nat_lit 101, nat_lit 109, nat_lit 109, nat_lit 101, nat_lit 114, nat_lit 46, nat_lit 95, nat_lit 95, nat_lit 105, nat_lit 110, nat_lit 105, nat_lit 116, nat_lit 95, nat_lit 95]⟩⟩
noncomputable def nm139 : Str := ⟨⟨[nat_lit 66, nat_lit 97, nat_lit 115, nat_lit 101, nat_lit 83, nat_lit 116, nat_lit 101, nat_lit 109, nat_lit 109, nat_lit 101, nat_lit 114, nat_lit 46, nat_lit 115, nat_lit 101, nat_lit 116, nat_lit 95, nat_lit 99, nat_lit 117, nat_lit 114, nat_lit 114, nat_lit 101, nat_lit 110, nat_lit 116]⟩⟩
noncomputable def nm140 : Str := ⟨⟨[nat_lit 66, nat_lit 97, nat_lit 115, nat_lit 101, nat_lit 83, nat_lit 116, nat_lit 101, nat_lit 109, nat_lit 109, nat_lit 101, nat_lit 114, nat_lit 46, nat_lit 103, nat_lit 101, nat_lit 116, nat_lit 95, nat_lit 99, nat_lit 117, nat_lit 114, nat_lit 114, nat_lit 101, nat_lit 110, nat_lit 116]⟩⟩
noncomputable def nm142 : Str := ⟨⟨[nat_lit 66, nat_lit 97, nat_lit 115, nat_lit 101, nat_lit 83, nat_lit 116, nat_lit 101, nat_lit 109, nat_lit 109, nat_lit 101, nat_lit 114, nat_lit 46, nat_lit 99, nat_lit 111, nat_lit 112, nat_lit 121, nat_lit 95, nat_lit 102, nat_lit 114, nat_lit 111, nat_lit 109]⟩⟩
noncomputable def nm143 : Str := ⟨⟨[nat_lit 66, nat_lit 97, nat_lit 115, nat_lit 101, nat_lit 83, nat_lit 116, nat_lit 101, nat_lit 109, nat_lit 109, nat_lit 101, nat_lit 114, nat_lit 46, nat_lit 105, nat_lit 110, nat_lit 95, nat_lit 103, nat_lit 114, nat_lit 111, nat_lit 117, nat_lit 112, nat_lit 105, nat_lit 110, nat_lit 103]⟩⟩
noncomputable def nm144 : Str := ⟨⟨[nat_lit 66, nat_lit 97, nat_lit 115, nat_lit 101, nat_lit 83, nat_lit 116, nat_lit 101, nat_lit 109, nat_lit 109, nat_lit 101, nat_lit 114, nat_lit 46, nat_lit 103, nat_lit 111, nat_lit 95, nat_lit 105, nat_lit 110, nat_lit 95, nat_lit 103, nat_lit 114, nat_lit 111, nat_lit 117, nat_lit 112, nat_lit 105, nat_lit 110, nat_lit 103]⟩⟩
noncomputable def nm145 : Str := ⟨⟨[nat_lit 66, nat_lit 97, nat_lit 115, nat_lit 101, nat_lit 83, nat_lit 116, nat_lit 101, nat_lit 109, nat_lit 109, nat_lit 101, nat_lit 114, nat_lit 46, nat_lit 105, nat_lit 110, nat_lit 95, nat_lit 103, nat_lit 114, nat_lit 111, nat_lit 117, nat_lit 112, nat_lit 105, nat_lit 110, nat_lit 103, nat_lit 95, nat_lit 98]⟩⟩
noncomputable def nm146 : Str := ⟨⟨[nat_lit 66, nat_lit 97, nat_lit 115, nat_lit 101, nat_lit 83, nat_lit 116, nat_lit 101, nat_lit 109, nat_lit 109, nat_lit 101, nat_lit 114, nat_lit 46, nat_lit 103, nat_lit 111, nat_lit 95, nat_lit 105, nat_lit 110, nat_lit 95, nat_lit 103, nat_lit 114, nat_lit 111, nat_lit 117, nat_lit 112, nat_lit 105, nat_lit 110, nat_lit 103, nat_lit 95, nat_lit 98]⟩⟩
noncomputable def nm147 : Str := ⟨⟨[nat_lit 66, nat_lit 97, nat_lit 115, nat_lit 101, nat_lit 83, nat_lit 116, nat_lit 101, nat_lit 109, nat_lit 109, nat_lit 101, nat_lit 114, nat_lit 46, nat_lit 111, nat_lit 117, nat_lit 116, nat_lit 95, nat_lit 103, nat_lit 114, nat_lit 111, nat_lit 117, nat_lit 112, nat_lit 105, nat_lit 110, nat_lit 103]⟩⟩
noncomputable def nm148 : Str := ⟨⟨[nat_lit 66, nat_lit 97, nat_lit 115, nat_lit 101, nat_lit 83, nat_lit 116, nat_lit 101, nat_lit 109, nat_lit 109, nat_lit 101, nat_lit 114, nat_lit 46, nat_lit 103, nat_lit 111, nat_lit 95, nat_lit 111, nat_lit 117, nat_lit 116, nat_lit 95, nat_lit 103, nat_lit 114, nat_lit 111, nat_lit 117, nat_lit 112, nat_lit 105, nat_lit 110, nat_lit 103]⟩⟩
noncomputable def nm149 : Str := ⟨⟨[nat_lit 66, nat_lit 97, nat_lit 115, nat_lit 101, nat_lit 83, nat_lit 116, nat_lit 101, nat_lit 109, nat_lit 109, nat_lit 101, nat_lit 114, nat_lit 46, nat_lit 111, nat_lit 117, nat_lit 116, nat_lit 95, nat_lit 103, nat_lit 114, nat_lit 111, nat_lit 117, nat_lit 112, nat_lit 105, nat_lit 110, nat_lit 103, nat_lit 95, nat_lit 98]⟩⟩
noncomputable def nm150 : Str := ⟨⟨[nat_lit 66, nat_lit 97, nat_lit 115, nat_lit 101, nat_lit 83, nat_lit 116, nat_lit 101, nat_lit 109, nat_lit 109, nat_lit 101, nat_lit 114, nat_lit 46, nat_lit 103, nat_lit 111, nat_lit 95, nat_lit 111, nat_lit 117, nat_lit 116, nat_lit 95, nat_lit 103, nat_lit 114, nat_lit 111, nat_lit 117, nat_lit 112, nat_lit 105, nat_lit 110, nat_lit 103, nat_lit 95, nat_lit 98]⟩⟩
noncomputable def nm151 : Str := ⟨⟨[nat_lit 66, nat_lit 97, nat_lit 115, nat_lit 101, nat_lit 83, nat_lit 116, nat_lit 101, nat_lit 109, nat_lit 109, nat_lit 101, nat_lit 114, nat_lit 46, nat_lit 101, nat_lit 113, nat_lit 95, nat_lit 115]⟩⟩
noncomputable def nm152 : Str := ⟨⟨[nat_lit 66, nat_lit 97, nat_lit 115, nat_lit 101, nat_lit 83, nat_lit 116, nat_lit 101, nat_lit 109, nat_lit 109, nat_lit 101, nat_lit 114, nat_lit 46, nat_lit 101, nat_lit 113, nat_lit 95, nat_lit 115, nat_lit 95, nat_lit 98]⟩⟩
noncomputable def nm153 : Str := ⟨⟨[nat_lit 118]⟩⟩
noncomputable def nm154 : Str := ⟨⟨[nat_lit 66, nat_lit 97, nat_lit 115, nat_lit 101, nat_lit 83, nat_lit 116, nat_lit 101, nat_lit 109, nat_lit 109, nat_lit 101, nat_lit 114, nat_lit 46, nat_lit 102, nat_lit 105, nat_lit 110, nat_lit 100, nat_lit 95, nat_lit 97, nat_lit 109, nat_lit 111, nat_lit 110, nat_lit 103]⟩⟩
noncomputable def nm164 : Str := ⟨⟨[nat_lit 66, nat_lit 97, nat_lit 115, nat_lit 101, nat_lit 83, nat_lit 116, nat_lit 101, nat_lit 109, nat_lit 109, nat_lit 101, nat_lit 114, nat_lit 46, nat_lit 102, nat_lit 105, nat_lit 110, nat_lit 100, nat_lit 95, nat_lit 97, nat_lit 109, nat_lit 111, nat_lit 110, nat_lit 103, nat_lit 95, nat_lit 98]⟩⟩
noncomputable def nm168 : Str := ⟨⟨[nat_lit 66, nat_lit 97, nat_lit 115, nat_lit 101, nat_lit 83, nat_lit 116, nat_lit 101, nat_lit 109, nat_lit 109, nat_lit 101, nat_lit 114, nat_lit 46, nat_lit 114, nat_lit 101, nat_lit 112, nat_lit 108, nat_lit 97, nat_lit 99, nat_lit 101, nat_lit 95, nat_lit 115]⟩⟩
noncomputable def nm169 : Str := ⟨⟨[nat_lit 66, nat_lit 97, nat_lit 115, nat_lit 101, nat_lit 83, nat_lit 116, nat_lit 101, nat_lit 109, nat_lit 109, nat_lit 101, nat_lit 114, nat_lit 46, nat_lit 115, nat_lit 108, nat_lit 105, nat_lit 99, nat_lit 101, nat_lit 95, nat_lit 102, nat_lit 114, nat_lit 111, nat_lit 109]⟩⟩
noncomputable def nm170 : Str := ⟨⟨[nat_lit 66, nat_lit 97, nat_lit 115, nat_lit 101, nat_lit 83, nat_lit 116, nat_lit 101, nat_lit 109, nat_lit 109, nat_lit 101, nat_lit 114, nat_lit 46, nat_lit 115, nat_lit 108, nat_lit 105, nat_lit 99, nat_lit 101, nat_lit 95, nat_lit 100, nat_lit 101, nat_lit 108]⟩⟩
noncomputable def nm171 : Str := ⟨⟨[nat_lit 66, nat_lit 97, nat_lit 115, nat_lit 101, nat_lit 83, nat_lit 116, nat_lit 101, nat_lit 109, nat_lit 109, nat_lit 101, nat_lit 114, nat_lit 46, nat_lit 105, nat_lit 110, nat_lit 115, nat_lit 101, nat_lit 114, nat_lit 116]⟩⟩
noncomputable def nm172 : Str := ⟨⟨[nat_lit 66, nat_lit 97, nat_lit 115, nat_lit 101, nat_lit 83, nat_lit 116, nat_lit 101, nat_lit 109, nat_lit 109, nat_lit 101, nat_lit 114, nat_lit 46, nat_lit 115, nat_lit 108, nat_lit 105, nat_lit 99, nat_lit 101, nat_lit 95, nat_lit 116, nat_lit 111]⟩⟩
noncomputable def nm173 : Str := ⟨⟨[nat_lit 66, nat_lit 97, nat_lit 115, nat_lit 101, nat_lit 83, nat_lit 116, nat_lit 101, nat_lit 109, nat_lit 109, nat_lit 101, nat_lit 114, nat_lit 46, nat_lit 97, nat_lit 115, nat_lit 115, nat_lit 105, nat_lit 103, nat_lit 110, nat_lit 95, nat_lit 116, nat_lit 111]⟩⟩
noncomputable def nm174 : Str := ⟨⟨[nat_lit 119, nat_lit 111, nat_lit 114, nat_lit 100]⟩⟩
noncomputable def nm175 : Str := ⟨⟨[nat_lit 66, nat_lit 97, nat_lit 115, nat_lit 101, nat_lit 83, nat_lit 116, nat_lit 101, nat_lit 109, nat_lit 109, nat_lit 101, nat_lit 114, nat_lit 46, nat_lit 115, nat_lit 116, nat_lit 101, nat_lit 109, nat_lit 87, nat_lit 111, nat_lit 114, nat_lit 100]⟩⟩
noncomputable def nm177 : Str := ⟨⟨[nat_lit 66, nat_lit 97, nat_lit 115, nat_lit 101, nat_lit 83, nat_lit 116, nat_lit 101, nat_lit 109, nat_lit 109, nat_lit 101, nat_lit 114, nat_lit 46, nat_lit 115, nat_lit 116, nat_lit 101, nat_lit 109, nat_lit 87, nat_lit 111, nat_lit 114, nat_lit 100, nat_lit 115]⟩⟩
noncomputable def nm184 : Str := ⟨⟨[nat_lit 95, nat_lit 95, nat_lit 100, nat_lit 105, nat_lit 99, nat_lit 116, nat_lit 95, nat_lit 95]⟩⟩
noncomputable def nm185 : Str := ⟨⟨[nat_lit 95, nat_lit 95, nat_lit 119, nat_lit 101, nat_lit 97, nat_lit 107, nat_lit 114, nat_lit 101, nat_lit 102, nat_lit 95, nat_lit 95]⟩⟩
noncomputable def nm186 : Str := ⟨⟨[nat_lit 115, nat_lit 110, nat_lit 111, nat_lit 119, nat_lit 98, nat_lit 97, nat_lit 108, nat_lit 108, nat_lit 115, nat_lit 116, nat_lit 101, nat_lit 109, nat_lit 109, nat_lit 101, nat_lit 114, nat_lit 46, nat_lit 99, nat_lit 122, nat_lit 101, nat_lit 99, nat_lit 104, nat_lit 95, nat_lit 115, nat_lit 116, nat_lit 101, nat_lit 109, nat_lit 109, nat_lit 101, nat_lit 114]⟩⟩
noncomputable def nm187 : Str := ⟨⟨[nat_lit 65, nat_lit 109, nat_lit 111, nat_lit 110, nat_lit 103]⟩⟩
noncomputable def nm188 : Str := ⟨⟨[nat_lit 115, nat_lit 110, nat_lit 111, nat_lit 119, nat_lit 98, nat_lit 97, nat_lit 108, nat_lit 108, nat_lit 115, nat_lit 116, nat_lit 101, nat_lit 109, nat_lit 109, nat_lit 101, nat_lit 114, nat_lit 46, nat_lit 97, nat_lit 109, nat_lit 111, nat_lit 110, nat_lit 103]⟩⟩
noncomputable def nm189 : Str := ⟨⟨[nat_lit 65, nat_lit 109, nat_lit 111, nat_lit 110, nat_lit 103, nat_lit 46, nat_lit 95, nat_lit 95, nat_lit 105, nat_lit 110, nat_lit 105, nat_lit 116, nat_lit 95, nat_lit 95]⟩⟩
noncomputable def nm190 : Str := ⟨⟨[nat_lit 67, nat_lit 122, nat_lit 101, nat_lit 99, nat_lit 104, nat_lit 83, nat_lit 116, nat_lit 101, nat_lit 109, nat_lit 109, nat_lit 101, nat_lit 114]⟩⟩
noncomputable def nm191 : Str := ⟨⟨[nat_lit 103, nat_lit 95, nat_lit 118]⟩⟩
noncomputable def nm192 : Str := ⟨⟨[nat_lit 103, nat_lit 95, nat_lit 118, nat_lit 95, nat_lit 111, nat_lit 114, nat_lit 95, nat_lit 115, nat_lit 121, nat_lit 108, nat_lit 108, nat_lit 97, nat_lit 98, nat_lit 105, nat_lit 99, nat_lit 95, nat_lit 99]⟩⟩
noncomputable def nm193 : Str := ⟨⟨[nat_lit 103, nat_lit 95, nat_lit 101, nat_lit 118, nat_lit 95, nat_lit 101, nat_lit 110, nat_lit 100, nat_lit 105, nat_lit 110, nat_lit 103]⟩⟩
noncomputable def nm194 : Str := ⟨⟨[nat_lit 103, nat_lit 95, nat_lit 101, nat_lit 110, nat_lit 118, nat_lit 95, nat_lit 101, nat_lit 110, nat_lit 100, nat_lit 105, nat_lit 110, nat_lit 103]⟩⟩
noncomputable def nm195 : Str := ⟨⟨[nat_lit 73, nat_lit 95, nat_lit 112, nat_lit 49]⟩⟩
noncomputable def nm196 : Str := ⟨⟨[nat_lit 114, nat_lit 95, nat_lit 109, nat_lit 97, nat_lit 114, nat_lit 107, nat_lit 95, nat_lit 114, nat_lit 101, nat_lit 103, nat_lit 105, nat_lit 111, nat_lit 110, nat_lit 115]⟩⟩
noncomputable def nm197 : Str := ⟨⟨[nat_lit 114, nat_lit 95, nat_lit 112, nat_lit 97, nat_lit 108, nat_lit 97, nat_lit 116, nat_lit 97, nat_lit 108, nat_lit 105, nat_lit 115, nat_lit 101, nat_lit 95, nat_lit 101]⟩⟩
noncomputable def nm198 : Str := ⟨⟨[nat_lit 114, nat_lit 95, nat_lit 112, nat_lit 97, nat_lit 108, nat_lit 97, nat_lit 116, nat_lit 97, nat_lit 108, nat_lit 105, nat_lit 115, nat_lit 101, nat_lit 95, nat_lit 105]⟩⟩
noncomputable def nm199 : Str := ⟨⟨[nat_lit 114, nat_lit 95, nat_lit 112, nat_lit 111, nat_lit 115, nat_lit 115, nat_lit 101, nat_lit 115, nat_lit 115, nat_lit 105, nat_lit 118, nat_lit 101, nat_lit 95, nat_lit 115, nat_lit 117, nat_lit 102, nat_lit 102, nat_lit 105, nat_lit 120]⟩⟩
noncomputable def nm200 : Str := ⟨⟨[nat_lit 114, nat_lit 95, nat_lit 99, nat_lit 97, nat_lit 115, nat_lit 101, nat_lit 95, nat_lit 115, nat_lit 117, nat_lit 102, nat_lit 102, nat_lit 105, nat_lit 120]⟩⟩
noncomputable def nm201 : Str := ⟨⟨[nat_lit 95, nat_lit 115, nat_lit 116, nat_lit 101, nat_lit 109]⟩⟩
noncomputable def nm202 : Str := ⟨⟨[nat_lit 118, nat_lit 95, nat_lit 49]⟩⟩
noncomputable def nm204 : Str := ⟨⟨[nat_lit 118, nat_lit 95, nat_lit 50]⟩⟩
noncomputable def nm205 : Str := ⟨⟨[nat_lit 67, nat_lit 122, nat_lit 101, nat_lit 99, nat_lit 104, nat_lit 83, nat_lit 116, nat_lit 101, nat_lit 109, nat_lit 109, nat_lit 101, nat_lit 114, nat_lit 46, nat_lit 114, nat_lit 95, nat_lit 109, nat_lit 97, nat_lit 114, nat_lit 107, nat_lit 95, nat_lit 114, nat_lit 101, nat_lit 103, nat_lit 105, nat_lit 111, nat_lit 110, nat_lit 115]⟩⟩
noncomputable def nm206 : Str := ⟨⟨[nat_lit 97, nat_lit 109, nat_lit 111, nat_lit 110, nat_lit 103, nat_lit 95, nat_lit 118, nat_lit 97, nat_lit 114]⟩⟩
noncomputable def nm207 : Str := ⟨⟨[nat_lit 67, nat_lit 122, nat_lit 101, nat_lit 99, nat_lit 104, nat_lit 83, nat_lit 116, nat_lit 101, nat_lit 109, nat_lit 109, nat_lit 101, nat_lit 114, nat_lit 46, nat_lit 114, nat_lit 95, nat_lit 112, nat_lit 97, nat_lit 108, nat_lit 97, nat_lit 116, nat_lit 97, nat_lit 108, nat_lit 105, nat_lit 115, nat_lit 101, nat_lit 95, nat_lit 101]⟩⟩
noncomputable def nm208 : Str := ⟨⟨[nat_lit 67, nat_lit 122, nat_lit 101, nat_lit 99, nat_lit 104, nat_lit 83, nat_lit 116, nat_lit 101, nat_lit 109, nat_lit 109, nat_lit 101, nat_lit 114, nat_lit 46, nat_lit 114, nat_lit 95, nat_lit 112, nat_lit 97, nat_lit 108, nat_lit 97, nat_lit 116, nat_lit 97, nat_lit 108, nat_lit 105, nat_lit 115, nat_lit 101, nat_lit 95, nat_lit 105]⟩⟩
noncomputable def nm209 : Str := ⟨⟨[nat_lit 67, nat_lit 122, nat_lit 101, nat_lit 99, nat_lit 104, nat_lit 83, nat_lit 116, nat_lit 101, nat_lit 109, nat_lit 109, nat_lit 101, nat_lit 114, nat_lit 46, nat_lit 114, nat_lit 95, nat_lit 112, nat_lit 111, nat_lit 115, nat_lit 115, nat_lit 101, nat_lit 115, nat_lit 115, nat_lit 105, nat_lit 118, nat_lit 101, nat_lit 95, nat_lit 115, nat_lit 117, nat_lit 102, nat_lit 102, nat_lit 105, nat_lit 120]⟩⟩
noncomputable def nm218 : Str := ⟨⟨[nat_lit 67, nat_lit 122, nat_lit 101, nat_lit 99, nat_lit 104, nat_lit 83, nat_lit 116, nat_lit 101, nat_lit 109, nat_lit 109, nat_lit 101, nat_lit 114, nat_lit 46, nat_lit 114, nat_lit 95, nat_lit 99, nat_lit 97, nat_lit 115, nat_lit 101, nat_lit 95, nat_lit 115, nat_lit 117, nat_lit 102, nat_lit 102, nat_lit 105, nat_lit 120]⟩⟩
noncomputable def nm219 : Str := ⟨⟨[nat_lit 67, nat_lit 122, nat_lit 101, nat_lit 99, nat_lit 104, nat_lit 83, nat_lit 116, nat_lit 101, nat_lit 109, nat_lit 109, nat_lit 101, nat_lit 114, nat_lit 46, nat_lit 95, nat_lit 115, nat_lit 116, nat_lit 101, nat_lit 109]⟩⟩
noncomputable def nm220 : Str := ⟨⟨[nat_lit 97, nat_lit 95, nat_lit 48]⟩⟩
noncomputable def nm221 : Str := ⟨⟨[nat_lit 97, nat_lit 115, nat_lit 95, nat_lit 48]⟩⟩
noncomputable def nm223 : Str := ⟨⟨[nat_lit 97, nat_lit 95, nat_lit 49]⟩⟩
noncomputable def nm224 : Str := ⟨⟨[nat_lit 97, nat_lit 115, nat_lit 95, nat_lit 49]⟩⟩
noncomputable def nm227 : Str := ⟨⟨[nat_lit 97, nat_lit 95, nat_lit 50]⟩⟩
noncomputable def nm228 : Str := ⟨⟨[nat_lit 97, nat_lit 95, nat_lit 51]⟩⟩
noncomputable def nm229 : Str := ⟨⟨[nat_lit 97, nat_lit 115, nat_lit 95, nat_lit 51]⟩⟩
noncomputable def nm230 : Str := ⟨⟨[nat_lit 97, nat_lit 95, nat_lit 52]⟩⟩
noncomputable def nm231 : Str := ⟨⟨[nat_lit 97, nat_lit 95, nat_lit 53]⟩⟩
noncomputable def nm232 : Str := ⟨⟨[nat_lit 97, nat_lit 95, nat_lit 54]⟩⟩
noncomputable def nm236 : Str := ⟨⟨[nat_lit 108, nat_lit 97, nat_lit 98, nat_lit 48]⟩⟩
noncomputable def nm237 : Str := ⟨⟨[nat_lit 108, nat_lit 97, nat_lit 98, nat_lit 49]⟩⟩
noncomputable def nm238 : Str := ⟨⟨[nat_lit 108, nat_lit 97, nat_lit 119, nat_lit 95, nat_lit 105, nat_lit 117, nat_lit 48, nat_lit 48, nat_lit 50, nat_lit 50, nat_lit 95, nat_lit 48, nat_lit 49]⟩⟩
noncomputable def nm241 : Str := ⟨⟨[nat_lit 95, nat_lit 108, nat_lit 97, nat_lit 119, nat_lit 95, nat_lit 112, nat_lit 97, nat_lit 114, nat_lit 116, nat_lit 115]⟩⟩
noncomputable def nm249 : Str := ⟨⟨[nat_lit 95, nat_lit 108, nat_lit 97, nat_lit 119, nat_lit 95, nat_lit 97, nat_lit 110, nat_lit 121]⟩⟩
noncomputable def nm250 : Str := ⟨⟨[nat_lit 95, nat_lit 108, nat_lit 97, nat_lit 119, nat_lit 95, nat_lit 97, nat_lit 104, nat_lit 101, nat_lit 97, nat_lit 100]⟩⟩
noncomputable def nm251 : Str := ⟨⟨[nat_lit 95, nat_lit 108, nat_lit 97, nat_lit 119, nat_lit 95, nat_lit 104, nat_lit 97, nat_lit 114, nat_lit 100]⟩⟩
noncomputable def nm252 : Str := ⟨⟨[nat_lit 95, nat_lit 108, nat_lit 97, nat_lit 119, nat_lit 95, nat_lit 102, nat_lit 108, nat_lit 101, nat_lit 101, nat_lit 116]⟩⟩
noncomputable def nm253 : Str := ⟨⟨[nat_lit 95, nat_lit 108, nat_lit 97, nat_lit 119, nat_lit 95, nat_lit 99, nat_lit 97, nat_lit 115, nat_lit 101]⟩⟩
noncomputable def nm254 : Str := ⟨⟨[nat_lit 95, nat_lit 108, nat_lit 97, nat_lit 119, nat_lit 95, nat_lit 111, nat_lit 119, nat_lit 110, nat_lit 101, nat_lit 114]⟩⟩
noncomputable def nm255 : Str := ⟨⟨[nat_lit 95, nat_lit 108, nat_lit 97, nat_lit 119, nat_lit 95, nat_lit 115, nat_lit 116, nat_lit 101, nat_lit 109]⟩⟩
noncomputable def nm256 : Str := ⟨⟨[nat_lit 108, nat_lit 97, nat_lit 119]⟩⟩
noncomputable def nm261 : Str := ⟨⟨[nat_lit 110]⟩⟩
noncomputable def nm266 : Str := ⟨⟨[nat_lit 116]⟩⟩
noncomputable def nm268 : Str := ⟨⟨[nat_lit 115, nat_lit 116, nat_lit 101, nat_lit 109]⟩⟩
/-- the step of one call Among(s, sub, res): a dict, an object, a frame -/
noncomputable def intTok (t : Nat) (i : Int) : Nat := match i with | .ofNat _ => t | .negSucc _ => t + 1
noncomputable def amStep (P : Params) (S : SharedT) (r : Str × Int × Int) : SharedT := match S with
  | ⟨T, n, l, gs, dr, t, os⟩ =>
    let t1 := intTok (t + 1) r.2.1
    let t2 := intTok (t1 + 1) r.2.2
    let a := t2 + 1
    let vs : Value := .str r.1 t
    let v1 : Value := .int r.2.1 t1
    let v2 : Value := .int r.2.2 t2
    ⟨((T.ins n ⟨.type PySem.W.SL.s14018661285674007319x4, none, .dict #[en P nm0 (a + 5) vs, en P nm1 (a + 7) v1, en P nm2 (a + 9) v2] 3, #[]⟩).ins (n + 1) ⟨.ref 220, some n, .plain, #[]⟩).ins (n + 2) ⟨.type PySem.W.SL.s658472552662922059x5, none, .dict #[en P nm3 a (.ref (n + 1)), en P nm0 (a + 1) vs, en P nm1 (a + 2) v1, en P nm2 (a + 3) v2] 4, #[]⟩, n + 3, l, gs, dr, a + 10, os⟩
noncomputable def rw3 (s : Str) (a b : Int) : Str × Int × Int := (s, a, b)
noncomputable def rows0 : List (Str × Int × Int) := [rw3 nm4 (-1) 1, rw3 (⟨⟨[nat_lit 110, nat_lit 99]⟩⟩ : Str) 0 (-1), rw3 (⟨⟨[nat_lit 237, nat_lit 110, nat_lit 99]⟩⟩ : Str) 1 2, rw3 (⟨⟨[nat_lit 97, nat_lit 118, nat_lit 99]⟩⟩ : Str) 0 (-1), rw3 (⟨⟨[nat_lit 111, nat_lit 118, nat_lit 99]⟩⟩ : Str) 0 (-1)]
noncomputable def rows1 : List (Str × Int × Int) := [rw3 nm4 (-1) 1, rw3 (⟨⟨[nat_lit 110, nat_lit 99]⟩⟩ : Str) 0 (-1), rw3 (⟨⟨[nat_lit 237, nat_lit 110, nat_lit 99]⟩⟩ : Str) 1 2, rw3 (⟨⟨[nat_lit 97, nat_lit 118, nat_lit 99]⟩⟩ : Str) 0 (-1), rw3 (⟨⟨[nat_lit 111, nat_lit 118, nat_lit 99]⟩⟩ : Str) 0 (-1), rw3 (⟨⟨[nat_lit 269, nat_lit 116]⟩⟩ : Str) (-1) 3, rw3 (⟨⟨[nat_lit 353, nat_lit 116]⟩⟩ : Str) (-1) 4, rw3 (⟨⟨[nat_lit 100, nat_lit 101, nat_lit 353, nat_lit 116]⟩⟩ : Str) 6 (-1), rw3 (⟨⟨[nat_lit 108, nat_lit 101, nat_lit 353, nat_lit 116]⟩⟩ : Str) 6 (-1), rw3 (⟨⟨[nat_lit 105, nat_lit 353, nat_lit 116]⟩⟩ : Str) 6 (-1), rw3 (⟨⟨[nat_lit 112, nat_lit 111, nat_lit 117, nat_lit 353, nat_lit 116]⟩⟩ : Str) 6 (-1), rw3 (⟨⟨[nat_lit 225, nat_lit 353, nat_lit 116]⟩⟩ : Str) 6 (-1), rw3 (⟨⟨[nat_lit 237, nat_lit 353, nat_lit 116]⟩⟩ : Str) 6 (-1)]
noncomputable def rows2 : List (Str × Int × Int) := [rw3 (⟨⟨[nat_lit 105, nat_lit 110]⟩⟩ : Str) (-1) 2, rw3 (⟨⟨[nat_lit 111, nat_lit 118]⟩⟩ : Str) (-1) 1, rw3 (⟨⟨[nat_lit 367, nat_lit 118]⟩⟩ : Str) (-1) 1]
noncomputable def rows3 : List (Str × Int × Int) := [rw3 (⟨⟨[]⟩⟩ : Str) (-1) 2, rw3 (⟨⟨[nat_lit 108]⟩⟩ : Str) 0 1, rw3 (⟨⟨[nat_lit 116, nat_lit 108]⟩⟩ : Str) 1 2, rw3 nm0 0 1, rw3 (⟨⟨[nat_lit 101, nat_lit 115]⟩⟩ : Str) 3 2, rw3 nm24 0 1, rw3 (⟨⟨[nat_lit 101, nat_lit 269]⟩⟩ : Str) 5 2, rw3 (⟨⟨[nat_lit 345]⟩⟩ : Str) 0 1, rw3 (⟨⟨[nat_lit 382]⟩⟩ : Str) 0 1]
noncomputable def rows4 : List (Str × Int × Int) := [rw3 (⟨⟨[nat_lit 111, nat_lit 98, nat_lit 108]⟩⟩ : Str) (-1) (-1), rw3 (⟨⟨[nat_lit 115, nat_lit 110]⟩⟩ : Str) (-1) (-1), rw3 (⟨⟨[nat_lit 100, nat_lit 111, nat_lit 116]⟩⟩ : Str) (-1) (-1)]
noncomputable def rows5 : List (Str × Int × Int) := [rw3 (⟨⟨[nat_lit 117, nat_lit 99]⟩⟩ : Str) (-1) (-1), rw3 nm32 (-1) (-1), rw3 (⟨⟨[nat_lit 111, nat_lit 107]⟩⟩ : Str) (-1) (-1), rw3 (⟨⟨[nat_lit 107, nat_lit 97, nat_lit 114]⟩⟩ : Str) (-1) (-1), rw3 nm24 (-1) (-1)]
noncomputable def rows6 : List (Str × Int × Int) := [rw3 nm35 (-1) 1, rw3 (⟨⟨[nat_lit 97, nat_lit 109, nat_lit 97]⟩⟩ : Str) 0 1, rw3 (⟨⟨[nat_lit 97, nat_lit 116, nat_lit 97]⟩⟩ : Str) 0 1, rw3 (⟨⟨[nat_lit 101, nat_lit 98]⟩⟩ : Str) (-1) 4, rw3 (⟨⟨[nat_lit 101, nat_lit 99]⟩⟩ : Str) (-1) 5, rw3 nm40 (-1) 2, rw3 (⟨⟨[nat_lit 101, nat_lit 116, nat_lit 101]⟩⟩ : Str) 5 3, rw3 (⟨⟨[nat_lit 283, nat_lit 116, nat_lit 101]⟩⟩ : Str) 5 1, rw3 (⟨⟨[nat_lit 101, nat_lit 99, nat_lit 104]⟩⟩ : Str) (-1) 2, rw3 (⟨⟨[nat_lit 97, nat_lit 116, nat_lit 101, nat_lit 99, nat_lit 104]⟩⟩ : Str) 8 1, rw3 (⟨⟨[nat_lit 225, nat_lit 99, nat_lit 104]⟩⟩ : Str) (-1) 1, rw3 (⟨⟨[nat_lit 237, nat_lit 99, nat_lit 104]⟩⟩ : Str) (-1) 12, rw3 (⟨⟨[nat_lit 253, nat_lit 99, nat_lit 104]⟩⟩ : Str) (-1) 1, rw3 nm48 (-1) 12, rw3 (⟨⟨[nat_lit 109, nat_lit 105]⟩⟩ : Str) 13 1, rw3 (⟨⟨[nat_lit 97, nat_lit 109, nat_lit 105]⟩⟩ : Str) 14 1, rw3 (⟨⟨[nat_lit 101, nat_lit 109, nat_lit 105]⟩⟩ : Str) 14 2, rw3 (⟨⟨[nat_lit 237, nat_lit 109, nat_lit 105]⟩⟩ : Str) 14 12, rw3 (⟨⟨[nat_lit 253, nat_lit 109, nat_lit 105]⟩⟩ : Str) 14 1, rw3 (⟨⟨[nat_lit 283, nat_lit 109, nat_lit 105]⟩⟩ : Str) 14 1, rw3 (⟨⟨[nat_lit 357, nat_lit 109, nat_lit 105]⟩⟩ : Str) 14 11, rw3 (⟨⟨[nat_lit 101, nat_lit 116, nat_lit 105]⟩⟩ : Str) 13 3, rw3 (⟨⟨[nat_lit 283, nat_lit 116, nat_lit 105]⟩⟩ : Str) 13 1, rw3 (⟨⟨[nat_lit 111, nat_lit 118, nat_lit 105]⟩⟩ : Str) 13 1, rw3 (⟨⟨[nat_lit 101, nat_lit 107]⟩⟩ : Str) (-1) 6, rw3 (⟨⟨[nat_lit 283, nat_lit 107]⟩⟩ : Str) (-1) 7, rw3 (⟨⟨[nat_lit 101, nat_lit 109]⟩⟩ : Str) (-1) 2, rw3 (⟨⟨[nat_lit 101, nat_lit 116, nat_lit 101, nat_lit 109]⟩⟩ : Str) 26 3, rw3 (⟨⟨[nat_lit 283, nat_lit 116, nat_lit 101, nat_lit 109]⟩⟩ : Str) 26 1, rw3 (⟨⟨[nat_lit 225, nat_lit 109]⟩⟩ : Str) (-1) 1, rw3 (⟨⟨[nat_lit 233, nat_lit 109]⟩⟩ : Str) (-1) 1, rw3 (⟨⟨[nat_lit 237, nat_lit 109]⟩⟩ : Str) (-1) 12, rw3 (⟨⟨[nat_lit 253, nat_lit 109]⟩⟩ : Str) (-1) 1, rw3 (⟨⟨[nat_lit 283, nat_lit 109]⟩⟩ : Str) (-1) 1, rw3 (⟨⟨[nat_lit 367, nat_lit 109]⟩⟩ : Str) (-1) 1, rw3 (⟨⟨[nat_lit 97, nat_lit 116, nat_lit 367, nat_lit 109]⟩⟩ : Str) 34 1, rw3 nm71 (-1) 1, rw3 (⟨⟨[nat_lit 233, nat_lit 104, nat_lit 111]⟩⟩ : Str) 36 1, rw3 (⟨⟨[nat_lit 237, nat_lit 104, nat_lit 111]⟩⟩ : Str) 36 12, rw3 (⟨⟨[nat_lit 117, nat_lit 115]⟩⟩ : Str) (-1) 1, rw3 (⟨⟨[nat_lit 97, nat_lit 116]⟩⟩ : Str) (-1) 1, rw3 nm76 (-1) 9, rw3 nm77 (-1) 1, rw3 (⟨⟨[nat_lit 233, nat_lit 109, nat_lit 117]⟩⟩ : Str) 42 1, rw3 (⟨⟨[nat_lit 237, nat_lit 109, nat_lit 117]⟩⟩ : Str) 42 12, rw3 (⟨⟨[nat_lit 111, nat_lit 117]⟩⟩ : Str) 42 1, rw3 (⟨⟨[nat_lit 101, nat_lit 118]⟩⟩ : Str) (-1) 10, rw3 nm82 (-1) 1, rw3 (⟨⟨[nat_lit 97, nat_lit 116, nat_lit 121]⟩⟩ : Str) 47 1, rw3 nm84 (-1) 1, rw3 nm85 (-1) 1, rw3 (⟨⟨[nat_lit 111, nat_lit 118, nat_lit 233]⟩⟩ : Str) 50 1, rw3 nm87 (-1) 12, rw3 nm88 (-1) 1, rw3 nm89 (-1) 1, rw3 (⟨⟨[nat_lit 101, nat_lit 328]⟩⟩ : Str) (-1) 8, rw3 (⟨⟨[nat_lit 357]⟩⟩ : Str) (-1) 11, rw3 nm92 (-1) 1]
noncomputable def tr_openk0 (P : Params) (D1 D2 D3 D4 : Data) : BT := ((((((BT.nil.ins 0 (boot_o_0 P)).ins 1 (boot_o_1 P)).ins 2 (boot_o_2 P)).ins 3 (boot_o_3 P)).ins 4 (boot_o_4 P)).ins 5 (boot_o_5 P))
noncomputable def tr_open (P : Params) (D1 D2 D3 D4 : Data) : BT := ((((((tr_openk0 P D1 D2 D3 D4).ins 6 (boot_o_6 P)).ins 7 (boot_o_7 P)).ins 8 (boot_o_8 P)).ins 9 (boot_o_9 P)).ins 10 (boot_o_10 P))
noncomputable def tr_pre (P : Params) (D1 D2 D3 D4 : Data) : BT := (((((tr_open P D1 D2 D3 D4).ins 11 (⟨.type PySem.W.SL.s2766695959194262286x5, none, .seq #[] 0, #[]⟩)).ins 12 (⟨.none, none, .fields #[], #[]⟩)).ins 13 (⟨.type PySem.W.SL.s5856160107412720595x4, none, .fields #[.str (⟨⟨[nat_lit 60, nat_lit 109, nat_lit 111, nat_lit 100, nat_lit 117, nat_lit 108, nat_lit 101, nat_lit 62]⟩⟩ : Str) 182, .str (⟨⟨[nat_lit 60, nat_lit 109, nat_lit 111, nat_lit 100, nat_lit 117, nat_lit 108, nat_lit 101, nat_lit 62]⟩⟩ : Str) 183, .str nm94 184, .int 1 0, .int 0 0, .int 0 0, .int 0 0, .int 0 0, .ref 11, .bool false, .int 181 0, .ref 12, .none, .none, .none, .none, .int 185 0, .int 1 0, .str nm94 186], #[]⟩)).ins 14 (⟨.type PySem.W.SL.s658472552662922059x5, none, .plain, #[some (.ref 13), some (.ref 3), some (.ref 3), none, some (.str (⟨⟨[nat_lit 95, nat_lit 95, nat_lit 109, nat_lit 97, nat_lit 105, nat_lit 110, nat_lit 95, nat_lit 95]⟩⟩ : Str) 164), none, some (.ref 0)]⟩))
noncomputable def S_pre (w : World) (D1 D2 D3 D4 : Data) (os : OsState) : SharedT := mkS (tr_pre w.params D1 D2 D3 D4) 15 187 os
noncomputable def o3_t1 (P : Params) (D1 D2 D3 D4 : Data) : Obj := ⟨.type PySem.W.SL.s14018661285674007319x4, none, .dict #[en P nm96 165 (.str nm97 194), en P nm98 166 .none, en P nm99 167 .none, en P nm100 168 (.builtin PySem.W.SL.s7097527257260152453x26), en P nm101 169 .none, en P nm102 170 (.ref 6), en P nm103 171 (.ref 4), en P nm104 173 (.str nm94 172), en P nm105 174 .none, en P nm106 193 (.ref 21)] 10, #[]⟩
noncomputable def o12_t1 (P : Params) (D1 D2 D3 D4 : Data) : Obj := ⟨.none, none, .fields #[.int 1 0, .int 0 0, .ref 20], #[]⟩
noncomputable def tr_t1k0 (P : Params) (D1 D2 D3 D4 : Data) : BT := (((((((tr_pre P D1 D2 D3 D4).set 3 fun _ => o3_t1 P D1 D2 D3 D4).set 12 fun _ => o12_t1 P D1 D2 D3 D4).ins 15 (⟨.type PySem.W.SL.s2766695959194262286x5, none, .seq #[] 0, #[]⟩)).ins 16 (⟨.none, none, .fields #[], #[]⟩)).ins 17 (⟨.type PySem.W.SL.s2766695959194262286x5, none, .seq #[.str nm107 190] 0, #[]⟩)).ins 18 (⟨.type PySem.W.SL.s2766695959194262286x5, none, .seq #[] 0, #[]⟩))
noncomputable def tr_t1 (pz : Program) (P : Params) (D1 D2 D3 D4 : Data) : BT := ((((tr_t1k0 P D1 D2 D3 D4).ins 19 (⟨.none, none, fnD ((stN pz) 0) nm106 0 .none .none 0, #[]⟩)).ins 20 (⟨.type PySem.W.SL.s5856160107412720595x4, none, .fields #[.str nm106 187, .str nm106 188, .str nm94 189, .int 1 0, .int 1 0, .int 0 0, .int 0 0, .int 3 0, .ref 15, .bool true, .int 181 0, .ref 16, .none, .ref 17, .ref 18, .ref 19, .int 191 0, .int 1 0, .str nm94 192], #[]⟩)).ins 21 (⟨.type PySem.W.SL.s7174869446012820540x8, none, fnD ((stN pz) 0) nm106 3 (.str (⟨⟨[nat_lit 95, nat_lit 95, nat_lit 109, nat_lit 97, nat_lit 105, nat_lit 110, nat_lit 95, nat_lit 95]⟩⟩ : Str) 164) (.ref 20) 0, #[]⟩))
noncomputable def S_t1 (pz : Program) (w : World) (D1 D2 D3 D4 : Data) (os : OsState) : SharedT := mkS ((tr_t1 pz) w.params D1 D2 D3 D4) 22 196 os
noncomputable def o3_t2 (P : Params) (D1 D2 D3 D4 : Data) : Obj := ⟨.type PySem.W.SL.s14018661285674007319x4, none, .dict #[en P nm96 165 (.str nm97 194), en P nm98 166 .none, en P nm99 167 .none, en P nm100 168 (.builtin PySem.W.SL.s7097527257260152453x26), en P nm101 169 .none, en P nm102 170 (.ref 6), en P nm103 171 (.ref 4), en P nm104 173 (.str nm94 172), en P nm105 174 .none, en P nm106 193 (.ref 21), en P nm108 426 (.ref 199)] 11, #[]⟩
noncomputable def o12_t2 (P : Params) (D1 D2 D3 D4 : Data) : Obj := ⟨.none, none, .fields #[.int 1 0, .int 0 0, .ref 20, .int 5 0, .int 0 0, .ref 27], #[]⟩
noncomputable def tr_t2k0 (pz : Program) (P : Params) (D1 D2 D3 D4 : Data) : BT := ((((((((tr_t1 pz) P D1 D2 D3 D4).set 3 fun _ => o3_t2 P D1 D2 D3 D4).set 12 fun _ => o12_t2 P D1 D2 D3 D4).ins 22 (⟨.type PySem.W.SL.s2766695959194262286x5, none, .seq #[] 0, #[]⟩)).ins 23 (⟨.type PySem.W.SL.s11030030927630378310x26, none, .fields #[.builtin PySem.W.SL.s10062305145149207511x16, .type PySem.W.SL.s17162191345867700912x4], #[]⟩)).ins 24 (⟨.type PySem.W.SL.s14018661285674007319x4, none, .dict #[en P nm109 203 (.str nm97 194), en P nm110 205 (.str nm108 204), en P nm111 207 (.int 5 206), en P nm112 214 (.ref 35), en P nm113 222 (.ref 42), en P nm114 229 (.ref 49), en P nm115 237 (.ref 56), en P nm116 245 (.ref 63), en P nm117 253 (.ref 70), en P nm118 261 (.ref 77), en P nm119 269 (.ref 84), en P nm120 277 (.ref 91), en P nm121 285 (.ref 98), en P nm122 293 (.ref 105), en P nm123 301 (.ref 112), en P nm124 309 (.ref 119), en P nm125 317 (.ref 126), en P nm126 325 (.ref 133), en P nm127 345 (.ref 140), en P nm128 356 (.ref 147), en P nm129 364 (.ref 154), en P nm130 371 (.ref 161), en P nm131 382 (.ref 168), en P nm132 389 (.ref 175), en P nm133 396 (.ref 182), en P nm134 404 (.ref 189), en P nm135 412 (.ref 196), en P nm136 419 (.ref 197)] 28, #[]⟩)).ins 25 (⟨.type PySem.W.SL.s2766695959194262286x5, none, .seq #[] 0, #[]⟩))
noncomputable def tr_t2k1 (pz : Program) (P : Params) (D1 D2 D3 D4 : Data) : BT := ((((((((tr_t2k0 pz) P D1 D2 D3 D4).ins 26 (⟨.none, none, .fields #[.int 7 0, .int 4 0, .ref 34, .int 10 0, .int 4 0, .ref 41, .int 18 0, .int 4 0, .ref 48, .int 21 0, .int 4 0, .ref 55, .int 24 0, .int 4 0, .ref 62, .int 32 0, .int 4 0, .ref 69, .int 39 0, .int 4 0, .ref 76, .int 47 0, .int 4 0, .ref 83, .int 50 0, .int 4 0, .ref 90, .int 53 0, .int 4 0, .ref 97, .int 60 0, .int 4 0, .ref 104, .int 68 0, .int 4 0, .ref 111, .int 71 0, .int 4 0, .ref 118, .int 74 0, .int 4 0, .ref 125, .int 80 0, .int 4 0, .ref 132, .int 83 0, .int 4 0, .ref 139, .int 128 0, .int 4 0, .ref 146, .int 138 0, .int 4 0, .ref 153, .int 146 0, .int 4 0, .ref 160, .int 149 0, .int 4 0, .ref 167, .int 156 0, .int 4 0, .ref 174, .int 159 0, .int 4 0, .ref 181, .int 162 0, .int 4 0, .ref 188, .int 167 0, .int 4 0, .ref 195], #[]⟩)).ins 27 (⟨.type PySem.W.SL.s5856160107412720595x4, none, .fields #[.str nm108 198, .str nm108 199, .str nm94 200, .int 5 0, .int 0 0, .int 0 0, .int 0 0, .int 0 0, .ref 25, .bool false, .int 181 0, .ref 26, .none, .none, .none, .none, .int 201 0, .int 5 0, .str nm94 202], #[]⟩)).ins 28 (⟨.type PySem.W.SL.s658472552662922059x5, none, .plain, #[some (.ref 27), some (.ref 3), some (.ref 24), none, some (.str nm97 194), none, some (.ref 0)]⟩)).ins 29 (⟨.type PySem.W.SL.s2766695959194262286x5, none, .seq #[] 0, #[]⟩)).ins 30 (⟨.none, none, .fields #[], #[]⟩)).ins 31 (⟨.type PySem.W.SL.s2766695959194262286x5, none, .seq #[.str nm3 211] 0, #[]⟩))
noncomputable def tr_t2k2 (pz : Program) (P : Params) (D1 D2 D3 D4 : Data) : BT := ((((((((tr_t2k1 pz) P D1 D2 D3 D4).ins 32 (⟨.type PySem.W.SL.s2766695959194262286x5, none, .seq #[] 0, #[]⟩)).ins 33 (⟨.none, none, fnD ((bsN pz) 0) nm137 0 .none .none 0, #[]⟩)).ins 34 (⟨.type PySem.W.SL.s5856160107412720595x4, none, .fields #[.str nm112 208, .str nm137 209, .str nm94 210, .int 7 0, .int 1 0, .int 0 0, .int 0 0, .int 3 0, .ref 29, .bool true, .int 181 0, .ref 30, .none, .ref 31, .ref 32, .ref 33, .int 212 0, .int 7 0, .str nm94 213], #[]⟩)).ins 35 (⟨.type PySem.W.SL.s7174869446012820540x8, none, fnD ((bsN pz) 0) nm137 3 (.str nm97 194) (.ref 34) 0, #[]⟩)).ins 36 (⟨.type PySem.W.SL.s2766695959194262286x5, none, .seq #[] 0, #[]⟩)).ins 37 (⟨.none, none, .fields #[], #[]⟩))
noncomputable def tr_t2k3 (pz : Program) (P : Params) (D1 D2 D3 D4 : Data) : BT := ((((((((tr_t2k2 pz) P D1 D2 D3 D4).ins 38 (⟨.type PySem.W.SL.s2766695959194262286x5, none, .seq #[.str nm3 218, .str (⟨⟨[nat_lit 118, nat_lit 97, nat_lit 108, nat_lit 117, nat_lit 101]⟩⟩ : Str) 219] 0, #[]⟩)).ins 39 (⟨.type PySem.W.SL.s2766695959194262286x5, none, .seq #[] 0, #[]⟩)).ins 40 (⟨.none, none, fnD ((bsN pz) 1) nm139 0 .none .none 0, #[]⟩)).ins 41 (⟨.type PySem.W.SL.s5856160107412720595x4, none, .fields #[.str nm113 215, .str nm139 216, .str nm94 217, .int 10 0, .int 2 0, .int 0 0, .int 0 0, .int 3 0, .ref 36, .bool true, .int 181 0, .ref 37, .none, .ref 38, .ref 39, .ref 40, .int 220 0, .int 10 0, .str nm94 221], #[]⟩)).ins 42 (⟨.type PySem.W.SL.s7174869446012820540x8, none, fnD ((bsN pz) 1) nm139 3 (.str nm97 194) (.ref 41) 0, #[]⟩)).ins 43 (⟨.type PySem.W.SL.s2766695959194262286x5, none, .seq #[] 0, #[]⟩))
noncomputable def tr_t2k4 (pz : Program) (P : Params) (D1 D2 D3 D4 : Data) : BT := ((((((((tr_t2k3 pz) P D1 D2 D3 D4).ins 44 (⟨.none, none, .fields #[], #[]⟩)).ins 45 (⟨.type PySem.W.SL.s2766695959194262286x5, none, .seq #[.str nm3 226] 0, #[]⟩)).ins 46 (⟨.type PySem.W.SL.s2766695959194262286x5, none, .seq #[] 0, #[]⟩)).ins 47 (⟨.none, none, fnD ((bsN pz) 2) nm140 0 .none .none 0, #[]⟩)).ins 48 (⟨.type PySem.W.SL.s5856160107412720595x4, none, .fields #[.str nm114 223, .str nm140 224, .str nm94 225, .int 18 0, .int 1 0, .int 0 0, .int 0 0, .int 3 0, .ref 43, .bool true, .int 181 0, .ref 44, .none, .ref 45, .ref 46, .ref 47, .int 227 0, .int 18 0, .str nm94 228], #[]⟩)).ins 49 (⟨.type PySem.W.SL.s7174869446012820540x8, none, fnD ((bsN pz) 2) nm140 3 (.str nm97 194) (.ref 48) 0, #[]⟩))
noncomputable def tr_t2k5 (pz : Program) (P : Params) (D1 D2 D3 D4 : Data) : BT := ((((((((tr_t2k4 pz) P D1 D2 D3 D4).ins 50 (⟨.type PySem.W.SL.s2766695959194262286x5, none, .seq #[] 0, #[]⟩)).ins 51 (⟨.none, none, .fields #[], #[]⟩)).ins 52 (⟨.type PySem.W.SL.s2766695959194262286x5, none, .seq #[.str nm3 233, .str (⟨⟨[nat_lit 111, nat_lit 116, nat_lit 104, nat_lit 101, nat_lit 114]⟩⟩ : Str) 234] 0, #[]⟩)).ins 53 (⟨.type PySem.W.SL.s2766695959194262286x5, none, .seq #[] 0, #[]⟩)).ins 54 (⟨.none, none, fnD ((bsN pz) 3) nm142 0 .none .none 0, #[]⟩)).ins 55 (⟨.type PySem.W.SL.s5856160107412720595x4, none, .fields #[.str nm115 230, .str nm142 231, .str nm94 232, .int 21 0, .int 2 0, .int 0 0, .int 0 0, .int 3 0, .ref 50, .bool true, .int 181 0, .ref 51, .none, .ref 52, .ref 53, .ref 54, .int 235 0, .int 21 0, .str nm94 236], #[]⟩))
noncomputable def tr_t2k6 (pz : Program) (P : Params) (D1 D2 D3 D4 : Data) : BT := ((((((((tr_t2k5 pz) P D1 D2 D3 D4).ins 56 (⟨.type PySem.W.SL.s7174869446012820540x8, none, fnD ((bsN pz) 3) nm142 3 (.str nm97 194) (.ref 55) 0, #[]⟩)).ins 57 (⟨.type PySem.W.SL.s2766695959194262286x5, none, .seq #[] 0, #[]⟩)).ins 58 (⟨.none, none, .fields #[], #[]⟩)).ins 59 (⟨.type PySem.W.SL.s2766695959194262286x5, none, .seq #[.str nm3 241, .str nm0 242] 0, #[]⟩)).ins 60 (⟨.type PySem.W.SL.s2766695959194262286x5, none, .seq #[] 0, #[]⟩)).ins 61 (⟨.none, none, fnD ((bsN pz) 4) nm143 0 .none .none 0, #[]⟩))
noncomputable def tr_t2k7 (pz : Program) (P : Params) (D1 D2 D3 D4 : Data) : BT := ((((((((tr_t2k6 pz) P D1 D2 D3 D4).ins 62 (⟨.type PySem.W.SL.s5856160107412720595x4, none, .fields #[.str nm116 238, .str nm143 239, .str nm94 240, .int 24 0, .int 2 0, .int 0 0, .int 0 0, .int 3 0, .ref 57, .bool true, .int 181 0, .ref 58, .none, .ref 59, .ref 60, .ref 61, .int 243 0, .int 24 0, .str nm94 244], #[]⟩)).ins 63 (⟨.type PySem.W.SL.s7174869446012820540x8, none, fnD ((bsN pz) 4) nm143 3 (.str nm97 194) (.ref 62) 0, #[]⟩)).ins 64 (⟨.type PySem.W.SL.s2766695959194262286x5, none, .seq #[] 0, #[]⟩)).ins 65 (⟨.none, none, .fields #[], #[]⟩)).ins 66 (⟨.type PySem.W.SL.s2766695959194262286x5, none, .seq #[.str nm3 249, .str nm0 250] 0, #[]⟩)).ins 67 (⟨.type PySem.W.SL.s2766695959194262286x5, none, .seq #[] 0, #[]⟩))
noncomputable def tr_t2k8 (pz : Program) (P : Params) (D1 D2 D3 D4 : Data) : BT := ((((((((tr_t2k7 pz) P D1 D2 D3 D4).ins 68 (⟨.none, none, fnD ((bsN pz) 5) nm144 0 .none .none 0, #[]⟩)).ins 69 (⟨.type PySem.W.SL.s5856160107412720595x4, none, .fields #[.str nm117 246, .str nm144 247, .str nm94 248, .int 32 0, .int 2 0, .int 0 0, .int 0 0, .int 3 0, .ref 64, .bool true, .int 181 0, .ref 65, .none, .ref 66, .ref 67, .ref 68, .int 251 0, .int 32 0, .str nm94 252], #[]⟩)).ins 70 (⟨.type PySem.W.SL.s7174869446012820540x8, none, fnD ((bsN pz) 5) nm144 3 (.str nm97 194) (.ref 69) 0, #[]⟩)).ins 71 (⟨.type PySem.W.SL.s2766695959194262286x5, none, .seq #[] 0, #[]⟩)).ins 72 (⟨.none, none, .fields #[], #[]⟩)).ins 73 (⟨.type PySem.W.SL.s2766695959194262286x5, none, .seq #[.str nm3 257, .str nm0 258] 0, #[]⟩))
noncomputable def tr_t2k9 (pz : Program) (P : Params) (D1 D2 D3 D4 : Data) : BT := ((((((((tr_t2k8 pz) P D1 D2 D3 D4).ins 74 (⟨.type PySem.W.SL.s2766695959194262286x5, none, .seq #[] 0, #[]⟩)).ins 75 (⟨.none, none, fnD ((bsN pz) 6) nm145 0 .none .none 0, #[]⟩)).ins 76 (⟨.type PySem.W.SL.s5856160107412720595x4, none, .fields #[.str nm118 254, .str nm145 255, .str nm94 256, .int 39 0, .int 2 0, .int 0 0, .int 0 0, .int 3 0, .ref 71, .bool true, .int 181 0, .ref 72, .none, .ref 73, .ref 74, .ref 75, .int 259 0, .int 39 0, .str nm94 260], #[]⟩)).ins 77 (⟨.type PySem.W.SL.s7174869446012820540x8, none, fnD ((bsN pz) 6) nm145 3 (.str nm97 194) (.ref 76) 0, #[]⟩)).ins 78 (⟨.type PySem.W.SL.s2766695959194262286x5, none, .seq #[] 0, #[]⟩)).ins 79 (⟨.none, none, .fields #[], #[]⟩))
noncomputable def tr_t2k10 (pz : Program) (P : Params) (D1 D2 D3 D4 : Data) : BT := ((((((((tr_t2k9 pz) P D1 D2 D3 D4).ins 80 (⟨.type PySem.W.SL.s2766695959194262286x5, none, .seq #[.str nm3 265, .str nm0 266] 0, #[]⟩)).ins 81 (⟨.type PySem.W.SL.s2766695959194262286x5, none, .seq #[] 0, #[]⟩)).ins 82 (⟨.none, none, fnD ((bsN pz) 7) nm146 0 .none .none 0, #[]⟩)).ins 83 (⟨.type PySem.W.SL.s5856160107412720595x4, none, .fields #[.str nm119 262, .str nm146 263, .str nm94 264, .int 47 0, .int 2 0, .int 0 0, .int 0 0, .int 3 0, .ref 78, .bool true, .int 181 0, .ref 79, .none, .ref 80, .ref 81, .ref 82, .int 267 0, .int 47 0, .str nm94 268], #[]⟩)).ins 84 (⟨.type PySem.W.SL.s7174869446012820540x8, none, fnD ((bsN pz) 7) nm146 3 (.str nm97 194) (.ref 83) 0, #[]⟩)).ins 85 (⟨.type PySem.W.SL.s2766695959194262286x5, none, .seq #[] 0, #[]⟩))
noncomputable def tr_t2k11 (pz : Program) (P : Params) (D1 D2 D3 D4 : Data) : BT := ((((((((tr_t2k10 pz) P D1 D2 D3 D4).ins 86 (⟨.none, none, .fields #[], #[]⟩)).ins 87 (⟨.type PySem.W.SL.s2766695959194262286x5, none, .seq #[.str nm3 273, .str nm0 274] 0, #[]⟩)).ins 88 (⟨.type PySem.W.SL.s2766695959194262286x5, none, .seq #[] 0, #[]⟩)).ins 89 (⟨.none, none, fnD ((bsN pz) 8) nm147 0 .none .none 0, #[]⟩)).ins 90 (⟨.type PySem.W.SL.s5856160107412720595x4, none, .fields #[.str nm120 270, .str nm147 271, .str nm94 272, .int 50 0, .int 2 0, .int 0 0, .int 0 0, .int 3 0, .ref 85, .bool true, .int 181 0, .ref 86, .none, .ref 87, .ref 88, .ref 89, .int 275 0, .int 50 0, .str nm94 276], #[]⟩)).ins 91 (⟨.type PySem.W.SL.s7174869446012820540x8, none, fnD ((bsN pz) 8) nm147 3 (.str nm97 194) (.ref 90) 0, #[]⟩))
noncomputable def tr_t2k12 (pz : Program) (P : Params) (D1 D2 D3 D4 : Data) : BT := ((((((((tr_t2k11 pz) P D1 D2 D3 D4).ins 92 (⟨.type PySem.W.SL.s2766695959194262286x5, none, .seq #[] 0, #[]⟩)).ins 93 (⟨.none, none, .fields #[], #[]⟩)).ins 94 (⟨.type PySem.W.SL.s2766695959194262286x5, none, .seq #[.str nm3 281, .str nm0 282] 0, #[]⟩)).ins 95 (⟨.type PySem.W.SL.s2766695959194262286x5, none, .seq #[] 0, #[]⟩)).ins 96 (⟨.none, none, fnD ((bsN pz) 9) nm148 0 .none .none 0, #[]⟩)).ins 97 (⟨.type PySem.W.SL.s5856160107412720595x4, none, .fields #[.str nm121 278, .str nm148 279, .str nm94 280, .int 53 0, .int 2 0, .int 0 0, .int 0 0, .int 3 0, .ref 92, .bool true, .int 181 0, .ref 93, .none, .ref 94, .ref 95, .ref 96, .int 283 0, .int 53 0, .str nm94 284], #[]⟩))
noncomputable def tr_t2k13 (pz : Program) (P : Params) (D1 D2 D3 D4 : Data) : BT := ((((((((tr_t2k12 pz) P D1 D2 D3 D4).ins 98 (⟨.type PySem.W.SL.s7174869446012820540x8, none, fnD ((bsN pz) 9) nm148 3 (.str nm97 194) (.ref 97) 0, #[]⟩)).ins 99 (⟨.type PySem.W.SL.s2766695959194262286x5, none, .seq #[] 0, #[]⟩)).ins 100 (⟨.none, none, .fields #[], #[]⟩)).ins 101 (⟨.type PySem.W.SL.s2766695959194262286x5, none, .seq #[.str nm3 289, .str nm0 290] 0, #[]⟩)).ins 102 (⟨.type PySem.W.SL.s2766695959194262286x5, none, .seq #[] 0, #[]⟩)).ins 103 (⟨.none, none, fnD ((bsN pz) 10) nm149 0 .none .none 0, #[]⟩))
noncomputable def tr_t2k14 (pz : Program) (P : Params) (D1 D2 D3 D4 : Data) : BT := ((((((((tr_t2k13 pz) P D1 D2 D3 D4).ins 104 (⟨.type PySem.W.SL.s5856160107412720595x4, none, .fields #[.str nm122 286, .str nm149 287, .str nm94 288, .int 60 0, .int 2 0, .int 0 0, .int 0 0, .int 3 0, .ref 99, .bool true, .int 181 0, .ref 100, .none, .ref 101, .ref 102, .ref 103, .int 291 0, .int 60 0, .str nm94 292], #[]⟩)).ins 105 (⟨.type PySem.W.SL.s7174869446012820540x8, none, fnD ((bsN pz) 10) nm149 3 (.str nm97 194) (.ref 104) 0, #[]⟩)).ins 106 (⟨.type PySem.W.SL.s2766695959194262286x5, none, .seq #[] 0, #[]⟩)).ins 107 (⟨.none, none, .fields #[], #[]⟩)).ins 108 (⟨.type PySem.W.SL.s2766695959194262286x5, none, .seq #[.str nm3 297, .str nm0 298] 0, #[]⟩)).ins 109 (⟨.type PySem.W.SL.s2766695959194262286x5, none, .seq #[] 0, #[]⟩))
noncomputable def tr_t2k15 (pz : Program) (P : Params) (D1 D2 D3 D4 : Data) : BT := ((((((((tr_t2k14 pz) P D1 D2 D3 D4).ins 110 (⟨.none, none, fnD ((bsN pz) 11) nm150 0 .none .none 0, #[]⟩)).ins 111 (⟨.type PySem.W.SL.s5856160107412720595x4, none, .fields #[.str nm123 294, .str nm150 295, .str nm94 296, .int 68 0, .int 2 0, .int 0 0, .int 0 0, .int 3 0, .ref 106, .bool true, .int 181 0, .ref 107, .none, .ref 108, .ref 109, .ref 110, .int 299 0, .int 68 0, .str nm94 300], #[]⟩)).ins 112 (⟨.type PySem.W.SL.s7174869446012820540x8, none, fnD ((bsN pz) 11) nm150 3 (.str nm97 194) (.ref 111) 0, #[]⟩)).ins 113 (⟨.type PySem.W.SL.s2766695959194262286x5, none, .seq #[] 0, #[]⟩)).ins 114 (⟨.none, none, .fields #[], #[]⟩)).ins 115 (⟨.type PySem.W.SL.s2766695959194262286x5, none, .seq #[.str nm3 305, .str nm0 306] 0, #[]⟩))
noncomputable def tr_t2k16 (pz : Program) (P : Params) (D1 D2 D3 D4 : Data) : BT := ((((((((tr_t2k15 pz) P D1 D2 D3 D4).ins 116 (⟨.type PySem.W.SL.s2766695959194262286x5, none, .seq #[] 0, #[]⟩)).ins 117 (⟨.none, none, fnD ((bsN pz) 12) nm151 0 .none .none 0, #[]⟩)).ins 118 (⟨.type PySem.W.SL.s5856160107412720595x4, none, .fields #[.str nm124 302, .str nm151 303, .str nm94 304, .int 71 0, .int 2 0, .int 0 0, .int 0 0, .int 3 0, .ref 113, .bool true, .int 181 0, .ref 114, .none, .ref 115, .ref 116, .ref 117, .int 307 0, .int 71 0, .str nm94 308], #[]⟩)).ins 119 (⟨.type PySem.W.SL.s7174869446012820540x8, none, fnD ((bsN pz) 12) nm151 3 (.str nm97 194) (.ref 118) 0, #[]⟩)).ins 120 (⟨.type PySem.W.SL.s2766695959194262286x5, none, .seq #[] 0, #[]⟩)).ins 121 (⟨.none, none, .fields #[], #[]⟩))
noncomputable def tr_t2k17 (pz : Program) (P : Params) (D1 D2 D3 D4 : Data) : BT := ((((((((tr_t2k16 pz) P D1 D2 D3 D4).ins 122 (⟨.type PySem.W.SL.s2766695959194262286x5, none, .seq #[.str nm3 313, .str nm0 314] 0, #[]⟩)).ins 123 (⟨.type PySem.W.SL.s2766695959194262286x5, none, .seq #[] 0, #[]⟩)).ins 124 (⟨.none, none, fnD ((bsN pz) 13) nm152 0 .none .none 0, #[]⟩)).ins 125 (⟨.type PySem.W.SL.s5856160107412720595x4, none, .fields #[.str nm125 310, .str nm152 311, .str nm94 312, .int 74 0, .int 2 0, .int 0 0, .int 0 0, .int 3 0, .ref 120, .bool true, .int 181 0, .ref 121, .none, .ref 122, .ref 123, .ref 124, .int 315 0, .int 74 0, .str nm94 316], #[]⟩)).ins 126 (⟨.type PySem.W.SL.s7174869446012820540x8, none, fnD ((bsN pz) 13) nm152 3 (.str nm97 194) (.ref 125) 0, #[]⟩)).ins 127 (⟨.type PySem.W.SL.s2766695959194262286x5, none, .seq #[] 0, #[]⟩))
noncomputable def tr_t2k18 (pz : Program) (P : Params) (D1 D2 D3 D4 : Data) : BT := ((((((((tr_t2k17 pz) P D1 D2 D3 D4).ins 128 (⟨.none, none, .fields #[], #[]⟩)).ins 129 (⟨.type PySem.W.SL.s2766695959194262286x5, none, .seq #[.str nm3 321, .str nm153 322] 0, #[]⟩)).ins 130 (⟨.type PySem.W.SL.s2766695959194262286x5, none, .seq #[] 0, #[]⟩)).ins 131 (⟨.none, none, fnD ((bsN pz) 14) nm154 0 .none .none 0, #[]⟩)).ins 132 (⟨.type PySem.W.SL.s5856160107412720595x4, none, .fields #[.str nm126 318, .str nm154 319, .str nm94 320, .int 80 0, .int 2 0, .int 0 0, .int 0 0, .int 3 0, .ref 127, .bool true, .int 181 0, .ref 128, .none, .ref 129, .ref 130, .ref 131, .int 323 0, .int 80 0, .str nm94 324], #[]⟩)).ins 133 (⟨.type PySem.W.SL.s7174869446012820540x8, none, fnD ((bsN pz) 14) nm154 3 (.str nm97 194) (.ref 132) 0, #[]⟩))
noncomputable def tr_t2k19 (pz : Program) (P : Params) (D1 D2 D3 D4 : Data) : BT := ((((((((tr_t2k18 pz) P D1 D2 D3 D4).ins 134 (⟨.type PySem.W.SL.s2766695959194262286x5, none, .seq #[] 0, #[]⟩)).ins 135 (⟨.none, none, .fields #[], #[]⟩)).ins 136 (⟨.type PySem.W.SL.s2766695959194262286x5, none, .seq #[.str nm3 329, .str nm153 330, .str nm48 331, .str (⟨⟨[nat_lit 106]⟩⟩ : Str) 332, .str nm4 333, .str (⟨⟨[nat_lit 108, nat_lit 98]⟩⟩ : Str) 334, .str (⟨⟨[nat_lit 99, nat_lit 111, nat_lit 109, nat_lit 109, nat_lit 111, nat_lit 110, nat_lit 95, nat_lit 105]⟩⟩ : Str) 335, .str (⟨⟨[nat_lit 99, nat_lit 111, nat_lit 109, nat_lit 109, nat_lit 111, nat_lit 110, nat_lit 95, nat_lit 106]⟩⟩ : Str) 336, .str (⟨⟨[nat_lit 102, nat_lit 105, nat_lit 114, nat_lit 115, nat_lit 116, nat_lit 95, nat_lit 107, nat_lit 101, nat_lit 121, nat_lit 95, nat_lit 105, nat_lit 110, nat_lit 115, nat_lit 112, nat_lit 101, nat_lit 99, nat_lit 116, nat_lit 101, nat_lit 100]⟩⟩ : Str) 337, .str nm107 338, .str (⟨⟨[nat_lit 100, nat_lit 105, nat_lit 102, nat_lit 102]⟩⟩ : Str) 339, .str (⟨⟨[nat_lit 99, nat_lit 111, nat_lit 109, nat_lit 109, nat_lit 111, nat_lit 110]⟩⟩ : Str) 340, .str (⟨⟨[nat_lit 119]⟩⟩ : Str) 341, .str (⟨⟨[nat_lit 105, nat_lit 50]⟩⟩ : Str) 342] 0, #[]⟩)).ins 137 (⟨.type PySem.W.SL.s2766695959194262286x5, none, .seq #[] 0, #[]⟩)).ins 138 (⟨.none, none, fnD ((bsN pz) 15) nm164 0 .none .none 0, #[]⟩)).ins 139 (⟨.type PySem.W.SL.s5856160107412720595x4, none, .fields #[.str nm127 326, .str nm164 327, .str nm94 328, .int 83 0, .int 2 0, .int 0 0, .int 0 0, .int 3 0, .ref 134, .bool true, .int 181 0, .ref 135, .none, .ref 136, .ref 137, .ref 138, .int 343 0, .int 83 0, .str nm94 344], #[]⟩))
noncomputable def tr_t2k20 (pz : Program) (P : Params) (D1 D2 D3 D4 : Data) : BT := ((((((((tr_t2k19 pz) P D1 D2 D3 D4).ins 140 (⟨.type PySem.W.SL.s7174869446012820540x8, none, fnD ((bsN pz) 15) nm164 3 (.str nm97 194) (.ref 139) 0, #[]⟩)).ins 141 (⟨.type PySem.W.SL.s2766695959194262286x5, none, .seq #[] 0, #[]⟩)).ins 142 (⟨.none, none, .fields #[], #[]⟩)).ins 143 (⟨.type PySem.W.SL.s2766695959194262286x5, none, .seq #[.str nm3 349, .str (⟨⟨[nat_lit 99, nat_lit 95, nat_lit 98, nat_lit 114, nat_lit 97]⟩⟩ : Str) 350, .str (⟨⟨[nat_lit 99, nat_lit 95, nat_lit 107, nat_lit 101, nat_lit 116]⟩⟩ : Str) 351, .str nm0 352, .str (⟨⟨[nat_lit 97, nat_lit 100, nat_lit 106, nat_lit 117, nat_lit 115, nat_lit 116, nat_lit 109, nat_lit 101, nat_lit 110, nat_lit 116]⟩⟩ : Str) 353] 0, #[]⟩)).ins 144 (⟨.type PySem.W.SL.s2766695959194262286x5, none, .seq #[] 0, #[]⟩)).ins 145 (⟨.none, none, fnD ((bsN pz) 16) nm168 0 .none .none 0, #[]⟩))
noncomputable def tr_t2k21 (pz : Program) (P : Params) (D1 D2 D3 D4 : Data) : BT := ((((((((tr_t2k20 pz) P D1 D2 D3 D4).ins 146 (⟨.type PySem.W.SL.s5856160107412720595x4, none, .fields #[.str nm128 346, .str nm168 347, .str nm94 348, .int 128 0, .int 4 0, .int 0 0, .int 0 0, .int 3 0, .ref 141, .bool true, .int 181 0, .ref 142, .none, .ref 143, .ref 144, .ref 145, .int 354 0, .int 128 0, .str nm94 355], #[]⟩)).ins 147 (⟨.type PySem.W.SL.s7174869446012820540x8, none, fnD ((bsN pz) 16) nm168 3 (.str nm97 194) (.ref 146) 0, #[]⟩)).ins 148 (⟨.type PySem.W.SL.s2766695959194262286x5, none, .seq #[] 0, #[]⟩)).ins 149 (⟨.none, none, .fields #[], #[]⟩)).ins 150 (⟨.type PySem.W.SL.s2766695959194262286x5, none, .seq #[.str nm3 360, .str nm0 361] 0, #[]⟩)).ins 151 (⟨.type PySem.W.SL.s2766695959194262286x5, none, .seq #[] 0, #[]⟩))
noncomputable def tr_t2k22 (pz : Program) (P : Params) (D1 D2 D3 D4 : Data) : BT := ((((((((tr_t2k21 pz) P D1 D2 D3 D4).ins 152 (⟨.none, none, fnD ((bsN pz) 17) nm169 0 .none .none 0, #[]⟩)).ins 153 (⟨.type PySem.W.SL.s5856160107412720595x4, none, .fields #[.str nm129 357, .str nm169 358, .str nm94 359, .int 138 0, .int 2 0, .int 0 0, .int 0 0, .int 3 0, .ref 148, .bool true, .int 181 0, .ref 149, .none, .ref 150, .ref 151, .ref 152, .int 362 0, .int 138 0, .str nm94 363], #[]⟩)).ins 154 (⟨.type PySem.W.SL.s7174869446012820540x8, none, fnD ((bsN pz) 17) nm169 3 (.str nm97 194) (.ref 153) 0, #[]⟩)).ins 155 (⟨.type PySem.W.SL.s2766695959194262286x5, none, .seq #[] 0, #[]⟩)).ins 156 (⟨.none, none, .fields #[], #[]⟩)).ins 157 (⟨.type PySem.W.SL.s2766695959194262286x5, none, .seq #[.str nm3 368] 0, #[]⟩))
noncomputable def tr_t2k23 (pz : Program) (P : Params) (D1 D2 D3 D4 : Data) : BT := ((((((((tr_t2k22 pz) P D1 D2 D3 D4).ins 158 (⟨.type PySem.W.SL.s2766695959194262286x5, none, .seq #[] 0, #[]⟩)).ins 159 (⟨.none, none, fnD ((bsN pz) 18) nm170 0 .none .none 0, #[]⟩)).ins 160 (⟨.type PySem.W.SL.s5856160107412720595x4, none, .fields #[.str nm130 365, .str nm170 366, .str nm94 367, .int 146 0, .int 1 0, .int 0 0, .int 0 0, .int 3 0, .ref 155, .bool true, .int 181 0, .ref 156, .none, .ref 157, .ref 158, .ref 159, .int 369 0, .int 146 0, .str nm94 370], #[]⟩)).ins 161 (⟨.type PySem.W.SL.s7174869446012820540x8, none, fnD ((bsN pz) 18) nm170 3 (.str nm97 194) (.ref 160) 0, #[]⟩)).ins 162 (⟨.type PySem.W.SL.s2766695959194262286x5, none, .seq #[] 0, #[]⟩)).ins 163 (⟨.none, none, .fields #[], #[]⟩))
noncomputable def tr_t2k24 (pz : Program) (P : Params) (D1 D2 D3 D4 : Data) : BT := ((((((((tr_t2k23 pz) P D1 D2 D3 D4).ins 164 (⟨.type PySem.W.SL.s2766695959194262286x5, none, .seq #[.str nm3 375, .str (⟨⟨[nat_lit 99, nat_lit 95, nat_lit 98, nat_lit 114, nat_lit 97]⟩⟩ : Str) 376, .str (⟨⟨[nat_lit 99, nat_lit 95, nat_lit 107, nat_lit 101, nat_lit 116]⟩⟩ : Str) 377, .str nm0 378, .str (⟨⟨[nat_lit 97, nat_lit 100, nat_lit 106, nat_lit 117, nat_lit 115, nat_lit 116, nat_lit 109, nat_lit 101, nat_lit 110, nat_lit 116]⟩⟩ : Str) 379] 0, #[]⟩)).ins 165 (⟨.type PySem.W.SL.s2766695959194262286x5, none, .seq #[] 0, #[]⟩)).ins 166 (⟨.none, none, fnD ((bsN pz) 19) nm171 0 .none .none 0, #[]⟩)).ins 167 (⟨.type PySem.W.SL.s5856160107412720595x4, none, .fields #[.str nm131 372, .str nm171 373, .str nm94 374, .int 149 0, .int 4 0, .int 0 0, .int 0 0, .int 3 0, .ref 162, .bool true, .int 181 0, .ref 163, .none, .ref 164, .ref 165, .ref 166, .int 380 0, .int 149 0, .str nm94 381], #[]⟩)).ins 168 (⟨.type PySem.W.SL.s7174869446012820540x8, none, fnD ((bsN pz) 19) nm171 3 (.str nm97 194) (.ref 167) 0, #[]⟩)).ins 169 (⟨.type PySem.W.SL.s2766695959194262286x5, none, .seq #[] 0, #[]⟩))
noncomputable def tr_t2k25 (pz : Program) (P : Params) (D1 D2 D3 D4 : Data) : BT := ((((((((tr_t2k24 pz) P D1 D2 D3 D4).ins 170 (⟨.none, none, .fields #[], #[]⟩)).ins 171 (⟨.type PySem.W.SL.s2766695959194262286x5, none, .seq #[.str nm3 386] 0, #[]⟩)).ins 172 (⟨.type PySem.W.SL.s2766695959194262286x5, none, .seq #[] 0, #[]⟩)).ins 173 (⟨.none, none, fnD ((bsN pz) 20) nm172 0 .none .none 0, #[]⟩)).ins 174 (⟨.type PySem.W.SL.s5856160107412720595x4, none, .fields #[.str nm132 383, .str nm172 384, .str nm94 385, .int 156 0, .int 1 0, .int 0 0, .int 0 0, .int 3 0, .ref 169, .bool true, .int 181 0, .ref 170, .none, .ref 171, .ref 172, .ref 173, .int 387 0, .int 156 0, .str nm94 388], #[]⟩)).ins 175 (⟨.type PySem.W.SL.s7174869446012820540x8, none, fnD ((bsN pz) 20) nm172 3 (.str nm97 194) (.ref 174) 0, #[]⟩))
noncomputable def tr_t2k26 (pz : Program) (P : Params) (D1 D2 D3 D4 : Data) : BT := ((((((((tr_t2k25 pz) P D1 D2 D3 D4).ins 176 (⟨.type PySem.W.SL.s2766695959194262286x5, none, .seq #[] 0, #[]⟩)).ins 177 (⟨.none, none, .fields #[], #[]⟩)).ins 178 (⟨.type PySem.W.SL.s2766695959194262286x5, none, .seq #[.str nm3 393] 0, #[]⟩)).ins 179 (⟨.type PySem.W.SL.s2766695959194262286x5, none, .seq #[] 0, #[]⟩)).ins 180 (⟨.none, none, fnD ((bsN pz) 21) nm173 0 .none .none 0, #[]⟩)).ins 181 (⟨.type PySem.W.SL.s5856160107412720595x4, none, .fields #[.str nm133 390, .str nm173 391, .str nm94 392, .int 159 0, .int 1 0, .int 0 0, .int 0 0, .int 3 0, .ref 176, .bool true, .int 181 0, .ref 177, .none, .ref 178, .ref 179, .ref 180, .int 394 0, .int 159 0, .str nm94 395], #[]⟩))
noncomputable def tr_t2k27 (pz : Program) (P : Params) (D1 D2 D3 D4 : Data) : BT := ((((((((tr_t2k26 pz) P D1 D2 D3 D4).ins 182 (⟨.type PySem.W.SL.s7174869446012820540x8, none, fnD ((bsN pz) 21) nm173 3 (.str nm97 194) (.ref 181) 0, #[]⟩)).ins 183 (⟨.type PySem.W.SL.s2766695959194262286x5, none, .seq #[] 0, #[]⟩)).ins 184 (⟨.none, none, .fields #[], #[]⟩)).ins 185 (⟨.type PySem.W.SL.s2766695959194262286x5, none, .seq #[.str nm3 400, .str nm174 401] 0, #[]⟩)).ins 186 (⟨.type PySem.W.SL.s2766695959194262286x5, none, .seq #[] 0, #[]⟩)).ins 187 (⟨.none, none, fnD ((bsN pz) 22) nm175 0 .none .none 0, #[]⟩))
noncomputable def tr_t2k28 (pz : Program) (P : Params) (D1 D2 D3 D4 : Data) : BT := ((((((((tr_t2k27 pz) P D1 D2 D3 D4).ins 188 (⟨.type PySem.W.SL.s5856160107412720595x4, none, .fields #[.str nm134 397, .str nm175 398, .str nm94 399, .int 162 0, .int 2 0, .int 0 0, .int 0 0, .int 3 0, .ref 183, .bool true, .int 181 0, .ref 184, .none, .ref 185, .ref 186, .ref 187, .int 402 0, .int 162 0, .str nm94 403], #[]⟩)).ins 189 (⟨.type PySem.W.SL.s7174869446012820540x8, none, fnD ((bsN pz) 22) nm175 3 (.str nm97 194) (.ref 188) 0, #[]⟩)).ins 190 (⟨.type PySem.W.SL.s2766695959194262286x5, none, .seq #[] 0, #[]⟩)).ins 191 (⟨.none, none, .fields #[], #[]⟩)).ins 192 (⟨.type PySem.W.SL.s2766695959194262286x5, none, .seq #[.str nm3 408, .str (⟨⟨[nat_lit 119, nat_lit 111, nat_lit 114, nat_lit 100, nat_lit 115]⟩⟩ : Str) 409] 0, #[]⟩)).ins 193 (⟨.type PySem.W.SL.s2766695959194262286x5, none, .seq #[] 0, #[]⟩))
noncomputable def tr_t2k29 (pz : Program) (P : Params) (D1 D2 D3 D4 : Data) : BT := ((((((((tr_t2k28 pz) P D1 D2 D3 D4).ins 194 (⟨.none, none, fnD ((bsN pz) 23) nm177 0 .none .none 0, #[]⟩)).ins 195 (⟨.type PySem.W.SL.s5856160107412720595x4, none, .fields #[.str nm135 405, .str nm177 406, .str nm94 407, .int 167 0, .int 2 0, .int 0 0, .int 0 0, .int 3 0, .ref 190, .bool true, .int 181 0, .ref 191, .none, .ref 192, .ref 193, .ref 194, .int 410 0, .int 167 0, .str nm94 411], #[]⟩)).ins 196 (⟨.type PySem.W.SL.s7174869446012820540x8, none, fnD ((bsN pz) 23) nm177 3 (.str nm97 194) (.ref 195) 0, #[]⟩)).ins 197 (⟨.type PySem.W.SL.s2766695959194262286x5, none, .seq #[.str (⟨⟨[nat_lit 98, nat_lit 114, nat_lit 97]⟩⟩ : Str) 413, .str (⟨⟨[nat_lit 99, nat_lit 117, nat_lit 114, nat_lit 114, nat_lit 101, nat_lit 110, nat_lit 116]⟩⟩ : Str) 414, .str (⟨⟨[nat_lit 99, nat_lit 117, nat_lit 114, nat_lit 115, nat_lit 111, nat_lit 114]⟩⟩ : Str) 415, .str (⟨⟨[nat_lit 107, nat_lit 101, nat_lit 116]⟩⟩ : Str) 416, .str (⟨⟨[nat_lit 108, nat_lit 105, nat_lit 109, nat_lit 105, nat_lit 116]⟩⟩ : Str) 417, .str (⟨⟨[nat_lit 108, nat_lit 105, nat_lit 109, nat_lit 105, nat_lit 116, nat_lit 95, nat_lit 98, nat_lit 97, nat_lit 99, nat_lit 107, nat_lit 119, nat_lit 97, nat_lit 114, nat_lit 100]⟩⟩ : Str) 418] 0, #[]⟩)).ins 198 (⟨.type PySem.W.SL.s14018661285674007319x4, none, .dict #[en P nm109 203 (.str nm97 194), en P nm111 207 (.int 5 206), en P nm112 214 (.ref 35), en P nm113 222 (.ref 42), en P nm114 229 (.ref 49), en P nm115 237 (.ref 56), en P nm116 245 (.ref 63), en P nm117 253 (.ref 70), en P nm118 261 (.ref 77), en P nm119 269 (.ref 84), en P nm120 277 (.ref 91), en P nm121 285 (.ref 98), en P nm122 293 (.ref 105), en P nm123 301 (.ref 112), en P nm124 309 (.ref 119), en P nm125 317 (.ref 126), en P nm126 325 (.ref 133), en P nm127 345 (.ref 140), en P nm128 356 (.ref 147), en P nm129 364 (.ref 154), en P nm130 371 (.ref 161), en P nm131 382 (.ref 168), en P nm132 389 (.ref 175), en P nm133 396 (.ref 182), en P nm134 404 (.ref 189), en P nm135 412 (.ref 196), en P nm136 419 (.ref 197), en P nm184 421 (.ref 200), en P nm185 423 (.ref 201), en P nm98 424 .none] 4, #[]⟩)).ins 199 (⟨.type PySem.W.SL.s17162191345867700912x4, none, .cls { name := nm108, bases := [.type PySem.W.SL.s2742458400755230247x6], mro := [.ref 199, .type PySem.W.SL.s2742458400755230247x6], ns := 198, qualname := nm108, hasDict := true, slotNames := [], subclasses := [], abstract := false, collection := none, hasDel := false }, #[none, none, some (.str nm108 196), some (.str nm108 204), some (.builtin PySem.W.SL.s11443829558043349243x14), some (.bool true)]⟩))
noncomputable def tr_t2 (pz : Program) (P : Params) (D1 D2 D3 D4 : Data) : BT := ((((((tr_t2k29 pz) P D1 D2 D3 D4).ins 200 (⟨.type PySem.W.SL.s14755015743595814543x17, none, .fields #[.str nm184 420, .ref 199, .builtin PySem.W.SL.s6511155373996960695x17, .builtin PySem.W.SL.s12411053484034534018x21], #[]⟩)).ins 201 (⟨.type PySem.W.SL.s14755015743595814543x17, none, .fields #[.str nm185 422, .ref 199, .builtin PySem.W.SL.s10220274742760427390x26, .none], #[]⟩)).ins 202 (⟨.type PySem.W.SL.s4290257624100764138x5, none, .fields #[.ref 199, .ref 199, .ref 199], #[]⟩)).ins 203 (⟨.type PySem.W.SL.s11030030927630378310x26, none, .fields #[.builtin PySem.W.SL.s4860613602091757760x24, .ref 199], #[]⟩))
noncomputable def S_t2 (pz : Program) (w : World) (D1 D2 D3 D4 : Data) (os : OsState) : SharedT := mkS ((tr_t2 pz) w.params D1 D2 D3 D4) 204 427 os
noncomputable def o3_t5 (P : Params) (D1 D2 D3 D4 : Data) : Obj := ⟨.type PySem.W.SL.s14018661285674007319x4, none, .dict #[en P nm96 165 (.str nm186 462), en P nm98 166 .none, en P nm99 167 .none, en P nm100 168 (.builtin PySem.W.SL.s7097527257260152453x26), en P nm101 169 .none, en P nm102 170 (.ref 6), en P nm103 171 (.ref 4), en P nm104 173 (.str nm94 172), en P nm105 174 .none, en P nm106 193 (.ref 21), en P nm108 426 (.ref 199), en P nm187 461 (.ref 220)] 12, #[]⟩
noncomputable def o12_t5 (P : Params) (D1 D2 D3 D4 : Data) : Obj := ⟨.none, none, .fields #[.int 1 0, .int 0 0, .ref 20, .int 5 0, .int 0 0, .ref 27, .int 170 0, .int 0 0, .ref 209], #[]⟩
noncomputable def tr_t5k0 (pz : Program) (P : Params) (D1 D2 D3 D4 : Data) : BT := ((((((((tr_t2 pz) P D1 D2 D3 D4).set 3 fun _ => o3_t5 P D1 D2 D3 D4).set 12 fun _ => o12_t5 P D1 D2 D3 D4).ins 204 (⟨.type PySem.W.SL.s2766695959194262286x5, none, .seq #[] 0, #[]⟩)).ins 205 (⟨.type PySem.W.SL.s11030030927630378310x26, none, .fields #[.builtin PySem.W.SL.s10062305145149207511x16, .type PySem.W.SL.s17162191345867700912x4], #[]⟩)).ins 206 (⟨.type PySem.W.SL.s14018661285674007319x4, none, .dict #[en P nm109 436 (.str nm188 427), en P nm110 438 (.str nm187 437), en P nm111 440 (.int 170 439), en P nm112 450 (.ref 217), en P nm136 454 (.ref 218)] 5, #[]⟩)).ins 207 (⟨.type PySem.W.SL.s2766695959194262286x5, none, .seq #[] 0, #[]⟩))
noncomputable def tr_t5k1 (pz : Program) (P : Params) (D1 D2 D3 D4 : Data) : BT := ((((((((tr_t5k0 pz) P D1 D2 D3 D4).ins 208 (⟨.none, none, .fields #[.int 172 0, .int 4 0, .ref 216], #[]⟩)).ins 209 (⟨.type PySem.W.SL.s5856160107412720595x4, none, .fields #[.str nm187 431, .str nm187 432, .str nm94 433, .int 170 0, .int 0 0, .int 0 0, .int 0 0, .int 0 0, .ref 207, .bool false, .int 181 0, .ref 208, .none, .none, .none, .none, .int 434 0, .int 170 0, .str nm94 435], #[]⟩)).ins 210 (⟨.type PySem.W.SL.s658472552662922059x5, none, .plain, #[some (.ref 209), some (.ref 3), some (.ref 206), none, some (.str nm188 427), none, some (.ref 0)]⟩)).ins 211 (⟨.type PySem.W.SL.s2766695959194262286x5, none, .seq #[] 0, #[]⟩)).ins 212 (⟨.none, none, .fields #[], #[]⟩)).ins 213 (⟨.type PySem.W.SL.s2766695959194262286x5, none, .seq #[.str nm3 444, .str nm0 445, .str nm1 446, .str nm2 447] 0, #[]⟩))
noncomputable def tr_t5k2 (pz : Program) (P : Params) (D1 D2 D3 D4 : Data) : BT := ((((((((tr_t5k1 pz) P D1 D2 D3 D4).ins 214 (⟨.type PySem.W.SL.s2766695959194262286x5, none, .seq #[] 0, #[]⟩)).ins 215 (⟨.none, none, fnD ((amN pz) 0) nm189 0 .none .none 0, #[]⟩)).ins 216 (⟨.type PySem.W.SL.s5856160107412720595x4, none, .fields #[.str nm112 441, .str nm189 442, .str nm94 443, .int 172 0, .int 4 0, .int 0 0, .int 0 0, .int 3 0, .ref 211, .bool true, .int 181 0, .ref 212, .none, .ref 213, .ref 214, .ref 215, .int 448 0, .int 172 0, .str nm94 449], #[]⟩)).ins 217 (⟨.type PySem.W.SL.s7174869446012820540x8, none, fnD ((amN pz) 0) nm189 3 (.str nm188 427) (.ref 216) 0, #[]⟩)).ins 218 (⟨.type PySem.W.SL.s2766695959194262286x5, none, .seq #[.str nm2 451, .str nm0 452, .str nm1 453] 0, #[]⟩)).ins 219 (⟨.type PySem.W.SL.s14018661285674007319x4, none, .dict #[en P nm109 436 (.str nm188 427), en P nm111 440 (.int 170 439), en P nm112 450 (.ref 217), en P nm136 454 (.ref 218), en P nm184 456 (.ref 221), en P nm185 458 (.ref 222), en P nm98 459 .none] 4, #[]⟩))
noncomputable def tr_t5 (pz : Program) (P : Params) (D1 D2 D3 D4 : Data) : BT := (((((((tr_t5k2 pz) P D1 D2 D3 D4).ins 220 (⟨.type PySem.W.SL.s17162191345867700912x4, none, .cls { name := nm187, bases := [.type PySem.W.SL.s2742458400755230247x6], mro := [.ref 220, .type PySem.W.SL.s2742458400755230247x6], ns := 219, qualname := nm187, hasDict := true, slotNames := [], subclasses := [], abstract := false, collection := none, hasDel := false }, #[none, none, some (.str nm187 429), some (.str nm187 437), some (.builtin PySem.W.SL.s11443829558043349243x14), some (.bool true)]⟩)).ins 221 (⟨.type PySem.W.SL.s14755015743595814543x17, none, .fields #[.str nm184 455, .ref 220, .builtin PySem.W.SL.s6511155373996960695x17, .builtin PySem.W.SL.s12411053484034534018x21], #[]⟩)).ins 222 (⟨.type PySem.W.SL.s14755015743595814543x17, none, .fields #[.str nm185 457, .ref 220, .builtin PySem.W.SL.s10220274742760427390x26, .none], #[]⟩)).ins 223 (⟨.type PySem.W.SL.s4290257624100764138x5, none, .fields #[.ref 220, .ref 220, .ref 220], #[]⟩)).ins 224 (⟨.type PySem.W.SL.s11030030927630378310x26, none, .fields #[.builtin PySem.W.SL.s4860613602091757760x24, .ref 220], #[]⟩))
noncomputable def S_t5 (pz : Program) (w : World) (D1 D2 D3 D4 : Data) (os : OsState) : SharedT := mkS ((tr_t5 pz) w.params D1 D2 D3 D4) 225 464 os
noncomputable def o12_clsStart (P : Params) (D1 D2 D3 D4 : Data) : Obj := ⟨.none, none, .fields #[.int 1 0, .int 0 0, .ref 20, .int 5 0, .int 0 0, .ref 27, .int 170 0, .int 0 0, .ref 209, .int 177 0, .int 0 0, .ref 230], #[]⟩
noncomputable def o225_clsStart (P : Params) (D1 D2 D3 D4 : Data) : Obj := ⟨.type PySem.W.SL.s2766695959194262286x5, none, .seq #[.ref 199] 0, #[]⟩
noncomputable def o226_clsStart (P : Params) (D1 D2 D3 D4 : Data) : Obj := ⟨.type PySem.W.SL.s11030030927630378310x26, none, .fields #[.builtin PySem.W.SL.s10062305145149207511x16, .type PySem.W.SL.s17162191345867700912x4], #[]⟩
noncomputable def o227_clsStart (P : Params) (D1 D2 D3 D4 : Data) : Obj := ⟨.type PySem.W.SL.s14018661285674007319x4, none, .dict #[en P nm109 471 (.str nm186 462), en P nm110 473 (.str nm190 472), en P nm111 475 (.int 177 474)] 3, #[]⟩
noncomputable def o228_clsStart (P : Params) (D1 D2 D3 D4 : Data) : Obj := ⟨.type PySem.W.SL.s2766695959194262286x5, none, .seq #[] 0, #[]⟩
noncomputable def o229_clsStart (P : Params) (D1 D2 D3 D4 : Data) : Obj := ⟨.none, none, .fields #[], #[]⟩
noncomputable def o230_clsStart (P : Params) (D1 D2 D3 D4 : Data) : Obj := ⟨.type PySem.W.SL.s5856160107412720595x4, none, .fields #[.str nm190 466, .str nm190 467, .str nm94 468, .int 177 0, .int 0 0, .int 0 0, .int 0 0, .int 0 0, .ref 228, .bool false, .int 181 0, .ref 229, .none, .none, .none, .none, .int 469 0, .int 177 0, .str nm94 470], #[]⟩
noncomputable def o231_clsStart (P : Params) (D1 D2 D3 D4 : Data) : Obj := ⟨.type PySem.W.SL.s658472552662922059x5, none, .plain, #[some (.ref 230), some (.ref 3), some (.ref 227), none, some (.str nm186 462), none, some (.ref 0)]⟩
noncomputable def tr_clsStart (pz : Program) (P : Params) (D1 D2 D3 D4 : Data) : BT := ((((((((((tr_t5 pz) P D1 D2 D3 D4).set 12 fun _ => o12_clsStart P D1 D2 D3 D4).ins 225 (o225_clsStart P D1 D2 D3 D4)).ins 226 (o226_clsStart P D1 D2 D3 D4)).ins 227 (o227_clsStart P D1 D2 D3 D4)).ins 228 (o228_clsStart P D1 D2 D3 D4)).ins 229 (o229_clsStart P D1 D2 D3 D4)).ins 230 (o230_clsStart P D1 D2 D3 D4)).ins 231 (o231_clsStart P D1 D2 D3 D4))
noncomputable def S_clsStart (pz : Program) (w : World) (D1 D2 D3 D4 : Data) (os : OsState) : SharedT := mkS ((tr_clsStart pz) w.params D1 D2 D3 D4) 232 476 os
noncomputable def o227_c0 (P : Params) (D1 D2 D3 D4 : Data) : Obj := ⟨.type PySem.W.SL.s14018661285674007319x4, none, .dict #[en P nm109 471 (.str nm186 462), en P nm110 473 (.str nm190 472), en P nm111 475 (.int 177 474), en P nm191 504 (.ref 232)] 4, #[]⟩
noncomputable def tr_c0 (pz : Program) (P : Params) (D1 D2 D3 D4 : Data) : BT := ((((tr_clsStart pz) P D1 D2 D3 D4).set 227 fun _ => o227_c0 P D1 D2 D3 D4).ins 232 (⟨.type PySem.W.SL.s3642769012341782148x3, none, D1, #[]⟩))
noncomputable def S_c0 (pz : Program) (w : World) (D1 D2 D3 D4 : Data) (os : OsState) : SharedT := mkS ((tr_c0 pz) w.params D1 D2 D3 D4) 233 505 os
noncomputable def o227_c1 (P : Params) (D1 D2 D3 D4 : Data) : Obj := ⟨.type PySem.W.SL.s14018661285674007319x4, none, .dict #[en P nm109 471 (.str nm186 462), en P nm110 473 (.str nm190 472), en P nm111 475 (.int 177 474), en P nm191 504 (.ref 232), en P nm192 537 (.ref 233)] 5, #[]⟩
noncomputable def tr_c1 (pz : Program) (P : Params) (D1 D2 D3 D4 : Data) : BT := ((((tr_c0 pz) P D1 D2 D3 D4).set 227 fun _ => o227_c1 P D1 D2 D3 D4).ins 233 (⟨.type PySem.W.SL.s3642769012341782148x3, none, D2, #[]⟩))
noncomputable def S_c1 (pz : Program) (w : World) (D1 D2 D3 D4 : Data) (os : OsState) : SharedT := mkS ((tr_c1 pz) w.params D1 D2 D3 D4) 234 538 os
noncomputable def o227_c2 (P : Params) (D1 D2 D3 D4 : Data) : Obj := ⟨.type PySem.W.SL.s14018661285674007319x4, none, .dict #[en P nm109 471 (.str nm186 462), en P nm110 473 (.str nm190 472), en P nm111 475 (.int 177 474), en P nm191 504 (.ref 232), en P nm192 537 (.ref 233), en P nm193 550 (.ref 234)] 6, #[]⟩
noncomputable def tr_c2 (pz : Program) (P : Params) (D1 D2 D3 D4 : Data) : BT := ((((tr_c1 pz) P D1 D2 D3 D4).set 227 fun _ => o227_c2 P D1 D2 D3 D4).ins 234 (⟨.type PySem.W.SL.s3642769012341782148x3, none, D3, #[]⟩))
noncomputable def S_c2 (pz : Program) (w : World) (D1 D2 D3 D4 : Data) (os : OsState) : SharedT := mkS ((tr_c2 pz) w.params D1 D2 D3 D4) 235 551 os
noncomputable def o227_c3 (P : Params) (D1 D2 D3 D4 : Data) : Obj := ⟨.type PySem.W.SL.s14018661285674007319x4, none, .dict #[en P nm109 471 (.str nm186 462), en P nm110 473 (.str nm190 472), en P nm111 475 (.int 177 474), en P nm191 504 (.ref 232), en P nm192 537 (.ref 233), en P nm193 550 (.ref 234), en P nm194 579 (.ref 235)] 7, #[]⟩
noncomputable def o235_c3 (P : Params) (D1 D2 D3 D4 : Data) : Obj := ⟨.type PySem.W.SL.s3642769012341782148x3, none, D4, #[]⟩
noncomputable def tr_c3 (pz : Program) (P : Params) (D1 D2 D3 D4 : Data) : BT := ((((tr_c2 pz) P D1 D2 D3 D4).set 227 fun _ => o227_c3 P D1 D2 D3 D4).ins 235 (o235_c3 P D1 D2 D3 D4))
noncomputable def S_c3 (pz : Program) (w : World) (D1 D2 D3 D4 : Data) (os : OsState) : SharedT := mkS ((tr_c3 pz) w.params D1 D2 D3 D4) 236 580 os
noncomputable def o227_c10 (P : Params) (D1 D2 D3 D4 : Data) : Obj := ⟨.type PySem.W.SL.s14018661285674007319x4, none, .dict #[en P nm109 471 (.str nm186 462), en P nm110 473 (.str nm190 472), en P nm111 475 (.int 177 474), en P nm191 504 (.ref 232), en P nm192 537 (.ref 233), en P nm193 550 (.ref 234), en P nm194 579 (.ref 235), en P nm195 581 (.int 0 580), en P nm196 591 (.ref 242), en P nm197 599 (.ref 249), en P nm198 607 (.ref 256), en P nm199 616 (.ref 263), en P nm200 633 (.ref 270), en P nm201 642 (.ref 277)] 14, #[]⟩
noncomputable def o229_c10 (P : Params) (D1 D2 D3 D4 : Data) : Obj := ⟨.none, none, .fields #[.int 184 0, .int 4 0, .ref 241, .int 223 0, .int 4 0, .ref 248, .int 233 0, .int 4 0, .ref 255, .int 243 0, .int 4 0, .ref 262, .int 264 0, .int 4 0, .ref 269, .int 363 0, .int 4 0, .ref 276], #[]⟩
noncomputable def o236_c10 (P : Params) (D1 D2 D3 D4 : Data) : Obj := ⟨.type PySem.W.SL.s2766695959194262286x5, none, .seq #[] 0, #[]⟩
noncomputable def o237_c10 (P : Params) (D1 D2 D3 D4 : Data) : Obj := ⟨.none, none, .fields #[], #[]⟩
noncomputable def o238_c10 (P : Params) (D1 D2 D3 D4 : Data) : Obj := ⟨.type PySem.W.SL.s2766695959194262286x5, none, .seq #[.str nm3 585, .str nm202 586, .str (⟨⟨[nat_lit 73, nat_lit 95, nat_lit 120]⟩⟩ : Str) 587, .str nm204 588] 0, #[]⟩
noncomputable def o239_c10 (P : Params) (D1 D2 D3 D4 : Data) : Obj := ⟨.type PySem.W.SL.s2766695959194262286x5, none, .seq #[] 0, #[]⟩
noncomputable def o240_c10 (pz : Program) (P : Params) (D1 D2 D3 D4 : Data) : Obj := ⟨.none, none, fnD ((clsN pz) 5) nm205 0 .none .none 0, #[]⟩
noncomputable def o241_c10 (P : Params) (D1 D2 D3 D4 : Data) : Obj := ⟨.type PySem.W.SL.s5856160107412720595x4, none, .fields #[.str nm196 582, .str nm205 583, .str nm94 584, .int 184 0, .int 1 0, .int 0 0, .int 0 0, .int 3 0, .ref 236, .bool true, .int 181 0, .ref 237, .none, .ref 238, .ref 239, .ref 240, .int 589 0, .int 184 0, .str nm94 590], #[]⟩
noncomputable def o242_c10 (pz : Program) (P : Params) (D1 D2 D3 D4 : Data) : Obj := ⟨.type PySem.W.SL.s7174869446012820540x8, none, fnD ((clsN pz) 5) nm205 3 (.str nm186 462) (.ref 241) 0, #[]⟩
noncomputable def o243_c10 (P : Params) (D1 D2 D3 D4 : Data) : Obj := ⟨.type PySem.W.SL.s2766695959194262286x5, none, .seq #[] 0, #[]⟩
noncomputable def o244_c10 (P : Params) (D1 D2 D3 D4 : Data) : Obj := ⟨.none, none, .fields #[], #[]⟩
noncomputable def o245_c10 (P : Params) (D1 D2 D3 D4 : Data) : Obj := ⟨.type PySem.W.SL.s2766695959194262286x5, none, .seq #[.str nm3 595, .str nm206 596] 0, #[]⟩
noncomputable def o246_c10 (P : Params) (D1 D2 D3 D4 : Data) : Obj := ⟨.type PySem.W.SL.s2766695959194262286x5, none, .seq #[] 0, #[]⟩
noncomputable def o247_c10 (pz : Program) (P : Params) (D1 D2 D3 D4 : Data) : Obj := ⟨.none, none, fnD ((clsN pz) 6) nm207 0 .none .none 0, #[]⟩
noncomputable def o248_c10 (P : Params) (D1 D2 D3 D4 : Data) : Obj := ⟨.type PySem.W.SL.s5856160107412720595x4, none, .fields #[.str nm197 592, .str nm207 593, .str nm94 594, .int 223 0, .int 1 0, .int 0 0, .int 0 0, .int 3 0, .ref 243, .bool true, .int 181 0, .ref 244, .none, .ref 245, .ref 246, .ref 247, .int 597 0, .int 223 0, .str nm94 598], #[]⟩
noncomputable def o249_c10 (pz : Program) (P : Params) (D1 D2 D3 D4 : Data) : Obj := ⟨.type PySem.W.SL.s7174869446012820540x8, none, fnD ((clsN pz) 6) nm207 3 (.str nm186 462) (.ref 248) 0, #[]⟩
noncomputable def o250_c10 (P : Params) (D1 D2 D3 D4 : Data) : Obj := ⟨.type PySem.W.SL.s2766695959194262286x5, none, .seq #[] 0, #[]⟩
noncomputable def o251_c10 (P : Params) (D1 D2 D3 D4 : Data) : Obj := ⟨.none, none, .fields #[], #[]⟩
noncomputable def o252_c10 (P : Params) (D1 D2 D3 D4 : Data) : Obj := ⟨.type PySem.W.SL.s2766695959194262286x5, none, .seq #[.str nm3 603, .str nm206 604] 0, #[]⟩
noncomputable def o253_c10 (P : Params) (D1 D2 D3 D4 : Data) : Obj := ⟨.type PySem.W.SL.s2766695959194262286x5, none, .seq #[] 0, #[]⟩
noncomputable def o254_c10 (pz : Program) (P : Params) (D1 D2 D3 D4 : Data) : Obj := ⟨.none, none, fnD ((clsN pz) 7) nm208 0 .none .none 0, #[]⟩
noncomputable def o255_c10 (P : Params) (D1 D2 D3 D4 : Data) : Obj := ⟨.type PySem.W.SL.s5856160107412720595x4, none, .fields #[.str nm198 600, .str nm208 601, .str nm94 602, .int 233 0, .int 1 0, .int 0 0, .int 0 0, .int 3 0, .ref 250, .bool true, .int 181 0, .ref 251, .none, .ref 252, .ref 253, .ref 254, .int 605 0, .int 233 0, .str nm94 606], #[]⟩
noncomputable def o256_c10 (pz : Program) (P : Params) (D1 D2 D3 D4 : Data) : Obj := ⟨.type PySem.W.SL.s7174869446012820540x8, none, fnD ((clsN pz) 7) nm208 3 (.str nm186 462) (.ref 255) 0, #[]⟩
noncomputable def o257_c10 (P : Params) (D1 D2 D3 D4 : Data) : Obj := ⟨.type PySem.W.SL.s2766695959194262286x5, none, .seq #[] 0, #[]⟩
noncomputable def o258_c10 (P : Params) (D1 D2 D3 D4 : Data) : Obj := ⟨.none, none, .fields #[], #[]⟩
noncomputable def o259_c10 (P : Params) (D1 D2 D3 D4 : Data) : Obj := ⟨.type PySem.W.SL.s2766695959194262286x5, none, .seq #[.str nm3 611, .str nm206 612, .str nm202 613] 0, #[]⟩
noncomputable def o260_c10 (P : Params) (D1 D2 D3 D4 : Data) : Obj := ⟨.type PySem.W.SL.s2766695959194262286x5, none, .seq #[] 0, #[]⟩
noncomputable def o261_c10 (pz : Program) (P : Params) (D1 D2 D3 D4 : Data) : Obj := ⟨.none, none, fnD ((clsN pz) 8) nm209 0 .none .none 0, #[]⟩
noncomputable def o262_c10 (P : Params) (D1 D2 D3 D4 : Data) : Obj := ⟨.type PySem.W.SL.s5856160107412720595x4, none, .fields #[.str nm199 608, .str nm209 609, .str nm94 610, .int 243 0, .int 1 0, .int 0 0, .int 0 0, .int 3 0, .ref 257, .bool true, .int 181 0, .ref 258, .none, .ref 259, .ref 260, .ref 261, .int 614 0, .int 243 0, .str nm94 615], #[]⟩
noncomputable def o263_c10 (pz : Program) (P : Params) (D1 D2 D3 D4 : Data) : Obj := ⟨.type PySem.W.SL.s7174869446012820540x8, none, fnD ((clsN pz) 8) nm209 3 (.str nm186 462) (.ref 262) 0, #[]⟩
noncomputable def o264_c10 (P : Params) (D1 D2 D3 D4 : Data) : Obj := ⟨.type PySem.W.SL.s2766695959194262286x5, none, .seq #[] 0, #[]⟩
noncomputable def o265_c10 (P : Params) (D1 D2 D3 D4 : Data) : Obj := ⟨.none, none, .fields #[], #[]⟩
noncomputable def o266_c10 (P : Params) (D1 D2 D3 D4 : Data) : Obj := ⟨.type PySem.W.SL.s2766695959194262286x5, none, .seq #[.str nm3 620, .str nm204 621, .str nm206 622, .str (⟨⟨[nat_lit 118, nat_lit 95, nat_lit 51]⟩⟩ : Str) 623, .str (⟨⟨[nat_lit 118, nat_lit 95, nat_lit 52]⟩⟩ : Str) 624, .str (⟨⟨[nat_lit 118, nat_lit 95, nat_lit 53]⟩⟩ : Str) 625, .str (⟨⟨[nat_lit 118, nat_lit 95, nat_lit 54]⟩⟩ : Str) 626, .str (⟨⟨[nat_lit 118, nat_lit 95, nat_lit 55]⟩⟩ : Str) 627, .str (⟨⟨[nat_lit 118, nat_lit 95, nat_lit 56]⟩⟩ : Str) 628, .str (⟨⟨[nat_lit 118, nat_lit 95, nat_lit 57]⟩⟩ : Str) 629, .str (⟨⟨[nat_lit 118, nat_lit 95, nat_lit 49, nat_lit 48]⟩⟩ : Str) 630] 0, #[]⟩
noncomputable def o267_c10 (P : Params) (D1 D2 D3 D4 : Data) : Obj := ⟨.type PySem.W.SL.s2766695959194262286x5, none, .seq #[] 0, #[]⟩
noncomputable def o268_c10 (pz : Program) (P : Params) (D1 D2 D3 D4 : Data) : Obj := ⟨.none, none, fnD ((clsN pz) 9) nm218 0 .none .none 0, #[]⟩
noncomputable def o269_c10 (P : Params) (D1 D2 D3 D4 : Data) : Obj := ⟨.type PySem.W.SL.s5856160107412720595x4, none, .fields #[.str nm200 617, .str nm218 618, .str nm94 619, .int 264 0, .int 1 0, .int 0 0, .int 0 0, .int 3 0, .ref 264, .bool true, .int 181 0, .ref 265, .none, .ref 266, .ref 267, .ref 268, .int 631 0, .int 264 0, .str nm94 632], #[]⟩
noncomputable def o270_c10 (pz : Program) (P : Params) (D1 D2 D3 D4 : Data) : Obj := ⟨.type PySem.W.SL.s7174869446012820540x8, none, fnD ((clsN pz) 9) nm218 3 (.str nm186 462) (.ref 269) 0, #[]⟩
noncomputable def o271_c10 (P : Params) (D1 D2 D3 D4 : Data) : Obj := ⟨.type PySem.W.SL.s2766695959194262286x5, none, .seq #[] 0, #[]⟩
noncomputable def o272_c10 (P : Params) (D1 D2 D3 D4 : Data) : Obj := ⟨.none, none, .fields #[], #[]⟩
noncomputable def o273_c10 (P : Params) (D1 D2 D3 D4 : Data) : Obj := ⟨.type PySem.W.SL.s2766695959194262286x5, none, .seq #[.str nm3 637, .str nm202 638, .str nm204 639] 0, #[]⟩
noncomputable def o274_c10 (P : Params) (D1 D2 D3 D4 : Data) : Obj := ⟨.type PySem.W.SL.s2766695959194262286x5, none, .seq #[] 0, #[]⟩
noncomputable def o275_c10 (pz : Program) (P : Params) (D1 D2 D3 D4 : Data) : Obj := ⟨.none, none, fnD ((clsN pz) 10) nm219 0 .none .none 0, #[]⟩
noncomputable def o276_c10 (P : Params) (D1 D2 D3 D4 : Data) : Obj := ⟨.type PySem.W.SL.s5856160107412720595x4, none, .fields #[.str nm201 634, .str nm219 635, .str nm94 636, .int 363 0, .int 1 0, .int 0 0, .int 0 0, .int 3 0, .ref 271, .bool true, .int 181 0, .ref 272, .none, .ref 273, .ref 274, .ref 275, .int 640 0, .int 363 0, .str nm94 641], #[]⟩
noncomputable def o277_c10 (pz : Program) (P : Params) (D1 D2 D3 D4 : Data) : Obj := ⟨.type PySem.W.SL.s7174869446012820540x8, none, fnD ((clsN pz) 10) nm219 3 (.str nm186 462) (.ref 276) 0, #[]⟩
noncomputable def tr_c10k0 (pz : Program) (P : Params) (D1 D2 D3 D4 : Data) : BT := ((((((((tr_c3 pz) P D1 D2 D3 D4).set 227 fun _ => o227_c10 P D1 D2 D3 D4).set 229 fun _ => o229_c10 P D1 D2 D3 D4).ins 236 (o236_c10 P D1 D2 D3 D4)).ins 237 (o237_c10 P D1 D2 D3 D4)).ins 238 (o238_c10 P D1 D2 D3 D4)).ins 239 (o239_c10 P D1 D2 D3 D4))
noncomputable def tr_c10k1 (pz : Program) (P : Params) (D1 D2 D3 D4 : Data) : BT := ((((((((tr_c10k0 pz) P D1 D2 D3 D4).ins 240 ((o240_c10 pz) P D1 D2 D3 D4)).ins 241 (o241_c10 P D1 D2 D3 D4)).ins 242 ((o242_c10 pz) P D1 D2 D3 D4)).ins 243 (o243_c10 P D1 D2 D3 D4)).ins 244 (o244_c10 P D1 D2 D3 D4)).ins 245 (o245_c10 P D1 D2 D3 D4))
noncomputable def tr_c10k2 (pz : Program) (P : Params) (D1 D2 D3 D4 : Data) : BT := ((((((((tr_c10k1 pz) P D1 D2 D3 D4).ins 246 (o246_c10 P D1 D2 D3 D4)).ins 247 ((o247_c10 pz) P D1 D2 D3 D4)).ins 248 (o248_c10 P D1 D2 D3 D4)).ins 249 ((o249_c10 pz) P D1 D2 D3 D4)).ins 250 (o250_c10 P D1 D2 D3 D4)).ins 251 (o251_c10 P D1 D2 D3 D4))
noncomputable def tr_c10k3 (pz : Program) (P : Params) (D1 D2 D3 D4 : Data) : BT := ((((((((tr_c10k2 pz) P D1 D2 D3 D4).ins 252 (o252_c10 P D1 D2 D3 D4)).ins 253 (o253_c10 P D1 D2 D3 D4)).ins 254 ((o254_c10 pz) P D1 D2 D3 D4)).ins 255 (o255_c10 P D1 D2 D3 D4)).ins 256 ((o256_c10 pz) P D1 D2 D3 D4)).ins 257 (o257_c10 P D1 D2 D3 D4))
noncomputable def tr_c10k4 (pz : Program) (P : Params) (D1 D2 D3 D4 : Data) : BT := ((((((((tr_c10k3 pz) P D1 D2 D3 D4).ins 258 (o258_c10 P D1 D2 D3 D4)).ins 259 (o259_c10 P D1 D2 D3 D4)).ins 260 (o260_c10 P D1 D2 D3 D4)).ins 261 ((o261_c10 pz) P D1 D2 D3 D4)).ins 262 (o262_c10 P D1 D2 D3 D4)).ins 263 ((o263_c10 pz) P D1 D2 D3 D4))
noncomputable def tr_c10k5 (pz : Program) (P : Params) (D1 D2 D3 D4 : Data) : BT := ((((((((tr_c10k4 pz) P D1 D2 D3 D4).ins 264 (o264_c10 P D1 D2 D3 D4)).ins 265 (o265_c10 P D1 D2 D3 D4)).ins 266 (o266_c10 P D1 D2 D3 D4)).ins 267 (o267_c10 P D1 D2 D3 D4)).ins 268 ((o268_c10 pz) P D1 D2 D3 D4)).ins 269 (o269_c10 P D1 D2 D3 D4))
noncomputable def tr_c10k6 (pz : Program) (P : Params) (D1 D2 D3 D4 : Data) : BT := ((((((((tr_c10k5 pz) P D1 D2 D3 D4).ins 270 ((o270_c10 pz) P D1 D2 D3 D4)).ins 271 (o271_c10 P D1 D2 D3 D4)).ins 272 (o272_c10 P D1 D2 D3 D4)).ins 273 (o273_c10 P D1 D2 D3 D4)).ins 274 (o274_c10 P D1 D2 D3 D4)).ins 275 ((o275_c10 pz) P D1 D2 D3 D4))
noncomputable def tr_c10 (pz : Program) (P : Params) (D1 D2 D3 D4 : Data) : BT := ((((tr_c10k6 pz) P D1 D2 D3 D4).ins 276 (o276_c10 P D1 D2 D3 D4)).ins 277 ((o277_c10 pz) P D1 D2 D3 D4))
noncomputable def S_c10 (pz : Program) (w : World) (D1 D2 D3 D4 : Data) (os : OsState) : SharedT := mkS ((tr_c10 pz) w.params D1 D2 D3 D4) 278 643 os
noncomputable def stAt0 (pz : Program) (i : Nat) (w : World) (D1 D2 D3 D4 : Data) (os : OsState) : SharedT := (rows0.take i).foldl (amStep w.params) ((S_c10 pz) w D1 D2 D3 D4 os)
noncomputable def vals0 : List Value := .ref 279 :: .ref 282 :: .ref 285 :: .ref 288 :: .ref 291 :: []
noncomputable def o293_c11 (P : Params) (D1 D2 D3 D4 : Data) : Obj := ⟨.type PySem.W.SL.s9222952809800978799x4, none, .seq vals0.toArray 0, #[]⟩
noncomputable def o227_c11 (P : Params) (D1 D2 D3 D4 : Data) : Obj := ⟨.type PySem.W.SL.s14018661285674007319x4, none, .dict #[en P nm109 471 (.str nm186 462), en P nm110 473 (.str nm190 472), en P nm111 475 (.int 177 474), en P nm191 504 (.ref 232), en P nm192 537 (.ref 233), en P nm193 550 (.ref 234), en P nm194 579 (.ref 235), en P nm195 581 (.int 0 580), en P nm196 591 (.ref 242), en P nm197 599 (.ref 249), en P nm198 607 (.ref 256), en P nm199 616 (.ref 263), en P nm200 633 (.ref 270), en P nm201 642 (.ref 277), en P nm220 712 (.ref 293)] 15, #[]⟩
noncomputable def S_c11 (pz : Program) (w : World) (D1 D2 D3 D4 : Data) (os : OsState) : SharedT := mkS ((((stAt0 pz) 5 w D1 D2 D3 D4 os).tree.ins 293 (o293_c11 w.params D1 D2 D3 D4)).set 227 fun _ => o227_c11 w.params D1 D2 D3 D4) 294 713 os
noncomputable def o227_c12 (P : Params) (D1 D2 D3 D4 : Data) : Obj := ⟨.type PySem.W.SL.s14018661285674007319x4, none, .dict #[en P nm109 471 (.str nm186 462), en P nm110 473 (.str nm190 472), en P nm111 475 (.int 177 474), en P nm191 504 (.ref 232), en P nm192 537 (.ref 233), en P nm193 550 (.ref 234), en P nm194 579 (.ref 235), en P nm195 581 (.int 0 580), en P nm196 591 (.ref 242), en P nm197 599 (.ref 249), en P nm198 607 (.ref 256), en P nm199 616 (.ref 263), en P nm200 633 (.ref 270), en P nm201 642 (.ref 277), en P nm220 712 (.ref 293), en P nm221 715 (.ref 294)] 16, #[]⟩
noncomputable def o294_c12 (P : Params) (D1 D2 D3 D4 : Data) : Obj := ⟨.type PySem.W.SL.s2766695959194262286x5, none, .seq #[.str nm107 713, .str (⟨⟨[nat_lit 237, nat_lit 110, nat_lit 107]⟩⟩ : Str) 714] 0, #[]⟩
noncomputable def S_c12 (pz : Program) (w : World) (D1 D2 D3 D4 : Data) (os : OsState) : SharedT := mkS ((((S_c11 pz) w D1 D2 D3 D4 os).tree.set 227 fun _ => o227_c12 w.params D1 D2 D3 D4).ins 294 (o294_c12 w.params D1 D2 D3 D4)) 295 716 os
noncomputable def stAt1 (pz : Program) (i : Nat) (w : World) (D1 D2 D3 D4 : Data) (os : OsState) : SharedT := (rows1.take i).foldl (amStep w.params) ((S_c12 pz) w D1 D2 D3 D4 os)
noncomputable def vals1 : List Value := .ref 296 :: .ref 299 :: .ref 302 :: .ref 305 :: .ref 308 :: .ref 311 :: .ref 314 :: .ref 317 :: .ref 320 :: .ref 323 :: .ref 326 :: .ref 329 :: .ref 332 :: []
noncomputable def o334_c13 (P : Params) (D1 D2 D3 D4 : Data) : Obj := ⟨.type PySem.W.SL.s9222952809800978799x4, none, .seq vals1.toArray 0, #[]⟩
noncomputable def o227_c13 (P : Params) (D1 D2 D3 D4 : Data) : Obj := ⟨.type PySem.W.SL.s14018661285674007319x4, none, .dict #[en P nm109 471 (.str nm186 462), en P nm110 473 (.str nm190 472), en P nm111 475 (.int 177 474), en P nm191 504 (.ref 232), en P nm192 537 (.ref 233), en P nm193 550 (.ref 234), en P nm194 579 (.ref 235), en P nm195 581 (.int 0 580), en P nm196 591 (.ref 242), en P nm197 599 (.ref 249), en P nm198 607 (.ref 256), en P nm199 616 (.ref 263), en P nm200 633 (.ref 270), en P nm201 642 (.ref 277), en P nm220 712 (.ref 293), en P nm221 715 (.ref 294), en P nm223 897 (.ref 334)] 17, #[]⟩
noncomputable def S_c13 (pz : Program) (w : World) (D1 D2 D3 D4 : Data) (os : OsState) : SharedT := mkS ((((stAt1 pz) 13 w D1 D2 D3 D4 os).tree.ins 334 (o334_c13 w.params D1 D2 D3 D4)).set 227 fun _ => o227_c13 w.params D1 D2 D3 D4) 335 898 os
noncomputable def o227_c14 (P : Params) (D1 D2 D3 D4 : Data) : Obj := ⟨.type PySem.W.SL.s14018661285674007319x4, none, .dict #[en P nm109 471 (.str nm186 462), en P nm110 473 (.str nm190 472), en P nm111 475 (.int 177 474), en P nm191 504 (.ref 232), en P nm192 537 (.ref 233), en P nm193 550 (.ref 234), en P nm194 579 (.ref 235), en P nm195 581 (.int 0 580), en P nm196 591 (.ref 242), en P nm197 599 (.ref 249), en P nm198 607 (.ref 256), en P nm199 616 (.ref 263), en P nm200 633 (.ref 270), en P nm201 642 (.ref 277), en P nm220 712 (.ref 293), en P nm221 715 (.ref 294), en P nm223 897 (.ref 334), en P nm224 902 (.ref 335)] 18, #[]⟩
noncomputable def o335_c14 (P : Params) (D1 D2 D3 D4 : Data) : Obj := ⟨.type PySem.W.SL.s2766695959194262286x5, none, .seq #[.str nm107 898, .str (⟨⟨[nat_lit 237, nat_lit 110, nat_lit 107]⟩⟩ : Str) 899, .str (⟨⟨[nat_lit 99, nat_lit 107]⟩⟩ : Str) 900, .str (⟨⟨[nat_lit 115, nat_lit 107]⟩⟩ : Str) 901] 0, #[]⟩
noncomputable def S_c14 (pz : Program) (w : World) (D1 D2 D3 D4 : Data) (os : OsState) : SharedT := mkS ((((S_c13 pz) w D1 D2 D3 D4 os).tree.set 227 fun _ => o227_c14 w.params D1 D2 D3 D4).ins 335 (o335_c14 w.params D1 D2 D3 D4)) 336 903 os
noncomputable def stAt2 (pz : Program) (i : Nat) (w : World) (D1 D2 D3 D4 : Data) (os : OsState) : SharedT := (rows2.take i).foldl (amStep w.params) ((S_c14 pz) w D1 D2 D3 D4 os)
noncomputable def vals2 : List Value := .ref 337 :: .ref 340 :: .ref 343 :: []
noncomputable def o345_c15 (P : Params) (D1 D2 D3 D4 : Data) : Obj := ⟨.type PySem.W.SL.s9222952809800978799x4, none, .seq vals2.toArray 0, #[]⟩
noncomputable def o227_c15 (P : Params) (D1 D2 D3 D4 : Data) : Obj := ⟨.type PySem.W.SL.s14018661285674007319x4, none, .dict #[en P nm109 471 (.str nm186 462), en P nm110 473 (.str nm190 472), en P nm111 475 (.int 177 474), en P nm191 504 (.ref 232), en P nm192 537 (.ref 233), en P nm193 550 (.ref 234), en P nm194 579 (.ref 235), en P nm195 581 (.int 0 580), en P nm196 591 (.ref 242), en P nm197 599 (.ref 249), en P nm198 607 (.ref 256), en P nm199 616 (.ref 263), en P nm200 633 (.ref 270), en P nm201 642 (.ref 277), en P nm220 712 (.ref 293), en P nm221 715 (.ref 294), en P nm223 897 (.ref 334), en P nm224 902 (.ref 335), en P nm227 945 (.ref 345)] 19, #[]⟩
noncomputable def S_c15 (pz : Program) (w : World) (D1 D2 D3 D4 : Data) (os : OsState) : SharedT := mkS ((((stAt2 pz) 3 w D1 D2 D3 D4 os).tree.ins 345 (o345_c15 w.params D1 D2 D3 D4)).set 227 fun _ => o227_c15 w.params D1 D2 D3 D4) 346 946 os
noncomputable def stAt3 (pz : Program) (i : Nat) (w : World) (D1 D2 D3 D4 : Data) (os : OsState) : SharedT := (rows3.take i).foldl (amStep w.params) ((S_c15 pz) w D1 D2 D3 D4 os)
noncomputable def vals3 : List Value := .ref 347 :: .ref 350 :: .ref 353 :: .ref 356 :: .ref 359 :: .ref 362 :: .ref 365 :: .ref 368 :: .ref 371 :: []
noncomputable def o373_c16 (P : Params) (D1 D2 D3 D4 : Data) : Obj := ⟨.type PySem.W.SL.s9222952809800978799x4, none, .seq vals3.toArray 0, #[]⟩
noncomputable def o227_c16 (P : Params) (D1 D2 D3 D4 : Data) : Obj := ⟨.type PySem.W.SL.s14018661285674007319x4, none, .dict #[en P nm109 471 (.str nm186 462), en P nm110 473 (.str nm190 472), en P nm111 475 (.int 177 474), en P nm191 504 (.ref 232), en P nm192 537 (.ref 233), en P nm193 550 (.ref 234), en P nm194 579 (.ref 235), en P nm195 581 (.int 0 580), en P nm196 591 (.ref 242), en P nm197 599 (.ref 249), en P nm198 607 (.ref 256), en P nm199 616 (.ref 263), en P nm200 633 (.ref 270), en P nm201 642 (.ref 277), en P nm220 712 (.ref 293), en P nm221 715 (.ref 294), en P nm223 897 (.ref 334), en P nm224 902 (.ref 335), en P nm227 945 (.ref 345), en P nm228 1064 (.ref 373)] 20, #[]⟩
noncomputable def S_c16 (pz : Program) (w : World) (D1 D2 D3 D4 : Data) (os : OsState) : SharedT := mkS ((((stAt3 pz) 9 w D1 D2 D3 D4 os).tree.ins 373 (o373_c16 w.params D1 D2 D3 D4)).set 227 fun _ => o227_c16 w.params D1 D2 D3 D4) 374 1065 os
noncomputable def o227_c17 (P : Params) (D1 D2 D3 D4 : Data) : Obj := ⟨.type PySem.W.SL.s14018661285674007319x4, none, .dict #[en P nm109 471 (.str nm186 462), en P nm110 473 (.str nm190 472), en P nm111 475 (.int 177 474), en P nm191 504 (.ref 232), en P nm192 537 (.ref 233), en P nm193 550 (.ref 234), en P nm194 579 (.ref 235), en P nm195 581 (.int 0 580), en P nm196 591 (.ref 242), en P nm197 599 (.ref 249), en P nm198 607 (.ref 256), en P nm199 616 (.ref 263), en P nm200 633 (.ref 270), en P nm201 642 (.ref 277), en P nm220 712 (.ref 293), en P nm221 715 (.ref 294), en P nm223 897 (.ref 334), en P nm224 902 (.ref 335), en P nm227 945 (.ref 345), en P nm228 1064 (.ref 373), en P nm229 1067 (.ref 374)] 21, #[]⟩
noncomputable def o374_c17 (P : Params) (D1 D2 D3 D4 : Data) : Obj := ⟨.type PySem.W.SL.s2766695959194262286x5, none, .seq #[.str (⟨⟨[]⟩⟩ : Str) 1065, .str nm76 1066] 0, #[]⟩
noncomputable def S_c17 (pz : Program) (w : World) (D1 D2 D3 D4 : Data) (os : OsState) : SharedT := mkS ((((S_c16 pz) w D1 D2 D3 D4 os).tree.set 227 fun _ => o227_c17 w.params D1 D2 D3 D4).ins 374 (o374_c17 w.params D1 D2 D3 D4)) 375 1068 os
noncomputable def stAt4 (pz : Program) (i : Nat) (w : World) (D1 D2 D3 D4 : Data) (os : OsState) : SharedT := (rows4.take i).foldl (amStep w.params) ((S_c17 pz) w D1 D2 D3 D4 os)
noncomputable def vals4 : List Value := .ref 376 :: .ref 379 :: .ref 382 :: []
noncomputable def o384_c18 (P : Params) (D1 D2 D3 D4 : Data) : Obj := ⟨.type PySem.W.SL.s9222952809800978799x4, none, .seq vals4.toArray 0, #[]⟩
noncomputable def o227_c18 (P : Params) (D1 D2 D3 D4 : Data) : Obj := ⟨.type PySem.W.SL.s14018661285674007319x4, none, .dict #[en P nm109 471 (.str nm186 462), en P nm110 473 (.str nm190 472), en P nm111 475 (.int 177 474), en P nm191 504 (.ref 232), en P nm192 537 (.ref 233), en P nm193 550 (.ref 234), en P nm194 579 (.ref 235), en P nm195 581 (.int 0 580), en P nm196 591 (.ref 242), en P nm197 599 (.ref 249), en P nm198 607 (.ref 256), en P nm199 616 (.ref 263), en P nm200 633 (.ref 270), en P nm201 642 (.ref 277), en P nm220 712 (.ref 293), en P nm221 715 (.ref 294), en P nm223 897 (.ref 334), en P nm224 902 (.ref 335), en P nm227 945 (.ref 345), en P nm228 1064 (.ref 373), en P nm229 1067 (.ref 374), en P nm230 1113 (.ref 384)] 22, #[]⟩
noncomputable def S_c18 (pz : Program) (w : World) (D1 D2 D3 D4 : Data) (os : OsState) : SharedT := mkS ((((stAt4 pz) 3 w D1 D2 D3 D4 os).tree.ins 384 (o384_c18 w.params D1 D2 D3 D4)).set 227 fun _ => o227_c18 w.params D1 D2 D3 D4) 385 1114 os
noncomputable def stAt5 (pz : Program) (i : Nat) (w : World) (D1 D2 D3 D4 : Data) (os : OsState) : SharedT := (rows5.take i).foldl (amStep w.params) ((S_c18 pz) w D1 D2 D3 D4 os)
noncomputable def vals5 : List Value := .ref 386 :: .ref 389 :: .ref 392 :: .ref 395 :: .ref 398 :: []
noncomputable def o400_c19 (P : Params) (D1 D2 D3 D4 : Data) : Obj := ⟨.type PySem.W.SL.s9222952809800978799x4, none, .seq vals5.toArray 0, #[]⟩
noncomputable def o227_c19 (P : Params) (D1 D2 D3 D4 : Data) : Obj := ⟨.type PySem.W.SL.s14018661285674007319x4, none, .dict #[en P nm109 471 (.str nm186 462), en P nm110 473 (.str nm190 472), en P nm111 475 (.int 177 474), en P nm191 504 (.ref 232), en P nm192 537 (.ref 233), en P nm193 550 (.ref 234), en P nm194 579 (.ref 235), en P nm195 581 (.int 0 580), en P nm196 591 (.ref 242), en P nm197 599 (.ref 249), en P nm198 607 (.ref 256), en P nm199 616 (.ref 263), en P nm200 633 (.ref 270), en P nm201 642 (.ref 277), en P nm220 712 (.ref 293), en P nm221 715 (.ref 294), en P nm223 897 (.ref 334), en P nm224 902 (.ref 335), en P nm227 945 (.ref 345), en P nm228 1064 (.ref 373), en P nm229 1067 (.ref 374), en P nm230 1113 (.ref 384), en P nm231 1189 (.ref 400)] 23, #[]⟩
noncomputable def S_c19 (pz : Program) (w : World) (D1 D2 D3 D4 : Data) (os : OsState) : SharedT := mkS ((((stAt5 pz) 5 w D1 D2 D3 D4 os).tree.ins 400 (o400_c19 w.params D1 D2 D3 D4)).set 227 fun _ => o227_c19 w.params D1 D2 D3 D4) 401 1190 os
noncomputable def stAt6 (pz : Program) (i : Nat) (w : World) (D1 D2 D3 D4 : Data) (os : OsState) : SharedT := (rows6.take i).foldl (amStep w.params) ((S_c19 pz) w D1 D2 D3 D4 os)
noncomputable def vals6 : List Value := .ref 402 :: .ref 405 :: .ref 408 :: .ref 411 :: .ref 414 :: .ref 417 :: .ref 420 :: .ref 423 :: .ref 426 :: .ref 429 :: .ref 432 :: .ref 435 :: .ref 438 :: .ref 441 :: .ref 444 :: .ref 447 :: .ref 450 :: .ref 453 :: .ref 456 :: .ref 459 :: .ref 462 :: .ref 465 :: .ref 468 :: .ref 471 :: .ref 474 :: .ref 477 :: .ref 480 :: .ref 483 :: .ref 486 :: .ref 489 :: .ref 492 :: .ref 495 :: .ref 498 :: .ref 501 :: .ref 504 :: .ref 507 :: .ref 510 :: .ref 513 :: .ref 516 :: .ref 519 :: .ref 522 :: .ref 525 :: .ref 528 :: .ref 531 :: .ref 534 :: .ref 537 :: .ref 540 :: .ref 543 :: .ref 546 :: .ref 549 :: .ref 552 :: .ref 555 :: .ref 558 :: .ref 561 :: .ref 564 :: .ref 567 :: .ref 570 :: .ref 573 :: []
noncomputable def o575_c20 (P : Params) (D1 D2 D3 D4 : Data) : Obj := ⟨.type PySem.W.SL.s9222952809800978799x4, none, .seq vals6.toArray 0, #[]⟩
noncomputable def o227_c20 (P : Params) (D1 D2 D3 D4 : Data) : Obj := ⟨.type PySem.W.SL.s14018661285674007319x4, none, .dict #[en P nm109 471 (.str nm186 462), en P nm110 473 (.str nm190 472), en P nm111 475 (.int 177 474), en P nm191 504 (.ref 232), en P nm192 537 (.ref 233), en P nm193 550 (.ref 234), en P nm194 579 (.ref 235), en P nm195 581 (.int 0 580), en P nm196 591 (.ref 242), en P nm197 599 (.ref 249), en P nm198 607 (.ref 256), en P nm199 616 (.ref 263), en P nm200 633 (.ref 270), en P nm201 642 (.ref 277), en P nm220 712 (.ref 293), en P nm221 715 (.ref 294), en P nm223 897 (.ref 334), en P nm224 902 (.ref 335), en P nm227 945 (.ref 345), en P nm228 1064 (.ref 373), en P nm229 1067 (.ref 374), en P nm230 1113 (.ref 384), en P nm231 1189 (.ref 400), en P nm232 1977 (.ref 575)] 24, #[]⟩
noncomputable def S_c20 (pz : Program) (w : World) (D1 D2 D3 D4 : Data) (os : OsState) : SharedT := mkS ((((stAt6 pz) 58 w D1 D2 D3 D4 os).tree.ins 575 (o575_c20 w.params D1 D2 D3 D4)).set 227 fun _ => o227_c20 w.params D1 D2 D3 D4) 576 1978 os
noncomputable def o3_t6 (P : Params) (D1 D2 D3 D4 : Data) : Obj := ⟨.type PySem.W.SL.s14018661285674007319x4, none, .dict #[en P nm96 165 (.str nm186 462), en P nm98 166 .none, en P nm99 167 .none, en P nm100 168 (.builtin PySem.W.SL.s7097527257260152453x26), en P nm101 169 .none, en P nm102 170 (.ref 6), en P nm103 171 (.ref 4), en P nm104 173 (.str nm94 172), en P nm105 174 .none, en P nm106 193 (.ref 21), en P nm108 426 (.ref 199), en P nm187 461 (.ref 220), en P nm190 1986 (.ref 578)] 13, #[]⟩
noncomputable def o199_t6 (P : Params) (D1 D2 D3 D4 : Data) : Obj := ⟨.type PySem.W.SL.s17162191345867700912x4, none, .cls { name := nm108, bases := [.type PySem.W.SL.s2742458400755230247x6], mro := [.ref 199, .type PySem.W.SL.s2742458400755230247x6], ns := 198, qualname := nm108, hasDict := true, slotNames := [], subclasses := [.ref 578], abstract := false, collection := none, hasDel := false }, #[none, none, some (.str nm108 196), some (.str nm108 204), some (.builtin PySem.W.SL.s11443829558043349243x14), some (.bool true)]⟩
noncomputable def o227_t6 (P : Params) (D1 D2 D3 D4 : Data) : Obj := ⟨.type PySem.W.SL.s14018661285674007319x4, none, .dict #[en P nm109 471 (.str nm186 462), en P nm110 473 (.str nm190 472), en P nm111 475 (.int 177 474), en P nm191 504 (.ref 232), en P nm192 537 (.ref 233), en P nm193 550 (.ref 234), en P nm194 579 (.ref 235), en P nm195 581 (.int 0 580), en P nm196 591 (.ref 242), en P nm197 599 (.ref 249), en P nm198 607 (.ref 256), en P nm199 616 (.ref 263), en P nm200 633 (.ref 270), en P nm201 642 (.ref 277), en P nm220 712 (.ref 293), en P nm221 715 (.ref 294), en P nm223 897 (.ref 334), en P nm224 902 (.ref 335), en P nm227 945 (.ref 345), en P nm228 1064 (.ref 373), en P nm229 1067 (.ref 374), en P nm230 1113 (.ref 384), en P nm231 1189 (.ref 400), en P nm232 1977 (.ref 575), en P nm136 1983 (.ref 576)] 25, #[]⟩
noncomputable def o576_t6 (P : Params) (D1 D2 D3 D4 : Data) : Obj := ⟨.type PySem.W.SL.s2766695959194262286x5, none, .seq #[.str nm195 1978, .str (⟨⟨[nat_lit 98, nat_lit 114, nat_lit 97]⟩⟩ : Str) 1979, .str (⟨⟨[nat_lit 99, nat_lit 117, nat_lit 114, nat_lit 115, nat_lit 111, nat_lit 114]⟩⟩ : Str) 1980, .str (⟨⟨[nat_lit 107, nat_lit 101, nat_lit 116]⟩⟩ : Str) 1981, .str (⟨⟨[nat_lit 108, nat_lit 105, nat_lit 109, nat_lit 105, nat_lit 116, nat_lit 95, nat_lit 98, nat_lit 97, nat_lit 99, nat_lit 107, nat_lit 119, nat_lit 97, nat_lit 114, nat_lit 100]⟩⟩ : Str) 1982] 0, #[]⟩
noncomputable def o577_t6 (P : Params) (D1 D2 D3 D4 : Data) : Obj := ⟨.type PySem.W.SL.s14018661285674007319x4, none, .dict #[en P nm109 471 (.str nm186 462), en P nm111 475 (.int 177 474), en P nm191 504 (.ref 232), en P nm192 537 (.ref 233), en P nm193 550 (.ref 234), en P nm194 579 (.ref 235), en P nm195 581 (.int 0 580), en P nm196 591 (.ref 242), en P nm197 599 (.ref 249), en P nm198 607 (.ref 256), en P nm199 616 (.ref 263), en P nm200 633 (.ref 270), en P nm201 642 (.ref 277), en P nm220 712 (.ref 293), en P nm221 715 (.ref 294), en P nm223 897 (.ref 334), en P nm224 902 (.ref 335), en P nm227 945 (.ref 345), en P nm228 1064 (.ref 373), en P nm229 1067 (.ref 374), en P nm230 1113 (.ref 384), en P nm231 1189 (.ref 400), en P nm232 1977 (.ref 575), en P nm136 1983 (.ref 576), en P nm98 1984 .none] 2, #[]⟩
noncomputable def o578_t6 (P : Params) (D1 D2 D3 D4 : Data) : Obj := ⟨.type PySem.W.SL.s17162191345867700912x4, none, .cls { name := nm190, bases := [.ref 199], mro := [.ref 578, .ref 199, .type PySem.W.SL.s2742458400755230247x6], ns := 577, qualname := nm190, hasDict := true, slotNames := [], subclasses := [], abstract := false, collection := none, hasDel := false }, #[some (.ref 225), none, some (.str nm190 464), some (.str nm190 472), some (.builtin PySem.W.SL.s11443829558043349243x14), some (.bool true)]⟩
noncomputable def o579_t6 (P : Params) (D1 D2 D3 D4 : Data) : Obj := ⟨.type PySem.W.SL.s4290257624100764138x5, none, .fields #[.ref 578, .ref 578, .ref 578], #[]⟩
noncomputable def o580_t6 (P : Params) (D1 D2 D3 D4 : Data) : Obj := ⟨.type PySem.W.SL.s11030030927630378310x26, none, .fields #[.builtin PySem.W.SL.s4860613602091757760x24, .ref 578], #[]⟩
noncomputable def S_t6 (pz : Program) (w : World) (D1 D2 D3 D4 : Data) (os : OsState) : SharedT := mkS ((((((((((S_c20 pz) w D1 D2 D3 D4 os).tree.set 3 fun _ => o3_t6 w.params D1 D2 D3 D4).set 199 fun _ => o199_t6 w.params D1 D2 D3 D4).set 227 fun _ => o227_t6 w.params D1 D2 D3 D4).ins 576 (o576_t6 w.params D1 D2 D3 D4)).ins 577 (o577_t6 w.params D1 D2 D3 D4)).ins 578 (o578_t6 w.params D1 D2 D3 D4)).ins 579 (o579_t6 w.params D1 D2 D3 D4)).ins 580 (o580_t6 w.params D1 D2 D3 D4)) 581 1987 os
noncomputable def o2_t8 (P : Params) (D1 D2 D3 D4 : Data) : Obj := ⟨.none, none, .dict #[en P (⟨⟨[nat_lit 116, nat_lit 121, nat_lit 112, nat_lit 101, nat_lit 46, nat_lit 95, nat_lit 95, nat_lit 115, nat_lit 117, nat_lit 98, nat_lit 99, nat_lit 108, nat_lit 97, nat_lit 115, nat_lit 115, nat_lit 101, nat_lit 115, nat_lit 95, nat_lit 95, nat_lit 46, nat_lit 69, nat_lit 120, nat_lit 99, nat_lit 101, nat_lit 112, nat_lit 116, nat_lit 105, nat_lit 111, nat_lit 110, nat_lit 46, nat_lit 48]⟩⟩ : Str) 2003 (.int 590 0), en P (⟨⟨[nat_lit 116, nat_lit 121, nat_lit 112, nat_lit 101, nat_lit 46, nat_lit 95, nat_lit 95, nat_lit 115, nat_lit 117, nat_lit 98, nat_lit 99, nat_lit 108, nat_lit 97, nat_lit 115, nat_lit 115, nat_lit 101, nat_lit 115, nat_lit 95, nat_lit 95, nat_lit 46, nat_lit 69, nat_lit 120, nat_lit 99, nat_lit 101, nat_lit 112, nat_lit 116, nat_lit 105, nat_lit 111, nat_lit 110, nat_lit 46, nat_lit 110]⟩⟩ : Str) 2004 (.int 2 0), en P (⟨⟨[nat_lit 116, nat_lit 121, nat_lit 112, nat_lit 101, nat_lit 46, nat_lit 95, nat_lit 95, nat_lit 115, nat_lit 117, nat_lit 98, nat_lit 99, nat_lit 108, nat_lit 97, nat_lit 115, nat_lit 115, nat_lit 101, nat_lit 115, nat_lit 95, nat_lit 95, nat_lit 46, nat_lit 69, nat_lit 120, nat_lit 99, nat_lit 101, nat_lit 112, nat_lit 116, nat_lit 105, nat_lit 111, nat_lit 110, nat_lit 46, nat_lit 49]⟩⟩ : Str) 2023 (.int 603 0)] 3, #[]⟩
noncomputable def o3_t8 (P : Params) (D1 D2 D3 D4 : Data) : Obj := ⟨.type PySem.W.SL.s14018661285674007319x4, none, .dict #[en P nm96 165 (.str nm186 462), en P nm98 166 .none, en P nm99 167 .none, en P nm100 168 (.builtin PySem.W.SL.s7097527257260152453x26), en P nm101 169 .none, en P nm102 170 (.ref 6), en P nm103 171 (.ref 4), en P nm104 173 (.str nm94 172), en P nm105 174 .none, en P nm106 193 (.ref 21), en P nm108 426 (.ref 199), en P nm187 461 (.ref 220), en P nm190 1986 (.ref 578), en P nm236 2006 (.ref 590), en P nm237 2026 (.ref 603)] 15, #[]⟩
noncomputable def o12_t8 (P : Params) (D1 D2 D3 D4 : Data) : Obj := ⟨.none, none, .fields #[.int 1 0, .int 0 0, .ref 20, .int 5 0, .int 0 0, .ref 27, .int 170 0, .int 0 0, .ref 209, .int 177 0, .int 0 0, .ref 230, .int 386 0, .int 0 0, .ref 586, .int 388 0, .int 0 0, .ref 599], #[]⟩
noncomputable def o581_t8 (P : Params) (D1 D2 D3 D4 : Data) : Obj := ⟨.type PySem.W.SL.s2766695959194262286x5, none, .seq #[.type PySem.W.SL.s5946037652744460706x9] 0, #[]⟩
noncomputable def o582_t8 (P : Params) (D1 D2 D3 D4 : Data) : Obj := ⟨.type PySem.W.SL.s11030030927630378310x26, none, .fields #[.builtin PySem.W.SL.s10062305145149207511x16, .type PySem.W.SL.s17162191345867700912x4], #[]⟩
noncomputable def o583_t8 (P : Params) (D1 D2 D3 D4 : Data) : Obj := ⟨.type PySem.W.SL.s14018661285674007319x4, none, .dict #[en P nm109 1994 (.str nm186 462), en P nm110 1996 (.str nm236 1995), en P nm111 1998 (.int 386 1997), en P nm136 1999 (.ref 588)] 4, #[]⟩
noncomputable def o584_t8 (P : Params) (D1 D2 D3 D4 : Data) : Obj := ⟨.type PySem.W.SL.s2766695959194262286x5, none, .seq #[] 0, #[]⟩
noncomputable def o585_t8 (P : Params) (D1 D2 D3 D4 : Data) : Obj := ⟨.none, none, .fields #[], #[]⟩
noncomputable def o586_t8 (P : Params) (D1 D2 D3 D4 : Data) : Obj := ⟨.type PySem.W.SL.s5856160107412720595x4, none, .fields #[.str nm236 1989, .str nm236 1990, .str nm94 1991, .int 386 0, .int 0 0, .int 0 0, .int 0 0, .int 0 0, .ref 584, .bool false, .int 181 0, .ref 585, .none, .none, .none, .none, .int 1992 0, .int 386 0, .str nm94 1993], #[]⟩
noncomputable def o587_t8 (P : Params) (D1 D2 D3 D4 : Data) : Obj := ⟨.type PySem.W.SL.s658472552662922059x5, none, .plain, #[some (.ref 586), some (.ref 3), some (.ref 583), none, some (.str nm186 462), none, some (.ref 0)]⟩
noncomputable def o588_t8 (P : Params) (D1 D2 D3 D4 : Data) : Obj := ⟨.type PySem.W.SL.s2766695959194262286x5, none, .seq #[] 0, #[]⟩
noncomputable def o589_t8 (P : Params) (D1 D2 D3 D4 : Data) : Obj := ⟨.type PySem.W.SL.s14018661285674007319x4, none, .dict #[en P nm109 1994 (.str nm186 462), en P nm111 1998 (.int 386 1997), en P nm136 1999 (.ref 588), en P nm185 2001 (.ref 591), en P nm98 2002 .none] 3, #[]⟩
noncomputable def o590_t8 (P : Params) (D1 D2 D3 D4 : Data) : Obj := ⟨.type PySem.W.SL.s17162191345867700912x4, none, .cls { name := nm236, bases := [.type PySem.W.SL.s5946037652744460706x9], mro := [.ref 590, .type PySem.W.SL.s5946037652744460706x9, .type PySem.W.SL.s4278001404047624695x13, .type PySem.W.SL.s2742458400755230247x6], ns := 589, qualname := nm236, hasDict := true, slotNames := [], subclasses := [], abstract := false, collection := none, hasDel := false }, #[some (.ref 581), none, some (.str nm236 1987), some (.str nm236 1995), some (.builtin PySem.W.SL.s5160863994218179198x17), some (.bool true)]⟩
noncomputable def o591_t8 (P : Params) (D1 D2 D3 D4 : Data) : Obj := ⟨.type PySem.W.SL.s14755015743595814543x17, none, .fields #[.str nm185 2000, .ref 590, .builtin PySem.W.SL.s10220274742760427390x26, .none], #[]⟩
noncomputable def o592_t8 (P : Params) (D1 D2 D3 D4 : Data) : Obj := ⟨.type PySem.W.SL.s4290257624100764138x5, none, .fields #[.ref 590, .ref 590, .ref 590], #[]⟩
noncomputable def o593_t8 (P : Params) (D1 D2 D3 D4 : Data) : Obj := ⟨.type PySem.W.SL.s11030030927630378310x26, none, .fields #[.builtin PySem.W.SL.s4860613602091757760x24, .ref 590], #[]⟩
noncomputable def o594_t8 (P : Params) (D1 D2 D3 D4 : Data) : Obj := ⟨.type PySem.W.SL.s2766695959194262286x5, none, .seq #[.type PySem.W.SL.s5946037652744460706x9] 0, #[]⟩
noncomputable def o595_t8 (P : Params) (D1 D2 D3 D4 : Data) : Obj := ⟨.type PySem.W.SL.s11030030927630378310x26, none, .fields #[.builtin PySem.W.SL.s10062305145149207511x16, .type PySem.W.SL.s17162191345867700912x4], #[]⟩
noncomputable def o596_t8 (P : Params) (D1 D2 D3 D4 : Data) : Obj := ⟨.type PySem.W.SL.s14018661285674007319x4, none, .dict #[en P nm109 2014 (.str nm186 462), en P nm110 2016 (.str nm237 2015), en P nm111 2018 (.int 388 2017), en P nm136 2019 (.ref 601)] 4, #[]⟩
noncomputable def o597_t8 (P : Params) (D1 D2 D3 D4 : Data) : Obj := ⟨.type PySem.W.SL.s2766695959194262286x5, none, .seq #[] 0, #[]⟩
noncomputable def o598_t8 (P : Params) (D1 D2 D3 D4 : Data) : Obj := ⟨.none, none, .fields #[], #[]⟩
noncomputable def o599_t8 (P : Params) (D1 D2 D3 D4 : Data) : Obj := ⟨.type PySem.W.SL.s5856160107412720595x4, none, .fields #[.str nm237 2009, .str nm237 2010, .str nm94 2011, .int 388 0, .int 0 0, .int 0 0, .int 0 0, .int 0 0, .ref 597, .bool false, .int 181 0, .ref 598, .none, .none, .none, .none, .int 2012 0, .int 388 0, .str nm94 2013], #[]⟩
noncomputable def o600_t8 (P : Params) (D1 D2 D3 D4 : Data) : Obj := ⟨.type PySem.W.SL.s658472552662922059x5, none, .plain, #[some (.ref 599), some (.ref 3), some (.ref 596), none, some (.str nm186 462), none, some (.ref 0)]⟩
noncomputable def o601_t8 (P : Params) (D1 D2 D3 D4 : Data) : Obj := ⟨.type PySem.W.SL.s2766695959194262286x5, none, .seq #[] 0, #[]⟩
noncomputable def o602_t8 (P : Params) (D1 D2 D3 D4 : Data) : Obj := ⟨.type PySem.W.SL.s14018661285674007319x4, none, .dict #[en P nm109 2014 (.str nm186 462), en P nm111 2018 (.int 388 2017), en P nm136 2019 (.ref 601), en P nm185 2021 (.ref 604), en P nm98 2022 .none] 3, #[]⟩
noncomputable def o603_t8 (P : Params) (D1 D2 D3 D4 : Data) : Obj := ⟨.type PySem.W.SL.s17162191345867700912x4, none, .cls { name := nm237, bases := [.type PySem.W.SL.s5946037652744460706x9], mro := [.ref 603, .type PySem.W.SL.s5946037652744460706x9, .type PySem.W.SL.s4278001404047624695x13, .type PySem.W.SL.s2742458400755230247x6], ns := 602, qualname := nm237, hasDict := true, slotNames := [], subclasses := [], abstract := false, collection := none, hasDel := false }, #[some (.ref 594), none, some (.str nm237 2007), some (.str nm237 2015), some (.builtin PySem.W.SL.s5160863994218179198x17), some (.bool true)]⟩
noncomputable def o604_t8 (P : Params) (D1 D2 D3 D4 : Data) : Obj := ⟨.type PySem.W.SL.s14755015743595814543x17, none, .fields #[.str nm185 2020, .ref 603, .builtin PySem.W.SL.s10220274742760427390x26, .none], #[]⟩
noncomputable def o605_t8 (P : Params) (D1 D2 D3 D4 : Data) : Obj := ⟨.type PySem.W.SL.s4290257624100764138x5, none, .fields #[.ref 603, .ref 603, .ref 603], #[]⟩
noncomputable def o606_t8 (P : Params) (D1 D2 D3 D4 : Data) : Obj := ⟨.type PySem.W.SL.s11030030927630378310x26, none, .fields #[.builtin PySem.W.SL.s4860613602091757760x24, .ref 603], #[]⟩
noncomputable def S_t8k0 (pz : Program) (w : World) (D1 D2 D3 D4 : Data) (os : OsState) : BT := ((((((((S_t6 pz) w D1 D2 D3 D4 os).tree.set 2 fun _ => o2_t8 w.params D1 D2 D3 D4).set 3 fun _ => o3_t8 w.params D1 D2 D3 D4).set 12 fun _ => o12_t8 w.params D1 D2 D3 D4).ins 581 (o581_t8 w.params D1 D2 D3 D4)).ins 582 (o582_t8 w.params D1 D2 D3 D4)).ins 583 (o583_t8 w.params D1 D2 D3 D4))
noncomputable def S_t8k1 (pz : Program) (w : World) (D1 D2 D3 D4 : Data) (os : OsState) : BT := ((((((((S_t8k0 pz) w D1 D2 D3 D4 os).ins 584 (o584_t8 w.params D1 D2 D3 D4)).ins 585 (o585_t8 w.params D1 D2 D3 D4)).ins 586 (o586_t8 w.params D1 D2 D3 D4)).ins 587 (o587_t8 w.params D1 D2 D3 D4)).ins 588 (o588_t8 w.params D1 D2 D3 D4)).ins 589 (o589_t8 w.params D1 D2 D3 D4))
noncomputable def S_t8k2 (pz : Program) (w : World) (D1 D2 D3 D4 : Data) (os : OsState) : BT := ((((((((S_t8k1 pz) w D1 D2 D3 D4 os).ins 590 (o590_t8 w.params D1 D2 D3 D4)).ins 591 (o591_t8 w.params D1 D2 D3 D4)).ins 592 (o592_t8 w.params D1 D2 D3 D4)).ins 593 (o593_t8 w.params D1 D2 D3 D4)).ins 594 (o594_t8 w.params D1 D2 D3 D4)).ins 595 (o595_t8 w.params D1 D2 D3 D4))
noncomputable def S_t8k3 (pz : Program) (w : World) (D1 D2 D3 D4 : Data) (os : OsState) : BT := ((((((((S_t8k2 pz) w D1 D2 D3 D4 os).ins 596 (o596_t8 w.params D1 D2 D3 D4)).ins 597 (o597_t8 w.params D1 D2 D3 D4)).ins 598 (o598_t8 w.params D1 D2 D3 D4)).ins 599 (o599_t8 w.params D1 D2 D3 D4)).ins 600 (o600_t8 w.params D1 D2 D3 D4)).ins 601 (o601_t8 w.params D1 D2 D3 D4))
noncomputable def S_t8 (pz : Program) (w : World) (D1 D2 D3 D4 : Data) (os : OsState) : SharedT := mkS (((((((S_t8k3 pz) w D1 D2 D3 D4 os).ins 602 (o602_t8 w.params D1 D2 D3 D4)).ins 603 (o603_t8 w.params D1 D2 D3 D4)).ins 604 (o604_t8 w.params D1 D2 D3 D4)).ins 605 (o605_t8 w.params D1 D2 D3 D4)).ins 606 (o606_t8 w.params D1 D2 D3 D4)) 607 2027 os
noncomputable def o3_t26 (P : Params) (D1 D2 D3 D4 : Data) : Obj := ⟨.type PySem.W.SL.s14018661285674007319x4, none, .dict #[en P nm96 165 (.str nm238 2027), en P nm98 166 .none, en P nm99 167 .none, en P nm100 168 (.builtin PySem.W.SL.s7097527257260152453x26), en P nm101 169 .none, en P nm102 170 (.ref 6), en P nm103 171 (.ref 4), en P nm104 173 (.str nm94 172), en P nm105 174 .none, en P nm106 193 (.ref 21), en P nm108 426 (.ref 199), en P nm187 461 (.ref 220), en P nm190 1986 (.ref 578), en P nm236 2006 (.ref 590), en P nm237 2026 (.ref 603), en P (⟨⟨[nat_lit 95, nat_lit 108, nat_lit 97, nat_lit 119, nat_lit 95, nat_lit 108, nat_lit 101, nat_lit 116, nat_lit 116, nat_lit 101, nat_lit 114, nat_lit 115]⟩⟩ : Str) 2030 (.str (⟨⟨[nat_lit 97, nat_lit 225, nat_lit 98, nat_lit 99, nat_lit 269, nat_lit 100, nat_lit 271, nat_lit 101, nat_lit 233, nat_lit 283, nat_lit 102, nat_lit 103, nat_lit 104, nat_lit 105, nat_lit 237, nat_lit 106, nat_lit 107, nat_lit 108, nat_lit 109, nat_lit 110, nat_lit 328, nat_lit 111, nat_lit 243, nat_lit 112, nat_lit 113, nat_lit 114, nat_lit 345, nat_lit 115, nat_lit 353, nat_lit 116, nat_lit 357, nat_lit 117, nat_lit 250, nat_lit 367, nat_lit 118, nat_lit 119, nat_lit 120, nat_lit 121, nat_lit 253, nat_lit 122, nat_lit 382]⟩⟩ : Str) 2029), en P nm241 2036 (.ref 613), en P (⟨⟨[nat_lit 95, nat_lit 108, nat_lit 97, nat_lit 119, nat_lit 95, nat_lit 118, nat_lit 111, nat_lit 119, nat_lit 101, nat_lit 108, nat_lit 115]⟩⟩ : Str) 2051 (.ref 614), en P (⟨⟨[nat_lit 95, nat_lit 108, nat_lit 97, nat_lit 119, nat_lit 95, nat_lit 112, nat_lit 108, nat_lit 97, nat_lit 105, nat_lit 110]⟩⟩ : Str) 2087 (.ref 615), en P (⟨⟨[nat_lit 95, nat_lit 108, nat_lit 97, nat_lit 119, nat_lit 95, nat_lit 119, nat_lit 105, nat_lit 116, nat_lit 104, nat_lit 95, nat_lit 101]⟩⟩ : Str) 2092 (.ref 616), en P (⟨⟨[nat_lit 95, nat_lit 108, nat_lit 97, nat_lit 119, nat_lit 95, nat_lit 119, nat_lit 105, nat_lit 116, nat_lit 104, nat_lit 95, nat_lit 105]⟩⟩ : Str) 2100 (.ref 617), en P (⟨⟨[nat_lit 95, nat_lit 108, nat_lit 97, nat_lit 119, nat_lit 95, nat_lit 119, nat_lit 105, nat_lit 116, nat_lit 104, nat_lit 95, nat_lit 116]⟩⟩ : Str) 2103 (.ref 618), en P (⟨⟨[nat_lit 95, nat_lit 108, nat_lit 97, nat_lit 119, nat_lit 95, nat_lit 121, nat_lit 111, nat_lit 117, nat_lit 110, nat_lit 103]⟩⟩ : Str) 2107 (.ref 619), en P (⟨⟨[nat_lit 95, nat_lit 108, nat_lit 97, nat_lit 119, nat_lit 95, nat_lit 102, nat_lit 108, nat_lit 101, nat_lit 101, nat_lit 116, nat_lit 105, nat_lit 110, nat_lit 103]⟩⟩ : Str) 2152 (.ref 634), en P nm249 2158 (.ref 639), en P nm250 2164 (.ref 644), en P nm251 2172 (.ref 651), en P nm252 2185 (.ref 658), en P nm253 2191 (.ref 663), en P nm254 2200 (.ref 670), en P nm255 2208 (.ref 677), en P nm256 2220 (.ref 684)] 32, #[]⟩
noncomputable def o12_t26 (P : Params) (D1 D2 D3 D4 : Data) : Obj := ⟨.none, none, .fields #[.int 1 0, .int 0 0, .ref 20, .int 5 0, .int 0 0, .ref 27, .int 170 0, .int 0 0, .ref 209, .int 177 0, .int 0 0, .ref 230, .int 386 0, .int 0 0, .ref 586, .int 388 0, .int 0 0, .ref 599, .int 392 0, .int 0 0, .ref 612, .int 401 0, .int 0 0, .ref 638, .int 403 0, .int 0 0, .ref 643, .int 407 0, .int 0 0, .ref 650, .int 415 0, .int 0 0, .ref 657, .int 422 0, .int 0 0, .ref 662, .int 443 0, .int 0 0, .ref 669, .int 448 0, .int 0 0, .ref 676, .int 453 0, .int 0 0, .ref 683], #[]⟩
noncomputable def o607_t26 (P : Params) (D1 D2 D3 D4 : Data) : Obj := ⟨.type PySem.W.SL.s2766695959194262286x5, none, .seq #[] 0, #[]⟩
noncomputable def o608_t26 (P : Params) (D1 D2 D3 D4 : Data) : Obj := ⟨.none, none, .fields #[], #[]⟩
noncomputable def o609_t26 (P : Params) (D1 D2 D3 D4 : Data) : Obj := ⟨.type PySem.W.SL.s2766695959194262286x5, none, .seq #[] 0, #[]⟩
noncomputable def o610_t26 (P : Params) (D1 D2 D3 D4 : Data) : Obj := ⟨.type PySem.W.SL.s2766695959194262286x5, none, .seq #[] 0, #[]⟩
noncomputable def o611_t26 (pz : Program) (P : Params) (D1 D2 D3 D4 : Data) : Obj := ⟨.none, none, fnD ((stN pz) 11) nm241 0 .none .none 0, #[]⟩
noncomputable def o612_t26 (P : Params) (D1 D2 D3 D4 : Data) : Obj := ⟨.type PySem.W.SL.s5856160107412720595x4, none, .fields #[.str nm241 2031, .str nm241 2032, .str nm94 2033, .int 392 0, .int 0 0, .int 0 0, .int 0 0, .int 3 0, .ref 607, .bool true, .int 181 0, .ref 608, .none, .ref 609, .ref 610, .ref 611, .int 2034 0, .int 392 0, .str nm94 2035], #[]⟩
noncomputable def o613_t26 (pz : Program) (P : Params) (D1 D2 D3 D4 : Data) : Obj := ⟨.type PySem.W.SL.s7174869446012820540x8, none, fnD ((stN pz) 11) nm241 3 (.str nm238 2027) (.ref 612) 0, #[]⟩
noncomputable def o614_t26 (P : Params) (D1 D2 D3 D4 : Data) : Obj := ⟨.type PySem.W.SL.s9222952809800978799x4, none, .seq #[.str nm35 2037, .str nm84 2038, .str nm40 2039, .str nm85 2040, .str nm89 2041, .str nm48 2042, .str nm87 2043, .str nm71 2044, .str (⟨⟨[nat_lit 243]⟩⟩ : Str) 2045, .str nm77 2046, .str (⟨⟨[nat_lit 250]⟩⟩ : Str) 2047, .str nm92 2048, .str nm82 2049, .str nm88 2050] 0, #[]⟩
noncomputable def o615_t26 (P : Params) (D1 D2 D3 D4 : Data) : Obj := ⟨.type PySem.W.SL.s9222952809800978799x4, none, .seq #[.str nm35 2052, .str nm84 2053, .str nm85 2054, .str nm89 2055, .str nm71 2056, .str nm77 2057, .str nm92 2058, .str nm82 2059, .str nm88 2060, .str (⟨⟨[nat_lit 111, nat_lit 117]⟩⟩ : Str) 2061, .str (⟨⟨[nat_lit 117, nat_lit 115]⟩⟩ : Str) 2062, .str (⟨⟨[nat_lit 109, nat_lit 105]⟩⟩ : Str) 2063, .str (⟨⟨[nat_lit 225, nat_lit 109]⟩⟩ : Str) 2064, .str (⟨⟨[nat_lit 233, nat_lit 109]⟩⟩ : Str) 2065, .str (⟨⟨[nat_lit 283, nat_lit 109]⟩⟩ : Str) 2066, .str (⟨⟨[nat_lit 367, nat_lit 109]⟩⟩ : Str) 2067, .str (⟨⟨[nat_lit 253, nat_lit 109]⟩⟩ : Str) 2068, .str (⟨⟨[nat_lit 225, nat_lit 99, nat_lit 104]⟩⟩ : Str) 2069, .str (⟨⟨[nat_lit 253, nat_lit 99, nat_lit 104]⟩⟩ : Str) 2070, .str (⟨⟨[nat_lit 233, nat_lit 104, nat_lit 111]⟩⟩ : Str) 2071, .str (⟨⟨[nat_lit 233, nat_lit 109, nat_lit 117]⟩⟩ : Str) 2072, .str (⟨⟨[nat_lit 97, nat_lit 109, nat_lit 97]⟩⟩ : Str) 2073, .str (⟨⟨[nat_lit 97, nat_lit 109, nat_lit 105]⟩⟩ : Str) 2074, .str (⟨⟨[nat_lit 283, nat_lit 109, nat_lit 105]⟩⟩ : Str) 2075, .str (⟨⟨[nat_lit 253, nat_lit 109, nat_lit 105]⟩⟩ : Str) 2076, .str (⟨⟨[nat_lit 111, nat_lit 118, nat_lit 233]⟩⟩ : Str) 2077, .str (⟨⟨[nat_lit 111, nat_lit 118, nat_lit 105]⟩⟩ : Str) 2078, .str (⟨⟨[nat_lit 97, nat_lit 116]⟩⟩ : Str) 2079, .str (⟨⟨[nat_lit 97, nat_lit 116, nat_lit 97]⟩⟩ : Str) 2080, .str (⟨⟨[nat_lit 97, nat_lit 116, nat_lit 121]⟩⟩ : Str) 2081, .str (⟨⟨[nat_lit 97, nat_lit 116, nat_lit 367, nat_lit 109]⟩⟩ : Str) 2082, .str (⟨⟨[nat_lit 97, nat_lit 116, nat_lit 101, nat_lit 99, nat_lit 104]⟩⟩ : Str) 2083, .str (⟨⟨[nat_lit 283, nat_lit 116, nat_lit 101]⟩⟩ : Str) 2084, .str (⟨⟨[nat_lit 283, nat_lit 116, nat_lit 105]⟩⟩ : Str) 2085, .str (⟨⟨[nat_lit 283, nat_lit 116, nat_lit 101, nat_lit 109]⟩⟩ : Str) 2086] 0, #[]⟩
noncomputable def o616_t26 (P : Params) (D1 D2 D3 D4 : Data) : Obj := ⟨.type PySem.W.SL.s9222952809800978799x4, none, .seq #[.str nm40 2088, .str (⟨⟨[nat_lit 101, nat_lit 109]⟩⟩ : Str) 2089, .str (⟨⟨[nat_lit 101, nat_lit 109, nat_lit 105]⟩⟩ : Str) 2090, .str (⟨⟨[nat_lit 101, nat_lit 99, nat_lit 104]⟩⟩ : Str) 2091] 0, #[]⟩
noncomputable def o617_t26 (P : Params) (D1 D2 D3 D4 : Data) : Obj := ⟨.type PySem.W.SL.s9222952809800978799x4, none, .seq #[.str nm48 2093, .str nm87 2094, .str (⟨⟨[nat_lit 237, nat_lit 109]⟩⟩ : Str) 2095, .str (⟨⟨[nat_lit 237, nat_lit 109, nat_lit 105]⟩⟩ : Str) 2096, .str (⟨⟨[nat_lit 237, nat_lit 99, nat_lit 104]⟩⟩ : Str) 2097, .str (⟨⟨[nat_lit 237, nat_lit 104, nat_lit 111]⟩⟩ : Str) 2098, .str (⟨⟨[nat_lit 237, nat_lit 109, nat_lit 117]⟩⟩ : Str) 2099] 0, #[]⟩
noncomputable def o618_t26 (P : Params) (D1 D2 D3 D4 : Data) : Obj := ⟨.type PySem.W.SL.s9222952809800978799x4, none, .seq #[.str (⟨⟨[nat_lit 357]⟩⟩ : Str) 2101, .str (⟨⟨[nat_lit 357, nat_lit 109, nat_lit 105]⟩⟩ : Str) 2102] 0, #[]⟩
noncomputable def o619_t26 (P : Params) (D1 D2 D3 D4 : Data) : Obj := ⟨.type PySem.W.SL.s9222952809800978799x4, none, .seq #[.str (⟨⟨[nat_lit 101, nat_lit 116, nat_lit 101]⟩⟩ : Str) 2104, .str (⟨⟨[nat_lit 101, nat_lit 116, nat_lit 105]⟩⟩ : Str) 2105, .str (⟨⟨[nat_lit 101, nat_lit 116, nat_lit 101, nat_lit 109]⟩⟩ : Str) 2106] 0, #[]⟩
noncomputable def o620_t26 (P : Params) (D1 D2 D3 D4 : Data) : Obj := ⟨.type PySem.W.SL.s9222952809800978799x4, none, .seq #[.str (⟨⟨[nat_lit 116, nat_lit 345]⟩⟩ : Str) 2110] 0, #[]⟩
noncomputable def o621_t26 (P : Params) (D1 D2 D3 D4 : Data) : Obj := ⟨.type PySem.W.SL.s2766695959194262286x5, none, .seq #[.str (⟨⟨[nat_lit 101, nat_lit 98]⟩⟩ : Str) 2108, .str (⟨⟨[nat_lit 98]⟩⟩ : Str) 2109, .bool false, .ref 620] 0, #[]⟩
noncomputable def o622_t26 (P : Params) (D1 D2 D3 D4 : Data) : Obj := ⟨.type PySem.W.SL.s9222952809800978799x4, none, .seq #[] 0, #[]⟩
noncomputable def o623_t26 (P : Params) (D1 D2 D3 D4 : Data) : Obj := ⟨.type PySem.W.SL.s2766695959194262286x5, none, .seq #[.str (⟨⟨[nat_lit 101, nat_lit 99]⟩⟩ : Str) 2111, .str nm4 2112, .bool false, .ref 622] 0, #[]⟩
noncomputable def o624_t26 (P : Params) (D1 D2 D3 D4 : Data) : Obj := ⟨.type PySem.W.SL.s9222952809800978799x4, none, .seq #[.str (⟨⟨[nat_lit 111, nat_lit 98, nat_lit 108]⟩⟩ : Str) 2115, .str (⟨⟨[nat_lit 115, nat_lit 110]⟩⟩ : Str) 2116, .str (⟨⟨[nat_lit 100, nat_lit 111, nat_lit 116]⟩⟩ : Str) 2117] 0, #[]⟩
noncomputable def o625_t26 (P : Params) (D1 D2 D3 D4 : Data) : Obj := ⟨.type PySem.W.SL.s2766695959194262286x5, none, .seq #[.str (⟨⟨[nat_lit 101, nat_lit 107]⟩⟩ : Str) 2113, .str nm107 2114, .bool false, .ref 624] 0, #[]⟩
noncomputable def o626_t26 (P : Params) (D1 D2 D3 D4 : Data) : Obj := ⟨.type PySem.W.SL.s9222952809800978799x4, none, .seq #[.str nm261 2120] 0, #[]⟩
noncomputable def o627_t26 (P : Params) (D1 D2 D3 D4 : Data) : Obj := ⟨.type PySem.W.SL.s2766695959194262286x5, none, .seq #[.str (⟨⟨[nat_lit 283, nat_lit 107]⟩⟩ : Str) 2118, .str nm107 2119, .bool true, .ref 626] 0, #[]⟩
noncomputable def o628_t26 (P : Params) (D1 D2 D3 D4 : Data) : Obj := ⟨.type PySem.W.SL.s9222952809800978799x4, none, .seq #[.str (⟨⟨[nat_lit 98]⟩⟩ : Str) 2123, .str nm4 2124, .str nm24 2125, .str (⟨⟨[nat_lit 100]⟩⟩ : Str) 2126, .str nm32 2127, .str nm107 2128, .str (⟨⟨[nat_lit 112]⟩⟩ : Str) 2129, .str (⟨⟨[nat_lit 114]⟩⟩ : Str) 2130, .str nm0 2131, .str (⟨⟨[nat_lit 353]⟩⟩ : Str) 2132, .str nm266 2133, .str nm153 2134, .str (⟨⟨[nat_lit 122]⟩⟩ : Str) 2135, .str (⟨⟨[nat_lit 382]⟩⟩ : Str) 2136] 0, #[]⟩
noncomputable def o629_t26 (P : Params) (D1 D2 D3 D4 : Data) : Obj := ⟨.type PySem.W.SL.s2766695959194262286x5, none, .seq #[.str (⟨⟨[nat_lit 101, nat_lit 328]⟩⟩ : Str) 2121, .str nm261 2122, .bool true, .ref 628] 0, #[]⟩
noncomputable def o630_t26 (P : Params) (D1 D2 D3 D4 : Data) : Obj := ⟨.type PySem.W.SL.s9222952809800978799x4, none, .seq #[.str nm32 2139, .str nm24 2140, .str (⟨⟨[nat_lit 117, nat_lit 99]⟩⟩ : Str) 2141, .str (⟨⟨[nat_lit 111, nat_lit 107]⟩⟩ : Str) 2142, .str (⟨⟨[nat_lit 107, nat_lit 97, nat_lit 114]⟩⟩ : Str) 2143] 0, #[]⟩
noncomputable def o631_t26 (P : Params) (D1 D2 D3 D4 : Data) : Obj := ⟨.type PySem.W.SL.s2766695959194262286x5, none, .seq #[.str nm76 2137, .str nm266 2138, .bool true, .ref 630] 0, #[]⟩
noncomputable def o632_t26 (P : Params) (D1 D2 D3 D4 : Data) : Obj := ⟨.type PySem.W.SL.s9222952809800978799x4, none, .seq #[.str nm32 2146, .str nm107 2147, .str nm261 2148, .str (⟨⟨[nat_lit 114]⟩⟩ : Str) 2149, .str nm266 2150, .str (⟨⟨[nat_lit 122]⟩⟩ : Str) 2151] 0, #[]⟩
noncomputable def o633_t26 (P : Params) (D1 D2 D3 D4 : Data) : Obj := ⟨.type PySem.W.SL.s2766695959194262286x5, none, .seq #[.str (⟨⟨[nat_lit 101, nat_lit 118]⟩⟩ : Str) 2144, .str nm153 2145, .bool true, .ref 632] 0, #[]⟩
noncomputable def o634_t26 (P : Params) (D1 D2 D3 D4 : Data) : Obj := ⟨.type PySem.W.SL.s9222952809800978799x4, none, .seq #[.ref 621, .ref 623, .ref 625, .ref 627, .ref 629, .ref 631, .ref 633] 0, #[]⟩
noncomputable def o635_t26 (P : Params) (D1 D2 D3 D4 : Data) : Obj := ⟨.type PySem.W.SL.s2766695959194262286x5, none, .seq #[] 0, #[]⟩
noncomputable def o636_t26 (P : Params) (D1 D2 D3 D4 : Data) : Obj := ⟨.none, none, .fields #[], #[]⟩
noncomputable def o637_t26 (pz : Program) (P : Params) (D1 D2 D3 D4 : Data) : Obj := ⟨.none, none, fnD ((stN pz) 19) nm249 0 .none .none 0, #[]⟩
noncomputable def o638_t26 (P : Params) (D1 D2 D3 D4 : Data) : Obj := ⟨.type PySem.W.SL.s5856160107412720595x4, none, .fields #[.str nm249 2153, .str nm249 2154, .str nm94 2155, .int 401 0, .int 2 0, .int 0 0, .int 0 0, .int 3 0, .ref 635, .bool true, .int 181 0, .ref 636, .none, .none, .none, .ref 637, .int 2156 0, .int 401 0, .str nm94 2157], #[]⟩
noncomputable def o639_t26 (pz : Program) (P : Params) (D1 D2 D3 D4 : Data) : Obj := ⟨.type PySem.W.SL.s7174869446012820540x8, none, fnD ((stN pz) 19) nm249 3 (.str nm238 2027) (.ref 638) 0, #[]⟩
noncomputable def o640_t26 (P : Params) (D1 D2 D3 D4 : Data) : Obj := ⟨.type PySem.W.SL.s2766695959194262286x5, none, .seq #[] 0, #[]⟩
noncomputable def o641_t26 (P : Params) (D1 D2 D3 D4 : Data) : Obj := ⟨.none, none, .fields #[], #[]⟩
noncomputable def o642_t26 (pz : Program) (P : Params) (D1 D2 D3 D4 : Data) : Obj := ⟨.none, none, fnD ((stN pz) 20) nm250 0 .none .none 0, #[]⟩
noncomputable def o643_t26 (P : Params) (D1 D2 D3 D4 : Data) : Obj := ⟨.type PySem.W.SL.s5856160107412720595x4, none, .fields #[.str nm250 2159, .str nm250 2160, .str nm94 2161, .int 403 0, .int 1 0, .int 0 0, .int 0 0, .int 3 0, .ref 640, .bool true, .int 181 0, .ref 641, .none, .none, .none, .ref 642, .int 2162 0, .int 403 0, .str nm94 2163], #[]⟩
noncomputable def o644_t26 (pz : Program) (P : Params) (D1 D2 D3 D4 : Data) : Obj := ⟨.type PySem.W.SL.s7174869446012820540x8, none, fnD ((stN pz) 20) nm250 3 (.str nm238 2027) (.ref 643) 0, #[]⟩
noncomputable def o645_t26 (P : Params) (D1 D2 D3 D4 : Data) : Obj := ⟨.type PySem.W.SL.s2766695959194262286x5, none, .seq #[] 0, #[]⟩
noncomputable def o646_t26 (P : Params) (D1 D2 D3 D4 : Data) : Obj := ⟨.none, none, .fields #[], #[]⟩
noncomputable def o647_t26 (P : Params) (D1 D2 D3 D4 : Data) : Obj := ⟨.type PySem.W.SL.s2766695959194262286x5, none, .seq #[.str nm268 2168, .str (⟨⟨[nat_lit 110, nat_lit 97, nat_lit 114, nat_lit 114, nat_lit 111, nat_lit 119]⟩⟩ : Str) 2169] 0, #[]⟩
noncomputable def o648_t26 (P : Params) (D1 D2 D3 D4 : Data) : Obj := ⟨.type PySem.W.SL.s2766695959194262286x5, none, .seq #[] 0, #[]⟩
noncomputable def o649_t26 (pz : Program) (P : Params) (D1 D2 D3 D4 : Data) : Obj := ⟨.none, none, fnD ((stN pz) 21) nm251 0 .none .none 0, #[]⟩
noncomputable def o650_t26 (P : Params) (D1 D2 D3 D4 : Data) : Obj := ⟨.type PySem.W.SL.s5856160107412720595x4, none, .fields #[.str nm251 2165, .str nm251 2166, .str nm94 2167, .int 407 0, .int 2 0, .int 0 0, .int 0 0, .int 3 0, .ref 645, .bool true, .int 181 0, .ref 646, .none, .ref 647, .ref 648, .ref 649, .int 2170 0, .int 407 0, .str nm94 2171], #[]⟩
noncomputable def o651_t26 (pz : Program) (P : Params) (D1 D2 D3 D4 : Data) : Obj := ⟨.type PySem.W.SL.s7174869446012820540x8, none, fnD ((stN pz) 21) nm251 3 (.str nm238 2027) (.ref 650) 0, #[]⟩
noncomputable def o652_t26 (P : Params) (D1 D2 D3 D4 : Data) : Obj := ⟨.type PySem.W.SL.s2766695959194262286x5, none, .seq #[] 0, #[]⟩
noncomputable def o653_t26 (P : Params) (D1 D2 D3 D4 : Data) : Obj := ⟨.none, none, .fields #[], #[]⟩
noncomputable def o654_t26 (P : Params) (D1 D2 D3 D4 : Data) : Obj := ⟨.type PySem.W.SL.s2766695959194262286x5, none, .seq #[.str nm174 2176, .str nm268 2177, .str (⟨⟨[nat_lit 101, nat_lit 110, nat_lit 100, nat_lit 105, nat_lit 110, nat_lit 103]⟩⟩ : Str) 2178, .str (⟨⟨[nat_lit 101, nat_lit 110, nat_lit 100]⟩⟩ : Str) 2179, .str (⟨⟨[nat_lit 108, nat_lit 101, nat_lit 102, nat_lit 116]⟩⟩ : Str) 2180, .str (⟨⟨[nat_lit 111, nat_lit 110, nat_lit 108, nat_lit 121]⟩⟩ : Str) 2181, .str (⟨⟨[nat_lit 98, nat_lit 101, nat_lit 104, nat_lit 105, nat_lit 110, nat_lit 100]⟩⟩ : Str) 2182] 0, #[]⟩
noncomputable def o655_t26 (P : Params) (D1 D2 D3 D4 : Data) : Obj := ⟨.type PySem.W.SL.s2766695959194262286x5, none, .seq #[] 0, #[]⟩
noncomputable def o656_t26 (pz : Program) (P : Params) (D1 D2 D3 D4 : Data) : Obj := ⟨.none, none, fnD ((stN pz) 22) nm252 0 .none .none 0, #[]⟩
noncomputable def o657_t26 (P : Params) (D1 D2 D3 D4 : Data) : Obj := ⟨.type PySem.W.SL.s5856160107412720595x4, none, .fields #[.str nm252 2173, .str nm252 2174, .str nm94 2175, .int 415 0, .int 3 0, .int 0 0, .int 0 0, .int 3 0, .ref 652, .bool true, .int 181 0, .ref 653, .none, .ref 654, .ref 655, .ref 656, .int 2183 0, .int 415 0, .str nm94 2184], #[]⟩
noncomputable def o658_t26 (pz : Program) (P : Params) (D1 D2 D3 D4 : Data) : Obj := ⟨.type PySem.W.SL.s7174869446012820540x8, none, fnD ((stN pz) 22) nm252 3 (.str nm238 2027) (.ref 657) 0, #[]⟩
noncomputable def o659_t26 (P : Params) (D1 D2 D3 D4 : Data) : Obj := ⟨.type PySem.W.SL.s2766695959194262286x5, none, .seq #[] 0, #[]⟩
noncomputable def o660_t26 (P : Params) (D1 D2 D3 D4 : Data) : Obj := ⟨.none, none, .fields #[], #[]⟩
noncomputable def o661_t26 (pz : Program) (P : Params) (D1 D2 D3 D4 : Data) : Obj := ⟨.none, none, fnD ((stN pz) 23) nm253 0 .none .none 0, #[]⟩
noncomputable def o662_t26 (P : Params) (D1 D2 D3 D4 : Data) : Obj := ⟨.type PySem.W.SL.s5856160107412720595x4, none, .fields #[.str nm253 2186, .str nm253 2187, .str nm94 2188, .int 422 0, .int 2 0, .int 0 0, .int 0 0, .int 3 0, .ref 659, .bool true, .int 181 0, .ref 660, .none, .none, .none, .ref 661, .int 2189 0, .int 422 0, .str nm94 2190], #[]⟩
noncomputable def o663_t26 (pz : Program) (P : Params) (D1 D2 D3 D4 : Data) : Obj := ⟨.type PySem.W.SL.s7174869446012820540x8, none, fnD ((stN pz) 23) nm253 3 (.str nm238 2027) (.ref 662) 0, #[]⟩
noncomputable def o664_t26 (P : Params) (D1 D2 D3 D4 : Data) : Obj := ⟨.type PySem.W.SL.s2766695959194262286x5, none, .seq #[] 0, #[]⟩
noncomputable def o665_t26 (P : Params) (D1 D2 D3 D4 : Data) : Obj := ⟨.none, none, .fields #[], #[]⟩
noncomputable def o666_t26 (P : Params) (D1 D2 D3 D4 : Data) : Obj := ⟨.type PySem.W.SL.s2766695959194262286x5, none, .seq #[.str nm174 2195, .str (⟨⟨[nat_lit 97, nat_lit 104, nat_lit 101, nat_lit 97, nat_lit 100]⟩⟩ : Str) 2196, .str nm268 2197] 0, #[]⟩
noncomputable def o667_t26 (P : Params) (D1 D2 D3 D4 : Data) : Obj := ⟨.type PySem.W.SL.s2766695959194262286x5, none, .seq #[] 0, #[]⟩
noncomputable def o668_t26 (pz : Program) (P : Params) (D1 D2 D3 D4 : Data) : Obj := ⟨.none, none, fnD ((stN pz) 24) nm254 0 .none .none 0, #[]⟩
noncomputable def o669_t26 (P : Params) (D1 D2 D3 D4 : Data) : Obj := ⟨.type PySem.W.SL.s5856160107412720595x4, none, .fields #[.str nm254 2192, .str nm254 2193, .str nm94 2194, .int 443 0, .int 2 0, .int 0 0, .int 0 0, .int 3 0, .ref 664, .bool true, .int 181 0, .ref 665, .none, .ref 666, .ref 667, .ref 668, .int 2198 0, .int 443 0, .str nm94 2199], #[]⟩
noncomputable def o670_t26 (pz : Program) (P : Params) (D1 D2 D3 D4 : Data) : Obj := ⟨.type PySem.W.SL.s7174869446012820540x8, none, fnD ((stN pz) 24) nm254 3 (.str nm238 2027) (.ref 669) 0, #[]⟩
noncomputable def o671_t26 (P : Params) (D1 D2 D3 D4 : Data) : Obj := ⟨.type PySem.W.SL.s2766695959194262286x5, none, .seq #[] 0, #[]⟩
noncomputable def o672_t26 (P : Params) (D1 D2 D3 D4 : Data) : Obj := ⟨.none, none, .fields #[], #[]⟩
noncomputable def o673_t26 (P : Params) (D1 D2 D3 D4 : Data) : Obj := ⟨.type PySem.W.SL.s2766695959194262286x5, none, .seq #[.str nm174 2204, .str (⟨⟨[nat_lit 97, nat_lit 104, nat_lit 101, nat_lit 97, nat_lit 100]⟩⟩ : Str) 2205] 0, #[]⟩
noncomputable def o674_t26 (P : Params) (D1 D2 D3 D4 : Data) : Obj := ⟨.type PySem.W.SL.s2766695959194262286x5, none, .seq #[] 0, #[]⟩
noncomputable def o675_t26 (pz : Program) (P : Params) (D1 D2 D3 D4 : Data) : Obj := ⟨.none, none, fnD ((stN pz) 25) nm255 0 .none .none 0, #[]⟩
noncomputable def o676_t26 (P : Params) (D1 D2 D3 D4 : Data) : Obj := ⟨.type PySem.W.SL.s5856160107412720595x4, none, .fields #[.str nm255 2201, .str nm255 2202, .str nm94 2203, .int 448 0, .int 1 0, .int 0 0, .int 0 0, .int 3 0, .ref 671, .bool true, .int 181 0, .ref 672, .none, .ref 673, .ref 674, .ref 675, .int 2206 0, .int 448 0, .str nm94 2207], #[]⟩
noncomputable def o677_t26 (pz : Program) (P : Params) (D1 D2 D3 D4 : Data) : Obj := ⟨.type PySem.W.SL.s7174869446012820540x8, none, fnD ((stN pz) 25) nm255 3 (.str nm238 2027) (.ref 676) 0, #[]⟩
noncomputable def o678_t26 (P : Params) (D1 D2 D3 D4 : Data) : Obj := ⟨.type PySem.W.SL.s2766695959194262286x5, none, .seq #[] 0, #[]⟩
noncomputable def o679_t26 (P : Params) (D1 D2 D3 D4 : Data) : Obj := ⟨.none, none, .fields #[], #[]⟩
noncomputable def o680_t26 (P : Params) (D1 D2 D3 D4 : Data) : Obj := ⟨.type PySem.W.SL.s2766695959194262286x5, none, .seq #[.str (⟨⟨[nat_lit 115, nat_lit 99, nat_lit 114, nat_lit 105, nat_lit 112, nat_lit 116]⟩⟩ : Str) 2212, .str (⟨⟨[nat_lit 119, nat_lit 111, nat_lit 114, nat_lit 100, nat_lit 115]⟩⟩ : Str) 2213, .str (⟨⟨[nat_lit 110, nat_lit 117, nat_lit 109, nat_lit 98, nat_lit 101, nat_lit 114]⟩⟩ : Str) 2214, .str nm107 2215, .str (⟨⟨[nat_lit 99, nat_lit 122, nat_lit 101, nat_lit 99, nat_lit 104]⟩⟩ : Str) 2216, .str nm174 2217] 0, #[]⟩
noncomputable def o681_t26 (P : Params) (D1 D2 D3 D4 : Data) : Obj := ⟨.type PySem.W.SL.s2766695959194262286x5, none, .seq #[] 0, #[]⟩
noncomputable def o682_t26 (pz : Program) (P : Params) (D1 D2 D3 D4 : Data) : Obj := ⟨.none, none, fnD ((stN pz) 26) nm256 0 .none .none 0, #[]⟩
noncomputable def o683_t26 (P : Params) (D1 D2 D3 D4 : Data) : Obj := ⟨.type PySem.W.SL.s5856160107412720595x4, none, .fields #[.str nm256 2209, .str nm256 2210, .str nm94 2211, .int 453 0, .int 1 0, .int 0 0, .int 0 0, .int 3 0, .ref 678, .bool true, .int 181 0, .ref 679, .none, .ref 680, .ref 681, .ref 682, .int 2218 0, .int 453 0, .str nm94 2219], #[]⟩
noncomputable def o684_t26 (pz : Program) (P : Params) (D1 D2 D3 D4 : Data) : Obj := ⟨.type PySem.W.SL.s7174869446012820540x8, none, fnD ((stN pz) 26) nm256 3 (.str nm238 2027) (.ref 683) 0, #[]⟩
noncomputable def S_t26k0 (pz : Program) (w : World) (D1 D2 D3 D4 : Data) (os : OsState) : BT := ((((((((S_t8 pz) w D1 D2 D3 D4 os).tree.set 3 fun _ => o3_t26 w.params D1 D2 D3 D4).set 12 fun _ => o12_t26 w.params D1 D2 D3 D4).ins 607 (o607_t26 w.params D1 D2 D3 D4)).ins 608 (o608_t26 w.params D1 D2 D3 D4)).ins 609 (o609_t26 w.params D1 D2 D3 D4)).ins 610 (o610_t26 w.params D1 D2 D3 D4))
noncomputable def S_t26k1 (pz : Program) (w : World) (D1 D2 D3 D4 : Data) (os : OsState) : BT := ((((((((S_t26k0 pz) w D1 D2 D3 D4 os).ins 611 ((o611_t26 pz) w.params D1 D2 D3 D4)).ins 612 (o612_t26 w.params D1 D2 D3 D4)).ins 613 ((o613_t26 pz) w.params D1 D2 D3 D4)).ins 614 (o614_t26 w.params D1 D2 D3 D4)).ins 615 (o615_t26 w.params D1 D2 D3 D4)).ins 616 (o616_t26 w.params D1 D2 D3 D4))
noncomputable def S_t26k2 (pz : Program) (w : World) (D1 D2 D3 D4 : Data) (os : OsState) : BT := ((((((((S_t26k1 pz) w D1 D2 D3 D4 os).ins 617 (o617_t26 w.params D1 D2 D3 D4)).ins 618 (o618_t26 w.params D1 D2 D3 D4)).ins 619 (o619_t26 w.params D1 D2 D3 D4)).ins 620 (o620_t26 w.params D1 D2 D3 D4)).ins 621 (o621_t26 w.params D1 D2 D3 D4)).ins 622 (o622_t26 w.params D1 D2 D3 D4))
noncomputable def S_t26k3 (pz : Program) (w : World) (D1 D2 D3 D4 : Data) (os : OsState) : BT := ((((((((S_t26k2 pz) w D1 D2 D3 D4 os).ins 623 (o623_t26 w.params D1 D2 D3 D4)).ins 624 (o624_t26 w.params D1 D2 D3 D4)).ins 625 (o625_t26 w.params D1 D2 D3 D4)).ins 626 (o626_t26 w.params D1 D2 D3 D4)).ins 627 (o627_t26 w.params D1 D2 D3 D4)).ins 628 (o628_t26 w.params D1 D2 D3 D4))
noncomputable def S_t26k4 (pz : Program) (w : World) (D1 D2 D3 D4 : Data) (os : OsState) : BT := ((((((((S_t26k3 pz) w D1 D2 D3 D4 os).ins 629 (o629_t26 w.params D1 D2 D3 D4)).ins 630 (o630_t26 w.params D1 D2 D3 D4)).ins 631 (o631_t26 w.params D1 D2 D3 D4)).ins 632 (o632_t26 w.params D1 D2 D3 D4)).ins 633 (o633_t26 w.params D1 D2 D3 D4)).ins 634 (o634_t26 w.params D1 D2 D3 D4))
noncomputable def S_t26k5 (pz : Program) (w : World) (D1 D2 D3 D4 : Data) (os : OsState) : BT := ((((((((S_t26k4 pz) w D1 D2 D3 D4 os).ins 635 (o635_t26 w.params D1 D2 D3 D4)).ins 636 (o636_t26 w.params D1 D2 D3 D4)).ins 637 ((o637_t26 pz) w.params D1 D2 D3 D4)).ins 638 (o638_t26 w.params D1 D2 D3 D4)).ins 639 ((o639_t26 pz) w.params D1 D2 D3 D4)).ins 640 (o640_t26 w.params D1 D2 D3 D4))
noncomputable def S_t26k6 (pz : Program) (w : World) (D1 D2 D3 D4 : Data) (os : OsState) : BT := ((((((((S_t26k5 pz) w D1 D2 D3 D4 os).ins 641 (o641_t26 w.params D1 D2 D3 D4)).ins 642 ((o642_t26 pz) w.params D1 D2 D3 D4)).ins 643 (o643_t26 w.params D1 D2 D3 D4)).ins 644 ((o644_t26 pz) w.params D1 D2 D3 D4)).ins 645 (o645_t26 w.params D1 D2 D3 D4)).ins 646 (o646_t26 w.params D1 D2 D3 D4))
noncomputable def S_t26k7 (pz : Program) (w : World) (D1 D2 D3 D4 : Data) (os : OsState) : BT := ((((((((S_t26k6 pz) w D1 D2 D3 D4 os).ins 647 (o647_t26 w.params D1 D2 D3 D4)).ins 648 (o648_t26 w.params D1 D2 D3 D4)).ins 649 ((o649_t26 pz) w.params D1 D2 D3 D4)).ins 650 (o650_t26 w.params D1 D2 D3 D4)).ins 651 ((o651_t26 pz) w.params D1 D2 D3 D4)).ins 652 (o652_t26 w.params D1 D2 D3 D4))
noncomputable def S_t26k8 (pz : Program) (w : World) (D1 D2 D3 D4 : Data) (os : OsState) : BT := ((((((((S_t26k7 pz) w D1 D2 D3 D4 os).ins 653 (o653_t26 w.params D1 D2 D3 D4)).ins 654 (o654_t26 w.params D1 D2 D3 D4)).ins 655 (o655_t26 w.params D1 D2 D3 D4)).ins 656 ((o656_t26 pz) w.params D1 D2 D3 D4)).ins 657 (o657_t26 w.params D1 D2 D3 D4)).ins 658 ((o658_t26 pz) w.params D1 D2 D3 D4))
noncomputable def S_t26k9 (pz : Program) (w : World) (D1 D2 D3 D4 : Data) (os : OsState) : BT := ((((((((S_t26k8 pz) w D1 D2 D3 D4 os).ins 659 (o659_t26 w.params D1 D2 D3 D4)).ins 660 (o660_t26 w.params D1 D2 D3 D4)).ins 661 ((o661_t26 pz) w.params D1 D2 D3 D4)).ins 662 (o662_t26 w.params D1 D2 D3 D4)).ins 663 ((o663_t26 pz) w.params D1 D2 D3 D4)).ins 664 (o664_t26 w.params D1 D2 D3 D4))
noncomputable def S_t26k10 (pz : Program) (w : World) (D1 D2 D3 D4 : Data) (os : OsState) : BT := ((((((((S_t26k9 pz) w D1 D2 D3 D4 os).ins 665 (o665_t26 w.params D1 D2 D3 D4)).ins 666 (o666_t26 w.params D1 D2 D3 D4)).ins 667 (o667_t26 w.params D1 D2 D3 D4)).ins 668 ((o668_t26 pz) w.params D1 D2 D3 D4)).ins 669 (o669_t26 w.params D1 D2 D3 D4)).ins 670 ((o670_t26 pz) w.params D1 D2 D3 D4))
noncomputable def S_t26k11 (pz : Program) (w : World) (D1 D2 D3 D4 : Data) (os : OsState) : BT := ((((((((S_t26k10 pz) w D1 D2 D3 D4 os).ins 671 (o671_t26 w.params D1 D2 D3 D4)).ins 672 (o672_t26 w.params D1 D2 D3 D4)).ins 673 (o673_t26 w.params D1 D2 D3 D4)).ins 674 (o674_t26 w.params D1 D2 D3 D4)).ins 675 ((o675_t26 pz) w.params D1 D2 D3 D4)).ins 676 (o676_t26 w.params D1 D2 D3 D4))
noncomputable def S_t26k12 (pz : Program) (w : World) (D1 D2 D3 D4 : Data) (os : OsState) : BT := ((((((((S_t26k11 pz) w D1 D2 D3 D4 os).ins 677 ((o677_t26 pz) w.params D1 D2 D3 D4)).ins 678 (o678_t26 w.params D1 D2 D3 D4)).ins 679 (o679_t26 w.params D1 D2 D3 D4)).ins 680 (o680_t26 w.params D1 D2 D3 D4)).ins 681 (o681_t26 w.params D1 D2 D3 D4)).ins 682 ((o682_t26 pz) w.params D1 D2 D3 D4))
noncomputable def S_t26 (pz : Program) (w : World) (D1 D2 D3 D4 : Data) (os : OsState) : SharedT := mkS ((((S_t26k12 pz) w D1 D2 D3 D4 os).ins 683 (o683_t26 w.params D1 D2 D3 D4)).ins 684 ((o684_t26 pz) w.params D1 D2 D3 D4)) 685 2221 os
noncomputable def p01L (pz : Program) (w : World) (D1 D2 D3 D4 : Data) (os : OsState) (b : List Stmt) (q : Pos) := segRunT treeTable pz w 11 ann6 1 60 (S_pre w D1 D2 D3 D4 os) (piecesOf [(stN pz) 0, (stN pz) 1] (env1 pz) (.body b (env1 pz)) q [topFrame zp])
noncomputable def p01R (pz : Program) (w : World) (D1 D2 D3 D4 : Data) (os : OsState) (b : List Stmt) (q : Pos) : Option (Flow × SharedT × Code × Pos) := some (.next, (S_t1 pz) w D1 D2 D3 D4 os, .body b (env1 pz), ⟨4, 0, 4, 8⟩)
theorem p01L_self : p01L = p01L := rfl
theorem p01R_self : p01R = p01R := rfl
name_quick p01LQ for p01L by p01L_self
theorem p01_ok (w : World) (D1 D2 D3 D4 : Data) (os : OsState) (b : List Stmt) (q : Pos) : (p01L pw) w D1 D2 D3 D4 os b q = (p01R pw) w D1 D2 D3 D4 os b q := by
  rw [PySem.W.Fast.p01LQ_eq]
  rw [pw_fast]
  kernel_rfl
noncomputable def p2L (pz : Program) (w : World) (D1 D2 D3 D4 : Data) (os : OsState) (b : List Stmt) (q : Pos) := segRunT treeTable pz w 11 ann6 1 1000 ((S_t1 pz) w D1 D2 D3 D4 os) (piecesOf [(stN pz) 2] (env1 pz) (.body b (env1 pz)) q [topFrame zp])
noncomputable def p2R (pz : Program) (w : World) (D1 D2 D3 D4 : Data) (os : OsState) (b : List Stmt) (q : Pos) : Option (Flow × SharedT × Code × Pos) := some (.next, (S_t2 pz) w D1 D2 D3 D4 os, .body b (env1 pz), ⟨5, 0, 168, 16⟩)
theorem p2L_self : p2L = p2L := rfl
theorem p2R_self : p2R = p2R := rfl
name_quick p2LQ for p2L by p2L_self
theorem p2_ok (w : World) (D1 D2 D3 D4 : Data) (os : OsState) (b : List Stmt) (q : Pos) : (p2L pw) w D1 D2 D3 D4 os b q = (p2R pw) w D1 D2 D3 D4 os b q := by
  rw [PySem.W.Fast.p2LQ_eq]
  rw [pw_fast]
  kernel_rfl
noncomputable def p345L (pz : Program) (w : World) (D1 D2 D3 D4 : Data) (os : OsState) (b : List Stmt) (q : Pos) := segRunT treeTable pz w 11 ann6 1 300 ((S_t2 pz) w D1 D2 D3 D4 os) (piecesOf [(stN pz) 3, (stN pz) 4, (stN pz) 5] (env1 pz) (.body b (env1 pz)) q [topFrame zp])
noncomputable def p345R (pz : Program) (w : World) (D1 D2 D3 D4 : Data) (os : OsState) (b : List Stmt) (q : Pos) : Option (Flow × SharedT × Code × Pos) := some (.next, (S_t5 pz) w D1 D2 D3 D4 os, .body b (env1 pz), ⟨176, 0, 176, 8⟩)
theorem p345L_self : p345L = p345L := rfl
theorem p345R_self : p345R = p345R := rfl
name_quick p345LQ for p345L by p345L_self
theorem p345_ok (w : World) (D1 D2 D3 D4 : Data) (os : OsState) (b : List Stmt) (q : Pos) : (p345L pw) w D1 D2 D3 D4 os b q = (p345R pw) w D1 D2 D3 D4 os b q := by
  rw [PySem.W.Fast.p345LQ_eq]
  rw [pw_fast]
  kernel_rfl
noncomputable def run0 (pz : Program) (w : World) (os : OsState) (b : List Stmt) (q : Pos) := segGoT treeTable pz w 11 ann6 1 64 ((S_t5 pz) w .plain .plain .plain .plain os) (piecesOf [(stN pz) 6] (env1 pz) (.body b (env1 pz)) q [topFrame zp])
noncomputable def clsK (pz : Program) (w : World) (os : OsState) (b : List Stmt) (q : Pos) : Result → Sem Fin := match (run0 pz) w os b q with
  | some (_, ⟨_, _, _, .ret k _ _ _ _ _ _ :: _⟩) => k
  | _ => fun _ => .unsupported ""
noncomputable def p6aL (pz : Program) (w : World) (os : OsState) (b : List Stmt) (q : Pos) := (run0 pz) w os b q
noncomputable def p6aR (pz : Program) (w : World) (os : OsState) (b : List Stmt) (q : Pos) : Option (SharedT × Thread) := some ((S_clsStart pz) w .plain .plain .plain .plain os, ⟨denote treeTable (ccode pz), (ccode pz), cpos, [(clsFr pz) ((clsK pz) w os b q) b, topFrame zp]⟩)
theorem p6aL_self : p6aL = p6aL := rfl
theorem p6aR_self : p6aR = p6aR := rfl
name_quick p6aLQ for p6aL by p6aL_self
name_quick p6aRQ for p6aR by p6aR_self
theorem p6a_ok (w : World) (os : OsState) (b : List Stmt) (q : Pos) : (p6aL pw) w os b q = (p6aR pw) w os b q := by
  rw [PySem.W.Fast.p6aLQ_eq, PySem.W.Fast.p6aRQ_eq]
  rw [pw_fast]
  kernel_rfl
noncomputable def p6bL (pz : Program) (w : World) (D1 D2 D3 D4 : Data) (os : OsState) (b : List Stmt) (k : Result → Sem Fin) := segRunT treeTable pz w 11 ann6 2 5 ((S_clsStart pz) w D1 D2 D3 D4 os) (blockOf (clsB pz) (cenv pz) (ccode pz) cpos [(clsFr pz) k b, topFrame zp])
noncomputable def p6bR (pz : Program) (w : World) (D1 D2 D3 D4 : Data) (os : OsState) (b : List Stmt) (k : Result → Sem Fin) : Option (Flow × SharedT × Code × Pos) := some (.next, (S_clsStart pz) w D1 D2 D3 D4 os, (ccode pz), cpos)
theorem p6bL_self : p6bL = p6bL := rfl
theorem p6bR_self : p6bR = p6bR := rfl
name_quick p6bLQ for p6bL by p6bL_self
theorem p6b_ok (w : World) (D1 D2 D3 D4 : Data) (os : OsState) (b : List Stmt) (k : Result → Sem Fin) : (p6bL pw) w D1 D2 D3 D4 os b k = (p6bR pw) w D1 D2 D3 D4 os b k := by
  rw [PySem.W.Fast.p6bLQ_eq]
  rw [pw_fast]
  kernel_rfl
noncomputable def asgT (s : Stmt) : PySem.Expr := match s with | .Assign (t :: _) _ _ => t | _ => .Constant .none 0 zp
noncomputable def asgV (s : Stmt) : PySem.Expr := match s with | .Assign _ v _ => v | _ => .Constant .none 0 zp
noncomputable def asgP (s : Stmt) : Pos := match s with | .Assign _ _ p => p | _ => zp
noncomputable def elsOf (e : PySem.Expr) : List PySem.Expr := match e with | .Set es _ _ => es | .List es _ => es | _ => []
noncomputable def eltN (pz : Program) (j i : Nat) : PySem.Expr := ((elsOf (asgV ((clsN pz) j))).drop i).headD (.Constant .none 0 zp)
noncomputable def posOf (e : PySem.Expr) : Pos := match e with | .Call _ _ _ p => p | .Set _ _ p => p | .List _ p => p | _ => zp
noncomputable def p6s0L (pz : Program) (w : World) (D1 D2 D3 D4 : Data) (os : OsState) (b : List Stmt) (k : Result → Sem Fin) (q : Pos) := segRunT treeTable pz w 11 ann6 2 20 (mkS (((tr_clsStart pz) w.params D1 D2 D3 D4).ins 232 ⟨.type "set", none, D1, #[]⟩) 233 504 os) ⟨(tailA (asgT ((clsN pz) 0)) (asgV ((clsN pz) 0)) (cenv pz) (.ref 232)).wrap doneF deadEnd id id, (ccode pz), q, [(clsFr pz) k b, topFrame zp]⟩
noncomputable def p6s0R (pz : Program) (w : World) (D1 D2 D3 D4 : Data) (os : OsState) (b : List Stmt) (k : Result → Sem Fin) (q : Pos) : Option (Flow × SharedT × Code × Pos) := some (.next, (S_c0 pz) w D1 D2 D3 D4 os, (ccode pz), ⟨178, 4, 178, 7⟩)
theorem p6s0L_self : p6s0L = p6s0L := rfl
theorem p6s0R_self : p6s0R = p6s0R := rfl
name_quick p6s0LQ for p6s0L by p6s0L_self
theorem p6s0_ok (w : World) (D1 D2 D3 D4 : Data) (os : OsState) (b : List Stmt) (k : Result → Sem Fin) (q : Pos) : (p6s0L pw) w D1 D2 D3 D4 os b k q = (p6s0R pw) w D1 D2 D3 D4 os b k q := by
  rw [PySem.W.Fast.p6s0LQ_eq]
  rw [pw_fast]
  kernel_rfl
noncomputable def alv0 (pz : Program) (P : Params) (e1 e2 e3 : Array (Int × Value)) (n1 n2 n3 : Nat) (t1 t2 t3 : SetTable) : Bool := allAlive ((tr_clsStart pz) P (.set e1 n1 t1) (.set e2 n2 t2) (.set e3 n3 t3) .plain) 232
theorem alv0_self : alv0 = alv0 := rfl
theorem alv0_ok (P : Params) (e1 e2 e3 : Array (Int × Value)) (n1 n2 n3 : Nat) (t1 t2 t3 : SetTable) : (alv0 pw) P e1 e2 e3 n1 n2 n3 t1 t2 t3 = true := by
  rw [pw_fast]
  kernel_rfl
noncomputable def p6s1L (pz : Program) (w : World) (D1 D2 D3 D4 : Data) (os : OsState) (b : List Stmt) (k : Result → Sem Fin) (q : Pos) := segRunT treeTable pz w 11 ann6 2 20 (mkS (((tr_c0 pz) w.params D1 D2 D3 D4).ins 233 ⟨.type "set", none, D2, #[]⟩) 234 537 os) ⟨(tailA (asgT ((clsN pz) 1)) (asgV ((clsN pz) 1)) (cenv pz) (.ref 233)).wrap doneF deadEnd id id, (ccode pz), q, [(clsFr pz) k b, topFrame zp]⟩
noncomputable def p6s1R (pz : Program) (w : World) (D1 D2 D3 D4 : Data) (os : OsState) (b : List Stmt) (k : Result → Sem Fin) (q : Pos) : Option (Flow × SharedT × Code × Pos) := some (.next, (S_c1 pz) w D1 D2 D3 D4 os, (ccode pz), ⟨179, 4, 179, 21⟩)
theorem p6s1L_self : p6s1L = p6s1L := rfl
theorem p6s1R_self : p6s1R = p6s1R := rfl
name_quick p6s1LQ for p6s1L by p6s1L_self
theorem p6s1_ok (w : World) (D1 D2 D3 D4 : Data) (os : OsState) (b : List Stmt) (k : Result → Sem Fin) (q : Pos) : (p6s1L pw) w D1 D2 D3 D4 os b k q = (p6s1R pw) w D1 D2 D3 D4 os b k q := by
  rw [PySem.W.Fast.p6s1LQ_eq]
  rw [pw_fast]
  kernel_rfl
noncomputable def alv1 (pz : Program) (P : Params) (e1 e2 e3 : Array (Int × Value)) (n1 n2 n3 : Nat) (t1 t2 t3 : SetTable) : Bool := allAlive ((tr_c0 pz) P (.set e1 n1 t1) (.set e2 n2 t2) (.set e3 n3 t3) .plain) 233
theorem alv1_self : alv1 = alv1 := rfl
theorem alv1_ok (P : Params) (e1 e2 e3 : Array (Int × Value)) (n1 n2 n3 : Nat) (t1 t2 t3 : SetTable) : (alv1 pw) P e1 e2 e3 n1 n2 n3 t1 t2 t3 = true := by
  rw [pw_fast]
  kernel_rfl
noncomputable def p6s2L (pz : Program) (w : World) (D1 D2 D3 D4 : Data) (os : OsState) (b : List Stmt) (k : Result → Sem Fin) (q : Pos) := segRunT treeTable pz w 11 ann6 2 20 (mkS (((tr_c1 pz) w.params D1 D2 D3 D4).ins 234 ⟨.type "set", none, D3, #[]⟩) 235 550 os) ⟨(tailA (asgT ((clsN pz) 2)) (asgV ((clsN pz) 2)) (cenv pz) (.ref 234)).wrap doneF deadEnd id id, (ccode pz), q, [(clsFr pz) k b, topFrame zp]⟩
noncomputable def p6s2R (pz : Program) (w : World) (D1 D2 D3 D4 : Data) (os : OsState) (b : List Stmt) (k : Result → Sem Fin) (q : Pos) : Option (Flow × SharedT × Code × Pos) := some (.next, (S_c2 pz) w D1 D2 D3 D4 os, (ccode pz), ⟨180, 4, 180, 15⟩)
theorem p6s2L_self : p6s2L = p6s2L := rfl
theorem p6s2R_self : p6s2R = p6s2R := rfl
name_quick p6s2LQ for p6s2L by p6s2L_self
theorem p6s2_ok (w : World) (D1 D2 D3 D4 : Data) (os : OsState) (b : List Stmt) (k : Result → Sem Fin) (q : Pos) : (p6s2L pw) w D1 D2 D3 D4 os b k q = (p6s2R pw) w D1 D2 D3 D4 os b k q := by
  rw [PySem.W.Fast.p6s2LQ_eq]
  rw [pw_fast]
  kernel_rfl
noncomputable def alv2 (pz : Program) (P : Params) (e1 e2 e3 : Array (Int × Value)) (n1 n2 n3 : Nat) (t1 t2 t3 : SetTable) : Bool := allAlive ((tr_c1 pz) P (.set e1 n1 t1) (.set e2 n2 t2) (.set e3 n3 t3) .plain) 234
theorem alv2_self : alv2 = alv2 := rfl
theorem alv2_ok (P : Params) (e1 e2 e3 : Array (Int × Value)) (n1 n2 n3 : Nat) (t1 t2 t3 : SetTable) : (alv2 pw) P e1 e2 e3 n1 n2 n3 t1 t2 t3 = true := by
  rw [pw_fast]
  kernel_rfl
noncomputable def p6s3L (pz : Program) (w : World) (D1 D2 D3 D4 : Data) (os : OsState) (b : List Stmt) (k : Result → Sem Fin) (q : Pos) := segRunT treeTable pz w 11 ann6 2 20 (mkS (((tr_c2 pz) w.params D1 D2 D3 D4).ins 235 ⟨.type "set", none, D4, #[]⟩) 236 579 os) ⟨(tailA (asgT ((clsN pz) 3)) (asgV ((clsN pz) 3)) (cenv pz) (.ref 235)).wrap doneF deadEnd id id, (ccode pz), q, [(clsFr pz) k b, topFrame zp]⟩
noncomputable def p6s3R (pz : Program) (w : World) (D1 D2 D3 D4 : Data) (os : OsState) (b : List Stmt) (k : Result → Sem Fin) (q : Pos) : Option (Flow × SharedT × Code × Pos) := some (.next, (S_c3 pz) w D1 D2 D3 D4 os, (ccode pz), ⟨181, 4, 181, 16⟩)
theorem p6s3L_self : p6s3L = p6s3L := rfl
theorem p6s3R_self : p6s3R = p6s3R := rfl
name_quick p6s3LQ for p6s3L by p6s3L_self
theorem p6s3_ok (w : World) (D1 D2 D3 D4 : Data) (os : OsState) (b : List Stmt) (k : Result → Sem Fin) (q : Pos) : (p6s3L pw) w D1 D2 D3 D4 os b k q = (p6s3R pw) w D1 D2 D3 D4 os b k q := by
  rw [PySem.W.Fast.p6s3LQ_eq]
  rw [pw_fast]
  kernel_rfl
noncomputable def alv3 (pz : Program) (P : Params) (e1 e2 e3 : Array (Int × Value)) (n1 n2 n3 : Nat) (t1 t2 t3 : SetTable) : Bool := allAlive ((tr_c2 pz) P (.set e1 n1 t1) (.set e2 n2 t2) (.set e3 n3 t3) .plain) 235
theorem alv3_self : alv3 = alv3 := rfl
theorem alv3_ok (P : Params) (e1 e2 e3 : Array (Int × Value)) (n1 n2 n3 : Nat) (t1 t2 t3 : SetTable) : (alv3 pw) P e1 e2 e3 n1 n2 n3 t1 t2 t3 = true := by
  rw [pw_fast]
  kernel_rfl
noncomputable def p6cL (pz : Program) (w : World) (D1 D2 D3 D4 : Data) (os : OsState) (b : List Stmt) (k : Result → Sem Fin) (q : Pos) := segRunT treeTable pz w 11 ann6 2 240 ((S_c3 pz) w D1 D2 D3 D4 os) (piecesOf [(clsN pz) 4, (clsN pz) 5, (clsN pz) 6, (clsN pz) 7, (clsN pz) 8, (clsN pz) 9, (clsN pz) 10] (cenv pz) (ccode pz) q [(clsFr pz) k b, topFrame zp])
noncomputable def p6cR (pz : Program) (w : World) (D1 D2 D3 D4 : Data) (os : OsState) (b : List Stmt) (k : Result → Sem Fin) (q : Pos) : Option (Flow × SharedT × Code × Pos) := some (.next, (S_c10 pz) w D1 D2 D3 D4 os, (ccode pz), ⟨363, 4, 375, 19⟩)
theorem p6cL_self : p6cL = p6cL := rfl
theorem p6cR_self : p6cR = p6cR := rfl
name_quick p6cLQ for p6cL by p6cL_self
theorem p6c_ok (w : World) (D1 D2 D3 D4 : Data) (os : OsState) (b : List Stmt) (k : Result → Sem Fin) (q : Pos) : (p6cL pw) w D1 D2 D3 D4 os b k q = (p6cR pw) w D1 D2 D3 D4 os b k q := by
  rw [PySem.W.Fast.p6cLQ_eq]
  rw [pw_fast]
  kernel_rfl
noncomputable def el0L (pz : Program) (i : Nat) (w : World) (D1 D2 D3 D4 : Data) (os : OsState) (b : List Stmt) (k : Result → Sem Fin) (pre : List Value) (q : Pos) := segRunT treeTable pz w 11 ann6 2 250 ((stAt0 pz) i w D1 D2 D3 D4 os) ⟨(eval ((eltN pz) 11 i) (cenv pz)).wrap (fun a => .pure (.done (.ret a))) deadEnd id (pre ++ ·), (ccode pz), q, [(clsFr pz) k b, topFrame zp]⟩
noncomputable def el0R (pz : Program) (i : Nat) (w : World) (D1 D2 D3 D4 : Data) (os : OsState) (b : List Stmt) (k : Result → Sem Fin) (pre : List Value) (q : Pos) : Option (Flow × SharedT × Code × Pos) := some (.ret (.ref (278 + 3 * i + 1)), (stAt0 pz) (i + 1) w D1 D2 D3 D4 os, (ccode pz), posOf ((eltN pz) 11 i))
theorem el0L_self : el0L = el0L := rfl
theorem el0R_self : el0R = el0R := rfl
name_quick el0LQ for el0L by el0L_self
name_quick el0RQ for el0R by el0R_self
noncomputable def El0 (pz : Program) (i : Nat) : Prop := ∀ (w : World) (D1 D2 D3 D4 : Data) (os : OsState) (b : List Stmt) (k : Result → Sem Fin) (pre : List Value) (q : Pos), (el0L pz) i w D1 D2 D3 D4 os b k pre q = (el0R pz) i w D1 D2 D3 D4 os b k pre q
theorem el0_of (i : Nat) (h : ∀ (w : World) (D1 D2 D3 D4 : Data) (os : OsState) (b : List Stmt) (k : Result → Sem Fin) (pre : List Value) (q : Pos), PySem.W.Fast.el0LQ (pwG fastStr) i w D1 D2 D3 D4 os b k pre q = PySem.W.Fast.el0RQ (pwG fastStr) i w D1 D2 D3 D4 os b k pre q) : El0 pw i := by
  intro w D1 D2 D3 D4 os b k pre q
  rw [PySem.W.Fast.el0LQ_eq, PySem.W.Fast.el0RQ_eq]
  rw [pw_fast]
  exact h w D1 D2 D3 D4 os b k pre q
theorem el0_0 : (El0 pw) 0 := el0_of 0 (by intro w D1 D2 D3 D4 os b k pre q; kernel_rfl)
theorem el0_1 : (El0 pw) 1 := el0_of 1 (by intro w D1 D2 D3 D4 os b k pre q; kernel_rfl)
theorem el0_2 : (El0 pw) 2 := el0_of 2 (by intro w D1 D2 D3 D4 os b k pre q; kernel_rfl)
theorem el0_3 : (El0 pw) 3 := el0_of 3 (by intro w D1 D2 D3 D4 os b k pre q; kernel_rfl)
theorem el0_4 : (El0 pw) 4 := el0_of 4 (by intro w D1 D2 D3 D4 os b k pre q; kernel_rfl)
noncomputable def lt0L (pz : Program) (w : World) (D1 D2 D3 D4 : Data) (os : OsState) (b : List Stmt) (k : Result → Sem Fin) (q : Pos) := segRunT treeTable pz w 11 ann6 2 30 ((stAt0 pz) 5 w D1 D2 D3 D4 os) ⟨((newList vals0).bind fun v => tailA (asgT ((clsN pz) 11)) (asgV ((clsN pz) 11)) (cenv pz) v).wrap doneF deadEnd id id, (ccode pz), q, [(clsFr pz) k b, topFrame zp]⟩
noncomputable def lt0R (pz : Program) (w : World) (D1 D2 D3 D4 : Data) (os : OsState) (b : List Stmt) (k : Result → Sem Fin) (q : Pos) : Option (Flow × SharedT × Code × Pos) := some (.next, (S_c11 pz) w D1 D2 D3 D4 os, (ccode pz), ⟨376, 4, 376, 7⟩)
theorem lt0L_self : lt0L = lt0L := rfl
theorem lt0R_self : lt0R = lt0R := rfl
name_quick lt0LQ for lt0L by lt0L_self
name_quick lt0RQ for lt0R by lt0R_self
theorem lt0_ok (w : World) (D1 D2 D3 D4 : Data) (os : OsState) (b : List Stmt) (k : Result → Sem Fin) (q : Pos) : (lt0L pw) w D1 D2 D3 D4 os b k q = (lt0R pw) w D1 D2 D3 D4 os b k q := by
  rw [PySem.W.Fast.lt0LQ_eq, PySem.W.Fast.lt0RQ_eq]
  rw [pw_fast]
  kernel_rfl
noncomputable def el1L (pz : Program) (i : Nat) (w : World) (D1 D2 D3 D4 : Data) (os : OsState) (b : List Stmt) (k : Result → Sem Fin) (pre : List Value) (q : Pos) := segRunT treeTable pz w 11 ann6 2 250 ((stAt1 pz) i w D1 D2 D3 D4 os) ⟨(eval ((eltN pz) 13 i) (cenv pz)).wrap (fun a => .pure (.done (.ret a))) deadEnd id (pre ++ ·), (ccode pz), q, [(clsFr pz) k b, topFrame zp]⟩
noncomputable def el1R (pz : Program) (i : Nat) (w : World) (D1 D2 D3 D4 : Data) (os : OsState) (b : List Stmt) (k : Result → Sem Fin) (pre : List Value) (q : Pos) : Option (Flow × SharedT × Code × Pos) := some (.ret (.ref (295 + 3 * i + 1)), (stAt1 pz) (i + 1) w D1 D2 D3 D4 os, (ccode pz), posOf ((eltN pz) 13 i))
theorem el1L_self : el1L = el1L := rfl
theorem el1R_self : el1R = el1R := rfl
name_quick el1LQ for el1L by el1L_self
name_quick el1RQ for el1R by el1R_self
noncomputable def El1 (pz : Program) (i : Nat) : Prop := ∀ (w : World) (D1 D2 D3 D4 : Data) (os : OsState) (b : List Stmt) (k : Result → Sem Fin) (pre : List Value) (q : Pos), (el1L pz) i w D1 D2 D3 D4 os b k pre q = (el1R pz) i w D1 D2 D3 D4 os b k pre q
theorem el1_of (i : Nat) (h : ∀ (w : World) (D1 D2 D3 D4 : Data) (os : OsState) (b : List Stmt) (k : Result → Sem Fin) (pre : List Value) (q : Pos), PySem.W.Fast.el1LQ (pwG fastStr) i w D1 D2 D3 D4 os b k pre q = PySem.W.Fast.el1RQ (pwG fastStr) i w D1 D2 D3 D4 os b k pre q) : El1 pw i := by
  intro w D1 D2 D3 D4 os b k pre q
  rw [PySem.W.Fast.el1LQ_eq, PySem.W.Fast.el1RQ_eq]
  rw [pw_fast]
  exact h w D1 D2 D3 D4 os b k pre q
theorem el1_0 : (El1 pw) 0 := el1_of 0 (by intro w D1 D2 D3 D4 os b k pre q; kernel_rfl)
theorem el1_1 : (El1 pw) 1 := el1_of 1 (by intro w D1 D2 D3 D4 os b k pre q; kernel_rfl)
theorem el1_2 : (El1 pw) 2 := el1_of 2 (by intro w D1 D2 D3 D4 os b k pre q; kernel_rfl)
theorem el1_3 : (El1 pw) 3 := el1_of 3 (by intro w D1 D2 D3 D4 os b k pre q; kernel_rfl)
theorem el1_4 : (El1 pw) 4 := el1_of 4 (by intro w D1 D2 D3 D4 os b k pre q; kernel_rfl)
theorem el1_5 : (El1 pw) 5 := el1_of 5 (by intro w D1 D2 D3 D4 os b k pre q; kernel_rfl)
theorem el1_6 : (El1 pw) 6 := el1_of 6 (by intro w D1 D2 D3 D4 os b k pre q; kernel_rfl)
theorem el1_7 : (El1 pw) 7 := el1_of 7 (by intro w D1 D2 D3 D4 os b k pre q; kernel_rfl)
theorem el1_8 : (El1 pw) 8 := el1_of 8 (by intro w D1 D2 D3 D4 os b k pre q; kernel_rfl)
theorem el1_9 : (El1 pw) 9 := el1_of 9 (by intro w D1 D2 D3 D4 os b k pre q; kernel_rfl)
theorem el1_10 : (El1 pw) 10 := el1_of 10 (by intro w D1 D2 D3 D4 os b k pre q; kernel_rfl)
theorem el1_11 : (El1 pw) 11 := el1_of 11 (by intro w D1 D2 D3 D4 os b k pre q; kernel_rfl)
theorem el1_12 : (El1 pw) 12 := el1_of 12 (by intro w D1 D2 D3 D4 os b k pre q; kernel_rfl)
noncomputable def lt1L (pz : Program) (w : World) (D1 D2 D3 D4 : Data) (os : OsState) (b : List Stmt) (k : Result → Sem Fin) (q : Pos) := segRunT treeTable pz w 11 ann6 2 30 ((stAt1 pz) 13 w D1 D2 D3 D4 os) ⟨((newList vals1).bind fun v => tailA (asgT ((clsN pz) 13)) (asgV ((clsN pz) 13)) (cenv pz) v).wrap doneF deadEnd id id, (ccode pz), q, [(clsFr pz) k b, topFrame zp]⟩
noncomputable def lt1R (pz : Program) (w : World) (D1 D2 D3 D4 : Data) (os : OsState) (b : List Stmt) (k : Result → Sem Fin) (q : Pos) : Option (Flow × SharedT × Code × Pos) := some (.next, (S_c13 pz) w D1 D2 D3 D4 os, (ccode pz), ⟨378, 4, 378, 7⟩)
theorem lt1L_self : lt1L = lt1L := rfl
theorem lt1R_self : lt1R = lt1R := rfl
name_quick lt1LQ for lt1L by lt1L_self
name_quick lt1RQ for lt1R by lt1R_self
theorem lt1_ok (w : World) (D1 D2 D3 D4 : Data) (os : OsState) (b : List Stmt) (k : Result → Sem Fin) (q : Pos) : (lt1L pw) w D1 D2 D3 D4 os b k q = (lt1R pw) w D1 D2 D3 D4 os b k q := by
  rw [PySem.W.Fast.lt1LQ_eq, PySem.W.Fast.lt1RQ_eq]
  rw [pw_fast]
  kernel_rfl
noncomputable def el2L (pz : Program) (i : Nat) (w : World) (D1 D2 D3 D4 : Data) (os : OsState) (b : List Stmt) (k : Result → Sem Fin) (pre : List Value) (q : Pos) := segRunT treeTable pz w 11 ann6 2 250 ((stAt2 pz) i w D1 D2 D3 D4 os) ⟨(eval ((eltN pz) 15 i) (cenv pz)).wrap (fun a => .pure (.done (.ret a))) deadEnd id (pre ++ ·), (ccode pz), q, [(clsFr pz) k b, topFrame zp]⟩
noncomputable def el2R (pz : Program) (i : Nat) (w : World) (D1 D2 D3 D4 : Data) (os : OsState) (b : List Stmt) (k : Result → Sem Fin) (pre : List Value) (q : Pos) : Option (Flow × SharedT × Code × Pos) := some (.ret (.ref (336 + 3 * i + 1)), (stAt2 pz) (i + 1) w D1 D2 D3 D4 os, (ccode pz), posOf ((eltN pz) 15 i))
theorem el2L_self : el2L = el2L := rfl
theorem el2R_self : el2R = el2R := rfl
name_quick el2LQ for el2L by el2L_self
name_quick el2RQ for el2R by el2R_self
noncomputable def El2 (pz : Program) (i : Nat) : Prop := ∀ (w : World) (D1 D2 D3 D4 : Data) (os : OsState) (b : List Stmt) (k : Result → Sem Fin) (pre : List Value) (q : Pos), (el2L pz) i w D1 D2 D3 D4 os b k pre q = (el2R pz) i w D1 D2 D3 D4 os b k pre q
theorem el2_of (i : Nat) (h : ∀ (w : World) (D1 D2 D3 D4 : Data) (os : OsState) (b : List Stmt) (k : Result → Sem Fin) (pre : List Value) (q : Pos), PySem.W.Fast.el2LQ (pwG fastStr) i w D1 D2 D3 D4 os b k pre q = PySem.W.Fast.el2RQ (pwG fastStr) i w D1 D2 D3 D4 os b k pre q) : El2 pw i := by
  intro w D1 D2 D3 D4 os b k pre q
  rw [PySem.W.Fast.el2LQ_eq, PySem.W.Fast.el2RQ_eq]
  rw [pw_fast]
  exact h w D1 D2 D3 D4 os b k pre q
theorem el2_0 : (El2 pw) 0 := el2_of 0 (by intro w D1 D2 D3 D4 os b k pre q; kernel_rfl)
theorem el2_1 : (El2 pw) 1 := el2_of 1 (by intro w D1 D2 D3 D4 os b k pre q; kernel_rfl)
theorem el2_2 : (El2 pw) 2 := el2_of 2 (by intro w D1 D2 D3 D4 os b k pre q; kernel_rfl)
noncomputable def lt2L (pz : Program) (w : World) (D1 D2 D3 D4 : Data) (os : OsState) (b : List Stmt) (k : Result → Sem Fin) (q : Pos) := segRunT treeTable pz w 11 ann6 2 30 ((stAt2 pz) 3 w D1 D2 D3 D4 os) ⟨((newList vals2).bind fun v => tailA (asgT ((clsN pz) 15)) (asgV ((clsN pz) 15)) (cenv pz) v).wrap doneF deadEnd id id, (ccode pz), q, [(clsFr pz) k b, topFrame zp]⟩
noncomputable def lt2R (pz : Program) (w : World) (D1 D2 D3 D4 : Data) (os : OsState) (b : List Stmt) (k : Result → Sem Fin) (q : Pos) : Option (Flow × SharedT × Code × Pos) := some (.next, (S_c15 pz) w D1 D2 D3 D4 os, (ccode pz), ⟨380, 4, 380, 7⟩)
theorem lt2L_self : lt2L = lt2L := rfl
theorem lt2R_self : lt2R = lt2R := rfl
name_quick lt2LQ for lt2L by lt2L_self
name_quick lt2RQ for lt2R by lt2R_self
theorem lt2_ok (w : World) (D1 D2 D3 D4 : Data) (os : OsState) (b : List Stmt) (k : Result → Sem Fin) (q : Pos) : (lt2L pw) w D1 D2 D3 D4 os b k q = (lt2R pw) w D1 D2 D3 D4 os b k q := by
  rw [PySem.W.Fast.lt2LQ_eq, PySem.W.Fast.lt2RQ_eq]
  rw [pw_fast]
  kernel_rfl
noncomputable def el3L (pz : Program) (i : Nat) (w : World) (D1 D2 D3 D4 : Data) (os : OsState) (b : List Stmt) (k : Result → Sem Fin) (pre : List Value) (q : Pos) := segRunT treeTable pz w 11 ann6 2 250 ((stAt3 pz) i w D1 D2 D3 D4 os) ⟨(eval ((eltN pz) 16 i) (cenv pz)).wrap (fun a => .pure (.done (.ret a))) deadEnd id (pre ++ ·), (ccode pz), q, [(clsFr pz) k b, topFrame zp]⟩
noncomputable def el3R (pz : Program) (i : Nat) (w : World) (D1 D2 D3 D4 : Data) (os : OsState) (b : List Stmt) (k : Result → Sem Fin) (pre : List Value) (q : Pos) : Option (Flow × SharedT × Code × Pos) := some (.ret (.ref (346 + 3 * i + 1)), (stAt3 pz) (i + 1) w D1 D2 D3 D4 os, (ccode pz), posOf ((eltN pz) 16 i))
theorem el3L_self : el3L = el3L := rfl
theorem el3R_self : el3R = el3R := rfl
name_quick el3LQ for el3L by el3L_self
name_quick el3RQ for el3R by el3R_self
noncomputable def El3 (pz : Program) (i : Nat) : Prop := ∀ (w : World) (D1 D2 D3 D4 : Data) (os : OsState) (b : List Stmt) (k : Result → Sem Fin) (pre : List Value) (q : Pos), (el3L pz) i w D1 D2 D3 D4 os b k pre q = (el3R pz) i w D1 D2 D3 D4 os b k pre q
theorem el3_of (i : Nat) (h : ∀ (w : World) (D1 D2 D3 D4 : Data) (os : OsState) (b : List Stmt) (k : Result → Sem Fin) (pre : List Value) (q : Pos), PySem.W.Fast.el3LQ (pwG fastStr) i w D1 D2 D3 D4 os b k pre q = PySem.W.Fast.el3RQ (pwG fastStr) i w D1 D2 D3 D4 os b k pre q) : El3 pw i := by
  intro w D1 D2 D3 D4 os b k pre q
  rw [PySem.W.Fast.el3LQ_eq, PySem.W.Fast.el3RQ_eq]
  rw [pw_fast]
  exact h w D1 D2 D3 D4 os b k pre q
theorem el3_0 : (El3 pw) 0 := el3_of 0 (by intro w D1 D2 D3 D4 os b k pre q; kernel_rfl)
theorem el3_1 : (El3 pw) 1 := el3_of 1 (by intro w D1 D2 D3 D4 os b k pre q; kernel_rfl)
theorem el3_2 : (El3 pw) 2 := el3_of 2 (by intro w D1 D2 D3 D4 os b k pre q; kernel_rfl)
theorem el3_3 : (El3 pw) 3 := el3_of 3 (by intro w D1 D2 D3 D4 os b k pre q; kernel_rfl)
theorem el3_4 : (El3 pw) 4 := el3_of 4 (by intro w D1 D2 D3 D4 os b k pre q; kernel_rfl)
theorem el3_5 : (El3 pw) 5 := el3_of 5 (by intro w D1 D2 D3 D4 os b k pre q; kernel_rfl)
theorem el3_6 : (El3 pw) 6 := el3_of 6 (by intro w D1 D2 D3 D4 os b k pre q; kernel_rfl)
theorem el3_7 : (El3 pw) 7 := el3_of 7 (by intro w D1 D2 D3 D4 os b k pre q; kernel_rfl)
theorem el3_8 : (El3 pw) 8 := el3_of 8 (by intro w D1 D2 D3 D4 os b k pre q; kernel_rfl)
noncomputable def lt3L (pz : Program) (w : World) (D1 D2 D3 D4 : Data) (os : OsState) (b : List Stmt) (k : Result → Sem Fin) (q : Pos) := segRunT treeTable pz w 11 ann6 2 30 ((stAt3 pz) 9 w D1 D2 D3 D4 os) ⟨((newList vals3).bind fun v => tailA (asgT ((clsN pz) 16)) (asgV ((clsN pz) 16)) (cenv pz) v).wrap doneF deadEnd id id, (ccode pz), q, [(clsFr pz) k b, topFrame zp]⟩
noncomputable def lt3R (pz : Program) (w : World) (D1 D2 D3 D4 : Data) (os : OsState) (b : List Stmt) (k : Result → Sem Fin) (q : Pos) : Option (Flow × SharedT × Code × Pos) := some (.next, (S_c16 pz) w D1 D2 D3 D4 os, (ccode pz), ⟨381, 4, 381, 7⟩)
theorem lt3L_self : lt3L = lt3L := rfl
theorem lt3R_self : lt3R = lt3R := rfl
name_quick lt3LQ for lt3L by lt3L_self
name_quick lt3RQ for lt3R by lt3R_self
theorem lt3_ok (w : World) (D1 D2 D3 D4 : Data) (os : OsState) (b : List Stmt) (k : Result → Sem Fin) (q : Pos) : (lt3L pw) w D1 D2 D3 D4 os b k q = (lt3R pw) w D1 D2 D3 D4 os b k q := by
  rw [PySem.W.Fast.lt3LQ_eq, PySem.W.Fast.lt3RQ_eq]
  rw [pw_fast]
  kernel_rfl
noncomputable def el4L (pz : Program) (i : Nat) (w : World) (D1 D2 D3 D4 : Data) (os : OsState) (b : List Stmt) (k : Result → Sem Fin) (pre : List Value) (q : Pos) := segRunT treeTable pz w 11 ann6 2 250 ((stAt4 pz) i w D1 D2 D3 D4 os) ⟨(eval ((eltN pz) 18 i) (cenv pz)).wrap (fun a => .pure (.done (.ret a))) deadEnd id (pre ++ ·), (ccode pz), q, [(clsFr pz) k b, topFrame zp]⟩
noncomputable def el4R (pz : Program) (i : Nat) (w : World) (D1 D2 D3 D4 : Data) (os : OsState) (b : List Stmt) (k : Result → Sem Fin) (pre : List Value) (q : Pos) : Option (Flow × SharedT × Code × Pos) := some (.ret (.ref (375 + 3 * i + 1)), (stAt4 pz) (i + 1) w D1 D2 D3 D4 os, (ccode pz), posOf ((eltN pz) 18 i))
theorem el4L_self : el4L = el4L := rfl
theorem el4R_self : el4R = el4R := rfl
name_quick el4LQ for el4L by el4L_self
name_quick el4RQ for el4R by el4R_self
noncomputable def El4 (pz : Program) (i : Nat) : Prop := ∀ (w : World) (D1 D2 D3 D4 : Data) (os : OsState) (b : List Stmt) (k : Result → Sem Fin) (pre : List Value) (q : Pos), (el4L pz) i w D1 D2 D3 D4 os b k pre q = (el4R pz) i w D1 D2 D3 D4 os b k pre q
theorem el4_of (i : Nat) (h : ∀ (w : World) (D1 D2 D3 D4 : Data) (os : OsState) (b : List Stmt) (k : Result → Sem Fin) (pre : List Value) (q : Pos), PySem.W.Fast.el4LQ (pwG fastStr) i w D1 D2 D3 D4 os b k pre q = PySem.W.Fast.el4RQ (pwG fastStr) i w D1 D2 D3 D4 os b k pre q) : El4 pw i := by
  intro w D1 D2 D3 D4 os b k pre q
  rw [PySem.W.Fast.el4LQ_eq, PySem.W.Fast.el4RQ_eq]
  rw [pw_fast]
  exact h w D1 D2 D3 D4 os b k pre q
theorem el4_0 : (El4 pw) 0 := el4_of 0 (by intro w D1 D2 D3 D4 os b k pre q; kernel_rfl)
theorem el4_1 : (El4 pw) 1 := el4_of 1 (by intro w D1 D2 D3 D4 os b k pre q; kernel_rfl)
theorem el4_2 : (El4 pw) 2 := el4_of 2 (by intro w D1 D2 D3 D4 os b k pre q; kernel_rfl)
noncomputable def lt4L (pz : Program) (w : World) (D1 D2 D3 D4 : Data) (os : OsState) (b : List Stmt) (k : Result → Sem Fin) (q : Pos) := segRunT treeTable pz w 11 ann6 2 30 ((stAt4 pz) 3 w D1 D2 D3 D4 os) ⟨((newList vals4).bind fun v => tailA (asgT ((clsN pz) 18)) (asgV ((clsN pz) 18)) (cenv pz) v).wrap doneF deadEnd id id, (ccode pz), q, [(clsFr pz) k b, topFrame zp]⟩
noncomputable def lt4R (pz : Program) (w : World) (D1 D2 D3 D4 : Data) (os : OsState) (b : List Stmt) (k : Result → Sem Fin) (q : Pos) : Option (Flow × SharedT × Code × Pos) := some (.next, (S_c18 pz) w D1 D2 D3 D4 os, (ccode pz), ⟨383, 4, 383, 7⟩)
theorem lt4L_self : lt4L = lt4L := rfl
theorem lt4R_self : lt4R = lt4R := rfl
name_quick lt4LQ for lt4L by lt4L_self
name_quick lt4RQ for lt4R by lt4R_self
theorem lt4_ok (w : World) (D1 D2 D3 D4 : Data) (os : OsState) (b : List Stmt) (k : Result → Sem Fin) (q : Pos) : (lt4L pw) w D1 D2 D3 D4 os b k q = (lt4R pw) w D1 D2 D3 D4 os b k q := by
  rw [PySem.W.Fast.lt4LQ_eq, PySem.W.Fast.lt4RQ_eq]
  rw [pw_fast]
  kernel_rfl
noncomputable def el5L (pz : Program) (i : Nat) (w : World) (D1 D2 D3 D4 : Data) (os : OsState) (b : List Stmt) (k : Result → Sem Fin) (pre : List Value) (q : Pos) := segRunT treeTable pz w 11 ann6 2 250 ((stAt5 pz) i w D1 D2 D3 D4 os) ⟨(eval ((eltN pz) 19 i) (cenv pz)).wrap (fun a => .pure (.done (.ret a))) deadEnd id (pre ++ ·), (ccode pz), q, [(clsFr pz) k b, topFrame zp]⟩
noncomputable def el5R (pz : Program) (i : Nat) (w : World) (D1 D2 D3 D4 : Data) (os : OsState) (b : List Stmt) (k : Result → Sem Fin) (pre : List Value) (q : Pos) : Option (Flow × SharedT × Code × Pos) := some (.ret (.ref (385 + 3 * i + 1)), (stAt5 pz) (i + 1) w D1 D2 D3 D4 os, (ccode pz), posOf ((eltN pz) 19 i))
theorem el5L_self : el5L = el5L := rfl
theorem el5R_self : el5R = el5R := rfl
name_quick el5LQ for el5L by el5L_self
name_quick el5RQ for el5R by el5R_self
noncomputable def El5 (pz : Program) (i : Nat) : Prop := ∀ (w : World) (D1 D2 D3 D4 : Data) (os : OsState) (b : List Stmt) (k : Result → Sem Fin) (pre : List Value) (q : Pos), (el5L pz) i w D1 D2 D3 D4 os b k pre q = (el5R pz) i w D1 D2 D3 D4 os b k pre q
theorem el5_of (i : Nat) (h : ∀ (w : World) (D1 D2 D3 D4 : Data) (os : OsState) (b : List Stmt) (k : Result → Sem Fin) (pre : List Value) (q : Pos), PySem.W.Fast.el5LQ (pwG fastStr) i w D1 D2 D3 D4 os b k pre q = PySem.W.Fast.el5RQ (pwG fastStr) i w D1 D2 D3 D4 os b k pre q) : El5 pw i := by
  intro w D1 D2 D3 D4 os b k pre q
  rw [PySem.W.Fast.el5LQ_eq, PySem.W.Fast.el5RQ_eq]
  rw [pw_fast]
  exact h w D1 D2 D3 D4 os b k pre q
theorem el5_0 : (El5 pw) 0 := el5_of 0 (by intro w D1 D2 D3 D4 os b k pre q; kernel_rfl)
theorem el5_1 : (El5 pw) 1 := el5_of 1 (by intro w D1 D2 D3 D4 os b k pre q; kernel_rfl)
theorem el5_2 : (El5 pw) 2 := el5_of 2 (by intro w D1 D2 D3 D4 os b k pre q; kernel_rfl)
theorem el5_3 : (El5 pw) 3 := el5_of 3 (by intro w D1 D2 D3 D4 os b k pre q; kernel_rfl)
theorem el5_4 : (El5 pw) 4 := el5_of 4 (by intro w D1 D2 D3 D4 os b k pre q; kernel_rfl)
noncomputable def lt5L (pz : Program) (w : World) (D1 D2 D3 D4 : Data) (os : OsState) (b : List Stmt) (k : Result → Sem Fin) (q : Pos) := segRunT treeTable pz w 11 ann6 2 30 ((stAt5 pz) 5 w D1 D2 D3 D4 os) ⟨((newList vals5).bind fun v => tailA (asgT ((clsN pz) 19)) (asgV ((clsN pz) 19)) (cenv pz) v).wrap doneF deadEnd id id, (ccode pz), q, [(clsFr pz) k b, topFrame zp]⟩
noncomputable def lt5R (pz : Program) (w : World) (D1 D2 D3 D4 : Data) (os : OsState) (b : List Stmt) (k : Result → Sem Fin) (q : Pos) : Option (Flow × SharedT × Code × Pos) := some (.next, (S_c19 pz) w D1 D2 D3 D4 os, (ccode pz), ⟨384, 4, 384, 7⟩)
theorem lt5L_self : lt5L = lt5L := rfl
theorem lt5R_self : lt5R = lt5R := rfl
name_quick lt5LQ for lt5L by lt5L_self
name_quick lt5RQ for lt5R by lt5R_self
theorem lt5_ok (w : World) (D1 D2 D3 D4 : Data) (os : OsState) (b : List Stmt) (k : Result → Sem Fin) (q : Pos) : (lt5L pw) w D1 D2 D3 D4 os b k q = (lt5R pw) w D1 D2 D3 D4 os b k q := by
  rw [PySem.W.Fast.lt5LQ_eq, PySem.W.Fast.lt5RQ_eq]
  rw [pw_fast]
  kernel_rfl
noncomputable def el6L (pz : Program) (i : Nat) (w : World) (D1 D2 D3 D4 : Data) (os : OsState) (b : List Stmt) (k : Result → Sem Fin) (pre : List Value) (q : Pos) := segRunT treeTable pz w 11 ann6 2 250 ((stAt6 pz) i w D1 D2 D3 D4 os) ⟨(eval ((eltN pz) 20 i) (cenv pz)).wrap (fun a => .pure (.done (.ret a))) deadEnd id (pre ++ ·), (ccode pz), q, [(clsFr pz) k b, topFrame zp]⟩
noncomputable def el6R (pz : Program) (i : Nat) (w : World) (D1 D2 D3 D4 : Data) (os : OsState) (b : List Stmt) (k : Result → Sem Fin) (pre : List Value) (q : Pos) : Option (Flow × SharedT × Code × Pos) := some (.ret (.ref (401 + 3 * i + 1)), (stAt6 pz) (i + 1) w D1 D2 D3 D4 os, (ccode pz), posOf ((eltN pz) 20 i))
theorem el6L_self : el6L = el6L := rfl
theorem el6R_self : el6R = el6R := rfl
name_quick el6LQ for el6L by el6L_self
name_quick el6RQ for el6R by el6R_self
noncomputable def El6 (pz : Program) (i : Nat) : Prop := ∀ (w : World) (D1 D2 D3 D4 : Data) (os : OsState) (b : List Stmt) (k : Result → Sem Fin) (pre : List Value) (q : Pos), (el6L pz) i w D1 D2 D3 D4 os b k pre q = (el6R pz) i w D1 D2 D3 D4 os b k pre q
theorem el6_of (i : Nat) (h : ∀ (w : World) (D1 D2 D3 D4 : Data) (os : OsState) (b : List Stmt) (k : Result → Sem Fin) (pre : List Value) (q : Pos), PySem.W.Fast.el6LQ (pwG fastStr) i w D1 D2 D3 D4 os b k pre q = PySem.W.Fast.el6RQ (pwG fastStr) i w D1 D2 D3 D4 os b k pre q) : El6 pw i := by
  intro w D1 D2 D3 D4 os b k pre q
  rw [PySem.W.Fast.el6LQ_eq, PySem.W.Fast.el6RQ_eq]
  rw [pw_fast]
  exact h w D1 D2 D3 D4 os b k pre q
theorem el6_0 : (El6 pw) 0 := el6_of 0 (by intro w D1 D2 D3 D4 os b k pre q; kernel_rfl)
theorem el6_1 : (El6 pw) 1 := el6_of 1 (by intro w D1 D2 D3 D4 os b k pre q; kernel_rfl)
theorem el6_2 : (El6 pw) 2 := el6_of 2 (by intro w D1 D2 D3 D4 os b k pre q; kernel_rfl)
theorem el6_3 : (El6 pw) 3 := el6_of 3 (by intro w D1 D2 D3 D4 os b k pre q; kernel_rfl)
theorem el6_4 : (El6 pw) 4 := el6_of 4 (by intro w D1 D2 D3 D4 os b k pre q; kernel_rfl)
theorem el6_5 : (El6 pw) 5 := el6_of 5 (by intro w D1 D2 D3 D4 os b k pre q; kernel_rfl)
theorem el6_6 : (El6 pw) 6 := el6_of 6 (by intro w D1 D2 D3 D4 os b k pre q; kernel_rfl)
theorem el6_7 : (El6 pw) 7 := el6_of 7 (by intro w D1 D2 D3 D4 os b k pre q; kernel_rfl)
theorem el6_8 : (El6 pw) 8 := el6_of 8 (by intro w D1 D2 D3 D4 os b k pre q; kernel_rfl)
theorem el6_9 : (El6 pw) 9 := el6_of 9 (by intro w D1 D2 D3 D4 os b k pre q; kernel_rfl)
theorem el6_10 : (El6 pw) 10 := el6_of 10 (by intro w D1 D2 D3 D4 os b k pre q; kernel_rfl)
theorem el6_11 : (El6 pw) 11 := el6_of 11 (by intro w D1 D2 D3 D4 os b k pre q; kernel_rfl)
theorem el6_12 : (El6 pw) 12 := el6_of 12 (by intro w D1 D2 D3 D4 os b k pre q; kernel_rfl)
theorem el6_13 : (El6 pw) 13 := el6_of 13 (by intro w D1 D2 D3 D4 os b k pre q; kernel_rfl)
theorem el6_14 : (El6 pw) 14 := el6_of 14 (by intro w D1 D2 D3 D4 os b k pre q; kernel_rfl)
theorem el6_15 : (El6 pw) 15 := el6_of 15 (by intro w D1 D2 D3 D4 os b k pre q; kernel_rfl)
theorem el6_16 : (El6 pw) 16 := el6_of 16 (by intro w D1 D2 D3 D4 os b k pre q; kernel_rfl)
theorem el6_17 : (El6 pw) 17 := el6_of 17 (by intro w D1 D2 D3 D4 os b k pre q; kernel_rfl)
theorem el6_18 : (El6 pw) 18 := el6_of 18 (by intro w D1 D2 D3 D4 os b k pre q; kernel_rfl)
theorem el6_19 : (El6 pw) 19 := el6_of 19 (by intro w D1 D2 D3 D4 os b k pre q; kernel_rfl)
theorem el6_20 : (El6 pw) 20 := el6_of 20 (by intro w D1 D2 D3 D4 os b k pre q; kernel_rfl)
theorem el6_21 : (El6 pw) 21 := el6_of 21 (by intro w D1 D2 D3 D4 os b k pre q; kernel_rfl)
theorem el6_22 : (El6 pw) 22 := el6_of 22 (by intro w D1 D2 D3 D4 os b k pre q; kernel_rfl)
theorem el6_23 : (El6 pw) 23 := el6_of 23 (by intro w D1 D2 D3 D4 os b k pre q; kernel_rfl)
theorem el6_24 : (El6 pw) 24 := el6_of 24 (by intro w D1 D2 D3 D4 os b k pre q; kernel_rfl)
theorem el6_25 : (El6 pw) 25 := el6_of 25 (by intro w D1 D2 D3 D4 os b k pre q; kernel_rfl)
theorem el6_26 : (El6 pw) 26 := el6_of 26 (by intro w D1 D2 D3 D4 os b k pre q; kernel_rfl)
theorem el6_27 : (El6 pw) 27 := el6_of 27 (by intro w D1 D2 D3 D4 os b k pre q; kernel_rfl)
theorem el6_28 : (El6 pw) 28 := el6_of 28 (by intro w D1 D2 D3 D4 os b k pre q; kernel_rfl)
theorem el6_29 : (El6 pw) 29 := el6_of 29 (by intro w D1 D2 D3 D4 os b k pre q; kernel_rfl)
theorem el6_30 : (El6 pw) 30 := el6_of 30 (by intro w D1 D2 D3 D4 os b k pre q; kernel_rfl)
theorem el6_31 : (El6 pw) 31 := el6_of 31 (by intro w D1 D2 D3 D4 os b k pre q; kernel_rfl)
theorem el6_32 : (El6 pw) 32 := el6_of 32 (by intro w D1 D2 D3 D4 os b k pre q; kernel_rfl)
theorem el6_33 : (El6 pw) 33 := el6_of 33 (by intro w D1 D2 D3 D4 os b k pre q; kernel_rfl)
theorem el6_34 : (El6 pw) 34 := el6_of 34 (by intro w D1 D2 D3 D4 os b k pre q; kernel_rfl)
theorem el6_35 : (El6 pw) 35 := el6_of 35 (by intro w D1 D2 D3 D4 os b k pre q; kernel_rfl)
theorem el6_36 : (El6 pw) 36 := el6_of 36 (by intro w D1 D2 D3 D4 os b k pre q; kernel_rfl)
theorem el6_37 : (El6 pw) 37 := el6_of 37 (by intro w D1 D2 D3 D4 os b k pre q; kernel_rfl)
theorem el6_38 : (El6 pw) 38 := el6_of 38 (by intro w D1 D2 D3 D4 os b k pre q; kernel_rfl)
theorem el6_39 : (El6 pw) 39 := el6_of 39 (by intro w D1 D2 D3 D4 os b k pre q; kernel_rfl)
theorem el6_40 : (El6 pw) 40 := el6_of 40 (by intro w D1 D2 D3 D4 os b k pre q; kernel_rfl)
theorem el6_41 : (El6 pw) 41 := el6_of 41 (by intro w D1 D2 D3 D4 os b k pre q; kernel_rfl)
theorem el6_42 : (El6 pw) 42 := el6_of 42 (by intro w D1 D2 D3 D4 os b k pre q; kernel_rfl)
theorem el6_43 : (El6 pw) 43 := el6_of 43 (by intro w D1 D2 D3 D4 os b k pre q; kernel_rfl)
theorem el6_44 : (El6 pw) 44 := el6_of 44 (by intro w D1 D2 D3 D4 os b k pre q; kernel_rfl)
theorem el6_45 : (El6 pw) 45 := el6_of 45 (by intro w D1 D2 D3 D4 os b k pre q; kernel_rfl)
theorem el6_46 : (El6 pw) 46 := el6_of 46 (by intro w D1 D2 D3 D4 os b k pre q; kernel_rfl)
theorem el6_47 : (El6 pw) 47 := el6_of 47 (by intro w D1 D2 D3 D4 os b k pre q; kernel_rfl)
theorem el6_48 : (El6 pw) 48 := el6_of 48 (by intro w D1 D2 D3 D4 os b k pre q; kernel_rfl)
theorem el6_49 : (El6 pw) 49 := el6_of 49 (by intro w D1 D2 D3 D4 os b k pre q; kernel_rfl)
theorem el6_50 : (El6 pw) 50 := el6_of 50 (by intro w D1 D2 D3 D4 os b k pre q; kernel_rfl)
theorem el6_51 : (El6 pw) 51 := el6_of 51 (by intro w D1 D2 D3 D4 os b k pre q; kernel_rfl)
theorem el6_52 : (El6 pw) 52 := el6_of 52 (by intro w D1 D2 D3 D4 os b k pre q; kernel_rfl)
theorem el6_53 : (El6 pw) 53 := el6_of 53 (by intro w D1 D2 D3 D4 os b k pre q; kernel_rfl)
theorem el6_54 : (El6 pw) 54 := el6_of 54 (by intro w D1 D2 D3 D4 os b k pre q; kernel_rfl)
theorem el6_55 : (El6 pw) 55 := el6_of 55 (by intro w D1 D2 D3 D4 os b k pre q; kernel_rfl)
theorem el6_56 : (El6 pw) 56 := el6_of 56 (by intro w D1 D2 D3 D4 os b k pre q; kernel_rfl)
theorem el6_57 : (El6 pw) 57 := el6_of 57 (by intro w D1 D2 D3 D4 os b k pre q; kernel_rfl)
noncomputable def lt6L (pz : Program) (w : World) (D1 D2 D3 D4 : Data) (os : OsState) (b : List Stmt) (k : Result → Sem Fin) (q : Pos) := segRunT treeTable pz w 11 ann6 2 30 ((stAt6 pz) 58 w D1 D2 D3 D4 os) ⟨((newList vals6).bind fun v => tailA (asgT ((clsN pz) 20)) (asgV ((clsN pz) 20)) (cenv pz) v).wrap doneF deadEnd id id, (ccode pz), q, [(clsFr pz) k b, topFrame zp]⟩
noncomputable def lt6R (pz : Program) (w : World) (D1 D2 D3 D4 : Data) (os : OsState) (b : List Stmt) (k : Result → Sem Fin) (q : Pos) : Option (Flow × SharedT × Code × Pos) := some (.next, (S_c20 pz) w D1 D2 D3 D4 os, (ccode pz), ⟨385, 4, 385, 7⟩)
theorem lt6L_self : lt6L = lt6L := rfl
theorem lt6R_self : lt6R = lt6R := rfl
name_quick lt6LQ for lt6L by lt6L_self
name_quick lt6RQ for lt6R by lt6R_self
theorem lt6_ok (w : World) (D1 D2 D3 D4 : Data) (os : OsState) (b : List Stmt) (k : Result → Sem Fin) (q : Pos) : (lt6L pw) w D1 D2 D3 D4 os b k q = (lt6R pw) w D1 D2 D3 D4 os b k q := by
  rw [PySem.W.Fast.lt6LQ_eq, PySem.W.Fast.lt6RQ_eq]
  rw [pw_fast]
  kernel_rfl
noncomputable def p6t12L (pz : Program) (w : World) (D1 D2 D3 D4 : Data) (os : OsState) (b : List Stmt) (k : Result → Sem Fin) (q : Pos) := segRunT treeTable pz w 11 ann6 2 40 ((S_c11 pz) w D1 D2 D3 D4 os) (piecesOf [(clsN pz) 12] (cenv pz) (ccode pz) q [(clsFr pz) k b, topFrame zp])
noncomputable def p6t12R (pz : Program) (w : World) (D1 D2 D3 D4 : Data) (os : OsState) (b : List Stmt) (k : Result → Sem Fin) (q : Pos) : Option (Flow × SharedT × Code × Pos) := some (.next, (S_c12 pz) w D1 D2 D3 D4 os, (ccode pz), ⟨377, 4, 377, 8⟩)
theorem p6t12L_self : p6t12L = p6t12L := rfl
theorem p6t12R_self : p6t12R = p6t12R := rfl
name_quick p6t12LQ for p6t12L by p6t12L_self
name_quick p6t12RQ for p6t12R by p6t12R_self
theorem p6t12_ok (w : World) (D1 D2 D3 D4 : Data) (os : OsState) (b : List Stmt) (k : Result → Sem Fin) (q : Pos) : (p6t12L pw) w D1 D2 D3 D4 os b k q = (p6t12R pw) w D1 D2 D3 D4 os b k q := by
  rw [PySem.W.Fast.p6t12LQ_eq, PySem.W.Fast.p6t12RQ_eq]
  rw [pw_fast]
  kernel_rfl
noncomputable def p6t14L (pz : Program) (w : World) (D1 D2 D3 D4 : Data) (os : OsState) (b : List Stmt) (k : Result → Sem Fin) (q : Pos) := segRunT treeTable pz w 11 ann6 2 40 ((S_c13 pz) w D1 D2 D3 D4 os) (piecesOf [(clsN pz) 14] (cenv pz) (ccode pz) q [(clsFr pz) k b, topFrame zp])
noncomputable def p6t14R (pz : Program) (w : World) (D1 D2 D3 D4 : Data) (os : OsState) (b : List Stmt) (k : Result → Sem Fin) (q : Pos) : Option (Flow × SharedT × Code × Pos) := some (.next, (S_c14 pz) w D1 D2 D3 D4 os, (ccode pz), ⟨379, 4, 379, 8⟩)
theorem p6t14L_self : p6t14L = p6t14L := rfl
theorem p6t14R_self : p6t14R = p6t14R := rfl
name_quick p6t14LQ for p6t14L by p6t14L_self
name_quick p6t14RQ for p6t14R by p6t14R_self
theorem p6t14_ok (w : World) (D1 D2 D3 D4 : Data) (os : OsState) (b : List Stmt) (k : Result → Sem Fin) (q : Pos) : (p6t14L pw) w D1 D2 D3 D4 os b k q = (p6t14R pw) w D1 D2 D3 D4 os b k q := by
  rw [PySem.W.Fast.p6t14LQ_eq, PySem.W.Fast.p6t14RQ_eq]
  rw [pw_fast]
  kernel_rfl
noncomputable def p6t17L (pz : Program) (w : World) (D1 D2 D3 D4 : Data) (os : OsState) (b : List Stmt) (k : Result → Sem Fin) (q : Pos) := segRunT treeTable pz w 11 ann6 2 40 ((S_c16 pz) w D1 D2 D3 D4 os) (piecesOf [(clsN pz) 17] (cenv pz) (ccode pz) q [(clsFr pz) k b, topFrame zp])
noncomputable def p6t17R (pz : Program) (w : World) (D1 D2 D3 D4 : Data) (os : OsState) (b : List Stmt) (k : Result → Sem Fin) (q : Pos) : Option (Flow × SharedT × Code × Pos) := some (.next, (S_c17 pz) w D1 D2 D3 D4 os, (ccode pz), ⟨382, 4, 382, 8⟩)
theorem p6t17L_self : p6t17L = p6t17L := rfl
theorem p6t17R_self : p6t17R = p6t17R := rfl
name_quick p6t17LQ for p6t17L by p6t17L_self
name_quick p6t17RQ for p6t17R by p6t17R_self
theorem p6t17_ok (w : World) (D1 D2 D3 D4 : Data) (os : OsState) (b : List Stmt) (k : Result → Sem Fin) (q : Pos) : (p6t17L pw) w D1 D2 D3 D4 os b k q = (p6t17R pw) w D1 D2 D3 D4 os b k q := by
  rw [PySem.W.Fast.p6t17LQ_eq, PySem.W.Fast.p6t17RQ_eq]
  rw [pw_fast]
  kernel_rfl
noncomputable def p6zL (pz : Program) (w : World) (e1 e2 e3 e4 : Array (Int × Value)) (n1 n2 n3 n4 : Nat) (t1 t2 t3 t4 : SetTable) (os : OsState) (b : List Stmt) (q : Pos) := segRunT treeTable pz w 11 ann6 1 300 ((S_c20 pz) w (.set e1 n1 t1) (.set e2 n2 t2) (.set e3 n3 t3) (.set e4 n4 t4) os) ⟨(clsK pz) w os b q (.ok .next), .body b (env1 pz), cpos, [topFrame zp]⟩
noncomputable def p6zR (pz : Program) (w : World) (e1 e2 e3 e4 : Array (Int × Value)) (n1 n2 n3 n4 : Nat) (t1 t2 t3 t4 : SetTable) (os : OsState) (b : List Stmt) (q : Pos) : Option (Flow × SharedT × Code × Pos) := some (.next, (S_t6 pz) w (.set e1 n1 t1) (.set e2 n2 t2) (.set e3 n3 t3) (.set e4 n4 t4) os, .body b (env1 pz), cpos)
theorem p6zL_self : p6zL = p6zL := rfl
theorem p6zR_self : p6zR = p6zR := rfl
name_quick p6zLQ for p6zL by p6zL_self
name_quick p6zRQ for p6zR by p6zR_self
theorem p6z_ok (w : World) (e1 e2 e3 e4 : Array (Int × Value)) (n1 n2 n3 n4 : Nat) (t1 t2 t3 t4 : SetTable) (os : OsState) (b : List Stmt) (q : Pos) : (p6zL pw) w e1 e2 e3 e4 n1 n2 n3 n4 t1 t2 t3 t4 os b q = (p6zR pw) w e1 e2 e3 e4 n1 n2 n3 n4 t1 t2 t3 t4 os b q := by
  rw [PySem.W.Fast.p6zLQ_eq, PySem.W.Fast.p6zRQ_eq]
  rw [pw_fast]
  kernel_rfl
noncomputable def p78L (pz : Program) (w : World) (D1 D2 D3 D4 : Data) (os : OsState) (b : List Stmt) (q : Pos) := segRunT treeTable pz w 11 ann6 1 500 ((S_t6 pz) w D1 D2 D3 D4 os) (piecesOf [(stN pz) 7, (stN pz) 8] (env1 pz) (.body b (env1 pz)) q [topFrame zp])
noncomputable def p78R (pz : Program) (w : World) (D1 D2 D3 D4 : Data) (os : OsState) (b : List Stmt) (q : Pos) : Option (Flow × SharedT × Code × Pos) := some (.next, (S_t8 pz) w D1 D2 D3 D4 os, .body b (env1 pz), ⟨388, 0, 389, 8⟩)
theorem p78L_self : p78L = p78L := rfl
theorem p78R_self : p78R = p78R := rfl
name_quick p78LQ for p78L by p78L_self
name_quick p78RQ for p78R by p78R_self
theorem p78_ok (w : World) (D1 D2 D3 D4 : Data) (os : OsState) (b : List Stmt) (q : Pos) : (p78L pw) w D1 D2 D3 D4 os b q = (p78R pw) w D1 D2 D3 D4 os b q := by
  rw [PySem.W.Fast.p78LQ_eq, PySem.W.Fast.p78RQ_eq]
  rw [pw_fast]
  kernel_rfl
noncomputable def p9L (pz : Program) (w : World) (D1 D2 D3 D4 : Data) (os : OsState) (b : List Stmt) (q : Pos) := segRunT treeTable pz w 11 ann6 1 600 ((S_t8 pz) w D1 D2 D3 D4 os) (piecesOf [(stN pz) 9, (stN pz) 10, (stN pz) 11, (stN pz) 12, (stN pz) 13, (stN pz) 14, (stN pz) 15, (stN pz) 16, (stN pz) 17, (stN pz) 18, (stN pz) 19, (stN pz) 20, (stN pz) 21, (stN pz) 22, (stN pz) 23, (stN pz) 24, (stN pz) 25, (stN pz) 26] (env1 pz) (.body b (env1 pz)) q [topFrame zp])
noncomputable def p9R (pz : Program) (w : World) (D1 D2 D3 D4 : Data) (os : OsState) (b : List Stmt) (q : Pos) : Option (Flow × SharedT × Code × Pos) := some (.next, (S_t26 pz) w D1 D2 D3 D4 os, .body b (env1 pz), ⟨453, 0, 469, 15⟩)
theorem p9L_self : p9L = p9L := rfl
theorem p9R_self : p9R = p9R := rfl
name_quick p9LQ for p9L by p9L_self
name_quick p9RQ for p9R by p9R_self
theorem p9_ok (w : World) (D1 D2 D3 D4 : Data) (os : OsState) (b : List Stmt) (q : Pos) : (p9L pw) w D1 D2 D3 D4 os b q = (p9R pw) w D1 D2 D3 D4 os b q := by
  rw [PySem.W.Fast.p9LQ_eq, PySem.W.Fast.p9RQ_eq]
  rw [pw_fast]
  kernel_rfl
end
section
open PySem PySem.W PyProof.Rows
set_option maxHeartbeats 0
noncomputable def hswL (pz : Program) (i : Nat) : Sem Bool := swapsWithSole [asgT ((clsN pz) i)] (asgV ((clsN pz) i)) (asgP ((clsN pz) i)).line (cenv pz)
theorem hswL_self : hswL = hswL := rfl
name_quick hswLQ for hswL by hswL_self
theorem hsw0 : (hswL pw) 0 = .pure false := by
  rw [PySem.W.Fast.hswLQ_eq]
  rw [pw_fast]
  kernel_rfl
theorem hsw1 : (hswL pw) 1 = .pure false := by
  rw [PySem.W.Fast.hswLQ_eq]
  rw [pw_fast]
  kernel_rfl
theorem hsw2 : (hswL pw) 2 = .pure false := by
  rw [PySem.W.Fast.hswLQ_eq]
  rw [pw_fast]
  kernel_rfl
theorem hsw3 : (hswL pw) 3 = .pure false := by
  rw [PySem.W.Fast.hswLQ_eq]
  rw [pw_fast]
  kernel_rfl
theorem hsw11 : (hswL pw) 11 = .pure false := by
  rw [PySem.W.Fast.hswLQ_eq]
  rw [pw_fast]
  kernel_rfl
theorem hsw13 : (hswL pw) 13 = .pure false := by
  rw [PySem.W.Fast.hswLQ_eq]
  rw [pw_fast]
  kernel_rfl
theorem hsw15 : (hswL pw) 15 = .pure false := by
  rw [PySem.W.Fast.hswLQ_eq]
  rw [pw_fast]
  kernel_rfl
theorem hsw16 : (hswL pw) 16 = .pure false := by
  rw [PySem.W.Fast.hswLQ_eq]
  rw [pw_fast]
  kernel_rfl
theorem hsw18 : (hswL pw) 18 = .pure false := by
  rw [PySem.W.Fast.hswLQ_eq]
  rw [pw_fast]
  kernel_rfl
theorem hsw19 : (hswL pw) 19 = .pure false := by
  rw [PySem.W.Fast.hswLQ_eq]
  rw [pw_fast]
  kernel_rfl
theorem hsw20 : (hswL pw) 20 = .pure false := by
  rw [PySem.W.Fast.hswLQ_eq]
  rw [pw_fast]
  kernel_rfl
theorem hst0 : (clsN pw) 0 = .Assign [asgT ((clsN pw) 0)] (.Set (elsOf (asgV ((clsN pw) 0))) 0 (posOf (asgV ((clsN pw) 0)))) (asgP ((clsN pw) 0)) := by kernel_rfl
theorem hv0 : asgV ((clsN pw) 0) = .Set (elsOf (asgV ((clsN pw) 0))) 0 (posOf (asgV ((clsN pw) 0))) := by kernel_rfl
theorem hst1 : (clsN pw) 1 = .Assign [asgT ((clsN pw) 1)] (.Set (elsOf (asgV ((clsN pw) 1))) 0 (posOf (asgV ((clsN pw) 1)))) (asgP ((clsN pw) 1)) := by kernel_rfl
theorem hv1 : asgV ((clsN pw) 1) = .Set (elsOf (asgV ((clsN pw) 1))) 0 (posOf (asgV ((clsN pw) 1))) := by kernel_rfl
theorem hst2 : (clsN pw) 2 = .Assign [asgT ((clsN pw) 2)] (.Set (elsOf (asgV ((clsN pw) 2))) 0 (posOf (asgV ((clsN pw) 2)))) (asgP ((clsN pw) 2)) := by kernel_rfl
theorem hv2 : asgV ((clsN pw) 2) = .Set (elsOf (asgV ((clsN pw) 2))) 0 (posOf (asgV ((clsN pw) 2))) := by kernel_rfl
theorem hst3 : (clsN pw) 3 = .Assign [asgT ((clsN pw) 3)] (.Set (elsOf (asgV ((clsN pw) 3))) 0 (posOf (asgV ((clsN pw) 3)))) (asgP ((clsN pw) 3)) := by kernel_rfl
theorem hv3 : asgV ((clsN pw) 3) = .Set (elsOf (asgV ((clsN pw) 3))) 0 (posOf (asgV ((clsN pw) 3))) := by kernel_rfl
theorem hst11 : (clsN pw) 11 = .Assign [asgT ((clsN pw) 11)] (.List (elsOf (asgV ((clsN pw) 11))) (posOf (asgV ((clsN pw) 11)))) (asgP ((clsN pw) 11)) := by kernel_rfl
theorem hv11 : asgV ((clsN pw) 11) = .List (elsOf (asgV ((clsN pw) 11))) (posOf (asgV ((clsN pw) 11))) := by kernel_rfl
theorem hst13 : (clsN pw) 13 = .Assign [asgT ((clsN pw) 13)] (.List (elsOf (asgV ((clsN pw) 13))) (posOf (asgV ((clsN pw) 13)))) (asgP ((clsN pw) 13)) := by kernel_rfl
theorem hv13 : asgV ((clsN pw) 13) = .List (elsOf (asgV ((clsN pw) 13))) (posOf (asgV ((clsN pw) 13))) := by kernel_rfl
theorem hst15 : (clsN pw) 15 = .Assign [asgT ((clsN pw) 15)] (.List (elsOf (asgV ((clsN pw) 15))) (posOf (asgV ((clsN pw) 15)))) (asgP ((clsN pw) 15)) := by kernel_rfl
theorem hv15 : asgV ((clsN pw) 15) = .List (elsOf (asgV ((clsN pw) 15))) (posOf (asgV ((clsN pw) 15))) := by kernel_rfl
theorem hst16 : (clsN pw) 16 = .Assign [asgT ((clsN pw) 16)] (.List (elsOf (asgV ((clsN pw) 16))) (posOf (asgV ((clsN pw) 16)))) (asgP ((clsN pw) 16)) := by kernel_rfl
theorem hv16 : asgV ((clsN pw) 16) = .List (elsOf (asgV ((clsN pw) 16))) (posOf (asgV ((clsN pw) 16))) := by kernel_rfl
theorem hst18 : (clsN pw) 18 = .Assign [asgT ((clsN pw) 18)] (.List (elsOf (asgV ((clsN pw) 18))) (posOf (asgV ((clsN pw) 18)))) (asgP ((clsN pw) 18)) := by kernel_rfl
theorem hv18 : asgV ((clsN pw) 18) = .List (elsOf (asgV ((clsN pw) 18))) (posOf (asgV ((clsN pw) 18))) := by kernel_rfl
theorem hst19 : (clsN pw) 19 = .Assign [asgT ((clsN pw) 19)] (.List (elsOf (asgV ((clsN pw) 19))) (posOf (asgV ((clsN pw) 19)))) (asgP ((clsN pw) 19)) := by kernel_rfl
theorem hv19 : asgV ((clsN pw) 19) = .List (elsOf (asgV ((clsN pw) 19))) (posOf (asgV ((clsN pw) 19))) := by kernel_rfl
theorem hst20 : (clsN pw) 20 = .Assign [asgT ((clsN pw) 20)] (.List (elsOf (asgV ((clsN pw) 20))) (posOf (asgV ((clsN pw) 20)))) (asgP ((clsN pw) 20)) := by kernel_rfl
theorem hv20 : asgV ((clsN pw) 20) = .List (elsOf (asgV ((clsN pw) 20))) (posOf (asgV ((clsN pw) 20))) := by kernel_rfl
theorem hlen0 : (elsOf (asgV ((clsN pw) 0))).length = 14 := by kernel_rfl
theorem hlen1 : (elsOf (asgV ((clsN pw) 1))).length = 16 := by kernel_rfl
theorem hlen2 : (elsOf (asgV ((clsN pw) 2))).length = 6 := by kernel_rfl
theorem hlen3 : (elsOf (asgV ((clsN pw) 3))).length = 14 := by kernel_rfl
theorem hlen11 : (elsOf (asgV ((clsN pw) 11))).length = 5 := by kernel_rfl
theorem hlen13 : (elsOf (asgV ((clsN pw) 13))).length = 13 := by kernel_rfl
theorem hlen15 : (elsOf (asgV ((clsN pw) 15))).length = 3 := by kernel_rfl
theorem hlen16 : (elsOf (asgV ((clsN pw) 16))).length = 9 := by kernel_rfl
theorem hlen18 : (elsOf (asgV ((clsN pw) 18))).length = 3 := by kernel_rfl
theorem hlen19 : (elsOf (asgV ((clsN pw) 19))).length = 5 := by kernel_rfl
theorem hlen20 : (elsOf (asgV ((clsN pw) 20))).length = 58 := by kernel_rfl
theorem hpl11 : (elsOf (asgV ((clsN pw) 11))).all kdsPlain = true := by kernel_rfl
theorem hpl13 : (elsOf (asgV ((clsN pw) 13))).all kdsPlain = true := by kernel_rfl
theorem hpl15 : (elsOf (asgV ((clsN pw) 15))).all kdsPlain = true := by kernel_rfl
theorem hpl16 : (elsOf (asgV ((clsN pw) 16))).all kdsPlain = true := by kernel_rfl
theorem hpl18 : (elsOf (asgV ((clsN pw) 18))).all kdsPlain = true := by kernel_rfl
theorem hpl19 : (elsOf (asgV ((clsN pw) 19))).all kdsPlain = true := by kernel_rfl
theorem hpl20 : (elsOf (asgV ((clsN pw) 20))).all kdsPlain = true := by kernel_rfl
theorem hroad0 : displayRoad 0 (elsOf (asgV ((clsN pw) 0))) = .unsure := by kernel_rfl
theorem hall0 : allStr (elsOf (asgV ((clsN pw) 0))) = true := by kernel_rfl
theorem hroad1 : displayRoad 0 (elsOf (asgV ((clsN pw) 1))) = .unsure := by kernel_rfl
theorem hall1 : allStr (elsOf (asgV ((clsN pw) 1))) = true := by kernel_rfl
theorem hroad2 : displayRoad 0 (elsOf (asgV ((clsN pw) 2))) = .unsure := by kernel_rfl
theorem hall2 : allStr (elsOf (asgV ((clsN pw) 2))) = true := by kernel_rfl
theorem hroad3 : displayRoad 0 (elsOf (asgV ((clsN pw) 3))) = .unsure := by kernel_rfl
theorem hall3 : allStr (elsOf (asgV ((clsN pw) 3))) = true := by kernel_rfl
theorem irr_clsStart (P : Params) (D1 D2 D3 D4 : Data) : (tr_clsStart pw) P D1 D2 D3 D4 = (tr_clsStart pw) P .plain .plain .plain .plain := rfl
noncomputable def ins0 (pz : Program) (P : Params) (D1 D2 D3 D4 : Data) (o : Obj) : Bool := ((((tr_clsStart pz) P D1 D2 D3 D4).ins 232 o).get 232).isSome
theorem ins0_self : ins0 = ins0 := rfl
theorem ins0_ok (P : Params) (D1 D2 D3 D4 : Data) (o : Obj) : (ins0 pw) P D1 D2 D3 D4 o = true := by
  rw [pw_fast]
  kernel_rfl
noncomputable def cod0 (pz : Program) (P : Params) (D1 D2 D3 D4 : Data) : Option Obj := ((tr_clsStart pz) P D1 D2 D3 D4).get 230
noncomputable def codR0 (P : Params) (D1 D2 D3 D4 : Data) : Option Obj := some (o230_clsStart P D1 D2 D3 D4)
theorem cod0_self : cod0 = cod0 := rfl
theorem codR0_self : codR0 = codR0 := rfl
theorem cod0_ok (P : Params) (D1 D2 D3 D4 : Data) : (cod0 pw) P D1 D2 D3 D4 = codR0 P D1 D2 D3 D4 := by
  rw [pw_fast]
  kernel_rfl
theorem irr_c0 (P : Params) (D1 D2 D3 D4 : Data) : (tr_c0 pw) P D1 D2 D3 D4 = (tr_c0 pw) P D1 .plain .plain .plain := rfl
noncomputable def ins1 (pz : Program) (P : Params) (D1 D2 D3 D4 : Data) (o : Obj) : Bool := ((((tr_c0 pz) P D1 D2 D3 D4).ins 233 o).get 233).isSome
theorem ins1_self : ins1 = ins1 := rfl
theorem ins1_ok (P : Params) (D1 D2 D3 D4 : Data) (o : Obj) : (ins1 pw) P D1 D2 D3 D4 o = true := by
  rw [pw_fast]
  kernel_rfl
noncomputable def cod1 (pz : Program) (P : Params) (D1 D2 D3 D4 : Data) : Option Obj := ((tr_c0 pz) P D1 D2 D3 D4).get 230
noncomputable def codR1 (P : Params) (D1 D2 D3 D4 : Data) : Option Obj := some (o230_clsStart P D1 D2 D3 D4)
theorem cod1_self : cod1 = cod1 := rfl
theorem codR1_self : codR1 = codR1 := rfl
theorem cod1_ok (P : Params) (D1 D2 D3 D4 : Data) : (cod1 pw) P D1 D2 D3 D4 = codR1 P D1 D2 D3 D4 := by
  rw [pw_fast]
  kernel_rfl
theorem irr_c1 (P : Params) (D1 D2 D3 D4 : Data) : (tr_c1 pw) P D1 D2 D3 D4 = (tr_c1 pw) P D1 D2 .plain .plain := rfl
noncomputable def ins2 (pz : Program) (P : Params) (D1 D2 D3 D4 : Data) (o : Obj) : Bool := ((((tr_c1 pz) P D1 D2 D3 D4).ins 234 o).get 234).isSome
theorem ins2_self : ins2 = ins2 := rfl
theorem ins2_ok (P : Params) (D1 D2 D3 D4 : Data) (o : Obj) : (ins2 pw) P D1 D2 D3 D4 o = true := by
  rw [pw_fast]
  kernel_rfl
noncomputable def cod2 (pz : Program) (P : Params) (D1 D2 D3 D4 : Data) : Option Obj := ((tr_c1 pz) P D1 D2 D3 D4).get 230
noncomputable def codR2 (P : Params) (D1 D2 D3 D4 : Data) : Option Obj := some (o230_clsStart P D1 D2 D3 D4)
theorem cod2_self : cod2 = cod2 := rfl
theorem codR2_self : codR2 = codR2 := rfl
theorem cod2_ok (P : Params) (D1 D2 D3 D4 : Data) : (cod2 pw) P D1 D2 D3 D4 = codR2 P D1 D2 D3 D4 := by
  rw [pw_fast]
  kernel_rfl
theorem irr_c2 (P : Params) (D1 D2 D3 D4 : Data) : (tr_c2 pw) P D1 D2 D3 D4 = (tr_c2 pw) P D1 D2 D3 .plain := rfl
noncomputable def ins3 (pz : Program) (P : Params) (D1 D2 D3 D4 : Data) (o : Obj) : Bool := ((((tr_c2 pz) P D1 D2 D3 D4).ins 235 o).get 235).isSome
theorem ins3_self : ins3 = ins3 := rfl
theorem ins3_ok (P : Params) (D1 D2 D3 D4 : Data) (o : Obj) : (ins3 pw) P D1 D2 D3 D4 o = true := by
  rw [pw_fast]
  kernel_rfl
noncomputable def cod3 (pz : Program) (P : Params) (D1 D2 D3 D4 : Data) : Option Obj := ((tr_c2 pz) P D1 D2 D3 D4).get 230
noncomputable def codR3 (P : Params) (D1 D2 D3 D4 : Data) : Option Obj := some (o230_clsStart P D1 D2 D3 D4)
theorem cod3_self : cod3 = cod3 := rfl
theorem codR3_self : codR3 = codR3 := rfl
theorem cod3_ok (P : Params) (D1 D2 D3 D4 : Data) : (cod3 pw) P D1 D2 D3 D4 = codR3 P D1 D2 D3 D4 := by
  rw [pw_fast]
  kernel_rfl
theorem set_stmt' {p : Program} {w : World} {n₀ : Nat} {ann : Option Value} {B : List Frame} {env : Env} {st : Stmt} {rest : List Stmt} {c : Code} {q q' : Pos} {T : BT} {n toks N L : Nat} {os : OsState} {cd : Addr} {o : Obj} {vs : Array Value} {S' : Data → SharedT}
    (hst : st = .Assign [asgT st] (.Set (elsOf (asgV st)) 0 (posOf (asgV st))) (asgP st)) (hv : asgV st = .Set (elsOf (asgV st)) 0 (posOf (asgV st)))
    (hsw : swapsWithSole [asgT st] (asgV st) (asgP st).line env = .pure false) (hB : splitAtGen B = none) (hal : allAlive T n = true) (hins : ∀ o', ((T.ins n o').get n).isSome = true) (hc : env.code = .ref cd) (hcn : cd < n) (ho : T.get cd = some o) (hd : o.data = .fields vs)
    (hroad : displayRoad 0 (elsOf (asgV st)) = .unsure) (hall : allStr (elsOf (asgV st)) = true) (hL : (elsOf (asgV st)).length = L) (hlen : L ≤ 30)
    (tail : ∀ D p', segRunT treeTable p w n₀ ann B.length N (mkS (T.ins n ⟨.type "set", none, D, #[]⟩) (n + 1) (toks + 2 * L) os) ⟨(tailA (asgT st) (asgV st) env (.ref n)).wrap doneF deadEnd id id, c, p', B⟩ = some (.next, S' D, c, q')) :
    ∃ D, SetD p w (strsOf (elsOf (asgV st))) D ∧ Cm p w (mkS T n toks os).abs (restOf (st :: rest) env c q B) (S' D).abs (restOf rest env c q' B) := by
  have := set_stmt (p := p) (w := w) (n₀ := n₀) (ann := ann) (t := asgT st) (elts := elsOf (asgV st)) (k := 0) (ps := posOf (asgV st)) (pos := asgP st) (rest := rest) (c := c) (q := q) (q' := q') (toks := toks) (os := os) (S' := S') (N := N) (by rw [← hv]; exact hsw) hB hal hins hc hcn ho hd hroad hall (by rw [hL]; exact hlen) (fun D p' => by rw [← hv, hL]; exact tail D p')
  rw [← hst] at this
  exact this
theorem list_stmt' {p : Program} {w : World} {n₀ : Nat} {ann : Option Value} {B : List Frame} {env : Env} {st : Stmt} {rest : List Stmt} {c : Code} {q q' : Pos} {S2 : SharedT} {N N2 L : Nat} (d : PySem.Expr) (S : Nat → SharedT) (v : Nat → Value)
    (hst : st = .Assign [asgT st] (.List (elsOf (asgV st)) (posOf (asgV st))) (asgP st)) (hv : asgV st = .List (elsOf (asgV st)) (posOf (asgV st)))
    (hsw : swapsWithSole [asgT st] (asgV st) (asgP st).line env = .pure false) (hB : splitAtGen B = none) (hL : (elsOf (asgV st)).length = L) (hp : (elsOf (asgV st)).all kdsPlain = true) (hr : ∀ i, (S i).abs.asleep)
    (seg : ∀ i, i < L → ∀ (pre : List Value) (q : Pos), ∃ q', segRunT treeTable p w n₀ ann B.length N (S i) ⟨(eval (((elsOf (asgV st)).drop i).headD d) env).wrap (fun a => .pure (.done (.ret a))) deadEnd id (pre ++ ·), c, q, B⟩ = some (.ret (v i), S (i + 1), c, q'))
    (tail : ∀ p', segRunT treeTable p w n₀ ann B.length N2 (S L) ⟨((newList ((List.range L).map v)).bind fun x => tailA (asgT st) (asgV st) env x).wrap doneF deadEnd id id, c, p', B⟩ = some (.next, S2, c, q')) :
    Cm p w (S 0).abs (restOf (st :: rest) env c q B) S2.abs (restOf rest env c q' B) := by
  have := list_stmt (p := p) (w := w) (n₀ := n₀) (ann := ann) (t := asgT st) (elts := elsOf (asgV st)) (ps := posOf (asgV st)) (pos := asgP st) (rest := rest) (c := c) (q := q) (q' := q') (S := S 0) (S1 := S L) (S2 := S2) (vs := (List.range L).map v) (N := N2) (by rw [← hv]; exact hsw) hB (hr 0) (hr L)
    (fun K H pre q1 => by
      have := spl_all (ps := posOf (asgV st)) d S v L N hB hL hp hr seg L 0 (by lia) K H pre q1
      rw [← List.range_eq_range'] at this
      exact this) (fun p' => by rw [← hv]; exact tail p')
  rw [← hst] at this
  exact this
theorem elAll0 : ∀ i, i < 5 → (El0 pw) i
  | 0, _ => el0_0
  | 1, _ => el0_1
  | 2, _ => el0_2
  | 3, _ => el0_3
  | 4, _ => el0_4
  | n + 5, h => absurd h (by lia)
theorem elAll1 : ∀ i, i < 13 → (El1 pw) i
  | 0, _ => el1_0
  | 1, _ => el1_1
  | 2, _ => el1_2
  | 3, _ => el1_3
  | 4, _ => el1_4
  | 5, _ => el1_5
  | 6, _ => el1_6
  | 7, _ => el1_7
  | 8, _ => el1_8
  | 9, _ => el1_9
  | 10, _ => el1_10
  | 11, _ => el1_11
  | 12, _ => el1_12
  | n + 13, h => absurd h (by lia)
theorem elAll2 : ∀ i, i < 3 → (El2 pw) i
  | 0, _ => el2_0
  | 1, _ => el2_1
  | 2, _ => el2_2
  | n + 3, h => absurd h (by lia)
theorem elAll3 : ∀ i, i < 9 → (El3 pw) i
  | 0, _ => el3_0
  | 1, _ => el3_1
  | 2, _ => el3_2
  | 3, _ => el3_3
  | 4, _ => el3_4
  | 5, _ => el3_5
  | 6, _ => el3_6
  | 7, _ => el3_7
  | 8, _ => el3_8
  | n + 9, h => absurd h (by lia)
theorem elAll4 : ∀ i, i < 3 → (El4 pw) i
  | 0, _ => el4_0
  | 1, _ => el4_1
  | 2, _ => el4_2
  | n + 3, h => absurd h (by lia)
theorem elAll5 : ∀ i, i < 5 → (El5 pw) i
  | 0, _ => el5_0
  | 1, _ => el5_1
  | 2, _ => el5_2
  | 3, _ => el5_3
  | 4, _ => el5_4
  | n + 5, h => absurd h (by lia)
theorem elAll6 : ∀ i, i < 58 → (El6 pw) i
  | 0, _ => el6_0
  | 1, _ => el6_1
  | 2, _ => el6_2
  | 3, _ => el6_3
  | 4, _ => el6_4
  | 5, _ => el6_5
  | 6, _ => el6_6
  | 7, _ => el6_7
  | 8, _ => el6_8
  | 9, _ => el6_9
  | 10, _ => el6_10
  | 11, _ => el6_11
  | 12, _ => el6_12
  | 13, _ => el6_13
  | 14, _ => el6_14
  | 15, _ => el6_15
  | 16, _ => el6_16
  | 17, _ => el6_17
  | 18, _ => el6_18
  | 19, _ => el6_19
  | 20, _ => el6_20
  | 21, _ => el6_21
  | 22, _ => el6_22
  | 23, _ => el6_23
  | 24, _ => el6_24
  | 25, _ => el6_25
  | 26, _ => el6_26
  | 27, _ => el6_27
  | 28, _ => el6_28
  | 29, _ => el6_29
  | 30, _ => el6_30
  | 31, _ => el6_31
  | 32, _ => el6_32
  | 33, _ => el6_33
  | 34, _ => el6_34
  | 35, _ => el6_35
  | 36, _ => el6_36
  | 37, _ => el6_37
  | 38, _ => el6_38
  | 39, _ => el6_39
  | 40, _ => el6_40
  | 41, _ => el6_41
  | 42, _ => el6_42
  | 43, _ => el6_43
  | 44, _ => el6_44
  | 45, _ => el6_45
  | 46, _ => el6_46
  | 47, _ => el6_47
  | 48, _ => el6_48
  | 49, _ => el6_49
  | 50, _ => el6_50
  | 51, _ => el6_51
  | 52, _ => el6_52
  | 53, _ => el6_53
  | 54, _ => el6_54
  | 55, _ => el6_55
  | 56, _ => el6_56
  | 57, _ => el6_57
  | n + 58, h => absurd h (by lia)
theorem amStep_shape (P : Params) (S : SharedT) (r : Str × Int × Int) : (amStep P S r).life = S.life := by obtain ⟨T, n, l, gs, dr, t, os⟩ := S; rfl
theorem fold_life (P : Params) : ∀ (l : List (Str × Int × Int)) (S : SharedT), (l.foldl (amStep P) S).life = S.life
  | [], _ => rfl
  | r :: l, S => by rw [List.foldl_cons, fold_life P l, amStep_shape]
theorem asleep_of {S : SharedT} (h : S.life = {}) : S.abs.asleep := by
  obtain ⟨T, n, l, gs, dr, t, os⟩ := S
  dsimp only at h
  subst h
  exact ⟨rfl, rfl⟩
theorem ls0 (w : World) (D1 D2 D3 D4 : Data) (os : OsState) (b : List Stmt) (k : Result → Sem Fin) (rest : List Stmt) (q : Pos) :
    Cm pw w ((S_c10 pw) w D1 D2 D3 D4 os).abs (restOf ((clsN pw) 11 :: rest) (cenv pw) (ccode pw) q [(clsFr pw) k b, topFrame zp]) ((S_c11 pw) w D1 D2 D3 D4 os).abs (restOf rest (cenv pw) (ccode pw) ⟨376, 4, 376, 7⟩ [(clsFr pw) k b, topFrame zp]) :=
  list_stmt' (n₀ := 11) (ann := ann6) (N := 250) (N2 := 30) (L := 5) (.Constant .none 0 zp) (fun i => (stAt0 pw) i w D1 D2 D3 D4 os) (fun i => .ref (278 + 3 * i + 1)) hst11 hv11 hsw11 rfl hlen11 hpl11 (fun i => asleep_of (fold_life _ _ _))
    (fun i hi pre q => ⟨_, elAll0 i hi w D1 D2 D3 D4 os b k pre q⟩) (fun p' => lt0_ok w D1 D2 D3 D4 os b k p')
theorem ls1 (w : World) (D1 D2 D3 D4 : Data) (os : OsState) (b : List Stmt) (k : Result → Sem Fin) (rest : List Stmt) (q : Pos) :
    Cm pw w ((S_c12 pw) w D1 D2 D3 D4 os).abs (restOf ((clsN pw) 13 :: rest) (cenv pw) (ccode pw) q [(clsFr pw) k b, topFrame zp]) ((S_c13 pw) w D1 D2 D3 D4 os).abs (restOf rest (cenv pw) (ccode pw) ⟨378, 4, 378, 7⟩ [(clsFr pw) k b, topFrame zp]) :=
  list_stmt' (n₀ := 11) (ann := ann6) (N := 250) (N2 := 30) (L := 13) (.Constant .none 0 zp) (fun i => (stAt1 pw) i w D1 D2 D3 D4 os) (fun i => .ref (295 + 3 * i + 1)) hst13 hv13 hsw13 rfl hlen13 hpl13 (fun i => asleep_of (fold_life _ _ _))
    (fun i hi pre q => ⟨_, elAll1 i hi w D1 D2 D3 D4 os b k pre q⟩) (fun p' => lt1_ok w D1 D2 D3 D4 os b k p')
theorem ls2 (w : World) (D1 D2 D3 D4 : Data) (os : OsState) (b : List Stmt) (k : Result → Sem Fin) (rest : List Stmt) (q : Pos) :
    Cm pw w ((S_c14 pw) w D1 D2 D3 D4 os).abs (restOf ((clsN pw) 15 :: rest) (cenv pw) (ccode pw) q [(clsFr pw) k b, topFrame zp]) ((S_c15 pw) w D1 D2 D3 D4 os).abs (restOf rest (cenv pw) (ccode pw) ⟨380, 4, 380, 7⟩ [(clsFr pw) k b, topFrame zp]) :=
  list_stmt' (n₀ := 11) (ann := ann6) (N := 250) (N2 := 30) (L := 3) (.Constant .none 0 zp) (fun i => (stAt2 pw) i w D1 D2 D3 D4 os) (fun i => .ref (336 + 3 * i + 1)) hst15 hv15 hsw15 rfl hlen15 hpl15 (fun i => asleep_of (fold_life _ _ _))
    (fun i hi pre q => ⟨_, elAll2 i hi w D1 D2 D3 D4 os b k pre q⟩) (fun p' => lt2_ok w D1 D2 D3 D4 os b k p')
theorem ls3 (w : World) (D1 D2 D3 D4 : Data) (os : OsState) (b : List Stmt) (k : Result → Sem Fin) (rest : List Stmt) (q : Pos) :
    Cm pw w ((S_c15 pw) w D1 D2 D3 D4 os).abs (restOf ((clsN pw) 16 :: rest) (cenv pw) (ccode pw) q [(clsFr pw) k b, topFrame zp]) ((S_c16 pw) w D1 D2 D3 D4 os).abs (restOf rest (cenv pw) (ccode pw) ⟨381, 4, 381, 7⟩ [(clsFr pw) k b, topFrame zp]) :=
  list_stmt' (n₀ := 11) (ann := ann6) (N := 250) (N2 := 30) (L := 9) (.Constant .none 0 zp) (fun i => (stAt3 pw) i w D1 D2 D3 D4 os) (fun i => .ref (346 + 3 * i + 1)) hst16 hv16 hsw16 rfl hlen16 hpl16 (fun i => asleep_of (fold_life _ _ _))
    (fun i hi pre q => ⟨_, elAll3 i hi w D1 D2 D3 D4 os b k pre q⟩) (fun p' => lt3_ok w D1 D2 D3 D4 os b k p')
theorem ls4 (w : World) (D1 D2 D3 D4 : Data) (os : OsState) (b : List Stmt) (k : Result → Sem Fin) (rest : List Stmt) (q : Pos) :
    Cm pw w ((S_c17 pw) w D1 D2 D3 D4 os).abs (restOf ((clsN pw) 18 :: rest) (cenv pw) (ccode pw) q [(clsFr pw) k b, topFrame zp]) ((S_c18 pw) w D1 D2 D3 D4 os).abs (restOf rest (cenv pw) (ccode pw) ⟨383, 4, 383, 7⟩ [(clsFr pw) k b, topFrame zp]) :=
  list_stmt' (n₀ := 11) (ann := ann6) (N := 250) (N2 := 30) (L := 3) (.Constant .none 0 zp) (fun i => (stAt4 pw) i w D1 D2 D3 D4 os) (fun i => .ref (375 + 3 * i + 1)) hst18 hv18 hsw18 rfl hlen18 hpl18 (fun i => asleep_of (fold_life _ _ _))
    (fun i hi pre q => ⟨_, elAll4 i hi w D1 D2 D3 D4 os b k pre q⟩) (fun p' => lt4_ok w D1 D2 D3 D4 os b k p')
theorem ls5 (w : World) (D1 D2 D3 D4 : Data) (os : OsState) (b : List Stmt) (k : Result → Sem Fin) (rest : List Stmt) (q : Pos) :
    Cm pw w ((S_c18 pw) w D1 D2 D3 D4 os).abs (restOf ((clsN pw) 19 :: rest) (cenv pw) (ccode pw) q [(clsFr pw) k b, topFrame zp]) ((S_c19 pw) w D1 D2 D3 D4 os).abs (restOf rest (cenv pw) (ccode pw) ⟨384, 4, 384, 7⟩ [(clsFr pw) k b, topFrame zp]) :=
  list_stmt' (n₀ := 11) (ann := ann6) (N := 250) (N2 := 30) (L := 5) (.Constant .none 0 zp) (fun i => (stAt5 pw) i w D1 D2 D3 D4 os) (fun i => .ref (385 + 3 * i + 1)) hst19 hv19 hsw19 rfl hlen19 hpl19 (fun i => asleep_of (fold_life _ _ _))
    (fun i hi pre q => ⟨_, elAll5 i hi w D1 D2 D3 D4 os b k pre q⟩) (fun p' => lt5_ok w D1 D2 D3 D4 os b k p')
theorem ls6 (w : World) (D1 D2 D3 D4 : Data) (os : OsState) (b : List Stmt) (k : Result → Sem Fin) (rest : List Stmt) (q : Pos) :
    Cm pw w ((S_c19 pw) w D1 D2 D3 D4 os).abs (restOf ((clsN pw) 20 :: rest) (cenv pw) (ccode pw) q [(clsFr pw) k b, topFrame zp]) ((S_c20 pw) w D1 D2 D3 D4 os).abs (restOf rest (cenv pw) (ccode pw) ⟨385, 4, 385, 7⟩ [(clsFr pw) k b, topFrame zp]) :=
  list_stmt' (n₀ := 11) (ann := ann6) (N := 250) (N2 := 30) (L := 58) (.Constant .none 0 zp) (fun i => (stAt6 pw) i w D1 D2 D3 D4 os) (fun i => .ref (401 + 3 * i + 1)) hst20 hv20 hsw20 rfl hlen20 hpl20 (fun i => asleep_of (fold_life _ _ _))
    (fun i hi pre q => ⟨_, elAll6 i hi w D1 D2 D3 D4 os b k pre q⟩) (fun p' => lt6_ok w D1 D2 D3 D4 os b k p')
theorem ss0 (w : World) (os : OsState) (b : List Stmt) (k : Result → Sem Fin) (rest : List Stmt) (q : Pos) :
    ∃ D, SetD pw w (strsOf (elsOf (asgV ((clsN pw) 0)))) D ∧ Cm pw w (mkS ((tr_clsStart pw) w.params .plain .plain .plain .plain) 232 476 os).abs (restOf ((clsN pw) 0 :: rest) (cenv pw) (ccode pw) q [(clsFr pw) k b, topFrame zp]) ((S_c0 pw) w D .plain .plain .plain os).abs (restOf rest (cenv pw) (ccode pw) ⟨178, 4, 178, 7⟩ [(clsFr pw) k b, topFrame zp]) := by
  refine set_stmt' (n₀ := 11) (ann := ann6) (N := 20) (L := 14) (cd := 230) (S' := fun D => (S_c0 pw) w D .plain .plain .plain os) hst0 hv0 hsw0 rfl ?_ ?_ rfl (by decide) ?_ (vs := match (o230_clsStart w.params .plain .plain .plain .plain).data with | .fields v => v | _ => #[]) (o := o230_clsStart w.params .plain .plain .plain .plain) rfl hroad0 hall0 hlen0 (by decide) ?_
  · have := alv0_ok w.params #[] #[] #[] 0 0 0 default default default
    unfold alv0 at this
    rw [irr_clsStart] at this
    exact this
  · intro o'
    exact ins0_ok w.params .plain .plain .plain .plain o'
  · have := cod0_ok w.params .plain .plain .plain .plain
    unfold cod0 codR0 at this
    exact this
  · intro D p'
    have := p6s0_ok w D .plain .plain .plain os b k p'
    unfold p6s0L p6s0R at this
    rw [irr_clsStart] at this
    exact this
theorem ss1 (w : World) (e1 : Array (Int × Value)) (n1 : Nat) (t1 : SetTable) (os : OsState) (b : List Stmt) (k : Result → Sem Fin) (rest : List Stmt) (q : Pos) :
    ∃ D, SetD pw w (strsOf (elsOf (asgV ((clsN pw) 1)))) D ∧ Cm pw w (mkS ((tr_c0 pw) w.params (.set e1 n1 t1) .plain .plain .plain) 233 505 os).abs (restOf ((clsN pw) 1 :: rest) (cenv pw) (ccode pw) q [(clsFr pw) k b, topFrame zp]) ((S_c1 pw) w (.set e1 n1 t1) D .plain .plain os).abs (restOf rest (cenv pw) (ccode pw) ⟨179, 4, 179, 21⟩ [(clsFr pw) k b, topFrame zp]) := by
  refine set_stmt' (n₀ := 11) (ann := ann6) (N := 20) (L := 16) (cd := 230) (S' := fun D => (S_c1 pw) w (.set e1 n1 t1) D .plain .plain os) hst1 hv1 hsw1 rfl ?_ ?_ rfl (by decide) ?_ (vs := match (o230_clsStart w.params .plain .plain .plain .plain).data with | .fields v => v | _ => #[]) (o := o230_clsStart w.params .plain .plain .plain .plain) rfl hroad1 hall1 hlen1 (by decide) ?_
  · have := alv1_ok w.params e1 #[] #[] n1 0 0 t1 default default
    unfold alv1 at this
    rw [irr_c0] at this
    exact this
  · intro o'
    exact ins1_ok w.params (.set e1 n1 t1) .plain .plain .plain o'
  · have := cod1_ok w.params (.set e1 n1 t1) .plain .plain .plain
    unfold cod1 codR1 at this
    exact this
  · intro D p'
    have := p6s1_ok w (.set e1 n1 t1) D .plain .plain os b k p'
    unfold p6s1L p6s1R at this
    rw [irr_c0] at this
    exact this
theorem ss2 (w : World) (e1 : Array (Int × Value)) (n1 : Nat) (t1 : SetTable) (e2 : Array (Int × Value)) (n2 : Nat) (t2 : SetTable) (os : OsState) (b : List Stmt) (k : Result → Sem Fin) (rest : List Stmt) (q : Pos) :
    ∃ D, SetD pw w (strsOf (elsOf (asgV ((clsN pw) 2)))) D ∧ Cm pw w (mkS ((tr_c1 pw) w.params (.set e1 n1 t1) (.set e2 n2 t2) .plain .plain) 234 538 os).abs (restOf ((clsN pw) 2 :: rest) (cenv pw) (ccode pw) q [(clsFr pw) k b, topFrame zp]) ((S_c2 pw) w (.set e1 n1 t1) (.set e2 n2 t2) D .plain os).abs (restOf rest (cenv pw) (ccode pw) ⟨180, 4, 180, 15⟩ [(clsFr pw) k b, topFrame zp]) := by
  refine set_stmt' (n₀ := 11) (ann := ann6) (N := 20) (L := 6) (cd := 230) (S' := fun D => (S_c2 pw) w (.set e1 n1 t1) (.set e2 n2 t2) D .plain os) hst2 hv2 hsw2 rfl ?_ ?_ rfl (by decide) ?_ (vs := match (o230_clsStart w.params .plain .plain .plain .plain).data with | .fields v => v | _ => #[]) (o := o230_clsStart w.params .plain .plain .plain .plain) rfl hroad2 hall2 hlen2 (by decide) ?_
  · have := alv2_ok w.params e1 e2 #[] n1 n2 0 t1 t2 default
    unfold alv2 at this
    rw [irr_c1] at this
    exact this
  · intro o'
    exact ins2_ok w.params (.set e1 n1 t1) (.set e2 n2 t2) .plain .plain o'
  · have := cod2_ok w.params (.set e1 n1 t1) (.set e2 n2 t2) .plain .plain
    unfold cod2 codR2 at this
    exact this
  · intro D p'
    have := p6s2_ok w (.set e1 n1 t1) (.set e2 n2 t2) D .plain os b k p'
    unfold p6s2L p6s2R at this
    rw [irr_c1] at this
    exact this
theorem ss3 (w : World) (e1 : Array (Int × Value)) (n1 : Nat) (t1 : SetTable) (e2 : Array (Int × Value)) (n2 : Nat) (t2 : SetTable) (e3 : Array (Int × Value)) (n3 : Nat) (t3 : SetTable) (os : OsState) (b : List Stmt) (k : Result → Sem Fin) (rest : List Stmt) (q : Pos) :
    ∃ D, SetD pw w (strsOf (elsOf (asgV ((clsN pw) 3)))) D ∧ Cm pw w (mkS ((tr_c2 pw) w.params (.set e1 n1 t1) (.set e2 n2 t2) (.set e3 n3 t3) .plain) 235 551 os).abs (restOf ((clsN pw) 3 :: rest) (cenv pw) (ccode pw) q [(clsFr pw) k b, topFrame zp]) ((S_c3 pw) w (.set e1 n1 t1) (.set e2 n2 t2) (.set e3 n3 t3) D os).abs (restOf rest (cenv pw) (ccode pw) ⟨181, 4, 181, 16⟩ [(clsFr pw) k b, topFrame zp]) := by
  refine set_stmt' (n₀ := 11) (ann := ann6) (N := 20) (L := 14) (cd := 230) (S' := fun D => (S_c3 pw) w (.set e1 n1 t1) (.set e2 n2 t2) (.set e3 n3 t3) D os) hst3 hv3 hsw3 rfl ?_ ?_ rfl (by decide) ?_ (vs := match (o230_clsStart w.params .plain .plain .plain .plain).data with | .fields v => v | _ => #[]) (o := o230_clsStart w.params .plain .plain .plain .plain) rfl hroad3 hall3 hlen3 (by decide) ?_
  · have := alv3_ok w.params e1 e2 e3 n1 n2 n3 t1 t2 t3
    unfold alv3 at this
    rw [irr_c2] at this
    exact this
  · intro o'
    exact ins3_ok w.params (.set e1 n1 t1) (.set e2 n2 t2) (.set e3 n3 t3) .plain o'
  · have := cod3_ok w.params (.set e1 n1 t1) (.set e2 n2 t2) (.set e3 n3 t3) .plain
    unfold cod3 codR3 at this
    exact this
  · intro D p'
    have := p6s3_ok w (.set e1 n1 t1) (.set e2 n2 t2) (.set e3 n3 t3) D os b k p'
    unfold p6s3L p6s3R at this
    rw [irr_c2] at this
    exact this
theorem clsB_is : (clsB pw) = [(clsN pw) 0, (clsN pw) 1, (clsN pw) 2, (clsN pw) 3] ++ ([(clsN pw) 4, (clsN pw) 5, (clsN pw) 6, (clsN pw) 7, (clsN pw) 8, (clsN pw) 9, (clsN pw) 10] ++ [(clsN pw) 11, (clsN pw) 12, (clsN pw) 13, (clsN pw) 14, (clsN pw) 15, (clsN pw) 16, (clsN pw) 17, (clsN pw) 18, (clsN pw) 19, (clsN pw) 20]) := by kernel_rfl
noncomputable def SetsD (pz : Program) (w : World) (D1 D2 D3 D4 : Data) : Prop := SetD pz w (strsOf (elsOf (asgV ((clsN pz) 0)))) D1 ∧ SetD pz w (strsOf (elsOf (asgV ((clsN pz) 1)))) D2 ∧ SetD pz w (strsOf (elsOf (asgV ((clsN pz) 2)))) D3 ∧ SetD pz w (strsOf (elsOf (asgV ((clsN pz) 3)))) D4
theorem irrS_clsStart (w : World) (D1 D2 D3 D4 : Data) (os : OsState) : (S_clsStart pw) w D1 D2 D3 D4 os = (S_clsStart pw) w .plain .plain .plain .plain os := rfl
theorem S_mk (w : World) (D1 D2 D3 D4 : Data) (os : OsState) : (S_clsStart pw) w D1 D2 D3 D4 os = mkS ((tr_clsStart pw) w.params D1 D2 D3 D4) 232 476 os := rfl
theorem sleepS {T : BT} {n t : Nat} {os : OsState} : (mkS T n t os).abs.asleep := ⟨rfl, rfl⟩
theorem body_cm (w : World) (os : OsState) (b : List Stmt) (k : Result → Sem Fin) :
    ∃ (e1 e2 e3 e4 : Array (Int × Value)) (n1 n2 n3 n4 : Nat) (t1 t2 t3 t4 : SetTable) (p3 : Pos), (SetsD pw) w (.set e1 n1 t1) (.set e2 n2 t2) (.set e3 n3 t3) (.set e4 n4 t4) ∧
      Cm pw w ((S_clsStart pw) w .plain .plain .plain .plain os).abs ⟨denote table (ccode pw), (ccode pw), cpos, [(clsFr pw) k b, topFrame zp]⟩ ((S_c20 pw) w (.set e1 n1 t1) (.set e2 n2 t2) (.set e3 n3 t3) (.set e4 n4 t4) os).abs ⟨.pure (.done .next), (ccode pw), p3, [(clsFr pw) k b, topFrame zp]⟩ := by
  have C0 := (block_cm (p := pw) (n₀ := 11) (ann := ann6) (B := [(clsFr pw) k b, topFrame zp]) rfl (runT (p6b_ok w .plain .plain .plain .plain os b k)) sleepS).1
  rw [clsB_is] at C0
  obtain ⟨D1, hD1, C1⟩ := ss0 w os b k ([(clsN pw) 1, (clsN pw) 2, (clsN pw) 3] ++ ([(clsN pw) 4, (clsN pw) 5, (clsN pw) 6, (clsN pw) 7, (clsN pw) 8, (clsN pw) 9, (clsN pw) 10] ++ [(clsN pw) 11, (clsN pw) 12, (clsN pw) 13, (clsN pw) 14, (clsN pw) 15, (clsN pw) 16, (clsN pw) 17, (clsN pw) 18, (clsN pw) 19, (clsN pw) 20])) cpos
  obtain ⟨e1, n1, t1, rfl, x1⟩ := hD1
  obtain ⟨D2, hD2, C2⟩ := ss1 w e1 n1 t1 os b k ([(clsN pw) 2, (clsN pw) 3] ++ ([(clsN pw) 4, (clsN pw) 5, (clsN pw) 6, (clsN pw) 7, (clsN pw) 8, (clsN pw) 9, (clsN pw) 10] ++ [(clsN pw) 11, (clsN pw) 12, (clsN pw) 13, (clsN pw) 14, (clsN pw) 15, (clsN pw) 16, (clsN pw) 17, (clsN pw) 18, (clsN pw) 19, (clsN pw) 20])) ⟨178, 4, 178, 7⟩
  obtain ⟨e2, n2, t2, rfl, x2⟩ := hD2
  obtain ⟨D3, hD3, C3⟩ := ss2 w e1 n1 t1 e2 n2 t2 os b k ([(clsN pw) 3] ++ ([(clsN pw) 4, (clsN pw) 5, (clsN pw) 6, (clsN pw) 7, (clsN pw) 8, (clsN pw) 9, (clsN pw) 10] ++ [(clsN pw) 11, (clsN pw) 12, (clsN pw) 13, (clsN pw) 14, (clsN pw) 15, (clsN pw) 16, (clsN pw) 17, (clsN pw) 18, (clsN pw) 19, (clsN pw) 20])) ⟨179, 4, 179, 21⟩
  obtain ⟨e3, n3, t3, rfl, x3⟩ := hD3
  obtain ⟨D4, hD4, C4⟩ := ss3 w e1 n1 t1 e2 n2 t2 e3 n3 t3 os b k ([(clsN pw) 4, (clsN pw) 5, (clsN pw) 6, (clsN pw) 7, (clsN pw) 8, (clsN pw) 9, (clsN pw) 10] ++ [(clsN pw) 11, (clsN pw) 12, (clsN pw) 13, (clsN pw) 14, (clsN pw) 15, (clsN pw) 16, (clsN pw) 17, (clsN pw) 18, (clsN pw) 19, (clsN pw) 20]) ⟨180, 4, 180, 15⟩
  obtain ⟨e4, n4, t4, rfl, x4⟩ := hD4
  refine ⟨e1, e2, e3, e4, n1, n2, n3, n4, t1, t2, t3, t4, ⟨385, 4, 385, 7⟩, ⟨⟨e1, n1, t1, rfl, x1⟩, ⟨e2, n2, t2, rfl, x2⟩, ⟨e3, n3, t3, rfl, x3⟩, ⟨e4, n4, t4, rfl, x4⟩⟩, ?_⟩
  have C5 := (piece_cm (p := pw) (n₀ := 11) (ann := ann6) (B := [(clsFr pw) k b, topFrame zp]) (rest := [(clsN pw) 11, (clsN pw) 12, (clsN pw) 13, (clsN pw) 14, (clsN pw) 15, (clsN pw) 16, (clsN pw) 17, (clsN pw) 18, (clsN pw) 19, (clsN pw) 20]) rfl (runT (p6c_ok w (.set e1 n1 t1) (.set e2 n2 t2) (.set e3 n3 t3) (.set e4 n4 t4) os b k ⟨181, 4, 181, 16⟩)) sleepS).1
  have L0 := ls0 w (.set e1 n1 t1) (.set e2 n2 t2) (.set e3 n3 t3) (.set e4 n4 t4) os b k [(clsN pw) 12, (clsN pw) 13, (clsN pw) 14, (clsN pw) 15, (clsN pw) 16, (clsN pw) 17, (clsN pw) 18, (clsN pw) 19, (clsN pw) 20] ⟨363, 4, 375, 19⟩
  have M0 := (piece_cm (p := pw) (n₀ := 11) (ann := ann6) (B := [(clsFr pw) k b, topFrame zp]) (rest := [(clsN pw) 13, (clsN pw) 14, (clsN pw) 15, (clsN pw) 16, (clsN pw) 17, (clsN pw) 18, (clsN pw) 19, (clsN pw) 20]) rfl (runT (p6t12_ok w (.set e1 n1 t1) (.set e2 n2 t2) (.set e3 n3 t3) (.set e4 n4 t4) os b k ⟨376, 4, 376, 7⟩)) sleepS).1
  have L1 := ls1 w (.set e1 n1 t1) (.set e2 n2 t2) (.set e3 n3 t3) (.set e4 n4 t4) os b k [(clsN pw) 14, (clsN pw) 15, (clsN pw) 16, (clsN pw) 17, (clsN pw) 18, (clsN pw) 19, (clsN pw) 20] ⟨377, 4, 377, 8⟩
  have M1 := (piece_cm (p := pw) (n₀ := 11) (ann := ann6) (B := [(clsFr pw) k b, topFrame zp]) (rest := [(clsN pw) 15, (clsN pw) 16, (clsN pw) 17, (clsN pw) 18, (clsN pw) 19, (clsN pw) 20]) rfl (runT (p6t14_ok w (.set e1 n1 t1) (.set e2 n2 t2) (.set e3 n3 t3) (.set e4 n4 t4) os b k ⟨378, 4, 378, 7⟩)) sleepS).1
  have L2 := ls2 w (.set e1 n1 t1) (.set e2 n2 t2) (.set e3 n3 t3) (.set e4 n4 t4) os b k [(clsN pw) 16, (clsN pw) 17, (clsN pw) 18, (clsN pw) 19, (clsN pw) 20] ⟨379, 4, 379, 8⟩
  have L3 := ls3 w (.set e1 n1 t1) (.set e2 n2 t2) (.set e3 n3 t3) (.set e4 n4 t4) os b k [(clsN pw) 17, (clsN pw) 18, (clsN pw) 19, (clsN pw) 20] ⟨380, 4, 380, 7⟩
  have M2 := (piece_cm (p := pw) (n₀ := 11) (ann := ann6) (B := [(clsFr pw) k b, topFrame zp]) (rest := [(clsN pw) 18, (clsN pw) 19, (clsN pw) 20]) rfl (runT (p6t17_ok w (.set e1 n1 t1) (.set e2 n2 t2) (.set e3 n3 t3) (.set e4 n4 t4) os b k ⟨381, 4, 381, 7⟩)) sleepS).1
  have L4 := ls4 w (.set e1 n1 t1) (.set e2 n2 t2) (.set e3 n3 t3) (.set e4 n4 t4) os b k [(clsN pw) 19, (clsN pw) 20] ⟨382, 4, 382, 8⟩
  have L5 := ls5 w (.set e1 n1 t1) (.set e2 n2 t2) (.set e3 n3 t3) (.set e4 n4 t4) os b k [(clsN pw) 20] ⟨383, 4, 383, 7⟩
  have L6 := ls6 w (.set e1 n1 t1) (.set e2 n2 t2) (.set e3 n3 t3) (.set e4 n4 t4) os b k [] ⟨384, 4, 384, 7⟩
  have i1 : (S_c0 pw) w (.set e1 n1 t1) .plain .plain .plain os = mkS ((tr_c0 pw) w.params (.set e1 n1 t1) .plain .plain .plain) 233 505 os := rfl
  have i2 : (S_c1 pw) w (.set e1 n1 t1) (.set e2 n2 t2) .plain .plain os = mkS ((tr_c1 pw) w.params (.set e1 n1 t1) (.set e2 n2 t2) .plain .plain) 234 538 os := rfl
  have i3 : (S_c2 pw) w (.set e1 n1 t1) (.set e2 n2 t2) (.set e3 n3 t3) .plain os = mkS ((tr_c2 pw) w.params (.set e1 n1 t1) (.set e2 n2 t2) (.set e3 n3 t3) .plain) 235 551 os := rfl
  rw [i1] at C1
  rw [i2] at C2
  rw [i3] at C3
  rw [S_mk] at C0
  rw [S_mk]
  exact C0.trans (C1.trans (C2.trans (C3.trans (C4.trans (C5.trans (L0.trans (M0.trans (L1.trans (M1.trans (L2.trans (L3.trans (M2.trans (L4.trans (L5.trans L6))))))))))))))
end
section
open PySem PySem.W PyProof.Rows
set_option maxHeartbeats 0
noncomputable def bht (pz : Program) : List Stmt := behindTheImports pz
theorem bht_is : (bht pw) = [(stN pw) 0, (stN pw) 1] ++ ([(stN pw) 2] ++ ([(stN pw) 3, (stN pw) 4, (stN pw) 5] ++ ((stN pw) 6 :: ([(stN pw) 7, (stN pw) 8] ++ ([(stN pw) 9, (stN pw) 10, (stN pw) 11, (stN pw) 12, (stN pw) 13, (stN pw) 14, (stN pw) 15, (stN pw) 16, (stN pw) 17, (stN pw) 18, (stN pw) 19, (stN pw) 20, (stN pw) 21, (stN pw) 22, (stN pw) 23, (stN pw) 24, (stN pw) 25, (stN pw) 26] ++ []))))) := by kernel_rfl
noncomputable def s00 (w : World) (os : OsState) : Shared := ⟨boot_heap w.params, Array.mk [], boot_drawn, boot_toks, os⟩
noncomputable def preL (pz : Program) (w : World) (os : OsState) := topGo treeTable pz w 11 ann6 12 (s00 w os) (topStub pz)
noncomputable def preR (pz : Program) (w : World) (os : OsState) : Option (Shared × Thread) := some ((S_pre w .plain .plain .plain .plain os).abs, ⟨denote treeTable (.body (bht pz) (env1 pz)), .body (bht pz) (env1 pz), zp, [topFrame zp]⟩)
theorem preL_self : preL = preL := rfl
theorem preR_self : preR = preR := rfl
name_quick preLQ for preL by preL_self
name_quick preRQ for preR by preR_self
theorem pre_ok (w : World) (os : OsState) : (preL pw) w os = (preR pw) w os := by
  rw [PySem.W.Fast.preLQ_eq, PySem.W.Fast.preRQ_eq]
  rw [pw_fast]
  kernel_rfl
noncomputable def blkL (pz : Program) (w : World) (os : OsState) (b : List Stmt) := segRunT treeTable pz w 11 ann6 1 5 (S_pre w .plain .plain .plain .plain os) (blockOf (bht pz) (env1 pz) (.body b (env1 pz)) zp [topFrame zp])
noncomputable def blkR (pz : Program) (w : World) (os : OsState) (b : List Stmt) : Option (Flow × SharedT × Code × Pos) := some (.next, S_pre w .plain .plain .plain .plain os, .body b (env1 pz), zp)
theorem blkL_self : blkL = blkL := rfl
theorem blkR_self : blkR = blkR := rfl
name_quick blkLQ for blkL by blkL_self
theorem blk_ok (w : World) (os : OsState) (b : List Stmt) : (blkL pw) w os b = (blkR pw) w os b := by
  rw [PySem.W.Fast.blkLQ_eq]
  rw [pw_fast]
  kernel_rfl
noncomputable def finT (c : Code) : Thread := ⟨.pure (.done (.ret .none)), .builtin "claim.caller" {}, zp, []⟩
theorem goT {p : Program} {w : World} {n₀ : Nat} {ann : Option Value} {n : Nat} {s s' : Shared} {t t' : Thread} (h : topGo treeTable p w n₀ ann n s t = some (s', t')) : topGo table p w n₀ ann n s t = some (s', t') := by
  rw [table_eq_tree]; exact h
theorem all_cm (w : World) (os : OsState) : ∃ (e1 e2 e3 e4 : Array (Int × Value)) (n1 n2 n3 n4 : Nat) (t1 t2 t3 t4 : SetTable) , (SetsD pw) w (.set e1 n1 t1) (.set e2 n2 t2) (.set e3 n3 t3) (.set e4 n4 t4) ∧
    ∃ t, Cm pw w (s00 w os) (topStub pw) ((S_t26 pw) w (.set e1 n1 t1) (.set e2 n2 t2) (.set e3 n3 t3) (.set e4 n4 t4) os).abs t ∧ through t = true := by
  have A0 := (go_cm (p := pw) (w := w) (n₀ := 11) (ann := ann6) _ _ _ _ _ (goT (pre_ok w os)) ⟨rfl, rfl⟩).1
  rw [← table_eq_tree] at A0
  have A1 := (block_cm (p := pw) (n₀ := 11) (ann := ann6) (B := [topFrame zp]) rfl (runT (blk_ok w os (bht pw))) sleepS).1
  have eb : ∀ (c : Code) (q : Pos), restOf (bht pw) (env1 pw) c q [topFrame zp] = restOf ([(stN pw) 0, (stN pw) 1] ++ ([(stN pw) 2] ++ ([(stN pw) 3, (stN pw) 4, (stN pw) 5] ++ ((stN pw) 6 :: ([(stN pw) 7, (stN pw) 8] ++ ([(stN pw) 9, (stN pw) 10, (stN pw) 11, (stN pw) 12, (stN pw) 13, (stN pw) 14, (stN pw) 15, (stN pw) 16, (stN pw) 17, (stN pw) 18, (stN pw) 19, (stN pw) 20, (stN pw) 21, (stN pw) 22, (stN pw) 23, (stN pw) 24, (stN pw) 25, (stN pw) 26] ++ [])))))) (env1 pw) c q [topFrame zp] :=
    fun c q => congrArg (fun l => restOf l (env1 pw) c q [topFrame zp]) bht_is
  rw [eb] at A1
  have A2 := (piece_cm (p := pw) (n₀ := 11) (ann := ann6) (B := [topFrame zp]) (rest := [(stN pw) 2] ++ ([(stN pw) 3, (stN pw) 4, (stN pw) 5] ++ ((stN pw) 6 :: ([(stN pw) 7, (stN pw) 8] ++ ([(stN pw) 9, (stN pw) 10, (stN pw) 11, (stN pw) 12, (stN pw) 13, (stN pw) 14, (stN pw) 15, (stN pw) 16, (stN pw) 17, (stN pw) 18, (stN pw) 19, (stN pw) 20, (stN pw) 21, (stN pw) 22, (stN pw) 23, (stN pw) 24, (stN pw) 25, (stN pw) 26] ++ []))))) rfl (runT (p01_ok w .plain .plain .plain .plain os (bht pw) zp)) sleepS).1
  have A3 := (piece_cm (p := pw) (n₀ := 11) (ann := ann6) (B := [topFrame zp]) (rest := [(stN pw) 3, (stN pw) 4, (stN pw) 5] ++ ((stN pw) 6 :: ([(stN pw) 7, (stN pw) 8] ++ ([(stN pw) 9, (stN pw) 10, (stN pw) 11, (stN pw) 12, (stN pw) 13, (stN pw) 14, (stN pw) 15, (stN pw) 16, (stN pw) 17, (stN pw) 18, (stN pw) 19, (stN pw) 20, (stN pw) 21, (stN pw) 22, (stN pw) 23, (stN pw) 24, (stN pw) 25, (stN pw) 26] ++ [])))) rfl (runT (p2_ok w .plain .plain .plain .plain os (bht pw) ⟨4, 0, 4, 8⟩)) sleepS).1
  have A4 := (piece_cm (p := pw) (n₀ := 11) (ann := ann6) (B := [topFrame zp]) (rest := (stN pw) 6 :: ([(stN pw) 7, (stN pw) 8] ++ ([(stN pw) 9, (stN pw) 10, (stN pw) 11, (stN pw) 12, (stN pw) 13, (stN pw) 14, (stN pw) 15, (stN pw) 16, (stN pw) 17, (stN pw) 18, (stN pw) 19, (stN pw) 20, (stN pw) 21, (stN pw) 22, (stN pw) 23, (stN pw) 24, (stN pw) 25, (stN pw) 26] ++ []))) rfl (runT (p345_ok w .plain .plain .plain .plain os (bht pw) ⟨5, 0, 168, 16⟩)) sleepS).1
  have go6 : segGo table pw w 11 ann6 1 64 ((S_t5 pw) w .plain .plain .plain .plain os).abs (piecesOf [(stN pw) 6] (env1 pw) (.body (bht pw) (env1 pw)) ⟨176, 0, 176, 8⟩ [topFrame zp]) = some (((S_clsStart pw) w .plain .plain .plain .plain os).abs, ⟨denote table (ccode pw), (ccode pw), cpos, [.ret ((clsK pw) w os (bht pw) ⟨176, 0, 176, 8⟩) none false [.ref 199, .ref 225, .ref 225, .ref 227, .ref 231] (.body (bht pw) (env1 pw)) cpos [], topFrame zp]⟩) := by
    rw [table_eq_tree]
    exact segGo_of (p6a_ok w os (bht pw) ⟨176, 0, 176, 8⟩)
  obtain ⟨s3, ⟨e1, e2, e3, e4, n1, n2, n3, n4, t1, t2, t3, t4, hD, rfl⟩, A5, _⟩ := class_stmt (N := 300) (c' := .body (bht pw) (env1 pw)) (p' := cpos) (rest := [(stN pw) 7, (stN pw) 8] ++ ([(stN pw) 9, (stN pw) 10, (stN pw) 11, (stN pw) 12, (stN pw) 13, (stN pw) 14, (stN pw) 15, (stN pw) 16, (stN pw) 17, (stN pw) 18, (stN pw) 19, (stN pw) 20, (stN pw) 21, (stN pw) 22, (stN pw) 23, (stN pw) 24, (stN pw) 25, (stN pw) 26] ++ []))
    (R := fun s3 => ∃ (e1 e2 e3 e4 : Array (Int × Value)) (n1 n2 n3 n4 : Nat) (t1 t2 t3 t4 : SetTable) , (SetsD pw) w (.set e1 n1 t1) (.set e2 n2 t2) (.set e3 n3 t3) (.set e4 n4 t4) ∧ s3 = ((S_t6 pw) w (.set e1 n1 t1) (.set e2 n2 t2) (.set e3 n3 t3) (.set e4 n4 t4) os).abs) sleepS go6 (fun k' => by
      obtain ⟨e1, e2, e3, e4, n1, n2, n3, n4, t1, t2, t3, t4, p3, hD, hC⟩ := body_cm w os (bht pw) k'
      exact ⟨_, _, p3, ⟨e1, e2, e3, e4, n1, n2, n3, n4, t1, t2, t3, t4, hD, rfl⟩, sleepS, hC, runT (p6z_ok w e1 e2 e3 e4 n1 n2 n3 n4 t1 t2 t3 t4 os (bht pw) ⟨176, 0, 176, 8⟩)⟩)
  refine ⟨e1, e2, e3, e4, n1, n2, n3, n4, t1, t2, t3, t4, hD, ?_⟩
  have A6 := (piece_cm (p := pw) (n₀ := 11) (ann := ann6) (B := [topFrame zp]) (rest := [(stN pw) 9, (stN pw) 10, (stN pw) 11, (stN pw) 12, (stN pw) 13, (stN pw) 14, (stN pw) 15, (stN pw) 16, (stN pw) 17, (stN pw) 18, (stN pw) 19, (stN pw) 20, (stN pw) 21, (stN pw) 22, (stN pw) 23, (stN pw) 24, (stN pw) 25, (stN pw) 26] ++ []) rfl (runT (p78_ok w (.set e1 n1 t1) (.set e2 n2 t2) (.set e3 n3 t3) (.set e4 n4 t4) os (bht pw) cpos)) sleepS).1
  have A7 := (piece_cm (p := pw) (n₀ := 11) (ann := ann6) (B := [topFrame zp]) (rest := []) rfl (runT (p9_ok w (.set e1 n1 t1) (.set e2 n2 t2) (.set e3 n3 t3) (.set e4 n4 t4) os (bht pw) ⟨388, 0, 389, 8⟩)) sleepS).1
  refine ⟨_, A0.trans (A1.trans (A2.trans (A3.trans (A4.trans (A5.trans (A6.trans (A7.trans (.step sleepS rfl rfl (.refl _ _))))))))), rfl⟩
end
section
open PySem PySem.W PySem.Calls PyProof.Rows
set_option maxHeartbeats 0
noncomputable def qv (pz : Program) : Program := { pz with main := { pz.main with body := [(stN pz) 26] } }
noncomputable def lse : List Str := ["_wall", "BaseStemmer", "Among", "CzechStemmer", "lab0", "lab1", "_law_letters", "_law_parts", "_law_vowels", "_law_plain", "_law_with_e", "_law_with_i", "_law_with_t", "_law_young", "_law_fleeting", "_law_any", "_law_ahead", "_law_hard", "_law_fleet", "_law_case", "_law_owner", "_law_stem"]
noncomputable def mods (pz : Program) : List Str := importedModules pz.main.body
noncomputable def s26 (pz : Program) (w : World) (e1 e2 e3 e4 : Array (Int × Value)) (n1 n2 n3 n4 : Nat) (t1 t2 t3 t4 : SetTable) (os : OsState) : Shared := ((S_t26 pz) w (.set e1 n1 t1) (.set e2 n2 t2) (.set e3 n3 t3) (.set e4 n4 t4) os).abs
noncomputable def lk0L (pz : Program) (w : World) (e1 e2 e3 e4 : Array (Int × Value)) (n1 n2 n3 n4 : Nat) (t1 t2 t3 t4 : SetTable) (os : OsState) := staticsOk (mods pz) (boot_heap w.params) ((s26 pz) w e1 e2 e3 e4 n1 n2 n3 n4 t1 t2 t3 t4 os).heap && namesBound pz ((s26 pz) w e1 e2 e3 e4 n1 n2 n3 n4 t1 t2 t3 t4 os).heap && gensDone ((s26 pz) w e1 e2 e3 e4 n1 n2 n3 n4 t1 t2 t3 t4 os) && laidKept (boot_heap w.params) ((s26 pz) w e1 e2 e3 e4 n1 n2 n3 n4 t1 t2 t3 t4 os).heap
theorem lk0L_self : lk0L = lk0L := rfl
name_quick lk0LQ for lk0L by lk0L_self
theorem lk0_ok (w : World) (e1 e2 e3 e4 : Array (Int × Value)) (n1 n2 n3 n4 : Nat) (t1 t2 t3 t4 : SetTable) (os : OsState) : (lk0L pw) w e1 e2 e3 e4 n1 n2 n3 n4 t1 t2 t3 t4 os = true := by
  rw [PySem.W.Fast.lk0LQ_eq]
  rw [pw_fast]
  kernel_rfl
noncomputable def lk1L (pz : Program) (w : World) (e1 e2 e3 e4 : Array (Int × Value)) (n1 n2 n3 n4 : Nat) (t1 t2 t3 t4 : SetTable) (os : OsState) := seen ((recsOf (qv pz)).map (·.name)) (ownsOf (qv pz)) [] { ((s26 pz) w e1 e2 e3 e4 n1 n2 n3 n4 t1 t2 t3 t4 os) with gens := #[] }
theorem lk1L_self : lk1L = lk1L := rfl
name_quick lk1LQ for lk1L by lk1L_self
noncomputable def lk1R (pz : Program) (w : World) (e1 e2 e3 e4 : Array (Int × Value)) (n1 n2 n3 n4 : Nat) (t1 t2 t3 t4 : SetTable) (os : OsState) := expectedOf (qv pz)
theorem lk1R_self : lk1R = lk1R := rfl
theorem lk1_ok (w : World) (e1 e2 e3 e4 : Array (Int × Value)) (n1 n2 n3 n4 : Nat) (t1 t2 t3 t4 : SetTable) (os : OsState) : (lk1L pw) w e1 e2 e3 e4 n1 n2 n3 n4 t1 t2 t3 t4 os = (lk1R pw) w e1 e2 e3 e4 n1 n2 n3 n4 t1 t2 t3 t4 os := by
  rw [PySem.W.Fast.lk1LQ_eq]
  rw [pw_fast]
  kernel_rfl
noncomputable def lk2L (pz : Program) (w : World) (e1 e2 e3 e4 : Array (Int × Value)) (n1 n2 n3 n4 : Nat) (t1 t2 t3 t4 : SetTable) (os : OsState) := ((s26 pz) w e1 e2 e3 e4 n1 n2 n3 n4 t1 t2 t3 t4 os).heap.bltView
theorem lk2L_self : lk2L = lk2L := rfl
name_quick lk2LQ for lk2L by lk2L_self
theorem lk2_ok (w : World) (e1 e2 e3 e4 : Array (Int × Value)) (n1 n2 n3 n4 : Nat) (t1 t2 t3 t4 : SetTable) (os : OsState) : (lk2L pw) w e1 e2 e3 e4 n1 n2 n3 n4 t1 t2 t3 t4 os = bltViewBooted := by
  rw [PySem.W.Fast.lk2LQ_eq]
  rw [pw_fast]
  kernel_rfl
noncomputable def lk3L (pz : Program) (w : World) (e1 e2 e3 e4 : Array (Int × Value)) (n1 n2 n3 n4 : Nat) (t1 t2 t3 t4 : SetTable) (os : OsState) := ((s26 pz) w e1 e2 e3 e4 n1 n2 n3 n4 t1 t2 t3 t4 os).heap.keysOk (looseW (qv pz) lse) ((recsOf (qv pz)).map (·.name)) ((litsOf (qv pz)).map (·.1)) ((clssOf (qv pz) (looseW (qv pz) lse)).map (·.name)) && ((s26 pz) w e1 e2 e3 e4 n1 n2 n3 n4 t1 t2 t3 t4 os).heap.accountedOkI (mods pz) && ((s26 pz) w e1 e2 e3 e4 n1 n2 n3 n4 t1 t2 t3 t4 os).heap.isNs mainGlobals && ((s26 pz) w e1 e2 e3 e4 n1 n2 n3 n4 t1 t2 t3 t4 os).heap.isNs builtinsNs && tablesOk (qv pz) ((s26 pz) w e1 e2 e3 e4 n1 n2 n3 n4 t1 t2 t3 t4 os).heap && (xlAt (qv pz) [] ((s26 pz) w e1 e2 e3 e4 n1 n2 n3 n4 t1 t2 t3 t4 os) && recOk [] ((s26 pz) w e1 e2 e3 e4 n1 n2 n3 n4 t1 t2 t3 t4 os)) && (if true then ((s26 pz) w e1 e2 e3 e4 n1 n2 n3 n4 t1 t2 t3 t4 os).gens.size == 0 else !leftWithCleanup ((s26 pz) w e1 e2 e3 e4 n1 n2 n3 n4 t1 t2 t3 t4 os).gens)
theorem lk3L_self : lk3L = lk3L := rfl
name_quick lk3LQ for lk3L by lk3L_self
theorem lk3_ok (w : World) (e1 e2 e3 e4 : Array (Int × Value)) (n1 n2 n3 n4 : Nat) (t1 t2 t3 t4 : SetTable) (os : OsState) : (lk3L pw) w e1 e2 e3 e4 n1 n2 n3 n4 t1 t2 t3 t4 os = true := by
  rw [PySem.W.Fast.lk3LQ_eq]
  rw [pw_fast]
  kernel_rfl
noncomputable def lk4L (pz : Program) (w : World) (e1 e2 e3 e4 : Array (Int × Value)) (n1 n2 n3 n4 : Nat) (t1 t2 t3 t4 : SetTable) (os : OsState) := tabsOk (qv pz) ((s26 pz) w e1 e2 e3 e4 n1 n2 n3 n4 t1 t2 t3 t4 os)
theorem lk4L_self : lk4L = lk4L := rfl
name_quick lk4LQ for lk4L by lk4L_self
theorem lk4_ok (w : World) (e1 e2 e3 e4 : Array (Int × Value)) (n1 n2 n3 n4 : Nat) (t1 t2 t3 t4 : SetTable) (os : OsState) : (lk4L pw) w e1 e2 e3 e4 n1 n2 n3 n4 t1 t2 t3 t4 os = true := by
  rw [PySem.W.Fast.lk4LQ_eq]
  rw [pw_fast]
  kernel_rfl
noncomputable def lk5L (pz : Program) (w : World) (e1 e2 e3 e4 : Array (Int × Value)) (n1 n2 n3 n4 : Nat) (t1 t2 t3 t4 : SetTable) (os : OsState) := pinSeenD (qv pz) (drecsOf (qv pz)) ((s26 pz) w e1 e2 e3 e4 n1 n2 n3 n4 t1 t2 t3 t4 os)
theorem lk5L_self : lk5L = lk5L := rfl
name_quick lk5LQ for lk5L by lk5L_self
noncomputable def lk5R (pz : Program) (w : World) (e1 e2 e3 e4 : Array (Int × Value)) (n1 n2 n3 n4 : Nat) (t1 t2 t3 t4 : SetTable) (os : OsState) := pinGoodD (drecsOf (qv pz))
theorem lk5R_self : lk5R = lk5R := rfl
name_quick lk5RQ for lk5R by lk5R_self
theorem lk5_ok (w : World) (e1 e2 e3 e4 : Array (Int × Value)) (n1 n2 n3 n4 : Nat) (t1 t2 t3 t4 : SetTable) (os : OsState) : (lk5L pw) w e1 e2 e3 e4 n1 n2 n3 n4 t1 t2 t3 t4 os = (lk5R pw) w e1 e2 e3 e4 n1 n2 n3 n4 t1 t2 t3 t4 os := by
  rw [PySem.W.Fast.lk5LQ_eq, PySem.W.Fast.lk5RQ_eq]
  rw [pw_fast]
  kernel_rfl
noncomputable def lk6L (pz : Program) (w : World) (e1 e2 e3 e4 : Array (Int × Value)) (n1 n2 n3 n4 : Nat) (t1 t2 t3 t4 : SetTable) (os : OsState) := plainSeenE (qv pz) (looseW (qv pz) lse) ((s26 pz) w e1 e2 e3 e4 n1 n2 n3 n4 t1 t2 t3 t4 os)
theorem lk6L_self : lk6L = lk6L := rfl
name_quick lk6LQ for lk6L by lk6L_self
noncomputable def lk6R (pz : Program) (w : World) (e1 e2 e3 e4 : Array (Int × Value)) (n1 n2 n3 n4 : Nat) (t1 t2 t3 t4 : SetTable) (os : OsState) := plainGoodE (qv pz) (looseW (qv pz) lse)
theorem lk6R_self : lk6R = lk6R := rfl
name_quick lk6RQ for lk6R by lk6R_self
theorem lk6_ok (w : World) (e1 e2 e3 e4 : Array (Int × Value)) (n1 n2 n3 n4 : Nat) (t1 t2 t3 t4 : SetTable) (os : OsState) : (lk6L pw) w e1 e2 e3 e4 n1 n2 n3 n4 t1 t2 t3 t4 os = (lk6R pw) w e1 e2 e3 e4 n1 n2 n3 n4 t1 t2 t3 t4 os := by
  rw [PySem.W.Fast.lk6LQ_eq, PySem.W.Fast.lk6RQ_eq]
  rw [pw_fast]
  kernel_rfl
noncomputable def lk7L (pz : Program) (w : World) (e1 e2 e3 e4 : Array (Int × Value)) (n1 n2 n3 n4 : Nat) (t1 t2 t3 t4 : SetTable) (os : OsState) := plainSeenD (qv pz) lse ((s26 pz) w e1 e2 e3 e4 n1 n2 n3 n4 t1 t2 t3 t4 os)
theorem lk7L_self : lk7L = lk7L := rfl
name_quick lk7LQ for lk7L by lk7L_self
noncomputable def lk7R (pz : Program) (w : World) (e1 e2 e3 e4 : Array (Int × Value)) (n1 n2 n3 n4 : Nat) (t1 t2 t3 t4 : SetTable) (os : OsState) := plainGoodD (qv pz) lse
theorem lk7R_self : lk7R = lk7R := rfl
name_quick lk7RQ for lk7R by lk7R_self
theorem lk7_ok (w : World) (e1 e2 e3 e4 : Array (Int × Value)) (n1 n2 n3 n4 : Nat) (t1 t2 t3 t4 : SetTable) (os : OsState) : (lk7L pw) w e1 e2 e3 e4 n1 n2 n3 n4 t1 t2 t3 t4 os = (lk7R pw) w e1 e2 e3 e4 n1 n2 n3 n4 t1 t2 t3 t4 os := by
  rw [PySem.W.Fast.lk7LQ_eq, PySem.W.Fast.lk7RQ_eq]
  rw [pw_fast]
  kernel_rfl
noncomputable def lk8L (pz : Program) (w : World) (e1 e2 e3 e4 : Array (Int × Value)) (n1 n2 n3 n4 : Nat) (t1 t2 t3 t4 : SetTable) (os : OsState) := wideSeen (qv pz) ((s26 pz) w e1 e2 e3 e4 n1 n2 n3 n4 t1 t2 t3 t4 os)
theorem lk8L_self : lk8L = lk8L := rfl
name_quick lk8LQ for lk8L by lk8L_self
noncomputable def lk8R (pz : Program) (w : World) (e1 e2 e3 e4 : Array (Int × Value)) (n1 n2 n3 n4 : Nat) (t1 t2 t3 t4 : SetTable) (os : OsState) := wideGood (qv pz)
theorem lk8R_self : lk8R = lk8R := rfl
theorem lk8_ok (w : World) (e1 e2 e3 e4 : Array (Int × Value)) (n1 n2 n3 n4 : Nat) (t1 t2 t3 t4 : SetTable) (os : OsState) : (lk8L pw) w e1 e2 e3 e4 n1 n2 n3 n4 t1 t2 t3 t4 os = (lk8R pw) w e1 e2 e3 e4 n1 n2 n3 n4 t1 t2 t3 t4 os := by
  rw [PySem.W.Fast.lk8LQ_eq]
  rw [pw_fast]
  kernel_rfl
noncomputable def lk9L (pz : Program) (w : World) (e1 e2 e3 e4 : Array (Int × Value)) (n1 n2 n3 n4 : Nat) (t1 t2 t3 t4 : SetTable) (os : OsState) := clsSeenW (qv pz) lse ((s26 pz) w e1 e2 e3 e4 n1 n2 n3 n4 t1 t2 t3 t4 os)
theorem lk9L_self : lk9L = lk9L := rfl
name_quick lk9LQ for lk9L by lk9L_self
noncomputable def lk9R (pz : Program) (w : World) (e1 e2 e3 e4 : Array (Int × Value)) (n1 n2 n3 n4 : Nat) (t1 t2 t3 t4 : SetTable) (os : OsState) := clsGoodW (qv pz) lse
theorem lk9R_self : lk9R = lk9R := rfl
name_quick lk9RQ for lk9R by lk9R_self
theorem lk9_ok (w : World) (e1 e2 e3 e4 : Array (Int × Value)) (n1 n2 n3 n4 : Nat) (t1 t2 t3 t4 : SetTable) (os : OsState) : (lk9L pw) w e1 e2 e3 e4 n1 n2 n3 n4 t1 t2 t3 t4 os = (lk9R pw) w e1 e2 e3 e4 n1 n2 n3 n4 t1 t2 t3 t4 os := by
  rw [PySem.W.Fast.lk9LQ_eq, PySem.W.Fast.lk9RQ_eq]
  rw [pw_fast]
  kernel_rfl
theorem fr0 (w : World) (e1 e2 e3 e4 : Array (Int × Value)) (n1 n2 n3 n4 : Nat) (t1 t2 t3 t4 : SetTable) (os : OsState) : (boot_heap w.params).get? 0 = ((s26 pw) w e1 e2 e3 e4 n1 n2 n3 n4 t1 t2 t3 t4 os).heap.get? 0 := by kernel_rfl
theorem fr1 (w : World) (e1 e2 e3 e4 : Array (Int × Value)) (n1 n2 n3 n4 : Nat) (t1 t2 t3 t4 : SetTable) (os : OsState) : (boot_heap w.params).get? 1 = ((s26 pw) w e1 e2 e3 e4 n1 n2 n3 n4 t1 t2 t3 t4 os).heap.get? 1 := by kernel_rfl
theorem fr4 (w : World) (e1 e2 e3 e4 : Array (Int × Value)) (n1 n2 n3 n4 : Nat) (t1 t2 t3 t4 : SetTable) (os : OsState) : (boot_heap w.params).get? 4 = ((s26 pw) w e1 e2 e3 e4 n1 n2 n3 n4 t1 t2 t3 t4 os).heap.get? 4 := by kernel_rfl
theorem fr5 (w : World) (e1 e2 e3 e4 : Array (Int × Value)) (n1 n2 n3 n4 : Nat) (t1 t2 t3 t4 : SetTable) (os : OsState) : (boot_heap w.params).get? 5 = ((s26 pw) w e1 e2 e3 e4 n1 n2 n3 n4 t1 t2 t3 t4 os).heap.get? 5 := by kernel_rfl
theorem fr6 (w : World) (e1 e2 e3 e4 : Array (Int × Value)) (n1 n2 n3 n4 : Nat) (t1 t2 t3 t4 : SetTable) (os : OsState) : (boot_heap w.params).get? 6 = ((s26 pw) w e1 e2 e3 e4 n1 n2 n3 n4 t1 t2 t3 t4 os).heap.get? 6 := by kernel_rfl
theorem fr7 (w : World) (e1 e2 e3 e4 : Array (Int × Value)) (n1 n2 n3 n4 : Nat) (t1 t2 t3 t4 : SetTable) (os : OsState) : (boot_heap w.params).get? 7 = ((s26 pw) w e1 e2 e3 e4 n1 n2 n3 n4 t1 t2 t3 t4 os).heap.get? 7 := by kernel_rfl
theorem fr8 (w : World) (e1 e2 e3 e4 : Array (Int × Value)) (n1 n2 n3 n4 : Nat) (t1 t2 t3 t4 : SetTable) (os : OsState) : (boot_heap w.params).get? 8 = ((s26 pw) w e1 e2 e3 e4 n1 n2 n3 n4 t1 t2 t3 t4 os).heap.get? 8 := by kernel_rfl
theorem fr9 (w : World) (e1 e2 e3 e4 : Array (Int × Value)) (n1 n2 n3 n4 : Nat) (t1 t2 t3 t4 : SetTable) (os : OsState) : (boot_heap w.params).get? 9 = ((s26 pw) w e1 e2 e3 e4 n1 n2 n3 n4 t1 t2 t3 t4 os).heap.get? 9 := by kernel_rfl
theorem fr10 (w : World) (e1 e2 e3 e4 : Array (Int × Value)) (n1 n2 n3 n4 : Nat) (t1 t2 t3 t4 : SetTable) (os : OsState) : (boot_heap w.params).get? 10 = ((s26 pw) w e1 e2 e3 e4 n1 n2 n3 n4 t1 t2 t3 t4 os).heap.get? 10 := by kernel_rfl
theorem seen_ok (w : World) (e1 e2 e3 e4 : Array (Int × Value)) (n1 n2 n3 n4 : Nat) (t1 t2 t3 t4 : SetTable) (os : OsState) :
    openSeen (qv pw) lse (mods pw) (fun s => xlAt (qv pw) [] s && recOk [] s) true ((s26 pw) w e1 e2 e3 e4 n1 n2 n3 n4 t1 t2 t3 t4 os) = openGood (qv pw) lse := by
  have h1 := lk1_ok w e1 e2 e3 e4 n1 n2 n3 n4 t1 t2 t3 t4 os
  unfold lk1L lk1R at h1
  have h2 := lk2_ok w e1 e2 e3 e4 n1 n2 n3 n4 t1 t2 t3 t4 os
  unfold lk2L at h2
  have h3 := lk3_ok w e1 e2 e3 e4 n1 n2 n3 n4 t1 t2 t3 t4 os
  unfold lk3L at h3
  have h4 := lk4_ok w e1 e2 e3 e4 n1 n2 n3 n4 t1 t2 t3 t4 os
  unfold lk4L at h4
  have h5 := lk5_ok w e1 e2 e3 e4 n1 n2 n3 n4 t1 t2 t3 t4 os
  unfold lk5L lk5R at h5
  have h6 := lk6_ok w e1 e2 e3 e4 n1 n2 n3 n4 t1 t2 t3 t4 os
  unfold lk6L lk6R at h6
  have h7 := lk7_ok w e1 e2 e3 e4 n1 n2 n3 n4 t1 t2 t3 t4 os
  unfold lk7L lk7R at h7
  have h8 := lk8_ok w e1 e2 e3 e4 n1 n2 n3 n4 t1 t2 t3 t4 os
  unfold lk8L lk8R at h8
  have h9 := lk9_ok w e1 e2 e3 e4 n1 n2 n3 n4 t1 t2 t3 t4 os
  unfold lk9L lk9R at h9
  unfold openSeen openGood
  exact looks_pair h1 (looks_pair h2 (looks_pair h3 (looks_pair h4 (looks_pair h5 (looks_pair h6 (looks_pair h7 (looks_pair h8 h9)))))))
end
section
open PySem PySem.W PySem.Calls PyProof.Rows
set_option maxHeartbeats 0
noncomputable def amNext (t : Nat) (r : Str × Int × Int) : Nat := intTok (intTok (t + 1) r.2.1 + 1) r.2.2 + 11
noncomputable def amDict (P : Params) (t : Nat) (r : Str × Int × Int) : Obj :=
  ⟨.type "dict", none, .dict #[en P "s" (intTok (intTok (t + 1) r.2.1 + 1) r.2.2 + 1 + 5) (.str r.1 t), en P "substring_i" (intTok (intTok (t + 1) r.2.1 + 1) r.2.2 + 1 + 7) (.int r.2.1 (intTok (t + 1) r.2.1)),
    en P "result" (intTok (intTok (t + 1) r.2.1 + 1) r.2.2 + 1 + 9) (.int r.2.2 (intTok (intTok (t + 1) r.2.1 + 1) r.2.2))] 3, #[]⟩
noncomputable def amObjs (P : Params) : Addr → Nat → List (Str × Int × Int) → List (Option Obj)
  | _, _, [] => []
  | n, t, r :: rest => some (amDict P t r) :: some ⟨.ref 220, some n, .plain, #[]⟩ :: amObjs P (n + 3) (amNext t r) rest
noncomputable def amAddrs : Addr → List (Str × Int × Int) → List Addr
  | _, [] => []
  | n, _ :: rest => n :: (n + 1) :: amAddrs (n + 3) rest
/-- an Among of the row r: its dict at d, itself at d + 1 -/
noncomputable def AmAt (P : Params) (h : Heap) (d : Addr) (r : Str × Int × Int) : Prop := (∃ t, h.get? d = some (amDict P t r)) ∧ h.get? (d + 1) = some ⟨.ref 220, some d, .plain, #[]⟩
noncomputable def AmTab (P : Params) (h : Heap) (n : Addr) (rows : List (Str × Int × Int)) : Prop := ∀ k r, rows[k]? = some r → AmAt P h (n + 3 * k) r
theorem amTab_of {P : Params} {h : Heap} : ∀ (rows : List (Str × Int × Int)) (n : Addr) (t : Nat), (amAddrs n rows).map h.get? = amObjs P n t rows → AmTab P h n rows
  | [], _, _, _, k, r, e => by simp at e
  | r₀ :: rest, n, t, e, k, r, e' => by
    simp only [amAddrs, amObjs, List.map_cons, List.cons.injEq] at e
    cases k with
    | zero =>
      simp only [List.getElem?_cons_zero, Option.some.injEq] at e'
      subst e'
      exact ⟨⟨t, e.1⟩, e.2.1⟩
    | succ k =>
      rw [List.getElem?_cons_succ] at e'
      have := amTab_of rest (n + 3) _ e.2.2 k r e'
      have q : n + 3 + 3 * k = n + 3 * (k + 1) := (show ∀ a b : Nat, a + 3 + 3 * b = a + 3 * (b + 1) from fun a b => by lia) n k
      rw [q] at this
      exact this
theorem AmTab.keeps {P : Params} {h h' : Heap} {n : Addr} {rows : List (Str × Int × Int)} (x : AmTab P h n rows) (k : ∀ b o, h.get? b = some o → h'.get? b = some o) : AmTab P h' n rows :=
  fun i r e => ⟨(x i r e).1.imp fun _ y => k _ _ y, k _ _ (x i r e).2⟩
noncomputable def amL (pz : Program) (w : World) (e1 e2 e3 e4 : Array (Int × Value)) (n1 n2 n3 n4 : Nat) (t1 t2 t3 t4 : SetTable) (os : OsState) : List (List (Option Obj)) :=
  [(278, rows0), (295, rows1), (336, rows2), (346, rows3), (375, rows4), (385, rows5), (401, rows6)].map fun p => (amAddrs p.1 p.2).map ((s26 pz) w e1 e2 e3 e4 n1 n2 n3 n4 t1 t2 t3 t4 os).heap.get?
noncomputable def amR (P : Params) : List (List (Option Obj)) :=
  [amObjs P 278 643 rows0, amObjs P 295 716 rows1, amObjs P 336 903 rows2, amObjs P 346 946 rows3, amObjs P 375 1068 rows4, amObjs P 385 1114 rows5, amObjs P 401 1190 rows6]
theorem amL_self : amL = amL := rfl
theorem amR_self : amR = amR := rfl
name_quick amLQ for amL by amL_self
name_quick amRQ for amR by amR_self
theorem am_eq (w : World) (e1 e2 e3 e4 : Array (Int × Value)) (n1 n2 n3 n4 : Nat) (t1 t2 t3 t4 : SetTable) (os : OsState) : (amL pw) w e1 e2 e3 e4 n1 n2 n3 n4 t1 t2 t3 t4 os = amR w.params := by
  rw [PySem.W.Fast.amLQ_eq, PySem.W.Fast.amRQ_eq]
  rw [pw_fast]
  kernel_rfl
structure Ams (P : Params) (h : Heap) : Prop where
  m0 : AmTab P h 278 rows0
  m1 : AmTab P h 295 rows1
  m2 : AmTab P h 336 rows2
  m3 : AmTab P h 346 rows3
  m4 : AmTab P h 375 rows4
  m5 : AmTab P h 385 rows5
  m6 : AmTab P h 401 rows6
theorem Ams.keeps {P : Params} {h h' : Heap} (x : Ams P h) (k : ∀ b o, h.get? b = some o → h'.get? b = some o) : Ams P h' :=
  ⟨x.m0.keeps k, x.m1.keeps k, x.m2.keeps k, x.m3.keeps k, x.m4.keeps k, x.m5.keeps k, x.m6.keeps k⟩
theorem am_ok (w : World) (e1 e2 e3 e4 : Array (Int × Value)) (n1 n2 n3 n4 : Nat) (t1 t2 t3 t4 : SetTable) (os : OsState) : Ams w.params ((s26 pw) w e1 e2 e3 e4 n1 n2 n3 n4 t1 t2 t3 t4 os).heap := by
  have e := am_eq w e1 e2 e3 e4 n1 n2 n3 n4 t1 t2 t3 t4 os
  unfold amL amR at e
  simp only [List.map_cons, List.map_nil, List.cons.injEq, and_true] at e
  obtain ⟨a0, a1, a2, a3, a4, a5, a6⟩ := e
  exact ⟨amTab_of _ _ _ a0, amTab_of _ _ _ a1, amTab_of _ _ _ a2, amTab_of _ _ _ a3, amTab_of _ _ _ a4, amTab_of _ _ _ a5, amTab_of _ _ _ a6⟩
end
section
open PySem PySem.W PySem.Calls PyProof.Rows
set_option maxHeartbeats 0
noncomputable def KK (P : Params) : Frag :=
  ((nat_lit 2), (⟨.none, none, .dict #[en P "type.__subclasses__.Exception.0" 2003 (.int 590 0), en P "type.__subclasses__.Exception.n" 2004 (.int 2 0), en P "type.__subclasses__.Exception.1" 2023 (.int 603 0)] 3, #[]⟩ : Obj)) ::
  ((nat_lit 3), (⟨.type "dict", none, .dict #[en P "__name__" 165 (.str "law_iu0022_01" 2027), en P "__doc__" 166 .none, en P "__package__" 167 .none, en P "__loader__" 168 (.builtin "__main__.__loader__#opaque"), en P "__spec__" 169 .none, en P "__annotations__" 170 (.ref 6), en P "__builtins__" 171 (.ref 4), en P "__file__" 173 (.str "/claim/cut.py" 172), en P "__cached__" 174 .none, en P "_wall" 193 (.ref 21), en P "BaseStemmer" 426 (.ref 199), en P "Among" 461 (.ref 220), en P "CzechStemmer" 1986 (.ref 578), en P "lab0" 2006 (.ref 590), en P "lab1" 2026 (.ref 603), en P "_law_letters" 2030 (.str "aábcčdďeéěfghiíjklmnňoópqrřsštťuúůvwxyýzž" 2029), en P "_law_parts" 2036 (.ref 613), en P "_law_vowels" 2051 (.ref 614), en P "_law_plain" 2087 (.ref 615), en P "_law_with_e" 2092 (.ref 616), en P "_law_with_i" 2100 (.ref 617), en P "_law_with_t" 2103 (.ref 618), en P "_law_young" 2107 (.ref 619), en P "_law_fleeting" 2152 (.ref 634), en P "_law_any" 2158 (.ref 639), en P "_law_ahead" 2164 (.ref 644), en P "_law_hard" 2172 (.ref 651), en P "_law_fleet" 2185 (.ref 658), en P "_law_case" 2191 (.ref 663), en P "_law_owner" 2200 (.ref 670), en P "_law_stem" 2208 (.ref 677), en P "law" 2220 (.ref 684)] 32, #[]⟩ : Obj)) ::
  ((nat_lit 34), (⟨.type "code", none, .fields #[.str "__init__" 208, .str "BaseStemmer.__init__" 209, .str "/claim/cut.py" 210, .int 7 0, .int 1 0, .int 0 0, .int 0 0, .int 3 0, .ref 29, .bool true, .int 181 0, .ref 30, .none, .ref 31, .ref 32, .ref 33, .int 212 0, .int 7 0, .str "/claim/cut.py" 213], #[]⟩ : Obj)) ::
  ((nat_lit 35), (⟨.type "function", none, fnD ((bsN pw) 0) "BaseStemmer.__init__" 3 (.str "snowballstemmer.basestemmer" 194) (.ref 34) 0, #[]⟩ : Obj)) ::
  ((nat_lit 41), (⟨.type "code", none, .fields #[.str "set_current" 215, .str "BaseStemmer.set_current" 216, .str "/claim/cut.py" 217, .int 10 0, .int 2 0, .int 0 0, .int 0 0, .int 3 0, .ref 36, .bool true, .int 181 0, .ref 37, .none, .ref 38, .ref 39, .ref 40, .int 220 0, .int 10 0, .str "/claim/cut.py" 221], #[]⟩ : Obj)) ::
  ((nat_lit 42), (⟨.type "function", none, fnD ((bsN pw) 1) "BaseStemmer.set_current" 3 (.str "snowballstemmer.basestemmer" 194) (.ref 41) 0, #[]⟩ : Obj)) ::
  ((nat_lit 48), (⟨.type "code", none, .fields #[.str "get_current" 223, .str "BaseStemmer.get_current" 224, .str "/claim/cut.py" 225, .int 18 0, .int 1 0, .int 0 0, .int 0 0, .int 3 0, .ref 43, .bool true, .int 181 0, .ref 44, .none, .ref 45, .ref 46, .ref 47, .int 227 0, .int 18 0, .str "/claim/cut.py" 228], #[]⟩ : Obj)) ::
  ((nat_lit 49), (⟨.type "function", none, fnD ((bsN pw) 2) "BaseStemmer.get_current" 3 (.str "snowballstemmer.basestemmer" 194) (.ref 48) 0, #[]⟩ : Obj)) ::
  ((nat_lit 62), (⟨.type "code", none, .fields #[.str "in_grouping" 238, .str "BaseStemmer.in_grouping" 239, .str "/claim/cut.py" 240, .int 24 0, .int 2 0, .int 0 0, .int 0 0, .int 3 0, .ref 57, .bool true, .int 181 0, .ref 58, .none, .ref 59, .ref 60, .ref 61, .int 243 0, .int 24 0, .str "/claim/cut.py" 244], #[]⟩ : Obj)) ::
  ((nat_lit 63), (⟨.type "function", none, fnD ((bsN pw) 4) "BaseStemmer.in_grouping" 3 (.str "snowballstemmer.basestemmer" 194) (.ref 62) 0, #[]⟩ : Obj)) ::
  ((nat_lit 69), (⟨.type "code", none, .fields #[.str "go_in_grouping" 246, .str "BaseStemmer.go_in_grouping" 247, .str "/claim/cut.py" 248, .int 32 0, .int 2 0, .int 0 0, .int 0 0, .int 3 0, .ref 64, .bool true, .int 181 0, .ref 65, .none, .ref 66, .ref 67, .ref 68, .int 251 0, .int 32 0, .str "/claim/cut.py" 252], #[]⟩ : Obj)) ::
  ((nat_lit 70), (⟨.type "function", none, fnD ((bsN pw) 5) "BaseStemmer.go_in_grouping" 3 (.str "snowballstemmer.basestemmer" 194) (.ref 69) 0, #[]⟩ : Obj)) ::
  ((nat_lit 76), (⟨.type "code", none, .fields #[.str "in_grouping_b" 254, .str "BaseStemmer.in_grouping_b" 255, .str "/claim/cut.py" 256, .int 39 0, .int 2 0, .int 0 0, .int 0 0, .int 3 0, .ref 71, .bool true, .int 181 0, .ref 72, .none, .ref 73, .ref 74, .ref 75, .int 259 0, .int 39 0, .str "/claim/cut.py" 260], #[]⟩ : Obj)) ::
  ((nat_lit 77), (⟨.type "function", none, fnD ((bsN pw) 6) "BaseStemmer.in_grouping_b" 3 (.str "snowballstemmer.basestemmer" 194) (.ref 76) 0, #[]⟩ : Obj)) ::
  ((nat_lit 97), (⟨.type "code", none, .fields #[.str "go_out_grouping" 278, .str "BaseStemmer.go_out_grouping" 279, .str "/claim/cut.py" 280, .int 53 0, .int 2 0, .int 0 0, .int 0 0, .int 3 0, .ref 92, .bool true, .int 181 0, .ref 93, .none, .ref 94, .ref 95, .ref 96, .int 283 0, .int 53 0, .str "/claim/cut.py" 284], #[]⟩ : Obj)) ::
  ((nat_lit 98), (⟨.type "function", none, fnD ((bsN pw) 9) "BaseStemmer.go_out_grouping" 3 (.str "snowballstemmer.basestemmer" 194) (.ref 97) 0, #[]⟩ : Obj)) ::
  ((nat_lit 104), (⟨.type "code", none, .fields #[.str "out_grouping_b" 286, .str "BaseStemmer.out_grouping_b" 287, .str "/claim/cut.py" 288, .int 60 0, .int 2 0, .int 0 0, .int 0 0, .int 3 0, .ref 99, .bool true, .int 181 0, .ref 100, .none, .ref 101, .ref 102, .ref 103, .int 291 0, .int 60 0, .str "/claim/cut.py" 292], #[]⟩ : Obj)) ::
  ((nat_lit 105), (⟨.type "function", none, fnD ((bsN pw) 10) "BaseStemmer.out_grouping_b" 3 (.str "snowballstemmer.basestemmer" 194) (.ref 104) 0, #[]⟩ : Obj)) ::
  ((nat_lit 125), (⟨.type "code", none, .fields #[.str "eq_s_b" 310, .str "BaseStemmer.eq_s_b" 311, .str "/claim/cut.py" 312, .int 74 0, .int 2 0, .int 0 0, .int 0 0, .int 3 0, .ref 120, .bool true, .int 181 0, .ref 121, .none, .ref 122, .ref 123, .ref 124, .int 315 0, .int 74 0, .str "/claim/cut.py" 316], #[]⟩ : Obj)) ::
  ((nat_lit 126), (⟨.type "function", none, fnD ((bsN pw) 13) "BaseStemmer.eq_s_b" 3 (.str "snowballstemmer.basestemmer" 194) (.ref 125) 0, #[]⟩ : Obj)) ::
  ((nat_lit 139), (⟨.type "code", none, .fields #[.str "find_among_b" 326, .str "BaseStemmer.find_among_b" 327, .str "/claim/cut.py" 328, .int 83 0, .int 2 0, .int 0 0, .int 0 0, .int 3 0, .ref 134, .bool true, .int 181 0, .ref 135, .none, .ref 136, .ref 137, .ref 138, .int 343 0, .int 83 0, .str "/claim/cut.py" 344], #[]⟩ : Obj)) ::
  ((nat_lit 140), (⟨.type "function", none, fnD ((bsN pw) 15) "BaseStemmer.find_among_b" 3 (.str "snowballstemmer.basestemmer" 194) (.ref 139) 0, #[]⟩ : Obj)) ::
  ((nat_lit 146), (⟨.type "code", none, .fields #[.str "replace_s" 346, .str "BaseStemmer.replace_s" 347, .str "/claim/cut.py" 348, .int 128 0, .int 4 0, .int 0 0, .int 0 0, .int 3 0, .ref 141, .bool true, .int 181 0, .ref 142, .none, .ref 143, .ref 144, .ref 145, .int 354 0, .int 128 0, .str "/claim/cut.py" 355], #[]⟩ : Obj)) ::
  ((nat_lit 147), (⟨.type "function", none, fnD ((bsN pw) 16) "BaseStemmer.replace_s" 3 (.str "snowballstemmer.basestemmer" 194) (.ref 146) 0, #[]⟩ : Obj)) ::
  ((nat_lit 153), (⟨.type "code", none, .fields #[.str "slice_from" 357, .str "BaseStemmer.slice_from" 358, .str "/claim/cut.py" 359, .int 138 0, .int 2 0, .int 0 0, .int 0 0, .int 3 0, .ref 148, .bool true, .int 181 0, .ref 149, .none, .ref 150, .ref 151, .ref 152, .int 362 0, .int 138 0, .str "/claim/cut.py" 363], #[]⟩ : Obj)) ::
  ((nat_lit 154), (⟨.type "function", none, fnD ((bsN pw) 17) "BaseStemmer.slice_from" 3 (.str "snowballstemmer.basestemmer" 194) (.ref 153) 0, #[]⟩ : Obj)) ::
  ((nat_lit 160), (⟨.type "code", none, .fields #[.str "slice_del" 365, .str "BaseStemmer.slice_del" 366, .str "/claim/cut.py" 367, .int 146 0, .int 1 0, .int 0 0, .int 0 0, .int 3 0, .ref 155, .bool true, .int 181 0, .ref 156, .none, .ref 157, .ref 158, .ref 159, .int 369 0, .int 146 0, .str "/claim/cut.py" 370], #[]⟩ : Obj)) ::
  ((nat_lit 161), (⟨.type "function", none, fnD ((bsN pw) 18) "BaseStemmer.slice_del" 3 (.str "snowballstemmer.basestemmer" 194) (.ref 160) 0, #[]⟩ : Obj)) ::
  ((nat_lit 167), (⟨.type "code", none, .fields #[.str "insert" 372, .str "BaseStemmer.insert" 373, .str "/claim/cut.py" 374, .int 149 0, .int 4 0, .int 0 0, .int 0 0, .int 3 0, .ref 162, .bool true, .int 181 0, .ref 163, .none, .ref 164, .ref 165, .ref 166, .int 380 0, .int 149 0, .str "/claim/cut.py" 381], #[]⟩ : Obj)) ::
  ((nat_lit 168), (⟨.type "function", none, fnD ((bsN pw) 19) "BaseStemmer.insert" 3 (.str "snowballstemmer.basestemmer" 194) (.ref 167) 0, #[]⟩ : Obj)) ::
  ((nat_lit 188), (⟨.type "code", none, .fields #[.str "stemWord" 397, .str "BaseStemmer.stemWord" 398, .str "/claim/cut.py" 399, .int 162 0, .int 2 0, .int 0 0, .int 0 0, .int 3 0, .ref 183, .bool true, .int 181 0, .ref 184, .none, .ref 185, .ref 186, .ref 187, .int 402 0, .int 162 0, .str "/claim/cut.py" 403], #[]⟩ : Obj)) ::
  ((nat_lit 189), (⟨.type "function", none, fnD ((bsN pw) 22) "BaseStemmer.stemWord" 3 (.str "snowballstemmer.basestemmer" 194) (.ref 188) 0, #[]⟩ : Obj)) ::
  ((nat_lit 198), (⟨.type "dict", none, .dict #[en P "__module__" 203 (.str "snowballstemmer.basestemmer" 194), en P "__firstlineno__" 207 (.int 5 206), en P "__init__" 214 (.ref 35), en P "set_current" 222 (.ref 42), en P "get_current" 229 (.ref 49), en P "copy_from" 237 (.ref 56), en P "in_grouping" 245 (.ref 63), en P "go_in_grouping" 253 (.ref 70), en P "in_grouping_b" 261 (.ref 77), en P "go_in_grouping_b" 269 (.ref 84), en P "out_grouping" 277 (.ref 91), en P "go_out_grouping" 285 (.ref 98), en P "out_grouping_b" 293 (.ref 105), en P "go_out_grouping_b" 301 (.ref 112), en P "eq_s" 309 (.ref 119), en P "eq_s_b" 317 (.ref 126), en P "find_among" 325 (.ref 133), en P "find_among_b" 345 (.ref 140), en P "replace_s" 356 (.ref 147), en P "slice_from" 364 (.ref 154), en P "slice_del" 371 (.ref 161), en P "insert" 382 (.ref 168), en P "slice_to" 389 (.ref 175), en P "assign_to" 396 (.ref 182), en P "stemWord" 404 (.ref 189), en P "stemWords" 412 (.ref 196), en P "__static_attributes__" 419 (.ref 197), en P "__dict__" 421 (.ref 200), en P "__weakref__" 423 (.ref 201), en P "__doc__" 424 .none] 4, #[]⟩ : Obj)) ::
  ((nat_lit 199), (⟨.type "type", none, .cls { name := "BaseStemmer", bases := [.type "object"], mro := [.ref 199, .type "object"], ns := 198, qualname := "BaseStemmer", hasDict := true, slotNames := [], subclasses := [.ref 578], abstract := false, collection := none, hasDel := false }, #[none, none, some (.str "BaseStemmer" 196), some (.str "BaseStemmer" 204), some (.builtin "object.__new__"), some (.bool true)]⟩ : Obj)) ::
  ((nat_lit 216), (⟨.type "code", none, .fields #[.str "__init__" 441, .str "Among.__init__" 442, .str "/claim/cut.py" 443, .int 172 0, .int 4 0, .int 0 0, .int 0 0, .int 3 0, .ref 211, .bool true, .int 181 0, .ref 212, .none, .ref 213, .ref 214, .ref 215, .int 448 0, .int 172 0, .str "/claim/cut.py" 449], #[]⟩ : Obj)) ::
  ((nat_lit 217), (⟨.type "function", none, fnD ((amN pw) 0) "Among.__init__" 3 (.str "snowballstemmer.among" 427) (.ref 216) 0, #[]⟩ : Obj)) ::
  ((nat_lit 219), (⟨.type "dict", none, .dict #[en P "__module__" 436 (.str "snowballstemmer.among" 427), en P "__firstlineno__" 440 (.int 170 439), en P "__init__" 450 (.ref 217), en P "__static_attributes__" 454 (.ref 218), en P "__dict__" 456 (.ref 221), en P "__weakref__" 458 (.ref 222), en P "__doc__" 459 .none] 4, #[]⟩ : Obj)) ::
  ((nat_lit 220), (⟨.type "type", none, .cls { name := "Among", bases := [.type "object"], mro := [.ref 220, .type "object"], ns := 219, qualname := "Among", hasDict := true, slotNames := [], subclasses := [], abstract := false, collection := none, hasDel := false }, #[none, none, some (.str "Among" 429), some (.str "Among" 437), some (.builtin "object.__new__"), some (.bool true)]⟩ : Obj)) ::
  ((nat_lit 241), (⟨.type "code", none, .fields #[.str "r_mark_regions" 582, .str "CzechStemmer.r_mark_regions" 583, .str "/claim/cut.py" 584, .int 184 0, .int 1 0, .int 0 0, .int 0 0, .int 3 0, .ref 236, .bool true, .int 181 0, .ref 237, .none, .ref 238, .ref 239, .ref 240, .int 589 0, .int 184 0, .str "/claim/cut.py" 590], #[]⟩ : Obj)) ::
  ((nat_lit 242), (⟨.type "function", none, fnD ((clsN pw) 5) "CzechStemmer.r_mark_regions" 3 (.str "snowballstemmer.czech_stemmer" 462) (.ref 241) 0, #[]⟩ : Obj)) ::
  ((nat_lit 248), (⟨.type "code", none, .fields #[.str "r_palatalise_e" 592, .str "CzechStemmer.r_palatalise_e" 593, .str "/claim/cut.py" 594, .int 223 0, .int 1 0, .int 0 0, .int 0 0, .int 3 0, .ref 243, .bool true, .int 181 0, .ref 244, .none, .ref 245, .ref 246, .ref 247, .int 597 0, .int 223 0, .str "/claim/cut.py" 598], #[]⟩ : Obj)) ::
  ((nat_lit 249), (⟨.type "function", none, fnD ((clsN pw) 6) "CzechStemmer.r_palatalise_e" 3 (.str "snowballstemmer.czech_stemmer" 462) (.ref 248) 0, #[]⟩ : Obj)) ::
  ((nat_lit 255), (⟨.type "code", none, .fields #[.str "r_palatalise_i" 600, .str "CzechStemmer.r_palatalise_i" 601, .str "/claim/cut.py" 602, .int 233 0, .int 1 0, .int 0 0, .int 0 0, .int 3 0, .ref 250, .bool true, .int 181 0, .ref 251, .none, .ref 252, .ref 253, .ref 254, .int 605 0, .int 233 0, .str "/claim/cut.py" 606], #[]⟩ : Obj)) ::
  ((nat_lit 256), (⟨.type "function", none, fnD ((clsN pw) 7) "CzechStemmer.r_palatalise_i" 3 (.str "snowballstemmer.czech_stemmer" 462) (.ref 255) 0, #[]⟩ : Obj)) ::
  ((nat_lit 262), (⟨.type "code", none, .fields #[.str "r_possessive_suffix" 608, .str "CzechStemmer.r_possessive_suffix" 609, .str "/claim/cut.py" 610, .int 243 0, .int 1 0, .int 0 0, .int 0 0, .int 3 0, .ref 257, .bool true, .int 181 0, .ref 258, .none, .ref 259, .ref 260, .ref 261, .int 614 0, .int 243 0, .str "/claim/cut.py" 615], #[]⟩ : Obj)) ::
  ((nat_lit 263), (⟨.type "function", none, fnD ((clsN pw) 8) "CzechStemmer.r_possessive_suffix" 3 (.str "snowballstemmer.czech_stemmer" 462) (.ref 262) 0, #[]⟩ : Obj)) ::
  ((nat_lit 269), (⟨.type "code", none, .fields #[.str "r_case_suffix" 617, .str "CzechStemmer.r_case_suffix" 618, .str "/claim/cut.py" 619, .int 264 0, .int 1 0, .int 0 0, .int 0 0, .int 3 0, .ref 264, .bool true, .int 181 0, .ref 265, .none, .ref 266, .ref 267, .ref 268, .int 631 0, .int 264 0, .str "/claim/cut.py" 632], #[]⟩ : Obj)) ::
  ((nat_lit 270), (⟨.type "function", none, fnD ((clsN pw) 9) "CzechStemmer.r_case_suffix" 3 (.str "snowballstemmer.czech_stemmer" 462) (.ref 269) 0, #[]⟩ : Obj)) ::
  ((nat_lit 276), (⟨.type "code", none, .fields #[.str "_stem" 634, .str "CzechStemmer._stem" 635, .str "/claim/cut.py" 636, .int 363 0, .int 1 0, .int 0 0, .int 0 0, .int 3 0, .ref 271, .bool true, .int 181 0, .ref 272, .none, .ref 273, .ref 274, .ref 275, .int 640 0, .int 363 0, .str "/claim/cut.py" 641], #[]⟩ : Obj)) ::
  ((nat_lit 277), (⟨.type "function", none, fnD ((clsN pw) 10) "CzechStemmer._stem" 3 (.str "snowballstemmer.czech_stemmer" 462) (.ref 276) 0, #[]⟩ : Obj)) ::
  ((nat_lit 293), (⟨.type "list", none, .seq #[.ref 279, .ref 282, .ref 285, .ref 288, .ref 291] 0, #[]⟩ : Obj)) ::
  ((nat_lit 294), (⟨.type "tuple", none, .seq #[.str "k" 713, .str "ínk" 714] 0, #[]⟩ : Obj)) ::
  ((nat_lit 334), (⟨.type "list", none, .seq #[.ref 296, .ref 299, .ref 302, .ref 305, .ref 308, .ref 311, .ref 314, .ref 317, .ref 320, .ref 323, .ref 326, .ref 329, .ref 332] 0, #[]⟩ : Obj)) ::
  ((nat_lit 335), (⟨.type "tuple", none, .seq #[.str "k" 898, .str "ínk" 899, .str "ck" 900, .str "sk" 901] 0, #[]⟩ : Obj)) ::
  ((nat_lit 345), (⟨.type "list", none, .seq #[.ref 337, .ref 340, .ref 343] 0, #[]⟩ : Obj)) ::
  ((nat_lit 373), (⟨.type "list", none, .seq #[.ref 347, .ref 350, .ref 353, .ref 356, .ref 359, .ref 362, .ref 365, .ref 368, .ref 371] 0, #[]⟩ : Obj)) ::
  ((nat_lit 374), (⟨.type "tuple", none, .seq #[.str "" 1065, .str "et" 1066] 0, #[]⟩ : Obj)) ::
  ((nat_lit 384), (⟨.type "list", none, .seq #[.ref 376, .ref 379, .ref 382] 0, #[]⟩ : Obj)) ::
  ((nat_lit 400), (⟨.type "list", none, .seq #[.ref 386, .ref 389, .ref 392, .ref 395, .ref 398] 0, #[]⟩ : Obj)) ::
  ((nat_lit 575), (⟨.type "list", none, .seq #[.ref 402, .ref 405, .ref 408, .ref 411, .ref 414, .ref 417, .ref 420, .ref 423, .ref 426, .ref 429, .ref 432, .ref 435, .ref 438, .ref 441, .ref 444, .ref 447, .ref 450, .ref 453, .ref 456, .ref 459, .ref 462, .ref 465, .ref 468, .ref 471, .ref 474, .ref 477, .ref 480, .ref 483, .ref 486, .ref 489, .ref 492, .ref 495, .ref 498, .ref 501, .ref 504, .ref 507, .ref 510, .ref 513, .ref 516, .ref 519, .ref 522, .ref 525, .ref 528, .ref 531, .ref 534, .ref 537, .ref 540, .ref 543, .ref 546, .ref 549, .ref 552, .ref 555, .ref 558, .ref 561, .ref 564, .ref 567, .ref 570, .ref 573] 0, #[]⟩ : Obj)) ::
  ((nat_lit 577), (⟨.type "dict", none, .dict #[en P "__module__" 471 (.str "snowballstemmer.czech_stemmer" 462), en P "__firstlineno__" 475 (.int 177 474), en P "g_v" 504 (.ref 232), en P "g_v_or_syllabic_c" 537 (.ref 233), en P "g_ev_ending" 550 (.ref 234), en P "g_env_ending" 579 (.ref 235), en P "I_p1" 581 (.int 0 580), en P "r_mark_regions" 591 (.ref 242), en P "r_palatalise_e" 599 (.ref 249), en P "r_palatalise_i" 607 (.ref 256), en P "r_possessive_suffix" 616 (.ref 263), en P "r_case_suffix" 633 (.ref 270), en P "_stem" 642 (.ref 277), en P "a_0" 712 (.ref 293), en P "as_0" 715 (.ref 294), en P "a_1" 897 (.ref 334), en P "as_1" 902 (.ref 335), en P "a_2" 945 (.ref 345), en P "a_3" 1064 (.ref 373), en P "as_3" 1067 (.ref 374), en P "a_4" 1113 (.ref 384), en P "a_5" 1189 (.ref 400), en P "a_6" 1977 (.ref 575), en P "__static_attributes__" 1983 (.ref 576), en P "__doc__" 1984 .none] 2, #[]⟩ : Obj)) ::
  ((nat_lit 578), (⟨.type "type", none, .cls { name := "CzechStemmer", bases := [.ref 199], mro := [.ref 578, .ref 199, .type "object"], ns := 577, qualname := "CzechStemmer", hasDict := true, slotNames := [], subclasses := [], abstract := false, collection := none, hasDel := false }, #[some (.ref 225), none, some (.str "CzechStemmer" 464), some (.str "CzechStemmer" 472), some (.builtin "object.__new__"), some (.bool true)]⟩ : Obj)) ::
  ((nat_lit 589), (⟨.type "dict", none, .dict #[en P "__module__" 1994 (.str "snowballstemmer.czech_stemmer" 462), en P "__firstlineno__" 1998 (.int 386 1997), en P "__static_attributes__" 1999 (.ref 588), en P "__weakref__" 2001 (.ref 591), en P "__doc__" 2002 .none] 3, #[]⟩ : Obj)) ::
  ((nat_lit 590), (⟨.type "type", none, .cls { name := "lab0", bases := [.type "Exception"], mro := [.ref 590, .type "Exception", .type "BaseException", .type "object"], ns := 589, qualname := "lab0", hasDict := true, slotNames := [], subclasses := [], abstract := false, collection := none, hasDel := false }, #[some (.ref 581), none, some (.str "lab0" 1987), some (.str "lab0" 1995), some (.builtin "Exception.__new__"), some (.bool true)]⟩ : Obj)) ::
  ((nat_lit 602), (⟨.type "dict", none, .dict #[en P "__module__" 2014 (.str "snowballstemmer.czech_stemmer" 462), en P "__firstlineno__" 2018 (.int 388 2017), en P "__static_attributes__" 2019 (.ref 601), en P "__weakref__" 2021 (.ref 604), en P "__doc__" 2022 .none] 3, #[]⟩ : Obj)) ::
  ((nat_lit 603), (⟨.type "type", none, .cls { name := "lab1", bases := [.type "Exception"], mro := [.ref 603, .type "Exception", .type "BaseException", .type "object"], ns := 602, qualname := "lab1", hasDict := true, slotNames := [], subclasses := [], abstract := false, collection := none, hasDel := false }, #[some (.ref 594), none, some (.str "lab1" 2007), some (.str "lab1" 2015), some (.builtin "Exception.__new__"), some (.bool true)]⟩ : Obj)) ::
  ((nat_lit 612), (⟨.type "code", none, .fields #[.str "_law_parts" 2031, .str "_law_parts" 2032, .str "/claim/cut.py" 2033, .int 392 0, .int 0 0, .int 0 0, .int 0 0, .int 3 0, .ref 607, .bool true, .int 181 0, .ref 608, .none, .ref 609, .ref 610, .ref 611, .int 2034 0, .int 392 0, .str "/claim/cut.py" 2035], #[]⟩ : Obj)) ::
  ((nat_lit 613), (⟨.type "function", none, fnD ((stN pw) 11) "_law_parts" 3 (.str "law_iu0022_01" 2027) (.ref 612) 0, #[]⟩ : Obj)) ::
  ((nat_lit 614), (⟨.type "list", none, .seq #[.str "a" 2037, .str "á" 2038, .str "e" 2039, .str "é" 2040, .str "ě" 2041, .str "i" 2042, .str "í" 2043, .str "o" 2044, .str "ó" 2045, .str "u" 2046, .str "ú" 2047, .str "ů" 2048, .str "y" 2049, .str "ý" 2050] 0, #[]⟩ : Obj)) ::
  ((nat_lit 615), (⟨.type "list", none, .seq #[.str "a" 2052, .str "á" 2053, .str "é" 2054, .str "ě" 2055, .str "o" 2056, .str "u" 2057, .str "ů" 2058, .str "y" 2059, .str "ý" 2060, .str "ou" 2061, .str "us" 2062, .str "mi" 2063, .str "ám" 2064, .str "ém" 2065, .str "ěm" 2066, .str "ům" 2067, .str "ým" 2068, .str "ách" 2069, .str "ých" 2070, .str "ého" 2071, .str "ému" 2072, .str "ama" 2073, .str "ami" 2074, .str "ěmi" 2075, .str "ými" 2076, .str "ové" 2077, .str "ovi" 2078, .str "at" 2079, .str "ata" 2080, .str "aty" 2081, .str "atům" 2082, .str "atech" 2083, .str "ěte" 2084, .str "ěti" 2085, .str "ětem" 2086] 0, #[]⟩ : Obj)) ::
  ((nat_lit 616), (⟨.type "list", none, .seq #[.str "e" 2088, .str "em" 2089, .str "emi" 2090, .str "ech" 2091] 0, #[]⟩ : Obj)) ::
  ((nat_lit 617), (⟨.type "list", none, .seq #[.str "i" 2093, .str "í" 2094, .str "ím" 2095, .str "ími" 2096, .str "ích" 2097, .str "ího" 2098, .str "ímu" 2099] 0, #[]⟩ : Obj)) ::
  ((nat_lit 618), (⟨.type "list", none, .seq #[.str "ť" 2101, .str "ťmi" 2102] 0, #[]⟩ : Obj)) ::
  ((nat_lit 619), (⟨.type "list", none, .seq #[.str "ete" 2104, .str "eti" 2105, .str "etem" 2106] 0, #[]⟩ : Obj)) ::
  ((nat_lit 620), (⟨.type "list", none, .seq #[.str "tř" 2110] 0, #[]⟩ : Obj)) ::
  ((nat_lit 621), (⟨.type "tuple", none, .seq #[.str "eb" 2108, .str "b" 2109, .bool false, .ref 620] 0, #[]⟩ : Obj)) ::
  ((nat_lit 622), (⟨.type "list", none, .seq #[] 0, #[]⟩ : Obj)) ::
  ((nat_lit 623), (⟨.type "tuple", none, .seq #[.str "ec" 2111, .str "c" 2112, .bool false, .ref 622] 0, #[]⟩ : Obj)) ::
  ((nat_lit 624), (⟨.type "list", none, .seq #[.str "obl" 2115, .str "sn" 2116, .str "dot" 2117] 0, #[]⟩ : Obj)) ::
  ((nat_lit 625), (⟨.type "tuple", none, .seq #[.str "ek" 2113, .str "k" 2114, .bool false, .ref 624] 0, #[]⟩ : Obj)) ::
  ((nat_lit 626), (⟨.type "list", none, .seq #[.str "n" 2120] 0, #[]⟩ : Obj)) ::
  ((nat_lit 627), (⟨.type "tuple", none, .seq #[.str "ěk" 2118, .str "k" 2119, .bool true, .ref 626] 0, #[]⟩ : Obj)) ::
  ((nat_lit 628), (⟨.type "list", none, .seq #[.str "b" 2123, .str "c" 2124, .str "č" 2125, .str "d" 2126, .str "h" 2127, .str "k" 2128, .str "p" 2129, .str "r" 2130, .str "s" 2131, .str "š" 2132, .str "t" 2133, .str "v" 2134, .str "z" 2135, .str "ž" 2136] 0, #[]⟩ : Obj)) ::
  ((nat_lit 629), (⟨.type "tuple", none, .seq #[.str "eň" 2121, .str "n" 2122, .bool true, .ref 628] 0, #[]⟩ : Obj)) ::
  ((nat_lit 630), (⟨.type "list", none, .seq #[.str "h" 2139, .str "č" 2140, .str "uc" 2141, .str "ok" 2142, .str "kar" 2143] 0, #[]⟩ : Obj)) ::
  ((nat_lit 631), (⟨.type "tuple", none, .seq #[.str "et" 2137, .str "t" 2138, .bool true, .ref 630] 0, #[]⟩ : Obj)) ::
  ((nat_lit 632), (⟨.type "list", none, .seq #[.str "h" 2146, .str "k" 2147, .str "n" 2148, .str "r" 2149, .str "t" 2150, .str "z" 2151] 0, #[]⟩ : Obj)) ::
  ((nat_lit 633), (⟨.type "tuple", none, .seq #[.str "ev" 2144, .str "v" 2145, .bool true, .ref 632] 0, #[]⟩ : Obj)) ::
  ((nat_lit 634), (⟨.type "list", none, .seq #[.ref 621, .ref 623, .ref 625, .ref 627, .ref 629, .ref 631, .ref 633] 0, #[]⟩ : Obj)) ::
  ((nat_lit 638), (⟨.type "code", none, .fields #[.str "_law_any" 2153, .str "_law_any" 2154, .str "/claim/cut.py" 2155, .int 401 0, .int 2 0, .int 0 0, .int 0 0, .int 3 0, .ref 635, .bool true, .int 181 0, .ref 636, .none, .none, .none, .ref 637, .int 2156 0, .int 401 0, .str "/claim/cut.py" 2157], #[]⟩ : Obj)) ::
  ((nat_lit 639), (⟨.type "function", none, fnD ((stN pw) 19) "_law_any" 3 (.str "law_iu0022_01" 2027) (.ref 638) 0, #[]⟩ : Obj)) ::
  ((nat_lit 643), (⟨.type "code", none, .fields #[.str "_law_ahead" 2159, .str "_law_ahead" 2160, .str "/claim/cut.py" 2161, .int 403 0, .int 1 0, .int 0 0, .int 0 0, .int 3 0, .ref 640, .bool true, .int 181 0, .ref 641, .none, .none, .none, .ref 642, .int 2162 0, .int 403 0, .str "/claim/cut.py" 2163], #[]⟩ : Obj)) ::
  ((nat_lit 644), (⟨.type "function", none, fnD ((stN pw) 20) "_law_ahead" 3 (.str "law_iu0022_01" 2027) (.ref 643) 0, #[]⟩ : Obj)) ::
  ((nat_lit 650), (⟨.type "code", none, .fields #[.str "_law_hard" 2165, .str "_law_hard" 2166, .str "/claim/cut.py" 2167, .int 407 0, .int 2 0, .int 0 0, .int 0 0, .int 3 0, .ref 645, .bool true, .int 181 0, .ref 646, .none, .ref 647, .ref 648, .ref 649, .int 2170 0, .int 407 0, .str "/claim/cut.py" 2171], #[]⟩ : Obj)) ::
  ((nat_lit 651), (⟨.type "function", none, fnD ((stN pw) 21) "_law_hard" 3 (.str "law_iu0022_01" 2027) (.ref 650) 0, #[]⟩ : Obj)) ::
  ((nat_lit 657), (⟨.type "code", none, .fields #[.str "_law_fleet" 2173, .str "_law_fleet" 2174, .str "/claim/cut.py" 2175, .int 415 0, .int 3 0, .int 0 0, .int 0 0, .int 3 0, .ref 652, .bool true, .int 181 0, .ref 653, .none, .ref 654, .ref 655, .ref 656, .int 2183 0, .int 415 0, .str "/claim/cut.py" 2184], #[]⟩ : Obj)) ::
  ((nat_lit 658), (⟨.type "function", none, fnD ((stN pw) 22) "_law_fleet" 3 (.str "law_iu0022_01" 2027) (.ref 657) 0, #[]⟩ : Obj)) ::
  ((nat_lit 662), (⟨.type "code", none, .fields #[.str "_law_case" 2186, .str "_law_case" 2187, .str "/claim/cut.py" 2188, .int 422 0, .int 2 0, .int 0 0, .int 0 0, .int 3 0, .ref 659, .bool true, .int 181 0, .ref 660, .none, .none, .none, .ref 661, .int 2189 0, .int 422 0, .str "/claim/cut.py" 2190], #[]⟩ : Obj)) ::
  ((nat_lit 663), (⟨.type "function", none, fnD ((stN pw) 23) "_law_case" 3 (.str "law_iu0022_01" 2027) (.ref 662) 0, #[]⟩ : Obj)) ::
  ((nat_lit 669), (⟨.type "code", none, .fields #[.str "_law_owner" 2192, .str "_law_owner" 2193, .str "/claim/cut.py" 2194, .int 443 0, .int 2 0, .int 0 0, .int 0 0, .int 3 0, .ref 664, .bool true, .int 181 0, .ref 665, .none, .ref 666, .ref 667, .ref 668, .int 2198 0, .int 443 0, .str "/claim/cut.py" 2199], #[]⟩ : Obj)) ::
  ((nat_lit 670), (⟨.type "function", none, fnD ((stN pw) 24) "_law_owner" 3 (.str "law_iu0022_01" 2027) (.ref 669) 0, #[]⟩ : Obj)) ::
  ((nat_lit 676), (⟨.type "code", none, .fields #[.str "_law_stem" 2201, .str "_law_stem" 2202, .str "/claim/cut.py" 2203, .int 448 0, .int 1 0, .int 0 0, .int 0 0, .int 3 0, .ref 671, .bool true, .int 181 0, .ref 672, .none, .ref 673, .ref 674, .ref 675, .int 2206 0, .int 448 0, .str "/claim/cut.py" 2207], #[]⟩ : Obj)) ::
  ((nat_lit 677), (⟨.type "function", none, fnD ((stN pw) 25) "_law_stem" 3 (.str "law_iu0022_01" 2027) (.ref 676) 0, #[]⟩ : Obj)) ::
  ((nat_lit 683), (⟨.type "code", none, .fields #[.str "law" 2209, .str "law" 2210, .str "/claim/cut.py" 2211, .int 453 0, .int 1 0, .int 0 0, .int 0 0, .int 3 0, .ref 678, .bool true, .int 181 0, .ref 679, .none, .ref 680, .ref 681, .ref 682, .int 2218 0, .int 453 0, .str "/claim/cut.py" 2219], #[]⟩ : Obj)) ::
  ((nat_lit 684), (⟨.type "function", none, fnD ((stN pw) 26) "law" 3 (.str "law_iu0022_01" 2027) (.ref 683) 0, #[]⟩ : Obj)) :: []
noncomputable def kAddrs : List Addr := [2, 3, 34, 35, 41, 42, 48, 49, 62, 63, 69, 70, 76, 77, 97, 98, 104, 105, 125, 126, 139, 140, 146, 147, 153, 154, 160, 161, 167, 168, 188, 189, 198, 199, 216, 217, 219, 220, 241, 242, 248, 249, 255, 256, 262, 263, 269, 270, 276, 277, 293, 294, 334, 335, 345, 373, 374, 384, 400, 575, 577, 578, 589, 590, 602, 603, 612, 613, 614, 615, 616, 617, 618, 619, 620, 621, 622, 623, 624, 625, 626, 627, 628, 629, 630, 631, 632, 633, 634, 638, 639, 643, 644, 650, 651, 657, 658, 662, 663, 669, 670, 676, 677, 683, 684]
theorem kAddrs_is (P : Params) : kAddrs = (KK P).map (·.1) := rfl
noncomputable def kinL (pz : Program) (w : World) (e1 e2 e3 e4 : Array (Int × Value)) (n1 n2 n3 n4 : Nat) (t1 t2 t3 t4 : SetTable) (os : OsState) : List (Option Obj) := kAddrs.map ((s26 pz) w e1 e2 e3 e4 n1 n2 n3 n4 t1 t2 t3 t4 os).heap.get?
theorem kinL_self : kinL = kinL := rfl
name_quick kinLQ for kinL by kinL_self
noncomputable def KKG : (String → Str) → Program → Params → Frag := by
  apply (fun (xx : (String → Str) → Program → Params → Frag) (_ : True) => xx)
  rotate_left
  · have f : ∀ G : (String → Str) → Program → Params → Frag, (∀ fs p, Str.ofString = fs → pw = p → KK = G fs p) → True := fun _ _ => trivial
    specialize f ?xx (by
      intro fs p h hp
      delta KK
      rw [hp, h])
    clear f; trivial
theorem KKG_is : KK = KKG Str.ofString pw := rfl
theorem KK_fast : KK = KKG fastStr pw := Eq.rec (motive := fun f _ => KK = KKG f pw) KKG_is fastStr_eq
theorem kin_eq (w : World) (e1 e2 e3 e4 : Array (Int × Value)) (n1 n2 n3 n4 : Nat) (t1 t2 t3 t4 : SetTable) (os : OsState) : (kinL pw) w e1 e2 e3 e4 n1 n2 n3 n4 t1 t2 t3 t4 os = (KK w.params).map fun p => some p.2 := by
  rw [PySem.W.Fast.kinLQ_eq, KK_fast]
  rw [pw_fast]
  kernel_rfl
theorem kin_ok (w : World) (e1 e2 e3 e4 : Array (Int × Value)) (n1 n2 n3 n4 : Nat) (t1 t2 t3 t4 : SetTable) (os : OsState) : (KK w.params).In ((s26 pw) w e1 e2 e3 e4 n1 n2 n3 n4 t1 t2 t3 t4 os).heap := Frag.in_of (kAddrs_is _) (kin_eq w e1 e2 e3 e4 n1 n2 n3 n4 t1 t2 t3 t4 os)
theorem st232 (w : World) (e1 e2 e3 e4 : Array (Int × Value)) (n1 n2 n3 n4 : Nat) (t1 t2 t3 t4 : SetTable) (os : OsState) : ((s26 pw) w e1 e2 e3 e4 n1 n2 n3 n4 t1 t2 t3 t4 os).heap.get? 232 = some ⟨.type "set", none, .set e1 n1 t1, #[]⟩ := by kernel_rfl
theorem st233 (w : World) (e1 e2 e3 e4 : Array (Int × Value)) (n1 n2 n3 n4 : Nat) (t1 t2 t3 t4 : SetTable) (os : OsState) : ((s26 pw) w e1 e2 e3 e4 n1 n2 n3 n4 t1 t2 t3 t4 os).heap.get? 233 = some ⟨.type "set", none, .set e2 n2 t2, #[]⟩ := by kernel_rfl
theorem st234 (w : World) (e1 e2 e3 e4 : Array (Int × Value)) (n1 n2 n3 n4 : Nat) (t1 t2 t3 t4 : SetTable) (os : OsState) : ((s26 pw) w e1 e2 e3 e4 n1 n2 n3 n4 t1 t2 t3 t4 os).heap.get? 234 = some ⟨.type "set", none, .set e3 n3 t3, #[]⟩ := by kernel_rfl
theorem st235 (w : World) (e1 e2 e3 e4 : Array (Int × Value)) (n1 n2 n3 n4 : Nat) (t1 t2 t3 t4 : SetTable) (os : OsState) : ((s26 pw) w e1 e2 e3 e4 n1 n2 n3 n4 t1 t2 t3 t4 os).heap.get? 235 = some ⟨.type "set", none, .set e4 n4 t4, #[]⟩ := by kernel_rfl
noncomputable def gv : List Str := ["a", "e", "i", "o", "u", "y", "á", "é", "í", "ó", "ú", "ý", "ě", "ů"]
theorem gv_is : strsOf (elsOf (asgV ((clsN pw) 0))) = gv := by kernel_rfl
noncomputable def gvl : List Str := ["a", "e", "i", "l", "o", "r", "u", "y", "á", "é", "í", "ó", "ú", "ý", "ě", "ů"]
theorem gvl_is : strsOf (elsOf (asgV ((clsN pw) 1))) = gvl := by kernel_rfl
noncomputable def gev : List Str := ["h", "k", "n", "r", "t", "z"]
theorem gev_is : strsOf (elsOf (asgV ((clsN pw) 2))) = gev := by kernel_rfl
noncomputable def genv : List Str := ["b", "c", "d", "h", "k", "p", "r", "s", "t", "v", "z", "č", "š", "ž"]
theorem genv_is : strsOf (elsOf (asgV ((clsN pw) 3))) = genv := by kernel_rfl
/-- what the walk may lean on, of the heap behind the top -/
structure Tops (w : World) (h : Heap) : Prop where
  kin : (KK w.params).In h
  s1 : ∃ m, h.SetOf (strKind pw w) 232 (fun k => gv.any fun x => decide (k = x)) m
  s2 : ∃ m, h.SetOf (strKind pw w) 233 (fun k => gvl.any fun x => decide (k = x)) m
  s3 : ∃ m, h.SetOf (strKind pw w) 234 (fun k => gev.any fun x => decide (k = x)) m
  s4 : ∃ m, h.SetOf (strKind pw w) 235 (fun k => genv.any fun x => decide (k = x)) m
  am : Ams w.params h
theorem setOf_D {w : World} {h : Heap} {a : Addr} {xs : List Str} {e : Array (Int × Value)} {n : Nat} {t : SetTable} (hg : h.get? a = some ⟨.type "set", none, .set e n t, #[]⟩) (hD : SetD pw w xs (.set e n t)) :
    ∃ m, h.SetOf (strKind pw w) a (fun k => xs.any fun x => decide (k = x)) m := by
  obtain ⟨es, ep, tb, hd, a4, a5, a6, a7⟩ := hD
  cases hd
  exact ⟨_, _, e, n, t, hg, ⟨rfl, rfl, rfl⟩, rfl, a4, a5, a6, a7, rfl⟩
theorem tops_ok (w : World) (e1 e2 e3 e4 : Array (Int × Value)) (n1 n2 n3 n4 : Nat) (t1 t2 t3 t4 : SetTable) (os : OsState) (hD : (SetsD pw) w (.set e1 n1 t1) (.set e2 n2 t2) (.set e3 n3 t3) (.set e4 n4 t4)) : Tops w ((s26 pw) w e1 e2 e3 e4 n1 n2 n3 n4 t1 t2 t3 t4 os).heap := by
  obtain ⟨d1, d2, d3, d4⟩ := hD
  rw [gv_is] at d1
  rw [gvl_is] at d2
  rw [gev_is] at d3
  rw [genv_is] at d4
  exact ⟨kin_ok w e1 e2 e3 e4 n1 n2 n3 n4 t1 t2 t3 t4 os, setOf_D (st232 w e1 e2 e3 e4 n1 n2 n3 n4 t1 t2 t3 t4 os) d1, setOf_D (st233 w e1 e2 e3 e4 n1 n2 n3 n4 t1 t2 t3 t4 os) d2, setOf_D (st234 w e1 e2 e3 e4 n1 n2 n3 n4 t1 t2 t3 t4 os) d3, setOf_D (st235 w e1 e2 e3 e4 n1 n2 n3 n4 t1 t2 t3 t4 os) d4, am_ok w e1 e2 e3 e4 n1 n2 n3 n4 t1 t2 t3 t4 os⟩
theorem Heap_SetOf_keeps {w : World} {h h' : Heap} {a : Addr} {S : Str → Bool} {m : Nat} (x : h.SetOf (strKind pw w) a S m) (k : ∀ b o, h.get? b = some o → h'.get? b = some o) : h'.SetOf (strKind pw w) a S m := by
  obtain ⟨o, es, ep, t, a1, r⟩ := x
  exact ⟨o, es, ep, t, k _ _ a1, r⟩
theorem Tops.keeps {w : World} {h h' : Heap} (x : Tops w h) (k : ∀ b o, h.get? b = some o → h'.get? b = some o) : Tops w h' :=
  ⟨x.kin.keeps k, x.s1.imp (fun _ y => Heap_SetOf_keeps y k), x.s2.imp (fun _ y => Heap_SetOf_keeps y k), x.s3.imp (fun _ y => Heap_SetOf_keeps y k), x.s4.imp (fun _ y => Heap_SetOf_keeps y k), x.am.keeps k⟩
end
section
open PySem PySem.W PySem.Calls PyProof.Rows
set_option maxHeartbeats 0
theorem open_is : opening pw = plainProg pw.main.scope.names := by kernel_rfl
theorem fence_is (s : Shared) : fenceModules? pw s = some s := by kernel_rfl
theorem boot_life (P : Params) : (boot_heap P).life = {} := by kernel_rfl
theorem boot_size (P : Params) : (boot_heap P).objs.size = 11 := by kernel_rfl
theorem chains_ok : chainsOk (qv pw) = true := by kernel_rfl
theorem imported_nil : importedModules pw.main.body = (mods pw) := rfl
theorem old_kept (w : World) (e1 e2 e3 e4 : Array (Int × Value)) (n1 n2 n3 n4 : Nat) (t1 t2 t3 t4 : SetTable) (os : OsState) (b : Addr) (o : Obj) (hb : (boot_heap w.params).get? b = some o) (h2 : b ≠ 2) (h3 : b ≠ 3) : ((s26 pw) w e1 e2 e3 e4 n1 n2 n3 n4 t1 t2 t3 t4 os).heap.get? b = some o := by
  have hlt := Heap.lt_size hb
  rw [boot_size] at hlt
  have hlt : b < 11 := hlt
  match b, hlt, h2, h3, hb with
  | 0, _, _, _, hb => exact (fr0 w e1 e2 e3 e4 n1 n2 n3 n4 t1 t2 t3 t4 os).symm.trans hb
  | 1, _, _, _, hb => exact (fr1 w e1 e2 e3 e4 n1 n2 n3 n4 t1 t2 t3 t4 os).symm.trans hb
  | 2, _, h, _, _ => exact absurd rfl h
  | 3, _, _, h, _ => exact absurd rfl h
  | 4, _, _, _, hb => exact (fr4 w e1 e2 e3 e4 n1 n2 n3 n4 t1 t2 t3 t4 os).symm.trans hb
  | 5, _, _, _, hb => exact (fr5 w e1 e2 e3 e4 n1 n2 n3 n4 t1 t2 t3 t4 os).symm.trans hb
  | 6, _, _, _, hb => exact (fr6 w e1 e2 e3 e4 n1 n2 n3 n4 t1 t2 t3 t4 os).symm.trans hb
  | 7, _, _, _, hb => exact (fr7 w e1 e2 e3 e4 n1 n2 n3 n4 t1 t2 t3 t4 os).symm.trans hb
  | 8, _, _, _, hb => exact (fr8 w e1 e2 e3 e4 n1 n2 n3 n4 t1 t2 t3 t4 os).symm.trans hb
  | 9, _, _, _, hb => exact (fr9 w e1 e2 e3 e4 n1 n2 n3 n4 t1 t2 t3 t4 os).symm.trans hb
  | 10, _, _, _, hb => exact (fr10 w e1 e2 e3 e4 n1 n2 n3 n4 t1 t2 t3 t4 os).symm.trans hb
  | n + 11, h, _, _, _ => exact absurd h (Nat.not_lt.mpr (Nat.le_add_left 11 n))
theorem behind (w : World) : (∃ s, AfterRun (opening pw) w s) ∧ ∀ s, AfterRun (opening pw) w s → ∃ s₀, fenceModules? pw s = some s₀ ∧ s₀.gens = #[] ∧ ∃ s₁, TopRan pw w s₀ s₁ ∧ s₁.asleep ∧ s₁.gens = #[] ∧ s₁.heap.isNs mainGlobals = true ∧
      Ground (qv pw) lse [] (fun mg h => XL (qv pw) [] mg h ∧ RecFacts [] h) w s₁ (s₁.heap.nsMap mainGlobals) (s₁.heap.nsMap builtinsNs) s₁.heap ∧ Tops w s₁.heap := by
  have hO := boot_open (p := pw) (N := 600) open_is rfl fence_is w
  obtain ⟨s₀, h1, hv⟩ := Option.map_eq_some_iff.mp hO
  have h1' : fencedOpening table pw w 600 = some s₀ := by rw [table_eq_tree]; exact h1
  obtain ⟨s, h4, h5⟩ := Option.bind_eq_some_iff.mp h1'
  have A := AfterImport.of_importEnds h4
  refine ⟨⟨s, A⟩, fun s' hs' => ?_⟩
  obtain rfl : s' = s := AfterImport.unique hs' A
  obtain ⟨heap, gens, drawn, toks, os⟩ := s₀
  obtain ⟨rfl, rfl, rfl, rfl⟩ : heap = boot_heap w.params ∧ gens = Array.mk [] ∧ drawn = boot_drawn ∧ toks = boot_toks := by simpa using hv
  obtain ⟨e1, e2, e3, e4, n1, n2, n3, n4, t1, t2, t3, t4, hD, t, ⟨n, hC⟩, hth⟩ := all_cm w os
  have hlk := lk0_ok w e1 e2 e3 e4 n1 n2 n3 n4 t1 t2 t3 t4 os
  unfold lk0L at hlk
  obtain ⟨hlk, hld⟩ := Bool.and_eq_true_iff.mp hlk
  obtain ⟨hlk, hgd⟩ := Bool.and_eq_true_iff.mp hlk
  obtain ⟨hst, hnb⟩ := Bool.and_eq_true_iff.mp hlk
  obtain ⟨G, g0, g1, g2, g3, g4, g5⟩ := ground_of_open (w := w) (XP := fun mg h => XL (qv pw) [] mg h ∧ RecFacts [] h) (fun s e => ⟨xl_of s (Bool.and_eq_true_iff.mp e).1, recFacts_of (Bool.and_eq_true_iff.mp e).2⟩) chains_ok (seen_ok w e1 e2 e3 e4 n1 n2 n3 n4 t1 t2 t3 t4 os)
  refine ⟨_, h5, rfl, (s26 pw) w e1 e2 e3 e4 n1 n2 n3 n4 t1 t2 t3 t4 os, ⟨⟨n, t, hC, hth⟩, (boot_life w.params).symm, Shared.rest_eq rfl, fun b o hb hn => ?_, g2, statics_of_ok hst, g3, g4, g5, (fun g hg => gens_of_done hgd g hg), names_of_bound hnb, laid_of_kept hld⟩, ⟨rfl, rfl⟩, rfl, g1, G, tops_ok w e1 e2 e3 e4 n1 n2 n3 n4 t1 t2 t3 t4 os hD⟩
  exact old_kept w e1 e2 e3 e4 n1 n2 n3 n4 t1 t2 t3 t4 os b o hb (fun q => hn (.inr (.inl q))) (fun q => hn (.inl q))
abbrev rwL : OpenLaw := PySem.Challenge.rw_iu0022_01
theorem row_holds {d : DefRec} {kwd : List (Str × PySem.Expr)} (k1 : rwL.row.wellSaid = true) (hw : rwL.row.toRowW.promised)
    (ok : (opensWell pw && (frees rwL.row.toRowW && rwL.row.toRowW.within.isEmpty)) = true) (hb : pw.bare)
    (hdef : defOf (qv pw) rwL.row.name = some (d, kwd)) (hp : pw.theDef rwL.row.name = some (d.params, d.body, d.scope)) (hk : kwWritten? d.params.kwonlyargs d.params.kw_defaults = some kwd)
    (call : WalkO (qv pw) lse (XL (qv pw) []) Tops rwL.row.toRowW d kwd fun f vs => PySem.call f vs) : rwL.row.Holds := by
  obtain ⟨o1, k5⟩ := Bool.and_eq_true_iff.mp ok
  obtain ⟨k5, k6⟩ := Bool.and_eq_true_iff.mp k5
  obtain ⟨hsame, hu, ha, hap, hm⟩ := frees_parts k5
  have hR : rwL.row.toRowW.records = [] := rfl
  have hwr : rwL.row.writes = false := rfl
  refine ⟨k1, hw, ⟨hb, o1, rfl⟩, hw.witness, fun w => ⟨(behind w).1, fun s' hs' => ?_⟩⟩
  obtain ⟨s₀, hf, hg0, s, hT, hz, hgens, hg, G00, y⟩ := (behind w).2 s' hs'
  have G0 : Ground (qv pw) lse [] (XL (qv pw) []) w s (s.heap.nsMap mainGlobals) (s.heap.nsMap builtinsNs) s.heap := ⟨G00.T, G00.B, G00.D, G00.TE, G00.TD, G00.W, G00.X.1, G00.cls, G00.has, G00.apart, G00.once, G00.K⟩
  have RF := G00.X.2
  have hT' := hT
  refine ⟨s₀, hf, hg0, s, hT, ?_, RF.1, RF.2.1, ?_⟩
  · intro n hn
    obtain rfl : n = rwL.row.name := by
      have : rwL.row.pinned = true := rfl
      rw [this] at hn
      simpa using hn
    exact pinned_of_view hg G0 hdef hp hk
  have G : Ground (qv pw) lse rwL.row.toRowW.records (XL (qv pw) []) w s _ _ s.heap := RF.ground G0
  refine ClaimW.callFrom_of_specG (c := rwL.row.toRowW.claim) hz hgens fun args hpre hlay ord hord => ?_
  obtain ⟨⟨vs, s₁⟩, hlaid⟩ := Option.isSome_iff_exists.mp (layAllW_isSome (P := w.params) (ord := ord) G.has args rwL.row.toRowW.args s (pre_splitW hpre).1)
  have keeps := layAllW_keeps _ _ _ hlaid
  have hal := layAllW_rest _ _ _ hlaid
  obtain ⟨as, hrd, hin, hold⟩ := reads_layAllW hord _ _ _ hlaid hlay s₁.heap (fun _ _ e => e)
  have L : Laid rwL.row.toRowW.records w s s₁ args vs as := ⟨⟨ord, hord, hlaid⟩, hrd, hin, hold, keeps, hal.1.trans hgens, hal.2.2.1⟩
  have G₁ := G.keeps XL.keeps keeps
  obtain ⟨a, o, pm, cd, doc, dV, kV, h1, h2, h3, h4, h5⟩ := G₁.fn hdef
  have h := call w s s₁ _ _ G₁ (y.keeps keeps) a o pm cd doc dV kV h2 h3 h4 h5 (defOf_name hdef ▸ h1) L.gens args vs as hpre hlay L.reads L.well (L.low G.low)
  have hi := ident_freeW hu ha hap
  have hwi : rwL.row.toRowW.claim.within = [] := List.isEmpty_iff.mp k6
  refine ⟨vs, s₁, hlaid, wpAny_bind (wpAny_nsGet G₁.T.g ?_)⟩
  rw [h1]
  refine wpAny_bind (wpAny_mono h (fun v s' g => wpAny_pure ⟨_, rfl, ?_⟩) fun e s' g => ?_)
  · have z := g.laid (c := rwL.row.toRowW.claim) hsame hwi hi L
    exact ⟨z.1, z.2.1, z.2.2, fun q => by rw [hwr] at q; cases q⟩
  · have z := g.laid (c := rwL.row.toRowW.claim) hsame hwi hi L
    exact ⟨z.1, z.2.1, z.2.2, fun q => by rw [hwr] at q; cases q⟩
noncomputable def okL (pz : Program) : Bool := opensWell pz
theorem ok_ok : okL pw = true := by
  rw [pw_fast]
  kernel_rfl
noncomputable def rwG : Program → OpenLaw := by
  apply (fun (xx : Program → OpenLaw) (_ : True) => xx)
  rotate_left
  · have f : ∀ G : Program → OpenLaw, (∀ fs, PySem.Challenge.pw_iu0022_01 = fs → PySem.Challenge.rw_iu0022_01 = G fs) → True := fun _ _ => trivial
    specialize f ?xx (by
      intro fs h
      delta PySem.Challenge.rw_iu0022_01
      rw [h])
    clear f; trivial
theorem rwG_is : PySem.Challenge.rw_iu0022_01 = rwG pw := rfl
noncomputable def wsa1 (pz : Program) : Bool := sreFenced pz.main
theorem wsa1_self : wsa1 = wsa1 := rfl
name_quick wsa1Q for wsa1 by wsa1_self
theorem wsa1_ok : wsa1 pw = true := by
  rw [PySem.W.Fast.wsa1Q_eq, pw_fast]
  kernel_rfl
noncomputable def wsa2 (pz : Program) : Bool := ((moduleNames pz.main.body).isEmpty || lookedIntoSs (moduleNames pz.main.body) pz.main.body)
theorem wsa2_self : wsa2 = wsa2 := rfl
name_quick wsa2Q for wsa2 by wsa2_self
theorem wsa2_ok : wsa2 pw = true := by
  rw [PySem.W.Fast.wsa2Q_eq, pw_fast]
  kernel_rfl
noncomputable def wsa3 (pz : Program) : Bool := namesResolve pz
theorem wsa3_self : wsa3 = wsa3 := rfl
name_quick wsa3Q for wsa3 by wsa3_self
theorem wsa3_ok : wsa3 pw = true := by
  rw [PySem.W.Fast.wsa3Q_eq, pw_fast]
  kernel_rfl
noncomputable def wsa4 (pz : Program) : Bool := pz.boundNames.all (fun n => !worldNames.contains n)
theorem wsa4_self : wsa4 = wsa4 := rfl
name_quick wsa4Q for wsa4 by wsa4_self
theorem wsa4_ok : wsa4 pw = true := by
  rw [PySem.W.Fast.wsa4Q_eq, pw_fast]
  kernel_rfl
noncomputable def wsa5 (pz : Program) : Bool := noRoadLSs { strict := !(importedModules pz.main.body).all cThrough.contains, foot := none, bare := (["vars", "dir", "locals"] : List Str).filter (readsOut pz pz.main.body) } pz.main.body
theorem wsa5_self : wsa5 = wsa5 := rfl
name_quick wsa5Q for wsa5 by wsa5_self
theorem wsa5_ok : wsa5 pw = true := by
  rw [PySem.W.Fast.wsa5Q_eq, pw_fast]
  kernel_rfl
noncomputable def wsa6 (pz : Program) : Bool := namesMeet pz pz.main.body fun _ n => attrL n
theorem wsa6_self : wsa6 = wsa6 := rfl
name_quick wsa6Q for wsa6 by wsa6_self
theorem wsa6_ok : wsa6 pw = true := by
  rw [PySem.W.Fast.wsa6Q_eq, pw_fast]
  kernel_rfl
noncomputable def wsb1 (pz : Program) : Bool := pz.boundNames.contains (rwG pz).name
theorem wsb1_self : wsb1 = wsb1 := rfl
name_quick wsb1Q for wsb1 by wsb1_self
theorem wsb1_ok : wsb1 pw = true := by
  rw [PySem.W.Fast.wsb1Q_eq, pw_fast]
  kernel_rfl
noncomputable def wsd1 (pz : Program) : Bool := decide ((rwG pz).foot ≤ (behindTheImports (rwG pz).prog).length)
theorem wsd1_self : wsd1 = wsd1 := rfl
name_quick wsd1Q for wsd1 by wsd1_self
theorem wsd1_ok : wsd1 pw = true := by
  rw [PySem.W.Fast.wsd1Q_eq, pw_fast]
  kernel_rfl
noncomputable def wsd2 (pz : Program) : Bool := (rwG pz).footing.all footLine
theorem wsd2_self : wsd2 = wsd2 := rfl
name_quick wsd2Q for wsd2 by wsd2_self
theorem wsd2_ok : wsd2 pw = true := by
  rw [PySem.W.Fast.wsd2Q_eq, pw_fast]
  kernel_rfl
noncomputable def wsd3 (pz : Program) : Bool := noClassBlock (rwG pz).prog (rwG pz).footing
theorem wsd3_self : wsd3 = wsd3 := rfl
name_quick wsd3Q for wsd3 by wsd3_self
theorem wsd3_ok : wsd3 pw = true := by
  rw [PySem.W.Fast.wsd3Q_eq, pw_fast]
  kernel_rfl
noncomputable def wsd4 (pz : Program) : Bool := noRoadLSs { strict := true, foot := some (rwG pz).bound', writes := (rwG pz).writes, may := (rwG pz).may } (rwG pz).footing
theorem wsd4_self : wsd4 = wsd4 := rfl
name_quick wsd4Q for wsd4 by wsd4_self
theorem wsd4_ok : wsd4 pw = true := by
  rw [PySem.W.Fast.wsd4Q_eq, pw_fast]
  kernel_rfl
noncomputable def wsd5 (pz : Program) : Bool := defStands (rwG pz).about (rwG pz).above
theorem wsd5_self : wsd5 = wsd5 := rfl
name_quick wsd5Q for wsd5 by wsd5_self
theorem wsd5_ok : wsd5 pw = true := by
  rw [PySem.W.Fast.wsd5Q_eq, pw_fast]
  kernel_rfl
noncomputable def wsd6 (pz : Program) : Bool := (rwG pz).namesIt
theorem wsd6_self : wsd6 = wsd6 := rfl
name_quick wsd6Q for wsd6 by wsd6_self
theorem wsd6_ok : wsd6 pw = true := by
  rw [PySem.W.Fast.wsd6Q_eq, pw_fast]
  kernel_rfl
noncomputable def wsd7 (pz : Program) : Bool := (rwG pz).bound'.all (fun n => !builtinNamed n || (rwG pz).about == [n] || !(rwG pz).reads n)
theorem wsd7_self : wsd7 = wsd7 := rfl
name_quick wsd7Q for wsd7 by wsd7_self
theorem wsd7_ok : wsd7 pw = true := by
  rw [PySem.W.Fast.wsd7Q_eq, pw_fast]
  kernel_rfl
noncomputable def wsd8 (pz : Program) : Bool := ((rwG pz).prog.main.body.flatMap importedNames).all (fun n => !(rwG pz).reads n || (drawsOf n (rwG pz).prog.main.body).all fun mn => mn.2 != ("attrgetter" : Str) && mn.2 != ("methodcaller" : Str))
theorem wsd8_self : wsd8 = wsd8 := rfl
name_quick wsd8Q for wsd8 by wsd8_self
theorem wsd8_ok : wsd8 pw = true := by
  rw [PySem.W.Fast.wsd8Q_eq, pw_fast]
  kernel_rfl
noncomputable def wsd9 (pz : Program) : Bool := namesMeet (rwG pz).prog (rwG pz).footing (fun sc n => (!(["type", "isinstance", "issubclass", "getattr", "hasattr"] : List Str).contains n || sc.names.lookup n == some .globalImplicit) && ((rwG pz).may != some n || sc.kind == .module || sc.names.lookup n == some .globalImplicit))
theorem wsd9_self : wsd9 = wsd9 := rfl
name_quick wsd9Q for wsd9 by wsd9_self
theorem wsd9_ok : wsd9 pw = true := by
  rw [PySem.W.Fast.wsd9Q_eq, pw_fast]
  kernel_rfl
noncomputable def wse1 (pz : Program) : Bool := (rwG pz).own.contains (rwG pz).name
theorem wse1_self : wse1 = wse1 := rfl
name_quick wse1Q for wse1 by wse1_self
theorem wse1_ok : wse1 pw = true := by
  rw [PySem.W.Fast.wse1Q_eq, pw_fast]
  kernel_rfl
noncomputable def wse2 (pz : Program) : Bool := (rwG pz).own.eraseDups.length == (rwG pz).own.length
theorem wse2_self : wse2 = wse2 := rfl
name_quick wse2Q for wse2 by wse2_self
theorem wse2_ok : wse2 pw = true := by
  rw [PySem.W.Fast.wse2Q_eq, pw_fast]
  kernel_rfl
noncomputable def wse3 (pz : Program) : Bool := (rwG pz).own.all (fun n => !builtinNamed n)
theorem wse3_self : wse3 = wse3 := rfl
name_quick wse3Q for wse3 by wse3_self
theorem wse3_ok : wse3 pw = true := by
  rw [PySem.W.Fast.wse3Q_eq, pw_fast]
  kernel_rfl
noncomputable def wse4 (pz : Program) : Bool := namesMeet (rwG pz).prog (rwG pz).above (fun _ n => !(rwG pz).own.contains n)
theorem wse4_self : wse4 = wse4 := rfl
name_quick wse4Q for wse4 by wse4_self
theorem wse4_ok : wse4 pw = true := by
  rw [PySem.W.Fast.wse4Q_eq, pw_fast]
  kernel_rfl
noncomputable def wse5 (pz : Program) : Bool := namesMeet (rwG pz).prog (rwG pz).footing fun sc n => sc.kind == .module || sc.names.lookup n != some .globalExplicit
theorem wse5_self : wse5 = wse5 := rfl
name_quick wse5Q for wse5 by wse5_self
theorem wse5_ok : wse5 pw = true := by
  rw [PySem.W.Fast.wse5Q_eq, pw_fast]
  kernel_rfl
theorem ws_of (pz : Program) (a1 : wsa1 pz = true) (a2 : wsa2 pz = true) (a3 : wsa3 pz = true) (a4 : wsa4 pz = true) (a5 : wsa5 pz = true) (a6 : wsa6 pz = true) (b1 : wsb1 pz = true) (d1 : wsd1 pz = true) (d2 : wsd2 pz = true) (d3 : wsd3 pz = true) (d4 : wsd4 pz = true) (d5 : wsd5 pz = true) (d6 : wsd6 pz = true) (d7 : wsd7 pz = true) (d8 : wsd8 pz = true) (d9 : wsd9 pz = true) (e1 : wse1 pz = true) (e2 : wse2 pz = true) (e3 : wse3 pz = true) (e4 : wse4 pz = true) (e5 : wse5 pz = true) : (rwG pz).wellSaid = true := by
  unfold OpenLaw.wellSaid OpenRow.wellSaid OpenRow.partSaid looksOpen
  repeat' (with_reducible refine look_both ?_ ?_)
  all_goals first | assumption | kernel_rfl
theorem ws_ok : (rwG pw).wellSaid = true := ws_of pw wsa1_ok wsa2_ok wsa3_ok wsa4_ok wsa5_ok wsa6_ok wsb1_ok wsd1_ok wsd2_ok wsd3_ok wsd4_ok wsd5_ok wsd6_ok wsd7_ok wsd8_ok wsd9_ok wse1_ok wse2_ok wse3_ok wse4_ok wse5_ok
theorem law_holds {d : DefRec} {kwd : List (Str × PySem.Expr)}
    (hdef : defOf (qv pw) rwL.row.name = some (d, kwd)) (hp : pw.theDef rwL.row.name = some (d.params, d.body, d.scope)) (hk : kwWritten? d.params.kwonlyargs d.params.kw_defaults = some kwd)
    (call : WalkO (qv pw) lse (XL (qv pw) []) Tops rwL.row.toRowW d kwd fun f vs => PySem.call f vs) : PySem.Challenge.rw_iu0022_01.Holds := by
  w_on
  refine holds_law (l := PySem.Challenge.rw_iu0022_01) ws_ok fun said => ?_
  refine row_holds (by assumption) ?hw ?ok ⟨rfl, rfl, rfl, rfl, rfl, by decide +kernel⟩ hdef hp hk call
  case hw => w_witness2
  case ok => exact Bool.and_eq_true_iff.mpr ⟨ok_ok, by kernel_rfl⟩
end
section
open PySem PySem.W PySem.Calls PyProof.Rows
set_option maxHeartbeats 4000000
theorem fill_now : KK = KK ∧ rwL = rwL := by k_fill; exact ⟨rfl, rfl⟩
structure Ok (w : World) (mg mb : Str → Option Value) (h : Heap) : Prop where
  tops : Tops w h
  top : TopRead (qv pw) lse mg mb h
theorem Ok.keeps {w : World} {mg mb : Str → Option Value} {h h' : Heap} (x : Ok w mg mb h) (k : ∀ b o, h.get? b = some o → h'.get? b = some o) : Ok w mg mb h' := ⟨x.tops.keeps k, x.top.keeps k⟩
abbrev selfI (dx : Addr) : Obj := ⟨.ref 578, some dx, .plain, #[]⟩
/-- all of h but the object at a stands in h' -/
noncomputable def KeepBut (a : Addr) (h h' : Heap) : Prop := ∀ b o, b ≠ a → h.get? b = some o → h'.get? b = some o
theorem KeepBut.trans {a : Addr} {h h' h'' : Heap} (x : KeepBut a h h') (y : KeepBut a h' h'') : KeepBut a h h'' := fun b o n e => y b o n (x b o n e)
theorem KeepBut.refl (a : Addr) (h : Heap) : KeepBut a h h := fun _ _ _ e => e
/-- the stemmer stands at x, its dict od at dx; H is what stood before it -/
structure Me (w : World) (mg mb : Str → Option Value) (H h : Heap) (x dx : Addr) (od : Obj) : Prop where
  ok : Ok w mg mb H
  keep : ∀ b o, H.get? b = some o → h.get? b = some o
  x0 : H.get? x = none
  d0 : H.get? dx = none
  ix : h.get? x = some (selfI dx)
  id : h.get? dx = some od
  ne : x ≠ dx
theorem Me.turn {w : World} {mg mb : Str → Option Value} {H h h' : Heap} {x dx : Addr} {od od' : Obj} (M : Me w mg mb H h x dx od) (k : KeepBut dx h h') (hd : h'.get? dx = some od') : Me w mg mb H h' x dx od' :=
  ⟨M.ok, fun b o e => k b o (fun q => by have := M.d0; rw [← q, e] at this; cases this) (M.keep b o e), M.x0, M.d0, k x _ M.ne M.ix, hd, M.ne⟩
theorem Me.of {w : World} {mg mb : Str → Option Value} {g h : Heap} {L x dx : Addr} {od : Obj} {m : Str → Option Value} (O : Ok w mg mb g) (F : Fr g L h m) (N : News g L h [(x, selfI dx), (dx, od)]) (ne : x ≠ dx) : Me w mg mb g h x dx od :=
  ⟨O, F.keep, (N (x, selfI dx) (.head _)).2.2, (N (dx, od) (.tail _ (.head _))).2.2, (N (x, selfI dx) (.head _)).1, (N (dx, od) (.tail _ (.head _))).1, ne⟩
theorem back {g h h' : Heap} {L x dx : Addr} {od od' : Obj} {m : Str → Option Value} (F : Fr g L h m) (N : News g L h [(x, selfI dx), (dx, od)]) (ne : x ≠ dx) (k : KeepBut dx h h') (hd : h'.get? dx = some od') :
    Fr g L h' m ∧ News g L h' [(x, selfI dx), (dx, od')] := by
  obtain ⟨oL, es, ep, hL, r⟩ := F.ns
  have nx := N (x, selfI dx) (.head _)
  have nd := N (dx, od) (.tail _ (.head _))
  refine ⟨⟨⟨oL, es, ep, k L oL (Ne.symm nd.2.1) hL, r⟩, fun b o e => k b o (fun q => by have := nd.2.2; rw [← q, e] at this; cases this) (F.keep b o e), F.above⟩, fun p hp => ?_⟩
  rcases List.mem_cons.mp hp with rfl | hp
  · exact ⟨k x _ ne nx.1, nx.2.1, nx.2.2⟩
  · rcases List.mem_cons.mp hp with rfl | hp
    · exact ⟨hd, nd.2.1, nd.2.2⟩
    · cases hp
/-- what a method's end owes: the rest kept, the stemmer at hand -/
noncomputable def Fin1 (w : World) (mg mb : Str → Option Value) (H : Heap) (s : Shared) (x dx : Addr) (g : Heap) : Prop :=
  ∀ h' m' L2 od', Fr g L2 h' m' → News g L2 h' [(x, selfI dx), (dx, od')] → KeepBut dx s.heap h' ∧ Me w mg mb H h' x dx od'
theorem room {d n k : Nat} (h : d + n < recursionLimit) (e : k + 1 ≤ n) : d + 1 + k < recursionLimit := by lia
section
variable {w : World} {A : Around} {E : Value → Shared → Prop} {s : Shared} {mg mb : Str → Option Value}
theorem enter_self {H : Heap} {x dx : Addr} {od : Obj} {R : Result → Shared → Prop} {name qual : Str} {params : Arguments} {body : List Stmt} {scope : Scope} {dV kV doc pm cdv ct oc : Value} {an od1 : Option Addr} {osl : Array (Option Value)} {f : Addr} {args : Args} (binds : List (Str × Value))
    (M : Me w mg mb H s.heap x dx od)
    (ho : (KK w.params).lookup f = some ⟨oc, od1, .func (fnOf name qual params body scope dV kV doc pm an cdv ct), osl⟩) (hcd : codeIn (KK w.params) cdv qual = true) (hroom : A.depth < recursionLimit)
    (hbind : BindsTo s (fnOf name qual params body scope dV kV doc pm an cdv ct) args binds) (hloc : ∀ y ∈ binds, scope.names.lookup y.1 = some .local)
    (h : ∀ g L' h₁, Ok w mg mb g → (KK w.params).In g → TopRead (qv pw) lse mg mb g → Fr g L' h₁ (fun y => binds.reverse.lookup y) → News g L' h₁ [(x, selfI dx), (dx, od)] →
      Fin1 w mg mb H s x dx g →
      wpAny (model pw w) (A.deeper (envOf qual scope L' f cdv)) (execs body (envOf qual scope L' f cdv)) (fun fl s' => R (.ok (.ret (match fl with | .ret v => v | _ => .none))) s') (fun _ _ => False) { s with heap := h₁, toks := s.toks + binds.length })
    (hco : scope.isCoroutine = false) (hgen : scope.isGenerator = false) (hk : scope.kind = .function)
    (hcell : ∀ x ∈ scope.names, x.2 ≠ .cell) : codeAny (model pw w) A (.call (.ref f) args) R s := by
  have hn : ∀ b o, H.get? b = some o → b ∉ [x, dx] := fun b o e q => by
    rcases List.mem_cons.mp q with rfl | q
    · have := M.x0; rw [e] at this; cases this
    · rcases List.mem_cons.mp q with rfl | q
      · have := M.d0; rw [e] at this; cases this
      · cases q
  have O : Ok w mg mb (hideAll s.heap [x, dx]) := M.ok.keeps fun b o e => hideAll_get _ (M.keep b o e) (hn b o e)
  have X : (KK w.params).In s.heap := O.tops.kin.keeps fun b o e => of_hideAll _ e
  refine codeAny_call_def (fd := fnOf name qual params body scope dV kV doc pm an cdv ct) (body := body) (binds := binds) hroom (X _ _ ho) rfl (O.top.nolimit.keeps fun b o e => of_hideAll _ e) (codeRec_of X hcd) rfl hbind hcell hloc (fun h₁ hns hk₁ => ?_) hco hgen hk
  refine wpAny_mono (h (hideAll s.heap [x, dx]) s.heap.objs.size h₁ O O.tops.kin O.top ⟨hns, fun b o e => hk₁ b o (of_hideAll _ e), Nat.le_of_eq (hideAll_size _ _)⟩ (fun p hp => ?_) (fun h' m' L2 od' F N => ?_)) (fun _ _ y => y) fun _ _ y => y.elim
  · have hp' : s.heap.get? p.1 = some p.2 ∧ p.1 ∈ [x, dx] := by
      rcases List.mem_cons.mp hp with rfl | hp
      · exact ⟨M.ix, .head _⟩
      · rcases List.mem_cons.mp hp with rfl | hp
        · exact ⟨M.id, .tail _ (.head _)⟩
        · cases hp
    exact ⟨hk₁ _ _ hp'.1, Nat.ne_of_lt (Heap.lt_size hp'.1), hideAll_none _ hp'.2⟩
  · have kb : KeepBut dx s.heap h' := fun b o nb e => by
      by_cases hb : b = x
      · subst hb; rw [M.ix] at e; cases e; exact (N (b, selfI dx) (.head _)).1
      · exact F.keep b o (hideAll_get _ e fun q => by
          rcases List.mem_cons.mp q with q | q
          · exact hb q
          · rcases List.mem_cons.mp q with q | q
            · exact nb q
            · cases q)
    exact ⟨kb, M.turn kb (N (dx, od') (.tail _ (.head _))).1⟩
end
/-- a statement's end, told by a name: K stands for what is behind it (N: the next statement, Q: all else); only heap and tokens move -/
structure Hid (s₀ : Shared) (K : Flow → Shared → Prop) (N : Shared → Prop) (Q : Flow → Shared → Prop) : Prop where
  nx : ∀ {h tk}, (∀ tk', N { s₀ with heap := h, toks := tk' }) → K .next { s₀ with heap := h, toks := tk }
  rt : ∀ {v h tk}, (∀ tk', Q (.ret v) { s₀ with heap := h, toks := tk' }) → K (.ret v) { s₀ with heap := h, toks := tk }
  bk : ∀ {h tk}, (∀ tk', Q .brk { s₀ with heap := h, toks := tk' }) → K .brk { s₀ with heap := h, toks := tk }
  ct : ∀ {h tk}, (∀ tk', Q .cont { s₀ with heap := h, toks := tk' }) → K .cont { s₀ with heap := h, toks := tk }
/-- the state that a walk's states are told by -/
structure Base (s₀ : Shared) : Prop where
  on : True
section
variable {M : Model} {A : Around} {E : Value → Shared → Prop} {Q : Flow → Shared → Prop} {s₀ : Shared} {env : Env} {h₁ : Heap} {tk : Tok}
theorem hid_all (s₀ : Shared) {c : Sem Flow} (h : Base s₀ → ∀ K, Hid s₀ K (Q .next) Q → wpAny M A c K E { s₀ with heap := h₁, toks := tk }) : wpAny M A c Q E { s₀ with heap := h₁, toks := tk } :=
  h ⟨trivial⟩ Q ⟨fun x => x _, fun x => x _, fun x => x _, fun x => x _⟩
theorem hid_cons (b : Base s₀) {st : Stmt} {rest : List Stmt} (h : ∀ tk' K, Hid s₀ K (wpAny M A (execs rest env) Q E) Q → wpAny M A (exec st env) K E { s₀ with heap := h₁, toks := tk' }) : wpAny M A (execs (st :: rest) env) Q E { s₀ with heap := h₁, toks := tk } :=
  wpAny_execs_cons (h _ _ ⟨fun x => x _, fun x => x _, fun x => x _, fun x => x _⟩)
theorem while_ret {J : Nat → (Str → Option Value) → List (Addr × Obj) → Prop} {h₀ : Heap} {L : Addr} {s s' : Shared} {n : Nat} {v : Value} (h : Q (.ret v) s') : WhileStep2 h₀ L s J Q n (.ret v) s' := h
theorem hid_one (b : Base s₀) {st : Stmt} (h : ∀ tk', wpAny M A (exec st env) Q E { s₀ with heap := h₁, toks := tk' }) : wpAny M A (execs [st] env) Q E { s₀ with heap := h₁, toks := tk } :=
  wpAny_execs_cons (wpAny_mono (h _) (fun f s' x => by cases f <;> first | exact wpAny_execs_nil x | exact x) fun _ _ x => x)
end
end
open PySem.Calls
section
open PySem PySem.W PySem.Calls PyProof.Rows
set_option maxHeartbeats 4000000
/-- the stemmer's dict without (E6) and with (E7) I_p1; k, t: the tokens of keys and values -/
noncomputable def E6 (P : Params) (cur : Str) (c l lb bra ket : Int) (k t : Nat → Tok) : List DictEntry := [⟨PyData.keyHash P (Str.ofString "current"), .str (Str.ofString "current") (k 0), .str cur (t 0)⟩, ⟨PyData.keyHash P (Str.ofString "cursor"), .str (Str.ofString "cursor") (k 1), .int c (t 1)⟩, ⟨PyData.keyHash P (Str.ofString "limit"), .str (Str.ofString "limit") (k 2), .int l (t 2)⟩, ⟨PyData.keyHash P (Str.ofString "limit_backward"), .str (Str.ofString "limit_backward") (k 3), .int lb (t 3)⟩, ⟨PyData.keyHash P (Str.ofString "bra"), .str (Str.ofString "bra") (k 4), .int bra (t 4)⟩, ⟨PyData.keyHash P (Str.ofString "ket"), .str (Str.ofString "ket") (k 5), .int ket (t 5)⟩]
noncomputable def E7 (P : Params) (cur : Str) (c l lb bra ket ip : Int) (k t : Nat → Tok) : List DictEntry := [⟨PyData.keyHash P (Str.ofString "current"), .str (Str.ofString "current") (k 0), .str cur (t 0)⟩, ⟨PyData.keyHash P (Str.ofString "cursor"), .str (Str.ofString "cursor") (k 1), .int c (t 1)⟩, ⟨PyData.keyHash P (Str.ofString "limit"), .str (Str.ofString "limit") (k 2), .int l (t 2)⟩, ⟨PyData.keyHash P (Str.ofString "limit_backward"), .str (Str.ofString "limit_backward") (k 3), .int lb (t 3)⟩, ⟨PyData.keyHash P (Str.ofString "bra"), .str (Str.ofString "bra") (k 4), .int bra (t 4)⟩, ⟨PyData.keyHash P (Str.ofString "ket"), .str (Str.ofString "ket") (k 5), .int ket (t 5)⟩, ⟨PyData.keyHash P (Str.ofString "I_p1"), .str (Str.ofString "I_p1") (k 6), .int ip (t 6)⟩]
/-- the dict of either shape -/
noncomputable def tailO (P : Params) (k t : Nat → Tok) : Option Int → List DictEntry
  | none => []
  | some ip => [⟨PyData.keyHash P (Str.ofString "I_p1"), .str (Str.ofString "I_p1") (k 6), .int ip (t 6)⟩]
noncomputable def EO (P : Params) (cur : Str) (c l lb bra ket : Int) (oip : Option Int) (k t : Nat → Tok) : List DictEntry := ⟨PyData.keyHash P (Str.ofString "current"), .str (Str.ofString "current") (k 0), .str cur (t 0)⟩ :: ⟨PyData.keyHash P (Str.ofString "cursor"), .str (Str.ofString "cursor") (k 1), .int c (t 1)⟩ :: ⟨PyData.keyHash P (Str.ofString "limit"), .str (Str.ofString "limit") (k 2), .int l (t 2)⟩ :: ⟨PyData.keyHash P (Str.ofString "limit_backward"), .str (Str.ofString "limit_backward") (k 3), .int lb (t 3)⟩ :: ⟨PyData.keyHash P (Str.ofString "bra"), .str (Str.ofString "bra") (k 4), .int bra (t 4)⟩ :: ⟨PyData.keyHash P (Str.ofString "ket"), .str (Str.ofString "ket") (k 5), .int ket (t 5)⟩ :: tailO P k t oip
noncomputable def nO : Option Int → Nat
  | none => 6
  | some _ => 7
inductive IsSt (w : World) (cur : Str) (c l lb bra ket : Int) : Option Int → Obj → Prop
  | six (k t : Nat → Tok) : IsSt w cur c l lb bra ket none (dictOf (E6 w.params cur c l lb bra ket k t) 6)
  | seven (k t : Nat → Tok) (ip : Int) : IsSt w cur c l lb bra ket (some ip) (dictOf (E7 w.params cur c l lb bra ket ip k t) 7)
noncomputable def upT (t : Nat → Tok) (i : Nat) (v : Tok) : Nat → Tok := fun j => @Bool.rec (fun _ => Tok) (t j) v (Nat.beq j i)
noncomputable def lsT (l : List Tok) : Nat → Tok := fun j => l.getD j 0
theorem IsSt.ofO {w : World} {cur : Str} {c l lb bra ket : Int} {oip : Option Int} (k t : Nat → Tok) : IsSt w cur c l lb bra ket oip (dictOf (EO w.params cur c l lb bra ket oip k t) (nO oip)) := by
  cases oip
  · exact IsSt.six k t
  · exact IsSt.seven k t _
theorem IsSt.of6 {w : World} {cur : Str} {c l lb bra ket : Int} (k1 k2 k3 k4 k5 k6 t1 t2 t3 t4 t5 t6 : Tok) : IsSt w cur c l lb bra ket none (dictOf [⟨PyData.keyHash w.params (Str.ofString "current"), .str (Str.ofString "current") k1, .str cur t1⟩, ⟨PyData.keyHash w.params (Str.ofString "cursor"), .str (Str.ofString "cursor") k2, .int c t2⟩, ⟨PyData.keyHash w.params (Str.ofString "limit"), .str (Str.ofString "limit") k3, .int l t3⟩, ⟨PyData.keyHash w.params (Str.ofString "limit_backward"), .str (Str.ofString "limit_backward") k4, .int lb t4⟩, ⟨PyData.keyHash w.params (Str.ofString "bra"), .str (Str.ofString "bra") k5, .int bra t5⟩, ⟨PyData.keyHash w.params (Str.ofString "ket"), .str (Str.ofString "ket") k6, .int ket t6⟩] 6) := IsSt.six (lsT [k1, k2, k3, k4, k5, k6]) (lsT [t1, t2, t3, t4, t5, t6])
/-- what a method hands on: the stemmer at x, its dict od' of the shape told, all else kept -/
abbrev On (w : World) (mg mb : Str → Option Value) (H : Heap) (s : Shared) (x dx : Addr) (Q : Value → Shared → Prop) (v : Value) (P : Obj → Prop) : Prop :=
  ∀ h' tk od', KeepBut dx s.heap h' → Me w mg mb H h' x dx od' → P od' → Q v { s with heap := h', toks := tk }
theorem Fin1.out {w : World} {mg mb : Str → Option Value} {H : Heap} {s : Shared} {x dx : Addr} {g h' : Heap} {m' : Str → Option Value} {L2 : Addr} {od' : Obj} {Q : Value → Shared → Prop} {v : Value} {P : Obj → Prop} {tk : Tok}
    (f : Fin1 w mg mb H s x dx g) (F : Fr g L2 h' m') (N : News g L2 h' [(x, selfI dx), (dx, od')]) (hQ : On w mg mb H s x dx Q v P) (hP : P od') : Q v { s with heap := h', toks := tk } :=
  hQ _ _ _ (f _ _ _ _ F N).1 (f _ _ _ _ F N).2 hP
section
variable {w : World} {cur : Str} {c l lb bra ket ip : Int} {G : Prop} {mg mb : Str → Option Value} {H h g h' : Heap} {L x dx : Addr} {od od' : Obj} {m : Str → Option Value}
theorem entry6 (I : IsSt w cur c l lb bra ket none od) (M : Me w mg mb H h x dx od) (K : ∀ k t, Me w mg mb H h x dx (dictOf (E6 w.params cur c l lb bra ket k t) 6) → G) : G := by
  cases I
  exact K _ _ M
theorem back6 (I : IsSt w cur c l lb bra ket none od') (F : Fr g L h m) (N : News g L h [(x, selfI dx), (dx, od)]) (ne : x ≠ dx) (k : KeepBut dx h h') (hd : h'.get? dx = some od')
    (K : ∀ k t, Fr g L h' m → News g L h' [(x, selfI dx), (dx, dictOf (E6 w.params cur c l lb bra ket k t) 6)] → G) : G := by
  cases I
  exact K _ _ (back F N ne k hd).1 (back F N ne k hd).2
theorem entry7 (I : IsSt w cur c l lb bra ket (some ip) od) (M : Me w mg mb H h x dx od) (K : ∀ k t, Me w mg mb H h x dx (dictOf (E7 w.params cur c l lb bra ket ip k t) 7) → G) : G := by
  cases I
  exact K _ _ M
theorem back7 (I : IsSt w cur c l lb bra ket (some ip) od') (F : Fr g L h m) (N : News g L h [(x, selfI dx), (dx, od)]) (ne : x ≠ dx) (k : KeepBut dx h h') (hd : h'.get? dx = some od')
    (K : ∀ k t, Fr g L h' m → News g L h' [(x, selfI dx), (dx, dictOf (E7 w.params cur c l lb bra ket ip k t) 7)] → G) : G := by
  cases I
  exact K _ _ (back F N ne k hd).1 (back F N ne k hd).2
theorem entryO {oip : Option Int} (I : IsSt w cur c l lb bra ket oip od) (M : Me w mg mb H h x dx od) (K : ∀ k t, Me w mg mb H h x dx (dictOf (EO w.params cur c l lb bra ket oip k t) (nO oip)) → G) : G := by
  cases I <;> exact K _ _ M
theorem backO {oip : Option Int} (I : IsSt w cur c l lb bra ket oip od') (F : Fr g L h m) (N : News g L h [(x, selfI dx), (dx, od)]) (ne : x ≠ dx) (k : KeepBut dx h h') (hd : h'.get? dx = some od')
    (K : ∀ k t, Fr g L h' m → News g L h' [(x, selfI dx), (dx, dictOf (EO w.params cur c l lb bra ket oip k t) (nO oip))] → G) : G := by
  cases I <;> exact K _ _ (back F N ne k hd).1 (back F N ne k hd).2
theorem loop7 (I : IsSt w cur c l lb bra ket (some ip) od) (N : News g L h [(x, selfI dx), (dx, od)]) (K : ∀ k t, News g L h [(x, selfI dx), (dx, dictOf (E7 w.params cur c l lb bra ket ip k t) 7)] → G) : G := by
  cases I
  exact K _ _ N
end
inductive Put7 (cur : Str) (c l lb bra ket ip : Int) : Str → Value → Str → Int → Int → Int → Int → Int → Int → Prop
  | p0 (v : Str) (u : Tok) : Put7 cur c l lb bra ket ip (Str.ofString "current") (.str v u) v c l lb bra ket ip
  | p1 (v : Int) (u : Tok) : Put7 cur c l lb bra ket ip (Str.ofString "cursor") (.int v u) cur v l lb bra ket ip
  | p2 (v : Int) (u : Tok) : Put7 cur c l lb bra ket ip (Str.ofString "limit") (.int v u) cur c v lb bra ket ip
  | p3 (v : Int) (u : Tok) : Put7 cur c l lb bra ket ip (Str.ofString "limit_backward") (.int v u) cur c l v bra ket ip
  | p4 (v : Int) (u : Tok) : Put7 cur c l lb bra ket ip (Str.ofString "bra") (.int v u) cur c l lb v ket ip
  | p5 (v : Int) (u : Tok) : Put7 cur c l lb bra ket ip (Str.ofString "ket") (.int v u) cur c l lb bra v ip
  | p6 (v : Int) (u : Tok) : Put7 cur c l lb bra ket ip (Str.ofString "I_p1") (.int v u) cur c l lb bra ket v
inductive Put6 (cur : Str) (c l lb bra ket : Int) : Str → Value → Str → Int → Int → Int → Int → Int → Prop
  | p0 (v : Str) (u : Tok) : Put6 cur c l lb bra ket (Str.ofString "current") (.str v u) v c l lb bra ket
  | p1 (v : Int) (u : Tok) : Put6 cur c l lb bra ket (Str.ofString "cursor") (.int v u) cur v l lb bra ket
  | p2 (v : Int) (u : Tok) : Put6 cur c l lb bra ket (Str.ofString "limit") (.int v u) cur c v lb bra ket
  | p3 (v : Int) (u : Tok) : Put6 cur c l lb bra ket (Str.ofString "limit_backward") (.int v u) cur c l v bra ket
  | p4 (v : Int) (u : Tok) : Put6 cur c l lb bra ket (Str.ofString "bra") (.int v u) cur c l lb v ket
  | p5 (v : Int) (u : Tok) : Put6 cur c l lb bra ket (Str.ofString "ket") (.int v u) cur c l lb bra v
/-- the stemmer's class holds no data descriptor of that name -/
noncomputable def SelfOk (P : Params) (name : Str) : Prop := plainGet (KK P) 578 name = true ∧ hasDictIn (KK P) 578 = true ∧ ∃ a, findIn (KK P) (.ref 578) name = some a ∧ noGet (KK P) a = true
theorem ok_current {P : Params} : SelfOk P (Str.ofString "current") := ⟨by k_is, by k_is, _, by k_is, by k_is⟩
theorem ok_cursor {P : Params} : SelfOk P (Str.ofString "cursor") := ⟨by k_is, by k_is, _, by k_is, by k_is⟩
theorem ok_limit {P : Params} : SelfOk P (Str.ofString "limit") := ⟨by k_is, by k_is, _, by k_is, by k_is⟩
theorem ok_limit_backward {P : Params} : SelfOk P (Str.ofString "limit_backward") := ⟨by k_is, by k_is, _, by k_is, by k_is⟩
theorem ok_bra {P : Params} : SelfOk P (Str.ofString "bra") := ⟨by k_is, by k_is, _, by k_is, by k_is⟩
theorem ok_ket {P : Params} : SelfOk P (Str.ofString "ket") := ⟨by k_is, by k_is, _, by k_is, by k_is⟩
theorem ok_I_p1 {P : Params} : SelfOk P (Str.ofString "I_p1") := ⟨by k_is, by k_is, _, by k_is, by k_is⟩
section
variable {w : World} {A : Around} {E : Value → Shared → Prop} {Q : Value → Shared → Prop} {s : Shared} {h₀ : Heap} {L a : Addr} {m : Str → Option Value} {cn name : Str} {cs : Scope} {ccd v : Value} {cl : List (Str × Addr)} {p1 p2 : Pos} {news : List (Addr × Obj)} {x dx : Addr} {es : List DictEntry} {n : Nat}
theorem self_get {expr : Bool} (F : Fr h₀ L s.heap m) (N : News h₀ L s.heap news) (X : (KK w.params).In h₀) (h1 : (x, selfI dx) ∈ news) (h2 : (dx, dictOf es n) ∈ news) (ok : SelfOk w.params name) (hl : getL name es = some (some v)) (hv : handedIn v = true)
    (h : Q v { s with toks := s.toks + 1 }) : wpAny (model pw w) A (getAttr (.ref x) name expr) Q E s := by
  obtain ⟨k1, k2, at_, k3, k4⟩ := ok
  exact get_own F X (InstAt.of_news N h1 h2) k1 k2 k3 k4 hl hv h
theorem attr_self (F : Fr h₀ L s.heap m) (N : News h₀ L s.heap news) (X : (KK w.params).In h₀) (hm : m (Str.ofString "self") = some (.ref x)) (h1 : (x, selfI dx) ∈ news) (h2 : (dx, dictOf es n) ∈ news) (ok : SelfOk w.params name) (hl : getL name es = some (some v)) (hv : handedIn v = true)
    (h : Q v { s with toks := s.toks + 1 }) (hk : cs.kind = .function) (hx : (envX cn cs L a ccd cl).kindOf (Str.ofString "self") = some .local) :
    wpAny (model pw w) A (eval (.Attribute (.Name (Str.ofString "self") p1) name p2) (envX cn cs L a ccd cl)) Q E s := by
  obtain ⟨k1, k2, at_, k3, k4⟩ := ok
  exact Attribute_Name_ (nameX_L F hm (get_own F X (InstAt.of_news N h1 h2) k1 k2 k3 k4 hl hv h) hk hx (by decide))
theorem get_cursorO {expr : Bool} {cur : Str} {c l lb bra ket : Int} {oip : Option Int} {k t : Nat → Tok} (h : Q (.int c (t 1)) { s with toks := s.toks + 1 }) (F : Fr h₀ L s.heap m := by k_asm) (N : News h₀ L s.heap [(x, selfI dx), (dx, dictOf (EO w.params cur c l lb bra ket oip k t) (nO oip))] := by k_asm) (X : (KK w.params).In h₀ := by k_asm) :
    wpAny (model pw w) A (getAttr (.ref x) (Str.ofString "cursor") expr) Q E s := self_get F N X (.head _) (.tail _ (.head _)) ok_cursor rfl (by k_handed) h
theorem name_auto {nm : Str} {pos : Pos} (h : Q v s) (F : Fr h₀ L s.heap m := by k_asm) (hv : m nm = some v := by exact Eq.refl (some _)) (hk : cs.kind = .function := by rfl) (hx : (envX cn cs L a ccd cl).kindOf nm = some .local := by rfl) (hd : (nm == ("__debug__" : Str)) = false := by decide) :
    wpAny (model pw w) A (eval (.Name nm pos) (envX cn cs L a ccd cl)) Q E s := nameX_L F hv h hk hx hd
theorem attr_auto (h : Q v { s with toks := s.toks + 1 }) (F : Fr h₀ L s.heap m := by k_asm) (N : News h₀ L s.heap news := by k_asm) (X : (KK w.params).In h₀ := by k_asm) (hm : m (Str.ofString "self") = some (.ref x) := by exact Eq.refl (some _)) (h1 : (x, selfI dx) ∈ news := by k_mem) (h2 : (dx, dictOf es n) ∈ news := by k_mem)
    (ok : SelfOk w.params name := by with_reducible first | exact ok_current | exact ok_cursor | exact ok_limit | exact ok_limit_backward | exact ok_bra | exact ok_ket | exact ok_I_p1) (hl : getL name es = some (some v) := by first | k_get | exact rfl) (hv : handedIn v = true := by k_handed) (hk : cs.kind = .function := by rfl) (hx : (envX cn cs L a ccd cl).kindOf (Str.ofString "self") = some .local := by rfl) :
    wpAny (model pw w) A (eval (.Attribute (.Name (Str.ofString "self") p1) name p2) (envX cn cs L a ccd cl)) Q E s := attr_self F N X hm h1 h2 ok hl hv h hk hx
end
section
variable {w : World} {A : Around} {E : Value → Shared → Prop} {Q : Unit → Shared → Prop} {s : Shared} {h₀ : Heap} {L x dx : Addr} {m : Str → Option Value} {cur cur' : Str} {c c' l l' lb lb' bra bra' ket ket' ip ip' : Int} {k t : Nat → Tok} {u : Tok}
theorem set_current6 (F : Fr h₀ L s.heap m) (N : News h₀ L s.heap [(x, selfI dx), (dx, dictOf (E6 w.params cur c l lb bra ket k t) 6)]) (X : (KK w.params).In h₀) (ne : x ≠ dx)
    (h : ∀ h' k t, Fr h₀ L h' m → News h₀ L h' [(x, selfI dx), (dx, dictOf (E6 w.params cur' c l lb bra ket k t) 6)] → Q () { s with heap := h', toks := s.toks + 2 }) :
    wpAny (model pw w) A (setAttr (.ref x) (Str.ofString "current") (.str cur' u)) Q E s := by
  refine' set_dict F X N ?k4 ?k5 ?k6 ?k7 ?k8 ?k9 ?k10 ?k11 ?k12 ?k13 ?_
  case k4 => k_inst
  case k5 => exact rfl
  case k6 => k_is
  case k7 => k_is
  case k8 => k_is
  case k9 => k_is
  case k10 => k_get
  case k11 => k_put
  case k12 => k_upd
  case k13 => exact Nat.le_of_ble_eq_true rfl
  intro h' F' N'
  exact h h' k (upT t 0 u) F' N'
theorem set_cursor6 (F : Fr h₀ L s.heap m) (N : News h₀ L s.heap [(x, selfI dx), (dx, dictOf (E6 w.params cur c l lb bra ket k t) 6)]) (X : (KK w.params).In h₀) (ne : x ≠ dx)
    (h : ∀ h' k t, Fr h₀ L h' m → News h₀ L h' [(x, selfI dx), (dx, dictOf (E6 w.params cur c' l lb bra ket k t) 6)] → Q () { s with heap := h', toks := s.toks + 2 }) :
    wpAny (model pw w) A (setAttr (.ref x) (Str.ofString "cursor") (.int c' u)) Q E s := by
  refine' set_dict F X N ?k4 ?k5 ?k6 ?k7 ?k8 ?k9 ?k10 ?k11 ?k12 ?k13 ?_
  case k4 => k_inst
  case k5 => exact rfl
  case k6 => k_is
  case k7 => k_is
  case k8 => k_is
  case k9 => k_is
  case k10 => k_get
  case k11 => k_put
  case k12 => k_upd
  case k13 => exact Nat.le_of_ble_eq_true rfl
  intro h' F' N'
  exact h h' k (upT t 1 u) F' N'
theorem set_limit6 (F : Fr h₀ L s.heap m) (N : News h₀ L s.heap [(x, selfI dx), (dx, dictOf (E6 w.params cur c l lb bra ket k t) 6)]) (X : (KK w.params).In h₀) (ne : x ≠ dx)
    (h : ∀ h' k t, Fr h₀ L h' m → News h₀ L h' [(x, selfI dx), (dx, dictOf (E6 w.params cur c l' lb bra ket k t) 6)] → Q () { s with heap := h', toks := s.toks + 2 }) :
    wpAny (model pw w) A (setAttr (.ref x) (Str.ofString "limit") (.int l' u)) Q E s := by
  refine' set_dict F X N ?k4 ?k5 ?k6 ?k7 ?k8 ?k9 ?k10 ?k11 ?k12 ?k13 ?_
  case k4 => k_inst
  case k5 => exact rfl
  case k6 => k_is
  case k7 => k_is
  case k8 => k_is
  case k9 => k_is
  case k10 => k_get
  case k11 => k_put
  case k12 => k_upd
  case k13 => exact Nat.le_of_ble_eq_true rfl
  intro h' F' N'
  exact h h' k (upT t 2 u) F' N'
theorem set_limit_backward6 (F : Fr h₀ L s.heap m) (N : News h₀ L s.heap [(x, selfI dx), (dx, dictOf (E6 w.params cur c l lb bra ket k t) 6)]) (X : (KK w.params).In h₀) (ne : x ≠ dx)
    (h : ∀ h' k t, Fr h₀ L h' m → News h₀ L h' [(x, selfI dx), (dx, dictOf (E6 w.params cur c l lb' bra ket k t) 6)] → Q () { s with heap := h', toks := s.toks + 2 }) :
    wpAny (model pw w) A (setAttr (.ref x) (Str.ofString "limit_backward") (.int lb' u)) Q E s := by
  refine' set_dict F X N ?k4 ?k5 ?k6 ?k7 ?k8 ?k9 ?k10 ?k11 ?k12 ?k13 ?_
  case k4 => k_inst
  case k5 => exact rfl
  case k6 => k_is
  case k7 => k_is
  case k8 => k_is
  case k9 => k_is
  case k10 => k_get
  case k11 => k_put
  case k12 => k_upd
  case k13 => exact Nat.le_of_ble_eq_true rfl
  intro h' F' N'
  exact h h' k (upT t 3 u) F' N'
theorem set_bra6 (F : Fr h₀ L s.heap m) (N : News h₀ L s.heap [(x, selfI dx), (dx, dictOf (E6 w.params cur c l lb bra ket k t) 6)]) (X : (KK w.params).In h₀) (ne : x ≠ dx)
    (h : ∀ h' k t, Fr h₀ L h' m → News h₀ L h' [(x, selfI dx), (dx, dictOf (E6 w.params cur c l lb bra' ket k t) 6)] → Q () { s with heap := h', toks := s.toks + 2 }) :
    wpAny (model pw w) A (setAttr (.ref x) (Str.ofString "bra") (.int bra' u)) Q E s := by
  refine' set_dict F X N ?k4 ?k5 ?k6 ?k7 ?k8 ?k9 ?k10 ?k11 ?k12 ?k13 ?_
  case k4 => k_inst
  case k5 => exact rfl
  case k6 => k_is
  case k7 => k_is
  case k8 => k_is
  case k9 => k_is
  case k10 => k_get
  case k11 => k_put
  case k12 => k_upd
  case k13 => exact Nat.le_of_ble_eq_true rfl
  intro h' F' N'
  exact h h' k (upT t 4 u) F' N'
theorem set_ket6 (F : Fr h₀ L s.heap m) (N : News h₀ L s.heap [(x, selfI dx), (dx, dictOf (E6 w.params cur c l lb bra ket k t) 6)]) (X : (KK w.params).In h₀) (ne : x ≠ dx)
    (h : ∀ h' k t, Fr h₀ L h' m → News h₀ L h' [(x, selfI dx), (dx, dictOf (E6 w.params cur c l lb bra ket' k t) 6)] → Q () { s with heap := h', toks := s.toks + 2 }) :
    wpAny (model pw w) A (setAttr (.ref x) (Str.ofString "ket") (.int ket' u)) Q E s := by
  refine' set_dict F X N ?k4 ?k5 ?k6 ?k7 ?k8 ?k9 ?k10 ?k11 ?k12 ?k13 ?_
  case k4 => k_inst
  case k5 => exact rfl
  case k6 => k_is
  case k7 => k_is
  case k8 => k_is
  case k9 => k_is
  case k10 => k_get
  case k11 => k_put
  case k12 => k_upd
  case k13 => exact Nat.le_of_ble_eq_true rfl
  intro h' F' N'
  exact h h' k (upT t 5 u) F' N'
theorem set_I_p16 (F : Fr h₀ L s.heap m) (N : News h₀ L s.heap [(x, selfI dx), (dx, dictOf (E6 w.params cur c l lb bra ket k t) 6)]) (X : (KK w.params).In h₀) (ne : x ≠ dx)
    (h : ∀ h' k t, Fr h₀ L h' m → News h₀ L h' [(x, selfI dx), (dx, dictOf (E7 w.params cur c l lb bra ket ip' k t) 7)] → Q () { s with heap := h', toks := s.toks + 2 }) :
    wpAny (model pw w) A (setAttr (.ref x) (Str.ofString "I_p1") (.int ip' u)) Q E s := by
  refine' set_dict F X N ?k4 ?k5 ?k6 ?k7 ?k8 ?k9 ?k10 ?k11 ?k12 ?k13 ?_
  case k4 => k_inst
  case k5 => exact rfl
  case k6 => k_is
  case k7 => k_is
  case k8 => k_is
  case k9 => k_is
  case k10 => k_get
  case k11 => k_put
  case k12 => k_upd
  case k13 => exact Nat.le_of_ble_eq_true rfl
  intro h' F' N'
  exact h h' (upT k 6 (s.toks + 1)) (upT t 6 u) F' N'
theorem set_current7 (F : Fr h₀ L s.heap m) (N : News h₀ L s.heap [(x, selfI dx), (dx, dictOf (E7 w.params cur c l lb bra ket ip k t) 7)]) (X : (KK w.params).In h₀) (ne : x ≠ dx)
    (h : ∀ h' k t, Fr h₀ L h' m → News h₀ L h' [(x, selfI dx), (dx, dictOf (E7 w.params cur' c l lb bra ket ip k t) 7)] → Q () { s with heap := h', toks := s.toks + 2 }) :
    wpAny (model pw w) A (setAttr (.ref x) (Str.ofString "current") (.str cur' u)) Q E s := by
  refine' set_dict F X N ?k4 ?k5 ?k6 ?k7 ?k8 ?k9 ?k10 ?k11 ?k12 ?k13 ?_
  case k4 => k_inst
  case k5 => exact rfl
  case k6 => k_is
  case k7 => k_is
  case k8 => k_is
  case k9 => k_is
  case k10 => k_get
  case k11 => k_put
  case k12 => k_upd
  case k13 => exact Nat.le_of_ble_eq_true rfl
  intro h' F' N'
  exact h h' k (upT t 0 u) F' N'
theorem set_cursor7 (F : Fr h₀ L s.heap m) (N : News h₀ L s.heap [(x, selfI dx), (dx, dictOf (E7 w.params cur c l lb bra ket ip k t) 7)]) (X : (KK w.params).In h₀) (ne : x ≠ dx)
    (h : ∀ h' k t, Fr h₀ L h' m → News h₀ L h' [(x, selfI dx), (dx, dictOf (E7 w.params cur c' l lb bra ket ip k t) 7)] → Q () { s with heap := h', toks := s.toks + 2 }) :
    wpAny (model pw w) A (setAttr (.ref x) (Str.ofString "cursor") (.int c' u)) Q E s := by
  refine' set_dict F X N ?k4 ?k5 ?k6 ?k7 ?k8 ?k9 ?k10 ?k11 ?k12 ?k13 ?_
  case k4 => k_inst
  case k5 => exact rfl
  case k6 => k_is
  case k7 => k_is
  case k8 => k_is
  case k9 => k_is
  case k10 => k_get
  case k11 => k_put
  case k12 => k_upd
  case k13 => exact Nat.le_of_ble_eq_true rfl
  intro h' F' N'
  exact h h' k (upT t 1 u) F' N'
theorem set_limit7 (F : Fr h₀ L s.heap m) (N : News h₀ L s.heap [(x, selfI dx), (dx, dictOf (E7 w.params cur c l lb bra ket ip k t) 7)]) (X : (KK w.params).In h₀) (ne : x ≠ dx)
    (h : ∀ h' k t, Fr h₀ L h' m → News h₀ L h' [(x, selfI dx), (dx, dictOf (E7 w.params cur c l' lb bra ket ip k t) 7)] → Q () { s with heap := h', toks := s.toks + 2 }) :
    wpAny (model pw w) A (setAttr (.ref x) (Str.ofString "limit") (.int l' u)) Q E s := by
  refine' set_dict F X N ?k4 ?k5 ?k6 ?k7 ?k8 ?k9 ?k10 ?k11 ?k12 ?k13 ?_
  case k4 => k_inst
  case k5 => exact rfl
  case k6 => k_is
  case k7 => k_is
  case k8 => k_is
  case k9 => k_is
  case k10 => k_get
  case k11 => k_put
  case k12 => k_upd
  case k13 => exact Nat.le_of_ble_eq_true rfl
  intro h' F' N'
  exact h h' k (upT t 2 u) F' N'
theorem set_limit_backward7 (F : Fr h₀ L s.heap m) (N : News h₀ L s.heap [(x, selfI dx), (dx, dictOf (E7 w.params cur c l lb bra ket ip k t) 7)]) (X : (KK w.params).In h₀) (ne : x ≠ dx)
    (h : ∀ h' k t, Fr h₀ L h' m → News h₀ L h' [(x, selfI dx), (dx, dictOf (E7 w.params cur c l lb' bra ket ip k t) 7)] → Q () { s with heap := h', toks := s.toks + 2 }) :
    wpAny (model pw w) A (setAttr (.ref x) (Str.ofString "limit_backward") (.int lb' u)) Q E s := by
  refine' set_dict F X N ?k4 ?k5 ?k6 ?k7 ?k8 ?k9 ?k10 ?k11 ?k12 ?k13 ?_
  case k4 => k_inst
  case k5 => exact rfl
  case k6 => k_is
  case k7 => k_is
  case k8 => k_is
  case k9 => k_is
  case k10 => k_get
  case k11 => k_put
  case k12 => k_upd
  case k13 => exact Nat.le_of_ble_eq_true rfl
  intro h' F' N'
  exact h h' k (upT t 3 u) F' N'
theorem set_bra7 (F : Fr h₀ L s.heap m) (N : News h₀ L s.heap [(x, selfI dx), (dx, dictOf (E7 w.params cur c l lb bra ket ip k t) 7)]) (X : (KK w.params).In h₀) (ne : x ≠ dx)
    (h : ∀ h' k t, Fr h₀ L h' m → News h₀ L h' [(x, selfI dx), (dx, dictOf (E7 w.params cur c l lb bra' ket ip k t) 7)] → Q () { s with heap := h', toks := s.toks + 2 }) :
    wpAny (model pw w) A (setAttr (.ref x) (Str.ofString "bra") (.int bra' u)) Q E s := by
  refine' set_dict F X N ?k4 ?k5 ?k6 ?k7 ?k8 ?k9 ?k10 ?k11 ?k12 ?k13 ?_
  case k4 => k_inst
  case k5 => exact rfl
  case k6 => k_is
  case k7 => k_is
  case k8 => k_is
  case k9 => k_is
  case k10 => k_get
  case k11 => k_put
  case k12 => k_upd
  case k13 => exact Nat.le_of_ble_eq_true rfl
  intro h' F' N'
  exact h h' k (upT t 4 u) F' N'
theorem set_ket7 (F : Fr h₀ L s.heap m) (N : News h₀ L s.heap [(x, selfI dx), (dx, dictOf (E7 w.params cur c l lb bra ket ip k t) 7)]) (X : (KK w.params).In h₀) (ne : x ≠ dx)
    (h : ∀ h' k t, Fr h₀ L h' m → News h₀ L h' [(x, selfI dx), (dx, dictOf (E7 w.params cur c l lb bra ket' ip k t) 7)] → Q () { s with heap := h', toks := s.toks + 2 }) :
    wpAny (model pw w) A (setAttr (.ref x) (Str.ofString "ket") (.int ket' u)) Q E s := by
  refine' set_dict F X N ?k4 ?k5 ?k6 ?k7 ?k8 ?k9 ?k10 ?k11 ?k12 ?k13 ?_
  case k4 => k_inst
  case k5 => exact rfl
  case k6 => k_is
  case k7 => k_is
  case k8 => k_is
  case k9 => k_is
  case k10 => k_get
  case k11 => k_put
  case k12 => k_upd
  case k13 => exact Nat.le_of_ble_eq_true rfl
  intro h' F' N'
  exact h h' k (upT t 5 u) F' N'
theorem set_I_p17 (F : Fr h₀ L s.heap m) (N : News h₀ L s.heap [(x, selfI dx), (dx, dictOf (E7 w.params cur c l lb bra ket ip k t) 7)]) (X : (KK w.params).In h₀) (ne : x ≠ dx)
    (h : ∀ h' k t, Fr h₀ L h' m → News h₀ L h' [(x, selfI dx), (dx, dictOf (E7 w.params cur c l lb bra ket ip' k t) 7)] → Q () { s with heap := h', toks := s.toks + 2 }) :
    wpAny (model pw w) A (setAttr (.ref x) (Str.ofString "I_p1") (.int ip' u)) Q E s := by
  refine' set_dict F X N ?k4 ?k5 ?k6 ?k7 ?k8 ?k9 ?k10 ?k11 ?k12 ?k13 ?_
  case k4 => k_inst
  case k5 => exact rfl
  case k6 => k_is
  case k7 => k_is
  case k8 => k_is
  case k9 => k_is
  case k10 => k_get
  case k11 => k_put
  case k12 => k_upd
  case k13 => exact Nat.le_of_ble_eq_true rfl
  intro h' F' N'
  exact h h' k (upT t 6 u) F' N'
theorem set_self7 {name : Str} {v : Value} (h : ∀ h' k t, Fr h₀ L h' m → News h₀ L h' [(x, selfI dx), (dx, dictOf (E7 w.params cur' c' l' lb' bra' ket' ip' k t) 7)] → Q () { s with heap := h', toks := s.toks + 2 })
    (F : Fr h₀ L s.heap m := by k_asm) (N : News h₀ L s.heap [(x, selfI dx), (dx, dictOf (E7 w.params cur c l lb bra ket ip k t) 7)] := by k_asm) (X : (KK w.params).In h₀ := by k_asm) (ne : x ≠ dx := by assumption) (p : Put7 cur c l lb bra ket ip name v cur' c' l' lb' bra' ket' ip' := by with_reducible constructor) :
    wpAny (model pw w) A (setAttr (.ref x) name v) Q E s := by
  exact Put7.rec (motive := fun name v cur' c' l' lb' bra' ket' ip' _ => (∀ h' k t, Fr h₀ L h' m → News h₀ L h' [(x, selfI dx), (dx, dictOf (E7 w.params cur' c' l' lb' bra' ket' ip' k t) 7)] → Q () { s with heap := h', toks := s.toks + 2 }) → wpAny (model pw w) A (setAttr (.ref x) name v) Q E s)
    (fun _ _ h => set_current7 F N X ne h) (fun _ _ h => set_cursor7 F N X ne h) (fun _ _ h => set_limit7 F N X ne h) (fun _ _ h => set_limit_backward7 F N X ne h) (fun _ _ h => set_bra7 F N X ne h) (fun _ _ h => set_ket7 F N X ne h) (fun _ _ h => set_I_p17 F N X ne h) p h
theorem set_self6 {name : Str} {v : Value} (h : ∀ h' k t, Fr h₀ L h' m → News h₀ L h' [(x, selfI dx), (dx, dictOf (E6 w.params cur' c' l' lb' bra' ket' k t) 6)] → Q () { s with heap := h', toks := s.toks + 2 })
    (F : Fr h₀ L s.heap m := by k_asm) (N : News h₀ L s.heap [(x, selfI dx), (dx, dictOf (E6 w.params cur c l lb bra ket k t) 6)] := by k_asm) (X : (KK w.params).In h₀ := by k_asm) (ne : x ≠ dx := by assumption) (p : Put6 cur c l lb bra ket name v cur' c' l' lb' bra' ket' := by with_reducible constructor) :
    wpAny (model pw w) A (setAttr (.ref x) name v) Q E s := by
  exact Put6.rec (motive := fun name v cur' c' l' lb' bra' ket' _ => (∀ h' k t, Fr h₀ L h' m → News h₀ L h' [(x, selfI dx), (dx, dictOf (E6 w.params cur' c' l' lb' bra' ket' k t) 6)] → Q () { s with heap := h', toks := s.toks + 2 }) → wpAny (model pw w) A (setAttr (.ref x) name v) Q E s)
    (fun _ _ h => set_current6 F N X ne h) (fun _ _ h => set_cursor6 F N X ne h) (fun _ _ h => set_limit6 F N X ne h) (fun _ _ h => set_limit_backward6 F N X ne h) (fun _ _ h => set_bra6 F N X ne h) (fun _ _ h => set_ket6 F N X ne h) p h
theorem set_cursorO {oip : Option Int} (h : ∀ h' k t, Fr h₀ L h' m → News h₀ L h' [(x, selfI dx), (dx, dictOf (EO w.params cur c' l lb bra ket oip k t) (nO oip))] → Q () { s with heap := h', toks := s.toks + 2 })
    (F : Fr h₀ L s.heap m := by k_asm) (N : News h₀ L s.heap [(x, selfI dx), (dx, dictOf (EO w.params cur c l lb bra ket oip k t) (nO oip))] := by k_asm) (X : (KK w.params).In h₀ := by k_asm) (ne : x ≠ dx := by assumption) :
    wpAny (model pw w) A (setAttr (.ref x) (Str.ofString "cursor") (.int c' u)) Q E s := by
  cases oip
  · exact set_cursor6 F N X ne h
  · exact set_cursor7 F N X ne h
theorem set_I_p1O {oip : Option Int} (h : ∀ h' k t, Fr h₀ L h' m → News h₀ L h' [(x, selfI dx), (dx, dictOf (E7 w.params cur c l lb bra ket ip' k t) 7)] → Q () { s with heap := h', toks := s.toks + 2 })
    (F : Fr h₀ L s.heap m := by k_asm) (N : News h₀ L s.heap [(x, selfI dx), (dx, dictOf (EO w.params cur c l lb bra ket oip k t) (nO oip))] := by k_asm) (X : (KK w.params).In h₀ := by k_asm) (ne : x ≠ dx := by assumption) :
    wpAny (model pw w) A (setAttr (.ref x) (Str.ofString "I_p1") (.int ip' u)) Q E s := by
  cases oip
  · exact set_I_p16 F N X ne h
  · exact set_I_p17 F N X ne h
end
end
section
open PySem PySem.W PySem.Calls PyProof.Rows
set_option maxHeartbeats 4000000
end
local macro_rules | `(tactic| walk_at "execs cons") => `(tactic| ((with_reducible rename Base _ => bs'); first | (with_reducible refine hid_one bs' ?_; intro _) | (with_reducible refine hid_cons bs' ?_; intro _ _ _) | fail "hid"))
section
open PySem PySem.W PySem.Calls PyProof.Rows
set_option maxHeartbeats 4000000
end
local macro_rules | `(tactic| walk_at "execs nil") => `(tactic| (with_reducible refine wpAny_execs_nil ?_))
section
open PySem PySem.W PySem.Calls PyProof.Rows
set_option maxHeartbeats 4000000
end
local macro_rules | `(tactic| walk_at "WhileStep2") => `(tactic| (with_reducible refine while_ret ?_))
section
open PySem PySem.W PySem.Calls PyProof.Rows
set_option maxHeartbeats 4000000
end
local macro_rules | `(tactic| walk_at "own hid") => `(tactic| (k_end; (with_reducible rename Hid _ _ _ _ => hK'); first | ((first | with_reducible refine (@Hid.nx _ _ _ _ hK') ?_ | with_reducible refine (@Hid.rt _ _ _ _ hK') ?_ | with_reducible refine (@Hid.bk _ _ _ _ hK') ?_ | with_reducible refine (@Hid.ct _ _ _ _ hK') ?_); (clear hK'); intro _) | ((clear hK'); walk_at "own hid")))
section
open PySem PySem.W PySem.Calls PyProof.Rows
set_option maxHeartbeats 4000000
end
local macro_rules | `(tactic| k_steps) => `(tactic| repeat' ((fail_if_success (with_reducible show wpAny _ _ (call (Value.ref _) _) _ _ _)); first | (k_end; walk_at "own hid") | (k_unfold; (try dsimp only)) | (k_end; kc_close) | walk1 | (dsimp only; (first | walk1 | walk_at "own hid")) | (leave1; walk_say "STEP leave1"; (try dsimp only)) | fail "no step"))
section
open PySem PySem.W PySem.Calls PyProof.Rows
set_option maxHeartbeats 4000000
end
local macro_rules | `(tactic| walk_at "eval Attribute Name") => `(tactic| ((with_reducible show wpAny _ _ (eval (PySem.Expr.Attribute (PySem.Expr.Name (Str.ofString "self") _) _ _) _) _ _ _); k_dflt (refine attr_auto ?_)))
section
open PySem PySem.W PySem.Calls PyProof.Rows
set_option maxHeartbeats 4000000
end
local macro_rules | `(tactic| walk_at "setAttr ref") => `(tactic| ((k_dflt first | refine set_self7 ?_ | refine set_self6 ?_); intro _ _ _ F' N'; (try k_sweep)))
section
open PySem PySem.W PySem.Calls PyProof.Rows
set_option maxHeartbeats 4000000
end
local macro_rules | `(tactic| walk_at "eval Name") => `(tactic| (k_dflt (refine name_auto ?_)))
section
open PySem PySem.W PySem.Calls PyProof.Rows
set_option maxHeartbeats 4000000
end
local macro_rules | `(tactic| k_in) => `(tactic| (with_reducible first | assumption | exact Frag.In.keeps (by assumption) (Fr.keep (by assumption))))
section
open PySem PySem.W PySem.Calls PyProof.Rows
set_option maxHeartbeats 4000000
section
variable {w : World} {A : Around} {E : Value → Shared → Prop} {s : Shared} {mg mb : Str → Option Value} {H : Heap} {x dx : Addr} {od : Obj} {Q : Value → Shared → Prop}
theorem set_current_6 {cur v : Str} {c l lb bra ket : Int} {tv : Tok}
    (hA : A.depth + 40 < recursionLimit) (hv : v.length ≤ 100000) (M : Me w mg mb H s.heap x dx od) (hd : IsSt w cur c l lb bra ket none od)
    (hQ : On w mg mb H s x dx Q .none (IsSt w v 0 v.length 0 0 v.length none)) :
    wpAny (model pw w) A (call (.ref 42) [.ref x, .str v tv]) Q E s := by
  first | (refine entry7 hd M ?_; clear hd M; intro _ _ M) | (refine entry6 hd M ?_; clear hd M; intro _ _ M) | cases hd
  refine wpAny_call ?_
  refine' enter_self [("self", .ref x), ("value", .str v tv)] M ?k1 ?k2 ?k3 ?k4 ?k5 ?_ ?c2 ?c3 ?c4 ?c5
  case k1 => k_is
  case k2 => k_is
  case k3 => lia
  case k4 => exact BindsTo.of_eq rfl
  case c5 => decide
  case k5 => exact locs rfl
  case c2 => exact rfl
  case c3 => exact rfl
  case c4 => exact rfl
  have hne0 := M.ne
  have hne := neN M.ne
  clear M
  intro g L' h' O KX T F' N' fin
  try dsimp only
  first | (with_reducible refine hid_all s ?_; intro _ _ _) | skip
  k_steps
  repeat walk_at "own hid"
  refine fin.out (by assumption) (by assumption) (hQ) ?_
  exact .six ..
theorem set_current_7 {cur v : Str} {c l lb bra ket ip : Int} {tv : Tok}
    (hA : A.depth + 40 < recursionLimit) (hv : v.length ≤ 100000) (M : Me w mg mb H s.heap x dx od) (hd : IsSt w cur c l lb bra ket (some ip) od)
    (hQ : On w mg mb H s x dx Q .none (IsSt w v 0 v.length 0 0 v.length (some ip))) :
    wpAny (model pw w) A (call (.ref 42) [.ref x, .str v tv]) Q E s := by
  first | (refine entry7 hd M ?_; clear hd M; intro _ _ M) | (refine entry6 hd M ?_; clear hd M; intro _ _ M) | cases hd
  refine wpAny_call ?_
  refine' enter_self [("self", .ref x), ("value", .str v tv)] M ?k1 ?k2 ?k3 ?k4 ?k5 ?_ ?c2 ?c3 ?c4 ?c5
  case k1 => k_is
  case k2 => k_is
  case k3 => lia
  case k4 => exact BindsTo.of_eq rfl
  case c5 => decide
  case k5 => exact locs rfl
  case c2 => exact rfl
  case c3 => exact rfl
  case c4 => exact rfl
  have hne0 := M.ne
  have hne := neN M.ne
  clear M
  intro g L' h' O KX T F' N' fin
  try dsimp only
  first | (with_reducible refine hid_all s ?_; intro _ _ _) | skip
  k_steps
  repeat walk_at "own hid"
  refine fin.out (by assumption) (by assumption) (hQ) ?_
  exact .seven ..
theorem get_current_6 {cur : Str} {c l lb bra ket : Int}
    (hA : A.depth + 40 < recursionLimit) (M : Me w mg mb H s.heap x dx od) (hd : IsSt w cur c l lb bra ket none od)
    (hQ : ∀ t, On w mg mb H s x dx Q (.str cur t) (IsSt w cur c l lb bra ket none)) :
    wpAny (model pw w) A (call (.ref 49) [.ref x]) Q E s := by
  first | (refine entry7 hd M ?_; clear hd M; intro _ _ M) | (refine entry6 hd M ?_; clear hd M; intro _ _ M) | cases hd
  refine wpAny_call ?_
  refine' enter_self [("self", .ref x)] M ?k1 ?k2 ?k3 ?k4 ?k5 ?_ ?c2 ?c3 ?c4 ?c5
  case k1 => k_is
  case k2 => k_is
  case k3 => lia
  case k4 => exact BindsTo.of_eq rfl
  case c5 => decide
  case k5 => exact locs rfl
  case c2 => exact rfl
  case c3 => exact rfl
  case c4 => exact rfl
  have hne0 := M.ne
  have hne := neN M.ne
  clear M
  intro g L' h' O KX T F' N' fin
  try dsimp only
  first | (with_reducible refine hid_all s ?_; intro _ _ _) | skip
  k_steps
  repeat walk_at "own hid"
  refine fin.out (by assumption) (by assumption) ((hQ _)) ?_
  exact .six ..
end
end
section
open PySem PySem.W PySem.Calls PyProof.Rows
set_option maxHeartbeats 4000000
/-- where I want the walk to halt -/
noncomputable def Halt (p : Prop) : Prop := p
theorem Halt.out {p : Prop} (h : Halt p) : p := h
theorem Halt.mk {p : Prop} (h : p) : Halt p := h
/-- the text of the code points l -/
noncomputable def W (l : List Nat) : Str := ⟨l.toArray⟩
theorem W_len (l : List Nat) : (W l).length = l.length := by simp [W, Str.length]
theorem W_app (a b : List Nat) : W a ++ W b = W (a ++ b) := by
  show Str.append (W a) (W b) = W (a ++ b)
  unfold W Str.append
  simp
theorem W_of (x : Str) : W x.cps.toList = x := by cases x; rfl
theorem W_item {l : List Nat} {i : Int} (h0 : 0 ≤ i) (h1 : i < l.length) : Txt.item (W l) i = W [l.getD i.toNat 0] := by
  have h2 : i.toNat < l.length := by omega
  have e : seqIndex? i (W l).length = some i.toNat := by
    unfold seqIndex?
    rw [W_len]
    simp only []
    rw [if_neg (by omega : ¬ i < 0)]
    simp [h0, h1]
  unfold Txt.item Txt.charAt
  rw [e]
  simp [W, h2]
section
variable {w : World} {A : Around} {E : Value → Shared → Prop} {s : Shared} {Q : Value → Shared → Prop}
theorem x_item {value slice : PySem.Expr} {l : List Nat} {t u : Tok} {i : Int} (h0 : 0 ≤ i) (h1 : i < l.length) (hn : l.length ≤ 100000)
    (h : Q (.str (W [l.getD i.toNat 0]) s.toks) { s with toks := s.toks + 1 })
    (hs : subscripted slice false (.str (W l) t) (.int i u) = operate [.str (W l) t, .int i u] (getItem (.str (W l) t) (.int i u)) := by with_unfolding_all rfl)
    (ht : ∀ r, letTemporaryGo value (.str (W l) t) r = pure () := by intro _; with_unfolding_all rfl) :
    wpAny (model pw w) A (subscriptTail value slice (.str (W l) t) (.int i u)) Q E s :=
  item_str (fitsSsize_of (N := 9223372036854775808) (by omega) (by omega) (Int.le_refl _)) (by rw [W_len]; omega) (by rw [W_len]; omega) (fun _ => by rw [W_item h0 h1]; exact h) hs ht
theorem x_in {g : Heap} {L : Addr} {m : Str → Option Value} {a : Addr} {S : Str → Bool} {n : Nat} {y : Str} {t : Tok} (hS : g.SetOf (strKind pw w) a S n) (F : Fr g L s.heap m)
    (h : Q (.bool (S y)) { s with toks := s.toks + 1 }) : wpAny (model pw w) A (compareOp .In (.str y t) (.ref a)) Q E s :=
  wpAny_inSet_of (knd := strKind pw w) (strKind_is _ _ _ _) rfl (Heap_SetOf_keeps hS F.keep) h
theorem x_notin {g : Heap} {L : Addr} {m : Str → Option Value} {a : Addr} {S : Str → Bool} {n : Nat} {y : Str} {t : Tok} (hS : g.SetOf (strKind pw w) a S n) (F : Fr g L s.heap m)
    (h : Q (.bool (!S y)) { s with toks := s.toks + 1 }) : wpAny (model pw w) A (compareOp .NotIn (.str y t) (.ref a)) Q E s :=
  wpAny_notInSet_of (knd := strKind pw w) (strKind_is _ _ _ _) rfl (Heap_SetOf_keeps hS F.keep) h
end
end
local macro_rules | `(tactic| walk_at "subscriptTail") => `(tactic| (refine x_item (by omega) (by omega) (by omega) ?_))
section
open PySem PySem.W PySem.Calls PyProof.Rows
set_option maxHeartbeats 4000000
end
local macro_rules | `(tactic| walk_at "compareOp In") => `(tactic| (refine x_in (by assumption) (by assumption) ?_))
section
open PySem PySem.W PySem.Calls PyProof.Rows
set_option maxHeartbeats 4000000
end
local macro_rules | `(tactic| walk_at "compareOp NotIn") => `(tactic| (refine x_notin (by assumption) (by assumption) ?_))
section
open PySem PySem.W PySem.Calls PyProof.Rows
set_option maxHeartbeats 4000000
section
variable {w : World} {A : Around} {E : Value → Shared → Prop} {s : Shared} {mg mb : Str → Option Value} {H : Heap} {x dx : Addr} {od : Obj} {Q : Value → Shared → Prop}
theorem in_grouping {cur : List Nat} {c l lb bra ket ip : Int} {a : Addr} {S : Str → Bool}
    (hA : A.depth + 40 < recursionLimit) (M : Me w mg mb H s.heap x dx od) (hd : IsSt w (W cur) c l lb bra ket (some ip) od)
    (hS : ∀ g, Tops w g → ∃ m, g.SetOf (strKind pw w) a S m)
    (hc : 0 ≤ c) (hl : l ≤ cur.length) (hv : cur.length ≤ 100000)
    (hQ1 : c < l → S (W [cur.getD c.toNat 0]) = true → On w mg mb H s x dx Q (.bool true) (IsSt w (W cur) (c + 1) l lb bra ket (some ip)))
    (hQ2 : ¬ (c < l ∧ S (W [cur.getD c.toNat 0]) = true) → On w mg mb H s x dx Q (.bool false) (IsSt w (W cur) c l lb bra ket (some ip))) :
    wpAny (model pw w) A (call (.ref 63) [.ref x, .ref a]) Q E s := by
  first | (refine entry7 hd M ?_; clear hd M; intro _ _ M) | (refine entry6 hd M ?_; clear hd M; intro _ _ M) | cases hd
  refine wpAny_call ?_
  refine' enter_self [("self", .ref x), ("s", .ref a)] M ?k1 ?k2 ?k3 ?k4 ?k5 ?_ ?c2 ?c3 ?c4 ?c5
  case k1 => k_is
  case k2 => k_is
  case k3 => omega
  case k4 => exact BindsTo.of_eq rfl
  case c5 => decide
  case k5 => exact locs rfl
  case c2 => exact rfl
  case c3 => exact rfl
  case c4 => exact rfl
  have hne0 := M.ne
  have hne := neN M.ne
  clear M
  intro g L' h' O KX T F' N' fin
  try dsimp only
  first | (with_reducible refine hid_all s ?_; intro _ _ _) | skip
  obtain ⟨m, hSg⟩ := hS _ O.tops
  k_steps
  · have hq := hQ2 (by omega)
    repeat walk_at "own hid"
    refine fin.out (by assumption) (by assumption) (hq) ?_
    exact .seven ..
  · have hq := hQ1 (by omega) (by simp_all)
    repeat walk_at "own hid"
    refine fin.out (by assumption) (by assumption) (hq) ?_
    exact .seven ..
  · have hq := hQ2 (by simp_all)
    repeat walk_at "own hid"
    refine fin.out (by assumption) (by assumption) (hq) ?_
    exact .seven ..
theorem in_grouping_b {cur : List Nat} {c l lb bra ket ip : Int} {a : Addr} {S : Str → Bool}
    (hA : A.depth + 40 < recursionLimit) (M : Me w mg mb H s.heap x dx od) (hd : IsSt w (W cur) c l lb bra ket (some ip) od)
    (hS : ∀ g, Tops w g → ∃ m, g.SetOf (strKind pw w) a S m)
    (hc : 0 ≤ lb) (hl : c ≤ cur.length) (hv : cur.length ≤ 100000)
    (hQ1 : lb < c → S (W [cur.getD (c - 1).toNat 0]) = true → On w mg mb H s x dx Q (.bool true) (IsSt w (W cur) (c - 1) l lb bra ket (some ip)))
    (hQ2 : ¬ (lb < c ∧ S (W [cur.getD (c - 1).toNat 0]) = true) → On w mg mb H s x dx Q (.bool false) (IsSt w (W cur) c l lb bra ket (some ip))) :
    wpAny (model pw w) A (call (.ref 77) [.ref x, .ref a]) Q E s := by
  first | (refine entry7 hd M ?_; clear hd M; intro _ _ M) | (refine entry6 hd M ?_; clear hd M; intro _ _ M) | cases hd
  refine wpAny_call ?_
  refine' enter_self [("self", .ref x), ("s", .ref a)] M ?k1 ?k2 ?k3 ?k4 ?k5 ?_ ?c2 ?c3 ?c4 ?c5
  case k1 => k_is
  case k2 => k_is
  case k3 => omega
  case k4 => exact BindsTo.of_eq rfl
  case c5 => decide
  case k5 => exact locs rfl
  case c2 => exact rfl
  case c3 => exact rfl
  case c4 => exact rfl
  have hne0 := M.ne
  have hne := neN M.ne
  clear M
  intro g L' h' O KX T F' N' fin
  try dsimp only
  first | (with_reducible refine hid_all s ?_; intro _ _ _) | skip
  obtain ⟨m, hSg⟩ := hS _ O.tops
  k_steps
  · have hq := hQ2 (by omega)
    repeat walk_at "own hid"
    refine fin.out (by assumption) (by assumption) (hq) ?_
    exact .seven ..
  · have hq := hQ1 (by omega) (by simp_all)
    repeat walk_at "own hid"
    refine fin.out (by assumption) (by assumption) (hq) ?_
    exact .seven ..
  · have hq := hQ2 (by simp_all)
    repeat walk_at "own hid"
    refine fin.out (by assumption) (by assumption) (hq) ?_
    exact .seven ..
theorem out_grouping_b {cur : List Nat} {c l lb bra ket ip : Int} {a : Addr} {S : Str → Bool}
    (hA : A.depth + 40 < recursionLimit) (M : Me w mg mb H s.heap x dx od) (hd : IsSt w (W cur) c l lb bra ket (some ip) od)
    (hS : ∀ g, Tops w g → ∃ m, g.SetOf (strKind pw w) a S m)
    (hc : 0 ≤ lb) (hl : c ≤ cur.length) (hv : cur.length ≤ 100000)
    (hQ1 : lb < c → S (W [cur.getD (c - 1).toNat 0]) = false → On w mg mb H s x dx Q (.bool true) (IsSt w (W cur) (c - 1) l lb bra ket (some ip)))
    (hQ2 : ¬ (lb < c ∧ S (W [cur.getD (c - 1).toNat 0]) = false) → On w mg mb H s x dx Q (.bool false) (IsSt w (W cur) c l lb bra ket (some ip))) :
    wpAny (model pw w) A (call (.ref 105) [.ref x, .ref a]) Q E s := by
  first | (refine entry7 hd M ?_; clear hd M; intro _ _ M) | (refine entry6 hd M ?_; clear hd M; intro _ _ M) | cases hd
  refine wpAny_call ?_
  refine' enter_self [("self", .ref x), ("s", .ref a)] M ?k1 ?k2 ?k3 ?k4 ?k5 ?_ ?c2 ?c3 ?c4 ?c5
  case k1 => k_is
  case k2 => k_is
  case k3 => omega
  case k4 => exact BindsTo.of_eq rfl
  case c5 => decide
  case k5 => exact locs rfl
  case c2 => exact rfl
  case c3 => exact rfl
  case c4 => exact rfl
  have hne0 := M.ne
  have hne := neN M.ne
  clear M
  intro g L' h' O KX T F' N' fin
  try dsimp only
  first | (with_reducible refine hid_all s ?_; intro _ _ _) | skip
  obtain ⟨m, hSg⟩ := hS _ O.tops
  k_steps
  · have hq := hQ2 (by omega)
    repeat walk_at "own hid"
    refine fin.out (by assumption) (by assumption) (hq) ?_
    exact .seven ..
  · have hq := hQ2 (by simp_all)
    repeat walk_at "own hid"
    refine fin.out (by assumption) (by assumption) (hq) ?_
    exact .seven ..
  · have hq := hQ1 (by omega) (by simp_all)
    repeat walk_at "own hid"
    refine fin.out (by assumption) (by assumption) (hq) ?_
    exact .seven ..
end
end
section
open PySem PySem.W PySem.Calls PyProof.Rows
set_option maxHeartbeats 4000000
end
local macro_rules | `(tactic| walk_at "exec While Compare") => `(tactic| (refine Halt.out ?_))
section
open PySem PySem.W PySem.Calls PyProof.Rows
set_option maxHeartbeats 4000000
section
variable {w : World} {A : Around} {E : Value → Shared → Prop} {Q : Flow → Shared → Prop} {s : Shared} {env : Env} {h₀ : Heap} {L : Addr}
/-- a while that stores no local name and changes the stemmer's dict alone -/
theorem While_self {test : Expr} {body : List Stmt} {pos : Pos} {m : Str → Option Value} {x dx : Addr} {od : Obj} (J : Nat → Obj → Prop) (n₀ : Nat)
    (F : Fr h₀ L s.heap m) (N : News h₀ L s.heap [(x, selfI dx), (dx, od)]) (hJ : J n₀ od)
    (turn : ∀ n od₁ h₁ tk₁, Fr h₀ L h₁ m → News h₀ L h₁ [(x, selfI dx), (dx, od₁)] → J n od₁ →
      wpAny (model pw w) A (isTrue test env (eval test env)) (fun b s₂ =>
        if b = true then wpAny (model pw w) A (execs body env) (WhileStep2 h₀ L s (fun n m₁ news₁ => m₁ = m ∧ ∃ od', news₁ = [(x, selfI dx), (dx, od')] ∧ J n od') Q n) E s₂ else Q .next s₂) E { s with heap := h₁, toks := tk₁ })
    (hE : PassesOwn (model pw w) A env E := by passes_own) :
    wpAny (model pw w) A (exec (.While test body [] pos) env) Q E s := by
  refine While_inv2 (fun n m₁ news₁ => m₁ = m ∧ ∃ od', news₁ = [(x, selfI dx), (dx, od')] ∧ J n od') F N ⟨rfl, od, rfl, hJ⟩ ?_ hE
  rintro n m₁ news₁ h₁ tk₁ F₁ N₁ ⟨rfl, od', rfl, hj⟩
  exact turn n od' h₁ tk₁ F₁ N₁ hj
theorem turn_self {m : Str → Option Value} {x dx : Addr} {od : Obj} {J : Nat → Obj → Prop} {n n' tk : Nat} {h' : Heap} (F : Fr h₀ L h' m) (N : News h₀ L h' [(x, selfI dx), (dx, od)]) (hn : n' < n) (hj : J n' od) :
    WhileStep2 h₀ L s (fun n m₁ news₁ => m₁ = m ∧ ∃ od', news₁ = [(x, selfI dx), (dx, od')] ∧ J n od') Q n .next { s with heap := h', toks := tk } :=
  ⟨h', tk, m, _, n', rfl, F, N, hn, rfl, od, rfl, hj⟩
end
section
variable {w : World} {A : Around} {E : Value → Shared → Prop} {s : Shared} {mg mb : Str → Option Value} {H : Heap} {x dx : Addr} {od : Obj} {Q : Value → Shared → Prop}
theorem go_in_grouping {cur : List Nat} {c l lb bra ket ip : Int} {a : Addr} {S : Str → Bool}
    (hA : A.depth + 40 < recursionLimit) (M : Me w mg mb H s.heap x dx od) (hd : IsSt w (W cur) c l lb bra ket (some ip) od)
    (hS : ∀ g, Tops w g → ∃ m, g.SetOf (strKind pw w) a S m)
    (hc : 0 ≤ c) (hcl : c ≤ l) (hl : l ≤ cur.length) (hv : cur.length ≤ 100000)
    (hQ1 : ∀ c', c ≤ c' → c' < l → (∀ k, c ≤ k → k < c' → S (W [cur.getD k.toNat 0]) = true) → S (W [cur.getD c'.toNat 0]) = false → On w mg mb H s x dx Q (.bool true) (IsSt w (W cur) c' l lb bra ket (some ip)))
    (hQ2 : (∀ k, c ≤ k → k < l → S (W [cur.getD k.toNat 0]) = true) → On w mg mb H s x dx Q (.bool false) (IsSt w (W cur) l l lb bra ket (some ip))) :
    wpAny (model pw w) A (call (.ref 70) [.ref x, .ref a]) Q E s := by
  first | (refine entry7 hd M ?_; clear hd M; intro _ _ M) | (refine entry6 hd M ?_; clear hd M; intro _ _ M) | cases hd
  refine wpAny_call ?_
  refine' enter_self [("self", .ref x), ("s", .ref a)] M ?k1 ?k2 ?k3 ?k4 ?k5 ?_ ?c2 ?c3 ?c4 ?c5
  case k1 => k_is
  case k2 => k_is
  case k3 => lia
  case k4 => exact BindsTo.of_eq rfl
  case c5 => decide
  case k5 => exact locs rfl
  case c2 => exact rfl
  case c3 => exact rfl
  case c4 => exact rfl
  have hne0 := M.ne
  have hne := neN M.ne
  clear M
  intro g L' h' O KX T F' N' fin
  try dsimp only
  first | (with_reducible refine hid_all s ?_; intro _ _ _) | skip
  obtain ⟨m, hSg⟩ := hS _ O.tops
  k_steps
  first | with_reducible refine Halt.mk ?_ | skip
  refine While_self (fun n od' => ∃ c', IsSt w (W cur) c' l lb bra ket (some ip) od' ∧ c ≤ c' ∧ c' ≤ l ∧ (∀ k, c ≤ k → k < c' → S (W [cur.getD k.toNat 0]) = true) ∧ n = (l - c').toNat) (l - c).toNat (by assumption) (by assumption) ?_ ?_
  · exact ⟨c, .seven .., Int.le_refl _, hcl, fun k a b => absurd b (Int.not_lt.mpr a), rfl⟩
  clear N' F'
  rintro n od₁ h₁ tk₁ F' N' ⟨c', hd, hlo, hhi, hall, rfl⟩
  refine loop7 hd N' ?_; clear hd N'; intro _ _ N'
  k_steps
  · refine turn_self (by assumption) (by assumption) (n' := (l - (c' + 1)).toNat) (by lia) ⟨c' + 1, .seven .., by lia, by lia, fun k a b => ?_, rfl⟩
    by_cases hk : k < c'
    · exact hall k a hk
    · have : k = c' := by lia
      subst this
      simp_all
  · have hq := hQ1 c' (by lia) (by lia) hall (by simp_all)
    repeat walk_at "own hid"
    refine fin.out (by assumption) (by assumption) (hq) ?_
    exact .seven ..
  · have : c' = l := by lia
    subst this
    have hq := hQ2 hall
    repeat walk_at "own hid"
    refine fin.out (by assumption) (by assumption) (hq) ?_
    exact .seven ..
theorem go_out_grouping {cur : List Nat} {c l lb bra ket ip : Int} {a : Addr} {S : Str → Bool}
    (hA : A.depth + 40 < recursionLimit) (M : Me w mg mb H s.heap x dx od) (hd : IsSt w (W cur) c l lb bra ket (some ip) od)
    (hS : ∀ g, Tops w g → ∃ m, g.SetOf (strKind pw w) a S m)
    (hc : 0 ≤ c) (hcl : c ≤ l) (hl : l ≤ cur.length) (hv : cur.length ≤ 100000)
    (hQ1 : ∀ c', c ≤ c' → c' < l → (∀ k, c ≤ k → k < c' → S (W [cur.getD k.toNat 0]) = false) → S (W [cur.getD c'.toNat 0]) = true → On w mg mb H s x dx Q (.bool true) (IsSt w (W cur) c' l lb bra ket (some ip)))
    (hQ2 : (∀ k, c ≤ k → k < l → S (W [cur.getD k.toNat 0]) = false) → On w mg mb H s x dx Q (.bool false) (IsSt w (W cur) l l lb bra ket (some ip))) :
    wpAny (model pw w) A (call (.ref 98) [.ref x, .ref a]) Q E s := by
  first | (refine entry7 hd M ?_; clear hd M; intro _ _ M) | (refine entry6 hd M ?_; clear hd M; intro _ _ M) | cases hd
  refine wpAny_call ?_
  refine' enter_self [("self", .ref x), ("s", .ref a)] M ?k1 ?k2 ?k3 ?k4 ?k5 ?_ ?c2 ?c3 ?c4 ?c5
  case k1 => k_is
  case k2 => k_is
  case k3 => lia
  case k4 => exact BindsTo.of_eq rfl
  case c5 => decide
  case k5 => exact locs rfl
  case c2 => exact rfl
  case c3 => exact rfl
  case c4 => exact rfl
  have hne0 := M.ne
  have hne := neN M.ne
  clear M
  intro g L' h' O KX T F' N' fin
  try dsimp only
  first | (with_reducible refine hid_all s ?_; intro _ _ _) | skip
  obtain ⟨m, hSg⟩ := hS _ O.tops
  k_steps
  first | with_reducible refine Halt.mk ?_ | skip
  refine While_self (fun n od' => ∃ c', IsSt w (W cur) c' l lb bra ket (some ip) od' ∧ c ≤ c' ∧ c' ≤ l ∧ (∀ k, c ≤ k → k < c' → S (W [cur.getD k.toNat 0]) = false) ∧ n = (l - c').toNat) (l - c).toNat (by assumption) (by assumption) ?_ ?_
  · exact ⟨c, .seven .., Int.le_refl _, hcl, fun k a b => absurd b (Int.not_lt.mpr a), rfl⟩
  clear N' F'
  rintro n od₁ h₁ tk₁ F' N' ⟨c', hd, hlo, hhi, hall, rfl⟩
  refine loop7 hd N' ?_; clear hd N'; intro _ _ N'
  k_steps
  · have hq := hQ1 c' (by lia) (by lia) hall (by simp_all)
    repeat walk_at "own hid"
    refine fin.out (by assumption) (by assumption) (hq) ?_
    exact .seven ..
  · refine turn_self (by assumption) (by assumption) (n' := (l - (c' + 1)).toNat) (by lia) ⟨c' + 1, .seven .., by lia, by lia, fun k a b => ?_, rfl⟩
    by_cases hk : k < c'
    · exact hall k a hk
    · have : k = c' := by lia
      subst this
      simp_all
  · have : c' = l := by lia
    subst this
    have hq := hQ2 hall
    repeat walk_at "own hid"
    refine fin.out (by assumption) (by assumption) (hq) ?_
    exact .seven ..
end
end
section
open PySem PySem.W PySem.Calls PyProof.Rows
set_option maxHeartbeats 4000000
theorem W_cps (l : List Nat) : (W l).cps.toList = l := by simp [W]
theorem W_cps_len (l : List Nat) : (W l).cps.toList.length = l.length := by simp [W]
theorem W_slice {l : List Nat} {i j : Int} (h0 : 0 ≤ i) (h1 : i ≤ j) (h2 : j ≤ l.length) : Txt.slice (W l) (some i) (some j) = W ((l.drop i.toNat).take (j - i).toNat) := by
  have := beq_iff_eq.mp (slice_closes (x := W l) (i := i) (j := j) ⟨h0, h1, by rw [W_cps_len]; exact h2⟩)
  rw [this, W_cps]; rfl
theorem W_from {l : List Nat} {i : Int} (h0 : 0 ≤ i) (h2 : i ≤ l.length) : Txt.slice (W l) (some i) none = W (l.drop i.toNat) := by
  rw [slice_from_eq (b := l.length) h0 (by rw [W_len]; exact h2) (by rw [W_len]), W_cps]
  show W _ = W _
  congr 1
  apply List.take_of_length_le
  rw [List.length_drop]
  obtain ⟨p, rfl⟩ := Int.eq_ofNat_of_zero_le h0
  rw [Int.toNat_natCast, Int.toNat_sub]
  exact Nat.le_refl _
theorem W_upto {l : List Nat} {j : Int} (h0 : 0 ≤ j) (h2 : j ≤ l.length) : Txt.slice (W l) none (some j) = W (l.take j.toNat) := by
  have := beq_iff_eq.mp (slice_closes_to (x := W l) (j := j) ⟨h0, by rw [W_cps_len]; exact h2⟩)
  rw [this, W_cps]
  show W _ = W _
  simp
theorem W_ends (l e : List Nat) : Txt.endswith (W l) (W e) = e.isSuffixOf l := by
  unfold Txt.endswith
  rw [StrLaws.subAt_eq, W_len, W_len, W_cps, W_cps]
  by_cases h : e.length ≤ l.length
  · rw [Bool.eq_iff_iff]
    simp only [Nat.zero_add, h, decide_true, Bool.true_and, beq_iff_eq, List.isSuffixOf_iff_suffix]
    rw [List.suffix_iff_eq_drop]
    rw [List.take_of_length_le (by rw [List.length_drop, Nat.sub_sub_self h]; exact Nat.le_refl _)]
    exact eq_comm
  · rw [Bool.eq_iff_iff]
    simp only [Nat.zero_add, h, decide_false, Bool.false_and, List.isSuffixOf_iff_suffix]
    constructor
    · intro a; cases a
    · intro a; exact absurd a.length_le h
theorem W_inj {a b : List Nat} (h : W a = W b) : a = b := by
  have := congrArg (fun x => x.cps.toList) h
  simpa [W_cps] using this
section
variable {w : World} {A : Around} {E : Value → Shared → Prop} {s : Shared} {Q : Value → Shared → Prop} {value slice : PySem.Expr} {l : List Nat} {t ui uj : Tok} {i j : Int} {h₀ : Heap} {L : Addr} {m : Str → Option Value} {news : List (Addr × Obj)}
theorem W_fits (hn : l.length ≤ 100000) : (W l).length ≤ sizeLine := by rw [W_len, PySem.sizeLine_eq]; omega
theorem x_slice_ss (F : Fr h₀ L s.heap m) (N : News h₀ L s.heap news) (h0 : 0 ≤ i) (h1 : i ≤ j) (h2 : j ≤ l.length) (hn : l.length ≤ 100000)
    (h : ∀ h' t' k, Fr h₀ L h' m → News h₀ L h' news → Q (.str (W ((l.drop i.toNat).take (j - i).toNat)) t') { s with heap := h', toks := k })
    (hs : subscripted slice false (.str (W l) t) (.ref s.heap.objs.size) = operate [.ref s.heap.objs.size, .str (W l) t] (getItem (.str (W l) t) (.ref s.heap.objs.size)) := by with_unfolding_all rfl)
    (ht : ∀ r, letTemporaryGo value (.str (W l) t) r = pure () := by intro _; with_unfolding_all rfl) :
    wpAny (model pw w) A (subscriptTail value slice (.str (W l) t) (.ref s.heap.objs.size)) Q E { s with heap := s.heap.push { cls := .type "slice", data := .fields #[.int i ui, .int j uj, .none] } } :=
  slice_strN_ss F N (fun h' t' k a b => by rw [W_slice h0 h1 h2]; exact h h' t' k a b) hs ht (W_fits hn)
theorem x_slice_sn (F : Fr h₀ L s.heap m) (N : News h₀ L s.heap news) (h0 : 0 ≤ i) (h2 : i ≤ l.length) (hn : l.length ≤ 100000)
    (h : ∀ h' t' k, Fr h₀ L h' m → News h₀ L h' news → Q (.str (W (l.drop i.toNat)) t') { s with heap := h', toks := k })
    (hs : subscripted slice false (.str (W l) t) (.ref s.heap.objs.size) = operate [.ref s.heap.objs.size, .str (W l) t] (getItem (.str (W l) t) (.ref s.heap.objs.size)) := by with_unfolding_all rfl)
    (ht : ∀ r, letTemporaryGo value (.str (W l) t) r = pure () := by intro _; with_unfolding_all rfl) :
    wpAny (model pw w) A (subscriptTail value slice (.str (W l) t) (.ref s.heap.objs.size)) Q E { s with heap := s.heap.push { cls := .type "slice", data := .fields #[.int i ui, .none, .none] } } :=
  slice_strN_sn F N (fun h' t' k a b => by rw [W_from h0 h2]; exact h h' t' k a b) hs ht (W_fits hn)
theorem x_slice_ns (F : Fr h₀ L s.heap m) (N : News h₀ L s.heap news) (h0 : 0 ≤ j) (h2 : j ≤ l.length) (hn : l.length ≤ 100000)
    (h : ∀ h' t' k, Fr h₀ L h' m → News h₀ L h' news → Q (.str (W (l.take j.toNat)) t') { s with heap := h', toks := k })
    (hs : subscripted slice false (.str (W l) t) (.ref s.heap.objs.size) = operate [.ref s.heap.objs.size, .str (W l) t] (getItem (.str (W l) t) (.ref s.heap.objs.size)) := by with_unfolding_all rfl)
    (ht : ∀ r, letTemporaryGo value (.str (W l) t) r = pure () := by intro _; with_unfolding_all rfl) :
    wpAny (model pw w) A (subscriptTail value slice (.str (W l) t) (.ref s.heap.objs.size)) Q E { s with heap := s.heap.push { cls := .type "slice", data := .fields #[.none, .int j uj, .none] } } :=
  slice_strN_ns F N (fun h' t' k a b => by rw [W_upto h0 h2]; exact h h' t' k a b) hs ht (W_fits hn)
theorem x_len (hn : l.length ≤ 100000) (h : Q (.int l.length (s.toks + 1)) { s with toks := s.toks + 1 + 1 }) : wpAny (model pw w) A (call (.builtin "len") [.str (W l) t]) Q E s :=
  P.len_str (by rw [W_len]; omega) (by rw [W_len]; exact h)
theorem x_add {l' : List Nat} {u : Tok} (hn : l.length + l'.length ≤ 100000) (h : ∀ t' k, Q (.str (W (l ++ l')) t') { s with toks := k }) : wpAny (model pw w) A (binaryOp .Add (.str (W l) t) (.str (W l') u)) Q E s :=
  SB.add (fun t' k => by rw [W_app]; exact h t' k) (by rw [W_len, W_len, PySem.sizeLine_eq]; omega)
end
end
local macro_rules | `(tactic| walk_at "binaryOp Add str str") => `(tactic| ((with_reducible show wpAny _ _ (binaryOp Operator.Add (Value.str (W _) _) (Value.str (W _) _)) _ _ _); (refine x_add (by first | omega | (simp only [List.length_take, List.length_drop, List.length_append]; omega)) ?_); intro _ _))
section
open PySem PySem.W PySem.Calls PyProof.Rows
set_option maxHeartbeats 4000000
end
local macro_rules | `(tactic| walk_at "call builtin:len") => `(tactic| (refine x_len (by omega) ?_))
section
open PySem PySem.W PySem.Calls PyProof.Rows
set_option maxHeartbeats 4000000
end
local macro_rules | `(tactic| walk_at "subscriptTail") => `(tactic| ((with_reducible show wpAny _ _ (subscriptTail _ _ (Value.str (W _) _) (Value.ref _)) _ _ _); (with_reducible rename Fr _ _ _ _ => F'); (with_reducible rename News _ _ _ _ => N'); first
  | ((with_reducible show wpAny _ _ (subscriptTail _ (PySem.Expr.Slice (some _) (some _) none _) _ _) _ _ _); (refine x_slice_ss (s := ⟨_, _, _, _, _⟩) F' N' (by omega) (by omega) (by omega) (by omega) ?_); intro _ _ _ _ _)
  | ((with_reducible show wpAny _ _ (subscriptTail _ (PySem.Expr.Slice (some _) none none _) _ _) _ _ _); (refine x_slice_sn (s := ⟨_, _, _, _, _⟩) F' N' (by omega) (by omega) (by omega) ?_); intro _ _ _ _ _)))
section
open PySem PySem.W PySem.Calls PyProof.Rows
set_option maxHeartbeats 4000000
section
variable {w : World} {A : Around} {E : Value → Shared → Prop} {s : Shared} {mg mb : Str → Option Value} {H : Heap} {x dx : Addr} {od : Obj} {Q : Value → Shared → Prop}
theorem replace_s {cur sv : List Nat} {c l lb bra ket ip i j : Int} {ti tj ts : Tok}
    (hA : A.depth + 40 < recursionLimit) (M : Me w mg mb H s.heap x dx od) (hd : IsSt w (W cur) c l lb bra ket (some ip) od)
    (h0 : 0 ≤ i) (h1 : i ≤ j) (h2 : j ≤ cur.length) (hv : cur.length ≤ 1000) (hv2 : sv.length ≤ 1000)
    (hQ1 : j ≤ c → ∀ t, On w mg mb H s x dx Q (.int (sv.length - (j - i)) t) (IsSt w (W (cur.take i.toNat ++ sv ++ cur.drop j.toNat)) (c + (sv.length - (j - i))) (l + (sv.length - (j - i))) lb bra ket (some ip)))
    (hQ2 : ¬ j ≤ c → i < c → ∀ t, On w mg mb H s x dx Q (.int (sv.length - (j - i)) t) (IsSt w (W (cur.take i.toNat ++ sv ++ cur.drop j.toNat)) i (l + (sv.length - (j - i))) lb bra ket (some ip)))
    (hQ3 : ¬ j ≤ c → ¬ i < c → ∀ t, On w mg mb H s x dx Q (.int (sv.length - (j - i)) t) (IsSt w (W (cur.take i.toNat ++ sv ++ cur.drop j.toNat)) c (l + (sv.length - (j - i))) lb bra ket (some ip))) :
    wpAny (model pw w) A (call (.ref 147) [.ref x, .int i ti, .int j tj, .str (W sv) ts]) Q E s := by
  first | (refine entry7 hd M ?_; clear hd M; intro _ _ M) | (refine entry6 hd M ?_; clear hd M; intro _ _ M) | cases hd
  refine wpAny_call ?_
  refine' enter_self [("self", .ref x), ("c_bra", .int i ti), ("c_ket", .int j tj), ("s", .str (W sv) ts)] M ?k1 ?k2 ?k3 ?k4 ?k5 ?_ ?c2 ?c3 ?c4 ?c5
  case k1 => k_is
  case k2 => k_is
  case k3 => omega
  case k4 => exact BindsTo.of_eq rfl
  case c5 => decide
  case k5 => exact locs rfl
  case c2 => exact rfl
  case c3 => exact rfl
  case c4 => exact rfl
  have hne0 := M.ne
  have hne := neN M.ne
  clear M
  intro g L' h' O KX T F' N' fin
  try dsimp only
  first | (with_reducible refine hid_all s ?_; intro _ _ _) | skip
  have hb1 : (List.take (i - 0).toNat (List.drop (Int.toNat 0) cur)).length ≤ 1000 := Nat.le_trans (List.length_take_le' _ _) (Nat.le_trans (by rw [List.length_drop]; exact Nat.sub_le _ _) hv)
  have hb2 : (List.drop j.toNat cur).length ≤ 1000 := Nat.le_trans (by rw [List.length_drop]; exact Nat.sub_le _ _) hv
  have hb3 : (List.take (i - 0).toNat (List.drop (Int.toNat 0) cur) ++ sv).length ≤ 2000 := by rw [List.length_append]; exact Nat.add_le_add hb1 hv2
  k_steps
  all_goals (have e : List.take (i - 0).toNat (List.drop (Int.toNat 0) cur) = cur.take i.toNat := by simp)
  · have hq := hQ1 (by omega)
    repeat walk_at "own hid"
    refine fin.out (by assumption) (by assumption) ((hq _)) ?_
    rw [e]
    exact .seven ..
  · have hq := hQ2 (by omega) (by omega)
    repeat walk_at "own hid"
    refine fin.out (by assumption) (by assumption) ((hq _)) ?_
    rw [e]
    exact .seven ..
  · have hq := hQ3 (by omega) (by omega)
    repeat walk_at "own hid"
    refine fin.out (by assumption) (by assumption) ((hq _)) ?_
    rw [e]
    exact .seven ..
theorem eq_s_b {cur sv : List Nat} {c l lb bra ket ip : Int} {ts : Tok}
    (hA : A.depth + 40 < recursionLimit) (M : Me w mg mb H s.heap x dx od) (hd : IsSt w (W cur) c l lb bra ket (some ip) od)
    (h0 : 0 ≤ lb) (h1 : lb ≤ c) (h2 : c ≤ cur.length) (hv : cur.length ≤ 1000) (hv2 : sv.length ≤ 1000)
    (hQ1 : sv.isSuffixOf ((cur.drop lb.toNat).take (c - lb).toNat) = true → On w mg mb H s x dx Q (.bool true) (IsSt w (W cur) (c - sv.length) l lb bra ket (some ip)))
    (hQ2 : sv.isSuffixOf ((cur.drop lb.toNat).take (c - lb).toNat) = false → On w mg mb H s x dx Q (.bool false) (IsSt w (W cur) c l lb bra ket (some ip))) :
    wpAny (model pw w) A (call (.ref 126) [.ref x, .str (W sv) ts]) Q E s := by
  first | (refine entry7 hd M ?_; clear hd M; intro _ _ M) | (refine entry6 hd M ?_; clear hd M; intro _ _ M) | cases hd
  refine wpAny_call ?_
  refine' enter_self [("self", .ref x), ("s", .str (W sv) ts)] M ?k1 ?k2 ?k3 ?k4 ?k5 ?_ ?c2 ?c3 ?c4 ?c5
  case k1 => k_is
  case k2 => k_is
  case k3 => omega
  case k4 => exact BindsTo.of_eq rfl
  case c5 => decide
  case k5 => exact locs rfl
  case c2 => exact rfl
  case c3 => exact rfl
  case c4 => exact rfl
  have hne0 := M.ne
  have hne := neN M.ne
  clear M
  intro g L' h' O KX T F' N' fin
  try dsimp only
  first | (with_reducible refine hid_all s ?_; intro _ _ _) | skip
  k_steps
  · have hq := hQ1 (by simp_all [W_ends])
    repeat walk_at "own hid"
    refine fin.out (by assumption) (by assumption) (hq) ?_
    exact .seven ..
  · have hq := hQ2 (by simp_all [W_ends])
    repeat walk_at "own hid"
    refine fin.out (by assumption) (by assumption) (hq) ?_
    exact .seven ..
end
end
section
open PySem PySem.W PySem.Calls PyProof.Rows
set_option maxHeartbeats 4000000
end
local macro_rules | `(tactic| walk_at "subscriptTail Name Slice str ref") => `(tactic| walk_at "subscriptTail")
section
open PySem PySem.W PySem.Calls PyProof.Rows
set_option maxHeartbeats 4000000
end
local macro_rules | `(tactic| walk_at "subscriptTail Name Name str int") => `(tactic| walk_at "subscriptTail")
section
open PySem PySem.W PySem.Calls PyProof.Rows
set_option maxHeartbeats 4000000
section
variable {w : World} {A : Around} {E : Value → Shared → Prop} {s : Shared} {mg mb : Str → Option Value} {H : Heap} {x dx : Addr} {od : Obj} {Q : Value → Shared → Prop}
theorem slice_from {cur sv : List Nat} {c l lb bra ket ip : Int} {ts : Tok}
    (hA : A.depth + 42 < recursionLimit) (M : Me w mg mb H s.heap x dx od) (hd : IsSt w (W cur) c l lb bra ket (some ip) od)
    (h0 : 0 ≤ bra) (h1 : bra < ket) (hc : c ≤ bra) (h2 : ket ≤ l) (hl : l = cur.length) (hv : cur.length ≤ 1000) (hv2 : sv.length ≤ 1000)
    (hQ : On w mg mb H s x dx Q .none (IsSt w (W (cur.take bra.toNat ++ sv ++ cur.drop ket.toNat)) c (l + (sv.length - (ket - bra))) lb bra (bra + sv.length) (some ip))) :
    wpAny (model pw w) A (call (.ref 154) [.ref x, .str (W sv) ts]) Q E s := by
  first | (refine entry7 hd M ?_; clear hd M; intro _ _ M) | (refine entry6 hd M ?_; clear hd M; intro _ _ M) | cases hd
  refine wpAny_call ?_
  refine' enter_self [("self", .ref x), ("s", .str (W sv) ts)] M ?k1 ?k2 ?k3 ?k4 ?k5 ?_ ?c2 ?c3 ?c4 ?c5
  case k1 => k_is
  case k2 => k_is
  case k3 => lia
  case k4 => exact BindsTo.of_eq rfl
  case c5 => decide
  case k5 => exact locs rfl
  case c2 => exact rfl
  case c3 => exact rfl
  case c4 => exact rfl
  have hne0 := M.ne
  have hne := neN M.ne
  clear M
  intro g L' h' O KX T F' N' fin
  try dsimp only
  first | (with_reducible refine hid_all s ?_; intro _ _ _) | skip
  k_steps
  first | with_reducible refine Halt.mk ?_ | skip
  refine replace_s (room hA (by decide)) (Me.of O (by assumption) (by assumption) hne0) (.seven ..) h0 (by lia) (by lia) hv hv2 (fun a => absurd a (by lia)) (fun _ a => absurd a (by lia)) (fun _ _ t => ?_)
  intro h2 tk2 od2 kb2 M2 hd2
  first | (refine back7 hd2 (by assumption) (by assumption) hne0 kb2 M2.id ?_; clear hd2 M2 kb2 od2; intro _ _ F2 N2) | (refine back6 hd2 (by assumption) (by assumption) hne0 kb2 M2.id ?_; clear hd2 M2 kb2 od2; intro _ _ F2 N2) | (refine backO hd2 (by assumption) (by assumption) hne0 kb2 M2.id ?_; clear hd2 M2 kb2 od2; intro _ _ F2 N2)
  try dsimp only
  k_steps
  repeat walk_at "own hid"
  refine fin.out (by assumption) (by assumption) (hQ) ?_
  exact .seven ..
theorem slice_del {cur : List Nat} {c l lb bra ket ip : Int}
    (hA : A.depth + 43 < recursionLimit) (M : Me w mg mb H s.heap x dx od) (hd : IsSt w (W cur) c l lb bra ket (some ip) od)
    (h0 : 0 ≤ bra) (h1 : bra < ket) (hc : c ≤ bra) (h2 : ket ≤ l) (hl : l = cur.length) (hv : cur.length ≤ 1000)
    (hQ : On w mg mb H s x dx Q .none (IsSt w (W (cur.take bra.toNat ++ cur.drop ket.toNat)) c (l - (ket - bra)) lb bra bra (some ip))) :
    wpAny (model pw w) A (call (.ref 161) [.ref x]) Q E s := by
  first | (refine entry7 hd M ?_; clear hd M; intro _ _ M) | (refine entry6 hd M ?_; clear hd M; intro _ _ M) | cases hd
  refine wpAny_call ?_
  refine' enter_self [("self", .ref x)] M ?k1 ?k2 ?k3 ?k4 ?k5 ?_ ?c2 ?c3 ?c4 ?c5
  case k1 => k_is
  case k2 => k_is
  case k3 => lia
  case k4 => exact BindsTo.of_eq rfl
  case c5 => decide
  case k5 => exact locs rfl
  case c2 => exact rfl
  case c3 => exact rfl
  case c4 => exact rfl
  have hne0 := M.ne
  have hne := neN M.ne
  clear M
  intro g L' h' O KX T F' N' fin
  try dsimp only
  first | (with_reducible refine hid_all s ?_; intro _ _ _) | skip
  k_steps
  first | with_reducible refine Halt.mk ?_ | skip
  refine slice_from (sv := []) (room hA (by decide)) (Me.of O (by assumption) (by assumption) hne0) (.seven ..) h0 (by lia) (by lia) (by lia) hl hv (by decide) ?_
  intro h2 tk2 od2 kb2 M2 hd2
  first | (refine back7 hd2 (by assumption) (by assumption) hne0 kb2 M2.id ?_; clear hd2 M2 kb2 od2; intro _ _ F2 N2) | (refine back6 hd2 (by assumption) (by assumption) hne0 kb2 M2.id ?_; clear hd2 M2 kb2 od2; intro _ _ F2 N2) | (refine backO hd2 (by assumption) (by assumption) hne0 kb2 M2.id ?_; clear hd2 M2 kb2 od2; intro _ _ F2 N2)
  try dsimp only
  k_steps
  repeat walk_at "own hid"
  refine fin.out (by assumption) (by assumption) (hQ) ?_
  have e1 : cur.take bra.toNat ++ [] ++ cur.drop ket.toNat = cur.take bra.toNat ++ cur.drop ket.toNat := by simp
  have e2 : l + (((([] : List Nat).length : Nat) : Int) - (ket - bra)) = l - (ket - bra) := by simp; lia
  have e3 : bra + ((([] : List Nat).length : Nat) : Int) = bra := by simp
  rw [e1, e2, e3]
  exact .seven ..
theorem insert {cur sv : List Nat} {c l lb bra ket ip : Int} {ti tj ts : Tok}
    (hA : A.depth + 42 < recursionLimit) (M : Me w mg mb H s.heap x dx od) (hd : IsSt w (W cur) c l lb bra ket (some ip) od)
    (h0 : 0 ≤ c) (hb : c = bra) (hk : c = ket) (h2 : c ≤ cur.length) (hv : cur.length ≤ 1000) (hv2 : sv.length ≤ 1000)
    (hQ : On w mg mb H s x dx Q .none (IsSt w (W (cur.take c.toNat ++ sv ++ cur.drop c.toNat)) (c + sv.length) (l + sv.length) lb (c + sv.length) (c + sv.length) (some ip))) :
    wpAny (model pw w) A (call (.ref 168) [.ref x, .int c ti, .int c tj, .str (W sv) ts]) Q E s := by
  first | (refine entry7 hd M ?_; clear hd M; intro _ _ M) | (refine entry6 hd M ?_; clear hd M; intro _ _ M) | cases hd
  refine wpAny_call ?_
  refine' enter_self [("self", .ref x), ("c_bra", .int c ti), ("c_ket", .int c tj), ("s", .str (W sv) ts)] M ?k1 ?k2 ?k3 ?k4 ?k5 ?_ ?c2 ?c3 ?c4 ?c5
  case k1 => k_is
  case k2 => k_is
  case k3 => lia
  case k4 => exact BindsTo.of_eq rfl
  case c5 => decide
  case k5 => exact locs rfl
  case c2 => exact rfl
  case c3 => exact rfl
  case c4 => exact rfl
  have hne0 := M.ne
  have hne := neN M.ne
  clear M
  intro g L' h' O KX T F' N' fin
  try dsimp only
  first | (with_reducible refine hid_all s ?_; intro _ _ _) | skip
  k_steps
  first | with_reducible refine Halt.mk ?_ | skip
  refine replace_s (room hA (by decide)) (Me.of O (by assumption) (by assumption) hne0) (.seven ..) h0 (by lia) (by lia) hv hv2 (fun _ t => ?_) (fun a => absurd (Int.le_refl c) a) (fun a => absurd (Int.le_refl c) a)
  intro h2 tk2 od2 kb2 M2 hd2
  first | (refine back7 hd2 (by assumption) (by assumption) hne0 kb2 M2.id ?_; clear hd2 M2 kb2 od2; intro _ _ F2 N2) | (refine back6 hd2 (by assumption) (by assumption) hne0 kb2 M2.id ?_; clear hd2 M2 kb2 od2; intro _ _ F2 N2) | (refine backO hd2 (by assumption) (by assumption) hne0 kb2 M2.id ?_; clear hd2 M2 kb2 od2; intro _ _ F2 N2)
  try dsimp only
  k_steps
  repeat walk_at "own hid"
  refine fin.out (by assumption) (by assumption) (hQ) ?_
  have e1 : c + ((sv.length : Int) - (c - c)) = c + sv.length := by lia
  have e2 : l + ((sv.length : Int) - (c - c)) = l + sv.length := by lia
  have e3 : bra + ((sv.length : Int) - (c - c)) = c + sv.length := by lia
  have e4 : ket + ((sv.length : Int) - (c - c)) = c + sv.length := by lia
  rw [e1, e2, e3, e4]
  exact .seven ..
end
end
section
open PySem PySem.W PySem.Calls PyProof.Rows
set_option maxHeartbeats 4000000
section
variable {w : World} {A : Around} {E : Value → Shared → Prop} {s : Shared} {Q : Value → Shared → Prop} {g : Heap} {L : Addr} {m : Str → Option Value} {d : Addr} {r : Str × Int × Int} {expr : Bool}
theorem am_s (F : Fr g L s.heap m) (X : (KK w.params).In g) (hA : AmAt w.params g d r) (h : ∀ t k, Q (.str r.1 t) { s with toks := k }) :
    wpAny (model pw w) A (getAttr (.ref (d + 1)) (Str.ofString "s") expr) Q E s := by
  obtain ⟨⟨t, hd⟩, hi⟩ := hA
  refine get_own (C := 220) (es := [en w.params "s" (intTok (intTok (t + 1) r.2.1 + 1) r.2.2 + 1 + 5) (.str r.1 t), en w.params "substring_i" (intTok (intTok (t + 1) r.2.1 + 1) r.2.2 + 1 + 7) (.int r.2.1 (intTok (t + 1) r.2.1)),
    en w.params "result" (intTok (intTok (t + 1) r.2.1 + 1) r.2.2 + 1 + 9) (.int r.2.2 (intTok (intTok (t + 1) r.2.1 + 1) r.2.2))]) (n := 3) (attr := none) (v := .str r.1 t) F X ⟨F.keep _ _ hi, rfl, rfl, F.keep _ _ hd⟩ ?_ ?_ ?_ ?_ ?_ ?_ (h _ _)
  · k_is
  · k_is
  · k_is
  · k_is
  · rfl
  · rfl
theorem am_sub (F : Fr g L s.heap m) (X : (KK w.params).In g) (hA : AmAt w.params g d r) (h : ∀ t k, Q (.int r.2.1 t) { s with toks := k }) :
    wpAny (model pw w) A (getAttr (.ref (d + 1)) (Str.ofString "substring_i") expr) Q E s := by
  obtain ⟨⟨t, hd⟩, hi⟩ := hA
  refine get_own (C := 220) (es := [en w.params "s" (intTok (intTok (t + 1) r.2.1 + 1) r.2.2 + 1 + 5) (.str r.1 t), en w.params "substring_i" (intTok (intTok (t + 1) r.2.1 + 1) r.2.2 + 1 + 7) (.int r.2.1 (intTok (t + 1) r.2.1)),
    en w.params "result" (intTok (intTok (t + 1) r.2.1 + 1) r.2.2 + 1 + 9) (.int r.2.2 (intTok (intTok (t + 1) r.2.1 + 1) r.2.2))]) (n := 3) (attr := none) (v := .int r.2.1 (intTok (t + 1) r.2.1)) F X ⟨F.keep _ _ hi, rfl, rfl, F.keep _ _ hd⟩ ?_ ?_ ?_ ?_ ?_ ?_ (h _ _)
  · k_is
  · k_is
  · k_is
  · k_is
  · rfl
  · rfl
theorem am_res (F : Fr g L s.heap m) (X : (KK w.params).In g) (hA : AmAt w.params g d r) (h : ∀ t k, Q (.int r.2.2 t) { s with toks := k }) :
    wpAny (model pw w) A (getAttr (.ref (d + 1)) (Str.ofString "result") expr) Q E s := by
  obtain ⟨⟨t, hd⟩, hi⟩ := hA
  refine get_own (C := 220) (es := [en w.params "s" (intTok (intTok (t + 1) r.2.1 + 1) r.2.2 + 1 + 5) (.str r.1 t), en w.params "substring_i" (intTok (intTok (t + 1) r.2.1 + 1) r.2.2 + 1 + 7) (.int r.2.1 (intTok (t + 1) r.2.1)),
    en w.params "result" (intTok (intTok (t + 1) r.2.1 + 1) r.2.2 + 1 + 9) (.int r.2.2 (intTok (intTok (t + 1) r.2.1 + 1) r.2.2))]) (n := 3) (attr := none) (v := .int r.2.2 (intTok (intTok (t + 1) r.2.1 + 1) r.2.2)) F X ⟨F.keep _ _ hi, rfl, rfl, F.keep _ _ hd⟩ ?_ ?_ ?_ ?_ ?_ ?_ (h _ _)
  · k_is
  · k_is
  · k_is
  · k_is
  · rfl
  · rfl
/-- the table of Amongs at a, its first Among's dict at n0 -/
structure TabAt (w : World) (h : Heap) (a n0 : Addr) (T : List (Str × Int × Int)) : Prop where
  list : h.IsList a ((List.range T.length).map fun k => Value.ref (n0 + 3 * k + 1)).toArray
  am : AmTab w.params h n0 T
theorem tab_len {a n0 : Addr} {T : List (Str × Int × Int)} (F : Fr g L s.heap m) (hT : TabAt w g a n0 T) (hn : T.length ≤ 1000) (h : ∀ t k, Q (.int T.length t) { s with toks := k }) :
    wpAny (model pw w) A (call (.builtin "len") [.ref a]) Q E s := by
  refine call_len_list (hT.list.at fun o e => F.keep _ o e) ?_ ?_
  · simp; lia
  · simpa using h _ _
theorem tab_item {a n0 : Addr} {T : List (Str × Int × Int)} {value slice : PySem.Expr} {k : Int} {u : Tok} (F : Fr g L s.heap m) (hT : TabAt w g a n0 T) (h0 : 0 ≤ k) (h1 : k < T.length) (hn : T.length ≤ 1000)
    (h : Q (.ref (n0 + 3 * k.toNat + 1)) s)
    (hs : subscripted slice false (.ref a) (.int k u) = operate [.ref a, .int k u] (getItem (.ref a) (.int k u)) := by with_unfolding_all rfl) :
    wpAny (model pw w) A (subscriptTail value slice (.ref a) (.int k u)) Q E s := by
  have hl : s.heap.IsList a _ := hT.list.at fun o e => F.keep _ o e
  have hk : k.toNat < T.length := by lia
  refine tail_any hl.typeIs slot_list_getitem.lookup (wpAny_getItem_list hl h0 (by lia) (x := .ref (n0 + 3 * k.toNat + 1)) ?_ h) hs
  simp [hk]
end
end
section
open PySem PySem.W PySem.Calls PyProof.Rows
set_option maxHeartbeats 4000000
noncomputable def lcp : List Nat → List Nat → Nat
  | a :: as, b :: bs => if a = b then lcp as bs + 1 else 0
  | [], _ => 0
  | _, [] => 0
noncomputable def lle : List Nat → List Nat → Bool
  | [], _ => true
  | _ :: _, [] => false
  | a :: as, b :: bs => if b < a then false else if a < b then true else lle as bs
theorem lcp_le_left : ∀ a t : List Nat, lcp a t ≤ a.length
  | [], _ => by simp [lcp]
  | _ :: _, [] => by simp [lcp]
  | a :: as, b :: bs => by
    unfold lcp
    split
    · have := lcp_le_left as bs; simp; lia
    · simp
theorem lcp_le_right : ∀ a t : List Nat, lcp a t ≤ t.length
  | [], _ => by simp [lcp]
  | _ :: _, [] => by simp [lcp]
  | a :: as, b :: bs => by
    unfold lcp
    split
    · have := lcp_le_right as bs; simp; lia
    · simp
/-- all places ahead of n agree -/
theorem le_lcp : ∀ {a t : List Nat} {n : Nat}, n ≤ lcp a t ↔ n ≤ a.length ∧ n ≤ t.length ∧ ∀ k, k < n → a.getD k 0 = t.getD k 0
  | [], t, n => by
    simp only [lcp, List.length_nil]
    constructor
    · intro h; exact ⟨h, by lia, fun k hk => by lia⟩
    · intro h; exact h.1
  | a :: as, [], n => by
    simp only [lcp, List.length_nil]
    constructor
    · intro h; exact ⟨by lia, h, fun k hk => by lia⟩
    · intro h; exact h.2.1
  | a :: as, b :: bs, n => by
    cases n with
    | zero => simp
    | succ n =>
      unfold lcp
      by_cases e : a = b
      · rw [if_pos e, Nat.add_le_add_iff_right, le_lcp (a := as) (t := bs) (n := n)]
        simp only [List.length_cons, Nat.add_le_add_iff_right]
        constructor
        · rintro ⟨h1, h2, h3⟩
          refine ⟨h1, h2, fun k hk => ?_⟩
          cases k with
          | zero => simpa using e
          | succ k => simpa using h3 k (by lia)
        · rintro ⟨h1, h2, h3⟩
          refine ⟨h1, h2, fun k hk => ?_⟩
          simpa using h3 (k + 1) (by lia)
      · rw [if_neg e]
        constructor
        · intro h; lia
        · rintro ⟨h1, h2, h3⟩
          exact absurd (by simpa using h3 0 (by lia)) e
theorem lcp_squeeze : ∀ {a k b t : List Nat} {n : Nat}, lle a k = true → lle k b = true → n ≤ lcp a t → n ≤ lcp b t → n ≤ lcp k t
  | _, _, _, _, 0, _, _, _, _ => Nat.zero_le _
  | [], _, _, _, n + 1, _, _, h3, _ => by simp [lcp] at h3
  | _ :: _, [], _, _, _ + 1, h1, _, _, _ => by simp [lle] at h1
  | _ :: _, _ :: _, [], _, _ + 1, _, h2, _, _ => by simp [lle] at h2
  | _ :: _, _ :: _, _ :: _, [], _ + 1, _, _, h3, _ => by simp [lcp] at h3
  | a :: as, k :: ks, b :: bs, t :: ts, n + 1, h1, h2, h3, h4 => by
    unfold lcp at h3 h4 ⊢
    by_cases e1 : a = t
    · by_cases e2 : b = t
      · subst e1; subst e2
        rw [if_pos rfl] at h3 h4
        unfold lle at h1 h2
        by_cases c1 : k < b
        · simp [c1] at h1
        · by_cases c2 : b < k
          · simp [c2] at h2
          · have e3 : k = b := by lia
            subst e3
            simp only [Nat.lt_irrefl, if_false] at h1 h2
            rw [if_pos rfl]
            have := lcp_squeeze (a := as) (k := ks) (b := bs) (t := ts) (n := n) h1 h2 (by lia) (by lia)
            lia
      · rw [if_neg e2] at h4; lia
    · rw [if_neg e1] at h3; lia
theorem lle_refl : ∀ a : List Nat, lle a a = true
  | [] => rfl
  | a :: as => by unfold lle; simp [lle_refl as]
theorem lle_trans : ∀ {a b c : List Nat}, lle a b = true → lle b c = true → lle a c = true
  | [], _, _, _, _ => by simp [lle]
  | _ :: _, [], _, h, _ => by simp [lle] at h
  | _ :: _, _ :: _, [], _, h => by simp [lle] at h
  | a :: as, b :: bs, c :: cs, h1, h2 => by
    unfold lle at *
    by_cases x1 : b < a
    · simp [x1] at h1
    · by_cases x2 : c < b
      · simp [x2] at h2
      · simp only [x1, x2, if_false] at h1 h2
        by_cases x3 : c < a
        · lia
        · simp only [x3, if_false]
          by_cases x4 : a < c
          · simp [x4]
          · simp only [x4, if_false]
            have y1 : ¬ a < b := by lia
            have y2 : ¬ b < c := by lia
            simp only [y1, y2, if_false] at h1 h2
            exact lle_trans h1 h2
theorem pre_lcp {a t : List Nat} : a <+: t ↔ lcp a t = a.length := by
  constructor
  · rintro ⟨r, rfl⟩
    apply Nat.le_antisymm (lcp_le_left _ _)
    rw [le_lcp]
    refine ⟨Nat.le_refl _, by simp, fun k hk => ?_⟩
    simp [List.getD, List.getElem?_append_left hk]
  · intro h
    have h' : a.length ≤ lcp a t := by lia
    rw [le_lcp] at h'
    obtain ⟨-, h2, h3⟩ := h'
    rw [List.prefix_iff_eq_take]
    apply List.ext_getElem
    · rw [List.length_take]; lia
    · intro i h4 h5
      have := h3 i h4
      simp only [List.getD, List.getElem?_eq_getElem h4, Option.getD_some] at this
      rw [List.getElem_take]
      rw [this, List.getElem?_eq_getElem (by lia), Option.getD_some]
theorem pre_lle : ∀ {a t : List Nat}, a <+: t → lle a t = true
  | [], _, _ => by simp [lle]
  | a :: as, t, ⟨r, e⟩ => by
    subst e
    unfold lle
    simp [pre_lle (a := as) (t := as ++ r) ⟨r, rfl⟩]
/-- a step of the comparing loop that finds a difference at the place n -/
theorem lcp_stop {a t : List Nat} {n : Nat} (h : n ≤ lcp a t) (h1 : n < a.length) (h2 : n < t.length) (h3 : a.getD n 0 ≠ t.getD n 0) : lcp a t = n := by
  apply Nat.le_antisymm _ h
  rcases Nat.lt_or_ge n (lcp a t) with q | q
  · have := (le_lcp.mp (show n + 1 ≤ lcp a t from q)).2.2 n (by lia)
    exact absurd this h3
  · exact q
theorem lle_stop : ∀ {a t : List Nat} {n : Nat}, n ≤ lcp a t → n < a.length → n < t.length → a.getD n 0 ≠ t.getD n 0 → (lle a t = true ↔ a.getD n 0 < t.getD n 0)
  | [], _, _, _, h, _, _ => by simp at h
  | _ :: _, [], _, _, _, h, _ => by simp at h
  | a :: as, b :: bs, 0, _, _, _, h => by
    have h' : a ≠ b := by simpa using h
    show lle (a :: as) (b :: bs) = true ↔ a < b
    unfold lle
    by_cases x : b < a
    · simp only [x, if_true]
      constructor
      · intro q; cases q
      · intro q; lia
    · by_cases y : a < b
      · simp [x, y]
      · lia
  | a :: as, b :: bs, n + 1, h0, h1, h2, h3 => by
    unfold lcp at h0
    by_cases e : a = b
    · rw [if_pos e] at h0
      subst e
      unfold lle
      simp only [Nat.lt_irrefl, if_false]
      exact lle_stop (a := as) (t := bs) (n := n) (by lia) (by simpa using h1) (by simpa using h2) (by simpa [List.getD] using h3)
    · rw [if_neg e] at h0; lia
theorem lle_short : ∀ {a t : List Nat}, lcp a t = t.length → t.length < a.length → lle a t = false
  | [], _, _, h => by simp at h
  | _ :: _, [], _, _ => by simp [lle]
  | a :: as, b :: bs, h, h2 => by
    unfold lcp at h
    by_cases e : a = b
    · rw [if_pos e] at h
      subst e
      unfold lle
      simp only [Nat.lt_irrefl, if_false]
      exact lle_short (by simpa using h) (by simpa using h2)
    · rw [if_neg e] at h; simp at h
/-- prefixes of t below k ≤ t are prefixes of k -/
theorem pre_between {a k t : List Nat} (h1 : a <+: t) (h2 : lle a k = true) (h3 : lle k t = true) : a <+: k := by
  have e : a.length ≤ lcp k t := lcp_squeeze h2 h3 (by rw [pre_lcp.mp h1]; exact Nat.le_refl _) (by rw [pre_lcp.mp (List.prefix_refl t)]; exact h1.length_le)
  rw [pre_lcp]
  apply Nat.le_antisymm (lcp_le_left _ _)
  rw [le_lcp] at e ⊢
  obtain ⟨q1, q2, q3⟩ := e
  have p := le_lcp.mp (show a.length ≤ lcp a t by rw [pre_lcp.mp h1]; exact Nat.le_refl _)
  exact ⟨Nat.le_refl _, q1, fun i hi => (p.2.2 i hi).trans (q3 i hi).symm⟩
example : Str.ofString "ě" = W [283] := by kernel_rfl
example : Str.ofString "ěš" = W [283, 353] := by rfl
end
section
open PySem PySem.W PySem.Calls PyProof.Rows
set_option maxHeartbeats 4000000
abbrev Row := Str × Int × Int
noncomputable def ek (T : List Row) (k : Nat) : List Nat := ((T.getD k (Str.empty, 0, 0)).1.cps.toList).reverse
noncomputable def subk (T : List Row) (k : Nat) : Int := (T.getD k (Str.empty, 0, 0)).2.1
noncomputable def resk (T : List Row) (k : Nat) : Int := (T.getD k (Str.empty, 0, 0)).2.2
structure Good (T : List Row) : Prop where
  two : 2 ≤ T.length
  le : T.length ≤ 1000
  sorted : ∀ i j, i < j → j < T.length → lle (ek T i) (ek T j) = true
  sub : ∀ i, i < T.length → (subk T i < 0 ∧ ∀ j, j < T.length → ek T j <+: ek T i → j = i) ∨
    (∃ k : Nat, subk T i = k ∧ k < i ∧ ek T k <+: ek T i ∧ ∀ j, j < T.length → ek T j <+: ek T i → j = i ∨ ek T j <+: ek T k)
  short : ∀ i, (ek T i).length ≤ 100
/-- what find_among_b finds: n letters, the result r -/
noncomputable def Hit (T : List Row) (t : List Nat) (n : Nat) (r : Int) : Prop :=
  (∃ k, k < T.length ∧ ek T k <+: t ∧ r = resk T k ∧ n = (ek T k).length ∧ ∀ j, j < T.length → ek T j <+: t → (ek T j).length ≤ n) ∨
  (n = 0 ∧ r = 0 ∧ ∀ j, j < T.length → ¬ ek T j <+: t)
/-- the searching loop's state -/
structure Seek (T : List Row) (t : List Nat) (i j ci cj : Nat) : Prop where
  ij : i < j
  jn : j ≤ T.length
  lo : 0 < i → lle (ek T i) t = true ∧ ci = lcp (ek T i) t
  lo0 : i = 0 → ci = 0
  hi : j < T.length → lle (ek T j) t = false ∧ cj = lcp (ek T j) t
  hi0 : j = T.length → cj = 0
noncomputable def Fin (T : List Row) (t : List Nat) (i ci : Nat) : Prop :=
  i < T.length ∧ ((lle (ek T i) t = true ∧ ci = lcp (ek T i) t) ∨ (i = 0 ∧ ci = 0 ∧ lle (ek T 0) t = false)) ∧ ∀ j, i < j → j < T.length → lle (ek T j) t = false
theorem lle_total : ∀ {a t : List Nat}, lle a t = false → lle t a = true
  | [], _, h => by simp [lle] at h
  | _ :: _, [], _ => by simp [lle]
  | a :: as, b :: bs, h => by
    unfold lle at h ⊢
    by_cases x : b < a
    · have y : ¬ a < b := by lia
      simp [x, y]
    · by_cases y : a < b
      · simp [x, y] at h
      · simp only [x, y, if_false] at h ⊢
        exact lle_total h
theorem Good.mono {T : List Row} (G : Good T) {t : List Nat} {i j : Nat} (h : lle (ek T i) t = false) (hij : i ≤ j) (hj : j < T.length) : lle (ek T j) t = false := by
  rcases Nat.lt_or_eq_of_le hij with q | q
  · cases e : lle (ek T j) t with
    | false => rfl
    | true => exact absurd (lle_trans (G.sorted i j q hj) e) (by rw [h]; exact Bool.false_ne_true)
  · subst q; exact h
theorem Good.mono' {T : List Row} (G : Good T) {i j : Nat} (hij : i ≤ j) (hj : j < T.length) : lle (ek T i) (ek T j) = true := by
  rcases Nat.lt_or_eq_of_le hij with q | q
  · exact G.sorted i j q hj
  · subst q; exact lle_refl _
theorem Seek.start {T : List Row} (G : Good T) (t : List Nat) : Seek T t 0 T.length 0 0 :=
  ⟨by have := G.two; lia, Nat.le_refl _, fun h => absurd h (Nat.lt_irrefl _), fun _ => rfl, fun h => absurd h (Nat.lt_irrefl _), fun _ => rfl⟩
/-- the middle entry agrees with t as far as both ends do -/
theorem Seek.mid {T : List Row} (G : Good T) {t : List Nat} {i j ci cj k : Nat} (S : Seek T t i j ci cj) (hk : i ≤ k) (hkj : k < j) : min ci cj ≤ lcp (ek T k) t := by
  have jn := S.jn
  by_cases hi : i = 0
  · rw [S.lo0 hi]; simp
  · by_cases hj : j = T.length
    · rw [S.hi0 hj]; simp
    · obtain ⟨a1, a2⟩ := S.lo (by lia)
      obtain ⟨b1, b2⟩ := S.hi (by lia)
      exact lcp_squeeze (G.mono' hk (by lia)) (G.mono' (Nat.le_of_lt hkj) (by lia)) (by lia) (by lia)
theorem Seek.left {T : List Row} {t : List Nat} {i j ci cj k c : Nat} (S : Seek T t i j ci cj) (hk : i < k) (hkj : k < j) (h : lle (ek T k) t = false) (hc : c = lcp (ek T k) t) : Seek T t i k ci c :=
  ⟨hk, by have := S.jn; lia, S.lo, S.lo0, fun _ => ⟨h, hc⟩, fun e => by have := S.jn; lia⟩
theorem Seek.right {T : List Row} {t : List Nat} {i j ci cj k c : Nat} (S : Seek T t i j ci cj) (hk : i < k) (hkj : k < j) (h : lle (ek T k) t = true) (hc : c = lcp (ek T k) t) : Seek T t k j c cj :=
  ⟨hkj, S.jn, fun _ => ⟨h, hc⟩, fun e => by lia, S.hi, S.hi0⟩
theorem Seek.fin {T : List Row} (G : Good T) {t : List Nat} {i j ci cj : Nat} (S : Seek T t i j ci cj) (hi : 0 < i) (hj : j - i ≤ 1) : Fin T t i ci := by
  have ij := S.ij
  have jn := S.jn
  refine ⟨by lia, .inl (S.lo hi), fun l h1 h2 => ?_⟩
  exact G.mono (S.hi (by lia)).1 (by lia) h2
theorem Seek.fin0 {T : List Row} (G : Good T) {t : List Nat} {ci cj c : Nat} (S : Seek T t 0 1 ci cj) (h : lle (ek T 0) t = true) (hc : c = lcp (ek T 0) t) : Fin T t 0 c := by
  have := G.two
  exact ⟨by lia, .inl ⟨h, hc⟩, fun l h1 h2 => G.mono (S.hi (by lia)).1 (by lia) h2⟩
theorem Seek.fin1 {T : List Row} (G : Good T) {t : List Nat} {ci cj : Nat} (S : Seek T t 0 1 ci cj) (h : lle (ek T 0) t = false) : Fin T t 0 ci := by
  have := G.two
  exact ⟨by lia, .inr ⟨rfl, S.lo0 rfl, h⟩, fun l h1 h2 => G.mono h (by lia) h2⟩
theorem pre_le {a b t : List Nat} (h : a <+: b) : a <+: t ↔ a.length ≤ lcp b t := by
  have p := le_lcp.mp (show a.length ≤ lcp a b by rw [pre_lcp.mp h]; exact Nat.le_refl _)
  rw [pre_lcp]
  constructor
  · intro e
    have q := le_lcp.mp (show a.length ≤ lcp a t by rw [e]; exact Nat.le_refl _)
    exact le_lcp.mpr ⟨p.2.1, q.2.1, fun k hk => (p.2.2 k hk).symm.trans (q.2.2 k hk)⟩
  · intro e
    have q := le_lcp.mp e
    exact Nat.le_antisymm (lcp_le_left _ _) (le_lcp.mpr ⟨Nat.le_refl _, q.2.1, fun k hk => (p.2.2 k hk).trans (q.2.2 k hk)⟩)
/-- the second loop's state -/
noncomputable def Chain (T : List Row) (t : List Nat) (ci i : Nat) : Prop :=
  i < T.length ∧ (∀ j, j < T.length → ek T j <+: t → ek T j <+: ek T i) ∧ ((∃ i0, ek T i <+: ek T i0 ∧ ci = lcp (ek T i0) t) ∨ (i = 0 ∧ ci = 0 ∧ ∀ j, j < T.length → ¬ ek T j <+: t))
theorem Fin.chain {T : List Row} (G : Good T) {t : List Nat} {i ci : Nat} (h : Fin T t i ci) : Chain T t ci i := by
  obtain ⟨hi, h1, h2⟩ := h
  rcases h1 with ⟨a, b⟩ | ⟨rfl, b, c⟩
  · refine ⟨hi, fun j hj hp => ?_, .inl ⟨i, List.prefix_refl _, b⟩⟩
    rcases Nat.lt_or_ge i j with q | q
    · exact absurd (pre_lle hp) (by rw [h2 j q hj]; exact Bool.false_ne_true)
    · exact pre_between hp (G.mono' q hi) a
  · have no : ∀ j, j < T.length → ¬ ek T j <+: t := fun j hj hp => absurd (pre_lle hp) (by rw [G.mono c (Nat.zero_le _) hj]; exact Bool.false_ne_true)
    exact ⟨hi, fun j hj hp => absurd hp (no j hj), .inr ⟨rfl, b, no⟩⟩
theorem Chain.hit {T : List Row} {t : List Nat} {i ci : Nat} (h : Chain T t ci i) (hl : (ek T i).length ≤ ci) : Hit T t (ek T i).length (resk T i) ∧ ek T i <+: t := by
  obtain ⟨hi, h1, h2⟩ := h
  have hp : ek T i <+: t := by
    rcases h2 with ⟨i0, a, b⟩ | ⟨rfl, b, c⟩
    · exact (pre_le a).mpr (by lia)
    · exfalso
      apply c 0 hi
      have : ek T 0 = [] := List.length_eq_zero_iff.mp (by lia)
      rw [this]; exact List.nil_prefix
  exact ⟨.inl ⟨i, hi, hp, rfl, rfl, fun j hj q => (h1 j hj q).length_le⟩, hp⟩
theorem Chain.step {T : List Row} (G : Good T) {t : List Nat} {i ci : Nat} (h : Chain T t ci i) (hl : ¬ (ek T i).length ≤ ci) : (subk T i < 0 ∧ Hit T t 0 0) ∨ ∃ k : Nat, subk T i = k ∧ k < i ∧ Chain T t ci k := by
  obtain ⟨hi, h1, h2⟩ := h
  rcases h2 with ⟨i0, a, b⟩ | ⟨rfl, b, c⟩
  · have no : ¬ ek T i <+: t := fun q => hl (by rw [b]; exact (pre_le a).mp q)
    rcases G.sub i hi with ⟨s1, s2⟩ | ⟨k, s1, s2, s3, s4⟩
    · refine .inl ⟨s1, .inr ⟨rfl, rfl, fun j hj q => ?_⟩⟩
      have := s2 j hj (h1 j hj q)
      subst this
      exact no q
    · refine .inr ⟨k, s1, s2, by lia, fun j hj q => ?_, .inl ⟨i0, s3.trans a, b⟩⟩
      rcases s4 j hj (h1 j hj q) with r | r
      · subst r; exact absurd q no
      · exact r
  · rcases G.sub 0 hi with ⟨s1, s2⟩ | ⟨k, s1, s2, s3, s4⟩
    · exact .inl ⟨s1, .inr ⟨rfl, rfl, c⟩⟩
    · lia
end
section
open PySem PySem.W PySem.Calls PyProof.Rows
set_option maxHeartbeats 4000000
end
local macro_rules | `(tactic| walk_at "exec While Constant") => `(tactic| (refine Halt.out ?_))
section
open PySem PySem.W PySem.Calls PyProof.Rows
set_option maxHeartbeats 4000000
end
local macro_rules | `(tactic| walk_at "pyIter ref") => `(tactic| (refine Halt.out ?_))
section
open PySem PySem.W PySem.Calls PyProof.Rows
set_option maxHeartbeats 4000000
local macro_rules | `(tactic| walk_at "call builtin:len") => `(tactic| ((with_reducible show wpAny _ _ (call (Value.builtin _) [Value.ref _]) _ _ _); (refine tab_len (by assumption) (by assumption) (by omega) ?_); intro _ _))
local macro_rules | `(tactic| walk_at "subscriptTail") => `(tactic| ((try dsimp only); (with_reducible show wpAny _ _ (subscriptTail _ _ (Value.ref _) (Value.int _ _)) _ _ _); (refine Halt.out ?_)))
local macro_rules | `(tactic| walk_at "subscriptTail") => `(tactic| ((with_reducible show wpAny _ _ (subscriptTail _ _ (Value.str (W _) _) (Value.int _ _)) _ _ _); (refine x_item (by omega) (by first | omega | (simp only [List.length_reverse]; omega)) (by first | omega | (simp only [List.length_reverse]; omega)) ?_)))
noncomputable def AllIn (m : Str → Option Value) : List (Str × Value) → Prop
  | [] => True
  | p :: r => m p.1 = some p.2 ∧ AllIn m r
theorem AllIn.all {m : Str → Option Value} : ∀ {ps : List (Str × Value)}, AllIn m ps → ∀ p ∈ ps, m p.1 = some p.2
  | [], _, p, hp => by cases hp
  | q :: r, h, p, hp => by
    rcases List.mem_cons.mp hp with e | e
    · subst e; exact h.1
    · exact h.2.all p e
theorem fr_kst {g h : Heap} {L : Addr} {m : Str → Option Value} {ps : List (Str × Value)} (F : Fr g L h m) (a : AllIn m ps) : Fr g L h (kstB m ps) := by
  have e : kstB m ps = m := by
    funext y
    exact kstB_eq a.all fun _ => rfl
  rw [e]
  exact F
theorem half_is {i j : Nat} (h : i < j) : ∃ k : Nat, ((i : Int) + ((j : Int) - i).fdiv (2 ^ Int.toNat 1) = (k : Int)) ∧ i ≤ k ∧ k < j ∧ 2 * k ≤ i + j ∧ i + j ≤ 2 * k + 1 := by
  have e : (2 : Int) ^ Int.toNat 1 = 2 := rfl
  rw [e, Int.fdiv_eq_ediv_of_nonneg _ (by decide)]
  obtain ⟨d, rfl⟩ : ∃ d, j = i + d := ⟨j - i, by lia⟩
  have e2 : ((i + d : Nat) : Int) - i = (d : Int) := by lia
  refine ⟨i + d / 2, ?_, Nat.le_add_right _ _, by lia, by lia, by lia⟩
  rw [e2]
  rfl
theorem t_len {cur : List Nat} {c lb : Int} (h0 : 0 ≤ lb) (h1 : lb ≤ c) (h2 : c ≤ cur.length) : ((((cur.drop lb.toNat).take (c - lb).toNat).reverse).length : Int) = c - lb := by
  obtain ⟨p, rfl⟩ := Int.eq_ofNat_of_zero_le h0
  obtain ⟨q, rfl⟩ := Int.eq_ofNat_of_zero_le (Int.le_trans h0 h1)
  have h3 : p ≤ q := Int.ofNat_le.mp h1
  have h4 : q ≤ cur.length := Int.ofNat_le.mp h2
  rw [Int.toNat_sub, Int.toNat_natCast, List.length_reverse, List.length_take, List.length_drop, Nat.min_eq_left (Nat.sub_le_sub_right h4 p)]
  exact Int.ofNat_sub h3
theorem t_at {cur : List Nat} {c lb : Int} {cm : Nat} (h0 : 0 ≤ lb) (h1 : lb ≤ c) (h2 : c ≤ cur.length) (h : (cm : Int) < c - lb) :
    (((cur.drop lb.toNat).take (c - lb).toNat).reverse).getD cm 0 = cur.getD (c - 1 - cm).toNat 0 := by
  obtain ⟨p, rfl⟩ := Int.eq_ofNat_of_zero_le h0
  obtain ⟨q, rfl⟩ := Int.eq_ofNat_of_zero_le (Int.le_trans h0 h1)
  have h3 : p ≤ q := Int.ofNat_le.mp h1
  have h4 : q ≤ cur.length := Int.ofNat_le.mp h2
  rw [← Int.ofNat_sub h3] at h
  have h5 : cm < q - p := Int.ofNat_lt.mp h
  have e2 : ((q : Int) - 1 - cm).toNat = q - (1 + cm) := by rw [Int.sub_sub]; exact Int.toNat_sub q (1 + cm)
  rw [Int.toNat_sub, e2, Int.toNat_natCast]
  obtain ⟨d, rfl⟩ : ∃ d, q = p + d := ⟨q - p, (Nat.add_sub_cancel' h3).symm⟩
  rw [Nat.add_sub_cancel_left] at h5 ⊢
  have h6 : 1 + cm ≤ d := Nat.add_comm 1 cm ▸ h5
  have hl : ((cur.drop p).take d).length = d := by rw [List.length_take, List.length_drop]; exact Nat.min_eq_left (Nat.le_sub_of_add_le (Nat.add_comm p d ▸ h4))
  rw [List.getD_eq_getElem?_getD, List.getD_eq_getElem?_getD, List.getElem?_reverse (by rw [hl]; exact h5), hl, Nat.sub_sub, List.getElem?_take, if_pos (Nat.sub_lt (Nat.lt_of_lt_of_le (Nat.lt_of_lt_of_le Nat.one_pos (Nat.le_add_right 1 cm)) h6) (Nat.lt_of_lt_of_le Nat.one_pos (Nat.le_add_right 1 cm))), List.getElem?_drop, Nat.add_sub_assoc h6]
theorem rev_at {e : List Nat} {cm : Nat} {i : Int} (h : cm < e.length) (hi : i = (e.length : Int) - 1 - cm) : e.reverse.getD i.toNat 0 = e.getD cm 0 := by
  have e2 : i.toNat = e.length - (1 + cm) := by rw [hi, Int.sub_sub]; exact Int.toNat_sub e.length (1 + cm)
  have h6 : 1 + cm ≤ e.length := Nat.add_comm 1 cm ▸ h
  rw [List.getD_eq_getElem?_getD, List.getD_eq_getElem?_getD, e2, List.getElem?_reverse (Nat.sub_lt (Nat.lt_of_lt_of_le (Nat.lt_of_lt_of_le Nat.one_pos (Nat.le_add_right 1 cm)) h6) (Nat.lt_of_lt_of_le Nat.one_pos (Nat.le_add_right 1 cm)))]
  have e3 : e.length - 1 - (e.length - (1 + cm)) = cm := by
    obtain ⟨r, hr⟩ := Nat.exists_eq_add_of_le h6
    rw [hr, Nat.add_sub_cancel_left, Nat.sub_right_comm, Nat.add_sub_cancel, Nat.add_sub_cancel_left]
  rw [e3]
theorem down_n {L mn : Nat} : ((L : Int) - 1 - (mn : Int) - -1).toNat = L - mn := by
  have e : (L : Int) - 1 - (mn : Int) - -1 = (L : Int) - (mn : Int) := by lia
  rw [e]
  exact Int.toNat_sub L mn
theorem half_lt {i j k : Nat} (h : i + 1 < j) (h2 : i + j ≤ 2 * k + 1) : i < k := by lia
theorem lcp_more {a t : List Nat} {n : Nat} (h : n ≤ lcp a t) (h1 : n < a.length) (h2 : n < t.length) (h3 : a.getD n 0 = t.getD n 0) : n + 1 ≤ lcp a t := by
  rw [le_lcp] at h ⊢
  refine ⟨h1, h2, fun k hk => ?_⟩
  by_cases e : k = n
  · subst e; exact h3
  · exact h.2.2 k (by lia)
theorem allIn_of {m : Str → Option Value} : ∀ {ps : List (Str × Value)}, ps.map (fun p => m p.1) = ps.map (fun p => some p.2) → AllIn m ps
  | [], _ => trivial
  | _ :: _, h => ⟨(List.cons.inj h).1, allIn_of (List.cons.inj h).2⟩
section
variable {w : World} {A : Around} {E : Value → Shared → Prop} {Q : Flow → Shared → Prop} {s : Shared} {env : Env} {h₀ : Heap} {L : Addr}
/-- a while whose state is c, told by the local names ps c; the objects news stand as they are -/
theorem While_loc {σ : Type} {test : Expr} {body : List Stmt} {pos : Pos} {m : Str → Option Value} {news : List (Addr × Obj)} (ps : σ → List (Str × Value)) (J : Nat → σ → Prop) (n₀ : Nat)
    (F : Fr h₀ L s.heap m) (N : News h₀ L s.heap news) (h0 : ∃ c₀, J n₀ c₀ ∧ AllIn m (ps c₀))
    (turn : ∀ n c u h₁ tk₁, J n c → Fr h₀ L h₁ (kstB u (ps c)) → News h₀ L h₁ news →
      wpAny (model pw w) A (isTrue test env (eval test env)) (fun b s₂ =>
        if b = true then wpAny (model pw w) A (execs body env) (WhileStep2 h₀ L s (fun n m₁ news₁ => news₁ = news ∧ ∃ c, J n c ∧ AllIn m₁ (ps c)) Q n) E s₂ else Q .next s₂) E { s with heap := h₁, toks := tk₁ })
    (hE : PassesOwn (model pw w) A env E := by passes_own) :
    wpAny (model pw w) A (exec (.While test body [] pos) env) Q E s := by
  refine While_inv2 (fun n m₁ news₁ => news₁ = news ∧ ∃ c, J n c ∧ AllIn m₁ (ps c)) F N ⟨rfl, h0⟩ ?_ hE
  rintro n m₁ news₁ h₁ tk₁ F₁ N₁ ⟨rfl, c, hj, hp⟩
  exact turn n c m₁ h₁ tk₁ hj (fr_kst F₁ hp) N₁
theorem turn_loc {σ : Type} {m : Str → Option Value} {news : List (Addr × Obj)} {ps : σ → List (Str × Value)} {J : Nat → σ → Prop} {n n' tk : Nat} {h' : Heap} (c : σ) (F : Fr h₀ L h' m) (N : News h₀ L h' news) (hn : n' < n) (hj : J n' c) (ha : AllIn m (ps c)) :
    WhileStep2 h₀ L s (fun n m₁ news₁ => news₁ = news ∧ ∃ c, J n c ∧ AllIn m₁ (ps c)) Q n .next { s with heap := h', toks := tk } :=
  ⟨h', tk, m, _, n', rfl, F, N, hn, rfl, c, hj, ha⟩
noncomputable def DownPost {σ : Type} (h₀ : Heap) (L : Addr) (news own : List (Addr × Obj)) (ps : σ → List (Str × Value)) (Jn Mid : σ → Prop) (s₁ : Shared) (f : Flow) (s₂ : Shared) : Prop :=
  match f with
  | .next | .cont => ∃ h' tk m' c, s₂ = { s₁ with heap := h', toks := tk } ∧ Fr h₀ L h' m' ∧ News h₀ L h' (news ++ own) ∧ Jn c ∧ AllIn m' (ps c)
  | .brk => ∃ h' tk m' c, s₂ = { s₁ with heap := h', toks := tk } ∧ Fr h₀ L h' m' ∧ News h₀ L h' (news ++ own) ∧ Mid c ∧ AllIn m' (ps c)
  | .ret _ => False
section
variable {σ : Type} {h' : Heap} {tk : Tok} {m' : Str → Option Value} {news own : List (Addr × Obj)} {ps : σ → List (Str × Value)} {Jn Mid : σ → Prop}
theorem down_brk (c : σ) (F : Fr h₀ L h' m') (N : News h₀ L h' (news ++ own)) (hm : Mid c) (ha : AllIn m' (ps c)) : DownPost h₀ L news own ps Jn Mid s .brk { s with heap := h', toks := tk } := ⟨h', tk, m', c, rfl, F, N, hm, ha⟩
theorem down_next (c : σ) (F : Fr h₀ L h' m') (N : News h₀ L h' (news ++ own)) (hj : Jn c) (ha : AllIn m' (ps c)) : DownPost h₀ L news own ps Jn Mid s .next { s with heap := h', toks := tk } := ⟨h', tk, m', c, rfl, F, N, hj, ha⟩
end
theorem fiveA {α β γ δ ε : Type} {τ : Type} {P : (α × β × γ × δ × ε) × (τ × τ × τ × τ × τ × τ) → Prop} (h : ∀ a b c d e t1 t2 t3 t4 t5 t6, P ((a, b, c, d, e), (t1, t2, t3, t4, t5, t6))) : ∀ q, P q := fun ⟨⟨_, _, _, _, _⟩, ⟨_, _, _, _, _, _⟩⟩ => h _ _ _ _ _ _ _ _ _ _ _
theorem twoA {α β τ : Type} {P : (α × β) × (τ × τ × τ) → Prop} (h : ∀ a b t1 t2 t3, P ((a, b), (t1, t2, t3))) : ∀ q, P q := fun ⟨⟨_, _⟩, ⟨_, _, _⟩⟩ => h _ _ _ _ _
theorem oneA {α τ : Type} {P : α × (τ × τ × τ) → Prop} (h : ∀ a t1 t2 t3, P (a, (t1, t2, t3))) : ∀ q, P q := fun ⟨_, ⟨_, _, _⟩⟩ => h _ _ _ _
/-- what the search's first loop leaves -/
noncomputable def FoundP (g : Heap) (L : Addr) (nw : List (Addr × Obj)) (s : Shared) (TT : List Row) (t : List Nat) (x a : Addr) (c lb : Int) (f : Flow) (s' : Shared) : Prop :=
  f = .next ∧ ∃ (i ci : Nat) (u : Str → Option Value) (h₁ : Heap) (tk : Nat) (ti tci tc tl : Tok), s' = { s with heap := h₁, toks := tk } ∧ Fin TT t i ci ∧ News g L h₁ nw ∧
    Fr g L h₁ (kstB u [("self", .ref x), ("v", .ref a), ("c", .int c tc), ("lb", .int lb tl), ("i", .int i ti), ("common_i", .int ci tci)])
theorem found_mk {g : Heap} {nw : List (Addr × Obj)} {TT : List Row} {t : List Nat} {x a : Addr} {c lb : Int} {h₁ : Heap} {m : Str → Option Value} {tk ti tci tc tl : Tok} (i ci : Nat) (hF : Fin TT t i ci) (N : News g L h₁ nw) (F : Fr g L h₁ m)
    (ha : AllIn m [("self", .ref x), ("v", .ref a), ("c", .int c tc), ("lb", .int lb tl), ("i", .int i ti), ("common_i", .int ci tci)]) : FoundP g L nw s TT t x a c lb .next { s with heap := h₁, toks := tk } :=
  ⟨rfl, i, ci, m, h₁, tk, ti, tci, tc, tl, rfl, hF, N, fr_kst F ha⟩
theorem found_use {g : Heap} {nw : List (Addr × Obj)} {TT : List Row} {t : List Nat} {x a : Addr} {c lb : Int} {G : Flow → Shared → Prop}
    (h : ∀ i ci u h₁ tk ti tci tc tl, Fin TT t i ci → News g L h₁ nw → Fr g L h₁ (kstB u [("self", .ref x), ("v", .ref a), ("c", .int c tc), ("lb", .int lb tl), ("i", .int (i : Nat) ti), ("common_i", .int (ci : Nat) tci)]) → G .next { s with heap := h₁, toks := tk }) :
    ∀ f s', FoundP g L nw s TT t x a c lb f s' → G f s' := by
  rintro f s' ⟨rfl, i, ci, u, h₁, tk, ti, tci, tc, tl, rfl, hF, N, F⟩
  exact h i ci u h₁ tk ti tci tc tl hF N F
/-- a for over a range that goes down, with a break -/
theorem For_down {σ : Type} {r : Addr} {a₀ b₀ : Int} {t₀ u₀ v₀ : Tok} {x : Str} {body : List Stmt} {m₀ : Str → Option Value} {news : List (Addr × Obj)} (ps : σ → List (Str × Value)) (J : Nat → σ → Prop) (Mid : σ → Prop) (n : Nat)
    (hh : A.handled = none) (hr : IsRange s.heap r a₀ b₀ (-1) t₀ u₀ v₀) (F : Fr h₀ env.locals s.heap m₀) (N : News h₀ env.locals s.heap news) (hsmall : Builtin.Range.small a₀ b₀ (-1) = true) (hn : (a₀ - b₀).toNat = n)
    (h0 : ∃ c₀, J 0 c₀ ∧ AllIn m₀ (ps c₀)) (done : ∀ c, J n c → Mid c)
    (turn : ∀ i c u h tk own t, i < n → J i c → Fr h₀ env.locals h (fun y => if y = x then some (.int (a₀ - (i : Int)) t) else kstB u (ps c) y) → News h₀ env.locals h (news ++ own) →
      wpAny (model pw w) A (execs body env) (DownPost h₀ env.locals news own ps (J (i + 1)) Mid { s with heap := h, toks := tk }) E { s with heap := h, toks := tk })
    (cont : ∀ c u h tk, Mid c → Fr h₀ env.locals h (kstB u (ps c)) → News h₀ env.locals h news → Q .next { s with heap := h, toks := tk }) :
    wpAny (model pw w) A (pyIter (.ref r)) (fun it s₂ => LoopAtV pw w A h₀ env x body Q E it s₂) E s := by
  obtain ⟨c₀, hJ, ha⟩ := h0
  refine wpAny_pyIter_range hr hsmall ?_
  have W : Walks pw w A s.heap.objs.size [s.heap.objs.size] [s.heap.objs.size] n (fun i v => i < n ∧ ∃ t, v = .int (a₀ + i * (-1)) t)
      (fun i h => IsRangeIter h s.heap.objs.size (a₀ + (i : Nat) * (-1)) ((n : Int) - (i : Nat)) (-1)) := (Walks.range hh _ a₀ (-1) n).bound
  refine loop_invN (fun i m₁ nx => nx = news ∧ ∃ c, J i c ∧ AllIn m₁ (ps c)) W ?_ ?_ ?_ ?_ (by show IsRangeIter _ _ _ _ _; rw [rangeSize_downNat, hn]; simpa using Heap.get?_push_size _ rfl) (F.push _) (fun p hp => ⟨Heap.get?_push_of_some _ (N p hp).1, (N p hp).2⟩) ⟨rfl, c₀, hJ, ha⟩ ?_ ?_
  · intro hm
    exact absurd F.ns.lt ((List.mem_singleton.mp hm) ▸ Nat.lt_irrefl _)
  · intro b hb
    rw [List.mem_singleton.mp hb]
    exact next_is_new F
  · intro p hp hI
    exact absurd (Heap.lt_size (N p hp).1) ((List.mem_singleton.mp hI) ▸ Nat.lt_irrefl _)
  · intro p hp hI
    exact absurd (Heap.lt_size (N p hp).1) ((List.mem_singleton.mp hI) ▸ Nat.lt_irrefl _)
  · rintro i v m₁ nx h tk own hi ⟨_, t, rfl⟩ _ hoff ⟨rfl, c, hj, hp⟩ F₁ N₁
    have e1 : a₀ + (i : Int) * (-1) = a₀ - (i : Int) := by lia
    rw [e1] at F₁
    have e2 : (fun y => if y = x then some (Value.int (a₀ - (i : Int)) t) else m₁ y) = (fun y => if y = x then some (Value.int (a₀ - (i : Int)) t) else kstB m₁ (ps c) y) := by
      have e : kstB m₁ (ps c) = m₁ := by
        funext y
        exact kstB_eq hp.all fun _ => rfl
      rw [e]
    rw [e2] at F₁
    refine wpAny_mono (turn i c m₁ h tk own t hi hj F₁ N₁) (fun f s₂ q => ?_) fun _ _ x => x
    cases f with
    | ret v => exact q.elim
    | brk =>
      obtain ⟨h', tk', m', c', rfl, F', N', hm, ha'⟩ := q
      exact cont c' m' h' tk' hm (fr_kst F' ha') (fun p hp => N' p (List.mem_append_left _ hp))
    | next =>
      obtain ⟨h', tk', m', c', rfl, F', N', hj', ha'⟩ := q
      exact ⟨h', tk', m', _, _, rfl, F', N', fun p hp => List.mem_append_left _ hp, fun p hp => List.mem_append_right _ hp, rfl, rfl, c', hj', ha'⟩
    | cont =>
      obtain ⟨h', tk', m', c', rfl, F', N', hj', ha'⟩ := q
      exact ⟨h', tk', m', _, _, rfl, F', N', fun p hp => List.mem_append_left _ hp, fun p hp => List.mem_append_right _ hp, rfl, rfl, c', hj', ha'⟩
  · rintro m₁ nx h tk ⟨rfl, c, hj, hp⟩ F₁ N₁
    exact cont c m₁ h tk (done c hj) (fr_kst F₁ hp) N₁
end
section
variable {w : World} {A : Around} {E : Value → Shared → Prop} {Q : Value → Shared → Prop} {s : Shared} {h₀ : Heap} {L : Addr} {m : Str → Option Value} {news : List (Addr × Obj)}
theorem x_min {a b : Nat} {t u : Tok} (hh : A.handled = none) (F : Fr h₀ L s.heap m) (N : News h₀ L s.heap news)
    (h : ∀ h' k t', Fr h₀ L h' m → News h₀ L h' news → Q (.int (min a b : Nat) t') { s with heap := h', toks := k }) :
    wpAny (model pw w) A (call (.builtin "min") [.int a t, .int b u]) Q E s := by
  refine min_two_ints hh fun h' tk hk => ?_
  have F' := F.keeps hk
  have N' := N.keepsAll hk
  by_cases e : (b : Int) < a
  · rw [if_pos e]
    have : b = min a b := by lia
    rw [this]
    exact h h' tk u (by assumption) (by assumption)
  · rw [if_neg e]
    have : a = min a b := by lia
    rw [this]
    exact h h' tk t (by assumption) (by assumption)
end
section
variable {w : World} {A : Around} {E : Value → Shared → Prop} {Q : Value → Shared → Prop} {s : Shared} {g : Heap} {L : Addr} {m : Str → Option Value} {TT : List Row} {k : Nat} {a n0 : Addr} {expr : Bool}
theorem tab_row (hk : k < TT.length) : TT[k]? = some (TT.getD k (Str.empty, 0, 0)) := by
  simp [List.getD, List.getElem?_eq_getElem hk]
theorem tab_s (F : Fr g L s.heap m) (X : (KK w.params).In g) (hT : TabAt w g a n0 TT) (hk : k < TT.length) (h : ∀ t k', Q (.str (W (Mine.ek TT k).reverse) t) { s with toks := k' }) :
    wpAny (model pw w) A (getAttr (.ref (n0 + 3 * k + 1)) (Str.ofString "s") expr) Q E s := by
  refine am_s F X (hT.am k _ (tab_row hk)) fun t k' => ?_
  have := h t k'
  unfold Mine.ek at this
  rw [List.reverse_reverse, W_of] at this
  exact this
theorem tab_sub (F : Fr g L s.heap m) (X : (KK w.params).In g) (hT : TabAt w g a n0 TT) (hk : k < TT.length) (h : ∀ t k', Q (.int (subk TT k) t) { s with toks := k' }) :
    wpAny (model pw w) A (getAttr (.ref (n0 + 3 * k + 1)) (Str.ofString "substring_i") expr) Q E s :=
  am_sub F X (hT.am k _ (tab_row hk)) fun t k' => h t k'
theorem tab_res (F : Fr g L s.heap m) (X : (KK w.params).In g) (hT : TabAt w g a n0 TT) (hk : k < TT.length) (h : ∀ t k', Q (.int (resk TT k) t) { s with toks := k' }) :
    wpAny (model pw w) A (getAttr (.ref (n0 + 3 * k + 1)) (Str.ofString "result") expr) Q E s :=
  am_res F X (hT.am k _ (tab_row hk)) fun t k' => h t k'
theorem x_lenr {l : List Nat} {t : Tok} (hn : l.length ≤ 100) (h : Q (.int l.length (s.toks + 1)) { s with toks := s.toks + 1 + 1 }) : wpAny (model pw w) A (call (.builtin "len") [.str (W l.reverse) t]) Q E s :=
  x_len (by rw [List.length_reverse]; lia) (by rw [List.length_reverse]; exact h)
end
local macro_rules | `(tactic| walk_at "call builtin:len") => `(tactic| (refine x_lenr (by assumption) ?_))
local macro_rules | `(tactic| walk_at "getAttr ref") => `(tactic| ((with_reducible show wpAny _ _ (getAttr (Value.ref (_ + 3 * _ + 1)) _ _) _ _ _); first | (refine tab_s (by assumption) (by assumption) (by assumption) (by assumption) ?_); intro _ _ | (refine tab_sub (by assumption) (by assumption) (by assumption) (by assumption) ?_); intro _ _ | (refine tab_res (by assumption) (by assumption) (by assumption) (by assumption) ?_); intro _ _))
local macro_rules | `(tactic| walk_at "call builtin:min") => `(tactic| ((with_reducible show wpAny _ _ (call (Value.builtin _) [Value.int (Nat.cast _) _, Value.int (Nat.cast _) _]) _ _ _); (refine x_min (by assumption) (by assumption) (by assumption) ?_); intro _ _ _ _ _))
section
variable {w : World} {A : Around} {E : Value → Shared → Prop} {s : Shared} {mg mb : Str → Option Value} {H : Heap} {x dx : Addr} {od : Obj} {Q : Value → Shared → Prop}
theorem find_among_b {cur : List Nat} {c l lb bra ket ip : Int} {a n0 : Addr} {TT : List Row}
    (hA : A.depth + 40 < recursionLimit) (hH : A.handled = none) (M : Me w mg mb H s.heap x dx od) (hd : IsSt w (W cur) c l lb bra ket (some ip) od)
    (hT : ∀ g, Tops w g → TabAt w g a n0 TT) (G : Good TT)
    (h0 : 0 ≤ lb) (h1 : lb ≤ c) (h2 : c ≤ cur.length) (hv : cur.length ≤ 1000)
    (hQ : ∀ n r, Hit TT (((cur.drop lb.toNat).take (c - lb).toNat).reverse) n r → ∀ t, On w mg mb H s x dx Q (.int r t) (IsSt w (W cur) (c - n) l lb bra ket (some ip))) :
    wpAny (model pw w) A (call (.ref 140) [.ref x, .ref a]) Q E s := by
  first | (refine entry7 hd M ?_; clear hd M; intro _ _ M) | (refine entry6 hd M ?_; clear hd M; intro _ _ M) | cases hd
  refine wpAny_call ?_
  refine' enter_self [("self", .ref x), ("v", .ref a)] M ?k1 ?k2 ?k3 ?k4 ?k5 ?_ ?c2 ?c3 ?c4 ?c5
  case k1 => k_is
  case k2 => k_is
  case k3 => lia
  case k4 => exact BindsTo.of_eq rfl
  case c5 => decide
  case k5 => exact locs rfl
  case c2 => exact rfl
  case c3 => exact rfl
  case c4 => exact rfl
  have hne0 := M.ne
  have hne := neN M.ne
  clear M
  intro g L' h' O KX T F' N' fin
  try dsimp only
  first | (with_reducible refine hid_all s ?_; intro _ _ _) | skip
  have hTg := hT _ O.tops
  have hTn := G.le
  generalize ht : ((cur.drop lb.toNat).take (c - lb).toNat).reverse = t at hQ
  k_steps
  first | with_reducible refine Halt.mk ?_ | skip
  obtain ⟨nw, N0, hnw⟩ : ∃ nw, News g L' _ nw ∧ nw = [(x, selfI dx), (dx, _)] := ⟨_, by assumption, rfl⟩
  refine wpAny_mono (Q := FoundP g L' nw s TT t x a c lb) ?_ ?_ (fun _ _ h => h)
  · refine While_loc (σ := (Nat × Nat × Nat × Nat × Bool) × (Tok × Tok × Tok × Tok × Tok × Tok))
      (fun q => [("self", .ref x), ("v", .ref a), ("c", .int c q.2.1), ("lb", .int lb q.2.2.1), ("i", .int q.1.1 q.2.2.2.1), ("j", .int q.1.2.1 q.2.2.2.2.1), ("common_i", .int q.1.2.2.1 q.2.2.2.2.2.1), ("common_j", .int q.1.2.2.2.1 q.2.2.2.2.2.2),
        ("first_key_inspected", .bool q.1.2.2.2.2)])
      (fun n q => Seek TT t q.1.1 q.1.2.1 q.1.2.2.1 q.1.2.2.2.1 ∧ (q.1.2.1 = q.1.1 + 1 → q.1.1 = 0) ∧ n = q.1.2.1 - q.1.1 ∧ q.1.2.2.2.2 = decide (q.1.2.1 = q.1.1 + 1)) TT.length (by assumption) N0 ?_ ?_
    · have h2 := G.two
      exact ⟨((0, TT.length, 0, 0, false), (_, _, _, _, _, _)), ⟨Seek.start G t, fun _ => rfl, rfl, (decide_eq_false (by show ¬ (TT.length = 0 + 1); lia)).symm⟩, allIn_of rfl⟩
    intro n
    refine fiveA ?_
    intro i j ci cj b tc tl ti tj tci tcj u h₁ tk₁ hJ F' N'
    dsimp only at hJ F'
    have hS := hJ.1
    have hS0 := hJ.2.1
    have hn := hJ.2.2.1
    have hb := hJ.2.2.2
    clear hJ
    rw [hnw] at N'
    have hij := hS.ij
    have hjn := hS.jn
    obtain ⟨k, hk, hk1, hk2, hk3, hk4⟩ := half_is hij
    k_steps
    first | with_reducible refine Halt.mk ?_ | skip
    rename Fr _ _ _ _ => F1
    rename News _ _ _ _ => N1
    rw [hk] at F1 ⊢
    clear hk
    refine tab_item F1 hTg (by lia) (by lia) G.le ?_
    rw [Int.toNat_natCast]
    have hkn : k < TT.length := by lia
    have hks := G.short k
    have hmid := hS.mid G hk1 hk2
    have hll := lcp_le_left (Mine.ek TT k) t
    have hlr := lcp_le_right (Mine.ek TT k) t
    have htl : (t.length : Int) = c - lb := by rw [← ht]; exact t_len h0 h1 h2
    k_steps
    first | with_reducible refine Halt.mk ?_ | skip
    generalize min ci cj = mn at *
    refine For_down (σ := (Nat × Int) × (Tok × Tok × Tok))
      (fun q => [("self", .ref x), ("v", .ref a), ("c", .int c tc), ("lb", .int lb tl), ("i", .int i ti), ("j", .int j tj), ("common_i", .int ci tci), ("common_j", .int cj tcj), ("first_key_inspected", .bool b),
        ("k", .int k q.2.1), ("w", .ref (n0 + 3 * k + 1)), ("diff", .int q.1.2 q.2.2.1), ("common", .int q.1.1 q.2.2.2)])
      (fun n q => q.1.1 = mn + n ∧ q.1.1 ≤ lcp (Mine.ek TT k) t ∧ q.1.2 = 0) (fun q => q.1.1 = lcp (Mine.ek TT k) t ∧ (q.1.2 < 0 ↔ lle (Mine.ek TT k) t = false)) ((Mine.ek TT k).length - mn)
      hH (by assumption) (by assumption) (by assumption) (small_down (by lia) (by lia) (by decide) (by decide)) down_n ⟨((mn, 0), (_, _, _)), ⟨rfl, hmid, rfl⟩, allIn_of rfl⟩ ?_ ?_ ?_
    · rintro ⟨⟨cm, df⟩, _, _, _⟩ ⟨q1, q2, q3⟩
      dsimp only at q1 q2 q3 ⊢
      have e : lcp (Mine.ek TT k) t = (Mine.ek TT k).length := by lia
      refine ⟨by lia, ?_⟩
      rw [pre_lle (pre_lcp.mpr e), q3]
      simp
    · intro i1
      refine twoA ?_
      intro cm df tkk td tcm u2 h3 tk2 own t2 hi hq F5 N5
      dsimp only at hq F5
      have q1 := hq.1
      have q2 := hq.2.1
      have q3 := hq.2.2
      clear hq
      have hcl : cm < (Mine.ek TT k).length := by lia
      k_steps
      · exact down_brk ((cm, -1), (_, _, _)) (by assumption) (by assumption) ⟨by show cm = _; lia, ⟨fun _ => lle_short (by lia) (by lia), fun _ => by show (-1 : Int) < 0; decide⟩⟩ (allIn_of rfl)
      · have hnz : (↑(cur.getD (c - 1 - ↑cm).toNat 0) - ↑((Mine.ek TT k).reverse.getD (((Mine.ek TT k).length : Int) - 1 - (mn : Int) - (i1 : Int)).toNat 0) : Int) ≠ 0 := by assumption
        have hlt : cm < t.length := by lia
        have e1 : t.getD cm 0 = cur.getD (c - 1 - ↑cm).toNat 0 := by rw [← ht]; exact t_at h0 h1 h2 (by lia)
        have e2 := rev_at (e := Mine.ek TT k) (i := ↑(Mine.ek TT k).length - 1 - ↑mn - ↑i1) hcl (by lia)
        rw [← e1, e2] at hnz
        have e4 : (Mine.ek TT k).getD cm 0 ≠ t.getD cm 0 := fun q => hnz (by rw [q]; lia)
        have e3 := lcp_stop q2 hcl hlt e4
        have e5 := lle_stop q2 hcl hlt e4
        refine down_brk ((cm, _), (_, _, _)) (by assumption) (by assumption) ⟨e3.symm, ?_⟩ (allIn_of rfl)
        show (↑(cur.getD (c - 1 - ↑cm).toNat 0) - ↑((Mine.ek TT k).reverse.getD (((Mine.ek TT k).length : Int) - 1 - (mn : Int) - (i1 : Int)).toNat 0) : Int) < 0 ↔ _
        rw [← e1, e2]
        generalize (Mine.ek TT k).getD cm 0 = p1 at *
        generalize t.getD cm 0 = p2 at *
        clear e1 e2 e3
        constructor
        · intro z
          cases e : lle (Mine.ek TT k) t with
          | false => rfl
          | true => have := e5.mp e; lia
        · intro z
          have : ¬ p1 < p2 := fun y => by rw [e5.mpr y] at z; cases z
          lia
      · have hz : (↑(cur.getD (c - 1 - ↑cm).toNat 0) - ↑((Mine.ek TT k).reverse.getD (((Mine.ek TT k).length : Int) - 1 - (mn : Int) - (i1 : Int)).toNat 0) : Int) = 0 := by assumption
        have hlt : cm < t.length := by lia
        have e1 : t.getD cm 0 = cur.getD (c - 1 - ↑cm).toNat 0 := by rw [← ht]; exact t_at h0 h1 h2 (by lia)
        have e2 := rev_at (e := Mine.ek TT k) (i := ↑(Mine.ek TT k).length - 1 - ↑mn - ↑i1) hcl (by lia)
        have hz' := hz
        rw [← e1, e2] at hz'
        have e3 := lcp_more q2 hcl hlt (by lia)
        rename Fr _ _ _ _ => F9
        rw [hz] at F9
        exact down_next ((cm + 1, 0), (_, _, _)) F9 (by assumption) ⟨by show cm + 1 = _; rw [q1]; rfl, e3, rfl⟩ (allIn_of rfl)
    · refine twoA ?_
      intro cm df tkk td tcm u2 h3 tk2 hq F5 N5
      dsimp only at hq F5
      have q1 := hq.1
      have q2 := hq.2
      clear hq hll hlr htl hmid h0 h1 h2 hv
      have S0 := hS
      k_steps
      · have hle := q2.mp (by assumption)
        have hik : i < k := half_lt (Nat.lt_of_le_of_ne hij fun e => absurd (hS0 e.symm) (Nat.ne_of_gt (Int.natCast_pos.mp (by assumption)))) hk4
        exact found_mk i ci ((S0.left hik hk2 hle q1).fin G (by lia) (by lia)) (by rw [hnw]; assumption) (by assumption) (allIn_of rfl)
      · have hle := q2.mp (by assumption)
        have e0 : i = 0 := by lia
        have e1 : j = 1 := by lia
        rw [e0, e1] at S0
        exact found_mk i ci (by rw [e0]; exact S0.fin1 G (by rw [show (0 : Nat) = k by lia]; exact hle)) (by rw [hnw]; assumption) (by assumption) (allIn_of rfl)
      · exfalso
        have e1 : j = i + 1 := of_decide_eq_true (hb.symm.trans (by assumption))
        lia
      · have hle := q2.mp (by assumption)
        have hik : i < k := by lia
        refine turn_loc (n' := k - i) ((i, k, ci, cm, true), (_, _, _, _, _, _)) (by assumption) (by rw [hnw]; assumption) (by rw [hn]; exact Nat.sub_lt_sub_right hk1 hk2) ⟨S0.left hik hk2 hle q1, ?_, rfl, ?_⟩ (allIn_of rfl)
        · intro _; show i = 0; lia
        · exact (decide_eq_true (by show k = i + 1; lia)).symm
      · have hle := q2.mp (by assumption)
        have hik : i < k := by lia
        refine turn_loc (n' := k - i) ((i, k, ci, cm, b), (_, _, _, _, _, _)) (by assumption) (by rw [hnw]; assumption) (by rw [hn]; exact Nat.sub_lt_sub_right hk1 hk2) ⟨S0.left hik hk2 hle q1, ?_, rfl, ?_⟩ (allIn_of rfl)
        · intro e; exfalso; have e' : k = i + 1 := e; lia
        · rw [hb]; show decide (j = i + 1) = decide (k = i + 1); rw [decide_eq_false (by lia), decide_eq_false (by lia)]
      · have hle : lle (Mine.ek TT k) t = true := by
          cases e : lle (Mine.ek TT k) t with
          | true => rfl
          | false => exact absurd (q2.mpr e) (by assumption)
        have hik : i < k := half_lt (Nat.lt_of_le_of_ne hij fun e => by have := hS0 e.symm; lia) hk4
        exact found_mk k cm ((S0.right hik hk2 hle q1).fin G (by lia) (by lia)) (by rw [hnw]; assumption) (by assumption) (allIn_of rfl)
      · exfalso
        lia
      · have hle : lle (Mine.ek TT k) t = true := by
          cases e : lle (Mine.ek TT k) t with
          | true => rfl
          | false => exact absurd (q2.mpr e) (by assumption)
        have e0 : i = 0 := by lia
        have e1 : j = 1 := by lia
        have e2 : k = 0 := by lia
        rw [e0, e1] at S0
        rw [e2] at hle q1
        exact found_mk k cm (by rw [e2]; exact S0.fin0 G hle q1) (by rw [hnw]; assumption) (by assumption) (allIn_of rfl)
      · exfalso
        have e1 : ¬ (j = i + 1) := of_decide_eq_false (hb.symm.trans (by assumption))
        lia
      · have hle : lle (Mine.ek TT k) t = true := by
          cases e : lle (Mine.ek TT k) t with
          | true => rfl
          | false => exact absurd (q2.mpr e) (by assumption)
        have hik : i < k := by lia
        refine turn_loc (n' := j - k) ((k, j, cm, cj, b), (_, _, _, _, _, _)) (by assumption) (by rw [hnw]; assumption) (by rw [hn]; exact Nat.sub_lt_sub_left hij hik) ⟨S0.right hik hk2 hle q1, ?_, rfl, ?_⟩ (allIn_of rfl)
        · intro e; exfalso; have e' : j = k + 1 := e; lia
        · rw [hb]; show decide (j = i + 1) = decide (j = k + 1); rw [decide_eq_false (by lia), decide_eq_false (by lia)]
  · refine found_use ?_
    intro i ci u h₁ tk ti tci tc tl hF N1 F1
    rw [hnw] at N1
    have hC := hF.chain G
    k_steps
    first | with_reducible refine Halt.mk ?_ | skip
    refine While_loc (σ := Nat × (Tok × Tok × Tok)) (fun q => [("self", .ref x), ("v", .ref a), ("c", .int c q.2.1), ("i", .int q.1 q.2.2.1), ("common_i", .int ci q.2.2.2)])
      (fun n q => Chain TT t ci q.1 ∧ n = q.1) i (by assumption) (by assumption) ⟨(i, (_, _, _)), ⟨hC, rfl⟩, allIn_of rfl⟩ ?_
    intro n
    refine oneA ?_
    intro i' tc' ti' tci' u' h₂ tk₂ hJ F2 N2
    dsimp only at hJ F2
    have hC' := hJ.1
    have hn := hJ.2
    clear hJ
    rw [← hn] at hC' F2
    have hkn := hC'.1
    have hks := G.short n
    k_steps
    first | with_reducible refine Halt.mk ?_ | skip
    refine tab_item (by assumption) hTg (by lia) (by lia) G.le ?_
    rw [Int.toNat_natCast]
    k_steps
    · obtain ⟨hh, -⟩ := hC'.hit (by lia)
      have hq := hQ _ _ hh
      repeat walk_at "own hid"
      refine fin.out (by assumption) (by assumption) ((hq _)) ?_
      exact .seven ..
    · rcases hC'.step G (by lia) with ⟨s1, hh⟩ | ⟨k, s1, s2, hC2⟩
      · have hq := hQ _ _ hh
        repeat walk_at "own hid"
        refine fin.out (by assumption) (by assumption) ((hq _)) ?_
        have e : c - ((0 : Nat) : Int) = c := by lia
        rw [e]
        exact .seven ..
      · exfalso
        lia
    · rcases hC'.step G (by lia) with ⟨s1, hh⟩ | ⟨k, s1, s2, hC2⟩
      · exfalso
        lia
      · rename Fr _ _ _ _ => F9
        rw [s1] at F9
        exact turn_loc (k, (_, _, _)) F9 (by assumption) s2 ⟨hC2, rfl⟩ (allIn_of rfl)
end
end
section
open PySem PySem.W PySem.Calls PyProof.Rows
set_option maxHeartbeats 4000000
noncomputable def goodAt (T : List Row) (i : Nat) : Bool :=
  decide ((ek T i).length ≤ 100) && (List.range T.length).all (fun j => !decide (i < j) || lle (ek T i) (ek T j)) &&
  (if subk T i < 0 then (List.range T.length).all fun j => !(ek T j).isPrefixOf (ek T i) || decide (j = i)
   else decide (subk T i = ((subk T i).toNat : Int)) && decide ((subk T i).toNat < i) && (ek T (subk T i).toNat).isPrefixOf (ek T i) &&
     (List.range T.length).all fun j => !(ek T j).isPrefixOf (ek T i) || (decide (j = i) || (ek T j).isPrefixOf (ek T (subk T i).toNat)))
noncomputable def goodB (T : List Row) : Bool := decide (2 ≤ T.length) && decide (T.length ≤ 1000) && (List.range T.length).all (goodAt T)
theorem good_of {T : List Row} (h : goodB T = true) : Good T := by
  unfold goodB at h
  simp only [Bool.and_eq_true, decide_eq_true_eq, List.all_eq_true, List.mem_range] at h
  obtain ⟨⟨h1, h2⟩, h3⟩ := h
  have h4 : ∀ i, i < T.length → _ := fun i hi => by
    have := h3 i hi
    unfold goodAt at this
    simp only [Bool.and_eq_true, decide_eq_true_eq, List.all_eq_true, List.mem_range, Bool.or_eq_true, Bool.not_eq_true', decide_eq_false_iff_not] at this
    exact this
  refine ⟨h1, h2, fun i j hij hj => ?_, fun i hi => ?_, fun i => ?_⟩
  · rcases (h4 i (by lia)).1.2 j hj with q | q
    · exact absurd hij q
    · exact q
  · have h5 := (h4 i hi).2
    by_cases e : subk T i < 0
    · rw [if_pos e] at h5
      simp only [List.all_eq_true, List.mem_range, Bool.or_eq_true, Bool.not_eq_true', decide_eq_true_eq] at h5
      refine .inl ⟨e, fun j hj hp => ?_⟩
      rcases h5 j hj with q | q
      · rw [← List.isPrefixOf_iff_prefix] at hp
        rw [hp] at q; cases q
      · exact q
    · rw [if_neg e] at h5
      simp only [Bool.and_eq_true, decide_eq_true_eq, List.all_eq_true, List.mem_range, Bool.or_eq_true, Bool.not_eq_true', List.isPrefixOf_iff_prefix] at h5
      obtain ⟨⟨⟨a1, a2⟩, a3⟩, a4⟩ := h5
      refine .inr ⟨(subk T i).toNat, a1, a2, a3, fun j hj hp => ?_⟩
      rcases a4 j hj with q | q
      · rw [← List.isPrefixOf_iff_prefix] at hp
        rw [hp] at q; cases q
      · exact q
  · by_cases hi : i < T.length
    · exact (h4 i hi).1.1
    · unfold ek
      rw [List.getD_eq_getElem?_getD, List.getElem?_eq_none (by lia)]
      simp [Str.empty]
noncomputable def tab0 : List Row := [(W [99], (-1), 1), (W [110, 99], 0, (-1)), (W [237, 110, 99], 1, 2), (W [97, 118, 99], 0, (-1)), (W [111, 118, 99], 0, (-1))]
theorem tab0_is : rows0 = tab0 := by kernel_rfl
noncomputable def tab1 : List Row := [(W [99], (-1), 1), (W [110, 99], 0, (-1)), (W [237, 110, 99], 1, 2), (W [97, 118, 99], 0, (-1)), (W [111, 118, 99], 0, (-1)), (W [269, 116], (-1), 3), (W [353, 116], (-1), 4), (W [100, 101, 353, 116], 6, (-1)), (W [108, 101, 353, 116], 6, (-1)), (W [105, 353, 116], 6, (-1)), (W [112, 111, 117, 353, 116], 6, (-1)), (W [225, 353, 116], 6, (-1)), (W [237, 353, 116], 6, (-1))]
theorem tab1_is : rows1 = tab1 := by kernel_rfl
noncomputable def tab2 : List Row := [(W [105, 110], (-1), 2), (W [111, 118], (-1), 1), (W [367, 118], (-1), 1)]
theorem tab2_is : rows2 = tab2 := by kernel_rfl
noncomputable def tab3 : List Row := [(W [], (-1), 2), (W [108], 0, 1), (W [116, 108], 1, 2), (W [115], 0, 1), (W [101, 115], 3, 2), (W [269], 0, 1), (W [101, 269], 5, 2), (W [345], 0, 1), (W [382], 0, 1)]
theorem tab3_is : rows3 = tab3 := by kernel_rfl
noncomputable def tab4 : List Row := [(W [111, 98, 108], (-1), (-1)), (W [115, 110], (-1), (-1)), (W [100, 111, 116], (-1), (-1))]
theorem tab4_is : rows4 = tab4 := by kernel_rfl
noncomputable def tab5 : List Row := [(W [117, 99], (-1), (-1)), (W [104], (-1), (-1)), (W [111, 107], (-1), (-1)), (W [107, 97, 114], (-1), (-1)), (W [269], (-1), (-1))]
theorem tab5_is : rows5 = tab5 := by kernel_rfl
noncomputable def tab6 : List Row := [(W [97], (-1), 1), (W [97, 109, 97], 0, 1), (W [97, 116, 97], 0, 1), (W [101, 98], (-1), 4), (W [101, 99], (-1), 5), (W [101], (-1), 2), (W [101, 116, 101], 5, 3), (W [283, 116, 101], 5, 1), (W [101, 99, 104], (-1), 2), (W [97, 116, 101, 99, 104], 8, 1), (W [225, 99, 104], (-1), 1), (W [237, 99, 104], (-1), 12), (W [253, 99, 104], (-1), 1), (W [105], (-1), 12), (W [109, 105], 13, 1), (W [97, 109, 105], 14, 1), (W [101, 109, 105], 14, 2), (W [237, 109, 105], 14, 12), (W [253, 109, 105], 14, 1), (W [283, 109, 105], 14, 1), (W [357, 109, 105], 14, 11), (W [101, 116, 105], 13, 3), (W [283, 116, 105], 13, 1), (W [111, 118, 105], 13, 1), (W [101, 107], (-1), 6), (W [283, 107], (-1), 7), (W [101, 109], (-1), 2), (W [101, 116, 101, 109], 26, 3), (W [283, 116, 101, 109], 26, 1), (W [225, 109], (-1), 1), (W [233, 109], (-1), 1), (W [237, 109], (-1), 12), (W [253, 109], (-1), 1), (W [283, 109], (-1), 1), (W [367, 109], (-1), 1), (W [97, 116, 367, 109], 34, 1), (W [111], (-1), 1), (W [233, 104, 111], 36, 1), (W [237, 104, 111], 36, 12), (W [117, 115], (-1), 1), (W [97, 116], (-1), 1), (W [101, 116], (-1), 9), (W [117], (-1), 1), (W [233, 109, 117], 42, 1), (W [237, 109, 117], 42, 12), (W [111, 117], 42, 1), (W [101, 118], (-1), 10), (W [121], (-1), 1), (W [97, 116, 121], 47, 1), (W [225], (-1), 1), (W [233], (-1), 1), (W [111, 118, 233], 50, 1), (W [237], (-1), 12), (W [253], (-1), 1), (W [283], (-1), 1), (W [101, 328], (-1), 8), (W [357], (-1), 11), (W [367], (-1), 1)]
theorem tab6_is : rows6 = tab6 := by kernel_rfl
theorem good0 : Good rows0 := by rw [tab0_is]; exact good_of (by decide +kernel)
theorem good1 : Good rows1 := by rw [tab1_is]; exact good_of (by decide +kernel)
theorem good2 : Good rows2 := by rw [tab2_is]; exact good_of (by decide +kernel)
theorem good3 : Good rows3 := by rw [tab3_is]; exact good_of (by decide +kernel)
theorem good4 : Good rows4 := by rw [tab4_is]; exact good_of (by decide +kernel)
theorem good5 : Good rows5 := by rw [tab5_is]; exact good_of (by decide +kernel)
theorem good6 : Good rows6 := by rw [tab6_is]; exact good_of (by decide +kernel)
section
variable {w : World} {g : Heap}
theorem tat0 (t : Tops w g) : TabAt w g 293 278 rows0 := ⟨⟨_, t.kin _ _ (by k_is), rfl, 0, rfl⟩, t.am.m0⟩
theorem tat1 (t : Tops w g) : TabAt w g 334 295 rows1 := ⟨⟨_, t.kin _ _ (by k_is), rfl, 0, rfl⟩, t.am.m1⟩
theorem tat2 (t : Tops w g) : TabAt w g 345 336 rows2 := ⟨⟨_, t.kin _ _ (by k_is), rfl, 0, rfl⟩, t.am.m2⟩
theorem tat3 (t : Tops w g) : TabAt w g 373 346 rows3 := ⟨⟨_, t.kin _ _ (by k_is), rfl, 0, rfl⟩, t.am.m3⟩
theorem tat4 (t : Tops w g) : TabAt w g 384 375 rows4 := ⟨⟨_, t.kin _ _ (by k_is), rfl, 0, rfl⟩, t.am.m4⟩
theorem tat5 (t : Tops w g) : TabAt w g 400 385 rows5 := ⟨⟨_, t.kin _ _ (by k_is), rfl, 0, rfl⟩, t.am.m5⟩
theorem tat6 (t : Tops w g) : TabAt w g 575 401 rows6 := ⟨⟨_, t.kin _ _ (by k_is), rfl, 0, rfl⟩, t.am.m6⟩
end
end
section
open PySem PySem.W PySem.Calls PyProof.Rows
set_option maxHeartbeats 4000000
theorem hit_res {T : List Row} {t : List Nat} {n : Nat} {r : Int} (h : Hit T t n r) {R : List Int} (hR : (List.range T.length).all (fun k => R.contains (resk T k)) = true) (h0 : R.contains 0 = true) : r ∈ R := by
  rcases h with ⟨k, hk, -, rfl, -, -⟩ | ⟨-, rfl, -⟩
  · exact List.contains_iff_mem.mp (List.all_eq_true.mp hR k (List.mem_range.mpr hk))
  · exact List.contains_iff_mem.mp h0
theorem hit_le {T : List Row} {t : List Nat} {n : Nat} {r : Int} (h : Hit T t n r) : n ≤ t.length := by
  rcases h with ⟨k, hk, hp, -, rfl, -⟩ | ⟨rfl, -, -⟩
  · exact hp.length_le
  · lia
theorem hit_pos {T : List Row} {t : List Nat} {n : Nat} {r : Int} (h : Hit T t n r) (hr : r ≠ 0) (hne : (List.range T.length).all (fun k => decide (0 < (ek T k).length)) = true) : 0 < n := by
  rcases h with ⟨k, hk, hp, -, rfl, -⟩ | ⟨rfl, rfl, -⟩
  · exact of_decide_eq_true (List.all_eq_true.mp hne k (List.mem_range.mpr hk))
  · exact absurd rfl hr
theorem cut_eq {cur sv : List Nat} {c : Int} {n : Nat} (hc : c = cur.length) : cur.take (c - n).toNat ++ sv ++ cur.drop c.toNat = cur.take (cur.length - n) ++ sv := by
  have e1 : (c - n).toNat = cur.length - n := by rw [hc]; exact Int.toNat_sub _ n
  have e2 : cur.drop c.toNat = [] := by rw [hc]; exact List.drop_eq_nil_of_le (Nat.le_refl _)
  rw [e1, e2, List.append_nil]
theorem cut_len {cur sv : List Nat} {c l : Int} {n : Nat} (hc : c = cur.length) (hl : l = cur.length) (hn : n ≤ cur.length) : l + ((sv.length : Int) - (c - (c - n))) = ((cur.take (c - n).toNat ++ sv ++ cur.drop c.toNat).length : Nat) := by
  rw [cut_eq hc, List.length_append, List.length_take, Nat.min_eq_left (Nat.sub_le _ _), hl, Int.natCast_add, Int.ofNat_sub hn]
  clear hc hl hn
  lia
/-- what r_palatalise_e makes of the text L -/
noncomputable def PalE (L L' : List Nat) : Prop := ∃ n r, Hit rows0 L.reverse n r ∧ L' = if r = 1 then L.take (L.length - n) ++ [107] else if r = 2 then L.take (L.length - n) ++ [237, 110, 107] else L
section
variable {w : World} {A : Around} {E : Value → Shared → Prop} {s : Shared} {mg mb : Str → Option Value} {H : Heap} {x dx : Addr} {od : Obj} {Q : Value → Shared → Prop}
theorem r_palatalise_e {cur : List Nat} {c l bra ket ip : Int}
    (hA : A.depth + 50 < recursionLimit) (hH : A.handled = none) (M : Me w mg mb H s.heap x dx od) (hd : IsSt w (W cur) c l 0 bra ket (some ip) od)
    (hc : c = cur.length) (hl : l = cur.length) (hv : cur.length ≤ 900)
    (hQ : ∀ b L' c' bra' ket', PalE cur L' → On w mg mb H s x dx Q (.bool b) (IsSt w (W L') c' L'.length 0 bra' ket' (some ip))) :
    wpAny (model pw w) A (call (.ref 249) [.ref x]) Q E s := by
  first | (refine entry7 hd M ?_; clear hd M; intro _ _ M) | (refine entry6 hd M ?_; clear hd M; intro _ _ M) | cases hd
  refine wpAny_call ?_
  refine' enter_self [("self", .ref x)] M ?k1 ?k2 ?k3 ?k4 ?k5 ?_ ?c2 ?c3 ?c4 ?c5
  case k1 => k_is
  case k2 => k_is
  case k3 => lia
  case k4 => exact BindsTo.of_eq rfl
  case c5 => decide
  case k5 => exact locs rfl
  case c2 => exact rfl
  case c3 => exact rfl
  case c4 => exact rfl
  have hne0 := M.ne
  have hne := neN M.ne
  clear M
  intro g L' h' O KX T F' N' fin
  try dsimp only
  first | (with_reducible refine hid_all s ?_; intro _ _ _) | skip
  k_steps
  first | with_reducible refine Halt.mk ?_ | skip
  refine find_among_b (room hA (by decide)) hH (Me.of O (by assumption) (by assumption) hne0) (.seven ..) (fun g t => tat0 t) good0 (by lia) (by lia) (by lia) (by lia) (fun n r hh t => ?_)
  have e1 : ((cur.drop (0 : Int).toNat).take (c - 0).toNat) = cur := by
    rw [hc]; simp
  rw [e1] at hh
  have hr := hit_res hh (R := [1, 2, -1, 0]) (by rw [tab0_is]; decide +kernel) (by decide)
  have hn := hit_le hh
  have hp := hit_pos hh
  rw [List.length_reverse] at hn
  simp only [List.mem_cons, List.not_mem_nil, or_false] at hr
  rcases hr with rfl | rfl | rfl | rfl
  · have hn0 := hp (by decide) (by rw [tab0_is]; decide +kernel)
    intro h2 tk2 od2 kb2 M2 hd2
    first | (refine back7 hd2 (by assumption) (by assumption) hne0 kb2 M2.id ?_; clear hd2 M2 kb2 od2; intro _ _ F2 N2) | (refine back6 hd2 (by assumption) (by assumption) hne0 kb2 M2.id ?_; clear hd2 M2 kb2 od2; intro _ _ F2 N2) | (refine backO hd2 (by assumption) (by assumption) hne0 kb2 M2.id ?_; clear hd2 M2 kb2 od2; intro _ _ F2 N2)
    try dsimp only
    k_steps
    first | with_reducible refine Halt.mk ?_ | skip
    refine slice_from (sv := [107]) (room hA (by decide)) (Me.of O (by assumption) (by assumption) hne0) (.seven ..) (by lia) (by lia) (by lia) (by lia) hl (by lia) (by decide) ?_
    intro h2 tk2 od2 kb2 M2 hd2
    first | (refine back7 hd2 (by assumption) (by assumption) hne0 kb2 M2.id ?_; clear hd2 M2 kb2 od2; intro _ _ F2 N2) | (refine back6 hd2 (by assumption) (by assumption) hne0 kb2 M2.id ?_; clear hd2 M2 kb2 od2; intro _ _ F2 N2) | (refine backO hd2 (by assumption) (by assumption) hne0 kb2 M2.id ?_; clear hd2 M2 kb2 od2; intro _ _ F2 N2)
    try dsimp only
    k_steps
    have hq := hQ true (cur.take (c - n).toNat ++ [107] ++ cur.drop c.toNat) (c - n) (c - n) (c - n + ([107].length : Nat)) ⟨n, 1, hh, by rw [cut_eq hc]; rfl⟩
    repeat walk_at "own hid"
    refine fin.out (by assumption) (by assumption) (hq) ?_
    rw [← cut_len hc hl hn]
    exact .seven ..
  · have hn0 := hp (by decide) (by rw [tab0_is]; decide +kernel)
    intro h2 tk2 od2 kb2 M2 hd2
    first | (refine back7 hd2 (by assumption) (by assumption) hne0 kb2 M2.id ?_; clear hd2 M2 kb2 od2; intro _ _ F2 N2) | (refine back6 hd2 (by assumption) (by assumption) hne0 kb2 M2.id ?_; clear hd2 M2 kb2 od2; intro _ _ F2 N2) | (refine backO hd2 (by assumption) (by assumption) hne0 kb2 M2.id ?_; clear hd2 M2 kb2 od2; intro _ _ F2 N2)
    try dsimp only
    k_steps
    first | with_reducible refine Halt.mk ?_ | skip
    refine slice_from (sv := [237, 110, 107]) (room hA (by decide)) (Me.of O (by assumption) (by assumption) hne0) (.seven ..) (by lia) (by lia) (by lia) (by lia) hl (by lia) (by decide) ?_
    intro h2 tk2 od2 kb2 M2 hd2
    first | (refine back7 hd2 (by assumption) (by assumption) hne0 kb2 M2.id ?_; clear hd2 M2 kb2 od2; intro _ _ F2 N2) | (refine back6 hd2 (by assumption) (by assumption) hne0 kb2 M2.id ?_; clear hd2 M2 kb2 od2; intro _ _ F2 N2) | (refine backO hd2 (by assumption) (by assumption) hne0 kb2 M2.id ?_; clear hd2 M2 kb2 od2; intro _ _ F2 N2)
    try dsimp only
    k_steps
    have hq := hQ true (cur.take (c - n).toNat ++ [237, 110, 107] ++ cur.drop c.toNat) (c - n) (c - n) (c - n + ([237, 110, 107].length : Nat)) ⟨n, 2, hh, by rw [cut_eq hc]; rfl⟩
    repeat walk_at "own hid"
    refine fin.out (by assumption) (by assumption) (hq) ?_
    rw [← cut_len hc hl hn]
    exact .seven ..
  · intro h2 tk2 od2 kb2 M2 hd2
    first | (refine back7 hd2 (by assumption) (by assumption) hne0 kb2 M2.id ?_; clear hd2 M2 kb2 od2; intro _ _ F2 N2) | (refine back6 hd2 (by assumption) (by assumption) hne0 kb2 M2.id ?_; clear hd2 M2 kb2 od2; intro _ _ F2 N2) | (refine backO hd2 (by assumption) (by assumption) hne0 kb2 M2.id ?_; clear hd2 M2 kb2 od2; intro _ _ F2 N2)
    try dsimp only
    k_steps
    have hq := hQ true cur (c - n) (c - n) c ⟨n, -1, hh, rfl⟩
    repeat walk_at "own hid"
    refine fin.out (by assumption) (by assumption) (hq) ?_
    rw [← hl]
    exact .seven ..
  · intro h2 tk2 od2 kb2 M2 hd2
    first | (refine back7 hd2 (by assumption) (by assumption) hne0 kb2 M2.id ?_; clear hd2 M2 kb2 od2; intro _ _ F2 N2) | (refine back6 hd2 (by assumption) (by assumption) hne0 kb2 M2.id ?_; clear hd2 M2 kb2 od2; intro _ _ F2 N2) | (refine backO hd2 (by assumption) (by assumption) hne0 kb2 M2.id ?_; clear hd2 M2 kb2 od2; intro _ _ F2 N2)
    try dsimp only
    k_steps
    have hq := hQ false cur (c - n) bra c ⟨n, 0, hh, rfl⟩
    repeat walk_at "own hid"
    refine fin.out (by assumption) (by assumption) (hq) ?_
    rw [← hl]
    exact .seven ..
end
end
section
open PySem PySem.W PySem.Calls PyProof.Rows
set_option maxHeartbeats 4000000
/-- what r_palatalise_i makes of the text L -/
noncomputable def PalI (L L' : List Nat) : Prop := ∃ n r, Hit rows1 L.reverse n r ∧ L' = if r = 1 then L.take (L.length - n) ++ [107] else if r = 2 then L.take (L.length - n) ++ [237, 110, 107] else if r = 3 then L.take (L.length - n) ++ [99, 107] else if r = 4 then L.take (L.length - n) ++ [115, 107] else L
section
variable {w : World} {A : Around} {E : Value → Shared → Prop} {s : Shared} {mg mb : Str → Option Value} {H : Heap} {x dx : Addr} {od : Obj} {Q : Value → Shared → Prop}
theorem r_palatalise_i {cur : List Nat} {c l bra ket ip : Int}
    (hA : A.depth + 50 < recursionLimit) (hH : A.handled = none) (M : Me w mg mb H s.heap x dx od) (hd : IsSt w (W cur) c l 0 bra ket (some ip) od)
    (hc : c = cur.length) (hl : l = cur.length) (hv : cur.length ≤ 900)
    (hQ : ∀ b L' c' bra' ket', PalI cur L' → On w mg mb H s x dx Q (.bool b) (IsSt w (W L') c' L'.length 0 bra' ket' (some ip))) :
    wpAny (model pw w) A (call (.ref 256) [.ref x]) Q E s := by
  first | (refine entry7 hd M ?_; clear hd M; intro _ _ M) | (refine entry6 hd M ?_; clear hd M; intro _ _ M) | cases hd
  refine wpAny_call ?_
  refine' enter_self [("self", .ref x)] M ?k1 ?k2 ?k3 ?k4 ?k5 ?_ ?c2 ?c3 ?c4 ?c5
  case k1 => k_is
  case k2 => k_is
  case k3 => lia
  case k4 => exact BindsTo.of_eq rfl
  case c5 => decide
  case k5 => exact locs rfl
  case c2 => exact rfl
  case c3 => exact rfl
  case c4 => exact rfl
  have hne0 := M.ne
  have hne := neN M.ne
  clear M
  intro g L' h' O KX T F' N' fin
  try dsimp only
  first | (with_reducible refine hid_all s ?_; intro _ _ _) | skip
  k_steps
  first | with_reducible refine Halt.mk ?_ | skip
  refine find_among_b (room hA (by decide)) hH (Me.of O (by assumption) (by assumption) hne0) (.seven ..) (fun g t => tat1 t) good1 (by lia) (by lia) (by lia) (by lia) (fun n r hh t => ?_)
  have e1 : ((cur.drop (0 : Int).toNat).take (c - 0).toNat) = cur := by
    rw [hc]; simp
  rw [e1] at hh
  have hr := hit_res hh (R := [1, 2, 3, 4, -1, 0]) (by rw [tab1_is]; decide +kernel) (by decide)
  have hn := hit_le hh
  have hp := hit_pos hh
  rw [List.length_reverse] at hn
  simp only [List.mem_cons, List.not_mem_nil, or_false] at hr
  rcases hr with rfl | rfl | rfl | rfl | rfl | rfl
  · have hn0 := hp (by decide) (by rw [tab1_is]; decide +kernel)
    intro h2 tk2 od2 kb2 M2 hd2
    first | (refine back7 hd2 (by assumption) (by assumption) hne0 kb2 M2.id ?_; clear hd2 M2 kb2 od2; intro _ _ F2 N2) | (refine back6 hd2 (by assumption) (by assumption) hne0 kb2 M2.id ?_; clear hd2 M2 kb2 od2; intro _ _ F2 N2) | (refine backO hd2 (by assumption) (by assumption) hne0 kb2 M2.id ?_; clear hd2 M2 kb2 od2; intro _ _ F2 N2)
    try dsimp only
    k_steps
    first | with_reducible refine Halt.mk ?_ | skip
    refine slice_from (sv := [107]) (room hA (by decide)) (Me.of O (by assumption) (by assumption) hne0) (.seven ..) (by lia) (by lia) (by lia) (by lia) hl (by lia) (by decide) ?_
    intro h2 tk2 od2 kb2 M2 hd2
    first | (refine back7 hd2 (by assumption) (by assumption) hne0 kb2 M2.id ?_; clear hd2 M2 kb2 od2; intro _ _ F2 N2) | (refine back6 hd2 (by assumption) (by assumption) hne0 kb2 M2.id ?_; clear hd2 M2 kb2 od2; intro _ _ F2 N2) | (refine backO hd2 (by assumption) (by assumption) hne0 kb2 M2.id ?_; clear hd2 M2 kb2 od2; intro _ _ F2 N2)
    try dsimp only
    k_steps
    have hq := hQ true (cur.take (c - n).toNat ++ [107] ++ cur.drop c.toNat) (c - n) (c - n) (c - n + ([107].length : Nat)) ⟨n, 1, hh, by rw [cut_eq hc]; rfl⟩
    repeat walk_at "own hid"
    refine fin.out (by assumption) (by assumption) (hq) ?_
    rw [← cut_len hc hl hn]
    exact .seven ..
  · have hn0 := hp (by decide) (by rw [tab1_is]; decide +kernel)
    intro h2 tk2 od2 kb2 M2 hd2
    first | (refine back7 hd2 (by assumption) (by assumption) hne0 kb2 M2.id ?_; clear hd2 M2 kb2 od2; intro _ _ F2 N2) | (refine back6 hd2 (by assumption) (by assumption) hne0 kb2 M2.id ?_; clear hd2 M2 kb2 od2; intro _ _ F2 N2) | (refine backO hd2 (by assumption) (by assumption) hne0 kb2 M2.id ?_; clear hd2 M2 kb2 od2; intro _ _ F2 N2)
    try dsimp only
    k_steps
    first | with_reducible refine Halt.mk ?_ | skip
    refine slice_from (sv := [237, 110, 107]) (room hA (by decide)) (Me.of O (by assumption) (by assumption) hne0) (.seven ..) (by lia) (by lia) (by lia) (by lia) hl (by lia) (by decide) ?_
    intro h2 tk2 od2 kb2 M2 hd2
    first | (refine back7 hd2 (by assumption) (by assumption) hne0 kb2 M2.id ?_; clear hd2 M2 kb2 od2; intro _ _ F2 N2) | (refine back6 hd2 (by assumption) (by assumption) hne0 kb2 M2.id ?_; clear hd2 M2 kb2 od2; intro _ _ F2 N2) | (refine backO hd2 (by assumption) (by assumption) hne0 kb2 M2.id ?_; clear hd2 M2 kb2 od2; intro _ _ F2 N2)
    try dsimp only
    k_steps
    have hq := hQ true (cur.take (c - n).toNat ++ [237, 110, 107] ++ cur.drop c.toNat) (c - n) (c - n) (c - n + ([237, 110, 107].length : Nat)) ⟨n, 2, hh, by rw [cut_eq hc]; rfl⟩
    repeat walk_at "own hid"
    refine fin.out (by assumption) (by assumption) (hq) ?_
    rw [← cut_len hc hl hn]
    exact .seven ..
  · have hn0 := hp (by decide) (by rw [tab1_is]; decide +kernel)
    intro h2 tk2 od2 kb2 M2 hd2
    first | (refine back7 hd2 (by assumption) (by assumption) hne0 kb2 M2.id ?_; clear hd2 M2 kb2 od2; intro _ _ F2 N2) | (refine back6 hd2 (by assumption) (by assumption) hne0 kb2 M2.id ?_; clear hd2 M2 kb2 od2; intro _ _ F2 N2) | (refine backO hd2 (by assumption) (by assumption) hne0 kb2 M2.id ?_; clear hd2 M2 kb2 od2; intro _ _ F2 N2)
    try dsimp only
    k_steps
    first | with_reducible refine Halt.mk ?_ | skip
    refine slice_from (sv := [99, 107]) (room hA (by decide)) (Me.of O (by assumption) (by assumption) hne0) (.seven ..) (by lia) (by lia) (by lia) (by lia) hl (by lia) (by decide) ?_
    intro h2 tk2 od2 kb2 M2 hd2
    first | (refine back7 hd2 (by assumption) (by assumption) hne0 kb2 M2.id ?_; clear hd2 M2 kb2 od2; intro _ _ F2 N2) | (refine back6 hd2 (by assumption) (by assumption) hne0 kb2 M2.id ?_; clear hd2 M2 kb2 od2; intro _ _ F2 N2) | (refine backO hd2 (by assumption) (by assumption) hne0 kb2 M2.id ?_; clear hd2 M2 kb2 od2; intro _ _ F2 N2)
    try dsimp only
    k_steps
    have hq := hQ true (cur.take (c - n).toNat ++ [99, 107] ++ cur.drop c.toNat) (c - n) (c - n) (c - n + ([99, 107].length : Nat)) ⟨n, 3, hh, by rw [cut_eq hc]; rfl⟩
    repeat walk_at "own hid"
    refine fin.out (by assumption) (by assumption) (hq) ?_
    rw [← cut_len hc hl hn]
    exact .seven ..
  · have hn0 := hp (by decide) (by rw [tab1_is]; decide +kernel)
    intro h2 tk2 od2 kb2 M2 hd2
    first | (refine back7 hd2 (by assumption) (by assumption) hne0 kb2 M2.id ?_; clear hd2 M2 kb2 od2; intro _ _ F2 N2) | (refine back6 hd2 (by assumption) (by assumption) hne0 kb2 M2.id ?_; clear hd2 M2 kb2 od2; intro _ _ F2 N2) | (refine backO hd2 (by assumption) (by assumption) hne0 kb2 M2.id ?_; clear hd2 M2 kb2 od2; intro _ _ F2 N2)
    try dsimp only
    k_steps
    first | with_reducible refine Halt.mk ?_ | skip
    refine slice_from (sv := [115, 107]) (room hA (by decide)) (Me.of O (by assumption) (by assumption) hne0) (.seven ..) (by lia) (by lia) (by lia) (by lia) hl (by lia) (by decide) ?_
    intro h2 tk2 od2 kb2 M2 hd2
    first | (refine back7 hd2 (by assumption) (by assumption) hne0 kb2 M2.id ?_; clear hd2 M2 kb2 od2; intro _ _ F2 N2) | (refine back6 hd2 (by assumption) (by assumption) hne0 kb2 M2.id ?_; clear hd2 M2 kb2 od2; intro _ _ F2 N2) | (refine backO hd2 (by assumption) (by assumption) hne0 kb2 M2.id ?_; clear hd2 M2 kb2 od2; intro _ _ F2 N2)
    try dsimp only
    k_steps
    have hq := hQ true (cur.take (c - n).toNat ++ [115, 107] ++ cur.drop c.toNat) (c - n) (c - n) (c - n + ([115, 107].length : Nat)) ⟨n, 4, hh, by rw [cut_eq hc]; rfl⟩
    repeat walk_at "own hid"
    refine fin.out (by assumption) (by assumption) (hq) ?_
    rw [← cut_len hc hl hn]
    exact .seven ..
  · intro h2 tk2 od2 kb2 M2 hd2
    first | (refine back7 hd2 (by assumption) (by assumption) hne0 kb2 M2.id ?_; clear hd2 M2 kb2 od2; intro _ _ F2 N2) | (refine back6 hd2 (by assumption) (by assumption) hne0 kb2 M2.id ?_; clear hd2 M2 kb2 od2; intro _ _ F2 N2) | (refine backO hd2 (by assumption) (by assumption) hne0 kb2 M2.id ?_; clear hd2 M2 kb2 od2; intro _ _ F2 N2)
    try dsimp only
    k_steps
    have hq := hQ true cur (c - n) (c - n) c ⟨n, -1, hh, rfl⟩
    repeat walk_at "own hid"
    refine fin.out (by assumption) (by assumption) (hq) ?_
    rw [← hl]
    exact .seven ..
  · intro h2 tk2 od2 kb2 M2 hd2
    first | (refine back7 hd2 (by assumption) (by assumption) hne0 kb2 M2.id ?_; clear hd2 M2 kb2 od2; intro _ _ F2 N2) | (refine back6 hd2 (by assumption) (by assumption) hne0 kb2 M2.id ?_; clear hd2 M2 kb2 od2; intro _ _ F2 N2) | (refine backO hd2 (by assumption) (by assumption) hne0 kb2 M2.id ?_; clear hd2 M2 kb2 od2; intro _ _ F2 N2)
    try dsimp only
    k_steps
    have hq := hQ false cur (c - n) bra c ⟨n, 0, hh, rfl⟩
    repeat walk_at "own hid"
    refine fin.out (by assumption) (by assumption) (hq) ?_
    rw [← hl]
    exact .seven ..
end
end
section
open PySem PySem.W PySem.Calls PyProof.Rows
set_option maxHeartbeats 4000000
section
variable {M : Model} {A : Around} {E : Value → Shared → Prop} {s : Shared}
/-- the first note of a new exception -/
theorem looks_first {base : Heap} {env : Env} {outer : List Env} {L e : Addr} {oe : Obj} {vs : Array Value} {a0 : Value} {Q : Unit → Shared → Prop}
    (hfr : A.frames = some (env :: outer)) (hl : s.heap.FunFrames base (env :: outer)) (hf : env.frame = some L)
    (he : s.heap.get? e = some oe) (hkb : base.StaysIn s.heap) (hen : base.get? e = none) (hd : oe.data = .fields vs) (h1 : vs[1]? = some .none) (h0 : vs[0]? = some a0)
    (hQ : ∀ h', Heap.HeldW base (env :: outer) e oe.cls a0 L h' → s.heap.UpToSlots h' → Q () { s with heap := h' }) : wpAny M A (noteFrame (.ref e) env) Q E s := by
  unfold noteFrame
  simp only [hf]
  refine wpAny_bind (wpAny_field he hd h1 ?_)
  rw [if_neg (by decide)]
  refine wpAny_entryW hfr hl hf he hkb hen hd (Array.getElem?_eq_some_iff.mp h1).1 h0 fun h' hN => ?_
  obtain ⟨k1, k2, k3, k4⟩ := hN
  exact hQ h' ⟨k1, hen, k2, k3⟩ k4
end
theorem hide_none {h : Heap} {l : List Addr} {b : Addr} (e : h.get? b = none) : (hideAll h l).get? b = none := by
  cases q : (hideAll h l).get? b with
  | none => rfl
  | some o => have := of_hideAll _ q; rw [e] at this; cases this
section
variable {w : World} {A₀ : Around} {E : Value → Shared → Prop} {s' : Shared} {base g h : Heap} {outer : List Env} {L a e C : Addr} {m : Str → Option Value} {name x : Str} {scope : Scope} {cd : Value} {Q : Flow → Shared → Prop} {news : List (Addr × Obj)} {KF : Frag} {args : List Value} {mg mb : Str → Option Value} {p : Program} {loose : List Str} {np pos : Pos} {b₀ : Stmt} {suite : List Stmt} {rest : List ExceptHandler}
/-- an exception of an own class, raised and caught in one frame -/
theorem caught_made (hx : Heap.MadeExcOf h s'.heap e (.ref C) args) (F : Fr g L h m) (N : News g L h news) (K : Below A₀ base outer g) (XB : KF.In base) (TB : TopRead p loose mg mb base)
    (ex : nsIn KF mainGlobals x = some (some (.ref C))) (q : ktsIn KF C "BaseException" = true)
    (k : ∀ h' g', KtsTurn (outer.filterMap (·.frame)) g g' → Fr g' L h' m → News g' L h' news → Below A₀ base outer g' →
      wpAny (model pw w) ((A₀.deeper (envOf name scope L a cd)).mark (some (.ref e))) (execs (b₀ :: suite) (envOf name scope L a cd)) Q E { s' with heap := h' })
    (hk : scope.kind = .function := by rfl) (hxx : (envOf name scope L a cd).kindOf x = some .globalImplicit := by rfl) (hd : (x == ("__debug__" : Str)) = false := by decide)
    (hE : PassesOwnAt (model pw w) ((A₀.deeper (envOf name scope L a cd)).mark (some (.ref e))) (A₀.deeper (envOf name scope L a cd)) (envOf name scope L a cd) E := by passes_own) :
    wpAny (model pw w) (A₀.deeper (envOf name scope L a cd)) (noteFrame (.ref e) (envOf name scope L a cd))
      (fun _ s₂ => wpAny (model pw w) (A₀.deeper (envOf name scope L a cd)) (setFlight (.ref e) none) (fun _ s₃ =>
        wpAny (model pw w) (A₀.deeper (envOf name scope L a cd)) (handleBy (.ref e) (envOf name scope L a cd) (.ExceptHandler (some (.Name x np)) none (b₀ :: suite) pos :: rest)) Q E s₃) E s₂) E s' := by
  have K' := K.push (name := name) (a := a) (cd := cd) F hk
  have hin : ∀ env ∈ (envOf name scope L a cd :: outer), ∀ b, env.frame = some b → b ∈ (envOf name scope L a cd :: outer).filterMap (·.frame) := fun env he b hb => List.mem_filterMap.mpr ⟨env, he, hb⟩
  have st : base.StaysIn (hideAll h ((envOf name scope L a cd :: outer).filterMap (·.frame))) := fun b o q => hideAll_get _ (K'.stays b o q) fun hm => by
    rw [(K'.frames.mem hm).1] at q; cases q
  have hBG : ∀ b o, h.get? b = some o → b ∉ (envOf name scope L a cd :: outer).filterMap (·.frame) → (hideAll h ((envOf name scope L a cd :: outer).filterMap (·.frame))).get? b = some o := fun b o q nm => hideAll_get _ q nm
  have hl : ∀ q ∈ news, (hideAll h ((envOf name scope L a cd :: outer).filterMap (·.frame))).get? q.1 = some q.2 := fun q hq => by
    refine hideAll_get _ (N q hq).1 fun hm => ?_
    obtain ⟨env, he, hf⟩ := List.mem_filterMap.mp hm
    rcases List.mem_cons.mp he with rfl | he
    · exact (N q hq).2.1 (Option.some.inj hf).symm
    · obtain ⟨o, ho, _⟩ := (K.frames.mem (List.mem_filterMap.mpr ⟨env, he, hf⟩)).2
      rw [(N q hq).2.2] at ho; cases ho
  obtain ⟨t, he, htn, ht⟩ := hx.there
  have hsm : h.UpToSlots s'.heap := Heap.UpToSlots.of_keeps hx.keeps
  refine looks_first (base := hideAll h ((envOf name scope L a cd :: outer).filterMap (·.frame))) (a0 := .ref t) (Around.frames_deeper K.stack) ((funFrames_hide K'.frames hin).of_keeps fun b o hb _ => ⟨o, hx.keeps b o hb, rfl⟩) rfl he
    (fun b o q => hx.keeps b o (of_hideAll _ q)) (hide_none hx.new) rfl rfl rfl fun h₄ hheld₄ hsm₄ => ?_
  refine wpAny_landsW hheld₄ fun h₅ hheld hsm₅' => ?_
  have hsm₅ := hsm₄.trans hsm₅'
  obtain ⟨g₅, T₅, F₅, K₅⟩ := kts_ground K F hBG hheld.1 (hsm.trans hsm₅)
  have X₅ : KF.In g₅ := XB.keeps fun b o e => K₅.stays b o e
  have P₅ : TopRead p loose mg mb g₅ := TB.keeps fun b o e => K₅.stays b o e
  obtain ⟨ob, hob, hobc⟩ := hheld.there
  obtain ⟨nm, q', N', bs, bm, hdct, sn, sub, ab, col, dd, k0, k1, k2, k3, k5, newId, hC, hbase, hbT⟩ := kts_cls X₅ q
  have hC₅ := F₅.keep _ _ hC
  refine wpAny_handleBy_cons (codeAny_handlers_test (name_K F₅ X₅ P₅ ex ?_ hk hxx hd)) (by intro q; cases q)
  refine wpAny_excMatches_sub_self hC₅ hob hobc hbase (codeAny_handlers_suite ?_)
  refine lands_againW hheld fun h₆ hfl₆ hsm₆ => ?_
  obtain ⟨g₆, T₆, F₆, K₆⟩ := kts_ground K F hBG hfl₆.1 ((hsm.trans hsm₅).trans hsm₆)
  have hL : (hideAll h ((envOf name scope L a cd :: outer).filterMap (·.frame))).get? L = none := hideAll_none _ (List.mem_filterMap.mpr ⟨_, .head _, rfl⟩)
  have Nl : News g₆ L h₆ news := fun q hq => ⟨hfl₆.1 _ _ (hl q hq), (fun z => by have := (hl q hq); rw [z, hL] at this; cases this), T₆.none_ _ (N q hq).2.2⟩
  exact wpAny_passesOwnAt hE (k h₆ g₆ T₆ F₆ Nl K₆)
end
end
section
open PySem PySem.W PySem.Calls PyProof.Rows
set_option maxHeartbeats 4000000
noncomputable def fsOf (outer : List Env) : List Addr := outer.filterMap (·.frame)
/-- all but the object at d stands, the frames fs up to their slots -/
noncomputable def KeepUp (fs : List Addr) (d : Addr) (h h' : Heap) : Prop := ∀ b o, b ≠ d → h.get? b = some o → (b ∉ fs → h'.get? b = some o) ∧ (b ∈ fs → ∃ sl, h'.get? b = some { o with slots := sl })
theorem KeepUp.of {fs : List Addr} {d : Addr} {h h' : Heap} (k : KeepBut d h h') : KeepUp fs d h h' := fun b o n e => ⟨fun _ => k b o n e, fun _ => ⟨o.slots, k b o n e⟩⟩
structure Deep (A : Around) (H h : Heap) (outer : List Env) (x dx : Addr) : Prop where
  below : Below A H outer h
  nx : x ∉ fsOf outer
  nd : dx ∉ fsOf outer
theorem frames_hide {h base : Heap} {l : List Addr} : ∀ {outer : List Env}, h.FunFrames base outer → (∀ a ∈ l, a ∉ fsOf outer) → (hideAll h l).FunFrames base outer
  | [], _, _ => trivial
  | env :: rest, ⟨h1, ⟨L, o, h2, h3, h4, h5⟩, h6⟩, hn => by
    have hL : L ∉ l := fun q => hn L q (List.mem_filterMap.mpr ⟨env, .head _, h2⟩)
    refine ⟨h1, ⟨L, o, h2, h3, hideAll_get _ h4 hL, h5⟩, frames_hide h6 fun a ha q => ?_⟩
    obtain ⟨env', he, hf⟩ := List.mem_filterMap.mp q
    exact hn a ha (List.mem_filterMap.mpr ⟨env', .tail _ he, hf⟩)
noncomputable def FinD (w : World) (mg mb : Str → Option Value) (A : Around) (outer : List Env) (H : Heap) (s : Shared) (x dx : Addr) (g : Heap) : Prop :=
  ∀ g' h' m' L2 od', KtsTurn (fsOf outer) g g' → Fr g' L2 h' m' → News g' L2 h' [(x, selfI dx), (dx, od')] → KeepUp (fsOf outer) dx s.heap h' ∧ Me w mg mb H h' x dx od' ∧ Deep A H h' outer x dx
section
variable {w : World} {A : Around} {E : Value → Shared → Prop} {s : Shared} {mg mb : Str → Option Value}
theorem enter_deep {H : Heap} {x dx : Addr} {od : Obj} {outer : List Env} {R : Result → Shared → Prop} {name qual : Str} {params : Arguments} {body : List Stmt} {scope : Scope} {dV kV doc pm cdv ct oc : Value} {an od1 : Option Addr} {osl : Array (Option Value)} {f : Addr} {args : Args} (binds : List (Str × Value))
    (M : Me w mg mb H s.heap x dx od) (D : Deep A H s.heap outer x dx)
    (ho : (KK w.params).lookup f = some ⟨oc, od1, .func (fnOf name qual params body scope dV kV doc pm an cdv ct), osl⟩) (hcd : codeIn (KK w.params) cdv qual = true) (hroom : A.depth < recursionLimit)
    (hbind : BindsTo s (fnOf name qual params body scope dV kV doc pm an cdv ct) args binds) (hloc : ∀ y ∈ binds, scope.names.lookup y.1 = some .local)
    (h : ∀ g L' h₁, Ok w mg mb H → (KK w.params).In H → TopRead (qv pw) lse mg mb H → Ok w mg mb g → (KK w.params).In g → TopRead (qv pw) lse mg mb g → Below A H outer g → Fr g L' h₁ (fun y => binds.reverse.lookup y) → News g L' h₁ [(x, selfI dx), (dx, od)] →
      FinD w mg mb A outer H s x dx g →
      wpAny (model pw w) (A.deeper (envOf qual scope L' f cdv)) (execs body (envOf qual scope L' f cdv)) (fun fl s' => R (.ok (.ret (match fl with | .ret v => v | _ => .none))) s') (fun _ _ => False) { s with heap := h₁, toks := s.toks + binds.length })
    (hco : scope.isCoroutine = false) (hgen : scope.isGenerator = false) (hk : scope.kind = .function)
    (hcell : ∀ x ∈ scope.names, x.2 ≠ .cell) : codeAny (model pw w) A (.call (.ref f) args) R s := by
  have hn : ∀ b o, H.get? b = some o → b ∉ [x, dx] := fun b o e q => by
    rcases List.mem_cons.mp q with rfl | q
    · have := M.x0; rw [e] at this; cases this
    · rcases List.mem_cons.mp q with rfl | q
      · have := M.d0; rw [e] at this; cases this
      · cases q
  have O : Ok w mg mb (hideAll s.heap [x, dx]) := M.ok.keeps fun b o e => hideAll_get _ (M.keep b o e) (hn b o e)
  have X : (KK w.params).In s.heap := O.tops.kin.keeps fun b o e => of_hideAll _ e
  have B : Below A H outer (hideAll s.heap [x, dx]) := ⟨D.below.stack, fun b o e => hideAll_get _ (D.below.stays b o e) (hn b o e), frames_hide D.below.frames fun a ha q => by
    rcases List.mem_cons.mp ha with rfl | ha
    · exact D.nx q
    · rcases List.mem_cons.mp ha with rfl | ha
      · exact D.nd q
      · cases ha⟩
  have nf : ∀ b o, H.get? b = some o → b ∉ fsOf outer := fun b o e q => by
    have := (D.below.frames.mem q).1
    rw [e] at this; cases this
  refine codeAny_call_def (fd := fnOf name qual params body scope dV kV doc pm an cdv ct) (body := body) (binds := binds) hroom (X _ _ ho) rfl (O.top.nolimit.keeps fun b o e => of_hideAll _ e) (codeRec_of X hcd) rfl hbind hcell hloc (fun h₁ hns hk₁ => ?_) hco hgen hk
  refine wpAny_mono (h (hideAll s.heap [x, dx]) s.heap.objs.size h₁ M.ok M.ok.tops.kin M.ok.top O O.tops.kin O.top B ⟨hns, fun b o e => hk₁ b o (of_hideAll _ e), Nat.le_of_eq (hideAll_size _ _)⟩ (fun p hp => ?_) (fun g' h' m' L2 od' T F N => ?_)) (fun _ _ y => y) fun _ _ y => y.elim
  · have hp' : s.heap.get? p.1 = some p.2 ∧ p.1 ∈ [x, dx] := by
      rcases List.mem_cons.mp hp with rfl | hp
      · exact ⟨M.ix, .head _⟩
      · rcases List.mem_cons.mp hp with rfl | hp
        · exact ⟨M.id, .tail _ (.head _)⟩
        · cases hp
    exact ⟨hk₁ _ _ hp'.1, Nat.ne_of_lt (Heap.lt_size hp'.1), hideAll_none _ hp'.2⟩
  · have up : ∀ b o, (hideAll s.heap [x, dx]).get? b = some o → (b ∉ fsOf outer → h'.get? b = some o) ∧ (b ∈ fsOf outer → ∃ sl, h'.get? b = some { o with slots := sl }) := fun b o e =>
      ⟨fun nm => F.keep b o (T.other b o e nm), fun hm => (T.frame b o e hm).imp fun sl q => F.keep b _ q⟩
    have kb : KeepUp (fsOf outer) dx s.heap h' := fun b o nb e => by
      by_cases hb : b = x
      · subst hb
        rw [M.ix] at e; cases e
        exact ⟨fun _ => (N (b, selfI dx) (.head _)).1, fun q => (D.nx q).elim⟩
      · exact up b o (hideAll_get _ e fun q => by
          rcases List.mem_cons.mp q with q | q
          · exact hb q
          · rcases List.mem_cons.mp q with q | q
            · exact nb q
            · cases q)
    have hd : h'.get? dx = some od' := (N (dx, od') (.tail _ (.head _))).1
    have hH : ∀ b o, H.get? b = some o → h'.get? b = some o := fun b o e => (up b o (hideAll_get _ (M.keep b o e) (hn b o e))).1 (nf b o e)
    refine ⟨kb, ⟨M.ok, hH, M.x0, M.d0, (N (x, selfI dx) (.head _)).1, hd, M.ne⟩, ⟨⟨D.below.stack, hH, B.frames.of_keeps fun b o e hnf => ?_⟩, D.nx, D.nd⟩⟩
    by_cases hm : b ∈ fsOf outer
    · obtain ⟨sl, q⟩ := (up b o e).2 hm
      exact ⟨_, q, rfl⟩
    · exact ⟨o, (up b o e).1 hm, rfl⟩
end
section
variable {w : World} {A₀ : Around} {mg mb : Str → Option Value} {H g h h' : Heap} {L x dx a : Addr} {od od' : Obj} {outer : List Env} {m : Str → Option Value} {name : Str} {scope : Scope} {cd : Value}
theorem me_deep (OH : Ok w mg mb H) (K : Below A₀ H outer g) (F : Fr g L h m) (N : News g L h [(x, selfI dx), (dx, od)]) (ne : x ≠ dx) (hk : scope.kind = .function := by rfl) :
    Me w mg mb H h x dx od ∧ Deep (A₀.deeper (envOf name scope L a cd)) H h (envOf name scope L a cd :: outer) x dx := by
  have nx := N (x, selfI dx) (.head _)
  have nd := N (dx, od) (.tail _ (.head _))
  have nH : ∀ b, g.get? b = none → H.get? b = none := fun b e => by
    cases q : H.get? b with
    | none => rfl
    | some o => have := K.stays b o q; rw [e] at this; cases this
  have nf : ∀ b, g.get? b = none → b ∉ fsOf outer := fun b e q => by
    obtain ⟨_, o, ho, _⟩ := K.frames.mem q
    rw [e] at ho; cases ho
  have nn : ∀ b, b ≠ L → b ∉ fsOf outer → b ∉ fsOf (envOf name scope L a cd :: outer) := fun b h1 h2 q => by
    rcases kts_mem q with z | z
    · exact h1 z
    · exact h2 z
  exact ⟨⟨OH, fun b o e => F.keep b o (K.stays b o e), nH x nx.2.2, nH dx nd.2.2, nx.1, nd.1, ne⟩, ⟨K.push F hk, nn x nx.2.1 (nf x nx.2.2), nn dx nd.2.1 (nf dx nd.2.2)⟩⟩
theorem back_deep (K : Below A₀ H outer g) (F : Fr g L h m) (N : News g L h [(x, selfI dx), (dx, od)]) (ne : x ≠ dx)
    (kb : KeepUp (fsOf (envOf name scope L a cd :: outer)) dx h h') (hd : h'.get? dx = some od') :
    ∃ g', KtsTurn (fsOf outer) g g' ∧ Fr g' L h' m ∧ News g' L h' [(x, selfI dx), (dx, od')] ∧ Below A₀ H outer g' := by
  have nx := N (x, selfI dx) (.head _)
  have nd := N (dx, od) (.tail _ (.head _))
  have nb : ∀ b o, g.get? b = some o → b ≠ dx := fun b o e q => by rw [q, nd.2.2] at e; cases e
  have nL : ∀ b o, g.get? b = some o → b ≠ L := fun b o e q => by rw [q, kts_self F] at e; cases e
  have inn : ∀ b, b ∈ fsOf outer → b ∈ fsOf (envOf name scope L a cd :: outer) := fun b q => by
    obtain ⟨env, he, hf⟩ := List.mem_filterMap.mp q
    exact List.mem_filterMap.mpr ⟨env, .tail _ he, hf⟩
  have out : ∀ b, b ∈ fsOf (envOf name scope L a cd :: outer) → b = L ∨ b ∈ fsOf outer := fun b q => kts_mem q
  have inL : L ∈ fsOf (envOf name scope L a cd :: outer) := List.mem_filterMap.mpr ⟨_, .head _, rfl⟩
  obtain ⟨T, S⟩ := kts_turn_at (h := h') (fs := fsOf outer) (g := g)
    (fun b hb => by
      obtain ⟨_, o, ho, _⟩ := K.frames.mem hb
      exact ⟨o, ho⟩)
    (fun b o e nm => (kb b o (nb b o e) (F.keep b o e)).1 fun q => (out b q).elim (nL b o e) nm)
    (fun b o e hm => (kb b o (nb b o e) (F.keep b o e)).2 (inn b hm))
  obtain ⟨oL, es, ep, hL, r⟩ := F.ns
  have ndL : L ≠ dx := Ne.symm nd.2.1
  obtain ⟨sl, hsl⟩ := (kb L oL ndL hL).2 inL
  have nxf : x ∉ fsOf (envOf name scope L a cd :: outer) := fun q => by
    rcases out x q with z | z
    · exact nx.2.1 z
    · obtain ⟨_, o, ho, _⟩ := K.frames.mem z
      rw [nx.2.2] at ho; cases ho
  refine ⟨_, T, ⟨⟨{ oL with slots := sl }, es, ep, hsl, r⟩, S, by rw [T.size]; exact F.above⟩, fun p hp => ?_, ⟨K.stack, fun b o e => T.other b o (K.stays b o e) (fun hm => by
    have := (K.frames.mem hm).1
    rw [e] at this; cases this), K.frames.of_keeps fun b o e _ => ?_⟩⟩
  · rcases List.mem_cons.mp hp with rfl | hp
    · exact ⟨(kb x _ ne nx.1).1 nxf, nx.2.1, T.none_ _ nx.2.2⟩
    · rcases List.mem_cons.mp hp with rfl | hp
      · exact ⟨hd, nd.2.1, T.none_ _ nd.2.2⟩
      · cases hp
  · by_cases hm : b ∈ fsOf outer
    · obtain ⟨sl, q⟩ := T.frame b o e hm
      exact ⟨_, q, rfl⟩
    · exact ⟨o, T.other b o e hm, rfl⟩
theorem backD7 {w : World} {outer : List Env} {g g₀ h h' H : Heap} {L x dx a : Addr} {od od' : Obj} {m : Str → Option Value} {name : Str} {scope : Scope} {cd : Value} {cur : Str} {c l lb bra ket ip : Int} {G : Prop} (hd : IsSt w cur c l lb bra ket (some ip) od') (OH : Ok w mg mb H) (KH : (KK w.params).In H) (TH : TopRead (qv pw) lse mg mb H)
    (K : Below A₀ H outer g) (F : Fr g L h m) (N : News g L h [(x, selfI dx), (dx, od)]) (ne : x ≠ dx) (kb : KeepUp (fsOf (envOf name scope L a cd :: outer)) dx h h') (hx : h'.get? dx = some od') (T0 : KtsTurn (fsOf outer) g₀ g)
    (C : ∀ g2 k t, Ok w mg mb g2 → (KK w.params).In g2 → TopRead (qv pw) lse mg mb g2 → KtsTurn (fsOf outer) g₀ g2 → Fr g2 L h' m → News g2 L h' [(x, selfI dx), (dx, dictOf (E7 w.params cur c l lb bra ket ip k t) 7)] → Below A₀ H outer g2 → G) : G := by
  obtain ⟨g2, T2, F2, N2, K2⟩ := back_deep K F N ne kb hx
  first | (refine entry7 hd M ?_; clear hd M; intro _ _ M) | (refine entry6 hd M ?_; clear hd M; intro _ _ M) | cases hd
  exact C g2 _ _ (OH.keeps K2.stays) (Frag.In.keeps KH K2.stays) (TopRead.keeps TH K2.stays) (KtsTurn.trans T0 T2) F2 N2 K2
theorem backD6 {w : World} {outer : List Env} {g g₀ h h' H : Heap} {L x dx a : Addr} {od od' : Obj} {m : Str → Option Value} {name : Str} {scope : Scope} {cd : Value} {cur : Str} {c l lb bra ket : Int} {G : Prop} (hd : IsSt w cur c l lb bra ket none od') (OH : Ok w mg mb H) (KH : (KK w.params).In H) (TH : TopRead (qv pw) lse mg mb H)
    (K : Below A₀ H outer g) (F : Fr g L h m) (N : News g L h [(x, selfI dx), (dx, od)]) (ne : x ≠ dx) (kb : KeepUp (fsOf (envOf name scope L a cd :: outer)) dx h h') (hx : h'.get? dx = some od') (T0 : KtsTurn (fsOf outer) g₀ g)
    (C : ∀ g2 k t, Ok w mg mb g2 → (KK w.params).In g2 → TopRead (qv pw) lse mg mb g2 → KtsTurn (fsOf outer) g₀ g2 → Fr g2 L h' m → News g2 L h' [(x, selfI dx), (dx, dictOf (E6 w.params cur c l lb bra ket k t) 6)] → Below A₀ H outer g2 → G) : G := by
  obtain ⟨g2, T2, F2, N2, K2⟩ := back_deep K F N ne kb hx
  first | (refine entry7 hd M ?_; clear hd M; intro _ _ M) | (refine entry6 hd M ?_; clear hd M; intro _ _ M) | cases hd
  exact C g2 _ _ (OH.keeps K2.stays) (Frag.In.keeps KH K2.stays) (TopRead.keeps TH K2.stays) (KtsTurn.trans T0 T2) F2 N2 K2
theorem Ok.turn {fs : List Addr} (OH : Ok w mg mb H) (K : Below A₀ H outer g) : Ok w mg mb g := OH.keeps fun b o e => K.stays b o e
end
end
section
open PySem PySem.W PySem.Calls PyProof.Rows
set_option maxHeartbeats 4000000
end
local macro_rules | `(tactic| walk_at "noteFrame ref") => `(tactic| ((with_reducible rename Heap.MadeExcOf _ _ _ _ _ => hX'); (refine caught_made hX' (by assumption) (by assumption) (by assumption) (by assumption) (by assumption) (by k_is) (by first | kts_isx | kernel_rfl) ?_); clear hX'; intro h' g' T' F' N' K'; (have kX' := Frag.In.keeps (by assumption) K'.stays); (have tX' := TopRead.keeps (by assumption) K'.stays); (have T0' := KtsTurn.trans (by assumption) T')))
section
open PySem PySem.W PySem.Calls PyProof.Rows
set_option maxHeartbeats 4000000
abbrev OnD (w : World) (mg mb : Str → Option Value) (A : Around) (outer : List Env) (H : Heap) (s : Shared) (x dx : Addr) (Q : Value → Shared → Prop) (v : Value) (P : Obj → Prop) : Prop :=
  ∀ h' tk od', KeepUp (fsOf outer) dx s.heap h' → Me w mg mb H h' x dx od' → Deep A H h' outer x dx → P od' → Q v { s with heap := h', toks := tk }
theorem FinD.out {w : World} {mg mb : Str → Option Value} {A : Around} {outer : List Env} {H : Heap} {s : Shared} {x dx : Addr} {g g' h' : Heap} {m' : Str → Option Value} {L2 : Addr} {od' : Obj} {Q : Value → Shared → Prop} {v : Value} {P : Obj → Prop} {tk : Tok}
    (f : FinD w mg mb A outer H s x dx g) (T : KtsTurn (fsOf outer) g g') (F : Fr g' L2 h' m') (N : News g' L2 h' [(x, selfI dx), (dx, od')]) (hQ : OnD w mg mb A outer H s x dx Q v P) (hP : P od') : Q v { s with heap := h', toks := tk } :=
  hQ _ _ _ (f _ _ _ _ _ T F N).1 (f _ _ _ _ _ T F N).2.1 (f _ _ _ _ _ T F N).2.2 hP
/-- what r_possessive_suffix makes of the text L -/
noncomputable def Poss (ip : Int) (L L' : List Nat) : Prop := ∃ n r, Hit rows2 L.reverse n r ∧ n ≤ L.length ∧ if r = 0 ∨ (L.length : Int) - n < ip then L' = L else if r = 1 then L' = L.take (L.length - n) else PalI (L.take (L.length - n)) L'
theorem cut0_eq {cur : List Nat} {c : Int} {n : Nat} (hc : c = cur.length) : cur.take (c - n).toNat ++ cur.drop c.toNat = cur.take (cur.length - n) := by
  have := cut_eq (sv := []) (n := n) hc
  simpa using this
theorem cut0_len {cur : List Nat} {c l : Int} {n : Nat} (hc : c = cur.length) (hl : l = cur.length) (hn : n ≤ cur.length) : l - (c - (c - n)) = ((cur.take (c - n).toNat ++ cur.drop c.toNat).length : Nat) := by
  rw [cut0_eq hc, List.length_take, Nat.min_eq_left (Nat.sub_le _ _), hl, Int.ofNat_sub hn]
  clear hc hl hn
  lia
section
variable {w : World} {A : Around} {E : Value → Shared → Prop} {s : Shared} {mg mb : Str → Option Value} {H : Heap} {x dx : Addr} {od : Obj} {Q : Value → Shared → Prop}
theorem r_possessive_suffix {cur : List Nat} {outer : List Env} {c l bra ket ip : Int}
    (hA : A.depth + 60 < recursionLimit) (hH : A.handled = none) (D : Deep A H s.heap outer x dx) (M : Me w mg mb H s.heap x dx od) (hd : IsSt w (W cur) c l 0 bra ket (some ip) od)
    (hc : c = cur.length) (hl : l = cur.length) (hv : cur.length ≤ 900)
    (hQ : ∀ b L' c' bra' ket', Poss ip cur L' → OnD w mg mb A outer H s x dx Q (.bool b) (IsSt w (W L') c' L'.length 0 bra' ket' (some ip))) :
    wpAny (model pw w) A (call (.ref 263) [.ref x]) Q E s := by
  first | (refine entry7 hd M ?_; clear hd M; intro _ _ M) | (refine entry6 hd M ?_; clear hd M; intro _ _ M) | cases hd
  refine wpAny_call ?_
  refine' enter_deep [("self", .ref x)] M D ?k1 ?k2 ?k3 ?k4 ?k5 ?_ ?c2 ?c3 ?c4 ?c5
  case k1 => k_is
  case k2 => k_is
  case k3 => lia
  case k4 => exact BindsTo.of_eq rfl
  case c5 => decide
  case k5 => exact locs rfl
  case c2 => exact rfl
  case c3 => exact rfl
  case c4 => exact rfl
  have hne0 := M.ne
  have hne := neN M.ne
  clear M D
  intro g L' h' OH KH TH O KX T K F' N' fin
  have T0 : KtsTurn (fsOf outer) g g := KtsTurn.refl
  try dsimp only
  first | (with_reducible refine hid_all s ?_; intro _ _ _) | skip
  k_steps
  first | with_reducible refine Halt.mk ?_ | skip
  refine find_among_b (room hA (by decide)) hH (Me.of O (by assumption) (by assumption) hne0) (.seven ..) (fun g t => tat2 t) good2 (by lia) (by lia) (by lia) (by lia) (fun n r hh t => ?_)
  have e1 : ((cur.drop (0 : Int).toNat).take (c - 0).toNat) = cur := by
    rw [hc]; simp
  rw [e1] at hh
  have hr := hit_res hh (R := [1, 2, 0]) (by decide +kernel) (by decide)
  have hn := hit_le hh
  have hp := hit_pos hh
  rw [List.length_reverse] at hn
  simp only [List.mem_cons, List.not_mem_nil, or_false] at hr
  rcases hr with rfl | rfl | rfl
  · have hn0 := hp (by decide) (by decide +kernel)
    intro h2 tk2 od2 kb2 M2 hd2
    first | (refine back7 hd2 (by assumption) (by assumption) hne0 kb2 M2.id ?_; clear hd2 M2 kb2 od2; intro _ _ F2 N2) | (refine back6 hd2 (by assumption) (by assumption) hne0 kb2 M2.id ?_; clear hd2 M2 kb2 od2; intro _ _ F2 N2) | (refine backO hd2 (by assumption) (by assumption) hne0 kb2 M2.id ?_; clear hd2 M2 kb2 od2; intro _ _ F2 N2)
    try dsimp only
    k_steps
    · have hq := hQ false cur (c - n) (c - n) c ⟨n, 1, hh, hn, by rw [if_pos (.inr (by lia))]⟩
      repeat walk_at "own hid"
      refine fin.out (by assumption) (by assumption) (by assumption) (hq) ?_
      rw [← hl]
      exact .seven ..
    first | with_reducible refine Halt.mk ?_ | skip
    refine slice_del (room hA (by decide)) (Me.of O (by assumption) (by assumption) hne0) (.seven ..) (by lia) (by lia) (by lia) (by lia) hl (by lia) ?_
    intro h2 tk2 od2 kb2 M2 hd2
    first | (refine back7 hd2 (by assumption) (by assumption) hne0 kb2 M2.id ?_; clear hd2 M2 kb2 od2; intro _ _ F2 N2) | (refine back6 hd2 (by assumption) (by assumption) hne0 kb2 M2.id ?_; clear hd2 M2 kb2 od2; intro _ _ F2 N2) | (refine backO hd2 (by assumption) (by assumption) hne0 kb2 M2.id ?_; clear hd2 M2 kb2 od2; intro _ _ F2 N2)
    try dsimp only
    k_steps
    have hq := hQ true (cur.take (c - n).toNat ++ cur.drop c.toNat) (c - n) (c - n) (c - n) ⟨n, 1, hh, hn, by rw [if_neg (by lia), if_pos rfl, cut0_eq hc]⟩
    repeat walk_at "own hid"
    refine fin.out (by assumption) (by assumption) (by assumption) (hq) ?_
    rw [← cut0_len hc hl hn]
    exact .seven ..
  · have hn0 := hp (by decide) (by decide +kernel)
    intro h2 tk2 od2 kb2 M2 hd2
    first | (refine back7 hd2 (by assumption) (by assumption) hne0 kb2 M2.id ?_; clear hd2 M2 kb2 od2; intro _ _ F2 N2) | (refine back6 hd2 (by assumption) (by assumption) hne0 kb2 M2.id ?_; clear hd2 M2 kb2 od2; intro _ _ F2 N2) | (refine backO hd2 (by assumption) (by assumption) hne0 kb2 M2.id ?_; clear hd2 M2 kb2 od2; intro _ _ F2 N2)
    try dsimp only
    k_steps
    · have hq := hQ false cur (c - n) (c - n) c ⟨n, 2, hh, hn, by rw [if_pos (.inr (by lia))]⟩
      repeat walk_at "own hid"
      refine fin.out (by assumption) (by assumption) (by assumption) (hq) ?_
      rw [← hl]
      exact .seven ..
    first | with_reducible refine Halt.mk ?_ | skip
    refine slice_del (room hA (by decide)) (Me.of O (by assumption) (by assumption) hne0) (.seven ..) (by lia) (by lia) (by lia) (by lia) hl (by lia) ?_
    intro h2 tk2 od2 kb2 M2 hd2
    first | (refine back7 hd2 (by assumption) (by assumption) hne0 kb2 M2.id ?_; clear hd2 M2 kb2 od2; intro _ _ F2 N2) | (refine back6 hd2 (by assumption) (by assumption) hne0 kb2 M2.id ?_; clear hd2 M2 kb2 od2; intro _ _ F2 N2) | (refine backO hd2 (by assumption) (by assumption) hne0 kb2 M2.id ?_; clear hd2 M2 kb2 od2; intro _ _ F2 N2)
    try dsimp only
    k_steps
    first | with_reducible refine Halt.mk ?_ | skip
    have hlen := cut0_len hc hl hn
    refine r_palatalise_i (room hA (by decide)) hH (Me.of O (by assumption) (by assumption) hne0) (.seven ..) (by lia) (by lia) (by lia) (fun b L' c' bra' ket' hP => ?_)
    have hPo : Poss ip cur L' := ⟨n, 2, hh, hn, by rw [if_neg (by lia), if_neg (by decide), ← cut0_eq hc]; exact hP⟩
    cases b
    · intro h2 tk2 od2 kb2 M2 hd2
      first | (refine back7 hd2 (by assumption) (by assumption) hne0 kb2 M2.id ?_; clear hd2 M2 kb2 od2; intro _ _ F2 N2) | (refine back6 hd2 (by assumption) (by assumption) hne0 kb2 M2.id ?_; clear hd2 M2 kb2 od2; intro _ _ F2 N2) | (refine backO hd2 (by assumption) (by assumption) hne0 kb2 M2.id ?_; clear hd2 M2 kb2 od2; intro _ _ F2 N2)
      try dsimp only
      k_steps
      repeat walk_at "own hid"
      refine fin.out (by assumption) (by assumption) (by assumption) ((hQ true L' ((L'.length : Int) - (l - (c - (c - n)) - (c - n))) bra' ket' hPo)) ?_
      exact .seven ..
    · intro h2 tk2 od2 kb2 M2 hd2
      first | (refine back7 hd2 (by assumption) (by assumption) hne0 kb2 M2.id ?_; clear hd2 M2 kb2 od2; intro _ _ F2 N2) | (refine back6 hd2 (by assumption) (by assumption) hne0 kb2 M2.id ?_; clear hd2 M2 kb2 od2; intro _ _ F2 N2) | (refine backO hd2 (by assumption) (by assumption) hne0 kb2 M2.id ?_; clear hd2 M2 kb2 od2; intro _ _ F2 N2)
      try dsimp only
      k_steps
      have hq := hQ true L' c' bra' ket' hPo
      repeat walk_at "own hid"
      refine fin.out (by assumption) (by assumption) (by assumption) (hq) ?_
      exact .seven ..
  · intro h2 tk2 od2 kb2 M2 hd2
    first | (refine back7 hd2 (by assumption) (by assumption) hne0 kb2 M2.id ?_; clear hd2 M2 kb2 od2; intro _ _ F2 N2) | (refine back6 hd2 (by assumption) (by assumption) hne0 kb2 M2.id ?_; clear hd2 M2 kb2 od2; intro _ _ F2 N2) | (refine backO hd2 (by assumption) (by assumption) hne0 kb2 M2.id ?_; clear hd2 M2 kb2 od2; intro _ _ F2 N2)
    try dsimp only
    k_steps
    have hq := hQ false cur (c - n) bra c ⟨n, 0, hh, hn, by simp⟩
    repeat walk_at "own hid"
    refine fin.out (by assumption) (by assumption) (by assumption) (hq) ?_
    rw [← hl]
    exact .seven ..
end
end
section
open PySem PySem.W PySem.Calls PyProof.Rows
set_option maxHeartbeats 4000000
section
variable {w : World} {A : Around} {E : Value → Shared → Prop} {s : Shared} {g : Heap} {L : Addr} {m : Str → Option Value} {Q : Value → Shared → Prop} {expr : Bool}
theorem set_obj {a : Addr} {S : Str → Bool} (h : ∃ m, g.SetOf (strKind pw w) a S m) : ∃ e n t, g.get? a = some ⟨.type "set", none, .set e n t, #[]⟩ := by
  obtain ⟨m, o, es, ep, t, a1, a2, a3, r⟩ := h
  obtain ⟨c1, c2, c3⟩ := a2
  obtain ⟨oc, od, odt, os⟩ := o
  dsimp only at c1 c2 c3 a3
  subst c1; subst c2; subst c3; subst a3
  exact ⟨_, _, _, a1⟩
theorem kin_more {a : Addr} {o : Obj} (X : (KK w.params).In g) (h : g.get? a = some o) : Frag.In ((a, o) :: KK w.params) g := by
  intro b o' e
  by_cases q : b = a
  · subst q
    have : List.lookup b ((b, o) :: KK w.params) = some o := by simp [List.lookup]
    rw [this] at e; cases e; exact h
  · have : List.lookup b ((a, o) :: KK w.params) = List.lookup b (KK w.params) := by
      simp only [List.lookup]
      have : (b == a) = false := by simpa using q
      rw [this]
    rw [this] at e
    exact X b o' e
theorem get_gv (F : Fr g L s.heap m) (X : (KK w.params).In g) (T : Tops w g) (h : Q (.ref 232) { s with toks := s.toks + 1 }) : wpAny (model pw w) A (getAttr (.ref 578) (Str.ofString "g_v") expr) Q E s := by
  obtain ⟨e, n, t, ho⟩ := set_obj T.s1
  exact cls_val (mc := .type "type") (K := (232, _) :: KK w.params) F (kin_more X ho) (by kernel_rfl) (by kernel_rfl) (by kernel_rfl) (by kernel_rfl) h
theorem get_gvl (F : Fr g L s.heap m) (X : (KK w.params).In g) (T : Tops w g) (h : Q (.ref 233) { s with toks := s.toks + 1 }) : wpAny (model pw w) A (getAttr (.ref 578) (Str.ofString "g_v_or_syllabic_c") expr) Q E s := by
  obtain ⟨e, n, t, ho⟩ := set_obj T.s2
  exact cls_val (mc := .type "type") (K := (233, _) :: KK w.params) F (kin_more X ho) (by kernel_rfl) (by kernel_rfl) (by kernel_rfl) (by kernel_rfl) h
theorem get_gev (F : Fr g L s.heap m) (X : (KK w.params).In g) (T : Tops w g) (h : Q (.ref 234) { s with toks := s.toks + 1 }) : wpAny (model pw w) A (getAttr (.ref 578) (Str.ofString "g_ev_ending") expr) Q E s := by
  obtain ⟨e, n, t, ho⟩ := set_obj T.s3
  exact cls_val (mc := .type "type") (K := (234, _) :: KK w.params) F (kin_more X ho) (by kernel_rfl) (by kernel_rfl) (by kernel_rfl) (by kernel_rfl) h
theorem get_genv (F : Fr g L s.heap m) (X : (KK w.params).In g) (T : Tops w g) (h : Q (.ref 235) { s with toks := s.toks + 1 }) : wpAny (model pw w) A (getAttr (.ref 578) (Str.ofString "g_env_ending") expr) Q E s := by
  obtain ⟨e, n, t, ho⟩ := set_obj T.s4
  exact cls_val (mc := .type "type") (K := (235, _) :: KK w.params) F (kin_more X ho) (by kernel_rfl) (by kernel_rfl) (by kernel_rfl) (by kernel_rfl) h
theorem tops_turn {mg mb : Str → Option Value} {H : Heap} {A₀ : Around} {outer : List Env} (K : Below A₀ H outer g) (OH : Ok w mg mb H) : Tops w g := (OH.keeps fun b o e => K.stays b o e).tops
theorem ok_turn {mg mb : Str → Option Value} {H : Heap} {A₀ : Around} {outer : List Env} (K : Below A₀ H outer g) (OH : Ok w mg mb H) : Ok w mg mb g := OH.keeps fun b o e => K.stays b o e
end
end
section
open PySem PySem.W PySem.Calls PyProof.Rows
set_option maxHeartbeats 4000000
end
local macro_rules | `(tactic| walk_at "getAttr ref") => `(tactic| ((with_reducible show wpAny _ _ (getAttr (Value.ref 578) _ _) _ _ _); (with_reducible first | refine get_gv (by assumption) (by assumption) (by first | exact Ok.tops (by assumption) | exact tops_turn (by assumption) (by assumption)) ?_ | refine get_gvl (by assumption) (by assumption) (by first | exact Ok.tops (by assumption) | exact tops_turn (by assumption) (by assumption)) ?_ | refine get_gev (by assumption) (by assumption) (by first | exact Ok.tops (by assumption) | exact tops_turn (by assumption) (by assumption)) ?_ | refine get_genv (by assumption) (by assumption) (by first | exact Ok.tops (by assumption) | exact tops_turn (by assumption) (by assumption)) ?_)))
section
open PySem PySem.W PySem.Calls PyProof.Rows
set_option maxHeartbeats 4000000
noncomputable def lastIn (xs : List Str) (S : List Nat) : Prop := S ≠ [] ∧ (xs.any fun x => decide (W [S.getD (S.length - 1) 0] = x)) = true
noncomputable def lastOut (xs : List Str) (S : List Nat) : Prop := S ≠ [] ∧ (xs.any fun x => decide (W [S.getD (S.length - 1) 0] = x)) = false
noncomputable def AnyT (T : List Row) (t : List Nat) : Prop := ∃ j, j < T.length ∧ ek T j <+: t
theorem hit_any {T : List Row} {t : List Nat} {n : Nat} {r : Int} (h : Hit T t n r) (hz : (List.range T.length).all (fun k => decide (resk T k ≠ 0)) = true) : r = 0 ↔ ¬ AnyT T t := by
  rcases h with ⟨k, hk, hp, rfl, -, -⟩ | ⟨-, rfl, hno⟩
  · constructor
    · intro e
      exact absurd e (of_decide_eq_true (List.all_eq_true.mp hz k (List.mem_range.mpr hk)))
    · intro e
      exact absurd ⟨k, hk, hp⟩ e
  · exact ⟨fun _ ⟨j, hj, hp⟩ => hno j hj hp, fun _ => rfl⟩
/-- what r_case_suffix makes of the text L: the ending of n letters, its result r, the stem S -/
noncomputable def CaseOf (S L L' : List Nat) (r : Int) : Prop :=
  (r = 0 → L' = L) ∧ (r = 1 → L' = S) ∧ (r = 2 → PalE S L') ∧ (r = 3 → ∃ n2 r2, Hit rows3 S.reverse n2 r2 ∧ L' = if r2 = 1 then S else S ++ [101, 116]) ∧
  (r = 4 → (lastOut gv S ∧ ¬ [116, 345] <:+ S ∧ L' = S ++ [98]) ∨ (¬ (lastOut gv S ∧ ¬ [116, 345] <:+ S) ∧ L' = L)) ∧
  (r = 5 → (lastOut gv S ∧ PalE (S ++ [99]) L') ∨ (¬ lastOut gv S ∧ L' = L)) ∧
  (r = 6 → (lastOut gv S ∧ ¬ AnyT rows4 S.reverse ∧ L' = S ++ [107]) ∨ (¬ (lastOut gv S ∧ ¬ AnyT rows4 S.reverse) ∧ L' = L)) ∧
  (r = 7 → ([110] <:+ S ∧ L' = S.take (S.length - 1) ++ [328, 107]) ∨ (¬ [110] <:+ S ∧ L' = L)) ∧
  (r = 8 → (lastIn genv S ∧ L' = S ++ [110]) ∨ (¬ lastIn genv S ∧ L' = L)) ∧
  (r = 9 → (AnyT rows5 S.reverse ∧ L' = S ++ [116]) ∨ (¬ AnyT rows5 S.reverse ∧ L' = L)) ∧
  (r = 10 → (lastIn gev S ∧ L' = S ++ [118]) ∨ (¬ lastIn gev S ∧ L' = L)) ∧
  (r = 11 → L' = S ++ [116]) ∧ (r = 12 → PalI S L')
noncomputable def CaseR (ip : Int) (L L' : List Nat) : Prop := ∃ n r, Hit rows6 (L.drop ip.toNat).reverse n r ∧ n ≤ L.length ∧ CaseOf (L.take (L.length - n)) L L' r
theorem caseOf_3 {S L L' : List Nat} (h : ∃ n2 r2, Hit rows3 S.reverse n2 r2 ∧ L' = if r2 = 1 then S else S ++ [101, 116]) : CaseOf S L L' 3 := by
  unfold CaseOf; refine ⟨?_, ?_, ?_, ?_, ?_, ?_, ?_, ?_, ?_, ?_, ?_, ?_, ?_⟩ <;> intro e <;> first | exact absurd e (by decide) | exact h
theorem caseOf_4 {S L L' : List Nat} (h : (lastOut gv S ∧ ¬ [116, 345] <:+ S ∧ L' = S ++ [98]) ∨ (¬ (lastOut gv S ∧ ¬ [116, 345] <:+ S) ∧ L' = L)) : CaseOf S L L' 4 := by
  unfold CaseOf; refine ⟨?_, ?_, ?_, ?_, ?_, ?_, ?_, ?_, ?_, ?_, ?_, ?_, ?_⟩ <;> intro e <;> first | exact absurd e (by decide) | exact h
theorem caseOf_5 {S L L' : List Nat} (h : (lastOut gv S ∧ PalE (S ++ [99]) L') ∨ (¬ lastOut gv S ∧ L' = L)) : CaseOf S L L' 5 := by
  unfold CaseOf; refine ⟨?_, ?_, ?_, ?_, ?_, ?_, ?_, ?_, ?_, ?_, ?_, ?_, ?_⟩ <;> intro e <;> first | exact absurd e (by decide) | exact h
theorem caseOf_6 {S L L' : List Nat} (h : (lastOut gv S ∧ ¬ AnyT rows4 S.reverse ∧ L' = S ++ [107]) ∨ (¬ (lastOut gv S ∧ ¬ AnyT rows4 S.reverse) ∧ L' = L)) : CaseOf S L L' 6 := by
  unfold CaseOf; refine ⟨?_, ?_, ?_, ?_, ?_, ?_, ?_, ?_, ?_, ?_, ?_, ?_, ?_⟩ <;> intro e <;> first | exact absurd e (by decide) | exact h
theorem caseOf_7 {S L L' : List Nat} (h : ([110] <:+ S ∧ L' = S.take (S.length - 1) ++ [328, 107]) ∨ (¬ [110] <:+ S ∧ L' = L)) : CaseOf S L L' 7 := by
  unfold CaseOf; refine ⟨?_, ?_, ?_, ?_, ?_, ?_, ?_, ?_, ?_, ?_, ?_, ?_, ?_⟩ <;> intro e <;> first | exact absurd e (by decide) | exact h
theorem caseOf_8 {S L L' : List Nat} (h : (lastIn genv S ∧ L' = S ++ [110]) ∨ (¬ lastIn genv S ∧ L' = L)) : CaseOf S L L' 8 := by
  unfold CaseOf; refine ⟨?_, ?_, ?_, ?_, ?_, ?_, ?_, ?_, ?_, ?_, ?_, ?_, ?_⟩ <;> intro e <;> first | exact absurd e (by decide) | exact h
theorem caseOf_9 {S L L' : List Nat} (h : (AnyT rows5 S.reverse ∧ L' = S ++ [116]) ∨ (¬ AnyT rows5 S.reverse ∧ L' = L)) : CaseOf S L L' 9 := by
  unfold CaseOf; refine ⟨?_, ?_, ?_, ?_, ?_, ?_, ?_, ?_, ?_, ?_, ?_, ?_, ?_⟩ <;> intro e <;> first | exact absurd e (by decide) | exact h
theorem caseOf_10 {S L L' : List Nat} (h : (lastIn gev S ∧ L' = S ++ [118]) ∨ (¬ lastIn gev S ∧ L' = L)) : CaseOf S L L' 10 := by
  unfold CaseOf; refine ⟨?_, ?_, ?_, ?_, ?_, ?_, ?_, ?_, ?_, ?_, ?_, ?_, ?_⟩ <;> intro e <;> first | exact absurd e (by decide) | exact h
theorem caseOf_11 {S L L' : List Nat} (h : L' = S ++ [116]) : CaseOf S L L' 11 := by
  unfold CaseOf; refine ⟨?_, ?_, ?_, ?_, ?_, ?_, ?_, ?_, ?_, ?_, ?_, ?_, ?_⟩ <;> intro e <;> first | exact absurd e (by decide) | exact h
theorem caseOf_12 {S L L' : List Nat} (h : PalI S L') : CaseOf S L L' 12 := by
  unfold CaseOf; refine ⟨?_, ?_, ?_, ?_, ?_, ?_, ?_, ?_, ?_, ?_, ?_, ?_, ?_⟩ <;> intro e <;> first | exact absurd e (by decide) | exact h
theorem toN {c : Int} {L n : Nat} (hc : c = L) : (c - n).toNat = L - n := by rw [hc]; exact Int.toNat_sub L n
theorem toN1 {c : Int} {L n : Nat} (hc : c = L) : (c - n - 1).toNat = L - n - 1 := by rw [hc, Int.sub_sub, Nat.sub_sub]; exact Int.toNat_sub L (n + 1)
theorem len_ip {L : Nat} {ip : Int} (h : 0 ≤ ip) : L - ip.toNat ≤ ((L : Int) - ip).toNat := by
  obtain ⟨p, rfl⟩ := Int.eq_ofNat_of_zero_le h
  rw [Int.toNat_natCast, Int.toNat_sub]
  exact Nat.le_refl _
theorem len_cut {cur : List Nat} {n : Nat} : (cur.take (cur.length - n)).length = cur.length - n := by rw [List.length_take]; exact Nat.min_eq_left (Nat.sub_le _ _)
theorem last_at {cur : List Nat} {c k : Int} {n : Nat} (hc : c = cur.length) (hk : k = c - n) (h : 0 < k) : (cur.take (cur.length - n)) ≠ [] ∧ (cur.take (cur.length - n)).getD ((cur.take (cur.length - n)).length - 1) 0 = cur.getD (k - 1).toNat 0 := by
  have h1 : 0 < cur.length - n := by
    rw [hk] at h
    have := Int.pos_iff_toNat_pos.mp h
    rw [toN hc] at this
    exact this
  refine ⟨fun e => ?_, ?_⟩
  · have hl := len_cut (cur := cur) (n := n)
    rw [e] at hl
    exact absurd hl (Nat.ne_of_lt h1)
  · rw [len_cut, hk, toN1 hc, List.getD_eq_getElem?_getD, List.getD_eq_getElem?_getD, List.getElem?_take, if_pos (Nat.sub_lt h1 Nat.one_pos)]
theorem last_no {cur : List Nat} {c k : Int} {n : Nat} (hc : c = cur.length) (hk : k = c - n) (h : ¬ 0 < k) : cur.take (cur.length - n) = [] := by
  apply List.length_eq_zero_iff.mp
  rw [len_cut]
  refine Nat.eq_zero_of_not_pos fun q => h ?_
  rw [hk]
  exact Int.pos_iff_toNat_pos.mpr (by rw [toN hc]; exact q)
theorem lastOut_of {xs : List Str} {cur : List Nat} {c k : Int} {n : Nat} (hc : c = cur.length) (hk : k = c - n) (h : 0 < k) (h2 : (xs.any fun x => decide (W [cur.getD (k - 1).toNat 0] = x)) = false) : lastOut xs (cur.take (cur.length - n)) := by
  obtain ⟨a, b⟩ := last_at hc hk h
  exact ⟨a, by rw [b]; exact h2⟩
theorem lastOut_not {xs : List Str} {cur : List Nat} {c k : Int} {n : Nat} (hc : c = cur.length) (hk : k = c - n) (h : ¬ (0 < k ∧ (xs.any fun x => decide (W [cur.getD (k - 1).toNat 0] = x)) = false)) : ¬ lastOut xs (cur.take (cur.length - n)) := by
  rintro ⟨a, b⟩
  by_cases q : 0 < k
  · rw [(last_at hc hk q).2] at b
    exact h ⟨q, b⟩
  · exact a (last_no hc hk q)
theorem lastIn_of {xs : List Str} {cur : List Nat} {c k : Int} {n : Nat} (hc : c = cur.length) (hk : k = c - n) (h : 0 < k) (h2 : (xs.any fun x => decide (W [cur.getD (k - 1).toNat 0] = x)) = true) : lastIn xs (cur.take (cur.length - n)) := by
  obtain ⟨a, b⟩ := last_at hc hk h
  exact ⟨a, by rw [b]; exact h2⟩
theorem lastIn_not {xs : List Str} {cur : List Nat} {c k : Int} {n : Nat} (hc : c = cur.length) (hk : k = c - n) (h : ¬ (0 < k ∧ (xs.any fun x => decide (W [cur.getD (k - 1).toNat 0] = x)) = true)) : ¬ lastIn xs (cur.take (cur.length - n)) := by
  rintro ⟨a, b⟩
  by_cases q : 0 < k
  · rw [(last_at hc hk q).2] at b
    exact h ⟨q, b⟩
  · exact a (last_no hc hk q)
theorem upto_eq {cur : List Nat} {c k : Int} {n : Nat} (hc : c = cur.length) (hk : k = c - n) : ((cur.drop (0 : Int).toNat).take (k - 0).toNat) = cur.take (cur.length - n) := by
  have : (k - 0).toNat = cur.length - n := by rw [Int.sub_zero, hk]; exact toN hc
  rw [this]; rfl
theorem ins_eq {cur sv : List Nat} {c l k : Int} {n : Nat} (hc : c = cur.length) (hl : l = cur.length) (hn : n ≤ cur.length) (hk : k = c - n) :
    ((cur.take (c - n).toNat ++ cur.drop c.toNat).take k.toNat ++ sv ++ (cur.take (c - n).toNat ++ cur.drop c.toNat).drop k.toNat) = cur.take (cur.length - n) ++ sv := by
  have e : (cur.take (cur.length - n)).length = k.toNat := by rw [len_cut, hk, hc, ← Int.ofNat_sub hn]; rfl
  rw [cut0_eq hc, ← e, List.take_length, List.drop_length, List.append_nil]
theorem suf_last {S : List Nat} {a : Nat} (h : S ≠ []) : [a] <:+ S ↔ S.getD (S.length - 1) 0 = a := by
  obtain ⟨X, b, rfl⟩ : ∃ X b, S = X ++ [b] := ⟨S.dropLast, S.getLast h, (List.dropLast_concat_getLast h).symm⟩
  have e : (X ++ [b]).getD ((X ++ [b]).length - 1) 0 = b := by simp
  rw [e]
  constructor
  · rintro ⟨Y, hY⟩
    have := List.append_inj' hY rfl
    exact (List.cons.inj this.2).1.symm
  · rintro rfl
    exact ⟨X, rfl⟩
theorem W_ne {a : Nat} {b : Bool} (h : (W [a] != Str.ofString "n") = b) : (a = 110) ↔ b = false := by
  have e : Str.ofString "n" = W [110] := by kernel_rfl
  rw [e] at h
  subst h
  constructor
  · rintro rfl; simp
  · intro h
    have : W [a] = W [110] := by simpa using h
    exact (List.cons.inj (W_inj this)).1
theorem cut1_eq {cur sv : List Nat} {c : Int} {n : Nat} (hc : c = cur.length) : cur.take (c - n - 1).toNat ++ sv ++ cur.drop c.toNat = (cur.take (cur.length - n)).take ((cur.take (cur.length - n)).length - 1) ++ sv := by
  subst hc
  have e1 : ((cur.length : Int) - n - 1).toNat = cur.length - n - 1 := toN1 rfl
  have e2 : cur.drop (cur.length : Int).toNat = [] := List.drop_eq_nil_of_le (Nat.le_refl _)
  rw [e1, e2, List.append_nil, len_cut, List.take_take, Nat.min_eq_left (Nat.sub_le _ _)]
theorem cut1_len {cur sv : List Nat} {c l : Int} {n : Nat} (hc : c = cur.length) (hl : l = cur.length) (hn : n + 1 ≤ cur.length) : l + ((sv.length : Int) - (c - (c - n - 1))) = ((cur.take (c - n - 1).toNat ++ sv ++ cur.drop c.toNat).length : Nat) := by
  rw [cut1_eq hc, List.length_append, List.length_take, len_cut, Nat.min_eq_left (Nat.sub_le _ _), hl]
  clear hc hl
  lia
theorem last12 {r : Int} (h : r = 0 ∨ r = 1 ∨ r = 2 ∨ r = 3 ∨ r = 4 ∨ r = 5 ∨ r = 6 ∨ r = 7 ∨ r = 8 ∨ r = 9 ∨ r = 10 ∨ r = 11 ∨ r = 12) (n0 : r ≠ 0) (n1 : r ≠ 1) (n2 : r ≠ 2) (n3 : r ≠ 3) (n4 : r ≠ 4) (n5 : r ≠ 5) (n6 : r ≠ 6) (n7 : r ≠ 7) (n8 : r ≠ 8) (n9 : r ≠ 9) (n10 : r ≠ 10) (n11 : r ≠ 11) : r = 12 := by
  rcases h with h | h | h | h | h | h | h | h | h | h | h | h | h <;> first | exact h | exact absurd h (by assumption)
section
variable {w : World} {A : Around} {E : Value → Shared → Prop} {s : Shared} {mg mb : Str → Option Value} {H : Heap} {x dx : Addr} {od : Obj} {Q : Value → Shared → Prop}
theorem r_case_suffix {cur : List Nat} {outer : List Env} {c l bra ket ip : Int}
    (hA : A.depth + 60 < recursionLimit) (hH : A.handled = none) (D : Deep A H s.heap outer x dx) (M : Me w mg mb H s.heap x dx od) (hd : IsSt w (W cur) c l 0 bra ket (some ip) od)
    (hc : c = cur.length) (hl : l = cur.length) (hv : cur.length ≤ 800) (hip : 0 ≤ ip) (hip2 : ip ≤ cur.length)
    (hQ : ∀ b L' c' bra' ket', CaseR ip cur L' → OnD w mg mb A outer H s x dx Q (.bool b) (IsSt w (W L') c' L'.length 0 bra' ket' (some ip))) :
    wpAny (model pw w) A (call (.ref 270) [.ref x]) Q E s := by
  first | (refine entry7 hd M ?_; clear hd M; intro _ _ M) | (refine entry6 hd M ?_; clear hd M; intro _ _ M) | cases hd
  refine wpAny_call ?_
  refine' enter_deep [("self", .ref x)] M D ?k1 ?k2 ?k3 ?k4 ?k5 ?_ ?c2 ?c3 ?c4 ?c5
  case k1 => k_is
  case k2 => k_is
  case k3 => lia
  case k4 => exact BindsTo.of_eq rfl
  case c5 => decide
  case k5 => exact locs rfl
  case c2 => exact rfl
  case c3 => exact rfl
  case c4 => exact rfl
  have hne0 := M.ne
  have hne := neN M.ne
  clear M D
  intro g L' h' OH KH TH O KX T K F' N' fin
  have T0 : KtsTurn (fsOf outer) g g := KtsTurn.refl
  try dsimp only
  first | (with_reducible refine hid_all s ?_; intro _ _ _) | skip
  k_steps
  first | with_reducible refine Halt.mk ?_ | skip
  refine find_among_b (room hA (by decide)) hH (Me.of O (by assumption) (by assumption) hne0) (.seven ..) (fun g t => tat6 t) good6 (by lia) (by lia) (by lia) (by lia) (fun n r hh t => ?_)
  have e1 : ((cur.drop ip.toNat).take (c - ip).toNat) = cur.drop ip.toNat := List.take_of_length_le (by rw [List.length_drop, hc]; exact len_ip hip)
  rw [e1] at hh
  have hr := hit_res hh (R := [0, 1, 2, 3, 4, 5, 6, 7, 8, 9, 10, 11, 12]) (by rw [tab6_is]; decide +kernel) (by decide)
  have hn := hit_le hh
  have hp := hit_pos hh
  rw [List.length_reverse, List.length_drop] at hn
  replace hn : n ≤ cur.length := Nat.le_trans hn (Nat.sub_le _ _)
  have hn' : 0 ≤ c - (n : Int) := by rw [hc]; exact Int.sub_nonneg_of_le (Int.ofNat_le.mpr hn)
  simp only [List.mem_cons, List.not_mem_nil, or_false] at hr
  intro h2 tk2 od2 kb2 M2 hd2
  first | (refine back7 hd2 (by assumption) (by assumption) hne0 kb2 M2.id ?_; clear hd2 M2 kb2 od2; intro _ _ F2 N2) | (refine back6 hd2 (by assumption) (by assumption) hne0 kb2 M2.id ?_; clear hd2 M2 kb2 od2; intro _ _ F2 N2) | (refine backO hd2 (by assumption) (by assumption) hne0 kb2 M2.id ?_; clear hd2 M2 kb2 od2; intro _ _ F2 N2)
  try dsimp only
  k_steps
  · have er : r = 0 := by assumption
    clear hr
    rw [er] at hh
    have hq := hQ false cur (c - n) bra c ⟨n, 0, hh, hn, by simp [CaseOf]⟩
    repeat walk_at "own hid"
    refine fin.out (by assumption) (by assumption) (by assumption) (hq) ?_
    rw [← hl]
    exact .seven ..
  · have er : r = 1 := by assumption
    rw [er] at hh
    have hn0 := hp (by rw [er]; decide) (by rw [tab6_is]; decide +kernel)
    clear hr hp er
    repeat (rename r ≠ _ => hz; clear hz)
    first | with_reducible refine Halt.mk ?_ | skip
    refine slice_del (room hA (by decide)) (Me.of O (by assumption) (by assumption) hne0) (.seven ..) (by lia) (by lia) (by lia) (by lia) hl (by lia) ?_
    intro h2 tk2 od2 kb2 M2 hd2
    first | (refine back7 hd2 (by assumption) (by assumption) hne0 kb2 M2.id ?_; clear hd2 M2 kb2 od2; intro _ _ F2 N2) | (refine back6 hd2 (by assumption) (by assumption) hne0 kb2 M2.id ?_; clear hd2 M2 kb2 od2; intro _ _ F2 N2) | (refine backO hd2 (by assumption) (by assumption) hne0 kb2 M2.id ?_; clear hd2 M2 kb2 od2; intro _ _ F2 N2)
    try dsimp only
    k_steps
    have hq := hQ true (cur.take (c - n).toNat ++ cur.drop c.toNat) (c - n) (c - n) (c - n) ⟨n, 1, hh, hn, by rw [cut0_eq hc]; simp [CaseOf]⟩
    repeat walk_at "own hid"
    refine fin.out (by assumption) (by assumption) (by assumption) (hq) ?_
    rw [← cut0_len hc hl (by lia)]
    exact .seven ..
  · have er : r = 2 := by assumption
    rw [er] at hh
    have hn0 := hp (by rw [er]; decide) (by rw [tab6_is]; decide +kernel)
    clear hr hp er
    repeat (rename r ≠ _ => hz; clear hz)
    first | with_reducible refine Halt.mk ?_ | skip
    refine slice_del (room hA (by decide)) (Me.of O (by assumption) (by assumption) hne0) (.seven ..) (by lia) (by lia) (by lia) (by lia) hl (by lia) ?_
    intro h2 tk2 od2 kb2 M2 hd2
    first | (refine back7 hd2 (by assumption) (by assumption) hne0 kb2 M2.id ?_; clear hd2 M2 kb2 od2; intro _ _ F2 N2) | (refine back6 hd2 (by assumption) (by assumption) hne0 kb2 M2.id ?_; clear hd2 M2 kb2 od2; intro _ _ F2 N2) | (refine backO hd2 (by assumption) (by assumption) hne0 kb2 M2.id ?_; clear hd2 M2 kb2 od2; intro _ _ F2 N2)
    try dsimp only
    k_steps
    first | with_reducible refine Halt.mk ?_ | skip
    have hlen := cut0_len hc hl (by lia : n ≤ cur.length)
    refine r_palatalise_e (room hA (by decide)) hH (Me.of O (by assumption) (by assumption) hne0) (.seven ..) (by lia) (by lia) (by lia) (fun b L' c' bra' ket' hP => ?_)
    have hPo : CaseR ip cur L' := ⟨n, 2, hh, hn, by rw [cut0_eq hc] at hP; simpa [CaseOf] using hP⟩
    cases b
    · intro h2 tk2 od2 kb2 M2 hd2
      first | (refine back7 hd2 (by assumption) (by assumption) hne0 kb2 M2.id ?_; clear hd2 M2 kb2 od2; intro _ _ F2 N2) | (refine back6 hd2 (by assumption) (by assumption) hne0 kb2 M2.id ?_; clear hd2 M2 kb2 od2; intro _ _ F2 N2) | (refine backO hd2 (by assumption) (by assumption) hne0 kb2 M2.id ?_; clear hd2 M2 kb2 od2; intro _ _ F2 N2)
      try dsimp only
      k_steps
      repeat walk_at "own hid"
      refine fin.out (by assumption) (by assumption) (by assumption) ((hQ true L' ((L'.length : Int) - (l - (c - (c - n)) - (c - n))) bra' ket' hPo)) ?_
      exact .seven ..
    · intro h2 tk2 od2 kb2 M2 hd2
      first | (refine back7 hd2 (by assumption) (by assumption) hne0 kb2 M2.id ?_; clear hd2 M2 kb2 od2; intro _ _ F2 N2) | (refine back6 hd2 (by assumption) (by assumption) hne0 kb2 M2.id ?_; clear hd2 M2 kb2 od2; intro _ _ F2 N2) | (refine backO hd2 (by assumption) (by assumption) hne0 kb2 M2.id ?_; clear hd2 M2 kb2 od2; intro _ _ F2 N2)
      try dsimp only
      k_steps
      repeat walk_at "own hid"
      refine fin.out (by assumption) (by assumption) (by assumption) ((hQ true L' c' bra' ket' hPo)) ?_
      exact .seven ..
  · have er : r = 3 := by assumption
    rw [er] at hh
    have hn0 := hp (by rw [er]; decide) (by rw [tab6_is]; decide +kernel)
    clear hr hp er
    repeat (rename r ≠ _ => hz; clear hz)
    first | with_reducible refine Halt.mk ?_ | skip
    refine find_among_b (room hA (by decide)) hH (Me.of O (by assumption) (by assumption) hne0) (.seven ..) (fun g t => tat3 t) good3 (by lia) (by lia) (by lia) (by lia) (fun n2 r2 hh2 t2 => ?_)
    have e2 : ((cur.drop (0 : Int).toNat).take (c - n - 0).toNat) = cur.take (cur.length - n) := by
      have : (c - n - 0).toNat = cur.length - n := by rw [Int.sub_zero]; exact toN hc
      rw [this]; rfl
    rw [e2] at hh2
    have hr2 := hit_res hh2 (R := [1, 2, 0]) (by rw [tab3_is]; decide +kernel) (by decide)
    simp only [List.mem_cons, List.not_mem_nil, or_false] at hr2
    rcases hr2 with rfl | rfl | rfl
    · intro h2 tk2 od2 kb2 M2 hd2
      first | (refine back7 hd2 (by assumption) (by assumption) hne0 kb2 M2.id ?_; clear hd2 M2 kb2 od2; intro _ _ F2 N2) | (refine back6 hd2 (by assumption) (by assumption) hne0 kb2 M2.id ?_; clear hd2 M2 kb2 od2; intro _ _ F2 N2) | (refine backO hd2 (by assumption) (by assumption) hne0 kb2 M2.id ?_; clear hd2 M2 kb2 od2; intro _ _ F2 N2)
      try dsimp only
      k_steps
      first | with_reducible refine Halt.mk ?_ | skip
      refine slice_from (sv := []) (room hA (by decide)) (Me.of O (by assumption) (by assumption) hne0) (.seven ..) (by lia) (by lia) (by lia) (by lia) hl (by lia) (by decide) ?_
      intro h2 tk2 od2 kb2 M2 hd2
      first | (refine back7 hd2 (by assumption) (by assumption) hne0 kb2 M2.id ?_; clear hd2 M2 kb2 od2; intro _ _ F2 N2) | (refine back6 hd2 (by assumption) (by assumption) hne0 kb2 M2.id ?_; clear hd2 M2 kb2 od2; intro _ _ F2 N2) | (refine backO hd2 (by assumption) (by assumption) hne0 kb2 M2.id ?_; clear hd2 M2 kb2 od2; intro _ _ F2 N2)
      try dsimp only
      k_steps
      have hPo : CaseR ip cur (cur.take (cur.length - n) ++ []) := ⟨n, 3, hh, hn, caseOf_3 ⟨n2, 1, hh2, by simp⟩⟩
      repeat walk_at "own hid"
      exact fin.out (by assumption) (by assumption) (by assumption) ((hQ true _ _ _ _ hPo)) (by rw [← cut_eq hc, ← cut_len hc hl (by lia)]; exact .seven ..)
    · intro h2 tk2 od2 kb2 M2 hd2
      first | (refine back7 hd2 (by assumption) (by assumption) hne0 kb2 M2.id ?_; clear hd2 M2 kb2 od2; intro _ _ F2 N2) | (refine back6 hd2 (by assumption) (by assumption) hne0 kb2 M2.id ?_; clear hd2 M2 kb2 od2; intro _ _ F2 N2) | (refine backO hd2 (by assumption) (by assumption) hne0 kb2 M2.id ?_; clear hd2 M2 kb2 od2; intro _ _ F2 N2)
      try dsimp only
      k_steps
      first | with_reducible refine Halt.mk ?_ | skip
      refine slice_from (sv := [101, 116]) (room hA (by decide)) (Me.of O (by assumption) (by assumption) hne0) (.seven ..) (by lia) (by lia) (by lia) (by lia) hl (by lia) (by decide) ?_
      intro h2 tk2 od2 kb2 M2 hd2
      first | (refine back7 hd2 (by assumption) (by assumption) hne0 kb2 M2.id ?_; clear hd2 M2 kb2 od2; intro _ _ F2 N2) | (refine back6 hd2 (by assumption) (by assumption) hne0 kb2 M2.id ?_; clear hd2 M2 kb2 od2; intro _ _ F2 N2) | (refine backO hd2 (by assumption) (by assumption) hne0 kb2 M2.id ?_; clear hd2 M2 kb2 od2; intro _ _ F2 N2)
      try dsimp only
      k_steps
      have hPo : CaseR ip cur (cur.take (cur.length - n) ++ [101, 116]) := ⟨n, 3, hh, hn, caseOf_3 ⟨n2, 2, hh2, by simp⟩⟩
      repeat walk_at "own hid"
      exact fin.out (by assumption) (by assumption) (by assumption) ((hQ true _ _ _ _ hPo)) (by rw [← cut_eq hc, ← cut_len hc hl (by lia)]; exact .seven ..)
    · exfalso
      rcases hh2 with ⟨k, hk, -, hz, -, -⟩ | ⟨-, -, hno⟩
      · have : (List.range rows3.length).all (fun k => decide (resk rows3 k ≠ 0)) = true := by rw [tab3_is]; decide +kernel
        exact of_decide_eq_true (List.all_eq_true.mp this k (List.mem_range.mpr hk)) hz.symm
      · refine hno 0 (by rw [tab3_is]; decide) ?_
        have : Mine.ek rows3 0 = [] := by rw [tab3_is]; rfl
        rw [this]; exact List.nil_prefix
  · have er : r = 4 := by assumption
    rw [er] at hh
    have hn0 := hp (by rw [er]; decide) (by rw [tab6_is]; decide +kernel)
    clear hr hp er
    repeat (rename r ≠ _ => hz; clear hz)
    first | with_reducible refine Halt.mk ?_ | skip
    refine out_grouping_b (room hA (by decide)) (Me.of O (by assumption) (by assumption) hne0) (.seven ..) (fun g t => t.s1) (by first | with_reducible assumption | lia) (by first | with_reducible assumption | lia) (by first | with_reducible assumption | lia) (fun h1 h2 => ?_) (fun h1 => ?_)
    · have hlo := lastOut_of hc rfl h1 h2
      intro h2 tk2 od2 kb2 M2 hd2
      first | (refine back7 hd2 (by assumption) (by assumption) hne0 kb2 M2.id ?_; clear hd2 M2 kb2 od2; intro _ _ F2 N2) | (refine back6 hd2 (by assumption) (by assumption) hne0 kb2 M2.id ?_; clear hd2 M2 kb2 od2; intro _ _ F2 N2) | (refine backO hd2 (by assumption) (by assumption) hne0 kb2 M2.id ?_; clear hd2 M2 kb2 od2; intro _ _ F2 N2)
      try dsimp only
      k_steps
      first | with_reducible refine Halt.mk ?_ | skip
      refine eq_s_b (sv:=[116,345]) (room hA (by decide)) (Me.of O (by assumption) (by assumption) hne0) (.seven ..) (by first | with_reducible assumption | lia) (by first | with_reducible assumption | lia) (by first | with_reducible assumption | lia) (by first | with_reducible assumption | lia) (by decide) (fun h3 => ?_) (fun h3 => ?_)
      · rw [upto_eq (n := n) hc (by lia)] at h3
        have hPo : CaseR ip cur cur := ⟨n, 4, hh, hn, caseOf_4 (.inr ⟨fun q => q.2 (List.isSuffixOf_iff_suffix.mp h3), rfl⟩)⟩
        intro h2 tk2 od2 kb2 M2 hd2
        first | (refine back7 hd2 (by assumption) (by assumption) hne0 kb2 M2.id ?_; clear hd2 M2 kb2 od2; intro _ _ F2 N2) | (refine back6 hd2 (by assumption) (by assumption) hne0 kb2 M2.id ?_; clear hd2 M2 kb2 od2; intro _ _ F2 N2) | (refine backO hd2 (by assumption) (by assumption) hne0 kb2 M2.id ?_; clear hd2 M2 kb2 od2; intro _ _ F2 N2)
        try dsimp only
        k_steps
        repeat walk_at "own hid"
        exact fin.out (by assumption) (by assumption) (by assumption) ((hQ false cur _ _ _ hPo)) (by rw [← hl]; exact .seven ..)
      · rw [upto_eq (n := n) hc (by lia)] at h3
        have hPo : CaseR ip cur (cur.take (cur.length - n) ++ [98]) := ⟨n, 4, hh, hn, caseOf_4 (.inl ⟨hlo, fun q => by rw [List.isSuffixOf_iff_suffix.mpr q] at h3; exact Bool.noConfusion h3, rfl⟩)⟩
        intro h2 tk2 od2 kb2 M2 hd2
        first | (refine back7 hd2 (by assumption) (by assumption) hne0 kb2 M2.id ?_; clear hd2 M2 kb2 od2; intro _ _ F2 N2) | (refine back6 hd2 (by assumption) (by assumption) hne0 kb2 M2.id ?_; clear hd2 M2 kb2 od2; intro _ _ F2 N2) | (refine backO hd2 (by assumption) (by assumption) hne0 kb2 M2.id ?_; clear hd2 M2 kb2 od2; intro _ _ F2 N2)
        try dsimp only
        k_steps
        first | with_reducible refine Halt.mk ?_ | skip
        refine slice_from (sv:=[98]) (room hA (by decide)) (Me.of (ok_turn (by assumption) OH) (by assumption) (by assumption) hne0) (.seven ..) (by first | with_reducible assumption | lia) (by first | with_reducible assumption | lia) (by first | with_reducible assumption | lia) (by first | with_reducible assumption | lia) hl (by first | with_reducible assumption | lia) (by decide) ?_
        intro h2 tk2 od2 kb2 M2 hd2
        first | (refine back7 hd2 (by assumption) (by assumption) hne0 kb2 M2.id ?_; clear hd2 M2 kb2 od2; intro _ _ F2 N2) | (refine back6 hd2 (by assumption) (by assumption) hne0 kb2 M2.id ?_; clear hd2 M2 kb2 od2; intro _ _ F2 N2) | (refine backO hd2 (by assumption) (by assumption) hne0 kb2 M2.id ?_; clear hd2 M2 kb2 od2; intro _ _ F2 N2)
        try dsimp only
        k_steps
        repeat walk_at "own hid"
        exact fin.out (by assumption) (by assumption) (by assumption) ((hQ true _ _ _ _ hPo)) (by rw [← cut_eq hc, ← cut_len hc hl (by lia)]; exact .seven ..)
    · have hlo := lastOut_not hc rfl h1
      have hPo : CaseR ip cur cur := ⟨n, 4, hh, hn, caseOf_4 (.inr ⟨fun q => hlo q.1, rfl⟩)⟩
      intro h2 tk2 od2 kb2 M2 hd2
      first | (refine back7 hd2 (by assumption) (by assumption) hne0 kb2 M2.id ?_; clear hd2 M2 kb2 od2; intro _ _ F2 N2) | (refine back6 hd2 (by assumption) (by assumption) hne0 kb2 M2.id ?_; clear hd2 M2 kb2 od2; intro _ _ F2 N2) | (refine backO hd2 (by assumption) (by assumption) hne0 kb2 M2.id ?_; clear hd2 M2 kb2 od2; intro _ _ F2 N2)
      try dsimp only
      k_steps
      repeat walk_at "own hid"
      exact fin.out (by assumption) (by assumption) (by assumption) ((hQ false cur _ _ _ hPo)) (by rw [← hl]; exact .seven ..)
  · have er : r = 5 := by assumption
    rw [er] at hh
    have hn0 := hp (by rw [er]; decide) (by rw [tab6_is]; decide +kernel)
    clear hr hp er
    repeat (rename r ≠ _ => hz; clear hz)
    first | with_reducible refine Halt.mk ?_ | skip
    refine out_grouping_b (room hA (by decide)) (Me.of O (by assumption) (by assumption) hne0) (.seven ..) (fun g t => t.s1) (by first | with_reducible assumption | lia) (by first | with_reducible assumption | lia) (by first | with_reducible assumption | lia) (fun h1 h2 => ?_) (fun h1 => ?_)
    · have hlo := lastOut_of hc rfl h1 h2
      intro h2 tk2 od2 kb2 M2 hd2
      first | (refine back7 hd2 (by assumption) (by assumption) hne0 kb2 M2.id ?_; clear hd2 M2 kb2 od2; intro _ _ F2 N2) | (refine back6 hd2 (by assumption) (by assumption) hne0 kb2 M2.id ?_; clear hd2 M2 kb2 od2; intro _ _ F2 N2) | (refine backO hd2 (by assumption) (by assumption) hne0 kb2 M2.id ?_; clear hd2 M2 kb2 od2; intro _ _ F2 N2)
      try dsimp only
      k_steps
      first | with_reducible refine Halt.mk ?_ | skip
      refine slice_del (room hA (by decide)) (Me.of O (by assumption) (by assumption) hne0) (.seven ..) (by first | with_reducible assumption | lia) (by first | with_reducible assumption | lia) (by first | with_reducible assumption | lia) (by first | with_reducible assumption | lia) hl (by first | with_reducible assumption | lia) ?_
      intro h2 tk2 od2 kb2 M2 hd2
      first | (refine back7 hd2 (by assumption) (by assumption) hne0 kb2 M2.id ?_; clear hd2 M2 kb2 od2; intro _ _ F2 N2) | (refine back6 hd2 (by assumption) (by assumption) hne0 kb2 M2.id ?_; clear hd2 M2 kb2 od2; intro _ _ F2 N2) | (refine backO hd2 (by assumption) (by assumption) hne0 kb2 M2.id ?_; clear hd2 M2 kb2 od2; intro _ _ F2 N2)
      try dsimp only
      k_steps
      have hlen := cut0_len hc hl (by lia : n ≤ cur.length)
      first | with_reducible refine Halt.mk ?_ | skip
      refine insert (sv:=[99]) (room hA (by decide)) (Me.of O (by assumption) (by assumption) hne0) (.seven ..) (by first | with_reducible assumption | lia) (by first | with_reducible assumption | lia) (by first | with_reducible assumption | lia) (by first | with_reducible assumption | lia) (by first | with_reducible assumption | lia) (by decide) ?_
      intro h2 tk2 od2 kb2 M2 hd2
      first | (refine back7 hd2 (by assumption) (by assumption) hne0 kb2 M2.id ?_; clear hd2 M2 kb2 od2; intro _ _ F2 N2) | (refine back6 hd2 (by assumption) (by assumption) hne0 kb2 M2.id ?_; clear hd2 M2 kb2 od2; intro _ _ F2 N2) | (refine backO hd2 (by assumption) (by assumption) hne0 kb2 M2.id ?_; clear hd2 M2 kb2 od2; intro _ _ F2 N2)
      try dsimp only
      k_steps
      have e5 := ins_eq (sv := [99]) hc hl (by lia : n ≤ cur.length) (show l - (l - (c - n)) = c - n by lia)
      first | with_reducible refine Halt.mk ?_ | skip
      refine r_palatalise_e (room hA (by decide)) hH (Me.of O (by assumption) (by assumption) hne0) (.seven ..) (by rw [e5]; simp; lia) (by rw [e5]; simp; lia) (by rw [e5]; simp; lia) (fun b L' c' bra' ket' hP => ?_)
      have hPo : CaseR ip cur L' := ⟨n, 5, hh, hn, caseOf_5 (.inl ⟨hlo, by rw [e5] at hP; exact hP⟩)⟩
      cases b
      · intro h2 tk2 od2 kb2 M2 hd2
        first | (refine back7 hd2 (by assumption) (by assumption) hne0 kb2 M2.id ?_; clear hd2 M2 kb2 od2; intro _ _ F2 N2) | (refine back6 hd2 (by assumption) (by assumption) hne0 kb2 M2.id ?_; clear hd2 M2 kb2 od2; intro _ _ F2 N2) | (refine backO hd2 (by assumption) (by assumption) hne0 kb2 M2.id ?_; clear hd2 M2 kb2 od2; intro _ _ F2 N2)
        try dsimp only
        k_steps
        repeat walk_at "own hid"
        exact fin.out (by assumption) (by assumption) (by assumption) ((hQ true L' _ _ _ hPo)) (by exact .seven ..)
      · intro h2 tk2 od2 kb2 M2 hd2
        first | (refine back7 hd2 (by assumption) (by assumption) hne0 kb2 M2.id ?_; clear hd2 M2 kb2 od2; intro _ _ F2 N2) | (refine back6 hd2 (by assumption) (by assumption) hne0 kb2 M2.id ?_; clear hd2 M2 kb2 od2; intro _ _ F2 N2) | (refine backO hd2 (by assumption) (by assumption) hne0 kb2 M2.id ?_; clear hd2 M2 kb2 od2; intro _ _ F2 N2)
        try dsimp only
        k_steps
        repeat walk_at "own hid"
        exact fin.out (by assumption) (by assumption) (by assumption) ((hQ true L' _ _ _ hPo)) (by exact .seven ..)
    · have hlo := lastOut_not hc rfl h1
      have hPo : CaseR ip cur cur := ⟨n, 5, hh, hn, caseOf_5 (.inr ⟨hlo, rfl⟩)⟩
      intro h2 tk2 od2 kb2 M2 hd2
      first | (refine back7 hd2 (by assumption) (by assumption) hne0 kb2 M2.id ?_; clear hd2 M2 kb2 od2; intro _ _ F2 N2) | (refine back6 hd2 (by assumption) (by assumption) hne0 kb2 M2.id ?_; clear hd2 M2 kb2 od2; intro _ _ F2 N2) | (refine backO hd2 (by assumption) (by assumption) hne0 kb2 M2.id ?_; clear hd2 M2 kb2 od2; intro _ _ F2 N2)
      try dsimp only
      k_steps
      repeat walk_at "own hid"
      exact fin.out (by assumption) (by assumption) (by assumption) ((hQ false cur _ _ _ hPo)) (by rw [← hl]; exact .seven ..)
  · have er : r = 6 := by assumption
    rw [er] at hh
    have hn0 := hp (by rw [er]; decide) (by rw [tab6_is]; decide +kernel)
    clear hr hp er
    repeat (rename r ≠ _ => hz; clear hz)
    first | with_reducible refine Halt.mk ?_ | skip
    refine out_grouping_b (room hA (by decide)) (Me.of O (by assumption) (by assumption) hne0) (.seven ..) (fun g t => t.s1) (by first | with_reducible assumption | lia) (by first | with_reducible assumption | lia) (by first | with_reducible assumption | lia) (fun h1 h2 => ?_) (fun h1 => ?_)
    · have hlo := lastOut_of hc rfl h1 h2
      intro h2 tk2 od2 kb2 M2 hd2
      first | (refine back7 hd2 (by assumption) (by assumption) hne0 kb2 M2.id ?_; clear hd2 M2 kb2 od2; intro _ _ F2 N2) | (refine back6 hd2 (by assumption) (by assumption) hne0 kb2 M2.id ?_; clear hd2 M2 kb2 od2; intro _ _ F2 N2) | (refine backO hd2 (by assumption) (by assumption) hne0 kb2 M2.id ?_; clear hd2 M2 kb2 od2; intro _ _ F2 N2)
      try dsimp only
      k_steps
      first | with_reducible refine Halt.mk ?_ | skip
      refine find_among_b (room hA (by decide)) hH (Me.of O (by assumption) (by assumption) hne0) (.seven ..) (fun g t => tat4 t) good4 (by first | with_reducible assumption | lia) (by first | with_reducible assumption | lia) (by first | with_reducible assumption | lia) (by first | with_reducible assumption | lia) (fun n2 r2 hh2 t2 => ?_)
      rw [upto_eq (n := n) hc (by lia)] at hh2
      have hany := hit_any hh2 (by rw [tab4_is]; decide +kernel)
      have hr2 := hit_res hh2 (R := [0, -1]) (by rw [tab4_is]; decide +kernel) (by decide)
      simp only [List.mem_cons, List.not_mem_nil, or_false] at hr2
      rcases hr2 with rfl | rfl
      · have hPo : CaseR ip cur (cur.take (cur.length - n) ++ [107]) := ⟨n, 6, hh, hn, caseOf_6 (.inl ⟨hlo, hany.mp rfl, rfl⟩)⟩
        intro h2 tk2 od2 kb2 M2 hd2
        first | (refine back7 hd2 (by assumption) (by assumption) hne0 kb2 M2.id ?_; clear hd2 M2 kb2 od2; intro _ _ F2 N2) | (refine back6 hd2 (by assumption) (by assumption) hne0 kb2 M2.id ?_; clear hd2 M2 kb2 od2; intro _ _ F2 N2) | (refine backO hd2 (by assumption) (by assumption) hne0 kb2 M2.id ?_; clear hd2 M2 kb2 od2; intro _ _ F2 N2)
        try dsimp only
        k_steps
        first | with_reducible refine Halt.mk ?_ | skip
        refine slice_from (sv:=[107]) (room hA (by decide)) (Me.of (ok_turn (by assumption) OH) (by assumption) (by assumption) hne0) (.seven ..) (by first | with_reducible assumption | lia) (by first | with_reducible assumption | lia) (by first | with_reducible assumption | lia) (by first | with_reducible assumption | lia) hl (by first | with_reducible assumption | lia) (by decide) ?_
        intro h2 tk2 od2 kb2 M2 hd2
        first | (refine back7 hd2 (by assumption) (by assumption) hne0 kb2 M2.id ?_; clear hd2 M2 kb2 od2; intro _ _ F2 N2) | (refine back6 hd2 (by assumption) (by assumption) hne0 kb2 M2.id ?_; clear hd2 M2 kb2 od2; intro _ _ F2 N2) | (refine backO hd2 (by assumption) (by assumption) hne0 kb2 M2.id ?_; clear hd2 M2 kb2 od2; intro _ _ F2 N2)
        try dsimp only
        k_steps
        repeat walk_at "own hid"
        exact fin.out (by assumption) (by assumption) (by assumption) ((hQ true _ _ _ _ hPo)) (by rw [← cut_eq hc, ← cut_len hc hl (by lia)]; exact .seven ..)
      · have hPo : CaseR ip cur cur := ⟨n, 6, hh, hn, caseOf_6 (.inr ⟨fun q => absurd (hany.mpr q.2) (by decide), rfl⟩)⟩
        intro h2 tk2 od2 kb2 M2 hd2
        first | (refine back7 hd2 (by assumption) (by assumption) hne0 kb2 M2.id ?_; clear hd2 M2 kb2 od2; intro _ _ F2 N2) | (refine back6 hd2 (by assumption) (by assumption) hne0 kb2 M2.id ?_; clear hd2 M2 kb2 od2; intro _ _ F2 N2) | (refine backO hd2 (by assumption) (by assumption) hne0 kb2 M2.id ?_; clear hd2 M2 kb2 od2; intro _ _ F2 N2)
        try dsimp only
        k_steps
        repeat walk_at "own hid"
        exact fin.out (by assumption) (by assumption) (by assumption) ((hQ false cur _ _ _ hPo)) (by rw [← hl]; exact .seven ..)
    · have hlo := lastOut_not hc rfl h1
      have hPo : CaseR ip cur cur := ⟨n, 6, hh, hn, caseOf_6 (.inr ⟨fun q => hlo q.1, rfl⟩)⟩
      intro h2 tk2 od2 kb2 M2 hd2
      first | (refine back7 hd2 (by assumption) (by assumption) hne0 kb2 M2.id ?_; clear hd2 M2 kb2 od2; intro _ _ F2 N2) | (refine back6 hd2 (by assumption) (by assumption) hne0 kb2 M2.id ?_; clear hd2 M2 kb2 od2; intro _ _ F2 N2) | (refine backO hd2 (by assumption) (by assumption) hne0 kb2 M2.id ?_; clear hd2 M2 kb2 od2; intro _ _ F2 N2)
      try dsimp only
      k_steps
      repeat walk_at "own hid"
      exact fin.out (by assumption) (by assumption) (by assumption) ((hQ false cur _ _ _ hPo)) (by rw [← hl]; exact .seven ..)
  · have er : r = 7 := by assumption
    rw [er] at hh
    have hn0 := hp (by rw [er]; decide) (by rw [tab6_is]; decide +kernel)
    clear hr hp er
    repeat (rename r ≠ _ => hz; clear hz)
    have hS := last_no hc rfl (show ¬ 0 < c - (n : Int) by lia)
    have hPo : CaseR ip cur cur := ⟨n, 7, hh, hn, caseOf_7 (.inr ⟨fun q => by rw [hS] at q; exact absurd q.length_le (by decide), rfl⟩)⟩
    repeat walk_at "own hid"
    exact fin.out (by assumption) (by assumption) (by assumption) ((hQ false cur _ _ _ hPo)) (by rw [← hl]; exact .seven ..)
  · have er : r = 7 := by assumption
    rw [er] at hh
    have hn0 := hp (by rw [er]; decide) (by rw [tab6_is]; decide +kernel)
    clear hr hp er
    repeat (rename r ≠ _ => hz; clear hz)
    have hS := last_at hc rfl (show 0 < c - (n : Int) by lia)
    have hb := W_ne (by assumption)
    have hPo : CaseR ip cur cur := ⟨n, 7, hh, hn, caseOf_7 (.inr ⟨fun q => by rw [suf_last hS.1, hS.2] at q; exact absurd (hb.mp q) (by decide), rfl⟩)⟩
    repeat walk_at "own hid"
    exact fin.out (by assumption) (by assumption) (by assumption) ((hQ false cur _ _ _ hPo)) (by rw [← hl]; exact .seven ..)
  · have er : r = 7 := by assumption
    rw [er] at hh
    have hn0 := hp (by rw [er]; decide) (by rw [tab6_is]; decide +kernel)
    clear hr hp er
    repeat (rename r ≠ _ => hz; clear hz)
    have hS := last_at hc rfl (show 0 < c - (n : Int) by lia)
    have hb := W_ne (by assumption)
    have hPo : CaseR ip cur ((cur.take (cur.length - n)).take ((cur.take (cur.length - n)).length - 1) ++ [328, 107]) := ⟨n, 7, hh, hn, caseOf_7 (.inl ⟨by rw [suf_last hS.1, hS.2]; exact hb.mpr rfl, rfl⟩)⟩
    first | with_reducible refine Halt.mk ?_ | skip
    refine slice_from (sv:=[328,107]) (room hA (by decide)) (Me.of O (by assumption) (by assumption) hne0) (.seven ..) (by first | with_reducible assumption | lia) (by first | with_reducible assumption | lia) (by first | with_reducible assumption | lia) (by first | with_reducible assumption | lia) hl (by first | with_reducible assumption | lia) (by decide) ?_
    intro h2 tk2 od2 kb2 M2 hd2
    first | (refine back7 hd2 (by assumption) (by assumption) hne0 kb2 M2.id ?_; clear hd2 M2 kb2 od2; intro _ _ F2 N2) | (refine back6 hd2 (by assumption) (by assumption) hne0 kb2 M2.id ?_; clear hd2 M2 kb2 od2; intro _ _ F2 N2) | (refine backO hd2 (by assumption) (by assumption) hne0 kb2 M2.id ?_; clear hd2 M2 kb2 od2; intro _ _ F2 N2)
    try dsimp only
    k_steps
    repeat walk_at "own hid"
    exact fin.out (by assumption) (by assumption) (by assumption) ((hQ true _ _ _ _ hPo)) (by rw [← cut1_eq hc, ← cut1_len hc hl (by lia)]; exact .seven ..)
  · have er : r = 8 := by assumption
    rw [er] at hh
    have hn0 := hp (by rw [er]; decide) (by rw [tab6_is]; decide +kernel)
    clear hr hp er
    repeat (rename r ≠ _ => hz; clear hz)
    first | with_reducible refine Halt.mk ?_ | skip
    refine in_grouping_b (room hA (by decide)) (Me.of O (by assumption) (by assumption) hne0) (.seven ..) (fun g t => t.s4) (by first | with_reducible assumption | lia) (by first | with_reducible assumption | lia) (by first | with_reducible assumption | lia) (fun h1 h2 => ?_) (fun h1 => ?_)
    · have hlo := lastIn_of hc rfl h1 h2
      have hPo : CaseR ip cur (cur.take (cur.length - n) ++ [110]) := ⟨n, 8, hh, hn, caseOf_8 (.inl ⟨hlo, rfl⟩)⟩
      intro h2 tk2 od2 kb2 M2 hd2
      first | (refine back7 hd2 (by assumption) (by assumption) hne0 kb2 M2.id ?_; clear hd2 M2 kb2 od2; intro _ _ F2 N2) | (refine back6 hd2 (by assumption) (by assumption) hne0 kb2 M2.id ?_; clear hd2 M2 kb2 od2; intro _ _ F2 N2) | (refine backO hd2 (by assumption) (by assumption) hne0 kb2 M2.id ?_; clear hd2 M2 kb2 od2; intro _ _ F2 N2)
      try dsimp only
      k_steps
      first | with_reducible refine Halt.mk ?_ | skip
      refine slice_from (sv:=[110]) (room hA (by decide)) (Me.of O (by assumption) (by assumption) hne0) (.seven ..) (by first | with_reducible assumption | lia) (by first | with_reducible assumption | lia) (by first | with_reducible assumption | lia) (by first | with_reducible assumption | lia) hl (by first | with_reducible assumption | lia) (by decide) ?_
      intro h2 tk2 od2 kb2 M2 hd2
      first | (refine back7 hd2 (by assumption) (by assumption) hne0 kb2 M2.id ?_; clear hd2 M2 kb2 od2; intro _ _ F2 N2) | (refine back6 hd2 (by assumption) (by assumption) hne0 kb2 M2.id ?_; clear hd2 M2 kb2 od2; intro _ _ F2 N2) | (refine backO hd2 (by assumption) (by assumption) hne0 kb2 M2.id ?_; clear hd2 M2 kb2 od2; intro _ _ F2 N2)
      try dsimp only
      k_steps
      repeat walk_at "own hid"
      exact fin.out (by assumption) (by assumption) (by assumption) ((hQ true _ _ _ _ hPo)) (by rw [← cut_eq hc, ← cut_len hc hl (by lia)]; exact .seven ..)
    · have hlo := lastIn_not hc rfl h1
      have hPo : CaseR ip cur cur := ⟨n, 8, hh, hn, caseOf_8 (.inr ⟨hlo, rfl⟩)⟩
      intro h2 tk2 od2 kb2 M2 hd2
      first | (refine back7 hd2 (by assumption) (by assumption) hne0 kb2 M2.id ?_; clear hd2 M2 kb2 od2; intro _ _ F2 N2) | (refine back6 hd2 (by assumption) (by assumption) hne0 kb2 M2.id ?_; clear hd2 M2 kb2 od2; intro _ _ F2 N2) | (refine backO hd2 (by assumption) (by assumption) hne0 kb2 M2.id ?_; clear hd2 M2 kb2 od2; intro _ _ F2 N2)
      try dsimp only
      k_steps
      repeat walk_at "own hid"
      exact fin.out (by assumption) (by assumption) (by assumption) ((hQ false cur _ _ _ hPo)) (by rw [← hl]; exact .seven ..)
  · have er : r = 9 := by assumption
    rw [er] at hh
    have hn0 := hp (by rw [er]; decide) (by rw [tab6_is]; decide +kernel)
    clear hr hp er
    repeat (rename r ≠ _ => hz; clear hz)
    first | with_reducible refine Halt.mk ?_ | skip
    refine find_among_b (room hA (by decide)) hH (Me.of O (by assumption) (by assumption) hne0) (.seven ..) (fun g t => tat5 t) good5 (by first | with_reducible assumption | lia) (by first | with_reducible assumption | lia) (by first | with_reducible assumption | lia) (by first | with_reducible assumption | lia) (fun n2 r2 hh2 t2 => ?_)
    rw [upto_eq (n := n) hc (by lia)] at hh2
    have hn2 := hit_le hh2
    rw [List.length_reverse, List.length_take] at hn2
    have hany := hit_any hh2 (by rw [tab5_is]; decide +kernel)
    have hr2 := hit_res hh2 (R := [0, -1]) (by rw [tab5_is]; decide +kernel) (by decide)
    simp only [List.mem_cons, List.not_mem_nil, or_false] at hr2
    rcases hr2 with rfl | rfl
    · have hPo : CaseR ip cur cur := ⟨n, 9, hh, hn, caseOf_9 (.inr ⟨hany.mp rfl, rfl⟩)⟩
      intro h2 tk2 od2 kb2 M2 hd2
      first | (refine back7 hd2 (by assumption) (by assumption) hne0 kb2 M2.id ?_; clear hd2 M2 kb2 od2; intro _ _ F2 N2) | (refine back6 hd2 (by assumption) (by assumption) hne0 kb2 M2.id ?_; clear hd2 M2 kb2 od2; intro _ _ F2 N2) | (refine backO hd2 (by assumption) (by assumption) hne0 kb2 M2.id ?_; clear hd2 M2 kb2 od2; intro _ _ F2 N2)
      try dsimp only
      k_steps
      repeat walk_at "own hid"
      exact fin.out (by assumption) (by assumption) (by assumption) ((hQ false cur _ _ _ hPo)) (by rw [← hl]; exact .seven ..)
    · have hPo : CaseR ip cur (cur.take (cur.length - n) ++ [116]) := ⟨n, 9, hh, hn, caseOf_9 (.inl ⟨Classical.byContradiction fun q => absurd (hany.mpr q) (by decide), rfl⟩)⟩
      intro h2 tk2 od2 kb2 M2 hd2
      first | (refine back7 hd2 (by assumption) (by assumption) hne0 kb2 M2.id ?_; clear hd2 M2 kb2 od2; intro _ _ F2 N2) | (refine back6 hd2 (by assumption) (by assumption) hne0 kb2 M2.id ?_; clear hd2 M2 kb2 od2; intro _ _ F2 N2) | (refine backO hd2 (by assumption) (by assumption) hne0 kb2 M2.id ?_; clear hd2 M2 kb2 od2; intro _ _ F2 N2)
      try dsimp only
      k_steps
      first | with_reducible refine Halt.mk ?_ | skip
      refine slice_from (sv:=[116]) (room hA (by decide)) (Me.of O (by assumption) (by assumption) hne0) (.seven ..) (by first | with_reducible assumption | lia) (by first | with_reducible assumption | lia) (by first | with_reducible assumption | lia) (by first | with_reducible assumption | lia) hl (by first | with_reducible assumption | lia) (by decide) ?_
      intro h2 tk2 od2 kb2 M2 hd2
      first | (refine back7 hd2 (by assumption) (by assumption) hne0 kb2 M2.id ?_; clear hd2 M2 kb2 od2; intro _ _ F2 N2) | (refine back6 hd2 (by assumption) (by assumption) hne0 kb2 M2.id ?_; clear hd2 M2 kb2 od2; intro _ _ F2 N2) | (refine backO hd2 (by assumption) (by assumption) hne0 kb2 M2.id ?_; clear hd2 M2 kb2 od2; intro _ _ F2 N2)
      try dsimp only
      k_steps
      repeat walk_at "own hid"
      exact fin.out (by assumption) (by assumption) (by assumption) ((hQ true _ _ _ _ hPo)) (by rw [← cut_eq hc, ← cut_len hc hl (by lia)]; exact .seven ..)
  · have er : r = 10 := by assumption
    rw [er] at hh
    have hn0 := hp (by rw [er]; decide) (by rw [tab6_is]; decide +kernel)
    clear hr hp er
    repeat (rename r ≠ _ => hz; clear hz)
    first | with_reducible refine Halt.mk ?_ | skip
    refine in_grouping_b (room hA (by decide)) (Me.of O (by assumption) (by assumption) hne0) (.seven ..) (fun g t => t.s3) (by first | with_reducible assumption | lia) (by first | with_reducible assumption | lia) (by first | with_reducible assumption | lia) (fun h1 h2 => ?_) (fun h1 => ?_)
    · have hlo := lastIn_of hc rfl h1 h2
      have hPo : CaseR ip cur (cur.take (cur.length - n) ++ [118]) := ⟨n, 10, hh, hn, caseOf_10 (.inl ⟨hlo, rfl⟩)⟩
      intro h2 tk2 od2 kb2 M2 hd2
      first | (refine back7 hd2 (by assumption) (by assumption) hne0 kb2 M2.id ?_; clear hd2 M2 kb2 od2; intro _ _ F2 N2) | (refine back6 hd2 (by assumption) (by assumption) hne0 kb2 M2.id ?_; clear hd2 M2 kb2 od2; intro _ _ F2 N2) | (refine backO hd2 (by assumption) (by assumption) hne0 kb2 M2.id ?_; clear hd2 M2 kb2 od2; intro _ _ F2 N2)
      try dsimp only
      k_steps
      first | with_reducible refine Halt.mk ?_ | skip
      refine slice_from (sv:=[118]) (room hA (by decide)) (Me.of O (by assumption) (by assumption) hne0) (.seven ..) (by first | with_reducible assumption | lia) (by first | with_reducible assumption | lia) (by first | with_reducible assumption | lia) (by first | with_reducible assumption | lia) hl (by first | with_reducible assumption | lia) (by decide) ?_
      intro h2 tk2 od2 kb2 M2 hd2
      first | (refine back7 hd2 (by assumption) (by assumption) hne0 kb2 M2.id ?_; clear hd2 M2 kb2 od2; intro _ _ F2 N2) | (refine back6 hd2 (by assumption) (by assumption) hne0 kb2 M2.id ?_; clear hd2 M2 kb2 od2; intro _ _ F2 N2) | (refine backO hd2 (by assumption) (by assumption) hne0 kb2 M2.id ?_; clear hd2 M2 kb2 od2; intro _ _ F2 N2)
      try dsimp only
      k_steps
      repeat walk_at "own hid"
      exact fin.out (by assumption) (by assumption) (by assumption) ((hQ true _ _ _ _ hPo)) (by rw [← cut_eq hc, ← cut_len hc hl (by lia)]; exact .seven ..)
    · have hlo := lastIn_not hc rfl h1
      have hPo : CaseR ip cur cur := ⟨n, 10, hh, hn, caseOf_10 (.inr ⟨hlo, rfl⟩)⟩
      intro h2 tk2 od2 kb2 M2 hd2
      first | (refine back7 hd2 (by assumption) (by assumption) hne0 kb2 M2.id ?_; clear hd2 M2 kb2 od2; intro _ _ F2 N2) | (refine back6 hd2 (by assumption) (by assumption) hne0 kb2 M2.id ?_; clear hd2 M2 kb2 od2; intro _ _ F2 N2) | (refine backO hd2 (by assumption) (by assumption) hne0 kb2 M2.id ?_; clear hd2 M2 kb2 od2; intro _ _ F2 N2)
      try dsimp only
      k_steps
      repeat walk_at "own hid"
      exact fin.out (by assumption) (by assumption) (by assumption) ((hQ false cur _ _ _ hPo)) (by rw [← hl]; exact .seven ..)
  · have er : r = 11 := by assumption
    rw [er] at hh
    have hn0 := hp (by rw [er]; decide) (by rw [tab6_is]; decide +kernel)
    clear hr hp er
    repeat (rename r ≠ _ => hz; clear hz)
    have hPo : CaseR ip cur (cur.take (cur.length - n) ++ [116]) := ⟨n, 11, hh, hn, caseOf_11 rfl⟩
    first | with_reducible refine Halt.mk ?_ | skip
    refine slice_from (sv:=[116]) (room hA (by decide)) (Me.of O (by assumption) (by assumption) hne0) (.seven ..) (by first | with_reducible assumption | lia) (by first | with_reducible assumption | lia) (by first | with_reducible assumption | lia) (by first | with_reducible assumption | lia) hl (by first | with_reducible assumption | lia) (by decide) ?_
    intro h2 tk2 od2 kb2 M2 hd2
    first | (refine back7 hd2 (by assumption) (by assumption) hne0 kb2 M2.id ?_; clear hd2 M2 kb2 od2; intro _ _ F2 N2) | (refine back6 hd2 (by assumption) (by assumption) hne0 kb2 M2.id ?_; clear hd2 M2 kb2 od2; intro _ _ F2 N2) | (refine backO hd2 (by assumption) (by assumption) hne0 kb2 M2.id ?_; clear hd2 M2 kb2 od2; intro _ _ F2 N2)
    try dsimp only
    k_steps
    repeat walk_at "own hid"
    exact fin.out (by assumption) (by assumption) (by assumption) ((hQ true _ _ _ _ hPo)) (by rw [← cut_eq hc, ← cut_len hc hl (by lia)]; exact .seven ..)
  · have er : r = 12 := last12 hr (by assumption) (by assumption) (by assumption) (by assumption) (by assumption) (by assumption) (by assumption) (by assumption) (by assumption) (by assumption) (by assumption) (by assumption) 
    rw [er] at hh
    have hn0 := hp (by rw [er]; decide) (by rw [tab6_is]; decide +kernel)
    clear hr hp er
    repeat (rename r ≠ _ => hz; clear hz)
    first | with_reducible refine Halt.mk ?_ | skip
    refine slice_del (room hA (by decide)) (Me.of O (by assumption) (by assumption) hne0) (.seven ..) (by first | with_reducible assumption | lia) (by first | with_reducible assumption | lia) (by first | with_reducible assumption | lia) (by first | with_reducible assumption | lia) hl (by first | with_reducible assumption | lia) ?_
    intro h2 tk2 od2 kb2 M2 hd2
    first | (refine back7 hd2 (by assumption) (by assumption) hne0 kb2 M2.id ?_; clear hd2 M2 kb2 od2; intro _ _ F2 N2) | (refine back6 hd2 (by assumption) (by assumption) hne0 kb2 M2.id ?_; clear hd2 M2 kb2 od2; intro _ _ F2 N2) | (refine backO hd2 (by assumption) (by assumption) hne0 kb2 M2.id ?_; clear hd2 M2 kb2 od2; intro _ _ F2 N2)
    try dsimp only
    k_steps
    have hlen := cut0_len hc hl (by lia : n ≤ cur.length)
    first | with_reducible refine Halt.mk ?_ | skip
    refine r_palatalise_i (room hA (by decide)) hH (Me.of O (by assumption) (by assumption) hne0) (.seven ..) (by first | with_reducible assumption | lia) (by first | with_reducible assumption | lia) (by first | with_reducible assumption | lia) (fun b L' c' bra' ket' hP => ?_)
    have hPo : CaseR ip cur L' := ⟨n, 12, hh, hn, caseOf_12 (by rw [cut0_eq hc] at hP; exact hP)⟩
    cases b
    · intro h2 tk2 od2 kb2 M2 hd2
      first | (refine back7 hd2 (by assumption) (by assumption) hne0 kb2 M2.id ?_; clear hd2 M2 kb2 od2; intro _ _ F2 N2) | (refine back6 hd2 (by assumption) (by assumption) hne0 kb2 M2.id ?_; clear hd2 M2 kb2 od2; intro _ _ F2 N2) | (refine backO hd2 (by assumption) (by assumption) hne0 kb2 M2.id ?_; clear hd2 M2 kb2 od2; intro _ _ F2 N2)
      try dsimp only
      k_steps
      repeat walk_at "own hid"
      exact fin.out (by assumption) (by assumption) (by assumption) ((hQ true L' _ _ _ hPo)) (by exact .seven ..)
    · intro h2 tk2 od2 kb2 M2 hd2
      first | (refine back7 hd2 (by assumption) (by assumption) hne0 kb2 M2.id ?_; clear hd2 M2 kb2 od2; intro _ _ F2 N2) | (refine back6 hd2 (by assumption) (by assumption) hne0 kb2 M2.id ?_; clear hd2 M2 kb2 od2; intro _ _ F2 N2) | (refine backO hd2 (by assumption) (by assumption) hne0 kb2 M2.id ?_; clear hd2 M2 kb2 od2; intro _ _ F2 N2)
      try dsimp only
      k_steps
      repeat walk_at "own hid"
      exact fin.out (by assumption) (by assumption) (by assumption) ((hQ true L' _ _ _ hPo)) (by exact .seven ..)
end
end
section
open PySem PySem.W PySem.Calls PyProof.Rows
set_option maxHeartbeats 4000000
local macro_rules | `(tactic| walk_at "getAttr ref") => `(tactic| ((with_reducible show wpAny _ _ (getAttr _ (Str.ofString "cursor") _) _ _ _); k_dflt (refine get_cursorO ?_)))
local macro_rules | `(tactic| walk_at "setAttr ref") => `(tactic| ((first | k_dflt (refine set_cursorO ?_) | ((with_reducible show wpAny _ _ (setAttr _ (Str.ofString "I_p1") _) _ _ _); k_dflt (refine set_I_p1O ?_))); intro _ _ _ F' N'; (try k_sweep)))
section
variable {w : World} {A : Around} {E : Value → Shared → Prop} {Q : Flow → Shared → Prop} {s : Shared} {env : Env}
/-- a while that is left by a break in its first turn -/
theorem While_once {test : Expr} {body : List Stmt} {pos : Pos}
    (turn : wpAny (model pw w) A (isTrue test env (eval test env)) (fun b s₂ =>
        if b = true then wpAny (model pw w) A (execs body env) (fun f s₃ => match f with | .brk => Q .next s₃ | _ => False) E s₂ else Q .next s₂) E s)
    (hE : PassesOwn (model pw w) A env E := by passes_own) :
    wpAny (model pw w) A (exec (.While test body [] pos) env) Q E s := by
  refine wpAny_While (codeAny_whileLoop (fun n s' => s' = s) ?_ 0 rfl)
  rintro n s' rfl
  refine wpAny_mono turn (fun b s₂ h₂ => ?_) hE
  cases b with
  | false =>
    simp only [Bool.false_eq_true, if_false] at h₂ ⊢
    exact wpAny_execs_nil h₂
  | true =>
    simp only [if_true] at h₂ ⊢
    refine wpAny_mono h₂ (fun f s₃ h₃ => ?_) hE
    cases f with
    | next => exact h₃.elim
    | cont => exact h₃.elim
    | brk => exact h₃
    | ret v => exact h₃.elim
end
noncomputable def inS (xs : List Str) (a : Nat) : Bool := xs.any fun x => decide (W [a] = x)
/-- the place of the first sound -/
noncomputable def Sound (L : List Nat) (a : Int) : Prop := (a = 0 ∧ inS gv (L.getD 0 0) = true) ∨ (inS gv (L.getD 0 0) = false ∧ 1 ≤ a ∧ (∀ k : Int, 1 ≤ k → k < a → inS gvl (L.getD k.toNat 0) = false) ∧ inS gvl (L.getD a.toNat 0) = true)
/-- the region's start that r_mark_regions finds -/
noncomputable def Mark (L : List Nat) (ip : Int) : Prop :=
  (∃ a b, Sound L a ∧ a < b ∧ b < L.length ∧ (∀ k, a < k → k < b → inS gv (L.getD k.toNat 0) = true) ∧ inS gv (L.getD b.toNat 0) = false ∧ ip = if b + 1 ≥ 3 then b + 1 else 3) ∨
  ((∃ a, Sound L a ∧ a < L.length ∧ ∀ k, a < k → k < L.length → inS gv (L.getD k.toNat 0) = true) ∧ ip = L.length) ∨
  ((inS gv (L.getD 0 0) = false ∧ ∀ k : Int, 1 ≤ k → k < L.length → inS gvl (L.getD k.toNat 0) = false) ∧ ip = L.length)
theorem mark_hit {L : List Nat} {a b ip : Int} (hs : Sound L a) (h1 : a + 1 ≤ b) (h2 : b < L.length) (h3 : ∀ k : Int, a + 1 ≤ k → k < b → inS gv (L.getD k.toNat 0) = true) (h4 : inS gv (L.getD b.toNat 0) = false)
    (hip : (b + 1 ≥ 3 ∧ ip = b + 1) ∨ (¬ b + 1 ≥ 3 ∧ ip = 3)) : Mark L ip := by
  refine .inl ⟨a, b, hs, by omega, h2, fun k q r => h3 k (by omega) r, h4, ?_⟩
  rcases hip with ⟨q, e⟩ | ⟨q, e⟩
  · rw [if_pos q]; exact e
  · rw [if_neg q]; exact e
theorem mark_all {L : List Nat} {a : Int} (hs : Sound L a) (h2 : a < L.length) (h3 : ∀ k : Int, a + 1 ≤ k → k < L.length → inS gv (L.getD k.toNat 0) = true) : Mark L L.length :=
  .inr (.inl ⟨⟨a, hs, h2, fun k q r => h3 k (by omega) r⟩, rfl⟩)
theorem mark_none {L : List Nat} (h1 : inS gv (L.getD 0 0) = false) (h3 : ∀ k : Int, 0 + 1 ≤ k → k < L.length → inS gvl (L.getD k.toNat 0) = false) : Mark L L.length :=
  .inr (.inr ⟨⟨h1, fun k q r => h3 k (by omega) r⟩, rfl⟩)
section
variable {w : World} {A : Around} {E : Value → Shared → Prop} {s : Shared} {mg mb : Str → Option Value} {H : Heap} {x dx : Addr} {od : Obj} {Q : Value → Shared → Prop}
theorem r_mark_short {cur : List Nat} {outer : List Env} {l bra ket : Int} {oip : Option Int}
    (hA : A.depth + 60 < recursionLimit) (hH : A.handled = none) (M : Me w mg mb H s.heap x dx od) (hd : IsSt w (W cur) 0 l 0 bra ket oip od)
    (hl : l = cur.length) (h3 : cur.length < 3)
    (hQ : On w mg mb H s x dx Q (.bool false) (IsSt w (W cur) 0 l 0 bra ket oip)) :
    wpAny (model pw w) A (call (.ref 242) [.ref x]) Q E s := by
  refine entryO hd M ?_; clear hd M; intro _ _ M
  refine wpAny_call ?_
  refine' enter_self [("self", .ref x)] M ?k1 ?k2 ?k3 ?k4 ?k5 ?_ ?c2 ?c3 ?c4 ?c5
  case k1 => k_is
  case k2 => k_is
  case k3 => omega
  case k4 => exact BindsTo.of_eq rfl
  case c5 => decide
  case k5 => exact locs rfl
  case c2 => exact rfl
  case c3 => exact rfl
  case c4 => exact rfl
  have hne0 := M.ne
  have hne := neN M.ne
  clear M
  intro g L' h' O KX T F' N' fin
  try dsimp only
  first | (with_reducible refine hid_all s ?_; intro _ _ _) | skip
  k_steps
  repeat walk_at "own hid"
  refine fin.out (by assumption) (by assumption) (hQ) ?_
  exact .ofO ..
theorem r_mark_regions {cur : List Nat} {outer : List Env} {l bra ket : Int} {oip : Option Int}
    (hA : A.depth + 60 < recursionLimit) (hH : A.handled = none) (D : Deep A H s.heap outer x dx) (M : Me w mg mb H s.heap x dx od) (hd : IsSt w (W cur) 0 l 0 bra ket oip od)
    (hl : l = cur.length) (h3 : 3 ≤ cur.length) (hv : cur.length ≤ 800)
    (hQ : ∀ ip, Mark cur ip → OnD w mg mb A outer H s x dx Q (.bool true) (IsSt w (W cur) 0 l 0 bra ket (some ip))) :
    wpAny (model pw w) A (call (.ref 242) [.ref x]) Q E s := by
  subst hl
  refine entryO hd M ?_; clear hd M; intro _ _ M
  refine wpAny_call ?_
  refine' enter_deep [("self", .ref x)] M D ?k1 ?k2 ?k3 ?k4 ?k5 ?_ ?c2 ?c3 ?c4 ?c5
  case k1 => k_is
  case k2 => k_is
  case k3 => omega
  case k4 => exact BindsTo.of_eq rfl
  case c5 => decide
  case k5 => exact locs rfl
  case c2 => exact rfl
  case c3 => exact rfl
  case c4 => exact rfl
  have hne0 := M.ne
  have hne := neN M.ne
  clear M D
  intro g L' h' OH KH TH O KX T K F' N' fin
  have T0 : KtsTurn (fsOf outer) g g := KtsTurn.refl
  try dsimp only
  first | (with_reducible refine hid_all s ?_; intro _ _ _) | skip
  k_steps
  first | with_reducible refine Halt.mk ?_ | skip
  refine While_once ?_
  k_steps
  first | with_reducible refine Halt.mk ?_ | skip
  refine in_grouping (room hA (by decide)) (Me.of O (by assumption) (by assumption) hne0) (.seven ..) (fun g t => t.s1) (by first | with_reducible assumption | omega) (by first | with_reducible assumption | omega) (by first | with_reducible assumption | omega) (fun h1 h2 => ?_) (fun h1 => ?_)
  · have hs : Sound cur 0 := .inl ⟨rfl, h2⟩
    intro h2 tk2 od2 kb2 M2 hd2
    first | (refine back7 hd2 (by assumption) (by assumption) hne0 kb2 M2.id ?_; clear hd2 M2 kb2 od2; intro _ _ F2 N2) | (refine back6 hd2 (by assumption) (by assumption) hne0 kb2 M2.id ?_; clear hd2 M2 kb2 od2; intro _ _ F2 N2) | (refine backO hd2 (by assumption) (by assumption) hne0 kb2 M2.id ?_; clear hd2 M2 kb2 od2; intro _ _ F2 N2)
    try dsimp only
    k_steps
    first | with_reducible refine Halt.mk ?_ | skip
    refine go_in_grouping (room hA (by decide)) (Me.of O (by assumption) (by assumption) hne0) (.seven ..) (fun g t => t.s1) (by first | with_reducible assumption | omega) (by first | with_reducible assumption | omega) (by first | with_reducible assumption | omega) (by first | with_reducible assumption | omega) (fun b hb1 hb2 hb3 hb4 => ?_) (fun hb => ?_)
    · intro h2 tk2 od2 kb2 M2 hd2
      first | (refine back7 hd2 (by assumption) (by assumption) hne0 kb2 M2.id ?_; clear hd2 M2 kb2 od2; intro _ _ F2 N2) | (refine back6 hd2 (by assumption) (by assumption) hne0 kb2 M2.id ?_; clear hd2 M2 kb2 od2; intro _ _ F2 N2) | (refine backO hd2 (by assumption) (by assumption) hne0 kb2 M2.id ?_; clear hd2 M2 kb2 od2; intro _ _ F2 N2)
      try dsimp only
      k_steps
      · repeat walk_at "own hid"
        exact fin.out (by assumption) (by assumption) (by assumption) ((hQ _ (mark_hit hs (by omega) hb2 hb3 hb4 (.inl ⟨by omega, rfl⟩)))) (by exact .seven ..)
      · repeat walk_at "own hid"
        exact fin.out (by assumption) (by assumption) (by assumption) ((hQ _ (mark_hit hs (by omega) hb2 hb3 hb4 (.inr ⟨by omega, rfl⟩)))) (by exact .seven ..)
    · intro h2 tk2 od2 kb2 M2 hd2
      first | (refine back7 hd2 (by assumption) (by assumption) hne0 kb2 M2.id ?_; clear hd2 M2 kb2 od2; intro _ _ F2 N2) | (refine back6 hd2 (by assumption) (by assumption) hne0 kb2 M2.id ?_; clear hd2 M2 kb2 od2; intro _ _ F2 N2) | (refine backO hd2 (by assumption) (by assumption) hne0 kb2 M2.id ?_; clear hd2 M2 kb2 od2; intro _ _ F2 N2)
      try dsimp only
      k_steps
      repeat walk_at "own hid"
      exact fin.out (by assumption) (by assumption) (by assumption) ((hQ _ (mark_all hs (by omega) hb))) (by exact .seven ..)
  · have hz : inS gv (cur.getD 0 0) = false := Bool.eq_false_iff.mpr fun q => h1 ⟨by omega, q⟩
    intro h2 tk2 od2 kb2 M2 hd2
    first | (refine back7 hd2 (by assumption) (by assumption) hne0 kb2 M2.id ?_; clear hd2 M2 kb2 od2; intro _ _ F2 N2) | (refine back6 hd2 (by assumption) (by assumption) hne0 kb2 M2.id ?_; clear hd2 M2 kb2 od2; intro _ _ F2 N2) | (refine backO hd2 (by assumption) (by assumption) hne0 kb2 M2.id ?_; clear hd2 M2 kb2 od2; intro _ _ F2 N2)
    try dsimp only
    k_steps
    first | with_reducible refine Halt.mk ?_ | skip
    refine go_out_grouping (room hA (by decide)) (Me.of (ok_turn (by assumption) OH) (by assumption) (by assumption) hne0) (.seven ..) (fun g t => t.s2) (by first | with_reducible assumption | omega) (by first | with_reducible assumption | omega) (by first | with_reducible assumption | omega) (by first | with_reducible assumption | omega) (fun a ha1 ha2 ha3 ha4 => ?_) (fun ha => ?_)
    · have hs : Sound cur a := .inr ⟨hz, by omega, fun k q r => ha3 k (by omega) r, ha4⟩
      intro h2 tk2 od2 kb2 M2 hd2
      first | (refine back7 hd2 (by assumption) (by assumption) hne0 kb2 M2.id ?_; clear hd2 M2 kb2 od2; intro _ _ F2 N2) | (refine back6 hd2 (by assumption) (by assumption) hne0 kb2 M2.id ?_; clear hd2 M2 kb2 od2; intro _ _ F2 N2) | (refine backO hd2 (by assumption) (by assumption) hne0 kb2 M2.id ?_; clear hd2 M2 kb2 od2; intro _ _ F2 N2)
      try dsimp only
      k_steps
      first | with_reducible refine Halt.mk ?_ | skip
      refine go_in_grouping (room hA (by decide)) (Me.of (ok_turn (by assumption) OH) (by assumption) (by assumption) hne0) (.seven ..) (fun g t => t.s1) (by first | with_reducible assumption | omega) (by first | with_reducible assumption | omega) (by first | with_reducible assumption | omega) (by first | with_reducible assumption | omega) (fun b hb1 hb2 hb3 hb4 => ?_) (fun hb => ?_)
      · intro h2 tk2 od2 kb2 M2 hd2
        first | (refine back7 hd2 (by assumption) (by assumption) hne0 kb2 M2.id ?_; clear hd2 M2 kb2 od2; intro _ _ F2 N2) | (refine back6 hd2 (by assumption) (by assumption) hne0 kb2 M2.id ?_; clear hd2 M2 kb2 od2; intro _ _ F2 N2) | (refine backO hd2 (by assumption) (by assumption) hne0 kb2 M2.id ?_; clear hd2 M2 kb2 od2; intro _ _ F2 N2)
        try dsimp only
        k_steps
        · repeat walk_at "own hid"
          exact fin.out (by assumption) (by assumption) (by assumption) ((hQ _ (mark_hit hs (by omega) hb2 hb3 hb4 (.inl ⟨by omega, rfl⟩)))) (by exact .seven ..)
      · intro h2 tk2 od2 kb2 M2 hd2
        first | (refine back7 hd2 (by assumption) (by assumption) hne0 kb2 M2.id ?_; clear hd2 M2 kb2 od2; intro _ _ F2 N2) | (refine back6 hd2 (by assumption) (by assumption) hne0 kb2 M2.id ?_; clear hd2 M2 kb2 od2; intro _ _ F2 N2) | (refine backO hd2 (by assumption) (by assumption) hne0 kb2 M2.id ?_; clear hd2 M2 kb2 od2; intro _ _ F2 N2)
        try dsimp only
        k_steps
        repeat walk_at "own hid"
        exact fin.out (by assumption) (by assumption) (by assumption) ((hQ _ (mark_all hs (by omega) hb))) (by exact .seven ..)
    · intro h2 tk2 od2 kb2 M2 hd2
      first | (refine back7 hd2 (by assumption) (by assumption) hne0 kb2 M2.id ?_; clear hd2 M2 kb2 od2; intro _ _ F2 N2) | (refine back6 hd2 (by assumption) (by assumption) hne0 kb2 M2.id ?_; clear hd2 M2 kb2 od2; intro _ _ F2 N2) | (refine backO hd2 (by assumption) (by assumption) hne0 kb2 M2.id ?_; clear hd2 M2 kb2 od2; intro _ _ F2 N2)
      try dsimp only
      k_steps
      repeat walk_at "own hid"
      exact fin.out (by assumption) (by assumption) (by assumption) ((hQ _ (mark_none hz ha))) (by exact .seven ..)
end
end
section
open PySem PySem.W PySem.Calls PyProof.Rows
set_option maxHeartbeats 4000000
section
variable {w : World} {A : Around} {E : Value → Shared → Prop} {s : Shared} {mg mb : Str → Option Value}
/-- entering a function that changes nothing -/
theorem enter_pure {R : Result → Shared → Prop} {name qual : Str} {params : Arguments} {body : List Stmt} {scope : Scope} {dV kV doc pm cdv ct oc : Value} {an od1 : Option Addr} {osl : Array (Option Value)} {f : Addr} {args : Args} (binds : List (Str × Value))
    (O : Ok w mg mb s.heap)
    (ho : (KK w.params).lookup f = some ⟨oc, od1, .func (fnOf name qual params body scope dV kV doc pm an cdv ct), osl⟩) (hcd : codeIn (KK w.params) cdv qual = true) (hroom : A.depth < recursionLimit)
    (hbind : BindsTo s (fnOf name qual params body scope dV kV doc pm an cdv ct) args binds) (hloc : ∀ y ∈ binds, scope.names.lookup y.1 = some .local)
    (h : ∀ g L' h₁, g = s.heap → Ok w mg mb g → (KK w.params).In g → TopRead (qv pw) lse mg mb g → Fr g L' h₁ (fun y => binds.reverse.lookup y) → News g L' h₁ [] →
      wpAny (model pw w) (A.deeper (envOf qual scope L' f cdv)) (execs body (envOf qual scope L' f cdv)) (fun fl s' => R (.ok (.ret (match fl with | .ret v => v | _ => .none))) s') (fun _ _ => False) { s with heap := h₁, toks := s.toks + binds.length })
    (hco : scope.isCoroutine = false) (hgen : scope.isGenerator = false) (hk : scope.kind = .function)
    (hcell : ∀ x ∈ scope.names, x.2 ≠ .cell) : codeAny (model pw w) A (.call (.ref f) args) R s := by
  refine codeAny_call_def (fd := fnOf name qual params body scope dV kV doc pm an cdv ct) (body := body) (binds := binds) hroom (O.tops.kin _ _ ho) rfl O.top.nolimit (codeRec_of O.tops.kin hcd) rfl hbind hcell hloc (fun h₁ hns hk₁ => ?_) hco hgen hk
  refine wpAny_mono (h s.heap s.heap.objs.size h₁ rfl O O.tops.kin O.top ⟨hns, hk₁, Nat.le_refl _⟩ (fun p hp => by cases hp)) (fun _ _ y => y) fun _ _ y => y.elim
theorem enter_pureC {R : Result → Shared → Prop} {name qual : Str} {params : Arguments} {body : List Stmt} {scope : Scope} {dV kV doc pm cdv ct oc : Value} {an od1 : Option Addr} {osl : Array (Option Value)} {f : Addr} {args : Args} (binds : List (Str × Value))
    (O : Ok w mg mb s.heap)
    (ho : (KK w.params).lookup f = some ⟨oc, od1, .func (fnOf name qual params body scope dV kV doc pm an cdv ct), osl⟩) (hcd : codeIn (KK w.params) cdv qual = true) (hroom : A.depth < recursionLimit)
    (hbind : BindsTo s (fnOf name qual params body scope dV kV doc pm an cdv ct) args binds) (hkind : (binds.all fun y => scope.names.lookup y.1 == some .local || scope.names.lookup y.1 == some .cell) = true)
    (hnd : ((cellsFrom 0 scope.names []).map (·.1)).Nodup)
    (h : ∀ g L' h₁ tk cells, g = s.heap → Ok w mg mb g → (KK w.params).In g → TopRead (qv pw) lse mg mb g → Fr g L' h₁ (bindL (envOfC qual scope L' f cdv).kindOf binds fun _ => none) → News g L' h₁ cells →
      CellsAre (bindC (envOfC qual scope L' f cdv).kindOf binds fun _ => none) (cellsFrom (L' + 1) scope.names []) cells →
      wpAny (model pw w) (A.deeper (envOfC qual scope L' f cdv)) (execs body (envOfC qual scope L' f cdv)) (fun fl s' => R (.ok (.ret (match fl with | .ret v => v | _ => .none))) s') (fun _ _ => False) { s with heap := h₁, toks := tk })
    (hco : scope.isCoroutine = false) (hgen : scope.isGenerator = false) (hk : scope.kind = .function) : codeAny (model pw w) A (.call (.ref f) args) R s := by
  refine codeAny_call_function hroom (O.tops.kin _ _ ho) rfl hco hgen rfl (codeRec_of O.tops.kin hcd) (hbind _ _ _ _ ?_)
  refine wpAny_newFunctionEnv_cells hk (kindsX hkind _) fun env' he s' x => ?_
  subst he
  refine ⟨O.top.nolimit.keeps x.toInCall.keep, codeAny_func ?_⟩
  obtain ⟨h₁, tk, rfl, _⟩ := x.done
  have hk₁ := x.toInCall.keep
  obtain ⟨cells, NC, Y⟩ := Cl.news (h₀ := s.heap) (Nat.le_refl _) fun n c hm => ⟨x.cell n c (lookup_of_mem_nodup (cellsFrom_names scope.names 0 (s.heap.objs.size + 1) [] [] rfl ▸ hnd) hm), x.above n c hm⟩
  refine wpAny_mono (h s.heap s.heap.objs.size h₁ tk cells rfl O O.tops.kin O.top ⟨x.toInCall.ns, hk₁, Nat.le_refl _⟩ NC Y) (fun _ _ y => y) fun _ _ y => y.elim
end
abbrev Up (h h' : Heap) : Prop := ∀ b o, h.get? b = some o → h'.get? b = some o
/-- what a function that changes nothing hands on -/
abbrev Pu (s : Shared) (Q : Value → Shared → Prop) (v : Value) : Prop := ∀ h' tk, Up s.heap h' → Q v { s with heap := h', toks := tk }
abbrev WL (h : Heap) (a : Addr) (ls : List (List Nat)) : Prop := KTD.Words h a (ls.map W)
inductive All2 {α β : Type} (R : α → β → Prop) : List α → List β → Prop
  | nil : All2 R [] []
  | cons {a b as bs} : R a b → All2 R as bs → All2 R (a :: as) (b :: bs)
theorem All2.snoc {α β : Type} {R : α → β → Prop} {as : List α} {bs : List β} {a : α} {b : β} (h : All2 R as bs) (q : R a b) : All2 R (as ++ [a]) (bs ++ [b]) := by
  induction h with
  | nil => exact .cons q .nil
  | cons x _ ih => exact .cons x ih
theorem All2.length {α β : Type} {R : α → β → Prop} {as : List α} {bs : List β} (h : All2 R as bs) : as.length = bs.length := by
  induction h with
  | nil => rfl
  | cons _ _ ih => simp [ih]
theorem strs_len : ∀ {vs : List Value} {ss : List Str}, StrsAre vs ss → vs.length = ss.length
  | _, _, .nil => rfl
  | _, _, .cons _ _ r => by simp [strs_len r]
section
open PyProof.Rows.LCt PyProof.Rows.LCg
variable {w : World} {A : Around} {s : Shared} {h₀ : Heap} {L : Addr} {m : Str → Option Value} {env : Env}
/-- the turns of a comprehension with one test, over the items xs -/
theorem rest_T {α : Type} {ct elt : Expr} {x : Str} {scope : Scope} {cl : List (Str × Addr)} {S : List (Addr × Obj) → Prop} {P : Nat → Value → Prop} {Fin : List Value → List (Addr × Obj) → Prop} {news : List (Addr × Obj)}
    (xs : List α) (p : α → Bool) (f : α → Value → Prop) (isv : α → Value → Prop) (hP : ∀ i a v, xs[i]? = some a → P i v → isv a v) (hS : S news)
    (turn : ∀ a v I oI C oC D m₂ h tk E' ys Y Z, a ∈ xs → isv a v → NsObj oC m₂ → m₂ x = some v → Fr h₀ L h m → News h₀ L h ((I, oI) :: (C, oC) :: (D, lst ys) :: news) → Off3 I C D news → ((@Ne Nat I C) ∧ (@Ne Nat I D) ∧ (@Ne Nat C D)) → S news →
      (p a = true → ∀ y, f a y → Y y news) → (p a = false → Z Value.none news) →
      wpAny (model pw w) A (isTrue ct (compEnvC scope cl C env) (eval ct (compEnvC scope cl C env))) (fun ok s' => if ok = true then
        wpAny (model pw w) A (eval elt (compEnvC scope cl C env)) (CompEnd h₀ L m { s with heap := h, toks := tk } I oI C oC D (lst ys) S Y) E' s'
        else CompEnd h₀ L m { s with heap := h, toks := tk } I oI C oC D (lst ys) S Z Value.none s') E' { s with heap := h, toks := tk })
    (fin : ∀ ys, All2 f (xs.filter p) ys → Fin ys news) :
    CompRestT pw w A h₀ L m env ct elt x scope cl s S P Fin xs.length 0 [] news := by
  have key : ∀ (k i : Nat) (ys : List Value), i + k = xs.length → All2 f ((xs.take i).filter p) ys → CompRestT pw w A h₀ L m env ct elt x scope cl s S P Fin k i ys news := by
    intro k
    induction k with
    | zero =>
      intro i ys hi ha
      refine CompRestT.zero (fin ys ?_)
      rw [List.take_of_length_le (by lia)] at ha
      exact ha
    | succ k ih =>
      intro i ys hi ha
      have hlt : i < xs.length := by lia
      have hx : xs[i]? = some xs[i] := List.getElem?_eq_getElem hlt
      refine CompRestT.succ fun v I oI C oC D m₂ h tk E' hv hC hm F N off ne => ?_
      have e : xs.take (i + 1) = xs.take i ++ [xs[i]] := by rw [List.take_succ, hx]; rfl
      refine turn xs[i] v I oI C oC D m₂ h tk E' ys _ _ (List.getElem_mem hlt) (hP i _ v hx hv) hC hm F N off ne hS (fun hp y hy => ih (i + 1) _ (by lia) ?_) (fun hp => ih (i + 1) _ (by lia) ?_)
      · rw [e, List.filter_append]
        have : [xs[i]].filter p = [xs[i]] := by simp [hp]
        rw [this]
        exact ha.snoc hy
      · rw [e, List.filter_append]
        have : [xs[i]].filter p = [] := by simp [hp]
        rw [this, List.append_nil]
        exact ha
  exact key xs.length 0 [] (by lia) .nil
end
theorem strs_get : ∀ {vs : List Value} {ss : List Str} {i : Nat} {v : Value}, StrsAre vs ss → vs[i]? = some v → ∃ x t, ss[i]? = some x ∧ v = .str x t
  | _, _, _, _, .nil, h => by simp at h
  | _, _, 0, _, .cons x t r, h => by
    simp at h
    exact ⟨x, t, rfl, h.symm⟩
  | _, _, i + 1, _, .cons x t r, h => by
    simp only [List.getElem?_cons_succ] at h ⊢
    exact strs_get r h
end
local macro_rules | `(tactic| walk_at "eval ListComp") => `(tactic| (refine Halt.out ?_))
section
open PySem PySem.W PySem.Calls PyProof.Rows
set_option maxHeartbeats 4000000
open PyProof.Rows.LCt PyProof.Rows.LCg
local macro_rules | `(tactic| walk_at "compareOp NotEq ref ref") => `(tactic| (refine Halt.out ?_))
noncomputable def anyE (t : List Nat) (es : List (List Nat)) : Bool := es.any fun e => e.isSuffixOf t
abbrev okE (e : List Nat) : Bool := e.all fun c => decide (c < 0x110000)
theorem okE_str {e : List Nat} (h : okE e = true) : PyData.strOk (W e) = true := by
  unfold PyData.strOk W
  simpa using h
theorem strs_canLay : ∀ zs : List (List Nat), zs.all okE = true → PyData.canLayAll0 (zs.map fun e => PyData.str (W e)) = true
  | [], _ => rfl
  | z :: r, h => by
    rw [List.all_cons, Bool.and_eq_true] at h
    simp only [List.map_cons, PyData.canLayAll0, PyData.canLay0, okE_str h.1, strs_canLay r h.2, Bool.and_self]
theorem strs_depth : ∀ zs : List (List Nat), PyData.depthAll (zs.map fun e => PyData.str (W e)) = 0
  | [] => rfl
  | _ :: r => by simp [PyData.depthAll, PyData.depth, strs_depth r]
theorem strs_shaped (zs : List (List Nat)) (h : zs.all okE = true) : SeqAt.shaped (.list (zs.map fun e => PyData.str (W e))) = true := by
  simp [SeqAt.shaped, PyData.canLay0, PyData.depth, strs_canLay zs h, strs_depth]
abbrev isW (e : List Nat) (y : Value) : Prop := ∃ tk, y = .str (W e) tk
theorem strs_carried {zs : List (List Nat)} {ys : List Value} (h : All2 isW zs ys) : CarriedAll ys (zs.map fun e => PyData.str (W e)) := by
  induction h with
  | nil => exact .nil
  | cons h _ ih =>
    obtain ⟨t, rfl⟩ := h
    exact .cons (.str _ t) ih
section
variable {w : World} {A : Around} {E : Value → Shared → Prop} {s : Shared} {Q : Value → Shared → Prop}
theorem ne_nil {D l : Addr} {ys : List Value} {zs : List (List Nat)} (hD : s.heap.IsList D ys.toArray) (hy : All2 isW zs ys) (hl : s.heap.IsList l ([] : List Value).toArray) (hu : A.units + 64 < cLine) (hok : zs.all okE = true)
    (h : Q (.bool (!zs.isEmpty)) s) : wpAny (model pw w) A (compareOp .NotEq (.ref D) (.ref l)) Q E s := by
  refine ne_dataH (reads_newData hD (strs_carried hy)) (reads_newData hl (.nil)) (strs_shaped _ hok) rfl hu ?_
  cases zs with
  | nil => exact h
  | cons z zs => exact h
end
theorem any_filter {t : List Nat} {es : List (List Nat)} : (!(es.filter fun e => e.isSuffixOf t).isEmpty) = anyE t es := by
  unfold anyE
  induction es with
  | nil => rfl
  | cons e es ih =>
    rw [List.filter_cons, List.any_cons]
    cases e.isSuffixOf t with
    | true => rfl
    | false => simpa using ih
section
variable {w : World} {A : Around} {E : Value → Shared → Prop} {s : Shared} {mg mb : Str → Option Value} {Q : Value → Shared → Prop}
theorem law_any {t : List Nat} {tt : Tok} {a : Addr} {es : List (List Nat)}
    (hA : A.depth + 40 < recursionLimit) (hH : A.handled = none) (hU : A.units + 200 < cLine) (O : Ok w mg mb s.heap) (hes : WL s.heap a es) (hn : es.length ≤ 1000) (ht : t.length ≤ 1000) (hl : ∀ e ∈ es, e.length ≤ 100) (hok : es.all okE = true)
    (hQ : Pu s Q (.bool (anyE t es))) :
    wpAny (model pw w) A (call (.ref 639) [.str (W t) tt, .ref a]) Q E s := by
  refine wpAny_call ?_
  refine' enter_pureC [("text", .str (W t) tt), ("ends", .ref a)] O ?k1 ?k2 ?k3 ?k4 ?k5 ?kD ?_ ?c2 ?c3 ?c4
  case k1 => k_is
  case k2 => k_is
  case k3 => lia
  case k4 => exact BindsTo.of_eq rfl
  case k5 => exact rfl
  case kD => decide +kernel
  case c2 => exact rfl
  case c3 => exact rfl
  case c4 => exact rfl
  clear O
  intro g L' h' tk' cells' hg O KX T F' N' Y'
  subst hg
  k_cells Y'
  try dsimp only
  first | (with_reducible refine hid_all s ?_; intro _ _ _) | skip
  k_steps
  first | with_reducible refine Halt.mk ?_ | skip
  refine LCt.ListComp_T (F₀ := by assumption) (by with_unfolding_all rfl) (by decide) (by rfl) (by decide) (by rfl) ?_
  k_steps
  obtain ⟨vs, hls, hva⟩ := hes
  refine LCt.CompSrcT.base (by exact hH) (by assumption) (by assumption) hls (by simp; rw [PySem.sizeLine_eq]; have := strs_len hva; rw [List.length_map] at this; lia) ?_
  intro g'
  have hlen : vs.toArray.size = es.length := by have := strs_len hva; rw [List.length_map] at this; simpa using this
  rw [hlen]
  refine rest_T es (fun e => e.isSuffixOf t) (fun e y => ∃ tk, y = .str (W e) tk) (fun e y => ∃ tk, y = .str (W e) tk) (fun i e v he hv => ?_) ?_ ?_ ?_
  · simp only [List.getElem?_toArray] at hv
    obtain ⟨x, tk, h1, h2⟩ := strs_get hva hv
    rw [List.getElem?_map, he] at h1
    cases h1
    exact ⟨tk, h2⟩
  · exact .inl hls
  · rintro e v I oI C oC D m₂ h tk E' ys Y Z hm ⟨tv, rfl⟩ hC hx F' N' off ne hS hY hZ
    have hle := hl e hm
    k_steps
    · refine LCg.CompEnd.intro (by assumption) (by assumption) _ (fun _ q => q) off hS ?_
      exact hY (by rw [← W_ends]; assumption) _ ⟨tv, rfl⟩
    · refine LCg.CompEnd.intro (by assumption) (by assumption) _ (fun _ q => q) off hS ?_
      exact hZ (by rw [← W_ends]; assumption)
  · intro ys ha
    clear F' N'
    k_steps
    first | with_reducible refine Halt.mk ?_ | skip
    rename News _ _ _ _ => N
    refine ne_nil (zs := es.filter fun e => e.isSuffixOf t) (ys := ys) ?_ ha ?_ (by show A.units + 3 + 64 < _; lia) (List.all_eq_true.mpr fun e he => List.all_eq_true.mp hok e (List.mem_filter.mp he).1) ?_
    · exact ⟨_, (N _ (.tail _ (.head _))).1, rfl, _, rfl⟩
    · exact ⟨_, (N _ (.head _)).1, rfl, _, rfl⟩
    rw [any_filter]
    repeat walk_at "own hid"
    exact hQ _ _ (Fr.keep (by assumption))
end
end
section
open PySem PySem.W PySem.Calls PyProof.Rows
set_option maxHeartbeats 4000000
theorem ofs_c : Str.ofString "c" = W [99] := by kernel_rfl
theorem ofs_inc : Str.ofString "ínc" = W [237, 110, 99] := by kernel_rfl
theorem ofs_ct : Str.ofString "čt" = W [269, 116] := by kernel_rfl
theorem ofs_st : Str.ofString "št" = W [353, 116] := by kernel_rfl
theorem ends_ge {t e : List Nat} (h : Txt.endswith (W t) (W e) = true) : e.length ≤ t.length := by
  rw [W_ends, List.isSuffixOf_iff_suffix] at h
  exact h.length_le
theorem sufs_ge {t e : List Nat} (h : e.isSuffixOf t = true) : e.length ≤ t.length := by
  rw [List.isSuffixOf_iff_suffix] at h
  exact h.length_le
theorem ends1 {t : List Nat} (h : [99].isSuffixOf t = true) : 0 ≤ (t.length : Int) - 1 := by
  have := sufs_ge h
  simp at this
  lia
theorem ends2 {t : List Nat} (h : [269, 116].isSuffixOf t = true) : 0 ≤ (t.length : Int) - 2 := by
  have := sufs_ge h
  simp at this
  lia
theorem ends3 {t : List Nat} (h : [353, 116].isSuffixOf t = true) : 0 ≤ (t.length : Int) - 2 := by
  have := sufs_ge h
  simp at this
  lia
local macro_rules | `(tactic| walk_at "subscriptTail") => `(tactic| ((with_reducible show wpAny _ _ (subscriptTail _ (PySem.Expr.Slice none (some _) none _) (Value.str (W _) _) (Value.ref _)) _ _ _); (with_reducible rename Fr _ _ _ _ => F'); (with_reducible rename News _ _ _ _ => N'); (refine x_slice_ns (s := ⟨_, _, _, _, _⟩) F' N' (by first | omega | exact ends1 (by assumption) | exact ends2 (by assumption) | exact ends3 (by assumption)) (by omega) (by omega) ?_); intro _ _ _ _ _))
theorem x_endsb {w : World} {A : Around} {E : Value → Shared → Prop} {s : Shared} {Q : Value → Shared → Prop} {x y : Str} {t u : Tok} {b : Bool} (hb : Txt.endswith x y = b) (h : Q (.bool b) s) : wpAny (model pw w) A (call (.builtin "str.endswith") [.str x t, .str y u]) Q E s := by
  subst hb; exact SC.endswith h
end
local macro_rules | `(tactic| walk_at "call builtin:str.endswith") => `(tactic| ((with_reducible show wpAny _ _ (call (Value.builtin _) [Value.str _ _, Value.str _ _]) _ _ _); (with_reducible refine x_endsb (by assumption) ?_)))
section
open PySem PySem.W PySem.Calls PyProof.Rows
set_option maxHeartbeats 4000000
local macro_rules | `(tactic| walk_at "subscriptTail") => `(tactic| ((with_reducible show wpAny _ _ (subscriptTail _ (PySem.Expr.Slice none (some _) none _) (Value.str (W _) _) (Value.ref _)) _ _ _); (with_reducible rename Fr _ _ _ _ => F'); (with_reducible rename News _ _ _ _ => N'); (refine x_slice_ns (s := ⟨_, _, _, _, _⟩) F' N' (by first | omega | exact ends1 (by assumption) | exact ends2 (by assumption) | exact ends3 (by assumption)) (by omega) (by omega) ?_); intro _ _ _ _ _))
theorem no_two {t : List Nat} {a b c : Nat} (h : [a].isSuffixOf t = true) (hn : a ≠ c) : [b, c].isSuffixOf t = false := by
  rw [Bool.eq_false_iff]
  intro q
  rw [List.isSuffixOf_iff_suffix] at h q
  obtain ⟨X, rfl⟩ := h
  obtain ⟨Y, hY⟩ := q
  have : (Y ++ [b]) ++ [c] = X ++ [a] := by simpa using hY
  have := List.append_inj' this rfl
  simp at this
  exact hn this.2.symm
theorem ofs_k : Str.ofString "k" = W [107] := by kernel_rfl
theorem ofs_ck : Str.ofString "ck" = W [99, 107] := by kernel_rfl
theorem ofs_sk : Str.ofString "sk" = W [115, 107] := by kernel_rfl
theorem x_addk {w : World} {A : Around} {E : Value → Shared → Prop} {s : Shared} {Q : Value → Shared → Prop} {l l' : List Nat} {y : Str} {t u : Tok} (e : y = W l') (hn : l.length + l'.length ≤ 100000) (h : ∀ t' k, Q (.str (W (l ++ l')) t') { s with toks := k }) : wpAny (model pw w) A (binaryOp .Add (.str (W l) t) (.str y u)) Q E s := by
  rw [e]; exact x_add hn h
local macro_rules | `(tactic| walk_at "binaryOp Add str str") => `(tactic| ((with_reducible show wpAny _ _ (binaryOp Operator.Add (Value.str (W _) _) (Value.str (Str.ofString _) _)) _ _ _); (with_reducible first | refine x_addk ofs_k (by simp only [List.length_take, List.length_cons, List.length_nil]; omega) ?_ | refine x_addk ofs_ck (by simp only [List.length_take, List.length_cons, List.length_nil]; omega) ?_ | refine x_addk ofs_sk (by simp only [List.length_take, List.length_cons, List.length_nil]; omega) ?_); intro _ _))
/-- the law's palatalisation -/
noncomputable def lawHard (t : List Nat) (narrow : Bool) : List Nat :=
  if [99].isSuffixOf t = true ∧ ([237, 110, 99].isSuffixOf t = true ∨ anyE t [[110, 99], [97, 118, 99], [111, 118, 99]] = false) then t.take (t.length - 1) ++ [107]
  else if narrow = true ∧ [269, 116].isSuffixOf t = true then t.take (t.length - 2) ++ [99, 107]
  else if narrow = true ∧ [353, 116].isSuffixOf t = true ∧ anyE t [[105, 353, 116], [237, 353, 116], [225, 353, 116], [100, 101, 353, 116], [108, 101, 353, 116], [112, 111, 117, 353, 116]] = false then t.take (t.length - 2) ++ [115, 107]
  else t
section
variable {w : World} {A : Around} {E : Value → Shared → Prop} {s : Shared} {mg mb : Str → Option Value} {Q : Value → Shared → Prop}
theorem law_hard {t : List Nat} {tt : Tok} {b : Bool}
    (hA : A.depth + 60 < recursionLimit) (hH : A.handled = none) (hU : A.units + 300 < cLine) (O : Ok w mg mb s.heap) (ht : t.length ≤ 900)
    (hQ : ∀ t', Pu s Q (.str (W (lawHard t b)) t')) :
    wpAny (model pw w) A (call (.ref 651) [.str (W t) tt, .bool b]) Q E s := by
  refine wpAny_call ?_
  refine' enter_pure [("stem", .str (W t) tt), ("narrow", .bool b)] O ?k1 ?k2 ?k3 ?k4 ?k5 ?_ ?c2 ?c3 ?c4 ?c5
  case k1 => k_is
  case k2 => k_is
  case k3 => lia
  case k4 => exact BindsTo.of_eq rfl
  case c5 => decide
  case k5 => exact locs rfl
  case c2 => exact rfl
  case c3 => exact rfl
  case c4 => exact rfl
  clear O
  intro g L' h' hg O KX T F' N'
  subst hg
  try dsimp only
  first | (with_reducible refine hid_all s ?_; intro _ _ _) | skip
  have e1 := W_ends t [99]
  have e2 := W_ends t [237, 110, 99]
  have e3 := W_ends t [269, 116]
  have e4 := W_ends t [353, 116]
  rw [← ofs_c] at e1
  rw [← ofs_inc] at e2
  rw [← ofs_ct] at e3
  rw [← ofs_st] at e4
  have hU' : A.units + 3 + 200 < cLine := by lia
  have en1 : ((t.length : Int) - 1).toNat = t.length - 1 := Int.toNat_sub t.length 1
  have en2 : ((t.length : Int) - 2).toNat = t.length - 2 := Int.toNat_sub t.length 2
  k_steps
  · have hr : lawHard t b = List.take ((t.length : Int) - 1).toNat t ++ [107] := by simp_all [lawHard]
    rw [hr] at hQ
    repeat walk_at "own hid"
    try dsimp only
    exact (hQ _) _ _ (Fr.keep (by assumption))
  · first | with_reducible refine Halt.mk ?_ | skip
    refine law_any (es := [[110, 99], [97, 118, 99], [111, 118, 99]]) (room hA (by decide)) hH hU' (O.keeps (Fr.keep (by assumption))) ⟨_, News.isList (by assumption) (by k_mem), .cons _ _ (.cons _ _ (.cons _ _ .nil))⟩ (by decide) (by lia) (by decide) (by decide) ?_
    have hc1 : [99].isSuffixOf t = true := by assumption
    have h3 : [269, 116].isSuffixOf t = false := no_two hc1 (by decide)
    have h4 : [353, 116].isSuffixOf t = false := no_two hc1 (by decide)
    rw [h3] at e3
    rw [h4] at e4
    intro h2 tk2 up2
    have F2 := Fr.keeps (by assumption) up2
    have N2 := News.grown (by assumption) up2
    clear up2
    try dsimp only
    k_steps
    · have hr : lawHard t b = t := by simp_all [lawHard]
      rw [hr] at hQ
      repeat walk_at "own hid"
      try dsimp only
      exact (hQ _) _ _ (Fr.keep (by assumption))
    · have hr : lawHard t b = t := by simp_all [lawHard]
      rw [hr] at hQ
      repeat walk_at "own hid"
      try dsimp only
      exact (hQ _) _ _ (Fr.keep (by assumption))
    · have hr : lawHard t b = List.take ((t.length : Int) - 1).toNat t ++ [107] := by simp_all [lawHard]
      rw [hr] at hQ
      repeat walk_at "own hid"
      try dsimp only
      exact (hQ _) _ _ (Fr.keep (by assumption))
  · have hr : lawHard t b = List.take ((t.length : Int) - 2).toNat t ++ [99, 107] := by simp_all [lawHard]
    rw [hr] at hQ
    repeat walk_at "own hid"
    try dsimp only
    exact (hQ _) _ _ (Fr.keep (by assumption))
  · first | with_reducible refine Halt.mk ?_ | skip
    refine law_any (es := [[105, 353, 116], [237, 353, 116], [225, 353, 116], [100, 101, 353, 116], [108, 101, 353, 116], [112, 111, 117, 353, 116]]) (room hA (by decide)) hH hU' (O.keeps (Fr.keep (by assumption))) ⟨_, News.isList (by assumption) (by k_mem), .cons _ _ (.cons _ _ (.cons _ _ (.cons _ _ (.cons _ _ (.cons _ _ .nil)))))⟩ (by decide) (by lia) (by decide) (by decide) ?_
    intro h2 tk2 up2
    have F2 := Fr.keeps (by assumption) up2
    have N2 := News.grown (by assumption) up2
    clear up2
    try dsimp only
    k_steps
    · have hr : lawHard t b = t := by simp_all [lawHard]
      rw [hr] at hQ
      repeat walk_at "own hid"
      try dsimp only
      exact (hQ _) _ _ (Fr.keep (by assumption))
    · have hr : lawHard t b = List.take ((t.length : Int) - 2).toNat t ++ [115, 107] := by simp_all [lawHard]
      rw [hr] at hQ
      repeat walk_at "own hid"
      try dsimp only
      exact (hQ _) _ _ (Fr.keep (by assumption))
  · have hr : lawHard t b = t := by simp_all [lawHard]
    rw [hr] at hQ
    repeat walk_at "own hid"
    try dsimp only
    exact (hQ _) _ _ (Fr.keep (by assumption))
  · have hr : lawHard t b = t := by simp_all [lawHard]
    rw [hr] at hQ
    repeat walk_at "own hid"
    try dsimp only
    exact (hQ _) _ _ (Fr.keep (by assumption))
end
end
section
open PySem PySem.W PySem.Calls PyProof.Rows
set_option maxHeartbeats 4000000
/-- the law's vowels -/
noncomputable def vows : List (List Nat) := [[97], [225], [101], [233], [283], [105], [237], [111], [243], [117], [250], [367], [121], [253]]
noncomputable def isVow (c : Nat) : Bool := KTD.inWords (W [c]) (vows.map W)
noncomputable def isLR (c : Nat) : Bool := [Str.ofString "l", Str.ofString "r"].any fun x => x == W [c]
noncomputable def soundAt (t : List Nat) (k : Nat) : Bool := isVow (t.getD k 0) || (decide (0 < k) && isLR (t.getD k 0))
noncomputable def closeAt (t : List Nat) (s0 k : Nat) : Bool := decide (s0 < k) && !isVow (t.getD k 0)
noncomputable def sounds (t : List Nat) : List Nat := (List.range t.length).filter (soundAt t)
noncomputable def closes (t : List Nat) : List Nat := match sounds t with
  | [] => []
  | s0 :: _ => (List.range t.length).filter (closeAt t s0)
/-- where the law's region begins -/
noncomputable def lawAhead (t : List Nat) : Nat := match closes t with
  | [] => t.length
  | c0 :: _ => max 3 (c0 + 1)
theorem range_is {n i k : Nat} {v : Value} (he : (List.range n)[i]? = some k) (hv : ∃ t, v = .int ((0 : Int) + (i : Int)) t) : ∃ tk, v = .int (k : Int) tk := by
  obtain ⟨tk, rfl⟩ := hv
  have hl : i < n := by
    have := (List.getElem?_eq_some_iff.mp he).1
    simpa using this
  rw [List.getElem?_range hl] at he
  cases he
  exact ⟨tk, by rw [Int.zero_add]⟩
theorem sound_1 {t : List Nat} {k : Nat} (h : KTD.inWords (W [t.getD ((k : Int)).toNat 0]) (vows.map W) = true) : soundAt t k = true := by
  unfold soundAt isVow
  rw [Int.toNat_natCast] at h
  rw [h]; rfl
theorem sound_2 {t : List Nat} {k : Nat} (h0 : 0 < k) (h : ([Str.ofString "l", Str.ofString "r"].any fun x => x == W [t.getD ((k : Int)).toNat 0]) = true) : soundAt t k = true := by
  unfold soundAt isLR
  rw [Int.toNat_natCast] at h
  rw [h, decide_eq_true h0]; simp
theorem sound_3 {t : List Nat} {k : Nat} (h : KTD.inWords (W [t.getD ((k : Int)).toNat 0]) (vows.map W) = false) (h2 : ([Str.ofString "l", Str.ofString "r"].any fun x => x == W [t.getD ((k : Int)).toNat 0]) = false) : soundAt t k = false := by
  unfold soundAt isLR isVow
  rw [Int.toNat_natCast] at h h2
  rw [h, h2]; simp
theorem sound_4 {t : List Nat} {k : Nat} (h : KTD.inWords (W [t.getD ((k : Int)).toNat 0]) (vows.map W) = false) (h0 : ¬ 0 < k) : soundAt t k = false := by
  unfold soundAt isVow
  rw [Int.toNat_natCast] at h
  rw [h, decide_eq_false h0]; simp
theorem ints_of {ns : List Nat} {ys : List Value} (h : All2 (fun (k : Nat) y => ∃ tk, y = Value.int (k : Int) tk) ns ys) : IntsAre ys (ns.map fun k : Nat => (k : Int)) := by
  induction h with
  | nil => exact .nil
  | cons h _ ih =>
    obtain ⟨t, rfl⟩ := h
    exact .cons _ t ih
theorem filter_none (l : List Nat) : l.filter (fun _ => false) = [] := by simp
theorem close_1 {t : List Nat} {s0 k : Nat} (h0 : (s0 : Int) < (k : Int)) (h : KTD.inWords (W [t.getD ((k : Int)).toNat 0]) (vows.map W) = false) : closeAt t s0 k = true := by
  unfold closeAt isVow
  rw [Int.toNat_natCast] at h
  rw [h, decide_eq_true (Int.ofNat_lt.mp h0)]; rfl
theorem close_2 {t : List Nat} {s0 k : Nat} (h : KTD.inWords (W [t.getD ((k : Int)).toNat 0]) (vows.map W) = true) : closeAt t s0 k = false := by
  unfold closeAt isVow
  rw [Int.toNat_natCast] at h
  rw [h]; simp
theorem close_3 {t : List Nat} {s0 k : Nat} (h0 : ¬ (s0 : Int) < (k : Int)) : closeAt t s0 k = false := by
  unfold closeAt
  rw [decide_eq_false (fun q => h0 (Int.ofNat_lt.mpr q))]; simp
section
variable {w : World} {g : Heap}
theorem wl_vows (T : Tops w g) : WL g 614 vows := ⟨_, ⟨_, T.kin _ _ (by k_is), rfl, 0, rfl⟩, .cons _ _ (.cons _ _ (.cons _ _ (.cons _ _ (.cons _ _ (.cons _ _ (.cons _ _ (.cons _ _ (.cons _ _ (.cons _ _ (.cons _ _ (.cons _ _ (.cons _ _ (.cons _ _ .nil)))))))))))))⟩
end
theorem x_max {w : World} {A : Around} {E : Value → Shared → Prop} {Q : Value → Shared → Prop} {s : Shared} {h₀ : Heap} {L : Addr} {m : Str → Option Value} {news : List (Addr × Obj)} {c : Nat} {t u : Tok} (hh : A.handled = none) (F : Fr h₀ L s.heap m) (N : News h₀ L s.heap news)
    (h : ∀ h' k t', Fr h₀ L h' m → News h₀ L h' news → Q (.int (max 3 (c + 1) : Nat) t') { s with heap := h', toks := k }) :
    wpAny (model pw w) A (call (.builtin "max") [.int 3 t, .int ((c : Int) + 1) u]) Q E s := by
  refine max_two_ints hh fun h' tk hk => ?_
  have F' := F.keeps hk
  have N' := N.keepsAll hk
  by_cases e : (3 : Int) < (c : Int) + 1
  · rw [if_pos e]
    have : ((c : Int) + 1) = (max 3 (c + 1) : Nat) := by lia
    rw [this]
    exact h h' tk u (by assumption) (by assumption)
  · rw [if_neg e]
    have : (3 : Int) = (max 3 (c + 1) : Nat) := by lia
    have q := h h' tk t (by assumption) (by assumption)
    rw [← this] at q
    exact q
local macro_rules | `(tactic| walk_at "call builtin:max") => `(tactic| ((with_reducible show wpAny _ _ (call (Value.builtin _) [_, _]) _ _ _); (refine x_max (by assumption) (by assumption) (by assumption) ?_); intro _ _ _ _ _))
theorem ne_cons_nil {w : World} {A : Around} {E : Value → Shared → Prop} {Q : Value → Shared → Prop} {s : Shared} {D l : Addr} {v : Value} {vs : List Value} {n : Int} {ns : List Int} (hI : IntsAre (v :: vs) (n :: ns)) (hD : s.heap.IsList D (v :: vs).toArray) (hl : s.heap.IsList l ([] : List Value).toArray) (hu : A.units + 64 < cLine)
    (h : Q (.bool true) s) : wpAny (model pw w) A (compareOp .NotEq (.ref D) (.ref l)) Q E s := ke_ne_ints hD hl hI .nil hu h
theorem eq_cons_nil {w : World} {A : Around} {E : Value → Shared → Prop} {Q : Value → Shared → Prop} {s : Shared} {D l : Addr} {v : Value} {vs : List Value} {n : Int} {ns : List Int} (hI : IntsAre (v :: vs) (n :: ns)) (hD : s.heap.IsList D (v :: vs).toArray) (hl : s.heap.IsList l ([] : List Value).toArray) (hu : A.units + 64 < cLine)
    (h : Q (.bool false) s) : wpAny (model pw w) A (compareOp .Eq (.ref D) (.ref l)) Q E s := ke_eq_ints hD hl hI .nil hu h
local macro_rules | `(tactic| walk_at "compareOp NotEq ref ref") => `(tactic| ((with_reducible show wpAny _ _ (compareOp CmpOp.NotEq (Value.ref _) (Value.ref _)) _ _ _); (k_dflt (refine ne_cons_nil (by assumption) (News.isList (by assumption) (by k_mem)) (News.isList (by assumption) (by k_mem)) (by assumption) ?_))))
local macro_rules | `(tactic| walk_at "compareOp Eq ref ref") => `(tactic| ((with_reducible show wpAny _ _ (compareOp CmpOp.Eq (Value.ref _) (Value.ref _)) _ _ _); (k_dflt (refine eq_cons_nil (by assumption) (News.isList (by assumption) (by k_mem)) (News.isList (by assumption) (by k_mem)) (by assumption) ?_))))
local macro_rules | `(tactic| walk_at "exec Assign cons ListComp") => `(tactic| ((with_reducible show wpAny _ _ (exec (Stmt.Assign [Expr.Name (Str.ofString "closes") _] _ _) _) _ _ _); (refine Halt.out ?_)))
local macro_rules | `(tactic| walk_at "compareOp NotIn str ref") => `(tactic| ((with_reducible show wpAny _ _ (compareOp CmpOp.NotIn (Value.str (W _) _) (Value.ref 614)) _ _ _); (refine KTD.notin_words (wl_vows (Ok.tops (by assumption))) (Fr.keep (by assumption)) ?_)))
local macro_rules | `(tactic| walk_at "compareOp In str ref") => `(tactic| ((with_reducible show wpAny _ _ (compareOp CmpOp.In (Value.str (W _) _) (Value.ref 614)) _ _ _); (refine KTD.in_words (wl_vows (Ok.tops (by assumption))) (Fr.keep (by assumption)) ?_)))
section
variable {w : World} {A : Around} {E : Value → Shared → Prop} {s : Shared} {mg mb : Str → Option Value} {Q : Value → Shared → Prop}
theorem law_ahead {t : List Nat} {tt : Tok}
    (hA : A.depth + 60 < recursionLimit) (hH : A.handled = none) (hU : A.units + 300 < cLine) (O : Ok w mg mb s.heap) (ht : t.length ≤ 900)
    (hQ : ∀ t', Pu s Q (.int (lawAhead t) t')) :
    wpAny (model pw w) A (call (.ref 644) [.str (W t) tt]) Q E s := by
  have hU' : A.units + 3 + 64 < cLine := by lia
  refine wpAny_call ?_
  refine' enter_pureC [("word", .str (W t) tt)] O ?k1 ?k2 ?k3 ?k4 ?k5 ?kD ?_ ?c2 ?c3 ?c4
  case k1 => k_is
  case k2 => k_is
  case k3 => lia
  case k4 => exact BindsTo.of_eq rfl
  case k5 => exact rfl
  case kD => decide +kernel
  case c2 => exact rfl
  case c3 => exact rfl
  case c4 => exact rfl
  clear O
  intro g L' h' tk' cells' hg O KX T F' N' Y'
  subst hg
  k_cells Y'
  try dsimp only
  first | (with_reducible refine hid_all s ?_; intro _ _ _) | skip
  k_steps
  first | with_reducible refine Halt.mk ?_ | skip
  refine LCt.ListComp_T (F₀ := by assumption) (by with_unfolding_all rfl) (by decide) (by rfl) (by decide) (by rfl) ?_
  k_steps
  refine LCt.CompSrcT.range (n := t.length) (by exact hH) (by assumption) (by assumption) (by assumption) (small_one (by lia) (by lia) (by lia) (by lia)) (by rw [rangeSize_nat]; lia) (by rw [PySem.sizeLine_eq]; lia) ?_
  intro g'
  have hxl : (List.range t.length).length = t.length := List.length_range
  rw [← hxl]
  refine rest_T (List.range t.length) (soundAt t) (fun k y => ∃ tk, y = .int (k : Int) tk) (fun k y => ∃ tk, y = .int (k : Int) tk) (fun i k v he hv => range_is he hv) trivial ?_ ?_
  · rintro k v I oI C oC D m₂ h tk E' ys Y Z hm ⟨tv, rfl⟩ hC hx F' N' off ne hS hY hZ
    have hle := List.mem_range.mp hm
    k_steps
    · refine LCg.CompEnd.intro (by assumption) (by assumption) _ (fun _ q => q) off hS ?_
      exact hY (sound_1 (by assumption)) _ ⟨tv, rfl⟩
    · refine LCg.CompEnd.intro (by assumption) (by assumption) _ (fun _ q => .tail _ q) off hS ?_
      exact hY (sound_2 (by lia) (by assumption)) _ ⟨tv, rfl⟩
    · refine LCg.CompEnd.intro (by assumption) (by assumption) _ (fun _ q => .tail _ q) off hS ?_
      exact hZ (sound_3 (by assumption) (by assumption))
    · refine LCg.CompEnd.intro (by assumption) (by assumption) _ (fun _ q => q) off hS ?_
      exact hZ (sound_4 (by assumption) (by lia))
  · intro ys ha
    rw [show (List.range t.length).filter (soundAt t) = sounds t from rfl] at ha
    generalize hso : sounds t = so at ha
    cases ha with
    | nil =>
      have hcl : closes t = [] := by unfold closes; rw [hso]
      k_steps
      first | with_reducible refine Halt.mk ?_ | skip
      refine LCt.Assign_ListComp_T (F₀ := by assumption) (by rfl) (by with_unfolding_all rfl) (by with_unfolding_all rfl) (by decide) (by rfl) (by decide) (by rfl) (by rfl) (by rfl) ?_
      k_steps
      refine LCt.CompSrcT.range (n := t.length) (by exact hH) (by assumption) (by assumption) (by assumption) (small_one (by lia) (by lia) (by lia) (by lia)) (by rw [rangeSize_nat]; lia) (by rw [PySem.sizeLine_eq]; lia) ?_
      intro g'
      rw [← hxl]
      refine rest_T (List.range t.length) (fun _ => false) (fun k y => ∃ tk, y = .int (k : Int) tk) (fun k y => ∃ tk, y = .int (k : Int) tk) (fun i k v he hv => range_is he hv) trivial ?_ ?_
      · rintro k v I oI C oC D m₂ h tk E' ys Y Z hm ⟨tv, rfl⟩ hC hx F' N' off ne hS hY hZ
        have hle := List.mem_range.mp hm
        k_steps
        refine LCg.CompEnd.intro (by assumption) (by assumption) _ (fun _ q => .tail _ q) off hS ?_
        exact hZ rfl
      · intro ys ha
        rw [filter_none] at ha
        cases ha
        have hr : (lawAhead t : Int) = t.length := by unfold lawAhead; rw [hcl]
        rw [hr] at hQ
        k_steps
        repeat walk_at "own hid"
        try dsimp only
        exact (hQ _) _ _ (Fr.keep (by assumption))
    | cons h1 h2 =>
      rename_i s0 y0 srest yrest
      obtain ⟨t1, rfl⟩ := h1
      have hcl : closes t = (List.range t.length).filter (closeAt t s0) := by unfold closes; rw [hso]
      have hIs : IntsAre (.int (s0 : Int) t1 :: yrest) ((s0 : Int) :: srest.map fun k : Nat => (k : Int)) := .cons _ _ (ints_of h2)
      k_steps
      first | with_reducible refine Halt.mk ?_ | skip
      refine LCt.Assign_ListComp_T (F₀ := by assumption) (by rfl) (by with_unfolding_all rfl) (by with_unfolding_all rfl) (by decide) (by rfl) (by decide) (by rfl) (by rfl) (by rfl) ?_
      k_steps
      refine LCt.CompSrcT.range (n := t.length) (by exact hH) (by assumption) (by assumption) (by assumption) (small_one (by lia) (by lia) (by lia) (by lia)) (by rw [rangeSize_nat]; lia) (by rw [PySem.sizeLine_eq]; lia) ?_
      intro g'
      rw [← hxl]
      refine rest_T (List.range t.length) (closeAt t s0) (fun k y => ∃ tk, y = .int (k : Int) tk) (fun k y => ∃ tk, y = .int (k : Int) tk) (fun i k v he hv => range_is he hv) trivial ?_ ?_
      · rintro k v I oI C oC D m₂ h tk E' ys Y Z hm ⟨tv, rfl⟩ hC hx F' N' off ne hS hY hZ
        have hle := List.mem_range.mp hm
        k_steps
        all_goals (refine LCg.CompEnd.intro (by assumption) (by assumption) _ (fun _ q => .tail _ q) off hS ?_)
        all_goals first
          | exact hY (close_1 (by assumption) (by assumption)) _ ⟨tv, rfl⟩
          | exact hZ (close_2 (by assumption))
          | exact hZ (close_3 (by assumption))
      · intro ys ha
        rw [← hcl] at ha
        generalize hco : closes t = co at ha
        cases ha with
        | nil =>
          have hr : (lawAhead t : Int) = t.length := by unfold lawAhead; rw [hco]
          rw [hr] at hQ
          k_steps
          repeat walk_at "own hid"
          try dsimp only
          exact (hQ _) _ _ (Fr.keep (by assumption))
        | cons q1 q2 =>
          rename_i c0 y1 crest y1rest
          obtain ⟨t2, rfl⟩ := q1
          have hIc : IntsAre (.int (c0 : Int) t2 :: y1rest) ((c0 : Int) :: crest.map fun k : Nat => (k : Int)) := .cons _ _ (ints_of q2)
          have hr : lawAhead t = max 3 (c0 + 1) := by unfold lawAhead; rw [hco]
          rw [hr] at hQ
          k_steps
          repeat walk_at "own hid"
          try dsimp only
          exact (hQ _) _ _ (Fr.keep (by assumption))
end
end
section
open PySem PySem.W PySem.Calls PyProof.Rows
set_option maxHeartbeats 4000000
theorem ofs_in : Str.ofString "in" = W [105, 110] := by kernel_rfl
end
local macro_rules | `(tactic| walk_at "subscriptTail") => `(tactic| ((with_reducible show wpAny _ _ (subscriptTail _ (PySem.Expr.Slice none (some _) none _) (Value.str (W _) _) (Value.ref _)) _ _ _); (with_reducible rename Fr _ _ _ _ => F'); (with_reducible rename News _ _ _ _ => N'); (refine x_slice_ns (s := ⟨_, _, _, _, _⟩) F' N' (by omega) (by omega) (by omega) ?_); intro _ _ _ _ _))
section
open PySem PySem.W PySem.Calls PyProof.Rows
set_option maxHeartbeats 4000000
noncomputable def lawOwner (t : List Nat) (ip : Nat) : List Nat :=
  if t.length - 2 < ip ∨ anyE t [[105, 110], [111, 118], [367, 118]] = false then t
  else if [105, 110].isSuffixOf t = true then lawHard (t.take (t.length - 2)) true else t.take (t.length - 2)
section
variable {w : World} {A : Around} {E : Value → Shared → Prop} {s : Shared} {mg mb : Str → Option Value} {Q : Value → Shared → Prop}
theorem law_owner {t : List Nat} {tt ti : Tok} {ip : Nat}
    (hA : A.depth + 70 < recursionLimit) (hH : A.handled = none) (hU : A.units + 400 < cLine) (O : Ok w mg mb s.heap) (ht : t.length ≤ 900) (h2 : 2 ≤ t.length)
    (hQ : ∀ t', Pu s Q (.str (W (lawOwner t ip)) t')) :
    wpAny (model pw w) A (call (.ref 670) [.str (W t) tt, .int ip ti]) Q E s := by
  have hU' : A.units + 3 + 300 < cLine := by omega
  have hU2 : A.units + 3 + 200 < cLine := by omega
  refine wpAny_call ?_
  refine' enter_pure [("word", .str (W t) tt), ("ahead", .int ip ti)] O ?k1 ?k2 ?k3 ?k4 ?k5 ?_ ?c2 ?c3 ?c4 ?c5
  case k1 => k_is
  case k2 => k_is
  case k3 => omega
  case k4 => exact BindsTo.of_eq rfl
  case c5 => decide
  case k5 => exact locs rfl
  case c2 => exact rfl
  case c3 => exact rfl
  case c4 => exact rfl
  clear O
  intro g L' h' hg O KX T F' N'
  subst hg
  try dsimp only
  first | (with_reducible refine hid_all s ?_; intro _ _ _) | skip
  have e1 := W_ends t [105, 110]
  rw [← ofs_in] at e1
  have en2 : ((t.length : Int) - 2).toNat = t.length - 2 := Int.toNat_sub t.length 2
  have hl : (t.take ((t.length : Int) - 2).toNat).length = t.length - 2 := by rw [List.length_take]; omega
  k_steps
  · have hr : lawOwner t ip = t := by unfold lawOwner; rw [if_pos (.inl (by omega))]
    rw [hr] at hQ
    repeat walk_at "own hid"
    try dsimp only
    exact (hQ _) _ _ (Fr.keep (by assumption))
  · first | with_reducible refine Halt.mk ?_ | skip
    refine law_any (es := [[105, 110], [111, 118], [367, 118]]) (room hA (by decide)) hH hU2 (O.keeps (Fr.keep (by assumption))) ⟨_, News.isList (by assumption) (by k_mem), .cons _ _ (.cons _ _ (.cons _ _ .nil))⟩ (by decide) (by omega) (by decide) (by decide) ?_
    have hnl : ¬ t.length - 2 < ip := by omega
    intro h2 tk2 up2
    have F2 := Fr.keeps (by assumption) up2
    have N2 := News.grown (by assumption) up2
    clear up2
    try dsimp only
    k_steps
    · first | with_reducible refine Halt.mk ?_ | skip
      have ha : anyE t [[105, 110], [111, 118], [367, 118]] = true := by assumption
      have hb : [105, 110].isSuffixOf t = true := by assumption
      have hr : lawOwner t ip = lawHard (t.take ((t.length : Int) - 2).toNat) true := by rw [en2]; simp only [lawOwner, hnl, ha, hb, false_or, if_true, Bool.true_eq_false, if_false]
      rw [hr] at hQ
      refine law_hard (room hA (by decide)) hH hU' (O.keeps (Fr.keep (by assumption))) (by omega) (fun t1 => ?_)
      intro h2 tk2 up2
      have F2 := Fr.keeps (by assumption) up2
      have N2 := News.grown (by assumption) up2
      clear up2
      try dsimp only
      k_steps
      repeat walk_at "own hid"
      try dsimp only
      exact (hQ _) _ _ (Fr.keep (by assumption))
    · have ha : anyE t [[105, 110], [111, 118], [367, 118]] = true := by assumption
      have hb : [105, 110].isSuffixOf t = false := by assumption
      have hr : lawOwner t ip = t.take ((t.length : Int) - 2).toNat := by rw [en2]; simp only [lawOwner, hnl, ha, hb, false_or, if_true, Bool.true_eq_false, if_false, Bool.false_eq_true]
      rw [hr] at hQ
      repeat walk_at "own hid"
      try dsimp only
      exact (hQ _) _ _ (Fr.keep (by assumption))
    · have hr : lawOwner t ip = t := by simp_all [lawOwner]
      rw [hr] at hQ
      repeat walk_at "own hid"
      try dsimp only
      exact (hQ _) _ _ (Fr.keep (by assumption))
end
end
section
open PySem PySem.W PySem.Calls PyProof.Rows
set_option maxHeartbeats 4000000
section
variable {w : World} {A : Around} {E : Value → Shared → Prop} {s : Shared} {env : Env} {h₀ : Heap} {target : Expr} {body : List Stmt} {Q : Flow → Shared → Prop}
/-- a for over a list that stood before the call -/
theorem iter_base {ax : Addr} {vs : List Value} {m₀ : Str → Option Value} {news : List (Addr × Obj)}
    (hh : A.handled = none) (F : Fr h₀ env.locals s.heap m₀) (N : News h₀ env.locals s.heap news) (hl₀ : h₀.IsList ax vs.toArray)
    (rest₀ : ∀ I : Addr, (∀ p ∈ news, p.1 < I) → ItemsRest pw w A E h₀ env target body Q s [(I, "list_iterator")] [] (vs.map .val) m₀ news) :
    wpAny (model pw w) A (pyIter (.ref ax)) (fun it s₂ => TurnsAt pw w A h₀ env target body Q E it s₂) E s := by
  have hl : s.heap.IsList ax vs.toArray := hl₀.at fun o e => F.keep _ o e
  obtain ⟨lo, hg, hc, n, hd⟩ := hl₀
  have hlt : ax < s.heap.objs.size := Heap.lt_size (F.keep _ _ hg)
  have hne : ax ≠ s.heap.objs.size := Nat.ne_of_lt hlt
  refine wpAny_pyIter_list hl ?_
  refine ktg_core (tk0 := s.toks) (keep := []) (KTurns.ofWalks (Walks.list hh s.heap.objs.size ax hne vs.toArray) fun i v s Q E st q => letGo_listiter st.1 q) (by simp) (fun i v h hp => ⟨.val v, ?_, rfl⟩) (fun i h st => ?_) (fun b hb => ?_) (fun b hb => by simpa using hb) (fun b hb => ?_) ?_ (fun p hp hI => ?_) ?_ (F.push _) (fun p hp => ⟨Heap.get?_push_of_some _ (N p hp).1, (N p hp).2⟩) trivial (rest₀ _ fun p hp => Heap.lt_size (N p hp).1)
  · have hp' : vs.toArray[i]? = some v := hp
    simpa using hp'
  · obtain ⟨it, hit, hic, _⟩ := st.1
    exact ⟨[(s.heap.objs.size, it)], ⟨⟨rfl, hic⟩, trivial⟩, fun p hp => by rw [List.mem_singleton.mp hp]; exact hit⟩
  · have hb' : b = s.heap.objs.size := by simpa using hb
    rw [hb']
    exact ⟨List.mem_cons_self .., next_is_new F⟩
  · have hb' : b = s.heap.objs.size ∨ b = ax := by simpa using hb
    rcases hb' with e | e
    · exact .inl (by simp [e])
    · exact .inr (.inr ⟨lo, by rw [e]; exact hg⟩)
  · intro hI
    rcases List.mem_cons.mp hI with e | hI
    · exact absurd F.ns.lt (e ▸ Nat.lt_irrefl _)
    · have e : env.locals = ax := List.mem_singleton.mp hI
      exact absurd (Heap.lt_size hg) (Nat.not_lt.mpr (e ▸ F.above))
  · exact absurd (Heap.lt_size (N p hp).1) ((List.mem_singleton.mp hI) ▸ Nat.lt_irrefl _)
  · exact ⟨⟨_, Heap.get?_push_size _ rfl, rfl, rfl⟩, hl.at fun o e => Heap.get?_push_of_some _ e⟩
/-- the turns of a for that changes local names alone -/
theorem items_loc {keep news : List (Addr × Obj)} {I : Addr} {ct : String} (ps : List (Str × Value)) (J : Nat → Prop) (vs : List Value) (hk : SubL keep news)
    (turn : ∀ i v u h tk o, vs[i]? = some v → J i → Fr h₀ env.locals h (kstB u ps) → News h₀ env.locals h ((I, o) :: news) →
      wpAny (model pw w) A (assign target env v) (fun _ s₂ => wpAny (model pw w) A (execs body env) (fun f s₃ => match f with
        | .ret v => Q (.ret v) s₃
        | .brk => Q .next s₃
        | _ => Halt (J (i + 1) ∧ ∃ h' tk' m', s₃ = { s with heap := h', toks := tk' } ∧ Fr h₀ env.locals h' m' ∧ News h₀ env.locals h' ((I, o) :: news) ∧ AllIn m' ps)) E s₂) E { s with heap := h, toks := tk })
    (hI : ∀ p ∈ news, p.1 < I)
    (done : ∀ u h tk, J vs.length → Fr h₀ env.locals h (kstB u ps) → News h₀ env.locals h news → Q .next { s with heap := h, toks := tk })
    {m : Str → Option Value} (hm : AllIn m ps) (hJ : J 0) : ItemsRest pw w A E h₀ env target body Q s [(I, ct)] keep (vs.map .val) m news := by
  have key : ∀ (k i : Nat) (m : Str → Option Value), i + k = vs.length → AllIn m ps → J i → ItemsRest pw w A E h₀ env target body Q s [(I, ct)] keep ((vs.drop i).map .val) m news := by
    intro k
    induction k with
    | zero =>
      intro i m hi ha hj
      have e : vs.drop i = [] := List.drop_eq_nil_of_le (by omega)
      rw [e]
      refine ItemsRest.zero fun h tk F N => done m h tk ?_ (fr_kst F ha) N
      have : i = vs.length := by omega
      rw [← this]; exact hj
    | succ k ih =>
      intro i m hi ha hj
      have hlt : i < vs.length := by omega
      have e : vs.drop i = vs[i] :: vs.drop (i + 1) := List.drop_eq_getElem_cons hlt
      rw [e, List.map_cons]
      refine ItemsRest.val fun h tk F o ho N => ?_
      refine wpAny_mono (turn i vs[i] m h tk o (List.getElem?_eq_getElem hlt) hj (fr_kst F ha) N) (fun _ s₂ h₂ => wpAny_mono h₂ (fun f s₃ h₃ => ?_) fun _ _ x => x) fun _ _ x => x
      have go : (J (i + 1) ∧ ∃ h' tk' m', s₃ = { s with heap := h', toks := tk' } ∧ Fr h₀ env.locals h' m' ∧ News h₀ env.locals h' ((I, o) :: news) ∧ AllIn m' ps) → UnrEndW h₀ env.locals { s with heap := h, toks := tk } [(I, o)] (fun m' n' => SubL keep n' ∧ ItemsRest pw w A E h₀ env target body Q s [(I, ct)] keep ((vs.drop (i + 1)).map .val) m' n') s₃ := by
        rintro ⟨hj', h', tk', m', rfl, F', N', ha'⟩
        refine ⟨h', tk', m', news, rfl, F', N', fun p hp q hq => ?_, hk, ih (i + 1) m' (by omega) ha' hj'⟩
        rw [List.mem_singleton.mp hq]
        exact Nat.ne_of_lt (hI p hp)
      cases f with
      | ret v => exact h₃
      | brk => exact h₃
      | next => exact go h₃
      | cont => exact go h₃
  exact key vs.length 0 m (by omega) hm hJ
end
structure FR where
  e : List Nat
  l : List Nat
  o : Bool
  es : List (List Nat)
/-- the law's fleeting endings -/
noncomputable def fleet : List FR := [⟨[101, 98], [98], false, [[116, 345]]⟩, ⟨[101, 99], [99], false, []⟩, ⟨[101, 107], [107], false, [[111, 98, 108], [115, 110], [100, 111, 116]]⟩, ⟨[283, 107], [107], true, [[110]]⟩,
  ⟨[101, 328], [110], true, [[98], [99], [269], [100], [104], [107], [112], [114], [115], [353], [116], [118], [122], [382]]⟩, ⟨[101, 116], [116], true, [[104], [269], [117, 99], [111, 107], [107, 97, 114]]⟩, ⟨[101, 118], [118], true, [[104], [107], [110], [114], [116], [122]]⟩]
noncomputable def faddr : List Addr := [621, 623, 625, 627, 629, 631, 633]
noncomputable def RowAt (g : Heap) (a : Addr) (r : FR) : Prop := ∃ b t1 t2, g.IsTuple a #[.str (W r.e) t1, .str (W r.l) t2, .bool r.o, .ref b] ∧ WL g b r.es
section
variable {w : World} {g : Heap}
theorem wl_plain (T : Tops w g) : g.IsList 634 (faddr.map Value.ref).toArray := ⟨_, T.kin _ _ (by k_is), rfl, 0, rfl⟩
theorem row_0 (T : Tops w g) : RowAt g 621 ⟨[101, 98], [98], false, [[116, 345]]⟩ := ⟨620, _, _, ⟨_, T.kin _ _ (by k_is), rfl, 0, rfl⟩, ⟨_, ⟨_, T.kin _ _ (by k_is), rfl, 0, rfl⟩, .cons _ _ .nil⟩⟩
theorem row_1 (T : Tops w g) : RowAt g 623 ⟨[101, 99], [99], false, []⟩ := ⟨622, _, _, ⟨_, T.kin _ _ (by k_is), rfl, 0, rfl⟩, ⟨_, ⟨_, T.kin _ _ (by k_is), rfl, 0, rfl⟩, .nil⟩⟩
theorem row_2 (T : Tops w g) : RowAt g 625 ⟨[101, 107], [107], false, [[111, 98, 108], [115, 110], [100, 111, 116]]⟩ := ⟨624, _, _, ⟨_, T.kin _ _ (by k_is), rfl, 0, rfl⟩, ⟨_, ⟨_, T.kin _ _ (by k_is), rfl, 0, rfl⟩, .cons _ _ (.cons _ _ (.cons _ _ .nil))⟩⟩
theorem row_3 (T : Tops w g) : RowAt g 627 ⟨[283, 107], [107], true, [[110]]⟩ := ⟨626, _, _, ⟨_, T.kin _ _ (by k_is), rfl, 0, rfl⟩, ⟨_, ⟨_, T.kin _ _ (by k_is), rfl, 0, rfl⟩, .cons _ _ .nil⟩⟩
theorem row_4 (T : Tops w g) : RowAt g 629 ⟨[101, 328], [110], true, [[98], [99], [269], [100], [104], [107], [112], [114], [115], [353], [116], [118], [122], [382]]⟩ := ⟨628, _, _, ⟨_, T.kin _ _ (by k_is), rfl, 0, rfl⟩, ⟨_, ⟨_, T.kin _ _ (by k_is), rfl, 0, rfl⟩, .cons _ _ (.cons _ _ (.cons _ _ (.cons _ _ (.cons _ _ (.cons _ _ (.cons _ _ (.cons _ _ (.cons _ _ (.cons _ _ (.cons _ _ (.cons _ _ (.cons _ _ (.cons _ _ .nil)))))))))))))⟩⟩
theorem row_5 (T : Tops w g) : RowAt g 631 ⟨[101, 116], [116], true, [[104], [269], [117, 99], [111, 107], [107, 97, 114]]⟩ := ⟨630, _, _, ⟨_, T.kin _ _ (by k_is), rfl, 0, rfl⟩, ⟨_, ⟨_, T.kin _ _ (by k_is), rfl, 0, rfl⟩, .cons _ _ (.cons _ _ (.cons _ _ (.cons _ _ (.cons _ _ .nil))))⟩⟩
theorem row_6 (T : Tops w g) : RowAt g 633 ⟨[101, 118], [118], true, [[104], [107], [110], [114], [116], [122]]⟩ := ⟨632, _, _, ⟨_, T.kin _ _ (by k_is), rfl, 0, rfl⟩, ⟨_, ⟨_, T.kin _ _ (by k_is), rfl, 0, rfl⟩, .cons _ _ (.cons _ _ (.cons _ _ (.cons _ _ (.cons _ _ (.cons _ _ .nil)))))⟩⟩
theorem row_at (T : Tops w g) : ∀ (i : Nat) (r : FR) (a : Addr), fleet[i]? = some r → faddr[i]? = some a → RowAt g a r
  | 0, _, _, h1, h2 => by cases h1; cases h2; exact row_0 T
  | 1, _, _, h1, h2 => by cases h1; cases h2; exact row_1 T
  | 2, _, _, h1, h2 => by cases h1; cases h2; exact row_2 T
  | 3, _, _, h1, h2 => by cases h1; cases h2; exact row_3 T
  | 4, _, _, h1, h2 => by cases h1; cases h2; exact row_4 T
  | 5, _, _, h1, h2 => by cases h1; cases h2; exact row_5 T
  | 6, _, _, h1, h2 => by cases h1; cases h2; exact row_6 T
  | n + 7, _, _, h1, _ => by simp [fleet] at h1
end
noncomputable def fleetOk (st en : List Nat) (r : FR) : Bool := decide (r.e = en) && !anyE st vows && (anyE st r.es == r.o)
/-- what the law does at a fleeting ending -/
noncomputable def lawFleet (wd st en : List Nat) : List Nat := match fleet.find? (fleetOk st en) with
  | some r => lawHard ((if r.e = [283, 107] then st.take (st.length - 1) ++ [328] else st) ++ r.l) false
  | none => wd
theorem weq {a b : List Nat} : (W a == W b) = decide (a = b) := by
  by_cases h : a = b
  · subst h; simp
  · have : W a ≠ W b := fun q => h (W_inj q)
    simp [h, this]
theorem ok_no1 {st en : List Nat} {r : FR} (h : (W r.e == W en) = false) : fleetOk st en r = false := by
  unfold fleetOk
  rw [← weq, h]; rfl
theorem ok_no2 {st en : List Nat} {r : FR} (h : anyE st vows = true) : fleetOk st en r = false := by
  unfold fleetOk
  rw [h]; simp
theorem ok_no3 {st en : List Nat} {r : FR} (h : (anyE st r.es == r.o) = false) : fleetOk st en r = false := by
  unfold fleetOk
  rw [h]; simp
theorem ok_yes {st en : List Nat} {r : FR} (h1 : (W r.e == W en) = true) (h2 : anyE st vows = false) (h3 : (anyE st r.es == r.o) = true) : fleetOk st en r = true := by
  unfold fleetOk
  rw [← weq, h1, h2, h3]; rfl
theorem ok_step {st en : List Nat} {i : Nat} {r : FR} (hJ : ∀ j r, j < i → fleet[j]? = some r → fleetOk st en r = false) (hr : fleet[i]? = some r) (h : fleetOk st en r = false) : ∀ j r, j < i + 1 → fleet[j]? = some r → fleetOk st en r = false := by
  intro j r' hj hr'
  by_cases q : j = i
  · subst q; rw [hr] at hr'; cases hr'; exact h
  · exact hJ j r' (by omega) hr'
theorem fleet_some {wd st en : List Nat} {i : Nat} {r : FR} (hJ : ∀ j r, j < i → fleet[j]? = some r → fleetOk st en r = false) (hr : fleet[i]? = some r) (h : fleetOk st en r = true) :
    lawFleet wd st en = lawHard ((if r.e = [283, 107] then st.take (st.length - 1) ++ [328] else st) ++ r.l) false := by
  have : fleet.find? (fleetOk st en) = some r := by
    rw [List.find?_eq_some_iff_getElem]
    obtain ⟨hi, he⟩ := List.getElem?_eq_some_iff.mp hr
    refine ⟨h, i, hi, he, fun j hj => ?_⟩
    have := hJ j fleet[j] hj (List.getElem?_eq_getElem (by omega))
    rw [this]; rfl
  unfold lawFleet
  rw [this]
theorem fleet_none {wd st en : List Nat} (hJ : ∀ j r, j < 7 → fleet[j]? = some r → fleetOk st en r = false) : lawFleet wd st en = wd := by
  have : fleet.find? (fleetOk st en) = none := by
    rw [List.find?_eq_none]
    intro r hr
    obtain ⟨j, hj, he⟩ := List.getElem_of_mem hr
    rw [hJ j r hj (by rw [List.getElem?_eq_getElem hj, he])]
    exact Bool.false_ne_true
  unfold lawFleet
  rw [this]
theorem fleet_l {i : Nat} {r : FR} (hr : fleet[i]? = some r) : r.l.length = 1 ∧ r.es.length ≤ 1000 ∧ (∀ e ∈ r.es, e.length ≤ 100) ∧ r.es.all okE = true := by
  have : r ∈ fleet := List.mem_of_getElem? hr
  have h : (fleet.all fun r => decide (r.l.length = 1) && decide (r.es.length ≤ 1000) && r.es.all (fun e => decide (e.length ≤ 100)) && r.es.all okE) = true := by decide
  have := List.all_eq_true.mp h r this
  simp only [Bool.and_eq_true, decide_eq_true_eq, List.all_eq_true] at this
  exact ⟨this.1.1.1, this.1.1.2, this.1.2, List.all_eq_true.mpr fun e he => List.all_eq_true.mpr fun c hc => decide_eq_true (this.2 e he c hc)⟩
local macro_rules | `(tactic| walk_at "binaryOp Add str str") => `(tactic| ((with_reducible show wpAny _ _ (binaryOp Operator.Add (Value.str (W _) _) (Value.str (W _) _)) _ _ _); (refine x_add (by simp only [List.length_take, List.length_append, List.length_cons, List.length_nil]; omega) ?_); intro _ _))
theorem ofs_nh : Str.ofString "ň" = W [328] := by kernel_rfl
theorem ofs_ek : Str.ofString "ěk" = W [283, 107] := by kernel_rfl
local macro_rules | `(tactic| walk_at "binaryOp Add str str") => `(tactic| ((with_reducible show wpAny _ _ (binaryOp Operator.Add (Value.str (W _) _) (Value.str (Str.ofString _) _)) _ _ _); (with_reducible refine x_addk ofs_nh (by simp only [List.length_take, List.length_cons, List.length_nil]; omega) ?_); intro _ _))
local macro_rules | `(tactic| walk_at "exec For Tuple Name cons nil") => `(tactic| (refine Halt.out ?_))
section
variable {w : World} {A : Around} {E : Value → Shared → Prop} {s : Shared} {mg mb : Str → Option Value} {Q : Value → Shared → Prop}
theorem law_fleet {wd st en : List Nat} {t1 t2 t3 : Tok}
    (hA : A.depth + 80 < recursionLimit) (hH : A.handled = none) (hU : A.units + 500 < cLine) (O : Ok w mg mb s.heap) (hw : wd.length ≤ 800) (hs1 : 1 ≤ st.length) (hs : st.length ≤ 800)
    (hQ : ∀ t', Pu s Q (.str (W (lawFleet wd st en)) t')) :
    wpAny (model pw w) A (call (.ref 658) [.str (W wd) t1, .str (W st) t2, .str (W en) t3]) Q E s := by
  have hU1 : A.units + 3 + 200 < cLine := by omega
  have hU2 : A.units + 3 + 300 < cLine := by omega
  refine wpAny_call ?_
  refine' enter_pure [("word", .str (W wd) t1), ("stem", .str (W st) t2), ("ending", .str (W en) t3)] O ?k1 ?k2 ?k3 ?k4 ?k5 ?_ ?c2 ?c3 ?c4 ?c5
  case k1 => k_is
  case k2 => k_is
  case k3 => omega
  case k4 => exact BindsTo.of_eq rfl
  case c5 => decide
  case k5 => exact locs rfl
  case c2 => exact rfl
  case c3 => exact rfl
  case c4 => exact rfl
  clear O
  intro g L' h' hg O KX T F' N'
  subst hg
  try dsimp only
  first | (with_reducible refine hid_all s ?_; intro _ _ _) | skip
  k_steps
  first | with_reducible refine Halt.mk ?_ | skip
  refine For_turns (by assumption) ?_
  k_steps
  first | with_reducible refine Halt.mk ?_ | skip
  refine iter_base (by exact hH) (by assumption) (by assumption) (wl_plain O.tops) fun I hI => ?_
  refine items_loc (keep := []) [("word", .str (W wd) t1), ("stem", .str (W st) t2), ("ending", .str (W en) t3)] (fun i => ∀ j r, j < i → fleet[j]? = some r → fleetOk st en r = false) (faddr.map Value.ref) (by trivial) ?_ hI ?_ ⟨rfl, rfl, rfl, trivial⟩ (fun j r q => absurd q (Nat.not_lt_zero _))
  · intro i v u h tk o hv hJ F N
    have hlt : i < 7 := by
      have := (List.getElem?_eq_some_iff.mp hv).1
      simpa [faddr] using this
    obtain ⟨r, hr⟩ : ∃ r, fleet[i]? = some r := ⟨fleet[i], List.getElem?_eq_getElem hlt⟩
    obtain ⟨a, ha⟩ : ∃ a, faddr[i]? = some a := ⟨faddr[i], List.getElem?_eq_getElem hlt⟩
    rw [List.getElem?_map, ha] at hv
    cases hv
    obtain ⟨b, u1, u2, hT, hW⟩ := row_at O.tops i r a hr ha
    obtain ⟨lo, hg, hc, n, hd⟩ := hT
    refine unpackN_ F N ⟨lo, F.keep _ _ hg, hc, n, hd⟩ (by exact hH) (by rfl) (by rfl) fun h1 F1 N1 => ?_
    clear F N
    obtain ⟨l1, l2, l3, l4⟩ := fleet_l hr
    k_steps
    · first | with_reducible refine Halt.mk ?_ | skip
      refine law_any (es := vows) (room hA (by decide)) hH hU1 (O.keeps (Fr.keep (by assumption))) ((wl_vows O.tops).keep (Fr.keep (by assumption))) (by decide) (by omega) (by decide) (by decide) ?_
      intro h2 tk2 up2
      have F2 := Fr.keeps (by assumption) up2
      have N2 := News.grown (by assumption) up2
      clear up2
      try dsimp only
      k_steps
      · exact Halt.mk ⟨ok_step hJ hr (ok_no2 (by assumption)), _, _, _, rfl, (by assumption), (by assumption), ⟨rfl, rfl, rfl, trivial⟩⟩
      first | with_reducible refine Halt.mk ?_ | skip
      refine law_any (es := r.es) (room hA (by decide)) hH hU1 (O.keeps (Fr.keep (by assumption))) (hW.keep (Fr.keep (by assumption))) l2 (by omega) l3 l4 ?_
      intro h2 tk2 up2
      have F2 := Fr.keeps (by assumption) up2
      have N2 := News.grown (by assumption) up2
      clear up2
      try dsimp only
      k_steps
      · first | with_reducible refine Halt.mk ?_ | skip
        have hy := fleet_some (wd := wd) hJ hr (ok_yes (by assumption) (by assumption) (by assumption))
        have he : r.e = [283, 107] := by
          have : (W r.e == Str.ofString "ěk") = true := by assumption
          rw [ofs_ek, weq] at this
          exact of_decide_eq_true this
        have en1 : ((st.length : Int) - 1).toNat = st.length - 1 := Int.toNat_sub st.length 1
        rw [if_pos he, ← en1] at hy
        rw [hy] at hQ
        refine law_hard (room hA (by decide)) hH hU2 (O.keeps (Fr.keep (by assumption))) (by simp only [List.length_take, List.length_append, List.length_cons, List.length_nil]; omega) (fun t4 => ?_)
        intro h2 tk2 up2
        have F2 := Fr.keeps (by assumption) up2
        have N2 := News.grown (by assumption) up2
        clear up2
        try dsimp only
        k_steps
        repeat walk_at "own hid"
        try dsimp only
        exact (hQ _) _ _ (Fr.keep (by assumption))
      · first | with_reducible refine Halt.mk ?_ | skip
        have hy := fleet_some (wd := wd) hJ hr (ok_yes (by assumption) (by assumption) (by assumption))
        have he : ¬ r.e = [283, 107] := by
          have : (W r.e == Str.ofString "ěk") = false := by assumption
          rw [ofs_ek, weq] at this
          exact of_decide_eq_false this
        rw [if_neg he] at hy
        rw [hy] at hQ
        refine law_hard (room hA (by decide)) hH hU2 (O.keeps (Fr.keep (by assumption))) (by simp only [List.length_take, List.length_append, List.length_cons, List.length_nil]; omega) (fun t4 => ?_)
        intro h2 tk2 up2
        have F2 := Fr.keeps (by assumption) up2
        have N2 := News.grown (by assumption) up2
        clear up2
        try dsimp only
        k_steps
        repeat walk_at "own hid"
        try dsimp only
        exact (hQ _) _ _ (Fr.keep (by assumption))
      · exact Halt.mk ⟨ok_step hJ hr (ok_no3 (by assumption)), _, _, _, rfl, (by assumption), (by assumption), ⟨rfl, rfl, rfl, trivial⟩⟩
    · exact Halt.mk ⟨ok_step hJ hr (ok_no1 (by assumption)), _, _, _, rfl, (by assumption), (by assumption), ⟨rfl, rfl, rfl, trivial⟩⟩
  · intro u h tk hJ F N
    have hr : lawFleet wd st en = wd := fleet_none hJ
    rw [hr] at hQ
    k_steps
    repeat walk_at "own hid"
    try dsimp only
    exact (hQ _) _ _ (Fr.keep (by assumption))
end
end
section
open PySem PySem.W PySem.Calls PyProof.Rows
set_option maxHeartbeats 4000000
noncomputable def lPlain : List (List Nat) := [[97], [225], [233], [283], [111], [117], [367], [121], [253], [111, 117], [117, 115], [109, 105], [225, 109], [233, 109], [283, 109], [367, 109], [253, 109], [225, 99, 104], [253, 99, 104], [233, 104, 111], [233, 109, 117], [97, 109, 97], [97, 109, 105], [283, 109, 105], [253, 109, 105], [111, 118, 233], [111, 118, 105], [97, 116], [97, 116, 97], [97, 116, 121], [97, 116, 367, 109], [97, 116, 101, 99, 104], [283, 116, 101], [283, 116, 105], [283, 116, 101, 109]]
noncomputable def lE : List (List Nat) := [[101], [101, 109], [101, 109, 105], [101, 99, 104]]
noncomputable def lI : List (List Nat) := [[105], [237], [237, 109], [237, 109, 105], [237, 99, 104], [237, 104, 111], [237, 109, 117]]
noncomputable def lT : List (List Nat) := [[357], [357, 109, 105]]
noncomputable def lY : List (List Nat) := [[101, 116, 101], [101, 116, 105], [101, 116, 101, 109]]
noncomputable def fends : List (List Nat) := fleet.map (·.e)
noncomputable def allEnds : List (List Nat) := lPlain ++ lE ++ lI ++ lT ++ lY ++ fends
noncomputable def inW (e : List Nat) (ls : List (List Nat)) : Bool := KTD.inWords (W e) (ls.map W)
noncomputable def bareB (st : List Nat) : Bool := anyE st [[108], [115], [269], [345], [382]] && !anyE st [[116, 108], [101, 115], [101, 269]]
/-- the law at the ending en behind the stem st of the word wd -/
noncomputable def lawEnd (wd st en : List Nat) : List Nat :=
  if inW en lE = true then lawHard st false
  else if inW en lI = true then lawHard st true
  else if inW en lT = true then st ++ [116]
  else if inW en lY = true then (if bareB st = true then st else st ++ [101, 116])
  else if inW en lPlain = true then st
  else lawFleet wd st en
noncomputable def foundIn (t : List Nat) (ip : Nat) : List (List Nat) := allEnds.filter fun e => e.isSuffixOf (t.drop ip)
noncomputable def maxLen : List (List Nat) → Nat
  | [] => 0
  | e :: r => max e.length (maxLen r)
noncomputable def lawCase (t : List Nat) (ip : Nat) : List Nat := match foundIn t ip with
  | [] => t
  | e :: r => lawEnd t (t.take (t.length - maxLen (e :: r))) (t.drop (t.length - maxLen (e :: r)))
section
variable {w : World} {g : Heap}
theorem wl_lPlain (T : Tops w g) : WL g 615 lPlain := ⟨_, ⟨_, T.kin _ _ (by k_is), rfl, 0, rfl⟩, .cons _ _ (.cons _ _ (.cons _ _ (.cons _ _ (.cons _ _ (.cons _ _ (.cons _ _ (.cons _ _ (.cons _ _ (.cons _ _ (.cons _ _ (.cons _ _ (.cons _ _ (.cons _ _ (.cons _ _ (.cons _ _ (.cons _ _ (.cons _ _ (.cons _ _ (.cons _ _ (.cons _ _ (.cons _ _ (.cons _ _ (.cons _ _ (.cons _ _ (.cons _ _ (.cons _ _ (.cons _ _ (.cons _ _ (.cons _ _ (.cons _ _ (.cons _ _ (.cons _ _ (.cons _ _ (.cons _ _ .nil))))))))))))))))))))))))))))))))))⟩
theorem wl_lE (T : Tops w g) : WL g 616 lE := ⟨_, ⟨_, T.kin _ _ (by k_is), rfl, 0, rfl⟩, .cons _ _ (.cons _ _ (.cons _ _ (.cons _ _ .nil)))⟩
theorem wl_lI (T : Tops w g) : WL g 617 lI := ⟨_, ⟨_, T.kin _ _ (by k_is), rfl, 0, rfl⟩, .cons _ _ (.cons _ _ (.cons _ _ (.cons _ _ (.cons _ _ (.cons _ _ (.cons _ _ .nil))))))⟩
theorem wl_lT (T : Tops w g) : WL g 618 lT := ⟨_, ⟨_, T.kin _ _ (by k_is), rfl, 0, rfl⟩, .cons _ _ (.cons _ _ .nil)⟩
theorem wl_lY (T : Tops w g) : WL g 619 lY := ⟨_, ⟨_, T.kin _ _ (by k_is), rfl, 0, rfl⟩, .cons _ _ (.cons _ _ (.cons _ _ .nil))⟩
end
theorem strs_app : ∀ {vs ws : List Value} {xs ys : List Str}, StrsAre vs xs → StrsAre ws ys → StrsAre (vs ++ ws) (xs ++ ys)
  | _, _, _, _, .nil, h => h
  | _, _, _, _, .cons y t r, h => .cons y t (strs_app r h)
abbrev lst0 (vs : List Value) : Obj := { cls := .type "list", data := .seq vs.toArray }
theorem add_wl {w : World} {A : Around} {E : Value → Shared → Prop} {s : Shared} {Q : Value → Shared → Prop} {h₀ : Heap} {L : Addr} {m : Str → Option Value} {news : List (Addr × Obj)} {l b : Addr} {xs ys : List (List Nat)}
    (F : Fr h₀ L s.heap m) (N : News h₀ L s.heap news) (hx : WL s.heap l xs) (hy : WL s.heap b ys) (hn : xs.length + ys.length ≤ 1000)
    (h : ∀ h' vs D, Fr h₀ L h' m → News h₀ L h' ((D, lst0 vs) :: news) → StrsAre vs ((xs ++ ys).map W) → Q (.ref D) { s with heap := h' }) :
    wpAny (model pw w) A (binaryOp .Add (.ref l) (.ref b)) Q E s := by
  obtain ⟨vs, h1, h2⟩ := hx
  obtain ⟨ws, h3, h4⟩ := hy
  have l1 := strs_len h2
  have l2 := strs_len h4
  rw [List.length_map] at l1 l2
  refine add_lists F N h1 h3 (fun h' F' N' => h h' (vs ++ ws) _ F' N' ?_) (by rw [PySem.sizeLine_eq]; lia)
  rw [List.map_append]
  exact strs_app h2 h4
section
open PyProof.Rows.LCg
variable {w : World} {A : Around} {s : Shared} {h₀ : Heap} {L : Addr} {m : Str → Option Value} {env : Env}
/-- the turns of a comprehension without a test, over the items xs -/
theorem rest_U {α : Type} {elt : Expr} {x : Str} {scope : Scope} {cl : List (Str × Addr)} {S : List (Addr × Obj) → Prop} {P : Nat → Value → Prop} {Fin : List Value → List (Addr × Obj) → Prop} {news : List (Addr × Obj)}
    (xs : List α) (f : α → Value → Prop) (isv : α → Value → Prop) (hP : ∀ i a v, xs[i]? = some a → P i v → isv a v) (hS : S news)
    (turn : ∀ a v I oI C oC D m₂ h tk E' ys Y, a ∈ xs → isv a v → NsObj oC m₂ → m₂ x = some v → Fr h₀ L h m → News h₀ L h ((I, oI) :: (C, oC) :: (D, lst ys) :: news) → Off3 I C D news → ((@Ne Nat I C) ∧ (@Ne Nat I D) ∧ (@Ne Nat C D)) → S news →
      (∀ y, f a y → Y y news) →
      wpAny (model pw w) A (eval elt (compEnvC scope cl C env)) (CompEnd h₀ L m { s with heap := h, toks := tk } I oI C oC D (lst ys) S Y) E' { s with heap := h, toks := tk })
    (fin : ∀ ys, All2 f xs ys → Fin ys news) :
    CompRest pw w A h₀ L m env elt x scope cl s S P Fin xs.length 0 [] news := by
  have key : ∀ (k i : Nat) (ys : List Value), i + k = xs.length → All2 f (xs.take i) ys → CompRest pw w A h₀ L m env elt x scope cl s S P Fin k i ys news := by
    intro k
    induction k with
    | zero =>
      intro i ys hi ha
      refine CompRest.zero (fin ys ?_)
      rw [List.take_of_length_le (by lia)] at ha
      exact ha
    | succ k ih =>
      intro i ys hi ha
      have hlt : i < xs.length := by lia
      have hx : xs[i]? = some xs[i] := List.getElem?_eq_getElem hlt
      refine CompRest.succ fun v I oI C oC D m₂ h tk E' hv hC hm F N off ne => ?_
      have e : xs.take (i + 1) = xs.take i ++ [xs[i]] := by rw [List.take_add_one, hx]; rfl
      refine turn xs[i] v I oI C oC D m₂ h tk E' ys _ (List.getElem_mem hlt) (hP i _ v hx hv) hC hm F N off ne hS (fun y hy => ih (i + 1) _ (by lia) ?_)
      rw [e]
      exact ha.snoc hy
  exact key xs.length 0 [] (by lia) .nil
end
theorem All2.map_left {α β γ : Type} {R : β → γ → Prop} {f : α → β} {as : List α} {cs : List γ} (h : All2 (fun a c => R (f a) c) as cs) : All2 R (as.map f) cs := by
  induction h with
  | nil => exact .nil
  | cons h _ ih => exact .cons h ih
theorem all2_strs {zs : List (List Nat)} {ys : List Value} (h : All2 isW zs ys) : StrsAre ys (zs.map W) := by
  induction h with
  | nil => exact .nil
  | cons h _ ih =>
    obtain ⟨t, rfl⟩ := h
    exact .cons _ t ih
theorem eq_nil_s {w : World} {A : Around} {E : Value → Shared → Prop} {s : Shared} {Q : Value → Shared → Prop} {D l : Addr} {ys : List Value} {zs : List (List Nat)} (hD : s.heap.IsList D ys.toArray) (hy : All2 isW zs ys) (hl : s.heap.IsList l ([] : List Value).toArray) (hu : A.units + 64 < cLine) (hok : zs.all okE = true)
    (h : Q (.bool zs.isEmpty) s) : wpAny (model pw w) A (compareOp .Eq (.ref D) (.ref l)) Q E s := by
  refine eq_dataH (reads_newData hD (strs_carried hy)) (reads_newData hl (.nil)) (strs_shaped _ hok) rfl hu ?_
  cases zs with
  | nil => exact h
  | cons z zs => exact h
theorem lens_of {ns : List (List Nat)} {ys : List Value} (h : All2 (fun (e : List Nat) y => ∃ tk, y = Value.int (e.length : Int) tk) ns ys) : IntsAre ys (ns.map fun e : List Nat => (e.length : Int)) := by
  induction h with
  | nil => exact .nil
  | cons h _ ih =>
    obtain ⟨t, rfl⟩ := h
    exact .cons _ t ih
theorem maxLen_le {n : Nat} : ∀ {l : List (List Nat)}, (∀ e ∈ l, e.length ≤ n) → maxLen l ≤ n
  | [], _ => Nat.zero_le _
  | e :: r, h => by
    unfold maxLen
    have := maxLen_le (l := r) fun e he => h e (.tail _ he)
    have := h e (.head _)
    lia
theorem le_maxLen : ∀ {l : List (List Nat)} {e : List Nat}, e ∈ l → e.length ≤ maxLen l
  | e :: r, _, .head _ => by unfold maxLen; lia
  | e :: r, e', .tail _ h => by
    have := le_maxLen h
    unfold maxLen; lia
theorem maxLen_is {l : List (List Nat)} {M : Int} (h1 : M ∈ l.map fun e : List Nat => (e.length : Int)) (h2 : ∀ a, a ∈ (l.map fun e : List Nat => (e.length : Int)) → a ≤ M) : M = (maxLen l : Nat) := by
  obtain ⟨e, he, rfl⟩ := List.mem_map.mp h1
  have := le_maxLen he
  have : maxLen l ≤ e.length := maxLen_le fun e' he' => by
    have h3 : (e'.length : Int) ≤ (e.length : Int) := h2 _ (List.mem_map_of_mem (f := fun e : List Nat => (e.length : Int)) he')
    lia
  lia
theorem eq_cons_s {w : World} {A : Around} {E : Value → Shared → Prop} {s : Shared} {Q : Value → Shared → Prop} {D l : Addr} {ys : List Value} {z : List Nat} {zs : List (List Nat)} (hD : s.heap.IsList D ys.toArray) (hy : All2 isW (z :: zs) ys) (hl : s.heap.IsList l ([] : List Value).toArray) (hu : A.units + 64 < cLine) (hok : (z :: zs).all okE = true)
    (h : Q (.bool false) s) : wpAny (model pw w) A (compareOp .Eq (.ref D) (.ref l)) Q E s := eq_nil_s hD hy hl hu hok h
theorem eq_nil_n {w : World} {A : Around} {E : Value → Shared → Prop} {s : Shared} {Q : Value → Shared → Prop} {D l : Addr} (hD : s.heap.IsList D ([] : List Value).toArray) (hl : s.heap.IsList l ([] : List Value).toArray) (hu : A.units + 64 < cLine)
    (h : Q (.bool true) s) : wpAny (model pw w) A (compareOp .Eq (.ref D) (.ref l)) Q E s := eq_nil_s (zs := []) hD .nil hl hu rfl h
local macro_rules | `(tactic| walk_at "compareOp Eq ref ref") => `(tactic| (refine Halt.out ?_))
local macro_rules | `(tactic| walk_at "call builtin:max") => `(tactic| (refine Halt.out ?_))
theorem nameG_B {M : Model} {A : Around} {E : Value → Shared → Prop} {s : Shared} {h₀ : Heap} {L : Addr} {m : Str → Option Value} {env : Env} {K : Frag} {mg mb : Str → Option Value} {p : Program} {loose : List Str} {x : Str} {pos : Pos} {v : Value} {Q : Value → Shared → Prop} (F : Fr h₀ L s.heap m) (X : K.In h₀) (T : TopRead p loose mg mb h₀)
    (e : nsIn K mainGlobals x = some none) (hv : bootBuiltins x = some v) (hn : x ≠ "__name__") (h : Q v s) (hg : env.globals = mainGlobals) (hb : env.builtins = builtinsNs) (hk : env.scope.kind = .function) (hx : env.kindOf x = some .globalImplicit) (hd : (x == ("__debug__" : Str)) = false) :
    wpAny M A (eval (.Name x pos) env) Q E s :=
  Name_function_global hk hx (loadGlobal_builtin (env := env) (by rw [hg]; exact T.g.keeps F.keep) (mg_none_of X T.g e) (by rw [hb]; exact T.b.keeps F.keep) ((T.builtins x hn).trans hv) h) hd
local macro_rules | `(tactic| walk_at "eval Name") => `(tactic| ((with_reducible show wpAny _ _ (eval (Expr.Name (Str.ofString "len") _) (compEnvC _ _ _ _)) _ _ _); (k_dflt (refine' nameG_B ?kF ?k1 ?k2 ?k3 ?k4 ?k5 ?_ ?k6 ?k7 ?k8 ?k9 ?k10; (case kF => assumption); (case k1 => assumption); (case k2 => assumption); (case k3 => k_is); (case k4 => boot_by_name); (case k5 => decide); (case k6 => rfl); (case k7 => rfl); (case k8 => rfl); (case k9 => rfl); (case k10 => decide)))))
theorem in_wl {w : World} {A : Around} {E : Value → Shared → Prop} {s : Shared} {Q : Value → Shared → Prop} {h₀ : Heap} {L a : Addr} {m : Str → Option Value} {e : List Nat} {tk : Tok} {ls : List (List Nat)} (F : Fr h₀ L s.heap m) (hy : WL h₀ a ls) (h : Q (.bool (inW e ls)) s) :
    wpAny (model pw w) A (compareOp .In (.str (W e) tk) (.ref a)) Q E s := KTD.in_words hy F.keep h
local macro_rules | `(tactic| walk_at "compareOp In str ref") => `(tactic| ((with_reducible show wpAny _ _ (compareOp CmpOp.In (Value.str (W _) _) (Value.ref _)) _ _ _); (with_reducible first | refine in_wl (by assumption) (wl_lE (Ok.tops (by assumption))) ?_ | refine in_wl (by assumption) (wl_lI (Ok.tops (by assumption))) ?_ | refine in_wl (by assumption) (wl_lT (Ok.tops (by assumption))) ?_ | refine in_wl (by assumption) (wl_lY (Ok.tops (by assumption))) ?_ | refine in_wl (by assumption) (wl_lPlain (Ok.tops (by assumption))) ?_)))
theorem ne_true_of_eq_false {b : Bool} (h : b = false) : ¬ b = true := by rw [h]; exact Bool.false_ne_true
theorem ofs_t : Str.ofString "t" = W [116] := by kernel_rfl
theorem ofs_et : Str.ofString "et" = W [101, 116] := by kernel_rfl
local macro_rules | `(tactic| walk_at "binaryOp Add str str") => `(tactic| ((with_reducible show wpAny _ _ (binaryOp Operator.Add (Value.str (W _) _) (Value.str (Str.ofString _) _)) _ _ _); (with_reducible first | refine x_addk ofs_t (by first | (simp only [List.length_cons, List.length_nil]; omega) | (simp only [List.length_take, List.length_cons, List.length_nil]; omega)) ?_ | refine x_addk ofs_et (by first | (simp only [List.length_cons, List.length_nil]; omega) | (simp only [List.length_take, List.length_cons, List.length_nil]; omega)) ?_); intro _ _))
local macro_rules | `(tactic| walk_at "exec Assign cons ListComp") => `(tactic| (refine Halt.out ?_))
local macro_rules | `(tactic| walk_at "binaryOp Add ref ref") => `(tactic| (refine Halt.out ?_))
section
variable {w : World} {A : Around} {E : Value → Shared → Prop} {s : Shared} {mg mb : Str → Option Value} {Q : Value → Shared → Prop}
theorem law_case {t : List Nat} {t1 t2 : Tok} {ip : Nat}
    (hA : A.depth + 90 < recursionLimit) (hH : A.handled = none) (hU : A.units + 600 < cLine) (O : Ok w mg mb s.heap) (hw : t.length ≤ 700) (hip : ip ≤ t.length) (hip3 : ip < t.length → 3 ≤ ip)
    (hQ : ∀ t', Pu s Q (.str (W (lawCase t ip)) t')) :
    wpAny (model pw w) A (call (.ref 663) [.str (W t) t1, .int ip t2]) Q E s := by
  have hU1 : A.units + 3 + 200 < cLine := by lia
  have hU2 : A.units + 3 + 300 < cLine := by lia
  refine wpAny_call ?_
  refine' enter_pureC [("word", .str (W t) t1), ("ahead", .int ip t2)] O ?k1 ?k2 ?k3 ?k4 ?k5 ?kD ?_ ?c2 ?c3 ?c4
  case k1 => k_is
  case k2 => k_is
  case k3 => lia
  case k4 => exact BindsTo.of_eq rfl
  case k5 => exact rfl
  case kD => decide +kernel
  case c2 => exact rfl
  case c3 => exact rfl
  case c4 => exact rfl
  clear O
  intro g L' h' tk' cells' hg O KX T F' N' Y'
  subst hg
  k_cells Y'
  try dsimp only
  first | (with_reducible refine hid_all s ?_; intro _ _ _) | skip
  k_steps
  first | with_reducible refine Halt.mk ?_ | skip
  refine add_wl (by assumption) (by assumption) ((wl_lPlain O.tops).keep (Fr.keep (by assumption))) ((wl_lE O.tops).keep (Fr.keep (by assumption))) (by decide) (fun h1 vs1 D1 F1 N1 S1 => ?_)
  k_steps
  first | with_reducible refine Halt.mk ?_ | skip
  refine add_wl (by assumption) (by assumption) ⟨vs1, News.isList (by assumption) (.head _), S1⟩ ((wl_lI O.tops).keep (Fr.keep (by assumption))) (by decide) (fun h2 vs2 D2 F2 N2 S2 => ?_)
  k_steps
  first | with_reducible refine Halt.mk ?_ | skip
  refine add_wl (by assumption) (by assumption) ⟨vs2, News.isList (by assumption) (.head _), S2⟩ ((wl_lT O.tops).keep (Fr.keep (by assumption))) (by decide) (fun h3 vs3 D3 F3 N3 S3 => ?_)
  k_steps
  first | with_reducible refine Halt.mk ?_ | skip
  refine add_wl (by assumption) (by assumption) ⟨vs3, News.isList (by assumption) (.head _), S3⟩ ((wl_lY O.tops).keep (Fr.keep (by assumption))) (by decide) (fun h4 vs4 D4 F4 N4 S4 => ?_)
  k_steps
  first | with_reducible refine Halt.mk ?_ | skip
  refine LCg.ListComp_U (F₀ := by assumption) (by with_unfolding_all rfl) (by decide) (by rfl) (by decide) (by rfl) ?_
  k_steps
  refine LCg.CompSrc.base (by exact hH) (by assumption) (by assumption) (wl_plain O.tops) (by rw [PySem.sizeLine_eq]; decide) ?_
  intro g'
  rw [show (faddr.map Value.ref).toArray.size = fleet.length from rfl]
  refine rest_U fleet (fun r y => ∃ tk, y = .str (W r.e) tk) (fun r v => ∃ a, v = .ref a ∧ RowAt s.heap a r) (fun i r v hr hv => ?_) (.inl (wl_plain O.tops)) ?_ ?_
  · have hlt : i < 7 := (List.getElem?_eq_some_iff.mp hr).1
    obtain ⟨a, ha⟩ : ∃ a, faddr[i]? = some a := ⟨faddr[i], List.getElem?_eq_getElem hlt⟩
    simp only [List.getElem?_toArray, List.getElem?_map, ha] at hv
    cases hv
    exact ⟨a, rfl, row_at O.tops i r a hr ha⟩
  · rintro r v I oI C oC D m₂ h tk E' ys Y hm ⟨a, rfl, b, u1, u2, hT, hW⟩ hC hx F' N' off ne hS hY
    k_steps
    refine LCg.CompEnd.intro (by assumption) (by assumption) _ (fun _ q => q) off hS ?_
    exact hY _ ⟨_, rfl⟩
  · intro ys5 ha5
    have S5 : StrsAre ys5 (fends.map W) := by
      have h5 : All2 isW fends ys5 := ha5.map_left
      exact all2_strs h5
    k_steps
    first | with_reducible refine Halt.mk ?_ | skip
    rename News _ _ _ _ => N5
    refine add_wl (by assumption) (by assumption) ⟨vs4, News.isList N5 (.tail _ (.head _)), S4⟩ ⟨ys5, News.isList N5 (.head _), S5⟩ (by decide) (fun h6 vs6 D6 F6 N6 S6 => ?_)
    k_steps
    first | with_reducible refine Halt.mk ?_ | skip
    have S6' : StrsAre vs6 (allEnds.map W) := S6
    have hlen : vs6.toArray.size = allEnds.length := by have := strs_len S6'; rw [List.length_map] at this; simpa using this
    refine LCt.Assign_ListComp_T (F₀ := by assumption) (by rfl) (by with_unfolding_all rfl) (by with_unfolding_all rfl) (by decide) (by rfl) (by decide) (by rfl) (by rfl) (by rfl) ?_
    k_steps
    refine LCt.CompSrcT.ledger (by exact hH) (by assumption) (by assumption) (its := vs6.toArray) (.head _) (by rw [hlen, PySem.sizeLine_eq]; decide) ?_
    intro g'
    rw [hlen]
    refine rest_T allEnds (fun e => e.isSuffixOf (t.drop ((ip : Int)).toNat)) (fun e y => ∃ tk, y = .str (W e) tk) (fun e y => ∃ tk, y = .str (W e) tk) (fun i e v he hv => ?_) ?_ ?_ ?_
    · simp only [List.getElem?_toArray] at hv
      obtain ⟨x, tk, h1, h2⟩ := strs_get S6' hv
      rw [List.getElem?_map, he] at h1
      cases h1
      exact ⟨tk, h2⟩
    · exact .inr ⟨_, .head _, rfl, _, rfl⟩
    · rintro e v I oI C oC D m₂ h tk E' ys Y Z hm ⟨tv, rfl⟩ hC hx F' N' off ne hS hY hZ
      k_steps
      · refine LCg.CompEnd.intro (by assumption) (by assumption) _ (fun _ q => q) off hS ?_
        exact hY (by rw [← W_ends]; assumption) _ ⟨tv, rfl⟩
      · refine LCg.CompEnd.intro (by assumption) (by assumption) _ (fun _ q => q) off hS ?_
        exact hZ (by rw [← W_ends]; assumption)
    · intro ys7 ha7
      rw [Int.toNat_natCast, show allEnds.filter (fun e => e.isSuffixOf (t.drop ip)) = foundIn t ip from rfl] at ha7
      have hsub : ∀ e ∈ foundIn t ip, e.isSuffixOf (t.drop ip) = true ∧ e.length ≤ 100 ∧ okE e = true ∧ 1 ≤ e.length := fun e he => by
        have h1 := List.mem_filter.mp he
        have h2 : (allEnds.all fun e => decide (e.length ≤ 100) && okE e && decide (1 ≤ e.length)) = true := by decide
        have h3 := List.all_eq_true.mp h2 e h1.1
        rw [Bool.and_eq_true, Bool.and_eq_true, decide_eq_true_eq, decide_eq_true_eq] at h3
        exact ⟨h1.2, h3.1.1, h3.1.2, h3.2⟩
      generalize hfo : foundIn t ip = fo at ha7 hsub
      cases ha7 with
      | nil =>
        have hr : lawCase t ip = t := by unfold lawCase; rw [hfo]
        rw [hr] at hQ
        k_steps
        first | with_reducible refine Halt.mk ?_ | skip
        rename News _ _ _ _ => N8
        refine eq_nil_n (News.isList N8 (.tail _ (.head _))) (News.isList N8 (.head _)) (by show A.units + 3 + 64 < _; lia) ?_
        k_steps
        repeat walk_at "own hid"
        try dsimp only
        exact (hQ _) _ _ (Fr.keep (by assumption))
      | cons q1 q2 =>
        rename_i e0 y0 erest yrest
        obtain ⟨tk0, rfl⟩ := q1
        have hsz : maxLen (e0 :: erest) ≤ t.length - ip := maxLen_le fun e he => by
          have := sufs_ge (hsub e he).1
          rw [List.length_drop] at this
          exact this
        have hr : lawCase t ip = lawEnd t (t.take (t.length - maxLen (e0 :: erest))) (t.drop (t.length - maxLen (e0 :: erest))) := by unfold lawCase; rw [hfo]
        rw [hr] at hQ
        k_steps
        first | with_reducible refine Halt.mk ?_ | skip
        rename News _ _ _ _ => N8
        refine eq_cons_s (z := e0) (zs := erest) (News.isList N8 (.tail _ (.head _))) (.cons ⟨_, rfl⟩ q2) (News.isList N8 (.head _)) (by show A.units + 3 + 64 < _; lia) (List.all_eq_true.mpr fun e he => (hsub e he).2.2.1) ?_
        k_steps
        first | with_reducible refine Halt.mk ?_ | skip
        refine LCg.ListComp_U (F₀ := by assumption) (by with_unfolding_all rfl) (by decide) (by rfl) (by decide) (by rfl) ?_
        k_steps
        have hlen8 : (Value.str (W e0) tk0 :: yrest).toArray.size = (e0 :: erest).length := by have := q2.length; simp; lia
        have hfl : (e0 :: erest).length ≤ 1000 := by
          have : (foundIn t ip).length ≤ allEnds.length := List.length_filter_le _ _
          rw [hfo] at this
          have h2 : allEnds.length ≤ 1000 := by decide
          lia
        refine LCg.CompSrc.ledger (by exact hH) (by assumption) (by assumption) (its := (Value.str (W e0) tk0 :: yrest).toArray) (by k_mem) (by rw [hlen8, PySem.sizeLine_eq]; lia) ?_
        intro g8
        rw [hlen8]
        refine rest_U (e0 :: erest) (fun e y => ∃ tk, y = .int (e.length : Int) tk) (fun e y => ∃ tk, y = .str (W e) tk) (fun i e v he hv => ?_) ?_ ?_ ?_
        · simp only [List.getElem?_toArray] at hv
          obtain ⟨x, tk, h1, h2⟩ := strs_get (all2_strs (.cons ⟨_, rfl⟩ q2)) hv
          rw [List.getElem?_map, he] at h1
          cases h1
          exact ⟨tk, h2⟩
        · exact .inr ⟨_, by k_mem, rfl, _, rfl⟩
        · rintro e v I oI C oC D m₂ h tk E' ys Y hm ⟨tv, rfl⟩ hC hx F' N' off ne hS hY
          have hle := (hsub e hm).2.1
          k_steps
          refine LCg.CompEnd.intro (by assumption) (by assumption) _ (fun _ q => q) off hS ?_
          exact hY _ ⟨_, rfl⟩
        · intro ys9 ha9
          have hI9 := lens_of ha9
          k_steps
          first | with_reducible refine Halt.mk ?_ | skip
          rename News _ _ _ _ => N9
          refine max_list_N (by exact hH) (by assumption) N9 (News.isList N9 (.head _)) hI9 (by simp) (fun h10 M tM tk10 F10 N10 hM1 hM2 => ?_)
          have hM := maxLen_is hM1 hM2
          subst hM
          generalize hgm : maxLen (e0 :: erest) = n at *
          have en1 : ((t.length : Int) - (n : Int)).toNat = t.length - n := Int.toNat_sub t.length n
          rw [← en1] at hQ
          have hst : 3 ≤ (t.take ((t.length : Int) - (n : Int)).toNat).length := by
            have h1 := sufs_ge (hsub e0 (.head _)).1
            have h2 := (hsub e0 (.head _)).2.2.2
            rw [List.length_drop] at h1
            have h5 := hip3 (by lia)
            rw [en1, List.length_take, Nat.min_eq_left (Nat.sub_le _ _)]
            exact Nat.le_trans h5 (Nat.le_sub_of_add_le (by lia))
          have hst2 : (t.take ((t.length : Int) - (n : Int)).toNat).length ≤ 700 := Nat.le_trans (List.length_take_le' _ _) (by assumption)
          have hnt : n ≤ t.length := by lia
          clear hgm hsz hM1 hM2 hsub S6' S6 S5 hI9
          k_steps
          · first | with_reducible refine Halt.mk ?_ | skip
            have hy : lawEnd t (t.take ((t.length : Int) - (n : Int)).toNat) (t.drop ((t.length : Int) - (n : Int)).toNat) = lawHard (t.take ((t.length : Int) - (n : Int)).toNat) false := by
              unfold lawEnd; rw [if_pos (by assumption)]
            rw [hy] at hQ
            refine law_hard (room hA (by decide)) hH hU2 (O.keeps (Fr.keep (by assumption))) (by lia) (fun t4 => ?_)
            intro h2 tk2 up2
            have F2 := Fr.keeps (by assumption) up2
            have N2 := News.grown (by assumption) up2
            clear up2
            try dsimp only
            k_steps
            repeat walk_at "own hid"
            try dsimp only
            exact (hQ _) _ _ (Fr.keep (by assumption))
          · first | with_reducible refine Halt.mk ?_ | skip
            have hy : lawEnd t (t.take ((t.length : Int) - (n : Int)).toNat) (t.drop ((t.length : Int) - (n : Int)).toNat) = lawHard (t.take ((t.length : Int) - (n : Int)).toNat) true := by
              unfold lawEnd; rw [if_neg (ne_true_of_eq_false (by assumption)), if_pos (by assumption)]
            rw [hy] at hQ
            refine law_hard (room hA (by decide)) hH hU2 (O.keeps (Fr.keep (by assumption))) (by lia) (fun t4 => ?_)
            intro h2 tk2 up2
            have F2 := Fr.keeps (by assumption) up2
            have N2 := News.grown (by assumption) up2
            clear up2
            try dsimp only
            k_steps
            repeat walk_at "own hid"
            try dsimp only
            exact (hQ _) _ _ (Fr.keep (by assumption))
          · have hy : lawEnd t (t.take ((t.length : Int) - (n : Int)).toNat) (t.drop ((t.length : Int) - (n : Int)).toNat) = (t.take ((t.length : Int) - (n : Int)).toNat) ++ [116] := by
              unfold lawEnd; rw [if_neg (ne_true_of_eq_false (by assumption)), if_neg (ne_true_of_eq_false (by assumption)), if_pos (by assumption)]
            rw [hy] at hQ
            repeat walk_at "own hid"
            try dsimp only
            exact (hQ _) _ _ (Fr.keep (by assumption))
          · first | with_reducible refine Halt.mk ?_ | skip
            have hy : lawEnd t (t.take ((t.length : Int) - (n : Int)).toNat) (t.drop ((t.length : Int) - (n : Int)).toNat) = (if bareB (t.take ((t.length : Int) - (n : Int)).toNat) = true then (t.take ((t.length : Int) - (n : Int)).toNat) else (t.take ((t.length : Int) - (n : Int)).toNat) ++ [101, 116]) := by
              unfold lawEnd; rw [if_neg (ne_true_of_eq_false (by assumption)), if_neg (ne_true_of_eq_false (by assumption)), if_neg (ne_true_of_eq_false (by assumption)), if_pos (by assumption)]
            rw [hy] at hQ
            rename News _ _ _ _ => N11
            refine law_any (es := [[108], [115], [269], [345], [382]]) (room hA (by decide)) hH hU1 (O.keeps (Fr.keep (by assumption))) ⟨_, News.isList N11 (.head _), .cons _ _ (.cons _ _ (.cons _ _ (.cons _ _ (.cons _ _ .nil))))⟩ (by decide) (by lia) (by decide) (by decide) ?_
            intro h2 tk2 up2
            have F2 := Fr.keeps (by assumption) up2
            have N2 := News.grown (by assumption) up2
            clear up2
            try dsimp only
            k_steps
            · first | with_reducible refine Halt.mk ?_ | skip
              rename News _ _ _ _ => N12
              refine law_any (es := [[116, 108], [101, 115], [101, 269]]) (room hA (by decide)) hH hU1 (O.keeps (Fr.keep (by assumption))) ⟨_, News.isList N12 (.head _), .cons _ _ (.cons _ _ (.cons _ _ .nil))⟩ (by decide) (by lia) (by decide) (by decide) ?_
              intro h2 tk2 up2
              have F2 := Fr.keeps (by assumption) up2
              have N2 := News.grown (by assumption) up2
              clear up2
              try dsimp only
              k_steps
              · have hb : bareB (t.take ((t.length : Int) - (n : Int)).toNat) = false := by simp_all [bareB]
                rw [hb, if_neg Bool.false_ne_true] at hQ
                repeat walk_at "own hid"
                try dsimp only
                exact (hQ _) _ _ (Fr.keep (by assumption))
              · have hb : bareB (t.take ((t.length : Int) - (n : Int)).toNat) = true := by simp_all [bareB]
                rw [hb, if_pos rfl] at hQ
                repeat walk_at "own hid"
                try dsimp only
                exact (hQ _) _ _ (Fr.keep (by assumption))
            · have hb : bareB (t.take ((t.length : Int) - (n : Int)).toNat) = false := by simp_all [bareB]
              rw [hb, if_neg Bool.false_ne_true] at hQ
              repeat walk_at "own hid"
              try dsimp only
              exact (hQ _) _ _ (Fr.keep (by assumption))
          · have hy : lawEnd t (t.take ((t.length : Int) - (n : Int)).toNat) (t.drop ((t.length : Int) - (n : Int)).toNat) = (t.take ((t.length : Int) - (n : Int)).toNat) := by
              unfold lawEnd; rw [if_neg (ne_true_of_eq_false (by assumption)), if_neg (ne_true_of_eq_false (by assumption)), if_neg (ne_true_of_eq_false (by assumption)), if_neg (ne_true_of_eq_false (by assumption)), if_pos (by assumption)]
            rw [hy] at hQ
            repeat walk_at "own hid"
            try dsimp only
            exact (hQ _) _ _ (Fr.keep (by assumption))
          · first | with_reducible refine Halt.mk ?_ | skip
            have hy : lawEnd t (t.take ((t.length : Int) - (n : Int)).toNat) (t.drop ((t.length : Int) - (n : Int)).toNat) = lawFleet t (t.take ((t.length : Int) - (n : Int)).toNat) (t.drop ((t.length : Int) - (n : Int)).toNat) := by
              unfold lawEnd; rw [if_neg (ne_true_of_eq_false (by assumption)), if_neg (ne_true_of_eq_false (by assumption)), if_neg (ne_true_of_eq_false (by assumption)), if_neg (ne_true_of_eq_false (by assumption)), if_neg (ne_true_of_eq_false (by assumption))]
            rw [hy] at hQ
            refine law_fleet (room hA (by decide)) hH (by show A.units + 3 + 500 < _; lia) (O.keeps (Fr.keep (by assumption))) (by lia) (by lia) (by lia) (fun t4 => ?_)
            intro h2 tk2 up2
            have F2 := Fr.keeps (by assumption) up2
            have N2 := News.grown (by assumption) up2
            clear up2
            try dsimp only
            k_steps
            repeat walk_at "own hid"
            try dsimp only
            exact (hQ _) _ _ (Fr.keep (by assumption))
end
end
section
open PySem PySem.W PySem.Calls PyProof.Rows
set_option maxHeartbeats 4000000
theorem lawHard_len (t : List Nat) (b : Bool) : (lawHard t b).length = t.length := by
  unfold lawHard
  split
  · rename_i h
    have := sufs_ge h.1
    simp at this ⊢
    lia
  · split
    · rename_i h
      have := sufs_ge h.2
      simp at this ⊢
      lia
    · split
      · rename_i h
        have := sufs_ge h.2.1
        simp at this ⊢
        lia
      · rfl
theorem lawFleet_len {wd st en : List Nat} (h1 : 3 ≤ wd.length) (h2 : 3 ≤ st.length) (h3 : wd.length ≤ 700) (h4 : st.length ≤ 700) : 3 ≤ (lawFleet wd st en).length ∧ (lawFleet wd st en).length ≤ 702 := by
  unfold lawFleet
  split
  · rename_i r hr
    have hm : r ∈ fleet := List.mem_of_find?_eq_some hr
    obtain ⟨j, hj, he⟩ := List.getElem_of_mem hm
    have hl := (fleet_l (i := j) (r := r) (by rw [List.getElem?_eq_getElem hj, he])).1
    rw [lawHard_len]
    split
    · simp; lia
    · simp; lia
  · lia
theorem lawEnd_len {wd st en : List Nat} (h1 : 3 ≤ wd.length) (h2 : 3 ≤ st.length) (h3 : wd.length ≤ 700) (h4 : st.length ≤ 700) : 3 ≤ (lawEnd wd st en).length ∧ (lawEnd wd st en).length ≤ 702 := by
  unfold lawEnd
  repeat' split
  · rw [lawHard_len]; lia
  · rw [lawHard_len]; lia
  · simp; lia
  · lia
  · simp; lia
  · lia
  · exact lawFleet_len h1 h2 h3 h4
theorem lawAhead_le {t : List Nat} (h : 3 ≤ t.length) : lawAhead t ≤ t.length ∧ (lawAhead t < t.length → 3 ≤ lawAhead t) := by
  unfold lawAhead
  cases hc : closes t with
  | nil => exact ⟨Nat.le_refl _, fun q => absurd q (Nat.lt_irrefl _)⟩
  | cons c0 r =>
    have hm : c0 ∈ closes t := by rw [hc]; exact .head _
    have hlt : c0 < t.length := by
      unfold closes at hm
      split at hm
      · cases hm
      · exact List.mem_range.mp (List.mem_filter.mp hm).1
    constructor
    · show max 3 (c0 + 1) ≤ t.length; lia
    · intro _; show 3 ≤ max 3 (c0 + 1); lia
theorem found_e {t e : List Nat} {ip : Nat} (h : e ∈ foundIn t ip) : 1 ≤ e.length ∧ e.length ≤ t.length - ip := by
  have h1 := List.mem_filter.mp h
  have h2 : (allEnds.all fun e => decide (1 ≤ e.length)) = true := by decide
  have h3 := List.all_eq_true.mp h2 e h1.1
  have h4 := sufs_ge h1.2
  rw [List.length_drop] at h4
  exact ⟨of_decide_eq_true h3, h4⟩
theorem lawCase_len {t : List Nat} {ip : Nat} (h1 : 3 ≤ t.length) (h2 : t.length ≤ 700) (hip3 : ip < t.length → 3 ≤ ip) : 3 ≤ (lawCase t ip).length ∧ (lawCase t ip).length ≤ 702 := by
  unfold lawCase
  cases hf : foundIn t ip with
  | nil => exact ⟨h1, by show t.length ≤ 702; lia⟩
  | cons e r =>
    have he := found_e (t := t) (ip := ip) (by rw [hf]; exact .head _)
    have hm : maxLen (e :: r) ≤ t.length - ip := maxLen_le fun e' he' => (found_e (by rw [hf]; exact he')).2
    have := hip3 (by lia)
    show 3 ≤ (lawEnd t _ _).length ∧ _
    have hst : (t.take (t.length - maxLen (e :: r))).length = t.length - maxLen (e :: r) := by rw [List.length_take]; exact Nat.min_eq_left (Nat.sub_le _ _)
    exact lawEnd_len h1 (by rw [hst]; lia) h2 (by rw [hst]; exact Nat.le_trans (Nat.sub_le _ _) h2)
/-- the law's stem -/
noncomputable def lawStem (t : List Nat) : List Nat := if t.length < 3 then t else lawOwner (lawCase t (lawAhead t)) (lawAhead t)
section
variable {w : World} {A : Around} {E : Value → Shared → Prop} {s : Shared} {mg mb : Str → Option Value} {Q : Value → Shared → Prop}
theorem law_stem {t : List Nat} {t1 : Tok}
    (hA : A.depth + 100 < recursionLimit) (hH : A.handled = none) (hU : A.units + 700 < cLine) (O : Ok w mg mb s.heap) (hw : t.length ≤ 700)
    (hQ : ∀ t', Pu s Q (.str (W (lawStem t)) t')) :
    wpAny (model pw w) A (call (.ref 677) [.str (W t) t1]) Q E s := by
  refine wpAny_call ?_
  refine' enter_pure [("word", .str (W t) t1)] O ?k1 ?k2 ?k3 ?k4 ?k5 ?_ ?c2 ?c3 ?c4 ?c5
  case k1 => k_is
  case k2 => k_is
  case k3 => lia
  case k4 => exact BindsTo.of_eq rfl
  case c5 => decide
  case k5 => exact locs rfl
  case c2 => exact rfl
  case c3 => exact rfl
  case c4 => exact rfl
  clear O
  intro g L' h' hg O KX T F' N'
  subst hg
  try dsimp only
  first | (with_reducible refine hid_all s ?_; intro _ _ _) | skip
  k_steps
  · have hr : lawStem t = t := by unfold lawStem; rw [if_pos (by lia)]
    rw [hr] at hQ
    repeat walk_at "own hid"
    try dsimp only
    exact (hQ _) _ _ (Fr.keep (by assumption))
  · have h3 : 3 ≤ t.length := by lia
    have hr : lawStem t = lawOwner (lawCase t (lawAhead t)) (lawAhead t) := by unfold lawStem; rw [if_neg (by lia)]
    rw [hr] at hQ
    obtain ⟨a1, a2⟩ := lawAhead_le h3
    obtain ⟨c1, c2⟩ := lawCase_len h3 hw a2
    first | with_reducible refine Halt.mk ?_ | skip
    refine law_ahead (room hA (by decide)) hH (by show A.units + 3 + 300 < _; lia) (O.keeps (Fr.keep (by assumption))) (by lia) (fun t2 => ?_)
    intro h2 tk2 up2
    have F2 := Fr.keeps (by assumption) up2
    have N2 := News.grown (by assumption) up2
    clear up2
    try dsimp only
    k_steps
    first | with_reducible refine Halt.mk ?_ | skip
    refine law_case (room hA (by decide)) hH (by show A.units + 3 + 600 < _; lia) (O.keeps (Fr.keep (by assumption))) hw a1 a2 (fun t3 => ?_)
    intro h2 tk2 up2
    have F2 := Fr.keeps (by assumption) up2
    have N2 := News.grown (by assumption) up2
    clear up2
    try dsimp only
    k_steps
    first | with_reducible refine Halt.mk ?_ | skip
    refine law_owner (room hA (by decide)) hH (by show A.units + 3 + 400 < _; lia) (O.keeps (Fr.keep (by assumption))) (by lia) (by lia) (fun t4 => ?_)
    intro h2 tk2 up2
    have F2 := Fr.keeps (by assumption) up2
    have N2 := News.grown (by assumption) up2
    clear up2
    try dsimp only
    k_steps
    repeat walk_at "own hid"
    try dsimp only
    exact (hQ _) _ _ (Fr.keep (by assumption))
end
end
section
open PySem PySem.W PySem.Calls PyProof.Rows
set_option maxHeartbeats 4000000
theorem PalE_len {L L' : List Nat} (h : PalE L L') : L'.length ≤ L.length + 3 := by
  obtain ⟨n, r, -, rfl⟩ := h
  split
  · simp; try lia
  · split
    · simp; try lia
    · lia
theorem PalI_len {L L' : List Nat} (h : PalI L L') : L'.length ≤ L.length + 3 := by
  obtain ⟨n, r, -, rfl⟩ := h
  split
  · simp; try lia
  · split
    · simp; try lia
    · split
      · simp; try lia
      · split
        · simp; try lia
        · lia
theorem CaseR_len {ip : Int} {L L' : List Nat} (h : CaseR ip L L') : L'.length ≤ L.length + 6 := by
  obtain ⟨n, r, hh, hn, hc⟩ := h
  have hS : (L.take (L.length - n)).length ≤ L.length := by rw [List.length_take]; lia
  have hr := hit_res hh (R := [0, 1, 2, 3, 4, 5, 6, 7, 8, 9, 10, 11, 12]) (by rw [tab6_is]; decide +kernel) (by decide)
  simp only [List.mem_cons, List.not_mem_nil, or_false] at hr
  obtain ⟨c0, c1, c2, c3, c4, c5, c6, c7, c8, c9, c10, c11, c12⟩ := hc
  generalize L.take (L.length - n) = S at *
  clear hn
  rcases hr with hr | hr | hr | hr | hr | hr | hr | hr | hr | hr | hr | hr | hr
  · have q := c0 hr; clear c0 c1 c2 c3 c4 c5 c6 c7 c8 c9 c10 c11 c12 hh; rw [q]; lia
  · have q := c1 hr; clear c0 c1 c2 c3 c4 c5 c6 c7 c8 c9 c10 c11 c12 hh; rw [q]; lia
  · have q := PalE_len (c2 hr); clear c0 c1 c2 c3 c4 c5 c6 c7 c8 c9 c10 c11 c12 hh; lia
  · have q := c3 hr; clear c0 c1 c2 c3 c4 c5 c6 c7 c8 c9 c10 c11 c12 hh
    obtain ⟨n2, r2, -, rfl⟩ := q
    split
    · lia
    · simp; lia
  · have q := c4 hr; clear c0 c1 c2 c3 c4 c5 c6 c7 c8 c9 c10 c11 c12 hh
    rcases q with ⟨-, -, rfl⟩ | ⟨-, rfl⟩
    · simp; lia
    · lia
  · have q := c5 hr; clear c0 c1 c2 c3 c4 c5 c6 c7 c8 c9 c10 c11 c12 hh
    rcases q with ⟨-, q⟩ | ⟨-, rfl⟩
    · have := PalE_len q
      simp at this; lia
    · lia
  · have q := c6 hr; clear c0 c1 c2 c3 c4 c5 c6 c7 c8 c9 c10 c11 c12 hh
    rcases q with ⟨-, -, rfl⟩ | ⟨-, rfl⟩
    · simp; lia
    · lia
  · have q := c7 hr; clear c0 c1 c2 c3 c4 c5 c6 c7 c8 c9 c10 c11 c12 hh
    rcases q with ⟨-, rfl⟩ | ⟨-, rfl⟩
    · simp; lia
    · lia
  · have q := c8 hr; clear c0 c1 c2 c3 c4 c5 c6 c7 c8 c9 c10 c11 c12 hh
    rcases q with ⟨-, rfl⟩ | ⟨-, rfl⟩
    · simp; lia
    · lia
  · have q := c9 hr; clear c0 c1 c2 c3 c4 c5 c6 c7 c8 c9 c10 c11 c12 hh
    rcases q with ⟨-, rfl⟩ | ⟨-, rfl⟩
    · simp; lia
    · lia
  · have q := c10 hr; clear c0 c1 c2 c3 c4 c5 c6 c7 c8 c9 c10 c11 c12 hh
    rcases q with ⟨-, rfl⟩ | ⟨-, rfl⟩
    · simp; lia
    · lia
  · have q := c11 hr; clear c0 c1 c2 c3 c4 c5 c6 c7 c8 c9 c10 c11 c12 hh; rw [q]; simp; lia
  · have q := PalI_len (c12 hr); clear c0 c1 c2 c3 c4 c5 c6 c7 c8 c9 c10 c11 c12 hh; lia
theorem Mark_le {L : List Nat} {ip : Int} (h : Mark L ip) (h3 : 3 ≤ L.length) : 0 ≤ ip ∧ ip ≤ L.length := by
  rcases h with ⟨a, b, -, h1, h2, -, -, rfl⟩ | ⟨-, rfl⟩ | ⟨-, rfl⟩
  · split <;> lia
  · lia
  · lia
/-- what the stemmer makes of a word -/
noncomputable def StemR (L L' : List Nat) : Prop := (L.length < 3 ∧ L' = L) ∨ (3 ≤ L.length ∧ ∃ ip L1, Mark L ip ∧ CaseR ip L L1 ∧ Poss ip L1 L')
theorem no_mark {P : Params} {cur : Str} {c l lb bra ket : Int} {oip : Option Int} {k t : Nat → Tok} : getL (Str.ofString "r_mark_regions") (EO P cur c l lb bra ket oip k t) = some none := by cases oip <;> rfl
theorem method_mark {w : World} {A : Around} {E : Value → Shared → Prop} {Q : Value × List Value → Shared → Prop} {pl : Sem Bool} {s : Shared} {h₀ : Heap} {L x dx : Addr} {m : Str → Option Value} {cur : Str} {c l lb bra ket : Int} {oip : Option Int} {k t : Nat → Tok} (h : Q (.ref 242, [.ref x]) s) (F : Fr h₀ L s.heap m := by k_asm) (N : News h₀ L s.heap [(x, selfI dx), (dx, dictOf (EO w.params cur c l lb bra ket oip k t) (nO oip))] := by k_asm) (X : (KK w.params).In h₀ := by k_asm) :
    wpAny (model pw w) A (getMethod (.ref x) (Str.ofString "r_mark_regions") pl) Q E s := method_inst F X (InstAt.of_news N (.head _) (.tail _ (.head _))) (by k_is) (by k_is) (by k_is) no_mark h
local macro_rules | `(tactic| walk_at "getMethod ref") => `(tactic| ((with_reducible show wpAny _ _ (getMethod _ (Str.ofString "r_mark_regions") _) _ _ _); k_dflt (refine method_mark ?_)))
section
variable {w : World} {A : Around} {E : Value → Shared → Prop} {s : Shared} {mg mb : Str → Option Value} {H : Heap} {x dx : Addr} {od : Obj} {Q : Value → Shared → Prop}
theorem stem_ {cur : List Nat} {outer : List Env} {l bra ket : Int} {oip : Option Int}
    (hA : A.depth + 70 < recursionLimit) (hH : A.handled = none) (D : Deep A H s.heap outer x dx) (M : Me w mg mb H s.heap x dx od) (hd : IsSt w (W cur) 0 l 0 bra ket oip od)
    (hl : l = cur.length) (hv : cur.length ≤ 700)
    (hQ : ∀ b L' bra' ket' oip', StemR cur L' → OnD w mg mb A outer H s x dx Q (.bool b) (IsSt w (W L') 0 L'.length 0 bra' ket' oip')) :
    wpAny (model pw w) A (call (.ref 277) [.ref x]) Q E s := by
  subst hl
  refine entryO hd M ?_; clear hd M; intro _ _ M
  refine wpAny_call ?_
  refine' enter_deep [("self", .ref x)] M D ?k1 ?k2 ?k3 ?k4 ?k5 ?_ ?c2 ?c3 ?c4 ?c5
  case k1 => k_is
  case k2 => k_is
  case k3 => lia
  case k4 => exact BindsTo.of_eq rfl
  case c5 => decide
  case k5 => exact locs rfl
  case c2 => exact rfl
  case c3 => exact rfl
  case c4 => exact rfl
  have hne0 := M.ne
  have hne := neN M.ne
  clear M D
  intro g L' h' OH KH TH O KX T K F' N' fin
  have T0 : KtsTurn (fsOf outer) g g := KtsTurn.refl
  try dsimp only
  first | (with_reducible refine hid_all s ?_; intro _ _ _) | skip
  k_steps
  by_cases h3 : cur.length < 3
  · first | with_reducible refine Halt.mk ?_ | skip
    refine r_mark_short (outer := []) (room hA (by decide)) hH (Me.of O (by assumption) (by assumption) hne0) (.ofO ..) rfl h3 ?_
    intro h2 tk2 od2 kb2 M2 hd2
    first | (refine back7 hd2 (by assumption) (by assumption) hne0 kb2 M2.id ?_; clear hd2 M2 kb2 od2; intro _ _ F2 N2) | (refine back6 hd2 (by assumption) (by assumption) hne0 kb2 M2.id ?_; clear hd2 M2 kb2 od2; intro _ _ F2 N2) | (refine backO hd2 (by assumption) (by assumption) hne0 kb2 M2.id ?_; clear hd2 M2 kb2 od2; intro _ _ F2 N2)
    try dsimp only
    k_steps
    repeat walk_at "own hid"
    exact fin.out (by assumption) (by assumption) (by assumption) ((hQ false cur _ _ _ (.inl ⟨h3, rfl⟩))) (by exact .ofO ..)
  first | with_reducible refine Halt.mk ?_ | skip
  refine r_mark_regions (room hA (by decide)) hH (me_deep OH (by assumption) (by assumption) (by assumption) hne0).2 (me_deep (name := Str.ofString "") (scope := ⟨.function, [], false, false, []⟩) (a := 0) (cd := .none) OH (by assumption) (by assumption) (by assumption) hne0).1 (.ofO ..) rfl (by first | with_reducible assumption | lia) (by first | with_reducible assumption | lia) (fun ip hip => ?_)
  obtain ⟨hi1, hi2⟩ := Mark_le hip (by lia)
  intro h2 tk2 od2 kb2 M2 D2 hd2
  first | (refine backD7 hd2 OH KH TH (by assumption) (by assumption) (by assumption) hne0 kb2 M2.id (by assumption) ?_; clear hd2 M2 kb2 D2 od2; intro g2 _ _ O2 kX2 tX2 T02 F2 N2 K2) | (refine backD6 hd2 OH KH TH (by assumption) (by assumption) (by assumption) hne0 kb2 M2.id (by assumption) ?_; clear hd2 M2 kb2 D2 od2; intro g2 _ _ O2 kX2 tX2 T02 F2 N2 K2)
  try dsimp only
  k_steps
  first | with_reducible refine Halt.mk ?_ | skip
  refine r_case_suffix (room hA (by decide)) hH (me_deep OH (by assumption) (by assumption) (by assumption) hne0).2 (me_deep (name := Str.ofString "") (scope := ⟨.function, [], false, false, []⟩) (a := 0) (cd := .none) OH (by assumption) (by assumption) (by assumption) hne0).1 (.seven ..) rfl rfl (by first | with_reducible assumption | lia) hi1 hi2 (fun b1 L1 c1 bra1 ket1 hcr => ?_)
  have hl1 := CaseR_len hcr
  intro h2 tk2 od2 kb2 M2 D2 hd2
  first | (refine backD7 hd2 OH KH TH (by assumption) (by assumption) (by assumption) hne0 kb2 M2.id (by assumption) ?_; clear hd2 M2 kb2 D2 od2; intro g2 _ _ O2 kX2 tX2 T02 F2 N2 K2) | (refine backD6 hd2 OH KH TH (by assumption) (by assumption) (by assumption) hne0 kb2 M2.id (by assumption) ?_; clear hd2 M2 kb2 D2 od2; intro g2 _ _ O2 kX2 tX2 T02 F2 N2 K2)
  try dsimp only
  k_steps
  first | with_reducible refine Halt.mk ?_ | skip
  refine r_possessive_suffix (room hA (by decide)) hH (me_deep OH (by assumption) (by assumption) (by assumption) hne0).2 (me_deep (name := Str.ofString "") (scope := ⟨.function, [], false, false, []⟩) (a := 0) (cd := .none) OH (by assumption) (by assumption) (by assumption) hne0).1 (.seven ..) (by first | with_reducible assumption | lia) rfl (by first | with_reducible assumption | lia) (fun b2 L2 c2 bra2 ket2 hpo => ?_)
  intro h2 tk2 od2 kb2 M2 D2 hd2
  first | (refine backD7 hd2 OH KH TH (by assumption) (by assumption) (by assumption) hne0 kb2 M2.id (by assumption) ?_; clear hd2 M2 kb2 D2 od2; intro g2 _ _ O2 kX2 tX2 T02 F2 N2 K2) | (refine backD6 hd2 OH KH TH (by assumption) (by assumption) (by assumption) hne0 kb2 M2.id (by assumption) ?_; clear hd2 M2 kb2 D2 od2; intro g2 _ _ O2 kX2 tX2 T02 F2 N2 K2)
  try dsimp only
  k_steps
  repeat walk_at "own hid"
  exact fin.out (by assumption) (by assumption) (by assumption) ((hQ true L2 _ _ _ (.inr ⟨by lia, ip, L1, hip, hcr, hpo⟩))) (by exact .seven ..)
end
end
section
open PySem PySem.W PySem.Calls PyProof.Rows
set_option maxHeartbeats 4000000
section
variable {w : World} {A : Around} {E : Value → Shared → Prop} {s : Shared} {mg mb : Str → Option Value} {H : Heap} {x dx : Addr} {od : Obj} {Q : Value → Shared → Prop}
theorem get_current_7 {cur : Str} {c l lb bra ket ip : Int}
    (hA : A.depth + 40 < recursionLimit) (M : Me w mg mb H s.heap x dx od) (hd : IsSt w cur c l lb bra ket (some ip) od)
    (hQ : ∀ t, On w mg mb H s x dx Q (.str cur t) (IsSt w cur c l lb bra ket (some ip))) :
    wpAny (model pw w) A (call (.ref 49) [.ref x]) Q E s := by
  first | (refine entry7 hd M ?_; clear hd M; intro _ _ M) | (refine entry6 hd M ?_; clear hd M; intro _ _ M) | cases hd
  refine wpAny_call ?_
  refine' enter_self [("self", .ref x)] M ?k1 ?k2 ?k3 ?k4 ?k5 ?_ ?c2 ?c3 ?c4 ?c5
  case k1 => k_is
  case k2 => k_is
  case k3 => omega
  case k4 => exact BindsTo.of_eq rfl
  case c5 => decide
  case k5 => exact locs rfl
  case c2 => exact rfl
  case c3 => exact rfl
  case c4 => exact rfl
  have hne0 := M.ne
  have hne := neN M.ne
  clear M
  intro g L' h' O KX T F' N' fin
  try dsimp only
  first | (with_reducible refine hid_all s ?_; intro _ _ _) | skip
  k_steps
  repeat walk_at "own hid"
  refine fin.out (by assumption) (by assumption) ((hQ _)) ?_
  exact .seven ..
theorem stem_word {cur : Str} {t : List Nat} {tt : Tok} {outer : List Env} {c l lb bra ket : Int} {oip : Option Int}
    (hA : A.depth + 80 < recursionLimit) (hH : A.handled = none) (D : Deep A H s.heap outer x dx) (M : Me w mg mb H s.heap x dx od) (hd : IsSt w cur c l lb bra ket oip od)
    (hv : t.length ≤ 700)
    (hQ : ∀ L' t' cur' c' l' lb' bra' ket' oip', StemR t L' → OnD w mg mb A outer H s x dx Q (.str (W L') t') (IsSt w cur' c' l' lb' bra' ket' oip')) :
    wpAny (model pw w) A (call (.ref 189) [.ref x, .str (W t) tt]) Q E s := by
  have hwl : (W t).length = t.length := W_len t
  refine wpAny_call ?_
  refine' enter_deep [("self", .ref x), ("word", .str (W t) tt)] M D ?k1 ?k2 ?k3 ?k4 ?k5 ?_ ?c2 ?c3 ?c4 ?c5
  case k1 => k_is
  case k2 => k_is
  case k3 => omega
  case k4 => exact BindsTo.of_eq rfl
  case c5 => decide
  case k5 => exact locs rfl
  case c2 => exact rfl
  case c3 => exact rfl
  case c4 => exact rfl
  have hne0 := M.ne
  have hne := neN M.ne
  clear M D
  intro g L' h' OH KH TH O KX T K F' N' fin
  have T0 : KtsTurn (fsOf outer) g g := KtsTurn.refl
  try dsimp only
  first | (with_reducible refine hid_all s ?_; intro _ _ _) | skip
  first | (refine entry7 hd M ?_; clear hd M; intro _ _ M) | (refine entry6 hd M ?_; clear hd M; intro _ _ M) | cases hd
  · k_steps
    first | with_reducible refine Halt.mk ?_ | skip
    refine set_current_6 (room hA (by decide)) (by omega) (Me.of O (by assumption) (by assumption) hne0) (.six ..) ?_
    intro h2 tk2 od2 kb2 M2 hd2
    first | (refine back7 hd2 (by assumption) (by assumption) hne0 kb2 M2.id ?_; clear hd2 M2 kb2 od2; intro _ _ F2 N2) | (refine back6 hd2 (by assumption) (by assumption) hne0 kb2 M2.id ?_; clear hd2 M2 kb2 od2; intro _ _ F2 N2) | (refine backO hd2 (by assumption) (by assumption) hne0 kb2 M2.id ?_; clear hd2 M2 kb2 od2; intro _ _ F2 N2)
    try dsimp only
    k_steps
    first | with_reducible refine Halt.mk ?_ | skip
    refine stem_ (room hA (by decide)) hH (me_deep OH (by assumption) (by assumption) (by assumption) hne0).2 (me_deep (name := Str.ofString "") (scope := ⟨.function, [], false, false, []⟩) (a := 0) (cd := .none) OH (by assumption) (by assumption) (by assumption) hne0).1 (.six ..) (by rw [hwl]) hv (fun b L2 bra2 ket2 oip2 hst => ?_)
    intro h2 tk2 od2 kb2 M2 D2 hd2
    obtain ⟨g2, T2, F2, N2, K2⟩ := back_deep (by assumption) (by assumption) (by assumption) hne0 kb2 M2.id
    have kX2 := Frag.In.keeps KH K2.stays
    have tX2 := TopRead.keeps TH K2.stays
    have O2 := ok_turn K2 OH
    have T02 := KtsTurn.trans (by assumption) T2
    clear M2 kb2 D2 T2
    cases hd2
    · k_steps
      first | with_reducible refine Halt.mk ?_ | skip
      refine get_current_6 (room hA (by decide)) (Me.of O2 (by assumption) (by assumption) hne0) (.six ..) (fun t5 => ?_)
      intro h2 tk2 od2 kb2 M2 hd2
      first | (refine back7 hd2 (by assumption) (by assumption) hne0 kb2 M2.id ?_; clear hd2 M2 kb2 od2; intro _ _ F2 N2) | (refine back6 hd2 (by assumption) (by assumption) hne0 kb2 M2.id ?_; clear hd2 M2 kb2 od2; intro _ _ F2 N2) | (refine backO hd2 (by assumption) (by assumption) hne0 kb2 M2.id ?_; clear hd2 M2 kb2 od2; intro _ _ F2 N2)
      try dsimp only
      k_steps
      repeat walk_at "own hid"
      exact fin.out (by assumption) (by assumption) (by assumption) ((hQ L2 _ _ _ _ _ _ _ _ hst)) (by exact .six ..)
    · k_steps
      first | with_reducible refine Halt.mk ?_ | skip
      refine get_current_7 (room hA (by decide)) (Me.of O2 (by assumption) (by assumption) hne0) (.seven ..) (fun t5 => ?_)
      intro h2 tk2 od2 kb2 M2 hd2
      first | (refine back7 hd2 (by assumption) (by assumption) hne0 kb2 M2.id ?_; clear hd2 M2 kb2 od2; intro _ _ F2 N2) | (refine back6 hd2 (by assumption) (by assumption) hne0 kb2 M2.id ?_; clear hd2 M2 kb2 od2; intro _ _ F2 N2) | (refine backO hd2 (by assumption) (by assumption) hne0 kb2 M2.id ?_; clear hd2 M2 kb2 od2; intro _ _ F2 N2)
      try dsimp only
      k_steps
      repeat walk_at "own hid"
      exact fin.out (by assumption) (by assumption) (by assumption) ((hQ L2 _ _ _ _ _ _ _ _ hst)) (by exact .seven ..)
  · k_steps
    first | with_reducible refine Halt.mk ?_ | skip
    refine set_current_7 (room hA (by decide)) (by omega) (Me.of O (by assumption) (by assumption) hne0) (.seven ..) ?_
    intro h2 tk2 od2 kb2 M2 hd2
    first | (refine back7 hd2 (by assumption) (by assumption) hne0 kb2 M2.id ?_; clear hd2 M2 kb2 od2; intro _ _ F2 N2) | (refine back6 hd2 (by assumption) (by assumption) hne0 kb2 M2.id ?_; clear hd2 M2 kb2 od2; intro _ _ F2 N2) | (refine backO hd2 (by assumption) (by assumption) hne0 kb2 M2.id ?_; clear hd2 M2 kb2 od2; intro _ _ F2 N2)
    try dsimp only
    k_steps
    first | with_reducible refine Halt.mk ?_ | skip
    refine stem_ (room hA (by decide)) hH (me_deep OH (by assumption) (by assumption) (by assumption) hne0).2 (me_deep (name := Str.ofString "") (scope := ⟨.function, [], false, false, []⟩) (a := 0) (cd := .none) OH (by assumption) (by assumption) (by assumption) hne0).1 (.seven ..) (by rw [hwl]) hv (fun b L2 bra2 ket2 oip2 hst => ?_)
    intro h2 tk2 od2 kb2 M2 D2 hd2
    obtain ⟨g2, T2, F2, N2, K2⟩ := back_deep (by assumption) (by assumption) (by assumption) hne0 kb2 M2.id
    have kX2 := Frag.In.keeps KH K2.stays
    have tX2 := TopRead.keeps TH K2.stays
    have O2 := ok_turn K2 OH
    have T02 := KtsTurn.trans (by assumption) T2
    clear M2 kb2 D2 T2
    cases hd2
    · k_steps
      first | with_reducible refine Halt.mk ?_ | skip
      refine get_current_6 (room hA (by decide)) (Me.of O2 (by assumption) (by assumption) hne0) (.six ..) (fun t5 => ?_)
      intro h2 tk2 od2 kb2 M2 hd2
      first | (refine back7 hd2 (by assumption) (by assumption) hne0 kb2 M2.id ?_; clear hd2 M2 kb2 od2; intro _ _ F2 N2) | (refine back6 hd2 (by assumption) (by assumption) hne0 kb2 M2.id ?_; clear hd2 M2 kb2 od2; intro _ _ F2 N2) | (refine backO hd2 (by assumption) (by assumption) hne0 kb2 M2.id ?_; clear hd2 M2 kb2 od2; intro _ _ F2 N2)
      try dsimp only
      k_steps
      repeat walk_at "own hid"
      exact fin.out (by assumption) (by assumption) (by assumption) ((hQ L2 _ _ _ _ _ _ _ _ hst)) (by exact .six ..)
    · k_steps
      first | with_reducible refine Halt.mk ?_ | skip
      refine get_current_7 (room hA (by decide)) (Me.of O2 (by assumption) (by assumption) hne0) (.seven ..) (fun t5 => ?_)
      intro h2 tk2 od2 kb2 M2 hd2
      first | (refine back7 hd2 (by assumption) (by assumption) hne0 kb2 M2.id ?_; clear hd2 M2 kb2 od2; intro _ _ F2 N2) | (refine back6 hd2 (by assumption) (by assumption) hne0 kb2 M2.id ?_; clear hd2 M2 kb2 od2; intro _ _ F2 N2) | (refine backO hd2 (by assumption) (by assumption) hne0 kb2 M2.id ?_; clear hd2 M2 kb2 od2; intro _ _ F2 N2)
      try dsimp only
      k_steps
      repeat walk_at "own hid"
      exact fin.out (by assumption) (by assumption) (by assumption) ((hQ L2 _ _ _ _ _ _ _ _ hst)) (by exact .seven ..)
end
end
section
open PySem PySem.W PySem.Calls PyProof.Rows
set_option maxHeartbeats 4000000
noncomputable def parts : List (List Nat) := [97, 109, 97] :: [97, 116, 97] :: [97, 116, 121] :: [97, 116] :: [97, 116, 101, 99, 104] :: [97, 116, 367, 109] :: [97, 109, 105] :: [225, 99, 104] :: [225, 109] :: [101, 98] :: [101, 99] :: [101, 99, 104] :: [101, 107] :: [101, 109] :: [101, 109, 105] :: [101, 328] :: [101, 116] :: [101, 116, 101] :: [101, 116, 105] :: [101, 116, 101, 109] :: [101, 118] :: [233, 104, 111] :: [233, 109] :: [233, 109, 117] :: [283, 107] :: [283, 109] :: [283, 109, 105] :: [283, 116, 101] :: [283, 116, 105] :: [283, 116, 101, 109] :: [237, 99, 104] :: [237, 104, 111] :: [237, 109] :: [237, 109, 105] :: [237, 109, 117] :: [109, 105] :: [111, 117] :: [111, 118, 233] :: [111, 118, 105] :: [357, 109, 105] :: [367, 109] :: [117, 115] :: [253, 99, 104] :: [253, 109] :: [253, 109, 105] :: [105, 110] :: [111, 118] :: [367, 118] :: [110, 99] :: [237, 110, 99] :: [97, 118, 99] :: [111, 118, 99] :: [269, 116] :: [353, 116] :: [100, 101, 353, 116] :: [108, 101, 353, 116] :: [105, 353, 116] :: [112, 111, 117, 353, 116] :: [225, 353, 116] :: [237, 353, 116] :: [116, 108] :: [101, 115] :: [101, 269] :: [111, 98, 108] :: [115, 110] :: [100, 111, 116] :: [116, 345] :: [117, 99] :: [111, 107] :: [107, 97, 114] :: []
noncomputable def letters : List Nat := 97 :: 225 :: 98 :: 99 :: 269 :: 100 :: 271 :: 101 :: 233 :: 283 :: 102 :: 103 :: 104 :: 105 :: 237 :: 106 :: 107 :: 108 :: 109 :: 110 :: 328 :: 111 :: 243 :: 112 :: 113 :: 114 :: 345 :: 115 :: 353 :: 116 :: 357 :: 117 :: 250 :: 367 :: 118 :: 119 :: 120 :: 121 :: 253 :: 122 :: 382 :: []
theorem letters_is : Str.ofString "aábcčdďeéěfghiíjklmnňoópqrřsštťuúůvwxyýzž" = W letters := by kernel_rfl
theorem data_strs (h : Heap) : ∀ {vs : List Value} {xs : List (List Nat)}, DataAre vs (xs.map fun e => PyData.str (W e)) → StrsAre vs (xs.map W)
  | _, [], h => by cases h; exact .nil
  | _, x :: xs, q => by
    rw [List.map_cons] at q
    cases q with
    | cons h1 h2 =>
      have h3 := h1 h
      cases h3
      exact .cons _ _ (data_strs h h2)
local macro_rules | `(tactic| walk_at "eval List") => `(tactic| (refine Halt.out ?_))
section
variable {w : World} {A : Around} {E : Value → Shared → Prop} {s : Shared} {mg mb : Str → Option Value} {Q : Value → Shared → Prop}
theorem List_lits {elts : List Expr} {pos : Pos} {env : Env} {xs : List (List Nat)} (hl : tupLitsOf elts = some (xs.map fun e => PyData.str (W e))) (hn : xs.length ≤ 1000)
    (h : ∀ (vs : List Value) (tk : Nat), StrsAre vs (xs.map W) → Q (.ref s.heap.objs.size) { s with heap := s.heap.push { cls := .type "list", data := .seq vs.toArray }, toks := tk }) :
    wpAny (model pw w) A (eval (.List elts pos) env) Q E s := by
  refine wpAny_List_spliced ?_
  refine spliced_lits elts _ s _ hl fun vs tk hv => ?_
  have hs := data_strs s.heap hv
  have hl := strs_len hs
  rw [List.length_map] at hl
  exact ⟨by rw [hl, PySem.sizeLine_eq]; lia, h vs tk hs⟩
theorem law_parts (hA : A.depth + 40 < recursionLimit) (O : Ok w mg mb s.heap)
    (hQ : ∀ D h' tk, Up s.heap h' → WL h' D parts → Q (.ref D) { s with heap := h', toks := tk }) :
    wpAny (model pw w) A (call (.ref 613) []) Q E s := by
  refine wpAny_call ?_
  refine' enter_pure [] O ?k1 ?k2 ?k3 ?k4 ?k5 ?_ ?c2 ?c3 ?c4 ?c5
  case k1 => k_is
  case k2 => k_is
  case k3 => lia
  case k4 => exact BindsTo.of_eq rfl
  case c5 => decide
  case k5 => exact locs rfl
  case c2 => exact rfl
  case c3 => exact rfl
  case c4 => exact rfl
  clear O
  intro g L' h' hg O KX T F' N'
  subst hg
  try dsimp only
  first | (with_reducible refine hid_all s ?_; intro _ _ _) | skip
  k_steps
  first | with_reducible refine Halt.mk ?_ | skip
  rename Fr _ _ _ _ => F0
  refine @List_lits w _ _ _ _ _ _ _ parts ?_ ?_ ?_
  · kernel_rfl
  · decide
  intro vs tk hs
  repeat walk_at "own hid"
  exact hQ _ _ _ (Fr.keep (Fr.push F0 _)) ⟨vs, ⟨_, Heap.get?_push_size _ rfl, rfl, _, rfl⟩, hs⟩
end
section
variable {w : World} {A : Around} {E : Value → Shared → Prop} {s : Shared} {Q : Value → Shared → Prop} {value slice : PySem.Expr} {h₀ : Heap} {L : Addr} {m : Str → Option Value} {news : List (Addr × Obj)}
theorem part_item {D : Addr} {k : Int} {u : Tok} {es : List (List Nat)} (hD : WL s.heap D es) (h0 : 0 ≤ k) (h1 : k < es.length) (hn : es.length ≤ 1000)
    (h : ∀ t, Q (.str (W (es.getD k.toNat [])) t) s)
    (hs : subscripted slice false (.ref D) (.int k u) = operate [.ref D, .int k u] (getItem (.ref D) (.int k u)) := by with_unfolding_all rfl) :
    wpAny (model pw w) A (subscriptTail value slice (.ref D) (.int k u)) Q E s := by
  obtain ⟨vs, hl, hv⟩ := hD
  have hlen := strs_len hv
  rw [List.length_map] at hlen
  have hk : k.toNat < vs.length := by lia
  obtain ⟨x, t, e1, e2⟩ := strs_get hv (List.getElem?_eq_getElem hk)
  have e3 : x = W (es.getD k.toNat []) := by
    rw [List.getElem?_map, List.getElem?_eq_getElem (by lia)] at e1
    rw [List.getD_eq_getElem?_getD, List.getElem?_eq_getElem (by lia)]
    exact (Option.some.inj e1).symm
  refine tail_any hl.typeIs slot_list_getitem.lookup (wpAny_getItem_list hl h0 (by lia) (x := vs[k.toNat]) ?_ ?_) hs
  · simp [hk]
  · rw [e2, e3]; exact h t
theorem letter_item {k : Int} {t u : Tok} (h0 : 0 ≤ k) (h1 : k < 41) (h : ∀ t' k', Q (.str (W [letters.getD k.toNat 0]) t') { s with toks := k' })
    (hs : subscripted slice false (.str (W letters) t) (.int k u) = operate [.str (W letters) t, .int k u] (getItem (.str (W letters) t) (.int k u)) := by with_unfolding_all rfl)
    (ht : ∀ r, letTemporaryGo value (.str (W letters) t) r = pure () := by intro _; with_unfolding_all rfl) :
    wpAny (model pw w) A (subscriptTail value slice (.str (W letters) t) (.int k u)) Q E s :=
  x_item h0 (show k < (letters.length : Nat) by rw [show letters.length = 41 from rfl]; exact h1) (by decide) (h _ _) hs ht
theorem get_last {D : Addr} {pre : List Value} {v : Value} {n : Nat} {u : Tok} (N : News h₀ L s.heap news) (hm : (D, listOf (pre ++ [v]).toArray n) ∈ news) (hn : pre.length ≤ 1000) (h : Q v s)
    (hs : subscripted slice false (.ref D) (.int (-1) u) = operate [.ref D, .int (-1) u] (getItem (.ref D) (.int (-1) u)) := by with_unfolding_all rfl) :
    wpAny (model pw w) A (subscriptTail value slice (.ref D) (.int (-1) u)) Q E s := by
  have hl : s.heap.IsList D (pre ++ [v]).toArray := PySem.IsL.isList (n := n) (N _ hm).1
  refine tail_any hl.typeIs slot_list_getitem.lookup (wpAny_getItem_list_neg hl (by lia) (by simp; lia) (by lia) (x := v) ?_ h) hs
  have e : ((-1 : Int) + ((pre ++ [v]).toArray.size : Nat)).toNat = pre.length := by simp; lia
  rw [e]
  simp
theorem set_last {Q : Unit → Shared → Prop} {D : Addr} {pre : List Value} {v v' : Value} {n : Nat} {u : Tok} {news' : List (Addr × Obj)} (F : Fr h₀ L s.heap m) (N : News h₀ L s.heap news) (U : Upd D (listOf (pre ++ [v]).toArray n) (listOf (pre ++ [v']).toArray n) news news') (hn : pre.length ≤ 1000)
    (h : ∀ h', Fr h₀ L h' m → News h₀ L h' news' → Q () { s with heap := h' }) :
    wpAny (model pw w) A (setItem (.ref D) (.int (-1) u) v') Q E s := by
  obtain ⟨p1, p2, rfl, rfl, a, b⟩ := U.split
  have z := N (D, listOf (pre ++ [v]).toArray n) (List.mem_append.mpr (.inr (.head _)))
  have e : ((-1 : Int) + ((pre ++ [v]).toArray.size : Nat)).toNat = pre.length := by simp; lia
  refine ki_setBack z.1 (by lia) (by simp; lia) (by lia) (h _ (F.change (Heap.SameBut.update ..) z.2.1 z.2.2) (ki_turn _ N a b ?_ ?_))
  · rw [e]
    apply Array.toList_inj.mp
    simp
  · simp
theorem x_chr {i : Int} {t : Tok} (h0 : 0 ≤ i) (h1 : i ≤ 1114111) (h : ∀ t' k', Q (.str (W [i.toNat]) t') { s with toks := k' }) : wpAny (model pw w) A (call (.builtin "chr") [.int i t]) Q E s :=
  chr_of_range h0 h1 (h _ _)
end
end
section
open PySem PySem.W PySem.Calls PyProof.Rows
set_option maxHeartbeats 4000000
/-- what a hit says of all suffix tests -/
theorem hit_sfx {T : List Row} {L : List Nat} {n : Nat} {r : Int} (h : Hit T L.reverse n r) :
    (∃ k, k < T.length ∧ r = resk T k ∧ n = (ek T k).length ∧ (ek T k).reverse <:+ L ∧ (∀ j, j < T.length → ((ek T j).reverse).isSuffixOf L = (ek T j).isPrefixOf (ek T k)) ∧ ∀ j, j < T.length → (ek T j).reverse <:+ L → (ek T j).length ≤ n) ∨
    (n = 0 ∧ r = 0 ∧ ∀ j, j < T.length → ((ek T j).reverse).isSuffixOf L = false) := by
  have conv : ∀ e : List Nat, e <+: L.reverse ↔ e.reverse <:+ L := fun e => by
    rw [← List.reverse_suffix, List.reverse_reverse]
  rcases h with ⟨k, hk, hp, hr, hn, hm⟩ | ⟨h1, h2, h3⟩
  · refine .inl ⟨k, hk, hr, hn, (conv _).mp hp, fun j hj => ?_, fun j hj q => hm j hj ((conv _).mpr q)⟩
    rw [Bool.eq_iff_iff, List.isSuffixOf_iff_suffix, List.isPrefixOf_iff_prefix]
    constructor
    · intro q
      have q' := (conv _).mpr q
      exact List.prefix_of_prefix_length_le q' hp (by rw [← hn]; exact hm j hj q')
    · intro q
      exact (conv _).mp (q.trans hp)
  · refine .inr ⟨h1, h2, fun j hj => ?_⟩
    rw [Bool.eq_false_iff]
    intro q
    rw [List.isSuffixOf_iff_suffix] at q
    exact h3 j hj ((conv _).mpr q)
noncomputable def bits (T : List Row) (k : Nat) : List Bool := (List.range T.length).map fun j => (ek T j).isPrefixOf (ek T k)
noncomputable def code5 (s0 s1 s2 s3 s4 : Bool) : Nat := if s0 = true ∧ (s2 = true ∨ (s1 || (s3 || (s4 || false))) = false) then 1 else 0
noncomputable def codeL5 (b : List Bool) : Nat := code5 (b.getD 0 false) (b.getD 1 false) (b.getD 2 false) (b.getD 3 false) (b.getD 4 false)
noncomputable def code13 (s0 s1 s2 s3 s4 s5 s6 s7 s8 s9 s10 s11 s12 : Bool) : Nat :=
  if s0 = true ∧ (s2 = true ∨ (s1 || (s3 || (s4 || false))) = false) then 1
  else if s5 = true then 2
  else if s6 = true ∧ (s9 || (s12 || (s11 || (s7 || (s8 || (s10 || false)))))) = false then 3
  else 0
noncomputable def codeL13 (b : List Bool) : Nat := code13 (b.getD 0 false) (b.getD 1 false) (b.getD 2 false) (b.getD 3 false) (b.getD 4 false) (b.getD 5 false) (b.getD 6 false) (b.getD 7 false) (b.getD 8 false) (b.getD 9 false) (b.getD 10 false) (b.getD 11 false) (b.getD 12 false)
noncomputable def applyCode (c : Nat) (L : List Nat) : List Nat := match c with
  | 1 => L.take (L.length - 1) ++ [107]
  | 2 => L.take (L.length - 2) ++ [99, 107]
  | 3 => L.take (L.length - 2) ++ [115, 107]
  | _ => L
theorem hard_false (L : List Nat) : lawHard L false = applyCode (code5 ([99].isSuffixOf L) ([110, 99].isSuffixOf L) ([237, 110, 99].isSuffixOf L) ([97, 118, 99].isSuffixOf L) ([111, 118, 99].isSuffixOf L)) L := by
  unfold lawHard code5
  by_cases h : [99].isSuffixOf L = true ∧ ([237, 110, 99].isSuffixOf L = true ∨ anyE L [[110, 99], [97, 118, 99], [111, 118, 99]] = false)
  · have h' : [99].isSuffixOf L = true ∧ ([237, 110, 99].isSuffixOf L = true ∨ ([110, 99].isSuffixOf L || ([97, 118, 99].isSuffixOf L || ([111, 118, 99].isSuffixOf L || false))) = false) := h
    rw [if_pos h, if_pos h']; rfl
  · have h' : ¬ ([99].isSuffixOf L = true ∧ ([237, 110, 99].isSuffixOf L = true ∨ ([110, 99].isSuffixOf L || ([97, 118, 99].isSuffixOf L || ([111, 118, 99].isSuffixOf L || false))) = false)) := h
    rw [if_neg h, if_neg h', if_neg (fun q => Bool.noConfusion q.1), if_neg (fun q => Bool.noConfusion q.1)]
    rfl
theorem hard_true (L : List Nat) : lawHard L true = applyCode (code13 ([99].isSuffixOf L) ([110, 99].isSuffixOf L) ([237, 110, 99].isSuffixOf L) ([97, 118, 99].isSuffixOf L) ([111, 118, 99].isSuffixOf L) ([269, 116].isSuffixOf L) ([353, 116].isSuffixOf L) ([100, 101, 353, 116].isSuffixOf L) ([108, 101, 353, 116].isSuffixOf L) ([105, 353, 116].isSuffixOf L) ([112, 111, 117, 353, 116].isSuffixOf L) ([225, 353, 116].isSuffixOf L) ([237, 353, 116].isSuffixOf L)) L := by
  unfold lawHard code13
  by_cases h : [99].isSuffixOf L = true ∧ ([237, 110, 99].isSuffixOf L = true ∨ anyE L [[110, 99], [97, 118, 99], [111, 118, 99]] = false)
  · have h' : [99].isSuffixOf L = true ∧ ([237, 110, 99].isSuffixOf L = true ∨ ([110, 99].isSuffixOf L || ([97, 118, 99].isSuffixOf L || ([111, 118, 99].isSuffixOf L || false))) = false) := h
    rw [if_pos h, if_pos h']; rfl
  · have h' : ¬ ([99].isSuffixOf L = true ∧ ([237, 110, 99].isSuffixOf L = true ∨ ([110, 99].isSuffixOf L || ([97, 118, 99].isSuffixOf L || ([111, 118, 99].isSuffixOf L || false))) = false)) := h
    rw [if_neg h, if_neg h']
    by_cases h2 : [269, 116].isSuffixOf L = true
    · rw [if_pos ⟨rfl, h2⟩, if_pos h2]; rfl
    · rw [if_neg (fun q => h2 q.2), if_neg h2]
      by_cases h3 : [353, 116].isSuffixOf L = true ∧ anyE L [[105, 353, 116], [237, 353, 116], [225, 353, 116], [100, 101, 353, 116], [108, 101, 353, 116], [112, 111, 117, 353, 116]] = false
      · have h3' : [353, 116].isSuffixOf L = true ∧ ([105, 353, 116].isSuffixOf L || ([237, 353, 116].isSuffixOf L || ([225, 353, 116].isSuffixOf L || ([100, 101, 353, 116].isSuffixOf L || ([108, 101, 353, 116].isSuffixOf L || ([112, 111, 117, 353, 116].isSuffixOf L || false)))))) = false := h3
        rw [if_pos ⟨rfl, h3⟩, if_pos h3']; rfl
      · have h3' : ¬ ([353, 116].isSuffixOf L = true ∧ ([105, 353, 116].isSuffixOf L || ([237, 353, 116].isSuffixOf L || ([225, 353, 116].isSuffixOf L || ([100, 101, 353, 116].isSuffixOf L || ([108, 101, 353, 116].isSuffixOf L || ([112, 111, 117, 353, 116].isSuffixOf L || false)))))) = false) := h3
        rw [if_neg (fun q => h3 q.2), if_neg h3']; rfl
theorem ends_cut {L e : List Nat} (h : e <:+ L) : L = L.take (L.length - e.length) ++ e := by
  obtain ⟨X, rfl⟩ := h
  simp
theorem inc_eq {L : List Nat} (h : [237, 110, 99] <:+ L) : L.take (L.length - 3) ++ [237, 110, 107] = L.take (L.length - 1) ++ [107] := by
  obtain ⟨X, rfl⟩ := h
  have e1 : (X ++ [237, 110, 99]).length - 3 = X.length := by simp
  have e2 : (X ++ [237, 110, 99]).length - 1 = (X ++ [237, 110]).length := by simp
  have e3 : X ++ [237, 110, 99] = (X ++ [237, 110]) ++ [99] := by simp
  have r : (X ++ [237, 110, 99]).take (X ++ [237, 110]).length = X ++ [237, 110] := by rw [e3]; exact List.take_left ..
  have l : (X ++ [237, 110, 99]).take X.length = X := List.take_left ..
  rw [e1, e2, l, r]
  simp
theorem palE_law {L L' : List Nat} (h : PalE L L') : L' = lawHard L false := by
  obtain ⟨n, r, hh, rfl⟩ := h
  rw [tab0_is] at hh
  have hf := hard_false L
  rw [hf]
  rcases hit_sfx hh with ⟨k, hk, hr, hn, hs, hb, -⟩ | ⟨-, rfl, hb⟩
  · have e : [[99].isSuffixOf L, [110, 99].isSuffixOf L, [237, 110, 99].isSuffixOf L, [97, 118, 99].isSuffixOf L, [111, 118, 99].isSuffixOf L] = bits tab0 k := by
      have g : (List.range tab0.length).map (fun j => ((ek tab0 j).reverse).isSuffixOf L) = bits tab0 k := List.map_congr_left fun j hj => hb j (List.mem_range.mp hj)
      exact g
    have e5 : code5 ([99].isSuffixOf L) ([110, 99].isSuffixOf L) ([237, 110, 99].isSuffixOf L) ([97, 118, 99].isSuffixOf L) ([111, 118, 99].isSuffixOf L) = codeL5 (bits tab0 k) := congrArg codeL5 e
    rw [e5]
    have tb : ((List.range tab0.length).all fun k => decide (codeL5 (bits tab0 k) = if resk tab0 k = 1 ∨ resk tab0 k = 2 then 1 else 0) && decide (resk tab0 k = 1 → (ek tab0 k).length = 1) && decide (resk tab0 k = 2 → ek tab0 k = [99, 110, 237])) = true := by decide +kernel
    have tk := List.all_eq_true.mp tb k (List.mem_range.mpr hk)
    simp only [Bool.and_eq_true, decide_eq_true_eq] at tk
    obtain ⟨⟨t1, t2⟩, t3⟩ := tk
    rw [t1]
    subst hr
    by_cases h1 : resk tab0 k = 1
    · rw [if_pos h1, if_pos (.inl h1), hn, t2 h1]; rfl
    · rw [if_neg h1]
      by_cases h2 : resk tab0 k = 2
      · rw [if_pos h2, if_pos (.inr h2), hn]
        have e3 := t3 h2
        rw [e3] at hs ⊢
        exact inc_eq hs
      · rw [if_neg h2, if_neg (by rintro (q | q); exact h1 q; exact h2 q)]; rfl
  · rw [if_neg (by decide), if_neg (by decide)]
    have f : [99].isSuffixOf L = false := hb 0 (by decide)
    rw [f]
    simp [code5, applyCode]
theorem palI_law {L L' : List Nat} (h : PalI L L') : L' = lawHard L true := by
  obtain ⟨n, r, hh, rfl⟩ := h
  rw [tab1_is] at hh
  have hf := hard_true L
  rw [hf]
  rcases hit_sfx hh with ⟨k, hk, hr, hn, hs, hb, -⟩ | ⟨-, rfl, hb⟩
  · have g : (List.range tab1.length).map (fun j => ((ek tab1 j).reverse).isSuffixOf L) = bits tab1 k := List.map_congr_left fun j hj => hb j (List.mem_range.mp hj)
    have e : [[99].isSuffixOf L, [110, 99].isSuffixOf L, [237, 110, 99].isSuffixOf L, [97, 118, 99].isSuffixOf L, [111, 118, 99].isSuffixOf L, [269, 116].isSuffixOf L, [353, 116].isSuffixOf L, [100, 101, 353, 116].isSuffixOf L, [108, 101, 353, 116].isSuffixOf L, [105, 353, 116].isSuffixOf L, [112, 111, 117, 353, 116].isSuffixOf L, [225, 353, 116].isSuffixOf L, [237, 353, 116].isSuffixOf L] = bits tab1 k := g
    have e5 : code13 ([99].isSuffixOf L) ([110, 99].isSuffixOf L) ([237, 110, 99].isSuffixOf L) ([97, 118, 99].isSuffixOf L) ([111, 118, 99].isSuffixOf L) ([269, 116].isSuffixOf L) ([353, 116].isSuffixOf L) ([100, 101, 353, 116].isSuffixOf L) ([108, 101, 353, 116].isSuffixOf L) ([105, 353, 116].isSuffixOf L) ([112, 111, 117, 353, 116].isSuffixOf L) ([225, 353, 116].isSuffixOf L) ([237, 353, 116].isSuffixOf L) = codeL13 (bits tab1 k) := congrArg codeL13 e
    rw [e5]
    have tb : ((List.range tab1.length).all fun k => decide (codeL13 (bits tab1 k) = if resk tab1 k = 1 ∨ resk tab1 k = 2 then 1 else if resk tab1 k = 3 then 2 else if resk tab1 k = 4 then 3 else 0) && decide (resk tab1 k = 1 → (ek tab1 k).length = 1) && decide (resk tab1 k = 2 → ek tab1 k = [99, 110, 237]) && decide (resk tab1 k = 3 → (ek tab1 k).length = 2) && decide (resk tab1 k = 4 → (ek tab1 k).length = 2)) = true := by decide +kernel
    have tk := List.all_eq_true.mp tb k (List.mem_range.mpr hk)
    simp only [Bool.and_eq_true, decide_eq_true_eq] at tk
    obtain ⟨⟨⟨⟨t1, t2⟩, t3⟩, t4⟩, t5⟩ := tk
    rw [t1]
    subst hr
    by_cases h1 : resk tab1 k = 1
    · rw [if_pos h1, if_pos (.inl h1), hn, t2 h1]; rfl
    · rw [if_neg h1]
      by_cases h2 : resk tab1 k = 2
      · rw [if_pos h2, if_pos (.inr h2), hn]
        have e3 := t3 h2
        rw [e3] at hs ⊢
        exact inc_eq hs
      · have h12 : ¬ (resk tab1 k = 1 ∨ resk tab1 k = 2) := by rintro (q | q); exact h1 q; exact h2 q
        rw [if_neg h2, if_neg h12]
        by_cases h3 : resk tab1 k = 3
        · rw [if_pos h3, if_pos h3, hn, t4 h3]; rfl
        · rw [if_neg h3, if_neg h3]
          by_cases h4 : resk tab1 k = 4
          · rw [if_pos h4, if_pos h4, hn, t5 h4]; rfl
          · rw [if_neg h4, if_neg h4]; rfl
  · rw [if_neg (by decide), if_neg (by decide), if_neg (by decide), if_neg (by decide)]
    have f0 : [99].isSuffixOf L = false := hb 0 (by decide)
    have f5 : [269, 116].isSuffixOf L = false := hb 5 (by decide)
    have f6 : [353, 116].isSuffixOf L = false := hb 6 (by decide)
    rw [f0, f5, f6]
    simp [code13, applyCode]
theorem poss_law {L L' : List Nat} {ip : Nat} (h : Poss ip L L') : L' = lawOwner L ip := by
  obtain ⟨n, r, hh, hn, hc⟩ := h
  rw [tab2_is] at hh
  unfold lawOwner
  rcases hit_sfx hh with ⟨k, hk, hr, hn2, hs, hb, -⟩ | ⟨rfl, rfl, hb⟩
  · have tb : ((List.range tab2.length).all fun k => decide ((ek tab2 k).length = 2) && decide (resk tab2 k = 1 ∨ resk tab2 k = 2) && ((ek tab2 0).isPrefixOf (ek tab2 k) == decide (resk tab2 k = 2)) && ((ek tab2 0).isPrefixOf (ek tab2 k) || ((ek tab2 1).isPrefixOf (ek tab2 k) || ((ek tab2 2).isPrefixOf (ek tab2 k) || false)))) = true := by decide +kernel
    have tk := List.all_eq_true.mp tb k (List.mem_range.mpr hk)
    simp only [Bool.and_eq_true, decide_eq_true_eq, beq_iff_eq] at tk
    obtain ⟨⟨⟨t1, t2⟩, t3⟩, t4⟩ := tk
    have b0 : [105, 110].isSuffixOf L = (ek tab2 0).isPrefixOf (ek tab2 k) := hb 0 (by decide)
    have b1 : [111, 118].isSuffixOf L = (ek tab2 1).isPrefixOf (ek tab2 k) := hb 1 (by decide)
    have b2 : [367, 118].isSuffixOf L = (ek tab2 2).isPrefixOf (ek tab2 k) := hb 2 (by decide)
    have ha : anyE L [[105, 110], [111, 118], [367, 118]] = true := by
      show ([105, 110].isSuffixOf L || ([111, 118].isSuffixOf L || ([367, 118].isSuffixOf L || false))) = true
      rw [b0, b1, b2]; exact t4
    have hn3 : n = 2 := by rw [hn2, t1]
    subst hn3
    have hr0 : r ≠ 0 := by rw [hr]; rcases t2 with q | q <;> rw [q] <;> decide
    by_cases hl : L.length - 2 < ip
    · rw [if_pos (.inl hl)]
      rw [if_pos (.inr (by omega))] at hc
      exact hc
    · rw [if_neg (by rintro (q | q); exact hl q; rw [ha] at q; cases q)]
      rw [if_neg (by rintro (q | q); exact hr0 q; omega)] at hc
      rw [b0, t3]
      rcases t2 with q | q
      · rw [if_pos (hr.trans q)] at hc
        rw [q]
        exact hc
      · rw [if_neg (by rw [hr, q]; decide)] at hc
        rw [q]
        exact palI_law hc
  · rw [if_pos (.inl rfl)] at hc
    have b0 : [105, 110].isSuffixOf L = false := hb 0 (by decide)
    have b1 : [111, 118].isSuffixOf L = false := hb 1 (by decide)
    have b2 : [367, 118].isSuffixOf L = false := hb 2 (by decide)
    have ha : anyE L [[105, 110], [111, 118], [367, 118]] = false := by
      show ([105, 110].isSuffixOf L || ([111, 118].isSuffixOf L || ([367, 118].isSuffixOf L || false))) = false
      rw [b0, b1, b2]; rfl
    rw [if_pos (.inr ha)]
    exact hc
end
section
open PySem PySem.W PySem.Calls PyProof.Rows
set_option maxHeartbeats 4000000
theorem inWords_is {e : List Nat} : ∀ {es : List (List Nat)}, KTD.inWords (W e) (es.map W) = es.contains e
  | [] => rfl
  | x :: es => by
    show (decide (W e = W x) || KTD.inWords (W e) (es.map W)) = (x :: es).contains e
    rw [inWords_is, List.contains_cons]
    congr 1
    by_cases h : e = x
    · subst h; simp
    · have : W e ≠ W x := fun q => h (W_inj q)
      simp [h, this]
theorem any_is {c : Nat} : ∀ {ls : List Nat}, ((ls.map fun a => W [a]).any fun x => decide (W [c] = x)) = ls.contains c
  | [] => rfl
  | a :: ls => by
    rw [List.map_cons, List.any_cons, any_is, List.contains_cons]
    congr 1
    by_cases h : c = a
    · subst h; simp
    · have : W [c] ≠ W [a] := fun q => h (List.cons.inj (W_inj q)).1
      simp [h, this]
theorem perm_contains {l1 l2 : List Nat} (h : (l1.all l2.contains && l2.all l1.contains) = true) (c : Nat) : l1.contains c = l2.contains c := by
  rw [Bool.and_eq_true] at h
  rw [Bool.eq_iff_iff, List.contains_iff_mem, List.contains_iff_mem]
  constructor
  · intro q; exact List.contains_iff_mem.mp (List.all_eq_true.mp h.1 c q)
  · intro q; exact List.contains_iff_mem.mp (List.all_eq_true.mp h.2 c q)
noncomputable def vn : List Nat := [97, 225, 101, 233, 283, 105, 237, 111, 243, 117, 250, 367, 121, 253]
theorem single_contains {c : Nat} : ∀ {ls : List Nat}, (ls.map fun a => [a]).contains [c] = ls.contains c
  | [] => rfl
  | a :: ls => by
    rw [List.map_cons, List.contains_cons, single_contains, List.contains_cons]
    congr 1
    by_cases h : c = a
    · subst h; simp
    · simp [h]
theorem isVow_is (c : Nat) : isVow c = vn.contains c := by
  unfold isVow
  rw [inWords_is]
  exact single_contains (ls := vn)
theorem gv_vow (c : Nat) : inS gv c = isVow c := by
  have e : gv = ([97, 101, 105, 111, 117, 121, 225, 233, 237, 243, 250, 253, 283, 367] : List Nat).map fun a => W [a] := by kernel_rfl
  unfold inS
  rw [e, any_is, isVow_is]
  exact perm_contains (by decide) c
theorem isLR_is (c : Nat) : isLR c = ([108, 114] : List Nat).contains c := by
  have e1 : Str.ofString "l" = W [108] := by kernel_rfl
  have e2 : Str.ofString "r" = W [114] := by kernel_rfl
  unfold isLR
  rw [e1, e2]
  have : ∀ a : Nat, (W [a] == W [c]) = (c == a) := fun a => by
    by_cases h : c = a
    · subst h; simp
    · have : W [a] ≠ W [c] := fun q => h (List.cons.inj (W_inj q)).1.symm
      rw [beq_eq_false_iff_ne.mpr this, beq_eq_false_iff_ne.mpr h]
  show ((W [108] == W [c]) || ((W [114] == W [c]) || false)) = _
  rw [this, this, Bool.eq_iff_iff]
  simp
theorem gvl_vow (c : Nat) : inS gvl c = (isVow c || isLR c) := by
  have e : gvl = ([97, 101, 105, 108, 111, 114, 117, 121, 225, 233, 237, 243, 250, 253, 283, 367] : List Nat).map fun a => W [a] := by kernel_rfl
  unfold inS
  rw [e, any_is, isVow_is, isLR_is]
  rw [perm_contains (l2 := vn ++ [108, 114]) (by decide) c]
  rw [Bool.eq_iff_iff]
  simp only [Bool.or_eq_true, List.contains_iff_mem, List.mem_append]
theorem first_of {n : Nat} {p : Nat → Bool} {a : Nat} (ha : a < n) (hp : p a = true) (hno : ∀ k, k < a → p k = false) : ∃ r, (List.range n).filter p = a :: r := by
  have h : ((List.range n).filter p).head? = some a := by
    rw [List.head?_filter, List.find?_range_eq_some]
    exact ⟨hp, List.mem_range.mpr ha, fun j hj => by rw [hno j hj]; rfl⟩
  cases e : (List.range n).filter p with
  | nil => rw [e] at h; cases h
  | cons b r =>
    rw [e] at h
    cases h
    exact ⟨r, rfl⟩
theorem none_of {n : Nat} {p : Nat → Bool} (hno : ∀ k, k < n → p k = false) : (List.range n).filter p = [] := by
  rw [List.filter_eq_nil_iff]
  intro k hk
  rw [hno k (List.mem_range.mp hk)]
  exact Bool.false_ne_true
theorem sound_0 (L : List Nat) : soundAt L 0 = inS gv (L.getD 0 0) := by
  unfold soundAt
  rw [gv_vow]; simp
theorem sound_k {L : List Nat} {k : Nat} (h : 0 < k) : soundAt L k = inS gvl (L.getD k 0) := by
  unfold soundAt
  rw [gvl_vow, decide_eq_true h]; simp
theorem sounds_of {L : List Nat} {a : Int} (h : Sound L a) (hl : a < L.length) : ∃ n r, a = ((n : Nat) : Int) ∧ n < L.length ∧ sounds L = n :: r := by
  rcases h with ⟨rfl, h⟩ | ⟨h0, h1, h2, h3⟩
  · obtain ⟨r, e⟩ := first_of (n := L.length) (p := soundAt L) (a := 0) (by lia) (by rw [sound_0]; exact h) (fun k hk => absurd hk (Nat.not_lt_zero _))
    exact ⟨0, r, rfl, by lia, e⟩
  · have e0 : a = (a.toNat : Int) := by lia
    obtain ⟨r, e⟩ := first_of (n := L.length) (p := soundAt L) (a := a.toNat) (by lia) (by rw [sound_k (by lia)]; exact h3) (fun k hk => by
      by_cases q : k = 0
      · subst q; rw [sound_0]; exact h0
      · rw [sound_k (by lia)]
        have := h2 k (by lia) (by lia)
        rwa [Int.toNat_natCast] at this)
    exact ⟨a.toNat, r, e0, by lia, e⟩
theorem mark_law {L : List Nat} {ip : Int} (h : Mark L ip) (h3 : 3 ≤ L.length) : ip = (lawAhead L : Nat) := by
  rcases h with ⟨a, b, hs, hab, hbl, hv, hnv, hip⟩ | ⟨⟨a, hs, hal, hv⟩, rfl⟩ | ⟨⟨h0, hno⟩, rfl⟩
  · obtain ⟨n, r, rfl, hn, hso⟩ := sounds_of hs (by lia)
    have eb : b = (b.toNat : Int) := by lia
    obtain ⟨r2, e2⟩ := first_of (n := L.length) (p := closeAt L n) (a := b.toNat) (by lia) (by
      unfold closeAt
      rw [← gv_vow, hnv, decide_eq_true (by lia : n < b.toNat)]; rfl) (fun k hk => by
      unfold closeAt
      by_cases q : n < k
      · have := hv k (by lia) (by lia)
        rw [Int.toNat_natCast, gv_vow] at this
        rw [this]; simp
      · rw [decide_eq_false q]; rfl)
    have hc : closes L = b.toNat :: r2 := by unfold closes; rw [hso]; exact e2
    have : lawAhead L = max 3 (b.toNat + 1) := by unfold lawAhead; rw [hc]
    rw [this, hip]
    split <;> lia
  · obtain ⟨n, r, rfl, hn, hso⟩ := sounds_of hs hal
    have hc : closes L = [] := by
      unfold closes
      rw [hso]
      exact none_of fun k hk => by
        unfold closeAt
        by_cases q : n < k
        · have := hv k (by lia) (by lia)
          rw [Int.toNat_natCast, gv_vow] at this
          rw [this]; simp
        · rw [decide_eq_false q]; rfl
    have : lawAhead L = L.length := by unfold lawAhead; rw [hc]
    rw [this]
  · have hso : sounds L = [] := none_of fun k hk => by
      by_cases q : k = 0
      · subst q; rw [sound_0]; exact h0
      · rw [sound_k (by lia)]
        have := hno k (by lia) (by lia)
        rwa [Int.toNat_natCast] at this
    have hc : closes L = [] := by unfold closes; rw [hso]
    have : lawAhead L = L.length := by unfold lawAhead; rw [hc]
    rw [this]
end
section
open PySem PySem.W PySem.Calls PyProof.Rows
set_option maxHeartbeats 4000000
theorem last_suf {S e : List Nat} (h : e <:+ S) (hne : e ≠ []) : S.getD (S.length - 1) 0 = e.getD (e.length - 1) 0 := by
  obtain ⟨X, rfl⟩ := h
  have : 0 < e.length := List.length_pos_iff.mpr hne
  rw [List.getD_eq_getElem?_getD, List.getD_eq_getElem?_getD, List.length_append, List.getElem?_append_right (by lia)]
  congr 2
  lia
theorem any_single {S : List Nat} (hS : S ≠ []) : ∀ {ls : List Nat}, anyE S (ls.map fun a => [a]) = ls.contains (S.getD (S.length - 1) 0)
  | [] => rfl
  | a :: ls => by
    show ([a].isSuffixOf S || anyE S (ls.map fun a => [a])) = _
    rw [any_single hS, List.contains_cons]
    congr 1
    rw [Bool.eq_iff_iff, List.isSuffixOf_iff_suffix, suf_last hS, beq_iff_eq]
theorem any_vows {S : List Nat} (hS : S ≠ []) : anyE S vows = isVow (S.getD (S.length - 1) 0) := by
  rw [isVow_is]
  exact any_single hS (ls := vn)
theorem lastOut_iff {S : List Nat} (hS : S ≠ []) : lastOut gv S ↔ anyE S vows = false := by
  rw [any_vows hS, ← gv_vow]
  exact ⟨fun q => q.2, fun q => ⟨hS, q⟩⟩
theorem any_perm {S : List Nat} {l1 l2 : List (List Nat)} (h : (l1.all l2.contains && l2.all l1.contains) = true) : anyE S l1 = anyE S l2 := by
  rw [Bool.and_eq_true] at h
  unfold anyE
  rw [Bool.eq_iff_iff, List.any_eq_true, List.any_eq_true]
  constructor
  · rintro ⟨e, he, q⟩
    exact ⟨e, List.contains_iff_mem.mp (List.all_eq_true.mp h.1 e he), q⟩
  · rintro ⟨e, he, q⟩
    exact ⟨e, List.contains_iff_mem.mp (List.all_eq_true.mp h.2 e he), q⟩
theorem anyT_iff {T : List Row} {S : List Nat} : AnyT T S.reverse ↔ anyE S ((List.range T.length).map fun j => (ek T j).reverse) = true := by
  unfold AnyT anyE
  rw [List.any_eq_true]
  constructor
  · rintro ⟨j, hj, hp⟩
    refine ⟨_, List.mem_map_of_mem (List.mem_range.mpr hj), ?_⟩
    rw [List.isSuffixOf_iff_suffix, ← List.reverse_prefix, List.reverse_reverse]
    exact hp
  · rintro ⟨e, he, q⟩
    obtain ⟨j, hj, rfl⟩ := List.mem_map.mp he
    rw [List.isSuffixOf_iff_suffix, ← List.reverse_prefix, List.reverse_reverse] at q
    exact ⟨j, List.mem_range.mp hj, q⟩
theorem no_vow {S : List Nat} {es : List (List Nat)} (h : anyE S es = true) (ht : (es.all fun e => decide (e ≠ []) && !vn.contains (e.getD (e.length - 1) 0)) = true) : anyE S vows = false := by
  unfold anyE at h
  rw [List.any_eq_true] at h
  obtain ⟨e, he, q⟩ := h
  have t := List.all_eq_true.mp ht e he
  rw [Bool.and_eq_true, decide_eq_true_eq] at t
  rw [List.isSuffixOf_iff_suffix] at q
  have hS : S ≠ [] := fun z => by
    rw [z] at q
    exact t.1 (List.suffix_nil.mp q)
  rw [any_vows hS, isVow_is, last_suf q t.1]
  simpa using t.2
theorem hard_other {X : List Nat} {c : Nat} (h : c ≠ 99) : lawHard (X ++ [c]) false = X ++ [c] := by
  have f : ¬ [99].isSuffixOf (X ++ [c]) = true := fun q => by
    rw [List.isSuffixOf_iff_suffix] at q
    have := last_suf q (by decide)
    simp at this
    exact h this
  unfold lawHard
  rw [if_neg (fun q => f q.1), if_neg (fun q => Bool.noConfusion q.1), if_neg (fun q => Bool.noConfusion q.1)]
theorem ok_iff {S : List Nat} {r : FR} : fleetOk S r.e r = true ↔ anyE S vows = false ∧ anyE S r.es = r.o := by
  unfold fleetOk
  simp
theorem fleet_val {L S : List Nat} {i : Nat} {r : FR} (hr : fleet[i]? = some r) : lawFleet L S r.e = if fleetOk S r.e r = true then lawHard ((if r.e = [283, 107] then S.take (S.length - 1) ++ [328] else S) ++ r.l) false else L := by
  have hd : ∀ j r', fleet[j]? = some r' → j ≠ i → fleetOk S r.e r' = false := fun j r' hj hne => by
    have tb : ((List.range 7).all fun j => (List.range 7).all fun i => decide (j = i) || decide ((fleet.getD j ⟨[], [], false, []⟩).e ≠ (fleet.getD i ⟨[], [], false, []⟩).e)) = true := by decide
    obtain ⟨hj1, hj2⟩ := List.getElem?_eq_some_iff.mp hj
    obtain ⟨hi1, hi2⟩ := List.getElem?_eq_some_iff.mp hr
    have t := List.all_eq_true.mp (List.all_eq_true.mp tb j (List.mem_range.mpr hj1)) i (List.mem_range.mpr hi1)
    rw [List.getD_eq_getElem?_getD, List.getD_eq_getElem?_getD, hj, hr] at t
    simp only [Option.getD_some, Bool.or_eq_true, decide_eq_true_eq] at t
    rcases t with t | t
    · exact absurd t hne
    · unfold fleetOk
      rw [decide_eq_false t]; rfl
  by_cases hok : fleetOk S r.e r = true
  · rw [if_pos hok]
    exact fleet_some (fun j r' hj hj2 => hd j r' hj2 (Nat.ne_of_lt hj)) hr hok
  · rw [if_neg hok]
    refine fleet_none fun j r' hj hj2 => ?_
    by_cases q : j = i
    · subst q
      rw [hr] at hj2
      cases hj2
      exact Bool.eq_false_iff.mpr hok
    · exact hd j r' hj2 q
end
section
open PySem PySem.W PySem.Calls PyProof.Rows
set_option maxHeartbeats 4000000
noncomputable def clsOk (k : Nat) : Bool :=
  let en := (ek tab6 k).reverse
  allEnds.contains en && (inW en lE == decide (resk tab6 k = 2)) && (inW en lI == decide (resk tab6 k = 12)) && (inW en lT == decide (resk tab6 k = 11)) && (inW en lY == decide (resk tab6 k = 3)) && (inW en lPlain == decide (resk tab6 k = 1))
noncomputable def clsOk2 (k : Nat) : Bool :=
  let en := (ek tab6 k).reverse
  decide (resk tab6 k = 4 → en = [101, 98]) && decide (resk tab6 k = 5 → en = [101, 99]) && decide (resk tab6 k = 6 → en = [101, 107]) && decide (resk tab6 k = 7 → en = [283, 107]) && decide (resk tab6 k = 8 → en = [101, 328]) && decide (resk tab6 k = 9 → en = [101, 116]) && decide (resk tab6 k = 10 → en = [101, 118]) &&
    decide (1 ≤ resk tab6 k ∧ resk tab6 k ≤ 12) && decide (0 < en.length)
theorem cls_tab : ((List.range tab6.length).all fun k => clsOk k && clsOk2 k) = true := by decide +kernel
theorem ends_tab : (allEnds.all fun e => (List.range tab6.length).any fun j => (ek tab6 j).reverse == e) = true := by decide +kernel
theorem found_tab {L e : List Nat} {ip : Nat} (h : e ∈ foundIn L ip) : ∃ j, j < tab6.length ∧ (ek tab6 j).reverse = e ∧ e.isSuffixOf (L.drop ip) = true := by
  have h1 := List.mem_filter.mp h
  have h2 := List.all_eq_true.mp ends_tab e h1.1
  rw [List.any_eq_true] at h2
  obtain ⟨j, hj, q⟩ := h2
  exact ⟨j, List.mem_range.mp hj, beq_iff_eq.mp q, h1.2⟩
theorem bare_law {S : List Nat} {n : Nat} {r : Int} (h : Hit rows3 S.reverse n r) : bareB S = decide (r = 1) := by
  rw [tab3_is] at h
  rcases hit_sfx h with ⟨k, hk, hr, -, -, hb, -⟩ | ⟨-, -, hb⟩
  · have g : (List.range tab3.length).map (fun j => ((ek tab3 j).reverse).isSuffixOf S) = bits tab3 k := List.map_congr_left fun j hj => hb j (List.mem_range.mp hj)
    have e : [[].isSuffixOf S, [108].isSuffixOf S, [116, 108].isSuffixOf S, [115].isSuffixOf S, [101, 115].isSuffixOf S, [269].isSuffixOf S, [101, 269].isSuffixOf S, [345].isSuffixOf S, [382].isSuffixOf S] = bits tab3 k := g
    have tb : ((List.range tab3.length).all fun k => (((bits tab3 k).getD 1 false || ((bits tab3 k).getD 3 false || ((bits tab3 k).getD 5 false || ((bits tab3 k).getD 7 false || ((bits tab3 k).getD 8 false || false))))) && !((bits tab3 k).getD 2 false || ((bits tab3 k).getD 4 false || ((bits tab3 k).getD 6 false || false)))) == decide (resk tab3 k = 1)) = true := by decide +kernel
    have tk := beq_iff_eq.mp (List.all_eq_true.mp tb k (List.mem_range.mpr hk))
    rw [← e] at tk
    rw [hr]
    exact tk
  · exfalso
    have := hb 0 (by decide)
    have f : (([] : List Nat)).isSuffixOf S = false := this
    rw [Bool.eq_false_iff] at f
    exact f (List.isSuffixOf_iff_suffix.mpr (List.nil_suffix))
theorem es_genv {S : List Nat} (hS : S ≠ []) : lastIn genv S ↔ anyE S [[98], [99], [269], [100], [104], [107], [112], [114], [115], [353], [116], [118], [122], [382]] = true := by
  have e : genv = ([98, 99, 100, 104, 107, 112, 114, 115, 116, 118, 122, 269, 353, 382] : List Nat).map fun a => W [a] := by kernel_rfl
  have h2 := any_single hS (ls := [98, 99, 269, 100, 104, 107, 112, 114, 115, 353, 116, 118, 122, 382])
  have h3 : anyE S [[98], [99], [269], [100], [104], [107], [112], [114], [115], [353], [116], [118], [122], [382]] = _ := h2
  rw [h3]
  unfold lastIn
  rw [e, any_is, perm_contains (l2 := [98, 99, 269, 100, 104, 107, 112, 114, 115, 353, 116, 118, 122, 382]) (by decide)]
  exact ⟨fun q => q.2, fun q => ⟨hS, q⟩⟩
theorem es_gev {S : List Nat} (hS : S ≠ []) : lastIn gev S ↔ anyE S [[104], [107], [110], [114], [116], [122]] = true := by
  have e : gev = ([104, 107, 110, 114, 116, 122] : List Nat).map fun a => W [a] := by kernel_rfl
  have h3 : anyE S [[104], [107], [110], [114], [116], [122]] = _ := any_single hS (ls := [104, 107, 110, 114, 116, 122])
  rw [h3]
  unfold lastIn
  rw [e, any_is]
  exact ⟨fun q => q.2, fun q => ⟨hS, q⟩⟩
theorem stepI {a r : Int} (h : a ≤ r) : r = a ∨ a + 1 ≤ r := by omega
theorem twelve {r : Int} (h : 1 ≤ r ∧ r ≤ 12) : r = 1 ∨ r = 2 ∨ r = 3 ∨ r = 4 ∨ r = 5 ∨ r = 6 ∨ r = 7 ∨ r = 8 ∨ r = 9 ∨ r = 10 ∨ r = 11 ∨ r = 12 :=
  (stepI h.1).imp id fun h1 => (stepI h1).imp id fun h1 => (stepI h1).imp id fun h1 => (stepI h1).imp id fun h1 => (stepI h1).imp id fun h1 => (stepI h1).imp id fun h1 => (stepI h1).imp id fun h1 => (stepI h1).imp id fun h1 => (stepI h1).imp id fun h1 => (stepI h1).imp id fun h1 => (stepI h1).imp id fun h1 => Int.le_antisymm h.2 h1
theorem case_law {L L1 : List Nat} {ip : Nat} (h : CaseR ip L L1) (hip : ip ≤ L.length) (hip3 : ip < L.length → 3 ≤ ip) : L1 = lawCase L ip := by
  obtain ⟨n, r, hh, hn, hc⟩ := h
  rw [Int.toNat_natCast, tab6_is] at hh
  rcases hit_sfx hh with ⟨k, hk, hr, hn2, hs, hb, hm⟩ | ⟨rfl, rfl, hb⟩
  · have tk := List.all_eq_true.mp cls_tab k (List.mem_range.mpr hk)
    rw [Bool.and_eq_true] at tk
    obtain ⟨ta, tb⟩ := tk
    unfold clsOk at ta
    unfold clsOk2 at tb
    generalize hen : (ek tab6 k).reverse = en at *
    simp only [Bool.and_eq_true, beq_iff_eq, decide_eq_true_eq] at ta tb
    obtain ⟨⟨⟨⟨⟨a1, hE⟩, hI⟩, hT⟩, hY⟩, hP⟩ := ta
    obtain ⟨⟨⟨⟨⟨⟨⟨⟨b4, b5⟩, b6⟩, b7⟩, b8⟩, b9⟩, b10⟩, b0⟩, bl⟩ := tb
    rw [← hr] at hE hI hT hY hP b4 b5 b6 b7 b8 b9 b10 b0
    have hnen : n = en.length := by rw [hn2, ← hen, List.length_reverse]
    have hmem : en ∈ foundIn L ip := List.mem_filter.mpr ⟨List.contains_iff_mem.mp a1, List.isSuffixOf_iff_suffix.mpr hs⟩
    have hmax : maxLen (foundIn L ip) = n := by
      apply Nat.le_antisymm
      · refine maxLen_le fun e he => ?_
        obtain ⟨j, hj, hje, hjs⟩ := found_tab he
        have := hm j hj (by rw [hje]; exact List.isSuffixOf_iff_suffix.mp hjs)
        rw [← hje, List.length_reverse]
        exact this
      · rw [hnen]; exact le_maxLen hmem
    have hdl : n ≤ L.length - ip := by
      have := hs.length_le
      rw [List.length_drop] at this
      omega
    have hLs : en <:+ L := hs.trans (List.drop_suffix _ _)
    have hen2 : L.drop (L.length - n) = en := by
      obtain ⟨Y, rfl⟩ := hLs
      rw [hnen, List.length_append, Nat.add_sub_cancel]
      simp
    have hlaw : lawCase L ip = lawEnd L (L.take (L.length - n)) en := by
      unfold lawCase
      cases hf : foundIn L ip with
      | nil => rw [hf] at hmem; cases hmem
      | cons e rr =>
        rw [hf] at hmax
        show lawEnd L (L.take (L.length - maxLen (e :: rr))) (L.drop (L.length - maxLen (e :: rr))) = _
        rw [hmax, hen2]
    rw [hlaw]
    have h3 := hip3 (by omega)
    have hSne : L.take (L.length - n) ≠ [] := fun q => by
      have := congrArg List.length q
      rw [List.length_take] at this
      simp at this
      omega
    generalize hSd : L.take (L.length - n) = S at *
    have hend : lawEnd L S en = if r = 2 then lawHard S false else if r = 12 then lawHard S true else if r = 11 then S ++ [116] else if r = 3 then (if bareB S = true then S else S ++ [101, 116]) else if r = 1 then S else lawFleet L S en := by
      unfold lawEnd
      rw [hE, hI, hT, hY, hP]
      simp only [decide_eq_true_eq]
    rw [hend]
    clear hend hlaw hE hI hT hY hP hmem hmax hen2 hLs hb hm a1
    obtain ⟨c0, c1, c2, c3, c4, c5, c6, c7, c8, c9, c10, c11, c12⟩ := hc
    have hcs : r = 1 ∨ r = 2 ∨ r = 3 ∨ r = 4 ∨ r = 5 ∨ r = 6 ∨ r = 7 ∨ r = 8 ∨ r = 9 ∨ r = 10 ∨ r = 11 ∨ r = 12 := twelve b0
    clear hr b0
    rcases hcs with hr | hr | hr | hr | hr | hr | hr | hr | hr | hr | hr | hr
    · rw [hr]
      exact c1 hr
    · rw [hr]
      exact palE_law (c2 hr)
    · rw [hr]
      obtain ⟨n3, r3, h3, e3⟩ := c3 hr
      rw [e3]
      show _ = if bareB S = true then S else S ++ [101, 116]
      rw [bare_law h3]
      by_cases q : r3 = 1
      · rw [if_pos q, if_pos (decide_eq_true q)]
      · rw [if_neg q, if_neg (by simpa using q)]
    · rw [hr]
      show L1 = lawFleet L S en
      rw [b4 hr]
      have v := fleet_val (L := L) (S := S) (i := 0) (r := ⟨[101, 98], [98], false, [[116, 345]]⟩) rfl
      have o := ok_iff (S := S) (r := ⟨[101, 98], [98], false, [[116, 345]]⟩)
      dsimp only at v o
      rw [v]
      have ea : anyE S [[116, 345]] = false ↔ ¬ [116, 345] <:+ S := by
        show ([116, 345].isSuffixOf S || false) = false ↔ _
        rw [Bool.or_false, Bool.eq_false_iff, ne_eq, List.isSuffixOf_iff_suffix]
      rcases c4 hr with ⟨q1, q2, e⟩ | ⟨q, e⟩
      · rw [if_pos (o.mpr ⟨(lastOut_iff hSne).mp q1, ea.mpr q2⟩), if_neg (by decide), hard_other (by decide)]
        exact e
      · rw [if_neg (fun z => q ⟨(lastOut_iff hSne).mpr (o.mp z).1, ea.mp (o.mp z).2⟩)]
        exact e
    · rw [hr]
      show L1 = lawFleet L S en
      rw [b5 hr]
      have v := fleet_val (L := L) (S := S) (i := 1) (r := ⟨[101, 99], [99], false, []⟩) rfl
      have o := ok_iff (S := S) (r := ⟨[101, 99], [99], false, []⟩)
      dsimp only at v o
      rw [v]
      rcases c5 hr with ⟨q1, e⟩ | ⟨q, e⟩
      · rw [if_pos (o.mpr ⟨(lastOut_iff hSne).mp q1, rfl⟩), if_neg (by decide)]
        exact palE_law e
      · rw [if_neg (fun z => q ((lastOut_iff hSne).mpr (o.mp z).1))]
        exact e
    · rw [hr]
      show L1 = lawFleet L S en
      rw [b6 hr]
      have v := fleet_val (L := L) (S := S) (i := 2) (r := ⟨[101, 107], [107], false, [[111, 98, 108], [115, 110], [100, 111, 116]]⟩) rfl
      have o := ok_iff (S := S) (r := ⟨[101, 107], [107], false, [[111, 98, 108], [115, 110], [100, 111, 116]]⟩)
      dsimp only at v o
      rw [v]
      have ea : anyE S [[111, 98, 108], [115, 110], [100, 111, 116]] = false ↔ ¬ AnyT rows4 S.reverse := by
        rw [anyT_iff, tab4_is, Bool.not_eq_true]
        exact Iff.rfl
      rcases c6 hr with ⟨q1, q2, e⟩ | ⟨q, e⟩
      · rw [if_pos (o.mpr ⟨(lastOut_iff hSne).mp q1, ea.mpr q2⟩), if_neg (by decide), hard_other (by decide)]
        exact e
      · rw [if_neg (fun z => q ⟨(lastOut_iff hSne).mpr (o.mp z).1, ea.mp (o.mp z).2⟩)]
        exact e
    · rw [hr]
      show L1 = lawFleet L S en
      rw [b7 hr]
      have v := fleet_val (L := L) (S := S) (i := 3) (r := ⟨[283, 107], [107], true, [[110]]⟩) rfl
      have o := ok_iff (S := S) (r := ⟨[283, 107], [107], true, [[110]]⟩)
      dsimp only at v o
      rw [v]
      have ea : anyE S [[110]] = true ↔ [110] <:+ S := by
        show ([110].isSuffixOf S || false) = true ↔ _
        rw [Bool.or_false, List.isSuffixOf_iff_suffix]
      rcases c7 hr with ⟨q1, e⟩ | ⟨q, e⟩
      · rw [if_pos (o.mpr ⟨no_vow (ea.mpr q1) (by decide), ea.mpr q1⟩), if_pos rfl, hard_other (by decide), e]
        simp
      · rw [if_neg (fun z => q (ea.mp (o.mp z).2))]
        exact e
    · rw [hr]
      show L1 = lawFleet L S en
      rw [b8 hr]
      have v := fleet_val (L := L) (S := S) (i := 4) (r := ⟨[101, 328], [110], true, [[98], [99], [269], [100], [104], [107], [112], [114], [115], [353], [116], [118], [122], [382]]⟩) rfl
      have o := ok_iff (S := S) (r := ⟨[101, 328], [110], true, [[98], [99], [269], [100], [104], [107], [112], [114], [115], [353], [116], [118], [122], [382]]⟩)
      dsimp only at v o
      rw [v]
      have ea := es_genv hSne
      rcases c8 hr with ⟨q1, e⟩ | ⟨q, e⟩
      · rw [if_pos (o.mpr ⟨no_vow (ea.mp q1) (by decide), ea.mp q1⟩), if_neg (by decide), hard_other (by decide)]
        exact e
      · rw [if_neg (fun z => q (ea.mpr (o.mp z).2))]
        exact e
    · rw [hr]
      show L1 = lawFleet L S en
      rw [b9 hr]
      have v := fleet_val (L := L) (S := S) (i := 5) (r := ⟨[101, 116], [116], true, [[104], [269], [117, 99], [111, 107], [107, 97, 114]]⟩) rfl
      have o := ok_iff (S := S) (r := ⟨[101, 116], [116], true, [[104], [269], [117, 99], [111, 107], [107, 97, 114]]⟩)
      dsimp only at v o
      rw [v]
      have ea : AnyT rows5 S.reverse ↔ anyE S [[104], [269], [117, 99], [111, 107], [107, 97, 114]] = true := by
        rw [anyT_iff, tab5_is, any_perm (l2 := [[104], [269], [117, 99], [111, 107], [107, 97, 114]]) (by decide)]
      rcases c9 hr with ⟨q1, e⟩ | ⟨q, e⟩
      · rw [if_pos (o.mpr ⟨no_vow (ea.mp q1) (by decide), ea.mp q1⟩), if_neg (by decide), hard_other (by decide)]
        exact e
      · rw [if_neg (fun z => q (ea.mpr (o.mp z).2))]
        exact e
    · rw [hr]
      show L1 = lawFleet L S en
      rw [b10 hr]
      have v := fleet_val (L := L) (S := S) (i := 6) (r := ⟨[101, 118], [118], true, [[104], [107], [110], [114], [116], [122]]⟩) rfl
      have o := ok_iff (S := S) (r := ⟨[101, 118], [118], true, [[104], [107], [110], [114], [116], [122]]⟩)
      dsimp only at v o
      rw [v]
      have ea := es_gev hSne
      rcases c10 hr with ⟨q1, e⟩ | ⟨q, e⟩
      · rw [if_pos (o.mpr ⟨no_vow (ea.mp q1) (by decide), ea.mp q1⟩), if_neg (by decide), hard_other (by decide)]
        exact e
      · rw [if_neg (fun z => q (ea.mpr (o.mp z).2))]
        exact e
    · rw [hr]
      exact c11 hr
    · rw [hr]
      exact palI_law (c12 hr)
  · have hnil : foundIn L ip = [] := by
      cases hf : foundIn L ip with
      | nil => rfl
      | cons e rr =>
        obtain ⟨j, hj, hje, hjs⟩ := found_tab (L := L) (ip := ip) (by rw [hf]; exact .head _)
        have := hb j hj
        rw [hje, hjs] at this
        cases this
    have : lawCase L ip = L := by unfold lawCase; rw [hnil]
    rw [this]
    exact hc.1 rfl
theorem stem_law {t L' : List Nat} (h : StemR t L') : L' = lawStem t := by
  unfold lawStem
  rcases h with ⟨h, rfl⟩ | ⟨h3, ip, L1, hm, hc, hp⟩
  · rw [if_pos h]
  · rw [if_neg (by omega)]
    have hip := mark_law hm h3
    subst hip
    obtain ⟨a1, a2⟩ := lawAhead_le h3
    have e1 := case_law hc a1 a2
    subst e1
    exact poss_law hp
end
section
open PySem PySem.W PySem.Calls PyProof.Rows
set_option maxHeartbeats 4000000
theorem loose_sub : ((looseW (qv pw) lse).all fun x => lse.contains x || (startupNames.contains x || (((recsOf (qv pw)).map (·.name)).contains x || (((litsOf (qv pw)).map (·.1)).contains x || ((clssOf (qv pw) lse).map (·.name)).contains x)))) = true := by kernel_rfl
theorem clss_sub : ((clssOf (qv pw) (looseW (qv pw) lse)).all fun d => ((clssOf (qv pw) lse).map (·.name)).contains d.name) = true := by kernel_rfl
theorem top_lse {mean : ExcName → Option Value} {mg mb : Str → Option Value} {h : Heap} (T : Top (qv pw) (looseW (qv pw) lse) mean mg mb h) : TopRead (qv pw) lse mg mb h := by
  refine ⟨T.g, T.b, T.nolimit, T.builtins, fun x h1 h2 h3 h4 h5 => T.free x h1 (fun q => ?_) h3 h4 fun q => ?_⟩
  · have := List.all_eq_true.mp loose_sub x q
    simp only [Bool.or_eq_true, List.contains_iff_mem] at this
    rcases this with r | r | r | r | r
    · exact h2 r
    · exact h1 r
    · exact h3 r
    · exact h4 r
    · exact h5 r
  · obtain ⟨d, hd, rfl⟩ := List.mem_map.mp q
    have := List.all_eq_true.mp clss_sub d hd
    rw [List.contains_iff_mem] at this
    exact h5 this
section
variable {w : World} {A : Around} {E : Value → Shared → Prop} {s : Shared} {env : Env} {h₀ : Heap} {target : Expr} {body : List Stmt} {Q : Flow → Shared → Prop}
/-- the turns of a for whose state is c, told by the objects nw c -/
theorem items_gen {σ : Type} {keep : List (Addr × Obj)} {I : Addr} {ct : String} (nw : σ → List (Addr × Obj)) (ps : List (Str × Value)) (J : Nat → σ → Prop) (vs : List Value) (hk : ∀ c, SubL keep (nw c))
    (turn : ∀ i v c u h tk o, vs[i]? = some v → J i c → Fr h₀ env.locals h (kstB u ps) → News h₀ env.locals h ((I, o) :: nw c) →
      wpAny (model pw w) A (assign target env v) (fun _ s₂ => wpAny (model pw w) A (execs body env) (fun f s₃ => match f with
        | .ret _ => False
        | .brk => False
        | _ => Halt (∃ c', J (i + 1) c' ∧ ∃ h' tk' m', s₃ = { s with heap := h', toks := tk' } ∧ Fr h₀ env.locals h' m' ∧ News h₀ env.locals h' ((I, o) :: nw c') ∧ AllIn m' ps)) (fun _ _ => False) s₂) (fun _ _ => False) { s with heap := h, toks := tk })
    (hI : ∀ c, ∀ p ∈ nw c, p.1 < I)
    (done : ∀ c u h tk, J vs.length c → Fr h₀ env.locals h (kstB u ps) → News h₀ env.locals h (nw c) → Q .next { s with heap := h, toks := tk })
    {m : Str → Option Value} (hm : AllIn m ps) {c : σ} (hJ : J 0 c) : ItemsRest pw w A E h₀ env target body Q s [(I, ct)] keep (vs.map .val) m (nw c) := by
  have key : ∀ (k i : Nat) (m : Str → Option Value) (c : σ), i + k = vs.length → AllIn m ps → J i c → ItemsRest pw w A E h₀ env target body Q s [(I, ct)] keep ((vs.drop i).map .val) m (nw c) := by
    intro k
    induction k with
    | zero =>
      intro i m c hi ha hj
      have e : vs.drop i = [] := List.drop_eq_nil_of_le (by lia)
      rw [e]
      refine ItemsRest.zero fun h tk F N => done c m h tk ?_ (fr_kst F ha) N
      have : i = vs.length := by lia
      rw [← this]; exact hj
    | succ k ih =>
      intro i m c hi ha hj
      have hlt : i < vs.length := by lia
      have e : vs.drop i = vs[i] :: vs.drop (i + 1) := List.drop_eq_getElem_cons hlt
      rw [e, List.map_cons]
      refine ItemsRest.val fun h tk F o ho N => ?_
      refine wpAny_mono (turn i vs[i] c m h tk o (List.getElem?_eq_getElem hlt) hj (fr_kst F ha) N) (fun _ s₂ h₂ => wpAny_mono h₂ (fun f s₃ h₃ => ?_) fun _ _ x => x.elim) fun _ _ x => x.elim
      have go : (∃ c', J (i + 1) c' ∧ ∃ h' tk' m', s₃ = { s with heap := h', toks := tk' } ∧ Fr h₀ env.locals h' m' ∧ News h₀ env.locals h' ((I, o) :: nw c') ∧ AllIn m' ps) → UnrEndW h₀ env.locals { s with heap := h, toks := tk } [(I, o)] (fun m' n' => SubL keep n' ∧ ItemsRest pw w A E h₀ env target body Q s [(I, ct)] keep ((vs.drop (i + 1)).map .val) m' n') s₃ := by
        rintro ⟨c', hj', h', tk', m', rfl, F', N', ha'⟩
        refine ⟨h', tk', m', nw c', rfl, F', N', fun p hp q hq => ?_, hk c', ih (i + 1) m' c' (by lia) ha' hj'⟩
        rw [List.mem_singleton.mp hq]
        exact Nat.ne_of_lt (hI c' p hp)
      cases f with
      | ret v => exact h₃.elim
      | brk => exact h₃.elim
      | next => exact go h₃
      | cont => exact go h₃
  exact key vs.length 0 m c (by lia) hm hJ
end
/-- the words so far: vs, the last one open -/
noncomputable def Words (i : Nat) (vs : List Value) : Prop := ∃ (pre : List Value) (xs : List (List Nat)) (x : List Nat) (t : Tok), vs = pre ++ [Value.str (W x) t] ∧ All2 isW xs pre ∧ pre.length ≤ i ∧ (∀ y ∈ xs, y.length ≤ 5 * i) ∧ x.length ≤ 5 * i
theorem words_use {i : Nat} {G : List Value → Prop} (k : ∀ (pre : List Value) (xs : List (List Nat)) (x : List Nat) (t : Tok), All2 isW xs pre → pre.length ≤ i → (∀ y ∈ xs, y.length ≤ 5 * i) → x.length ≤ 5 * i → G (pre ++ [Value.str (W x) t])) : ∀ vs, Words i vs → G vs := by
  rintro vs ⟨pre, xs, x, t, rfl, a, b, c, d⟩
  exact k pre xs x t a b c d
theorem st_use {w : World} {c : Obj} {G : Prop} (h : ∃ cur c' l lb bra ket oip, IsSt w cur c' l lb bra ket oip c) (k : ∀ cur c' l lb bra ket oip, IsSt w cur c' l lb bra ket oip c → G) : G := by
  obtain ⟨cur, c', l, lb, bra, ket, oip, hst⟩ := h
  exact k cur c' l lb bra ket oip hst
theorem stO_use {w : World} {cur : Str} {c l lb bra ket : Int} {oip : Option Int} {G : Obj → Prop} (K : ∀ k t, G (dictOf (EO w.params cur c l lb bra ket oip k t) (nO oip))) : ∀ od, IsSt w cur c l lb bra ket oip od → G od := by
  intro od I
  cases I <;> exact K _ _
theorem no_stemWord {P : Params} {cur : Str} {c l lb bra ket : Int} {oip : Option Int} {k t : Nat → Tok} : getL (Str.ofString "stemWord") (EO P cur c l lb bra ket oip k t) = some none := by cases oip <;> rfl
theorem method_stemWord {w : World} {A : Around} {E : Value → Shared → Prop} {Q : Value × List Value → Shared → Prop} {pl : Sem Bool} {s : Shared} {h₀ : Heap} {L x dx : Addr} {m : Str → Option Value} {news : List (Addr × Obj)} {cur : Str} {c l lb bra ket : Int} {oip : Option Int} {k t : Nat → Tok} (h : Q (.ref 189, [.ref x]) s) (F : Fr h₀ L s.heap m := by k_asm) (N : News h₀ L s.heap news := by k_asm) (X : (KK w.params).In h₀ := by k_asm)
    (h1 : (x, selfI dx) ∈ news := by k_mem) (h2 : (dx, dictOf (EO w.params cur c l lb bra ket oip k t) (nO oip)) ∈ news := by k_mem) :
    wpAny (model pw w) A (getMethod (.ref x) (Str.ofString "stemWord") pl) Q E s := method_inst F X (InstAt.of_news N h1 h2) (by k_is) (by k_is) (by k_is) no_stemWord h
theorem ints_get : ∀ {vs : List Value} {ns : List Int} {i : Nat} {v : Value}, IntsAre vs ns → vs[i]? = some v → ∃ a t, v = .int a t
  | _, _, _, _, .nil, h => by simp at h
  | _, _, 0, _, .cons x t r, h => by
    simp at h
    exact ⟨x, t, h.symm⟩
  | _, _, i + 1, _, .cons x t r, h => by
    simp only [List.getElem?_cons_succ] at h
    exact ints_get r h
theorem back_law {g h h' : Heap} {L dx a : Addr} {od od' : Obj} {m : Str → Option Value} {name : Str} {scope : Scope} {cd : Value} {n1 : List (Addr × Obj)} (F : Fr g L h m) (N : News g L h (n1 ++ [(dx, od)])) (hne : ∀ p ∈ n1, p.1 ≠ dx)
    (kb : KeepUp (fsOf [envOf name scope L a cd]) dx h h') (hd : h'.get? dx = some od') : Fr g L h' m ∧ News g L h' (n1 ++ [(dx, od')]) := by
  have nd := N (dx, od) (List.mem_append_right _ (.head _))
  have hfs : ∀ b, b ∈ fsOf [envOf name scope L a cd] → b = L := fun b q => by
    rcases kts_mem q with z | z
    · exact z
    · cases z
  have inL : L ∈ fsOf [envOf name scope L a cd] := List.mem_filterMap.mpr ⟨_, .head _, rfl⟩
  have nb : ∀ b o, g.get? b = some o → b ≠ dx := fun b o e q => by rw [q, nd.2.2] at e; cases e
  have nL : ∀ b o, g.get? b = some o → b ≠ L := fun b o e q => by rw [q, kts_self F] at e; cases e
  obtain ⟨oL, es, ep, hL, r⟩ := F.ns
  obtain ⟨sl, hsl⟩ := (kb L oL (Ne.symm nd.2.1) hL).2 inL
  refine ⟨⟨⟨{ oL with slots := sl }, es, ep, hsl, r⟩, fun b o e => (kb b o (nb b o e) (F.keep b o e)).1 fun q => nL b o e (hfs b q), F.above⟩, fun p hp => ?_⟩
  rcases List.mem_append.mp hp with hp | hp
  · have np := N p (List.mem_append_left _ hp)
    exact ⟨(kb p.1 p.2 (hne p hp) np.1).1 fun q => np.2.1 (hfs _ q), np.2⟩
  · rw [List.mem_singleton.mp hp]
    exact ⟨hd, nd.2⟩
theorem news_three {g h : Heap} {L : Addr} {p q r : Addr × Obj} {rest : List (Addr × Obj)} (N : News g L h (p :: q :: r :: rest)) : News g L h [p, q, r] := fun z hz => N z (by
  rcases List.mem_cons.mp hz with rfl | hz
  · exact .head _
  · rcases List.mem_cons.mp hz with rfl | hz
    · exact .tail _ (.head _)
    · rcases List.mem_cons.mp hz with rfl | hz
      · exact .tail _ (.tail _ (.head _))
      · cases hz)
theorem news_two {g h : Heap} {L : Addr} {p q r t : Addr × Obj} (N : News g L h [p, q, r, t]) : News g L h [r, t] := fun z hz => N z (.tail _ (.tail _ hz))
theorem ne_same {w : World} {A : Around} {E : Value → Shared → Prop} {s : Shared} {Q : Value → Shared → Prop} {x : Str} {t u : Tok} (h : Q (.bool false) s) : wpAny (model pw w) A (compareOp .NotEq (.str x t) (.str x u)) Q E s :=
  ne_str (by rw [bne_self_eq_false]; exact h)
theorem words_get {i j : Nat} {vs : List Value} {v : Value} (h : Words i vs) (hv : (vs.take 8)[j]? = some v) : ∃ y t, v = .str (W y) t ∧ y.length ≤ 5 * i := by
  obtain ⟨pre, xs, x, t, rfl, h1, h2, h3, h4⟩ := h
  have hv' : (pre ++ [Value.str (W x) t])[j]? = some v := by
    rw [List.getElem?_take] at hv
    split at hv
    · exact hv
    · cases hv
  have hm := List.mem_of_getElem? hv'
  rcases List.mem_append.mp hm with q | q
  · obtain ⟨y, hy, t', e⟩ : ∃ y ∈ xs, ∃ t', v = .str (W y) t' := by
      clear hv hv' hm h2 h3
      induction h1 with
      | nil => cases q
      | cons z _ ih =>
        rcases List.mem_cons.mp q with rfl | q
        · obtain ⟨t', e⟩ := z
          exact ⟨_, .head _, t', e⟩
        · obtain ⟨y, hy, r⟩ := ih q
          exact ⟨y, .tail _ hy, r⟩
    exact ⟨y, t', e, h3 y hy⟩
  · exact ⟨x, t, List.mem_singleton.mp q, h4⟩
local macro_rules | `(tactic| walk_at "subscriptTail Name Slice ref ref") => `(tactic| ((with_reducible show wpAny _ _ (subscriptTail (Expr.Name (Str.ofString "words") _) _ _ _) _ _ _); (refine Halt.out ?_)))
local macro_rules | `(tactic| walk_at "compareOp NotEq str str") => `(tactic| (refine ne_same ?_))
local macro_rules | `(tactic| walk_at "exec For Name Subscript cons nil") => `(tactic| (refine Halt.out ?_))
theorem letter_item' {w : World} {A : Around} {E : Value → Shared → Prop} {s : Shared} {Q : Value → Shared → Prop} {value slice : PySem.Expr} {k : Int} {t u : Tok} (h0 : 0 ≤ k) (h1 : k < 41) (h : ∀ t' k', Q (.str (W [letters.getD k.toNat 0]) t') { s with toks := k' })
    (hs : subscripted slice false (.str (W letters) t) (.int k u) = operate [.str (W letters) t, .int k u] (getItem (.str (W letters) t) (.int k u)) := by with_unfolding_all rfl)
    (ht : ∀ r, letTemporaryGo value (.str (W letters) t) r = pure () := by intro _; with_unfolding_all rfl) :
    wpAny (model pw w) A (subscriptTail value slice (.str (Str.ofString "aábcčdďeéěfghiíjklmnňoópqrřsštťuúůvwxyýzž") t) (.int k u)) Q E s := by
  rw [letters_is]; exact letter_item h0 h1 h hs ht
theorem fmod_in (a : Int) {b : Int} (h : 0 < b) : 0 ≤ a.fmod b ∧ a.fmod b < b := ⟨Int.fmod_nonneg_of_pos a h, Int.fmod_lt_of_pos a h⟩
theorem parts_le {k : Nat} : (parts.getD k []).length ≤ 5 := by
  by_cases h : k < parts.length
  · have h2 : (parts.all fun e => decide (e.length ≤ 5)) = true := by decide
    rw [List.getD_eq_getElem?_getD, List.getElem?_eq_getElem h]
    exact of_decide_eq_true (List.all_eq_true.mp h2 _ (List.getElem_mem h))
  · rw [List.getD_eq_getElem?_getD, List.getElem?_eq_none (by lia)]
    decide
theorem words_more {i : Nat} {pre : List Value} {xs : List (List Nat)} {x y : List Nat} {t : Tok} (h1 : All2 isW xs pre) (h2 : pre.length ≤ i) (h3 : ∀ y ∈ xs, y.length ≤ 5 * i) (h4 : x.length ≤ 5 * i) (hy : y.length ≤ 5) : Words (i + 1) (pre ++ [.str (W (x ++ y)) t]) :=
  ⟨pre, xs, x ++ y, t, rfl, h1, by lia, fun z hz => by have := h3 z hz; lia, by rw [List.length_append]; lia⟩
local macro_rules | `(tactic| walk_at "binaryOp Add str str") => `(tactic| ((with_reducible show wpAny _ _ (binaryOp Operator.Add (Value.str (W _) _) (Value.str (W _) _)) _ _ _); (refine Halt.out ?_)))
local macro_rules | `(tactic| walk_at "call builtin:chr") => `(tactic| ((with_reducible show wpAny _ _ (call (Value.builtin _) [_]) _ _ _); (refine Halt.out ?_)))
local macro_rules | `(tactic| walk_at "call builtin:list.append") => `(tactic| ((with_reducible show wpAny _ _ (call (Value.builtin _) _) _ _ _); (refine Halt.out ?_)))
local macro_rules | `(tactic| walk_at "subscriptTail Call BinOp ref int") => `(tactic| (refine Halt.out ?_))
local macro_rules | `(tactic| walk_at "subscriptTail") => `(tactic| ((with_reducible show wpAny _ _ (subscriptTail _ _ (Value.ref _) (Value.int _ _)) _ _ _); (refine Halt.out ?_)))
local macro_rules | `(tactic| walk_at "subscriptTail Name UnaryOp ref int") => `(tactic| ((with_reducible show wpAny _ _ (subscriptTail _ _ (Value.ref _) (Value.int _ _)) _ _ _); (refine Halt.out ?_)))
local macro_rules | `(tactic| walk_at "subscriptTail Name Name str int") => `(tactic| (refine Halt.out ?_))
local macro_rules | `(tactic| walk_at "setItem ref int") => `(tactic| (refine Halt.out ?_))
local macro_rules | `(tactic| walk_at "setItem ref int str") => `(tactic| (refine Halt.out ?_))
local macro_rules | `(tactic| w_nolog $_) => `(tactic| skip)
local macro_rules | `(tactic| walk_at "getMethod ref") => `(tactic| ((with_reducible show wpAny _ _ (getMethod _ (Str.ofString "stemWord") _) _ _ _); k_dflt (refine method_stemWord ?_)))
theorem law_main : PySem.Challenge.rw_iu0022_01.Holds := by
  refine law_holds (by rfl) (by rfl) (by rfl) ?_
  intro w s₀ s₁ mg mb G Y fa o pm cd doc dV kV ho hd hcd hD hmg hg args vals as hpre hlay hrd hwl hlo
  have KX := Y.kin
  k_behind G ho hd hcd hD hmg hpre hlay hrd hwl hlo cd
  rename Top _ _ _ _ _ _ => TT
  rename Below _ _ _ _ => K0
  have O : Ok w mg mb s₁.heap := ⟨Y, top_lse TT⟩
  rw [show rwL.row.prog = pw from rfl]
  first | (with_reducible refine hid_all s₁ ?_; intro _ _ _) | skip
  k_steps
  first | with_reducible refine Halt.mk ?_ | skip
  rename IntsAre _ _ => hI
  rename Heap.IsList _ _ _ => hL
  refine For_turns (by assumption) ?_
  k_steps
  first | with_reducible refine Halt.mk ?_ | skip
  rename IntsAre _ (List.take _ _) => hIt
  rename News _ _ _ _ => N0
  refine iter_listTurns (by rfl) (by assumption) N0 (.head _) rfl rfl fun I hI => ?_
  rename_i lw hx2 l1a hx1 tka tkb Ka Ha D ws hx F1 hC hL1 l1
  have hn40 : ws.length ≤ 40 := by have := hIt.length; rw [List.length_take] at this; lia
  have hIl : lw < I := hI _ (.tail _ (.head _))
  have hID : D < I := hI _ (.head _)
  refine items_gen (σ := List Value × Nat) (keep := [(D, listOf ws.toArray 0)]) (fun c => [(D, listOf ws.toArray 0), (lw, listOf c.1.toArray c.2)]) [("words", .ref lw)] (fun i c => Words i c.1) ws (fun c => ⟨.head _, trivial⟩) ?_ (fun c p hp => ?_) ?_ ?_ (c := ([Value.str (Str.ofString "") _], 0)) ⟨[], [], [], _, rfl, .nil, Nat.zero_le _, fun y hy => (by cases hy), Nat.zero_le _⟩
  · rintro i v ⟨vs, n⟩ u h tk2 o hv hW F N
    dsimp only at hW N
    revert N
    revert hW
    revert vs
    refine words_use ?_
    intro pre xs x t hpre1 hpre2 hpre3 hx3 N
    obtain ⟨a, ta, hva⟩ : ∃ a ta, v = .int a ta := ints_get hIt hv
    subst hva
    have hi40 : i < 40 := by have := (List.getElem?_eq_some_iff.mp hv).1; lia
    have hne : D ≠ lw := Ne.symm (Nat.ne_of_lt l1)
    clear N0 F1 hI hIt hC hL1
    dsimp only at F N
    obtain ⟨hk0, hk1⟩ := fmod_in a (show (0 : Int) < 150 by decide)
    have hIlw : I ≠ lw := Ne.symm (Nat.ne_of_lt hIl)
    k_steps
    · first | with_reducible refine Halt.mk ?_ | skip
      refine get_last (by assumption) (.tail _ (.tail _ (.head _))) (by lia) ?_
      k_steps
      first | with_reducible refine Halt.mk ?_ | skip
      refine letter_item' (by lia) (by lia) (fun t5 k5 => ?_)
      k_steps
      first | with_reducible refine Halt.mk ?_ | skip
      refine x_add ?_ (fun t6 k6 => ?_)
      · simp; lia
      k_steps
      first | with_reducible refine Halt.mk ?_ | skip
      refine set_last (by assumption) (by assumption) (by k_upd) (by lia) (fun h7 F7 N7 => ?_)
      k_steps
      exact Halt.mk ⟨(_, _), words_more (y := [letters.getD (a.fmod 150).toNat 0]) hpre1 hpre2 hpre3 hx3 (by simp), _, _, _, rfl, (by assumption), (by assumption), ⟨rfl, trivial⟩⟩
    · first | with_reducible refine Halt.mk ?_ | skip
      refine get_last (by assumption) (.tail _ (.tail _ (.head _))) (by lia) ?_
      k_steps
      first | with_reducible refine Halt.mk ?_ | skip
      refine law_parts (by show callerA.depth + 1 + 40 < recursionLimit; decide) (O.keeps (Fr.keep (by assumption))) (fun D5 h5 tk5 up5 hD5 => ?_)
      have F5 := Fr.keeps (by assumption) up5
      have N5 := News.grown (by assumption) up5
      clear up5
      try dsimp only
      k_steps
      first | with_reducible refine Halt.mk ?_ | skip
      refine part_item hD5 (by lia) (by show _ < (parts.length : Int); rw [show parts.length = 70 from rfl]; lia) (by decide) (fun t5 => ?_)
      k_steps
      first | with_reducible refine Halt.mk ?_ | skip
      have hpl := parts_le (k := (a.fmod 150 - 41).toNat)
      refine x_add ?_ (fun t6 k6 => ?_)
      · lia
      k_steps
      first | with_reducible refine Halt.mk ?_ | skip
      refine set_last (by assumption) (by assumption) (by k_upd) (by lia) (fun h7 F7 N7 => ?_)
      k_steps
      exact Halt.mk ⟨(_, _), words_more hpre1 hpre2 hpre3 hx3 hpl, _, _, _, rfl, (by assumption), (by assumption), ⟨rfl, trivial⟩⟩
    · first | with_reducible refine Halt.mk ?_ | skip
      refine get_last (by assumption) (.tail _ (.tail _ (.head _))) (by lia) ?_
      k_steps
      first | with_reducible refine Halt.mk ?_ | skip
      obtain ⟨hc0, hc1⟩ := fmod_in (a.fdiv 150) (show (0 : Int) < 55000 by decide)
      refine x_chr (by lia) (by lia) (fun t5 k5 => ?_)
      k_steps
      first | with_reducible refine Halt.mk ?_ | skip
      refine x_add ?_ (fun t6 k6 => ?_)
      · simp; lia
      k_steps
      first | with_reducible refine Halt.mk ?_ | skip
      refine set_last (by assumption) (by assumption) (by k_upd) (by lia) (fun h7 F7 N7 => ?_)
      k_steps
      exact Halt.mk ⟨(_, _), words_more (y := [(32 + (a.fdiv 150).fmod 55000).toNat]) hpre1 hpre2 hpre3 hx3 (by simp), _, _, _, rfl, (by assumption), (by assumption), ⟨rfl, trivial⟩⟩
    · first | with_reducible refine Halt.mk ?_ | skip
      refine append_K (by assumption) (by assumption) (by k_upd) (fun h7 F7 N7 => ?_) (by simp; rw [PySem.sizeLine_eq]; lia)
      rw [List.push_toArray, show Str.ofString "" = W [] from by kernel_rfl] at N7
      k_steps
      refine Halt.mk ⟨(pre ++ [Value.str (W x) t] ++ [Value.str (W []) _], n + 1), ?_, _, _, _, rfl, (by assumption), N7, ⟨rfl, trivial⟩⟩
      exact ⟨pre ++ [.str (W x) t], xs ++ [x], [], _, rfl, hpre1.snoc ⟨t, rfl⟩, by simp; lia, fun y hy => (by
        rcases List.mem_append.mp hy with q | q
        · have := hpre3 y q; lia
        · rw [List.mem_singleton.mp q]; lia), by simp⟩
  · rcases List.mem_cons.mp hp with rfl | hp
    · exact hID
    · rcases List.mem_cons.mp hp with rfl | hp
      · exact hIl
      · cases hp
  · rintro ⟨vs, n⟩ u h tk2 hW F N
    dsimp only at hW N
    revert N
    revert hW
    revert vs
    refine words_use ?_
    intro pre xs x t hpre1 hpre2 hpre3 hx3 N
    dsimp only at F N
    clear N0 F1 hI hIt hC hL1
    k_steps
    first | with_reducible refine Halt.mk ?_ | skip
    refine' call_cls ?k1 ?k2 ?k3 ?k4 ?k5 ?k6 ?_
    case k1 => k_asm
    case k2 => k_asm
    case k3 => k_asm
    case k4 => k_is
    case k5 => k_is
    case k6 => k_is
    intro xx dd h9 F9 N9 l91 l92
    (try k_lt l91)
    (try k_lt2 l92)
    (try k_sweep)
    first | k_enter | fail
    k_steps
    first | with_reducible refine Halt.mk ?_ | skip
    refine wpAny_call ?_
    first | k_enter | fail
    k_steps
    first | with_reducible refine Halt.mk ?_ | skip
    refine For_turns (by assumption) ?_
    k_steps
    first | with_reducible refine Halt.mk ?_ | skip
    rename Fr _ _ _ _ => F11
    rename News _ _ _ _ => N11
    refine slice_list (s := ⟨_, _, _, _, _⟩) (items := (pre ++ [Value.str (W x) t]).toArray) (lo := none) (hi := some 8) F11 N11 (News.isList N11 (by k_mem)) .none (.int 8 _) (fun h12 F12 N12 => ?_) (hsz := by simp; rw [PySem.sizeLine_eq]; lia)
    rw [show slicePick (pre ++ [Value.str (W x) t]).toArray none (some 8) none = ((pre ++ [Value.str (W x) t]).take 8).toArray from slicePick_upto' _ 8] at N12
    have hWo : Words ws.length (pre ++ [Value.str (W x) t]) := ⟨pre, xs, x, t, rfl, hpre1, hpre2, hpre3, hx3⟩
    generalize (pre ++ [Value.str (W x) t]) = wv at N12 hWo
    obtain ⟨S, hS, N13⟩ : ∃ S, S = _ ∧ News TT.heap s₁.heap.objs.size h12 ((S, { cls := .type "list", data := .seq (wv.take 8).toArray }) :: _) := ⟨_, rfl, N12⟩
    rw [← hS]
    clear N12 N11 F11
    k_steps
    first | with_reducible refine Halt.mk ?_ | skip
    refine iter_listTurns (by rfl) (by assumption) (news_three N13) (.head _) rfl rfl fun I2 hI2 => ?_
    have hnex : xx ≠ dd := Ne.symm (Nat.ne_of_lt l92)
    have hneS : S ≠ dd := fun q => by
      have h1 := (N13 (S, _) (.head _)).1
      have h2 := (N13 (dd, _) (.tail _ (.tail _ (.head _)))).1
      rw [q] at h1
      have h3 := congrArg Obj.cls (Option.some.inj (h1.symm.trans h2))
      injection h3 with h4
      exact absurd h4 (by decide)
    have hIS : S < I2 := hI2 _ (.head _)
    have hIx : xx < I2 := hI2 _ (.tail _ (.head _))
    have hId : dd < I2 := hI2 _ (.tail _ (.tail _ (.head _)))
    clear N13 hI2
    refine items_gen (σ := Obj) (keep := [(S, { cls := .type "list", data := .seq (wv.take 8).toArray })]) (fun c => [(S, { cls := .type "list", data := .seq (wv.take 8).toArray }), (xx, selfI dd), (dd, c)]) [("czech", .ref xx)] (fun _ c => ∃ cur c' l lb bra ket oip, IsSt w cur c' l lb bra ket oip c) (wv.take 8) (fun c => ⟨.head _, trivial⟩) ?_ (fun c p hp => ?_) ?_ ⟨rfl, trivial⟩ ⟨_, _, _, _, _, _, none, .of6 ..⟩
    · intro i v c u h13 tk13 o13 hv hst F14 N14
      refine st_use hst ?_
      clear hst
      intro cur c' l lb bra ket oip hst
      obtain ⟨y, ty, rfl, hy⟩ := words_get hWo hv
      have hy7 : y.length ≤ 700 := by lia
      revert N14
      revert hst
      revert c
      refine stO_use ?_
      intro k0 t0 N14
      k_steps
      first | with_reducible refine Halt.mk ?_ | skip
      rename Fr _ _ _ _ => F15
      rename News _ _ _ _ => N15
      have N16 : News TT.heap s₁.heap.objs.size _ [(xx, selfI dd), (dd, _)] := news_two N15
      refine stem_word (by show callerA.depth + 1 + 80 < recursionLimit; decide) (by rfl) (me_deep O K0 F15 N16 hnex).2 (me_deep (name := Str.ofString "") (scope := ⟨.function, [], false, false, []⟩) (a := 0) (cd := .none) O K0 F15 N16 hnex).1 (.ofO ..) hy7 (fun L2 t2 cur2 c2 l2 lb2 bra2 ket2 oip2 hs2 => ?_)
      intro h2 tk2 od2 kb2 M2 D2 hd2
      have hL2 := stem_law hs2
      subst hL2
      obtain ⟨F17, N17⟩ := back_law (n1 := [(I2, o13), (S, { cls := .type "list", data := .seq (wv.take 8).toArray }), (xx, selfI dd)]) F15 N15 (fun p hp => by
        rcases List.mem_cons.mp hp with rfl | hp
        · exact Ne.symm (Nat.ne_of_lt hId)
        · rcases List.mem_cons.mp hp with rfl | hp
          · exact hneS
          · rcases List.mem_cons.mp hp with rfl | hp
            · exact hnex
            · cases hp) kb2 M2.id
      simp only [List.cons_append, List.nil_append] at N17
      clear kb2 M2 D2 hs2 F15 N15 N16
      try dsimp only
      k_steps
      first | with_reducible refine Halt.mk ?_ | skip
      refine law_stem (by show callerA.depth + 1 + 100 < recursionLimit; decide) (by rfl) (by show callerA.units + 3 + 700 < cLine; decide) (O.keeps (Fr.keep F17)) hy7 (fun t9 => ?_)
      intro h3 tk3 up3
      have F18 := Fr.keeps F17 up3
      have N18 := News.grown N17 up3
      clear up3 F17 N17
      try dsimp only
      k_steps
      exact Halt.mk ⟨od2, ⟨_, _, _, _, _, _, _, hd2⟩, _, _, _, rfl, F18, N18, ⟨rfl, trivial⟩⟩
    · rcases List.mem_cons.mp hp with rfl | hp
      · exact hIS
      · rcases List.mem_cons.mp hp with rfl | hp
        · exact hIx
        · rcases List.mem_cons.mp hp with rfl | hp
          · exact hId
          · cases hp
    · rintro c u h13 tk13 - F14 N14
      k_steps
  · exact ⟨rfl, trivial⟩
end
end Mine
set_option maxHeartbeats 4000000 in
theorem PySem.Challenge.cw_iu0022_01_holds : PySem.Challenge.rw_iu0022_01.Holds := by
  exact Mine.law_main
