import PyProof.Rows.All
import Wide.All
import OpenK.AllK
import Wide.FinOn
import KE.KIntText
import KE.KRevSl
import Lean
import PySem.Challenge.RW_tp0058_03
set_option maxRecDepth 100000
set_option Elab.async false
set_option linter.all false
set_option genSizeOf false
set_option genSizeOfSpec false
local macro_rules | `(tactic| rfl') => `(tactic| kernel_rfl)
section
open PySem PySem.W PyProof.Rows
namespace Mine
section
variable (tb : String → Option Builtin) (prog : Program) (w : World)
mutual
noncomputable def evT : Nat → Ctx → {α : Type} → Sem α → Pos → SharedT → Option (Except Value α × Pos × SharedT)
  | 0, _, _, _, _, _ => none
  | n + 1, Γ, _, t, p, ⟨T, m, life, gens, drawn, toks, os⟩ => match t with
    | .pure a => some (.ok a, p, ⟨T, m, life, gens, drawn, toks, os⟩)
    | .raise e => some (.error e, p, ⟨T, m, life, gens, drawn, toks, os⟩)
    | .rule _ k => evT n Γ (k ()) p ⟨T, m, life, gens, drawn, toks, os⟩
    | .at q k => evT n Γ (k ()) q ⟨T, m, life, gens, drawn, toks, os⟩
    | .load a _ k => match Nat.blt a m with
      | true => match T.get a with
        | some o => match alive o with
          | some o' => evT n Γ (k o') p ⟨T, m, life, gens, drawn, toks, os⟩
          | none => none
        | none => none
      | false => none
    | .update a _ f k => match Nat.blt a m with
      | true => match T.get a with
        | some o => match alive o with
          | some _ => evT n Γ (k ()) p ⟨T.set a f, m, life, gens, drawn, toks, os⟩
          | none => none
        | none => none
      | false => none
    | .alloc o k => match ((T.ins m o).get m).isSome with
      | true => evT n Γ (k m) p ⟨T.ins m o, m + 1, life, gens, drawn, toks, os⟩
      | false => none
    | .loadIfAlive a k => match Nat.blt a m with
      | true => match T.get a with
        | some o => evT n Γ (k (alive o)) p ⟨T, m, life, gens, drawn, toks, os⟩
        | none => none
      | false => evT n Γ (k none) p ⟨T, m, life, gens, drawn, toks, os⟩
    | .point _ k => evT n Γ (k ()) p ⟨T, m, life, gens, drawn, toks, os⟩
    | .fresh k => evT n Γ (k toks) p ⟨T, m, life, gens, drawn, toks + 1, os⟩
    | .ask k => evT n Γ (k ⟨prog, w.params⟩) p ⟨T, m, life, gens, drawn, toks, os⟩
    | .handled own k => evT n Γ (k (match own with | true => Γ.own | false => Γ.handled)) p ⟨T, m, life, gens, drawn, toks, os⟩
    | .stack k => evT n Γ (k ((Γ.code, p) :: Γ.below)) p ⟨T, m, life, gens, drawn, toks, os⟩
    | .thread k => evT n Γ (k 0) p ⟨T, m, life, gens, drawn, toks, os⟩
    | .call c h _ _ k => match evC n (Γ.enter c h p) p ⟨T, m, life, gens, drawn, toks, os⟩ with
      | some (r, s') => evT n Γ (k r) p s'
      | none => none
    | _ => none
noncomputable def evC : Nat → Ctx → Pos → SharedT → Option (Result × SharedT)
  | 0, _, _, _ => none
  | n + 1, Γ, p, s => match evT n Γ (denote tb Γ.code) p s with
    | some (.ok (.done f), _, s') => some (.ok f, s')
    | some (.error e, _, s') => some (.error e, s')
    | some (.ok (.again c), p', s') => match c.quiet with
      | true => evC n (Γ.goto c) p' s'
      | false => none
    | none => none
end
end
open Sem (wp)
theorem get_of {T : BT} {m : Nat} {life : Life} {a : Nat} {o o' : Obj} (e : Nat.blt a m = true) (g : T.get a = some o) (al : alive o = some o') : (absHeap T m life).get? a = some o' := by
  rw [abs_get (Nat.le_of_ble_eq_true e) g, al]
mutual
theorem evT_sound (prog : Program) (w : World) : ∀ (n : Nat) (Γ : Ctx) {α : Type} (t : Sem α) (p : Pos) (s : SharedT) (r : Except Value α) (p' : Pos) (s' : SharedT),
    evT table prog w n Γ t p s = some (r, p', s') → ∀ (Q : α → Pos → Shared → Prop) (E : Value → Pos → Shared → Prop),
    (match r with | .ok a => Q a p' s'.abs | .error e => E e p' s'.abs) → wp (model prog w) Γ t Q E p s.abs
  | 0, _, _, _, _, _, _, _, _, h => by simp [evT] at h
  | n + 1, Γ, α, t, p, ⟨T, m, life, gens, drawn, toks, os⟩, r, p', s', h => by
    intro Q E hQ
    cases t with
    | pure a => simp only [evT, Option.some.injEq, Prod.mk.injEq] at h; obtain ⟨rfl, rfl, rfl⟩ := h; rw [wp]; exact hQ
    | raise e => simp only [evT, Option.some.injEq, Prod.mk.injEq] at h; obtain ⟨rfl, rfl, rfl⟩ := h; rw [wp]; exact hQ
    | rule tag k => simp only [evT] at h; rw [wp]; exact evT_sound prog w n Γ _ _ _ _ _ _ h Q E hQ
    | «at» q k => simp only [evT] at h; rw [wp]; exact evT_sound prog w n Γ _ _ _ _ _ _ h Q E hQ
    | load a part k =>
      simp only [evT] at h
      split at h
      · rename_i e
        split at h
        · rename_i o g
          split at h
          · rename_i o' al
            rw [wp]
            exact ⟨o', get_of e g al, evT_sound prog w n Γ _ _ _ _ _ _ h Q E hQ⟩
          · cases h
        · cases h
      · cases h
    | update a part f k =>
      simp only [evT] at h
      split at h
      · rename_i e
        split at h
        · rename_i o g
          split at h
          · rename_i o' al
            rw [wp]
            refine ⟨by show ((absHeap T m life).get? a).isSome = true; rw [get_of e g al]; rfl, ?_⟩
            have := evT_sound prog w n Γ _ _ _ _ _ _ h Q E hQ
            show wp (model prog w) Γ (k ()) Q E p ⟨(absHeap T m life).update a f, gens, drawn, toks, os⟩
            rw [← absHeap_set g]
            exact this
          · cases h
        · cases h
      · cases h
    | alloc o k =>
      simp only [evT] at h
      split at h
      · rename_i e
        rw [wp]
        have := evT_sound prog w n Γ _ _ _ _ _ _ h Q E hQ
        show wp (model prog w) Γ (k (absHeap T m life).objs.size) Q E p ⟨(absHeap T m life).push o, gens, drawn, toks, os⟩
        rw [← absHeap_ins e, absHeap_size]
        exact this
      · cases h
    | loadIfAlive a k =>
      simp only [evT] at h
      split at h
      · rename_i e
        split at h
        · rename_i o g
          rw [wp]
          show wp (model prog w) Γ (k ((absHeap T m life).get? a)) Q E p ⟨absHeap T m life, gens, drawn, toks, os⟩
          rw [abs_get (Nat.le_of_ble_eq_true e) g]
          exact evT_sound prog w n Γ _ _ _ _ _ _ h Q E hQ
        · cases h
      · rename_i e
        rw [wp]
        show wp (model prog w) Γ (k ((absHeap T m life).get? a)) Q E p ⟨absHeap T m life, gens, drawn, toks, os⟩
        rw [abs_get_none (fun q => by rw [show Nat.blt a m = true from Nat.ble_eq_true_of_le q] at e; cases e)]
        exact evT_sound prog w n Γ _ _ _ _ _ _ h Q E hQ
    | point l k => simp only [evT] at h; rw [wp]; exact evT_sound prog w n Γ _ _ _ _ _ _ h Q E hQ
    | fresh k => simp only [evT] at h; rw [wp]; exact evT_sound prog w n Γ _ _ _ _ _ _ h Q E hQ
    | ask k => simp only [evT] at h; rw [wp]; exact evT_sound prog w n Γ _ _ _ _ _ _ h Q E hQ
    | handled own k =>
      simp only [evT] at h
      rw [wp]
      have := evT_sound prog w n Γ _ _ _ _ _ _ h Q E hQ
      cases own <;> exact this
    | stack k => simp only [evT] at h; rw [wp]; exact evT_sound prog w n Γ _ _ _ _ _ _ h Q E hQ
    | thread k => simp only [evT] at h; rw [wp]; exact evT_sound prog w n Γ _ _ _ _ _ _ h Q E hQ
    | call c hd g l k =>
      simp only [evT] at h
      split at h
      · rename_i r' s₁ e
        rw [wp]
        exact evC_sound prog w n _ _ _ _ _ e _ (evT_sound prog w n Γ _ _ _ _ _ _ h Q E hQ)
      · cases h
    | _ => simp [evT] at h
theorem evC_sound (prog : Program) (w : World) : ∀ (n : Nat) (Γ : Ctx) (p : Pos) (s : SharedT) (r : Result) (s' : SharedT), evC table prog w n Γ p s = some (r, s') →
    ∀ (R : Result → Shared → Prop), R r s'.abs → wpCode (model prog w) Γ R p s.abs
  | 0, _, _, _, _, _, h => by simp [evC] at h
  | n + 1, Γ, p, s, r, s', h => by
    intro R hR
    have key : wp (model prog w) Γ (denote table Γ.code) (Sem.finPost (model prog w) Γ R) (fun e _ s' => R (.error e) s') p s.abs := by
      simp only [evC] at h
      split at h
      · rename_i f p₁ s₁ e
        simp only [Option.some.injEq, Prod.mk.injEq] at h
        obtain ⟨rfl, rfl⟩ := h
        exact evT_sound prog w n Γ _ _ _ _ _ _ e _ _ hR
      · rename_i e' p₁ s₁ e
        simp only [Option.some.injEq, Prod.mk.injEq] at h
        obtain ⟨rfl, rfl⟩ := h
        exact evT_sound prog w n Γ _ _ _ _ _ _ e _ _ hR
      · rename_i c p₁ s₁ e
        split at h
        · rename_i hq
          exact evT_sound prog w n Γ _ _ _ _ _ _ e _ _ ⟨hq, evC_sound prog w n _ _ _ _ _ h R hR⟩
        · cases h
      · cases h
    obtain ⟨r, s'', hr, h'⟩ := (Sem.wp_iff_runs (model prog w) Γ _ R p s.abs).mp key
    exact ⟨r, s'', hr, h'⟩
end
end Mine
namespace Mine
open PySem PySem.W PyProof.Rows
noncomputable def listNewQ : { B : Builtin // Builtin.«list.__new__» = B } := ⟨_, by unfold Builtin.«list.__new__»; rw [splitQ_eq]⟩
noncomputable def cListNew : Nat := PySem.code "list.__new__"
noncomputable def tbQ (id : String) : Option Builtin := match Nat.beq (PySem.code id) cListNew with
  | true => some listNewQ.1
  | false => treeTable id
theorem table_eq_Q : table = tbQ := by
  rw [table_eq_tree]
  funext id
  unfold tbQ
  cases h : Nat.beq (PySem.code id) cListNew with
  | false => rfl
  | true =>
    have : id = "list.__new__" := code_inj _ _ (Nat.eq_of_beq_eq_true h)
    subst this
    show treeTable "list.__new__" = some listNewQ.1
    rw [← listNewQ.2]
    rfl'
end Mine
namespace Mine
open PySem PySem.W PyProof.Rows
theorem schedN_of_running {p : Program} {w : World} {n : Nat} {s : Shared} {t : Thread} {s' : Shared} {t' : Thread} (hr : s.asleep)
    (h : runNI (denote table) p w n s t = .running s' t') :
    ∃ σ tau, schedN (denote table) p w n (.single s t) = .running (.single σ tau) ∧ σ.forget = s'.forget ∧ tau.forget = t'.forget := by
  obtain ⟨σ, tau, h1, h2, h3⟩ := runNI_running_real h
  refine ⟨σ, tau, ?_, h2, h3⟩
  rw [schedN_prefix (denote table) p w n s t hr, h1]
  · rfl
  · intro k s₁ t₁ hk h₁
    obtain ⟨s₂, t₂, h₂⟩ := runNI_prefix (Nat.le_of_lt hk) h
    obtain ⟨s₃, t₃, h₃⟩ := runNI_prefix (k := k + 1) hk h
    obtain ⟨σ₂, tau₂, g1, g2, g3⟩ := runNI_running_real h₂
    rw [h₁] at g1
    obtain ⟨rfl, rfl⟩ : s₁ = σ₂ ∧ t₁ = tau₂ := by simpa using g1
    obtain ⟨σ₃, tau₃, k1, _, _⟩ := runNI_running_real h₃
    refine ⟨?_, fun hx => ?_⟩
    · have hstep : stepI (denote table) p w s₂ t₂ = .go s₃ t₃ := by
        have e : ∀ (k : Nat) (s : Shared) (t : Thread) (s₂ : Shared) (t₂ : Thread), runNI (denote table) p w k s t = .running s₂ t₂ → runNI (denote table) p w (k + 1) s t = .running s₃ t₃ → stepI (denote table) p w s₂ t₂ = .go s₃ t₃ := by
          intro k
          induction k with
          | zero =>
            intro s t s₂ t₂ a b
            obtain ⟨rfl, rfl⟩ : s = s₂ ∧ t = t₂ := by simpa [runNI] using a
            simp only [runNI] at b
            cases q : stepI (denote table) p w s t with
            | go x y => rw [q] at b; obtain ⟨rfl, rfl⟩ : x = s₃ ∧ y = t₃ := by simpa using b
                        rfl
            | halt x y => rw [q] at b; cases b
          | succ k ih =>
            intro s t s₂ t₂ a b
            rw [runNI] at a b
            cases q : stepI (denote table) p w s t with
            | go x y => rw [q] at a b; exact ih x y s₂ t₂ a b
            | halt x y => rw [q] at a; cases a
        exact e k s t s₂ t₂ h₂ h₃
      rw [← Thread.calm_forget, g3, Thread.calm_forget, Thread.calm_eq]
      cases hl : t₂.loud with
      | true => rw [stepI_loud _ _ _ hl] at hstep; cases hstep
      | false =>
        cases hf : t₂.refused with
        | false => rfl
        | true =>
          rw [stepI_quiet _ _ _ hl] at hstep
          obtain ⟨what, e⟩ := stepK_refused (den := denote table) (prog := p) (w := w) (s := s₂) hf
          rw [e] at hstep; cases hstep
    · have : runN (denote table) p w (k + 1) s t = .halted (.unsupported "lifetime:generator-with-cleanup-left-suspended") s₁ := by
        have e : ∀ (k : Nat) (s : Shared) (t : Thread), runN (denote table) p w k s t = .running s₁ t₁ → runN (denote table) p w (k + 1) s t = .halted (.unsupported "lifetime:generator-with-cleanup-left-suspended") s₁ := by
          intro k
          induction k with
          | zero =>
            intro s t a
            obtain ⟨rfl, rfl⟩ : s = s₁ ∧ t = t₁ := by simpa [runN] using a
            simp only [runN, hx]
          | succ k ih =>
            intro s t a
            rw [runN] at a ⊢
            cases q : step (denote table) p w s t with
            | go x y => rw [q] at a; exact ih x y a
            | halt x y => rw [q] at a; cases a
        exact e k s t h₁
      rw [this] at k1; cases k1
theorem forget_eq {σ s : Shared} (h : σ.forget = s.forget) (hg : s.gens = #[]) : σ = s := by
  obtain ⟨h1, g1, d1, t1, o1⟩ := σ
  obtain ⟨h2, g2, d2, t2, o2⟩ := s
  simp only [Shared.forget, Shared.mk.injEq] at h
  obtain ⟨rfl, hgens, rfl, rfl, rfl⟩ := h
  dsimp only at hg
  subst hg
  have : g1 = #[] := by
    have := congrArg Array.size hgens
    simp at this
    exact this
  rw [this]
theorem run_of_wp {p : Program} {w : World} {s₀ : Shared} {R : Shared → Prop} (hz : s₀.asleep)
    (hw : Sem.wp (model p w) (Ctx.of (.builtin "claim.caller" {}) []) (topStub p).cur (fun a _ s' => (∃ f, a = Fin.done f) ∧ R s') (fun _ _ _ => False) default s₀)
    (hg : ∀ s, R s → s.gens = #[]) :
    ∃ s₁, R s₁ ∧ ∃ n t, schedN (denote table) p w n (.single s₀ (topStub p)) = .running (.single s₁ t) ∧ through t = true := by
  have hw' : Sem.wp (model p w) (Ctx.of (.builtin "claim.caller" {}) []) (topStub p).cur
      (Sem.finPost (model p w) (Ctx.of (.builtin "claim.caller" {}) []) fun r s' => (∃ f, r = .ok f) ∧ R s') (fun e _ s' => (∃ f, (Except.error e : Result) = .ok f) ∧ R s') default s₀ := by
    refine Sem.wp_mono _ _ _ (fun a p' s' h => ?_) (fun _ _ _ h => h.elim) _ _ hw
    obtain ⟨⟨f, rfl⟩, h⟩ := h
    exact ⟨⟨f, rfl⟩, h⟩
  obtain ⟨n, r, s', c', p', hn, ⟨f, rfl⟩, hR⟩ := wp_runN hw'
  obtain ⟨σ, tau, hs, h1, h2⟩ := schedN_of_running (p := p) (w := w) hz hn
  obtain rfl := forget_eq h1 (hg _ hR)
  refine ⟨σ, hR, n, tau, hs, ?_⟩
  obtain ⟨cur, code, pos, stack⟩ := tau
  simp only [Thread.forget, Thread.mk.injEq, forgetAll] at h2
  obtain ⟨rfl, rfl, rfl, h5⟩ := h2
  have : stack = [] := by cases stack with | nil => rfl | cons x xs => simp at h5
  subst this
  rfl
theorem wp_execs_append {M : Model} {Γ : Ctx} {env : Env} {Q : Flow → Pos → Shared → Prop} {E : Value → Pos → Shared → Prop} : ∀ (l r : List Stmt) (p : Pos) (s : Shared),
    Sem.wp M Γ (execs l env) (fun f p' s' => match f with | .next => Sem.wp M Γ (execs r env) Q E p' s' | f => Q f p' s') E p s → Sem.wp M Γ (execs (l ++ r) env) Q E p s
  | [], r, p, s, h => by
    rw [execs_nil] at h
    exact h
  | x :: l, r, p, s, h => by
    rw [List.cons_append, execs_cons]
    rw [execs_cons] at h
    rw [Sem.wp_bind'] at h ⊢
    refine Sem.wp_mono _ _ _ (fun f p' s' h' => ?_) (fun _ _ _ e => e) _ _ h
    cases f with
    | next => exact wp_execs_append l r p' s' h'
    | _ => exact h'
structure TopOK (p : Program) (w : World) (Γ : Ctx) (env : Env) (body : List Stmt) (R : Shared → Prop) (k : Nat) (S : Shared) : Prop where
  go : ∀ q, Sem.wp (model p w) Γ (execs (body.drop k) env) (fun f _ s' => f = .next ∧ R s') (fun _ _ _ => False) q S
theorem TopOK.ends {p : Program} {w : World} {Γ : Ctx} {env : Env} {body : List Stmt} {R : Shared → Prop} {k : Nat} {S : Shared} (h : body.drop k = []) (hq : R S) : TopOK p w Γ env body R k S :=
  ⟨fun q => by rw [h, execs_nil]; exact ⟨rfl, hq⟩⟩
theorem TopOK.group {p : Program} {w : World} {Γ : Ctx} {env : Env} {body : List Stmt} {R : Shared → Prop} {a k b n : Nat} {q' : Pos} {s s' : SharedT} (hab : a + k = b)
    (h : ∀ q, evT tbQ p w n Γ (execs ((body.drop a).take k) env) q s = some (.ok .next, q', s'))
    (hr : TopOK p w Γ env body R b s'.abs) : TopOK p w Γ env body R a s.abs := ⟨fun q => by
  subst hab
  have e : body.drop a = (body.drop a).take k ++ body.drop (a + k) := by
    rw [← List.drop_drop, List.take_append_drop]
  rw [e]
  have h := h q
  rw [← table_eq_Q] at h
  exact wp_execs_append _ _ _ _ (evT_sound p w n Γ _ _ _ _ _ _ h _ _ (hr.go q'))⟩
theorem wpCode_of {M : Model} {Γ : Ctx} {R : Result → Shared → Prop} {p : Pos} {s : Shared}
    (h : Sem.wp M Γ (M.den Γ.code) (Sem.finPost M Γ R) (fun e _ s' => R (.error e) s') p s) : wpCode M Γ R p s := by
  obtain ⟨r, s'', hr, h'⟩ := (Sem.wp_iff_runs M Γ _ R p s).mp h
  exact ⟨r, s'', hr, h'⟩
noncomputable def Γs : Ctx := Ctx.of (.builtin "claim.caller" {}) []
theorem stub_wp {p : Program} {w : World} {n1 n2 : Nat} {q1 q2 : Pos} {S0 Sa Sb : SharedT} {codeV : Value} {frameA : Addr} {env : Env} {R : Shared → Prop}
    (he : env = { scope := p.main.scope, locals := mainNs, globals := mainNs, cells := [], code := codeV, frame := some frameA })
    (h1 : evT tbQ p w n1 Γs (do let code ← moduleCode p.main; let frame ← newBodyFrame code mainNs mainNs; pure (code, frame)) default S0 = some (.ok (codeV, frameA), q1, Sa))
    (h2 : evT tbQ p w n2 (Γs.enter (.body (behindTheImports p) env) none q1) (blockStart (behindTheImports p) env) q1 Sa = some (.ok (), q2, Sb))
    (h3 : TopOK p w (Γs.enter (.body (behindTheImports p) env) none q1) env (behindTheImports p) R 0 Sb.abs) :
    Sem.wp (model p w) (Ctx.of (.builtin "claim.caller" {}) []) (topStub p).cur (fun a _ s' => (∃ f, a = Fin.done f) ∧ R s') (fun _ _ _ => False) default S0.abs := by
  rw [← table_eq_Q] at h1 h2
  show Sem.wp (model p w) Γs (do let code ← moduleCode p.main
                                 let frame ← newBodyFrame code mainNs mainNs
                                 let _ ← run (.body (behindTheImports p) { scope := p.main.scope, locals := mainNs, globals := mainNs, cells := [], code, frame := some frame })
                                 ret .none) _ _ default S0.abs
  have a := evT_sound p w n1 Γs _ _ _ _ _ _ h1 (fun cf p' s' => Sem.wp (model p w) Γs (do
      let _ ← run (.body (behindTheImports p) { scope := p.main.scope, locals := mainNs, globals := mainNs, cells := [], code := cf.1, frame := some cf.2 })
      ret .none) (fun a _ s' => (∃ f, a = Fin.done f) ∧ R s') (fun _ _ _ => False) p' s') (fun _ _ _ => False) ?_
  · simp only [Sem.wp_bind', Sem.wp_pure'] at a ⊢
    exact a
  · dsimp only
    rw [← he]
    rw [Sem.wp_bind']
    unfold run
    rw [Sem.wp_call]
    refine wpCode_of ?_
    show Sem.wp (model p w) (Γs.enter (.body (behindTheImports p) env) none q1) (do blockStart (behindTheImports p) env; return Fin.done (← (execs (behindTheImports p) env).onRaise (leaving env))) _ _ q1 Sa.abs
    rw [Sem.wp_bind']
    refine evT_sound p w n2 _ _ _ _ _ _ _ h2 _ _ ?_
    dsimp only
    rw [Sem.wp_bind', Sem.wp_onRaise]
    refine Sem.wp_mono _ _ _ (fun f p' s' h => ?_) (fun _ _ _ h => h.elim) _ _ (h3.go q2)
    obtain ⟨rfl, h⟩ := h
    rw [Sem.wp_pure']
    simp only [Sem.finPost, Sem.wp_pure]
    unfold ret
    rw [Sem.wp_pure']
    exact ⟨⟨_, rfl⟩, h⟩
end Mine
end
section
open PySem PySem.W PyProof.Rows
namespace Mine
noncomputable def HB (base xs : List Obj) (life : Life) : Heap := ⟨(base ++ xs).toArray, life⟩
theorem HB_size (base xs : List Obj) (life : Life) : (HB base xs life).objs.size = base.length + xs.length := by simp [HB]
theorem HB_push (base xs : List Obj) (life : Life) (o : Obj) : (HB base xs life).push o = HB base (xs ++ [o]) life := by
  simp [HB, Heap.push, List.append_assoc]
theorem HB_get {base xs : List Obj} {life : Life} {i : Nat} {o : Obj} (h : xs[i]? = some o) (hf : o.isFreed = false) : (HB base xs life).get? (base.length + i) = some o := by
  have e : (HB base xs life).objs[base.length + i]? = some o := by
    simp [HB, List.getElem?_append_right, h]
  unfold Heap.get?
  rw [e]
  obtain ⟨c, d, dt, sl⟩ := o
  cases dt <;> first | rfl | (simp [Obj.isFreed] at hf)
theorem HB_update (base xs : List Obj) (life : Life) (i : Nat) (f : Obj → Obj) : (HB base xs life).update (base.length + i) f = HB base (xs.modify i f) life := by
  have : ((base ++ xs).toArray).modify (base.length + i) f = (base ++ xs.modify i f).toArray := by
    apply Array.ext_getElem?
    intro j
    rw [Array.getElem?_modify, List.getElem?_toArray, List.getElem?_toArray]
    by_cases hj : j < base.length
    · rw [List.getElem?_append_left hj, List.getElem?_append_left hj, if_neg (by omega)]
    · rw [List.getElem?_append_right (by omega), List.getElem?_append_right (by omega), List.getElem?_modify]
      by_cases e : base.length + i = j
      · subst e; simp
      · have e' : ¬ i = j - base.length := by omega
        simp [e, e']
  show Heap.mk _ _ = Heap.mk _ _
  rw [this]
noncomputable def dObj (es : List DictEntry) (ep : Nat) : Obj := { cls := .type "dict", data := .dict es.toArray ep }
theorem dObj_free (es : List DictEntry) (ep : Nat) : (dObj es ep).isFreed = false := rfl
noncomputable def EntOf (p : Int × Str) (e : DictEntry) : Prop := e.hash = hashInt p.1 ∧ ∃ t u, e.key = .int p.1 t ∧ e.val = .str p.2 u
inductive Ents : List (Int × Str) → List DictEntry → Prop
  | nil : Ents [] []
  | cons {p e ps es} : EntOf p e → Ents ps es → Ents (p :: ps) (e :: es)
theorem Ents.append {ps qs : List (Int × Str)} {es fs : List DictEntry} (h : Ents ps es) (k : Ents qs fs) : Ents (ps ++ qs) (es ++ fs) := by
  induction h with
  | nil => exact k
  | cons a _ ih => exact .cons a ih
theorem Ents.length {ps es} (h : Ents ps es) : es.length = ps.length := by induction h <;> simp [*]
theorem Ents.mem {ps es} (h : Ents ps es) : ∀ e ∈ es, ∃ p ∈ ps, EntOf p e := by
  induction h with
  | nil => simp
  | cons a _ ih =>
    intro e he
    rcases List.mem_cons.mp he with rfl | he
    · exact ⟨_, List.mem_cons_self, a⟩
    · obtain ⟨p, hp, q⟩ := ih e he; exact ⟨p, List.mem_cons_of_mem _ hp, q⟩
section
variable {prog : Program} {w : World} {A : Around} {E : Value → Shared → Prop}
theorem Ents.keysOf {ps es} (h : Ents ps es) : KeysOf (intKind prog w) es.toArray := fun e he => by
  obtain ⟨p, _, hh, t, u, hk, _⟩ := h.mem e (by simpa using he)
  exact ⟨p.1, by rw [hk]; exact intKind_is _ _ _ _, hh⟩
theorem Ents.absent {ps es} (h : Ents ps es) {k : Int} (hn : k ∉ ps.map (·.1)) : (es.toArray.findIdx? fun e => (intKind prog w).is k e.key) = none := by
  rw [Array.findIdx?_eq_none_iff]
  intro e he
  obtain ⟨p, hp, _, t, u, hk, _⟩ := h.mem e (by simpa using he)
  rw [hk]
  have : (intKind prog w).is k (.int p.1 t) = decide (k = p.1) := (intKind prog w).is_eq_decide (intKind_is _ _ _ _) k
  rw [this]
  exact decide_eq_false fun q => hn (q ▸ List.mem_map_of_mem (f := (·.1)) hp)
theorem modify_dObj {xs : List Obj} {i : Nat} {es : List DictEntry} {ep : Nat} {e : DictEntry} (hx : xs[i]? = some (dObj es ep)) :
    xs.modify i (Obj.mapDictKeys fun x => x.push e) = xs.set i (dObj (es ++ [e]) (ep + 1)) := by
  apply List.ext_getElem?
  intro j
  rw [List.getElem?_modify, List.getElem?_set]
  by_cases hij : i = j
  · subst hij
    have hl : i < xs.length := (List.getElem?_eq_some_iff.mp hx).1
    rw [hx]
    simp [hl, dObj, Obj.mapDictKeys]
  · simp [hij]
theorem put_new {base xs : List Obj} {life : Life} {i : Nat} {ps : List (Int × Str)} {es : List DictEntry} {ep : Nat} {k : Int} {t : Tok} {v : Value}
    {gens : Array GenState} {dr : Drawn} {tk : Nat} {os : OsState} {Q : Unit → Shared → Prop}
    (hx : xs[i]? = some (dObj es ep)) (hE : Ents ps es) (hn : k ∉ ps.map (·.1)) (hsz : es.length ≤ 10000)
    (h : Q () ⟨HB base (xs.set i (dObj (es ++ [⟨hashInt k, .int k t, v⟩]) (ep + 1))) life, gens, dr, tk, os⟩) :
    wpAny (model prog w) A (dictPut (base.length + i) (hashInt k) (.int k t) v) Q E ⟨HB base xs life, gens, dr, tk, os⟩ := by
  have ho := HB_get (base := base) (life := life) hx (dObj_free es ep)
  unfold dictPut
  refine wpAny_bind (wpAny_dictFind_of (knd := intKind prog w) (k := k) (intKind_is _ _ _ _) ho rfl (hE.keysOf) ?_)
  rw [hE.absent hn]
  refine wpAny_updateDictKeys (hz := ?_) ho rfl ?_
  · show Q () ⟨(HB base xs life).update (base.length + i) (Obj.mapDictKeys fun x => x.push ⟨hashInt k, .int k t, v⟩), gens, dr, tk, os⟩
    rw [HB_update, modify_dObj hx]
    exact h
  · show es.toArray.size ≤ sizeLine
    rw [List.size_toArray, sizeLine_eq]; omega
theorem set_new {base xs : List Obj} {life : Life} {i : Nat} {ps : List (Int × Str)} {es : List DictEntry} {ep : Nat} {k : Int} {t : Tok} {v : Value}
    {gens : Array GenState} {dr : Drawn} {tk : Nat} {os : OsState} {Q : Unit → Shared → Prop}
    (hx : xs[i]? = some (dObj es ep)) (hE : Ents ps es) (hn : k ∉ ps.map (·.1)) (hsz : es.length ≤ 10000)
    (h : Q () ⟨HB base (xs.set i (dObj (es ++ [⟨hashInt k, .int k t, v⟩]) (ep + 1))) life, gens, dr, tk + 1, os⟩) :
    wpAny (model prog w) A (dictSet (base.length + i) (.int k t) v) Q E ⟨HB base xs life, gens, dr, tk, os⟩ := by
  unfold dictSet
  refine wpAny_holding (wpAny_bind ((intKind prog w).pyHash (intKind_is _ _ _ _) ?_))
  unfold dictSetHashed
  refine wpAny_holding ?_
  have ho := HB_get (base := base) (life := life) hx (dObj_free es ep)
  refine wpAny_bind (wpAny_dictFind_of (knd := intKind prog w) (k := k) (intKind_is _ _ _ _) ho rfl (hE.keysOf) ?_)
  rw [hE.absent hn]
  refine wpAny_bind (wpAny_rule (wpAny_updateDictKeys (hz := ?_) ho rfl ?_))
  · show Q () ⟨(HB base xs life).update (base.length + i) (Obj.mapDictKeys fun x => x.push ⟨hashInt k, .int k t, v⟩), gens, dr, tk + 1, os⟩
    rw [HB_update, modify_dObj hx]
    exact h
  · show es.toArray.size ≤ sizeLine
    rw [List.size_toArray, sizeLine_eq]; omega
structure Good (prog : Program) (w : World) (A : Around) (it : Sem Value × Sem Value) (p : Int × Str) : Prop where
  key : ∀ (s : Shared) (Q : Value → Shared → Prop) (E : Value → Shared → Prop), Q (.int p.1 s.toks) { s with toks := s.toks + 1 } → wpAny (model prog w) A it.1 Q E s
  val : ∀ (s : Shared) (Q : Value → Shared → Prop) (E : Value → Shared → Prop), Q (.str p.2 s.toks) { s with toks := s.toks + 1 } → wpAny (model prog w) A it.2 Q E s
inductive Goods (prog : Program) (w : World) (A : Around) : List (Sem Value × Sem Value) → List (Int × Str) → Prop
  | nil : Goods prog w A [] []
  | cons {i p is ps} : Good prog w A i p → Goods prog w A is ps → Goods prog w A (i :: is) (p :: ps)
theorem Goods.length {is ps} (h : Goods prog w A is ps) : is.length = ps.length := by induction h <;> simp [*]
theorem Goods.append {is ps js qs} (h : Goods prog w A is ps) (k : Goods prog w A js qs) : Goods prog w A (is ++ js) (ps ++ qs) := by
  induction h with
  | nil => exact k
  | cons a _ ih => exact .cons a ih
theorem set_last (xs : List Obj) (a b : Obj) : (xs ++ [a]).set xs.length b = xs ++ [b] := by simp
theorem sub_long {base xs : List Obj} {life : Life} {gens : Array GenState} {dr : Drawn} {os : OsState} (d : Nat) (hd : d = base.length + xs.length) :
    ∀ (is : List (Sem Value × Sem Value)) (ps done : List (Int × Str)) (es : List DictEntry) (ep tk : Nat) (Q : PUnit → Shared → Prop),
    Goods prog w A is ps → Ents done es → ((done ++ ps).map (·.1)).Nodup → (done ++ ps).length ≤ 10000 →
    (∀ es' ep', Ents (done ++ ps) es' → Q ⟨⟩ ⟨HB base (xs ++ [dObj es' ep']) life, gens, dr, tk + 3 * ps.length, os⟩) →
    wpAny (model prog w) A (forIn is PUnit.unit fun (x : Sem Value × Sem Value) (_ : PUnit) => (do
        let kv ← x.1
        let vv ← holding [kv] x.2
        holding [kv, vv] (dictSet d kv vv)
        pure (ForInStep.yield PUnit.unit) : Sem (ForInStep PUnit))) Q E ⟨HB base (xs ++ [dObj es ep]) life, gens, dr, tk, os⟩
  | [], ps, done, es, ep, tk, Q, g, hE, hn, hl, h => by
    cases g
    rw [List.forIn_nil]
    exact wpAny_pure (by simpa using h es ep (by simpa using hE))
  | i :: is, _, done, es, ep, tk, Q, .cons (p := p) (ps := ps) gi g, hE, hn, hl, h => by
    rw [List.forIn_cons]
    subst hd
    have hnd : p.1 ∉ done.map (·.1) := by
      rw [List.map_append, List.nodup_append] at hn
      intro q
      exact hn.2.2 _ q _ (by simp) rfl
    refine wpAny_bind (wpAny_bind (gi.key _ _ _ (wpAny_bind (wpAny_holding (gi.val _ _ _ (wpAny_bind (wpAny_holding ?_)))))))
    refine set_new (xs := xs ++ [dObj es ep]) (i := xs.length) (ep := ep) (by simp) hE hnd (by rw [hE.length]; simp at hl; omega) ?_
    refine wpAny_pure ?_
    rw [set_last]
    refine sub_long (base.length + xs.length) rfl is ps (done ++ [p]) _ _ _ Q g (hE.append (.cons ⟨rfl, _, _, rfl, rfl⟩ .nil)) (by simpa using hn) (by simpa using hl) (fun es' ep' hE' => ?_)
    have := h es' ep' (by simpa using hE')
    have e : tk + 3 * (p :: ps).length = tk + 1 + 1 + 1 + 3 * ps.length := by simp; omega
    rw [e] at this
    exact this
theorem sub_dict_long {base xs : List Obj} {life : Life} {gens : Array GenState} {dr : Drawn} {os : OsState} {tk : Nat} {is : List (Sem Value × Sem Value)} {ps : List (Int × Str)} {Q : Addr → Shared → Prop}
    (g : Goods prog w A is ps) (h15 : 15 < is.length) (hn : (ps.map (·.1)).Nodup) (hl : ps.length ≤ 10000)
    (h : ∀ es' ep', Ents ps es' → Q (base.length + xs.length) ⟨HB base (xs ++ [dObj es' ep']) life, gens, dr, tk + 3 * ps.length, os⟩) :
    wpAny (model prog w) A (subDict is) Q E ⟨HB base xs life, gens, dr, tk, os⟩ := by
  unfold subDict
  refine wpAny_bind (wpAny_alloc ?_)
  show wpAny _ _ _ _ _ ⟨(HB base xs life).push _, gens, dr, tk, os⟩
  rw [HB_push, show (HB base xs life).objs.size = base.length + xs.length from HB_size ..]
  refine wpAny_bind (wpAny_holding ?_)
  rw [if_neg (by omega)]
  refine wpAny_bind (wpAny_rule ?_)
  refine wpAny_bind (sub_long (base.length + xs.length) rfl is ps [] [] 0 tk _ g .nil (by simpa using hn) (by simpa using hl) fun es' ep' hE => ?_)
  exact wpAny_pure (wpAny_pure (h es' ep' (by simpa using hE)))
inductive VS : List (Int × Str) → List (Value × Value) → Prop
  | nil : VS [] []
  | cons {k x t u ps vs} : VS ps vs → VS ((k, x) :: ps) ((.int k t, .str x u) :: vs)
theorem eval_pairs {base xs : List Obj} {life : Life} {gens : Array GenState} {dr : Drawn} {os : OsState} :
    ∀ (is : List (Sem Value × Sem Value)) (ps : List (Int × Str)) (tk : Nat) (Q : List (Value × Value) → Shared → Prop), Goods prog w A is ps →
    (∀ vs, VS ps vs → Q vs ⟨HB base xs life, gens, dr, tk + 2 * ps.length, os⟩) → wpAny (model prog w) A (evalPairs is) Q E ⟨HB base xs life, gens, dr, tk, os⟩
  | [], _, tk, Q, .nil, h => evalPairs_nil (h [] .nil)
  | i :: is, _, tk, Q, .cons (p := p) (ps := ps) gi g, h => by
    refine evalPairs_cons (gi.key _ _ _ (gi.val _ _ _ ?_))
    refine eval_pairs is ps (tk + 1 + 1) _ g fun vs hv => ?_
    have := h ((.int p.1 tk, .str p.2 (tk + 1)) :: vs) (.cons hv)
    have e : tk + 2 * (p :: ps).length = tk + 1 + 1 + 2 * ps.length := by simp; omega
    rw [e] at this
    exact this
theorem set_all {base xs : List Obj} {life : Life} {gens : Array GenState} {dr : Drawn} {os : OsState} (d : Nat) (hd : d = base.length + xs.length) :
    ∀ (vs : List (Value × Value)) (ps done : List (Int × Str)) (es : List DictEntry) (ep tk : Nat) (Q : PUnit → Shared → Prop),
    VS ps vs → Ents done es → ((done ++ ps).map (·.1)).Nodup → (done ++ ps).length ≤ 10000 →
    (∀ es' ep', Ents (done ++ ps) es' → Q ⟨⟩ ⟨HB base (xs ++ [dObj es' ep']) life, gens, dr, tk + ps.length, os⟩) →
    wpAny (model prog w) A (forIn vs PUnit.unit fun (x : Value × Value) (_ : PUnit) => (do
        dictSet d x.1 x.2
        pure (ForInStep.yield PUnit.unit) : Sem (ForInStep PUnit))) Q E ⟨HB base (xs ++ [dObj es ep]) life, gens, dr, tk, os⟩
  | [], _, done, es, ep, tk, Q, .nil, hE, hn, hl, h => by
    rw [List.forIn_nil]
    exact wpAny_pure (by simpa using h es ep (by simpa using hE))
  | _ :: vs, _, done, es, ep, tk, Q, .cons (k := k) (x := x) (ps := ps) g, hE, hn, hl, h => by
    rw [List.forIn_cons]
    subst hd
    have hnd : k ∉ done.map (·.1) := by
      rw [List.map_append, List.nodup_append] at hn
      intro q
      exact hn.2.2 _ q _ (by simp) rfl
    refine wpAny_bind (wpAny_bind ?_)
    refine set_new (xs := xs ++ [dObj es ep]) (i := xs.length) (ep := ep) (by simp) hE hnd (by rw [hE.length]; simp at hl; omega) ?_
    refine wpAny_pure ?_
    rw [set_last]
    refine set_all (base.length + xs.length) rfl vs ps (done ++ [(k, x)]) _ _ _ Q g (hE.append (.cons ⟨rfl, _, _, rfl, rfl⟩ .nil)) (by simpa using hn) (by simpa using hl) (fun es' ep' hE' => ?_)
    have := h es' ep' (by simpa using hE')
    have e : tk + ((k, x) :: ps).length = tk + 1 + ps.length := by simp; omega
    rw [e] at this
    exact this
theorem sub_dict_short {base xs : List Obj} {life : Life} {gens : Array GenState} {dr : Drawn} {os : OsState} {tk : Nat} {is : List (Sem Value × Sem Value)} {ps : List (Int × Str)} {Q : Addr → Shared → Prop}
    (g : Goods prog w A is ps) (h15 : is.length ≤ 15) (hn : (ps.map (·.1)).Nodup) (hl : ps.length ≤ 10000)
    (h : ∀ es' ep', Ents ps es' → Q (base.length + xs.length) ⟨HB base (xs ++ [dObj es' ep']) life, gens, dr, tk + 3 * ps.length, os⟩) :
    wpAny (model prog w) A (subDict is) Q E ⟨HB base xs life, gens, dr, tk, os⟩ := by
  unfold subDict
  refine wpAny_bind (wpAny_alloc ?_)
  show wpAny _ _ _ _ _ ⟨(HB base xs life).push _, gens, dr, tk, os⟩
  rw [HB_push, show (HB base xs life).objs.size = base.length + xs.length from HB_size ..]
  refine wpAny_bind (wpAny_holding ?_)
  rw [if_pos h15]
  refine wpAny_bind (eval_pairs (xs := xs ++ [dObj [] 0]) is ps tk _ g fun vs hv => wpAny_holding (wpAny_bind ?_))
  refine set_all (base.length + xs.length) rfl vs ps [] [] 0 _ _ hv .nil (by simpa using hn) (by simpa using hl) fun es' ep' hE => ?_
  refine wpAny_pure (wpAny_pure ?_)
  have := h es' ep' (by simpa using hE)
  rw [show tk + 3 * ps.length = tk + 2 * ps.length + ps.length by omega] at this
  exact this
theorem sub_dict {base xs : List Obj} {life : Life} {gens : Array GenState} {dr : Drawn} {os : OsState} {tk : Nat} {is : List (Sem Value × Sem Value)} {ps : List (Int × Str)} {Q : Addr → Shared → Prop}
    (g : Goods prog w A is ps) (hn : (ps.map (·.1)).Nodup) (hl : ps.length ≤ 10000)
    (h : ∀ es' ep', Ents ps es' → Q (base.length + xs.length) ⟨HB base (xs ++ [dObj es' ep']) life, gens, dr, tk + 3 * ps.length, os⟩) :
    wpAny (model prog w) A (subDict is) Q E ⟨HB base xs life, gens, dr, tk, os⟩ := by
  by_cases h15 : is.length ≤ 15
  · exact sub_dict_short g h15 hn hl h
  · exact sub_dict_long g (by omega) hn hl h
theorem merge_loop {base : List Obj} {life : Life} {gens : Array GenState} {dr : Drawn} {os : OsState} {tk : Nat} {mids : List Obj} {sub : List DictEntry} {sp : Nat} {all : List (Int × Str)} (hsub : Ents all sub)
    (f : Nat → PUnit → Sem (ForInStep PUnit))
    (hf : ∀ i (e : DictEntry) (xs : List Obj) (Q : ForInStep PUnit → Shared → Prop), sub[i]? = some e → xs[mids.length + 1]? = some (dObj sub sp) →
      wpAny (model prog w) A (dictPut base.length e.hash e.key e.val) (fun _ s' => ∃ xs', s' = ⟨HB base xs' life, gens, dr, tk, os⟩ ∧ xs'[mids.length + 1]? = some (dObj sub sp) ∧ Q (.yield ⟨⟩) s') E ⟨HB base xs life, gens, dr, tk, os⟩ →
      wpAny (model prog w) A (f i ⟨⟩) Q E ⟨HB base xs life, gens, dr, tk, os⟩) :
    ∀ (k i : Nat) (done : List (Int × Str)) (es : List DictEntry) (ep : Nat) (Q : PUnit → Shared → Prop), i + k = all.length → Ents (done ++ all.take i) es →
    ((done ++ all).map (·.1)).Nodup → (done ++ all).length ≤ 10000 →
    (∀ es' ep', Ents (done ++ all) es' → Q ⟨⟩ ⟨HB base (dObj es' ep' :: mids ++ [dObj sub sp]) life, gens, dr, tk, os⟩) →
    wpAny (model prog w) A (forIn (List.range' i k) PUnit.unit f) Q E ⟨HB base (dObj es ep :: mids ++ [dObj sub sp]) life, gens, dr, tk, os⟩
  | 0, i, done, es, ep, Q, hik, hE, hn, hl, h => by
    rw [List.range'_zero, List.forIn_nil]
    rw [show i = all.length by omega, List.take_length] at hE
    exact wpAny_pure (h es ep hE)
  | k + 1, i, done, es, ep, Q, hik, hE, hn, hl, h => by
    rw [List.range'_succ, List.forIn_cons]
    have hlt : i < all.length := by omega
    have hsl := hsub.length
    have hget : sub[i]? = some sub[i] := List.getElem?_eq_getElem (by omega)
    have hE2 : EntOf all[i] sub[i] := by
      clear hf h hE hn hl
      induction hsub generalizing i with
      | nil => simp at hlt
      | cons a r ih =>
        cases i with
        | zero => exact a
        | succ i => exact ih i (by simp at hik; omega) (by simpa using hlt) r.length (by simp)
    obtain ⟨hh, t, u, hk, hv⟩ := hE2
    refine wpAny_bind (hf i sub[i] _ _ hget (by simp) ?_)
    rw [hh, hk, hv]
    have hnd : all[i].1 ∉ (done ++ all.take i).map (·.1) := by
      intro q
      have hs : done ++ all = (done ++ all.take i) ++ all[i] :: all.drop (i + 1) := by
        rw [List.append_assoc, ← List.drop_eq_getElem_cons hlt, List.take_append_drop]
      rw [hs, List.map_append, List.nodup_append] at hn
      exact hn.2.2 _ q _ (by rw [List.map_cons]; exact List.mem_cons_self) rfl
    have hlen : es.length ≤ 10000 := by
      rw [hE.length]; simp at hl ⊢; omega
    refine put_new (i := 0) (xs := dObj es ep :: mids ++ [dObj sub sp]) (ep := ep) rfl hE hnd hlen ?_
    refine ⟨_, rfl, by simp, ?_⟩
    have hE3 : Ents (done ++ all.take (i + 1)) (es ++ [⟨hashInt all[i].1, .int all[i].1 t, .str all[i].2 u⟩]) := by
      rw [List.take_succ_eq_append_getElem hlt, ← List.append_assoc]
      exact hE.append (.cons ⟨rfl, _, _, rfl, rfl⟩ .nil)
    exact merge_loop hsub f hf k (i + 1) done _ _ Q (by omega) hE3 hn hl h
theorem TypeIs_dObj {base xs : List Obj} {life : Life} {gens : Array GenState} {dr : Drawn} {os : OsState} {tk i : Nat} {es : List DictEntry} {ep : Nat} (h : xs[i]? = some (dObj es ep)) :
    (⟨HB base xs life, gens, dr, tk, os⟩ : Shared).TypeIs (.ref (base.length + i)) "dict" := ⟨_, HB_get (base := base) (life := life) h (dObj_free es ep), rfl⟩
theorem sub_dict_self : isSubtype (.type "dict") (.type "dict") = pure true := by rw [isSubtype_type]; rfl'
theorem look_dict_iter : typeLookup (.type "dict") "__iter__" = pure (some (.builtin "dict.__iter__")) := by rw [typeLookup_type, builtinLookup_eq_fast]; rfl'
theorem wpAny_entries {M : Model} {a : Addr} {s : Shared} {o : Obj} {es ep} {part : Option Value} {Q : Array DictEntry → Shared → Prop} (ho : s.heap.get? a = some o) (hd : o.data = .dict es ep) (h : Q es s) :
    wpAny M A (dictEntries a part) Q E s := by
  unfold dictEntries
  refine wpAny_bind (wpAny_loadPart ho ?_)
  rw [hd]
  exact wpAny_pure h
theorem wpAny_epoch {M : Model} {a : Addr} {s : Shared} {o : Obj} {es ep} {part : Option Value} {Q : Nat → Shared → Prop} (ho : s.heap.get? a = some o) (hd : o.data = .dict es ep) (h : Q ep s) :
    wpAny M A (dictEpoch a part) Q E s := by
  unfold dictEpoch
  refine wpAny_bind (wpAny_loadPart ho ?_)
  rw [hd]
  exact wpAny_pure h
theorem merge {prog : Program} {w : World} {base : List Obj} {life : Life} {gens : Array GenState} {dr : Drawn} {os : OsState} {tk : Nat} {mids : List Obj} {sub : List DictEntry} {sp : Nat} {all done : List (Int × Str)} {es : List DictEntry} {ep : Nat}
    {Q : Unit → Shared → Prop} (hsub : Ents all sub) (hE : Ents done es) (hne : done ≠ []) (hb : 5 ≤ base.length)
    (hn : ((done ++ all).map (·.1)).Nodup) (hl : (done ++ all).length ≤ 10000)
    (h : ∀ es' ep', Ents (done ++ all) es' → Q () ⟨HB base (dObj es' ep' :: mids ++ [dObj sub sp]) life, gens, dr, tk, os⟩) :
    wpAny (model prog w) A (mergeMapping base.length (.ref (base.length + (mids.length + 1))) false) Q E ⟨HB base (dObj es ep :: mids ++ [dObj sub sp]) life, gens, dr, tk, os⟩ := by
  have hs1 : (dObj es ep :: mids ++ [dObj sub sp])[mids.length + 1]? = some (dObj sub sp) := by simp
  have hT := TypeIs_dObj (base := base) (life := life) (gens := gens) (dr := dr) (os := os) (tk := tk) hs1
  have g1 := HB_get (base := base) (life := life) hs1 (dObj_free sub sp)
  have g0 := HB_get (base := base) (life := life) (xs := dObj es ep :: mids ++ [dObj sub sp]) (i := 0) rfl (dObj_free es ep)
  have hee : es.toArray.isEmpty = false := by
    have := hE.length
    cases es with
    | nil => cases done with
      | nil => exact absurd rfl hne
      | cons => simp at this
    | cons => rfl
  unfold mergeMapping
  refine wpAny_bind (wpAny_isInstance hT sub_dict_self ?_)
  rw [if_pos rfl]
  refine wpAny_bind (wpAny_specialOf hT look_dict_iter ?_)
  have hbeq : ((some (Value.builtin "dict.__iter__")) == some (Value.builtin "dict.__iter__")) = true := by decide +kernel
  rw [hbeq]
  refine wpAny_bind (wpAny_pure ?_)
  dsimp only
  rw [if_neg (by show ¬ ((base.length + (mids.length + 1) == sysModules) = true); simp [sysModules]; omega)]
  refine wpAny_bind (wpAny_entries g0 rfl ?_)
  rw [hee]
  simp only [Bool.false_eq_true, if_false]
  refine wpAny_bind (wpAny_entries g1 rfl (wpAny_bind (wpAny_epoch g1 rfl ?_)))
  rw [List.range_eq_range', List.size_toArray]
  refine wpAny_bind (merge_loop hsub _ ?_ sub.length 0 done es ep _ (by rw [hsub.length]; omega) (by simpa using hE) hn hl ?_)
  · intro i e xs Q' hi hx hq
    have gx := HB_get (base := base) (life := life) hx (dObj_free sub sp)
    refine wpAny_bind (wpAny_entries gx rfl ?_)
    rw [List.getElem?_toArray, hi]
    dsimp only
    refine wpAny_bind (wpAny_holding ?_)
    refine wpAny_mono hq (fun _ s' hs' => ?_) (fun _ _ e => e)
    obtain ⟨xs', rfl, hx', hq'⟩ := hs'
    have gx' := HB_get (base := base) (life := life) hx' (dObj_free sub sp)
    refine wpAny_bind (wpAny_epoch gx' rfl ?_)
    simp only [bne_self_eq_false, Bool.false_eq_true, if_false]
    exact wpAny_pure hq'
  · intro es' ep' hE'
    exact wpAny_pure (h es' ep' hE')
inductive Main (base : List Obj) : Option Addr → List (Int × Str) → List Obj → Prop
  | none : Main base none [] []
  | some {ps es ep subs} : Ents ps es → ps ≠ [] → Main base (some base.length) ps (dObj es ep :: subs)
theorem display_go {prog : Program} {w : World} {base : List Obj} {life : Life} {gens : Array GenState} {dr : Drawn} {os : OsState} {tk : Nat} {is : List (Sem Value × Sem Value)} {ps : List (Int × Str)} {Q : Value → Shared → Prop}
    (g : Goods prog w A is ps) (hne : ps ≠ []) (hb : 5 ≤ base.length) (hn : (ps.map (·.1)).Nodup) (hl : ps.length ≤ 10000)
    (h : ∀ es ep subs, Ents ps es → (dObj es ep :: subs).length = (ps.length + 16) / 17 → Q (.ref base.length) ⟨HB base (dObj es ep :: subs) life, gens, dr, tk + 3 * ps.length, os⟩) :
    wpAny (model prog w) A (dictDisplay (is.map fun p => (some p.1, p.2))) Q E ⟨HB base [] life, gens, dr, tk, os⟩ := by
  have flush : ∀ (run : List (Sem Value × Sem Value)) (rp : List (Int × Str)) (main : Option Addr) (done : List (Int × Str)) (xs : List Obj) (tk : Nat) (Q : Option Addr → Shared → Prop),
      Goods prog w A run rp → Main base main done xs → ((done ++ rp).map (·.1)).Nodup → (done ++ rp).length ≤ 10000 →
      (∀ main' xs', Main base main' (done ++ rp) xs' → xs'.length = xs.length + min 1 rp.length → Q main' ⟨HB base xs' life, gens, dr, tk + 3 * rp.length, os⟩) →
      wpAny (model prog w) A (if run.isEmpty = true then pure main else match main with
        | none => do return some (← subDict run)
        | some d => do
          let sub ← holding [.ref d] (subDict run)
          (holding [.ref d, .ref sub] (mergeMapping d (.ref sub) false)).onRaise fun x => do let _ ← holding [.ref d, x] (runValue (.builtin "proto.let_go" {}))
          return some d) Q E ⟨HB base xs life, gens, dr, tk, os⟩ := by
    intro run rp main done xs tk Q gr hm hn hl h
    cases gr with
    | nil => exact wpAny_pure (by simpa using h main xs (by simpa using hm) (by simp))
    | cons a b =>
      rename_i i p is ps
      have gr : Goods prog w A (i :: is) (p :: ps) := .cons a b
      rw [if_neg (by simp)]
      cases hm with
      | none =>
        refine wpAny_bind (sub_dict gr (by simpa using hn) (by simpa using hl) fun es' ep' hE' => wpAny_pure ?_)
        exact h _ _ (.some hE' (by simp)) (by simp)
      | some hE hne' =>
        rename_i es ep subs
        refine wpAny_bind (wpAny_holding (sub_dict gr (by rw [List.map_append, List.nodup_append] at hn; exact hn.2.1) (by rw [List.length_append] at hl; omega) fun es' ep' hE' => ?_))
        have e1 : base.length + (dObj es ep :: subs).length = base.length + (subs.length + 1) := rfl
        rw [e1]
        refine wpAny_bind (wpAny_onRaise (wpAny_holding ?_))
        refine merge hE' hE hne' hb hn hl fun es₂ ep₂ hE₂ => ?_
        refine wpAny_pure ?_
        have := h _ _ (.some (ep := ep₂) (subs := subs ++ [dObj es' ep']) hE₂ (by simp)) (by simp)
        simpa using this
  unfold dictDisplay
  dsimp only
  refine wpAny_bind (wpAny_forIn_list _ (fun rest (st : Option Addr × List (Sem Value × Sem Value)) s => ∃ done rp rsem rps xs tk', rest = rsem.map (fun p => (some p.1, p.2)) ∧ Goods prog w A rsem rps ∧
      Goods prog w A st.2 rp ∧ Main base st.1 done xs ∧ done ++ rp ++ rps = ps ∧ st.2.length < 17 ∧ s = ⟨HB base xs life, gens, dr, tk', os⟩ ∧ tk' = tk + 3 * done.length ∧ done.length = 17 * xs.length) _ ?_ ?_ _ _ ?_)
  · rintro x rest ⟨main, run⟩ s ⟨done, rp, rsem, rps, xs, tk', hr, hg, hgr, hm, hps, hlt, rfl, rfl, hx17⟩
    cases hg with
    | nil => simp at hr
    | cons a b =>
      rename_i i p is' ps'
      simp only [List.map_cons, List.cons.injEq] at hr
      obtain ⟨rfl, rfl⟩ := hr
      dsimp only
      have gr : Goods prog w A (run ++ [(i.1, i.2)]) (rp ++ [p]) := hgr.append (.cons a .nil)
      by_cases h17 : ((run ++ [(i.1, i.2)]).length == 17) = true
      · rw [if_pos h17]
        refine wpAny_bind (flush _ _ main done xs _ _ gr hm ?_ ?_ fun main' xs' hm' hxl => wpAny_pure ?_)
        · rw [← hps] at hn
          have : done ++ rp ++ p :: ps' = (done ++ (rp ++ [p])) ++ ps' := by simp
          rw [this, List.map_append, List.nodup_append] at hn
          exact hn.1
        · rw [← hps] at hl; simp at hl ⊢; omega
        · refine ⟨done ++ (rp ++ [p]), [], is', ps', xs', _, rfl, b, .nil, hm', by simpa using hps, by simp, rfl, by simp; omega, ?_⟩
          have hrl := hgr.length
          simp at h17 hrl hxl ⊢
          omega
      · rw [if_neg h17]
        refine wpAny_pure ⟨done, rp ++ [p], is', ps', xs, _, rfl, b, gr, hm, by simpa using hps, ?_, rfl, rfl, hx17⟩
        simp at h17 hlt ⊢; omega
  · rintro ⟨main, run⟩ s ⟨done, rp, rsem, rps, xs, tk', hr, hg, hgr, hm, hps, hlt, rfl, rfl, hx17⟩
    cases hg with
    | cons => simp at hr
    | nil =>
      simp only [List.append_nil] at hps
      refine wpAny_bind (flush _ _ main done xs _ _ hgr hm (by rw [hps]; exact hn) (by rw [hps]; exact hl) fun main' xs' hm' hxl => ?_)
      rw [hps] at hm'
      cases hm' with
      | none => exact absurd rfl hne
      | some hE hne' =>
        dsimp only
        rename_i es' ep' subs'
        have := h _ ep' subs' hE (by
          have hrl := hgr.length
          rw [hxl, ← hps]
          simp at hlt hrl ⊢
          omega)
        rw [← hps] at this
        refine wpAny_pure ?_
        rw [show tk + 3 * done.length + 3 * rp.length = tk + 3 * (done ++ rp).length by simp; omega]
        exact this
  · exact ⟨[], [], is, ps, [], tk, rfl, g, .nil, .none, by simp, by simp, rfl, by simp, by simp⟩
end
end Mine
end
section
open PySem PySem.W PyProof.Rows
namespace Mine
noncomputable def psOf : List (Option Expr) → List Expr → Option (List (Int × Str))
  | [], [] => some []
  | some (.Constant (.int k) _ _) :: ks, .Constant (.str s) _ _ :: vs => (psOf ks vs).map ((k, s) :: ·)
  | _, _ => none
theorem goods_of (prog : Program) (w : World) (env : Env) (dpos : Pos) : ∀ (ks : List (Option Expr)) (vs : List Expr) (ps : List (Int × Str)), psOf ks vs = some ps →
    ∃ is : List (Sem Value × Sem Value), (evalEachOpt ks env).zip ((evalEach vs env).map fun v => (do let x ← v; standAt dpos; pure x : Sem Value)) = is.map (fun p => (some p.1, p.2)) ∧ ∀ A, Goods prog w A is ps := by
  intro ks vs ps h
  induction ks, vs using psOf.induct generalizing ps with
  | case1 =>
    simp only [psOf, Option.some.injEq] at h
    subst h
    exact ⟨[], rfl, fun _ => .nil⟩
  | case2 k a b ks s c d vs ih =>
    simp only [psOf, Option.map_eq_some_iff] at h
    obtain ⟨r, hr, rfl⟩ := h
    obtain ⟨is, e, g⟩ := ih r hr
    refine ⟨(eval (.Constant (.int k) a b) env, do let x ← eval (.Constant (.str s) c d) env; standAt dpos; pure x) :: is, ?_, fun A => .cons ⟨?_, ?_⟩ (g A)⟩
    · simp only [evalEachOpt, evalEach, evalOpt, List.map_cons, List.zip_cons_cons, e]
    · intro s' Q E h'
      exact wpAny_Constant_int (env := env) (k := a) (pos := b) h'
    · intro s' Q E h'
      refine wpAny_bind ?_
      show wpAny _ _ (mkText s) _ _ _
      exact wpAny_mkText (wpAny_bind (wpAny_standAt (wpAny_pure h')))
  | case3 => simp [psOf] at h
noncomputable def rising : List (Int × Str) → Bool
  | [] => true
  | [_] => true
  | a :: b :: r => decide (a.1 < b.1) && rising (b :: r)
theorem rising_lt : ∀ (l : List (Int × Str)) (a : Int × Str), rising (a :: l) = true → ∀ b ∈ l, a.1 < b.1
  | [], _, _, _, hb => nomatch hb
  | c :: r, a, h, b, hb => by
    simp only [rising, Bool.and_eq_true, decide_eq_true_eq] at h
    rcases List.mem_cons.mp hb with rfl | hb
    · exact h.1
    · exact Int.lt_trans h.1 (rising_lt r c h.2 b hb)
theorem rising_nodup : ∀ (l : List (Int × Str)), rising l = true → (l.map (·.1)).Nodup
  | [], _ => by simp
  | a :: r, h => by
    rw [List.map_cons, List.nodup_cons]
    refine ⟨fun q => ?_, rising_nodup r ?_⟩
    · obtain ⟨b, hb, e⟩ := List.mem_map.mp q
      exact absurd e (Int.ne_of_gt (rising_lt r a h b hb))
    · cases r with
      | nil => rfl
      | cons b r => simp only [rising, Bool.and_eq_true] at h; exact h.2
noncomputable def topA : Around := { depth := 400, units := 100 }
theorem b3_group {p : Program} {w : World} {Γ : Ctx} {env : Env} {body : List Stmt} {R : Shared → Prop} {a b n : Nat} {st : Stmt} {K : Value → Sem Flow} {ks : List (Option Expr)} {vs : List Expr} {ps : List (Int × Str)}
    {apos dpos : Pos} {base : List Obj} {life : Life} {dr : Drawn} {tk : Nat} {os : OsState} {S0 : Shared} (e0 : S0 = ⟨HB base [] life, #[], dr, tk, os⟩)
    (hst : body.drop a = st :: body.drop b)
    (hex : exec st env = (do standAt apos; let v ← (do standAt dpos; dictDisplay ((evalEachOpt ks env).zip ((evalEach vs env).map fun v => (do let x ← v; standAt dpos; pure x : Sem Value)))); K v))
    (hps : psOf ks vs = some ps) (hri : rising ps = true) (hne : ps ≠ []) (hl : ps.length ≤ 10000) (hb : 5 ≤ base.length) (hA : Γ.In topA)
    (hk : ∀ es ep subs, Ents ps es → (dObj es ep :: subs).length = (ps.length + 16) / 17 →
      ∃ (S S' : SharedT) (q' : Pos), S.abs = ⟨HB base (dObj es ep :: subs) life, #[], dr, tk + 3 * ps.length, os⟩ ∧
        (∀ q, evT tbQ p w n Γ (K (.ref base.length)) q S = some (.ok .next, q', S')) ∧ TopOK p w Γ env body R b S'.abs) :
    TopOK p w Γ env body R a S0 := ⟨fun q0 => by
  subst e0
  rw [hst, execs_cons, hex]
  obtain ⟨is, e, g⟩ := goods_of p w env dpos ks vs ps hps
  rw [e]
  simp only [Sem.wp_bind', Sem.wp_cmd_standAt]
  have := display_go (prog := p) (w := w) (A := topA) (E := fun _ _ => False) (base := base) (life := life) (gens := #[]) (dr := dr) (os := os) (tk := tk) (is := is) (ps := ps)
    (Q := fun v s' => ∃ (S S' : SharedT) (q' : Pos), S.abs = s' ∧ (∀ q, evT tbQ p w n Γ (K v) q S = some (.ok .next, q', S')) ∧ TopOK p w Γ env body R b S'.abs)
    (g topA) hne hb (rising_nodup ps hri) hl (fun es ep subs hE hlen => hk es ep subs hE hlen)
  refine Sem.wp_mono _ _ _ (fun v p' s' h => ?_) (fun _ _ _ h => h.elim) _ _ (this Γ dpos hA)
  obtain ⟨S, S', q', rfl, h1, h2⟩ := h
  have h1 := h1 p'
  rw [← table_eq_Q] at h1
  exact evT_sound p w n Γ _ _ _ _ _ _ h1 _ _ (h2.go q')⟩
theorem map_getD {xs : List Obj} {n : Nat} (h : xs.length = n) : (List.range n).map (fun j => xs.getD j default) = xs := by
  apply List.ext_getElem?
  intro i
  rw [List.getElem?_map]
  by_cases hi : i < n
  · rw [List.getElem?_range hi]
    simp [List.getD, h ▸ hi]
  · rw [List.getElem?_eq_none (by simpa using hi), List.getElem?_eq_none (by omega)]
    rfl
end Mine
end
section
open PySem PySem.W PyProof.Rows
namespace Mine
structure Behind (p q : Program) (loose : List Str) (XP : (Str → Option Value) → Heap → Prop) (Y : World → Shared → Prop) (w : World) : Prop where
  opens : ∃ s, AfterRun (opening p) w s
  all : ∀ s, AfterRun (opening p) w s → ∃ s₀, fenceModules? p s = some s₀ ∧ s₀.gens = #[] ∧ ∃ s₁, TopRan p w s₀ s₁ ∧ s₁.asleep ∧ s₁.gens = #[] ∧ s₁.heap.isNs mainGlobals = true ∧
    Ground q loose [] XP w s₁ (s₁.heap.nsMap mainGlobals) (s₁.heap.nsMap builtinsNs) s₁.heap ∧ Y w s₁
theorem law_holds {l : OpenLaw} (said : l.row.wellSaid = true) (hwr : l.writes = false) {q : Program} {loose : List Str} {XP : (Str → Option Value) → Heap → Prop} {Y : World → Shared → Prop} {d : DefRec} {kwd : List (Str × Expr)}
    (behind : ∀ w, Behind l.prog q loose XP Y w) (hXk : ∀ mg h h', XP mg h → (∀ b o, h.get? b = some o → h'.get? b = some o) → XP mg h')
    (hdef : defOf q l.name = some (d, kwd)) (hp : l.prog.theDef l.name = some (d.params, d.body, d.scope)) (hk : kwWritten? d.params.kwonlyargs d.params.kw_defaults = some kwd)
    (ok : (opensWell l.prog && (frees l.row.toRowW && l.row.toRowW.within.isEmpty)) = true) (hb : l.prog.bare) (hw : l.row.toRowW.promised)
    (call : ∀ (w : World) (s₀ s₁ : Shared) (mg mb : Str → Option Value), Ground q loose [] XP w s₀ mg mb s₁.heap → Y w s₀ → ∀ (a : Addr), mg l.name = some (.ref a) → ∀ (args : List WData) (vs : List Value) (as : List Addr),
      l.row.toRowW.claim.pre args = true → WData.layableAll args = true → Laid [] w s₀ s₁ args vs as → sysModules < s₀.heap.objs.size →
        wpAny (model l.prog w) callerA (PySem.call (.ref a) vs) (fun v s' => GoodWG l.row.toRowW.claim (classAt s₀.heap) (ExcName.means s₀.heap) args s₁ (.ok (.ret v)) s')
          (fun e s' => GoodWG l.row.toRowW.claim (classAt s₀.heap) (ExcName.means s₀.heap) args s₁ (.error e) s') s₁) : l.row.Holds := by
  refine ⟨said, hw, ?_⟩
  obtain ⟨o1, k5⟩ := Bool.and_eq_true_iff.mp ok
  obtain ⟨k5, k6⟩ := Bool.and_eq_true_iff.mp k5
  obtain ⟨hsame, hu, ha, hap, hm⟩ := frees_parts k5
  refine ⟨⟨hb, o1, rfl⟩, hw.witness, fun w => ⟨(behind w).opens, fun s' hs' => ?_⟩⟩
  obtain ⟨s₀, hf, hg0, s, hT, hz, hgens, hg, G, y⟩ := (behind w).all s' hs'
  refine ⟨s₀, hf, hg0, s, hT, fun n hn => ?_, fun x hx => (nomatch hx), fun x hx => (nomatch hx), ?_⟩
  · obtain rfl : n = l.name := by simpa [OpenLaw.row] using hn
    exact pinned_of_view hg G hdef hp hk
  refine ClaimW.callFrom_of_specG (c := l.row.toRowW.claim) hz hgens fun args hpre hlay ord hord => ?_
  obtain ⟨⟨vs, s₁⟩, hlaid⟩ := Option.isSome_iff_exists.mp (layAllW_isSome (P := w.params) (ord := ord) G.has args l.row.toRowW.args s (pre_splitW hpre).1)
  have keeps := layAllW_keeps _ _ _ hlaid
  have hal := layAllW_rest _ _ _ hlaid
  obtain ⟨as, hrd, hin, hold⟩ := reads_layAllW hord _ _ _ hlaid hlay s₁.heap (fun _ _ e => e)
  have L : Laid [] w s s₁ args vs as := ⟨⟨ord, hord, hlaid⟩, hrd, hin, hold, keeps, hal.1.trans hgens, hal.2.2.1⟩
  have G₁ := G.keeps hXk keeps
  obtain ⟨a, o, pm, cd, doc, dV, kV, h1, h2, h3, h4, h5⟩ := G₁.fn hdef
  have hi := ident_freeW (r := l.row.toRowW) hu ha hap
  have hwi : l.row.toRowW.claim.within = [] := List.isEmpty_iff.mp k6
  refine ⟨vs, s₁, hlaid, ?_⟩
  have h := call w s s₁ _ _ G₁ y a h1 args vs as hpre hlay L G.low
  have ht : ∀ (Q : Fin → Shared → Prop) (E : Value → Shared → Prop), wpAny (model l.prog w) callerA (PySem.call (.ref a) vs) (fun v s' => Q (.done (.ret v)) s') E s₁ →
      wpAny (model l.prog w) callerA (do match ← nsGet mainNs l.name with
        | some f => do ret (← PySem.call f vs)
        | none => unsupported "claim.caller:no-such-global") Q E s₁ := fun Q E h =>
    wpAny_bind (wpAny_nsGet G₁.T.g (by rw [h1]; exact wpAny_bind (wpAny_mono h (fun _ _ x => wpAny_pure x) fun _ _ x => x)))
  have no : l.row.writes = true → False := fun q => by rw [show l.row.writes = l.writes from rfl, hwr] at q; cases q
  exact ht _ _ (wpAny_mono h (fun v s' g => ⟨_, rfl, have z := g.laid (c := l.row.toRowW.claim) hsame hwi hi L; ⟨z.1, z.2.1, z.2.2, fun q => (no q).elim⟩⟩)
    fun e s' g => have z := g.laid (c := l.row.toRowW.claim) hsame hwi hi L; ⟨z.1, z.2.1, z.2.2, fun q => (no q).elim⟩)
theorem behind_of {p q : Program} {loose : List Str} {Y : World → Shared → Prop} {w : World} {N : Nat} {H₀ : Heap} {d₀ : Drawn} {k₀ : Nat} {R : OsState → Shared → Prop}
    (hopen : (fencedOpening treeTable p w N).map (fun s => (s.heap, s.gens, s.drawn, s.toks)) = some (H₀, #[], d₀, k₀))
    (hmain : H₀.isNs mainGlobals = true) (hch : chainsOk q = true)
    (hrun : ∀ os, (⟨H₀, #[], d₀, k₀, os⟩ : Shared).asleep → ∃ s₁, R os s₁ ∧ ∃ n t, schedN (denote table) p w n (.single ⟨H₀, #[], d₀, k₀, os⟩ (topStub p)) = .running (.single s₁ t) ∧ through t = true)
    (hR : ∀ os s₁, R os s₁ → s₁.heap.life = H₀.life ∧ s₁.os = os ∧ s₁.gens = #[] ∧
      (∀ b o, b ≠ mainNs → b ≠ cStatics → H₀.get? b = some o → s₁.heap.get? b = some o) ∧
      (staticsOk (importedModules p.main.body) H₀ s₁.heap && namesBound p s₁.heap && laidKept H₀ s₁.heap) = true ∧
      openSeen q loose (importedModules p.main.body) (fun _ => true) true s₁ = openGood q loose ∧ Y w s₁) :
    Behind p q loose (fun _ _ => True) Y w := by
  rw [← table_eq_tree] at hopen
  obtain ⟨⟨h, gs, d, k, os⟩, hf, he⟩ := Option.map_eq_some_iff.mp hopen
  obtain ⟨rfl, rfl, rfl, rfl⟩ : h = H₀ ∧ gs = #[] ∧ d = d₀ ∧ k = k₀ := by simpa using he
  obtain ⟨s, h4, h5⟩ := Option.bind_eq_some_iff.mp hf
  have A := AfterImport.of_importEnds h4
  refine ⟨⟨s, A⟩, fun s' hs' => ?_⟩
  obtain rfl : s' = s := AfterImport.unique hs' A
  have z : (⟨h, #[], d, k, os⟩ : Shared).asleep := Shared.asleep_of_life (fence_lifeW h5) A.life
  obtain ⟨s₁, hr, n, t, hn, ht⟩ := hrun os z
  obtain ⟨hl, hos, hg, hkeep, hlook, hseen, hY⟩ := hR os s₁ hr
  obtain ⟨hs, hlk⟩ := Bool.and_eq_true_iff.mp hlook
  obtain ⟨hs, hnb⟩ := Bool.and_eq_true_iff.mp hs
  obtain ⟨G, g0, g1, g2, g3, g4, g5⟩ := ground_of_open (w := w) (XP := fun _ _ => True) (fun _ _ => trivial) hch hseen
  refine ⟨_, h5, rfl, s₁, ⟨⟨n, t, hn, ht⟩, hl, Shared.rest_eq hos, fun b o hb hn => hkeep b o (fun q => hn (.inl q)) (fun q => hn (.inr (.inl q))) hb,
        g2, statics_of_ok hs, g3, g4, g5, by rw [hg]; intro g hg; simp at hg, names_of_bound hnb, laid_of_kept hlk⟩, Shared.asleep_of_life hl z, hg, g1, G, hY⟩
end Mine
end
section
namespace H03
open PySem PySem.W PyProof.Rows Mine
noncomputable abbrev pw : Program := PySem.Challenge.pw_tp0058_03
noncomputable def sS (s : String) : Str := Str.ofString s
noncomputable def vI (i : Int) (t : Nat) : Value := .int i t
noncomputable def vS (s : String) (t : Nat) : Value := .str (Str.ofString s) t
noncomputable def vR (a : Nat) : Value := .ref a
noncomputable def dE (P : Params) (s : String) (t : Nat) (v : Value) : DictEntry := ⟨PyData.keyHash P (Str.ofString s), .str (Str.ofString s) t, v⟩
noncomputable def aA {α : Type} (l : List α) : Array α := l.toArray
noncomputable def stm (i : Nat) : Stmt := (pw.main.body[i]?).getD (.Pass ⟨0, 0, 0, 0⟩)
noncomputable def fA (i : Nat) : Arguments := match stm i with | .FunctionDef _ a _ _ _ _ _ _ _ _ => a | _ => ⟨[], [], none, [], [], none, []⟩
noncomputable def fB (i : Nat) : FuncBody := match stm i with | .FunctionDef _ _ b _ _ _ _ _ _ _ => .stmts b | _ => .stmts []
noncomputable def fS (i : Nat) : Scope := match stm i with | .FunctionDef _ _ _ _ _ _ s _ _ _ => s | _ => ⟨.module, [], false, false, []⟩
noncomputable def cst (i j : Nat) : Stmt := match stm i with | .ClassDef _ _ _ b _ _ _ _ _ _ _ => (b[j]?).getD (.Pass ⟨0, 0, 0, 0⟩) | _ => .Pass ⟨0, 0, 0, 0⟩
noncomputable def cA (i j : Nat) : Arguments := match cst i j with | .FunctionDef _ a _ _ _ _ _ _ _ _ => a | _ => ⟨[], [], none, [], [], none, []⟩
noncomputable def cB (i j : Nat) : FuncBody := match cst i j with | .FunctionDef _ _ b _ _ _ _ _ _ _ => .stmts b | _ => .stmts []
noncomputable def cS (i j : Nat) : Scope := match cst i j with | .FunctionDef _ _ _ _ _ _ s _ _ _ => s | _ => ⟨.module, [], false, false, []⟩
noncomputable def n (o : Obj) (l r : BT) : BT := .node o l r
noncomputable def e : BT := .nil
noncomputable abbrev OP := Params → Obj
noncomputable abbrev vN := @PySem.Value.none
noncomputable abbrev vT := @PySem.Value.type
noncomputable abbrev vB := @PySem.Value.builtin
noncomputable abbrev vO := @PySem.Value.bool
noncomputable abbrev vX := @PySem.Value.str
noncomputable abbrev oM := @PySem.Obj.mk
noncomputable abbrev dP := @PySem.Data.plain
noncomputable abbrev dF := @PySem.Data.fields
noncomputable abbrev dS := @PySem.Data.seq
noncomputable abbrev dD := @PySem.Data.dict
noncomputable abbrev dC := @PySem.Data.cls
noncomputable abbrev dG := @PySem.Data.func
noncomputable abbrev cM := @PySem.ClassData.mk
noncomputable abbrev sM := @PySem.Str.mk
noncomputable abbrev z {α : Type} : Array α := #[]
noncomputable abbrev y (o : Obj) : BT := .node o .nil .nil
noncomputable abbrev tU (l : List Value) : Obj := oM (vT "tuple") none (dS (aA l) 0) z
noncomputable abbrev fE : Obj := oM vN none (dF z) z
noncomputable abbrev tD (l : List DictEntry) (k : Nat) : Obj := oM (vT "dict") none (dD (aA l) k) z
noncomputable def altL : Bool → List Obj → List Obj
  | _, [] => []
  | true, x :: r => x :: altL false r
  | false, _ :: r => altL true r
noncomputable def trL : Nat → List Obj → BT
  | n + 1, x :: r => .node x (trL n (altL true r)) (trL n (altL false r))
  | _, _ => .nil
noncomputable def stL (c : List (Nat × Obj)) (l : List Obj) : List Obj := c.foldl (fun l c => l.set c.1 c.2) l
noncomputable abbrev f0 (a b : String) (A : Arguments) (B : FuncBody) (S : Scope) : Obj := oM vN none (dG (.mk (sS a) (sS b) A B S 0 [] vN vN vN vN none vN vN 0)) z
noncomputable abbrev f1 (a b : String) (A : Arguments) (B : FuncBody) (S : Scope) (n : Nat) (D K : Value) (m : String) (i r : Nat) : Obj := oM (vT "function") none (dG (.mk (sS a) (sS b) A B S n [] D vN K (vS m i) none (vR r) vN 0)) z
noncomputable def o0 : OP := fun P => tD [(dE P "__name__" 1 (vS "builtins" 160)), (dE P "__doc__" 2 (vB "builtins.__doc__:str#opaque")), (dE P "__package__" 3 (vB "builtins.__package__:str#opaque")), (dE P "__loader__" 4 (vB "builtins.__loader__:shared#opaque")), (dE P "__spec__" 5 (vB "builtins.__spec__#opaque")), (dE P "__build_class__" 6 (vB "__build_class__")), (dE P "__import__" 7 (vB "__import__")), (dE P "abs" 8 (vB "abs")), (dE P "all" 9 (vB "all")), (dE P "any" 10 (vB "any")), (dE P "ascii" 11 (vB "ascii")), (dE P "bin" 12 (vB "bin")), (dE P "breakpoint" 13 (vB "breakpoint")), (dE P "callable" 14 (vB "callable")), (dE P "chr" 15 (vB "chr")), (dE P "compile" 16 (vB "compile")), (dE P "delattr" 17 (vB "delattr")), (dE P "dir" 18 (vB "dir")), (dE P "divmod" 19 (vB "divmod")), (dE P "eval" 20 (vB "eval")), (dE P "exec" 21 (vB "exec")), (dE P "format" 22 (vB "format")), (dE P "getattr" 23 (vB "getattr")), (dE P "globals" 24 (vB "globals")), (dE P "hasattr" 25 (vB "hasattr")), (dE P "hash" 26 (vB "hash")), (dE P "hex" 27 (vB "hex")), (dE P "id" 28 (vB "id")), (dE P "input" 29 (vB "input")), (dE P "isinstance" 30 (vB "isinstance")), (dE P "issubclass" 31 (vB "issubclass")), (dE P "iter" 32 (vB "iter")), (dE P "aiter" 33 (vB "aiter")), (dE P "len" 34 (vB "len")), (dE P "locals" 35 (vB "locals")), (dE P "max" 36 (vB "max")), (dE P "min" 37 (vB "min")), (dE P "next" 38 (vB "next")), (dE P "anext" 39 (vB "anext")), (dE P "oct" 40 (vB "oct")), (dE P "ord" 41 (vB "ord")), (dE P "pow" 42 (vB "pow")), (dE P "print" 43 (vB "print")), (dE P "repr" 44 (vB "repr")), (dE P "round" 45 (vB "round")), (dE P "setattr" 46 (vB "setattr")), (dE P "sorted" 47 (vB "sorted")), (dE P "sum" 48 (vB "sum")), (dE P "vars" 49 (vB "vars")), (dE P "None" 50 vN), (dE P "Ellipsis" 51 @PySem.Value.ellipsis), (dE P "NotImplemented" 52 @PySem.Value.notImplemented), (dE P "False" 53 (vO false)), (dE P "True" 54 (vO true)), (dE P "bool" 55 (vT "bool")), (dE P "memoryview" 56 (vT "memoryview")), (dE P "bytearray" 57 (vT "bytearray")), (dE P "bytes" 58 (vT "bytes")), (dE P "classmethod" 59 (vT "classmethod")), (dE P "complex" 60 (vT "complex")), (dE P "dict" 61 (vT "dict")), (dE P "enumerate" 62 (vT "enumerate")), (dE P "filter" 63 (vT "filter")), (dE P "float" 64 (vT "float")), (dE P "frozenset" 65 (vT "frozenset")), (dE P "property" 66 (vT "property")), (dE P "int" 67 (vT "int")), (dE P "list" 68 (vT "list")), (dE P "map" 69 (vT "map")), (dE P "object" 70 (vT "object")), (dE P "range" 71 (vT "range")), (dE P "reversed" 72 (vT "reversed")), (dE P "set" 73 (vT "set")), (dE P "slice" 74 (vT "slice")), (dE P "staticmethod" 75 (vT "staticmethod")), (dE P "str" 76 (vT "str")), (dE P "super" 77 (vT "super")), (dE P "tuple" 78 (vT "tuple")), (dE P "type" 79 (vT "type")), (dE P "zip" 80 (vT "zip")), (dE P "__debug__" 81 (vO true)), (dE P "BaseException" 82 (vT "BaseException")), (dE P "BaseExceptionGroup" 83 (vT "BaseExceptionGroup")), (dE P "Exception" 84 (vT "Exception")), (dE P "GeneratorExit" 85 (vT "GeneratorExit")), (dE P "KeyboardInterrupt" 86 (vT "KeyboardInterrupt")), (dE P "SystemExit" 87 (vT "SystemExit")), (dE P "ArithmeticError" 88 (vT "ArithmeticError")), (dE P "AssertionError" 89 (vT "AssertionError")), (dE P "AttributeError" 90 (vT "AttributeError")), (dE P "BufferError" 91 (vT "BufferError")), (dE P "EOFError" 92 (vT "EOFError")), (dE P "ImportError" 93 (vT "ImportError")), (dE P "LookupError" 94 (vT "LookupError")), (dE P "MemoryError" 95 (vT "MemoryError")), (dE P "NameError" 96 (vT "NameError")), (dE P "OSError" 97 (vT "OSError")), (dE P "ReferenceError" 98 (vT "ReferenceError")), (dE P "RuntimeError" 99 (vT "RuntimeError")), (dE P "StopAsyncIteration" 100 (vT "StopAsyncIteration")), (dE P "StopIteration" 101 (vT "StopIteration")), (dE P "SyntaxError" 102 (vT "SyntaxError")), (dE P "SystemError" 103 (vT "SystemError")), (dE P "TypeError" 104 (vT "TypeError")), (dE P "ValueError" 105 (vT "ValueError")), (dE P "Warning" 106 (vT "Warning")), (dE P "FloatingPointError" 107 (vT "FloatingPointError")), (dE P "OverflowError" 108 (vT "OverflowError")), (dE P "ZeroDivisionError" 109 (vT "ZeroDivisionError")), (dE P "BytesWarning" 110 (vT "BytesWarning")), (dE P "DeprecationWarning" 111 (vT "DeprecationWarning")), (dE P "EncodingWarning" 112 (vT "EncodingWarning")), (dE P "FutureWarning" 113 (vT "FutureWarning")), (dE P "ImportWarning" 114 (vT "ImportWarning")), (dE P "PendingDeprecationWarning" 115 (vT "PendingDeprecationWarning")), (dE P "ResourceWarning" 116 (vT "ResourceWarning")), (dE P "RuntimeWarning" 117 (vT "RuntimeWarning")), (dE P "SyntaxWarning" 118 (vT "SyntaxWarning")), (dE P "UnicodeWarning" 119 (vT "UnicodeWarning")), (dE P "UserWarning" 120 (vT "UserWarning")), (dE P "BlockingIOError" 121 (vT "BlockingIOError")), (dE P "ChildProcessError" 122 (vT "ChildProcessError")), (dE P "ConnectionError" 123 (vT "ConnectionError")), (dE P "FileExistsError" 124 (vT "FileExistsError")), (dE P "FileNotFoundError" 125 (vT "FileNotFoundError")), (dE P "InterruptedError" 126 (vT "InterruptedError")), (dE P "IsADirectoryError" 127 (vT "IsADirectoryError")), (dE P "NotADirectoryError" 128 (vT "NotADirectoryError")), (dE P "PermissionError" 129 (vT "PermissionError")), (dE P "ProcessLookupError" 130 (vT "ProcessLookupError")), (dE P "TimeoutError" 131 (vT "TimeoutError")), (dE P "IndentationError" 132 (vT "IndentationError")), (dE P "_IncompleteInputError" 133 (vT "_IncompleteInputError")), (dE P "IndexError" 134 (vT "IndexError")), (dE P "KeyError" 135 (vT "KeyError")), (dE P "ModuleNotFoundError" 136 (vT "ModuleNotFoundError")), (dE P "NotImplementedError" 137 (vT "NotImplementedError")), (dE P "PythonFinalizationError" 138 (vT "PythonFinalizationError")), (dE P "RecursionError" 139 (vT "RecursionError")), (dE P "UnboundLocalError" 140 (vT "UnboundLocalError")), (dE P "UnicodeError" 141 (vT "UnicodeError")), (dE P "BrokenPipeError" 142 (vT "BrokenPipeError")), (dE P "ConnectionAbortedError" 143 (vT "ConnectionAbortedError")), (dE P "ConnectionRefusedError" 144 (vT "ConnectionRefusedError")), (dE P "ConnectionResetError" 145 (vT "ConnectionResetError")), (dE P "TabError" 146 (vT "TabError")), (dE P "UnicodeDecodeError" 147 (vT "UnicodeDecodeError")), (dE P "UnicodeEncodeError" 148 (vT "UnicodeEncodeError")), (dE P "UnicodeTranslateError" 149 (vT "UnicodeTranslateError")), (dE P "ExceptionGroup" 150 (vT "ExceptionGroup")), (dE P "EnvironmentError" 151 (vT "OSError")), (dE P "IOError" 152 (vT "OSError")), (dE P "open" 153 (vB "open")), (dE P "quit" 154 (vB "builtins.quit#opaque")), (dE P "exit" 155 (vB "builtins.exit#opaque")), (dE P "copyright" 156 (vB "builtins.copyright#opaque")), (dE P "credits" 157 (vB "builtins.credits#opaque")), (dE P "license" 158 (vB "builtins.license#opaque")), (dE P "help" 159 (vB "builtins.help#opaque"))] 159
noncomputable def o1 : OP := fun P => tD [(dE P "builtins" 162 (vR 4)), (dE P "__main__" 163 (vR 5)), (dE P "_sre" 244 (vR 12))] 3
noncomputable def o2 : OP := fun P => oM vN none (dD (aA [(dE P "\x69mport.loaded._sre" 183 (vO true)), (dE P "class._frozen_importlib.BuiltinImporter" 185 (vR 14)), (dE P "watched.\x69mport" 206 (vR 18)), (dE P "class._frozen_importlib.ModuleSpec" 216 (vR 22)), (dE P "sys.modules.booked-epoch" 245 (vI 3 0)), (dE P "\x69mport.later-laid._sre" 270 (vO true)), (dE P "watched.library" 272 (vR 27)), (dE P "watched.library-objects" 0 (vS "\x0c" 0)), (dE P "watched.library-deep._sre" 273 (vS "\x04\x00\x00\x0b\x04\x00\x00\x0b\x04\x00\x00\x03\x04\x00\x00\x0b\x08\x04dict\x02" 0))]) 9) z
noncomputable def o3 : OP := fun P => tD [(dE P "__name__" 165 (vS "__main__" 164)), (dE P "__doc__" 166 vN), (dE P "__package__" 167 vN), (dE P "__loader__" 168 (vB "__main__.__loader__#opaque")), (dE P "__spec__" 169 vN), (dE P "__annotations__" 170 (vR 6)), (dE P "__builtins__" 171 (vR 4)), (dE P "__file__" 173 (vS "/claim/cut.py" 172)), (dE P "__cached__" 174 vN), (dE P "_sre" 275 (vR 12))] 10
noncomputable def o4 : OP := fun P => oM (vT "module") (some 0) dP z
noncomputable def o5 : OP := fun P => oM (vT "module") (some 3) dP z
noncomputable def o6 : OP := fun P => oM (vT "dict") none (dD z 0) z
noncomputable def o7 : OP := fun P => tU []
noncomputable def o8 : OP := fun P => fE
noncomputable def o9 : OP := fun P => oM (vT "code") none (dF (aA [(vS "<module>" 176), (vS "<module>" 177), (vS "/claim/cut.py" 178), (vI 1 0), (vI 0 0), (vI 0 0), (vI 0 0), (vI 0 0), (vR 7), (vO false), (vI 175 0), (vR 8), vN, vN, vN, vN, (vI 179 0), (vI 1 0), (vS "/claim/cut.py" 180)])) z
noncomputable def o10 : OP := fun P => oM (vT "frame") none dP (aA [(some (vR 9)), (some (vR 3)), (some (vR 3)), none, (some (vS "__main__" 164)), none, (some (vR 0))])
noncomputable def o11 : OP := fun P => tD [(dE P "__name__" 247 (vS "_sre" 246)), (dE P "__doc__" 248 vN), (dE P "__package__" 250 (vS "" 249)), (dE P "__loader__" 251 (vB "off-the-table:_sre.__loader__:shared#opaque")), (dE P "__spec__" 252 (vB "off-the-table:_sre.__spec__:shared#opaque")), (dE P "compile" 253 (vB "_sre.compile")), (dE P "template" 254 (vB "off-the-table:_sre.template:shared#opaque")), (dE P "getcodesize" 255 (vB "off-the-table:_sre.getcodesize:shared#opaque")), (dE P "ascii_iscased" 256 (vB "off-the-table:_sre.ascii_iscased:shared#opaque")), (dE P "unicode_iscased" 257 (vB "off-the-table:_sre.unicode_iscased:shared#opaque")), (dE P "ascii_tolower" 258 (vB "off-the-table:_sre.ascii_tolower:shared#opaque")), (dE P "unicode_tolower" 259 (vB "off-the-table:_sre.unicode_tolower:shared#opaque")), (dE P "MAGIC" 261 (vI 20230612 260)), (dE P "CODESIZE" 263 (vI 4 262)), (dE P "MAXREPEAT" 265 (vI 4294967295 264)), (dE P "MAXGROUPS" 267 (vI 1073741823 266)), (dE P "copyright" 269 (vS " SRE 2.2.2 Copyright (c) 1997-2002 by Secret Labs AB " 268))] 17
noncomputable def o12 : OP := fun P => oM (vT "module") (some 11) dP z
noncomputable def o13 : OP := fun P => tD [(dE P "__module__" 189 (vS "_frozen_importlib" 186)), (dE P "__firstlineno__" 190 (vI 971 187)), (dE P "__doc__" 191 (vB "_frozen_importlib.BuiltinImporter.__doc__:str#opaque")), (dE P "_ORIGIN" 192 (vS "built-in" 188)), (dE P "find_spec" 193 (vB "_frozen_importlib.BuiltinImporter.find_spec#opaque")), (dE P "create_module" 194 (vB "_frozen_importlib.BuiltinImporter.create_module#opaque")), (dE P "exec_module" 195 (vB "_frozen_importlib.BuiltinImporter.exec_module#opaque")), (dE P "get_code" 196 (vB "_frozen_importlib.BuiltinImporter.get_code#opaque")), (dE P "get_source" 197 (vB "_frozen_importlib.BuiltinImporter.get_source#opaque")), (dE P "is_package" 198 (vB "_frozen_importlib.BuiltinImporter.is_package#opaque")), (dE P "load_module" 199 (vB "_frozen_importlib.BuiltinImporter.load_module#opaque")), (dE P "__static_attributes__" 200 (vR 15)), (dE P "__dict__" 202 (vR 16)), (dE P "__weakref__" 204 (vR 17))] 14
noncomputable def o14 : OP := fun P => oM (vT "type") none (dC (cM (sS "BuiltinImporter") [(vT "object")] [(vR 14), (vT "object")] 13 (sS "BuiltinImporter") true [] [] false none false)) z
noncomputable def o15 : OP := fun P => tU []
noncomputable def o16 : OP := fun P => oM (vT "getset_descriptor") none (dF (aA [(vS "__dict__" 201), (vR 14), (vB "function.__dict__"), (vB "function.__dict__#set")])) z
noncomputable def o17 : OP := fun P => oM (vT "getset_descriptor") none (dF (aA [(vS "__weakref__" 203), (vR 14), (vB "ExceptionGroup.__weakref__"), vN])) z
noncomputable def o18 : OP := fun P => oM vN none (dS (aA [(vI 13 0), (vS "\x06\xbd\x0a__module__\x06\xba\x11_frozen_importlib\x06\xbe\x0f__firstlineno__\x04\xbb\x00\u03cb\x06\xbf\x07__doc__\x094_frozen_importlib.BuiltinImporter.__doc__:str#opaque\x06\xc0\x07_ORIGIN\x06\xbc\x08built-in\x06\xc1\x09find_spec\x092_frozen_importlib.BuiltinImporter.find_spec#opaque\x06\xc2\x0dcreate_module\x096_frozen_importlib.BuiltinImporter.create_module#opaque\x06\xc3\x0bexec_module\x094_frozen_importlib.BuiltinImporter.exec_module#opaque\x06\xc4\x08get_code\x091_frozen_importlib.BuiltinImporter.get_code#opaque\x06\xc5\x0aget_source\x093_frozen_importlib.BuiltinImporter.get_source#opaque\x06\xc6\x0ais_package\x093_frozen_importlib.BuiltinImporter.is_package#opaque\x06\xc7\x0bload_module\x094_frozen_importlib.BuiltinImporter.load_module#opaque\x06\xc8\x15__static_attributes__\x04\x00\x00\x0f\x06\xca\x08__dict__\x04\x00\x00\x10\x06\xcc\x0b__weakref__\x04\x00\x00\x11" 0), (vO true), (vO true), (vS "" 205), (vI 21 0), (vS "\x06\xe3\x0a__module__\x06\xd9\x11_frozen_importlib\x06\xe4\x0f__firstlineno__\x04\xda\x00\u0232\x06\xe5\x07__doc__\x09/_frozen_importlib.ModuleSpec.__doc__:str#opaque\x06\xe6\x08__init__\x09,_frozen_importlib.ModuleSpec.__init__#opaque\x06\xe7\x08__repr__\x09,_frozen_importlib.ModuleSpec.__repr__#opaque\x06\xe8\x06__eq__\x09*_frozen_importlib.ModuleSpec.__eq__#opaque\x06\xe9\x06cached\x09*_frozen_importlib.ModuleSpec.cached#opaque\x06\xea\x06parent\x09*_frozen_importlib.ModuleSpec.parent#opaque\x06\xeb\x0chas_location\x090_frozen_importlib.ModuleSpec.has_location#opaque\x06\xec\x15__static_attributes__\x04\x00\x00\x17\x06\xee\x08__dict__\x04\x00\x00\x18\x06\xf0\x0b__weakref__\x04\x00\x00\x19\x06\xf1\x08__hash__\x00" 0), (vO true), (vO true), (vS "" 242)]) 1) z
noncomputable def o19 : OP := fun P => oM (vT "list") none (dS z 0) z
noncomputable def o20 : OP := fun P => tD [(dE P "name" 208 (vS "_sre" 207)), (dE P "loader" 209 (vR 14)), (dE P "origin" 210 (vS "built-in" 184)), (dE P "loader_state" 211 vN), (dE P "submodule_search_locations" 212 vN), (dE P "_uninitialized_submodules" 213 (vR 19)), (dE P "_set_fileattr" 214 (vO false)), (dE P "_cached" 215 vN), (dE P "_initializing" 243 (vO false))] 9
noncomputable def o21 : OP := fun P => tD [(dE P "__module__" 227 (vS "_frozen_importlib" 217)), (dE P "__firstlineno__" 228 (vI 562 218)), (dE P "__doc__" 229 (vB "_frozen_importlib.ModuleSpec.__doc__:str#opaque")), (dE P "__init__" 230 (vB "_frozen_importlib.ModuleSpec.__init__#opaque")), (dE P "__repr__" 231 (vB "_frozen_importlib.ModuleSpec.__repr__#opaque")), (dE P "__eq__" 232 (vB "_frozen_importlib.ModuleSpec.__eq__#opaque")), (dE P "cached" 233 (vB "_frozen_importlib.ModuleSpec.cached#opaque")), (dE P "parent" 234 (vB "_frozen_importlib.ModuleSpec.parent#opaque")), (dE P "has_location" 235 (vB "_frozen_importlib.ModuleSpec.has_location#opaque")), (dE P "__static_attributes__" 236 (vR 23)), (dE P "__dict__" 238 (vR 24)), (dE P "__weakref__" 240 (vR 25)), (dE P "__hash__" 241 vN)] 13
noncomputable def o22 : OP := fun P => oM (vT "type") none (dC (cM (sS "ModuleSpec") [(vT "object")] [(vR 22), (vT "object")] 21 (sS "ModuleSpec") true [] [] false none false)) z
noncomputable def o23 : OP := fun P => tU [(vS "_cached" 219), (vS "_set_fileattr" 220), (vS "_uninitialized_submodules" 221), (vS "loader" 222), (vS "loader_state" 223), (vS "name" 224), (vS "origin" 225), (vS "submodule_search_locations" 226)]
noncomputable def o24 : OP := fun P => oM (vT "getset_descriptor") none (dF (aA [(vS "__dict__" 237), (vR 22), (vB "function.__dict__"), (vB "function.__dict__#set")])) z
noncomputable def o25 : OP := fun P => oM (vT "getset_descriptor") none (dF (aA [(vS "__weakref__" 239), (vR 22), (vB "ExceptionGroup.__weakref__"), vN])) z
noncomputable def o26 : OP := fun P => oM (vR 22) (some 20) dP z
noncomputable def o27 : OP := fun P => oM vN none (dS (aA [(vI 11 0), (vX (sM (aA [6, 247, 8, 95, 95, 110, 97, 109, 101, 95, 95, 6, 246, 4, 95, 115, 114, 101, 6, 248, 7, 95, 95, 100, 111, 99, 95, 95, 0, 6, 250, 11, 95, 95, 112, 97, 99, 107, 97, 103, 101, 95, 95, 6, 249, 0, 6, 251, 10, 95, 95, 108, 111, 97, 100, 101, 114, 95, 95, 4, 0, 0, 14, 6, 252, 8, 95, 95, 115, 112, 101, 99, 95, 95, 4, 0, 0, 26, 6, 253, 7, 99, 111, 109, 112, 105, 108, 101, 9, 12, 95, 115, 114, 101, 46, 99, 111, 109, 112, 105, 108, 101, 6, 254, 8, 116, 101, 109, 112, 108, 97, 116, 101, 9, 13, 95, 115, 114, 101, 46, 116, 101, 109, 112, 108, 97, 116, 101, 6, 255, 11, 103, 101, 116, 99, 111, 100, 101, 115, 105, 122, 101, 9, 16, 95, 115, 114, 101, 46, 103, 101, 116, 99, 111, 100, 101, 115, 105, 122, 101, 6, 256, 13, 97, 115, 99, 105, 105, 95, 105, 115, 99, 97, 115, 101, 100, 9, 18, 95, 115, 114, 101, 46, 97, 115, 99, 105, 105, 95, 105, 115, 99, 97, 115, 101, 100, 6, 257, 15, 117, 110, 105, 99, 111, 100, 101, 95, 105, 115, 99, 97, 115, 101, 100, 9, 20, 95, 115, 114, 101, 46, 117, 110, 105, 99, 111, 100, 101, 95, 105, 115, 99, 97, 115, 101, 100, 6, 258, 13, 97, 115, 99, 105, 105, 95, 116, 111, 108, 111, 119, 101, 114, 9, 18, 95, 115, 114, 101, 46, 97, 115, 99, 105, 105, 95, 116, 111, 108, 111, 119, 101, 114, 6, 259, 15, 117, 110, 105, 99, 111, 100, 101, 95, 116, 111, 108, 111, 119, 101, 114, 9, 20, 95, 115, 114, 101, 46, 117, 110, 105, 99, 111, 100, 101, 95, 116, 111, 108, 111, 119, 101, 114, 6, 261, 5, 77, 65, 71, 73, 67, 4, 260, 0, 20230612, 6, 263, 8, 67, 79, 68, 69, 83, 73, 90, 69, 4, 262, 0, 4, 6, 265, 9, 77, 65, 88, 82, 69, 80, 69, 65, 84, 4, 264, 0, 4294967295, 6, 267, 9, 77, 65, 88, 71, 82, 79, 85, 80, 83, 4, 266, 0, 1073741823, 6, 269, 9, 99, 111, 112, 121, 114, 105, 103, 104, 116, 6, 268, 53, 32, 83, 82, 69, 32, 50, 46, 50, 46, 50, 32, 67, 111, 112, 121, 114, 105, 103, 104, 116, 32, 40, 99, 41, 32, 49, 57, 57, 55, 45, 50, 48, 48, 50, 32, 98, 121, 32, 83, 101, 99, 114, 101, 116, 32, 76, 97, 98, 115, 32, 65, 66, 32])) 0), (vO true), (vO false), (vS "_sre" 271)]) 0) z
noncomputable def LT0 (P : Params) (x : Nat → Obj) : List Obj := [o0 P, o1 P, o2 P, o3 P, o4 P, o5 P, o6 P, o7 P, o8 P, o9 P, o10 P, o11 P, o12 P, o13 P, o14 P, o15 P, o16 P, o17 P, o18 P, o19 P, o20 P, o21 P, o22 P, o23 P, o24 P, o25 P, o26 P, o27 P]
noncomputable def T0 (P : Params) (x : Nat → Obj) : BT := trL 10 (LT0 P x)
noncomputable def H0L (P : Params) : List Obj := [o0 P, o1 P, o2 P, o3 P, o4 P, o5 P, o6 P, o7 P, o8 P, o9 P, o10 P, o11 P, o12 P, o13 P, o14 P, o15 P, o16 P, o17 P, o18 P, o19 P, o20 P, o21 P, o22 P, o23 P, o24 P, o25 P, o26 P, o27 P]
noncomputable def life0 : Life := (@PySem.Life.mk [] [] [] 0 [] [] false z [] 0 false false false 0 [2000, 10, 10] false 0 true [] [] 0 false)
noncomputable def dr0 : Drawn := (@PySem.Drawn.mk 0 0 0 0)
noncomputable def n0 : Nat := 28
noncomputable def k0 : Nat := 276
noncomputable def o28 : OP := fun P => tU []
noncomputable def o29 : OP := fun P => fE
noncomputable def o30 : OP := fun P => oM (vT "code") none (dF (aA [(vS "<module>" 277), (vS "<module>" 278), (vS "/claim/cut.py" 279), (vI 1 0), (vI 0 0), (vI 0 0), (vI 0 0), (vI 0 0), (vR 28), (vO false), (vI 276 0), (vR 29), vN, vN, vN, vN, (vI 280 0), (vI 1 0), (vS "/claim/cut.py" 281)])) z
noncomputable def o31 : OP := fun P => oM (vT "frame") none dP (aA [(some (vR 30)), (some (vR 3)), (some (vR 3)), none, (some (vS "__main__" 164)), none, (some (vR 0))])
noncomputable def LTa (P : Params) (x : Nat → Obj) : List Obj := stL [] (LT0 P x) ++ [o28 P, o29 P, o30 P, o31 P]
noncomputable def Ta (P : Params) (x : Nat → Obj) : BT := trL 10 (LTa P x)
noncomputable def na : Nat := 32
noncomputable def ka : Nat := 282
noncomputable def codeV : Value := (vR 30)
noncomputable def frameA : Nat := 31
noncomputable def o32 : OP := fun P => tD [(dE P "__name__" 165 (vS "cpy313.stringprep" 289)), (dE P "__doc__" 166 vN), (dE P "__package__" 167 vN), (dE P "__loader__" 168 (vB "__main__.__loader__#opaque")), (dE P "__spec__" 169 vN), (dE P "__annotations__" 170 (vR 6)), (dE P "__builtins__" 171 (vR 4)), (dE P "__file__" 173 (vS "/claim/cut.py" 172)), (dE P "__cached__" 174 vN), (dE P "_sre" 275 (vR 12)), (dE P "_wall" 288 (vR 38))] 11
noncomputable def o33 : OP := fun P => oM vN none (dF (aA [(vI 2 0), (vI 0 0), (vR 37)])) z
noncomputable def o34 : OP := fun P => tU []
noncomputable def o35 : OP := fun P => fE
noncomputable def o36 : OP := fun P => tU [(vS "k" 285)]
noncomputable def o37 : OP := fun P => tU []
noncomputable def o38 : OP := fun P => f0 "_wall" "_wall" (fA 1) (fB 1) (fS 1)
noncomputable def o39 : OP := fun P => oM (vT "code") none (dF (aA [(vS "_wall" 282), (vS "_wall" 283), (vS "/claim/cut.py" 284), (vI 2 0), (vI 1 0), (vI 0 0), (vI 0 0), (vI 3 0), (vR 32), (vO true), (vI 276 0), (vR 33), vN, (vR 34), (vR 35), (vR 36), (vI 286 0), (vI 2 0), (vS "/claim/cut.py" 287)])) z
noncomputable def o40 : OP := fun P => f1 "_wall" "_wall" (fA 1) (fB 1) (fS 1) 3 vN vN "__main__" 164 37
noncomputable def LT1 (P : Params) (x : Nat → Obj) : List Obj := stL [(3, o32 P), (29, o33 P)] (LTa P x) ++ [o34 P, o35 P, o36 P, o37 P, o38 P, o39 P, o40 P]
noncomputable def T1 (P : Params) (x : Nat → Obj) : BT := trL 10 (LT1 P x)
noncomputable def n1 : Nat := 39
noncomputable def k1 : Nat := 291
noncomputable def p1 : Pos := (@PySem.Pos.mk 5 0 5 8)
noncomputable def o41 : OP := fun P => tD [(dE P "__name__" 165 (vS "cpy313.stringprep" 289)), (dE P "__doc__" 166 vN), (dE P "__package__" 167 vN), (dE P "__loader__" 168 (vB "__main__.__loader__#opaque")), (dE P "__spec__" 169 vN), (dE P "__annotations__" 170 (vR 6)), (dE P "__builtins__" 171 (vR 4)), (dE P "__file__" 173 (vS "/claim/cut.py" 172)), (dE P "__cached__" 174 vN), (dE P "_sre" 275 (vR 12)), (dE P "_wall" 288 (vR 38)), (dE P "b1_set" 350 (vR 46))] 12
noncomputable def o42 : OP := fun P => oM (vT "list") none (dS (aA [(vI 173 291), (vI 847 292), (vI 6150 293), (vI 6155 294), (vI 6156 295), (vI 6157 296), (vI 8203 297), (vI 8204 298), (vI 8205 299), (vI 8288 300), (vI 65279 301)]) 0) z
noncomputable def o43 : OP := fun P => oM (vT "range") none (dF (aA [(vI 65024 302), (vI 65040 303), (vI 1 304)])) z
noncomputable def o44 : OP := fun P => oM (vT "list") none (dS (aA [(vI 65024 307), (vI 65025 308), (vI 65026 309), (vI 65027 310), (vI 65028 311), (vI 65029 312), (vI 65030 313), (vI 65031 314), (vI 65032 315), (vI 65033 316), (vI 65034 317), (vI 65035 318), (vI 65036 319), (vI 65037 320), (vI 65038 321), (vI 65039 322)]) 18) z
noncomputable def o45 : OP := fun P => oM (vT "range_iterator") none (dF (aA [(vI 65040 0), (vI 0 0), (vI 1 0)])) z
noncomputable def o46 : OP := fun P => tU []
noncomputable def o47 : OP := fun P => oM (vT "StopIteration") none (dF (aA [(vR 43), vN, vN, vN, (vO false), vN])) z
noncomputable def o48 : OP := fun P => oM (vT "list") none (dS (aA [(vI 173 291), (vI 847 292), (vI 6150 293), (vI 6155 294), (vI 6156 295), (vI 6157 296), (vI 8203 297), (vI 8204 298), (vI 8205 299), (vI 8288 300), (vI 65279 301), (vI 65024 307), (vI 65025 308), (vI 65026 309), (vI 65027 310), (vI 65028 311), (vI 65029 312), (vI 65030 313), (vI 65031 314), (vI 65032 315), (vI 65033 316), (vI 65034 317), (vI 65035 318), (vI 65036 319), (vI 65037 320), (vI 65038 321), (vI 65039 322)]) 0) z
noncomputable def o49 : OP := fun P => oM (vT "set") none (@PySem.Data.set (aA [(65024, (vI 65024 307)), (65025, (vI 65025 308)), (65026, (vI 65026 309)), (65027, (vI 65027 310)), (65028, (vI 65028 311)), (65029, (vI 65029 312)), (6150, (vI 6150 293)), (65030, (vI 65030 313)), (65031, (vI 65031 314)), (65032, (vI 65032 315)), (65033, (vI 65033 316)), (6155, (vI 6155 294)), (6156, (vI 6156 295)), (6157, (vI 6157 296)), (8203, (vI 8203 297)), (8204, (vI 8204 298)), (8205, (vI 8205 299)), (65034, (vI 65034 317)), (65035, (vI 65035 318)), (65036, (vI 65036 319)), (65037, (vI 65037 320)), (65038, (vI 65038 321)), (65039, (vI 65039 322)), (173, (vI 173 291)), (847, (vI 847 292)), (8288, (vI 8288 300)), (65279, (vI 65279 301))]) 29 (@PySem.SetTable.mk 127 (aA [0, 1, 2, 3, 4, 5, 6, 7, 8, 9, 10, 11, 12, 13, 14, 15, 16, 17, 18, 19, 20, 21, 22, 45, 79, 96, 127]) z 0 (@Bool.not (@PySem.Params.followText P "set-order")) 2 true)) z
noncomputable def o50 : OP := fun P => oM (vT "list_iterator") none (dF (aA [vN, (vI 27 0)])) z
noncomputable def o51 : OP := fun P => tU []
noncomputable def o52 : OP := fun P => oM (vT "StopIteration") none (dF (aA [(vR 48), vN, vN, vN, (vO false), vN])) z
noncomputable def LT2 (P : Params) (x : Nat → Obj) : List Obj := stL [(3, o41 P)] (LT1 P x) ++ [o42 P, o43 P, o44 P, o45 P, o46 P, o47 P, o48 P, o49 P, o50 P, o51 P, o52 P]
noncomputable def T2 (P : Params) (x : Nat → Obj) : BT := trL 10 (LT2 P x)
noncomputable def n2 : Nat := 50
noncomputable def k2 : Nat := 351
noncomputable def p2 : Pos := (@PySem.Pos.mk 6 0 6 6)
noncomputable def o53 : OP := fun P => tD [(dE P "__name__" 165 (vS "cpy313.stringprep" 289)), (dE P "__doc__" 166 vN), (dE P "__package__" 167 vN), (dE P "__loader__" 168 (vB "__main__.__loader__#opaque")), (dE P "__spec__" 169 vN), (dE P "__annotations__" 170 (vR 6)), (dE P "__builtins__" 171 (vR 4)), (dE P "__file__" 173 (vS "/claim/cut.py" 172)), (dE P "__cached__" 174 vN), (dE P "_sre" 275 (vR 12)), (dE P "_wall" 288 (vR 38)), (dE P "b1_set" 350 (vR 46)), (dE P "in_table_b1" 357 (vR 56))] 13
noncomputable def o54 : OP := fun P => oM vN none (dF (aA [(vI 2 0), (vI 0 0), (vR 37), (vI 7 0), (vI 0 0), (vR 55)])) z
noncomputable def o55 : OP := fun P => tU []
noncomputable def o56 : OP := fun P => fE
noncomputable def o57 : OP := fun P => tU [(vS "code" 354)]
noncomputable def o58 : OP := fun P => tU []
noncomputable def o59 : OP := fun P => f0 "in_table_b1" "in_table_b1" (fA 4) (fB 4) (fS 4)
noncomputable def o60 : OP := fun P => oM (vT "code") none (dF (aA [(vS "in_table_b1" 351), (vS "in_table_b1" 352), (vS "/claim/cut.py" 353), (vI 7 0), (vI 1 0), (vI 0 0), (vI 0 0), (vI 3 0), (vR 50), (vO true), (vI 276 0), (vR 51), vN, (vR 52), (vR 53), (vR 54), (vI 355 0), (vI 7 0), (vS "/claim/cut.py" 356)])) z
noncomputable def o61 : OP := fun P => f1 "in_table_b1" "in_table_b1" (fA 4) (fB 4) (fS 4) 3 vN vN "cpy313.stringprep" 289 55
noncomputable def LT3 (P : Params) (x : Nat → Obj) : List Obj := stL [(3, o53 P), (29, o54 P)] (LT2 P x) ++ [o55 P, o56 P, o57 P, o58 P, o59 P, o60 P, o61 P]
noncomputable def T3 (P : Params) (x : Nat → Obj) : BT := trL 10 (LT3 P x)
noncomputable def n3 : Nat := 57
noncomputable def k3 : Nat := 358
noncomputable def p3 : Pos := (@PySem.Pos.mk 7 0 8 30)
noncomputable def BL (P : Params) : List Obj := [o0 P, o1 P, o2 P, o53 P, o4 P, o5 P, o6 P, o7 P, o8 P, o9 P, o10 P, o11 P, o12 P, o13 P, o14 P, o15 P, o16 P, o17 P, o18 P, o19 P, o20 P, o21 P, o22 P, o23 P, o24 P, o25 P, o26 P, o27 P, o28 P, o54 P, o30 P, o31 P, o34 P, o35 P, o36 P, o37 P, o38 P, o39 P, o40 P, o42 P, o43 P, o44 P, o45 P, o46 P, o47 P, o48 P, o49 P, o50 P, o51 P, o52 P, o55 P, o56 P, o57 P, o58 P, o59 P, o60 P, o61 P]
noncomputable def LTm (P : Params) (x : Nat → Obj) : List Obj := stL [] (LT3 P x) ++ [x 0, x 1, x 2, x 3, x 4, x 5, x 6, x 7, x 8, x 9, x 10, x 11, x 12, x 13, x 14, x 15, x 16, x 17, x 18, x 19, x 20, x 21, x 22, x 23, x 24, x 25, x 26, x 27, x 28, x 29, x 30, x 31, x 32, x 33, x 34, x 35, x 36, x 37, x 38]
noncomputable def Tm (P : Params) (x : Nat → Obj) : BT := trL 10 (LTm P x)
noncomputable def o62 : OP := fun P => tD [(dE P "__name__" 165 (vS "cpy313.stringprep" 289)), (dE P "__doc__" 166 vN), (dE P "__package__" 167 vN), (dE P "__loader__" 168 (vB "__main__.__loader__#opaque")), (dE P "__spec__" 169 vN), (dE P "__annotations__" 170 (vR 6)), (dE P "__builtins__" 171 (vR 4)), (dE P "__file__" 173 (vS "/claim/cut.py" 172)), (dE P "__cached__" 174 vN), (dE P "_sre" 275 (vR 12)), (dE P "_wall" 288 (vR 38)), (dE P "b1_set" 350 (vR 46)), (dE P "in_table_b1" 357 (vR 56)), (dE P "b3_exceptions" 2308 (vR 57))] 14
noncomputable def LT4 (P : Params) (x : Nat → Obj) : List Obj := stL [(3, o62 P)] (LTm P x)
noncomputable def T4 (P : Params) (x : Nat → Obj) : BT := trL 10 (LT4 P x)
noncomputable def n4 : Nat := 96
noncomputable def k4 : Nat := 2309
noncomputable def p4 : Pos := (@PySem.Pos.mk 9 0 9 13)
noncomputable def o102 : OP := fun P => tD [(dE P "__name__" 165 (vS "cpy313.traceback" 2317)), (dE P "__doc__" 166 vN), (dE P "__package__" 167 vN), (dE P "__loader__" 168 (vB "__main__.__loader__#opaque")), (dE P "__spec__" 169 vN), (dE P "__annotations__" 170 (vR 6)), (dE P "__builtins__" 171 (vR 4)), (dE P "__file__" 173 (vS "/claim/cut.py" 172)), (dE P "__cached__" 174 vN), (dE P "_sre" 275 (vR 12)), (dE P "_wall" 288 (vR 38)), (dE P "b1_set" 350 (vR 46)), (dE P "in_table_b1" 357 (vR 56)), (dE P "b3_exceptions" 2308 (vR 57)), (dE P "map_table_b3" 2316 (vR 102)), (dE P "_MAX_STRING_SIZE" 2320 (vI 40 2319)), (dE P "_MOVE_COST" 2322 (vI 2 2321)), (dE P "_CASE_COST" 2324 (vI 1 2323)), (dE P "_substitution_cost" 2332 (vR 109)), (dE P "_levenshtein_distance" 2352 (vR 116))] 20
noncomputable def o103 : OP := fun P => oM vN none (dF (aA [(vI 2 0), (vI 0 0), (vR 37), (vI 7 0), (vI 0 0), (vR 55), (vI 10 0), (vI 0 0), (vR 101), (vI 19 0), (vI 0 0), (vR 108), (vI 25 0), (vI 0 0), (vR 115)])) z
noncomputable def o104 : OP := fun P => tU []
noncomputable def o105 : OP := fun P => fE
noncomputable def o106 : OP := fun P => tU [(vS "code" 2312), (vS "r" 2313)]
noncomputable def o107 : OP := fun P => tU []
noncomputable def o108 : OP := fun P => f0 "map_table_b3" "map_table_b3" (fA 6) (fB 6) (fS 6)
noncomputable def o109 : OP := fun P => oM (vT "code") none (dF (aA [(vS "map_table_b3" 2309), (vS "map_table_b3" 2310), (vS "/claim/cut.py" 2311), (vI 10 0), (vI 1 0), (vI 0 0), (vI 0 0), (vI 3 0), (vR 96), (vO true), (vI 276 0), (vR 97), vN, (vR 98), (vR 99), (vR 100), (vI 2314 0), (vI 10 0), (vS "/claim/cut.py" 2315)])) z
noncomputable def o110 : OP := fun P => f1 "map_table_b3" "map_table_b3" (fA 6) (fB 6) (fS 6) 3 vN vN "cpy313.stringprep" 289 101
noncomputable def o111 : OP := fun P => tU []
noncomputable def o112 : OP := fun P => fE
noncomputable def o113 : OP := fun P => tU [(vS "ch_a" 2328), (vS "ch_b" 2329)]
noncomputable def o114 : OP := fun P => tU []
noncomputable def o115 : OP := fun P => f0 "_substitution_cost" "_substitution_cost" (fA 11) (fB 11) (fS 11)
noncomputable def o116 : OP := fun P => oM (vT "code") none (dF (aA [(vS "_substitution_cost" 2325), (vS "_substitution_cost" 2326), (vS "/claim/cut.py" 2327), (vI 19 0), (vI 2 0), (vI 0 0), (vI 0 0), (vI 3 0), (vR 103), (vO true), (vI 276 0), (vR 104), vN, (vR 105), (vR 106), (vR 107), (vI 2330 0), (vI 19 0), (vS "/claim/cut.py" 2331)])) z
noncomputable def o117 : OP := fun P => f1 "_substitution_cost" "_substitution_cost" (fA 11) (fB 11) (fS 11) 3 vN vN "cpy313.traceback" 2317 108
noncomputable def o118 : OP := fun P => tU []
noncomputable def o119 : OP := fun P => fE
noncomputable def o120 : OP := fun P => tU [(vS "a" 2336), (vS "b" 2337), (vS "max_cost" 2338), (vS "pre" 2339), (vS "post" 2340), (vS "row" 2341), (vS "result" 2342), (vS "bindex" 2343), (vS "bchar" 2344), (vS "distance" 2345), (vS "minimum" 2346), (vS "index" 2347), (vS "substitute" 2348), (vS "insert_delete" 2349)]
noncomputable def o121 : OP := fun P => tU []
noncomputable def o122 : OP := fun P => f0 "_levenshtein_distance" "_levenshtein_distance" (fA 12) (fB 12) (fS 12)
noncomputable def o123 : OP := fun P => oM (vT "code") none (dF (aA [(vS "_levenshtein_distance" 2333), (vS "_levenshtein_distance" 2334), (vS "/claim/cut.py" 2335), (vI 25 0), (vI 3 0), (vI 0 0), (vI 0 0), (vI 3 0), (vR 110), (vO true), (vI 276 0), (vR 111), vN, (vR 112), (vR 113), (vR 114), (vI 2350 0), (vI 25 0), (vS "/claim/cut.py" 2351)])) z
noncomputable def o124 : OP := fun P => f1 "_levenshtein_distance" "_levenshtein_distance" (fA 12) (fB 12) (fS 12) 3 vN vN "cpy313.traceback" 2317 115
noncomputable def LT5 (P : Params) (x : Nat → Obj) : List Obj := stL [(3, o102 P), (29, o103 P)] (LT4 P x) ++ [o104 P, o105 P, o106 P, o107 P, o108 P, o109 P, o110 P, o111 P, o112 P, o113 P, o114 P, o115 P, o116 P, o117 P, o118 P, o119 P, o120 P, o121 P, o122 P, o123 P, o124 P]
noncomputable def T5 (P : Params) (x : Nat → Obj) : BT := trL 10 (LT5 P x)
noncomputable def n5 : Nat := 117
noncomputable def k5 : Nat := 2353
noncomputable def p5 : Pos := (@PySem.Pos.mk 25 0 62 17)
noncomputable def o125 : OP := fun P => tD [(dE P "__name__" 165 (vS "cpy313.wsgiref.headers" 2353)), (dE P "__doc__" 166 vN), (dE P "__package__" 167 vN), (dE P "__loader__" 168 (vB "__main__.__loader__#opaque")), (dE P "__spec__" 169 vN), (dE P "__annotations__" 170 (vR 6)), (dE P "__builtins__" 171 (vR 4)), (dE P "__file__" 173 (vS "/claim/cut.py" 172)), (dE P "__cached__" 174 vN), (dE P "_sre" 275 (vR 12)), (dE P "_wall" 288 (vR 38)), (dE P "b1_set" 350 (vR 46)), (dE P "in_table_b1" 357 (vR 56)), (dE P "b3_exceptions" 2308 (vR 57)), (dE P "map_table_b3" 2316 (vR 102)), (dE P "_MAX_STRING_SIZE" 2320 (vI 40 2319)), (dE P "_MOVE_COST" 2322 (vI 2 2321)), (dE P "_CASE_COST" 2324 (vI 1 2323)), (dE P "_substitution_cost" 2332 (vR 109)), (dE P "_levenshtein_distance" 2352 (vR 116)), (dE P "tspecials" 2388 (vR 121)), (dE P "_name_disallowed_re" 2414 (vR 126))] 22
noncomputable def o126 : OP := fun P => oM (vT "list") none (dS (aA [(vI 14 2358), (vI 14 2359), (vI 4 2360), (vI 1 2361), (vI 1 2362), (vI 9 2363), (vI 0 2364), (vI 4227896069 2365), (vI 939524097 2366), (vI 0 2367), (vI 0 2368), (vI 0 2369), (vI 0 2370), (vI 0 2371), (vI 0 2372), (vI 13 2373), (vI 11 2374), (vI 9 2375), (vI 0 2376), (vI 4227896069 2377), (vI 939524097 2378), (vI 0 2379), (vI 0 2380), (vI 0 2381), (vI 0 2382), (vI 0 2383), (vI 0 2384), (vI 1 2385)]) 0) z
noncomputable def o127 : OP := fun P => oM (vT "dict") none (dD z 0) z
noncomputable def o128 : OP := fun P => tU [vN]
noncomputable def o129 : OP := fun P => tU [(vI 14 0), (vI 14 0), (vI 4 0), (vI 1 0), (vI 1 0), (vI 9 0), (vI 0 0), (vI 4227896069 0), (vI 939524097 0), (vI 0 0), (vI 0 0), (vI 0 0), (vI 0 0), (vI 0 0), (vI 0 0), (vI 13 0), (vI 11 0), (vI 9 0), (vI 0 0), (vI 4227896069 0), (vI 939524097 0), (vI 0 0), (vI 0 0), (vI 0 0), (vI 0 0), (vI 0 0), (vI 0 0), (vI 1 0)]
noncomputable def o130 : OP := fun P => oM (vT "re.Pattern") none (dF (aA [(vS "[ \\(\\)<>@,;:\\\\\"/\\[\\]\\?=]" 2356), (vI 32 2387), (vI 0 0), vN, vN, (vR 120), (vI 0 0)])) z
noncomputable def o131 : OP := fun P => oM (vT "list") none (dS (aA [(vI 14 2392), (vI 10 2393), (vI 4 2394), (vI 1 2395), (vI 1 2396), (vI 22 2397), (vI 0 2398), (vI 31 2399), (vI 16 2400), (vI 127 2401), (vI 0 2402), (vI 13 2403), (vI 7 2404), (vI 22 2405), (vI 0 2406), (vI 31 2407), (vI 16 2408), (vI 127 2409), (vI 0 2410), (vI 1 2411)]) 0) z
noncomputable def o132 : OP := fun P => oM (vT "dict") none (dD z 0) z
noncomputable def o133 : OP := fun P => tU [vN]
noncomputable def o134 : OP := fun P => tU [(vI 14 0), (vI 10 0), (vI 4 0), (vI 1 0), (vI 1 0), (vI 22 0), (vI 0 0), (vI 31 0), (vI 16 0), (vI 127 0), (vI 0 0), (vI 13 0), (vI 7 0), (vI 22 0), (vI 0 0), (vI 31 0), (vI 16 0), (vI 127 0), (vI 0 0), (vI 1 0)]
noncomputable def o135 : OP := fun P => oM (vT "re.Pattern") none (dF (aA [(vS "[\\x00-\\x1F\\x7F]" 2390), (vI 32 2413), (vI 0 0), vN, vN, (vR 125), (vI 0 0)])) z
noncomputable def LT6 (P : Params) (x : Nat → Obj) : List Obj := stL [(3, o125 P)] (LT5 P x) ++ [o126 P, o127 P, o128 P, o129 P, o130 P, o131 P, o132 P, o133 P, o134 P, o135 P]
noncomputable def T6 (P : Params) (x : Nat → Obj) : BT := trL 10 (LT6 P x)
noncomputable def n6 : Nat := 127
noncomputable def k6 : Nat := 2415
noncomputable def p6 : Pos := (@PySem.Pos.mk 65 0 65 19)
noncomputable def o136 : OP := fun P => tD [(dE P "__name__" 165 (vS "cpy313.wsgiref.headers" 2353)), (dE P "__doc__" 166 vN), (dE P "__package__" 167 vN), (dE P "__loader__" 168 (vB "__main__.__loader__#opaque")), (dE P "__spec__" 169 vN), (dE P "__annotations__" 170 (vR 6)), (dE P "__builtins__" 171 (vR 4)), (dE P "__file__" 173 (vS "/claim/cut.py" 172)), (dE P "__cached__" 174 vN), (dE P "_sre" 275 (vR 12)), (dE P "_wall" 288 (vR 38)), (dE P "b1_set" 350 (vR 46)), (dE P "in_table_b1" 357 (vR 56)), (dE P "b3_exceptions" 2308 (vR 57)), (dE P "map_table_b3" 2316 (vR 102)), (dE P "_MAX_STRING_SIZE" 2320 (vI 40 2319)), (dE P "_MOVE_COST" 2322 (vI 2 2321)), (dE P "_CASE_COST" 2324 (vI 1 2323)), (dE P "_substitution_cost" 2332 (vR 109)), (dE P "_levenshtein_distance" 2352 (vR 116)), (dE P "tspecials" 2388 (vR 121)), (dE P "_name_disallowed_re" 2414 (vR 126)), (dE P "_value_disallowed_re" 2448 (vR 131)), (dE P "_formatparam" 2458 (vR 139))] 24
noncomputable def o137 : OP := fun P => oM vN none (dF (aA [(vI 2 0), (vI 0 0), (vR 37), (vI 7 0), (vI 0 0), (vR 55), (vI 10 0), (vI 0 0), (vR 101), (vI 19 0), (vI 0 0), (vR 108), (vI 25 0), (vI 0 0), (vR 115), (vI 67 0), (vI 0 0), (vR 138)])) z
noncomputable def o138 : OP := fun P => oM (vT "list") none (dS (aA [(vI 14 2418), (vI 14 2419), (vI 4 2420), (vI 1 2421), (vI 1 2422), (vI 9 2423), (vI 4294966783 2424), (vI 0 2425), (vI 0 2426), (vI 2147483648 2427), (vI 0 2428), (vI 0 2429), (vI 0 2430), (vI 0 2431), (vI 0 2432), (vI 13 2433), (vI 11 2434), (vI 9 2435), (vI 4294966783 2436), (vI 0 2437), (vI 0 2438), (vI 2147483648 2439), (vI 0 2440), (vI 0 2441), (vI 0 2442), (vI 0 2443), (vI 0 2444), (vI 1 2445)]) 0) z
noncomputable def o139 : OP := fun P => oM (vT "dict") none (dD z 0) z
noncomputable def o140 : OP := fun P => tU [vN]
noncomputable def o141 : OP := fun P => tU [(vI 14 0), (vI 14 0), (vI 4 0), (vI 1 0), (vI 1 0), (vI 9 0), (vI 4294966783 0), (vI 0 0), (vI 0 0), (vI 2147483648 0), (vI 0 0), (vI 0 0), (vI 0 0), (vI 0 0), (vI 0 0), (vI 13 0), (vI 11 0), (vI 9 0), (vI 4294966783 0), (vI 0 0), (vI 0 0), (vI 2147483648 0), (vI 0 0), (vI 0 0), (vI 0 0), (vI 0 0), (vI 0 0), (vI 1 0)]
noncomputable def o142 : OP := fun P => oM (vT "re.Pattern") none (dF (aA [(vS "[\\x00-\\x08\\x0A-\\x1F\\x7F]" 2416), (vI 32 2447), (vI 0 0), vN, vN, (vR 130), (vI 0 0)])) z
noncomputable def o143 : OP := fun P => tU [vN, (vI 1 2449)]
noncomputable def o144 : OP := fun P => tU []
noncomputable def o145 : OP := fun P => fE
noncomputable def o146 : OP := fun P => tU [(vS "param" 2453), (vS "value" 2454), (vS "quote" 2455)]
noncomputable def o147 : OP := fun P => tU []
noncomputable def o148 : OP := fun P => f0 "_formatparam" "_formatparam" (fA 17) (fB 17) (fS 17)
noncomputable def o149 : OP := fun P => oM (vT "code") none (dF (aA [(vS "_formatparam" 2450), (vS "_formatparam" 2451), (vS "/claim/cut.py" 2452), (vI 67 0), (vI 3 0), (vI 0 0), (vI 0 0), (vI 3 0), (vR 133), (vO true), (vI 276 0), (vR 134), vN, (vR 135), (vR 136), (vR 137), (vI 2456 0), (vI 67 0), (vS "/claim/cut.py" 2457)])) z
noncomputable def o150 : OP := fun P => f1 "_formatparam" "_formatparam" (fA 17) (fB 17) (fS 17) 3 (vR 132) vN "cpy313.wsgiref.headers" 2353 138
noncomputable def LT7 (P : Params) (x : Nat → Obj) : List Obj := stL [(3, o136 P), (29, o137 P)] (LT6 P x) ++ [o138 P, o139 P, o140 P, o141 P, o142 P, o143 P, o144 P, o145 P, o146 P, o147 P, o148 P, o149 P, o150 P]
noncomputable def T7 (P : Params) (x : Nat → Obj) : BT := trL 10 (LT7 P x)
noncomputable def n7 : Nat := 140
noncomputable def k7 : Nat := 2459
noncomputable def p7 : Pos := (@PySem.Pos.mk 67 0 75 20)
noncomputable def o151 : OP := fun P => tD [(dE P "__name__" 165 (vS "cpy313.wsgiref.headers" 2353)), (dE P "__doc__" 166 vN), (dE P "__package__" 167 vN), (dE P "__loader__" 168 (vB "__main__.__loader__#opaque")), (dE P "__spec__" 169 vN), (dE P "__annotations__" 170 (vR 6)), (dE P "__builtins__" 171 (vR 4)), (dE P "__file__" 173 (vS "/claim/cut.py" 172)), (dE P "__cached__" 174 vN), (dE P "_sre" 275 (vR 12)), (dE P "_wall" 288 (vR 38)), (dE P "b1_set" 350 (vR 46)), (dE P "in_table_b1" 357 (vR 56)), (dE P "b3_exceptions" 2308 (vR 57)), (dE P "map_table_b3" 2316 (vR 102)), (dE P "_MAX_STRING_SIZE" 2320 (vI 40 2319)), (dE P "_MOVE_COST" 2322 (vI 2 2321)), (dE P "_CASE_COST" 2324 (vI 1 2323)), (dE P "_substitution_cost" 2332 (vR 109)), (dE P "_levenshtein_distance" 2352 (vR 116)), (dE P "tspecials" 2388 (vR 121)), (dE P "_name_disallowed_re" 2414 (vR 126)), (dE P "_value_disallowed_re" 2448 (vR 131)), (dE P "_formatparam" 2458 (vR 139)), (dE P "Headers" 2615 (vR 260))] 25
noncomputable def o152 : OP := fun P => oM vN none (dF (aA [(vI 2 0), (vI 0 0), (vR 37), (vI 7 0), (vI 0 0), (vR 55), (vI 10 0), (vI 0 0), (vR 101), (vI 19 0), (vI 0 0), (vR 108), (vI 25 0), (vI 0 0), (vR 115), (vI 67 0), (vI 0 0), (vR 138), (vI 76 0), (vI 0 0), (vR 145)])) z
noncomputable def o153 : OP := fun P => tU []
noncomputable def o154 : OP := fun P => oM (vT "builtin_function_or_method") none (dF (aA [(vB "type.__prepare__"), (vT "type")])) z
noncomputable def o155 : OP := fun P => tD [(dE P "__module__" 2466 (vS "cpy313.wsgiref.headers" 2353)), (dE P "__qualname__" 2468 (vS "Headers" 2467)), (dE P "__firstlineno__" 2470 (vI 76 2469)), (dE P "__init__" 2480 (vR 154)), (dE P "_convert_string_type" 2490 (vR 161)), (dE P "__len__" 2497 (vR 168)), (dE P "__setitem__" 2506 (vR 175)), (dE P "__delitem__" 2512 (vR 180)), (dE P "__getitem__" 2520 (vR 187)), (dE P "__contains__" 2528 (vR 194)), (dE P "get_all" 2534 (vR 199)), (dE P "get" 2545 (vR 207)), (dE P "keys" 2551 (vR 212)), (dE P "values" 2557 (vR 217)), (dE P "items" 2564 (vR 224)), (dE P "__repr__" 2571 (vR 231)), (dE P "__str__" 2577 (vR 236)), (dE P "__bytes__" 2584 (vR 243)), (dE P "setdefault" 2593 (vR 250)), (dE P "add_header" 2606 (vR 257)), (dE P "__static_attributes__" 2608 (vR 258))] 21
noncomputable def o156 : OP := fun P => tU []
noncomputable def o157 : OP := fun P => oM vN none (dF (aA [(vI 78 0), (vI 4 0), (vR 153), (vI 88 0), (vI 4 0), (vR 160), (vI 96 0), (vI 4 0), (vR 167), (vI 99 0), (vI 4 0), (vR 174), (vI 103 0), (vI 4 0), (vR 179), (vI 107 0), (vI 4 0), (vR 186), (vI 110 0), (vI 4 0), (vR 193), (vI 113 0), (vI 4 0), (vR 198), (vI 117 0), (vI 4 0), (vR 206), (vI 124 0), (vI 4 0), (vR 211), (vI 127 0), (vI 4 0), (vR 216), (vI 130 0), (vI 4 0), (vR 223), (vI 133 0), (vI 4 0), (vR 230), (vI 136 0), (vI 4 0), (vR 235), (vI 139 0), (vI 4 0), (vR 242), (vI 142 0), (vI 4 0), (vR 249), (vI 145 0), (vI 4 0), (vR 256)])) z
noncomputable def o158 : OP := fun P => oM (vT "code") none (dF (aA [(vS "Headers" 2461), (vS "Headers" 2462), (vS "/claim/cut.py" 2463), (vI 76 0), (vI 0 0), (vI 0 0), (vI 0 0), (vI 0 0), (vR 143), (vO false), (vI 276 0), (vR 144), vN, vN, vN, vN, (vI 2464 0), (vI 76 0), (vS "/claim/cut.py" 2465)])) z
noncomputable def o159 : OP := fun P => oM (vT "frame") none dP (aA [(some (vR 145)), (some (vR 3)), (some (vR 142)), none, (some (vS "cpy313.wsgiref.headers" 2353)), none, (some (vR 0))])
noncomputable def o160 : OP := fun P => tU [vN]
noncomputable def o161 : OP := fun P => tU []
noncomputable def o162 : OP := fun P => fE
noncomputable def o163 : OP := fun P => tU [(vS "self" 2474), (vS "headers" 2475), (vS "k" 2476), (vS "v" 2477)]
noncomputable def o164 : OP := fun P => tU []
noncomputable def o165 : OP := fun P => f0 "__init__" "Headers.__init__" (cA 18 0) (cB 18 0) (cS 18 0)
noncomputable def o166 : OP := fun P => oM (vT "code") none (dF (aA [(vS "__init__" 2471), (vS "Headers.__init__" 2472), (vS "/claim/cut.py" 2473), (vI 78 0), (vI 2 0), (vI 0 0), (vI 0 0), (vI 3 0), (vR 148), (vO true), (vI 276 0), (vR 149), vN, (vR 150), (vR 151), (vR 152), (vI 2478 0), (vI 78 0), (vS "/claim/cut.py" 2479)])) z
noncomputable def o167 : OP := fun P => f1 "__init__" "Headers.__init__" (cA 18 0) (cB 18 0) (cS 18 0) 3 (vR 147) vN "cpy313.wsgiref.headers" 2353 153
noncomputable def o168 : OP := fun P => tU []
noncomputable def o169 : OP := fun P => fE
noncomputable def o170 : OP := fun P => tU [(vS "self" 2484), (vS "value" 2485), (vS "name" 2486), (vS "regex" 2487)]
noncomputable def o171 : OP := fun P => tU []
noncomputable def o172 : OP := fun P => f0 "_convert_string_type" "Headers._convert_string_type" (cA 18 1) (cB 18 1) (cS 18 1)
noncomputable def o173 : OP := fun P => oM (vT "code") none (dF (aA [(vS "_convert_string_type" 2481), (vS "Headers._convert_string_type" 2482), (vS "/claim/cut.py" 2483), (vI 88 0), (vI 2 0), (vI 0 0), (vI 1 0), (vI 3 0), (vR 155), (vO true), (vI 276 0), (vR 156), vN, (vR 157), (vR 158), (vR 159), (vI 2488 0), (vI 88 0), (vS "/claim/cut.py" 2489)])) z
noncomputable def o174 : OP := fun P => f1 "_convert_string_type" "Headers._convert_string_type" (cA 18 1) (cB 18 1) (cS 18 1) 3 vN vN "cpy313.wsgiref.headers" 2353 160
noncomputable def o175 : OP := fun P => tU []
noncomputable def o176 : OP := fun P => fE
noncomputable def o177 : OP := fun P => tU [(vS "self" 2494)]
noncomputable def o178 : OP := fun P => tU []
noncomputable def o179 : OP := fun P => f0 "__len__" "Headers.__len__" (cA 18 2) (cB 18 2) (cS 18 2)
noncomputable def o180 : OP := fun P => oM (vT "code") none (dF (aA [(vS "__len__" 2491), (vS "Headers.__len__" 2492), (vS "/claim/cut.py" 2493), (vI 96 0), (vI 1 0), (vI 0 0), (vI 0 0), (vI 3 0), (vR 162), (vO true), (vI 276 0), (vR 163), vN, (vR 164), (vR 165), (vR 166), (vI 2495 0), (vI 96 0), (vS "/claim/cut.py" 2496)])) z
noncomputable def o181 : OP := fun P => f1 "__len__" "Headers.__len__" (cA 18 2) (cB 18 2) (cS 18 2) 3 vN vN "cpy313.wsgiref.headers" 2353 167
noncomputable def o182 : OP := fun P => tU []
noncomputable def o183 : OP := fun P => fE
noncomputable def o184 : OP := fun P => tU [(vS "self" 2501), (vS "name" 2502), (vS "val" 2503)]
noncomputable def o185 : OP := fun P => tU []
noncomputable def o186 : OP := fun P => f0 "__setitem__" "Headers.__setitem__" (cA 18 3) (cB 18 3) (cS 18 3)
noncomputable def o187 : OP := fun P => oM (vT "code") none (dF (aA [(vS "__setitem__" 2498), (vS "Headers.__setitem__" 2499), (vS "/claim/cut.py" 2500), (vI 99 0), (vI 3 0), (vI 0 0), (vI 0 0), (vI 3 0), (vR 169), (vO true), (vI 276 0), (vR 170), vN, (vR 171), (vR 172), (vR 173), (vI 2504 0), (vI 99 0), (vS "/claim/cut.py" 2505)])) z
noncomputable def o188 : OP := fun P => f1 "__setitem__" "Headers.__setitem__" (cA 18 3) (cB 18 3) (cS 18 3) 3 vN vN "cpy313.wsgiref.headers" 2353 174
noncomputable def o189 : OP := fun P => tU []
noncomputable def o190 : OP := fun P => fE
noncomputable def o191 : OP := fun P => f0 "__delitem__" "Headers.__delitem__" (cA 18 4) (cB 18 4) (cS 18 7)
noncomputable def o192 : OP := fun P => oM (vT "code") none (dF (aA [(vS "__delitem__" 2507), (vS "Headers.__delitem__" 2508), (vS "/claim/cut.py" 2509), (vI 103 0), (vI 2 0), (vI 0 0), (vI 0 0), (vI 3 0), (vR 176), (vO true), (vI 276 0), (vR 177), vN, vN, vN, (vR 178), (vI 2510 0), (vI 103 0), (vS "/claim/cut.py" 2511)])) z
noncomputable def o193 : OP := fun P => f1 "__delitem__" "Headers.__delitem__" (cA 18 4) (cB 18 4) (cS 18 7) 3 vN vN "cpy313.wsgiref.headers" 2353 179
noncomputable def o194 : OP := fun P => tU []
noncomputable def o195 : OP := fun P => fE
noncomputable def o196 : OP := fun P => tU [(vS "self" 2516), (vS "name" 2517)]
noncomputable def o197 : OP := fun P => tU []
noncomputable def o198 : OP := fun P => f0 "__getitem__" "Headers.__getitem__" (cA 18 5) (cB 18 5) (cS 18 6)
noncomputable def o199 : OP := fun P => oM (vT "code") none (dF (aA [(vS "__getitem__" 2513), (vS "Headers.__getitem__" 2514), (vS "/claim/cut.py" 2515), (vI 107 0), (vI 2 0), (vI 0 0), (vI 0 0), (vI 3 0), (vR 181), (vO true), (vI 276 0), (vR 182), vN, (vR 183), (vR 184), (vR 185), (vI 2518 0), (vI 107 0), (vS "/claim/cut.py" 2519)])) z
noncomputable def o200 : OP := fun P => f1 "__getitem__" "Headers.__getitem__" (cA 18 5) (cB 18 5) (cS 18 6) 3 vN vN "cpy313.wsgiref.headers" 2353 186
noncomputable def o201 : OP := fun P => tU []
noncomputable def o202 : OP := fun P => fE
noncomputable def o203 : OP := fun P => tU [(vS "self" 2524), (vS "name" 2525)]
noncomputable def o204 : OP := fun P => tU []
noncomputable def o205 : OP := fun P => f0 "__contains__" "Headers.__contains__" (cA 18 6) (cB 18 6) (cS 18 6)
noncomputable def o206 : OP := fun P => oM (vT "code") none (dF (aA [(vS "__contains__" 2521), (vS "Headers.__contains__" 2522), (vS "/claim/cut.py" 2523), (vI 110 0), (vI 2 0), (vI 0 0), (vI 0 0), (vI 3 0), (vR 188), (vO true), (vI 276 0), (vR 189), vN, (vR 190), (vR 191), (vR 192), (vI 2526 0), (vI 110 0), (vS "/claim/cut.py" 2527)])) z
noncomputable def o207 : OP := fun P => f1 "__contains__" "Headers.__contains__" (cA 18 6) (cB 18 6) (cS 18 6) 3 vN vN "cpy313.wsgiref.headers" 2353 193
noncomputable def o208 : OP := fun P => tU []
noncomputable def o209 : OP := fun P => fE
noncomputable def o210 : OP := fun P => f0 "get_all" "Headers.get_all" (cA 18 7) (cB 18 7) (cS 18 7)
noncomputable def o211 : OP := fun P => oM (vT "code") none (dF (aA [(vS "get_all" 2529), (vS "Headers.get_all" 2530), (vS "/claim/cut.py" 2531), (vI 113 0), (vI 2 0), (vI 0 0), (vI 0 0), (vI 3 0), (vR 195), (vO true), (vI 276 0), (vR 196), vN, vN, vN, (vR 197), (vI 2532 0), (vI 113 0), (vS "/claim/cut.py" 2533)])) z
noncomputable def o212 : OP := fun P => f1 "get_all" "Headers.get_all" (cA 18 7) (cB 18 7) (cS 18 7) 3 vN vN "cpy313.wsgiref.headers" 2353 198
noncomputable def o213 : OP := fun P => tU [vN]
noncomputable def o214 : OP := fun P => tU []
noncomputable def o215 : OP := fun P => fE
noncomputable def o216 : OP := fun P => tU [(vS "self" 2538), (vS "name" 2539), (vS "default" 2540), (vS "k" 2541), (vS "v" 2542)]
noncomputable def o217 : OP := fun P => tU []
noncomputable def o218 : OP := fun P => f0 "get" "Headers.get" (cA 18 8) (cB 18 8) (cS 18 8)
noncomputable def o219 : OP := fun P => oM (vT "code") none (dF (aA [(vS "get" 2535), (vS "Headers.get" 2536), (vS "/claim/cut.py" 2537), (vI 117 0), (vI 3 0), (vI 0 0), (vI 0 0), (vI 3 0), (vR 201), (vO true), (vI 276 0), (vR 202), vN, (vR 203), (vR 204), (vR 205), (vI 2543 0), (vI 117 0), (vS "/claim/cut.py" 2544)])) z
noncomputable def o220 : OP := fun P => f1 "get" "Headers.get" (cA 18 8) (cB 18 8) (cS 18 8) 3 (vR 200) vN "cpy313.wsgiref.headers" 2353 206
noncomputable def o221 : OP := fun P => tU []
noncomputable def o222 : OP := fun P => fE
noncomputable def o223 : OP := fun P => f0 "keys" "Headers.keys" (cA 18 9) (cB 18 9) (cS 18 10)
noncomputable def o224 : OP := fun P => oM (vT "code") none (dF (aA [(vS "keys" 2546), (vS "Headers.keys" 2547), (vS "/claim/cut.py" 2548), (vI 124 0), (vI 1 0), (vI 0 0), (vI 0 0), (vI 3 0), (vR 208), (vO true), (vI 276 0), (vR 209), vN, vN, vN, (vR 210), (vI 2549 0), (vI 124 0), (vS "/claim/cut.py" 2550)])) z
noncomputable def o225 : OP := fun P => f1 "keys" "Headers.keys" (cA 18 9) (cB 18 9) (cS 18 10) 3 vN vN "cpy313.wsgiref.headers" 2353 211
noncomputable def o226 : OP := fun P => tU []
noncomputable def o227 : OP := fun P => fE
noncomputable def o228 : OP := fun P => f0 "values" "Headers.values" (cA 18 10) (cB 18 10) (cS 18 10)
noncomputable def o229 : OP := fun P => oM (vT "code") none (dF (aA [(vS "values" 2552), (vS "Headers.values" 2553), (vS "/claim/cut.py" 2554), (vI 127 0), (vI 1 0), (vI 0 0), (vI 0 0), (vI 3 0), (vR 213), (vO true), (vI 276 0), (vR 214), vN, vN, vN, (vR 215), (vI 2555 0), (vI 127 0), (vS "/claim/cut.py" 2556)])) z
noncomputable def o230 : OP := fun P => f1 "values" "Headers.values" (cA 18 10) (cB 18 10) (cS 18 10) 3 vN vN "cpy313.wsgiref.headers" 2353 216
noncomputable def o231 : OP := fun P => tU []
noncomputable def o232 : OP := fun P => fE
noncomputable def o233 : OP := fun P => tU [(vS "self" 2561)]
noncomputable def o234 : OP := fun P => tU []
noncomputable def o235 : OP := fun P => f0 "items" "Headers.items" (cA 18 11) (cB 18 11) (cS 18 12)
noncomputable def o236 : OP := fun P => oM (vT "code") none (dF (aA [(vS "items" 2558), (vS "Headers.items" 2559), (vS "/claim/cut.py" 2560), (vI 130 0), (vI 1 0), (vI 0 0), (vI 0 0), (vI 3 0), (vR 218), (vO true), (vI 276 0), (vR 219), vN, (vR 220), (vR 221), (vR 222), (vI 2562 0), (vI 130 0), (vS "/claim/cut.py" 2563)])) z
noncomputable def o237 : OP := fun P => f1 "items" "Headers.items" (cA 18 11) (cB 18 11) (cS 18 12) 3 vN vN "cpy313.wsgiref.headers" 2353 223
noncomputable def o238 : OP := fun P => tU []
noncomputable def o239 : OP := fun P => fE
noncomputable def o240 : OP := fun P => tU [(vS "self" 2568)]
noncomputable def o241 : OP := fun P => tU []
noncomputable def o242 : OP := fun P => f0 "__repr__" "Headers.__repr__" (cA 18 12) (cB 18 12) (cS 18 12)
noncomputable def o243 : OP := fun P => oM (vT "code") none (dF (aA [(vS "__repr__" 2565), (vS "Headers.__repr__" 2566), (vS "/claim/cut.py" 2567), (vI 133 0), (vI 1 0), (vI 0 0), (vI 0 0), (vI 3 0), (vR 225), (vO true), (vI 276 0), (vR 226), vN, (vR 227), (vR 228), (vR 229), (vI 2569 0), (vI 133 0), (vS "/claim/cut.py" 2570)])) z
noncomputable def o244 : OP := fun P => f1 "__repr__" "Headers.__repr__" (cA 18 12) (cB 18 12) (cS 18 12) 3 vN vN "cpy313.wsgiref.headers" 2353 230
noncomputable def o245 : OP := fun P => tU []
noncomputable def o246 : OP := fun P => fE
noncomputable def o247 : OP := fun P => f0 "__str__" "Headers.__str__" (cA 18 13) (cB 18 13) (cS 18 13)
noncomputable def o248 : OP := fun P => oM (vT "code") none (dF (aA [(vS "__str__" 2572), (vS "Headers.__str__" 2573), (vS "/claim/cut.py" 2574), (vI 136 0), (vI 1 0), (vI 0 0), (vI 0 0), (vI 3 0), (vR 232), (vO true), (vI 276 0), (vR 233), vN, vN, vN, (vR 234), (vI 2575 0), (vI 136 0), (vS "/claim/cut.py" 2576)])) z
noncomputable def o249 : OP := fun P => f1 "__str__" "Headers.__str__" (cA 18 13) (cB 18 13) (cS 18 13) 3 vN vN "cpy313.wsgiref.headers" 2353 235
noncomputable def o250 : OP := fun P => tU []
noncomputable def o251 : OP := fun P => fE
noncomputable def o252 : OP := fun P => tU [(vS "self" 2581)]
noncomputable def o253 : OP := fun P => tU []
noncomputable def o254 : OP := fun P => f0 "__bytes__" "Headers.__bytes__" (cA 18 14) (cB 18 14) (cS 18 14)
noncomputable def o255 : OP := fun P => oM (vT "code") none (dF (aA [(vS "__bytes__" 2578), (vS "Headers.__bytes__" 2579), (vS "/claim/cut.py" 2580), (vI 139 0), (vI 1 0), (vI 0 0), (vI 0 0), (vI 3 0), (vR 237), (vO true), (vI 276 0), (vR 238), vN, (vR 239), (vR 240), (vR 241), (vI 2582 0), (vI 139 0), (vS "/claim/cut.py" 2583)])) z
noncomputable def o256 : OP := fun P => f1 "__bytes__" "Headers.__bytes__" (cA 18 14) (cB 18 14) (cS 18 14) 3 vN vN "cpy313.wsgiref.headers" 2353 242
noncomputable def o257 : OP := fun P => tU []
noncomputable def o258 : OP := fun P => fE
noncomputable def o259 : OP := fun P => tU [(vS "self" 2588), (vS "name" 2589), (vS "value" 2590)]
noncomputable def o260 : OP := fun P => tU []
noncomputable def o261 : OP := fun P => f0 "setdefault" "Headers.setdefault" (cA 18 15) (cB 18 15) (cS 18 15)
noncomputable def o262 : OP := fun P => oM (vT "code") none (dF (aA [(vS "setdefault" 2585), (vS "Headers.setdefault" 2586), (vS "/claim/cut.py" 2587), (vI 142 0), (vI 3 0), (vI 0 0), (vI 0 0), (vI 3 0), (vR 244), (vO true), (vI 276 0), (vR 245), vN, (vR 246), (vR 247), (vR 248), (vI 2591 0), (vI 142 0), (vS "/claim/cut.py" 2592)])) z
noncomputable def o263 : OP := fun P => f1 "setdefault" "Headers.setdefault" (cA 18 15) (cB 18 15) (cS 18 15) 3 vN vN "cpy313.wsgiref.headers" 2353 249
noncomputable def o264 : OP := fun P => tU []
noncomputable def o265 : OP := fun P => fE
noncomputable def o266 : OP := fun P => tU [(vS "self" 2597), (vS "_name" 2598), (vS "_value" 2599), (vS "_params" 2600), (vS "parts" 2601), (vS "k" 2602), (vS "v" 2603)]
noncomputable def o267 : OP := fun P => tU []
noncomputable def o268 : OP := fun P => f0 "add_header" "Headers.add_header" (cA 18 16) (cB 18 16) (cS 18 16)
noncomputable def o269 : OP := fun P => oM (vT "code") none (dF (aA [(vS "add_header" 2594), (vS "Headers.add_header" 2595), (vS "/claim/cut.py" 2596), (vI 145 0), (vI 3 0), (vI 0 0), (vI 0 0), (vI 11 0), (vR 251), (vO true), (vI 276 0), (vR 252), vN, (vR 253), (vR 254), (vR 255), (vI 2604 0), (vI 145 0), (vS "/claim/cut.py" 2605)])) z
noncomputable def o270 : OP := fun P => f1 "add_header" "Headers.add_header" (cA 18 16) (cB 18 16) (cS 18 16) 3 vN vN "cpy313.wsgiref.headers" 2353 256
noncomputable def o271 : OP := fun P => tU [(vS "_headers" 2607)]
noncomputable def o272 : OP := fun P => tD [(dE P "__module__" 2466 (vS "cpy313.wsgiref.headers" 2353)), (dE P "__firstlineno__" 2470 (vI 76 2469)), (dE P "__init__" 2480 (vR 154)), (dE P "_convert_string_type" 2490 (vR 161)), (dE P "__len__" 2497 (vR 168)), (dE P "__setitem__" 2506 (vR 175)), (dE P "__delitem__" 2512 (vR 180)), (dE P "__getitem__" 2520 (vR 187)), (dE P "__contains__" 2528 (vR 194)), (dE P "get_all" 2534 (vR 199)), (dE P "get" 2545 (vR 207)), (dE P "keys" 2551 (vR 212)), (dE P "values" 2557 (vR 217)), (dE P "items" 2564 (vR 224)), (dE P "__repr__" 2571 (vR 231)), (dE P "__str__" 2577 (vR 236)), (dE P "__bytes__" 2584 (vR 243)), (dE P "setdefault" 2593 (vR 250)), (dE P "add_header" 2606 (vR 257)), (dE P "__static_attributes__" 2608 (vR 258)), (dE P "__dict__" 2610 (vR 261)), (dE P "__weakref__" 2612 (vR 262)), (dE P "__doc__" 2613 vN)] 4
noncomputable def o273 : OP := fun P => oM (vT "type") none (dC (cM (sS "Headers") [(vT "object")] [(vR 260), (vT "object")] 259 (sS "Headers") true [] [] false none false)) (aA [none, none, (some (vS "Headers" 2459)), (some (vS "Headers" 2467)), (some (vB "object.__new__")), (some (vO true))])
noncomputable def o274 : OP := fun P => oM (vT "getset_descriptor") none (dF (aA [(vS "__dict__" 2609), (vR 260), (vB "function.__dict__"), (vB "function.__dict__#set")])) z
noncomputable def o275 : OP := fun P => oM (vT "getset_descriptor") none (dF (aA [(vS "__weakref__" 2611), (vR 260), (vB "ExceptionGroup.__weakref__"), vN])) z
noncomputable def o276 : OP := fun P => oM (vT "super") none (dF (aA [(vR 260), (vR 260), (vR 260)])) z
noncomputable def o277 : OP := fun P => oM (vT "builtin_function_or_method") none (dF (aA [(vB "object.__init_subclass__"), (vR 260)])) z
noncomputable def LT8 (P : Params) (x : Nat → Obj) : List Obj := stL [(3, o151 P), (29, o152 P)] (LT7 P x) ++ [o153 P, o154 P, o155 P, o156 P, o157 P, o158 P, o159 P, o160 P, o161 P, o162 P, o163 P, o164 P, o165 P, o166 P, o167 P, o168 P, o169 P, o170 P, o171 P, o172 P, o173 P, o174 P, o175 P, o176 P, o177 P, o178 P, o179 P, o180 P, o181 P, o182 P, o183 P, o184 P, o185 P, o186 P, o187 P, o188 P, o189 P, o190 P, o191 P, o192 P, o193 P, o194 P, o195 P, o196 P, o197 P, o198 P, o199 P, o200 P, o201 P, o202 P, o203 P, o204 P, o205 P, o206 P, o207 P, o208 P, o209 P, o210 P, o211 P, o212 P, o213 P, o214 P, o215 P, o216 P, o217 P, o218 P, o219 P, o220 P, o221 P, o222 P, o223 P, o224 P, o225 P, o226 P, o227 P, o228 P, o229 P, o230 P, o231 P, o232 P, o233 P, o234 P, o235 P, o236 P, o237 P, o238 P, o239 P, o240 P, o241 P, o242 P, o243 P, o244 P, o245 P, o246 P, o247 P, o248 P, o249 P, o250 P, o251 P, o252 P, o253 P, o254 P, o255 P, o256 P, o257 P, o258 P, o259 P, o260 P, o261 P, o262 P, o263 P, o264 P, o265 P, o266 P, o267 P, o268 P, o269 P, o270 P, o271 P, o272 P, o273 P, o274 P, o275 P, o276 P, o277 P]
noncomputable def T8 (P : Params) (x : Nat → Obj) : BT := trL 10 (LT8 P x)
noncomputable def n8 : Nat := 265
noncomputable def k8 : Nat := 2616
noncomputable def p8 : Pos := (@PySem.Pos.mk 76 0 157 93)
noncomputable def o278 : OP := fun P => tD [(dE P "__name__" 165 (vS "law_tp0058_03" 2616)), (dE P "__doc__" 166 vN), (dE P "__package__" 167 vN), (dE P "__loader__" 168 (vB "__main__.__loader__#opaque")), (dE P "__spec__" 169 vN), (dE P "__annotations__" 170 (vR 6)), (dE P "__builtins__" 171 (vR 4)), (dE P "__file__" 173 (vS "/claim/cut.py" 172)), (dE P "__cached__" 174 vN), (dE P "_sre" 275 (vR 12)), (dE P "_wall" 288 (vR 38)), (dE P "b1_set" 350 (vR 46)), (dE P "in_table_b1" 357 (vR 56)), (dE P "b3_exceptions" 2308 (vR 57)), (dE P "map_table_b3" 2316 (vR 102)), (dE P "_MAX_STRING_SIZE" 2320 (vI 40 2319)), (dE P "_MOVE_COST" 2322 (vI 2 2321)), (dE P "_CASE_COST" 2324 (vI 1 2323)), (dE P "_substitution_cost" 2332 (vR 109)), (dE P "_levenshtein_distance" 2352 (vR 116)), (dE P "tspecials" 2388 (vR 121)), (dE P "_name_disallowed_re" 2414 (vR 126)), (dE P "_value_disallowed_re" 2448 (vR 131)), (dE P "_formatparam" 2458 (vR 139)), (dE P "Headers" 2615 (vR 260)), (dE P "_law_noise" 2623 (vR 271)), (dE P "_law_forms" 2629 (vR 276)), (dE P "_law_letters" 2635 (vR 281)), (dE P "_law_typed" 2641 (vR 286)), (dE P "_law_squares" 2647 (vR 291))] 30
noncomputable def o279 : OP := fun P => oM vN none (dF (aA [(vI 2 0), (vI 0 0), (vR 37), (vI 7 0), (vI 0 0), (vR 55), (vI 10 0), (vI 0 0), (vR 101), (vI 19 0), (vI 0 0), (vR 108), (vI 25 0), (vI 0 0), (vR 115), (vI 67 0), (vI 0 0), (vR 138), (vI 76 0), (vI 0 0), (vR 145), (vI 159 0), (vI 0 0), (vR 270), (vI 161 0), (vI 0 0), (vR 275), (vI 181 0), (vI 0 0), (vR 280), (vI 191 0), (vI 0 0), (vR 285), (vI 197 0), (vI 0 0), (vR 290)])) z
noncomputable def o280 : OP := fun P => tU []
noncomputable def o281 : OP := fun P => fE
noncomputable def o282 : OP := fun P => tU []
noncomputable def o283 : OP := fun P => tU []
noncomputable def o284 : OP := fun P => f0 "_law_noise" "_law_noise" (fA 20) (fB 20) (fS 20)
noncomputable def o285 : OP := fun P => oM (vT "code") none (dF (aA [(vS "_law_noise" 2618), (vS "_law_noise" 2619), (vS "/claim/cut.py" 2620), (vI 159 0), (vI 0 0), (vI 0 0), (vI 0 0), (vI 3 0), (vR 265), (vO true), (vI 276 0), (vR 266), vN, (vR 267), (vR 268), (vR 269), (vI 2621 0), (vI 159 0), (vS "/claim/cut.py" 2622)])) z
noncomputable def o286 : OP := fun P => f1 "_law_noise" "_law_noise" (fA 20) (fB 20) (fS 20) 3 vN vN "law_tp0058_03" 2616 270
noncomputable def o287 : OP := fun P => tU []
noncomputable def o288 : OP := fun P => fE
noncomputable def o289 : OP := fun P => f0 "_law_forms" "_law_forms" (fA 21) (fB 21) (fS 21)
noncomputable def o290 : OP := fun P => oM (vT "code") none (dF (aA [(vS "_law_forms" 2624), (vS "_law_forms" 2625), (vS "/claim/cut.py" 2626), (vI 161 0), (vI 2 0), (vI 0 0), (vI 0 0), (vI 3 0), (vR 272), (vO true), (vI 276 0), (vR 273), vN, vN, vN, (vR 274), (vI 2627 0), (vI 161 0), (vS "/claim/cut.py" 2628)])) z
noncomputable def o291 : OP := fun P => f1 "_law_forms" "_law_forms" (fA 21) (fB 21) (fS 21) 3 vN vN "law_tp0058_03" 2616 275
noncomputable def o292 : OP := fun P => tU []
noncomputable def o293 : OP := fun P => fE
noncomputable def o294 : OP := fun P => f0 "_law_letters" "_law_letters" (fA 22) (fB 22) (fS 22)
noncomputable def o295 : OP := fun P => oM (vT "code") none (dF (aA [(vS "_law_letters" 2630), (vS "_law_letters" 2631), (vS "/claim/cut.py" 2632), (vI 181 0), (vI 1 0), (vI 0 0), (vI 0 0), (vI 3 0), (vR 277), (vO true), (vI 276 0), (vR 278), vN, vN, vN, (vR 279), (vI 2633 0), (vI 181 0), (vS "/claim/cut.py" 2634)])) z
noncomputable def o296 : OP := fun P => f1 "_law_letters" "_law_letters" (fA 22) (fB 22) (fS 22) 3 vN vN "law_tp0058_03" 2616 280
noncomputable def o297 : OP := fun P => tU []
noncomputable def o298 : OP := fun P => fE
noncomputable def o299 : OP := fun P => f0 "_law_typed" "_law_typed" (fA 23) (fB 23) (fS 23)
noncomputable def o300 : OP := fun P => oM (vT "code") none (dF (aA [(vS "_law_typed" 2636), (vS "_law_typed" 2637), (vS "/claim/cut.py" 2638), (vI 191 0), (vI 2 0), (vI 0 0), (vI 0 0), (vI 3 0), (vR 282), (vO true), (vI 276 0), (vR 283), vN, vN, vN, (vR 284), (vI 2639 0), (vI 191 0), (vS "/claim/cut.py" 2640)])) z
noncomputable def o301 : OP := fun P => f1 "_law_typed" "_law_typed" (fA 23) (fB 23) (fS 23) 3 vN vN "law_tp0058_03" 2616 285
noncomputable def o302 : OP := fun P => tU []
noncomputable def o303 : OP := fun P => fE
noncomputable def o304 : OP := fun P => f0 "_law_squares" "_law_squares" (fA 24) (fB 24) (fS 24)
noncomputable def o305 : OP := fun P => oM (vT "code") none (dF (aA [(vS "_law_squares" 2642), (vS "_law_squares" 2643), (vS "/claim/cut.py" 2644), (vI 197 0), (vI 1 0), (vI 0 0), (vI 0 0), (vI 3 0), (vR 287), (vO true), (vI 276 0), (vR 288), vN, vN, vN, (vR 289), (vI 2645 0), (vI 197 0), (vS "/claim/cut.py" 2646)])) z
noncomputable def o306 : OP := fun P => f1 "_law_squares" "_law_squares" (fA 24) (fB 24) (fS 24) 3 vN vN "law_tp0058_03" 2616 290
noncomputable def LT9 (P : Params) (x : Nat → Obj) : List Obj := stL [(3, o278 P), (29, o279 P)] (LT8 P x) ++ [o280 P, o281 P, o282 P, o283 P, o284 P, o285 P, o286 P, o287 P, o288 P, o289 P, o290 P, o291 P, o292 P, o293 P, o294 P, o295 P, o296 P, o297 P, o298 P, o299 P, o300 P, o301 P, o302 P, o303 P, o304 P, o305 P, o306 P]
noncomputable def T9 (P : Params) (x : Nat → Obj) : BT := trL 10 (LT9 P x)
noncomputable def n9 : Nat := 292
noncomputable def k9 : Nat := 2648
noncomputable def p9 : Pos := (@PySem.Pos.mk 197 0 202 18)
noncomputable def o307 : OP := fun P => tD [(dE P "__name__" 165 (vS "law_tp0058_03" 2616)), (dE P "__doc__" 166 vN), (dE P "__package__" 167 vN), (dE P "__loader__" 168 (vB "__main__.__loader__#opaque")), (dE P "__spec__" 169 vN), (dE P "__annotations__" 170 (vR 6)), (dE P "__builtins__" 171 (vR 4)), (dE P "__file__" 173 (vS "/claim/cut.py" 172)), (dE P "__cached__" 174 vN), (dE P "_sre" 275 (vR 12)), (dE P "_wall" 288 (vR 38)), (dE P "b1_set" 350 (vR 46)), (dE P "in_table_b1" 357 (vR 56)), (dE P "b3_exceptions" 2308 (vR 57)), (dE P "map_table_b3" 2316 (vR 102)), (dE P "_MAX_STRING_SIZE" 2320 (vI 40 2319)), (dE P "_MOVE_COST" 2322 (vI 2 2321)), (dE P "_CASE_COST" 2324 (vI 1 2323)), (dE P "_substitution_cost" 2332 (vR 109)), (dE P "_levenshtein_distance" 2352 (vR 116)), (dE P "tspecials" 2388 (vR 121)), (dE P "_name_disallowed_re" 2414 (vR 126)), (dE P "_value_disallowed_re" 2448 (vR 131)), (dE P "_formatparam" 2458 (vR 139)), (dE P "Headers" 2615 (vR 260)), (dE P "_law_noise" 2623 (vR 271)), (dE P "_law_forms" 2629 (vR 276)), (dE P "_law_letters" 2635 (vR 281)), (dE P "_law_typed" 2641 (vR 286)), (dE P "_law_squares" 2647 (vR 291)), (dE P "_law_even" 2659 (vR 298)), (dE P "law" 2665 (vR 303))] 32
noncomputable def o308 : OP := fun P => oM vN none (dF (aA [(vI 2 0), (vI 0 0), (vR 37), (vI 7 0), (vI 0 0), (vR 55), (vI 10 0), (vI 0 0), (vR 101), (vI 19 0), (vI 0 0), (vR 108), (vI 25 0), (vI 0 0), (vR 115), (vI 67 0), (vI 0 0), (vR 138), (vI 76 0), (vI 0 0), (vR 145), (vI 159 0), (vI 0 0), (vR 270), (vI 161 0), (vI 0 0), (vR 275), (vI 181 0), (vI 0 0), (vR 280), (vI 191 0), (vI 0 0), (vR 285), (vI 197 0), (vI 0 0), (vR 290), (vI 203 0), (vI 0 0), (vR 297), (vI 211 0), (vI 0 0), (vR 302)])) z
noncomputable def o309 : OP := fun P => tU []
noncomputable def o310 : OP := fun P => fE
noncomputable def o311 : OP := fun P => tU [(vS "squares" 2651), (vS "powers" 2652), (vS "total" 2653), (vS "choice" 2654), (vS "product" 2655), (vS "k" 2656)]
noncomputable def o312 : OP := fun P => tU []
noncomputable def o313 : OP := fun P => f0 "_law_even" "_law_even" (fA 25) (fB 25) (fS 25)
noncomputable def o314 : OP := fun P => oM (vT "code") none (dF (aA [(vS "_law_even" 2648), (vS "_law_even" 2649), (vS "/claim/cut.py" 2650), (vI 203 0), (vI 2 0), (vI 0 0), (vI 0 0), (vI 3 0), (vR 292), (vO true), (vI 276 0), (vR 293), vN, (vR 294), (vR 295), (vR 296), (vI 2657 0), (vI 203 0), (vS "/claim/cut.py" 2658)])) z
noncomputable def o315 : OP := fun P => f1 "_law_even" "_law_even" (fA 25) (fB 25) (fS 25) 3 vN vN "law_tp0058_03" 2616 297
noncomputable def o316 : OP := fun P => tU []
noncomputable def o317 : OP := fun P => fE
noncomputable def o318 : OP := fun P => f0 "law" "law" (fA 26) (fB 26) (fS 26)
noncomputable def o319 : OP := fun P => oM (vT "code") none (dF (aA [(vS "law" 2660), (vS "law" 2661), (vS "/claim/cut.py" 2662), (vI 211 0), (vI 1 0), (vI 0 0), (vI 0 0), (vI 3 0), (vR 299), (vO true), (vI 276 0), (vR 300), vN, vN, vN, (vR 301), (vI 2663 0), (vI 211 0), (vS "/claim/cut.py" 2664)])) z
noncomputable def o320 : OP := fun P => f1 "law" "law" (fA 26) (fB 26) (fS 26) 3 vN vN "law_tp0058_03" 2616 302
noncomputable def LT10 (P : Params) (x : Nat → Obj) : List Obj := stL [(3, o307 P), (29, o308 P)] (LT9 P x) ++ [o309 P, o310 P, o311 P, o312 P, o313 P, o314 P, o315 P, o316 P, o317 P, o318 P, o319 P, o320 P]
noncomputable def T10 (P : Params) (x : Nat → Obj) : BT := trL 10 (LT10 P x)
noncomputable def n10 : Nat := 304
noncomputable def k10 : Nat := 2666
noncomputable def p10 : Pos := (@PySem.Pos.mk 211 0 267 106)
noncomputable def HL (P : Params) (x : Nat → Obj) : List Obj := [o0 P, o1 P, o2 P, o307 P, o4 P, o5 P, o6 P, o7 P, o8 P, o9 P, o10 P, o11 P, o12 P, o13 P, o14 P, o15 P, o16 P, o17 P, o18 P, o19 P, o20 P, o21 P, o22 P, o23 P, o24 P, o25 P, o26 P, o27 P, o28 P, o308 P, o30 P, o31 P, o34 P, o35 P, o36 P, o37 P, o38 P, o39 P, o40 P, o42 P, o43 P, o44 P, o45 P, o46 P, o47 P, o48 P, o49 P, o50 P, o51 P, o52 P, o55 P, o56 P, o57 P, o58 P, o59 P, o60 P, o61 P, x 0, x 1, x 2, x 3, x 4, x 5, x 6, x 7, x 8, x 9, x 10, x 11, x 12, x 13, x 14, x 15, x 16, x 17, x 18, x 19, x 20, x 21, x 22, x 23, x 24, x 25, x 26, x 27, x 28, x 29, x 30, x 31, x 32, x 33, x 34, x 35, x 36, x 37, x 38, o104 P, o105 P, o106 P, o107 P, o108 P, o109 P, o110 P, o111 P, o112 P, o113 P, o114 P, o115 P, o116 P, o117 P, o118 P, o119 P, o120 P, o121 P, o122 P, o123 P, o124 P, o126 P, o127 P, o128 P, o129 P, o130 P, o131 P, o132 P, o133 P, o134 P, o135 P, o138 P, o139 P, o140 P, o141 P, o142 P, o143 P, o144 P, o145 P, o146 P, o147 P, o148 P, o149 P, o150 P, o153 P, o154 P, o155 P, o156 P, o157 P, o158 P, o159 P, o160 P, o161 P, o162 P, o163 P, o164 P, o165 P, o166 P, o167 P, o168 P, o169 P, o170 P, o171 P, o172 P, o173 P, o174 P, o175 P, o176 P, o177 P, o178 P, o179 P, o180 P, o181 P, o182 P, o183 P, o184 P, o185 P, o186 P, o187 P, o188 P, o189 P, o190 P, o191 P, o192 P, o193 P, o194 P, o195 P, o196 P, o197 P, o198 P, o199 P, o200 P, o201 P, o202 P, o203 P, o204 P, o205 P, o206 P, o207 P, o208 P, o209 P, o210 P, o211 P, o212 P, o213 P, o214 P, o215 P, o216 P, o217 P, o218 P, o219 P, o220 P, o221 P, o222 P, o223 P, o224 P, o225 P, o226 P, o227 P, o228 P, o229 P, o230 P, o231 P, o232 P, o233 P, o234 P, o235 P, o236 P, o237 P, o238 P, o239 P, o240 P, o241 P, o242 P, o243 P, o244 P, o245 P, o246 P, o247 P, o248 P, o249 P, o250 P, o251 P, o252 P, o253 P, o254 P, o255 P, o256 P, o257 P, o258 P, o259 P, o260 P, o261 P, o262 P, o263 P, o264 P, o265 P, o266 P, o267 P, o268 P, o269 P, o270 P, o271 P, o272 P, o273 P, o274 P, o275 P, o276 P, o277 P, o280 P, o281 P, o282 P, o283 P, o284 P, o285 P, o286 P, o287 P, o288 P, o289 P, o290 P, o291 P, o292 P, o293 P, o294 P, o295 P, o296 P, o297 P, o298 P, o299 P, o300 P, o301 P, o302 P, o303 P, o304 P, o305 P, o306 P, o309 P, o310 P, o311 P, o312 P, o313 P, o314 P, o315 P, o316 P, o317 P, o318 P, o319 P, o320 P]
noncomputable def body : List Stmt := behindTheImports pw
noncomputable def env : Env := { scope := pw.main.scope, locals := mainNs, globals := mainNs, cells := [], code := codeV, frame := some frameA }
noncomputable def Γb : Ctx := Γs.enter (.body body env) none ⟨0, 0, 0, 0⟩
noncomputable def x0 : Nat → Obj := fun _ => default
theorem G0 (w : World) : ∀ (x : Nat → Obj) (life : Life) (dr : Drawn) (os : OsState) (p : Pos), evT tbQ pw w 238 Γb (execs ((body.drop 0).take 2) env) p ⟨Ta w.params x, na, life, #[], dr, ka, os⟩ = some (.ok .next, p1, ⟨T1 w.params x, n1, life, #[], dr, k1, os⟩) := by
  intro x life dr os p; rfl'
theorem G1 : ∀ (w : World), ∀ (x : Nat → Obj) (life : Life) (dr : Drawn) (os : OsState) (p : Pos), evT tbQ pw w 1198 Γb (execs ((body.drop 2).take 1) env) p ⟨T1 w.params x, n1, life, #[], dr, k1, os⟩ = some (.ok .next, p2, ⟨T2 w.params x, n2, life, #[], dr, k2, os⟩) :=
  byRow2 "set-order" (P := fun w => ∀ (x : Nat → Obj) (life : Life) (dr : Drawn) (os : OsState) (p : Pos), evT tbQ pw w 1198 Γb (execs ((body.drop 2).take 1) env) p ⟨T1 w.params x, n1, life, #[], dr, k1, os⟩ = some (.ok .next, p2, ⟨T2 w.params x, n2, life, #[], dr, k2, os⟩)) (byRow2 "special-get-raises" (P := fun w => (fun w => ∀ (x : Nat → Obj) (life : Life) (dr : Drawn) (os : OsState) (p : Pos), evT tbQ pw w 1198 Γb (execs ((body.drop 2).take 1) env) p ⟨T1 w.params x, n1, life, #[], dr, k1, os⟩ = some (.ok .next, p2, ⟨T2 w.params x, n2, life, #[], dr, k2, os⟩)) (w.withFollow "set-order" false)) (fun w => by intro x life dr os p; rfl') (fun w => by intro x life dr os p; rfl')) (byRow2 "special-get-raises" (P := fun w => (fun w => ∀ (x : Nat → Obj) (life : Life) (dr : Drawn) (os : OsState) (p : Pos), evT tbQ pw w 1198 Γb (execs ((body.drop 2).take 1) env) p ⟨T1 w.params x, n1, life, #[], dr, k1, os⟩ = some (.ok .next, p2, ⟨T2 w.params x, n2, life, #[], dr, k2, os⟩)) (w.withFollow "set-order" true)) (fun w => by intro x life dr os p; rfl') (fun w => by intro x life dr os p; rfl'))
theorem G2 (w : World) : ∀ (x : Nat → Obj) (life : Life) (dr : Drawn) (os : OsState) (p : Pos), evT tbQ pw w 229 Γb (execs ((body.drop 3).take 1) env) p ⟨T2 w.params x, n2, life, #[], dr, k2, os⟩ = some (.ok .next, p3, ⟨T3 w.params x, n3, life, #[], dr, k3, os⟩) := by
  intro x life dr os p; rfl'
noncomputable def b3S : Stmt := (body[4]?).getD (.Pass ⟨0, 0, 0, 0⟩)
noncomputable def b3t : List Expr := match b3S with | .Assign t _ _ => t | _ => []
noncomputable def b3v : Expr := match b3S with | .Assign _ v _ => v | _ => .Name "" ⟨0, 0, 0, 0⟩
noncomputable def b3k : List (Option Expr) := match b3v with | .Dict k _ _ => k | _ => []
noncomputable def b3w : List Expr := match b3v with | .Dict _ v _ => v | _ => []
noncomputable def b3K (v : Value) : Sem Flow := do assignStores env v (← swappedStores b3t b3v env) ((assignEach b3t env).map (·.2))
noncomputable def b3L : List (Int × Str) := (psOf b3k b3w).getD []
theorem b3_st : body.drop 4 = b3S :: body.drop 5 := by rfl'
theorem b3_ex : exec b3S env = (do standAt b3S.pos; let v ← (do standAt b3v.pos; dictDisplay ((evalEachOpt b3k env).zip ((evalEach b3w env).map fun v => (do let x ← v; standAt b3v.pos; pure x : Sem Value)))); b3K v) := by rfl'
theorem b3_ps : psOf b3k b3w = some b3L := by rfl'
theorem b3_ri : rising b3L = true := by rfl'
theorem b3_len : b3L.length = 650 := by rfl'
theorem b3_ne : b3L ≠ [] := by intro h; have := b3_len; rw [h] at this; cases this
theorem BL_len (P : Params) : (BL P).length = 57 := by rfl'
theorem Tb_abs (P : Params) (life : Life) : absHeap (T3 P x0) n3 life = HB (BL P) [] life := by rfl'
theorem Tm_abs (P : Params) (x : Nat → Obj) (life : Life) : absHeap (Tm P x) 96 life = HB (BL P) ((List.range 39).map x) life := by rfl'
theorem Γb_in : Γb.In topA := ⟨by rfl', Nat.le_of_ble_eq_true (by rfl'), fun l h => (nomatch h), fun l h => (nomatch h), Nat.le_of_ble_eq_true (by rfl')⟩
noncomputable def kd : Nat := k3 + 3 * 650
theorem G3 (w : World) : ∀ (x : Nat → Obj) (life : Life) (dr : Drawn) (os : OsState) (p : Pos), evT tbQ pw w 300 Γb (b3K (.ref 57)) p ⟨Tm w.params x, 96, life, #[], dr, kd, os⟩ = some (.ok .next, p4, ⟨T4 w.params x, n4, life, #[], dr, k4, os⟩) := by
  intro x life dr os p; rfl'
theorem G4 (w : World) : ∀ (x : Nat → Obj) (life : Life) (dr : Drawn) (os : OsState) (p : Pos), evT tbQ pw w 338 Γb (execs ((body.drop 5).take 7) env) p ⟨T4 w.params x, n4, life, #[], dr, k4, os⟩ = some (.ok .next, p5, ⟨T5 w.params x, n5, life, #[], dr, k5, os⟩) := by
  intro x life dr os p; rfl'
theorem G5 (w : World) : ∀ (x : Nat → Obj) (life : Life) (dr : Drawn) (os : OsState) (p : Pos), evT tbQ pw w 355 Γb (execs ((body.drop 12).take 3) env) p ⟨T5 w.params x, n5, life, #[], dr, k5, os⟩ = some (.ok .next, p6, ⟨T6 w.params x, n6, life, #[], dr, k6, os⟩) := by
  intro x life dr os p; rfl'
theorem G6 (w : World) : ∀ (x : Nat → Obj) (life : Life) (dr : Drawn) (os : OsState) (p : Pos), evT tbQ pw w 310 Γb (execs ((body.drop 15).take 2) env) p ⟨T6 w.params x, n6, life, #[], dr, k6, os⟩ = some (.ok .next, p7, ⟨T7 w.params x, n7, life, #[], dr, k7, os⟩) := by
  intro x life dr os p; rfl'
theorem G7 (w : World) : ∀ (x : Nat → Obj) (life : Life) (dr : Drawn) (os : OsState) (p : Pos), evT tbQ pw w 926 Γb (execs ((body.drop 17).take 1) env) p ⟨T7 w.params x, n7, life, #[], dr, k7, os⟩ = some (.ok .next, p8, ⟨T8 w.params x, n8, life, #[], dr, k8, os⟩) := by
  intro x life dr os p; rfl'
theorem G8 (w : World) : ∀ (x : Nat → Obj) (life : Life) (dr : Drawn) (os : OsState) (p : Pos), evT tbQ pw w 341 Γb (execs ((body.drop 18).take 6) env) p ⟨T8 w.params x, n8, life, #[], dr, k8, os⟩ = some (.ok .next, p9, ⟨T9 w.params x, n9, life, #[], dr, k9, os⟩) := by
  intro x life dr os p; rfl'
theorem G9 (w : World) : ∀ (x : Nat → Obj) (life : Life) (dr : Drawn) (os : OsState) (p : Pos), evT tbQ pw w 260 Γb (execs ((body.drop 24).take 2) env) p ⟨T9 w.params x, n9, life, #[], dr, k9, os⟩ = some (.ok .next, p10, ⟨T10 w.params x, n10, life, #[], dr, k10, os⟩) := by
  intro x life dr os p; rfl'
end H03
end
section
namespace H03
open PySem PySem.W PyProof.Rows Mine
noncomputable def Left (w : World) (life : Life) (dr : Drawn) (os : OsState) (s' : Shared) : Prop :=
  ∃ (x : Nat → Obj) (es : List DictEntry) (ep : Nat), x 0 = dObj es ep ∧ Ents b3L es ∧ s' = (⟨T10 w.params x, n10, life, #[], dr, k10, os⟩ : SharedT).abs
theorem body_end : body.drop 26 = [] := by rfl'
theorem top_b (w : World) (x : Nat → Obj) (life : Life) (dr : Drawn) (os : OsState) (es : List DictEntry) (ep : Nat) (hx : x 0 = dObj es ep) (hE : Ents b3L es) :
    TopOK pw w Γb env body (Left w life dr os) 5 (⟨T4 w.params x, n4, life, #[], dr, k4, os⟩ : SharedT).abs := by
  refine TopOK.group (a := 5) (k := 7) (b := 12) rfl (G4 w x life dr os) ?_
  refine TopOK.group (a := 12) (k := 3) (b := 15) rfl (G5 w x life dr os) ?_
  refine TopOK.group (a := 15) (k := 2) (b := 17) rfl (G6 w x life dr os) ?_
  refine TopOK.group (a := 17) (k := 1) (b := 18) rfl (G7 w x life dr os) ?_
  refine TopOK.group (a := 18) (k := 6) (b := 24) rfl (G8 w x life dr os) ?_
  refine TopOK.group (a := 24) (k := 2) (b := 26) rfl (G9 w x life dr os) ?_
  exact TopOK.ends body_end ⟨x, es, ep, hx, hE, rfl⟩
theorem top_a (w : World) (life : Life) (dr : Drawn) (os : OsState) :
    TopOK pw w Γb env body (Left w life dr os) 4 (⟨T3 w.params x0, n3, life, #[], dr, k3, os⟩ : SharedT).abs := by
  have e : (⟨T3 w.params x0, n3, life, #[], dr, k3, os⟩ : SharedT).abs = ⟨HB (BL w.params) [] life, #[], dr, k3, os⟩ := by
    show Shared.mk _ _ _ _ _ = _
    rw [Tb_abs]
  refine b3_group (n := 300) e b3_st b3_ex b3_ps b3_ri b3_ne (by rw [b3_len]; decide) (by rw [BL_len]; decide) Γb_in fun es ep subs hE hlen => ?_
  rw [BL_len, b3_len]
  rw [b3_len] at hlen
  have hl : (dObj es ep :: subs).length = 39 := hlen
  refine ⟨⟨Tm w.params (fun j => (dObj es ep :: subs).getD j default), 96, life, #[], dr, kd, os⟩, _, _, ?_, G3 w (fun j => (dObj es ep :: subs).getD j default) life dr os, top_b w _ life dr os es ep rfl hE⟩
  show Shared.mk _ _ _ _ _ = _
  rw [Tm_abs, map_getD hl]
  rfl
theorem top_wp (w : World) (life : Life) (dr : Drawn) (os : OsState) :
    TopOK pw w Γb env body (Left w life dr os) 0 (⟨Ta w.params x0, na, life, #[], dr, ka, os⟩ : SharedT).abs := by
  refine TopOK.group (a := 0) (k := 2) (b := 2) rfl (G0 w x0 life dr os) ?_
  refine TopOK.group (a := 2) (k := 1) (b := 3) rfl (G1 w x0 life dr os) ?_
  refine TopOK.group (a := 3) (k := 1) (b := 4) rfl (G2 w x0 life dr os) ?_
  exact top_a w life dr os
theorem stub1 (w : World) (life : Life) (dr : Drawn) (os : OsState) : evT tbQ pw w 200 Γs (do let code ← moduleCode pw.main; let frame ← newBodyFrame code mainNs mainNs; pure (code, frame)) default ⟨T0 w.params x0, n0, life, #[], dr, k0, os⟩ = some (.ok (codeV, frameA), default, ⟨Ta w.params x0, na, life, #[], dr, ka, os⟩) := by rfl'
theorem stub2 (w : World) (life : Life) (dr : Drawn) (os : OsState) : evT tbQ pw w 200 Γb (blockStart body env) default ⟨Ta w.params x0, na, life, #[], dr, ka, os⟩ = some (.ok (), default, ⟨Ta w.params x0, na, life, #[], dr, ka, os⟩) := by rfl'
theorem top_run (w : World) (life : Life) (dr : Drawn) (os : OsState) (hz : (⟨T0 w.params x0, n0, life, #[], dr, k0, os⟩ : SharedT).abs.asleep) :
    ∃ s₁, Left w life dr os s₁ ∧ ∃ n t, schedN (denote table) pw w n (.single (⟨T0 w.params x0, n0, life, #[], dr, k0, os⟩ : SharedT).abs (topStub pw)) = .running (.single s₁ t) ∧ through t = true :=
  run_of_wp hz (stub_wp (env := env) rfl (stub1 w life dr os) (stub2 w life dr os) (top_wp w life dr os)) fun s ⟨x, es, ep, _, _, e⟩ => by subst e; rfl
theorem HL_abs (P : Params) (x : Nat → Obj) (life : Life) : absHeap (T10 P x) n10 life = ⟨(HL P x).toArray, life⟩ := by rfl'
end H03
end
section
namespace H03
open PySem PySem.W PyProof.Rows Mine
noncomputable def qv : Program := { pw with main := { pw.main with body := [stm 0, stm 26] } }
noncomputable def loose : List Str := [sS "_wall", sS "__name__", sS "b1_set", sS "in_table_b1", sS "b3_exceptions", sS "map_table_b3", sS "_MAX_STRING_SIZE", sS "_MOVE_COST", sS "_CASE_COST", sS "_substitution_cost", sS "_levenshtein_distance", sS "tspecials", sS "_name_disallowed_re", sS "_value_disallowed_re", sS "_formatparam", sS "Headers", sS "_law_noise", sS "_law_forms", sS "_law_letters", sS "_law_typed", sS "_law_squares", sS "_law_even"]
theorem opening_ok (w : World) : (fencedOpening treeTable pw w 2000).map (fun s => (s.heap, s.gens, s.drawn, s.toks)) = some (⟨(H0L w.params).toArray, life0⟩, #[], dr0, k0) := by rfl'
theorem T0_abs (P : Params) : absHeap (T0 P x0) n0 life0 = ⟨(H0L P).toArray, life0⟩ := by rfl'
theorem main_ok (P : Params) : (⟨(H0L P).toArray, life0⟩ : Heap).isNs mainGlobals = true := by rfl'
theorem ch_ok : chainsOk qv = true := by rfl'
theorem looks_ok (P : Params) (x : Nat → Obj) : (staticsOk (importedModules pw.main.body) ⟨(H0L P).toArray, life0⟩ ⟨(HL P x).toArray, life0⟩ && namesBound pw ⟨(HL P x).toArray, life0⟩ && laidKept ⟨(H0L P).toArray, life0⟩ ⟨(HL P x).toArray, life0⟩) = true := by rfl'
theorem seen_ok (P : Params) (x : Nat → Obj) (os : OsState) : openSeen qv loose (importedModules pw.main.body) (fun _ => true) true ⟨⟨(HL P x).toArray, life0⟩, #[], dr0, k10, os⟩ = openGood qv loose := by rfl'
theorem keep_a (P : Params) (x : Nat → Obj) : (HL P x).take 3 = (H0L P).take 3 := by rfl'
theorem keep_b (P : Params) (x : Nat → Obj) : ((HL P x).drop 4).take (n0 - 4) = (H0L P).drop 4 := by rfl'
noncomputable def Y (w : World) (s : Shared) : Prop := ∃ (x : Nat → Obj) (es : List DictEntry) (ep : Nat) (os : OsState), x 0 = dObj es ep ∧ Ents b3L es ∧ s = ⟨⟨(HL w.params x).toArray, life0⟩, #[], dr0, k10, os⟩
theorem H0_len (P : Params) : (H0L P).length = n0 := by rfl'
theorem keep_all (P : Params) (x : Nat → Obj) (b : Nat) (h3 : b ≠ 3) : b < n0 → (HL P x)[b]? = (H0L P)[b]? := by
  intro hlt
  by_cases h2 : b < 3
  · have := congrArg (fun l => l[b]?) (keep_a P x)
    simpa [List.getElem?_take, h2] using this
  · have h4 : 4 ≤ b := by omega
    have := congrArg (fun l => l[b - 4]?) (keep_b P x)
    simp only [List.getElem?_take, List.getElem?_drop, show 4 + (b - 4) = b by omega, if_pos (show b - 4 < n0 - 4 by omega)] at this
    exact this
theorem lt_of_get (P : Params) (b : Nat) (o : Obj) (hb : (⟨(H0L P).toArray, life0⟩ : Heap).get? b = some o) : b < n0 := by
  have := Heap.lt_size hb
  rwa [show (⟨(H0L P).toArray, life0⟩ : Heap).objs.size = n0 by show (H0L P).toArray.size = n0; rw [List.size_toArray, H0_len]] at this
theorem behind (w : World) : Behind pw qv loose (fun _ _ => True) Y w := by
  refine behind_of (N := 2000) (R := Left w life0 dr0) (opening_ok w) (main_ok w.params) ch_ok (fun os hz => ?_) fun os s₁ h => ?_
  · have e : (⟨⟨(H0L w.params).toArray, life0⟩, #[], dr0, k0, os⟩ : Shared) = (⟨T0 w.params x0, n0, life0, #[], dr0, k0, os⟩ : SharedT).abs := by
      show _ = Shared.mk _ _ _ _ _
      rw [T0_abs]
    rw [e] at hz ⊢
    exact top_run w life0 dr0 os hz
  · obtain ⟨x, es, ep, hx, hE, rfl⟩ := h
    have e : (⟨T10 w.params x, n10, life0, #[], dr0, k10, os⟩ : SharedT).abs = ⟨⟨(HL w.params x).toArray, life0⟩, #[], dr0, k10, os⟩ := by
      show Shared.mk _ _ _ _ _ = _
      rw [HL_abs]
    rw [e]
    refine ⟨rfl, rfl, rfl, ?_, looks_ok w.params x, seen_ok w.params x os, x, es, ep, os, hx, hE, rfl⟩
    intro b o h3 _ hb
    have key := keep_all w.params x b h3 (lt_of_get w.params b o hb)
    unfold Heap.get? at hb ⊢
    have e1 : ((⟨(HL w.params x).toArray, life0⟩ : Heap).objs)[b]? = ((⟨(H0L w.params).toArray, life0⟩ : Heap).objs)[b]? := by
      show (HL w.params x).toArray[b]? = (H0L w.params).toArray[b]?
      rw [List.getElem?_toArray, List.getElem?_toArray, key]
    rw [← e1] at hb
    exact hb
end H03
end
section
open PySem PySem.W
namespace Mine
noncomputable def Hd {α : Type} (x : Option α) (P : α → Prop) : Prop := x.elim False P
theorem Hd.b {α β : Type} {x : Option α} {f : α → Option β} {P : β → Prop} (h : Hd (x.bind f) P) : Hd x fun a => Hd (f a) P := by
  cases x <;> exact h
theorem Hd.m {α β : Type} {x : Option α} {f : α → β} {P : β → Prop} (h : Hd (x.map f) P) : Hd x fun a => P (f a) := by
  cases x <;> exact h
theorem Hd.el {α β : Type} {x : Option α} {y : Option β} {f : α → Option β} {P : β → Prop} {R : Prop} (h : Hd (x.elim y f) P) (h1 : Hd x (fun a => Hd (f a) P) → R) (h2 : Hd y P → R) : R := by
  cases x <;> first | exact h1 h | exact h2 h
theorem Hd.el' {α β : Type} {x : Option α} {y : Option β} {f : α → Option β} {P : β → Prop} {R : Prop} (h : Hd (x.elim y f) P) (h1 : ∀ a, x = some a → Hd (f a) P → R) (h2 : x = none → Hd y P → R) : R := by
  cases x with
  | none => exact h2 rfl h
  | some a => exact h1 a rfl h
theorem Hd.get {α : Type} {x : Option α} {P : α → Prop} {R : Prop} (h : Hd x P) (k : ∀ a, x = some a → P a → R) : R := by
  cases x with
  | none => exact h.elim
  | some a => exact k a rfl h
theorem Hd.of {α : Type} {x : Option α} {a : α} {P : α → Prop} (h : x = some a) (k : P a) : Hd x P := by subst h; exact k
noncomputable def gd {α : Type} (b : Bool) (x : Option α) : Option α := bif b then x else none
theorem Hd.g {α : Type} {b : Bool} {x : Option α} {P : α → Prop} {R : Prop} (h : Hd (gd b x) P) (k : b = true → Hd x P → R) : R := by
  cases b with
  | false => exact h.elim
  | true => exact k rfl h
theorem Hd.gd {α : Type} {p : Prop} [Decidable p] {x : Option α} {P : α → Prop} {R : Prop} (h : Hd (gd (decide p) x) P) (k : p → Hd x P → R) : R := h.g fun e => k (of_decide_eq_true e)
theorem Hd.bif {α : Type} {b : Bool} {x y : Option α} {P : α → Prop} {R : Prop} (h : Hd (bif b then x else y) P) (k : b = true → Hd x P → R) (l : b = false → Hd y P → R) : R := by
  cases b with
  | false => exact l rfl h
  | true => exact k rfl h
noncomputable def one {α β : Type} (l : List α) (k : α → Option β) : Option β := match l with | [a] => k a | _ => none
noncomputable def two {α β : Type} (l : List α) (k : α → α → Option β) : Option β := match l with | [a, b] => k a b | _ => none
theorem Hd.one {α β : Type} {l : List α} {k : α → Option β} {P : β → Prop} {R : Prop} (h : Hd (one l k) P) (f : ∀ a, l = [a] → Hd (k a) P → R) : R := by
  match l with
  | [] => exact h.elim
  | [a] => exact f a rfl h
  | _ :: _ :: _ => exact h.elim
theorem Hd.two {α β : Type} {l : List α} {k : α → α → Option β} {P : β → Prop} {R : Prop} (h : Hd (two l k) P) (f : ∀ a b, l = [a, b] → Hd (k a b) P → R) : R := by
  match l with
  | [] => exact h.elim
  | [_] => exact h.elim
  | [a, b] => exact f a b rfl h
  | _ :: _ :: _ :: _ => exact h.elim
noncomputable def nil {α β : Type} (l : List α) (k : Option β) : Option β := match l with | [] => k | _ => none
theorem Hd.nil {α β : Type} {l : List α} {k : Option β} {P : β → Prop} {R : Prop} (h : Hd (nil l k) P) (f : l = [] → Hd k P → R) : R := by
  match l with
  | [] => exact f rfl h
  | _ :: _ => exact h.elim
inductive V where
  | d (x : PyData)
  | fl (xs : List PyData)
  | hl (i : Nat)
  | obj (i : Nat)
  | ty (n : String)
  | pat (b : Bool)
  | rng (lo hi st : Int)
inductive Cell where
  | list (xs : List PyData)
  | inst (i : Option Nat)
noncomputable abbrev Objs := List Cell
noncomputable abbrev Vars := List (Str × Option V)
structure St where
  vars : Vars
  objs : Objs
inductive Fl where
  | next | brk | cont
  | ret (v : V)
noncomputable def maxLen : Nat := 1000000
noncomputable def V.dat : V → Option PyData | .d x => some x | _ => none
noncomputable def V.fl? : V → Option (List PyData) | .fl xs => some xs | _ => none
noncomputable def V.hl? : V → Option Nat | .hl i => some i | _ => none
noncomputable def V.obj? : V → Option Nat | .obj i => some i | _ => none
noncomputable def V.ty? : V → Option String | .ty i => some i | _ => none
noncomputable def int? : PyData → Option Int | .int i => some i | _ => none
noncomputable def str? : PyData → Option Str | .str s => some s | _ => none
noncomputable def lst? : PyData → Option (List PyData) | .list s => some s | _ => none
noncomputable def tup? : PyData → Option (List PyData) | .tuple s => some s | _ => none
noncomputable def bool? : PyData → Option Bool | .bool s => some s | _ => none
noncomputable def asI (v : V) : Option Int := v.dat.bind int?
noncomputable def asS (v : V) : Option Str := v.dat.bind str?
noncomputable def asT (v : V) : Option (List PyData) := v.dat.bind tup?
noncomputable def asB (v : V) : Option Bool := v.dat.bind bool?
noncomputable def listAt (o : Objs) (i : Nat) : Option (List PyData) := (o[i]?).bind fun c => match c with | .list xs => some xs | .inst _ => none
noncomputable def instAt (o : Objs) (i : Nat) : Option (Option Nat) := (o[i]?).bind fun c => match c with | .list _ => none | .inst k => some k
noncomputable def rd (o : Objs) : V → Option PyData
  | .d x => some x
  | .fl xs => some (.list xs)
  | .hl i => (listAt o i).map .list
  | _ => none
noncomputable def rd0 : V → Option PyData
  | .d x => some x
  | .fl xs => some (.list xs)
  | _ => none
noncomputable def rd0s : List V → Option (List PyData)
  | [] => some []
  | v :: vs => (rd0 v).bind fun x => (rd0s vs).map fun xs => x :: xs
noncomputable def listOf (o : Objs) (v : V) : Option (List PyData) := (rd o v).bind lst?
noncomputable def upd (x : Str) (v : V) : Vars → Vars
  | [] => []
  | y :: r => bif y.1 == x then (y.1, some v) :: r else y :: upd x v r
noncomputable def idx? (i : Int) (n : Nat) : Option Nat := gd (decide (n ≤ maxLen)) (bif decide (0 ≤ i) then gd (decide (i < n)) (some i.toNat) else gd (decide (-(n : Int) ≤ i)) (some (i + n).toNat))
noncomputable def clampI (i : Int) (n : Nat) : Nat := (max 0 (min (if i < 0 then i + n else i) n)).toNat
noncomputable def lowI (lo : Option Int) (n : Nat) : Nat := lo.elim 0 fun i => clampI i n
noncomputable def highI (hi : Option Int) (n : Nat) : Nat := hi.elim n fun i => clampI i n
noncomputable def sliceL {α : Type} (xs : List α) (lo hi : Option Int) : List α := (xs.drop (lowI lo xs.length)).take (highI hi xs.length - lowI lo xs.length)
noncomputable def strL (s : Str) : List Nat := s.cps.toList
noncomputable def mkS (l : List Nat) : Str := ⟨l.toArray⟩
noncomputable def i64 (x : Int) : Bool := decide (x.natAbs < 18446744073709551616)
noncomputable def addV (o : Objs) (a b : V) : Option V :=
  (asI a).elim
    ((asS a).elim ((listOf o a).bind fun x => (listOf o b).bind fun y => gd (decide (x.length + y.length ≤ maxLen)) (some (.fl (x ++ y))))
      fun x => (asS b).bind fun y => gd (decide ((strL x).length + (strL y).length ≤ maxLen)) (some (.d (.str (mkS (strL x ++ strL y))))))
    fun x => (asI b).map fun y => .d (.int (x + y))
noncomputable def binI (op : Operator) (x y : Int) : Option Int := match op with
  | .Sub => some (x - y)
  | .Mult => gd (i64 x || i64 y) (some (x * y))
  | .FloorDiv => gd (decide (y ≠ 0 ∧ y.natAbs < 1073741824)) (some (x.fdiv y))
  | .Mod => gd (decide (y ≠ 0)) (some (x.fmod y))
  | .Pow => gd (decide (0 ≤ y ∧ y ≤ 100)) (gd (i64 x) (some (x ^ y.toNat)))
  | _ => none
noncomputable def isAdd : Operator → Bool | .Add => true | _ => false
noncomputable def binop (o : Objs) (op : Operator) (a b : V) : Option V :=
  bif isAdd op then addV o a b else (asI a).bind fun x => (asI b).bind fun y => (binI op x y).map fun z => .d (.int z)
noncomputable def okD (x : PyData) : Bool := PyData.canLay0 x && decide (PyData.depth x ≤ 20)
noncomputable def okDs (xs : List PyData) : Bool := xs.all okD
noncomputable def inStr (x y : Str) : Bool := !(Builtin.Str.occurrences y x 0 y.length 1).isEmpty
noncomputable def isNone : PyData → Bool | .none => true | _ => false
noncomputable def isNoneV (v : V) : Bool := v.dat.elim false isNone
noncomputable def isOp (a b : V) : Option Bool := b.ty?.elim (gd (isNoneV b) (some (isNoneV a))) fun n => a.ty?.map fun m => m == n
noncomputable def eqOp (o : Objs) (a b : V) : Option Bool := ((asS a).bind fun x => (asS b).map fun y => strL x == strL y).elim ((rd o a).bind fun x => (rd o b).bind fun y => gd (okD x && okD y) (some (PyData.eqv x y))) some
noncomputable def inOp (o : Objs) (a b : V) : Option Bool := (asS b).elim ((rd o a).bind fun x => (listOf o b).bind fun ys => gd (okD x && okDs ys) (some (ys.any fun y => PyData.eqv y x))) fun y => (asS a).map fun x => inStr x y
noncomputable def cmpI (op : CmpOp) (x y : Int) : Option Bool := match op with
  | .Lt => some (decide (x < y))
  | .LtE => some (decide (x ≤ y))
  | .Gt => some (decide (x > y))
  | .GtE => some (decide (x ≥ y))
  | _ => none
noncomputable def cmpop (o : Objs) (op : CmpOp) (a b : V) : Option Bool := match op with
  | .Is => isOp a b
  | .IsNot => (isOp a b).map not
  | .Eq => eqOp o a b
  | .NotEq => (eqOp o a b).map not
  | .In => inOp o a b
  | .NotIn => (inOp o a b).map not
  | .Lt => (asI a).bind fun x => (asI b).bind fun y => cmpI .Lt x y
  | .LtE => (asI a).bind fun x => (asI b).bind fun y => cmpI .LtE x y
  | .Gt => (asI a).bind fun x => (asI b).bind fun y => cmpI .Gt x y
  | .GtE => (asI a).bind fun x => (asI b).bind fun y => cmpI .GtE x y
noncomputable def truthL (xs : List PyData) : Option Bool := gd (decide (xs.length ≤ maxLen)) (some (xs.length != 0))
noncomputable def truthD : PyData → Option Bool
  | .none => some false
  | .bool b => some b
  | .int i => some (i != 0)
  | .str s => gd (decide ((strL s).length ≤ maxLen)) (some ((strL s).length != 0))
  | _ => none
noncomputable def truthV (o : Objs) (v : V) : Option Bool := (listOf o v).elim (v.dat.bind truthD) truthL
noncomputable def rangeL (lo hi st : Int) : Option (List PyData) :=
  gd (decide (st ≠ 0)) (gd (Builtin.Range.small lo hi st && decide (Builtin.Range.rangeSize lo hi st ≤ maxLen)) (some ((List.range (Builtin.Range.rangeSize lo hi st).toNat).map fun (i : Nat) => PyData.int (lo + (i : Int) * st))))
inductive It where
  | vals (xs : List PyData)
  | cell (i : Nat)
  | zip (xs : List PyData)
noncomputable def It.isZip : It → Bool | .zip _ => true | _ => false
noncomputable def isPair : Expr → Bool | .Tuple ts _ _ => ts.length == 2 | _ => false
noncomputable def okTarget (it : It) (t : Expr) : Bool := !it.isZip || isPair t
noncomputable def It.items (o : Objs) : It → Option (List PyData)
  | .vals xs => some xs
  | .zip xs => some xs
  | .cell i => listAt o i
noncomputable def nextIt (o : Objs) (j : Nat) (it : It) : Option (Option PyData) := (it.items o).map fun xs => xs[j]?
noncomputable def itD : PyData → Option It
  | .tuple xs => some (.vals xs)
  | .list xs => some (.vals xs)
  | .str s => some (.vals ((strL s).map fun c => .str (mkS [c])))
  | _ => none
noncomputable def itIn (o : Objs) : V → Option It
  | .hl i => (listAt o i).map fun _ => .cell i
  | .d x => itD x
  | .fl xs => some (.vals xs)
  | .rng lo hi st => (rangeL lo hi st).map .vals
  | _ => none
noncomputable def zipD? : PyData → Option (List PyData)
  | .list xs => some xs
  | .str s => some ((strL s).map fun c => .str (mkS [c]))
  | _ => none
noncomputable def loopFuel : Nat := maxLen + 1
noncomputable def ints? : List PyData → Option (List Int)
  | [] => some []
  | x :: r => (int? x).bind fun i => (ints? r).map fun is => i :: is
noncomputable def strs? : List PyData → Option (List Str)
  | [] => some []
  | x :: r => (str? x).bind fun i => (strs? r).map fun is => i :: is
inductive Bf where
  | len | ord | chr | range | list | sum | min | isinstance | int | str | type
noncomputable def bTab : List (Str × Bf) := [("len", .len), ("ord", .ord), ("chr", .chr), ("range", .range), ("list", .list), ("sum", .sum), ("min", .min), ("isinstance", .isinstance), ("int", .int), ("str", .str), ("type", .type)]
noncomputable def Bf.val : Bf → Value
  | .len => .builtin "len" | .ord => .builtin "ord" | .chr => .builtin "chr" | .range => .type "range" | .list => .type "list" | .sum => .builtin "sum" | .min => .builtin "min"
  | .isinstance => .builtin "isinstance" | .int => .type "int" | .str => .type "str" | .type => .type "type"
noncomputable def V.rng? : V → Option (Int × Int × Int) | .rng a b c => some (a, b, c) | _ => none
noncomputable def bRange : List V → Option V
  | [b] => (asI b).map fun b => .rng 0 b 1
  | [a, b] => (asI a).bind fun a => (asI b).map fun b => .rng a b 1
  | [a, b, c] => (asI a).bind fun a => (asI b).bind fun b => (asI c).bind fun c => gd (decide (c ≠ 0 ∧ c.natAbs < 1073741824)) (some (.rng a b c))
  | _ => none
noncomputable def bLen (o : Objs) (v : V) : Option V :=
  (asS v).elim (((asT v).elim (listOf o v) some).bind fun xs => gd (decide (xs.length ≤ maxLen)) (some (.d (.int xs.length))))
    fun s => gd (decide ((strL s).length ≤ maxLen)) (some (.d (.int (strL s).length)))
noncomputable def callB (o : Objs) (f : Bf) (args : List V) : Option V := match f with
  | .len => one args (bLen o)
  | .ord => one args fun v => (asS v).bind fun s => one (strL s) fun c => some (.d (.int c))
  | .chr => one args fun v => (asI v).bind fun i => gd (decide (0 ≤ i ∧ i ≤ 0x10FFFF)) (some (.d (.str (mkS [i.toNat]))))
  | .range => bRange args
  | .list => one args fun v => v.rng?.bind fun r => (rangeL r.1 r.2.1 r.2.2).map .fl
  | .sum => one args fun v => (listOf o v).bind fun xs => (ints? xs).map fun is => .d (.int is.sum)
  | .min => two args fun a b => (asI a).bind fun a => (asI b).map fun b => .d (.int (bif decide (b < a) then b else a))
  | .isinstance => two args fun a b => b.ty?.bind fun n => gd (n == "bool") ((asB a).elim ((asI a).map fun _ => .d (.bool false)) fun _ => some (.d (.bool true)))
  | .int => one args fun v => (asS v).bind fun s => gd (decide (s.length ≤ 640)) ((PySem.intText? s).map fun i => .d (.int i))
  | .str => one args fun v => (asI v).bind fun i => gd (decide (i.natAbs < 1000000000)) (some (.d (.str (Str.ofString (toString i)))))
  | .type => one args fun v => (asS v).elim ((listOf o v).map fun _ => .ty "list") fun _ => some (.ty "str")
noncomputable def callM (o : Objs) (s : Str) (m : Str) (args : List V) : Option V :=
  bif m == ("lower" : Str) then nil args (gd (decide ((strL s).length ≤ maxLen)) (some (.d (.str (Txt.lower s)))))
  else gd (m == ("join" : Str)) (one args fun l => (listOf o l).bind fun xs => (strs? xs).bind fun ys => gd (JoinOk s ys) (some (.d (.str (Txt.join s ys)))))
structure Fn where
  params : List Str
  dflt : List (Option V)
  kwo : Option Str
  dct : Option Str
  body : List Stmt
  scope : Scope
  mv : List Str
structure Env' where
  glob : Str → Option V
  fn : Str → Option Fn
  prim : Str → Option (PyData → Option PyData)
structure Cx where
  sc : Scope
  mv : List Str
noncomputable def bindPos : List Str → List (Option V) → List V → Option (List (Str × V))
  | [], _, vs => nil vs (some [])
  | p :: ps, ds, vs => match vs with
    | a :: as => (bindPos ps ds.tail as).map ((p, a) :: ·)
    | [] => (ds.head?.bind id).bind fun v => (bindPos ps ds.tail []).map ((p, v) :: ·)
noncomputable def bindFn (F : Fn) (vs : List V) (ks : List (Str × V)) : Option (List (Str × V)) := (bindPos F.params F.dflt vs).bind fun bs =>
  F.kwo.elim (nil ks (some (bs ++ (F.dct.map fun d => (d, .d (.dict []))).toList))) fun k => one ks fun p => gd (k == p.1) (some (bs ++ [(k, p.2)]))
noncomputable def isK (sc : Scope) (x : Str) (k : NameKind) : Bool := decide (sc.names.lookup x = some k)
noncomputable def localNames (sc : Scope) : List Str := sc.names.filterMap fun p => bif decide (p.2 = .local) || decide (p.2 = .cell) then some p.1 else none
noncomputable def freeIn (sc : Scope) (n : Str) : Bool := isK sc n .free
noncomputable def scOk (sc : Scope) : Bool := decide (sc.kind = .function) && sc.names.all fun x => decide (sc.names.lookup x.1 = some x.2)
noncomputable def compOk (C : Cx) (sc : Scope) (vars : Vars) : Bool := scOk sc && sc.names.all fun x => !decide (x.2 = .free) || ((isK C.sc x.1 .cell || isK C.sc x.1 .free) && (vars.lookup x.1).isSome)
noncomputable def setVar (C : Cx) (x : Str) (v : V) (st : St) : Option St :=
  gd (st.vars.lookup x).isSome (v.fl?.elim (some ⟨upd x v st.vars, st.objs⟩) fun xs =>
    bif C.mv.contains x then some ⟨upd x (.hl st.objs.length) st.vars, st.objs ++ [.list xs]⟩ else some ⟨upd x (.d (.list xs)) st.vars, st.objs⟩)
noncomputable def parts (n : Nat) (o : Objs) (v : V) : Option (List V) := ((asT v).elim (listOf o v) some).bind fun xs => gd (decide (xs.length = n)) (some (xs.map .d))
noncomputable def setCell (i : Nat) (c : Cell) (st : St) : St := ⟨st.vars, st.objs.set i c⟩
section helpers
noncomputable def evs (f : Expr → St → Option (V × St)) : List Expr → St → Option (List V × St)
  | [], st => some ([], st)
  | e :: es, st => (f e st).bind fun p => (evs f es p.2).map fun q => (p.1 :: q.1, q.2)
noncomputable def evKws (f : Expr → St → Option (V × St)) : List Keyword → St → Option (List (Str × V) × St)
  | [], st => some ([], st)
  | k :: ks, st => k.arg.bind fun n => (f k.value st).bind fun p => (evKws f ks p.2).map fun q => ((n, p.1) :: q.1, q.2)
noncomputable def evChain (f : Expr → St → Option (V × St)) : V → List CmpOp → List Expr → St → Option (Bool × St)
  | a, op :: ops, e :: es, st => (f e st).bind fun p => (cmpop p.2.objs op a p.1).bind fun r => match ops with
    | [] => nil es (some (r, p.2))
    | op2 :: ops => gd (!es.isEmpty) (bif r then evChain f p.1 (op2 :: ops) es p.2 else some (false, p.2))
  | _, _, _, _ => none
noncomputable def evAnd (t : Expr → St → Option (Bool × St)) : List Expr → St → Option (Bool × St)
  | [], st => some (true, st)
  | e :: es, st => (t e st).bind fun p => bif p.1 then evAnd t es p.2 else some (false, p.2)
noncomputable def evOr (t : Expr → St → Option (Bool × St)) : List Expr → St → Option (Bool × St)
  | [], st => some (false, st)
  | e :: es, st => (t e st).bind fun p => bif p.1 then some (true, p.2) else evOr t es p.2
noncomputable def bindAll (f : Expr → V → St → Option St) : List (Expr × V) → St → Option St
  | [], st => some st
  | p :: r, st => (f p.1 p.2 st).bind fun st => bindAll f r st
noncomputable def nameOn (sc : Scope) (line : Nat) : Expr → Option Str
  | .Name id pos => bif isK sc id .local && pos.line == line then some id else none
  | _ => none
noncomputable def swapped (C : Cx) (ts vs : List Expr) : Option Bool :=
  bif !(ts.length == 2 || ts.length == 3) || vs.length != ts.length then some false
  else bif (ts.filterMap (nameOn C.sc ((ts.head?.map (·.pos.line)).getD 0))).length != ts.length || (ts.filterMap (nameOn C.sc ((ts.head?.map (·.pos.line)).getD 0))).eraseDups.length != (ts.filterMap (nameOn C.sc ((ts.head?.map (·.pos.line)).getD 0))).length then some false
  else bif vs.all (foldedForSure 8) then some false
  else bif vs.all (constantsAlone 8) then none
  else some true
noncomputable def Fl.isNext : Fl → Bool | .next => true | _ => false
noncomputable def exs (f : Stmt → St → Option (Fl × St)) : List Stmt → St → Option (Fl × St)
  | [], st => some (.next, st)
  | s :: ss, st => (f s st).bind fun p => bif p.1.isNext then exs f ss p.2 else some p
noncomputable def Fl.turn (again : Option (Fl × St)) (st : St) : Fl → Option (Fl × St)
  | .next => again
  | .cont => again
  | .brk => some (.next, st)
  | .ret v => some (.ret v, st)
noncomputable def forL (b : PyData → St → Option St) (f : St → Option (Fl × St)) (it : It) : Nat → Nat → St → Option (Fl × St)
  | 0, _, _ => none
  | k + 1, j, st => (nextIt st.objs j it).bind fun ox => ox.elim (some (.next, st)) fun x => (b x st).bind fun st => (f st).bind fun p => p.1.turn (forL b f it k (j + 1) p.2) p.2
noncomputable def whileL (t : St → Option (Bool × St)) (f : St → Option (Fl × St)) : Nat → St → Option (Fl × St)
  | 0, _ => none
  | k + 1, st => (t st).bind fun q => bif q.1 then (f q.2).bind fun p => p.1.turn (whileL t f k p.2) p.2 else some (.next, q.2)
noncomputable def compL (f : PyData → St → List PyData → Option (List PyData × St)) (it : It) : Nat → Nat → St → List PyData → Option (List PyData × St)
  | 0, _, _, _ => none
  | k + 1, j, st, acc => (nextIt st.objs j it).bind fun ox => ox.elim (some (acc, st)) fun x => (f x st acc).bind fun p => compL f it k (j + 1) p.2 p.1
end helpers
noncomputable def zipD : List PyData → List PyData → List PyData
  | x :: xs, y :: ys => .tuple [x, y] :: zipD xs ys
  | _, _ => []
noncomputable def intOpt (v : Option V) : Option (Option Int) := v.elim (some none) fun v => (asI v).elim (gd (isNoneV v) (some none)) fun i => some (some i)
noncomputable def takeL {α : Type} (xs : List α) (lo hi st : Option Int) : Option (List α) :=
  st.elim (some (sliceL xs lo hi)) fun i => gd (decide (i = -1 ∧ lo = none ∧ hi = none)) (some xs.reverse)
noncomputable def sliceW (o : Objs) (v : V) (a b c : Option Int) : Option V :=
  (asS v).elim ((listOf o v).bind fun xs => gd (decide (xs.length ≤ maxLen)) ((takeL xs a b c).map .fl))
    fun s => gd (decide ((strL s).length ≤ maxLen)) ((takeL (strL s) a b c).map fun r => .d (.str (mkS r)))
noncomputable def sliceV (o : Objs) (v : V) (lo hi st : Option V) : Option V := (intOpt lo).bind fun a => (intOpt hi).bind fun b => (intOpt st).bind fun c => sliceW o v a b c
noncomputable def itemV (o : Objs) (v : V) (i : Int) : Option V :=
  (asS v).elim (((asT v).elim (listOf o v) some).bind fun xs => (idx? i xs.length).bind fun k => (xs[k]?).map .d)
    fun s => (idx? i (strL s).length).bind fun k => ((strL s)[k]?).map fun c => .d (.str (mkS [c]))
noncomputable def whileFuel : Nat := 100000
noncomputable def isMeth (f : Str) : Bool := f.cps.toList.contains 46
structure Fs where
  ev : Cx → Expr → St → Option (V × St)
  tst : Cx → Expr → St → Option (Bool × St)
  iter : Cx → Expr → St → Option (It × St)
  comp : Cx → Expr → Comprehension → List Comprehension → It → St → List PyData → Option (List PyData × St)
  bind : Cx → Expr → V → St → Option St
  ex : Cx → Stmt → St → Option (Fl × St)
  call : Str → List V → List (Str × V) → Objs → Option (V × Objs)
section step
variable (G : Env')
noncomputable def evConst (c : Const) : Option V := match c with
  | .none => some (.d .none)
  | .bool b => some (.d (.bool b))
  | .int i => some (.d (.int i))
  | .str s => some (.d (.str s))
  | _ => none
noncomputable def evVar (C : Cx) (x : Str) (st : St) : Option V :=
  gd (!(x == ("__classdict__" : Str))) (bif isK C.sc x .globalImplicit then G.glob x else gd (!isK C.sc x .globalExplicit) ((C.sc.names.lookup x).bind fun _ => (st.vars.lookup x).bind id))
noncomputable def evName (C : Cx) (x : Str) (st : St) : Option V := bif x == ("__debug__" : Str) then some (.d (.bool true)) else evVar G C x st
variable (f : Fs) (C : Cx)
noncomputable def evBin (l : Expr) (op : Operator) (r : Expr) (st : St) : Option (V × St) :=
  (f.ev C l st).bind fun p => (f.ev C r p.2).bind fun q => (binop q.2.objs op p.1 q.1).map fun v => (v, q.2)
noncomputable def evUn (op : UnaryOp) (x : Expr) (st : St) : Option (V × St) := match op with
  | .Not => (f.ev C x st).bind fun p => (truthV p.2.objs p.1).map fun b => (.d (.bool (!b)), p.2)
  | .USub => (f.ev C x st).bind fun p => (asI p.1).map fun i => (.d (.int (-i)), p.2)
  | _ => none
noncomputable def isOr : BoolOp → Bool | .Or => true | .And => false
noncomputable def evBool (op : BoolOp) (es : List Expr) (st : St) : Option (V × St) :=
  two es fun a b => (f.ev C a st).bind fun p => (truthV p.2.objs p.1).bind fun c => bif c == isOr op then some p else f.ev C b p.2
noncomputable def isIn : List CmpOp → Bool | [.In] => true | _ => false
noncomputable def evCmp (l : Expr) (ops : List CmpOp) (es : List Expr) (st : St) : Option (V × St) :=
  (f.ev C l st).bind fun p => bif isIn ops then one es fun e => (f.ev C e p.2).bind fun q => q.1.obj?.elim
      ((cmpop q.2.objs .In p.1 q.1).map fun r => (.d (.bool r), q.2))
      fun i => (instAt q.2.objs i).bind fun _ => ((asS p.1).bind fun x => (f.call "Headers.__contains__" [.obj i, .d (.str x)] [] q.2.objs).bind fun r => (asB r.1).map fun b => (.d (.bool b), ⟨q.2.vars, r.2⟩))
    else (evChain (f.ev C) p.1 ops es p.2).map fun q => (.d (.bool q.1), q.2)
noncomputable def evList (es : List Expr) (st : St) : Option (V × St) := (evs (f.ev C) es st).bind fun p => gd (decide (p.1.length ≤ maxLen)) ((rd0s p.1).map fun xs => (.fl xs, p.2))
noncomputable def evTup (es : List Expr) (st : St) : Option (V × St) := (evs (f.ev C) es st).bind fun p => gd (decide (p.1.length ≤ maxLen)) ((rd0s p.1).map fun xs => (.d (.tuple xs), p.2))
noncomputable def evPart (e : Option Expr) (st : St) : Option (Option V × St) := e.elim (some (none, st)) fun e => (f.ev C e st).map fun p => (some p.1, p.2)
noncomputable def evItem (v i : Expr) (st : St) : Option (V × St) := (f.ev C v st).bind fun p => (f.ev C i p.2).bind fun q => (asI q.1).bind fun i => (itemV q.2.objs p.1 i).map fun r => (r, q.2)
noncomputable def evSlice (v : Expr) (lo hi stp : Option Expr) (st : St) : Option (V × St) :=
  (f.ev C v st).bind fun p => (evPart f C lo p.2).bind fun a => (evPart f C hi a.2).bind fun b => (evPart f C stp b.2).bind fun c => (sliceV c.2.objs p.1 a.1 b.1 c.1).map fun r => (r, c.2)
noncomputable def evSub (v i : Expr) (st : St) : Option (V × St) := match i with
  | .Slice lo hi stp _ => evSlice f C v lo hi stp st
  | _ => evItem f C v i st
noncomputable def evAttr (o : Expr) (a : Str) (st : St) : Option (V × St) := (f.ev C o st).bind fun p => p.1.obj?.bind fun i => gd (a == ("_headers" : Str)) ((instAt p.2.objs i).bind fun k => k.map fun h => (.hl h, p.2))
noncomputable def evComp (elt : Expr) (gens : List Comprehension) (sc : Scope) (st : St) : Option (V × St) := match gens with
  | [] => none
  | g :: gs => gd (decide (g.is_async = 0)) ((f.iter C g.iter st).bind fun p => gd (compOk C sc p.2.vars)
      ((f.comp ⟨sc, []⟩ elt g gs p.1 ⟨((localNames sc).map fun x => (x, none)) ++ p.2.vars.filter (fun x => freeIn sc x.1), p.2.objs⟩ []).bind fun q => gd (decide (q.1.length ≤ maxLen)) (some (.fl q.1, ⟨p.2.vars, q.2.objs⟩))))
noncomputable def recvOk (o : Objs) (m : Str) : V → Bool
  | .obj i => (instAt o i).isSome
  | .hl i => m == ("append" : Str) && (listAt o i).isSome
  | .pat _ => m == ("search" : Str)
  | .d x => (str? x).isSome && (m == ("lower" : Str) || m == ("join" : Str))
  | _ => false
noncomputable def methApp (m : Str) (vs : List V) (ks : List (Str × V)) (st : St) : V → Option (V × St)
  | .obj i => (f.call ("Headers." ++ m) (.obj i :: vs) ks st.objs).map fun r => (r.1, ⟨st.vars, r.2⟩)
  | .hl i => nil ks (one vs fun v => (rd0 v).bind fun x => (listAt st.objs i).bind fun xs => gd (decide (xs.length < maxLen)) (some (.d .none, setCell i (.list (xs ++ [x])) st)))
  | .pat _ => nil ks (one vs fun v => (asS v).bind fun s => gd ((strL s).all fun c => decide (32 ≤ c) && c != 127) (some (.d .none, st)))
  | .d x => (str? x).bind fun s => nil ks ((callM st.objs s m vs).map fun r => (r, st))
  | _ => none
noncomputable def evMeth (v : V) (m : Str) (args : List Expr) (kws : List Keyword) (st : St) : Option (V × St) :=
  gd (recvOk st.objs m v) ((evs (f.ev C) args st).bind fun p => (evKws (f.ev C) kws p.2).bind fun q => methApp f m p.1 q.1 q.2 v)
noncomputable def evCallM (o : Expr) (m : Str) (apos : Pos) (args : List Expr) (kws : List Keyword) (cpos : Pos) (st : St) : Option (V × St) :=
  gd (apos.endLine == cpos.line && decide (args.length + kws.length ≤ 20)) ((f.ev C o st).bind fun p => evMeth f C p.1 m args kws p.2)
noncomputable def evFn (g : Str) (args : List Expr) (st : St) : Option (V × St) :=
  (evs (f.ev C) args st).bind fun p => (f.call g p.1 [] p.2.objs).map fun r => (r.1, ⟨p.2.vars, r.2⟩)
noncomputable def evPrim (n : Nat) (h : PyData → Option PyData) (args : List Expr) (st : St) : Option (V × St) :=
  (evs (f.ev C) args st).bind fun p => one p.1 fun v => v.dat.bind fun x => gd (decide (8 ≤ n)) ((h x).map fun r => (.d r, p.2))
noncomputable def evNew (args : List Expr) (st : St) : Option (V × St) :=
  (evs (f.ev C) args st).bind fun p => (f.call "Headers.__init__" (.obj p.2.objs.length :: p.1) [] (p.2.objs ++ [.inst none])).bind fun r => gd (isNoneV r.1) (some (.obj p.2.objs.length, ⟨p.2.vars, r.2⟩))
noncomputable def evBui (g : Str) (args : List Expr) (st : St) : Option (V × St) := (bTab.lookup g).bind fun b => (evs (f.ev C) args st).bind fun p => (callB p.2.objs b p.1).map fun r => (r, p.2)
noncomputable def evCallN (n : Nat) (g : Str) (args : List Expr) (kws : List Keyword) (st : St) : Option (V × St) :=
  gd (!(g == ("super" : Str) || g == ("__debug__" : Str) || isMeth g) && isK C.sc g .globalImplicit) (nil kws
    ((G.fn g).elim ((G.prim g).elim (bif g == ("Headers" : Str) then evNew f C args st else evBui f C g args st) fun h => evPrim f C n h args st) fun _ => evFn f C g args st))
noncomputable def evS (n : Nat) (e : Expr) (st : St) : Option (V × St) := match e with
  | .Constant c _ _ => (evConst c).map fun v => (v, st)
  | .Name x _ => (evName G C x st).map fun v => (v, st)
  | .BinOp l op r _ => evBin f C l op r st
  | .UnaryOp op x _ => evUn f C op x st
  | .BoolOp op es _ => evBool f C op es st
  | .IfExp t a b _ => (f.tst C t st).bind fun p => bif p.1 then f.ev C a p.2 else f.ev C b p.2
  | .Compare l ops es _ => evCmp f C l ops es st
  | .List es _ => evList f C es st
  | .Tuple es _ _ => evTup f C es st
  | .Subscript v i _ => evSub f C v i st
  | .Attribute o a _ => evAttr f C o a st
  | .ListComp elt gens sc _ => evComp f C elt gens sc st
  | .Call g args kws pos => match g with
    | .Attribute o m apos => evCallM f C o m apos args kws pos st
    | .Name g _ => evCallN G f C n g args kws st
    | _ => none
  | _ => none
noncomputable def tstV (e : Expr) (st : St) : Option (Bool × St) := (f.ev C e st).bind fun p => (truthV p.2.objs p.1).map fun b => (b, p.2)
noncomputable def tstS (e : Expr) (st : St) : Option (Bool × St) := match e with
  | .UnaryOp op x _ => match op with
    | .Not => (f.tst C x st).map fun p => (!p.1, p.2)
    | _ => tstV f C e st
  | .BoolOp op es _ => match op with
    | .And => evAnd (f.tst C) es st
    | .Or => evOr (f.tst C) es st
  | .Compare l ops es _ => (f.ev C l st).bind fun p => evChain (f.ev C) p.1 ops es p.2
  | .IfExp .. => none
  | _ => tstV f C e st
noncomputable def iterV (e : Expr) (st : St) : Option (It × St) := (f.ev C e st).bind fun p => (itIn p.2.objs p.1).map fun it => (it, p.2)
noncomputable def isEmptyD (v : V) : Bool := v.dat.elim false fun x => match x with | .dict [] => true | _ => false
noncomputable def isNm : Expr → Bool | .Name .. => true | _ => false
noncomputable def iterS (e : Expr) (st : St) : Option (It × St) := match e with
  | .Call g args kws pos => match g with
    | .Name h _ => bif h == ("zip" : Str) then gd (isK C.sc h .globalImplicit) (nil kws ((evs (f.ev C) args st).bind fun p => (rd0s p.1).bind fun l => two l fun a b => (zipD? a).bind fun xs => (zipD? b).map fun ys => (.zip (zipD xs ys), p.2)))
      else iterV f C e st
    | .Attribute o m ap => bif m == ("items" : Str) && isNm o then gd (decide (ap.endLine = pos.line)) (nil args (nil kws ((f.ev C o st).bind fun p => gd (isEmptyD p.1) (some (.vals [], p.2)))))
      else iterV f C e st
    | _ => iterV f C e st
  | _ => iterV f C e st
noncomputable def compIn (elt : Expr) (gs : List Comprehension) (st : St) (acc : List PyData) : Option (List PyData × St) := match gs with
  | [] => (f.ev C elt st).bind fun p => (rd0 p.1).bind fun y => gd (decide (acc.length < maxLen)) (some (acc ++ [y], p.2))
  | g :: gs => gd (decide (g.is_async = 0)) ((f.iter C g.iter st).bind fun p => f.comp C elt g gs p.1 p.2 acc)
noncomputable def compF (elt : Expr) (g : Comprehension) (gs : List Comprehension) (x : PyData) (st : St) (acc : List PyData) : Option (List PyData × St) :=
  (f.bind C g.target (.d x) st).bind fun st => (evAnd (f.tst C) g.ifs st).bind fun p => bif p.1 then compIn f C elt gs p.2 acc else some (acc, p.2)
noncomputable def compS (elt : Expr) (g : Comprehension) (gs : List Comprehension) (it : It) (st : St) (acc : List PyData) : Option (List PyData × St) :=
  gd (okTarget it g.target) (compL (compF f C elt g gs) it loopFuel 0 st acc)
noncomputable def bindN (C : Cx) (x : Str) (v : V) (st : St) : Option St := gd (isK C.sc x .local || isK C.sc x .cell) (setVar C x v st)
noncomputable def bindS (t : Expr) (v : V) (st : St) : Option St := match t with
  | .Name x _ => bindN C x v st
  | .Tuple ts _ _ => (parts ts.length st.objs v).bind fun vs => bindAll (f.bind C) (ts.zip vs) st
  | .Subscript o i _ => (f.ev C o st).bind fun p => p.1.hl?.bind fun k => (f.ev C i p.2).bind fun q => (asI q.1).bind fun i => (rd0 v).bind fun x => (listAt q.2.objs k).bind fun xs =>
      gd (decide (0 ≤ i)) ((idx? i xs.length).map fun j => setCell k (.list (xs.set j x)) q.2)
  | .Attribute o a _ => (f.ev C o st).bind fun p => p.1.obj?.bind fun i => gd (a == ("_headers" : Str)) (v.hl?.bind fun h => (instAt p.2.objs i).bind fun k => gd k.isNone (some (setCell i (.inst (some h)) p.2)))
  | _ => none
noncomputable def tupE : Expr → Option (List Expr) | .Tuple ts _ _ => some ts | _ => none
noncomputable def nameE : Expr → Option Str | .Name x _ => some x | _ => none
noncomputable def isCompE : Expr → Bool | .ListComp .. => true | _ => false
noncomputable def asgTup (ts es : List Expr) (st : St) : Option (Fl × St) :=
  (swapped C ts es).bind fun sw => (evs (f.ev C) es st).bind fun p => gd (decide (p.1.length = ts.length ∧ p.1.length ≤ maxLen))
    ((bindAll (f.bind C) (bif sw then (ts.zip p.1).reverse else ts.zip p.1) p.2).map fun st => (.next, st))
noncomputable def asg1 (t e : Expr) (st : St) : Option (Fl × St) :=
  ((tupE t).bind fun ts => (tupE e).map fun es => (ts, es)).elim ((f.ev C e st).bind fun p => (f.bind C t p.1 p.2).map fun st => (.next, st)) fun q => asgTup f C q.1 q.2 st
noncomputable def asg2 (t u e : Expr) (st : St) : Option (Fl × St) :=
  (f.ev C e st).bind fun p => (asI p.1).bind fun i => (f.bind C t (.d (.int i)) p.2).bind fun st => (f.bind C u (.d (.int i)) st).map fun st => (.next, st)
noncomputable def isSub : Operator → Bool | .Sub => true | _ => false
noncomputable def exS (s : Stmt) (st : St) : Option (Fl × St) := match s with
  | .Pass _ => some (.next, st)
  | .Return e _ => e.elim (some (.ret (.d .none), st)) fun e => (f.ev C e st).map fun p => (.ret p.1, p.2)
  | .Expr e _ => gd (!isCompE e) ((f.ev C e st).map fun p => (.next, p.2))
  | .If t a b _ => (f.tst C t st).bind fun p => bif p.1 then exs (f.ex C) a p.2 else exs (f.ex C) b p.2
  | .Assign ts e _ => match ts with
    | [t] => asg1 f C t e st
    | [t, u] => asg2 f C t u e st
    | _ => none
  | .AugAssign t op e _ => (nameE t).bind fun x => gd ((isAdd op || isSub op) && !(x == ("__debug__" : Str))) ((evVar G C x st).bind fun v => (asI v).bind fun a => (f.ev C e st).bind fun p => (asI p.1).bind fun b =>
      (bindN C x (.d (.int (bif isAdd op then a + b else a - b))) p.2).map fun st => (.next, st))
  | .For t e b o _ => nil o ((f.iter C e st).bind fun p => gd (okTarget p.1 t) (forL (fun x st => f.bind C t (.d x) st) (exs (f.ex C) b) p.1 loopFuel 0 p.2))
  | .While t b o _ => nil o (whileL (f.tst C t) (exs (f.ex C) b) whileFuel st)
  | .Break _ => some (.brk, st)
  | .Continue _ => some (.cont, st)
  | _ => none
noncomputable def Fl.val : Fl → Option V
  | .ret v => some v
  | .next => some (.d .none)
  | _ => none
noncomputable def bindAs (F : Fn) (bs : List (Str × V)) (o : Objs) : Option St :=
  bs.foldl (fun (s : Option St) (b : Str × V) => s.bind fun st => bindN ⟨F.scope, F.mv⟩ b.1 b.2 st) (some (⟨(localNames F.scope).map fun x => (x, none), o⟩ : St))
noncomputable def callS (g : Str) (args : List V) (kws : List (Str × V)) (o : Objs) : Option (V × Objs) :=
  (G.fn g).bind fun F => (bindFn F args kws).bind fun bs => (bindAs F bs o).bind fun st => (exs (f.ex ⟨F.scope, F.mv⟩) F.body st).bind fun p => p.1.val.map fun v => (v, p.2.objs)
noncomputable def stepF (n : Nat) : Fs := ⟨fun C e st => evS G f C n e st, fun C e st => tstS f C e st, fun C e st => iterS f C e st, fun C elt g gs it st acc => compS f C elt g gs it st acc, fun C t v st => bindS f C t v st, fun C s st => exS G f C s st, fun g args kws o => callS G f g args kws o⟩
end step
noncomputable def Fs.zero : Fs := ⟨fun _ _ _ => none, fun _ _ _ => none, fun _ _ _ => none, fun _ _ _ _ _ _ _ => none, fun _ _ _ _ => none, fun _ _ _ => none, fun _ _ _ _ => none⟩
noncomputable def fs (G : Env') (n : Nat) : Fs := Nat.rec Fs.zero (fun n f => stepF G f n) n
noncomputable def ev (G : Env') (n : Nat) (C : Cx) (e : Expr) (st : St) : Option (V × St) := (fs G n).ev C e st
noncomputable def tst (G : Env') (n : Nat) (C : Cx) (e : Expr) (st : St) : Option (Bool × St) := (fs G n).tst C e st
noncomputable def iter (G : Env') (n : Nat) (C : Cx) (e : Expr) (st : St) : Option (It × St) := (fs G n).iter C e st
noncomputable def bind (G : Env') (n : Nat) (C : Cx) (t : Expr) (v : V) (st : St) : Option St := (fs G n).bind C t v st
noncomputable def ex (G : Env') (n : Nat) (C : Cx) (s : Stmt) (st : St) : Option (Fl × St) := (fs G n).ex C s st
noncomputable def call (G : Env') (n : Nat) (g : Str) (args : List V) (kws : List (Str × V)) (o : Objs) : Option (V × Objs) := (fs G n).call g args kws o
end Mine
end
section
open PySem PySem.W PyProof.Rows
namespace Mine
noncomputable def Live (h : Heap) (a : Addr) : Prop := ∃ o, h.get? a = some o
theorem not_live_size {h : Heap} : ¬ Live h h.objs.size := fun ⟨_, e⟩ => Nat.lt_irrefl _ (Heap.lt_size e)
theorem not_live_ge {h : Heap} {a : Addr} (ha : h.objs.size ≤ a) : ¬ Live h a := fun ⟨_, e⟩ => Nat.lt_irrefl _ (Nat.lt_of_lt_of_le (Heap.lt_size e) ha)
noncomputable def Up (h h' : Heap) : Prop := ∀ b o, h.get? b = some o → h'.get? b = some o
theorem Up.push {h : Heap} (o : Obj) : Up h (h.push o) := fun _ _ e => Heap.get?_push_of_some _ e
theorem Up.refl (h : Heap) : Up h h := fun _ _ e => e
inductive Kd where
  | fz | hid | frm
  | cell (i : Nat)
  | dct (i : Nat)
structure Rho where
  k : Addr → Kd
  c : Nat → Addr
noncomputable def At (ρ : Rho) (i : Nat) (a : Addr) : Prop := ρ.c i = a ∧ ρ.k a = .cell i
noncomputable def Fz (h : Heap) (ρ : Rho) (a : Addr) (o : Obj) : Prop := ρ.k a = .fz ∧ h.get? a = some o
noncomputable def No (_ : Addr) : Prop := False
noncomputable def Fix (fr : Addr → Prop) (b : Addr) : Kd → Prop
  | .fz => True
  | .hid => True
  | .frm => ¬ fr b
  | .cell _ => False
  | .dct _ => False
structure Mv (ow fr : Addr → Prop) (ρ ρ' : Rho) (h h' : Heap) : Prop where
  own : ∀ b, ow b → ρ.k b = .hid
  keep : ∀ b o, h.get? b = some o → ¬ ow b → ρ'.k b = ρ.k b ∧ Live h' b ∧ (Fix fr b (ρ.k b) → h'.get? b = some o)
  at_ : ∀ i a, At ρ i a → At ρ' i a
section
variable {ow ow' fr fr' : Addr → Prop} {ρ ρ' ρ'' : Rho} {h h' h'' : Heap}
theorem Mv.no (M : Mv ow fr ρ ρ' h h') {b : Addr} {k : Kd} (e : ρ.k b = k) (hk : k ≠ .hid) : ¬ ow b := fun q => hk (e.symm.trans (M.own b q))
theorem Mv.fz (M : Mv ow fr ρ ρ' h h') {b : Addr} {o : Obj} (f : Fz h ρ b o) : Fz h' ρ' b o :=
  let ⟨k, _, g⟩ := M.keep b o f.2 (M.no f.1 Kd.noConfusion)
  ⟨k.trans f.1, g (f.1 ▸ trivial)⟩
theorem Mv.live (M : Mv ow fr ρ ρ' h h') {b : Addr} (l : Live h b) (n : ¬ ow b) : Live h' b := let ⟨o, e⟩ := l; (M.keep b o e n).2.1
theorem Mv.hid (M : Mv ow fr ρ ρ' h h') {b : Addr} {o : Obj} (k : ρ.k b = .hid) (e : h.get? b = some o) (n : ¬ ow b) : ρ'.k b = .hid ∧ h'.get? b = some o :=
  let ⟨q, _, g⟩ := M.keep b o e n
  ⟨q.trans k, g (k ▸ trivial)⟩
theorem Mv.frm (M : Mv ow fr ρ ρ' h h') {b : Addr} {o : Obj} (k : ρ.k b = .frm) (e : h.get? b = some o) (n : ¬ fr b) : ρ'.k b = .frm ∧ h'.get? b = some o :=
  let ⟨q, _, g⟩ := M.keep b o e (M.no k Kd.noConfusion)
  ⟨q.trans k, g (k ▸ n)⟩
theorem Mv.trans (M : Mv ow fr ρ ρ' h h') (N : Mv ow' fr' ρ' ρ'' h' h'') (hw : ∀ b, Live h b → ow' b → ow b) (hf : ∀ b, Live h b → fr' b → fr b) : Mv ow fr ρ ρ'' h h'' where
  own := M.own
  keep := fun b o e n => by
    obtain ⟨k, ⟨o', e'⟩, f⟩ := M.keep b o e n
    have n' : ¬ ow' b := fun q => n (hw b ⟨o, e⟩ q)
    obtain ⟨k', l', f'⟩ := N.keep b o' e' n'
    refine ⟨k'.trans k, l', fun F => (N.keep b o (f F) n').2.2 ?_⟩
    rw [k]
    revert F
    cases ρ.k b <;> first | exact id | exact fun F q => F (hf b ⟨o, e⟩ q)
  at_ := fun i a q => N.at_ i a (M.at_ i a q)
theorem Mv.grow (own : ∀ b, ow b → ρ.k b = .hid) (hk : Up h h') (ke : ∀ b, Live h b → ρ'.k b = ρ.k b) (at_ : ∀ i a, At ρ i a → At ρ' i a) : Mv ow fr ρ ρ' h h' :=
  ⟨own, fun b o e _ => ⟨ke b ⟨o, e⟩, ⟨o, hk b o e⟩, fun _ => hk b o e⟩, at_⟩
theorem Mv.up (hk : Up h h') : Mv No fr ρ ρ h h' := .grow (fun _ q => q.elim) hk (fun _ _ => rfl) fun _ _ q => q
theorem Mv.mono (M : Mv ow fr ρ ρ' h h') (own : ∀ b, ow' b → ρ.k b = .hid) (hw : ∀ b, ow b → ow' b) (hf : ∀ b, fr b → fr' b) : Mv ow' fr' ρ ρ' h h' where
  own := own
  keep := fun b o e n => by
    obtain ⟨k, l, f⟩ := M.keep b o e fun q => n (hw b q)
    refine ⟨k, l, fun F => f ?_⟩
    revert F
    cases ρ.k b <;> first | exact id | exact fun F q => F (hf b q)
  at_ := M.at_
end
inductive LA (F : Addr → Obj → Prop) (T : String) (r : List Value → Prop) (v : Value) : Prop where
  | mk {a : Addr} {o : Obj} {vs : Array Value} {n : Nat} (e : v = .ref a) (f : F a o) (c : o.cls = .type T) (d : o.data = .seq vs n) (q : r vs.toList) : LA F T r v
theorem LA.mono {F F' : Addr → Obj → Prop} {T : String} {r r' : List Value → Prop} {v : Value} (hF : ∀ {a o}, F a o → F' a o) (hr : ∀ v, r v → r' v) (l : LA F T r v) : LA F' T r' v := let ⟨e, f, c, d, q⟩ := l; ⟨e, hF f, c, d, hr _ q⟩
noncomputable def Rd (F : Addr → Obj → Prop) (x : PyData) : Value → Prop :=
  PyData.rec (motive_1 := fun _ => Value → Prop) (motive_2 := fun _ => List Value → Prop) (motive_3 := fun _ => Unit) (motive_4 := fun _ => Unit)
    (fun v => v = .none) (fun b v => v = .bool b) (fun i v => ∃ t, v = .int i t) (fun s v => ∃ t, v = .str s t)
    (fun _ r v => LA F "list" r v) (fun _ r v => LA F "tuple" r v)
    (fun kvs _ v => kvs = [] ∧ ∃ a ep, v = .ref a ∧ F a { cls := .type "dict", data := .dict #[] ep })
    (fun vs => vs = []) (fun _ _ r rs vs => ∃ w ws, vs = w :: ws ∧ r w ∧ rs ws) () (fun _ _ _ _ => ()) (fun _ _ _ _ => ()) x
noncomputable def Rds (F : Addr → Obj → Prop) (x : List PyData) : List Value → Prop :=
  PyData.rec_1 (motive_1 := fun _ => Value → Prop) (motive_2 := fun _ => List Value → Prop) (motive_3 := fun _ => Unit) (motive_4 := fun _ => Unit)
    (fun v => v = .none) (fun b v => v = .bool b) (fun i v => ∃ t, v = .int i t) (fun s v => ∃ t, v = .str s t)
    (fun _ r v => LA F "list" r v) (fun _ r v => LA F "tuple" r v)
    (fun kvs _ v => kvs = [] ∧ ∃ a ep, v = .ref a ∧ F a { cls := .type "dict", data := .dict #[] ep })
    (fun vs => vs = []) (fun _ _ r rs vs => ∃ w ws, vs = w :: ws ∧ r w ∧ rs ws) () (fun _ _ _ _ => ()) (fun _ _ _ _ => ()) x
section
variable {F F' : Addr → Obj → Prop}
theorem Rds.cons {x : PyData} {xs : List PyData} {v : Value} {vs : List Value} (a : Rd F x v) (b : Rds F xs vs) : Rds F (x :: xs) (v :: vs) := ⟨_, _, rfl, a, b⟩
theorem Rds.ind {P : List PyData → List Value → Prop} (h0 : P [] []) (h1 : ∀ x xs v vs, Rd F x v → Rds F xs vs → P xs vs → P (x :: xs) (v :: vs)) : ∀ {xs : List PyData} {vs : List Value}, Rds F xs vs → P xs vs := by
  intro xs
  induction xs with
  | nil => intro vs e; cases (e : vs = []); exact h0
  | cons x xs ih => rintro _ ⟨v, vs, rfl, a, b⟩; exact h1 x xs v vs a b (ih b)
theorem Rd.mono (hF : ∀ {a o}, F a o → F' a o) : ∀ {x : PyData} {v : Value}, Rd F x v → Rd F' x v := fun {x} =>
  PyData.rec (motive_1 := fun x => ∀ v, Rd F x v → Rd F' x v) (motive_2 := fun x => ∀ v, Rds F x v → Rds F' x v) (motive_3 := fun _ => True) (motive_4 := fun _ => True)
    (fun _ e => e) (fun _ _ e => e) (fun _ _ e => e) (fun _ _ e => e)
    (fun _ r _ l => LA.mono hF r l) (fun _ r _ l => LA.mono hF r l)
    (fun _ _ _ ⟨h, a, ep, e, f⟩ => ⟨h, a, ep, e, hF f⟩) (fun _ e => e) (fun _ _ r rs _ ⟨w, ws, e, a, b⟩ => ⟨w, ws, e, r w a, rs ws b⟩) trivial (fun _ _ _ _ => trivial) (fun _ _ _ _ => trivial) x _
theorem Rds.mono (hF : ∀ {a o}, F a o → F' a o) {xs : List PyData} {vs : List Value} (r : Rds F xs vs) : Rds F' xs vs := Rds.ind (P := Rds F') rfl (fun _ _ _ _ a _ b => .cons (a.mono hF) b) r
theorem Rds.len {xs : List PyData} {vs : List Value} (r : Rds F xs vs) : vs.length = xs.length := Rds.ind (P := fun xs vs => vs.length = xs.length) rfl (fun _ _ _ _ _ _ e => congrArg Nat.succ e) r
theorem Rds.size {xs : List PyData} {vs : Array Value} (r : Rds F xs vs.toList) : vs.size = xs.length := r.len
theorem Rds.app {xs ys : List PyData} {vs ws : List Value} (a : Rds F xs vs) (b : Rds F ys ws) : Rds F (xs ++ ys) (vs ++ ws) := Rds.ind (P := fun xs vs => Rds F (xs ++ ys) (vs ++ ws)) b (fun _ _ _ _ a _ b => .cons a b) a
theorem Rds.one {x : PyData} {v : Value} (a : Rd F x v) : Rds F [x] [v] := .cons a rfl
theorem Rds.get {xs : List PyData} {vs : List Value} (a : Rds F xs vs) : ∀ {i : Nat} {x : PyData}, xs[i]? = some x → ∃ v, vs[i]? = some v ∧ Rd F x v :=
  Rds.ind (P := fun xs vs => ∀ {i : Nat} {x : PyData}, xs[i]? = some x → ∃ v, vs[i]? = some v ∧ Rd F x v) (fun e => nomatch e)
    (fun _ _ v _ a _ b => fun {i} {_} e => match i with | 0 => ⟨v, rfl, Option.some.inj e ▸ a⟩ | _ + 1 => b e) a
theorem Rds.set {xs : List PyData} {vs : List Value} {y : PyData} {w : Value} (r : Rd F y w) (a : Rds F xs vs) : ∀ (j : Nat), Rds F (xs.set j y) (vs.set j w) :=
  Rds.ind (P := fun xs vs => ∀ j : Nat, Rds F (xs.set j y) (vs.set j w)) (fun _ => rfl) (fun _ _ _ _ a d b j => match j with | 0 => .cons r d | j + 1 => .cons a (b j)) a
theorem Rds.taken {xs : List PyData} {vs : List Value} (a : Rds F xs vs) : ∀ (j : Nat), Rds F (xs.take j) (vs.take j) :=
  Rds.ind (P := fun xs vs => ∀ j : Nat, Rds F (xs.take j) (vs.take j)) (fun j => by cases j <;> rfl) (fun _ _ _ _ a _ b j => match j with | 0 => rfl | j + 1 => .cons a (b j)) a
theorem Rds.drop {xs : List PyData} {vs : List Value} (a : Rds F xs vs) : ∀ (j : Nat), Rds F (xs.drop j) (vs.drop j) :=
  Rds.ind (P := fun xs vs => ∀ j : Nat, Rds F (xs.drop j) (vs.drop j)) (fun j => by cases j <;> rfl) (fun _ _ _ _ a d b j => match j with | 0 => .cons a d | j + 1 => b j) a
theorem Rds.rev {xs : List PyData} {vs : List Value} (a : Rds F xs vs) : Rds F xs.reverse vs.reverse :=
  Rds.ind (P := fun xs vs => Rds F xs.reverse vs.reverse) rfl (fun x xs v vs a _ b => by rw [List.reverse_cons, List.reverse_cons]; exact b.app (.one a)) a
theorem Rd.reads {h : Heap} (hF : ∀ {a o}, F a o → h.get? a = some o) : ∀ {x : PyData} {v : Value}, Rd F x v → ∃ bs, Reads h v x bs := fun {x} =>
  PyData.rec (motive_1 := fun x => ∀ v, Rd F x v → ∃ bs, Reads h v x bs) (motive_2 := fun x => ∀ v, Rds F x v → ∃ bs, ReadsAll h v x bs) (motive_3 := fun _ => True) (motive_4 := fun _ => True)
    (fun _ e => e ▸ ⟨_, .none⟩) (fun _ _ e => e ▸ ⟨_, .bool _⟩) (fun _ _ ⟨_, e⟩ => e ▸ ⟨_, .int _ _⟩) (fun _ _ ⟨_, e⟩ => e ▸ ⟨_, .str _ _⟩)
    (fun _ r _ ⟨e, f, c, d, q⟩ => (r _ q).elim fun _ q => e ▸ ⟨_, .list (hF f) c d q⟩)
    (fun _ r _ ⟨e, f, c, d, q⟩ => (r _ q).elim fun _ q => e ▸ ⟨_, .tuple (hF f) c d q⟩)
    (fun _ _ _ ⟨h, a, ep, e, f⟩ => e ▸ h ▸ ⟨_, .dict (kvs := []) (hF f) rfl rfl .nil .nil⟩)
    (fun _ e => e ▸ ⟨_, .nil⟩) (fun _ _ r rs _ ⟨w, ws, e, a, b⟩ => let ⟨_, a⟩ := r w a; let ⟨_, b⟩ := rs ws b; e ▸ ⟨_, .cons a b⟩) trivial (fun _ _ _ _ => trivial) (fun _ _ _ _ => trivial) x _
theorem Rds.reads {h : Heap} (hF : ∀ {a o}, F a o → h.get? a = some o) {xs : List PyData} {vs : List Value} (r : Rds F xs vs) : ∃ bs, ReadsAll h vs xs bs :=
  Rds.ind (P := fun xs vs => ∃ bs, ReadsAll h vs xs bs) ⟨_, .nil⟩ (fun _ _ _ _ a _ ⟨_, b⟩ => let ⟨_, a⟩ := a.reads hF; ⟨_, .cons a b⟩) r
end
structure Ctx0 where
  pa : Bool → Addr
  cls : Addr
  h₀ : Heap
  os₀ : OsState
  gl : Addr
  gm : Str → Option Value
  bm : Str → Option Value
  mN : Str → Option Value
noncomputable def lObj (items : Array Value) (n : Nat) : Obj := { cls := .type "list", data := .seq items n }
inductive Own (h : Heap) (ρ : Rho) (a : Addr) (xs : List PyData) : Prop where
  | mk {items : Array Value} {n : Nat} (k : ρ.k a = .hid) (e : h.get? a = some (lObj items n)) (r : Rds (Fz h ρ) xs items.toList) : Own h ρ a xs
noncomputable def rObj (lo hi st : Int) (t u w : Tok) : Obj := { cls := .type "range", data := .fields #[.int lo t, .int hi u, .int st w] }
noncomputable def VR (K : Ctx0) (h : Heap) (ρ : Rho) (v : V) (val : Value) : Prop := match v with
  | .d x => Rd (Fz h ρ) x val
  | .fl xs => ∃ a, val = .ref a ∧ Own h ρ a xs
  | .hl i => ∃ a, val = .ref a ∧ At ρ i a
  | .obj i => ∃ a, val = .ref a ∧ At ρ i a
  | .ty n => val = .type n
  | .pat b => val = .ref (K.pa b)
  | .rng lo hi st => ∃ a t u w, val = .ref a ∧ Fz h ρ a (rObj lo hi st t u w)
noncomputable def Ow (v : V) (val : Value) (b : Addr) : Prop := match v with
  | .fl _ => val = .ref b
  | _ => False
section
variable {K : Ctx0} {ow fr : Addr → Prop} {ρ ρ' : Rho} {h h' : Heap}
theorem Own.mv (M : Mv ow fr ρ ρ' h h') {a : Addr} {xs : List PyData} (o : Own h ρ a xs) (n : ¬ ow a) : Own h' ρ' a xs :=
  let ⟨k, e, r⟩ := o
  ⟨(M.hid k e n).1, (M.hid k e n).2, r.mono M.fz⟩
theorem VR.mv (M : Mv ow fr ρ ρ' h h') {v : V} {val : Value} (r : VR K h ρ v val) (n : ∀ a, Ow v val a → ¬ ow a) : VR K h' ρ' v val := by
  cases v with
  | d x => exact Rd.mono M.fz r
  | fl xs => exact let ⟨a, e, o⟩ := r; ⟨a, e, o.mv M (n a e)⟩
  | hl i => exact let ⟨a, e, q⟩ := r; ⟨a, e, M.at_ i a q⟩
  | obj i => exact let ⟨a, e, q⟩ := r; ⟨a, e, M.at_ i a q⟩
  | ty n => exact r
  | pat b => exact r
  | rng lo hi st => exact let ⟨a, t, u, w, e, f⟩ := r; ⟨a, t, u, w, e, M.fz f⟩
theorem VR.mv0 (M : Mv No fr ρ ρ' h h') {v : V} {val : Value} (r : VR K h ρ v val) : VR K h' ρ' v val := r.mv M fun _ _ q => q
theorem VR.own {v : V} {val : Value} (r : VR K h ρ v val) {b : Addr} (o : Ow v val b) : ρ.k b = .hid ∧ Live h b := by
  cases v with
  | fl xs =>
    obtain ⟨a, e, k, g, -⟩ := r
    cases Value.ref.inj ((show val = _ from o).symm.trans e)
    exact ⟨k, _, g⟩
  | _ => exact o.elim
noncomputable def InstD (h : Heap) (ρ : Rho) (d : Addr) (k : Option Nat) : Prop :=
  k.elim (h.Ns1 d fun _ => none) fun k => ∃ l, At ρ k l ∧ h.Ns1 d fun x => if x = "_headers" then some (.ref l) else none
inductive InstOK (K : Ctx0) (h : Heap) (ρ : Rho) (i : Nat) (a : Addr) (k : Option Nat) : Prop where
  | mk {o : Obj} {d : Addr} (g : h.get? a = some o) (c : o.cls = .ref K.cls) (hd : o.dict = some d) (nc : ∀ c, o.data ≠ .cls c) (kd : ρ.k d = .dct i) (hi : InstD h ρ d k) : InstOK K h ρ i a k
noncomputable def CellOK (K : Ctx0) (h : Heap) (ρ : Rho) (i : Nat) (a : Addr) (c : Cell) : Prop := match c with
  | .list xs => ∃ items n, h.get? a = some (lObj items n) ∧ Rds (Fz h ρ) xs items.toList
  | .inst k => InstOK K h ρ i a k
structure Store (K : Ctx0) (h : Heap) (ρ : Rho) (objs : Objs) : Prop where
  ok : ∀ {i c}, objs[i]? = some c → ∃ a, At ρ i a ∧ CellOK K h ρ i a c
  lt : ∀ {b i}, ρ.k b = .cell i → i < objs.length
noncomputable def Still (ρ : Rho) (h h' : Heap) (i : Nat) : Prop := ∀ b o, ρ.k b = .cell i ∨ ρ.k b = .dct i → h.get? b = some o → h'.get? b = some o
theorem InstD.mv (M : Mv ow fr ρ ρ' h h') {d : Addr} {k : Option Nat} (r : InstD h ρ d k) (s : ∀ o, h.get? d = some o → h'.get? d = some o) : InstD h' ρ' d k := by
  cases k with
  | none => exact Heap.Ns1.at r s
  | some k => exact let ⟨l, q, n⟩ := r; ⟨l, M.at_ k l q, n.at s⟩
theorem InstD.dict {d : Addr} {k : Option Nat} (r : InstD h ρ d k) : ∃ m, h.Ns1 d m := by
  cases k with
  | none => exact ⟨_, r⟩
  | some k => exact let ⟨l, q, n⟩ := r; ⟨_, n⟩
theorem CellOK.mv (M : Mv ow fr ρ ρ' h h') {i : Nat} {a : Addr} {c : Cell} (ha : At ρ i a) (r : CellOK K h ρ i a c) (s : Still ρ h h' i) : CellOK K h' ρ' i a c := by
  cases c with
  | list xs => exact let ⟨items, n, g, q⟩ := r; ⟨items, n, s _ _ (.inl ha.2) g, q.mono M.fz⟩
  | inst k =>
    obtain ⟨g, c, hd, nc, kd, hi⟩ := r
    obtain ⟨m, od, es, ep, gd, -⟩ := hi.dict
    exact ⟨s _ _ (.inl ha.2) g, c, hd, nc, (M.keep _ od gd (M.no kd Kd.noConfusion)).1.trans kd, hi.mv M fun o => s _ o (.inr kd)⟩
theorem Store.mv {objs objs' : Objs} (M : Mv ow fr ρ ρ' h h') (S : Store K h ρ objs) (H : ∀ {i c}, objs'[i]? = some c → (∃ a, At ρ' i a ∧ CellOK K h' ρ' i a c) ∨ (objs[i]? = some c ∧ Still ρ h h' i)) (lt : ∀ {b i}, ρ'.k b = .cell i → i < objs'.length) : Store K h' ρ' objs' :=
  ⟨fun e => (H e).elim id fun ⟨e, s⟩ => let ⟨a, q, r⟩ := S.ok e; ⟨a, M.at_ _ a q, r.mv M q s⟩, lt⟩
theorem Store.same {objs : Objs} (M : Mv ow fr ρ ρ' h h') (S : Store K h ρ objs) (s : ∀ i, Still ρ h h' i) (lt : ∀ {b i}, ρ'.k b = .cell i → i < objs.length) : Store K h' ρ' objs :=
  S.mv M (fun e => .inr ⟨e, s _⟩) lt
noncomputable def OR (K : Ctx0) (h : Heap) (ρ : Rho) (ov : Option V) (w : Option Value) : Prop := ov.elim (w = none) fun v => ∃ val, w = some val ∧ VR K h ρ v val ∧ v.fl? = none
theorem OR.mv (M : Mv ow fr ρ ρ' h h') {ov : Option V} {w : Option Value} (r : OR K h ρ ov w) : OR K h' ρ' ov w := by
  cases ov with
  | none => exact r
  | some v => exact let ⟨val, e, q, n⟩ := r; ⟨val, e, q.mv M (by cases v <;> first | exact fun _ q => q.elim | exact nomatch n), n⟩
end
noncomputable def VarOK (K : Ctx0) (C : Cx) (env : Env) (h : Heap) (ρ : Rho) (m : Str → Option Value) (x : Str) (ov : Option V) : Prop :=
  (C.sc.names.lookup x = some .local → OR K h ρ ov (m x)) ∧
  (C.sc.names.lookup x = some .cell ∨ C.sc.names.lookup x = some .free → ∃ c w, env.cells.lookup x = some c ∧ h.IsCell c w ∧ OR K h ρ ov w)
structure EnvOK (K : Ctx0) (C : Cx) (env : Env) : Prop where
  kind : env.scope.kind = .function
  glob : env.globals = K.gl
  bui : env.builtins = builtinsNs
  kinds : ∀ {x k}, C.sc.names.lookup x = some k → env.kindOf x = some k ∨ (k = .free ∧ env.kindOf x = some .cell)
  one : ∀ {x y c}, env.cells.lookup x = some c → env.cells.lookup y = some c → x = y
  has : ∀ {x}, C.sc.names.lookup x = some .cell ∨ C.sc.names.lookup x = some .free → (env.cells.lookup x).isSome = true
theorem EnvOK.kd {K C env} (O : EnvOK K C env) {x : Str} {k : NameKind} (h : C.sc.names.lookup x = some k) (n : k ≠ .free) : env.kindOf x = some k := (O.kinds h).resolve_right fun q => n q.1
structure RelW (K : Ctx0) (objs : Objs) (ρ : Rho) (s : Shared) : Prop where
  base : ∀ {b o}, K.h₀.get? b = some o → Fz s.heap ρ b o
  kl : ∀ {b}, ρ.k b ≠ .fz → Live s.heap b
  gens : s.gens = #[]
  os : s.os = K.os₀
  store : Store K s.heap ρ objs
structure Frm (K : Ctx0) (C : Cx) (env : Env) (vars : Vars) (ρ : Rho) (h : Heap) : Prop where
  loc : ρ.k env.locals = .frm
  vars : ∃ m, h.Ns env.locals m ∧ ∀ {x ov}, vars.lookup x = some ov → VarOK K C env h ρ m x ov
  cel : ∀ {x c}, env.cells.lookup x = some c → ρ.k c = .frm ∧ ∃ w, h.IsCell c w
structure Rel (K : Ctx0) (C : Cx) (env : Env) (st : St) (ρ : Rho) (s : Shared) : Prop where
  w : RelW K st.objs ρ s
  f : Frm K C env st.vars ρ s.heap
noncomputable def Fe (C : Cx) (env : Env) (b : Addr) : Prop := b = env.locals ∨ ∃ x, C.sc.names.lookup x = some .cell ∧ env.cells.lookup x = some b
section
variable {K : Ctx0} {C : Cx} {env : Env} {st st' : St} {vars : Vars} {objs objs' : Objs} {ow fr : Addr → Prop} {ρ ρ' : Rho} {h h' : Heap} {s s' : Shared}
theorem RelW.new (R : RelW K objs ρ s) {a : Addr} (n : ¬ Live s.heap a) : ρ.k a = .fz := by
  cases e : ρ.k a with
  | fz => rfl
  | _ => exact absurd (R.kl (by rw [e]; exact Kd.noConfusion)) n
theorem RelW.mv (R : RelW K objs ρ s) (M : Mv ow fr ρ ρ' s.heap s'.heap) (S : Store K s'.heap ρ' objs') (kl : ∀ {b}, ρ'.k b ≠ .fz → Live s'.heap b) (g : s'.gens = s.gens) (o : s'.os = s.os) : RelW K objs' ρ' s' :=
  ⟨fun e => M.fz (R.base e), kl, g.trans R.gens, o.trans R.os, S⟩
theorem VarOK.mv (M : Mv ow fr ρ ρ' h h') {m : Str → Option Value} {x : Str} {ov : Option V} (v : VarOK K C env h ρ m x ov) (hk : ∀ c w, env.cells.lookup x = some c → h.IsCell c w → h'.IsCell c w) : VarOK K C env h' ρ' m x ov :=
  ⟨fun q => (v.1 q).mv M, fun q => let ⟨c, w, hc, hi, ho⟩ := v.2 q; ⟨c, w, hc, hk c w hc hi, ho.mv M⟩⟩
theorem Frm.mv (F : Frm K C env vars ρ h) (M : Mv ow fr ρ ρ' h h') (nl : ¬ fr env.locals) (nc : ∀ {x c}, env.cells.lookup x = some c → ¬ fr c) : Frm K C env vars ρ' h' := by
  have key : ∀ x c w, env.cells.lookup x = some c → h.IsCell c w → h'.IsCell c w := fun x c w hc ⟨o, ho, hd⟩ => ⟨o, (M.frm (F.cel hc).1 ho (nc hc)).2, hd⟩
  obtain ⟨m, hn, hv⟩ := F.vars
  obtain ⟨o, es, ep, ho, r⟩ := id hn
  refine ⟨(M.frm F.loc ho nl).1, ⟨m, hn.at' fun o e => (M.frm F.loc e nl).2, fun hx => (hv hx).mv M (key _)⟩, fun hc => ?_⟩
  obtain ⟨hf, w, o, ho, hd⟩ := F.cel hc
  exact ⟨(M.frm hf ho (nc hc)).1, w, o, (M.frm hf ho (nc hc)).2, hd⟩
end
structure Step (K : Ctx0) (C : Cx) (env : Env) (st' : St) (ow : Addr → Prop) (ρ : Rho) (s : Shared) (ρ' : Rho) (s' : Shared) : Prop where
  rel : Rel K C env st' ρ' s'
  mv : Mv ow (Fe C env) ρ ρ' s.heap s'.heap
section
variable {K : Ctx0} {C : Cx} {env : Env} {st st₁ st₂ : St} {ow ow' : Addr → Prop} {ρ ρ₁ ρ₂ : Rho} {s s₁ s₂ : Shared}
theorem Step.trans (a : Step K C env st₁ ow ρ s ρ₁ s₁) (b : Step K C env st₂ ow' ρ₁ s₁ ρ₂ s₂) (h : ∀ x, Live s.heap x → ow' x → ow x) : Step K C env st₂ ow ρ s ρ₂ s₂ := ⟨b.rel, a.mv.trans b.mv h fun _ _ q => q⟩
theorem Step.aft (a : Step K C env st₁ ow ρ s ρ₁ s₁) (b : Step K C env st₂ No ρ₁ s₁ ρ₂ s₂) : Step K C env st₂ ow ρ s ρ₂ s₂ := a.trans b fun _ _ q => q.elim
theorem Step.more (a : Step K C env st₁ ow ρ s ρ₁ s₁) (o : ∀ b, ow' b → ρ.k b = .hid) (h : ∀ b, ow b → ow' b) : Step K C env st₁ ow' ρ s ρ₁ s₁ := ⟨a.rel, a.mv.mono o h fun _ q => q⟩
theorem Rel.up (R : Rel K C env st ρ s) (o : ∀ b, ow b → ρ.k b = .hid) {h' : Heap} {t : Nat} (hk : Up s.heap h') : Step K C env st ow ρ s ρ { s with heap := h', toks := t } := by
  have M : Mv No No ρ ρ s.heap h' := .up hk
  exact ⟨⟨R.w.mv (s' := { s with heap := h', toks := t }) M (R.w.store.same M (fun _ b o _ e => hk b o e) R.w.store.lt) (fun n => M.live (R.w.kl n) id) rfl rfl, R.f.mv M id fun _ => id⟩, M.mono o (fun _ q => q.elim) fun _ q => q.elim⟩
theorem Rel.stay (R : Rel K C env st ρ s) (o : ∀ b, ow b → ρ.k b = .hid) : Step K C env st ow ρ s ρ s := R.up (t := s.toks) o (.refl _)
theorem Rel.tok (R : Rel K C env st ρ s) (t : Nat) : Step K C env st No ρ s ρ { s with toks := t } := R.up (fun _ q => q.elim) (.refl _)
theorem Rel.go (R : Rel K C env st ρ s) {h' : Heap} {t : Nat} (hk : Up s.heap h') : Step K C env st No ρ s ρ { s with heap := h', toks := t } := R.up (fun _ q => q.elim) hk
theorem Rel.at0 (R : Rel K C env st ρ s) : Step K C env st No ρ s ρ s := R.stay fun _ q => q.elim
end
end Mine
end
section
open PySem PySem.W PyProof.Rows
namespace Mine
noncomputable def Rho.set (ρ : Rho) (a : Addr) (k : Kd) : Rho := ⟨fun b => if b = a then k else ρ.k b, ρ.c⟩
theorem set_self {ρ : Rho} {a : Addr} {k : Kd} : (ρ.set a k).k a = k := if_pos rfl
theorem set_ne {ρ : Rho} {a b : Addr} {k : Kd} (n : b ≠ a) : (ρ.set a k).k b = ρ.k b := if_neg n
theorem set_cell {ρ : Rho} {a b : Addr} {k : Kd} {i : Nat} (n : ∀ i, k ≠ .cell i) (e : (ρ.set a k).k b = .cell i) : ρ.k b = .cell i := by
  by_cases q : b = a
  · subst q; rw [set_self] at e; exact absurd e (n i)
  · rwa [set_ne q] at e
theorem At.set {ρ : Rho} {a b : Addr} {k : Kd} {i : Nat} (q : At ρ i b) (n : ρ.k a ≠ .cell i) : At (ρ.set a k) i b := ⟨q.1, (set_ne fun e => n ((congrArg ρ.k e).symm.trans q.2)).trans q.2⟩
theorem cell_inj {i j : Nat} (e : Kd.cell i = .cell j) : i = j := by cases e; rfl
theorem dct_inj {i j : Nat} (e : Kd.dct i = .dct j) : i = j := by cases e; rfl
section
variable {K : Ctx0} {C : Cx} {env : Env} {st : St} {ow fr : Addr → Prop} {ρ ρ' : Rho} {h' : Heap} {s : Shared} {t : Nat}
theorem Mv.ofOwn {h : Heap} (hw : ∀ b, ow b → ρ.k b = .hid) (hk : ∀ b o, ¬ ow b → h.get? b = some o → h'.get? b = some o) (ke : ∀ b, ¬ ow b → ρ'.k b = ρ.k b) (at_ : ∀ i a, At ρ i a → At ρ' i a) : Mv ow fr ρ ρ' h h' :=
  ⟨hw, fun b o e n => ⟨ke b n, ⟨o, hk b o n e⟩, fun _ => hk b o n e⟩, at_⟩
theorem Rel.own (R : Rel K C env st ρ s) (hw : ∀ b, ow b → ρ.k b = .hid) (hk : ∀ b o, ¬ ow b → s.heap.get? b = some o → h'.get? b = some o) (ke : ∀ b, ¬ ow b → ρ'.k b = ρ.k b) (hc : ρ'.c = ρ.c)
    (kl : ∀ b, ow b → ρ'.k b ≠ .fz → Live h' b) (nc : ∀ b i, ow b → ρ'.k b ≠ .cell i) : Step K C env st ow ρ s ρ' { s with heap := h', toks := t } := by
  have no : ∀ {b k}, ρ.k b = k → k ≠ .hid → ¬ ow b := fun e n q => n (e.symm.trans (hw _ q))
  have at_ : ∀ i a, At ρ i a → At ρ' i a := fun i a q => ⟨(congrFun hc i).trans q.1, (ke a (no q.2 Kd.noConfusion)).trans q.2⟩
  have M : Mv ow No ρ ρ' s.heap h' := .ofOwn hw hk ke at_
  refine ⟨⟨R.w.mv (s' := { s with heap := h', toks := t }) M (R.w.store.same M (fun i b o q e => hk b o (q.elim (fun q => no q Kd.noConfusion) fun q => no q Kd.noConfusion) e) fun {b i} q => ?_) (fun {b} q => ?_) rfl rfl, R.f.mv M id fun _ => id⟩, M.mono hw (fun _ => id) fun _ q => q.elim⟩
  · by_cases w : ow b
    · exact absurd q (nc b i w)
    · exact R.w.store.lt ((ke b w).symm.trans q)
  · by_cases w : ow b
    · exact kl b w q
    · exact M.live (R.w.kl fun e => q ((ke b w).trans e)) w
theorem Rel.drop (R : Rel K C env st ρ s) {a : Addr} {xs : List PyData} (r : Own s.heap ρ a xs) : Step K C env st (· = a) ρ s (ρ.set a .fz) s ∧ VR K s.heap (ρ.set a .fz) (.d (.list xs)) (.ref a) := by
  obtain ⟨k, g, d⟩ := r
  have S : Step K C env st (· = a) ρ s (ρ.set a .fz) s := R.own (t := s.toks) (fun b q => q ▸ k) (fun _ _ _ e => e) (fun b q => set_ne q) rfl (fun b q n => absurd (q ▸ set_self) n) fun b i q e => by cases q; rw [set_self] at e; cases e
  exact ⟨S, .mk rfl ⟨set_self, g⟩ rfl rfl (d.mono S.mv.fz)⟩
noncomputable def Rho.add (ρ : Rho) (n : Nat) (a : Addr) : Rho := ⟨(ρ.set a (.cell n)).k, fun i => if i = n then a else ρ.c i⟩
theorem At.add {n i : Nat} {a b : Addr} (q : At ρ i b) (hi : i < n) (k : ρ.k a ≠ .cell i) : At (ρ.add n a) i b := ⟨(if_neg (Nat.ne_of_lt hi)).trans q.1, (At.set q k).2⟩
theorem At.new {n : Nat} {a : Addr} : At (ρ.add n a) n a := ⟨if_pos rfl, set_self⟩
theorem get_app {objs : Objs} {x c : Cell} {i : Nat} (e : (objs ++ [x])[i]? = some c) : (i = objs.length ∧ c = x) ∨ objs[i]? = some c := by
  rcases Nat.lt_trichotomy i objs.length with h | h | h
  · rw [List.getElem?_append_left h] at e; exact .inr e
  · subst h; rw [List.getElem?_concat_length] at e; exact .inl ⟨rfl, (Option.some.inj e).symm⟩
  · rw [List.getElem?_eq_none (by rw [List.length_append]; exact h)] at e; cases e
theorem Rel.promote (R : Rel K C env st ρ s) {a : Addr} {xs : List PyData} (r : Own s.heap ρ a xs) : Step K C env ⟨st.vars, st.objs ++ [.list xs]⟩ (· = a) ρ s (ρ.add st.objs.length a) s ∧ At (ρ.add st.objs.length a) st.objs.length a := by
  obtain ⟨k, g, d⟩ := r
  have nk : ∀ {i}, ρ.k a ≠ .cell i := fun e => by rw [k] at e; cases e
  have hw : ∀ b, b = a → ρ.k b = .hid := fun b q => q ▸ k
  have M : Mv (· = a) No ρ (ρ.add st.objs.length a) s.heap s.heap := .ofOwn hw (fun _ _ _ e => e) (fun b q => set_ne q) fun i b q => q.add (R.w.store.lt q.2) nk
  have len : (st.objs ++ [Cell.list xs]).length = st.objs.length + 1 := List.length_append
  refine ⟨⟨⟨R.w.mv M (R.w.store.mv M (fun e => ?_) fun {b i} q => ?_) (fun {b} q => ?_) rfl rfl, R.f.mv M id fun _ => id⟩, M.mono hw (fun _ => id) fun _ q => q.elim⟩, .new⟩
  · rcases get_app e with ⟨rfl, rfl⟩ | e
    · exact .inl ⟨a, .new, _, _, g, d.mono M.fz⟩
    · exact .inr ⟨e, fun _ _ _ e => e⟩
  · rw [len]
    by_cases w : b = a
    · subst w; cases set_self.symm.trans q; exact Nat.lt_succ_self _
    · exact Nat.lt_succ_of_lt (R.w.store.lt ((set_ne w).symm.trans q))
  · by_cases w : b = a
    · exact w ▸ ⟨_, g⟩
    · exact R.w.kl fun e => q ((set_ne w).trans e)
theorem Rel.hide (R : Rel K C env st ρ s) {a : Addr} (ha : ¬ Live s.heap a) (hk : Up s.heap h') (l : Live h' a) : Step K C env st No ρ s (ρ.set a .hid) { s with heap := h', toks := t } := by
  have n : ρ.k a = .fz := R.w.new ha
  have M : Mv No No ρ (ρ.set a .hid) s.heap h' := .grow (fun _ q => q.elim) hk (fun b q => set_ne fun e => ha (e ▸ q)) fun i b q => q.set fun e => by rw [n] at e; cases e
  refine ⟨⟨R.w.mv (s' := { s with heap := h', toks := t }) M (R.w.store.same M (fun i b o _ e => hk b o e) fun q => R.w.store.lt (set_cell (fun _ => Kd.noConfusion) q)) (fun {b} q => ?_) rfl rfl, R.f.mv M id fun _ => id⟩, M.mono (fun _ q => q.elim) (fun _ => id) fun _ q => q.elim⟩
  by_cases w : b = a
  · exact w ▸ l
  · exact M.live (R.w.kl fun e => q ((set_ne w).trans e)) id
theorem Rel.setCell (R : Rel K C env st ρ s) {i : Nat} {a : Addr} {c : Cell} (ha : At ρ i a) (hk : ∀ b o, ρ.k b ≠ .cell i → ρ.k b ≠ .dct i → s.heap.get? b = some o → h'.get? b = some o) (hl : ∀ b, Live s.heap b → Live h' b) (hc : CellOK K h' ρ i a c) :
    Step K C env (setCell i c st) No ρ s ρ { s with heap := h', toks := t } := by
  have kk : ∀ {b o fr}, Fix fr b (ρ.k b) → s.heap.get? b = some o → h'.get? b = some o := fun {b o fr} F e => hk b o (fun q => by rw [q] at F; exact F) (fun q => by rw [q] at F; exact F) e
  have M : Mv No No ρ ρ s.heap h' := ⟨fun _ q => q.elim, fun b o e _ => ⟨rfl, hl b ⟨o, e⟩, fun F => kk F e⟩, fun _ _ q => q⟩
  refine ⟨⟨R.w.mv (s' := { s with heap := h', toks := t }) M (R.w.store.mv M (fun {j c'} e => ?_) fun {b j} q => Nat.lt_of_lt_of_eq (R.w.store.lt q) List.length_set.symm) (fun n => hl _ (R.w.kl n)) rfl rfl, R.f.mv M id fun _ => id⟩, M.mono (fun _ q => q.elim) (fun _ => id) fun _ q => q.elim⟩
  by_cases q : i = j
  · subst q
    rw [show (Mine.setCell i c st).objs = st.objs.set i c from rfl, List.getElem?_set_self (R.w.store.lt ha.2)] at e
    cases e; exact .inl ⟨a, ha, hc⟩
  · rw [show (Mine.setCell i c st).objs = st.objs.set i c from rfl, List.getElem?_set_ne q] at e
    exact .inr ⟨e, fun b o k e => hk b o (fun z => k.elim (fun k => q (cell_inj (z.symm.trans k))) fun k => by rw [z] at k; cases k) (fun z => k.elim (fun k => by rw [z] at k; cases k) fun k => q (dct_inj (z.symm.trans k))) e⟩
theorem live_but {a : Addr} {h h' : Heap} (hs : Heap.SameBut a h h') (l : Live h' a) : ∀ b, Live h b → Live h' b := fun b ⟨o, e⟩ => by
  by_cases hb : b = a
  · exact hb ▸ l
  · exact ⟨o, (hs.2 b hb).trans e⟩
theorem Rel.setList (R : Rel K C env st ρ s) {i : Nat} {a : Addr} {xs : List PyData} {items n} (ha : At ρ i a) (hs : Heap.SameBut a s.heap h') (hg : h'.get? a = some (lObj items n)) (d : Rds (Fz s.heap ρ) xs items.toList) :
    Step K C env (Mine.setCell i (.list xs) st) No ρ s ρ { s with heap := h', toks := t } := by
  have hk : ∀ b o, ρ.k b ≠ .cell i → s.heap.get? b = some o → h'.get? b = some o := fun b o n e => (hs.2 b fun q => n (q ▸ ha.2)).trans e
  exact R.setCell ha (fun b o n _ e => hk b o n e) (live_but hs ⟨_, hg⟩) ⟨_, _, hg, d.mono fun f => ⟨f.1, hk _ _ (fun e => by rw [f.1] at e; cases e) f.2⟩⟩
theorem RelW.frame {objs : Objs} (R : RelW K objs ρ s) {L : Addr} (kL : ρ.k L = .frm) (fe : fr L) (hs : Heap.SameBut L s.heap h') (l : Live h' L) : Mv No fr ρ ρ s.heap h' ∧ RelW K objs ρ { s with heap := h', toks := t } := by
  have k : ∀ b o, b ≠ L → s.heap.get? b = some o → h'.get? b = some o := fun b o n e => (hs.2 b n).trans e
  have M : Mv No fr ρ ρ s.heap h' := ⟨fun _ q => q.elim, fun b o e _ => ⟨rfl, live_but hs l b ⟨o, e⟩, fun F => k b o (fun q => by subst q; rw [kL] at F; exact F fe) e⟩, fun _ _ q => q⟩
  exact ⟨M, R.mv (s' := { s with heap := h', toks := t }) M (R.store.same M (fun i b o q e => k b o (fun z => by subst z; rw [kL] at q; exact q.elim Kd.noConfusion Kd.noConfusion) e) R.store.lt) (fun n => live_but hs l _ (R.kl n)) rfl rfl⟩
end
theorem lookup_upd {x : Str} {v : V} : ∀ (vs : Vars) (y : Str), (vs.lookup x).isSome = true → (upd x v vs).lookup y = if y = x then some (some v) else vs.lookup y
  | [], y, h => nomatch h
  | (z, w) :: r, y, h => by
    unfold upd
    by_cases hz : z = x
    · subst hz
      rw [beq_self_eq_true, cond_true, List.lookup_cons, List.lookup_cons]
      by_cases hy : y = z
      · subst hy; rw [beq_self_eq_true, if_pos rfl]
      · rw [beq_false_of_ne hy, if_neg hy]
    · rw [beq_false_of_ne hz, cond_false, List.lookup_cons, List.lookup_cons]
      rw [List.lookup_cons, beq_false_of_ne (Ne.symm hz)] at h
      by_cases hy : y = z
      · subst hy; rw [beq_self_eq_true, if_neg hz]
      · rw [beq_false_of_ne hy]; exact lookup_upd r y h
section
variable {prog : Program} {w : World} {A : Around} {E : Value → Shared → Prop} {K : Ctx0} {C : Cx} {env : Env} {st : St} {ρ : Rho} {s : Shared} {x : Str} {v : V} {val : Value} {Q : Unit → Shared → Prop}
theorem OR.some {h : Heap} (r : VR K h ρ v val) (n : v.fl? = none) : OR K h ρ (some v) (some val) := ⟨val, rfl, r, n⟩
theorem OR.at {h : Heap} {ov : Option V} {w w' : Option Value} (e : w = w') (r : OR K h ρ ov w') : OR K h ρ ov w := e ▸ r
theorem upd_at {y : Str} {ov : Option V} (hin : (st.vars.lookup x).isSome = true) (hy : (upd x v st.vars).lookup y = Option.some ov) : (y = x ∧ ov = v) ∨ (y ≠ x ∧ st.vars.lookup y = Option.some ov) := by
  rw [lookup_upd st.vars y hin] at hy
  by_cases e : y = x
  · rw [if_pos e] at hy; exact .inl ⟨e, (Option.some.inj hy).symm⟩
  · rw [if_neg e] at hy; exact .inr ⟨e, hy⟩
theorem wp_storeVar (O : EnvOK K C env) (R : Rel K C env st ρ s) (hk : C.sc.names.lookup x = some .local ∨ C.sc.names.lookup x = some .cell) (hin : (st.vars.lookup x).isSome = true)
    (r : VR K s.heap ρ v val) (nf : v.fl? = none) (h : ∀ s', Step K C env ⟨upd x v st.vars, st.objs⟩ No ρ s ρ s' → Q () s') : wpAny (model prog w) A (storeName env x val) Q E s := by
  obtain ⟨m, hn, hv⟩ := R.f.vars
  have nk : ∀ {x c}, env.cells.lookup x = Option.some c → c ≠ env.locals := fun hc e => by
    obtain ⟨-, w, o, ho, hd⟩ := R.f.cel hc
    obtain ⟨o', es, ep, ho', hd', -⟩ := hn
    rw [e, ho'] at ho; cases ho; rw [hd'] at hd; cases hd
  rcases hk with hk | hk
  · refine wpAny_storeName_local (O.kd hk nofun) hn (fun h' hn' hs => h _ ?_) (by rw [O.kind]; rfl)
    obtain ⟨M, W⟩ := R.w.frame (t := s.toks + 1) R.f.loc (fr := Fe C env) (.inl rfl) hs (let ⟨o, _, _, e, _⟩ := hn'; ⟨o, e⟩)
    refine ⟨⟨W, R.f.loc, ⟨_, hn', fun {y ov} hy => ?_⟩, fun hc => ⟨(R.f.cel hc).1, let ⟨w, i⟩ := (R.f.cel hc).2; ⟨w, i.sameBut hs (nk hc)⟩⟩⟩, M⟩
    rcases upd_at hin hy with ⟨rfl, rfl⟩ | ⟨e, hy⟩
    · exact ⟨fun _ => OR.at (if_pos rfl) (OR.some (r.mv0 M) nf), fun q => by rw [hk] at q; exact q.elim nofun nofun⟩
    · have u := (hv hy).mv M fun c w hc i => i.sameBut hs (nk hc)
      exact ⟨fun q => OR.at (if_neg e) (u.1 q), u.2⟩
  · obtain ⟨ov0, hov0⟩ := Option.isSome_iff_exists.mp hin
    obtain ⟨c, w0, hc, hi, _⟩ := (hv hov0).2 (.inl hk)
    refine wpAny_storeName_cell O.kind (O.kd hk nofun) hc hi fun h' hi' hs => h _ ?_
    obtain ⟨M, W⟩ := R.w.frame (t := s.toks) (R.f.cel hc).1 (fr := Fe C env) (.inr ⟨x, hk, hc⟩) hs (let ⟨o, e, _⟩ := hi'; ⟨o, e⟩)
    refine ⟨⟨W, R.f.loc, ⟨m, hn.sameBut hs (nk hc).symm, fun {y ov} hy => ?_⟩, fun {y c'} hy => ⟨(R.f.cel hy).1, ?_⟩⟩, M⟩
    · rcases upd_at hin hy with ⟨rfl, rfl⟩ | ⟨e, hy⟩
      · exact ⟨fun q => (by rw [hk] at q; cases q), fun _ => ⟨c, _, hc, hi', OR.some (r.mv0 M) nf⟩⟩
      · exact (hv hy).mv M fun c' w hc' i => i.sameBut hs fun q => e (O.one (q ▸ hc') hc)
    · by_cases e : c' = c
      · exact ⟨_, e ▸ hi'⟩
      · exact let ⟨w, i⟩ := (R.f.cel hy).2; ⟨w, i.sameBut hs e⟩
theorem wp_bindN {P : St → Prop} (O : EnvOK K C env) (R : Rel K C env st ρ s) (e : Hd (bindN C x v st) P) (r : VR K s.heap ρ v val)
    (h : ∀ st' ρ' s', P st' → Step K C env st' (Ow v val) ρ s ρ' s' → (∀ b, Live s.heap b → Live s'.heap b) → Q () s') : wpAny (model prog w) A (storeName env x val) Q E s := by
  refine e.g fun hk e => e.g fun hin e => ?_
  have hk : C.sc.names.lookup x = some .local ∨ C.sc.names.lookup x = some .cell := (Bool.or_eq_true _ _ ▸ hk : _ ∨ _).imp of_decide_eq_true of_decide_eq_true
  have own := fun b (q : Ow v val b) => (r.own q).1
  have key : ∀ {st₁ u ρ₁}, Step K C env st₁ (Ow v val) ρ s ρ₁ s → st₁.vars = st.vars → VR K s.heap ρ₁ u val → u.fl? = none → P ⟨upd x u st₁.vars, st₁.objs⟩ → wpAny (model prog w) A (storeName env x val) Q E s := fun S ev r n p =>
    wp_storeVar O S.rel hk (ev ▸ hin) r n fun s' S' => h _ _ _ p (S.aft S') fun b l => S'.mv.live l id
  cases v with
  | fl xs =>
    obtain ⟨a, ea, r⟩ := r
    have sub : ∀ b, b = a → Ow (.fl xs) val b := fun b q => q ▸ ea
    refine Hd.bif e (fun _ p => ?_) fun _ p => ?_
    · obtain ⟨S, q⟩ := R.promote r
      exact key (u := .hl st.objs.length) (S.more own sub) rfl ⟨a, ea, q⟩ rfl p
    · obtain ⟨S, q⟩ := R.drop r
      exact key (u := .d (.list xs)) (S.more own sub) rfl (ea ▸ q) rfl p
  | _ => exact key (R.stay own) rfl r rfl e
end
end Mine
end
section
open PySem PySem.W PyProof.Rows
namespace Mine
structure EP (K : Ctx0) (C : Cx) (env : Env) (p : V × St) (ρ : Rho) (s : Shared) (val : Value) (ρ' : Rho) (s' : Shared) : Prop where
  step : Step K C env p.2 No ρ s ρ' s'
  vr : VR K s'.heap ρ' p.1 val
  new : ∀ a, Ow p.1 val a → ¬ Live s.heap a
noncomputable def Post (K : Ctx0) (C : Cx) (env : Env) (P : V × St → Prop) (ρ : Rho) (s : Shared) (Q : Value → Shared → Prop) : Prop := ∀ p val ρ' s', P p → EP K C env p ρ s val ρ' s' → Q val s'
section
variable {K : Ctx0} {C : Cx} {env : Env} {st st₁ : St} {P : V × St → Prop} {ρ ρ₁ : Rho} {s s₁ : Shared} {Q : Value → Shared → Prop} {v : V} {val : Value} {t : Nat}
theorem Post.aft (h : Post K C env P ρ s Q) (S : Step K C env st No ρ s ρ₁ s₁) : Post K C env P ρ₁ s₁ Q := fun p val ρ' s' e X => h p val ρ' s' e ⟨S.aft X.step, X.vr, fun a o l => X.new a o (S.mv.live l id)⟩
theorem Post.ep (h : Post K C env P ρ s Q) {p : V × St} {ρ' s'} (e : P p) (X : EP K C env p ρ s val ρ' s') : Q val s' := h _ _ _ _ e X
theorem Post.d (h : Post K C env P ρ s Q) (R : Rel K C env st ρ s) {x : PyData} (e : P (.d x, st)) (r : Rd (Fz s.heap ρ) x val) : Q val { s with toks := t } := h.ep e ⟨R.tok t, r, fun _ q => q.elim⟩
theorem Post.i (h : Post K C env P ρ s Q) (R : Rel K C env st ρ s) {i : Int} {u : Tok} (e : P (.d (.int i), st)) : Q (.int i u) { s with toks := t } := h.d R e ⟨u, rfl⟩
theorem Post.x (h : Post K C env P ρ s Q) (R : Rel K C env st ρ s) {x : Str} {u : Tok} (e : P (.d (.str x), st)) : Q (.str x u) { s with toks := t } := h.d R e ⟨u, rfl⟩
theorem Post.b (h : Post K C env P ρ s Q) (R : Rel K C env st ρ s) {b : Bool} (e : P (.d (.bool b), st)) : Q (.bool b) { s with toks := t } := h.d R e rfl
theorem Post.go (h : Post K C env P ρ s Q) (R : Rel K C env st ρ s) {h' : Heap} (hk : Up s.heap h') (e : P (v, st)) (r : VR K h' ρ v val) (n : v.fl? = none) : Q val { s with heap := h', toks := t } :=
  h.ep e ⟨R.go hk, r, by cases v <;> first | exact fun _ q => q.elim | cases n⟩
theorem Post.l (h : Post K C env P ρ s Q) (R : Rel K C env st ρ s) {a : Addr} {h' : Heap} {xs : List PyData} {items : Array Value} {n : Nat} (ha : ¬ Live s.heap a) (hk : Up s.heap h') (g : h'.get? a = some (lObj items n)) (e : P (.fl xs, st)) (d : Rds (Fz h' (ρ.set a .hid)) xs items.toList) : Q (.ref a) { s with heap := h', toks := t } :=
  h.ep e ⟨R.hide ha hk ⟨_, g⟩, ⟨a, rfl, set_self, g, d⟩, fun b q => (Value.ref.inj q : a = b) ▸ ha⟩
theorem Post.new (h : Post K C env P ρ s Q) (R : Rel K C env st ρ s) {xs : List PyData} {items : Array Value} {n : Nat} (e : P (.fl xs, st)) (d : Rds (Fz s.heap ρ) xs items.toList) : Q (.ref s.heap.objs.size) { s with heap := s.heap.push (lObj items n), toks := t } :=
  h.l R not_live_size (.push _) (Heap.get?_push_size _ rfl) e (d.mono fun f => ⟨(set_ne fun q => not_live_size ⟨_, q ▸ f.2⟩).trans f.1, Up.push _ _ _ f.2⟩)
end
section
variable {K : Ctx0} {h : Heap} {ρ : Rho} {v : V} {val : Value} {R : Value → Prop} {T : Prop}
theorem Hd.dat {α : Type} {f : PyData → Option α} {P : α → Prop} (e : Hd (v.dat.bind f) P) (r : VR K h ρ v val) (k : ∀ x, Hd (f x) P → Rd (Fz h ρ) x val → T) : T := by
  cases v with
  | d x => exact k x e r
  | _ => exact e.elim
theorem Hd.rint {F : Addr → Obj → Prop} {x : PyData} {P : Int → Prop} (e : Hd (int? x) P) (r : Rd F x val) (k : ∀ i t, val = .int i t → P i → T) : T := by
  cases x with
  | int i => exact let ⟨t, q⟩ := r; k i t q e
  | _ => exact e.elim
theorem Hd.rstr {F : Addr → Obj → Prop} {x : PyData} {P : Str → Prop} (e : Hd (str? x) P) (r : Rd F x val) (k : ∀ i t, val = .str i t → P i → T) : T := by
  cases x with
  | str i => exact let ⟨t, q⟩ := r; k i t q e
  | _ => exact e.elim
theorem Hd.int {P : Int → Prop} (e : Hd (asI v) P) (r : VR K h ρ v val) (k : ∀ i t, val = .int i t → P i → T) : T := Hd.dat e r fun x e r => e.rint r k
theorem Hd.str {P : Str → Prop} (e : Hd (asS v) P) (r : VR K h ρ v val) (k : ∀ i t, val = .str i t → P i → T) : T := Hd.dat e r fun x e r => e.rstr r k
theorem Hd.bool {P : Bool → Prop} (e : Hd (asB v) P) (r : VR K h ρ v val) (k : ∀ i, val = .bool i → P i → T) : T := Hd.dat e r fun x e r => by
  cases x with
  | bool i => exact k i r e
  | _ => exact e.elim
theorem Hd.ty {P : String → Prop} (e : Hd v.ty? P) (r : VR K h ρ v val) (k : ∀ i, val = .type i → P i → T) : T := by
  cases v with
  | ty n => exact k n r e
  | _ => exact e.elim
theorem none_or (r : VR K h ρ v val) : (isNoneV v = true ∧ val = .none) ∨ (isNoneV v = false ∧ val ≠ .none) := by
  cases v with
  | d x =>
    cases x with
    | none => exact .inl ⟨rfl, r⟩
    | bool b => exact .inr ⟨rfl, (r : val = _) ▸ nofun⟩
    | int b => exact .inr ⟨rfl, let ⟨_, r⟩ := r; r ▸ nofun⟩
    | str b => exact .inr ⟨rfl, let ⟨_, r⟩ := r; r ▸ nofun⟩
    | list b => exact .inr ⟨rfl, let ⟨r, _, _, _, _⟩ := (show LA _ _ _ _ from r); r ▸ nofun⟩
    | tuple b => exact .inr ⟨rfl, let ⟨r, _, _, _, _⟩ := (show LA _ _ _ _ from r); r ▸ nofun⟩
    | dict b => exact .inr ⟨rfl, let ⟨_, _, _, r, _⟩ := r; r ▸ nofun⟩
  | fl xs => exact .inr ⟨rfl, let ⟨_, r, _⟩ := r; r ▸ nofun⟩
  | hl xs => exact .inr ⟨rfl, let ⟨_, r, _⟩ := r; r ▸ nofun⟩
  | obj xs => exact .inr ⟨rfl, let ⟨_, r, _⟩ := r; r ▸ nofun⟩
  | ty n => exact .inr ⟨rfl, (r : val = _) ▸ nofun⟩
  | pat n => exact .inr ⟨rfl, (r : val = _) ▸ nofun⟩
  | rng a b c => exact .inr ⟨rfl, let ⟨_, _, _, _, r, _⟩ := r; r ▸ nofun⟩
inductive IsL (h : Heap) (ρ : Rho) (xs : List PyData) (v : Value) : Prop where
  | mk {a : Addr} {o : Obj} {items : Array Value} {n : Nat} (e : v = .ref a) (g : h.get? a = some o) (c : o.cls = .type "list") (d : o.data = .seq items n) (r : Rds (Fz h ρ) xs items.toList) : IsL h ρ xs v
theorem listAt_ok {i : Nat} {objs : Objs} {P : List PyData → Prop} (S : Store K h ρ objs) (e : Hd (listAt objs i) P) (k : ∀ a xs items n, P xs → At ρ i a → h.get? a = some (lObj items n) → Rds (Fz h ρ) xs items.toList → T) : T :=
  e.b.get fun c hc e => by
    obtain ⟨a, q, r⟩ := S.ok hc
    cases c with
    | list xs => exact let ⟨items, n, g, d⟩ := r; k a xs items n e q g d
    | inst _ => exact e.elim
theorem Hd.list {objs : Objs} {P : List PyData → Prop} (S : Store K h ρ objs) (e : Hd (listOf objs v) P) (r : VR K h ρ v val) (k : ∀ xs, P xs → IsL h ρ xs val → T) : T := by
  cases v with
  | d x =>
    cases x with
    | list xs => exact let ⟨e', f, c, d, q⟩ := (show LA _ _ _ _ from r); k xs e ⟨e', f.2, c, d, q⟩
    | _ => exact e.elim
  | fl xs => exact let ⟨a, e', o⟩ := r; let ⟨_, g, d⟩ := o; k xs e ⟨e', g, rfl, rfl, d⟩
  | hl i =>
    obtain ⟨a, e', q⟩ := r
    exact listAt_ok S e.b.m fun a' xs items n e q' g d => k xs e ⟨e', (q.1.symm.trans q'.1 : a = a') ▸ g, rfl, rfl, d⟩
  | _ => exact e.elim
theorem Hd.reads {objs : Objs} {P : PyData → Prop} (S : Store K h ρ objs) (e : Hd (rd objs v) P) (r : VR K h ρ v val) (k : ∀ x as, P x → Reads h val x as → T) : T := by
  have ls : ∀ xs, P (.list xs) → IsL h ρ xs val → T := fun xs e l => by
    obtain ⟨e', g, c, d, r⟩ := l
    obtain ⟨as, r⟩ := r.reads And.right
    exact k (.list xs) _ e (e' ▸ Reads.list g c d r)
  cases v with
  | d x => exact let ⟨as, r⟩ := Rd.reads And.right r; k x as e r
  | fl xs => exact let ⟨a, e', o⟩ := r; let ⟨_, g, d⟩ := o; ls xs e ⟨e', g, rfl, rfl, d⟩
  | hl i =>
    obtain ⟨a, e', q⟩ := r
    exact listAt_ok S e.m fun a' xs items n e q' g d => ls xs e ⟨e', (q.1.symm.trans q'.1 : a = a') ▸ g, rfl, rfl, d⟩
  | _ => exact e.elim
end
theorem str_len (x : Str) : x.length = (strL x).length := by simp [strL, Str.length]
theorem mkS_strL (x : Str) : mkS (strL x) = x := by simp [mkS, strL]
theorem str_app (x y : Str) : x ++ y = mkS (strL x ++ strL y) := by
  show Str.append x y = _
  simp [Str.append, mkS, strL]
theorem maxLen_le : maxLen ≤ sizeLine := by decide
theorem i64_bits {x : Int} (h : i64 x = true) : Builtin.Int.intBits x ≤ 64 := by
  have : x.natAbs < 18446744073709551616 := of_decide_eq_true h
  exact intBits_le_64 (by omega) (by omega)
section
variable {prog : Program} {w : World} {A : Around} {E : Value → Shared → Prop} {K : Ctx0} {C : Cx} {env : Env} {st : St} {P : V × St → Prop} {ρ : Rho} {s : Shared} {Q : Value → Shared → Prop} {a b : V} {va vb : Value}
theorem wp_add_str {x y : Str} {t u : Tok} (hl : (strL x).length + (strL y).length ≤ maxLen) (h : ∀ t' tk, Q (.str (mkS (strL x ++ strL y)) t') { s with toks := tk }) : wpAny (model prog w) A (binaryOp .Add (.str x t) (.str y u)) Q E s := by
  rw [← str_app] at h
  have l0 : ∀ {x : Str}, (x.length == 0) = true → strL x = [] := fun hx => List.eq_nil_of_length_eq_zero (str_len _ ▸ beq_iff_eq.mp hx)
  refine P.add_str (iteInduction (motive := fun m => Made.post m Q s) (fun hx => ?_) fun hx => iteInduction (motive := fun m => Made.post m Q s) (fun hy => ?_) fun hy => ⟨?_, h _ _⟩)
  · have e : x ++ y = y := by rw [str_app, l0 hx, List.nil_append, mkS_strL]
    exact e ▸ h u s.toks
  · have e : x ++ y = x := by rw [str_app, l0 hy, List.append_nil, mkS_strL]
    exact e ▸ h t s.toks
  · rw [str_app]
    exact Nat.le_trans (Nat.le_of_eq (List.length_append (as := strL x))) (Nat.le_trans hl maxLen_le)
theorem wp_add_list {xs ys : List PyData} (R : Rel K C env st ρ s) (ra : IsL s.heap ρ xs va) (rb : IsL s.heap ρ ys vb) (hl : xs.length + ys.length ≤ maxLen) (e : P (.fl (xs ++ ys), st)) (h : Post K C env P ρ s Q) : wpAny (model prog w) A (binaryOp .Add va vb) Q E s := by
  obtain @⟨l, ⟨cls, dd, data, sl⟩, is, n, rfl, ho, hc, hd, r1⟩ := ra
  obtain @⟨l', ⟨cls2, dd2, data2, sl2⟩, is', n2, rfl, ho2, hc2, hd2, r2⟩ := rb
  cases hc; cases hd; cases hc2; cases hd2
  exact concat_meets ⟨_, ho, rfl⟩ ⟨_, ho2, rfl⟩ noFill_list_add seq_list_add PySem.F.slot_list_add PySem.F.entry_list_add (PySem.F.args_list_add_2 _ _) (list_addW l l' is is' n n2 dd dd2 sl sl2 (by rw [r1.size, r2.size]; exact Nat.le_trans hl maxLen_le))
    ⟨ho, ho2, h.new (t := s.toks) R e (by rw [Array.toList_append]; exact r1.app r2)⟩
theorem wp_addV (R : Rel K C env st ρ s) (e : Hd (addV st.objs a b) fun v => P (v, st)) (ra : VR K s.heap ρ a va) (rb : VR K s.heap ρ b vb) (h : Post K C env P ρ s Q) : wpAny (model prog w) A (binaryOp .Add va vb) Q E s :=
  e.el (fun e => e.int ra fun x t q e => Hd.int e.m rb fun y u q' e => q ▸ q' ▸ PySem.P.add_int (Post.i h R e)) fun e =>
  e.el (fun e => e.str ra fun x t q e => Hd.str e.b rb fun y u q' e => e.gd fun hl e => q ▸ q' ▸ wp_add_str hl fun t' tk => Post.x h R e) fun e =>
    Hd.list R.w.store e.b ra fun xs e l => Hd.list R.w.store e.b rb fun ys e l' => e.gd fun hl e => wp_add_list R l l' hl e h
theorem wp_binop {op : Operator} (R : Rel K C env st ρ s) (e : Hd (binop st.objs op a b) fun v => P (v, st)) (ra : VR K s.heap ρ a va) (rb : VR K s.heap ρ b vb) (h : Post K C env P ρ s Q) : wpAny (model prog w) A (binaryOp op va vb) Q E s := by
  have I : ∀ {op}, isAdd op = false → Hd (binop st.objs op a b) (fun v => P (v, st)) → (∀ x y t u, Hd (binI op x y) (fun z => ∀ t tk, Q (.int z t) { s with toks := tk }) → wpAny (model prog w) A (binaryOp op (.int x t) (.int y u)) Q E s) → wpAny (model prog w) A (binaryOp op va vb) Q E s :=
    fun {op} hn e k => e.bif (fun q => absurd q (hn ▸ nofun)) fun _ e => Hd.int e.b ra fun x t q e => Hd.int e.b rb fun y u q' e => q ▸ q' ▸ k x y t u (e.m.get fun z hz e => .of hz fun t tk => Post.i h R e)
  cases op with
  | Add => exact wp_addV R e ra rb h
  | Sub => exact I rfl e fun x y t u e => PySem.P.sub_int (e _ _)
  | Mult => exact I rfl e fun x y t u e => e.g fun q e => PySem.P.mul_int (e _ _) ((Bool.or_eq_true _ _ ▸ q : _ ∨ _).elim (fun q => .of_left (i64_bits q)) fun q => .of_right (i64_bits q))
  | FloorDiv => exact I rfl e fun x y t u e => e.gd fun q e => floordiv_int q.1 (e _ _) (.inl (PyProof.noPylong_small q.2))
  | Mod => exact I rfl e fun x y t u e => e.gd fun q e => mod_int' q (e _ _)
  | Pow => exact I rfl e fun x y t u e => e.gd fun q e => e.g fun l e => pow_int_small q.1 (by omega) (of_decide_eq_true l) (e _ _)
  | _ => exact I rfl e fun x y t u e => e.elim
end
end Mine
end
section
open PySem PySem.W PyProof.Rows
namespace Mine
structure AOK (A : Around) (n : Nat) : Prop where
  hand : A.handled = none
  depth : A.depth + 4 * n + 20 < 1000
  units : A.units + 8 * n + 100 < 9900
theorem AOK.le {A n} (a : AOK A (n + 1)) : AOK A n := ⟨a.hand, by have := a.depth; omega, by have := a.units; omega⟩
theorem AOK.cLine {A n} (a : AOK A n) {k : Nat} (h : k ≤ 60) : A.units + k < PySem.cLine := by have := a.units; show _ < 9900; omega
theorem okD_lay {x : PyData} (h : okD x = true) : x.canLay0 = true ∧ x.depth ≤ 20 := (Bool.and_eq_true _ _ ▸ h : _ ∧ _).imp_right of_decide_eq_true
theorem okDs_lay : ∀ {xs : List PyData}, okDs xs = true → PyData.canLayAll0 xs = true
  | [], _ => rfl
  | x :: xs, h => by
    rw [okDs, List.all_cons, Bool.and_eq_true] at h
    exact (Bool.and_eq_true _ _).symm ▸ ⟨(okD_lay h.1).1, okDs_lay h.2⟩
theorem type_beq {m n : String} : (Value.type m == Value.type n) = (m == n) := by simp [BEq.beq]
section
variable {prog : Program} {w : World} {A : Around} {E : Value → Shared → Prop} {K : Ctx0} {C : Cx} {env : Env} {st : St} {ρ : Rho} {s : Shared} {a b : V} {va vb : Value} {n : Nat}
section
variable {P : Bool → Prop} {Q : Value → Shared → Prop}
theorem wp_is (e : Hd (isOp a b) P) (ra : VR K s.heap ρ a va) (rb : VR K s.heap ρ b vb) (h : ∀ r, P r → Q (.bool r) s) : wpAny (model prog w) A (compareOp .Is va vb) Q E s :=
  e.el (fun e => e.ty rb fun n q e => Hd.ty e.m ra fun m q' e => q ▸ q' ▸ wpAny_is_plain rfl (type_beq ▸ h _ e)) fun e => e.g fun hb e => (none_or rb).elim (fun q => (none_or ra).elim (fun q' => by rw [q.2, q'.2]; exact wpAny_is_self rfl (q'.1 ▸ h _ e)) fun q' => q.2 ▸ is_none_ne q'.2 (q'.1 ▸ h _ e)) fun q => absurd (hb.symm.trans q.1) nofun
theorem wp_isNot (e : Hd (isOp a b) P) (ra : VR K s.heap ρ a va) (rb : VR K s.heap ρ b vb) (h : ∀ r, P r → Q (.bool (!r)) s) : wpAny (model prog w) A (compareOp .IsNot va vb) Q E s :=
  e.el (fun e => e.ty rb fun n q e => Hd.ty e.m ra fun m q' e => q ▸ q' ▸ isnot_type (show Q (.bool (!(Value.type m == Value.type n))) s from type_beq ▸ h _ e)) fun e => e.g fun hb e => (none_or rb).elim (fun q => (none_or ra).elim (fun q' => by rw [q.2, q'.2]; exact wpAny_isNot_self rfl (show Q (.bool !true) s from q'.1 ▸ h _ e)) fun q' => q.2 ▸ isnot_none_ne q'.2 (show Q (.bool !false) s from q'.1 ▸ h _ e)) fun q => absurd (hb.symm.trans q.1) nofun
theorem wp_eqOp {T : Prop} (S : Store K s.heap ρ st.objs) (e : Hd (eqOp st.objs a b) P) (ra : VR K s.heap ρ a va) (rb : VR K s.heap ρ b vb)
    (h0 : ∀ x y t u, va = .str x t → vb = .str y u → P (strL x == strL y) → T) (h : ∀ x y as bs, Reads s.heap va x as → Reads s.heap vb y bs → okD x = true → okD y = true → P (PyData.eqv x y) → T) : T :=
  e.el (fun e => Hd.str e.b ra fun x t q e => Hd.str e.m rb fun y u q' e => h0 x y t u q q' e) fun e => Hd.reads S e.b ra fun x as e r1 => Hd.reads S e.b rb fun y bs e r2 => e.g fun hk e => (Bool.and_eq_true _ _ ▸ hk : _ ∧ _).elim fun k1 k2 => h x y as bs r1 r2 k1 k2 e
theorem wp_inOp {neg : Bool} (hA : AOK A n) (S : Store K s.heap ρ st.objs) (e : Hd (inOp st.objs a b) P) (ra : VR K s.heap ρ a va) (rb : VR K s.heap ρ b vb) (h : ∀ r, P r → Q (.bool (bif neg then !r else r)) s) : wpAny (model prog w) A (compareOp (bif neg then .NotIn else .In) va vb) Q E s :=
  e.el (fun e => e.str rb fun y t q e => Hd.str e.m ra fun x u q' e => q ▸ q' ▸ (match neg, h with | true, h => PySem.P.notIn_str (h _ e) | false, h => PySem.P.in_str (h _ e))) fun e =>
    Hd.reads S e.b ra fun x as e r1 => Hd.list S e.b rb fun ys e l => e.g fun hk e => by
      obtain ⟨rfl, g, c, d, r⟩ := l
      obtain ⟨bs, r2⟩ := r.reads And.right
      obtain ⟨k1, k2⟩ := Bool.and_eq_true _ _ ▸ hk
      have hm : 1 + min (PyData.depthAll ys) x.depth ≤ 60 := by have := Nat.min_le_right (PyData.depthAll ys) x.depth; have := (okD_lay k1).2; omega
      have hu : A.units + 1 + min (PyData.depthAll ys) x.depth < PySem.cLine := Nat.add_assoc .. ▸ hA.cLine hm
      cases neg with
      | true => exact SeqAt.notIn_list_reads (.list g c d r2) r1 (okDs_lay k2) (okD_lay k1).1 hu (h _ e)
      | false => exact SeqAt.in_list_reads (.list g c d r2) r1 (okDs_lay k2) (okD_lay k1).1 hu (h _ e)
theorem AOK.eq (hA : AOK A n) {x y : PyData} (hx : okD x = true) : A.units + min x.depth y.depth < PySem.cLine := hA.cLine (Nat.le_trans (Nat.min_le_left _ _) (Nat.le_trans (okD_lay hx).2 (by decide)))
theorem wp_cmp {op : CmpOp} (hA : AOK A n) (R : Rel K C env st ρ s) (e : Hd (cmpop st.objs op a b) P) (ra : VR K s.heap ρ a va) (rb : VR K s.heap ρ b vb) (h : ∀ r, P r → Q (.bool r) s) : wpAny (model prog w) A (compareOp op va vb) Q E s := by
  have I : ∀ {f : Int → Int → Option Bool} {op}, Hd ((asI a).bind fun x => (asI b).bind fun y => f x y) P → (∀ x y t u, Hd (f x y) P → wpAny (model prog w) A (compareOp op (.int x t) (.int y u)) Q E s) → wpAny (model prog w) A (compareOp op va vb) Q E s :=
    fun e k => Hd.int e.b ra fun x t q e => Hd.int e.b rb fun y u q' e => q ▸ q' ▸ k x y t u e
  have S := R.w.store
  cases op with
  | Is => exact wp_is e ra rb h
  | IsNot => exact wp_isNot e.m ra rb fun r q => h _ q
  | Eq => exact wp_eqOp S e ra rb (fun x y t u q q' e => q ▸ q' ▸ PySem.P.eq_str (h _ e)) fun x y as bs r1 r2 k1 k2 e => SeqAt.compareEq_reads r1 r2 (okD_lay k1).1 (okD_lay k2).1 (hA.eq k1) (h _ e)
  | NotEq => exact wp_eqOp S e.m ra rb (fun x y t u q q' e => q ▸ q' ▸ PySem.P.ne_str (h _ e)) fun x y as bs r1 r2 k1 k2 e => SeqAt.compareNe_reads r1 r2 (okD_lay k1).1 (okD_lay k2).1 (hA.eq k1) (h _ e)
  | In => exact wp_inOp (neg := false) hA S e ra rb h
  | NotIn => exact wp_inOp (neg := true) hA S e.m ra rb fun r q => h _ q
  | Lt => exact I e fun x y t u e => PySem.P.lt_int (h _ e)
  | LtE => exact I e fun x y t u e => PySem.P.le_int (h _ e)
  | Gt => exact I e fun x y t u e => PySem.P.gt_int (h _ e)
  | GtE => exact I e fun x y t u e => PySem.P.ge_int (h _ e)
end
theorem wp_truth {P : Bool → Prop} {Q : Bool → Shared → Prop} (R : Rel K C env st ρ s) (e : Hd (truthV st.objs a) P) (r : VR K s.heap ρ a va) (h : ∀ b s', P b → Step K C env st No ρ s ρ s' → Q b s') : wpAny (model prog w) A (truthy va) Q E s := by
  have ht : ∀ {b c t}, b = c → P b → Q c { s with toks := t } := fun q p => q ▸ h _ _ p (R.tok _)
  refine e.el (fun e => Hd.list R.w.store e r fun xs e l => e.gd fun hl e => ?_) fun e => e.dat r fun x e r => ?_
  · obtain ⟨rfl, g, c, d, rr⟩ := l
    have hm : maxLen < 2 ^ 63 := by decide
    have hs := rr.size
    exact wpAny_truthy_list ⟨_, g, c, _, d⟩ (by omega) (ht (by rw [← hs, Bool.eq_iff_iff]; simp [Array.isEmpty]) e)
  · cases x with
    | none => exact (r : va = _) ▸ fun _ _ _ => ht (t := s.toks) rfl e
    | bool b => exact (r : va = _) ▸ wpAny_truthy_bool (ht (t := s.toks) rfl e)
    | int i => exact let ⟨t, q⟩ := r; q ▸ PySem.P.truthy_int (ht (t := s.toks) rfl e)
    | str x =>
      obtain ⟨t, rfl⟩ := r
      refine Hd.gd e fun hl e => ?_
      have hm : maxLen < 2 ^ 63 := by decide
      exact PySem.P.truthy_str (by rw [str_len]; omega) (ht (by rw [str_len, Bool.eq_iff_iff]; simp) e)
    | _ => exact e.elim
end
noncomputable def plainE : Expr → Bool
  | .Set .. => false
  | .Starred .. => false
  | .SetComp .. => false
  | .DictComp .. => false
  | .Call g _ _ _ => match g with
    | .Name x _ => !(x == ("super" : Str))
    | _ => true
  | _ => true
section
variable (prog : Program) (w : World) (K : Ctx0) (n : Nat) (C : Cx)
noncomputable def SE (f : Expr → St → Option (V × St)) : Prop := ∀ {e st P}, Hd (f e st) P → plainE e = true ∧ ∀ {A s ρ env Q E}, AOK A n → EnvOK K C env → Rel K C env st ρ s → Post K C env P ρ s Q → wpAny (model prog w) A (eval e env) Q E s
noncomputable def PostB (K : Ctx0) (C : Cx) (env : Env) (P : Bool × St → Prop) (ρ : Rho) (s : Shared) (Q : Bool → Shared → Prop) : Prop := ∀ p ρ' s', P p → Step K C env p.2 No ρ s ρ' s' → Q p.1 s'
noncomputable def ST (f : Expr → St → Option (Bool × St)) : Prop := ∀ {e st P}, Hd (f e st) P → ∀ {A s ρ env Q E}, AOK A n → EnvOK K C env → Rel K C env st ρ s → PostB K C env P ρ s Q → wpAny (model prog w) A (isTrue e env (eval e env)) Q E s
end
section
variable {prog : Program} {w : World} {A : Around} {E : Value → Shared → Prop} {K : Ctx0} {C : Cx} {env : Env} {st st₁ : St} {ρ ρ₁ : Rho} {s s₁ : Shared} {a b : V} {va vb : Value} {n : Nat} {f : Expr → St → Option (V × St)} {t : Expr → St → Option (Bool × St)} {P : Bool × St → Prop}
theorem PostB.aft {Q} (h : PostB K C env P ρ s Q) (S : Step K C env st No ρ s ρ₁ s₁) : PostB K C env P ρ₁ s₁ Q := fun p ρ' s' e X => h p ρ' s' e (S.aft X)
theorem notMarked {op e} (h : plainE e = true) : behindInMarks op e = false := by
  cases e <;> first | rfl | cases h
theorem EP.vr0 {p val} (X : EP K C env p ρ s val ρ₁ s₁) {v u} (r : VR K s.heap ρ v u) : VR K s₁.heap ρ₁ v u := r.mv0 X.step.mv
theorem wp_chain (IE : SE prog w K n C f) {pos : Pos} (hA : AOK A n) (O : EnvOK K C env) : ∀ (ops : List CmpOp) (es : List Expr) {a st s ρ va}, Hd (evChain f a ops es st) P → Rel K C env st ρ s → VR K s.heap ρ a va →
    (∀ {Q : Value → Shared → Prop}, PostB K C env P ρ s (fun b => Q (.bool b)) → wpAny (model prog w) A (compareChain pos va ops (markedEach ops es (evalEach es env))) Q E s) ∧
    (∀ {Q : Bool → Shared → Prop}, PostB K C env P ρ s Q → wpAny (model prog w) A (testChain pos va ops (markedEach ops es (evalEach es env))) Q E s)
  | [], es, _, _, _, _, _, e, _, _ => by cases es <;> exact e.elim
  | op :: _, [], _, _, _, _, _, e, _, _ => e.elim
  | [op], [x], a, st, s, ρ, va, e, R, ra => by
    have I := IE e.b
    have hm : markedEach [op] [x] (evalEach [x] env) = [eval x env] := congrArg (fun x => [x]) (markedBehindIn_of_false (notMarked I.1))
    rw [hm]
    exact ⟨fun hQ => wpAny_bind (wpAny_holding (I.2 hA O R fun p val ρ₁ s₁ e X => wpAny_bind (wpAny_standAt (wpAny_operate' (wp_cmp hA X.step.rel (Hd.b e) (X.vr0 ra) X.vr fun r e => hQ _ _ _ e X.step))))),
      fun hQ => wpAny_bind (wpAny_holding (I.2 hA O R fun p val ρ₁ s₁ e X => wpAny_bind (wpAny_standAt (wpAny_bind (wpAny_operate' (wp_cmp hA X.step.rel (Hd.b e) (X.vr0 ra) X.vr fun r e => wpAny_holding (wpAny_truthy_bool (hQ _ _ _ e X.step))))))))⟩
  | [op], _ :: _ :: _, _, _, _, _, _, e, _, _ => e.b.get fun _ _ e => (Hd.b e).get fun _ _ e => e.elim
  | op :: _ :: _, [x], _, _, _, _, _, e, _, _ => e.b.get fun _ _ e => (Hd.b e).get fun _ _ e => e.elim
  | op :: op2 :: ops, x :: y :: es, a, st, s, ρ, va, e, R, ra => by
    have I := IE e.b
    refine ⟨fun hQ => wpAny_bind (wpAny_holding (I.2 hA O R fun p val ρ₁ s₁ e X => wpAny_bind (wpAny_standAt (wpAny_bind (wpAny_holding (wp_cmp hA X.step.rel (Hd.b e) (X.vr0 ra) X.vr fun r e => wpAny_bind (wpAny_release' (wpAny_bind (wpAny_holding (wpAny_truthy_bool ?_)))))))))),
      fun hQ => wpAny_bind (wpAny_holding (I.2 hA O R fun p val ρ₁ s₁ e X => wpAny_bind (wpAny_standAt (wpAny_bind (wpAny_holding (wp_cmp hA X.step.rel (Hd.b e) (X.vr0 ra) X.vr fun r e => wpAny_bind (wpAny_release' (wpAny_bind (wpAny_holding (wpAny_truthy_bool ?_))))))))))⟩
    · cases r with
      | true => exact (wp_chain IE hA O (op2 :: ops) (y :: es) e X.step.rel X.vr).1 (hQ.aft X.step)
      | false => exact wpAny_pure (hQ _ _ _ e X.step)
    · cases r with
      | true => exact (wp_chain IE hA O (op2 :: ops) (y :: es) e X.step.rel X.vr).2 (hQ.aft X.step)
      | false => exact wpAny_pure (hQ _ _ _ e X.step)
theorem wp_and (IT : ST prog w K n C t) (hA : AOK A n) (O : EnvOK K C env) : ∀ (es : List Expr) {st s ρ Q}, Hd (evAnd t es st) P → Rel K C env st ρ s → PostB K C env P ρ s Q → wpAny (model prog w) A (allTrue .And es env) Q E s
  | [], _, _, _, _, e, R, h => wpAny_allTrue_And_nil (h _ _ _ e R.at0)
  | x :: es, _, _, _, _, e, R, h => wpAny_allTrue_And_cons (IT e.b hA O R fun p ρ₁ s₁ e S => Hd.bif e (fun q e => Eq.mpr (if_pos q) (wp_and IT hA O es e S.rel (h.aft S)))
    fun q e => Eq.mpr (if_neg (q ▸ nofun)) (q ▸ h (false, p.2) _ _ e S))
theorem wp_or (IT : ST prog w K n C t) (hA : AOK A n) (O : EnvOK K C env) : ∀ (es : List Expr) {st s ρ Q}, Hd (evOr t es st) P → Rel K C env st ρ s → PostB K C env P ρ s Q → wpAny (model prog w) A (allTrue .Or es env) Q E s
  | [], _, _, _, _, e, R, h => wpAny_allTrue_Or_nil (h _ _ _ e R.at0)
  | x :: es, _, _, _, _, e, R, h => wpAny_allTrue_Or_cons (IT e.b hA O R fun p ρ₁ s₁ e S => Hd.bif e (fun q e => Eq.mpr (if_pos q) (q ▸ h (true, p.2) _ _ e S))
    fun q e => Eq.mpr (if_neg (q ▸ nofun)) (wp_or IT hA O es e S.rel (h.aft S)))
end
end Mine
end
section
open PySem PySem.W PyProof.Rows
namespace Mine
section
variable {prog : Program} {w : World} {A : Around} {E : Value → Shared → Prop} {K : Ctx0} {C : Cx} {env : Env} {st st₁ : St} {ρ ρ₁ : Rho} {s s₁ : Shared} {a b : V} {va vb : Value} {n : Nat} {f : Fs} {P : V × St → Prop} {Q : Value → Shared → Prop} {pos : Pos}
theorem wp_tstV {e : Expr} {P : Bool × St → Prop} {Q : Bool → Shared → Prop} (IE : SE prog w K n C (f.ev C)) (h : Hd (tstV f C e st) P) (hA : AOK A n) (O : EnvOK K C env) (R : Rel K C env st ρ s) (hQ : PostB K C env P ρ s Q) :
    wpAny (model prog w) A (do let v ← eval e env; standAt e.pos; holding [v] (truthy v)) Q E s :=
  wpAny_bind ((IE h.b).2 hA O R fun p val ρ₁ s₁ h X => wpAny_bind (wpAny_standAt (wpAny_holding (wp_truth X.step.rel (Hd.m h) X.vr fun b s' h S => hQ _ _ _ h (X.step.aft S)))))
theorem tst_step (IE : SE prog w K n C (f.ev C)) (IT : ST prog w K n C (f.tst C)) : ST prog w K (n + 1) C (tstS f C) := by
  intro e st P h A s ρ env Q E hA O R hQ
  have hA := hA.le
  cases e with
  | UnaryOp op x pos =>
    cases op with
    | Not => exact wpAny_isTrue_Not (IT (Hd.m h) hA O R fun p ρ₁ s₁ h S => hQ _ _ _ h S)
    | _ => exact wp_tstV IE h hA O R hQ
  | BoolOp op es pos =>
    cases op with
    | And => exact wpAny_isTrue_BoolOp (wp_and IT hA O es h R hQ)
    | Or => exact wpAny_isTrue_BoolOp (wp_or IT hA O es h R hQ)
  | Compare l ops es pos =>
    rw [arm_isTrue_Compare]
    exact wpAny_bind ((IE (Hd.b h)).2 hA O R fun p val ρ₁ s₁ h X => (wp_chain IE hA O ops es h X.step.rel X.vr).2 (hQ.aft X.step))
  | IfExp _ _ _ _ => exact h.elim
  | _ => exact wp_tstV IE h hA O R hQ
end
noncomputable def Ows : List V → List Value → Addr → Prop
  | v :: vs, u :: us, a => Ow v u a ∨ Ows vs us a
  | _, _, _ => False
inductive VC (K : Ctx0) (h : Heap) (ρ : Rho) (v : V) (vs : List V) (r : List Value → Prop) (vals : List Value) : Prop where
  | mk {u : Value} {us : List Value} (e : vals = u :: us) (a : VR K h ρ v u) (q : r us) (d : ∀ b, Ow v u b → ¬ Ows vs us b) : VC K h ρ v vs r vals
noncomputable def VRs (K : Ctx0) (h : Heap) (ρ : Rho) : List V → List Value → Prop
  | [], vals => vals = []
  | v :: vs, vals => VC K h ρ v vs (VRs K h ρ vs) vals
structure EPs (K : Ctx0) (C : Cx) (env : Env) (p : List V × St) (ρ : Rho) (s : Shared) (vals : List Value) (ρ' : Rho) (s' : Shared) : Prop where
  step : Step K C env p.2 No ρ s ρ' s'
  vrs : VRs K s'.heap ρ' p.1 vals
  new : ∀ a, Ows p.1 vals a → ¬ Live s.heap a
noncomputable def PostL (K : Ctx0) (C : Cx) (env : Env) (P : List V × St → Prop) (ρ : Rho) (s : Shared) (Q : List Value → Shared → Prop) : Prop := ∀ p vals ρ' s', P p → EPs K C env p ρ s vals ρ' s' → Q vals s'
section
variable {prog : Program} {w : World} {A : Around} {E : Value → Shared → Prop} {K : Ctx0} {C : Cx} {env : Env} {st st₁ : St} {ow fr : Addr → Prop} {ρ ρ₁ ρ₂ : Rho} {h h' : Heap} {s s₁ s₂ : Shared} {n : Nat} {f : Expr → St → Option (V × St)} {pos : Pos} {vs : List V} {vals : List Value} {v : V} {val : Value} {T : Prop}
theorem VRs.mv (M : Mv ow fr ρ ρ₁ h h') : ∀ {vs vals}, VRs K h ρ vs vals → (∀ a, Ows vs vals a → ¬ ow a) → VRs K h' ρ₁ vs vals
  | [], _, r, _ => r
  | _ :: _, _, ⟨e, a, q, d⟩, no => by
    subst e
    exact ⟨rfl, a.mv M fun b o => no b (.inl o), VRs.mv M q fun b o => no b (.inr o), d⟩
theorem VRs.own : ∀ {vs vals}, VRs K h ρ vs vals → ∀ {b}, Ows vs vals b → ρ.k b = .hid ∧ Live h b
  | [], _, _, _, o => o.elim
  | _ :: _, _, ⟨e, a, q, d⟩, b, o => by
    subst e
    exact o.elim a.own (VRs.own q)
theorem VRs.len : ∀ {vs vals}, VRs K h ρ vs vals → vals.length = vs.length
  | [], _, e => congrArg _ e
  | _ :: _, _, ⟨e, a, q, d⟩ => e ▸ congrArg Nat.succ q.len
theorem EP.cons {p : V × St} {q : List V × St} (X : EP K C env p ρ s val ρ₁ s₁) (Y : EPs K C env q ρ₁ s₁ vals ρ₂ s₂) : EPs K C env (p.1 :: q.1, q.2) ρ s (val :: vals) ρ₂ s₂ :=
  ⟨X.step.aft Y.step, ⟨rfl, X.vr.mv0 Y.step.mv, Y.vrs, fun b o o' => Y.new b o' (X.vr.own o).2⟩, fun b o l => o.elim (fun o => X.new b o l) fun o => Y.new b o (X.step.mv.live l id)⟩
theorem Rel.nils (R : Rel K C env st ρ s) : EPs K C env ([], st) ρ s [] ρ s := ⟨R.at0, rfl, fun _ o => o.elim⟩
theorem starEach_of {e rest env} (h : plainE e = true) : starEach (e :: rest) env = (false, eval e env) :: starEach rest env := by
  cases e <;> first | rfl | cases h
theorem wp_evs (IE : SE prog w K n C f) (hA : AOK A n) (O : EnvOK K C env) : ∀ (es : List Expr) {st s ρ P Q}, Hd (evs f es st) P → Rel K C env st ρ s → PostL K C env P ρ s Q → wpAny (model prog w) A (spliced (backTo pos (starEach es env))) Q E s
  | [], _, _, _, _, _, e, R, h => wpAny_items_nil (h _ _ _ _ e R.nils)
  | x :: es, _, _, _, _, _, e, R, h => wpAny_items_cons ((IE e.b).2 hA O R fun p val ρ₁ s₁ e X => wp_evs IE hA O es (Hd.m e) X.step.rel fun q vals ρ₂ s₂ e Y => h _ _ _ _ e (X.cons Y)) (starEach_of (IE e.b).1)
theorem Hd.data {P : PyData → Prop} (e : Hd (rd0 v) P) (R : Rel K C env st ρ s) (r : VR K s.heap ρ v val) (k : ∀ x ρ₁, P x → Step K C env st (Ow v val) ρ s ρ₁ s → Rd (Fz s.heap ρ₁) x val → T) : T := by
  cases v with
  | d x => exact k x ρ e (R.stay fun _ q => q.elim) r
  | fl xs =>
    obtain ⟨a, rfl, o⟩ := r
    obtain ⟨S, q⟩ := R.drop o
    exact k _ _ e (S.more (fun b q => (VR.own (K := K) (v := .fl xs) ⟨a, rfl, o⟩ q).1) fun b q => congrArg _ q.symm) q
  | _ => exact e.elim
theorem Hd.datas : ∀ {vs : List V} {vals : List Value} {ρ : Rho} {P : List PyData → Prop}, Hd (rd0s vs) P → Rel K C env st ρ s → VRs K s.heap ρ vs vals → (∀ xs ρ₁, P xs → Step K C env st (Ows vs vals) ρ s ρ₁ s → Rds (Fz s.heap ρ₁) xs vals → T) → T
  | [], _, ρ, _, e, R, r, k => k [] ρ e (R.stay fun _ q => q.elim) r
  | v :: vs, _, ρ, _, e, R, r, k => by
    have ow := fun b (o : Ows _ _ b) => (VRs.own r o).1
    obtain ⟨rfl, a, q, d⟩ := r
    exact Hd.data (Hd.b e) R a fun x ρ₁ e S dx => Hd.datas (Hd.m e) S.rel (q.mv S.mv fun b o o' => d b o' o) fun xs ρ₂ e S' ds =>
      k (x :: xs) ρ₂ e ((S.more ow fun _ => .inl).trans S' fun _ _ => .inr) (.cons (dx.mono S'.mv.fz) ds)
theorem EPs.data {p : List V × St} {P : List PyData → Prop} (X : EPs K C env p ρ s vals ρ₁ s₁) (e : Hd (rd0s p.1) P) (k : ∀ xs ρ₂, P xs → Step K C env p.2 No ρ s ρ₂ s₁ → Rds (Fz s₁.heap ρ₂) xs vals → T) : T :=
  Hd.datas e X.step.rel X.vrs fun xs ρ₂ e S d => k xs ρ₂ e (X.step.trans S fun b l o => (X.new b o l).elim) d
theorem EP.data {p : V × St} {P : PyData → Prop} (X : EP K C env p ρ s val ρ₁ s₁) (e : Hd (rd0 p.1) P) (k : ∀ x ρ₂, P x → Step K C env p.2 No ρ s ρ₂ s₁ → Rd (Fz s₁.heap ρ₂) x val → T) : T :=
  Hd.data e X.step.rel X.vr fun xs ρ₂ e S d => k xs ρ₂ e (X.step.trans S fun b l o => (X.new b o l).elim) d
end
noncomputable def tObj (vs : List Value) : Obj := { cls := .type "tuple", data := .seq vs.toArray }
section
variable {prog : Program} {w : World} {A : Around} {E : Value → Shared → Prop} {K : Ctx0} {C : Cx} {env : Env} {st st₁ : St} {ρ ρ₁ : Rho} {s s₁ : Shared} {v : V} {vo : Value} {n : Nat} {f : Fs} {P : V × St → Prop} {Q : Value → Shared → Prop} {pos : Pos}
theorem Post.t (h : Post K C env P ρ s Q) (R : Rel K C env st ρ s) {xs : List PyData} {vals : List Value} {t : Nat} (e : P (.d (.tuple xs), st)) (d : Rds (Fz s.heap ρ) xs vals) : Q (.ref s.heap.objs.size) { s with heap := s.heap.push (tObj vals), toks := t } :=
  h.go R (.push _) e (LA.mk rfl ⟨R.w.new not_live_size, Heap.get?_push_size _ rfl⟩ rfl rfl (d.mono fun f => ⟨f.1, Up.push _ _ _ f.2⟩)) rfl
theorem wp_Tuple {es : List Expr} {k : Nat} (IE : SE prog w K n C (f.ev C)) (e : Hd (evTup f C es st) P) (hA : AOK A n) (O : EnvOK K C env) (R : Rel K C env st ρ s) (h : Post K C env P ρ s Q) : wpAny (model prog w) A (eval (.Tuple es k pos) env) Q E s :=
  wpAny_Tuple (wp_evs IE hA O es e.b R fun p vals ρ₁ s₁ e X => Hd.gd e fun hl e => X.data (Hd.m e) fun xs ρ₂ e S d => ⟨X.vrs.len ▸ Nat.le_trans hl maxLen_le, (h.aft S).t (t := s₁.toks) S.rel e d⟩)
theorem wp_List {es : List Expr} (IE : SE prog w K n C (f.ev C)) (e : Hd (evList f C es st) P) (hA : AOK A n) (O : EnvOK K C env) (R : Rel K C env st ρ s) (h : Post K C env P ρ s Q) : wpAny (model prog w) A (eval (.List es pos) env) Q E s :=
  wpAny_List (wp_evs IE hA O es e.b R fun p vals ρ₁ s₁ e X => Hd.gd e fun hl e => X.data (Hd.m e) fun xs ρ₂ e S d => ⟨X.vrs.len ▸ Nat.le_trans hl maxLen_le, (h.aft S).new (n := 0) (t := s₁.toks) S.rel e d⟩)
structure IX (i : Int) (n k : Nat) : Prop where
  le : n ≤ maxLen
  seq : seqIndex? i n = some k
  lt : k < n
  pos : 0 ≤ i → i = k
  neg : i < 0 → i + n = k
theorem Hd.idx {i : Int} {n : Nat} {P : Nat → Prop} {T : Prop} (e : Hd (idx? i n) P) (k : ∀ k, P k → IX i n k → T) : T := by
  have sq : ∀ j : Int, 0 ≤ j → j < n → (if (decide (0 ≤ j) && decide (j < (n : Int))) = true then some j.toNat else none) = some j.toNat := fun j h1 h2 => if_pos (by rw [decide_eq_true h1, decide_eq_true h2]; rfl)
  refine Hd.gd e fun hn e => Hd.bif e (fun h0 e => Hd.gd e fun h1 e => ?_) fun h0 e => Hd.gd e fun h1 e => ?_
  · have h0 := of_decide_eq_true h0
    exact k i.toNat e ⟨hn, by unfold seqIndex?; dsimp only; rw [if_neg (show ¬ i < 0 by omega)]; exact sq i h0 h1, by omega, fun _ => by omega, fun q => by omega⟩
  · have h0 := of_decide_eq_false h0
    exact k (i + n).toNat e ⟨hn, by unfold seqIndex?; dsimp only; rw [if_pos (show i < 0 by omega)]; exact sq (i + n) (by omega) (by omega), by omega, fun q => absurd q h0, fun q => by omega⟩
theorem wp_subs {value slice : Expr} {o i : Value} {T id : String} (hT : s.TypeIs o T) (hl : typeLookup (.type T) "__getitem__" = pure (some (.builtin id)))
    (h : wpAny (model prog w) A (getItem o i) Q E s) : wpAny (model prog w) A (do standAt pos; let r ← subscripted slice (← getitemInPython o) o i; letTemporaryGo value o r; pure r) Q E s := by
  refine wpAny_bind (wpAny_standAt (wpAny_bind ?_))
  rw [getitemInPython_of_ne hT.not_modules]
  refine wpAny_bind (wpAny_specialOf hT hl (wpAny_pure (wpAny_bind ?_)))
  have k : ∀ os, wpAny (model prog w) A (operate os (getItem o i)) (fun r s' => wpAny (model prog w) A (do letTemporaryGo value o r; pure r) Q E s') E s := fun os => wpAny_operating (wpAny_mono h (fun r s' h' => wpAny_bind (wpAny_letTemporaryGo (wpAny_pure h'))) fun _ _ x => x)
  cases slice with
  | Slice a b c p => cases c <;> first | exact k [i, o] | exact k [o, i]
  | _ => exact k [o, i]
inductive IsQ (h : Heap) (ρ : Rho) (xs : List PyData) (v : Value) : Prop where
  | mk {T : String} {a : Addr} {o : Obj} {items : Array Value} {n : Nat} (e : v = .ref a) (g : h.get? a = some o) (t : T = "list" ∨ T = "tuple") (c : o.cls = .type T) (d : o.data = .seq items n) (r : Rds (Fz h ρ) xs items.toList) : IsQ h ρ xs v
theorem Hd.tup {h : Heap} {val : Value} {P : List PyData → Prop} {T : Prop} (e : Hd (asT v) P) (r : VR K h ρ v val) (k : ∀ xs, P xs → LA (Fz h ρ) "tuple" (Rds (Fz h ρ) xs) val → T) : T := Hd.dat e r fun x e r => by
  cases x with
  | tuple xs => exact k xs e r
  | _ => exact e.elim
theorem Hd.seq {h : Heap} {val : Value} {objs : Objs} {P : List PyData → Prop} {T : Prop} (S : Store K h ρ objs) (e : Hd ((asT v).elim (listOf objs v) some) P) (r : VR K h ρ v val) (k : ∀ xs, P xs → IsQ h ρ xs val → T) : T :=
  Hd.el e (fun e => Hd.tup e r fun xs e l => let ⟨a, b, c, d, q⟩ := l; k xs e ⟨a, b.2, .inr rfl, c, d, q⟩) fun e => Hd.list S e r fun xs e l => let ⟨a, b, c, d, q⟩ := l; k xs e ⟨a, b, .inl rfl, c, d, q⟩
theorem wp_item {value slice : Expr} {i : Int} {t : Tok} (R : Rel K C env st ρ s) (ro : VR K s.heap ρ v vo) (e : Hd (itemV st.objs v i) fun v => P (v, st))
    (h : Post K C env P ρ s Q) : wpAny (model prog w) A (do standAt pos; let r ← subscripted slice (← getitemInPython vo) vo (.int i t); letTemporaryGo value vo r; pure r) Q E s := by
  have bd : ∀ {n k}, IX i n k → -(2 ^ 62) ≤ i ∧ i < 2 ^ 62 := fun x => by
    have hm : (maxLen : Int) < 2 ^ 62 := by decide
    have := x.le; have := x.lt
    by_cases q : 0 ≤ i
    · have := x.pos q; omega
    · have := x.neg (by omega); omega
  refine Hd.el e (fun e => Hd.str e ro fun x u q e => Hd.idx (Hd.b e) fun k e x => (Hd.m e).get fun c hc e => ?_) fun e => Hd.seq R.w.store (Hd.b e) ro fun xs e l => Hd.idx (Hd.b e) fun k e x => (Hd.m e).get fun y hy ep => ?_
  · subst q
    have b := bd x
    refine wp_subs (typeIs_str s _ u) F.slot_str_getitem.lookup (PySem.P.getItem_str (c := c) (by rw [decide_eq_false (by omega), decide_eq_false (by omega)]; rfl) ?_ (Post.x h R e))
    rw [str_len, x.seq, Option.bind_some, ← hc]
    exact Array.getElem?_toList.symm
  · obtain ⟨rfl, g, ht, c, d, r⟩ := l
    obtain ⟨val, hv, dv⟩ := r.get hy
    rw [Array.getElem?_toList] at hv
    have hz := r.size
    have b := bd x
    rcases ht with rfl | rfl
    · refine wp_subs (T := "list") ⟨_, g, c⟩ slot_list_getitem.lookup ?_
      by_cases hneg : i < 0
      · have e := x.neg hneg
        exact wpAny_getItem_list_neg ⟨_, g, c, _, d⟩ hneg (by omega) (by omega) (by rw [hz, e]; exact hv) (h.d (t := s.toks) R ep dv)
      · have e := x.pos (by omega)
        exact wpAny_getItem_list ⟨_, g, c, _, d⟩ (by omega) (by omega) (e ▸ hv) (h.d (t := s.toks) R ep dv)
    · exact wp_subs (T := "tuple") ⟨_, g, c⟩ slot_tuple_getitem.lookup (getItem_tuple ⟨_, g, c, _, d⟩ (by omega) (by omega) (by rw [hz]; exact x.seq) hv (h.d (t := s.toks) R ep dv))
end
end Mine
end
section
open PySem PySem.W PyProof.Rows
namespace Mine
theorem clip_eq (i : Int) (n : Nat) : max 0 (min (if i < 0 then i + n else i) n) = ((clampI i n : Nat) : Int) := (Int.toNat_of_nonneg (Int.le_max_left _ _)).symm
theorem high_le (x : Option Int) (n : Nat) : highI x n ≤ n := by
  cases x with
  | none => exact Nat.le_refl _
  | some i => exact Int.toNat_le.mpr (Int.max_le.mpr ⟨Int.natCast_nonneg n, Int.min_le_right _ _⟩)
theorem clip_or (x : Option Int) (d n : Nat) : (match x with | none => (d : Int) | some i => max 0 (min (if i < 0 then i + n else i) n)) = ((x.elim d fun i => clampI i n : Nat) : Int) := by
  cases x with
  | none => rfl
  | some i => exact clip_eq i n
theorem bounds_one (lo hi : Option Int) (n : Nat) : sliceBounds lo hi none n = (((lowI lo n : Nat) : Int), ((highI hi n : Nat) : Int), (1 : Int)) := Prod.ext (clip_or lo 0 n) (Prod.ext (clip_or hi n n) rfl)
noncomputable def picks (lo hi st : Option Int) (n : Nat) : List Nat := sliceRange (sliceBounds lo hi st n).1 (sliceBounds lo hi st n).2.1 (sliceBounds lo hi st n).2.2
theorem picks_one (lo hi : Option Int) (n : Nat) : picks lo hi none n = (List.range (highI hi n - lowI lo n)).map (lowI lo n + ·) := by
  unfold picks
  rw [bounds_one]; exact sliceRange_one _ _
theorem picks_rev (n : Nat) : picks none none (some (-1)) n = (List.range n).reverse := by
  unfold picks
  rw [krv_bounds]; exact (krv_sliceRange n).trans (krv_range n)
theorem Hd.take {α : Type} {xs : Array α} {lo hi st : Option Int} {P : List α → Prop} {T : Prop} (h : Hd (takeL xs.toList lo hi st) P) (k : st ≠ some 0 → ((picks lo hi st xs.size).filterMap (xs[·]?)).length ≤ xs.size → P ((picks lo hi st xs.size).filterMap (xs[·]?)) → T) : T := by
  cases st with
  | none =>
    have e : (picks lo hi none xs.size).filterMap (xs[·]?) = sliceL xs.toList lo hi := by rw [picks_one, pick_run]; rfl
    rw [e] at k
    exact k nofun (Nat.le_trans (List.length_take_le' _ _) (List.length_drop ▸ Nat.sub_le _ _)) h
  | some i =>
    refine Hd.gd h fun q h => ?_
    obtain ⟨rfl, rfl, rfl⟩ := q
    have e : (picks none none (some (-1)) xs.size).filterMap (xs[·]?) = xs.toList.reverse := by rw [picks_rev, List.filterMap_reverse, krv_all]
    rw [e] at k
    exact k nofun (Nat.le_of_eq List.length_reverse) h
theorem picks_full {α : Type} (xs : Array α) (lo hi : Option Int) (h : (picks lo hi none xs.size).length = xs.size) : (picks lo hi none xs.size).filterMap (xs[·]?) = xs.toList := by
  have hh := high_le hi xs.size
  rw [picks_one] at h ⊢
  rw [List.length_map, List.length_range] at h
  rw [pick_run]
  by_cases hz : lowI lo xs.size = 0
  · rw [hz, List.drop_zero]; exact List.take_of_length_le (by rw [Array.length_toList]; omega)
  · have e : xs.size = 0 := by omega
    have e : xs.toList = [] := List.eq_nil_of_length_eq_zero e
    rw [e, List.drop_nil, List.take_nil]
theorem Rds.take {F : Addr → Obj → Prop} {xs : List PyData} {vs : Array Value} {lo hi st : Option Int} {P : List PyData → Prop} {T : Prop} (r : Rds F xs vs.toList) (h : Hd (takeL xs lo hi st) P) (k : ∀ ys, P ys → st ≠ some 0 → Rds F ys (slicePick vs lo hi st).toList → T) : T := by
  have hz := r.size
  cases st with
  | none =>
    refine k _ h nofun ?_
    show Rds F _ ((picks lo hi none vs.size).filterMap (vs[·]?))
    rw [picks_one, pick_run, hz]; exact (r.drop _).taken _
  | some i =>
    refine Hd.gd h fun q h => ?_
    obtain ⟨rfl, rfl, rfl⟩ := q
    exact k _ h nofun (by rw [krv_pick]; exact r.rev)
section
variable {prog : Program} {w : World} {A : Around} {E : Value → Shared → Prop} {K : Ctx0} {C : Cx} {env : Env} {st st₁ : St} {ρ ρ₁ : Rho} {s s₁ : Shared} {v : V} {vo : Value} {n : Nat} {f : Fs} {P : V × St → Prop} {Q : Value → Shared → Prop} {pos : Pos}
noncomputable def Part (ov : Option V) (val : Value) : Prop := ∀ {P : Option Int → Prop} {T : Prop}, Hd (intOpt ov) P → (∀ p : Option (Int × Tok), val = partValue p → P (p.map (·.1)) → T) → T
theorem wp_part {x : Option Expr} {P : Option V × St → Prop} (IE : SE prog w K n C (f.ev C)) (e : Hd (evPart f C x st) P) (hA : AOK A n) (O : EnvOK K C env) (R : Rel K C env st ρ s) (h : ∀ p val ρ' s', P p → Step K C env p.2 No ρ s ρ' s' → Part p.1 val → Q val s') : wpAny (model prog w) A (evalPart x env) Q E s := by
  cases x with
  | none => exact wpAny_pure (h _ _ _ _ e R.at0 fun e k => k none rfl e)
  | some x => exact (IE (Hd.m e)).2 hA O R fun p val ρ₁ s₁ e X => h _ _ _ _ e X.step fun {P T} e k => Hd.el (show Hd ((asI p.1).elim _ _) P from e) (fun e => Hd.int e X.vr fun i t q e => k (some (i, t)) q e) fun e => Hd.g e fun q e =>
      (none_or X.vr).elim (fun z => k none z.2 e) fun z => absurd (z.1.symm.trans q) nofun
theorem isPart_of {p : Option (Int × Tok)} : IsPart (partValue p) (p.map (·.1)) := by
  cases p with
  | none => exact .none
  | some q => exact .int q.1 q.2
noncomputable def sliceObj (l u st : Option (Int × Tok)) : Obj := { cls := .type "slice", data := .fields #[partValue l, partValue u, partValue st] }
theorem wp_sliceS {x : Str} {t : Tok} {l u d : Option (Int × Tok)} {sl : Addr} (hs : s.heap.get? sl = some (sliceObj l u d)) (hm : (strL x).length ≤ maxLen) (e0 : Hd (takeL (strL x) (l.map (·.1)) (u.map (·.1)) (d.map (·.1))) fun r => ∀ t tk, Q (.str (mkS r) t) { s with toks := tk }) : wpAny (model prog w) A (getItem (.str x t) (.ref sl)) Q E s := by
  refine Hd.take (xs := x.cps) e0 fun h0 hl e => ?_
  have hd : ∀ i, d.map (·.1) = some i → i ≠ 1 := fun i q => by
    rw [q] at e0
    exact Hd.gd e0 fun q _ => q.1 ▸ by decide
  have hst : ((d.map (·.1)).getD 1 == 0) = false := by
    cases d with
    | none => rfl
    | some i => exact beq_false_of_ne fun q => h0 (congrArg some q)
  refine wpAny_getItem_str_slice (l := l) (u := u) (st := d) ⟨_, hs, rfl, rfl⟩ hst ?_
  unfold sliceMade
  refine iteInduction (motive := fun m => Made.post m Q s) (fun hc => ?_) fun _ => ⟨?_, e _ _⟩
  · obtain ⟨h1, h2⟩ := Bool.and_eq_true _ _ ▸ hc
    cases d with
    | none =>
      have := picks_full x.cps _ _ (beq_iff_eq.mp h2)
      rw [show Option.map Prod.fst (none : Option (Int × Tok)) = none from rfl, this] at e
      exact e t s.toks
    | some i => exact absurd (beq_iff_eq.mp h1) (hd i.1 rfl)
  · exact Nat.le_trans hl (Nat.le_trans hm maxLen_le)
theorem wp_sliceW {value slice : Expr} {l u d : Option (Int × Tok)} (R : Rel K C env st ρ s) (ro : VR K s.heap ρ v vo) (e : Hd (sliceW st.objs v (l.map (·.1)) (u.map (·.1)) (d.map (·.1))) fun v => P (v, st)) (h : Post K C env P ρ s Q) :
    wpAny (model prog w) A (do standAt pos; let r ← subscripted slice (← getitemInPython vo) vo (.ref s.heap.objs.size); letTemporaryGo value vo r; pure r) Q E { s with heap := s.heap.push (sliceObj l u d) } := by
  have hk : Up s.heap (s.heap.push (sliceObj l u d)) := .push _
  have S := R.go (t := s.toks) hk
  have hs : (s.heap.push (sliceObj l u d)).get? s.heap.objs.size = some (sliceObj l u d) := Heap.get?_push_size _ rfl
  refine Hd.el e (fun e => Hd.str e ro fun x t q e => Hd.gd e fun hm e => ?_) fun e => Hd.list S.rel.w.store (Hd.b e) (ro.mv0 S.mv) fun xs e y => Hd.gd e fun hm e => ?_
  · subst q
    exact wp_subs (typeIs_str _ x t) F.slot_str_getitem.lookup (wp_sliceS hs hm ((Hd.m e).get fun a ha e => .of ha fun t tk => Post.x (h.aft S) S.rel e))
  · obtain ⟨rfl, g, c, dd, r⟩ := y
    exact r.take (Hd.m e) fun ys e h0 r' => wp_subs (T := "list") ⟨_, g, c⟩ slot_list_getitem.lookup (wpAny_getItem_list_slice ⟨_, g, c, _, dd⟩ ⟨_, hs, rfl, rfl⟩ isPart_of isPart_of isPart_of h0 ((h.aft S).new (n := 0) (t := s.toks) S.rel e r') (by rw [r.size]; exact Nat.le_trans hm maxLen_le))
end
end Mine
end
section
open PySem PySem.W PyProof.Rows
namespace Mine
theorem Rds.of {F : Addr → Obj → Prop} : ∀ {xs : List PyData} {vs : List Value}, vs.length = xs.length → (∀ {i : Nat} {x v}, xs[i]? = some x → vs[i]? = some v → Rd F x v) → Rds F xs vs
  | [], _, e, _ => List.eq_nil_of_length_eq_zero e
  | _ :: _, [], e, _ => nomatch e
  | _ :: _, _ :: _, e, h => .cons (h (i := 0) rfl rfl) (Rds.of (Nat.succ.inj e) fun {i x v} a b => h (i := i + 1) (x := x) (v := v) a b)
theorem Rds.ints {F : Addr → Obj → Prop} {xs : List PyData} {vs : List Value} (r : Rds F xs vs) : ∀ {P : List Int → Prop} {T : Prop}, Hd (ints? xs) P → (∀ is, P is → IntsAre vs is → T) → T :=
  Rds.ind (P := fun xs vs => ∀ {P : List Int → Prop} {T : Prop}, Hd (ints? xs) P → (∀ is, P is → IntsAre vs is → T) → T) (fun e k => k _ e .nil)
    (fun _ _ _ _ a _ ih _ _ e k => Hd.rint (Hd.b e) a fun i t q e => ih (Hd.m e) fun is e l => k _ e (q ▸ .cons _ _ l)) r
theorem Rds.strs {F : Addr → Obj → Prop} {xs : List PyData} {vs : List Value} (r : Rds F xs vs) : ∀ {P : List Str → Prop} {T : Prop}, Hd (strs? xs) P → (∀ l : List (Str × Tok), P (l.map Prod.fst) → vs = strValues l → T) → T :=
  Rds.ind (P := fun xs vs => ∀ {P : List Str → Prop} {T : Prop}, Hd (strs? xs) P → (∀ l : List (Str × Tok), P (l.map Prod.fst) → vs = strValues l → T) → T) (fun e k => k [] e rfl)
    (fun _ _ _ _ a _ ih _ _ e k => Hd.rstr (Hd.b e) a fun i t q e => ih (Hd.m e) fun l e z => k ((i, t) :: l) e (q ▸ z ▸ rfl)) r
section
variable {prog : Program} {w : World} {A : Around} {E : Value → Shared → Prop} {K : Ctx0} {C : Cx} {env : Env} {st st₁ : St} {ρ ρ₁ : Rho} {h : Heap} {s s₁ : Shared} {v : V} {vo : Value} {vs : List V} {vals : List Value} {n : Nat} {P : V × St → Prop} {Q : Value → Shared → Prop} {pos : Pos} {T : Prop}
theorem VRs.one {a : V} (r : VRs K h ρ [a] vals) (k : ∀ u, vals = [u] → VR K h ρ a u → T) : T := let ⟨e, a, q, _⟩ := r; k _ (e.trans (congrArg _ q)) a
theorem Hd.arg1 {β : Type} {k : V → Option β} {P : β → Prop} (e : Hd (Mine.one vs k) P) (rs : VRs K h ρ vs vals) (f : ∀ a u, vals = [u] → VR K h ρ a u → Hd (k a) P → T) : T := e.one fun a q e => VRs.one (q ▸ rs) fun u z r => f a u z r e
theorem Hd.argW {β : Type} {k : V → Option β} {P : β → Prop} (e : Hd (Mine.one vs k) P) (rs : VRs K h ρ vs vals) (f : ∀ a u, vals = [u] → VR K h ρ a u → (∀ b, Ow a u b → Ows vs vals b) → Hd (k a) P → T) : T := e.one fun a q e => by
  subst q
  exact VRs.one rs fun u z r => f a u z r (fun b o => z ▸ .inl o) e
theorem VRs.two {a b : V} (r : VRs K h ρ [a, b] vals) (k : ∀ u w, vals = [u, w] → VR K h ρ a u → VR K h ρ b w → T) : T := let ⟨e, a, q, _⟩ := r; VRs.one q fun w z b => k _ w (z ▸ e) a b
theorem Hd.arg2 {β : Type} {k : V → V → Option β} {P : β → Prop} (e : Hd (Mine.two vs k) P) (rs : VRs K h ρ vs vals) (f : ∀ a b u w, vals = [u, w] → VR K h ρ a u → VR K h ρ b w → Hd (k a b) P → T) : T := e.two fun a b q e => VRs.two (q ▸ rs) fun u w z r r' => f a b u w z r r' e
theorem call_type_str {x : Str} {t : Tok} (h : Q (.type "str") s) : wpAny (model prog w) A (PySem.call (.type "type") [.str x t]) Q E s := by
  refine wpAny_call (codeAny_of_tree ?_)
  show wpAny _ _ (callAny (.type "type") ⟨[.str x t], []⟩) _ _ _
  simp only [callAny]
  refine wpAny_pure ⟨Code.quiet_builtin _ (by decide +kernel), codeAny_builtin entry_type_call ?_⟩
  unfold Builtin.«type.__call__»
  dsimp only
  unfold shownTypeOf
  repeat wp_step
  exact h
theorem Post.r (h : Post K C env P ρ s Q) (R : Rel K C env st ρ s) {a b c : Int} {t u z : Tok} {tk : Nat} (e : P (.rng a b c, st)) : Q (.ref s.heap.objs.size) { s with heap := s.heap.push (rObj a b c t u z), toks := tk } :=
  h.go R (.push _) e ⟨_, t, u, z, rfl, R.w.new not_live_size, Heap.get?_push_size _ rfl⟩ rfl
theorem Post.ty (h : Post K C env P ρ s Q) (R : Rel K C env st ρ s) {n : String} (e : P (.ty n, st)) : Q (.type n) s := h.go (t := s.toks) R (.refl _) e rfl rfl
theorem wp_range (R : Rel K C env st ρ s) (e : Hd (bRange vs) fun v => P (v, st)) (rs : VRs K s.heap ρ vs vals) (h : Post K C env P ρ s Q) : wpAny (model prog w) A (PySem.call (.type "range") vals) Q E s := by
  match vs with
  | [] => exact e.elim
  | [b] => exact VRs.one rs fun u z r => Hd.int (Hd.m e) r fun i t q e => z ▸ q ▸ call_range_1 (Post.r h R e)
  | [a, b] => exact VRs.two rs fun u w z r r' => Hd.int (Hd.b e) r fun i t q e => Hd.int (Hd.m e) r' fun j t q' e => z ▸ q ▸ q' ▸ call_range_2 (Post.r h R e)
  | [a, b, c] =>
    obtain ⟨e1, ra, r, -⟩ := rs
    exact VRs.two r fun u w z r r' => Hd.int (Hd.b e) ra fun i t q e => Hd.int (Hd.b e) r fun j t q' e => Hd.int (Hd.b e) r' fun k t q'' e => e.gd fun hc e => e1 ▸ z ▸ q ▸ q' ▸ q'' ▸ call_range_3 hc.1 (Post.r h R e) (.inl (PyProof.noPylong_small hc.2))
  | _ :: _ :: _ :: _ :: _ => exact e.elim
theorem wp_len (R : Rel K C env st ρ s) (e : Hd (bLen st.objs v) fun v => P (v, st)) (r : VR K s.heap ρ v vo) (h : Post K C env P ρ s Q) : wpAny (model prog w) A (PySem.call (.builtin "len") [vo]) Q E s := by
  have hm : maxLen < 2 ^ 62 := by decide
  refine e.el (fun e => Hd.str e r fun x t q e => Hd.gd e fun hl e => ?_) fun e => Hd.seq R.w.store e.b r fun xs e l => Hd.gd e fun hl e => ?_
  · subst q
    exact PySem.P.len_str (by rw [str_len]; omega) (by rw [str_len]; exact Post.i h R e)
  · obtain ⟨rfl, g, ht, c, d, rr⟩ := l
    have hz := rr.size
    rw [← hz] at e
    rcases ht with rfl | rfl
    · exact Calls.call_len_list ⟨_, g, c, _, d⟩ (by omega) (Post.i h R e)
    · exact len_tuple ⟨_, g, c, _, d⟩ (by omega) (Post.i h R e)
theorem wp_callB {f : Bf} (hA : AOK A n) (R : Rel K C env st ρ s) (e : Hd (callB st.objs f vs) fun v => P (v, st)) (rs : VRs K s.heap ρ vs vals) (h : Post K C env P ρ s Q) : wpAny (model prog w) A (PySem.call f.val vals) Q E s := by
  cases f with
  | len => exact Hd.arg1 e rs fun a u z r e => z ▸ wp_len R e r h
  | ord =>
    exact Hd.arg1 e rs fun a u z r e => Hd.str (Hd.b e) r fun x t q e => Hd.one e fun c hx e => by
      obtain rfl : x = ⟨#[c]⟩ := by rw [← mkS_strL x, hx]; rfl
      exact z ▸ q ▸ PySem.P.ord_of_char (Post.i h R e)
  | chr => exact Hd.arg1 e rs fun a u z r e => Hd.int (Hd.b e) r fun i t q e => Hd.gd e fun hi e => z ▸ q ▸ PySem.P.chr_of_int (by rw [decide_eq_false (Int.not_lt.mpr hi.1), decide_eq_false (Int.not_lt.mpr hi.2)]; rfl) (Post.x h R e)
  | range => exact wp_range R e rs h
  | list =>
    exact Hd.arg1 e rs fun a u z r e => by
      cases a with
      | rng a b c =>
        obtain ⟨l, t, u, x, rfl, f⟩ := r
        refine Hd.gd (Hd.m e : Hd (rangeL a b c) _) fun hc e => Hd.g e fun hh e => ?_
        obtain ⟨hsm, hle⟩ := Bool.and_eq_true _ _ ▸ hh
        exact z ▸ call_list_range hA.hand (r := l) f.2 hsm (rangeSize_toNat _ _ _) (Int.toNat_le.mpr (Int.le_trans (of_decide_eq_true hle) (by decide))) fun h' tk acc' c' k g d => h.l R not_live_size k g e (.of ((d.1 : _ = _).trans (by simp)) fun {i x v} hx hv => by
          obtain ⟨t, rfl⟩ := d.2 i v (by rw [← Array.getElem?_toList]; exact hv)
          rw [List.getElem?_map] at hx
          obtain ⟨j, hj, rfl⟩ := Option.map_eq_some_iff.mp hx
          obtain ⟨hi, rfl⟩ := List.getElem?_eq_some_iff.mp hj
          rw [List.getElem_range]; exact ⟨t, rfl⟩)
      | _ => exact e.elim
  | sum =>
    exact Hd.arg1 e rs fun a u z r e => Hd.list R.w.store (Hd.b e) r fun xs e l => by
      obtain @⟨a, o, items, n', rfl, g, c, d, rr⟩ := l
      refine rr.ints (Hd.m e) fun is e hi => ?_
      have hall : AllInts items := by have := hi.allInts; simpa using this
      obtain ⟨ys, rfl⟩ := hall.items
      refine z ▸ sum_intListG hA.hand ⟨_, g, c, _, d⟩ fun h' tk t' hk => ?_
      have e3 : numsOf (intItems ys).toList = is := hi.numsOf
      rw [nums_intItems] at e3
      rw [preSum_eq, List.take_of_length_le (by simp), e3]
      exact h.go R hk e ⟨_, rfl⟩ rfl
  | min =>
    exact Hd.arg2 e rs fun a b u w z r r' e => Hd.int (Hd.b e) r fun x t q e => Hd.int (Hd.m e) r' fun y t' q' e => by
      subst z q q'
      refine min_two_ints hA.hand fun h' tk hk => ?_
      by_cases hab : y < x
      · rw [if_pos hab]; rw [decide_eq_true hab] at e; exact h.go R hk e ⟨_, rfl⟩ rfl
      · rw [if_neg hab]; rw [decide_eq_false hab] at e; exact h.go R hk e ⟨_, rfl⟩ rfl
  | isinstance =>
    exact Hd.arg2 e rs fun a b u w z r r' e => Hd.ty (Hd.b e) r' fun n q e => Hd.g e fun hn e => by
      obtain rfl := eq_of_beq hn
      exact Hd.el e (fun e => Hd.bool e r fun x q' e => z ▸ q ▸ q' ▸ IsiPair.bool_bool (Post.b (t := s.toks) h R e)) fun e => Hd.int (Hd.m e) r fun x t q' e => z ▸ q ▸ q' ▸ IsiPair.int_bool (Post.b h R e)
  | int => exact Hd.arg1 e rs fun a u z r e => Hd.str (Hd.b e) r fun x t q e => Hd.gd e fun hl e => (Hd.m e).get fun i e1 e => z ▸ q ▸ KIN.call_text e1 hl (Post.i h R e)
  | str =>
    exact Hd.arg1 e rs fun a u z r e => Hd.int (Hd.b e) r fun i t q e => Hd.gd e fun hi e => z ▸ q ▸ PySem.P.str_of_int (by
      by_cases h0 : i.natAbs = 0
      · rw [h0]; decide
      · have : i.natAbs.log2 < 30 := (Nat.log2_lt h0).mpr (by omega)
        omega) (Post.x h R e)
  | type =>
    exact Hd.arg1 e rs fun a u z r e => Hd.el e (fun e => Hd.str e r fun x t q e => z ▸ q ▸ call_type_str (h.ty R e)) fun e => Hd.list R.w.store (Hd.m e) r fun xs e l => by
      obtain ⟨rfl, g, c, d, rr⟩ := l
      obtain ⟨hp, gg, dd, t, os⟩ := s
      exact z ▸ call_type_obj g (by rw [c]; rfl) (by rw [c]; exact h.ty R e)
theorem wp_lower {x : Str} {t : Tok} (R : Rel K C env st ρ s) (hl : (strL x).length ≤ maxLen) (e : P (.d (.str (Txt.lower x)), st)) (h : Post K C env P ρ s Q) : wpAny (model prog w) A (PySem.call (.builtin "str.lower") [.str x t]) Q E s := by
  have hm : maxLen = 1000000 := rfl
  have h1 := str_len x
  refine call_gives F.slot_str_lower (typeIs_str _ _ _) F.entry_str_lower (F.args_str_lower_1 _) (gives_str_lower x t (fit_lower (by omega))) ⟨?_, Post.x h R e⟩
  have h2 := len_lower x
  show (Txt.lower x).length ≤ 16777216
  omega
theorem wp_join {x : Str} {t : Tok} {l : V} (R : Rel K C env st ρ s) (e : Hd ((listOf st.objs l).bind fun xs => (strs? xs).bind fun ys => gd (JoinOk x ys) (some (V.d (.str (Txt.join x ys))))) fun v => P (v, st)) (r : VR K s.heap ρ l vo) (h : Post K C env P ρ s Q) : wpAny (model prog w) A (PySem.call (.builtin "str.join") [.str x t, vo]) Q E s :=
  Hd.list R.w.store (Hd.b e) r fun xs e l => by
    obtain ⟨rfl, g, c, d, rr⟩ := l
    exact rr.strs (Hd.b e) fun l e hl => Hd.g e fun hok e => SC.join ⟨_, g, c, _, (by rw [← hl]; exact d)⟩ rfl hok fun t' k => Post.x h R e
end
end Mine
end
section
open PySem PySem.W PyProof.Rows
namespace Mine
structure Names (K : Ctx0) (G : Env') : Prop where
  hg : K.h₀.Ns K.gl K.gm
  hb : K.h₀.Ns builtinsNs K.bm
  glob : ∀ x v, G.glob x = some v → ∃ val, (K.gm x = some val ∨ (K.gm x = none ∧ K.bm x = some val)) ∧ v.fl? = none ∧ ∀ {h ρ}, (∀ {b o}, K.h₀.get? b = some o → Fz h ρ b o) → VR K h ρ v val
section
variable {prog : Program} {w : World} {G : Env'} {A : Around} {E : Value → Shared → Prop} {K : Ctx0} {C : Cx} {env : Env} {st st₁ : St} {ρ ρ₁ ρ₂ : Rho} {h : Heap} {s s₁ s₂ : Shared} {v : V} {val vo : Value} {vs us : List V} {vals uvals : List Value} {n : Nat} {f : Expr → St → Option (V × St)} {P : V × St → Prop} {Q : Value → Shared → Prop} {pos : Pos} {T : Prop} {x : Str}
theorem Names.load {M : Model} (N : Names K G) (O : EnvOK K C env) (R : Rel K C env st ρ s) (hx : C.sc.names.lookup x = some .globalImplicit) (hv : K.gm x = some val ∨ (K.gm x = none ∧ K.bm x = some val)) (h : Q val s) : wpAny M A (loadName env x) Q E s := by
  rw [loadName_read O.kind (O.kd hx nofun)]
  unfold loadGlobal
  have hg : s.heap.Ns env.globals K.gm := O.glob ▸ N.hg.at' fun o e => (R.w.base e).2
  have hb : s.heap.Ns env.builtins K.bm := O.bui ▸ N.hb.at' fun o e => (R.w.base e).2
  refine wpAny_bind (wpAny_nsGet hg ?_)
  rcases hv with hv | ⟨h1, h2⟩
  · rw [hv]; exact wpAny_pure h
  · rw [h1]
    show wpAny M A (do
      if let some v ← nsGet env.builtins x then return v
      rule "name.global.undefined"
      raiseNameError x s!"name '{x.toString}' is not defined") Q E s
    refine wpAny_bind (wpAny_nsGet hb ?_)
    rw [h2]; exact wpAny_pure h
theorem nfl {p : V × St} (n : p.1.fl? = none) {a : Addr} (q : Ow p.1 val a) : False := by
  obtain ⟨v, st⟩ := p
  cases v <;> first | exact q | cases n
theorem wp_evVar {P : V → Prop} (N : Names K G) (e : Hd (evVar G C x st) P) (O : EnvOK K C env) (R : Rel K C env st ρ s) (h : ∀ v val, P v → v.fl? = none → VR K s.heap ρ v val → Q val s) : wpAny (model prog w) A (loadName env x) Q E s := by
  refine e.g fun hn e => e.bif (fun hk e => e.get fun v hv e => ?_) fun hg e => e.g fun hk e => (Hd.b e).get fun k hx e => (Hd.b e).get fun ov hv e => e.get fun v hov e => ?_
  · obtain ⟨val, hl, nf, r⟩ := N.glob x v hv
    exact N.load O R (of_decide_eq_true hk) hl (h v val e nf (r R.w.base))
  · have hn : (x == ("__classdict__" : Str)) = false := Bool.not_eq_true' _ ▸ hn
    obtain rfl : ov = some v := hov
    obtain ⟨m, hns, hvs⟩ := R.f.vars
    obtain ⟨v1, v2⟩ := hvs hv
    cases k with
    | «local» => exact let ⟨val, hm, r, nf⟩ := v1 hx; wpAny_loadName_local O.kind (O.kd hx nofun) hns hm (h _ _ e nf r)
    | cell =>
      obtain ⟨c, w, hc, hi, val, rfl, r, nf⟩ := v2 (.inl hx)
      exact wpAny_loadName_cell O.kind (O.kd hx nofun) hc hi (h _ _ e nf r)
    | free =>
      obtain ⟨c, w, hc, hi, val, rfl, r, nf⟩ := v2 (.inr hx)
      exact (O.kinds hx).elim (fun q => wpAny_loadName_free O.kind q hc hi (h _ _ e nf r) hn) fun q => wpAny_loadName_cell O.kind q.2 hc hi (h _ _ e nf r)
    | globalExplicit => exact absurd hx (of_decide_eq_false (Bool.not_eq_true' _ ▸ hk))
    | globalImplicit => exact absurd hx (of_decide_eq_false hg)
theorem wp_Name (N : Names K G) (e : Hd ((evName G C x st).map fun v => (v, st)) P) (O : EnvOK K C env) (R : Rel K C env st ρ s) (h : Post K C env P ρ s Q) : wpAny (model prog w) A (eval (.Name x pos) env) Q E s :=
  (Hd.m e).bif (fun hd e => by
    obtain rfl := eq_of_beq hd
    rw [show eval (.Name "__debug__" pos) env = (do standAt pos; rule "name.__debug__"; pure (.bool true)) from rfl]
    exact wpAny_bind (wpAny_standAt (wpAny_bind (wpAny_rule (wpAny_pure (Post.b (t := s.toks) h R e))))))
    fun hd e => wpAny_Name (wp_evVar N e O R fun v val e nf r => h.ep e ⟨R.at0, r, fun a q => (nfl (p := (v, st)) nf q).elim⟩) hd
theorem Ows.app : ∀ {vs : List V} {vals : List Value} {us uvals a}, vals.length = vs.length → Ows (vs ++ us) (vals ++ uvals) a → Ows vs vals a ∨ Ows us uvals a
  | [], [], _, _, _, _, o => .inr o
  | [], _ :: _, _, _, _, l, _ => nomatch l
  | _ :: _, [], _, _, _, l, _ => nomatch l
  | _ :: _, _ :: _, _, _, _, l, o => o.elim (fun o => .inl (.inl o)) fun o => (Ows.app (Nat.succ.inj l) o).imp .inr id
theorem VRs.app : ∀ {vs vals}, VRs K h ρ vs vals → VRs K h ρ us uvals → (∀ a, Ows vs vals a → ¬ Ows us uvals a) → VRs K h ρ (vs ++ us) (vals ++ uvals)
  | [], _, e, b, _ => (e : _ = []) ▸ b
  | _ :: _, _, ⟨e, a, q, d⟩, b, no => by
    subst e
    exact ⟨rfl, a, VRs.app q b fun x o => no x (.inr o), fun x o o' => (Ows.app q.len o').elim (d x o) (no x (.inl o))⟩
theorem EPs.app {p q : List V × St} (X : EPs K C env p ρ s vals ρ₁ s₁) (Y : EPs K C env q ρ₁ s₁ uvals ρ₂ s₂) : EPs K C env (p.1 ++ q.1, q.2) ρ s (vals ++ uvals) ρ₂ s₂ :=
  ⟨X.step.aft Y.step, VRs.app (X.vrs.mv Y.step.mv fun _ _ q => q) Y.vrs fun b o o' => Y.new b o' (X.vrs.own o).2, fun b o l => (Ows.app X.vrs.len o).elim (fun o => X.new b o l) fun o => Y.new b o (X.step.mv.live l id)⟩
noncomputable abbrev kwE (pos : Pos) (ks : List Keyword) (env : Env) : List (Option Str × Sem Value) := backToKw pos (keywordEach ks env)
structure KwOK (W : List (Option Str × Sem Value)) (ks : List Keyword) : Prop where
  all : W.all (·.1.isSome) = true
  fm : W.filterMap (·.1) = ks.filterMap (·.arg)
  any : W.any (·.1.isNone) = false
  len : W.length = ks.length
theorem kwOK : ∀ {ks : List Keyword} {st} {P : List (Str × V) × St → Prop}, Hd (evKws f ks st) P → KwOK (kwE pos ks env) ks
  | [], _, _, _ => ⟨rfl, rfl, rfl, rfl⟩
  | ⟨k, x, p⟩ :: ks, st, P, e => (Hd.b e).get fun nm hn e => (Hd.b e).get fun p _ e => by
    obtain ⟨a, b, c, d⟩ := kwOK (Hd.m e)
    obtain rfl : k = some nm := hn
    exact ⟨a, congrArg (nm :: ·) b, c, congrArg Nat.succ d⟩
theorem wp_evKws (IE : SE prog w K n C f) (hA : AOK A n) (O : EnvOK K C env) : ∀ (ks : List Keyword) {st s ρ} {P : List (Str × V) × St → Prop} {Q : List Value → Shared → Prop}, Hd (evKws f ks st) P → Rel K C env st ρ s →
    (∀ p vals ρ' s', P p → p.1.map Prod.fst = ks.filterMap (·.arg) → EPs K C env (p.1.map Prod.snd, p.2) ρ s vals ρ' s' → Q vals s') → wpAny (model prog w) A (evalAll ((kwE pos ks env).map (·.2))) Q E s
  | [], _, _, _, _, _, e, R, h => wpAny_evalAll_nil (h _ _ _ _ e rfl R.nils)
  | ⟨k, x, p⟩ :: ks, _, _, _, _, _, e, R, h => (Hd.b e).get fun nm (hn : k = some nm) e => wpAny_evalAll_cons (wpAny_bind ((IE (Hd.b e)).2 hA O R fun p val ρ₁ s₁ e X => wpAny_bind (wpAny_standAt (wpAny_pure
      (wp_evKws IE hA O ks (Hd.m e) X.step.rel fun q vals ρ₂ s₂ e hq Y => h _ _ _ _ e (hn ▸ congrArg (nm :: ·) hq) (X.cons Y))))))
theorem plain_args : ∀ {es : List Expr} {st} {P : List V × St → Prop}, (∀ {e st} {P : V × St → Prop}, Hd (f e st) P → plainE e = true) → Hd (evs f es st) P → (backTo pos (starEach es env)).any (·.1) = false ∧ (backTo pos (starEach es env)).all (!·.1) = true
  | [], _, _, _, _ => ⟨rfl, rfl⟩
  | x :: es, _, _, pl, e => (Hd.b e).get fun p hp e => by
    rw [starEach_of (pl (Hd.of hp trivial : Hd _ fun _ => True))]
    exact plain_args (es := es) pl (Hd.m e)
theorem wp_argsC {fv : Value} {args : List Expr} {kw : List (Option Str × Sem Value)} {P : List V × St → Prop} {Q : Args → Shared → Prop} (IE : SE prog w K n C f) (ka : kw.all (·.1.isSome) = true) (e : Hd (evs f args st) P) (hA : AOK A n) (O : EnvOK K C env) (R : Rel K C env st ρ s)
    (h : ∀ p vals ρ' s', P p → EPs K C env p ρ s vals ρ' s' → wpAny (model prog w) A (evalAll (kw.map (·.2))) (fun kv s₂ => Q ⟨vals, (kw.filterMap (·.1)).zip kv⟩ s₂) E s') : wpAny (model prog w) A (evalArgs fv true (backTo pos (starEach args env)) kw) Q E s := by
  cases args with
  | nil => exact evalArgs_kw_nil ka (h _ _ _ _ e R.nils)
  | cons x xs =>
    have hs := wp_evs (pos := pos) (E := E) IE hA O (x :: xs) e R fun p vals ρ' s' e X => h p vals ρ' s' e X
    rw [starEach_of (IE (Hd.b e)).1] at hs ⊢
    exact evalArgs_kw ka hs
theorem wp_args {fv : Value} {args : List Expr} {P : List V × St → Prop} {Q : Args → Shared → Prop} (IE : SE prog w K n C f) (e : Hd (evs f args st) P) (hA : AOK A n) (O : EnvOK K C env) (R : Rel K C env st ρ s) (h : ∀ p vals ρ' s', P p → EPs K C env p ρ s vals ρ' s' → Q ⟨vals, []⟩ s') :
    wpAny (model prog w) A (evalArgs fv true (backTo pos (starEach args env)) []) Q E s :=
  wp_argsC IE rfl e hA O R fun p vals ρ' s' e X => wpAny_evalAll_nil (h p vals ρ' s' e X)
theorem wp_argsK {fv : Value} {args : List Expr} {kws : List Keyword} {P : List V × St → List (Str × V) × St → Prop} {Q : Args → Shared → Prop} (IE : SE prog w K n C f) (e : Hd (evs f args st) fun p => Hd (evKws f kws p.2) (P p)) (hA : AOK A n) (O : EnvOK K C env) (R : Rel K C env st ρ s)
    (h : ∀ p q vals kvals ρ' s', P p q → vals.length = p.1.length → kvals.length = q.1.length → EPs K C env (p.1 ++ q.1.map Prod.snd, q.2) ρ s (vals ++ kvals) ρ' s' → Q ⟨vals, (q.1.map Prod.fst).zip kvals⟩ s') :
    wpAny (model prog w) A (evalArgs fv true (backTo pos (starEach args env)) (kwE pos kws env)) Q E s := by
  have ok : KwOK (kwE pos kws env) kws := e.get fun p _ e => kwOK e
  refine wp_argsC IE ok.all e hA O R fun p vals ρ₁ s₁ e X => wp_evKws IE hA O kws e X.step.rel fun q kvals ρ₂ s₂ e hq Y => ?_
  rw [ok.fm, ← hq]
  exact h p q _ _ _ _ e X.vrs.len (Y.vrs.len.trans (List.length_map _)) (X.app Y)
theorem base_of {o : Expr} {m : Str} (h : plainE o = true) : attributeBase o m env (eval o env) = eval o env := by
  generalize eval o env = W
  cases o with
  | Call g args kws p =>
    cases g with
    | Name x p =>
      cases args with
      | cons _ _ => rfl
      | nil =>
        cases kws with
        | cons _ _ => rfl
        | nil =>
          show (if (x != "super" || m == "__class__" || env.kindOf "super" != some .globalImplicit || env.kindOf "__class__" != some .free) = true then _ else _) = _
          rw [if_pos (by rw [show (x != "super") = true from h]; rfl)]
    | _ => rfl
  | _ => rfl
theorem wp_method {o : Expr} {m : Str} {apos : Pos} {args : List Expr} {kws : List Keyword} (ho : plainE o = true) (ha : (backTo pos (starEach args env)).all (!·.1) = true) (ok : KwOK (kwE pos kws env) kws) (hl : (apos.endLine == pos.line) = true) (hn : args.length + kws.length ≤ 20)
    (h : wpAny (model prog w) A (eval o env) (fun ov s₁ => ∀ pl, wpAny (model prog w) A (getMethod ov m pl) (fun x s₂ => wpAny (model prog w) A (callWith pos x.1 x.2 (backTo pos (starEach args env)) (kwE pos kws env)) Q E s₂) E s₁) E s) :
    wpAny (model prog w) A (eval (.Call (.Attribute o m apos) args kws pos) env) Q E s := by
  rw [arm_eval_Call, base_of ho]
  have hform : methodCallForm (args.length + kws.length) (backTo pos (starEach args env)) (kwE pos kws env) = true := by
    unfold methodCallForm
    rw [ha, ok.all]
    exact decide_eq_true (by split <;> omega)
  have hpos : methodCallPos true o env apos pos = pure pos := by unfold methodCallPos; rw [hl]; rfl
  refine wpAny_bind (wpAny_mono h (fun ov s₁ h₁ => wpAny_bind (wpAny_standAt ?_)) fun _ _ e => e)
  unfold methodCall
  rw [hform]
  exact wpAny_bind (wpAny_holding (wpAny_mono (h₁ _) (fun x s₂ h₂ => wpAny_bind (wpAny_of_eq hpos h₂)) fun _ _ e => e))
end
end Mine
end
section
open PySem PySem.W PyProof.Rows
namespace Mine
structure WStep (K : Ctx0) (objs' : Objs) (ow : Addr → Prop) (ρ : Rho) (s : Shared) (ρ' : Rho) (s' : Shared) : Prop where
  rel : RelW K objs' ρ' s'
  mv : Mv ow No ρ ρ' s.heap s'.heap
section
variable {K : Ctx0} {C : Cx} {env : Env} {st st₁ : St} {objs objs₁ objs₂ : Objs} {ow ow' : Addr → Prop} {ρ ρ₁ ρ₂ : Rho} {s s₁ s₂ : Shared}
theorem Rel.back (R : Rel K C env st ρ s) (W : WStep K objs ow ρ s ρ₁ s₁) : Step K C env ⟨st.vars, objs⟩ ow ρ s ρ₁ s₁ := ⟨⟨W.rel, R.f.mv W.mv id fun _ => id⟩, W.mv.mono W.mv.own (fun _ => id) fun _ q => q.elim⟩
theorem WStep.trans (a : WStep K objs₁ ow ρ s ρ₁ s₁) (b : WStep K objs₂ ow' ρ₁ s₁ ρ₂ s₂) (h : ∀ x, Live s.heap x → ow' x → ow x) : WStep K objs₂ ow ρ s ρ₂ s₂ := ⟨b.rel, a.mv.trans b.mv h fun _ _ q => q⟩
theorem WStep.more (a : WStep K objs₁ ow ρ s ρ₁ s₁) (o : ∀ b, ow' b → ρ.k b = .hid) (h : ∀ b, ow b → ow' b) : WStep K objs₁ ow' ρ s ρ₁ s₁ := ⟨a.rel, a.mv.mono o h fun _ q => q⟩
theorem Step.out (S : Step K C env st ow ρ₁ s₁ ρ₂ s₂) (M : Mv No No ρ ρ₁ s.heap s₁.heap) (o : ∀ b, ow' b → ρ.k b = .hid) (h : ∀ b, Live s.heap b → ow b → ow' b) (n : ∀ b, Live s.heap b → Fe C env b → False) : WStep K st.objs ow' ρ s ρ₂ s₂ :=
  ⟨S.rel.w, (M.mono o (fun _ q => q.elim) fun _ => id).trans S.mv h fun b l q => (n b l q).elim⟩
theorem EPs.call {p : List V × St} {vals : List Value} (X : EPs K C env p ρ s vals ρ₁ s₁) (W : WStep K objs (Ows p.1 vals) ρ₁ s₁ ρ₂ s₂) : Step K C env ⟨p.2.vars, objs⟩ No ρ s ρ₂ s₂ := X.step.trans (X.step.rel.back W) fun b l o => X.new b o l
end
theorem lk_cons {α : Type} {x y : Str} {v : α} {r : List (Str × α)} : ((y, v) :: r).lookup x = if x = y then some v else r.lookup x := by
  rw [List.lookup_cons]
  by_cases h : x = y
  · subst h; rw [beq_self_eq_true, if_pos rfl]
  · rw [beq_false_of_ne h, if_neg h]
theorem lk_mem {α : Type} {x : Str} {v : α} : ∀ {r : List (Str × α)}, r.lookup x = some v → (x, v) ∈ r
  | (y, u) :: r, e => by
    rw [lk_cons] at e
    by_cases h : x = y
    · subst h; rw [if_pos rfl] at e; cases e; exact .head _
    · rw [if_neg h] at e; exact .tail _ (lk_mem e)
theorem scOk.kind {sc : Scope} (h : scOk sc = true) : sc.kind = .function := of_decide_eq_true (Bool.and_eq_true _ _ ▸ h : _ ∧ _).1
theorem scOk.mem {sc : Scope} (h : scOk sc = true) {n : Str} {k : NameKind} : (n, k) ∈ sc.names ↔ sc.names.lookup n = some k := ⟨fun q => of_decide_eq_true (List.all_eq_true.mp (Bool.and_eq_true _ _ ▸ h : _ ∧ sc.names.all (fun x => decide (sc.names.lookup x.1 = some x.2)) = true).2 _ q), lk_mem⟩
noncomputable def InjL (cs : List (Str × Addr)) : Prop := ∀ {x y c}, cs.lookup x = some c → cs.lookup y = some c → x = y
structure CS (names : List (Str × NameKind)) (h : Heap) (acc cs : List (Str × Addr)) (h' : Heap) : Prop where
  inj : InjL cs
  new : ∀ {x}, (x, .cell) ∈ names → ∃ c, cs.lookup x = some c ∧ h.objs.size ≤ c ∧ h'.IsCell c none
  old : ∀ {x}, (x, .cell) ∉ names → cs.lookup x = acc.lookup x
theorem cells_spec : ∀ (names : List (Str × NameKind)) (h : Heap) (acc : List (Str × Addr)), (∀ {x c}, acc.lookup x = some c → c < h.objs.size) → InjL acc → CS names h acc (cellsFrom h.objs.size names acc) (pushCells h names)
  | [], h, acc, hl, hi => ⟨hi, nofun, fun _ => rfl⟩
  | (nm, k) :: r, h, acc, hl, hi => by
    by_cases hk : k = .cell
    · subst hk
      have hs : (h.push { cls := .type "cell", data := .cell none }).objs.size = h.objs.size + 1 := Heap.size_push ..
      obtain ⟨a, b, c⟩ := cells_spec r (h.push { cls := .type "cell", data := .cell none }) ((nm, h.objs.size) :: acc)
        (fun {x c} q => by
          rw [lk_cons] at q; rw [hs]
          by_cases e : x = nm
          · rw [if_pos e] at q; cases q; exact Nat.lt_succ_self _
          · rw [if_neg e] at q; exact Nat.lt_succ_of_lt (hl q))
        (fun {x y c} p q => by
          rw [lk_cons] at p q
          by_cases e : x = nm <;> by_cases e' : y = nm
          · exact e.trans e'.symm
          · rw [if_pos e] at p; rw [if_neg e'] at q; cases p; exact absurd (hl q) (Nat.lt_irrefl _)
          · rw [if_neg e] at p; rw [if_pos e'] at q; cases q; exact absurd (hl p) (Nat.lt_irrefl _)
          · rw [if_neg e] at p; rw [if_neg e'] at q; exact hi p q)
      rw [hs] at a b c
      refine ⟨a, fun {x} q => ?_, fun {x} q => ?_⟩
      · by_cases m : (x, NameKind.cell) ∈ r
        · exact let ⟨c, h1, h2, h3⟩ := b m; ⟨c, h1, Nat.le_of_succ_le h2, h3⟩
        · obtain rfl : x = nm := (List.mem_cons.mp q).elim (fun e => (Prod.mk.inj e).1) fun e => absurd e m
          exact ⟨_, (c m).trans (lk_cons.trans (if_pos rfl)), Nat.le_refl _, _, pushCells_keeps r _ _ _ (Heap.get?_push_size _ rfl), rfl⟩
      · exact (c fun m => q (.tail _ m)).trans (lk_cons.trans (if_neg fun e => q (by subst e; exact .head _)))
    · obtain ⟨a, b, c⟩ := cells_spec r h acc hl hi
      have e1 : cellsFrom h.objs.size ((nm, k) :: r) acc = cellsFrom h.objs.size r acc := if_neg (by cases k <;> first | exact absurd rfl hk | decide)
      have e2 : pushCells h ((nm, k) :: r) = pushCells h r := if_neg (by cases k <;> first | exact absurd rfl hk | decide)
      rw [e1, e2]
      exact ⟨a, fun q => b ((List.mem_cons.mp q).elim (fun e => absurd (Prod.mk.inj e).2.symm hk) id), fun q => c fun m => q (.tail _ m)⟩
theorem localNames_mem {sc : Scope} (h : scOk sc = true) {x : Str} : x ∈ localNames sc ↔ sc.names.lookup x = some .local ∨ sc.names.lookup x = some .cell := by
  unfold localNames
  rw [List.mem_filterMap]
  constructor
  · rintro ⟨⟨n, k⟩, hm, hk⟩
    have := (scOk.mem h).mp hm
    cases k <;> cases hk
    · exact .inl this
    · exact .inr this
  · rintro (q | q)
    · exact ⟨_, lk_mem q, rfl⟩
    · exact ⟨_, lk_mem q, rfl⟩
theorem lookup_nones : ∀ (l : List Str) (r : Vars) (x : Str), ((l.map fun x => (x, (none : Option V))) ++ r).lookup x = if x ∈ l then some none else r.lookup x
  | [], r, x => (if_neg List.not_mem_nil).symm
  | y :: l, r, x => by
    rw [List.map_cons, List.cons_append, lk_cons, lookup_nones l r x]
    by_cases h : x = y
    · subst h; rw [if_pos rfl, if_pos (.head _)]
    · rw [if_neg h]; simp [h]
open Classical in
noncomputable def Rho.frame (ρ : Rho) (L : Addr) (cs : List (Str × Addr)) : Rho := ⟨fun b => if b = L ∨ ∃ x, cs.lookup x = some b then .frm else ρ.k b, ρ.c⟩
noncomputable def VsOK (K : Ctx0) (C : Cx) (cl : List (Str × Addr)) (h : Heap) (ρ : Rho) (vs : Vars) : Prop := ∀ {x ov}, vs.lookup x = some ov → ((C.sc.names.lookup x = some .local ∨ C.sc.names.lookup x = some .cell) ∧ ov = none) ∨ (C.sc.names.lookup x = some .free ∧ ∃ c w, cl.lookup x = some c ∧ h.IsCell c w ∧ OR K h ρ ov w)
structure NF (K : Ctx0) (C : Cx) (env : Env) (st : St) (ρ ρ₁ : Rho) (s s₁ : Shared) : Prop where
  rel : Rel K C env st ρ₁ s₁
  mv : Mv No No ρ ρ₁ s.heap s₁.heap
  new : ∀ b, Live s.heap b → Fe C env b → False
  loc : ¬ Live s.heap env.locals
  one : InjL env.cells
  has : ∀ {x}, C.sc.names.lookup x = some .cell ∨ C.sc.names.lookup x = some .free → (env.cells.lookup x).isSome = true
theorem RelW.newFrame {K : Ctx0} {objs : Objs} {ρ : Rho} {s : Shared} (W : RelW K objs ρ s) {C : Cx} {env : Env} {vs : Vars} {cl : List (Str × Addr)} {cls : Value} {tk : Nat} (hsc : scOk C.sc = true) (hfr : ∀ {x}, C.sc.names.lookup x = some .free → (cl.lookup x).isSome = true)
    (hclo : ∀ {n c}, cl.lookup n = some c → ρ.k c = .frm ∧ ∃ w, s.heap.IsCell c w) (hinj : InjL cl) (hL : env.locals = s.heap.objs.size) (hcs : env.cells = cellsFrom (s.heap.objs.size + 1) C.sc.names cl) (hvs : VsOK K C cl s.heap ρ vs) :
    NF K C env ⟨vs, objs⟩ ρ (ρ.frame env.locals env.cells) s { s with heap := pushCells (s.heap.push { cls := cls, data := .dict #[] }) C.sc.names, toks := tk } := by
  have hs : (s.heap.push { cls := cls, data := .dict #[] }).objs.size = s.heap.objs.size + 1 := Heap.size_push ..
  obtain ⟨inj, new, old⟩ := cells_spec C.sc.names (s.heap.push { cls := cls, data := .dict #[] }) cl (fun q => by rw [hs]; exact Nat.lt_succ_of_lt (let ⟨_, w, i⟩ := hclo q; i.lt)) hinj
  rw [hs, ← hcs] at inj new old
  have up : Up s.heap (pushCells (s.heap.push { cls := cls, data := .dict #[] }) C.sc.names) := fun b o e => pushCells_keeps _ _ b o (Heap.get?_push_of_some _ e)
  have fo : (pushCells (s.heap.push { cls := cls, data := .dict #[] }) C.sc.names).Ns env.locals (fun _ => none) := hL ▸ (Heap.Ns.new s.heap cls).keeps (pushCells_keeps _ _)
  have nL : ¬ Live s.heap env.locals := hL ▸ not_live_size
  have newC : ∀ {x c}, env.cells.lookup x = some c → (ρ.k c = .frm ∧ ∃ w, s.heap.IsCell c w) ∨ (¬ Live s.heap c ∧ (pushCells (s.heap.push { cls := cls, data := .dict #[] }) C.sc.names).IsCell c none) := fun {x c} q => by
    by_cases m : (x, NameKind.cell) ∈ C.sc.names
    · obtain ⟨c', h1, h2, h3⟩ := new m
      rw [q] at h1; cases h1
      exact .inr ⟨not_live_ge (Nat.le_of_succ_le h2), h3⟩
    · exact .inl (hclo ((old m).symm.trans q))
  have cel : ∀ {x c}, env.cells.lookup x = some c → ∃ w, (pushCells (s.heap.push { cls := cls, data := .dict #[] }) C.sc.names).IsCell c w := fun q => (newC q).elim (fun z => let ⟨w, i⟩ := z.2; ⟨w, i.keeps up⟩) fun z => ⟨_, z.2⟩
  have kf : ∀ {b}, b = env.locals ∨ (∃ x, env.cells.lookup x = some b) → (ρ.frame env.locals env.cells).k b = .frm := fun q => if_pos q
  have kn : ∀ {b}, ¬ (b = env.locals ∨ ∃ x, env.cells.lookup x = some b) → (ρ.frame env.locals env.cells).k b = ρ.k b := fun q => if_neg q
  have ke : ∀ b, Live s.heap b → (ρ.frame env.locals env.cells).k b = ρ.k b := fun b l => by
    by_cases q : b = env.locals ∨ ∃ x, env.cells.lookup x = some b
    · obtain rfl | ⟨x, e⟩ := id q
      · exact absurd l nL
      · exact (kf q).trans ((newC e).elim (fun z => z.1.symm) fun z => absurd l z.1)
    · exact kn q
  have nc : ∀ {b i}, (ρ.frame env.locals env.cells).k b = .cell i → ρ.k b = .cell i := fun {b i} e => by
    by_cases q : b = env.locals ∨ ∃ x, env.cells.lookup x = some b
    · rw [kf q] at e; cases e
    · rwa [kn q] at e
  have M : Mv No No ρ (ρ.frame env.locals env.cells) s.heap (pushCells (s.heap.push { cls := cls, data := .dict #[] }) C.sc.names) := .grow (fun _ q => q.elim) up ke fun i a q => ⟨q.1, (ke a (W.kl (by rw [q.2]; nofun))).trans q.2⟩
  refine ⟨⟨W.mv (s' := { s with heap := pushCells (s.heap.push { cls := cls, data := .dict #[] }) C.sc.names, toks := tk }) M (W.store.same M (fun _ b o _ e => up b o e) fun q => W.store.lt (nc q)) (fun {b} n => ?_) rfl rfl, ⟨kf (.inl rfl), ⟨_, fo, fun {x ov} hx => ?_⟩, fun {x c} hc => ⟨kf (.inr ⟨x, hc⟩), cel hc⟩⟩⟩, M, fun b l q => ?_, nL, inj, fun {x} hx => ?_⟩
  · by_cases q : b = env.locals ∨ ∃ x, env.cells.lookup x = some b
    · obtain rfl | ⟨x, e⟩ := q
      · exact let ⟨o, _, _, e, _⟩ := fo; ⟨o, e⟩
      · exact let ⟨w, o, e, _⟩ := cel e; ⟨o, e⟩
    · exact M.live (W.kl fun e => n ((kn q).trans e)) id
  · rcases hvs hx with ⟨hk, rfl⟩ | ⟨hk, c, w, hc, hi, ho⟩
    · refine ⟨fun _ => rfl, fun q => ?_⟩
      obtain ⟨c, h1, _, h3⟩ := new ((scOk.mem hsc).mpr (q.elim id fun q => by rw [q] at hk; exact hk.elim nofun nofun))
      exact ⟨c, none, h1, h3, rfl⟩
    · exact ⟨fun q => (by rw [hk] at q; cases q), fun _ => ⟨c, w, (old fun q => by rw [(scOk.mem hsc).mp q] at hk; cases hk).trans hc, hi.keeps up, ho.mv M⟩⟩
  · rcases q with rfl | ⟨x, hk, hx⟩
    · exact nL l
    · obtain ⟨c', h1, h2, _⟩ := new ((scOk.mem hsc).mpr hk)
      rw [hx] at h1; cases h1
      exact not_live_ge (Nat.le_of_succ_le h2) l
  · rcases hx with hx | hx
    · obtain ⟨c, h1, _⟩ := new ((scOk.mem hsc).mpr hx); rw [h1]; rfl
    · rw [old fun q => by rw [(scOk.mem hsc).mp q] at hx; cases hx]; exact hfr hx
end Mine
end
section
open PySem PySem.W PyProof.Rows
namespace Mine
noncomputable def FlowOK (K : Ctx0) (h₀ h : Heap) (ρ : Rho) (fl : Fl) (f : Flow) : Prop := match fl with
  | .next => f = .next
  | .brk => f = .brk
  | .cont => f = .cont
  | .ret v => ∃ val, f = .ret val ∧ VR K h ρ v val ∧ ∀ a, Ow v val a → ¬ Live h₀ a
structure FP (K : Ctx0) (C : Cx) (env : Env) (p : Fl × St) (ρ : Rho) (s : Shared) (f : Flow) (ρ' : Rho) (s' : Shared) : Prop where
  step : Step K C env p.2 No ρ s ρ' s'
  flow : FlowOK K s.heap s'.heap ρ' p.1 f
noncomputable def PostF (K : Ctx0) (C : Cx) (env : Env) (P : Fl × St → Prop) (ρ : Rho) (s : Shared) (Q : Flow → Shared → Prop) : Prop := ∀ p f ρ' s', P p → FP K C env p ρ s f ρ' s' → Q f s'
section
variable {K : Ctx0} {C : Cx} {env : Env} {st st₁ : St} {P : Fl × St → Prop} {ρ ρ₁ ρ₂ : Rho} {s s₁ s₂ : Shared} {Q : Flow → Shared → Prop}
theorem FP.aft {p : Fl × St} {f : Flow} (S : Step K C env st No ρ s ρ₁ s₁) (X : FP K C env p ρ₁ s₁ f ρ₂ s₂) : FP K C env p ρ s f ρ₂ s₂ := by
  refine ⟨S.aft X.step, ?_⟩
  have := X.flow
  revert this
  cases p.1 with
  | ret v => exact fun ⟨val, e, r, n⟩ => ⟨val, e, r, fun a o l => n a o (S.mv.live l id)⟩
  | _ => exact id
theorem PostF.aft (h : PostF K C env P ρ s Q) (S : Step K C env st No ρ s ρ₁ s₁) : PostF K C env P ρ₁ s₁ Q := fun p f ρ' s' e X => h p f ρ' s' e (X.aft S)
theorem PostF.next (h : PostF K C env P ρ s Q) (S : Step K C env st No ρ s ρ₁ s₁) (e : P (.next, st)) : Q .next s₁ := h (.next, st) _ _ _ e ⟨S, rfl⟩
end
section
variable (prog : Program) (w : World) (G : Env') (K : Ctx0)
noncomputable def SX (n : Nat) (C : Cx) (f : Stmt → St → Option (Fl × St)) : Prop := ∀ {b st P}, Hd (f b st) P → ∀ {A s ρ env Q E}, AOK A n → EnvOK K C env → Rel K C env st ρ s → PostF K C env P ρ s Q → wpAny (model prog w) A (exec b env) Q E s
structure FnOK (F : Fn) (a : Addr) (o : Obj) (fd : FuncData) : Prop where
  at_ : K.h₀.get? a = some o
  data : o.data = .func fd
  scope : fd.scope = F.scope
  body : fd.body = .stmts F.body
  clo : fd.closure = []
  glob : fd.globals = K.gl
  bui : fd.builtins = builtinsNs
  code : K.h₀.CodeRec fd.code fd.qualname
  noco : fd.scope.isCoroutine = false
  nogen : fd.scope.isGenerator = false
  ok : scOk F.scope = true
  nofree : ∀ {x}, F.scope.names.lookup x ≠ some .free
  cls : o.cls = .type "function"
  bind : ∀ {objs ρ s vs ks vals kvals} {P : List (Str × V) → Prop}, RelW K objs ρ s → VRs K s.heap ρ (vs ++ ks.map Prod.snd) (vals ++ kvals) → vals.length = vs.length → kvals.length = ks.length → Hd (bindFn F vs ks) P → ∀ {A E} {Q : List (Str × Value) → Shared → Prop},
    (∀ bs bvals ρ' s', P bs → WStep K objs No ρ s ρ' s' → VRs K s'.heap ρ' (bs.map Prod.snd) bvals → (∀ a, Ows (bs.map Prod.snd) bvals a → Ows (vs ++ ks.map Prod.snd) (vals ++ kvals) a) → Q ((bs.map Prod.fst).zip bvals) s') → wpAny (model prog w) A (bindArgs fd ⟨vals, (ks.map Prod.fst).zip kvals⟩) Q E s
structure Defs (fa : Str → Addr) : Prop where
  lim : K.h₀.NoLimit
  fns : ∀ {f F}, G.fn f = some F → ∃ o fd, FnOK prog w K F (fa f) o fd
noncomputable def PostC (P : V × Objs → Prop) (ow : Addr → Prop) (ρ : Rho) (s : Shared) (Q : Value → Shared → Prop) : Prop := ∀ p val ρ' s', P p → WStep K p.2 ow ρ s ρ' s' → VR K s'.heap ρ' p.1 val → (∀ a, Ow p.1 val a → ¬ Live s.heap a) → Q val s'
noncomputable def SC (fa : Str → Addr) (n : Nat) (f : Str → List V → List (Str × V) → Objs → Option (V × Objs)) : Prop := ∀ {g vs ks o P}, Hd (f g vs ks o) P → (∃ F, G.fn g = some F) ∧
  ∀ {A s ρ vals kvals Q E}, AOK A n → RelW K o ρ s → VRs K s.heap ρ (vs ++ ks.map Prod.snd) (vals ++ kvals) → vals.length = vs.length → kvals.length = ks.length → PostC K P (Ows (vs ++ ks.map Prod.snd) (vals ++ kvals)) ρ s Q → wpAny (model prog w) A (PySem.call (.ref (fa g)) vals ((ks.map Prod.fst).zip kvals)) Q E s
end
section
variable {prog : Program} {w : World} {G : Env'} {K : Ctx0} {A : Around} {E : Value → Shared → Prop} {C : Cx} {env : Env} {n : Nat}
theorem wp_exs {f : Stmt → St → Option (Fl × St)} (X : SX prog w K n C f) (hA : AOK A n) (O : EnvOK K C env) : ∀ (b : List Stmt) {st P s ρ Q}, Hd (exs f b st) P → Rel K C env st ρ s → PostF K C env P ρ s Q → wpAny (model prog w) A (execs b env) Q E s
  | [], _, _, _, _, _, e, R, h => wpAny_execs_nil (h.next R.at0 e)
  | x :: b, _, _, _, _, _, e, R, h => wpAny_execs_cons (X (Hd.b e) hA O R fun p f ρ₁ s₁ e Y => by
      obtain ⟨fl, st₁⟩ := p
      have S := Y.step
      have fw := Y.flow
      cases fl with
      | next => cases (fw : f = _); exact wp_exs X hA O b e S.rel (h.aft S)
      | brk => cases (fw : f = _); exact h _ _ _ _ e Y
      | cont => cases (fw : f = _); exact h _ _ _ _ e Y
      | ret v => obtain ⟨val, rfl, -⟩ := fw; exact h _ _ _ _ e Y)
theorem fold_hd {bs : List (Str × V)} {P : St → Prop} : ∀ {x : Option St}, Hd (bs.foldl (fun (s : Option St) (b : Str × V) => s.bind fun st => bindN C b.1 b.2 st) x) P → Hd x fun st => Hd (bs.foldl (fun (s : Option St) (b : Str × V) => s.bind fun st => bindN C b.1 b.2 st) (some st)) P
  | some _, h => h
  | none, h => by
    induction bs with
    | nil => exact h
    | cons b bs ih => exact absurd (ih h) id
theorem wp_binds (O : EnvOK K C env) (f : Str × Value → PUnit → Sem (ForInStep PUnit)) (hf : ∀ n v u, f (n, v) u = (do storeName env n v; pure (.yield ⟨⟩))) : ∀ (bs : List (Str × V)) {vals st P ρ s} {Q : PUnit → Shared → Prop}, Rel K C env st ρ s →
    Hd (bs.foldl (fun (s : Option St) (b : Str × V) => s.bind fun st => bindN C b.1 b.2 st) (some st)) P → VRs K s.heap ρ (bs.map Prod.snd) vals →
    (∀ st' ρ' s', P st' → Step K C env st' (Ows (bs.map Prod.snd) vals) ρ s ρ' s' → (∀ b, Live s.heap b → Live s'.heap b) → Q ⟨⟩ s') → wpAny (model prog w) A (forIn ((bs.map Prod.fst).zip vals) ⟨⟩ f) Q E s
  | [], _, st, _, ρ, s, _, R, e, rs, h => wpAny_pure (h st ρ s e (R.stay fun b o => (VRs.own rs o).1) fun _ l => l)
  | (x, v) :: bs, _, _, _, _, _, _, R, e, rs, h => by
    have own := fun b o => (VRs.own rs (b := b) o).1
    obtain ⟨rfl, a, r, d⟩ := rs
    show wpAny _ A (forIn ((x, _) :: (bs.map Prod.fst).zip _) _ _) _ E _
    rw [List.forIn_cons, hf]
    exact wpAny_bind (wpAny_bind (wp_bindN O R (fold_hd e : Hd (bindN C x v _) _) a fun st₁ ρ₁ s₁ e S l => wpAny_pure (wp_binds O f hf bs S.rel e (r.mv S.mv fun b o o' => d b o' o) fun st' ρ' s' e S' l' =>
      h st' ρ' s' e ((S.more own fun _ => .inl).trans S' fun _ _ => .inr) fun b q => l' b (l b q))))
theorem wp_newFn {objs : Objs} {ρ : Rho} {s : Shared} (W : RelW K objs ρ s) {cl : List (Str × Addr)} {qual : Str} {func : Option Addr} {code : Value} {around : Option Env} {builtins : Addr} {vs : Vars} {bs : List (Str × V)} {vals : List Value} {P : St → Prop} {Q : Env → Shared → Prop}
    (hsc : scOk C.sc = true) (hfr : ∀ {x}, C.sc.names.lookup x = some .free → (cl.lookup x).isSome = true) (hclo : ∀ {n c}, cl.lookup n = some c → ρ.k c = .frm ∧ ∃ w, s.heap.IsCell c w) (hinj : InjL cl) (hbu : (match around with | none => builtins | some o => o.builtins) = builtinsNs) (hvs : VsOK K C cl s.heap ρ vs)
    (e : Hd (bs.foldl (fun (s : Option St) (b : Str × V) => s.bind fun st => bindN C b.1 b.2 st) (some ⟨vs, objs⟩)) P) (rs : VRs K s.heap ρ (bs.map Prod.snd) vals)
    (h : ∀ env st' ρ₁ s₁ ρ' s', P st' → EnvOK K C env → NF K C env ⟨vs, objs⟩ ρ ρ₁ s s₁ → Step K C env st' (Ows (bs.map Prod.snd) vals) ρ₁ s₁ ρ' s' → (∀ b, Live s₁.heap b → Live s'.heap b) → Q env s') :
    wpAny (model prog w) A (newFunctionEnv C.sc K.gl cl ((bs.map Prod.fst).zip vals) qual func code around builtins) Q E s := by
  unfold newFunctionEnv
  refine wpAny_bind (wpAny_alloc ?_)
  refine wpAny_bind (wpAny_layCells _ (fun name kind cells => by cases hkc : kind == NameKind.cell <;> simp [hkc]) _ _ _ _ ?_)
  have hs : ({ s with heap := s.heap.push { cls := .type (if around.isSome then "dict" else "frame"), data := .dict #[] } } : Shared).heap.objs.size = s.heap.objs.size + 1 := Heap.size_push ..
  rw [hs]
  have N := W.newFrame (C := C) (vs := vs) (cl := cl) (cls := .type (if around.isSome then "dict" else "frame")) (tk := s.toks)
    (env := newEnv C.sc s.heap.objs.size K.gl (cellsFrom (s.heap.objs.size + 1) C.sc.names cl) qual func code around builtins) hsc hfr hclo hinj (by cases around <;> rfl) (by cases around <;> rfl) hvs
  have O : EnvOK K C (newEnv C.sc s.heap.objs.size K.gl (cellsFrom (s.heap.objs.size + 1) C.sc.names cl) qual func code around builtins) := by
    refine ⟨?_, ?_, ?_, fun hx => .inl ?_, N.one, N.has⟩
    · cases around <;> exact scOk.kind hsc
    · cases around <;> rfl
    · cases around <;> exact hbu
    · cases around <;> exact hx
  exact wpAny_bind (wp_binds O _ (fun n v u => by cases around <;> rfl) bs N.rel e (rs.mv N.mv fun _ _ q => q) fun st' ρ' s' e S l => wpAny_pure (by cases around <;> exact h _ _ _ _ _ _ e O N S l))
theorem AOK.deeper {A : Around} (a : AOK A (n + 1)) (env : Env) : AOK (A.deeper env) n := ⟨a.hand, by have := a.depth; show A.depth + 1 + _ + _ < _; omega, by have := a.units; simp only [Around.deeper_units]; omega⟩
theorem call_body {F : Fn} {a : Addr} {ob : Obj} {fd : FuncData} {vs : List V} {ks : List (Str × V)} {o : Objs} {ρ : Rho} {s : Shared} {vals kvals : List Value} {P : V × Objs → Prop} {P₀ : St → Prop} {P₁ : Fl × St → Prop} {Q : Value → Shared → Prop} (lim : K.h₀.NoLimit) (FO : FnOK prog w K F a ob fd) (hA : AOK A (n + 1)) (W : RelW K o ρ s)
    (rs : VRs K s.heap ρ (vs ++ ks.map Prod.snd) (vals ++ kvals)) (hl : vals.length = vs.length) (hkl : kvals.length = ks.length) (h : Hd (bindFn F vs ks) fun bs => Hd (bindAs F bs o) P₀)
    (X : ∀ {A st env s ρ Q E}, P₀ st → AOK A n → EnvOK K ⟨F.scope, F.mv⟩ env → Rel K ⟨F.scope, F.mv⟩ env st ρ s → PostF K ⟨F.scope, F.mv⟩ env P₁ ρ s Q → wpAny (model prog w) A (execs F.body env) Q E s)
    (hP : ∀ p, P₁ p → Hd (p.1.val.map fun v => (v, p.2.objs)) P) (hQ : PostC K P (Ows (vs ++ ks.map Prod.snd) (vals ++ kvals)) ρ s Q) : wpAny (model prog w) A (PySem.call (.ref a) vals ((ks.map Prod.fst).zip kvals)) Q E s := by
  refine wpAny_call (codeAny_call_function (by have := hA.depth; show _ < 1000; omega) (W.base FO.at_).2 FO.data FO.noco FO.nogen FO.body (FO.code.keeps fun _ _ e => (W.base e).2) ?_)
  refine FO.bind W rs hl hkl h fun bs bvals ρ₁ s₁ h WS brs hos => ?_
  rw [FO.clo, FO.glob, FO.scope]
  have hvs : VsOK K ⟨F.scope, F.mv⟩ [] s₁.heap ρ₁ ((localNames F.scope).map fun x => (x, none)) := fun {x ov} hx => by
    rw [← List.append_nil ((localNames F.scope).map _), lookup_nones] at hx
    split at hx
    · rename_i q; cases hx; exact .inl ⟨(localNames_mem FO.ok).mp q, rfl⟩
    · cases hx
  refine wp_newFn (C := ⟨F.scope, F.mv⟩) WS.rel FO.ok (fun hx => absurd hx FO.nofree) nofun (fun q => nomatch q) FO.bui hvs h brs fun env st₀ ρ₂ s₂ ρ₃ s₃ h O N S lS => ⟨lim.keeps fun _ _ e => (S.rel.w.base e).2, codeAny_func ?_⟩
  have own : ∀ b, Ows _ _ b → ρ.k b = .hid := fun b o => (rs.own o).1
  have fin : ∀ {st' ρ' s'}, Step K ⟨F.scope, F.mv⟩ env st' No ρ₃ s₃ ρ' s' → WStep K st'.objs (Ows (vs ++ ks.map Prod.snd) (vals ++ kvals)) ρ s ρ' s' := fun S' =>
    (WS.more own fun _ q => q.elim).trans ((S.aft S').out N.mv (fun b o => (brs.own o).1) (fun _ _ o => o) N.new) fun b _ o => hos b o
  refine X h (hA.deeper env) O S.rel fun p fw ρ' s' h Y => ?_
  have h := hP p h
  obtain ⟨fl, st'⟩ := p
  have flow := Y.flow
  cases fl with
  | next => cases (flow : fw = _); exact hQ (.d .none, st'.objs) _ _ _ h (fin Y.step) rfl fun _ q => q.elim
  | ret v => exact let ⟨val, e, r, nv⟩ := flow; e ▸ hQ (v, st'.objs) _ _ _ h (fin Y.step) r fun a q l => nv a q (lS a (N.mv.live (WS.mv.live l id) id))
  | _ => exact h.elim
theorem call_step {fa : Str → Addr} {f : Fs} (D : Defs prog w G K fa) (X : ∀ C, SX prog w K n C (f.ex C)) : SC prog w G K fa (n + 1) (callS G f) := fun {g vs ks o P} h =>
  (Hd.b h).get fun F hF h => ⟨⟨F, hF⟩, fun {A s ρ vals kvals Q E} hA W rs hl hkl hQ =>
    let ⟨ob, fd, FO⟩ := D.fns hF
    call_body (P₁ := fun p => Hd (p.1.val.map fun v => (v, p.2.objs)) P) D.lim FO hA W rs hl hkl ((Hd.b h).get fun bs hb e => .of hb (Hd.b e)) (fun e hA O R hQ => wp_exs (X _) hA O F.body (Hd.b e) R hQ) (fun _ e => e) hQ⟩
end
end Mine
end
section
open PySem PySem.W PyProof.Rows
namespace Mine
inductive PatOK (h : Heap) (a : Addr) (code : Array Nat) : Prop where
  | mk {o : Obj} {vs : Array Value} {c : Addr} {oc : Obj} {its : Array Value} {n : Nat} (g : h.get? a = some o) (k : o.cls = .type "re.Pattern") (dn : o.dict = none) (d : o.data = .fields vs) (e5 : vs.getD 5 .none = .ref c) (gc : h.get? c = some oc) (dc : oc.data = .seq its n)
    (ei : its.map (fun v => (Builtin.Re.reRawOf v).toNat) = code) (e6 : Builtin.Re.reRawNat (vs.getD 6 .none) = 0) : PatOK h a code
theorem PatOK.keeps {h h' : Heap} {a code} (p : PatOK h a code) (k : Up h h') : PatOK h' a code := let ⟨a, b, c, d, e, f, g, i, j⟩ := p; ⟨k _ _ a, b, c, d, e, k _ _ f, g, i, j⟩
noncomputable def nameCode : Array Nat := #[14, 10, 4, 1, 1, 22, 0, 31, 16, 127, 0, 13, 7, 22, 0, 31, 16, 127, 0, 1]
noncomputable def valueCode : Array Nat := #[14, 14, 4, 1, 1, 9, 4294966783, 0, 0, 2147483648, 0, 0, 0, 0, 0, 13, 11, 9, 4294966783, 0, 0, 2147483648, 0, 0, 0, 0, 0, 1]
theorem name_no {c : Nat} (h1 : 32 ≤ c) (h2 : c ≠ 127) (seen : Sre.Seen) : ∃ s', Sre.inSet nameCode c 20 5 true seen = .ok (false, s') :=
  ⟨_, Eq.trans (b := ite ((decide (0 ≤ c) && decide (c ≤ 31)) = true) (.ok (true, seen.add 22)) (Sre.inSet nameCode c 19 8 true (seen.add 22))) rfl ((if_neg fun q => absurd (of_decide_eq_true (Bool.and_eq_true _ _ ▸ q : _ ∧ _).2) (Nat.not_le.mpr h1)).trans
    (Eq.trans (b := ite ((c == 127) = true) (.ok (true, (seen.add 22).add 16)) (Sre.inSet nameCode c 18 10 true ((seen.add 22).add 16))) rfl ((if_neg fun q => h2 (eq_of_beq q)).trans rfl)))⟩
theorem value_bits : ∀ c : Fin 256, 32 ≤ c.val → c.val ≠ 127 → (valueCode.getD (5 + (1 + c.val / 32)) 0).testBit (c.val % 32) = false := by decide +kernel
theorem value_no {c : Nat} (h1 : 32 ≤ c) (h2 : c ≠ 127) (seen : Sre.Seen) : ∃ s', Sre.inSet valueCode c 28 5 true seen = .ok (false, s') :=
  ⟨_, Eq.trans (b := ite ((decide (c < 256) && (valueCode.getD (5 + (1 + c / 32)) 0).testBit (c % 32)) = true) (.ok (true, seen.add 9)) (Sre.inSet valueCode c 27 14 true (seen.add 9))) rfl ((if_neg fun q =>
    have q := (Bool.and_eq_true _ _ ▸ q : _ ∧ _)
    absurd (q.2.symm.trans (value_bits ⟨c, of_decide_eq_true q.1⟩ h1 h2)) nofun).trans rfl)⟩
noncomputable def Refuses (code : Array Nat) (c : Nat) : Prop := ∀ seen, ∃ s', Sre.inSet code c code.size 5 true seen = .ok (false, s')
theorem admitted_none (m : Sre.M) (h : ∀ i, i < m.lim → Refuses m.code (m.text.getD i 0)) : ∀ (fuel s : Nat) (seen : Sre.Seen), ∃ s', Sre.M.admitted m fuel s seen = .ok (none, s')
  | 0, s, seen => ⟨seen, rfl⟩
  | fuel + 1, s, seen => by
    rw [Sre.M.admitted]
    by_cases hs : s ≥ m.lim
    · exact ⟨_, if_pos hs⟩
    · obtain ⟨s', e⟩ := h s (Nat.lt_of_not_le hs) seen
      rw [if_neg hs, e]
      exact admitted_none m h fuel (s + 1) s'
noncomputable def endM (m : Sre.M) : Sre.M := Sre.M.say { m with frames := [], outcome := none } false
theorem endM_of (m : Sre.M) (h1 : m.frames = []) (h2 : m.outcome = none) : Sre.M.say m false = endM m := by unfold endM; rw [← h1, ← h2]
theorem attemptFrom_no (m : Sre.M) (hf : m.hasFirstSet = true) (h : ∀ i, i < m.lim → Refuses m.code (m.text.getD i 0)) (h1 : m.frames = []) (h2 : m.outcome = none) : ∃ m', m.attemptFrom 0 true = endM m' := by
  obtain ⟨s', e⟩ := admitted_none m h (m.lim + 1 - 0) 0 m.seen
  refine ⟨{ m with seen := s' }, ?_⟩
  unfold Sre.M.attemptFrom endM
  rw [hf, e, ← h1, ← h2]
  rfl
theorem search_no {code text : Array Nat} {groups lim : Nat} (hc : code = nameCode ∨ code = valueCode) (h : ∀ i, i < lim → Refuses code (text.getD i 0)) : ∃ m, Sre.forSearch code text groups 0 lim false = endM m := by
  unfold Sre.forSearch
  dsimp only
  split
  · exact ⟨_, endM_of _ rfl rfl⟩
  · rcases hc with rfl | rfl <;> exact attemptFrom_no _ rfl h rfl rfl
theorem run_no (m : Sre.M) : ((endM m).runFor Builtin.Re.reTurnSteps).outcome = some .failed := rfl
namespace Pt
theorem plainAttrs : PlainAttrs "re.Pattern" :=
  ⟨⟨"object.__getattribute__", by rw [typeLookup_type, builtinLookup_eq_fast]; rfl', by decide +kernel⟩, by rw [typeLookup_type, builtinLookup_eq_fast]; rfl'⟩
theorem slot : Slot "re.Pattern" "search" "re.Pattern.search" :=
  .of (owner := "re.Pattern") (n := "search") (by rw [typeLookup_type, builtinLookup_eq_fast]; rfl') (by decide +kernel) (by decide +kernel) (by decide +kernel)
    (by first | exact .inl (by decide +kernel) | exact .inr (by decide +kernel)) (by rw [isSubtype_type]; rfl')
theorem ty : typeOf (.builtin "re.Pattern.search") = pure (.type "method_descriptor") := by show builtinType _ = _; rw [builtinType_eq_fast]; rfl'
theorem entry : entryFor table "re.Pattern.search" = some Builtin.«re.Pattern.search» := entryFor_of_tree (by rfl')
theorem args (a b : Value) : argsOk "re.Pattern.search" ⟨[a, b], []⟩ := by
  unfold argsOk; rfl'
end Pt
section
variable {prog : Program} {w : World} {A : Around} {E : Value → Shared → Prop}
theorem wp_rules {M : Model} (f : Nat → PUnit → Sem (ForInStep PUnit)) (hf : ∀ i u, (∃ s, f i u = (do rule s; pure (.yield ⟨⟩))) ∨ f i u = pure (.yield ⟨⟩)) : ∀ (l : List Nat) {s : Shared} {Q : PUnit → Shared → Prop}, Q ⟨⟩ s → wpAny M A (forIn l ⟨⟩ f) Q E s
  | [], s, Q, h => wpAny_pure h
  | i :: l, s, Q, h => by
    rw [List.forIn_cons]
    rcases hf i ⟨⟩ with ⟨r, e⟩ | e <;> rw [e]
    · exact wpAny_bind (wpAny_bind (wpAny_rule (wpAny_pure (wp_rules f hf l h))))
    · exact wpAny_bind (wpAny_pure (wp_rules f hf l h))
theorem drive_no (m : Sre.M) : Builtin.Re.reDrive (18446744073709551615 + 1) (endM m) = pure ((endM m).runFor Builtin.Re.reTurnSteps) := by
  rw [Builtin.Re.reDrive]
  exact if_pos (congrArg Option.isSome (run_no m))
theorem wp_runToEnd {M : Model} {m : Sre.M} {s : Shared} {Q : Option Sre.M → Shared → Prop} (h : Q none s) : wpAny M A (Builtin.Re.reRunToEnd (endM m)) Q E s := by
  unfold Builtin.Re.reRunToEnd
  refine wpAny_bind (m := Builtin.Re.reDrive (2 ^ 64) (endM m)) (wpAny_of_eq (drive_no m) ?_)
  refine wpAny_bind (wp_rules _ (fun i u => ?_) _ ?_)
  · by_cases hq : ((endM m).runFor Builtin.Re.reTurnSteps).seen.has i = true
    · exact .inl ⟨_, if_pos hq⟩
    · exact .inr (if_neg hq)
  · rw [run_no]; exact wpAny_pure h
theorem wp_search {a : Addr} {code : Array Nat} {x : Str} {t : Tok} {s : Shared} {Q : Value → Shared → Prop} (hp : PatOK s.heap a code) (hc : code = nameCode ∨ code = valueCode) (hx : ((strL x).all fun c => decide (32 ≤ c) && c != 127) = true) (h : Q .none s) :
    wpAny (model prog w) A (PySem.call (.builtin "re.Pattern.search") [.ref a, .str x t]) Q E s := by
  obtain @⟨o, vs, c, oc, its, n, h1, h2, h3, h4, h5, h6, h7, h8, h9⟩ := hp
  refine wpAny_call_entry Pt.slot ⟨o, h1, h2⟩ Pt.entry ?_ (Pt.args _ _)
  show wpAny _ _ (Builtin.Re.reTarget "re.Pattern.search" "search" ⟨[.ref a, .str x t], []⟩ >>= fun t => Builtin.Re.reAnswer t (Sre.forSearch t.code t.text t.groups t.pos t.lim false)) _ _ s
  refine wpAny_bind ?_
  unfold Builtin.Re.reTarget
  dsimp only
  refine wpAny_bind (wpAny_of_eq (show Builtin.Re.reNamed "re.Pattern.search" "search" ["string", "pos", "endpos"] 1 [Value.str x t] [] = pure [some (.str x t), none, none] from rfl) ?_)
  refine wpAny_bind (wpAny_pure (wpAny_bind (wpAny_pure (wpAny_bind (wpAny_fieldsOf h1 h4 (wpAny_bind (wpAny_of_eq (show Builtin.Re.reTextOf (.str x t) = pure (x.cps, 0) from rfl) ?_)))))))
  rw [h9]
  refine wpAny_bind (m := Builtin.Re.reNoCollectionInside (.str x t) 0) (wpAny_of_eq (show _ = pure () from rfl) ?_)
  refine wpAny_bind (m := Builtin.Re.reRawItems (vs.getD 5 .none)) ?_
  unfold Builtin.Re.reRawItems
  rw [h5]
  refine wpAny_bind (wpAny_seqItems h6 h7 (wpAny_pure (wpAny_pure ?_)))
  unfold Builtin.Re.reAnswer
  have hcode : (Array.map (fun x => x.toNat) (Array.map Builtin.Re.reRawOf ((some its).getD #[]))) = code := h8 ▸ Array.map_map
  dsimp only
  rw [hcode, show min (Int.toNat 0) x.cps.size = 0 from Nat.zero_min _]
  obtain ⟨m, e⟩ := search_no (groups := Builtin.Re.reRawNat (vs.getD 2 .none)) (lim := min (Int.toNat (2 ^ 63 - 1)) x.cps.size) (text := x.cps) hc fun i hi => by
    have hi' : i < x.cps.size := Nat.lt_of_lt_of_le hi (Nat.min_le_right _ _)
    have hm : x.cps.getD i 0 ∈ strL x := by
      rw [Array.getD_eq_getD_getElem?, Array.getElem?_eq_getElem hi', Option.getD_some]
      exact Array.mem_toList_iff.mpr (Array.getElem_mem _)
    have q := (Bool.and_eq_true _ _ ▸ List.all_eq_true.mp hx _ hm : _ ∧ _)
    have q1 := of_decide_eq_true q.1
    have q2 := bne_iff_ne.mp q.2
    rcases hc with rfl | rfl
    · exact name_no q1 q2
    · exact value_no q1 q2
  rw [e]
  exact wpAny_bind (wp_runToEnd (wpAny_pure ⟨_, rfl, h⟩))
end
end Mine
end
section
open PySem PySem.W PyProof.Rows
namespace Mine
structure Wd (prog : Program) (w : World) (K : Ctx0) (G : Env') (fa : Str → Addr) : Prop where
  N : Names K G
  D : Defs prog w G K fa
  fnName : ∀ {f F}, G.fn f = some F → isMeth f = false → K.gm f = some (.ref (fa f))
  co : ∀ {h : Heap} {T : Prop}, (∀ b o, K.h₀.get? b = some o → h.get? b = some o) → (∀ cN nm q bs sn sub col dd k0 k1 k2 k3 k5, h.get? K.cls = some (excClassObj nm q K.cls cN bs [.type "object"] true sn sub false col dd k0 k1 k2 k3 k5 "object.__new__") → h.Ns cN K.mN → T) → T
  nga : K.mN "__getattribute__" = none
  ngx : K.mN "__getattr__" = none
  nsa : K.mN "__setattr__" = none
  nhd : K.mN "_headers" = none
  meth : ∀ {m F}, G.fn ("Headers." ++ m) = some F → K.mN m = some (.ref (fa ("Headers." ++ m))) ∧ m ≠ "_headers" ∧ ∃ y, typeLookup (.type "object") m = pure y
  clsName : K.gm "Headers" = some (.ref K.cls)
  pat : ∀ b, PatOK K.h₀ (K.pa b) (if b then nameCode else valueCode)
  prim : ∀ {f g}, G.prim f = some g → ∃ a o fd, K.gm f = some (.ref a) ∧ K.h₀.get? a = some o ∧ o.data = .func fd ∧ ∀ {x y objs ρ s val A Q E}, g x = some y → AOK A 8 → RelW K objs ρ s → Rd (Fz s.heap ρ) x val →
    (∀ val' ρ' s', WStep K objs No ρ s ρ' s' → Rd (Fz s'.heap ρ') y val' → Q val' s') → wpAny (model prog w) A (PySem.call (.ref a) [val]) Q E s
  bui : ∀ {f b}, bTab.lookup f = some b → K.gm f = none ∧ K.bm f = some b.val
  sysm : ∃ o, K.h₀.get? sysModules = some o ∧ ∀ ep, o.data ≠ .dict #[] ep
  zip : K.gm "zip" = none ∧ K.bm "zip" = some (.type "zip")
section
variable {prog : Program} {w : World} {G : Env'} {K : Ctx0} {fa : Str → Addr} {A : Around} {E : Value → Shared → Prop} {C : Cx} {env : Env} {st st₁ : St} {ρ ρ₁ ρ₂ : Rho} {h : Heap} {s s₁ s₂ : Shared} {v : V} {val vo : Value} {vs : List V} {vals : List Value} {n : Nat} {f : Fs} {P : V × St → Prop} {Q : Value → Shared → Prop} {pos : Pos} {T : Prop} {m : Str} {i : Nat} {a : Addr}
theorem Rel.up0 (R : Rel K C env st ρ s) : Up K.h₀ s.heap := fun _ _ e => (R.w.base e).2
inductive IV (K : Ctx0) (h : Heap) (ρ : Rho) (a : Addr) (k : Option Nat) : Prop where
  | mk {mA : Str → Option Value} (I : h.Inst a K.cls mA) (hm : ∀ x : Str, x ≠ "_headers" → mA x = none) (hk : k.elim (∀ x, mA x = none) fun k => ∃ l, At ρ k l ∧ mA "_headers" = some (.ref l)) : IV K h ρ a k
theorem InstOK.iv {k : Option Nat} (ha : At ρ i a) (r : InstOK K h ρ i a k) : IV K h ρ a k := by
  obtain ⟨g, c, hd, nc, kd, hi⟩ := r
  have ne : ∀ {d}, ρ.k d = .dct i → d ≠ a := fun e q => by rw [q, ha.2] at e; cases e
  cases k with
  | none => exact ⟨⟨_, g, c, nc, .inr ⟨_, hd, ne kd, hi⟩⟩, fun _ _ => rfl, fun _ => rfl⟩
  | some k => exact let ⟨l, hl, hn⟩ := hi; ⟨⟨_, g, c, nc, .inr ⟨_, hd, ne kd, hn⟩⟩, fun x hx => if_neg hx, l, hl, if_pos rfl⟩
theorem instAt_ok {objs : Objs} {P : Option Nat → Prop} (S : Store K h ρ objs) (ha : At ρ i a) (e : Hd (instAt objs i) P) (k : ∀ k, P k → InstOK K h ρ i a k → T) : T :=
  e.b.get fun c hc e => by
    obtain ⟨a', q, r⟩ := S.ok hc
    obtain rfl : a' = a := q.1.symm.trans ha.1
    cases c with
    | list _ => exact e.elim
    | inst k' => exact k k' e r
theorem Hd.isSome {α : Type} {x : Option α} (h : x.isSome = true) : Hd x fun _ => True := by
  cases x with
  | none => cases h
  | some _ => trivial
theorem wp_getMeth (W : Wd prog w K G fa) {F : Fn} {pl : Sem Bool} {Q : Value × List Value → Shared → Prop} (R : Rel K C env st ρ s) (ha : At ρ i a) (hi : Hd (instAt st.objs i) fun _ => True) (hf : G.fn ("Headers." ++ m) = some F)
    (h : ∀ o fd, o.data = .func fd → K.h₀.get? (fa ("Headers." ++ m)) = some o → Q (.ref (fa ("Headers." ++ m)), [.ref a]) s) : wpAny (model prog w) A (getMethod (.ref a) m pl) Q E s := by
  obtain ⟨h1, h2, y, hy⟩ := W.meth hf
  obtain ⟨ob, fd, FO⟩ := W.D.fns hf
  refine instAt_ok R.w.store ha hi fun k _ r => W.co R.up0 fun _ _ _ _ _ _ _ _ _ _ _ _ _ hC hN => ?_
  obtain ⟨I, hm, -⟩ := r.iv ha
  exact method_of hC hN W.nga W.ngx h1 (R.up0 _ _ FO.at_) FO.cls hy I (hm m h2) (h ob fd FO.data FO.at_)
theorem wp_callObj {g : Str} {p : List V × St} {ks : List (Str × V)} {kvals : List Value} (IC : SC prog w G K fa n f.call) (hA : AOK A n) (Y : EPs K C env (p.1 ++ ks.map Prod.snd, p.2) ρ s (vals ++ kvals) ρ₁ s₁) (hl : vals.length = p.1.length) (hk : kvals.length = ks.length)
    (hv : At ρ₁ i a) (e : Hd (f.call g (.obj i :: p.1) ks p.2.objs) fun r => P (r.1, ⟨p.2.vars, r.2⟩)) (h : Post K C env P ρ s Q) : wpAny (model prog w) A (PySem.call (.ref (fa g)) (.ref a :: vals) ((ks.map Prod.fst).zip kvals)) Q E s₁ :=
  (IC e).2 hA Y.step.rel.w ⟨rfl, ⟨a, rfl, hv⟩, Y.vrs, fun _ q => q.elim⟩ (congrArg Nat.succ hl) hk fun r val ρ' s' e WS rv nv =>
    h.ep e ⟨Y.step.trans (Y.step.rel.back WS) fun b l o => o.elim id fun o => Y.new b o l, rv, fun b o l => nv b o (Y.step.mv.live l id)⟩
theorem wp_append {xs : List PyData} {x : PyData} (R : Rel K C env st ρ s) (ha : At ρ i a) {items : Array Value} {n : Nat} (g : s.heap.get? a = some (lObj items n)) (rr : Rds (Fz s.heap ρ) xs items.toList) (hx : xs.length < maxLen) (d : Rd (Fz s.heap ρ) x val)
    (e : P (.d .none, setCell i (.list (xs ++ [x])) st)) (h : Post K C env P ρ s Q) : wpAny (model prog w) A (PySem.call (.builtin "list.append") [.ref a, val]) Q E s := by
  have hz := rr.size
  have hm := maxLen_le
  refine wpAny_call_entry slot_list_append ⟨_, g, rfl⟩ entry_list_append ?_ (args_list_append _ _)
  show wpAny _ _ (updateSeq a (·.push val) >>= fun _ => ret .none) _ _ s
  obtain ⟨n', hd'⟩ : ∃ n', (lObj items n).mapSeq (·.push val) = lObj (items.push val) n' := ⟨_, rfl⟩
  refine wpAny_bind (wpAny_updateSeq g rfl (wpAny_pure ⟨.none, rfl, ?_⟩) (by omega) (by rw [Array.size_push]; omega))
  exact h.ep e ⟨R.setList (items := items.push val) (n := n') (t := s.toks) ha (Heap.SameBut.update ..) ((Heap.get?_update_self _ g (by rw [hd']; rfl)).trans (congrArg some hd')) (by rw [Array.toList_push]; exact rr.app (.one d)), rfl, fun _ q => q.elim⟩
theorem Hd.nilK {α β : Type} {l : List α} {k : Option β} {P : β → Prop} (h : Hd (Mine.nil l k) P) : l = [] ∧ Hd k P := h.nil fun q e => ⟨q, e⟩
theorem meth_facts {args : List Expr} {kws : List Keyword} {P : List V × St → List (Str × V) × St → Prop} (IE : SE prog w K n C (f.ev C)) (e : Hd (evs (f.ev C) args st) fun p => Hd (evKws (f.ev C) kws p.2) (P p)) : (backTo pos (starEach args env)).any (·.1) = false ∧ (backTo pos (starEach args env)).all (!·.1) = true ∧ KwOK (kwE pos kws env) kws :=
  have a := plain_args (env := env) (pos := pos) (fun e => (IE e).1) e
  ⟨a.1, a.2, e.get fun p _ e => kwOK e⟩
theorem kws_nil {f : Expr → St → Option (V × St)} {kws : List Keyword} {P : List (Str × V) × St → Prop} (e : Hd (evKws f kws st) P) (h : ∀ q, P q → q.1 = []) : kws = [] := by
  cases kws with
  | nil => rfl
  | cons k ks => exact (Hd.b e).get fun nm _ e => (Hd.b e).get fun p _ e => (Hd.m e).get fun q _ e => nomatch h _ e
theorem wp_methB {args : List Expr} {kws : List Keyword} {id : String} {P : List V × St → List (Str × V) × St → Prop} (IE : SE prog w K n C (f.ev C)) (e : Hd (evs (f.ev C) args st) fun p => Hd (evKws (f.ev C) kws p.2) (P p)) (hk : ∀ p q, P p q → q.1 = []) (hA : AOK A n) (O : EnvOK K C env) (R : Rel K C env st ρ s)
    (h : ∀ p vals ρ' s', P p ([], p.2) → EPs K C env p ρ s vals ρ' s' → wpAny (model prog w) A (PySem.call (.builtin id) (val :: vals)) Q E s') : wpAny (model prog w) A (callWith pos (.builtin id) [val] (backTo pos (starEach args env)) (kwE pos kws env)) Q E s := by
  obtain rfl : kws = [] := e.get fun p _ e => kws_nil e (hk p)
  exact Calls.callWith_builtin (meth_facts IE e).1 (wp_args IE e hA O R fun p vals ρ' s' e X => h p vals ρ' s' e X)
theorem wp_text {x : PyData} {args : List Expr} {kws : List Keyword} {pl : Sem Bool} (IE : SE prog w K n C (f.ev C)) (hr : recvOk st.objs m (.d x) = true) (e : Hd (evs (f.ev C) args st) fun p => Hd (evKws (f.ev C) kws p.2) fun q => Hd (methApp f m p.1 q.1 q.2 (.d x)) P) (r : Rd (Fz s.heap ρ) x val)
    (hA : AOK A n) (O : EnvOK K C env) (R : Rel K C env st ρ s) (h : Post K C env P ρ s Q) : wpAny (model prog w) A (getMethod val m pl) (fun x s₂ => wpAny (model prog w) A (callWith pos x.1 x.2 (backTo pos (starEach args env)) (kwE pos kws env)) Q E s₂) E s := by
  obtain ⟨hx, hm⟩ := Bool.and_eq_true _ _ ▸ hr
  cases x with
  | str y =>
    obtain ⟨t, rfl⟩ := r
    have hk : ∀ (p : List V × St) (q : List (Str × V) × St), Hd (methApp f m p.1 q.1 q.2 (.d (.str y))) P → q.1 = [] := fun p q e => (Hd.nilK (k := (callM q.2.objs y m p.1).map fun r => (r, q.2)) e).1
    rcases Bool.or_eq_true _ _ ▸ hm with hm | hm
    · obtain rfl := eq_of_beq hm
      exact getMethod_builtin (typeIs_str _ _ _) F.plainAttrs_str F.slot_str_lower F.type_str_lower nofun (wp_methB IE e hk hA O R fun p vals ρ' s' e X =>
        Hd.nil (Hd.m e) fun q e => Hd.gd e fun hl e => by
          have z : vals = [] := List.eq_nil_of_length_eq_zero (X.vrs.len.trans (congrArg List.length q))
          exact z ▸ wp_lower X.step.rel hl e (h.aft X.step))
    · obtain rfl := eq_of_beq hm
      exact getMethod_builtin (typeIs_str _ _ _) F.plainAttrs_str F.slot_str_join F.type_str_join nofun (wp_methB IE e hk hA O R fun p vals ρ' s' e X =>
        Hd.arg1 (Hd.m e) X.vrs fun a u z r e => z ▸ wp_join X.step.rel e r (h.aft X.step))
  | _ => cases hx
theorem wp_list {args : List Expr} {kws : List Keyword} {pl : Sem Bool} (IE : SE prog w K n C (f.ev C)) (hr : recvOk st.objs m (.hl i) = true) (e : Hd (evs (f.ev C) args st) fun p => Hd (evKws (f.ev C) kws p.2) fun q => Hd (methApp f m p.1 q.1 q.2 (.hl i)) P) (ha : At ρ i a)
    (hA : AOK A n) (O : EnvOK K C env) (R : Rel K C env st ρ s) (h : Post K C env P ρ s Q) : wpAny (model prog w) A (getMethod (.ref a) m pl) (fun x s₂ => wpAny (model prog w) A (callWith pos x.1 x.2 (backTo pos (starEach args env)) (kwE pos kws env)) Q E s₂) E s := by
  obtain ⟨hm, hi⟩ := Bool.and_eq_true _ _ ▸ hr
  obtain rfl := eq_of_beq hm
  refine listAt_ok R.w.store (Hd.isSome hi) fun a' xs items n _ q g d => ?_
  obtain rfl : a' = a := q.1.symm.trans ha.1
  refine Calls.getMethod_list_append g rfl rfl (wp_methB IE e (fun p q e => (Hd.nilK e).1) hA O R fun p vals ρ' s' e X => Hd.argW e X.vrs fun v u z r o e => Hd.data (Hd.b e) X.step.rel r fun y ρ₃ e S d => listAt_ok S.rel.w.store (Hd.b e) fun a₂ ys items₂ n₂ e q₂ g₂ d₂ => Hd.gd e fun hx e => ?_)
  have hat := S.mv.at_ i _ (X.step.mv.at_ i _ ha)
  obtain rfl : a₂ = a' := q₂.1.symm.trans hat.1
  exact z ▸ wp_append S.rel hat g₂ d₂ hx d e (h.aft (X.step.trans S fun b l q => X.new b (o b q) l))
theorem wp_patt (W : Wd prog w K G fa) {b : Bool} {args : List Expr} {kws : List Keyword} {pl : Sem Bool} (IE : SE prog w K n C (f.ev C)) (hr : recvOk st.objs m (.pat b) = true) (e : Hd (evs (f.ev C) args st) fun p => Hd (evKws (f.ev C) kws p.2) fun q => Hd (methApp f m p.1 q.1 q.2 (.pat b)) P)
    (hA : AOK A n) (O : EnvOK K C env) (R : Rel K C env st ρ s) (h : Post K C env P ρ s Q) : wpAny (model prog w) A (getMethod (.ref (K.pa b)) m pl) (fun x s₂ => wpAny (model prog w) A (callWith pos x.1 x.2 (backTo pos (starEach args env)) (kwE pos kws env)) Q E s₂) E s := by
  obtain rfl := eq_of_beq hr
  obtain ⟨g1, g2, g3, -⟩ := (W.pat b).keeps R.up0
  exact getMethod_builtin (T := "re.Pattern") ⟨_, g1, g2⟩ Pt.plainAttrs Pt.slot Pt.ty (fun a' q => by cases q; exact ⟨_, g1, g3⟩) (wp_methB IE e (fun p q e => (Hd.nilK e).1) hA O R fun p vals ρ' s' e X => Hd.arg1 e X.vrs fun v u z r e => Hd.str (Hd.b e) r fun y t q e => Hd.g e fun hall e =>
    z ▸ q ▸ wp_search ((W.pat b).keeps X.step.rel.up0) (by cases b <;> first | exact .inl rfl | exact .inr rfl) hall ((h.aft X.step).d (t := s'.toks) X.step.rel e rfl))
theorem wp_CallM (W : Wd prog w K G fa) {o : Expr} {apos : Pos} {args : List Expr} {kws : List Keyword} (IE : SE prog w K n C (f.ev C)) (IC : SC prog w G K fa n f.call) (e : Hd (evCallM f C o m apos args kws pos st) P) (hA : AOK A n) (O : EnvOK K C env) (R : Rel K C env st ρ s) (h : Post K C env P ρ s Q) :
    wpAny (model prog w) A (eval (.Call (.Attribute o m apos) args kws pos) env) Q E s := by
  refine e.g fun hg e => ?_
  obtain ⟨hl, hn⟩ := Bool.and_eq_true _ _ ▸ hg
  have I := IE e.b
  obtain ⟨fa1, fa2, ok⟩ : (backTo pos (starEach args env)).any (·.1) = false ∧ (backTo pos (starEach args env)).all (!·.1) = true ∧ KwOK (kwE pos kws env) kws := e.b.get fun p _ e => Hd.g e fun _ e => meth_facts IE ((Hd.b e).get fun p hp e => .of hp (Hd.b e))
  refine wp_method I.1 fa2 ok hl (of_decide_eq_true hn) (I.2 hA O R fun p val ρ₁ s₁ e X pl => Hd.g e fun hr e => ?_)
  replace e : Hd (evs (f.ev C) args p.2) fun q => Hd (evKws (f.ev C) kws q.2) fun r => Hd (methApp f m q.1 r.1 r.2 p.1) P := (Hd.b e).get fun p hp e => .of hp (Hd.b e)
  obtain ⟨v, st₁⟩ := p
  have h := h.aft X.step
  have R := X.step.rel
  have r := X.vr
  cases v with
  | d x => exact wp_text IE hr e r hA O R h
  | hl i => exact let ⟨a, q, ha⟩ := r; q ▸ wp_list IE hr e ha hA O R h
  | pat b => exact (r : val = _) ▸ wp_patt W IE hr e hA O R h
  | obj i =>
    obtain ⟨a, rfl, ha⟩ := r
    obtain ⟨F, hF⟩ : ∃ F, G.fn ("Headers." ++ m) = some F := e.get fun p _ e => e.get fun q _ e => (IC (Hd.m e)).1
    exact wp_getMeth W R ha (Hd.isSome hr) hF fun ob fd hdat hat => callWith_function_kw (o := ob) (fd := fd) (wp_argsK IE e hA O R fun p q vals kvals ρ₂ s₂ e hl hk Y => ⟨⟨Y.step.rel.up0 _ _ hat, hdat⟩,
      wp_callObj (p := (p.1, q.2)) IC hA Y hl hk (Y.step.mv.at_ _ _ ha) (Hd.m e) h⟩)
  | _ => cases hr
end
end Mine
end
section
open PySem PySem.W PyProof.Rows
namespace Mine
section
variable {prog : Program} {w : World} {G : Env'} {K : Ctx0} {fa : Str → Addr} {A : Around} {E : Value → Shared → Prop} {C : Cx} {env : Env} {st st₁ : St} {objs : Objs} {ρ ρ₁ ρ₂ : Rho} {h' : Heap} {s s₁ s₂ : Shared} {v : V} {val vo : Value} {vs : List V} {vals : List Value} {n : Nat} {f : Fs} {P : V × St → Prop} {Q : Value → Shared → Prop} {pos : Pos} {T : Prop} {g : Str} {i : Nat} {a x dx : Addr} {args : List Expr}
theorem RelW.addInst (W : RelW K objs ρ s) (M : Heap.MadeObj s.heap h' x dx K.cls) :
    WStep K (objs ++ [.inst none]) No ρ s ((ρ.set dx (.dct objs.length)).add objs.length x) { s with heap := h' } ∧ At ((ρ.set dx (.dct objs.length)).add objs.length x) objs.length x := by
  obtain ⟨o, hx, hc, hnc, hd⟩ := M.inst
  have hdd := M.dict o hx
  have hns : h'.Ns1 dx (fun _ => none) ∧ dx ≠ x := by
    rcases hd with ⟨hn0, _⟩ | ⟨d', hd', hne, hns⟩
    · rw [hn0] at hdd; cases hdd
    · obtain rfl := Option.some.inj (hd'.symm.trans hdd); exact ⟨hns, hne⟩
  have nx : ¬ Live s.heap x := fun ⟨o, e⟩ => by rw [M.newX] at e; cases e
  have nd : ¬ Live s.heap dx := fun ⟨o, e⟩ => by rw [M.newD] at e; cases e
  have ke : ∀ {b}, b ≠ x → b ≠ dx → ((ρ.set dx (.dct objs.length)).add objs.length x).k b = ρ.k b := fun h1 h2 => (set_ne h1).trans (set_ne h2)
  have kx : ((ρ.set dx (.dct objs.length)).add objs.length x).k x = .cell objs.length := set_self
  have kd : ((ρ.set dx (.dct objs.length)).add objs.length x).k dx = .dct objs.length := (set_ne hns.2).trans set_self
  have lv : ∀ {b}, Live s.heap b → ((ρ.set dx (.dct objs.length)).add objs.length x).k b = ρ.k b := fun l => ke (fun q => nx (q ▸ l)) fun q => nd (q ▸ l)
  have Mm : Mv No No ρ ((ρ.set dx (.dct objs.length)).add objs.length x) s.heap h' := .grow (fun _ q => q.elim) M.keeps (fun b l => lv l) fun i b q =>
    ⟨(if_neg (Nat.ne_of_lt (W.store.lt q.2))).trans q.1, (lv (W.kl (by rw [q.2]; nofun))).trans q.2⟩
  have len : (objs ++ [Cell.inst none]).length = objs.length + 1 := List.length_append
  refine ⟨⟨W.mv (s' := { s with heap := h' }) Mm (W.store.mv Mm (fun e => ?_) fun {b i} q => ?_) (fun {b} n => ?_) rfl rfl, Mm⟩, .new⟩
  · rcases get_app e with ⟨rfl, rfl⟩ | e
    · exact .inl ⟨x, .new, .mk hx hc hdd hnc kd hns.1⟩
    · exact .inr ⟨e, fun b o _ e => M.keeps b o e⟩
  · rw [len]
    by_cases h1 : b = x
    · subst h1; rw [kx] at q; cases q; exact Nat.lt_succ_self _
    · by_cases h2 : b = dx
      · subst h2; rw [kd] at q; cases q
      · exact Nat.lt_succ_of_lt (W.store.lt ((ke h1 h2).symm.trans q))
  · by_cases h1 : b = x
    · exact h1 ▸ ⟨o, hx⟩
    · by_cases h2 : b = dx
      · exact h2 ▸ let ⟨o, _, _, e, _⟩ := hns.1; ⟨o, e⟩
      · exact Mm.live (W.kl fun e => n ((ke h1 h2).trans e)) id
theorem callWith_val {M : Model} {args : List (Bool × Sem Value)} {b : Value} (hf : (∃ id, b = .builtin id) ∨ ∃ T, b = .type T) (hplain : args.any (·.1) = false)
    (h : wpAny M A (evalArgs b true args []) (fun a s₁ => wpAny M A (PySem.call b ([] ++ a.pos) a.kw) Q E s₁) E s) : wpAny M A (callWith pos b [] args []) Q E s := by
  rcases hf with ⟨id, rfl⟩ | ⟨T, rfl⟩
  · exact Calls.callWith_builtin hplain h
  · exact PySem.callWith_type hplain h
theorem Bf.val_of (b : Bf) : (∃ id, b.val = .builtin id) ∨ ∃ T, b.val = .type T := by
  cases b <;> first | exact .inl ⟨_, rfl⟩ | exact .inr ⟨_, rfl⟩
theorem callWith_class {args : List (Bool × Sem Value)} (W : Wd prog w K G fa) (hplain : args.any (·.1) = false)
    (h : wpAny (model prog w) A (evalArgs (.ref K.cls) true args []) (fun a s₁ => Up K.h₀ s₁.heap ∧ a.kw = [] ∧ wpAny (model prog w) A (PySem.call (.ref K.cls) a.pos) Q E s₁) E s) :
    wpAny (model prog w) A (callWith pos (.ref K.cls) [] args []) Q E s := by
  have hst : (args.any (fun x => x.fst) || ([] : List (Option Str × Sem Value)).any fun x => x.fst.isNone) = false := by
    rw [hplain]; rfl
  unfold callWith
  refine wpAny_bind (wpAny_holding (wpAny_mono h (fun a s₁ h₁ => ?_) fun _ _ x => x))
  obtain ⟨hh, g, d, t, os⟩ := s₁
  obtain ⟨pa, ka⟩ := a
  obtain ⟨k, rfl, h₁⟩ := h₁
  refine W.co k fun _ _ _ _ _ _ _ _ _ _ _ _ _ hC hN => ?_
  have f1 := tc_lookup
  have hT : (⟨hh, g, d, t, os⟩ : Shared).TypeIs (.ref K.cls) "type" := ⟨_, hC, rfl⟩
  refine wpAny_bind (wpAny_standAt ?_)
  show wpAny _ _ (keeperOf (.ref K.cls) >>= _) _ _ _
  unfold keeperOf specialOf
  repeat (any_goals (first | assumption | with_reducible refine wpAny_loadPart_at hC ?_ | with_reducible refine wpAny_load' hC ?_ | wp_step))
  rw [if_pos (by rfl), hst]
  show wpAny _ _ (PySem.call (.ref K.cls) pa [] >>= fun r => do holding [r] point; pure r) _ _ _
  exact wpAny_bind (wpAny_mono h₁ (fun r s' hr => wpAny_bind (wpAny_holding (wpAny_point (wpAny_pure hr)))) fun _ _ x => x)
theorem SC.call0 {c : Str → List V → List (Str × V) → Objs → Option (V × Objs)} {P : V × Objs → Prop} (IC : SC prog w G K fa n c) (e : Hd (c g vs [] objs) P) (hA : AOK A n) (W : RelW K objs ρ s) (rs : VRs K s.heap ρ vs vals) (h : PostC K P (Ows vs vals) ρ s Q) : wpAny (model prog w) A (PySem.call (.ref (fa g)) vals) Q E s := by
  refine (IC e).2 (kvals := []) hA W ?_ rs.len rfl ?_ <;> rw [List.map_nil, List.append_nil, List.append_nil]
  · exact rs
  · exact h
theorem Post.call (h : Post K C env P ρ s Q) {p : List V × St} (X : EPs K C env p ρ s vals ρ₁ s₁) : PostC K (fun r => P (r.1, ⟨p.2.vars, r.2⟩)) (Ows p.1 vals) ρ₁ s₁ Q := fun r val ρ' s' e WS rv nv => h.ep e ⟨X.call WS, rv, fun b o l => nv b o (X.step.mv.live l id)⟩
theorem wp_CallF {p : Pos} {P' : List V × St → Prop} {o : Obj} {fd : FuncData} (W : Wd prog w K G fa) (IE : SE prog w K n C (f.ev C)) (hdbg : (g == ("__debug__" : Str)) = false) (hk : C.sc.names.lookup g = some .globalImplicit) (g1 : K.gm g = some (.ref a)) (g2 : K.h₀.get? a = some o) (g3 : o.data = .func fd)
    (e : Hd (evs (f.ev C) args st) P') (hA : AOK A n) (O : EnvOK K C env) (R : Rel K C env st ρ s) (h : ∀ p vals ρ' s', P' p → EPs K C env p ρ s vals ρ' s' → wpAny (model prog w) A (PySem.call (.ref a) vals) Q E s') :
    wpAny (model prog w) A (eval (.Call (.Name g p) args [] pos) env) Q E s :=
  wpAny_Call_NameR (wpAny_Name (W.N.load O R hk (.inl g1) (Calls.callWith_function (o := o) (fd := fd) (wp_args IE e hA O R fun p vals ρ₁ s₁ e X => ⟨⟨X.step.rel.up0 _ _ g2, g3⟩, h p vals ρ₁ s₁ e X⟩))) hdbg)
theorem wp_CallN {p : Pos} {kws : List Keyword} (W : Wd prog w K G fa) (IE : SE prog w K n C (f.ev C)) (IC : SC prog w G K fa n f.call) (e : Hd (evCallN G f C n g args kws st) P) (hA1 : AOK A (n + 1)) (O : EnvOK K C env) (R : Rel K C env st ρ s) (h : Post K C env P ρ s Q) :
    wpAny (model prog w) A (eval (.Call (.Name g p) args kws pos) env) Q E s := by
  refine e.g fun hg e => e.nil fun q e => ?_
  subst q
  obtain ⟨hg, hk⟩ := Bool.and_eq_true _ _ ▸ hg
  obtain ⟨hg, hmeth⟩ := Bool.or_eq_false_iff.mp (Bool.not_eq_true' _ ▸ hg)
  have hdbg := (Bool.or_eq_false_iff.mp hg).2
  have hk := of_decide_eq_true hk
  have hA := hA1.le
  refine e.el (fun e => e.get fun F hF e => ?_) fun e => e.el (fun e => e.get fun pf hp e => ?_) fun e => e.bif (fun hH e => ?_) fun _ e => (Hd.b e).get fun b hb e => ?_
  · obtain ⟨ob, fd, FO⟩ := W.D.fns hF
    exact wp_CallF W IE hdbg hk (W.fnName hF hmeth) FO.at_ FO.data (Hd.b e) hA O R fun p vals ρ₁ s₁ e X => IC.call0 (Hd.m e) hA X.step.rel.w X.vrs (h.call X)
  · obtain ⟨a, o, fd, g1, g2, g3, g4⟩ := W.prim hp
    exact wp_CallF W IE hdbg hk g1 g2 g3 (Hd.b e) hA O R fun p vals ρ₁ s₁ e X => Hd.argW e X.vrs fun v u z r o e => Hd.dat e r fun x e r => Hd.gd e fun h8 e => (Hd.m e).get fun y hy e =>
      z ▸ g4 hy ⟨hA.hand, by have := hA.depth; omega, by have := hA.units; omega⟩ X.step.rel.w r fun val' ρ' s' WS r' => (h.aft X.step).ep e ⟨X.step.rel.back WS, r', fun _ q => q.elim⟩
  · obtain rfl := eq_of_beq hH
    refine wpAny_Call_NameR (wpAny_Name (W.N.load O R hk (.inl W.clsName) (callWith_class W (plain_args (fun e => (IE e).1) (Hd.b e)).1 (wp_args IE (Hd.b e) hA O R fun p vals ρ₁ s₁ e X => ⟨X.step.rel.up0, rfl, ?_⟩))) hdbg)
    obtain ⟨FI, hFI⟩ := (IC (Hd.b e)).1
    obtain ⟨oI, fdI, FO⟩ := W.D.fns hFI
    refine W.co X.step.rel.up0 fun _ _ _ _ _ _ _ _ _ _ _ _ _ hC hN => wpAny_call_obj_init PySem.F.objNew hC hN (W.meth (m := "__init__") hFI).1 (X.step.rel.up0 _ _ FO.at_) FO.cls fun h' x dx Mk => ?_
    obtain ⟨WS, hcell⟩ := X.step.rel.w.addInst Mk
    have hAu : AOK (A.under (.builtin "type.__call__" ⟨.ref K.cls :: vals, []⟩)) n := ⟨hA.hand, by have := hA1.depth; rw [depth_under_make]; omega, by have := hA1.units; have e4 : (A.under (.builtin "type.__call__" ⟨.ref K.cls :: vals, []⟩)).units = A.units + 1 := rfl; rw [e4]; omega⟩
    refine IC.call0 (Hd.b e) hAu WS.rel ⟨rfl, ⟨x, rfl, hcell⟩, X.vrs.mv WS.mv fun _ _ q => q, fun _ q => q.elim⟩ fun r val ρ' s' e WS' rv nv => Hd.g e fun hn e => ⟨(none_or rv).elim (·.2) fun q => absurd (hn.symm.trans q.1) nofun, ?_⟩
    have WW : WStep K r.2 (Ows p.1 vals) _ _ ρ' s' := (WS.more (fun b o => (X.vrs.own o).1) fun _ q => q.elim).trans WS' fun b _ o => o.elim False.elim id
    exact h.ep e ⟨X.call WW, ⟨x, rfl, WS'.mv.at_ _ _ hcell⟩, fun _ q => q.elim⟩
  · exact wpAny_Call_NameR (wpAny_Name (W.N.load O R hk (.inr (W.bui hb)) (callWith_val b.val_of (plain_args (fun e => (IE e).1) (Hd.b e)).1 (wp_args IE (Hd.b e) hA O R fun p vals ρ₁ s₁ e X => wp_callB hA X.step.rel (Hd.m e) X.vrs (h.aft X.step)))) hdbg)
end
end Mine
end
section
open PySem PySem.W PyProof.Rows
namespace Mine
section
variable {prog : Program} {w : World} {G : Env'} {K : Ctx0} {fa : Str → Addr} {A : Around} {E : Value → Shared → Prop} {C : Cx} {env : Env} {st st₁ : St} {ρ ρ₁ ρ₂ : Rho} {s s₁ s₂ : Shared} {n : Nat} {f : Fs} {P : V × St → Prop} {Q : Value → Shared → Prop} {pos : Pos}
theorem wp_Const {c : Const} {k : Nat} (e : Hd ((evConst c).map fun v => (v, st)) P) (R : Rel K C env st ρ s) (h : Post K C env P ρ s Q) : wpAny (model prog w) A (eval (.Constant c k pos) env) Q E s := by
  cases c with
  | none => exact wpAny_Constant_none (h.d (t := s.toks) R e rfl)
  | bool b => exact wpAny_Constant_bool (Post.b (t := s.toks) h R e)
  | int i => exact wpAny_Constant_int (Post.i h R e)
  | str x => exact wpAny_Constant_str (Post.x h R e)
  | _ => exact e.elim
theorem wp_Bin {l r : Expr} {op : Operator} (IE : SE prog w K n C (f.ev C)) (e : Hd (evBin f C l op r st) P) (hA : AOK A n) (O : EnvOK K C env) (R : Rel K C env st ρ s) (h : Post K C env P ρ s Q) : wpAny (model prog w) A (eval (.BinOp l op r pos) env) Q E s :=
  wpAny_BinOp ((IE e.b).2 hA O R fun p va ρ₁ s₁ e X => (IE (Hd.b e)).2 hA O X.step.rel fun q vb ρ₂ s₂ e Y => wp_binop Y.step.rel (Hd.m e) (Y.vr0 X.vr) Y.vr ((h.aft X.step).aft Y.step))
theorem wp_Un {x : Expr} {op : UnaryOp} (IE : SE prog w K n C (f.ev C)) (e : Hd (evUn f C op x st) P) (hA : AOK A n) (O : EnvOK K C env) (R : Rel K C env st ρ s) (h : Post K C env P ρ s Q) : wpAny (model prog w) A (eval (.UnaryOp op x pos) env) Q E s := by
  cases op with
  | Not => exact wpAny_UnaryOp ((IE (Hd.b e)).2 hA O R fun p val ρ₁ s₁ e X => not_value (wp_truth X.step.rel (Hd.m e) X.vr fun b s₂ e S => Post.b (t := s₂.toks) ((h.aft X.step).aft S) S.rel e))
  | USub => exact wpAny_UnaryOp ((IE (Hd.b e)).2 hA O R fun p val ρ₁ s₁ e X => Hd.int (Hd.m e) X.vr fun i t q e => q ▸ PySem.P.neg_int (Post.i (h.aft X.step) X.step.rel e))
  | _ => exact e.elim
theorem wp_Bool {es : List Expr} {op : BoolOp} (IE : SE prog w K n C (f.ev C)) (e : Hd (evBool f C op es st) P) (hA : AOK A n) (O : EnvOK K C env) (R : Rel K C env st ρ s) (h : Post K C env P ρ s Q) : wpAny (model prog w) A (eval (.BoolOp op es pos) env) Q E s := by
  refine e.two fun a b q e => ?_
  subst q
  show wpAny _ A (boolOp pos op [eval a env, eval b env]) Q E s
  unfold boolOp
  refine wpAny_bind ((IE (Hd.b e)).2 hA O R fun p val ρ₁ s₁ e X => wpAny_bind (wpAny_standAt (wpAny_bind (wpAny_holding (wp_truth X.step.rel (Hd.b e) X.vr fun c s₂ e S => ?_)))))
  have stop : Hd (some p) P → Q val s₂ := fun e => h.ep e ⟨X.step.aft S, X.vr.mv0 S.mv, X.new⟩
  have go : Hd (f.ev C b p.2) P → wpAny (model prog w) A (boolOp pos op [eval b env]) Q E s₂ := fun e => (IE e).2 hA O S.rel ((h.aft X.step).aft S)
  cases op <;> cases c <;> first | exact go e | exact wpAny_pure (stop e)
theorem wp_IfE {t a b : Expr} (IE : SE prog w K n C (f.ev C)) (IT : ST prog w K n C (f.tst C)) (e : Hd ((f.tst C t st).bind fun p => bif p.1 then f.ev C a p.2 else f.ev C b p.2) P) (hA : AOK A n) (O : EnvOK K C env) (R : Rel K C env st ρ s) (h : Post K C env P ρ s Q) :
    wpAny (model prog w) A (eval (.IfExp t a b pos) env) Q E s :=
  wpAny_IfExp (IT e.b hA O R fun p ρ₁ s₁ e S => Hd.bif e (fun q e => Eq.mpr (if_pos q) ((IE e).2 hA O S.rel (h.aft S))) fun q e => Eq.mpr (if_neg (q ▸ nofun)) ((IE e).2 hA O S.rel (h.aft S)))
theorem wp_Sub {o i : Expr} (IE : SE prog w K n C (f.ev C)) (e : Hd (evSub f C o i st) P) (hA : AOK A n) (O : EnvOK K C env) (R : Rel K C env st ρ s) (h : Post K C env P ρ s Q) : wpAny (model prog w) A (eval (.Subscript o i pos) env) Q E s := by
  rw [eval_Subscript]
  have item : Hd (evItem f C o i st) P → wpAny (model prog w) A (do
        let ov ← eval o env
        let iv ← holding [ov] (eval i env)
        standAt pos
        let r ← subscripted i (← getitemInPython ov) ov iv
        letTemporaryGo o ov r
        pure r) Q E s := fun e => wpAny_bind ((IE e.b).2 hA O R fun p vo ρ₁ s₁ e X => wpAny_bind (wpAny_holding ((IE (Hd.b e)).2 hA O X.step.rel fun q vi ρ₂ s₂ e Y => Hd.int (Hd.b e) Y.vr fun k t z e =>
          z ▸ wp_item Y.step.rel (Y.vr0 X.vr) (Hd.m e) ((h.aft X.step).aft Y.step))))
  cases i with
  | Slice lo hi sp p =>
    refine wpAny_bind ((IE (Hd.b e)).2 hA O R fun p vo ρ₁ s₁ e X => wpAny_bind (wpAny_holding (wpAny_Slice ?_)))
    refine wp_part IE (Hd.b e) hA O X.step.rel fun a la ρ₂ s₂ e Y2 pa => wp_part IE (Hd.b e) hA O Y2.rel fun b lb ρ₃ s₃ e Y3 pb => wp_part IE (Hd.b e) hA O Y3.rel fun c lc ρ₄ s₄ e Y4 pc => pa (Hd.b (Hd.m e)) fun l ql e => pb (Hd.b e) fun u qu e => pc (Hd.b e) fun d qd e => ?_
    subst ql qu qd
    exact wp_sliceW Y4.rel (((X.vr.mv0 Y2.mv).mv0 Y3.mv).mv0 Y4.mv) e ((((h.aft X.step).aft Y2).aft Y3).aft Y4)
  | _ => exact item e
theorem wp_Attr {o : Expr} {a : Str} (W : Wd prog w K G fa) (IE : SE prog w K n C (f.ev C)) (e : Hd (evAttr f C o a st) P) (hA : AOK A n) (O : EnvOK K C env) (R : Rel K C env st ρ s) (h : Post K C env P ρ s Q) : wpAny (model prog w) A (eval (.Attribute o a pos) env) Q E s := by
  rw [arm_eval_Attribute, base_of (IE e.b).1]
  refine wpAny_bind ((IE e.b).2 hA O R fun p vo ρ₁ s₁ e X => wpAny_bind (wpAny_standAt (wpAny_bind (wpAny_holding ?_))))
  obtain ⟨v, st₁⟩ := p
  cases v with
  | obj i =>
    refine Hd.g (show Hd (gd (a == ("_headers" : Str)) ((instAt st₁.objs i).bind fun k => k.map fun h => (V.hl h, st₁))) P from e) fun ha e => ?_
    obtain rfl := eq_of_beq ha
    obtain ⟨l, rfl, hl⟩ := X.vr
    refine instAt_ok X.step.rel.w.store hl (Hd.b e) fun k e r => (Hd.m e).get fun j hj e => ?_
    obtain rfl : k = some j := hj
    obtain ⟨I, hm, b, hb, hq⟩ := r.iv hl
    refine W.co X.step.rel.up0 fun _ _ _ _ _ _ _ _ _ _ _ _ _ hC hN => load_attr hC hN W.nga W.nhd (by rw [typeLookup_type, builtinLookup_eq_fast]; rfl') I hq rfl (wpAny_bind (wpAny_letTemporaryGo (wpAny_pure ?_)))
    exact (h.aft X.step).go (v := .hl j) (t := s₁.toks + 1) X.step.rel (.refl _) e ⟨b, rfl, hb⟩ rfl
  | _ => exact (Hd.b e : False).elim
theorem wp_InObj {i : Nat} {x : Str} {t : Tok} (W : Wd prog w K G fa) (IC : SC prog w G K fa n f.call) {P : V × Objs → Prop} (e : Hd (f.call "Headers.__contains__" [.obj i, .d (.str x)] [] st.objs) fun r => Hd (asB r.1) fun b => P (.d (.bool b), r.2)) (hA : AOK A n) (R : Rel K C env st ρ s) {a : Addr} (ha : At ρ i a) (hi : Hd (instAt st.objs i) fun _ => True)
    (h : ∀ b o ρ' s', P (.d (.bool b), o) → WStep K o No ρ s ρ' s' → Q (.bool b) s') : wpAny (model prog w) A (compareOp .In (.str x t) (.ref a)) Q E s := by
  obtain ⟨Fc, hF⟩ := (IC e).1
  obtain ⟨ob, fd, FO⟩ := W.D.fns hF
  obtain ⟨m1, -, yy, hyy⟩ := W.meth (m := "__contains__") hF
  refine instAt_ok R.w.store ha hi fun k _ r => ?_
  obtain ⟨g, c, -, -, -, -⟩ := r
  show wpAny _ _ (do return .bool (← contains (.ref a) (.str x t))) Q E s
  refine wpAny_bind ?_
  unfold contains
  refine wpAny_holding ?_
  rw [show stdlibNamesSay? (.ref a) (.str x t) = none by unfold stdlibNamesSay?; rfl]
  refine W.co R.up0 fun cN nm q bs sn sub col dd k0 k1 k2 k3 k5 hC hN => ?_
  have OS : s.heap.OwnSpecial a K.cls (fa "Headers.__contains__") "object" "__contains__" :=
    ⟨_, ob, nm, q, cN, bs, _, true, sn, sub, false, col, dd, k0, k1, k2, k3, k5, _, K.mN, yy, g, c, hC, hN, m1, R.up0 _ _ FO.at_, FO.cls, F.mro_object, hyy⟩
  refine wpAny_bind (wpAny_specialOf_own OS ?_)
  rw [if_neg (by simp)]
  refine wpAny_bind ?_
  unfold callSpecialUnlessNone?
  refine wpAny_bind (wpAny_specialOf_own OS (wpAny_holding (wpAny_bind (wpAny_bindSpecial_def (s := s) (R.up0 _ _ FO.at_) FO.cls ?_))))
  dsimp only
  rw [if_neg (by simp)]
  refine wpAny_bind (IC.call0 e hA R.w ⟨rfl, ⟨a, rfl, ha⟩, ⟨rfl, ⟨t, rfl⟩, rfl, fun _ q => q.elim⟩, fun _ q => q.elim⟩ fun r val ρ' s' e WS rv nv => Hd.bool e rv fun b q e => ?_)
  subst q
  exact wpAny_pure (wpAny_truthy_bool (wpAny_pure (h b _ ρ' s' e ⟨WS.rel, WS.mv.mono (fun _ q => q.elim) (fun b q => q.elim id fun q => q.elim id id) fun _ => id⟩)))
theorem wp_Cmp {l : Expr} {ops : List CmpOp} {es : List Expr} (W : Wd prog w K G fa) (IE : SE prog w K n C (f.ev C)) (IC : SC prog w G K fa n f.call) (e : Hd (evCmp f C l ops es st) P) (hA : AOK A n) (O : EnvOK K C env) (R : Rel K C env st ρ s) (h : Post K C env P ρ s Q) :
    wpAny (model prog w) A (eval (.Compare l ops es pos) env) Q E s := by
  rw [arm_eval_Compare]
  refine wpAny_bind ((IE e.b).2 hA O R fun p va ρ₁ s₁ e X => Hd.bif e (fun hi e => ?_) fun _ e => (wp_chain IE hA O ops es (Hd.m e) X.step.rel X.vr).1 fun q ρ₂ s₂ e S => Post.b (t := s₂.toks) ((h.aft X.step).aft S) S.rel e)
  have hops : ops = [.In] := by
    unfold isIn at hi
    split at hi
    · rfl
    · cases hi
  subst hops
  refine Hd.one e fun y q e => ?_
  subst q
  have I := IE (Hd.b e)
  have hm : markedEach [.In] [y] (evalEach [y] env) = [eval y env] := congrArg (fun x => [x]) (markedBehindIn_of_false (notMarked I.1))
  rw [hm]
  refine wpAny_bind (wpAny_holding (I.2 hA O X.step.rel fun q vb ρ₂ s₂ e Y => wpAny_bind (wpAny_standAt (wpAny_operate' ?_))))
  have h := (h.aft X.step).aft Y.step
  obtain ⟨v, st₂⟩ := q
  have plain : Hd ((cmpop st₂.objs .In p.1 v).map fun r => (V.d (.bool r), st₂)) P → wpAny (model prog w) A (compareOp .In va vb) Q E s₂ := fun e => wp_cmp hA Y.step.rel (Hd.m e) (Y.vr0 X.vr) Y.vr fun r e => Post.b (t := s₂.toks) h Y.step.rel e
  cases v with
  | obj i =>
    obtain ⟨a, rfl, ha⟩ := Y.vr
    exact (Hd.b e : Hd (instAt st₂.objs i) _).get fun k hk e => Hd.str (Hd.b e) (Y.vr0 X.vr) fun x t z e => z ▸ wp_InObj (P := fun r => P (r.1, ⟨st₂.vars, r.2⟩)) W IC ((Hd.b e).get fun r hr e => .of hr (Hd.m e)) hA Y.step.rel ha (.of hk trivial) fun b o ρ' s' e WS => h.ep e ⟨Y.step.rel.back WS, rfl, fun _ q => q.elim⟩
  | _ => exact plain e
end
end Mine
end
section
open PySem PySem.W PyProof.Rows
namespace Mine
noncomputable abbrev tupIters : List String := ["enumerate", "zip", "dict_itemiterator", "dict_reverseitemiterator", "odict_iterator", "itertools.zip_longest", "itertools.pairwise"]
structure Gen (prog : Program) (w : World) (K : Ctx0) (it : It) (I : Addr) (ws : Addr → Prop) (T : Nat → Rho → Heap → Prop) (U : Nat → Value → Rho → Heap → Prop) : Prop where
  own : ∀ {j ρ h}, T j ρ h → ∀ a, ws a → ρ.k a = .hid ∧ Live h a
  mv : ∀ {j ow fr ρ ρ' h h'}, T j ρ h → Mv ow fr ρ ρ' h h' → (∀ a, ws a → ¬ ow a) → T j ρ' h'
  next : ∀ {A C env st ρ s j x Q E}, A.handled = none → Rel K C env st ρ s → T j ρ s.heap → nextIt st.objs j it = some (some x) →
    (∀ v s', Step K C env st ws ρ s ρ s' → Rd (Fz s'.heap ρ) x v → U (j + 1) v ρ s'.heap → Q (some v) s') → wpAny (model prog w) A (pyNext (.ref I)) Q E s
  done : ∀ {A C env st ρ s j Q E}, A.handled = none → Rel K C env st ρ s → T j ρ s.heap → nextIt st.objs j it = some none →
    (∀ h' tk, (∀ b o, ¬ ws b → s.heap.get? b = some o → h'.get? b = some o) → Q none { s with heap := h', toks := tk }) → wpAny (model prog w) A (pyNext (.ref I)) Q E s
  go : ∀ {A C env st ρ s j target v Q E}, Rel K C env st ρ s → U j v ρ s.heap → okTarget it target = true → (∀ s', Step K C env st ws ρ s ρ s' → T j ρ s'.heap → Q () s') → wpAny (model prog w) A (letOwnedTupleGo target (.ref I) v) Q E s
  iter : ∀ {A j ρ s Q E}, A.handled = none → T j ρ s.heap → Q (.ref I) s → wpAny (model prog w) A (pyIter (.ref I)) Q E s
noncomputable def PostI (prog : Program) (w : World) (K : Ctx0) (C : Cx) (env : Env) (P : It × St → Prop) (ρ : Rho) (s : Shared) (Q : Value → Shared → Prop) : Prop :=
  ∀ p I ws T U ρ' s', P p → Gen prog w K p.1 I ws T U → T 0 ρ' s'.heap → Step K C env p.2 No ρ s ρ' s' → (∀ a, ws a → ¬ Live s.heap a) → Q (.ref I) s'
structure WT (I : Addr) (fp : List Addr) (xs : List PyData) (P : Nat → Value → Prop) (St : Nat → Heap → Prop) (j : Nat) (ρ : Rho) (h : Heap) : Prop where
  le : j ≤ xs.length
  st : St j h
  k : ρ.k I = .hid
  foot : ∀ b ∈ fp, b ≠ I → ∃ o, Fz h ρ b o
  data : ∀ {i x v}, xs[i]? = some x → P i v → Rd (Fz h ρ) x v
section
variable {prog : Program} {w : World} {K : Ctx0} {A : Around} {E : Value → Shared → Prop} {C : Cx} {env : Env} {st : St} {ρ ρ' ρ₁ : Rho} {h h' : Heap} {s s₁ : Shared} {n : Nat} {I : Addr} {fp : List Addr} {xs : List PyData} {P : Nat → Value → Prop} {St : Nat → Heap → Prop} {ws : Addr → Prop} {j : Nat} {tk : Nat} {v : V} {val : Value}
theorem Rel.wrote (R : Rel K C env st ρ s) (hw : ∀ b, ws b → ρ.k b = .hid) (hk : ∀ b o, ¬ ws b → s.heap.get? b = some o → h'.get? b = some o) (l : ∀ b, ws b → Live h' b) : Step K C env st ws ρ s ρ { s with heap := h', toks := tk } :=
  R.own hw hk (fun _ _ => rfl) rfl (fun b q _ => l b q) fun b i q e => by rw [hw b q] at e; cases e
theorem wp_noTuple {o : Obj} {n : String} {target : Expr} {v : Value} {Q : Unit → Shared → Prop} (ho : s.heap.get? I = some o) (hc : o.cls = .type n) (hn : tupIters.contains n = false) (h : Q () s) : wpAny (model prog w) A (letOwnedTupleGo target (.ref I) v) Q E s := by
  unfold letOwnedTupleGo
  have key : wpAny (model prog w) A (do
      let (.ref r, .ref a) := ((.ref I : Value), v) | return
      let o ← load r
      match o.cls, o.data with
      | .type n, .fields vs =>
        if tupIters.contains n && vs[0]? == some (rawInt a) then
          rule "for.unpacks-the-owned-tuple"
          updateField r 0 .none
      | _, _ => pure ()) Q E s := by
    cases v with
    | ref a =>
      dsimp only
      refine wpAny_bind (wpAny_load ho ?_)
      rw [hc]
      cases hd : o.data with
      | fields vs => dsimp only; rw [hn]; exact wpAny_pure h
      | _ => exact wpAny_pure h
    | _ => exact wpAny_pure h
  cases target <;> first | exact wpAny_pure h | exact key
theorem WT.mv {ow fr : Addr → Prop} {I' : Nat → Heap → Prop} (fr_ : ∀ i h h', St i h → (∀ b ∈ fp, ∀ o, h.get? b = some o → h'.get? b = some o) → St i h') (t : WT I fp xs P St j ρ h) (M : Mv ow fr ρ ρ' h h') (n : ¬ ow I) (l : Live h I) : WT I fp xs P St j ρ' h' := by
  obtain ⟨o, e⟩ := l
  refine ⟨t.le, fr_ _ _ _ t.st fun b hb ob eb => ?_, (M.hid t.k e n).1, fun b hb hn => let ⟨o, f⟩ := t.foot b hb hn; ⟨o, M.fz f⟩, fun hx hp => (t.data hx hp).mono M.fz⟩
  by_cases q : b = I
  · subst q; exact (M.hid t.k eb n).2
  · obtain ⟨o', f⟩ := t.foot b hb q
    exact (M.fz ⟨f.1, eb⟩).2
theorem Gen.ofWalks (W : ∀ A : Around, A.handled = none → Walks prog w A I fp [I] xs.length P St) (hst : ∀ i h, St i h → ∃ o n, h.get? I = some o ∧ o.cls = .type n ∧ tupIters.contains n = false) :
    Gen prog w K (.vals xs) I (· = I) (WT I fp xs P St) (fun j _ => WT I fp xs P St j) where
  own := fun t a q => q ▸ ⟨t.k, let ⟨o, _, e, _⟩ := hst _ _ t.st; ⟨o, e⟩⟩
  mv := fun t M n => t.mv (I' := St) (W ⟨none, 0, none, none, 0⟩ rfl).frame M (n I rfl) (let ⟨o, _, e, _⟩ := hst _ _ t.st; ⟨o, e⟩)
  next := fun {A C env st ρ s j x Q E} hA R t e hQ => by
    have hx : xs[j]? = some x := Option.some.inj e
    have hj : j < xs.length := (List.getElem?_eq_some_iff.mp hx).1
    refine (W A hA).item j s Q E hj t.st fun v h' tk hp hs hk => ?_
    have S : Step K C env st (· = I) ρ s ρ { s with heap := h', toks := tk } := R.wrote (fun b q => q ▸ t.k) (fun b o n => hk b o fun q => n (List.mem_singleton.mp q)) fun b q => q ▸ let ⟨o, _, e, _⟩ := hst _ _ hs; ⟨o, e⟩
    exact hQ v _ S ((t.data hx hp).mono S.mv.fz) ⟨hj, hs, t.k, fun b hb n => let ⟨o, f⟩ := t.foot b hb n; ⟨o, S.mv.fz f⟩, fun hx hp => (t.data hx hp).mono S.mv.fz⟩
  done := fun {A C env st ρ s j Q E} hA R t e hQ => by
    have hx : xs[j]? = none := Option.some.inj e
    obtain rfl : j = xs.length := Nat.le_antisymm t.le (List.getElem?_eq_none_iff.mp hx)
    exact (W A hA).done s Q E t.st fun h' tk hk => hQ h' tk fun b o n => hk b o fun q => n (List.mem_singleton.mp q)
  go := fun R t _ hQ => let ⟨o, n, e, c, hn⟩ := hst _ _ t.st; wp_noTuple e c hn (hQ _ (R.stay fun b q => q ▸ t.k) t)
  iter := fun hA t hQ => (W _ hA).self _ _ _ _ t.st hQ
theorem iter_walks {P' : It × Mine.St → Prop} {o : Obj} {n : String} {Q : Value → Shared → Prop} (R : Rel K C env st ρ s) (W : ∀ A : Around, A.handled = none → Walks prog w A s.heap.objs.size fp [s.heap.objs.size] xs.length P St) (h0 : St 0 (s.heap.push o)) (hf : o.isFreed = false)
    (h3 : tupIters.contains n = false) (hst : ∀ i h, St i h → ∃ o, h.get? s.heap.objs.size = some o ∧ o.cls = .type n) (hfoot : ∀ b ∈ fp, b ≠ s.heap.objs.size → ∃ o, Fz s.heap ρ b o) (hdata : ∀ {i x v}, xs[i]? = some x → P i v → Rd (Fz s.heap ρ) x v)
    (e : P' (.vals xs, st)) (h : PostI prog w K C env P' ρ s Q) : Q (.ref s.heap.objs.size) { s with heap := s.heap.push o, toks := tk } := by
  have S : Step K C env st No ρ s (ρ.set s.heap.objs.size .hid) { s with heap := s.heap.push o, toks := tk } := R.hide not_live_size (.push o) ⟨_, Heap.get?_push_size _ hf⟩
  exact h _ _ _ _ _ _ _ e (Gen.ofWalks W fun i h q => let ⟨o, e, c⟩ := hst i h q; ⟨o, n, e, c, h3⟩) ⟨Nat.zero_le _, h0, set_self, fun b hb n => let ⟨o, f⟩ := hfoot b hb n; ⟨o, S.mv.fz f⟩, fun hx hp => (hdata hx hp).mono S.mv.fz⟩ S fun a q => q ▸ not_live_size
theorem Rds.at_ {F : Addr → Obj → Prop} {xs : List PyData} {vs : Array Value} (d : Rds F xs vs.toList) {i : Nat} {x : PyData} {v : Value} (hx : xs[i]? = some x) (hv : vs[i]? = some v) : Rd F x v := by
  obtain ⟨v', h1, h2⟩ := d.get hx
  rw [Array.getElem?_toList, hv] at h1; cases h1; exact h2
theorem iter_list {P' : It × Mine.St → Prop} {Q : Value → Shared → Prop} (R : Rel K C env st ρ s) (d : LA (Fz s.heap ρ) "list" (Rds (Fz s.heap ρ) xs) val) (e : P' (.vals xs, st)) (h : PostI prog w K C env P' ρ s Q) : wpAny (model prog w) A (pyIter val) Q E s := by
  obtain @⟨a, o, items, n, rfl, f, c, d, r⟩ := d
  have hne : a ≠ s.heap.objs.size := fun q => not_live_size ⟨o, q ▸ f.2⟩
  exact wpAny_pyIter_list ⟨o, f.2, c, n, d⟩ (iter_walks (tk := s.toks) (n := "list_iterator") R (fun A hA => r.size ▸ Walks.list hA s.heap.objs.size a hne items) ⟨⟨_, Heap.get?_push_size _ rfl, rfl, rfl⟩, o, Up.push _ _ _ f.2, c, n, d⟩ rfl (by decide) (fun i h q => let ⟨⟨o, e, c, _⟩, _⟩ := q; ⟨o, e, c⟩)
    (fun b hb n => (List.mem_cons.mp hb).elim (fun q => absurd q n) fun q => List.mem_singleton.mp q ▸ ⟨o, f⟩) (fun hx hp => r.at_ hx hp) e h)
theorem iter_tuple {P' : It × Mine.St → Prop} {Q : Value → Shared → Prop} (R : Rel K C env st ρ s) (d : LA (Fz s.heap ρ) "tuple" (Rds (Fz s.heap ρ) xs) val) (e : P' (.vals xs, st)) (h : PostI prog w K C env P' ρ s Q) : wpAny (model prog w) A (pyIter val) Q E s := by
  obtain @⟨a, o, items, n, rfl, f, c, d, r⟩ := d
  have hne : a ≠ s.heap.objs.size := fun q => not_live_size ⟨o, q ▸ f.2⟩
  exact wpAny_pyIter_tuple ⟨o, f.2, c, n, d⟩ (iter_walks (tk := s.toks) (n := "tuple_iterator") R (fun A hA => r.size ▸ Walks.tuple hA s.heap.objs.size a hne items) ⟨⟨_, Heap.get?_push_size _ rfl, rfl, rfl⟩, o, Up.push _ _ _ f.2, c, n, d⟩ rfl (by decide) (fun i h q => let ⟨⟨o, e, c, _⟩, _⟩ := q; ⟨o, e, c⟩)
    (fun b hb n => (List.mem_cons.mp hb).elim (fun q => absurd q n) fun q => List.mem_singleton.mp q ▸ ⟨o, f⟩) (fun hx hp => r.at_ hx hp) e h)
theorem sign_at {x : Str} {i : Nat} {y : PyData} {v : Value} {F : Addr → Obj → Prop} (hx : ((strL x).map fun c => PyData.str (mkS [c]))[i]? = some y) (hp : SignAt x i v) : Rd F y v := by
  obtain ⟨c, u, h1, rfl⟩ := hp
  rw [List.getElem?_map, show (strL x)[i]? = some c by rw [← h1]; exact Array.getElem?_toList] at hx
  cases hx; exact ⟨u, rfl⟩
theorem sign_size (x : Str) : x.cps.size = ((strL x).map fun c => PyData.str (mkS [c])).length := (List.length_map _).symm
theorem sign_walks {x : Str} {t : Tok} (hA : A.handled = none) (I : Addr) : Walks prog w A I [I] [I] ((strL x).map fun c => PyData.str (mkS [c])).length (SignAt x) fun i h => h.IsStrIter I (strIterType x) x t i := by
  rw [← sign_size]
  unfold strIterType
  cases x.cps.all (· < 128)
  · exact Walks.strWide hA _ x t
  · exact Walks.strAscii hA _ x t
theorem sign_type (x : Str) : tupIters.contains (strIterType x) = false := by unfold strIterType; split <;> decide
theorem iter_str {P' : It × Mine.St → Prop} {Q : Value → Shared → Prop} {x : Str} {t : Tok} (R : Rel K C env st ρ s) (e : P' (.vals ((strL x).map fun c => PyData.str (mkS [c])), st)) (h : PostI prog w K C env P' ρ s Q) : wpAny (model prog w) A (pyIter (.str x t)) Q E s :=
  wpAny_pyIter_strU (iter_walks (tk := s.toks) (n := strIterType x) R (fun A hA => sign_walks (t := t) hA _) ⟨_, Heap.get?_push_size _ rfl, rfl, rfl⟩ rfl (sign_type x) (fun i h q => let ⟨o, e, c, _⟩ := q; ⟨o, e, c⟩) (fun b hb n => absurd (List.mem_singleton.mp hb) n) sign_at e h)
theorem iter_range {P' : It × Mine.St → Prop} {Q : Value → Shared → Prop} {lo hi sp : Int} {t u z : Tok} {a : Addr} (R : Rel K C env st ρ s) (f : Fz s.heap ρ a (rObj lo hi sp t u z)) (e : Hd (rangeL lo hi sp) fun xs => P' (.vals xs, st)) (h : PostI prog w K C env P' ρ s Q) : wpAny (model prog w) A (pyIter (.ref a)) Q E s := by
  refine e.gd fun _ e => e.g fun hq e => ?_
  obtain ⟨hsm, -⟩ := Bool.and_eq_true _ _ ▸ hq
  have hlen : ((List.range (Builtin.Range.rangeSize lo hi sp).toNat).map fun (i : Nat) => PyData.int (lo + (i : Int) * sp)).length = (Builtin.Range.rangeSize lo hi sp).toNat := (List.length_map _).trans List.length_range
  refine wpAny_pyIter_range f.2 hsm (iter_walks (tk := s.toks) (n := "range_iterator") R (fun A hA => by rw [hlen]; exact Walks.range hA s.heap.objs.size lo sp _) ?_ rfl (by decide) (fun i h q => ⟨_, q, rfl⟩) (fun b hb n => absurd (List.mem_singleton.mp hb) n) (fun {i x v} hx hp => ?_) e h)
  · rw [show lo + ((0 : Nat) : Int) * sp = lo by simp, show (((Builtin.Range.rangeSize lo hi sp).toNat : Int) - ((0 : Nat) : Int)) = Builtin.Range.rangeSize lo hi sp by rw [rangeSize_toNat]; simp]
    exact Heap.get?_push_size _ rfl
  · obtain ⟨t, rfl⟩ := hp
    rw [List.getElem?_map] at hx
    obtain ⟨j, hj, rfl⟩ := Option.map_eq_some_iff.mp hx
    obtain ⟨hi, rfl⟩ := List.getElem?_eq_some_iff.mp hj
    rw [List.getElem_range]; exact ⟨t, rfl⟩
structure CT (I : Addr) (i : Nat) (a : Addr) (j : Nat) (ρ : Rho) (h : Heap) : Prop where
  it : h.IsListIter I a j
  at_ : At ρ i a
  k : ρ.k I = .hid
theorem next_list {i a : Nat} {ox : Option PyData} {T : Prop} (R : Rel K C env st ρ s) (ha : At ρ i a) (e : nextIt st.objs j (.cell i) = some ox) (k : ∀ xs items n, s.heap.get? a = some (lObj items n) → Rds (Fz s.heap ρ) xs items.toList → xs[j]? = ox → T) : T :=
  let ⟨_, h1, h2⟩ := Option.map_eq_some_iff.mp e
  listAt_ok R.w.store (.of (P := fun xs : List PyData => xs[j]? = ox) h1 h2) fun a' xs items n p q g d => k xs items n ((q.1.symm.trans ha.1 : a' = a) ▸ g) d p
theorem Gen.ofCell {i a : Nat} (hne : a ≠ I) : Gen prog w K (.cell i) I (· = I) (CT I i a) (fun j _ => CT I i a j) where
  own := fun t b q => q ▸ ⟨t.k, let ⟨o, e, _⟩ := t.it; ⟨o, e⟩⟩
  mv := fun t M n => let ⟨o, e, r⟩ := t.it; ⟨⟨o, (M.hid t.k e (n I rfl)).2, r⟩, M.at_ _ _ t.at_, (M.hid t.k e (n I rfl)).1⟩
  next := fun {A C env st ρ s j x Q E} hA R t e hQ => next_list R t.at_ e fun xs items n g d hx => by
    obtain ⟨v, hv, dv⟩ := d.get hx
    refine wpAny_pyNext_list_item t.it ⟨_, g, rfl, n, rfl⟩ (Array.getElem?_toList ▸ hv) fun h' hit' hs' => ?_
    have S : Step K C env st (· = I) ρ s ρ { s with heap := h', toks := s.toks } := R.wrote (fun b q => q ▸ t.k) (fun b o n e => (hs'.2 b n).trans e) fun b q => q ▸ let ⟨o, e, _⟩ := hit'; ⟨o, e⟩
    exact hQ v _ S (dv.mono S.mv.fz) ⟨hit', t.at_, t.k⟩
  done := fun {A C env st ρ s j Q E} hA R t e hQ => next_list R t.at_ e fun xs items n g d hx => by
    have hj := List.getElem?_eq_none_iff.mp hx
    exact wpAny_pyNext_list_end hA t.it ⟨_, g, rfl, n, rfl⟩ (Array.getElem?_eq_none (d.size ▸ hj)) fun h' he' => hQ h' s.toks fun b o n e => he' b o n e
  go := fun R t _ hQ => let ⟨o, e, c, _⟩ := t.it; wp_noTuple e c (by decide) (hQ _ (R.stay fun b q => q ▸ t.k) t)
  iter := fun hA t hQ => wpAny_pyIter_listiter t.it hQ
theorem iter_cell {P' : It × Mine.St → Prop} {Q : Value → Shared → Prop} {i a : Nat} (R : Rel K C env st ρ s) (ha : At ρ i a) (e : Hd (listAt st.objs i) fun _ => P' (.cell i, st)) (h : PostI prog w K C env P' ρ s Q) : wpAny (model prog w) A (pyIter (.ref a)) Q E s :=
  listAt_ok R.w.store e fun a' xs items n e q g d => by
    obtain rfl : a' = a := q.1.symm.trans ha.1
    have S : Step K C env st No ρ s (ρ.set s.heap.objs.size .hid) { s with heap := s.heap.push { cls := .type "list_iterator", data := .fields #[.ref a', .int 0 0] } } := R.hide (t := s.toks) not_live_size (.push _) ⟨_, Heap.get?_push_size _ rfl⟩
    exact wpAny_pyIter_list ⟨_, g, rfl, n, rfl⟩ (h _ _ _ _ _ _ _ e (Gen.ofCell fun q => not_live_size ⟨_, q ▸ g⟩) ⟨⟨_, Heap.get?_push_size _ rfl, rfl, rfl⟩, S.mv.at_ _ _ ha, set_self⟩ S fun b q => q ▸ not_live_size)
theorem wp_iterV {P' : It × Mine.St → Prop} {Q : Value → Shared → Prop} (R : Rel K C env st ρ s) (r : VR K s.heap ρ v val) (e : Hd (itIn st.objs v) fun it => P' (it, st)) (nf : v.fl? = none) (h : PostI prog w K C env P' ρ s Q) : wpAny (model prog w) A (pyIter val) Q E s := by
  cases v with
  | fl xs => cases nf
  | d x =>
    cases x with
    | list xs => exact iter_list R r e h
    | tuple xs => exact iter_tuple R r e h
    | str x => exact let ⟨t, q⟩ := r; q ▸ iter_str R e h
    | _ => exact e.elim
  | hl i => exact let ⟨a, q, ha⟩ := r; q ▸ iter_cell R ha e.m h
  | rng lo hi sp => exact let ⟨a, t, u, z, q, f⟩ := r; q ▸ iter_range R f e.m h
  | _ => exact e.elim
end
section
variable {prog : Program} {w : World} {K : Ctx0} {A : Around} {E : Value → Shared → Prop} {C : Cx} {env : Env} {st : Mine.St} {ρ ρ₁ : Rho} {s s₁ : Shared} {n : Nat} {f : Fs} {P : It × Mine.St → Prop} {Q : Value → Shared → Prop}
theorem PostI.aft (h : PostI prog w K C env P ρ s Q) (S : Step K C env st No ρ s ρ₁ s₁) : PostI prog w K C env P ρ₁ s₁ Q := fun p I ws T U ρ' s' e g t S' n => h p I ws T U ρ' s' e g t (S.aft S') fun a q l => n a q (S.mv.live l id)
theorem wp_iterE {e : Expr} (IE : SE prog w K n C (f.ev C)) (h : Hd (Mine.iterV f C e st) P) (hA : AOK A n) (O : EnvOK K C env) (R : Rel K C env st ρ s) (hQ : PostI prog w K C env P ρ s Q) : wpAny (model prog w) A (eval e env) (fun xv s₁ => wpAny (model prog w) A (pyIter xv) Q E s₁) E s :=
  (IE h.b).2 hA O R fun p val ρ₁ s₁ h X => by
    obtain ⟨v, st₁⟩ := p
    have h := Hd.m h
    cases v with
    | fl xs => exact X.data (P := fun x => Hd (itD x) fun it => P (it, st₁)) h fun x ρ₂ e S d => wp_iterV (v := .d x) S.rel d e rfl (hQ.aft S)
    | _ => exact wp_iterV X.step.rel X.vr h rfl (hQ.aft X.step)
end
end Mine
end
section
open PySem PySem.W PyProof.Rows
namespace Mine
theorem wpAny_unpackItems_listM {prog : Program} {w : World} {A : Around} {E : Value → Shared → Prop} {s : Shared} {t : Addr} {items : Array Value} {Q : List Value → Shared → Prop} (hh : A.handled = none) (ht : s.heap.IsList t items)
    (hQ : ∀ h', Heap.ExtBut s.heap.objs.size s.heap h' → Q items.toList { s with heap := h' }) : wpAny (model prog w) A (unpackItems (.ref t) items.size none) Q E s := by
  have hlt : t ≠ s.heap.objs.size := by obtain ⟨o, ho, _⟩ := ht; exact Nat.ne_of_lt (Heap.lt_size ho)
  have dr : ∀ (n i : Nat) (s₁ : Shared) (Q : List Value → Shared → Prop), s₁.heap.IsListIter s.heap.objs.size t i → s₁.heap.IsList t items → i + n ≤ items.size →
      (∀ h', h'.IsListIter s.heap.objs.size t (i + n) → Heap.SameBut s.heap.objs.size s₁.heap h' → Q ((items.toList.drop i).take n) { s₁ with heap := h' }) → wpAny (model prog w) A (draw (.ref s.heap.objs.size) n) Q E s₁ := by
    intro n
    induction n with
    | zero =>
      intro i s₁ Q hit _ _ hQ
      show wpAny _ _ (pure []) Q E s₁
      exact wpAny_pure (by simpa using hQ s₁.heap hit (Heap.SameBut.refl ..))
    | succ n ih =>
      intro i s₁ Q hit ht hle hQ
      have hlt' : i < items.size := by omega
      show wpAny _ _ (pyNext (.ref _) >>= _) Q E s₁
      refine wpAny_bind (wpAny_pyNext_list_item hit ht (x := items[i]) (by simp [hlt']) fun h₁ hit₁ hs₁ => ?_)
      refine wpAny_bind (wpAny_holding (ih (i + 1) _ _ hit₁ (ht.extBut hs₁.extBut hlt) (by omega) fun h₂ hit₂ hs₂ => wpAny_pure ?_))
      have hd : items.toList.drop i = items[i] :: items.toList.drop (i + 1) := by simp [List.drop_eq_getElem_cons, hlt']
      have := hQ h₂ (by rw [show i + (n + 1) = i + 1 + n by omega]; exact hit₂) (hs₁.trans hs₂)
      rw [hd, List.take_succ_cons] at this
      exact this
  unfold unpackItems
  refine wpAny_bind ?_
  unfold notIterableAtAll
  refine wpAny_bind (wpAny_specialOf ht.typeIs slot_list_iter.lookup ?_)
  refine wpAny_pure ?_
  simp only [Bool.false_eq_true, if_false]
  have htp : ∀ o, (s.heap.push o).IsList t items := fun o => let ⟨ob, ho, r⟩ := ht; ⟨ob, Heap.get?_push_of_some _ ho, r⟩
  refine wpAny_bind (wpAny_holding (wpAny_pyIter_list ht ?_))
  refine wpAny_bind (wpAny_holding (dr items.size 0 _ _ ⟨_, Heap.get?_push_size _ rfl, rfl, rfl⟩ (htp _) (by omega) fun h₁ hit₁ hs₁ => ?_))
  have hall : List.take items.size (List.drop 0 items.toList) = items.toList := by
    rw [List.drop_zero]; exact List.take_of_length_le (by simp)
  rw [hall]
  rw [if_neg (by simp)]
  have ht₁ : h₁.IsList t items := (htp _).extBut hs₁.extBut hlt
  refine wpAny_bind (wpAny_holding (wpAny_pyNext_list_end hh hit₁ ht₁ (by simp) fun h₂ he₂ => ?_))
  simp only [Option.isSome_none, Bool.false_eq_true, if_false]
  exact wpAny_pure (hQ h₂ fun b o hb e => he₂ b o hb (hs₁.extBut b o hb (Heap.get?_push_of_some _ e)))
theorem wpAny_setItem_listM {prog : Program} {w : World} {A : Around} {E : Value → Shared → Prop} {s : Shared} {l : Addr} {items : Array Value} {n : Nat} {k : Int} {t : Tok} {v : Value} {Q : Unit → Shared → Prop} (ho : s.heap.get? l = some (lObj items n))
    (h0 : 0 ≤ k) (hfit : k < 2 ^ 63) (hn : k < items.size)
    (hQ : ∀ h' n', h'.get? l = some (lObj (items.setIfInBounds k.toNat v) n') → Heap.SameBut l s.heap h' → Q () { s with heap := h' }) :
    wpAny (model prog w) A (setItem (.ref l) (.int k t) v) Q E s := by
  have hl : s.heap.IsList l items := ⟨_, ho, rfl, n, rfl⟩
  unfold setItem
  refine wpAny_holding ?_
  refine wpAny_bind (wpAny_sequenceKey hl.typeIs (by decide) ?_)
  refine wpAny_bind (wpAny_callSpecial?_slot (name := Str.ofString "__setitem__") hl.typeIs slot_list_setitem
    (wpAny_call_entry slot_list_setitem hl.typeIs entry_list_setitem ?_ (args_list_setitem _ _ _)))
  show wpAny _ _ (Builtin.List.listSubscript? (.int k t) >>= _) _ _ s
  refine wpAny_bind (wpAny_listSubscript_int (fitsIndex_of h0 hfit) ?_)
  clear hfit
  obtain ⟨j, rfl⟩ := Int.eq_ofNat_of_zero_le h0
  have hj : j < items.size := by omega
  have hx' : items[j]? = some items[j] := Array.getElem?_eq_getElem hj
  show wpAny _ _ ((seqItemAt l j >>= fun r => pure (r.map (j, ·))) >>= _) _ _ s
  refine wpAny_bind (wpAny_bind (wpAny_seqItemAt ho rfl (wpAny_pure ?_)))
  rw [hx']
  show wpAny _ _ (setSeqItemAt l j v >>= _) _ _ s
  obtain ⟨n', hd'⟩ : ∃ n', (lObj items n).mapSeq (·.setIfInBounds j v) = lObj (items.setIfInBounds j v) n' := ⟨_, rfl⟩
  have hfin : (s.heap.update l (Obj.mapSeq (·.setIfInBounds j v))).get? l = some (lObj (items.setIfInBounds j v) n') := by
    rw [Heap.get?_update_self _ ho (by rw [hd']; rfl), hd']
  refine wpAny_bind (wpAny_setSeqItemAt ho rfl ?_)
  first
    | exact wpAny_bind (wpAny_pure (wpAny_pure ⟨.none, rfl, wpAny_pure (hQ _ _ hfin (Heap.SameBut.update ..))⟩))
    | exact wpAny_pure ⟨.none, rfl, wpAny_pure (hQ _ _ hfin (Heap.SameBut.update ..))⟩
section
variable (prog : Program) (w : World) (K : Ctx0) (n : Nat) (C : Cx)
noncomputable def okT (C : Cx) : Expr → Bool | .Starred .. => false | .List .. => false | .Name x _ => isK C.sc x .local || isK C.sc x .cell | _ => true
noncomputable def PostS (P : St → Prop) (env : Env) (ow : Addr → Prop) (ρ : Rho) (s : Shared) (Q : Unit → Shared → Prop) : Prop := ∀ st' ρ' s', P st' → Step K C env st' ow ρ s ρ' s' → Q () s'
noncomputable def SB (f : Expr → V → St → Option St) : Prop := ∀ {t v st P}, Hd (f t v st) P → okT C t = true ∧ ∀ {A s ρ env val Q E}, AOK A n → EnvOK K C env → Rel K C env st ρ s → VR K s.heap ρ v val → PostS K C P env (Ow v val) ρ s Q → wpAny (model prog w) A (assign t env val) Q E s
end
section
variable {prog : Program} {w : World} {G : Env'} {K : Ctx0} {fa : Str → Addr} {A : Around} {E : Value → Shared → Prop} {C : Cx} {env : Env} {st st₁ : St} {ρ ρ₁ ρ₂ : Rho} {s s₁ s₂ : Shared} {n : Nat} {f : Fs} {P : St → Prop} {Q : Unit → Shared → Prop} {pos : Pos} {v : V} {val : Value} {ow ow' : Addr → Prop}
theorem PostS.aft (h : PostS K C P env ow ρ s Q) (S : Step K C env st₁ ow ρ s ρ₁ s₁) (hw : ∀ b, Live s.heap b → ow' b → ow b) : PostS K C P env ow' ρ₁ s₁ Q := fun st' ρ' s' e S' => h st' ρ' s' e (S.trans S' hw)
theorem wp_bindBy (g : Expr → V → St → Option St) (F : Expr → Value → Sem Unit) : ∀ (ts : List Expr) (vs : List V) {vals st ρ s}, (∀ t ∈ ts, ∀ {v st s ρ val} {P : St → Prop} {Q : Unit → Shared → Prop}, Hd (g t v st) P → Rel K C env st ρ s → VR K s.heap ρ v val → PostS K C P env (Ow v val) ρ s Q → wpAny (model prog w) A (F t val) Q E s) →
    ts.length = vs.length → Hd (bindAll g (ts.zip vs) st) P → VRs K s.heap ρ vs vals → Rel K C env st ρ s → PostS K C P env (Ows vs vals) ρ s Q → wpAny (model prog w) A (assignInOrder (ts.map F) vals) Q E s
  | [], [], _, _, _, _, _, _, e, rs, R, h => by
    cases (rs : _ = [])
    exact wpAny_pure (h _ _ _ e (R.stay fun _ q => q.elim))
  | [], _ :: _, _, _, _, _, _, l, _, _, _, _ => nomatch l
  | _ :: _, [], _, _, _, _, _, l, _, _, _, _ => nomatch l
  | t :: ts, v :: vs, _, st, ρ, s, H, l, e, rs, R, h => by
    have own := fun b (o : Ows (v :: vs) _ b) => (VRs.own rs o).1
    obtain ⟨rfl, a, r, d⟩ := rs
    show wpAny _ A (do holding _ (F t _); assignInOrder (ts.map F) _) Q E s
    exact wpAny_bind (wpAny_holding (H t (.head _) (Hd.b e) R a fun st₁ ρ₁ s₁ e S => wp_bindBy g F ts vs (fun t ht => H t (.tail _ ht)) (Nat.succ.inj l) e (r.mv S.mv fun b o o' => d b o' o) S.rel (h.aft (S.more own fun _ => .inl) fun _ _ => .inr)))
theorem bindAll_ok {g : Expr → V → St → Option St} (H : ∀ {t v st} {P : St → Prop}, Hd (g t v st) P → okT C t = true) : ∀ {l : List (Expr × V)} {st} {P : St → Prop}, Hd (bindAll g l st) P → ∀ p ∈ l, okT C p.1 = true
  | [], _, _, _, _, h => nomatch h
  | q :: l, st, P, e, p, hp => (Hd.b e).get fun st₁ h1 e => (List.mem_cons.mp hp).elim (fun z => z ▸ H (.of h1 trivial : Hd _ fun _ => True)) (bindAll_ok H e p)
theorem zip_all {α β : Type} {p : α → Prop} : ∀ {ts : List α} {vs : List β}, ts.length = vs.length → (∀ q ∈ ts.zip vs, p q.1) → ∀ t ∈ ts, p t
  | [], _, _, _, _, h => nomatch h
  | _ :: _, [], l, _, _, _ => nomatch l
  | t :: ts, v :: vs, l, h, u, hu => (List.mem_cons.mp hu).elim (fun q => q ▸ h (t, v) (.head _)) (zip_all (Nat.succ.inj l) (fun q hq => h q (.tail _ hq)) u)
theorem assignEach_plain (env : Env) : ∀ {ts : List Expr}, (∀ t ∈ ts, okT C t = true) → assignEach ts env = ts.map fun t => (false, assign t env)
  | [], _ => rfl
  | t :: ts, h => by
    have ih := assignEach_plain env fun t ht => h t (.tail _ ht)
    have h0 := h t (.head _)
    rw [List.map_cons, ← ih]
    cases t <;> first | rfl | cases h0
theorem parts_len {m : Nat} {o : Objs} {P : List V → Prop} {T : Prop} (e : Hd (parts m o v) P) (k : ∀ vs, m = vs.length → P vs → T) : T := e.b.get fun xs _ e => e.gd fun h e => k (xs.map .d) (h.symm.trans (List.length_map _).symm) e
theorem VRs.ofDatas {h : Heap} {xs : List PyData} {vals : List Value} (r : Rds (Fz h ρ) xs vals) : VRs K h ρ (xs.map .d) vals := Rds.ind (P := fun xs vals => VRs K h ρ (xs.map .d) vals) rfl (fun _ _ _ _ a _ b => ⟨rfl, a, b, fun _ q => q.elim⟩) r
theorem Ows.data : ∀ {xs : List PyData} {vals : List Value} {b : Addr}, ¬ Ows (xs.map .d) vals b
  | [], _, _, o => o
  | _ :: _, [], _, o => o
  | _ :: _, _ :: _, _, o => o.elim id Ows.data
theorem wp_parts {P : List V → Prop} {Q : List Value → Shared → Prop} {m : Nat} (hA : A.handled = none) (R : Rel K C env st ρ s) (r : VR K s.heap ρ v val) (e : Hd (parts m st.objs v) P)
    (h : ∀ (xs : List PyData) vals ρ' s', P (xs.map .d) → xs.length = m → Step K C env st (Ow v val) ρ s ρ' s' → VRs K s'.heap ρ' (xs.map .d) vals → Q vals s') : wpAny (model prog w) A (unpackItems val m none) Q E s := by
  have own := fun b (o : Ow v val b) => (r.own o).1
  have lst : ∀ {xs ρ₁}, IsL s.heap ρ₁ xs val → Step K C env st (Ow v val) ρ s ρ₁ s → Hd (gd (decide (xs.length = m)) (some (xs.map V.d))) P → wpAny (model prog w) A (unpackItems val m none) Q E s := fun l S e => e.gd fun hm ep => by
    obtain @⟨a, o, items, n, rfl, g, c, d, rr⟩ := l
    obtain rfl : items.size = m := rr.size.trans hm
    refine wpAny_unpackItems_listM hA ⟨o, g, c, n, d⟩ fun h' he => ?_
    have S' := S.rel.go (h' := h') (t := s.toks) fun b o e => he b o (fun q => not_live_size ⟨o, q ▸ e⟩) e
    exact h _ _ _ _ ep hm (S.aft S') (VRs.ofDatas (rr.mono S'.mv.fz))
  refine Hd.el e.b (fun e => Hd.tup e r fun xs e l => Hd.gd e fun hm ep => ?_) fun e => ?_
  · have stay := R.stay own
    obtain @⟨a, o, items, n, rfl, g, c, d, rr⟩ := l
    obtain rfl : items.size = m := rr.size.trans hm
    refine wpAny_unpackItems_tuple hA ⟨o, g.2, c, n, d⟩ fun h' he => ?_
    have S' := R.go (h' := h') (t := s.toks) fun b o e => he b o (fun q => not_live_size ⟨o, q ▸ e⟩) e
    exact h _ _ _ _ ep hm (stay.aft S') (VRs.ofDatas (rr.mono S'.mv.fz))
  · cases v with
    | fl xs =>
      obtain ⟨a, ea, o⟩ := r
      obtain ⟨S, d⟩ := R.drop o
      obtain ⟨e', f, c, dd, rr⟩ := (show LA _ _ _ _ from d)
      exact lst ⟨ea.trans e', f.2, c, dd, rr⟩ (S.more own fun b q => q ▸ ea) e
    | _ => exact Hd.list R.w.store e r fun xs e l => lst l (R.stay fun _ q => q.elim) e
theorem wp_bindSub {o i : Expr} (IE : SE prog w K n C (f.ev C)) (e : Hd (bindS f C (.Subscript o i pos) v st) P) (hA : AOK A n) (O : EnvOK K C env) (R : Rel K C env st ρ s) (r : VR K s.heap ρ v val) (h : PostS K C P env (Ow v val) ρ s Q) : wpAny (model prog w) A (assign (.Subscript o i pos) env val) Q E s := by
  rw [arm_assign_Subscript]
  refine wpAny_bind (wpAny_holding ((IE (Hd.b e)).2 hA O R fun p vo ρ₁ s₁ e X => ?_))
  obtain ⟨u, st₁⟩ := p
  cases u with
  | hl k =>
    replace e : Hd ((f.ev C i st₁).bind fun q => (asI q.1).bind fun i => (rd0 v).bind fun x => (listAt q.2.objs k).bind fun xs => gd (decide (0 ≤ i)) ((idx? i xs.length).map fun j => setCell k (.list (xs.set j x)) q.2)) P := e
    refine wpAny_bind (wpAny_holding ((IE e.b).2 hA O X.step.rel fun q vi ρ₂ s₂ e Y => wpAny_bind (wpAny_standAt (wpAny_bind (wpAny_holding ?_)))))
    have S12 := X.step.aft Y.step
    have rv := r.mv0 S12.mv
    refine Hd.int (Hd.b e) Y.vr fun j t z e => Hd.data (Hd.b e) Y.step.rel rv fun x ρ₃ e S3 dx => listAt_ok S3.rel.w.store (Hd.b e) fun a' xs items m e q g d => Hd.gd e fun h0 e => Hd.idx (Hd.m e) fun m ep ix => ?_
    obtain ⟨a, rfl, ha⟩ := X.vr
    have hat := S3.mv.at_ _ _ (Y.step.mv.at_ _ _ ha)
    obtain rfl : a' = a := q.1.symm.trans hat.1
    subst z
    have hz := d.size
    have hm : maxLen < 2 ^ 62 := by decide
    have hl := ix.lt; have hle := ix.le
    obtain rfl := ix.pos h0
    refine wpAny_setItem_listM g h0 (by omega) (by omega) fun h' n' hg' hs' => wpAny_release' (h _ _ _ ep ((S12.more (fun b o => (r.own o).1) fun _ q => q.elim).trans (S3.aft (S3.rel.setList (t := s₂.toks) hat hs' hg' ?_)) fun _ _ o => o))
    rw [Array.toList_setIfInBounds]; exact d.set dx _
  | _ => exact (show False from e).elim
theorem wp_bindAttr {o : Expr} {a : Str} (W : Wd prog w K G fa) (IE : SE prog w K n C (f.ev C)) (e : Hd (bindS f C (.Attribute o a pos) v st) P) (hA : AOK A n) (O : EnvOK K C env) (R : Rel K C env st ρ s) (r : VR K s.heap ρ v val) (h : PostS K C P env (Ow v val) ρ s Q) : wpAny (model prog w) A (assign (.Attribute o a pos) env val) Q E s := by
  show wpAny _ A (do
    let ov ← holding [val] (eval o env)
    standAt pos.atName
    holding [val, ov] (setAttr ov a val)
    release [val, ov] []) Q E s
  refine wpAny_bind (wpAny_holding ((IE (Hd.b e)).2 hA O R fun p vo ρ₁ s₁ e X => wpAny_bind (wpAny_standAt (wpAny_bind (wpAny_holding ?_)))))
  obtain ⟨u, st₁⟩ := p
  cases u with
  | obj i =>
    refine Hd.g (show Hd (gd (a == ("_headers" : Str)) (v.hl?.bind fun h => (instAt st₁.objs i).bind fun k => gd k.isNone (some (setCell i (.inst (some h)) st₁)))) P from e) fun hn e => ?_
    obtain rfl := eq_of_beq hn
    cases v with
    | hl k =>
      obtain ⟨l, rfl, hl⟩ := r
      obtain ⟨p, rfl, hp⟩ := X.vr
      have hl := X.step.mv.at_ _ _ hl
      have Rw := X.step.rel
      refine instAt_ok Rw.w.store hp (Hd.b e) fun c e r => Hd.g e fun hc e => ?_
      obtain rfl : c = none := by cases c <;> first | rfl | cases hc
      obtain ⟨I, hm, hmA⟩ := r.iv hp
      obtain @⟨ox, d, hox, hcx, hdx, hncx, kd, hinst⟩ := r
      refine W.co Rw.up0 fun _ _ _ _ _ _ _ _ _ _ _ _ _ hC hN => ?_
      have hxC : p ≠ K.cls := fun q => W.co (fun _ _ e => e) fun _ _ _ _ _ _ _ _ _ _ _ _ _ hC₀ _ => nomatch (q ▸ hp.2).symm.trans (Rw.w.base hC₀).1
      refine store_attr PySem.F.store_object hC hN W.nsa W.nhd (by rw [typeLookup_type, builtinLookup_eq_fast]; rfl') hxC I (fun h' tk' I' hk hsame => ?_) (ns := []) (fun y hy => absurd (hmA y) hy) (by simp)
      obtain ⟨o₁, e₁, c₁, dt₁, _, dk₁⟩ := hsame ox hox
      have hd₁ := dk₁ d hdx
      obtain ⟨o', e', _, _, hd'⟩ := I'
      obtain rfl := Option.some.inj (e₁.symm.trans e')
      have hns' := hd'.resolve_left fun q => nomatch hd₁.symm.trans q.1
      obtain ⟨d', hd', _, hns'⟩ := hns'
      obtain rfl := Option.some.inj (hd₁.symm.trans hd')
      rw [funext hmA] at hns'
      have kk : ∀ b o, ρ₁.k b ≠ .cell i → ρ₁.k b ≠ .dct i → s₁.heap.get? b = some o → h'.get? b = some o := fun b o h1 h2 => hk b o (fun q => h1 (q ▸ hp.2)) fun o₀ d' e₀ ed q => by
        obtain rfl := Option.some.inj (hox.symm.trans e₀); obtain rfl := Option.some.inj (hdx.symm.trans ed); exact h2 (q ▸ kd)
      have lv : ∀ b, Live s₁.heap b → Live h' b := fun b ⟨o, e⟩ => by
        by_cases q : b = p
        · exact q ▸ ⟨_, e₁⟩
        · by_cases q' : b = d
          · exact q' ▸ let ⟨o, _, _, e, _⟩ := hns'; ⟨o, e⟩
          · exact ⟨o, hk b o q (fun o₀ d' e₀ ed z => by obtain rfl := Option.some.inj (hox.symm.trans e₀); obtain rfl := Option.some.inj (hdx.symm.trans ed); exact q' z) e⟩
      have S4 := Rw.setCell (t := tk') (c := .inst (some k)) hp kk lv (.mk e₁ (c₁.trans hcx) hd₁ (fun c => dt₁ ▸ hncx c) kd ⟨l, hl, hns'⟩)
      exact wpAny_release' (h _ _ _ e ((X.step.aft S4).more (fun _ q => q.elim) fun _ q => q.elim))
    | _ => exact (show False from e).elim
  | _ => exact (show False from e).elim
theorem bind_step (W : Wd prog w K G fa) (IE : SE prog w K n C (f.ev C)) (B : SB prog w K n C (f.bind C)) : SB prog w K (n + 1) C (bindS f C) := by
  intro t v st P e
  cases t with
  | Name x pos => exact ⟨Hd.g e fun q _ => q, fun hA O R r h => PyProof.Rows.assign_Name (wp_bindN O R e r fun st' ρ' s' e S _ => h _ _ _ e S)⟩
  | Tuple ts k pos =>
    refine ⟨rfl, fun {A s ρ env val Q E} hA O R r h => ?_⟩
    have star : ∀ t ∈ ts, okT C t = true := parts_len (Hd.b e) fun vs hl e => zip_all (p := fun t => okT C t = true) hl (bindAll_ok (fun e => (B e).1) e)
    rw [arm_assign_Tuple]
    refine wpAny_bind (wpAny_standAt ?_)
    unfold unpack
    rw [assignEach_plain env star, show (ts.map fun t => (false, assign t env)).findIdx? (·.1) = none from List.findIdx?_eq_none_iff.mpr fun x hx => let ⟨t, _, q⟩ := List.mem_map.mp hx; q ▸ rfl, List.length_map, List.map_map]
    refine wpAny_bind (wpAny_holding (wp_parts hA.hand R r (Hd.b e) fun xs vals ρ₁ s₁ e hl S rs => ?_))
    exact wp_bindBy (f.bind C) (fun t => assign t env) ts _ (fun t _ => fun e R r h => (B e).2 hA.le O R r h) (hl.symm.trans (List.length_map _).symm) e rs S.rel (h.aft S fun b _ o => (Ows.data o).elim)
  | Subscript o i pos => exact ⟨rfl, fun hA O R r h => wp_bindSub IE e hA.le O R r h⟩
  | Attribute o a pos => exact ⟨rfl, fun hA O R r h => wp_bindAttr W IE e hA.le O R r h⟩
  | _ => exact e.elim
end
end Mine
end
section
open PySem PySem.W PyProof.Rows
namespace Mine
section
variable (prog : Program) (w : World) (K : Ctx0) (n : Nat) (C : Cx)
noncomputable def SI (f : Expr → St → Option (It × St)) : Prop := ∀ {e st P}, Hd (f e st) P → plainE e = true ∧ ∀ {A s ρ env Q E}, AOK A n → EnvOK K C env → Rel K C env st ρ s → PostI prog w K C env P ρ s Q → wpAny (model prog w) A (eval e env) (fun xv s₁ => wpAny (model prog w) A (pyIter xv) Q E s₁) E s
end
section
variable {prog : Program} {w : World} {G : Env'} {K : Ctx0} {fa : Str → Addr} {A : Around} {E : Value → Shared → Prop} {C : Cx} {env : Env} {st st₁ : St} {ρ ρ₁ ρ₂ : Rho} {s s₁ s₂ : Shared} {n : Nat} {f : Fs} {P : Fl × St → Prop} {Q : Flow → Shared → Prop} {pos : Pos} {ws : Addr → Prop} {it : It} {I : Addr} {T : Nat → Rho → Heap → Prop} {U : Nat → Value → Rho → Heap → Prop}
theorem FP.turn {p : Fl × St} {again : Option (Fl × St)} {fl : Flow} {T : Prop} (X : FP K C env p ρ s fl ρ₁ s₁) (e : Hd (p.1.turn again p.2) P) (n : Hd again P → fl = .next → T) (c : Hd again P → fl = .cont → T) (b : P (.next, p.2) → fl = .brk → T) (r : ∀ v val, P (.ret v, p.2) → fl = .ret val → (VR K s₁.heap ρ₁ v val ∧ ∀ a, Ow v val a → ¬ Live s.heap a) → T) : T := by
  have fw := X.flow
  revert e fw
  cases p.1 with
  | next => exact n
  | cont => exact c
  | brk => exact b
  | ret v => exact fun e fw => let ⟨val, q, z⟩ := fw; r v val e q z
theorem Gen.gone (g : Gen prog w K it I ws T U) {j : Nat} {h' : Heap} {tk : Nat} (R : Rel K C env st ρ s) (t : T j ρ s.heap) (hk : ∀ b o, ¬ ws b → s.heap.get? b = some o → h'.get? b = some o) : ∃ ρ', Step K C env st ws ρ s ρ' { s with heap := h', toks := tk } := by
  classical
  exact ⟨⟨fun b => if ws b then .fz else ρ.k b, ρ.c⟩, R.own (fun b q => (g.own t b q).1) hk (fun b q => if_neg q) rfl (fun b q n => absurd (if_pos q) n) fun b i q e => nomatch (if_pos q).symm.trans e⟩
noncomputable def ForInv (K : Ctx0) (C : Cx) (env : Env) (f : Fs) (P : Fl × St → Prop) (it : It) (T : Nat → Rho → Heap → Prop) (t : Expr) (b : List Stmt) (ρ : Rho) (s : Shared) (k : Nat) (s₁ : Shared) : Prop :=
  ∃ j st₁ ρ₁, Step K C env st₁ No ρ s ρ₁ s₁ ∧ T j ρ₁ s₁.heap ∧ Hd (forL (fun x st => f.bind C t (.d x) st) (exs (f.ex C) b) it k j st₁) P
theorem wp_forL {t : Expr} {b : List Stmt} (B : SB prog w K n C (f.bind C)) (X : SX prog w K n C (f.ex C)) (hA : AOK A n) (O : EnvOK K C env) (g : Gen prog w K it I ws T U) (ht : okTarget it t = true) (nw : ∀ a, ws a → ¬ Live s.heap a) {R : Result → Shared → Prop}
    (hQ : ∀ p f ρ' s', P p → FP K C env p ρ s f ρ' s' → R (.ok f) s') (k : Nat) (i : ForInv K C env f P it T t b ρ s k s₁) : codeAny (model prog w) A (.forLoop t (.ref I) b [] env) R s₁ := by
  refine codeAny_forLoop_any (ForInv K C env f P it T t b ρ s) ?_ k i
  rintro k s₁ ⟨j, st₁, ρ₁, S₁, T₁, e⟩
  cases k with
  | zero => exact (show False from e).elim
  | succ k =>
    have tail : ∀ {st₂ ρ₂ s₂}, Step K C env st₂ ws ρ₁ s₁ ρ₂ s₂ → Step K C env st₂ No ρ s ρ₂ s₂ := fun S => S₁.trans S fun b l q => nw b q l
    refine (Hd.b e).get fun ox h1 e => ?_
    cases ox with
    | none => exact g.done hA.hand S₁.rel T₁ h1 fun h' tk hk => wpAny_execs_nil (let ⟨ρ₂, S⟩ := g.gone (tk := tk) S₁.rel T₁ hk; hQ _ _ _ _ e ⟨tail S, rfl⟩)
    | some x =>
      refine g.next hA.hand S₁.rel T₁ h1 fun v s₂ S₂ d U₂ => g.go S₂.rel U₂ ht fun s₃ S₃ T₃ => (B (Hd.b e)).2 hA O S₃.rel (show VR K _ _ (.d x) _ from d.mono S₃.mv.fz) fun st₄ ρ₄ s₄ e S₄ => wp_exs X hA O b (Hd.b e) S₄.rel fun p fw ρ₅ s₅ e Y => ?_
      have S15 := ((tail (S₂.trans S₃ fun _ _ q => q)).aft ⟨S₄.rel, S₄.mv⟩).aft Y.step
      have again : Hd _ P → ∃ m, m < k + 1 ∧ ForInv K C env f P it T t b ρ s m s₅ := fun e => ⟨k, Nat.lt_succ_self k, j + 1, p.2, ρ₅, S15, g.mv (g.mv T₃ S₄.mv fun _ _ q => q) Y.step.mv fun _ _ q => q, e⟩
      exact Y.turn e (fun e q => by subst q; exact again e) (fun e q => q ▸ again e) (fun e q => q ▸ hQ _ _ _ _ e ⟨S15, rfl⟩) fun v val e q r => q ▸ hQ _ _ _ _ e ⟨S15, val, rfl, r.1, fun a o l => r.2 a o (((tail (S₂.trans S₃ fun _ _ q => q)).aft ⟨S₄.rel, S₄.mv⟩).mv.live l id)⟩
theorem iter_unfolded {e : Expr} (h : plainE e = true) (x : Value) : foldedSetIterable e env x = pure x := by
  cases e <;> first | rfl | cases h
theorem wp_For {t e : Expr} {b : List Stmt} (I : SI prog w K n C (f.iter C)) (B : SB prog w K n C (f.bind C)) (X : SX prog w K n C (f.ex C)) (h : Hd ((f.iter C e st).bind fun p => gd (okTarget p.1 t) (forL (fun x st => f.bind C t (.d x) st) (exs (f.ex C) b) p.1 loopFuel 0 p.2)) P)
    (hA : AOK A n) (O : EnvOK K C env) (R : Rel K C env st ρ s) (hQ : PostF K C env P ρ s Q) : wpAny (model prog w) A (exec (.For t e b [] pos) env) Q E s :=
  wpAny_For ((I h.b).2 hA O R fun p I ws T U ρ₁ s₁ e g T₁ S₁ nw => Hd.g e fun ht e => wp_forL B X hA O g ht nw (fun p f ρ' s' e X => by exact hQ p f ρ' s' e X) loopFuel ⟨0, p.2, ρ₁, S₁, T₁, e⟩) (iter_unfolded (I h.b).1)
noncomputable def WhInv (K : Ctx0) (C : Cx) (env : Env) (f : Fs) (P : Fl × St → Prop) (t : Expr) (b : List Stmt) (ρ : Rho) (s : Shared) (k : Nat) (s₁ : Shared) : Prop := ∃ st₁ ρ₁, Step K C env st₁ No ρ s ρ₁ s₁ ∧ Hd (whileL (f.tst C t) (exs (f.ex C) b) k st₁) P
theorem wp_While {t : Expr} {b : List Stmt} (IT : ST prog w K n C (f.tst C)) (X : SX prog w K n C (f.ex C)) (h : Hd (whileL (f.tst C t) (exs (f.ex C) b) whileFuel st) P) (hA : AOK A n) (O : EnvOK K C env) (R : Rel K C env st ρ s) (hQ : PostF K C env P ρ s Q) :
    wpAny (model prog w) A (exec (.While t b [] pos) env) Q E s := by
  refine wpAny_While (codeAny_whileLoop (WhInv K C env f P t b ρ s) ?_ whileFuel ⟨st, ρ, R.at0, h⟩)
  rintro k s₁ ⟨st₁, ρ₁, S₁, e⟩
  cases k with
  | zero => exact (show False from e).elim
  | succ k =>
    refine IT (Hd.b e) hA O S₁.rel fun p ρ₂ s₂ e S₂ => Hd.bif e (fun q e => Eq.mpr (if_pos q) (wp_exs X hA O b (Hd.b e) S₂.rel fun p fw ρ₅ s₅ e Y => ?_)) fun q e => Eq.mpr (if_neg (q ▸ nofun)) (wpAny_execs_nil (hQ _ _ _ _ e ⟨S₁.aft S₂, rfl⟩))
    have S12 := S₁.aft S₂
    have again : Hd _ P → ∃ m, m < k + 1 ∧ WhInv K C env f P t b ρ s m s₅ := fun e => ⟨k, Nat.lt_succ_self k, p.2, ρ₅, S12.aft Y.step, e⟩
    exact Y.turn e (fun e q => by subst q; exact again e) (fun e q => q ▸ again e) (fun e q => q ▸ hQ _ _ _ _ e ⟨S12.aft Y.step, rfl⟩) fun v val e q r => q ▸ hQ _ _ _ _ e ⟨S12.aft Y.step, val, rfl, r.1, fun a o l => r.2 a o (S12.mv.live l id)⟩
end
end Mine
end
section
open PySem PySem.W PyProof.Rows
namespace Mine
section
variable {prog : Program} {w : World} {A : Around} {E : Value → Shared → Prop}
theorem codeAny_compStartD {e : Expr} {d : Nat} {g : Comprehension} {it acc : Value} {env : Env} {R : Result → Shared → Prop} {s : Shared} (hl : ∃ elt gens sc pos, e = .ListComp elt gens sc pos) (hg : (clausesOf e)[d]? = some g) (ha : g.is_async = 0)
    (h0 : codeAny (model prog w) A (.compLoop e d it acc env) R s)
    (h : wpAny (model prog w) A (pyIter it) (fun it' s' => codeAny (model prog w) A (.compLoop e d it' acc env) R s')
      (notedBy (model prog w) A env fun x s' => R (.error x) s') s) :
    codeAny (model prog w) A (.compStart e d it acc env) R s := by
  obtain ⟨elt, gens, sc, pos, rfl⟩ := hl
  refine codeAny_of_tree ?_
  show wpAny _ _ ((compStart (.ListComp elt gens sc pos) d it acc env).onRaise (fun x => do noteFrame x env; standAt theWindowsPlace)) _ _ s
  refine wpAny_notedAt ?_
  unfold compStart
  have hb : ((clausesOf (.ListComp elt gens sc pos))[d]?).elim false (·.is_async != 0) = false := by rw [hg]; simp [ha]
  rw [hb, hg]
  simp only [Bool.false_eq_true, if_false]
  show wpAny _ _ (ask >>= _) _ _ s
  refine wpAny_bind (wpAny_askSetting (wpAny_ite ?_))
  split
  · first
      | exact wpAny_bind (wpAny_pure (wpAny_pure (And.intro rfl h0)))
      | exact wpAny_pure (And.intro rfl h0)
  · refine wpAny_bind (wpAny_rule ?_)
    first
      | exact wpAny_bind (wpAny_standAt (wpAny_bind (wpAny_mono h (fun it' s' h' => wpAny_pure (And.intro rfl h')) fun _ _ x => x)))
      | exact wpAny_bind (wpAny_bind (wpAny_standAt (wpAny_bind (wpAny_mono h (fun it' s' h' => wpAny_pure (And.intro rfl h')) fun _ _ x => x))))
end
section
variable (prog : Program) (w : World) (K : Ctx0) (n : Nat)
noncomputable def Dw (D : Addr) (ws : Addr → Prop) (b : Addr) : Prop := b = D ∨ ws b
noncomputable def PostG (K : Ctx0) (C : Cx) (env : Env) (P : List PyData × St → Prop) (D : Addr) (ow : Addr → Prop) (ρ : Rho) (s : Shared) (Q : Shared → Prop) : Prop := ∀ p ρ' s', P p → Step K C env p.2 ow ρ s ρ' s' → Own s'.heap ρ' D p.1 → Q s'
noncomputable def SCm (f : Cx → Expr → Comprehension → List Comprehension → It → St → List PyData → Option (List PyData × St)) : Prop := ∀ {C elt g gs it st acc P}, Hd (f C elt g gs it st acc) P → ∀ {gens sc pos d I ws T U A s ρ env D R}, gens.drop d = g :: gs → g.is_async = 0 → Gen prog w K it I ws T U →
  AOK A n → EnvOK K C env → Rel K C env st ρ s → T 0 ρ s.heap → Own s.heap ρ D acc → ¬ ws D → PostG K C env P D (Dw D ws) ρ s (R (.ok .next)) → codeAny (model prog w) A (.compLoop (.ListComp elt gens sc pos) d (.ref I) (.ref D) env) R s
end
theorem drop_get {α : Type} {l : List α} {d : Nat} {x : α} {r : List α} (h : l.drop d = x :: r) : l[d]? = some x ∧ l[d + 1]? = r[0]? ∧ l.drop (d + 1) = r := by
  have h0 : (l.drop d)[0]? = some x := by rw [h]; rfl
  have h1 : (l.drop d)[1]? = r[0]? := by rw [h]; rfl
  rw [List.getElem?_drop] at h0 h1
  exact ⟨h0, h1, by rw [← List.drop_drop, h]; rfl⟩
section
variable {prog : Program} {w : World} {G : Env'} {K : Ctx0} {fa : Str → Addr} {A : Around} {E : Value → Shared → Prop} {C : Cx} {env : Env} {st st₁ : St} {ρ ρ₁ ρ₂ : Rho} {s s₁ s₂ : Shared} {n : Nat} {f : Fs} {pos : Pos} {ws : Addr → Prop} {it : It} {I D : Addr} {T : Nat → Rho → Heap → Prop} {U : Nat → Value → Rho → Heap → Prop} {xs acc : List PyData} {P : List PyData × St → Prop}
theorem Own.live {h : Heap} {ρ : Rho} (o : Own h ρ D xs) : Live h D := let ⟨_, e, _⟩ := o; ⟨_, e⟩
theorem Own.hid {h : Heap} {ρ : Rho} (o : Own h ρ D xs) : ρ.k D = .hid := let ⟨k, _, _⟩ := o; k
theorem wp_appendOwn {x : PyData} {v : Value} {Q : Value → Shared → Prop} (R : Rel K C env st ρ s) (o : Own s.heap ρ D xs) (hx : xs.length < maxLen) (d : Rd (Fz s.heap ρ) x v) (h : ∀ s', Step K C env st (· = D) ρ s ρ s' → Own s'.heap ρ D (xs ++ [x]) → Q .none s') :
    wpAny (model prog w) A (PySem.call (.builtin "list.append") [.ref D, v]) Q E s := by
  obtain @⟨items, n, k, g, r⟩ := o
  have hz := r.size
  have hm := maxLen_le
  refine wpAny_call_entry slot_list_append ⟨_, g, rfl⟩ entry_list_append ?_ (args_list_append _ _)
  show wpAny _ _ (updateSeq D (·.push v) >>= fun _ => ret .none) _ _ s
  obtain ⟨n', hd'⟩ : ∃ n', (lObj items n).mapSeq (·.push v) = lObj (items.push v) n' := ⟨_, rfl⟩
  refine wpAny_bind (wpAny_updateSeq g rfl (wpAny_pure ⟨.none, rfl, ?_⟩) (by omega) (by rw [Array.size_push]; omega))
  have hg : (s.heap.update D (Obj.mapSeq (·.push v))).get? D = some (lObj (items.push v) n') := (Heap.get?_update_self _ g (by rw [hd']; rfl)).trans (congrArg some hd')
  have hs : Heap.SameBut D s.heap (s.heap.update D (Obj.mapSeq (·.push v))) := Heap.SameBut.update ..
  have S : Step K C env st (· = D) ρ s ρ { s with heap := s.heap.update D (Obj.mapSeq (·.push v)), toks := s.toks } := R.wrote (fun b q => q ▸ k) (fun b o n e => (hs.2 b n).trans e) fun b q => by subst q; exact ⟨_, hg⟩
  exact h _ S ⟨k, hg, by rw [Array.toList_push]; exact (r.app (.one d)).mono S.mv.fz⟩
theorem wp_ifs {P : Bool × St → Prop} (IT : ST prog w K n C (f.tst C)) (hA : AOK A n) (O : EnvOK K C env) (F : Expr → Bool → Sem (ForInStep Bool)) (hf : ∀ c r, F c r = if r = true then do let ok ← isTrue c env (eval c env); pure (ForInStep.yield ok) else pure (ForInStep.yield r)) :
    ∀ (es : List Expr) {st s ρ Q}, Hd (evAnd (f.tst C) es st) P → Rel K C env st ρ s → PostB K C env P ρ s Q → wpAny (model prog w) A (forIn es true F) Q E s
  | [], _, _, _, _, e, R, h => wpAny_pure (h _ _ _ e R.at0)
  | x :: es, st, s, ρ, Q, e, R, h => by
    have no : ∀ (l : List Expr) {s : Shared}, Q false s → wpAny (model prog w) A (forIn l false F) Q E s := by
      intro l
      induction l with
      | nil => exact wpAny_pure
      | cons c l ih => intro s h; rw [List.forIn_cons, hf]; exact wpAny_bind (wpAny_pure (ih h))
    rw [List.forIn_cons, hf, if_pos rfl]
    exact wpAny_bind (wpAny_bind (IT (Hd.b e) hA O R fun p ρ₁ s₁ e S => wpAny_pure (Hd.bif e (fun q e => by rw [q]; exact wp_ifs IT hA O F hf es e S.rel (h.aft S)) fun q e => by rw [q]; exact no es (h _ _ _ e S))))
noncomputable def CompInv (K : Ctx0) (C : Cx) (env : Env) (f : Fs) (elt : Expr) (g : Comprehension) (gs : List Comprehension) (P : List PyData × St → Prop) (it : It) (T : Nat → Rho → Heap → Prop) (D : Addr) (ws : Addr → Prop) (ρ : Rho) (s : Shared) (k : Nat) (s₁ : Shared) : Prop :=
  ∃ j st₁ ρ₁ acc, Step K C env st₁ (Dw D ws) ρ s ρ₁ s₁ ∧ T j ρ₁ s₁.heap ∧ Own s₁.heap ρ₁ D acc ∧ Hd (compL (compF f C elt g gs) it k j st₁ acc) P
theorem comp_step (IE : ∀ C, SE prog w K n C (f.ev C)) (IT : ∀ C, ST prog w K n C (f.tst C)) (B : ∀ C, SB prog w K n C (f.bind C)) (II : ∀ C, SI prog w K n C (f.iter C)) (IC : SCm prog w K n f.comp) : SCm prog w K (n + 1) fun C elt g gs it st acc => compS f C elt g gs it st acc := by
  intro C elt g gs it st acc P e gens sc pos d I ws T U A s ρ env D R hd hasync gen hA1 O Rl T0 o0 hDw h
  have hA := hA1.le
  refine e.g fun ht e => ?_
  obtain ⟨hg, hg1, hdrop⟩ := drop_get hd
  have own : ∀ b, Dw D ws b → ρ.k b = .hid := fun b q => q.elim (fun q => q ▸ o0.hid) fun q => (gen.own T0 b q).1
  refine codeAny_loop rfl (CompInv K C env f elt g gs P it T D ws ρ s) ?_ loopFuel ⟨0, st, ρ, acc, Rl.stay own, T0, o0, e⟩
  rintro k s₁ ⟨j, st₁, ρ₁, acc₁, S₁, T₁, o₁, e⟩
  show wpAny _ A ((compTurn (.ListComp elt gens sc pos) d (.ref I) (.ref D) env).onRaise (fun x => do noteFrame x env; theTreesLotGoes x)) _ _ s₁
  refine wpAny_noted ?_
  unfold compTurn
  dsimp only
  rw [hg]
  dsimp only
  rw [show (g.is_async != 0) = false by rw [hasync]; rfl]
  simp only [Bool.false_eq_true, if_false]
  refine wpAny_bind (wpAny_standAt (wpAny_bind ?_))
  cases k with
  | zero => exact (show False from e).elim
  | succ k =>
    have wsD : ∀ b, b = D → ¬ ws b := fun b q => q ▸ hDw
    refine (Hd.b e).get fun ox h1 e => ?_
    cases ox with
    | none =>
      refine gen.done hA1.hand S₁.rel T₁ h1 fun h' tk hk => wpAny_pure ?_
      obtain ⟨ρ₂, Sg⟩ := gen.gone (tk := tk) S₁.rel T₁ hk
      exact h _ _ _ e (S₁.trans Sg fun _ _ => .inr) (o₁.mv Sg.mv hDw)
    | some x =>
      refine gen.next hA1.hand S₁.rel T₁ h1 fun v s₂ S₂ dv U₂ => ?_
      dsimp only
      refine wpAny_bind (gen.go S₂.rel U₂ ht fun s₃ S₃ T₃ => wpAny_bind ((B C (Hd.b (Hd.b e))).2 hA O S₃.rel (show VR K _ _ (.d x) _ from dv.mono S₃.mv.fz) fun st₄ ρ₄ s₄ e S₄ => wpAny_bind (wp_ifs (IT C) hA O _ (fun c r => rfl) g.ifs (Hd.b e) S₄.rel fun p ρ₅ s₅ e S₅ => ?_)))
      have J : Step K C env p.2 (Dw D ws) ρ s ρ₅ s₅ := ((S₁.trans (S₂.trans S₃ fun _ _ q => q) fun _ _ => .inr).aft ⟨S₄.rel, S₄.mv⟩).aft S₅
      have T₅ := gen.mv (gen.mv T₃ S₄.mv fun _ _ q => q) S₅.mv fun _ _ q => q
      have o₅ := (((o₁.mv S₂.mv hDw).mv S₃.mv hDw).mv S₄.mv id).mv S₅.mv id
      have agn : ∀ {q : List PyData × St} {ow ρ₆ s₆}, Step K C env q.2 ow ρ₅ s₅ ρ₆ s₆ → (∀ b, Live s₅.heap b → ow b → b = D) → Own s₆.heap ρ₆ D q.1 → Hd (compL (compF f C elt g gs) it k (j + 1) q.2 q.1) P → ∃ m, m < k + 1 ∧ CompInv K C env f elt g gs P it T D ws ρ s m s₆ := fun {q ow ρ₆ s₆} S how o e =>
        ⟨k, Nat.lt_succ_self k, j + 1, q.2, ρ₆, q.1, J.trans S fun b l z => Classical.byContradiction fun n => n (.inl (how b (J.mv.live l n) z)), gen.mv T₅ S.mv (fun b q z => wsD b (how b (gen.own T₅ b q).2 z) q), o, e⟩
      refine Hd.bif e (fun q e => ?_) fun q e => ?_ <;> rw [q]
      · rw [if_pos rfl]
        cases gs with
        | nil =>
          rw [show gens[d + 1]? = none from hg1]
          dsimp only
          refine wpAny_bind (wpAny_bind ((IE C (Hd.b e)).2 hA O S₅.rel fun p val ρ₆ s₆ e X => wpAny_bind (X.data (Hd.b e) fun y ρ₇ e S₇ dy => Hd.gd e fun hl e => ?_)))
          exact wp_appendOwn S₇.rel (o₅.mv S₇.mv id) hl dy fun s₈ S₈ o₈ => wpAny_pure (wpAny_pure ⟨rfl, agn (q := (acc₁ ++ [y], p.2)) ((S₇.more (ow' := (· = D)) (fun b z => (z : b = D) ▸ o₅.hid) fun _ z => z.elim).trans S₈ fun _ _ z => z) (fun b _ z => z) o₈ e⟩)
        | cons g' gs' =>
          rw [show gens[d + 1]? = some g' from hg1]
          dsimp only
          refine Hd.gd e fun ha e => ?_
          have Y := II C (Hd.b e)
          rw [show (g'.is_async != 0) = false by rw [ha]; rfl]
          simp only [Bool.false_eq_true, if_false]
          refine wpAny_bind (wpAny_mono (Y.2 (Q := fun itv s' => wpAny (model prog w) A (do
              let _ ← runOwn (.compStart (.ListComp elt gens sc pos) (d + 1) itv (.ref D) env) env
              again (.compLoop (.ListComp elt gens sc pos) d (.ref I) (.ref D) env)) _ _ s') hA O S₅.rel fun p I' ws' T' U' ρ₆ s₆ e gen' T₆ S₆ nw => ?_)
            (fun xv s' h' => wpAny_bind (wpAny_standAt (wpAny_bind (wpAny_of_eq (iter_unfolded Y.1 xv) (wpAny_bind (wpAny_holding h')))))) fun _ _ x => x)
          have o₆ := o₅.mv S₆.mv id
          have cl : ∀ {R' : Result → Shared → Prop}, (∀ s₇, (∃ m, m < k + 1 ∧ CompInv K C env f elt g (g' :: gs') P it T D ws ρ s m s₇) → R' (.ok .next) s₇) → codeAny (model prog w) A (.compLoop (.ListComp elt gens sc pos) (d + 1) (.ref I') (.ref D) env) R' s₆ := fun hR =>
            IC e hdrop ha gen' hA O S₆.rel T₆ o₆ (fun q => nw D q o₅.live) fun q ρ₇ s₇ e S₇ o₇ => hR s₇ (agn ((S₆.more (ow' := (· = D)) (fun b z => (z : b = D) ▸ o₅.hid) fun _ z => z.elim).trans S₇ fun b l z => z.elim id fun z => absurd l (nw b z)) (fun b _ z => z) o₇ e)
          exact wpAny_bind (wpAny_runOwn (codeAny_compStartD ⟨_, _, _, _, rfl⟩ hg1 ha (cl fun s₇ i => wpAny_pure ⟨rfl, i⟩) (gen'.iter hA1.hand T₆ (cl fun s₇ i => wpAny_pure ⟨rfl, i⟩))))
      · rw [if_neg (by decide)]
        exact wpAny_pure ⟨rfl, agn (q := (acc₁, p.2)) S₅.rel.at0 (fun _ _ z => z.elim) o₅ e⟩
end
end Mine
end
section
open PySem PySem.W PyProof.Rows
namespace Mine
theorem lk_map {α : Type} {f : Str × α → Str × α} (hf : ∀ p, (f p).1 = p.1) {x : Str} {k : α} : ∀ {l : List (Str × α)}, l.lookup x = some k → (l.map f).lookup x = some (f (x, k)).2
  | p :: l, h => by
    rw [List.map_cons, show f p = ((f p).1, (f p).2) from rfl, lk_cons, hf]
    rw [show p = (p.1, p.2) from rfl, lk_cons] at h
    by_cases e : x = p.1
    · rw [if_pos e] at h ⊢; cases h; cases e; rfl
    · rw [if_neg e] at h ⊢; exact lk_map hf h
theorem relabel_lookup {sc : Scope} {env : Env} {x : Str} {k : NameKind} (h : sc.names.lookup x = some k) : (relabel sc env).names.lookup x = some k ∨ (k = .free ∧ (relabel sc env).names.lookup x = some .cell) := by
  have e : (relabel sc env).names.lookup x = _ := lk_map (fun p => by dsimp only; split <;> rfl) h
  dsimp only at e
  split at e
  · rename_i q
    exact .inr ⟨eq_of_beq (Bool.and_eq_true _ _ ▸ (Bool.and_eq_true _ _ ▸ q : _ ∧ _).1 : _ ∧ _).1, e⟩
  · exact .inl e
theorem lookup_filter {vs : Vars} {p : Str → Bool} {x : Str} (hp : p x = true) {ov : Option V} (h : (vs.filter fun y => p y.1).lookup x = some ov) : vs.lookup x = some ov := by
  induction vs with
  | nil => cases h
  | cons q vs ih =>
    rw [show q = (q.1, q.2) from rfl, lk_cons]
    by_cases e : x = q.1
    · rw [List.filter_cons_of_pos (by rw [← e]; exact hp), show q = (q.1, q.2) from rfl, lk_cons, if_pos e] at h
      rw [if_pos e]; exact h
    · rw [if_neg e]
      refine ih ?_
      by_cases f : p q.1 = true
      · rwa [List.filter_cons_of_pos (p := fun y : Str × Option V => p y.1) f, show q = (q.1, q.2) from rfl, lk_cons, if_neg e] at h
      · rwa [List.filter_cons_of_neg (p := fun y : Str × Option V => p y.1) f] at h
theorem filter_free {vs : Vars} {p : Str → Bool} {x : Str} {ov : Option V} (h : (vs.filter fun y => p y.1).lookup x = some ov) : p x = true := (List.mem_filter.mp (lk_mem h)).2
section
variable {prog : Program} {w : World} {G : Env'} {K : Ctx0} {fa : Str → Addr} {A : Around} {E : Value → Shared → Prop} {C : Cx} {env : Env} {st st₁ : St} {ow : Addr → Prop} {ρ ρ₁ ρ₂ : Rho} {h' : Heap} {s s₁ s₂ : Shared} {n : Nat} {f : Fs} {pos : Pos} {L D : Addr} {vars : Vars} {objs : Objs} {xs : List PyData}
structure Dead (env : Env) (ρ : Rho) (s : Shared) (ρ₁ : Rho) (s₁ : Shared) (L : Addr) : Prop where
  k : ρ₁.k L = .frm
  new : ¬ Live s.heap L
  loc : env.locals ≠ L
  cel : ∀ {x c}, env.cells.lookup x = some c → c ≠ L
  ns : ∃ m, s₁.heap.Ns L m
theorem Step.scrub (S : Step K C env st ow ρ s ρ₁ s₁) (d : Dead env ρ s ρ₁ s₁ L) (hs : Heap.SameBut L s₁.heap h') {m : Str → Option Value} (hn : h'.Ns L m) : Step K C env st ow ρ s ρ₁ { s₁ with heap := h' } ∧ Mv No (· = L) ρ₁ ρ₁ s₁.heap h' := by
  obtain ⟨M, W⟩ := S.rel.w.frame (t := s₁.toks) d.k (fr := (· = L)) rfl hs (let ⟨o, _, _, e, _⟩ := hn; ⟨o, e⟩)
  exact ⟨⟨⟨W, S.rel.f.mv M d.loc d.cel⟩, S.mv.trans M (fun _ _ q => q.elim) fun b l q => absurd (q ▸ l) d.new⟩, M⟩
noncomputable def CompEnd (M : Model) (A : Around) (E : Value → Shared → Prop) (use : Option (Value → Sem Unit)) (Q : Value → Shared → Prop) (acc : Value) (L : Addr) (r : Result) (s' : Shared) : Prop :=
  match r with
  | .error _ => False
  | .ok _ => match use with
    | none => ∃ m, s'.heap.Ns L m ∧ ∀ h' m', h'.Ns L m' → Heap.SameBut L s'.heap h' → Q acc { s' with heap := h' }
    | some u => wpAny M A (u acc) (fun _ s₂ => ∃ m, s₂.heap.Ns L m ∧ ∀ h' m', h'.Ns L m' → Heap.SameBut L s₂.heap h' → Q .none { s₂ with heap := h' }) E s'
theorem wp_comprehension {M : Model} {e : Expr} {scope : Scope} {env : Env} {pos : Pos} {newAcc first : Sem Value} {g : Comprehension} {gs : List Comprehension} {cl : List (Str × Addr)} {use : Option (Value → Sem Unit)} {s : Shared} {Q : Value → Shared → Prop}
    (hcl : clausesOf e = g :: gs) (hs : ∀ x, foldedSetIterable g.iter env x = pure x) (hclos : closureFor scope env = pure cl) (hkind : scope.kind = .function) (hnames : ∀ x ∈ scope.names, x.2 = .local → scope.names.lookup x.1 = some .local)
    (h : wpAny M A first (fun x s₁ => wpAny M A (pyIter x) (fun it s₂ => wpAny M A newAcc (fun acc s₃ => wpAny M A (newFunctionEnv scope env.globals cl [] env.qual none .none (some env)) (fun cenv s₄ =>
        codeAny M A (.compStart e 0 it acc { cenv with scope := relabel scope env }) (CompEnd M A E use Q acc cenv.locals) s₄) E s₃) E s₂) E s₁) E s) :
    wpAny M A (comprehension e scope env pos newAcc false first use) Q E s := by
  unfold comprehension
  rw [hclos, hcl]
  refine wpAny_bind (wpAny_mono h (fun x s₁ h₁ => ?_) fun _ _ q => q)
  refine wpAny_bind (wpAny_standAt (wpAny_bind (wpAny_of_eq (hs x) (wpAny_bind (wpAny_holding ?_)))))
  refine wpAny_mono h₁ (fun it s₂ h₂ => wpAny_standIf (wpAny_bind (wpAny_mono h₂ (fun acc s₃ h₃ => wpAny_bind (wpAny_pure (wpAny_bind (wpAny_mono h₃ (fun cenv s₄ h₄ => ?_) fun _ _ q => q)))) fun _ _ q => q))) fun _ _ q => q
  dsimp only
  generalize hvs : (scope.names.filter fun x => (x.2 == .local || x.2 == .cell) && x.1 != (".0" : Str)).reverse = vs
  have loc : ∀ x ∈ vs, x.2 = .local → Env.kindOf { cenv with scope := relabel scope env } x.1 = some .local := fun x hx hl => by
    rw [← hvs] at hx
    exact lookup_relabel_local (hnames x (List.mem_filter.mp (List.mem_reverse.mp hx)).1 hl)
  have loc' : ∀ x ∈ vs.drop 1 ++ vs.take 1, x.2 = .local → Env.kindOf { cenv with scope := relabel scope env } x.1 = some .local := fun x hx =>
    loc x ((List.mem_append.mp hx).elim List.mem_of_mem_drop List.mem_of_mem_take)
  refine wpAny_holding (wpAny_bind (wpAny_attempt (wpAny_holding (wpAny_run (codeAny_mono h₄ fun r s' hr => ?_)))))
  cases r with
  | error x => exact hr.elim
  | ok f =>
    cases use with
    | none =>
      obtain ⟨m, hn, hq⟩ := hr
      exact wpAny_bind (wpAny_holding (wpAny_comp_letGo (cenv := { cenv with scope := relabel scope env }) hkind _ s' m loc hn fun h' m' hn' hs' => wpAny_pure (hq h' m' hn' hs')))
    | some u =>
      refine wpAny_bind (wpAny_rule (wpAny_bind (wpAny_holding (wpAny_mono hr (fun _ s₂ hr => ?_) fun _ _ q => q))))
      obtain ⟨m, hn, hq⟩ := hr
      exact wpAny_bind (wpAny_comp_letGo (cenv := { cenv with scope := relabel scope env }) hkind _ s₂ m loc' hn fun h' m' hn' hs' => wpAny_pure (hq h' m' hn' hs'))
theorem closure_spec : ∀ (names : List (Str × NameKind)) (acc : List (Str × Addr)), (∀ n, (n, NameKind.free) ∈ names → (env.cells.lookup n).isSome = true) →
    ∃ cl, (forIn names acc fun x (r : List (Str × Addr)) => (do
      if x.2 == NameKind.free then
        let c ← cellOf env x.1
        pure (ForInStep.yield ((x.1, c) :: r))
      else pure (ForInStep.yield r) : Sem (ForInStep (List (Str × Addr))))) = pure cl ∧
      (∀ n, (n, NameKind.free) ∈ names → cl.lookup n = env.cells.lookup n) ∧ (∀ n, (n, NameKind.free) ∉ names → cl.lookup n = acc.lookup n)
  | [], acc, _ => ⟨acc, rfl, nofun, fun n _ => rfl⟩
  | (nm, k) :: r, acc, h => by
    rw [List.forIn_cons]
    by_cases hk : k = .free
    · subst hk
      obtain ⟨c, hc⟩ := Option.isSome_iff_exists.mp (h nm (.head _))
      obtain ⟨cl, h1, h3, h4⟩ := closure_spec r ((nm, c) :: acc) fun n q => h n (.tail _ q)
      refine ⟨cl, ?_, fun n q => ?_, fun n q => (h4 n fun z => q (.tail _ z)).trans (lk_cons.trans (if_neg fun e => q (by subst e; exact .head _)))⟩
      · simp only [beq_self_eq_true, if_true, cellOf, hc, pure_bind]; exact h1
      · by_cases hr : (n, NameKind.free) ∈ r
        · exact h3 n hr
        · obtain rfl : n = nm := (List.mem_cons.mp q).elim (fun e => (Prod.mk.inj e).1) fun e => absurd e hr
          exact (h4 n hr).trans ((lk_cons.trans (if_pos rfl)).trans hc.symm)
    · obtain ⟨cl, h1, h3, h4⟩ := closure_spec r acc fun n q => h n (.tail _ q)
      refine ⟨cl, ?_, fun n q => h3 n ((List.mem_cons.mp q).elim (fun e => absurd (Prod.mk.inj e).2.symm hk) id), fun n q => h4 n fun z => q (.tail _ z)⟩
      simp only [beq_false_of_ne hk, Bool.false_eq_true, if_false, pure_bind]; exact h1
theorem closureFor_spec {scope : Scope} (h : ∀ n, (n, NameKind.free) ∈ scope.names → (env.cells.lookup n).isSome = true) :
    ∃ cl, closureFor scope env = pure cl ∧ (∀ {n c}, cl.lookup n = some c → env.cells.lookup n = some c) ∧ (∀ n, (n, NameKind.free) ∈ scope.names → cl.lookup n = env.cells.lookup n) := by
  obtain ⟨cl, h1, h2, h3⟩ := closure_spec scope.names [] h
  refine ⟨cl, ?_, fun {n c} e => ?_, h2⟩
  · simp only [closureFor, bind_pure]
    exact h1
  · by_cases q : (n, NameKind.free) ∈ scope.names
    · exact (h2 n q).symm.trans e
    · rw [h3 n q] at e; cases e
noncomputable def compVars (sc : Scope) (vars : Vars) : Vars := ((localNames sc).map fun x => (x, none)) ++ vars.filter (fun x => freeIn sc x.1)
theorem wp_comp0 {elt : Expr} {g : Comprehension} {gs : List Comprehension} {sc : Scope} {ipos : Pos} {use : Option (Value → Sem Unit)} {Q : Value → Shared → Prop} {P : St → List PyData × St → Prop} (II : SI prog w K n C (f.iter C)) (IC : SCm prog w K n f.comp) (h0 : g.is_async = 0)
    (e : Hd (f.iter C g.iter st) fun p => compOk C sc p.2.vars = true ∧ Hd (f.comp ⟨sc, []⟩ elt g gs p.1 ⟨compVars sc p.2.vars, p.2.objs⟩ []) (P p.2)) (hA : AOK A n) (O : EnvOK K C env) (R : Rel K C env st ρ s)
    (fin : ∀ st₁ p ρ₅ s₅ D L, P st₁ p → Step K C env ⟨st₁.vars, p.2.objs⟩ No ρ s ρ₅ s₅ → Own s₅.heap ρ₅ D p.1 → ¬ Live s.heap D → Dead env ρ s ρ₅ s₅ L → CompEnd (model prog w) A E use Q (.ref D) L (.ok .next) s₅) :
    wpAny (model prog w) A (comprehension (.ListComp elt (g :: gs) sc pos) sc env ipos (newList []) false (eval g.iter env) use) Q E s := by
  have I := II e
  have hc : ∃ vars, compOk C sc vars = true := e.get fun p _ q => ⟨_, q.1⟩
  have hsc : scOk sc = true := let ⟨_, q⟩ := hc; (Bool.and_eq_true _ _ ▸ q : _ ∧ _).1
  have outer : ∀ {vars}, compOk C sc vars = true → ∀ {x}, sc.names.lookup x = some .free → (C.sc.names.lookup x = some .cell ∨ C.sc.names.lookup x = some .free) ∧ (vars.lookup x).isSome = true := @fun vars q x hx => by
    have := List.all_eq_true.mp (Bool.and_eq_true _ _ ▸ q : _ ∧ _).2 (x, .free) (lk_mem hx)
    simp only [decide_true, Bool.not_true, Bool.false_or, Bool.and_eq_true, Bool.or_eq_true] at this
    exact ⟨this.1.imp of_decide_eq_true of_decide_eq_true, this.2⟩
  obtain ⟨cl, hcl, hc1, hc2⟩ := closureFor_spec (env := env) (scope := sc) fun n hn => let ⟨_, q⟩ := hc; O.has (outer q ((scOk.mem hsc).mp hn)).1
  refine wp_comprehension (cl := cl) rfl (iter_unfolded I.1) hcl (scOk.kind hsc) (fun x hx hl => by rw [(scOk.mem hsc).mp (show (x.1, x.2) ∈ sc.names from hx), hl]) ?_
  refine I.2 hA O R fun p I ws T U ρ₁ s₁ e gen T₁ S₁ nw => ?_
  obtain ⟨hco, e⟩ := e
  refine wpAny_newObj_type ?_
  have R₁ := S₁.rel
  have up : Up s₁.heap (s₁.heap.push (lObj #[] 0)) := .push _
  have S₂ : Step K C env p.2 No ρ₁ s₁ (ρ₁.set s₁.heap.objs.size .hid) { s₁ with heap := s₁.heap.push (lObj #[] 0), toks := s₁.toks } := R₁.hide not_live_size up ⟨_, Heap.get?_push_size _ rfl⟩
  have oD : Own (s₁.heap.push (lObj #[] 0)) (ρ₁.set s₁.heap.objs.size .hid) s₁.heap.objs.size [] := ⟨set_self, Heap.get?_push_size _ rfl, rfl⟩
  have nD : ¬ Live s.heap s₁.heap.objs.size := fun l => not_live_size (S₁.mv.live l id)
  have hDw : ¬ ws s₁.heap.objs.size := fun q => not_live_size (gen.own T₁ _ q).2
  have T₂ := gen.mv T₁ S₂.mv fun _ _ q => q
  have S02 := S₁.aft S₂
  have R₂ := S₂.rel
  rw [O.glob]
  refine wp_newFn (C := ⟨sc, []⟩) (bs := []) (vals := []) (vs := compVars sc p.2.vars) (objs := p.2.objs) (P := fun st => st = ⟨compVars sc p.2.vars, p.2.objs⟩) R₂.w hsc (fun {x} hx => by rw [hc2 x (lk_mem hx)]; exact O.has (outer hco hx).1) (fun hn => R₂.f.cel (hc1 hn)) (fun hx hy => O.one (hc1 hx) (hc1 hy)) O.bui (fun {x ov} hx => ?_) rfl rfl fun cenv st₀ ρ₃ s₃ ρ₄ s₄ e0 Oc N S lS => ?_
  · unfold compVars at hx
    rw [lookup_nones] at hx
    split at hx
    · rename_i q; cases hx; exact .inl ⟨(localNames_mem hsc).mp q, rfl⟩
    · have hf := filter_free hx
      have hv := lookup_filter hf hx
      have hf := of_decide_eq_true hf
      obtain ⟨m, hn, hvs⟩ := R₂.f.vars
      exact let ⟨c, w', h1, h2, h3⟩ := (hvs hv).2 (outer hco hf).1; .inr ⟨hf, c, w', (hc2 x (lk_mem hf)).trans h1, h2, h3⟩
  · subst e0
    have Rc : ∀ {st ρ s}, Rel K ⟨sc, []⟩ cenv st ρ s → Rel K ⟨sc, []⟩ { cenv with scope := relabel sc env } st ρ s := fun r => ⟨r.w, r.f.loc, r.f.vars, r.f.cel⟩
    have Ocr : EnvOK K ⟨sc, []⟩ { cenv with scope := relabel sc env } := ⟨(scOk.kind hsc : sc.kind = .function), Oc.glob, Oc.bui, fun hx => relabel_lookup hx, Oc.one, Oc.has⟩
    have T₄ := gen.mv (gen.mv T₂ N.mv fun _ _ q => q) S.mv fun _ _ q => q.elim
    have o₄ := (oD.mv N.mv id).mv S.mv fun q => q.elim
    have own₂ : ∀ b, Dw s₁.heap.objs.size ws b → (ρ₁.set s₁.heap.objs.size .hid).k b = .hid := fun b q => q.elim (fun q => q ▸ set_self) fun q => (gen.own T₂ b q).1
    have post : PostG K ⟨sc, []⟩ { cenv with scope := relabel sc env } (P p.2) s₁.heap.objs.size (Dw s₁.heap.objs.size ws) ρ₄ s₄ (CompEnd (model prog w) A E use Q (.ref s₁.heap.objs.size) cenv.locals (.ok .next)) := fun q ρ₅ s₅ e S₅ o₅ => by
      have Sr : Step K ⟨sc, []⟩ { cenv with scope := relabel sc env } q.2 (Dw s₁.heap.objs.size ws) ρ₃ s₃ ρ₅ s₅ := ⟨S₅.rel, (S.mv.mono (fun b z => (z.elim (fun z => z ▸ (oD.mv N.mv id).hid) fun z => (gen.own (gen.mv T₂ N.mv fun _ _ q => q) b z).1 : ρ₃.k b = .hid)) (fun _ z => z.elim) fun _ z => z).trans S₅.mv (fun _ _ z => z) fun _ _ z => z⟩
      have WS := Sr.out (ow' := Dw s₁.heap.objs.size ws) N.mv own₂ (fun _ _ z => z) N.new
      have tot : Step K C env ⟨p.2.vars, q.2.objs⟩ No ρ s ρ₅ s₅ := S02.trans (R₂.back WS) fun b l z => z.elim (fun z => nD (z ▸ l)) fun z => nw b z l
      refine fin p.2 q ρ₅ s₅ _ cenv.locals e tot o₅ nD ⟨S₅.rel.f.loc, fun l => N.loc (S02.mv.live l id), fun z => N.loc (z ▸ R₂.w.kl (by rw [R₂.f.loc]; nofun)), fun hx z => N.loc (z ▸ R₂.w.kl (by rw [(R₂.f.cel hx).1]; nofun)), ?_⟩
      obtain ⟨m, hn, _⟩ := S₅.rel.f.vars; exact ⟨m, hn⟩
    have loop : codeAny (model prog w) A (.compLoop (.ListComp elt (g :: gs) sc pos) 0 (.ref I) (.ref s₁.heap.objs.size) { cenv with scope := relabel sc env }) (CompEnd (model prog w) A E use Q (.ref s₁.heap.objs.size) cenv.locals) s₄ :=
      IC e rfl h0 gen hA Ocr (Rc S.rel) T₄ o₄ hDw post
    exact codeAny_compStartD ⟨_, _, _, _, rfl⟩ (g := g) rfl h0 loop (gen.iter hA.hand T₄ loop)
end
end Mine
end
section
open PySem PySem.W PyProof.Rows
namespace Mine
section
variable {prog : Program} {w : World} {G : Env'} {K : Ctx0} {fa : Str → Addr} {A : Around} {E : Value → Shared → Prop} {C : Cx} {env : Env} {st st₁ : St} {ow : Addr → Prop} {ρ ρ₁ ρ₂ : Rho} {s s₁ s₂ : Shared} {n : Nat} {f : Fs} {pos : Pos} {L D : Addr} {xs : List PyData}
theorem Dead.mv (d : Dead env ρ s ρ₁ s₁ L) (M : Mv ow (Fe C env) ρ₁ ρ₂ s₁.heap s₂.heap) : Dead env ρ s ρ₂ s₂ L := by
  have nf : ¬ Fe C env L := fun q => q.elim (fun q => d.loc q.symm) fun ⟨x, _, q⟩ => d.cel q rfl
  obtain ⟨m, hn⟩ := d.ns
  obtain ⟨o, es, ep, e, r⟩ := id hn
  exact ⟨(M.frm d.k e nf).1, d.new, d.loc, d.cel, m, hn.at' fun o e => (M.frm d.k e nf).2⟩
theorem comp_open {elt : Expr} {gens : List Comprehension} {sc : Scope} {P : V × St → Prop} {T : List Comprehension → Prop} (e : Hd (evComp f C elt gens sc st) P)
    (k : ∀ g gs, g.is_async = 0 → Hd (f.iter C g.iter st) (fun p => compOk C sc p.2.vars = true ∧ Hd (f.comp ⟨sc, []⟩ elt g gs p.1 ⟨compVars sc p.2.vars, p.2.objs⟩ []) fun q => P (.fl q.1, ⟨p.2.vars, q.2.objs⟩)) → T (g :: gs)) : T gens := by
  cases gens with
  | nil => exact (show False from e).elim
  | cons g gs => exact Hd.gd e fun h0 e => k g gs h0 ((Hd.b e).get fun p hp e => .of hp (Hd.g e fun hc e => ⟨hc, (Hd.b e).get fun q hq e => .of hq (Hd.gd e fun _ e => e)⟩))
theorem first_eqs {g : Comprehension} {gs : List Comprehension} (h0 : g.is_async = 0) : firstAsync (g :: gs) = false ∧ firstIter (g :: gs) env = eval g.iter env := by
  obtain ⟨t, i, f, a⟩ := g
  obtain rfl : a = 0 := h0
  exact ⟨rfl, rfl⟩
theorem wp_ListComp {elt : Expr} {gens : List Comprehension} {sc : Scope} {P : V × St → Prop} {Q : Value → Shared → Prop} (II : SI prog w K n C (f.iter C)) (IC : SCm prog w K n f.comp) (e : Hd (evComp f C elt gens sc st) P) (hA : AOK A n) (O : EnvOK K C env) (R : Rel K C env st ρ s) (h : Post K C env P ρ s Q) :
    wpAny (model prog w) A (eval (.ListComp elt gens sc pos) env) Q E s :=
  comp_open (T := fun gens => wpAny (model prog w) A (eval (.ListComp elt gens sc pos) env) Q E s) e fun g gs h0 e => by
    show wpAny _ A (comprehension (.ListComp elt (g :: gs) sc pos) sc env (firstIterPos (g :: gs) pos) (newList []) (firstAsync (g :: gs)) (firstIter (g :: gs) env)) Q E s
    rw [(first_eqs (env := env) (gs := gs) h0).1, (first_eqs (env := env) (gs := gs) h0).2]
    exact wp_comp0 (use := none) (P := fun st₁ q => P (.fl q.1, ⟨st₁.vars, q.2.objs⟩)) II IC h0 e hA O R fun st₁ p ρ₅ s₅ D L e S o nD d => let ⟨m, hn⟩ := d.ns; ⟨m, hn, fun h' m' hn' hs =>
      let ⟨S', M⟩ := S.scrub d hs hn'; h.ep e ⟨S', ⟨D, rfl, o.mv M id⟩, fun a q => (Value.ref.inj q : D = a) ▸ nD⟩⟩
theorem wp_AssignComp {x : Str} {px spos : Pos} {elt : Expr} {gens : List Comprehension} {sc : Scope} {P : St → Prop} {Q : Flow → Shared → Prop} (II : SI prog w K n C (f.iter C)) (IC : SCm prog w K n f.comp) (e : Hd (evComp f C elt gens sc st) fun p => Hd (bindN C x p.1 p.2) P)
    (hsw : swapsWith (.ListComp elt gens sc pos) (some (.Name x px)) spos.line env = pure true) (hA : AOK A n) (O : EnvOK K C env) (R : Rel K C env st ρ s) (h : ∀ st' ρ' s', P st' → Step K C env st' No ρ s ρ' s' → Q .next s') :
    wpAny (model prog w) A (exec (.Assign [.Name x px] (.ListComp elt gens sc pos) spos) env) Q E s := by
  rw [exec_Assign_Name_used _ _ _ _ hsw]
  refine wpAny_bind (wpAny_standAt (wpAny_bind (comp_open (T := fun gens => wpAny (model prog w) A (evalThenUse (.ListComp elt gens sc pos) env (assign (.Name x px) env)) _ E s) e fun g gs h0 e => ?_)))
  show wpAny _ A (do let _ ← comprehension (.ListComp elt (g :: gs) sc pos) sc env (firstIterPos (g :: gs) pos) (newList []) (firstAsync (g :: gs)) (firstIter (g :: gs) env) (some (assign (.Name x px) env))) _ _ s
  rw [(first_eqs (env := env) (gs := gs) h0).1, (first_eqs (env := env) (gs := gs) h0).2]
  refine wpAny_bind (wp_comp0 (use := some (assign (.Name x px) env)) (pos := pos) (ipos := firstIterPos (g :: gs) pos) (Q := fun _ s' => wpAny (model prog w) A (pure ()) (fun _ s' => wpAny (model prog w) A (pure Flow.next) Q E s') E s') (P := fun st₁ q => Hd (bindN C x (.fl q.1) ⟨st₁.vars, q.2.objs⟩) P) II IC h0 e hA O R fun st₁ p ρ₅ s₅ D L e S o nD d => ?_)
  show wpAny (model prog w) A (assign (.Name x px) env (.ref D)) _ E s₅
  refine PyProof.Rows.assign_Name (wp_bindN O S.rel e ⟨D, rfl, o⟩ fun st' ρ₆ s₆ e S₆ _ => ?_)
  have S06 := S.trans S₆ fun b l q => nD ((Value.ref.inj q : D = b) ▸ l)
  have d₆ := d.mv S₆.mv
  obtain ⟨m, hn⟩ := d₆.ns
  exact ⟨m, hn, fun h' m' hn' hs => wpAny_pure (wpAny_pure (h _ _ _ e (S06.scrub d₆ hs hn').1))⟩
theorem plain_swaps {e : Expr} {t : Option Expr} {l : Nat} (h : plainE e = true) (hc : isCompE e = false) : swapsWith e t l env = pure false := by
  cases e <;> first | rfl | (cases h; done) | (cases hc; done)
theorem comp_of {e : Expr} (hc : isCompE e = true) : ∃ a b c d, e = .ListComp a b c d := by
  cases e <;> first | exact ⟨_, _, _, _, rfl⟩ | cases hc
theorem swaps_not {a : Expr} {b c d} {t : Expr} {l : Nat} (h : nameE t = none) : swapsWith (.ListComp a b c d) (some t) l env = pure false := by
  cases t <;> first | rfl | cases h
theorem name_of {t : Expr} {x : Str} (h : nameE t = some x) : ∃ p, t = .Name x p := by
  cases t <;> first | (cases h; done) | (cases h; exact ⟨_, rfl⟩)
theorem noSwap {t e : Expr} (ot : okT C t = true) (h : ((tupE t).bind fun ts => (tupE e).map fun es => (ts, es)) = none) : swappedStores [t] e env = pure none := by
  cases t <;> first | rfl | (cases ot; done) | (cases e <;> first | rfl | (cases h; done))
end
section
variable (prog : Program) (w : World) (K : Ctx0) (n : Nat)
noncomputable def SA (f : Fs) : Prop := ∀ {C x px elt gens sc pos spos st P}, Hd (f.ev C (.ListComp elt gens sc pos) st) (fun p => Hd (f.bind C (.Name x px) p.1 p.2) P) → ∀ {A s ρ env Q E}, swapsWith (.ListComp elt gens sc pos) (some (.Name x px)) spos.line env = pure true → AOK A n → EnvOK K C env → Rel K C env st ρ s →
  (∀ st' ρ' s', P st' → Step K C env st' No ρ s ρ' s' → Q .next s') → wpAny (model prog w) A (exec (.Assign [.Name x px] (.ListComp elt gens sc pos) spos) env) Q E s
end
section
variable {prog : Program} {w : World} {G : Env'} {K : Ctx0} {fa : Str → Addr} {A : Around} {E : Value → Shared → Prop} {C : Cx} {env : Env} {st st₁ : St} {ow : Addr → Prop} {ρ ρ₁ ρ₂ : Rho} {s s₁ s₂ : Shared} {n : Nat} {f : Fs} {pos : Pos} {P : Fl × St → Prop} {Q : Flow → Shared → Prop}
theorem wp_Assign1 {t e : Expr} (IE : SE prog w K n C (f.ev C)) (B : SB prog w K n C (f.bind C)) (S : SA prog w K n f) (h : Hd (f.ev C e st) fun p => Hd (f.bind C t p.1 p.2) fun st => P (.next, st)) (hne : ((tupE t).bind fun ts => (tupE e).map fun es => (ts, es)) = none)
    (hA : AOK A n) (O : EnvOK K C env) (R : Rel K C env st ρ s) (hQ : PostF K C env P ρ s Q) : wpAny (model prog w) A (exec (.Assign [t] e pos) env) Q E s := by
  have I := IE h
  have ot : okT C t = true := h.get fun p _ e => (B e).1
  have plain : swapsWith e (some t) pos.line env = pure false → wpAny (model prog w) A (exec (.Assign [t] e pos) env) Q E s := fun hs => by
    refine wpAny_Assign_stores (I.2 hA O R fun p val ρ₁ s₁ e X => ?_) hs (noSwap ot hne)
    rw [assignEach_plain (C := C) env (ts := [t]) fun u hu => (List.mem_singleton.mp hu) ▸ ot]
    exact (B e).2 hA O X.step.rel X.vr fun st' ρ' s' e S => hQ.next (X.step.trans S fun b l o => X.new b o l) e
  cases hc : isCompE e with
  | false => exact plain (plain_swaps I.1 hc)
  | true =>
    obtain ⟨a, b, c, d, rfl⟩ := comp_of hc
    cases hn : nameE t with
    | none => exact plain (swaps_not hn)
    | some x =>
      obtain ⟨p, rfl⟩ := name_of hn
      have key : ∀ r : Bool, swapsWith (.ListComp a b c d) (some (.Name x p)) pos.line env = pure r → wpAny (model prog w) A (exec (.Assign [.Name x p] (.ListComp a b c d) pos) env) Q E s := fun r hr => match r with
        | false => plain hr
        | true => S h hr hA O R fun st' ρ' s' e S => hQ.next S e
      exact key _ rfl
end
end Mine
end
section
open PySem PySem.W PyProof.Rows
namespace Mine
section
variable {prog : Program} {w : World} {G : Env'} {K : Ctx0} {fa : Str → Addr} {A : Around} {E : Value → Shared → Prop} {C : Cx} {env : Env} {st st₁ : St} {ow : Addr → Prop} {ρ ρ₁ ρ₂ : Rho} {h : Heap} {s s₁ s₂ : Shared} {n : Nat} {f : Fs} {pos : Pos} {P : Fl × St → Prop} {Q : Flow → Shared → Prop}
noncomputable def nameM (env : Env) (line : Nat) : Expr → Option Str
  | .Name id pos => if env.kindOf id == some .local && pos.line == line then some id else none
  | _ => none
noncomputable def starE : Expr → Bool | .Starred .. => true | _ => false
theorem nameM_eq {line : Nat} (O : EnvOK K C env) {t : Expr} (h : okT C t = true) : nameM env line t = nameOn C.sc line t := by
  cases t with
  | Name x p =>
    have hk : C.sc.names.lookup x = some .local ∨ C.sc.names.lookup x = some .cell := (Bool.or_eq_true _ _ ▸ h : _ ∨ _).imp of_decide_eq_true of_decide_eq_true
    have e : env.kindOf x = C.sc.names.lookup x := hk.elim (fun q => (O.kd q nofun).trans q.symm) fun q => (O.kd q nofun).trans q.symm
    show (if (env.kindOf x == some .local && p.line == line) = true then some x else none) = bif decide (C.sc.names.lookup x = some .local) && p.line == line then some x else none
    rw [e]
    rcases hk with q | q <;> rw [q] <;> cases p.line == line <;> rfl
  | _ => rfl
theorem filterMap_names {line : Nat} (O : EnvOK K C env) : ∀ (ts : List Expr), (∀ t ∈ ts, okT C t = true) → ts.filterMap (nameM env line) = ts.filterMap (nameOn C.sc line)
  | [], _ => rfl
  | t :: ts, h => by rw [List.filterMap_cons, List.filterMap_cons, filterMap_names O ts fun t ht => h t (.tail _ ht), nameM_eq O (h t (.head _))]
theorem filterMap_full {sc : Scope} {line : Nat} : ∀ {ts : List Expr}, (ts.filterMap (nameOn sc line)).length = ts.length → ∃ ps : List Pos, ts = (ts.filterMap (nameOn sc line)).zipWith (fun x p => Expr.Name x p) ps ∧ ps.length = ts.length
  | [], _ => ⟨[], rfl, rfl⟩
  | t :: ts, hl => by
    rw [List.filterMap_cons] at hl ⊢
    cases h1 : nameOn sc line t with
    | none =>
      rw [h1] at hl
      exact absurd (List.length_filterMap_le (nameOn sc line) ts) (by rw [hl]; exact Nat.not_succ_le_self _)
    | some x =>
      rw [h1] at hl
      obtain ⟨p, rfl⟩ : ∃ p, t = .Name x p := by
        cases t with
        | Name y p =>
          refine ⟨p, ?_⟩
          revert h1
          show (bif isK sc y .local && p.line == line then some y else none) = some x → _
          cases isK sc y .local && p.line == line
          · exact nofun
          · exact fun q => Option.some.inj q ▸ rfl
        | _ => cases h1
      obtain ⟨ps, e, hp⟩ := filterMap_full (Nat.succ.inj hl)
      exact ⟨p :: ps, congrArg _ e, congrArg Nat.succ hp⟩
theorem swapped_spec (O : EnvOK K C env) {ts vs : List Expr} {k k' : Nat} {p p' : Pos} {P : Bool → Prop} {T : Prop} (h : Hd (swapped C ts vs) P) (hn : ∀ t ∈ ts, okT C t = true) (hs : vs.any starE = false)
    (c : ∀ (names : List Str) (sw : Bool), P sw → swappedStores [.Tuple ts k p] (.Tuple vs k' p') env = pure (if sw then some names else none) → (sw = true → ∃ ps : List Pos, ts = names.zipWith (fun x q => Expr.Name x q) ps ∧ ps.length = names.length) → T) : T := by
  have hbk : (env.blockKind != .function) = false := by
    rw [show env.blockKind = .function by unfold Env.blockKind; rw [O.kind]; rfl]; rfl
  have stop : P false → swappedStores [.Tuple ts k p] (.Tuple vs k' p') env = pure none → T := fun e q => c [] false e q nofun
  have c1 : swappedStores [.Tuple ts k p] (.Tuple vs k' p') env = (if (!(ts.length == 2 || ts.length == 3) || vs.length != ts.length || env.blockKind != .function) = true then pure none else if vs.any starE = true then pure none
    else if ((ts.filterMap (nameM env ((ts.head?.map (·.pos.line)).getD 0))).length != ts.length || (ts.filterMap (nameM env ((ts.head?.map (·.pos.line)).getD 0))).eraseDups.length != (ts.filterMap (nameM env ((ts.head?.map (·.pos.line)).getD 0))).length) = true then pure none
    else if vs.all (foldedForSure 8) = true then pure none else if vs.all (constantsAlone 8) = true then unsupported "assign.tuple-of-constant-expressions:order-of-the-stores" else pure (some (ts.filterMap (nameM env ((ts.head?.map (·.pos.line)).getD 0))))) := rfl
  rw [hbk, Bool.or_false, hs, filterMap_names O ts hn] at c1
  refine h.bif (fun q e => stop e (c1.trans (if_pos q))) fun q1 e => e.bif (fun q e => stop e (c1.trans ?_)) fun q2 e => e.bif (fun q e => stop e (c1.trans ?_)) fun q3 e => e.bif (fun _ e => (show False from e).elim) fun q4 e => c (ts.filterMap (nameOn C.sc ((ts.head?.map (·.pos.line)).getD 0))) true e (c1.trans ?_) fun _ => ?_
  · rw [q1, q]; rfl
  · rw [q1, q2, q]; rfl
  · rw [q1, q2, q3, q4]; rfl
  · have hl := (Bool.or_eq_false_iff.mp q2).1
    have hl : (ts.filterMap (nameOn C.sc ((ts.head?.map (·.pos.line)).getD 0))).length = ts.length := Classical.byContradiction fun z => nomatch (bne_iff_ne.mpr z).symm.trans hl
    obtain ⟨ps, e1, e2⟩ := filterMap_full hl
    exact ⟨ps, e1, e2.trans hl.symm⟩
theorem plain_stars : ∀ {es : List Expr} {st} {P : List V × St → Prop}, (∀ {e st} {P : V × St → Prop}, Hd (f.ev C e st) P → plainE e = true) → Hd (evs (f.ev C) es st) P → es.any starE = false
  | [], _, _, _, _ => rfl
  | x :: es, _, _, pl, e => (Hd.b e).get fun p hp e => by
    have h0 := pl (Hd.of hp trivial : Hd _ fun _ => True)
    rw [List.any_cons, plain_stars (es := es) pl (Hd.m e), Bool.or_false]
    cases x <;> first | rfl | (cases h0; done)
theorem VRs.rev : ∀ {vs : List V} {vals : List Value}, VRs K h ρ vs vals → VRs K h ρ vs.reverse vals.reverse ∧ ∀ {b}, Ows vs.reverse vals.reverse b → Ows vs vals b
  | [], _, r => by cases (r : _ = []); exact ⟨rfl, id⟩
  | v :: vs, _, r => by
    obtain ⟨rfl, a, r, d⟩ := r
    obtain ⟨r', o'⟩ := VRs.rev r
    rw [List.reverse_cons, List.reverse_cons]
    exact ⟨VRs.app r' ⟨rfl, a, rfl, fun _ _ q => q⟩ fun b o q => q.elim (fun q => d b q (o' o)) False.elim, fun o => (Ows.app r'.len o).elim (fun o => .inr (o' o)) fun o => .inl (o.elim id False.elim)⟩
theorem zip_rev {α β : Type} : ∀ {l : List α} {r : List β}, l.length = r.length → (l.zip r).reverse = l.reverse.zip r.reverse
  | [], [], _ => rfl
  | x :: l, y :: r, h => by
    have h' : l.length = r.length := Nat.succ.inj h
    rw [List.zip_cons_cons, List.reverse_cons, List.reverse_cons, List.reverse_cons, zip_rev h', List.zip_append (by rw [List.length_reverse, List.length_reverse, h'])]
    rfl
noncomputable def storeN (env : Env) (t : Expr) : Value → Sem Unit := (nameE t).elim (fun _ => pure ()) fun x => bindName env x
theorem storeN_map : ∀ {names : List Str} {ps : List Pos}, ps.length = names.length → (names.map fun n => bindName env n) = (names.zipWith (fun x q => Expr.Name x q) ps).map (storeN env)
  | [], _, _ => rfl
  | _ :: _, [], h => nomatch h
  | x :: names, q :: ps, h => congrArg _ (storeN_map (Nat.succ.inj h))
theorem zipN_mem : ∀ {names : List Str} {ps : List Pos} {t : Expr}, t ∈ names.zipWith (fun x q => Expr.Name x q) ps → ∃ x q, t = .Name x q
  | [], _, _, h => nomatch h
  | _ :: _, [], _, h => nomatch h
  | x :: names, q :: ps, t, h => (List.mem_cons.mp h).elim (fun e => ⟨x, q, e⟩) zipN_mem
theorem wp_AssignTup {ts es : List Expr} {k k' : Nat} {p p' : Pos} (bn : ∀ {x p v st} {P : St → Prop}, Hd (f.bind C (.Name x p) v st) P → Hd (bindN C x v st) P) (IE : SE prog w K n C (f.ev C)) (B : SB prog w K n C (f.bind C)) (e : Hd (asgTup f C ts es st) P) (hA : AOK A n) (O : EnvOK K C env) (R : Rel K C env st ρ s) (hQ : PostF K C env P ρ s Q) :
    wpAny (model prog w) A (exec (.Assign [.Tuple ts k p] (.Tuple es k' p') pos) env) Q E s := by
  have ok : ∀ t ∈ ts, okT C t = true := (Hd.b e).get fun sw _ e => (Hd.b e).get fun q _ e => Hd.gd e fun hl e => zip_all (p := fun t => okT C t = true) hl.1.symm fun u hu => bindAll_ok (fun e => (B e).1) (Hd.m e) u (by
    cases sw
    · exact hu
    · exact List.mem_reverse.mpr hu)
  have stars := (Hd.b e).get fun sw _ e => plain_stars (fun e => (IE e).1) (Hd.b e)
  refine swapped_spec (k := k) (k' := k') (p := p) (p' := p') O (Hd.b e) ok stars fun names sw e e1 e2 => ?_
  rw [exec_Assign_arm]
  refine wpAny_bind (wpAny_standAt (wpAny_bind (wpAny_of_eq (show swapsWithSole [.Tuple ts k p] (.Tuple es k' p') pos.line env = pure false from rfl) ?_)))
  rw [if_neg (by decide)]
  refine wpAny_bind (wpAny_Tuple (wp_evs IE hA O es (Hd.b e) R fun q vals ρ₁ s₁ e X => Hd.gd e fun hl e => ⟨X.vrs.len ▸ Nat.le_trans hl.2 maxLen_le, ?_⟩))
  rw [e1]
  refine wpAny_bind (wpAny_pure ?_)
  have S₂ := X.step.rel.go (t := s₁.toks) (.push (tObj vals))
  have hT : (s₁.heap.push (tObj vals)).IsTuple s₁.heap.objs.size vals.toArray := ⟨_, Heap.get?_push_size _ rfl, rfl, _, rfl⟩
  have hlv : vals.length = ts.length := X.vrs.len.trans hl.1
  have mk : ∀ {h'}, Heap.ExtBut (s₁.heap.push (tObj vals)).objs.size (s₁.heap.push (tObj vals)) h' → Step K C env q.2 No ρ₁ s₁ ρ₁ { s₁ with heap := h' } := fun he => S₂.aft (S₂.rel.go (t := s₁.toks) fun b o e => he b o (fun q => not_live_size ⟨o, q ▸ e⟩) e)
  cases sw with
  | false =>
    refine wpAny_bind ?_
    show wpAny _ A (assign (.Tuple ts k p) env _) _ E _
    rw [arm_assign_Tuple, assignEach_plain env ok]
    refine wpAny_bind (wpAny_standAt (wpAny_unpack_tuple hA.hand hT ((List.length_map _).trans hlv.symm) (List.findIdx?_eq_none_iff.mpr fun x hx => let ⟨t, _, q⟩ := List.mem_map.mp hx; q ▸ rfl) fun h' he => ?_))
    have S := mk he
    rw [List.map_map]
    exact wp_bindBy (f.bind C) (fun t => assign t env) ts q.1 (fun t _ => fun e R r h => (B e).2 hA O R r h) hl.1.symm (Hd.m e) (X.vrs.mv S.mv fun _ _ q => q) S.rel fun st' ρ' s' e S' => wpAny_pure (hQ.next ((X.step.aft S).trans S' fun b l o => X.new b o l) e)
  | true =>
    obtain ⟨ps, e3, e4⟩ := e2 rfl
    have hln : names.length = ts.length := by rw [e3, List.length_zipWith, e4, Nat.min_self]
    show wpAny _ A (do
      rule "assign.swapped-stores"
      let items ← unpackItems _ names.length none
      assignInOrder (names.reverse.map fun n => bindName env n) items.reverse
      pure .next) Q E _
    refine wpAny_bind (wpAny_rule (wpAny_bind ?_))
    rw [show names.length = vals.toArray.size from hln.trans hlv.symm]
    refine wpAny_unpackItems_tuple hA.hand hT fun h' he => ?_
    have S := mk he
    obtain ⟨rr, ro⟩ := VRs.rev (X.vrs.mv S.mv fun _ _ q => q)
    rw [List.map_reverse, storeN_map e4, ← e3, ← List.map_reverse]
    have e := Hd.m e
    rw [cond_true, zip_rev hl.1.symm] at e
    refine wpAny_bind (wp_bindBy (f.bind C) (storeN env) ts.reverse q.1.reverse (fun t ht => fun {v st s ρ val P Q} e R r h => ?_) (by rw [List.length_reverse, List.length_reverse, hl.1]) e rr S.rel fun st' ρ' s' e S' => wpAny_pure (hQ.next ((X.step.aft S).trans S' fun b l o => X.new b (ro o) l) e))
    obtain ⟨x, z, rfl⟩ := zipN_mem (e3 ▸ List.mem_reverse.mp ht)
    exact wpAny_bindName (wp_bindN O R (bn e) r fun st' ρ' s' e S _ => h _ _ _ e S)
end
end Mine
end
section
open PySem PySem.W PyProof.Rows
namespace Mine
structure Sd (prog : Program) (w : World) (G : Env') (K : Ctx0) (fa : Str → Addr) (n : Nat) (f : Fs) : Prop where
  ev : ∀ C, SE prog w K n C (f.ev C)
  tst : ∀ C, ST prog w K n C (f.tst C)
  iter : ∀ C, SI prog w K n C (f.iter C)
  comp : SCm prog w K n f.comp
  bind : ∀ C, SB prog w K n C (f.bind C)
  bn : ∀ {C x p v st} {P : St → Prop}, Hd (f.bind C (.Name x p) v st) P → Hd (bindN C x v st) P
  ex : ∀ C, SX prog w K n C (f.ex C)
  call : SC prog w G K fa n f.call
  asc : SA prog w K n f
section
variable {prog : Program} {w : World} {G : Env'} {K : Ctx0} {fa : Str → Addr} {A : Around} {E : Value → Shared → Prop} {C : Cx} {env : Env} {st : St} {ρ : Rho} {s : Shared} {n : Nat} {f : Fs} {pos : Pos} {P : Fl × St → Prop} {Q : Flow → Shared → Prop}
theorem ev_step (W : Wd prog w K G fa) (I : Sd prog w G K fa n f) : SE prog w K (n + 1) C (evS G f C n) := by
  intro e st P h
  cases e with
  | Constant c k pos => exact ⟨rfl, fun hA O R hQ => wp_Const h R hQ⟩
  | Name x pos => exact ⟨rfl, fun hA O R hQ => wp_Name W.N h O R hQ⟩
  | BinOp l op r pos => exact ⟨rfl, fun hA O R hQ => wp_Bin (I.ev C) h hA.le O R hQ⟩
  | UnaryOp op x pos => exact ⟨rfl, fun hA O R hQ => wp_Un (I.ev C) h hA.le O R hQ⟩
  | BoolOp op es pos => exact ⟨rfl, fun hA O R hQ => wp_Bool (I.ev C) h hA.le O R hQ⟩
  | IfExp t a b pos => exact ⟨rfl, fun hA O R hQ => wp_IfE (I.ev C) (I.tst C) h hA.le O R hQ⟩
  | Compare l ops es pos => exact ⟨rfl, fun hA O R hQ => wp_Cmp W (I.ev C) I.call h hA.le O R hQ⟩
  | List es pos => exact ⟨rfl, fun hA O R hQ => wp_List (I.ev C) h hA.le O R hQ⟩
  | Tuple es k pos => exact ⟨rfl, fun hA O R hQ => wp_Tuple (I.ev C) h hA.le O R hQ⟩
  | Subscript o i pos => exact ⟨rfl, fun hA O R hQ => wp_Sub (I.ev C) h hA.le O R hQ⟩
  | Attribute o a pos => exact ⟨rfl, fun hA O R hQ => wp_Attr W (I.ev C) h hA.le O R hQ⟩
  | ListComp elt gens sc pos => exact ⟨rfl, fun hA O R hQ => wp_ListComp (I.iter C) I.comp h hA.le O R hQ⟩
  | Call g args kws pos =>
    cases g with
    | Attribute o m apos => exact ⟨rfl, fun hA O R hQ => wp_CallM W (I.ev C) I.call h hA.le O R hQ⟩
    | Name g p => exact ⟨Hd.g h fun hg _ => congrArg not (Bool.or_eq_false_iff.mp (Bool.or_eq_false_iff.mp (Bool.not_eq_true' _ ▸ (Bool.and_eq_true _ _ ▸ hg : _ ∧ _).1)).1).1, fun hA O R hQ => wp_CallN W (I.ev C) I.call h hA O R hQ⟩
    | _ => exact h.elim
  | _ => exact h.elim
theorem asc_step (I : Sd prog w G K fa n f) : SA prog w K (n + 1) (stepF G f n) := fun e => fun hsw hA O R h => wp_AssignComp (I.iter _) I.comp e hsw hA.le O R h
theorem wp_Aug {x : Str} {p : Pos} {op : Operator} {e : Expr} (W : Wd prog w K G fa) (I : Sd prog w G K fa n f) (h : Hd (exS G f C (.AugAssign (.Name x p) op e pos) st) P) (hA : AOK A n) (O : EnvOK K C env) (R : Rel K C env st ρ s) (hQ : PostF K C env P ρ s Q) :
    wpAny (model prog w) A (exec (.AugAssign (.Name x p) op e pos) env) Q E s := by
  refine Hd.g (show Hd (gd ((isAdd op || isSub op) && !(x == ("__debug__" : Str))) ((evVar G C x st).bind fun v => (asI v).bind fun a => (f.ev C e st).bind fun p => (asI p.1).bind fun b => (bindN C x (.d (.int (bif isAdd op then a + b else a - b))) p.2).map fun st => (.next, st))) P from h) fun hg h => ?_
  obtain ⟨hop, -⟩ := Bool.and_eq_true _ _ ▸ hg
  refine wpAny_AugAssign_Name (wp_evVar W.N (Hd.b h) O R fun v val h _ r => Hd.int (Hd.b h) r fun i t q h => q ▸ (I.ev C (Hd.b h)).2 hA O R fun p val ρ₂ s₂ h X => Hd.int (Hd.b h) X.vr fun j t' q h => ?_)
  subst q
  have fin : ∀ {z : Int} {tk u}, z = (bif isAdd op then i + j else i - j) → wpAny (model prog w) A (storeName env x (.int z u)) (fun _ => Q .next) E { s₂ with toks := tk } := fun {z tk u} q => by
    have S := X.step.rel.tok tk
    exact wp_bindN (v := .d (.int z)) O S.rel (q ▸ Hd.m h) ⟨u, rfl⟩ fun st' ρ' s' e S' _ => hQ.next ((X.step.aft S).trans S' fun _ _ q => q) e
  cases op with
  | Add => exact PySem.P.iadd_int (fin rfl)
  | Sub => exact PySem.P.isub_int (fin rfl)
  | _ => cases hop
theorem ex_step (W : Wd prog w K G fa) (I : Sd prog w G K fa n f) : SX prog w K (n + 1) C (exS G f C) := by
  intro b st P e A s ρ env Q E hA O R h
  have hA := hA.le
  cases b with
  | Pass pos => exact wpAny_Pass (h.next R.at0 e)
  | Break pos => exact wpAny_Break (h _ _ _ _ e ⟨R.at0, rfl⟩)
  | Continue pos => exact wpAny_Continue (h _ _ _ _ e ⟨R.at0, rfl⟩)
  | Return v pos =>
    cases v with
    | none => exact wpAny_Return_none (h _ _ _ _ e ⟨R.at0, .none, rfl, rfl, fun _ q => q.elim⟩)
    | some x => exact wpAny_Return_some ((I.ev C (Hd.m e)).2 hA O R fun p val ρ₁ s₁ e X => h _ _ _ _ e ⟨X.step, val, rfl, X.vr, X.new⟩)
  | Expr x pos =>
    refine Hd.g e fun hc e => ?_
    have hi : interactive env = false := by unfold interactive; rw [O.kind]; rfl
    have Y := I.ev C (Hd.m e)
    exact wpAny_Expr_any (Y.2 hA O R fun p val ρ₁ s₁ e X => h.next X.step e) hi (plain_swaps Y.1 (Bool.not_eq_true' _ ▸ hc))
  | If t a b pos => exact wpAny_If (I.tst C (Hd.b e) hA O R fun p ρ₁ s₁ e S => Hd.bif e (fun q e => Eq.mpr (if_pos q) (wp_exs (I.ex C) hA O a e S.rel (h.aft S))) fun q e => Eq.mpr (if_neg (q ▸ nofun)) (wp_exs (I.ex C) hA O b e S.rel (h.aft S)))
  | For t x b o pos => exact Hd.nil e fun q e => q ▸ wp_For (I.iter C) (I.bind C) (I.ex C) e hA O R h
  | While t b o pos => exact Hd.nil e fun q e => q ▸ wp_While (I.tst C) (I.ex C) e hA O R h
  | AugAssign t op x pos => exact (Hd.b e).get fun y hy _ => let ⟨p, q⟩ := name_of hy; by subst q; exact wp_Aug W I e hA O R h
  | Assign ts x pos =>
    match ts with
    | [] => exact e.elim
    | [t] =>
      replace e : Hd (asg1 f C t x st) P := e
      unfold asg1 at e
      refine e.el' (fun q hq e => ?_) fun hn e => wp_Assign1 (I.ev C) (I.bind C) I.asc ((Hd.b e).get fun p hp e => .of hp (Hd.m e)) hn hA O R h
      obtain ⟨us, hu, hq⟩ := Option.bind_eq_some_iff.mp hq
      obtain ⟨es, he, rfl⟩ := Option.map_eq_some_iff.mp hq
      obtain ⟨k, p, rfl⟩ : ∃ k p, t = .Tuple us k p := by cases t <;> first | (cases hu; done) | (cases hu; exact ⟨_, _, rfl⟩)
      obtain ⟨k', p', rfl⟩ : ∃ k p, x = .Tuple es k p := by cases x <;> first | (cases he; done) | (cases he; exact ⟨_, _, rfl⟩)
      exact wp_AssignTup I.bn (I.ev C) (I.bind C) e hA O R h
    | [t, u] =>
      replace e : Hd (asg2 f C t u x st) P := e
      have ot : ∀ v ∈ [t, u], okT C v = true := (Hd.b e).get fun p _ e => (Hd.b e).get fun i _ e => (Hd.b e).get fun st₁ h1 e => (Hd.m e).get fun st₂ h2 _ => fun v hv => (List.mem_cons.mp hv).elim (fun q => q ▸ (I.bind C (.of h1 trivial : Hd _ fun _ => True)).1) fun hv => List.mem_singleton.mp hv ▸ (I.bind C (.of h2 trivial : Hd _ fun _ => True)).1
      refine wpAny_Assign_two ((I.ev C (Hd.b e)).2 hA O R fun p val ρ₁ s₁ e X => Hd.int (Hd.b e) X.vr fun i tk q e => q ▸ (I.bind C (Hd.b e)).2 hA O X.step.rel (show VR K _ _ (.d (.int i)) _ from ⟨tk, rfl⟩) fun st₂ ρ₂ s₂ e S₂ => (I.bind C (Hd.m e)).2 hA O S₂.rel (show VR K _ _ (.d (.int i)) _ from ⟨tk, rfl⟩) fun st₃ ρ₃ s₃ e S₃ => h.next ((X.step.trans S₂ fun _ _ q => q).trans S₃ fun _ _ q => q) e) (by rw [assignEach_plain env ot]; rfl) (by cases t <;> rfl)
    | _ :: _ :: _ :: _ => exact e.elim
  | _ => exact e.elim
end
end Mine
end
section
open PySem PySem.W PyProof.Rows
namespace Mine
noncomputable def Zw (z TI TO i1 i2 b : Addr) : Prop := b = z ∨ b = TI ∨ b = TO ∨ b = i1 ∨ b = i2
structure ZA (z TI TO i1 i2 : Addr) (f1 f2 : List Addr) : Prop where
  TIz : TI ≠ z
  TOz : TO ≠ z
  i1z : i1 ≠ z
  i2z : i2 ≠ z
  TITO : TI ≠ TO
  TIi1 : TI ≠ i1
  TIi2 : TI ≠ i2
  TOi1 : TO ≠ i1
  TOi2 : TO ≠ i2
  f1 : ∀ b ∈ i1 :: f1, b ≠ z ∧ b ≠ TO ∧ b ≠ i2
  f2 : ∀ b ∈ i2 :: f2, b ≠ z ∧ b ≠ TO ∧ b ≠ i1
structure ZS (z TI TO i1 i2 : Addr) (St1 St2 : Nat → Heap → Prop) (k : Nat) (f : Value) (h : Heap) : Prop where
  z : IsZip h z TI TO f
  TI : IsPair h TI (.ref i1) (.ref i2)
  TO : ∃ a b, IsPair h TO a b
  t1 : St1 k h
  t2 : St2 k h
noncomputable def Zk (z TO i1 i2 : Addr) (h h' : Heap) : Prop := ∀ c o, c ≠ z → c ≠ TO → c ≠ i1 → c ≠ i2 → h.get? c = some o → h'.get? c = some o
section
variable {prog : Program} {w : World} {A : Around} {E : Value → Shared → Prop} {s : Shared} {z TI TO i1 i2 : Addr} {f1 f2 : List Addr} {n1 n2 k : Nat} {P1 P2 : Nat → Value → Prop} {St1 St2 : Nat → Heap → Prop} {Q : Value → Shared → Prop}
theorem zip_next (D : ZA z TI TO i1 i2 f1 f2) (W1 : Draws prog w A i1 (i1 :: f1) n1 P1 St1) (W2 : Draws prog w A i2 (i2 :: f2) n2 P2 St2) (Z : ZS z TI TO i1 i2 St1 St2 k .none s.heap) (k1 : k ≤ n1) (k2 : k ≤ n2)
    (hQ : ∀ x y h' tk, k < n1 → k < n2 → P1 k x → P2 k y → ZS z TI TO i1 i2 St1 St2 (k + 1) (rawInt s.heap.objs.size) h' → IsPair h' s.heap.objs.size x y → Zk z TO i1 i2 s.heap h' → Q (.ref s.heap.objs.size) { s with heap := h', toks := tk })
    (hE : ∀ h' e tk, k = n1 ∨ k = n2 → Zk z TO i1 i2 s.heap h' → (∃ o, h'.get? e = some o ∧ o.cls = .type "StopIteration") → E (.ref e) { s with heap := h', toks := tk }) :
    wpAny (model prog w) A (Builtin.«zip.__next__» ⟨[.ref z], []⟩) (fun fin s' => ∃ v, fin = .done (.ret v) ∧ Q v s') E s := by
  obtain ⟨hz, hTI, ⟨a, b, hTO⟩, t1, t2⟩ := Z
  show wpAny _ _ (field (.ref z) 2 >>= _) _ _ _
  refine wpAny_bind (wpAny_field hz rfl (x := .bool false) rfl ?_)
  show wpAny _ _ (field (.ref z) 3 >>= _) _ _ _
  refine wpAny_bind (wpAny_field hz rfl (x := .ref TI) rfl ?_)
  refine wpAny_bind (wpAny_seqItems hTI rfl ?_)
  show wpAny _ _ (Builtin.SmallTypes.ownedTupleIsFree (.ref z) >>= _) _ _ _
  refine wpAny_bind ?_
  unfold Builtin.SmallTypes.ownedTupleIsFree
  refine wpAny_bind (wpAny_field hz rfl (x := .none) rfl (wpAny_pure ?_))
  show wpAny _ _ (rule _ >>= _) _ _ _
  refine wpAny_bind (wpAny_rule ?_)
  refine wpAny_bind (wpAny_field hz rfl (x := .ref TO) rfl ?_)
  refine wpAny_bind (wpAny_setField_rec hz (by simp) fun h₁ hz₁ hs₁ => ?_)
  replace hz₁ : IsZip h₁ z TI TO .ellipsis := hz₁
  refine wpAny_bind ?_
  have e1 : ∀ {b o}, b ≠ z → s.heap.get? b = some o → h₁.get? b = some o := fun n e => hs₁.extBut _ _ n e
  have t1 : St1 k h₁ := W1.frame _ _ _ t1 fun b hb o e => e1 (D.f1 b hb).1 e
  have t2 : St2 k h₁ := W2.frame _ _ _ t2 fun b hb o e => e1 (D.f2 b hb).1 e
  refine wpAny_bind (wpAny_bind (wpAny_onRaise ?_))
  show wpAny _ _ (Builtin.SmallTypes.nextOf (.ref i1) >>= _) _ _ _
  refine wpAny_bind ?_
  have fin : ∀ {h e tk}, (k = n1 ∨ k = n2) → IsZip h z TI TO .ellipsis → Zk z TO i1 i2 s.heap h → (∃ o, h.get? e = some o ∧ o.cls = .type "StopIteration") → wpAny (model prog w) A (setField (.ref z) 0 .none) (fun _ s' => E (.ref e) s') E { s with heap := h, toks := tk } := fun q hz hk ⟨oe, hoe, hc⟩ =>
    wpAny_setField_rec hz (by simp) fun h' _ hs => hE h' _ _ q (fun c o c1 c2 c3 c4 x => hs.extBut _ _ c1 (hk c o c1 c2 c3 c4 x)) ⟨oe, hs.extBut _ _ (fun x => by subst x; rw [hz] at hoe; cases hoe; simp at hc) hoe, hc⟩
  rcases Nat.lt_or_eq_of_le k1 with l1 | rfl
  case inr => exact W1.done _ _ _ t1 fun h₂ e hs₂ he => fin (.inl rfl) (hs₂ _ _ D.i1z.symm hz₁) (fun c o c1 _ c3 _ x => hs₂ _ _ c3 (e1 c1 x)) he
  refine W1.item k _ _ _ l1 t1 fun x h₂ tk₂ p1 t1 hs₂ => wpAny_pure ?_
  have t2 : St2 k h₂ := W2.frame _ _ _ t2 fun b hb o e => hs₂.extBut b o (D.f2 b hb).2.2 e
  have hTO : IsPair h₂ TO a b := hs₂.extBut _ _ D.TOi1 (e1 D.TOz hTO)
  refine wpAny_bind (wpAny_seqItems hTO rfl ?_)
  refine wpAny_bind (wpAny_updateSeq_pair hTO fun h₃ hTO hs₃ => ?_)
  replace hTO : IsPair h₃ TO x b := hTO
  refine wpAny_bind (wpAny_letGo (wpAny_pure ?_))
  have t1 : St1 (k + 1) h₃ := W1.frame _ _ _ t1 fun b hb o e => hs₃.extBut b o (D.f1 b hb).2.1 e
  have t2 : St2 k h₃ := W2.frame _ _ _ t2 fun b hb o e => hs₃.extBut b o (D.f2 b hb).2.1 e
  have e3 : ∀ {b o}, b ≠ z → b ≠ TO → b ≠ i1 → s.heap.get? b = some o → h₃.get? b = some o := fun n1 n2 n3 e => hs₃.extBut _ _ n2 (hs₂.extBut _ _ n3 (e1 n1 e))
  have hz₃ : IsZip h₃ z TI TO .ellipsis := hs₃.extBut _ _ D.TOz.symm (hs₂.extBut _ _ D.i1z.symm hz₁)
  refine wpAny_bind (wpAny_bind (wpAny_onRaise ?_))
  show wpAny _ _ (Builtin.SmallTypes.nextOf (.ref i2) >>= _) _ _ _
  refine wpAny_bind ?_
  rcases Nat.lt_or_eq_of_le k2 with l2 | rfl
  case inr => exact W2.done _ _ _ t2 fun h₄ e hs₄ he => fin (.inr rfl) (hs₄ _ _ D.i2z.symm hz₃) (fun c o c1 c2 c3 c4 x => hs₄ _ _ c4 (e3 c1 c2 c3 x)) he
  refine W2.item k _ _ _ l2 t2 fun y h₄ tk₄ p2 t2 hs₄ => wpAny_pure ?_
  have t1 : St1 (k + 1) h₄ := W1.frame _ _ _ t1 fun b hb o e => hs₄.extBut b o (D.f1 b hb).2.2 e
  have hTO : IsPair h₄ TO x b := hs₄.extBut _ _ D.TOi2 hTO
  refine wpAny_bind (wpAny_seqItems hTO rfl ?_)
  refine wpAny_bind (wpAny_updateSeq_pair hTO fun h₅ hTO hs₅ => ?_)
  replace hTO : IsPair h₅ TO x y := hTO
  refine wpAny_bind (wpAny_letGo (wpAny_pure (wpAny_pure ?_)))
  refine wpAny_bind (wpAny_seqItems hTO rfl ?_)
  refine wpAny_bind (wpAny_newTuple ?_)
  have hsz : h₅.objs.size = s.heap.objs.size := hs₅.1.trans (hs₄.1.trans (hs₃.1.trans (hs₂.1.trans hs₁.1)))
  have hz₅ : IsZip h₅ z TI TO .ellipsis := hs₅.extBut _ _ D.TOz.symm (hs₄.extBut _ _ D.i2z.symm hz₃)
  have e5 : ∀ {c o}, c ≠ z → c ≠ TO → c ≠ i1 → c ≠ i2 → s.heap.get? c = some o → h₅.get? c = some o := fun c1 c2 c3 c4 e => hs₅.extBut _ _ c2 (hs₄.extBut _ _ c4 (e3 c1 c2 c3 e))
  have hlt := Nat.ne_of_gt (Heap.lt_size hz₅)
  show wpAny _ _ (Builtin.SmallTypes.ownedTupleHandOut (.ref z) (.ref h₅.objs.size) >>= _) _ _ _
  refine wpAny_bind ?_
  unfold Builtin.SmallTypes.ownedTupleHandOut
  have hz₆ : IsZip (h₅.push { cls := .type "tuple", data := .seq #[x, y] }) z TI TO .ellipsis := Heap.get?_push_of_some _ hz₅
  refine wpAny_bind (wpAny_setField_rec hz₆ (by simp) fun h₇ hz₇ hs₇ => ?_)
  replace hz₇ : IsZip h₇ z TI TO (rawInt h₅.objs.size) := hz₇
  refine wpAny_setField_rec hz₇ (by simp) fun h₈ hz₈ hs₈ => ?_
  replace hz₈ : IsZip h₈ z TI TO (rawInt h₅.objs.size) := hz₈
  have up : ∀ {c o}, c ≠ z → h₅.get? c = some o → h₈.get? c = some o := fun c1 e => hs₈.extBut _ _ c1 (hs₇.extBut _ _ c1 (Heap.get?_push_of_some _ e))
  have hT : IsPair h₈ h₅.objs.size x y := hs₈.extBut _ _ hlt (hs₇.extBut _ _ hlt (Heap.get?_push_size _ rfl))
  refine wpAny_pure ⟨_, rfl, ?_⟩
  show Q (.ref h₅.objs.size) _
  rw [hsz] at hz₈ hT ⊢
  exact hQ x y h₈ _ l1 l2 p1 p2 ⟨hz₈, up D.TIz (e5 D.TIz D.TITO D.TIi1 D.TIi2 hTI), ⟨_, _, up D.TOz hTO⟩, W1.frame _ _ _ t1 fun b hb o e => up (D.f1 b hb).1 (hs₅.extBut b o (D.f1 b hb).2.1 e),
    W2.frame _ _ _ t2 fun b hb o e => up (D.f2 b hb).1 (hs₅.extBut b o (D.f2 b hb).2.1 e)⟩ hT fun c o c1 c2 c3 c4 e => up c1 (e5 c1 c2 c3 c4 e)
end
end Mine
end
section
open PySem PySem.W PyProof.Rows
namespace Mine
theorem zipD_get : ∀ {xs ys : List PyData} {j : Nat}, (zipD xs ys)[j]? = (xs[j]?).bind fun a => (ys[j]?).map fun b => .tuple [a, b]
  | [], ys, j => rfl
  | x :: xs, [], j => by cases h : (x :: xs)[j]? <;> rfl
  | x :: xs, y :: ys, 0 => rfl
  | x :: xs, y :: ys, j + 1 => zipD_get (xs := xs)
structure ZT (z TI TO i1 i2 : Addr) (f1 f2 : List Addr) (xs ys : List PyData) (P1 P2 : Nat → Value → Prop) (St1 St2 : Nat → Heap → Prop) (f : Value) (j : Nat) (ρ : Rho) (h : Heap) : Prop where
  l1 : j ≤ xs.length
  l2 : j ≤ ys.length
  s : ZS z TI TO i1 i2 St1 St2 j f h
  hid : ∀ b, Zw z TI TO i1 i2 b → ρ.k b = .hid
  foot : ∀ b, b ∈ f1 ∨ b ∈ f2 → ∃ o, Fz h ρ b o
  d1 : ∀ {k x v}, xs[k]? = some x → P1 k v → Rd (Fz h ρ) x v
  d2 : ∀ {k x v}, ys[k]? = some x → P2 k v → Rd (Fz h ρ) x v
structure ZIn (h : Heap) (ρ : Rho) (v : Value) (xs : List PyData) (o : Obj) (fp : List Addr) (P : Nat → Value → Prop) (St : Addr → Nat → Heap → Prop) : Prop where
  iter : ∀ {prog : Program} {w : World} {A : Around} {s : Shared} {Q : Value → Shared → Prop} {E : Value → Shared → Prop}, Up h s.heap → Q (.ref s.heap.objs.size) { s with heap := s.heap.push o } → wpAny (model prog w) A (pyIter v) Q E s
  draws : ∀ {prog : Program} {w : World} {A : Around} {i : Addr}, A.handled = none → (∀ b ∈ fp, b ≠ i) → Draws prog w A i (i :: fp) xs.length P (St i)
  init : ∀ {h' : Heap} {i : Addr}, h'.get? i = some o → Up h h' → St i 0 h'
  foot : ∀ b ∈ fp, ∃ o, Fz h ρ b o
  data : ∀ {k x v}, xs[k]? = some x → P k v → Rd (Fz h ρ) x v
  freed : o.isFreed = false
section
variable {prog : Program} {w : World} {A : Around} {E : Value → Shared → Prop} {s : Shared} {z TI TO i1 i2 : Addr} {f1 f2 : List Addr} {n1 n2 k : Nat} {P1 P2 : Nat → Value → Prop} {St1 St2 : Nat → Heap → Prop}
theorem zip_py {Q : Option Value → Shared → Prop} (D : ZA z TI TO i1 i2 f1 f2) (W1 : ∀ A : Around, A.handled = none → Draws prog w A i1 (i1 :: f1) n1 P1 St1) (W2 : ∀ A : Around, A.handled = none → Draws prog w A i2 (i2 :: f2) n2 P2 St2) (hA : A.handled = none)
    (Z : ZS z TI TO i1 i2 St1 St2 k .none s.heap) (k1 : k ≤ n1) (k2 : k ≤ n2)
    (hQ : ∀ x y h' tk, k < n1 → k < n2 → P1 k x → P2 k y → ZS z TI TO i1 i2 St1 St2 (k + 1) (rawInt s.heap.objs.size) h' → IsPair h' s.heap.objs.size x y → Zk z TO i1 i2 s.heap h' → Q (some (.ref s.heap.objs.size)) { s with heap := h', toks := tk })
    (hE : ∀ h' tk, k = n1 ∨ k = n2 → Zk z TO i1 i2 s.heap h' → Q none { s with heap := h', toks := tk }) : wpAny (model prog w) A (pyNext (.ref z)) Q E s := by
  have hT : s.TypeIs (.ref z) "zip" := ⟨_, Z.z, rfl⟩
  unfold pyNext
  exact wpAny_bind (wpAny_attempt (wpAny_callSpecial?_slot (name := Str.ofString "__next__") hT F.slot_zip_next (wpAny_call_entry F.slot_zip_next hT F.entry_zip_next (zip_next D (W1 _ hA) (W2 _ hA) Z k1 k2
    (fun x y h' tk l1 l2 p1 p2 Z' T' K => wpAny_pure (hQ x y h' tk l1 l2 p1 p2 Z' T' K)) fun h' e tk q K ⟨o, ho, hc⟩ => wpAny_bind (wpAny_isInstance (T := "StopIteration") (b := true) ⟨o, ho, hc⟩ isSubtype_stop (wpAny_pure (hE h' tk q K)))) (F.args_zip_next_1 _))))
variable {xs ys : List PyData} {f f' : Value} {j : Nat} {ρ ρ' : Rho} {h h' : Heap} {K : Ctx0}
theorem ZT.upd (W1 : Draws prog w A i1 (i1 :: f1) n1 P1 St1) (W2 : Draws prog w A i2 (i2 :: f2) n2 P2 St2) (D : ZA z TI TO i1 i2 f1 f2) (t : ZT z TI TO i1 i2 f1 f2 xs ys P1 P2 St1 St2 f j ρ h) (hw : ∀ b o, Zw z TI TO i1 i2 b → b ≠ z → h.get? b = some o → h'.get? b = some o)
    (hz : IsZip h' z TI TO f') (hid : ∀ b, Zw z TI TO i1 i2 b → ρ'.k b = .hid) (fz : ∀ {b o}, Fz h ρ b o → Fz h' ρ' b o) : ZT z TI TO i1 i2 f1 f2 xs ys P1 P2 St1 St2 f' j ρ' h' := by
  obtain ⟨l1, l2, ⟨-, hTI, ⟨a, b, hTO⟩, t1, t2⟩, -, ft, d1, d2⟩ := t
  have fp : ∀ {b o}, b ∈ f1 ∨ b ∈ f2 → h.get? b = some o → h'.get? b = some o := fun q e => let ⟨_, g⟩ := ft _ q; (fz ⟨g.1, e⟩).2
  exact ⟨l1, l2, ⟨hz, hw _ _ (.inr (.inl rfl)) D.TIz hTI, ⟨a, b, hw _ _ (.inr (.inr (.inl rfl))) D.TOz hTO⟩, W1.frame _ _ _ t1 fun b hb o e => (List.mem_cons.mp hb).elim (fun q => hw b o (.inr (.inr (.inr (.inl q)))) (q ▸ D.i1z) e) fun q => fp (.inl q) e,
    W2.frame _ _ _ t2 fun b hb o e => (List.mem_cons.mp hb).elim (fun q => hw b o (.inr (.inr (.inr (.inr q)))) (q ▸ D.i2z) e) fun q => fp (.inr q) e⟩, hid, fun b q => let ⟨o, g⟩ := ft b q; ⟨o, fz g⟩, fun hx hp => (d1 hx hp).mono fz, fun hx hp => (d2 hx hp).mono fz⟩
theorem ZS.live (W1 : Draws prog w A i1 (i1 :: f1) n1 P1 St1) (W2 : Draws prog w A i2 (i2 :: f2) n2 P2 St2) (Z : ZS z TI TO i1 i2 St1 St2 k f h) {b : Addr} (q : Zw z TI TO i1 i2 b) : Live h b :=
  q.elim (fun q => q ▸ ⟨_, Z.z⟩) fun q => q.elim (fun q => q ▸ ⟨_, Z.TI⟩) fun q => q.elim (fun q => q ▸ let ⟨_, _, e⟩ := Z.TO; ⟨_, e⟩) fun q => q.elim (fun q => q ▸ W1.live _ _ Z.t1) fun q => q ▸ W2.live _ _ Z.t2
theorem Zk.out (k : Zk z TO i1 i2 h h') {b : Addr} {o : Obj} (n : ¬ Zw z TI TO i1 i2 b) (e : h.get? b = some o) : h'.get? b = some o :=
  k b o (fun q => n (.inl q)) (fun q => n (.inr (.inr (.inl q)))) (fun q => n (.inr (.inr (.inr (.inl q))))) (fun q => n (.inr (.inr (.inr (.inr q))))) e
theorem Gen.zip (D : ZA z TI TO i1 i2 f1 f2) (W1 : ∀ A : Around, A.handled = none → Draws prog w A i1 (i1 :: f1) xs.length P1 St1) (W2 : ∀ A : Around, A.handled = none → Draws prog w A i2 (i2 :: f2) ys.length P2 St2) :
    Gen prog w K (.zip (zipD xs ys)) z (Zw z TI TO i1 i2) (ZT z TI TO i1 i2 f1 f2 xs ys P1 P2 St1 St2 .none) (fun j v ρ h => ∃ T, v = .ref T ∧ ZT z TI TO i1 i2 f1 f2 xs ys P1 P2 St1 St2 (rawInt T) j ρ h) := by
  have w1 := W1 ⟨none, 0, none, none, 0⟩ rfl
  have w2 := W2 ⟨none, 0, none, none, 0⟩ rfl
  refine ⟨fun t a q => ⟨t.hid a q, t.s.live w1 w2 q⟩, fun t M n => t.upd w1 w2 D (fun b o q _ e => (M.hid (t.hid b q) e (n b q)).2) (M.hid (t.hid z (.inl rfl)) t.s.z (n z (.inl rfl))).2 (fun b q => let ⟨o, e⟩ := t.s.live w1 w2 q; (M.hid (t.hid b q) e (n b q)).1) M.fz, ?_, ?_, ?_, fun hA t hQ => wpAny_pyIter_zip t.s.z hQ⟩
  · intro A C env st ρ s j x Q E hA R t e hQ
    obtain ⟨x1, h1, e⟩ := Option.bind_eq_some_iff.mp (zipD_get.symm.trans (Option.some.inj e))
    obtain ⟨x2, h2, rfl⟩ := Option.map_eq_some_iff.mp e
    have j1 := (List.getElem?_eq_some_iff.mp h1).1
    have j2 := (List.getElem?_eq_some_iff.mp h2).1
    refine zip_py D W1 W2 hA t.s t.l1 t.l2 (fun u v h' tk _ _ p1 p2 Z T' K => ?_) fun h' tk q _ => (q.elim (Nat.ne_of_lt j1) (Nat.ne_of_lt j2)).elim
    have S : Step _ C env st (Zw z TI TO i1 i2) ρ s ρ { s with heap := h', toks := tk } := R.wrote t.hid (fun b o n => K.out n) fun b q => Z.live w1 w2 q
    have d1 := (t.d1 h1 p1).mono S.mv.fz
    have d2 := (t.d2 h2 p2).mono S.mv.fz
    exact hQ _ _ S ⟨rfl, ⟨R.w.new not_live_size, T'⟩, rfl, rfl, Rds.cons d1 (Rds.one d2)⟩ ⟨_, rfl, j1, j2, Z, t.hid, fun b q => let ⟨o, g⟩ := t.foot b q; ⟨o, S.mv.fz g⟩, fun hx hp => (t.d1 hx hp).mono S.mv.fz, fun hx hp => (t.d2 hx hp).mono S.mv.fz⟩
  · intro A C env st ρ s j Q E hA R t e hQ
    have e := zipD_get.symm.trans (Option.some.inj e)
    refine zip_py D W1 W2 hA t.s t.l1 t.l2 (fun u v h' tk j1 j2 p1 p2 Z T' K => ?_) fun h' tk q k => hQ h' tk fun b o n => k.out n
    rw [List.getElem?_eq_getElem j1, List.getElem?_eq_getElem j2] at e
    cases e
  · intro A C env st ρ s j target v Q E R t ht hQ
    obtain ⟨T, rfl, t⟩ := t
    cases target with
    | Tuple elts k p =>
      refine wpAny_letOwnedTupleGo_zip t.s.z fun h' hz hs => ?_
      have S : Step K C env st (Zw z TI TO i1 i2) ρ s ρ { s with heap := h', toks := s.toks } := R.wrote t.hid (fun b o n e => (hs.2 b fun q => n (.inl q)).trans e) fun b q => live_but hs ⟨_, hz⟩ b (t.s.live w1 w2 q)
      exact hQ _ S (t.upd w1 w2 D (fun b o _ n e => (hs.2 b n).trans e) hz t.hid S.mv.fz)
    | _ => cases ht
end
end Mine
end
section
open PySem PySem.W PyProof.Rows
namespace Mine
theorem zin {h : Heap} {ρ : Rho} {x : PyData} {v : Value} {P : List PyData → Prop} {T : Prop} (e : Hd (zipD? x) P) (r : Rd (Fz h ρ) x v) (k : ∀ xs o fp Pp St, P xs → ZIn h ρ v xs o fp Pp St → T) : T := by
  cases x with
  | list xs =>
    obtain @⟨a, o, items, n, rfl, f, c, d, q⟩ := (show LA (Fz h ρ) "list" (Rds (Fz h ρ) xs) v from r)
    refine k xs { cls := .type "list_iterator", data := .fields #[.ref a, .int 0 0] } [a] (fun i v => items[i]? = some v) (fun i k h => h.IsListIter i a k ∧ h.IsList a items) e ⟨fun hk hq => wpAny_pyIter_list ⟨o, hk _ _ f.2, c, n, d⟩ hq, fun {prog w A i} hA hf => ?_, fun e hk => ⟨⟨_, e, rfl, rfl⟩, ⟨o, hk _ _ f.2, c, n, d⟩⟩, fun b hb => List.mem_singleton.mp hb ▸ ⟨o, f⟩, fun hx hp => q.at_ hx hp, rfl⟩
    exact q.size ▸ Draws.list hA i a (hf a List.mem_cons_self) items
  | str x =>
    obtain ⟨t, rfl⟩ := r
    refine k _ { cls := .type (strIterType x), data := .fields #[.str x t, .int 0 0] } [] (SignAt x) (fun i k h => h.IsStrIter i (strIterType x) x t k) e ⟨fun _ hq => wpAny_pyIter_strU hq, fun {prog w A i} hA _ => ?_, fun e _ => ⟨_, e, rfl, rfl⟩, nofun, sign_at, rfl⟩
    rw [← sign_size]
    unfold strIterType
    cases x.cps.all (· < 128)
    · exact Draws.strWide hA i x t
    · exact Draws.strAscii hA i x t
  | _ => exact e.elim
noncomputable abbrev zA2 (h : Heap) (o1 o2 : Obj) : Heap := (h.push o1).push o2
noncomputable abbrev zA3 (h : Heap) (o1 o2 : Obj) : Heap := (zA2 h o1 o2).push { cls := .type "tuple", data := .seq #[.ref h.objs.size, .ref (h.push o1).objs.size] }
noncomputable abbrev zA4 (h : Heap) (o1 o2 : Obj) : Heap := (zA3 h o1 o2).push { cls := .type "tuple", data := .seq #[.none, .none] }
noncomputable abbrev zA5 (h : Heap) (o1 o2 : Obj) : Heap := (zA4 h o1 o2).push { cls := .type "zip", data := .fields #[.none, .bool false, .bool false, .ref (zA2 h o1 o2).objs.size, .ref (zA3 h o1 o2).objs.size] }
theorem meets_zipM {h₀ : Heap} {ρ : Rho} {v1 v2 : Value} {xs ys o1 o2 f1 f2 P1 P2 St1 St2} (Z1 : ZIn h₀ ρ v1 xs o1 f1 P1 St1) (Z2 : ZIn h₀ ρ v2 ys o2 f2 P2 St2) :
    Meets (Builtin.«zip.__new__» ⟨[.type "zip", v1, v2], []⟩) (fun _ R s => Up h₀ s.heap ∧ R (.ok (.ret (.ref (zA4 s.heap o1 o2).objs.size))) { s with heap := zA5 s.heap o1 o2 }) :=
  .of_wp fun prog w A R s h => by
    obtain ⟨hp, g, d, tk, os⟩ := s
    obtain ⟨hk, h⟩ := h
    have hsub := sub_zip
    have i1 : ∀ {A : Around} {Q : Value → Shared → Prop} {E : Value → Shared → Prop}, Q (.ref hp.objs.size) ⟨hp.push o1, g, d, tk, os⟩ → wpAny (model prog w) A (pyIter v1) Q E ⟨hp, g, d, tk, os⟩ := fun q => Z1.iter hk q
    have i2 : ∀ {A : Around} {Q : Value → Shared → Prop} {E : Value → Shared → Prop}, Q (.ref (hp.push o1).objs.size) ⟨(hp.push o1).push o2, g, d, tk, os⟩ → wpAny (model prog w) A (pyIter v2) Q E ⟨hp.push o1, g, d, tk, os⟩ := fun q => Z2.iter (fun b o e => Up.push _ _ _ (hk b o e)) q
    wp_walk using i1, i2
    exact ⟨_, rfl, h⟩
theorem new_ne {h : Heap} {a : Addr} (l : Live h a) : a ≠ h.objs.size := fun q => not_live_size (q ▸ l)
section
variable {prog : Program} {w : World} {G : Env'} {K : Ctx0} {fa : Str → Addr} {A : Around} {E : Value → Shared → Prop} {C : Cx} {env : Env} {st : St} {ρ : Rho} {s : Shared} {n : Nat} {f : Fs} {pos : Pos} {P : It × St → Prop} {Q : Value → Shared → Prop} {xs ys : List PyData} {f1 f2 : List Addr} {P1 P2 : Nat → Value → Prop} {St1 St2 : Addr → Nat → Heap → Prop} {v1 v2 : Value} {o1 o2 : Obj}
theorem Rel.pushH {h : Heap} {o : Obj} (R : Rel K C env st ρ { s with heap := h }) (hf : o.isFreed = false) : Step K C env st No ρ { s with heap := h } (ρ.set h.objs.size .hid) { s with heap := h.push o } ∧ (ρ.set h.objs.size .hid).k h.objs.size = .hid ∧ (h.push o).get? h.objs.size = some o :=
  ⟨R.hide (h' := h.push o) (t := s.toks) not_live_size (.push o) ⟨_, Heap.get?_push_size _ hf⟩, set_self, Heap.get?_push_size _ hf⟩
theorem zip_new (R : Rel K C env st ρ s) (Z1 : ZIn s.heap ρ v1 xs o1 f1 P1 St1) (Z2 : ZIn s.heap ρ v2 ys o2 f2 P2 St2) (e : P (.zip (zipD xs ys), st)) (h : PostI prog w K C env P ρ s Q) :
    wpAny (model prog w) A (PySem.call (.type "zip") [v1, v2]) (fun xv s₁ => wpAny (model prog w) A (pyIter xv) Q E s₁) E s := by
  refine callType_new F.called_zip (by decide) (F.typeCall_zip_2 _ _) (F.newCall_zip_2 _ _) (fun obj => F.args_object_init_3 obj _ _) F.entry_zip_new (meets_zipM Z1 Z2) ⟨fun _ _ e => e, ?_⟩
  obtain ⟨S1, a1⟩ := Rel.pushH (h := s.heap) R Z1.freed
  obtain ⟨S2, a2⟩ := S1.rel.pushH Z2.freed
  obtain ⟨S3, a3⟩ := S2.rel.pushH (o := { cls := .type "tuple", data := .seq #[.ref s.heap.objs.size, .ref (s.heap.push o1).objs.size] }) rfl
  obtain ⟨S4, a4⟩ := S3.rel.pushH (o := { cls := .type "tuple", data := .seq #[.none, .none] }) rfl
  obtain ⟨S5, a5⟩ := S4.rel.pushH (o := { cls := .type "zip", data := .fields #[.none, .bool false, .bool false, .ref (zA2 s.heap o1 o2).objs.size, .ref (zA3 s.heap o1 o2).objs.size] }) rfl
  have b1 := S2.mv.hid a1.1 a1.2 id
  have c1 := S3.mv.hid b1.1 b1.2 id
  have c2 := S3.mv.hid a2.1 a2.2 id
  have d1 := S4.mv.hid c1.1 c1.2 id
  have d2 := S4.mv.hid c2.1 c2.2 id
  have d3 := S4.mv.hid a3.1 a3.2 id
  have e1 := S5.mv.hid d1.1 d1.2 id
  have e2 := S5.mv.hid d2.1 d2.2 id
  have e3 := S5.mv.hid d3.1 d3.2 id
  have e4 := S5.mv.hid a4.1 a4.2 id
  have S := (((S1.aft S2).aft S3).aft S4).aft S5
  have new := fun {h : Heap} (up : Up s.heap h) (l : Live s.heap h.objs.size) => not_live_size (h := h) (let ⟨o, q⟩ := l; ⟨o, up _ _ q⟩)
  have u1 : Up s.heap (s.heap.push o1) := Up.push _
  have u2 : Up s.heap (zA2 s.heap o1 o2) := fun b o e => Up.push _ _ _ (u1 b o e)
  have u3 : Up s.heap (zA3 s.heap o1 o2) := fun b o e => Up.push _ _ _ (u2 b o e)
  have u4 : Up s.heap (zA4 s.heap o1 o2) := fun b o e => Up.push _ _ _ (u3 b o e)
  have u5 : Up s.heap (zA5 s.heap o1 o2) := fun b o e => Up.push _ _ _ (u4 b o e)
  have ft : ∀ b, b ∈ f1 ∨ b ∈ f2 → ∃ o, Fz s.heap ρ b o := fun b q => q.elim (Z1.foot b) (Z2.foot b)
  have nz : ∀ {b}, Live (zA2 s.heap o1 o2) b → b ≠ (zA4 s.heap o1 o2).objs.size ∧ b ≠ (zA3 s.heap o1 o2).objs.size := fun ⟨o, q⟩ => ⟨new_ne ⟨o, Up.push _ _ _ (Up.push _ _ _ q)⟩, new_ne ⟨o, Up.push _ _ _ q⟩⟩
  have l1 : ∀ b ∈ s.heap.objs.size :: f1, Live (s.heap.push o1) b := fun b hb => (List.mem_cons.mp hb).elim (fun q => q ▸ ⟨_, a1.2⟩) fun q => let ⟨o, e⟩ := ft b (.inl q); ⟨o, u1 _ _ e.2⟩
  have l2 : ∀ b ∈ (s.heap.push o1).objs.size :: f2, Live (zA2 s.heap o1 o2) b ∧ b ≠ s.heap.objs.size := fun b hb => (List.mem_cons.mp hb).elim (fun q => q ▸ ⟨⟨_, a2.2⟩, (new_ne ⟨_, a1.2⟩).symm⟩) fun q => let ⟨o, e⟩ := ft b (.inr q); ⟨⟨o, u2 _ _ e.2⟩, new_ne ⟨o, e.2⟩⟩
  have m1 := nz ⟨_, b1.2⟩
  have m2 := nz ⟨_, a2.2⟩
  refine ⟨⟨_, a5.2, rfl⟩, wpAny_pyIter_zip a5.2 (h _ _ _ _ _ _ _ e (Gen.zip ⟨new_ne ⟨_, d3.2⟩, new_ne ⟨_, a4.2⟩, m1.1, m2.1, new_ne ⟨_, a3.2⟩, (new_ne ⟨_, b1.2⟩).symm, (new_ne ⟨_, a2.2⟩).symm, m1.2.symm, m2.2.symm,
      fun b hb => let l := l1 b hb; let ⟨q1, q2⟩ := nz (let ⟨o, e⟩ := l; ⟨o, Up.push _ _ _ e⟩); ⟨q1, q2, new_ne l⟩, fun b hb => let ⟨l, q3⟩ := l2 b hb; let ⟨q1, q2⟩ := nz l; ⟨q1, q2, q3⟩⟩
      (fun A hA => Z1.draws hA fun b hb => new_ne (let ⟨o, e⟩ := Z1.foot b hb; ⟨o, e.2⟩)) (fun A hA => Z2.draws hA fun b hb => new_ne (let ⟨o, e⟩ := Z2.foot b hb; ⟨o, u1 _ _ e.2⟩)))
    ⟨Nat.zero_le _, Nat.zero_le _, ⟨a5.2, e3.2, ⟨_, _, e4.2⟩, Z1.init e1.2 u5, Z2.init e2.2 u5⟩, fun b q => q.elim (fun q => q ▸ a5.1) fun q => q.elim (fun q => q ▸ e3.1) fun q => q.elim (fun q => q ▸ e4.1) fun q => q.elim (fun q => q ▸ e1.1) fun q => q ▸ e2.1, fun b q => let ⟨o, g⟩ := ft b q; ⟨o, S.mv.fz g⟩, fun hx hp => (Z1.data hx hp).mono S.mv.fz, fun hx hp => (Z2.data hx hp).mono S.mv.fz⟩ S
    fun b q => q.elim (fun q => q ▸ new u4) fun q => q.elim (fun q => q ▸ new u2) fun q => q.elim (fun q => q ▸ new u3) fun q => q.elim (fun q => q ▸ not_live_size) fun q => q ▸ new u1)⟩
theorem wp_zip (W : Wd prog w K G fa) {p : Pos} {args : List Expr} (IE : SE prog w K n C (f.ev C)) (hk : C.sc.names.lookup ("zip" : Str) = some .globalImplicit) (e : Hd ((evs (f.ev C) args st).bind fun p => (rd0s p.1).bind fun l => two l fun a b => (zipD? a).bind fun xs => (zipD? b).map fun ys => (.zip (zipD xs ys), p.2)) P)
    (hA : AOK A n) (O : EnvOK K C env) (R : Rel K C env st ρ s) (h : PostI prog w K C env P ρ s Q) : wpAny (model prog w) A (eval (.Call (.Name "zip" p) args [] pos) env) (fun xv s₁ => wpAny (model prog w) A (pyIter xv) Q E s₁) E s :=
  wpAny_Call_NameR (wpAny_Name (W.N.load O R hk (.inr W.zip) (PySem.callWith_type (plain_args (fun e => (IE e).1) (Hd.b e)).1 (wp_args IE (Hd.b e) hA O R fun p vals ρ₁ s₁ e X => X.data (Hd.b e) fun l ρ₂ e S ds => Hd.two e fun a b q e => by
    subst q
    obtain ⟨v1, _, rfl, r1, v2, _, rfl, r2, rfl⟩ := ds
    exact zin (Hd.b e) r1 fun xs o1 f1 P1 St1 e Z1 => zin (Hd.m e) r2 fun ys o2 f2 P2 St2 e Z2 => zip_new S.rel Z1 Z2 e (h.aft S)))) (by decide))
end
end Mine
end
section
open PySem PySem.W PyProof.Rows
namespace Mine
theorem entry_items_iter : entryFor table "dict_itemiterator.__iter__" = some Builtin.«dict_keyiterator.__iter__» :=
  entryFor_alias (id' := "dict_keyiterator.__iter__") (by rfl') rfl (by decide +kernel) (by rfl')
theorem args_items_iter (a : Value) : argsOk "dict_itemiterator.__iter__" ⟨[a], []⟩ := by unfold argsOk; rfl'
noncomputable def d0 (ep : Nat) : Obj := { cls := .type "dict", data := .dict #[] ep }
structure IT (I d : Addr) (ep : Nat) (ρ : Rho) (h : Heap) : Prop where
  it : IsItemIter h I d 0 0 ep .none .none
  k : ρ.k I = .hid
  d : Fz h ρ d (d0 ep)
section
variable {prog : Program} {w : World} {G : Env'} {K : Ctx0} {fa : Str → Addr} {A : Around} {E : Value → Shared → Prop} {C : Cx} {env : Env} {st : St} {ρ : Rho} {s : Shared} {n : Nat} {f : Fs} {pos : Pos} {P : It × St → Prop} {Q : Value → Shared → Prop}
theorem dictAt0 {h : Heap} {d : Addr} {ep : Nat} (e : h.get? d = some (d0 ep)) : h.DictAt (strKind prog w) d [] ep :=
  ⟨_, #[], e, ⟨rfl, rfl, rfl⟩, rfl, fun e he => absurd he (Array.not_mem_empty e), .nil, by simp⟩
theorem Gen.items {I d : Addr} {ep : Nat} : Gen prog w K (.vals []) I (· = I) (fun _ => IT I d ep) fun _ _ => IT I d ep := by
  refine ⟨fun t a q => q ▸ ⟨t.k, _, t.it⟩, fun t M n => ⟨(M.hid t.k t.it (n I rfl)).2, (M.hid t.k t.it (n I rfl)).1, M.fz t.d⟩, fun _ _ _ e => (nomatch Option.some.inj e), ?_, ?_, ?_⟩
  · exact fun {A C env st ρ s j Q E} hA R t e hQ => wpAny_pyNext_items_end (knd := strKind prog w) (kvs := []) hA t.it (dictAt0 t.d.2) rfl fun h' he => hQ h' s.toks fun b o n e => he b o n e
  · intro A C env st ρ s j target v Q E R t ht hQ
    have h0 : wpAny (model prog w) A (pure ()) Q E s := wpAny_pure (hQ s (R.stay fun b q => q ▸ t.k) t)
    unfold letOwnedTupleGo
    have key : wpAny (model prog w) A (do
        let (.ref r, .ref a) := ((.ref I : Value), v) | return
        let o ← load r
        match o.cls, o.data with
        | .type n, .fields vs =>
          if tupIters.contains n && vs[0]? == some (rawInt a) then
            rule "for.unpacks-the-owned-tuple"
            updateField r 0 .none
        | _, _ => pure ()) Q E s := by
      cases v with
      | ref a =>
        dsimp only
        refine wpAny_bind (wpAny_load t.it ?_)
        dsimp only
        rw [if_neg (by simp [rawInt])]
        exact h0
      | _ => exact h0
    cases target <;> first | exact h0 | exact key
  · intro A j ρ s Q E hA t hQ
    have hT : s.TypeIs (.ref I) "dict_itemiterator" := ⟨_, t.it, rfl⟩
    exact wpAny_pyIter_slot hT F.slot_dict_itemiterator_iter (wpAny_call_entry F.slot_dict_itemiterator_iter hT entry_items_iter (wpAny_pure (a := Fin.done (Flow.ret (.ref I))) (Exists.intro (.ref I) ⟨rfl, "dict_itemiterator", _, hT, F.slot_dict_itemiterator_next.lookup, hQ⟩)) (args_items_iter _))
theorem items_new {d : Addr} {ep : Nat} (W : Wd prog w K G fa) (R : Rel K C env st ρ s) (fd : Fz s.heap ρ d (d0 ep)) (e : P (.vals [], st)) (h : PostI prog w K C env P ρ s Q) :
    wpAny (model prog w) A (callWith pos (.builtin "dict.items") [.ref d] [] []) (fun xv s₁ => wpAny (model prog w) A (pyIter xv) Q E s₁) E s := by
  have hs : (d == sysModules) = false := beq_false_of_ne fun q => let ⟨o, ho, n⟩ := W.sysm; n ep (congrArg Obj.data (Option.some.inj ((R.w.base ho).2.symm.trans (q ▸ fd.2))))
  refine method_meetsIn F.slot_dict_items F.entry_dict_items rfl (PySem.evalArgs_none ⟨rfl, ⟨_, fd.2, rfl⟩, F.args_dict_items_1 _, _, meets_dict_items (strKind prog w) d hs, ⟨[], (dictAt0 fd.2).dictOf⟩, ?_⟩)
  have S2 : Step K C env st No ρ s ρ { s with heap := s.heap.push { cls := .type "dict_items", data := .fields #[.ref d] } } := R.go (t := s.toks) (.push _)
  refine wpAny_pyIter_items (knd := strKind prog w) (kvs := []) (d := d) (ep := ep) ⟨_, Heap.get?_push_size _ rfl, rfl, rfl⟩ (dictAt0 (S2.mv.fz fd).2) ?_
  obtain ⟨S3, k, g⟩ := S2.rel.pushH (o := { cls := .type "dict_itemiterator", data := .fields #[.none, .bool false, .ref d, .int 0 0, .int ([] : List (Str × Value)).length 0, .int ep 0, .none, .none] }) rfl
  exact h _ _ _ _ _ _ _ e Gen.items ⟨g, k, S3.mv.fz (S2.mv.fz fd)⟩ (S2.aft S3) fun a q l => not_live_size (S2.mv.live (q ▸ l) id)
theorem wp_items (W : Wd prog w K G fa) {o : Expr} {ap : Pos} (IE : SE prog w K n C (f.ev C)) (hl : (ap.endLine == pos.line) = true) (e : Hd ((f.ev C o st).bind fun p => gd (isEmptyD p.1) (some (.vals [], p.2))) P)
    (hA : AOK A n) (O : EnvOK K C env) (R : Rel K C env st ρ s) (h : PostI prog w K C env P ρ s Q) : wpAny (model prog w) A (eval (.Call (.Attribute o "items" ap) [] [] pos) env) (fun xv s₁ => wpAny (model prog w) A (pyIter xv) Q E s₁) E s := by
  refine wpAny_Call_method (T := "dict") (id := "dict.items") (base_of (IE e.b).1) rfl hl F.plainAttrs_dict F.slot_dict_items F.type_dict_items ((IE e.b).2 hA O R fun p val s₁ ρ₁ e X => Hd.g e fun hd e => ?_)
  obtain ⟨v, st₁⟩ := p
  cases v with
  | d x =>
    cases x with
    | dict kvs =>
      obtain ⟨rfl, d, ep, rfl, fd⟩ := X.vr
      exact ⟨⟨_, fd.2, rfl⟩, fun a q => Value.ref.inj q ▸ ⟨_, fd.2, rfl⟩, items_new W X.step.rel fd e (h.aft X.step)⟩
    | _ => cases hd
  | _ => cases hd
end
end Mine
end
section
open PySem PySem.W PyProof.Rows
namespace Mine
section
variable {prog : Program} {w : World} {G : Env'} {K : Ctx0} {fa : Str → Addr} {C : Cx} {n : Nat} {f : Fs}
theorem iter_step (W : Wd prog w K G fa) (IE : SE prog w K n C (f.ev C)) : SI prog w K (n + 1) C (iterS f C) := by
  intro e st P h
  have el : ∀ {e}, Hd (Mine.iterV f C e st) P → plainE e = true ∧ ∀ {A s ρ env Q E}, AOK A (n + 1) → EnvOK K C env → Rel K C env st ρ s → PostI prog w K C env P ρ s Q → wpAny (model prog w) A (eval e env) (fun xv s₁ => wpAny (model prog w) A (pyIter xv) Q E s₁) E s := fun h => ⟨(IE h.b).1, fun hA O R hQ => wp_iterE IE h hA.le O R hQ⟩
  cases e with
  | Call g args kws pos =>
    cases g with
    | Name g p => exact Hd.bif h (fun q h => Hd.gd h fun hk h => Hd.nil h fun z e => by obtain rfl := eq_of_beq q; subst z; exact ⟨rfl, fun hA O R hQ => wp_zip W IE hk e hA.le O R hQ⟩) fun _ h => el h
    | Attribute o m ap => exact Hd.bif h (fun q h => Hd.gd h fun hl h => Hd.nil h fun y h => Hd.nil h fun z e => by obtain rfl := eq_of_beq (Bool.and_eq_true _ _ ▸ q : _ ∧ _).1; subst y z; exact ⟨rfl, fun hA O R hQ => wp_items W IE (beq_iff_eq.mpr hl) e hA.le O R hQ⟩) fun _ h => el h
    | _ => exact el h
  | _ => exact el h
theorem Sd.zero : Sd prog w G K fa 0 Fs.zero := ⟨fun _ _ _ _ h => h.elim, fun _ _ _ _ h => h.elim, fun _ _ _ _ h => h.elim, fun h => h.elim, fun _ _ _ _ _ h => h.elim, fun h => h.elim, fun _ _ _ _ h => h.elim, fun h => h.elim, fun h => h.elim⟩
theorem Sd.step (W : Wd prog w K G fa) (I : Sd prog w G K fa n f) : Sd prog w G K fa (n + 1) (stepF G f n) :=
  ⟨fun _ => ev_step W I, fun C => tst_step (I.ev C) (I.tst C), fun C => iter_step W (I.ev C), comp_step I.ev I.tst I.bind I.iter I.comp, fun C => bind_step W (I.ev C) (I.bind C), id, fun _ => ex_step W I, call_step W.D I.ex, asc_step I⟩
theorem sound (W : Wd prog w K G fa) : ∀ n, Sd prog w G K fa n (fs G n)
  | 0 => .zero
  | n + 1 => .step W (sound W n)
end
end Mine
end
section
open PySem PySem.W PyProof.Rows
namespace Mine
noncomputable def AllL : Nat → (List Value → Prop) → Prop
  | 0, P => P []
  | n + 1, P => ∀ a, AllL n fun l => P (a :: l)
theorem AllL.el {n : Nat} : ∀ {P : List Value → Prop}, AllL n P → ∀ {vals : List Value}, vals.length = n → P vals := by
  induction n with
  | zero => exact fun h _ e => List.eq_nil_of_length_eq_zero e ▸ h
  | succ n ih =>
    intro P h vals e
    cases vals with
    | nil => nomatch e
    | cons a l => exact ih (h a) (Nat.succ.inj e)
theorem bindPos_plain {ps : List Str} : ∀ {ds : List (Option V)} {vs : List V} {P : List (Str × V) → Prop}, ds.all (·.isNone) = true → Hd (bindPos ps ds vs) P → vs.length = ps.length ∧ P (ps.zip vs) := by
  induction ps with
  | nil => exact fun _ h => Hd.nil h fun q h => q ▸ ⟨rfl, h⟩
  | cons p ps ih =>
    intro ds vs P hd h
    have hd' : ds.tail.all (·.isNone) = true ∧ ds.head?.bind id = none := by
      cases ds with
      | nil => exact ⟨rfl, rfl⟩
      | cons d _ => exact ⟨(Bool.and_eq_true _ _ ▸ hd : _ ∧ _).2, Option.isNone_iff_eq_none.mp (Bool.and_eq_true _ _ ▸ hd : _ ∧ _).1⟩
    cases vs with
    | nil => exact (hd'.2 ▸ Hd.b (x := ds.head?.bind id) h : Hd (none : Option V) _).elim
    | cons a as => exact (ih hd'.1 (Hd.m h)).imp (congrArg Nat.succ) id
theorem bindPos_last {p : Str} {v : V} : ∀ {ps : List Str} {vs : List V} {P : List (Str × V) → Prop}, Hd (bindPos (ps ++ [p]) (List.replicate ps.length none ++ [some v]) vs) P → (vs.length = ps.length + 1 ∧ P ((ps ++ [p]).zip vs)) ∨ (vs.length = ps.length ∧ P ((ps ++ [p]).zip (vs ++ [v])))
  | [], [], _, h => .inr ⟨rfl, h⟩
  | [], a :: as, P, h => Hd.nil (l := as) (k := some []) (P := fun bs => P ((p, a) :: bs)) (Hd.m h) fun q h => by subst q; exact .inl ⟨rfl, h⟩
  | q :: ps, [], _, h => h.elim
  | q :: ps, a :: as, _, h => (bindPos_last (ps := ps) (Hd.m h)).imp (And.imp (congrArg Nat.succ) id) (And.imp (congrArg Nat.succ) id)
section
variable {prog : Program} {w : World} {K : Ctx0} {F : Fn} {fd : FuncData} {objs : Objs} {ρ : Rho} {s : Shared} {ow : Addr → Prop}
noncomputable def BindOK (prog : Program) (w : World) (K : Ctx0) (F : Fn) (fd : FuncData) : Prop := ∀ {objs ρ s vs ks vals kvals} {P : List (Str × V) → Prop}, RelW K objs ρ s → VRs K s.heap ρ (vs ++ ks.map Prod.snd) (vals ++ kvals) → vals.length = vs.length → kvals.length = ks.length → Hd (bindFn F vs ks) P → ∀ {A E} {Q : List (Str × Value) → Shared → Prop},
    (∀ bs bvals ρ' s', P bs → WStep K objs No ρ s ρ' s' → VRs K s'.heap ρ' (bs.map Prod.snd) bvals → (∀ a, Ows (bs.map Prod.snd) bvals a → Ows (vs ++ ks.map Prod.snd) (vals ++ kvals) a) → Q ((bs.map Prod.fst).zip bvals) s') → wpAny (model prog w) A (bindArgs fd ⟨vals, (ks.map Prod.fst).zip kvals⟩) Q E s
theorem RelW.go (W : RelW K objs ρ s) {h' : Heap} (hk : Up s.heap h') : WStep K objs No ρ s ρ { s with heap := h' } :=
  have M : Mv No No ρ ρ s.heap h' := .up hk
  ⟨W.mv (s' := { s with heap := h' }) M (W.store.same M (fun _ b o _ e => hk b o e) W.store.lt) (fun n => M.live (W.kl n) id) rfl rfl, M⟩
noncomputable def BQ (K : Ctx0) (objs : Objs) (ow : Addr → Prop) (P : List (Str × V) → Prop) (ρ : Rho) (s : Shared) (Q : List (Str × Value) → Shared → Prop) : Prop := ∀ bs bvals ρ' s', P bs → WStep K objs No ρ s ρ' s' → VRs K s'.heap ρ' (bs.map Prod.snd) bvals → (∀ a, Ows (bs.map Prod.snd) bvals a → ow a) → Q ((bs.map Prod.fst).zip bvals) s'
theorem BQ.zip {P : List (Str × V) → Prop} {Q : List (Str × Value) → Shared → Prop} {ns : List Str} {us : List V} {uvals : List Value} {ρ' : Rho} {s' : Shared} (h : BQ K objs ow P ρ s Q) (l : us.length = ns.length) (p : P (ns.zip us)) (W : WStep K objs No ρ s ρ' s') (r : VRs K s'.heap ρ' us uvals) (o : ∀ a, Ows us uvals a → ow a) : Q (ns.zip uvals) s' := by
  have e1 : (ns.zip us).map Prod.fst = ns := List.map_fst_zip (Nat.le_of_eq l.symm)
  have e2 : (ns.zip us).map Prod.snd = us := List.map_snd_zip (Nat.le_of_eq l)
  exact e1 ▸ h (ns.zip us) uvals ρ' s' p W (e2.symm ▸ r) (e2.symm ▸ o)
theorem Ows.snoc {vs : List V} {vals : List Value} {v : V} {u : Value} (l : vals.length = vs.length) (n : ∀ a, ¬ Ow v u a) (a : Addr) (o : Ows (vs ++ [v]) (vals ++ [u]) a) : Ows vs vals a :=
  (Ows.app l o).elim id fun o => o.elim (fun o => (n a o).elim) False.elim
theorem VRs.snoc {h : Heap} {vs : List V} {vals : List Value} {v : V} {u : Value} (r : VRs K h ρ vs vals) (q : VR K h ρ v u) (n : ∀ a, ¬ Ow v u a) : VRs K h ρ (vs ++ [v]) (vals ++ [u]) :=
  r.app ⟨rfl, q, rfl, fun _ _ => id⟩ fun a _ o => o.elim (n a) id
theorem bind_of (hk : F.kwo = none) (h : ∀ {objs ρ s vs vals} {P : List (Str × V) → Prop}, RelW K objs ρ s → VRs K s.heap ρ vs vals → vals.length = vs.length → Hd (bindPos F.params F.dflt vs) (fun bs => P (bs ++ (F.dct.map fun d => (d, V.d (.dict []))).toList)) → ∀ {A E} {Q : List (Str × Value) → Shared → Prop}, BQ K objs (Ows vs vals) P ρ s Q → wpAny (model prog w) A (bindArgs fd ⟨vals, []⟩) Q E s) : BindOK prog w K F fd := by
  intro objs ρ s vs ks vals kvals P W rs hl hkl e A E Q hQ
  unfold bindFn at e
  rw [hk] at e
  obtain ⟨rfl, e'⟩ : ks = [] ∧ Hd (bindPos F.params F.dflt vs) fun bs => P (bs ++ (F.dct.map fun d => (d, V.d (.dict []))).toList) := (Hd.b e).get fun bs hb e => Hd.nil e fun q e => ⟨q, .of hb e⟩
  obtain rfl := List.eq_nil_of_length_eq_zero hkl
  have e1 : vs ++ ([] : List (Str × V)).map Prod.snd = vs := List.append_nil _
  have e2 : vals ++ ([] : List Value) = vals := List.append_nil _
  rw [e1, e2] at rs hQ
  exact h W rs hl e' hQ
theorem bind_plain (ps : List Str) (hp : F.params = ps) (hd : F.dflt.all (·.isNone) = true) (hk : F.kwo = none) (hc : F.dct = none) (h : AllL ps.length fun vals => bindArgs fd ⟨vals, []⟩ = pure (ps.zip vals)) : BindOK prog w K F fd :=
  bind_of hk fun {objs ρ s vs vals P} W rs hl e {A E Q} hQ => by
    rw [hp, hc] at e
    obtain ⟨l, z⟩ := bindPos_plain hd e
    rw [h.el (hl.trans l)]
    exact wpAny_pure (hQ.zip l (Eq.mp (congrArg P (List.append_nil _)) z) (W.go (.refl _)) rs fun _ => id)
theorem bind_last {o : Obj} {T : Addr} {n : Nat} (ps : List Str) (p : Str) (hp : F.params = ps ++ [p]) (hd : F.dflt = List.replicate ps.length none ++ [some (.d .none)]) (hk : F.kwo = none) (hc : F.dct = none) (h0 : K.h₀.get? T = some o) (hs : o.data = .seq #[.none] n) (hT : fd.defaults = .ref T)
    (h1 : AllL (ps.length + 1) fun vals => ∃ k, bindArgs fd ⟨vals, []⟩ = seqItems? fd.defaults >>= k ∧ k (some #[.none]) = pure ((ps ++ [p]).zip vals))
    (h2 : AllL ps.length fun vals => ∃ k, bindArgs fd ⟨vals, []⟩ = seqItems? fd.defaults >>= k ∧ k (some #[.none]) = pure ((ps ++ [p]).zip (vals ++ [.none]))) : BindOK prog w K F fd :=
  bind_of hk fun {objs ρ s vs vals P} W rs hl e {A E Q} hQ => by
    rw [hp, hc, hd] at e
    have len : (ps ++ [p]).length = ps.length + 1 := List.length_append
    rcases bindPos_last e with ⟨l, z⟩ | ⟨l, z⟩
    · obtain ⟨k, a, b⟩ := h1.el (hl.trans l)
      exact BindsTo.of_defaults hT (W.base h0).2 hs a b _ _ _ _ (hQ.zip (l.trans len.symm) (Eq.mp (congrArg P (List.append_nil _)) z) (W.go (.refl _)) rs fun _ => id)
    · obtain ⟨k, a, b⟩ := h2.el (hl.trans l)
      exact BindsTo.of_defaults hT (W.base h0).2 hs a b _ _ _ _ (hQ.zip ((List.length_append.trans (congrArg (· + 1) l)).trans len.symm) (Eq.mp (congrArg P (List.append_nil _)) z) (W.go (.refl _)) (rs.snoc (v := .d .none) rfl fun _ => id) (Ows.snoc (v := .d .none) hl fun _ => id))
theorem bind_dct (ps : List Str) (d : Str) (hp : F.params = ps) (hd : F.dflt.all (·.isNone) = true) (hk : F.kwo = none) (hc : F.dct = some d)
    (h : AllL ps.length fun vals => bindArgs fd ⟨vals, []⟩ = alloc { cls := .type "dict", data := .dict #[] } >>= fun a => pure ((ps ++ [d]).zip (vals ++ [.ref a]))) : BindOK prog w K F fd :=
  bind_of hk fun {objs ρ s vs vals P} W rs hl e {A E Q} hQ => by
    rw [hp, hc] at e
    obtain ⟨l, z⟩ := bindPos_plain hd e
    rw [h.el (hl.trans l)]
    have len : (ps ++ [d]).length = ps.length + 1 := List.length_append
    have W' := W.go (.push { cls := .type "dict", data := .dict #[] })
    refine wpAny_bind (wpAny_alloc (wpAny_pure (hQ.zip ((List.length_append.trans (congrArg (· + 1) l)).trans len.symm) (Eq.mp (congrArg P (List.zip_append (r₁ := [d]) (r₂ := [V.d (.dict [])]) l.symm).symm) z) W' ((rs.mv W'.mv fun _ _ q => q).snoc (v := .d (.dict [])) ⟨rfl, _, _, rfl, W.new not_live_size, Heap.get?_push_size _ rfl⟩ fun _ => id) (Ows.snoc (v := .d (.dict [])) hl fun _ => id))))
theorem bind_kwo (ps : List Str) (k : Str) (hp : F.params = ps) (hd : F.dflt.all (·.isNone) = true) (hk : F.kwo = some k) (h : ∀ v, AllL ps.length fun vals => bindArgs fd ⟨vals, [(k, v)]⟩ = pure ((ps ++ [k]).zip (vals ++ [v]))) : BindOK prog w K F fd := by
  intro objs ρ s vs ks vals kvals P W rs hl hkl e A E Q hQ
  unfold bindFn at e
  rw [hp, hk] at e
  obtain ⟨l, e⟩ := bindPos_plain hd (Hd.b e)
  refine Hd.one e fun a q e => Hd.g e fun z y => ?_
  subst q
  obtain ⟨k', v⟩ := a
  obtain rfl : k = k' := eq_of_beq z
  obtain ⟨kv, rfl⟩ := List.length_eq_one_iff.mp hkl
  have len : (ps ++ [k]).length = ps.length + 1 := List.length_append
  show wpAny _ A (bindArgs fd ⟨vals, [(k, kv)]⟩) Q E s
  rw [(h kv).el (hl.trans l)]
  exact wpAny_pure (BQ.zip (ow := Ows (vs ++ [v]) (vals ++ [kv])) hQ ((List.length_append.trans (congrArg (· + 1) l)).trans len.symm) (Eq.mp (congrArg P (List.zip_append (r₁ := [k]) (r₂ := [v]) l.symm).symm) y) (W.go (.refl _)) rs fun _ => id)
end
end Mine
end
section
open PySem PySem.W PyProof.Rows
namespace Mine
structure Prim (prog : Program) (w : World) (K : Ctx0) (a : Addr) (x y : PyData) : Prop where
  run : ∀ {objs ρ s val A Q E}, AOK A 8 → RelW K objs ρ s → Rd (Fz s.heap ρ) x val → (∀ val' ρ' s', WStep K objs No ρ s ρ' s' → Rd (Fz s'.heap ρ') y val' → Q val' s') → wpAny (model prog w) A (PySem.call (.ref a) [val]) Q E s
section
variable {prog : Program} {w : World} {G : Env'} {K : Ctx0} {fa : Str → Addr} {F : Fn} {a b : Addr} {ob : Obj} {fd : FuncData} {l : Expr} {x r : Str} {p p' p'' p3 ap : Pos} {c : Int} {d y z : PyData} {rest : List Stmt}
noncomputable def Ans (y : PyData) (o : Objs) (p : Fl × St) : Prop := p.1.val = some (.d y) ∧ p.2.objs = o
theorem prim_run {P₀ : Objs → St → Prop} (lim : K.h₀.NoLimit) (FO : FnOK prog w K F a ob fd) (h : ∀ o, Hd (bindFn F [.d d] []) fun bs => Hd (bindAs F bs o) (P₀ o))
    (X : ∀ {o A st env s ρ Q E}, P₀ o st → AOK A 7 → EnvOK K ⟨F.scope, F.mv⟩ env → Rel K ⟨F.scope, F.mv⟩ env st ρ s → PostF K ⟨F.scope, F.mv⟩ env (Ans y o) ρ s Q → wpAny (model prog w) A (execs F.body env) Q E s) : Prim prog w K a d y :=
  ⟨fun {objs ρ s val A Q E} hA W₀ dv hQ => call_body (n := 7) (vs := [.d d]) (ks := []) (vals := [val]) (kvals := []) (P := fun r => r.1 = .d y ∧ r.2 = objs) lim FO hA W₀ ⟨rfl, dv, rfl, fun _ q => q.elim⟩ rfl rfl (h objs) X (fun p ⟨e, q⟩ => by rw [e]; exact ⟨rfl, q⟩)
    fun r val' ρ' s' ⟨e, q⟩ WS rv _ => by
      obtain ⟨v, o⟩ := r
      subst e q
      exact hQ val' ρ' s' (WS.more (fun _ q => q.elim) fun _ q => q.elim id id) rv⟩
theorem prim_set (W : Wd prog w K G fa) (FO : FnOK prog w K F a ob fd) (hb : F.body = [.Return (some (.Compare l [.In] [.Name x p] p')) p'']) (hx : F.scope.names.lookup x = some .globalImplicit) (hd : (x == ("__debug__" : Str)) = false)
    (h : ∀ o, Hd (bindFn F [.d d] []) fun bs => Hd (bindAs F bs o) fun st => Hd ((fs G 7).ev ⟨F.scope, F.mv⟩ l st) fun p => p.1 = .d (.int c) ∧ p.2.objs = o) {S : Int → Bool} {m : Nat} (hg : K.gm x = some (.ref b)) (hS : ∀ h : Heap, Up K.h₀ h → h.SetOf (intKind prog w) b S m) : Prim prog w K a d (.bool (S c)) :=
  prim_run W.D.lim FO h fun {o A st env s ρ Q E} e hA O R hQ => by
    rw [hb]
    refine wpAny_execs_cons (wpAny_Return_some ?_)
    rw [arm_eval_Compare]
    refine wpAny_bind (((sound W 7).ev _ e).2 hA O R fun q va ρ₁ s₁ ⟨e1, e2⟩ X => ?_)
    have hm : markedEach [.In] [.Name x p] (evalEach [.Name x p] env) = [eval (.Name x p) env] := rfl
    rw [hm]
    refine wpAny_bind (wpAny_holding (wpAny_Name (W.N.load O X.step.rel hx (.inl hg) (wpAny_bind (wpAny_standAt (wpAny_operate' ?_)))) hd))
    obtain ⟨v, st₁⟩ := q
    subst e1 e2
    obtain ⟨t, rfl⟩ := X.vr
    refine wpAny_inSet_of (knd := intKind prog w) (k := c) (intKind_is _ _ _ _) rfl (hS _ X.step.rel.up0) ?_
    exact hQ (.ret (.d (.bool (S c))), st₁) _ _ _ ⟨rfl, rfl⟩ ⟨X.step.aft (X.step.rel.tok (s₁.toks + 1)), _, rfl, rfl, fun _ q => q.elim⟩
theorem prim_dict (W : Wd prog w K G fa) (FO : FnOK prog w K F a ob fd) (hb : F.body = .Assign [.Name r p] (.Call (.Attribute (.Name x p') "get" ap) [l] [] p'') p3 :: rest) (hx : F.scope.names.lookup x = some .globalImplicit) (hd : (x == ("__debug__" : Str)) = false) (hline : (ap.endLine == p''.line) = true)
    (h : ∀ o, Hd (bindFn F [.d d] []) fun bs => Hd (bindAs F bs o) fun st => Hd ((fs G 7).ev ⟨F.scope, F.mv⟩ l st) fun q => q.1 = .d (.int c) ∧ Hd ((fs G 7).bind ⟨F.scope, F.mv⟩ (.Name r p) (.d z) q.2) fun st => Hd (exs ((fs G 7).ex ⟨F.scope, F.mv⟩) rest st) (Ans y o)) {T : Int → Option Value} (hg : K.gm x = some (.ref b)) (hsm : (b == sysModules) = false)
    (hT : ∀ h : Heap, Up K.h₀ h → h.MapOf (intKind prog w) b T) (hz : ∀ {h ρ}, Rd (Fz h ρ) z ((T c).getD .none)) : Prim prog w K a d y :=
  prim_run W.D.lim FO h fun {o A st env s ρ Q E} e hA O R hQ => by
    rw [hb]
    have he : Hd (evs ((fs G 7).ev ⟨F.scope, F.mv⟩) [l] st) fun q => q.1 = [.d (.int c)] ∧ Hd ((fs G 7).bind ⟨F.scope, F.mv⟩ (.Name r p) (.d z) q.2) fun st => Hd (exs ((fs G 7).ex ⟨F.scope, F.mv⟩) rest st) (Ans y o) := Hd.get e fun q hq e => .of (show evs ((fs G 7).ev ⟨F.scope, F.mv⟩) [l] st = some ([q.1], q.2) by unfold evs; rw [hq]; rfl) ⟨congrArg (fun v => [v]) e.1, e.2⟩
    have hpl := plain_args (env := env) (pos := p'') (fun e => ((sound W 7).ev _ e).1) he
    refine wpAny_execs_cons (wpAny_Assign_stores ?_ rfl rfl)
    have hM := hT _ R.up0
    obtain ⟨od, es, ep, ho, hex, hdt, -⟩ := id hM
    refine wpAny_Call_method (T := "dict") (id := "dict.get") rfl ?_ hline PySem.F.plainAttrs_dict PySem.F.slot_dict_get PySem.F.type_dict_get (wpAny_Name (W.N.load O R hx (.inl hg) ⟨hM.typeIs, fun a q => Value.ref.inj q ▸ ⟨_, ho, hex.2.1⟩, method_meetsIn PySem.F.slot_dict_get PySem.F.entry_dict_get hpl.1 ?_⟩) hd)
    · rw [hpl.2]; rfl
    refine wp_args (fun e => (sound W 7).ev _ e) he hA O R fun q vals ρ₁ s₁ e X => ?_
    obtain ⟨vs, st₁⟩ := q
    obtain ⟨e1, e2⟩ := e
    subst e1
    obtain ⟨rfl, r, rfl, -⟩ := X.vrs
    obtain ⟨t, rfl⟩ := r
    have hM4 := hT _ X.step.rel.up0
    refine ⟨rfl, hM4.typeIs, PySem.F.args_dict_get_2 _ _, _, meets_dict_get (intKind prog w) b (k := c) (intKind_is _ _ _ _) hsm, T, hM4, ?_⟩
    have S := X.step.aft (X.step.rel.tok (s₁.toks + 1))
    show wpAny _ _ (assignAll _ _) _ _ _
    exact ((sound W 7).bind _ e2).2 hA O S.rel (val := (T c).getD .none) hz fun st' ρ₂ s₂ e S₂ => wp_exs ((sound W 7).ex _) hA O rest e S₂.rel (hQ.aft (S.trans S₂ fun _ _ q => q))
end
end Mine
end
section
open PySem PySem.W PyProof.Rows
namespace Mine
noncomputable def stmtsOf : FuncBody → List Stmt | .stmts l => l | _ => []
noncomputable def fdOf (o : Obj) : FuncData := match o.data with | .func fd => fd | _ => default
noncomputable abbrev Tab := List (Str × Addr × Fn)
noncomputable def fnT (tab : Tab) (f : Str) : Option Fn := (tab.lookup f).map (·.2)
noncomputable def faT (tab : Tab) (f : Str) : Addr := ((tab.lookup f).map (·.1)).getD 0
noncomputable def AllM {α : Type} (P : α → Prop) : List α → Prop
  | [] => True
  | x :: l => P x ∧ AllM P l
theorem AllM.lk {α : Type} {P : Str × α → Prop} {x : Str} {v : α} : ∀ {l : List (Str × α)}, AllM P l → l.lookup x = some v → P (x, v)
  | (y, u) :: r, h, e => by
    rw [lk_cons] at e
    by_cases q : x = y
    · subst q; rw [if_pos rfl] at e; cases e; exact h.1
    · rw [if_neg q] at e; exact AllM.lk h.2 e
theorem no_free {l : List (Str × NameKind)} (h : (l.all fun p => p.2 != .free) = true) {x : Str} : l.lookup x ≠ some .free := fun e => absurd (List.all_eq_true.mp h _ (lk_mem e)) nofun
theorem fnT_at {tab : Tab} {P : Str × Addr × Fn → Prop} (h : AllM P tab) {f : Str} {F : Fn} (e : fnT tab f = some F) : P (f, faT tab f, F) := by
  obtain ⟨p, hl, rfl⟩ := Option.map_eq_some_iff.mp e
  have : faT tab f = p.1 := by unfold faT; rw [hl]; rfl
  exact this ▸ h.lk hl
theorem str_app_toList (a b : Str) : (a ++ b).cps.toList = a.cps.toList ++ b.cps.toList := Array.toList_append
theorem str_ext {a b : Str} (h : a.cps.toList = b.cps.toList) : a = b := congrArg Str.mk (Array.toList_inj.mp h)
theorem meth_name {f m m₀ : Str} (e : f = "Headers." ++ m₀) (q : f = "Headers." ++ m) : m = m₀ := str_ext (List.append_cancel_left ((str_app_toList _ m).symm.trans ((congrArg (·.cps.toList) (q.symm.trans e)).trans (str_app_toList _ m₀))))
theorem not_meth {f m : Str} (n : (f.cps.toList.take 8 == ("Headers." : Str).cps.toList) = false) (q : f = "Headers." ++ m) : False := by
  subst q
  rw [str_app_toList, List.take_append_of_le_length (by decide +kernel), List.take_of_length_le (by decide +kernel), beq_self_eq_true] at n
  cases n
inductive RowOK (prog : Program) (w : World) (K : Ctx0) (f : Str) (a : Addr) (F : Fn) : Prop where
  | fn (FO : ∃ o fd, FnOK prog w K F a o fd) (g : K.gm f = some (.ref a)) (n : (f.cps.toList.take 8 == ("Headers." : Str).cps.toList) = false) : RowOK prog w K f a F
  | me (m : Str) (FO : ∃ o fd, FnOK prog w K F a o fd) (e : f = "Headers." ++ m) (i : isMeth f = true) (g : K.mN m = some (.ref a)) (n : m ≠ "_headers") (y : ∃ y, typeLookup (.type "object") m = pure y) : RowOK prog w K f a F
section
variable {prog : Program} {w : World} {K : Ctx0} {f m : Str} {a : Addr} {F : Fn}
theorem RowOK.fd (r : RowOK prog w K f a F) : ∃ o fd, FnOK prog w K F a o fd := by cases r <;> assumption
theorem RowOK.gm (r : RowOK prog w K f a F) (n : isMeth f = false) : K.gm f = some (.ref a) := by
  cases r with
  | fn _ g _ => exact g
  | me _ _ _ i => rw [i] at n; cases n
theorem RowOK.meth (r : RowOK prog w K ("Headers." ++ m) a F) : K.mN m = some (.ref a) ∧ m ≠ "_headers" ∧ ∃ y, typeLookup (.type "object") m = pure y := by
  cases r with
  | fn _ _ n => exact (not_meth n rfl).elim
  | me m₀ _ e _ g n y => exact meth_name e rfl ▸ ⟨g, n, y⟩
noncomputable def GlobOK (K : Ctx0) (p : Str × V) : Prop := ∃ val, (K.gm p.1 = some val ∨ (K.gm p.1 = none ∧ K.bm p.1 = some val)) ∧ p.2.fl? = none ∧ ∀ {h ρ}, (∀ {b o}, K.h₀.get? b = some o → Fz h ρ b o) → VR K h ρ p.2 val
end
theorem setOf_of {prog : Program} {w : World} {h : Heap} {a : Addr} {o : Obj} {es : Array (Int × Value)} {ep : Nat} {t : SetTable} {m : Nat} (l : List (Int × Tok)) (ho : h.get? a = some o) (hx : o.ExactSet) (hd : o.data = .set es ep t)
    (hk : es.toList = l.map fun p => (hashInt p.1, .int p.1 p.2)) (h1 : es.size < scanBound) (h2 : t.fits es.size = true) (h3 : es.size = m) : h.SetOf (intKind prog w) a (fun k => l.any fun p => p.1 == k) m := by
  refine ⟨o, es, ep, t, ho, hx, hd, fun e he => ?_, fun k => List.any_eq_true.trans ⟨fun ⟨p, hp, q⟩ => ?_, fun ⟨e, he, q⟩ => ?_⟩, h1, h2, h3⟩
  · obtain ⟨p, _, rfl⟩ := List.mem_map.mp (hk ▸ he)
    exact ⟨⟨_, intKind_is _ _ _ _, rfl⟩, rfl⟩
  · exact ⟨_, hk ▸ List.mem_map.mpr ⟨p, hp, rfl⟩, eq_of_beq q ▸ intKind_is _ _ _ _⟩
  · obtain ⟨p, hp, rfl⟩ := List.mem_map.mp (hk ▸ he)
    exact ⟨p, hp, beq_iff_eq.mpr ((intKind prog w).inj _ _ _ (intKind_is _ _ _ _) q)⟩
theorem ents_find {prog : Program} {w : World} {ps : List (Int × Str)} {es : List DictEntry} (h : Ents ps es) (k : Int) : (ps.lookup k).elim (findBy (intKind prog w).is es.toArray k = none) fun v => ∃ t, findBy (intKind prog w).is es.toArray k = some (.str v t) := by
  unfold findBy
  rw [List.find?_toArray]
  induction h with
  | nil => exact rfl
  | @cons p e ps es a h ih =>
    obtain ⟨-, t, u, hk, hv⟩ := a
    have hi : (intKind prog w).is k e.key = decide (k = p.1) := by rw [hk]; exact KeyKind.is_eq_decide (intKind_is _ _ _ _) k
    obtain ⟨pi, pv⟩ := p
    rw [List.find?_cons, hi, List.lookup_cons]
    by_cases hq : k = pi
    · subst hq; rw [decide_eq_true rfl, beq_self_eq_true]; exact ⟨u, congrArg some hv⟩
    · rw [decide_eq_false hq, beq_false_of_ne hq]; exact ih
theorem mapOf_of {prog : Program} {w : World} {h : Heap} {a : Addr} {ps : List (Int × Str)} {es : List DictEntry} {ep : Nat} (ho : h.get? a = some (dObj es ep)) (hE : Ents ps es) : h.MapOf (intKind prog w) a (fun k => findBy (intKind prog w).is es.toArray k) :=
  ⟨_, _, _, ho, ⟨rfl, rfl, rfl⟩, rfl, hE.keysOf, fun _ => rfl⟩
end Mine
end
section
namespace V03
open PySem PySem.W PyProof.Rows Mine H03
noncomputable def hp (P : Params) (x : Nat → Obj) : Heap := ⟨(HL P x).toArray, life0⟩
noncomputable def K (P : Params) (x : Nat → Obj) (os : OsState) : Ctx0 := ⟨fun b => if b then 126 else 131, 260, hp P x, os, mainNs, (hp P x).nsMap mainNs, (hp P x).nsMap builtinsNs, (hp P x).nsMap 259⟩
section
variable {prog : Program} {w : World} (P : Params) (x : Nat → Obj) (os : OsState)
noncomputable def F_substitution_cost : Fn := ⟨["ch_a", "ch_b"], [none, none], none, none, stmtsOf (fB 11), (fS 11), []⟩
theorem ok_substitution_cost : FnOK prog w (K P x os) F_substitution_cost 109 (o117 P) (fdOf (o117 P)) :=
  ⟨by rfl', rfl, rfl, rfl, rfl, rfl, rfl, .of_ok (by rfl'), rfl, rfl, by rfl', no_free (by rfl'), rfl, bind_plain ["ch_a", "ch_b"] rfl rfl rfl rfl (by intro _ _; show _ = _; rfl')⟩
noncomputable def F_levenshtein_distance : Fn := ⟨["a", "b", "max_cost"], [none, none, none], none, none, stmtsOf (fB 12), (fS 12), ["row"]⟩
theorem ok_levenshtein_distance : FnOK prog w (K P x os) F_levenshtein_distance 116 (o124 P) (fdOf (o124 P)) :=
  ⟨by rfl', rfl, rfl, rfl, rfl, rfl, rfl, .of_ok (by rfl'), rfl, rfl, by rfl', no_free (by rfl'), rfl, bind_plain ["a", "b", "max_cost"] rfl rfl rfl rfl (by intro _ _ _; show _ = _; rfl')⟩
noncomputable def F_law_noise : Fn := ⟨[], [], none, none, stmtsOf (fB 20), (fS 20), []⟩
theorem ok_law_noise : FnOK prog w (K P x os) F_law_noise 271 (o286 P) (fdOf (o286 P)) :=
  ⟨by rfl', rfl, rfl, rfl, rfl, rfl, rfl, .of_ok (by rfl'), rfl, rfl, by rfl', no_free (by rfl'), rfl, bind_plain [] rfl rfl rfl rfl (by show _ = _; rfl')⟩
noncomputable def F_law_forms : Fn := ⟨["kind", "pick"], [none, none], none, none, stmtsOf (fB 21), (fS 21), []⟩
theorem ok_law_forms : FnOK prog w (K P x os) F_law_forms 276 (o291 P) (fdOf (o291 P)) :=
  ⟨by rfl', rfl, rfl, rfl, rfl, rfl, rfl, .of_ok (by rfl'), rfl, rfl, by rfl', no_free (by rfl'), rfl, bind_plain ["kind", "pick"] rfl rfl rfl rfl (by intro _ _; show _ = _; rfl')⟩
noncomputable def F_law_letters : Fn := ⟨["number"], [none], none, none, stmtsOf (fB 22), (fS 22), ["letters"]⟩
theorem ok_law_letters : FnOK prog w (K P x os) F_law_letters 281 (o296 P) (fdOf (o296 P)) :=
  ⟨by rfl', rfl, rfl, rfl, rfl, rfl, rfl, .of_ok (by rfl'), rfl, rfl, by rfl', no_free (by rfl'), rfl, bind_plain ["number"] rfl rfl rfl rfl (by intro _; show _ = _; rfl')⟩
noncomputable def F_law_typed : Fn := ⟨["letters", "number"], [none, none], none, none, stmtsOf (fB 23), (fS 23), ["gaps"]⟩
theorem ok_law_typed : FnOK prog w (K P x os) F_law_typed 286 (o301 P) (fdOf (o301 P)) :=
  ⟨by rfl', rfl, rfl, rfl, rfl, rfl, rfl, .of_ok (by rfl'), rfl, rfl, by rfl', no_free (by rfl'), rfl, bind_plain ["letters", "number"] rfl rfl rfl rfl (by intro _ _; show _ = _; rfl')⟩
noncomputable def F_law_squares : Fn := ⟨["greats"], [none], none, none, stmtsOf (fB 24), (fS 24), ["squares"]⟩
theorem ok_law_squares : FnOK prog w (K P x os) F_law_squares 291 (o306 P) (fdOf (o306 P)) :=
  ⟨by rfl', rfl, rfl, rfl, rfl, rfl, rfl, .of_ok (by rfl'), rfl, rfl, by rfl', no_free (by rfl'), rfl, bind_plain ["greats"] rfl rfl rfl rfl (by intro _; show _ = _; rfl')⟩
noncomputable def F_law_even : Fn := ⟨["squares", "powers"], [none, none], none, none, stmtsOf (fB 25), (fS 25), []⟩
theorem ok_law_even : FnOK prog w (K P x os) F_law_even 298 (o315 P) (fdOf (o315 P)) :=
  ⟨by rfl', rfl, rfl, rfl, rfl, rfl, rfl, .of_ok (by rfl'), rfl, rfl, by rfl', no_free (by rfl'), rfl, bind_plain ["squares", "powers"] rfl rfl rfl rfl (by intro _ _; show _ = _; rfl')⟩
noncomputable def F_law : Fn := ⟨["script"], [none], none, none, stmtsOf (fB 26), (fS 26), ["gaps"]⟩
theorem ok_law : FnOK prog w (K P x os) F_law 303 (o320 P) (fdOf (o320 P)) :=
  ⟨by rfl', rfl, rfl, rfl, rfl, rfl, rfl, .of_ok (by rfl'), rfl, rfl, by rfl', no_free (by rfl'), rfl, bind_plain ["script"] rfl rfl rfl rfl (by intro _; show _ = _; rfl')⟩
noncomputable def F_H_init : Fn := ⟨["self", "headers"], [none, some (.d .none)], none, none, stmtsOf (cB 18 0), (cS 18 0), ["headers"]⟩
theorem ok_H_init : FnOK prog w (K P x os) F_H_init 154 (o167 P) (fdOf (o167 P)) :=
  ⟨by rfl', rfl, rfl, rfl, rfl, rfl, rfl, .of_ok (by rfl'), rfl, rfl, by rfl', no_free (by rfl'), rfl, bind_last (o := o160 P) (T := 147) (n := 0) ["self"] "headers" rfl rfl rfl rfl (by rfl') rfl rfl (by intro _ _; exact ⟨_, rfl, rfl⟩) (by intro _; exact ⟨_, rfl, rfl⟩)⟩
noncomputable def F_Hconvert_string_type : Fn := ⟨["self", "value"], [none, none], some "name", none, stmtsOf (cB 18 1), (cS 18 1), []⟩
theorem ok_Hconvert_string_type : FnOK prog w (K P x os) F_Hconvert_string_type 161 (o174 P) (fdOf (o174 P)) :=
  ⟨by rfl', rfl, rfl, rfl, rfl, rfl, rfl, .of_ok (by rfl'), rfl, rfl, by rfl', no_free (by rfl'), rfl, bind_kwo ["self", "value"] "name" rfl rfl rfl (by intro _ _ _; show _ = _; rfl')⟩
noncomputable def F_H_contains : Fn := ⟨["self", "name"], [none, none], none, none, stmtsOf (cB 18 6), (cS 18 6), []⟩
theorem ok_H_contains : FnOK prog w (K P x os) F_H_contains 194 (o207 P) (fdOf (o207 P)) :=
  ⟨by rfl', rfl, rfl, rfl, rfl, rfl, rfl, .of_ok (by rfl'), rfl, rfl, by rfl', no_free (by rfl'), rfl, bind_plain ["self", "name"] rfl rfl rfl rfl (by intro _ _; show _ = _; rfl')⟩
noncomputable def F_H_get_all : Fn := ⟨["self", "name"], [none, none], none, none, stmtsOf (cB 18 7), (cS 18 7), []⟩
theorem ok_H_get_all : FnOK prog w (K P x os) F_H_get_all 199 (o212 P) (fdOf (o212 P)) :=
  ⟨by rfl', rfl, rfl, rfl, rfl, rfl, rfl, .of_ok (by rfl'), rfl, rfl, by rfl', no_free (by rfl'), rfl, bind_plain ["self", "name"] rfl rfl rfl rfl (by intro _ _; show _ = _; rfl')⟩
noncomputable def F_H_get : Fn := ⟨["self", "name", "default"], [none, none, some (.d .none)], none, none, stmtsOf (cB 18 8), (cS 18 8), []⟩
theorem ok_H_get : FnOK prog w (K P x os) F_H_get 207 (o220 P) (fdOf (o220 P)) :=
  ⟨by rfl', rfl, rfl, rfl, rfl, rfl, rfl, .of_ok (by rfl'), rfl, rfl, by rfl', no_free (by rfl'), rfl, bind_last (o := o213 P) (T := 200) (n := 0) ["self", "name"] "default" rfl rfl rfl rfl (by rfl') rfl rfl (by intro _ _ _; exact ⟨_, rfl, rfl⟩) (by intro _ _; exact ⟨_, rfl, rfl⟩)⟩
noncomputable def F_H_keys : Fn := ⟨["self"], [none], none, none, stmtsOf (cB 18 9), (cS 18 10), []⟩
theorem ok_H_keys : FnOK prog w (K P x os) F_H_keys 212 (o225 P) (fdOf (o225 P)) :=
  ⟨by rfl', rfl, rfl, rfl, rfl, rfl, rfl, .of_ok (by rfl'), rfl, rfl, by rfl', no_free (by rfl'), rfl, bind_plain ["self"] rfl rfl rfl rfl (by intro _; show _ = _; rfl')⟩
noncomputable def F_H_add_header : Fn := ⟨["self", "_name", "_value"], [none, none, none], none, some "_params", stmtsOf (cB 18 16), (cS 18 16), ["parts"]⟩
theorem ok_H_add_header : FnOK prog w (K P x os) F_H_add_header 257 (o270 P) (fdOf (o270 P)) :=
  ⟨by rfl', rfl, rfl, rfl, rfl, rfl, rfl, .of_ok (by rfl'), rfl, rfl, by rfl', no_free (by rfl'), rfl, bind_dct ["self", "_name", "_value"] "_params" rfl rfl rfl rfl (by intro _ _ _; show _ = _; rfl')⟩
noncomputable def F_in_table_b1 : Fn := ⟨["code"], [none], none, none, stmtsOf (fB 4), (fS 4), []⟩
theorem ok_in_table_b1 : FnOK prog w (K P x os) F_in_table_b1 56 (o61 P) (fdOf (o61 P)) :=
  ⟨by rfl', rfl, rfl, rfl, rfl, rfl, rfl, .of_ok (by rfl'), rfl, rfl, by rfl', no_free (by rfl'), rfl, bind_plain ["code"] rfl rfl rfl rfl (by intro _; show _ = _; rfl')⟩
noncomputable def F_map_table_b3 : Fn := ⟨["code"], [none], none, none, stmtsOf (fB 6), (fS 6), []⟩
theorem ok_map_table_b3 : FnOK prog w (K P x os) F_map_table_b3 102 (o110 P) (fdOf (o110 P)) :=
  ⟨by rfl', rfl, rfl, rfl, rfl, rfl, rfl, .of_ok (by rfl'), rfl, rfl, by rfl', no_free (by rfl'), rfl, bind_plain ["code"] rfl rfl rfl rfl (by intro _; show _ = _; rfl')⟩
noncomputable def tab : Tab := [("_substitution_cost", 109, F_substitution_cost), ("_levenshtein_distance", 116, F_levenshtein_distance), ("_law_noise", 271, F_law_noise), ("_law_forms", 276, F_law_forms), ("_law_letters", 281, F_law_letters), ("_law_typed", 286, F_law_typed), ("_law_squares", 291, F_law_squares), ("_law_even", 298, F_law_even), ("law", 303, F_law), ("Headers.__init__", 154, F_H_init), ("Headers._convert_string_type", 161, F_Hconvert_string_type), ("Headers.__contains__", 194, F_H_contains), ("Headers.get_all", 199, F_H_get_all), ("Headers.get", 207, F_H_get), ("Headers.keys", 212, F_H_keys), ("Headers.add_header", 257, F_H_add_header)]
theorem tl (m : Str) (h : (builtinLookup "object" m).isSome = true) : ∃ y, typeLookup (.type "object") m = pure y := by
  obtain ⟨r, hr⟩ := Option.isSome_iff_exists.mp h
  exact ⟨r, by rw [typeLookup_type, hr]⟩
theorem tab_ok : AllM (fun r => RowOK prog w (K P x os) r.1 r.2.1 r.2.2) tab := ⟨.fn ⟨_, _, ok_substitution_cost P x os⟩ (by rfl') (by rfl'), .fn ⟨_, _, ok_levenshtein_distance P x os⟩ (by rfl') (by rfl'), .fn ⟨_, _, ok_law_noise P x os⟩ (by rfl') (by rfl'), .fn ⟨_, _, ok_law_forms P x os⟩ (by rfl') (by rfl'), .fn ⟨_, _, ok_law_letters P x os⟩ (by rfl') (by rfl'), .fn ⟨_, _, ok_law_typed P x os⟩ (by rfl') (by rfl'), .fn ⟨_, _, ok_law_squares P x os⟩ (by rfl') (by rfl'), .fn ⟨_, _, ok_law_even P x os⟩ (by rfl') (by rfl'), .fn ⟨_, _, ok_law P x os⟩ (by rfl') (by rfl'), .me "__init__" ⟨_, _, ok_H_init P x os⟩ (by rfl') (by rfl') (by rfl') (by decide +kernel) (tl _ (by rw [builtinLookup_eq_fast]; rfl')), .me "_convert_string_type" ⟨_, _, ok_Hconvert_string_type P x os⟩ (by rfl') (by rfl') (by rfl') (by decide +kernel) (tl _ (by rw [builtinLookup_eq_fast]; rfl')), .me "__contains__" ⟨_, _, ok_H_contains P x os⟩ (by rfl') (by rfl') (by rfl') (by decide +kernel) (tl _ (by rw [builtinLookup_eq_fast]; rfl')), .me "get_all" ⟨_, _, ok_H_get_all P x os⟩ (by rfl') (by rfl') (by rfl') (by decide +kernel) (tl _ (by rw [builtinLookup_eq_fast]; rfl')), .me "get" ⟨_, _, ok_H_get P x os⟩ (by rfl') (by rfl') (by rfl') (by decide +kernel) (tl _ (by rw [builtinLookup_eq_fast]; rfl')), .me "keys" ⟨_, _, ok_H_keys P x os⟩ (by rfl') (by rfl') (by rfl') (by decide +kernel) (tl _ (by rw [builtinLookup_eq_fast]; rfl')), .me "add_header" ⟨_, _, ok_H_add_header P x os⟩ (by rfl') (by rfl') (by rfl') (by decide +kernel) (tl _ (by rw [builtinLookup_eq_fast]; rfl')), trivial⟩
noncomputable def globs : List (Str × V) := [("_MAX_STRING_SIZE", .d (.int 40)), ("_MOVE_COST", .d (.int 2)), ("_CASE_COST", .d (.int 1)), ("_name_disallowed_re", .pat true), ("_value_disallowed_re", .pat false), ("bool", .ty "bool"), ("str", .ty "str"), ("list", .ty "list")]
noncomputable def b1I : List (Int × Tok) := [(65024, 307), (65025, 308), (65026, 309), (65027, 310), (65028, 311), (65029, 312), (6150, 293), (65030, 313), (65031, 314), (65032, 315), (65033, 316), (6155, 294), (6156, 295), (6157, 296), (8203, 297), (8204, 298), (8205, 299), (65034, 317), (65035, 318), (65036, 319), (65037, 320), (65038, 321), (65039, 322), (173, 291), (847, 292), (8288, 300), (65279, 301)]
noncomputable def prim1 (x : PyData) : Option PyData := (str? x).bind fun s => one (strL s) fun c => some (.bool (b1I.any fun p => p.1 == c))
noncomputable def prim3 (x : PyData) : Option PyData := (str? x).bind fun s => one (strL s) fun c => some (.str ((b3L.lookup (c : Int)).getD (Txt.lower s)))
noncomputable def prims (f : Str) : Option (PyData → Option PyData) := bif f == ("in_table_b1" : Str) then some prim1 else bif f == ("map_table_b3" : Str) then some prim3 else none
noncomputable def G0 : Env' := ⟨fun x => globs.lookup x, fnT tab, fun _ => none⟩
noncomputable def G : Env' := ⟨fun x => globs.lookup x, fnT tab, prims⟩
theorem globs_ok : AllM (GlobOK (K P x os)) globs := ⟨⟨.int 40 2319, .inl (by rfl'), rfl, fun _ => ⟨_, rfl⟩⟩, ⟨.int 2 2321, .inl (by rfl'), rfl, fun _ => ⟨_, rfl⟩⟩, ⟨.int 1 2323, .inl (by rfl'), rfl, fun _ => ⟨_, rfl⟩⟩, ⟨.ref 126, .inl (by rfl'), rfl, fun _ => rfl⟩, ⟨.ref 131, .inl (by rfl'), rfl, fun _ => rfl⟩,
  ⟨.type "bool", .inr ⟨by rfl', by rfl'⟩, rfl, fun _ => rfl⟩, ⟨.type "str", .inr ⟨by rfl', by rfl'⟩, rfl, fun _ => rfl⟩, ⟨.type "list", .inr ⟨by rfl', by rfl'⟩, rfl, fun _ => rfl⟩, trivial⟩
theorem bui_ok : AllM (fun p => (K P x os).gm p.1 = none ∧ (K P x os).bm p.1 = some p.2.val) bTab := ⟨⟨by rfl', by rfl'⟩, ⟨by rfl', by rfl'⟩, ⟨by rfl', by rfl'⟩, ⟨by rfl', by rfl'⟩, ⟨by rfl', by rfl'⟩, ⟨by rfl', by rfl'⟩, ⟨by rfl', by rfl'⟩, ⟨by rfl', by rfl'⟩, ⟨by rfl', by rfl'⟩, ⟨by rfl', by rfl'⟩, ⟨by rfl', by rfl'⟩, trivial⟩
theorem pat_ok : ∀ b, PatOK (hp P x) ((K P x os).pa b) (if b then nameCode else valueCode)
  | true => .mk (o := o135 P) (oc := o134 P) (by rfl') rfl rfl rfl rfl (by rfl') rfl (by rfl') rfl
  | false => .mk (o := o142 P) (oc := o141 P) (by rfl') rfl rfl rfl rfl (by rfl') rfl (by rfl') rfl
theorem wdOf {f : Str → Option (PyData → Option PyData)} (hf : ∀ {n g}, f n = some g → ∃ a o fd, (K P x os).gm n = some (.ref a) ∧ (K P x os).h₀.get? a = some o ∧ o.data = .func fd ∧ ∀ {x' y}, g x' = some y → Prim pw w (K P x os) a x' y) : Wd pw w (K P x os) ⟨fun x => globs.lookup x, fnT tab, f⟩ (faT tab) where
  N := ⟨.of_isNs (by rfl'), .of_isNs (by rfl'), fun x v e => (globs_ok P _ os).lk e⟩
  D := ⟨.of_ok (by rfl'), fun e => (fnT_at (tab_ok (prog := pw) (w := w) P x os) e).fd⟩
  fnName := fun e n => (fnT_at (tab_ok (prog := pw) (w := w) P x os) e).gm n
  co := fun k f => f 259 (sS "Headers") (sS "Headers") [.type "object"] [] [] none none none none (some (vS "Headers" 2459)) (some (vS "Headers" 2467)) (some (.bool true)) (k _ _ (by rfl')) (Heap.Ns.keeps (.of_isNs (by rfl')) k)
  nga := by rfl'
  ngx := by rfl'
  nsa := by rfl'
  nhd := by rfl'
  meth := fun e => (fnT_at (tab_ok (prog := pw) (w := w) P x os) e).meth
  clsName := by rfl'
  pat := pat_ok P x os
  prim := fun e => let ⟨a, o, fd, h1, h2, h3, h4⟩ := hf e; ⟨a, o, fd, h1, h2, h3, fun e => (h4 e).run⟩
  bui := fun e => (bui_ok P x os).lk e
  sysm := ⟨o1 P, by rfl', fun ep h => absurd (congrArg (fun d => match d with | .dict es _ => es.size | _ => 0) h) (show ¬ (3 : Nat) = 0 by decide)⟩
  zip := ⟨by rfl', by rfl'⟩
theorem mkS_of {s : Str} {l : List Nat} (h : strL s = l) : s = mkS l := h ▸ (mkS_strL s).symm
noncomputable def bc (c : Nat) : List (Str × V) := [("code", .d (.str (mkS [c])))]
noncomputable def s1 (c : Nat) (o : Mine.Objs) : Mine.St := ⟨[("code", some (.d (.str (mkS [c]))))], o⟩
noncomputable def s2 (c : Nat) (r : Option V) (o : Mine.Objs) : Mine.St := ⟨[("code", some (.d (.str (mkS [c])))), ("r", r)], o⟩
theorem prim1_ok {d y : PyData} (h : prim1 d = some y) : Prim pw w (K P x os) 56 d y := by
  obtain ⟨s, hs, h⟩ := Option.bind_eq_some_iff.mp h
  cases d with
  | str s' =>
    obtain rfl : s' = s := Option.some.inj hs
    obtain ⟨c, q, rfl⟩ : ∃ c : Nat, strL s' = [c] ∧ PyData.bool (b1I.any fun p => p.1 == (c : Int)) = y := Hd.one (P := (· = y)) (.of h rfl) fun c q e => ⟨c, q, e⟩
    rw [mkS_of q]
    exact prim_set (c := (c : Int)) (d := .str (mkS [c])) (wdOf P x os (f := fun _ => none) nofun) (ok_in_table_b1 (prog := pw) (w := w) P x os) rfl (by rfl') (by rfl') (fun o => Hd.of (a := bc c) (by rfl') (Hd.of (a := s1 c o) (by rfl') (Hd.of (a := (V.d (.int c), s1 c o)) (by rfl') ⟨rfl, rfl⟩))) (b := 46) (by rfl')
      fun h k => setOf_of (m := 27) b1I (k _ _ (show (hp P x).get? 46 = some (o49 P) by rfl')) ⟨rfl, rfl, rfl⟩ rfl (by rfl') (by decide +kernel) (by rfl') (by rfl')
  | _ => cases hs
theorem prim3_ok {es : List DictEntry} {ep : Nat} (hx : x 0 = dObj es ep) (hE : Ents b3L es) {d y : PyData} (h : prim3 d = some y) : Prim pw w (K P x os) 102 d y := by
  have hM : ∀ h : Heap, Up (K P x os).h₀ h → h.MapOf (intKind pw w) 57 (fun k => findBy (intKind pw w).is es.toArray k) := fun h k => mapOf_of (k _ _ ((Heap.get?_eq_some (hp P x) 57 (dObj es ep)).mpr ⟨(show (hp P x).objs[57]? = some (x 0) by rfl').trans (congrArg some hx), rfl⟩)) hE
  obtain ⟨s, hs, h⟩ := Option.bind_eq_some_iff.mp h
  cases d with
  | str s' =>
    obtain rfl : s' = s := Option.some.inj hs
    obtain ⟨c, q, rfl⟩ : ∃ c : Nat, strL s' = [c] ∧ PyData.str ((b3L.lookup (c : Int)).getD (Txt.lower s')) = y := Hd.one (P := (· = y)) (.of h rfl) fun c q e => ⟨c, q, e⟩
    rw [mkS_of q]
    have key := ents_find (prog := pw) (w := w) hE (c : Int)
    have go := fun (z y : PyData) => prim_dict (z := z) (y := y) (c := (c : Int)) (d := .str (mkS [c])) (b := 57) (wdOf P x os (f := fun _ => none) nofun) (ok_map_table_b3 (prog := pw) (w := w) P x os) rfl (by rfl') (by rfl') (by rfl')
    generalize b3L.lookup (c : Int) = v at key
    cases v with
    | none => exact go .none _ (fun o => Hd.of (a := bc c) (by rfl') (Hd.of (a := s2 c none o) (by rfl') (Hd.of (a := (V.d (.int c), s2 c none o)) (by rfl') ⟨rfl, Hd.of (a := s2 c (some (.d .none)) o) (by rfl') (Hd.of (a := (Fl.ret (.d (.str (Txt.lower (mkS [c])))), s2 c (some (.d .none)) o)) (by rfl') ⟨rfl, rfl⟩)⟩))) (by rfl') (by rfl') hM (by rw [show findBy (intKind pw w).is es.toArray c = none from key]; exact rfl)
    | some v =>
      obtain ⟨t, key⟩ := key
      exact go (.str v) _ (fun o => Hd.of (a := bc c) (by rfl') (Hd.of (a := s2 c none o) (by rfl') (Hd.of (a := (V.d (.int c), s2 c none o)) (by rfl') ⟨rfl, Hd.of (a := s2 c (some (.d (.str v))) o) (by rfl') (Hd.of (a := (Fl.ret (.d (.str v)), s2 c (some (.d (.str v))) o)) (by rfl') ⟨rfl, rfl⟩)⟩))) (by rfl') (by rfl') hM (by rw [key]; exact ⟨t, rfl⟩)
  | _ => cases hs
theorem wd {es : List DictEntry} {ep : Nat} (hx : x 0 = dObj es ep) (hE : Ents b3L es) : Wd pw w (K P x os) G (faT tab) := wdOf P x os fun {f g} e => by
  unfold prims at e
  cases q : f == ("in_table_b1" : Str) with
  | true => obtain rfl := eq_of_beq q; cases e; exact ⟨56, o61 P, _, by rfl', by rfl', rfl, prim1_ok P x os⟩
  | false =>
    rw [q] at e
    cases q : f == ("map_table_b3" : Str) with
    | true => obtain rfl := eq_of_beq q; cases e; exact ⟨102, o110 P, _, by rfl', by rfl', rfl, prim3_ok P x os hx hE⟩
    | false => rw [q] at e; cases e
end
end V03
end
section
namespace V03
open PySem PySem.W PyProof.Rows Mine H03
theorem ints_rds {F : Addr → Obj → Prop} {vs : List Value} {ns : List Int} (h : IntsAre vs ns) : Rds F (ns.map .int) vs := by
  induction h with
  | nil => rfl
  | cons i t r ih => exact Rds.cons ⟨_, rfl⟩ ih
theorem top_call {w : World} {s₀ s₁ : Shared} {mg : Str → Option Value} {ns : List Int} {l : Addr} {items : Array Value} {a : Addr} (hlaw : Hd ((fs G 169).call "law" [.d (.list (ns.map .int))] [] []) fun r => r.1 = .d (.bool true)) (hY : Y w s₀) (keeps : ∀ b o, s₀.heap.get? b = some o → s₁.heap.get? b = some o) (hg : s₁.gens = #[])
    (hn : s₁.heap.Ns mainGlobals mg) (hmg : mg "law" = some (.ref a)) (hL : s₁.heap.IsList l items) (hI : IntsAre items.toList ns) {Q : Value → Shared → Prop} {E : Value → Shared → Prop}
    (h : ∀ s', (∀ b o, s₁.heap.get? b = some o → s'.heap.get? b = some o) → s'.os = s₁.os → s'.gens = #[] → Q (.bool true) s') : wpAny (model pw w) callerA (PySem.call (.ref a) [.ref l]) Q E s₁ := by
  obtain ⟨x, es, ep, os, hx, hE, rfl⟩ := hY
  have h1 : (hp w.params x).Ns mainGlobals (K w.params x os).gm := .of_isNs (by rfl')
  have h4 : (K w.params x os).gm "law" = some (.ref 303) := by rfl'
  rw [hn.eq_nsMap.trans (h1.keeps keeps).eq_nsMap.symm, h4] at hmg
  obtain rfl : 303 = a := Value.ref.inj (Option.some.inj hmg)
  have R0 : RelW (K w.params x s₁.os) [] ⟨fun _ => .fz, fun _ => 0⟩ s₁ := ⟨fun e => ⟨rfl, keeps _ _ e⟩, fun n => absurd rfl n, hg, rfl, ⟨nofun, nofun⟩⟩
  obtain ⟨ol, ho, hc, n, hd⟩ := hL
  exact SC.call0 (sound (wd w.params x s₁.os hx hE) 169).call hlaw ⟨rfl, by decide, by decide⟩ R0 ⟨rfl, ⟨rfl, ⟨rfl, ho⟩, hc, hd, ints_rds hI⟩, rfl, fun _ q => q.elim⟩ fun r val ρ' s' e WS rv nv => by
    rw [e] at rv
    cases (rv : val = _)
    exact h s' (fun b ob e => (WS.mv.keep b ob e fun q => q.elim id id).2.2 trivial) WS.rel.os WS.rel.gens
end V03
end
section
open PySem PySem.W PyProof.Rows
namespace Mine
noncomputable def ovs (L : List (Str × V)) (σ : Str → Option V) (x : Str) : Option V := (L.lookup x).elim (σ x) some
noncomputable def S (N : List Str) (L : List (Str × V)) (σ : Str → Option V) (o : Objs) : St := ⟨N.map fun x => (x, ovs L σ x), o⟩
noncomputable def sq : Stmt → List Expr × List Stmt × List Stmt
  | .Assign ts e _ => (e :: ts, [], [])
  | .AugAssign t _ e _ => ([e, t], [], [])
  | .Return e _ => (e.toList, [], [])
  | .If t a b _ => ([t], a, b)
  | .While t b o _ => ([t], b, o)
  | .For t e b o _ => ([e, t], b, o)
  | .Expr e _ => ([e], [], [])
  | _ => ([], [], [])
noncomputable def kids : Expr → List Expr
  | .BinOp l _ r _ => [l, r]
  | .UnaryOp _ x _ => [x]
  | .BoolOp _ es _ => es
  | .IfExp t a b _ => [t, a, b]
  | .Compare l _ es _ => l :: es
  | .List es _ => es
  | .Tuple es _ _ => es
  | .Subscript v i _ => [v, i]
  | .Slice a b c _ => a.toList ++ b.toList ++ c.toList
  | .Attribute o _ _ => [o]
  | .Call g args _ _ => g :: args
  | .ListComp e gs _ _ => e :: (gs.map fun g => [g.iter, g.target] ++ g.ifs).flatten
  | _ => []
noncomputable def e0 : Expr := .Name ⟨#[]⟩ default
noncomputable def kd (e : Expr) (i : Nat) : Expr := ((kids e)[i]?).getD e0
noncomputable def st' (B : List Stmt) (k : Nat) : Stmt := (B[k]?).getD (.Pass default)
noncomputable def sE (B : List Stmt) (k i : Nat) : Expr := ((sq (st' B k)).1[i]?).getD e0
noncomputable def sB (B : List Stmt) (k : Nat) : List Stmt := (sq (st' B k)).2.1
noncomputable def sO (B : List Stmt) (k : Nat) : List Stmt := (sq (st' B k)).2.2
noncomputable def nmE (e : Expr) : Str := (nameE e).getD ⟨#[]⟩
noncomputable def nmS (B : List Stmt) (k : Nat) : Str := nmE (sE B k 1)
noncomputable def opE : Expr → Operator | .BinOp _ op _ _ => op | _ => .Add
noncomputable def gnE : Expr → List Comprehension × Scope | .ListComp _ gs sc _ => (gs, sc) | _ => ([], ⟨.module, [], false, false, []⟩)
section
variable {G : Env'} {n : Nat} {C : Cx} {o o' : Objs} {v : V} {st st1 st2 : St} {e : Expr}
theorem x_bin {a b} (h0 : ev G (n + 1) C e st = evBin (fs G n) C (kd e 0) (opE e) (kd e 1) st) (h1 : ev G n C (kd e 0) st = some (a, st)) (h2 : ev G n C (kd e 1) st = some (b, st)) (hv : binop st.objs (opE e) a b = some v) : ev G (n + 1) C e st = some (v, st) := by
  rw [h0]; show (ev G n C (kd e 0) st).bind _ = _
  rw [h1]; show (ev G n C (kd e 1) st).bind _ = _
  rw [h2]; show (binop st.objs (opE e) a b).map _ = _
  rw [hv]; rfl
theorem evs1 {f : Expr → St → Option (V × St)} (h : f e st = some (v, st)) : evs f [e] st = some ([v], st) := by
  show (f e st).bind _ = _
  rw [h]; rfl
theorem evs_c {f : Expr → St → Option (V × St)} {es vs} (h : f e st = some (v, st)) (h2 : evs f es st = some (vs, st)) : evs f (e :: es) st = some (v :: vs, st) := by
  show (f e st).bind _ = _
  rw [h]; show (evs f es st).map _ = _
  rw [h2]; rfl
theorem x_list {vs xs} (h0 : ev G (n + 1) C e st = evList (fs G n) C (kids e) st) (h : evs (ev G n C) (kids e) st = some (vs, st)) (hl : decide (vs.length ≤ maxLen) = true) (hx : rd0s vs = some xs) : ev G (n + 1) C e st = some (.fl xs, st) := by
  rw [h0]; show (evs (ev G n C) (kids e) st).bind _ = _
  rw [h]; show gd (decide (vs.length ≤ maxLen)) _ = _
  rw [hl]; show (rd0s vs).map _ = _
  rw [hx]; rfl
theorem x_item {w j} (h0 : ev G (n + 1) C e st = evItem (fs G n) C (kd e 0) (kd e 1) st) (h1 : ev G n C (kd e 0) st = some (w, st)) (h2 : ev G n C (kd e 1) st = some (.d (.int j), st)) (hv : itemV st.objs w j = some v) : ev G (n + 1) C e st = some (v, st) := by
  rw [h0]; show (ev G n C (kd e 0) st).bind _ = _
  rw [h1]; show (ev G n C (kd e 1) st).bind _ = _
  rw [h2]; show (itemV st.objs w j).map _ = _
  rw [hv]; rfl
theorem part_s (h : ev G n C e st = some (v, st)) : evPart (fs G n) C (some e) st = some (some v, st) := by
  show (ev G n C e st).map _ = _
  rw [h]; rfl
theorem x_slice {lo hi sp w l h s} (h0 : ev G (n + 1) C e st = evSlice (fs G n) C (kd e 0) lo hi sp st) (h1 : ev G n C (kd e 0) st = some (w, st)) (h2 : evPart (fs G n) C lo st = some (l, st)) (h3 : evPart (fs G n) C hi st = some (h, st)) (h4 : evPart (fs G n) C sp st = some (s, st)) (hv : sliceV st.objs w l h s = some v) : ev G (n + 1) C e st = some (v, st) := by
  rw [h0]; show (ev G n C (kd e 0) st).bind _ = _
  rw [h1]; show (evPart (fs G n) C lo st).bind _ = _
  rw [h2]; show (evPart (fs G n) C hi st).bind _ = _
  rw [h3]; show (evPart (fs G n) C sp st).bind _ = _
  rw [h4]; show (sliceV st.objs w l h s).map _ = _
  rw [hv]; rfl
theorem x_ife {r} (c : Bool) (h0 : ev G (n + 1) C e st = (tst G n C (kd e 0) st).bind fun p => bif p.1 then ev G n C (kd e 1) p.2 else ev G n C (kd e 2) p.2) (h : tst G n C (kd e 0) st = some (c, st)) (h1 : c = true → ev G n C (kd e 1) st = r) (h2 : c = false → ev G n C (kd e 2) st = r) : ev G (n + 1) C e st = r := by
  rw [h0, h]
  cases c
  · exact h2 rfl
  · exact h1 rfl
noncomputable def bn : Bf → Str
  | .len => "len" | .ord => "ord" | .chr => "chr" | .range => "range" | .list => "list" | .sum => "sum" | .min => "min" | .isinstance => "isinstance" | .int => "int" | .str => "str" | .type => "type"
theorem bn_lk (b : Bf) : bTab.lookup (bn b) = some b := by cases b <;> rfl'
theorem x_bui (b : Bf) {vs} (h0 : ev G (n + 1) C e st = evBui (fs G n) C (bn b) (kids e).tail st) (h : evs (ev G n C) (kids e).tail st = some (vs, st)) (hc : callB st.objs b vs = some v) : ev G (n + 1) C e st = some (v, st) := by
  rw [h0]; unfold evBui; rw [bn_lk]; show (evs (ev G n C) (kids e).tail st).bind _ = _
  rw [h]; show (callB st.objs b vs).map _ = _
  rw [hc]; rfl
theorem x_fn (f : Str) {vs} (h0 : ev G (n + 1) C e st = evFn (fs G n) C f (kids e).tail st) (h : evs (ev G n C) (kids e).tail st = some (vs, st)) (hc : call G n f vs [] st.objs = some (v, st.objs)) : ev G (n + 1) C e st = some (v, st) := by
  rw [h0]; show (evs (ev G n C) (kids e).tail st).bind _ = _
  rw [h]; show (call G n f vs [] st.objs).map _ = _
  rw [hc]; rfl
theorem i_val {it : It} (h0 : iter G (n + 1) C e st = iterV (fs G n) C e st) (h : ev G n C e st = some (v, st)) (hi : itIn st.objs v = some it) : iter G (n + 1) C e st = some (it, st) := by
  rw [h0]; show (ev G n C e st).bind _ = _
  rw [h]; show (itIn st.objs v).map _ = _
  rw [hi]; rfl
theorem t_val {c} (h0 : tst G (n + 1) C e st = tstV (fs G n) C e st) (h : ev G n C e st = some (v, st)) (hc : truthV st.objs v = some c) : tst G (n + 1) C e st = some (c, st) := by
  rw [h0]; show (ev G n C e st).bind _ = _
  rw [h]; show (truthV st.objs v).map _ = _
  rw [hc]; rfl
theorem t_cmp (op : CmpOp) {a b c} (h0 : tst G (n + 1) C e st = (ev G n C (kd e 0) st).bind fun p => evChain (ev G n C) p.1 [op] [kd e 1] p.2) (h1 : ev G n C (kd e 0) st = some (a, st)) (h2 : ev G n C (kd e 1) st = some (b, st)) (hc : cmpop st.objs op a b = some c) : tst G (n + 1) C e st = some (c, st) := by
  rw [h0, h1]; show (ev G n C (kd e 1) st).bind _ = _
  rw [h2]; show (cmpop st.objs op a b).bind _ = _
  rw [hc]; rfl
theorem t_not {c} (h0 : tst G (n + 1) C e st = (tst G n C (kd e 0) st).map fun p => (!p.1, p.2)) (h : tst G n C (kd e 0) st = some (c, st)) : tst G (n + 1) C e st = some (!c, st) := by rw [h0, h]; rfl
theorem a_1 {t : Expr → St → Option (Bool × St)} {c} (h : t e st = some (c, st)) : evAnd t [e] st = some (c, st) := by
  show (t e st).bind _ = _
  rw [h]; cases c <;> rfl
theorem a_c {t : Expr → St → Option (Bool × St)} {es c d} (h : t e st = some (c, st)) (h2 : c = true → evAnd t es st = some (d, st)) : evAnd t (e :: es) st = some (c && d, st) := by
  show (t e st).bind _ = _
  rw [h]
  cases c
  · rfl
  · exact h2 rfl
theorem o_1 {t : Expr → St → Option (Bool × St)} {c} (h : t e st = some (c, st)) : evOr t [e] st = some (c, st) := by
  show (t e st).bind _ = _
  rw [h]; cases c <;> rfl
theorem o_c {t : Expr → St → Option (Bool × St)} {es c d} (h : t e st = some (c, st)) (h2 : c = false → evOr t es st = some (d, st)) : evOr t (e :: es) st = some (c || d, st) := by
  show (t e st).bind _ = _
  rw [h]
  cases c
  · exact h2 rfl
  · rfl
theorem gd_t {α : Type} {b : Bool} {x : Option α} (h : b = true) : gd b x = x := by subst h; rfl
noncomputable def Nx (G : Env') (n : Nat) (C : Cx) (ss : List Stmt) (P : Fl × St → Prop) (p : Fl × St) : Prop := Hd (bif p.1.isNext then exs (ex G n C) ss p.2 else some p) P
variable {P : Fl × St → Prop} {B ss : List Stmt} {k : Nat}
theorem Nx.z {f : Option (Fl × St)} (h : f = some (.next, st)) (k : Hd (exs (ex G n C) ss st) P) : Hd f (Nx G n C ss P) := .of h k
theorem Nx.y {f : Option (Fl × St)} (h : f = some (.next, st)) (h0 : ss = []) (k : P (.next, st)) : Hd f (Nx G n C ss P) := .of h (by subst h0; exact k)
theorem Nx.i (h : Hd (exs (ex G n C) ss st) P) : Nx G n C ss P (.next, st) := h
theorem Nx.r (h : P (.ret v, st)) : Nx G n C ss P (.ret v, st) := h
theorem exs_app {f : Stmt → St → Option (Fl × St)} : ∀ (a b : List Stmt) {st : St}, exs f a st = some (.next, st1) → exs f (a ++ b) st = exs f b st1
  | [], b, st, h => by cases (h : some (Fl.next, st) = _); rfl
  | s :: a, b, st, h => Hd.get (x := f s st) (P := fun p => (bif p.1.isNext then exs f a p.2 else some p) = some (.next, st1)) (by cases q : f s st with | none => exact absurd ((congrArg (fun z => z.bind fun p => bif p.1.isNext then exs f a p.2 else some p) q).symm.trans h) nofun | some p => exact (congrArg (fun z => z.bind fun p => bif p.1.isNext then exs f a p.2 else some p) q).symm.trans h) fun p hp h => by
    show (f s st).bind (fun p => bif p.1.isNext then exs f (a ++ b) p.2 else some p) = _
    rw [hp]
    show (bif p.1.isNext then exs f (a ++ b) p.2 else some p) = _
    cases q : p.1.isNext with
    | true => rw [q] at h; exact exs_app a b h
    | false => rw [q] at h; cases h; cases q
theorem Ks (m : Nat) (st1 : St) (h : exs (ex G n C) ((B.drop k).take m) st = some (.next, st1)) (h2 : Hd (exs (ex G n C) (B.drop (k + m)) st1) P) : Hd (exs (ex G n C) (B.drop k) st) P := by
  rw [← List.take_append_drop m (B.drop k), exs_app _ _ h, List.drop_drop]; exact h2
theorem A (v : V) (st2 : St) (h0 : exs (ex G (n + 2) C) (B.drop k) st = ((ev G (n + 1) C (sE B k 0) st).bind fun p => (bindN C (nmS B k) p.1 p.2).map fun st => (Fl.next, st)).bind fun p => bif p.1.isNext then exs (ex G (n + 2) C) (B.drop (k + 1)) p.2 else some p)
    (h : ev G (n + 1) C (sE B k 0) st = some (v, st1)) (hb : bindN C (nmS B k) v st1 = some st2) (h2 : Hd (exs (ex G (n + 2) C) (B.drop (k + 1)) st2) P) : Hd (exs (ex G (n + 2) C) (B.drop k) st) P := by
  rw [h0, h]; show Hd (((bindN C (nmS B k) v st1).map _).bind _) P
  rw [hb]; exact h2
theorem AT {st2 : St} (v : V) (h0 : exs (ex G (n + 2) C) (B.drop k) st = ((ev G (n + 1) C (sE B k 0) st).bind fun p => (bind G (n + 1) C (sE B k 1) p.1 p.2).map fun st => (Fl.next, st)).bind fun p => bif p.1.isNext then exs (ex G (n + 2) C) (B.drop (k + 1)) p.2 else some p)
    (h : ev G (n + 1) C (sE B k 0) st = some (v, st1)) (hb : bind G (n + 1) C (sE B k 1) v st1 = some st2) (h2 : Hd (exs (ex G (n + 2) C) (B.drop (k + 1)) st2) P) : Hd (exs (ex G (n + 2) C) (B.drop k) st) P := by
  rw [h0, h]; show Hd (((bind G (n + 1) C (sE B k 1) v st1).map _).bind _) P
  rw [hb]; exact h2
theorem AD {st2 : St} (i : Int) (h0 : exs (ex G (n + 2) C) (B.drop k) st = ((ev G (n + 1) C (sE B k 0) st).bind fun p => (asI p.1).bind fun i => (bind G (n + 1) C (sE B k 1) (.d (.int i)) p.2).bind fun st => (bind G (n + 1) C (sE B k 2) (.d (.int i)) st).map fun st => (Fl.next, st)).bind fun p => bif p.1.isNext then exs (ex G (n + 2) C) (B.drop (k + 1)) p.2 else some p)
    (h : ev G (n + 1) C (sE B k 0) st = some (.d (.int i), st)) (hb : ((bind G (n + 1) C (sE B k 1) (.d (.int i)) st).bind fun st => (bind G (n + 1) C (sE B k 2) (.d (.int i)) st).map fun st => (Fl.next, st)) = some (.next, st2)) (h2 : Hd (exs (ex G (n + 2) C) (B.drop (k + 1)) st2) P) : Hd (exs (ex G (n + 2) C) (B.drop k) st) P := by
  rw [h0, h]; show Hd (Option.bind ((bind G (n + 1) C (sE B k 1) (.d (.int i)) st).bind _) _) P
  rw [hb]; exact h2
theorem b_sub {i j : Nat} {xs : List PyData} {x : PyData} (h0 : bind G (n + 1) C e v st = (ev G n C (kd e 0) st).bind fun p => p.1.hl?.bind fun k => (ev G n C (kd e 1) p.2).bind fun q => (asI q.1).bind fun i => (rd0 v).bind fun x => (listAt q.2.objs k).bind fun xs =>
      gd (decide (0 ≤ i)) ((idx? i xs.length).map fun j => setCell k (.list (xs.set j x)) q.2)) (h1 : ev G n C (kd e 0) st = some (.hl i, st)) (h2 : ev G n C (kd e 1) st = some (.d (.int j), st)) (hx : rd0 v = some x) (hl : listAt st.objs i = some xs) (hj : idx? j xs.length = some j) : bind G (n + 1) C e v st = some (setCell i (.list (xs.set j x)) st) := by
  rw [h0, h1]; show (ev G n C (kd e 1) st).bind _ = _
  rw [h2]; show (rd0 v).bind _ = _
  rw [hx]; show (listAt st.objs i).bind _ = _
  rw [hl]; show gd (decide (0 ≤ (j : Int))) ((idx? (j : Int) xs.length).map _) = _
  rw [gd_t (decide_eq_true (Int.natCast_nonneg j)), hj]; rfl
theorem AP {i : Nat} {xs : List PyData} {x : PyData} (h0 : exs (ex G (n + 2) C) (B.drop k) st = ((evMeth (fs G n) C (.hl i) "append" [kd (sE B k 0) 1] [] st).map fun p => (Fl.next, p.2)).bind fun p => bif p.1.isNext then exs (ex G (n + 2) C) (B.drop (k + 1)) p.2 else some p)
    (hl : listAt st.objs i = some xs) (h : ev G n C (kd (sE B k 0) 1) st = some (v, st)) (hx : rd0 v = some x) (hn : decide (xs.length < maxLen) = true) (h2 : Hd (exs (ex G (n + 2) C) (B.drop (k + 1)) (setCell i (.list (xs ++ [x])) st)) P) : Hd (exs (ex G (n + 2) C) (B.drop k) st) P := by
  rw [h0, show evMeth (fs G n) C (.hl i) "append" [kd (sE B k 0) 1] [] st = some (.d .none, setCell i (.list (xs ++ [x])) st) from ?_]
  · exact h2
  show gd (true && (listAt st.objs i).isSome) ((evs (ev G n C) [kd (sE B k 0) 1] st).bind _) = _
  rw [hl, evs1 h]; show (rd0 v).bind _ = _
  rw [hx]; show (listAt st.objs i).bind _ = _
  rw [hl]; show gd (decide (xs.length < maxLen)) _ = _
  rw [gd_t hn]
theorem R (h0 : exs (ex G (n + 1) C) (B.drop k) st = ((ev G n C (sE B k 0) st).map fun p => (Fl.ret p.1, p.2)).bind fun p => bif p.1.isNext then exs (ex G (n + 1) C) (B.drop (k + 1)) p.2 else some p) (h : ev G n C (sE B k 0) st = some (v, st1)) (h2 : P (.ret v, st1)) : Hd (exs (ex G (n + 1) C) (B.drop k) st) P := by
  rw [h0, h]; exact h2
theorem I (c : Bool) (h0 : exs (ex G (n + 1) C) (B.drop k) st = ((tst G n C (sE B k 0) st).bind fun p => bif p.1 then exs (ex G n C) (sB B k) p.2 else exs (ex G n C) (sO B k) p.2).bind fun p => bif p.1.isNext then exs (ex G (n + 1) C) (B.drop (k + 1)) p.2 else some p)
    (h : tst G n C (sE B k 0) st = some (c, st)) (h1 : c = true → Hd (exs (ex G n C) ((sB B k).drop 0) st) (Nx G (n + 1) C (B.drop (k + 1)) P)) (h2 : c = false → Hd (exs (ex G n C) ((sO B k).drop 0) st) (Nx G (n + 1) C (B.drop (k + 1)) P)) : Hd (exs (ex G (n + 1) C) (B.drop k) st) P := by
  rw [h0, h]
  cases c
  · exact (h2 rfl).get fun p hp h => by show Hd ((exs (ex G n C) (sO B k) st).bind _) P; rw [show exs (ex G n C) (sO B k) st = some p from hp]; exact h
  · exact (h1 rfl).get fun p hp h => by show Hd ((exs (ex G n C) (sB B k) st).bind _) P; rw [show exs (ex G n C) (sB B k) st = some p from hp]; exact h
theorem IR (c : Bool) (h0 : exs (ex G (n + 1) C) (B.drop k) st = ((tst G n C (sE B k 0) st).bind fun p => bif p.1 then exs (ex G n C) (sB B k) p.2 else exs (ex G n C) [] p.2).bind fun p => bif p.1.isNext then exs (ex G (n + 1) C) (B.drop (k + 1)) p.2 else some p)
    (h : tst G n C (sE B k 0) st = some (c, st)) (h1 : c = true → Hd (exs (ex G n C) ((sB B k).drop 0) st) (Nx G (n + 1) C (B.drop (k + 1)) P)) (h2 : c = false → Hd (exs (ex G (n + 1) C) (B.drop (k + 1)) st) P) : Hd (exs (ex G (n + 1) C) (B.drop k) st) P := by
  rw [h0, h]
  cases c
  · exact h2 rfl
  · exact (h1 rfl).get fun p hp h => by show Hd ((exs (ex G n C) (sB B k) st).bind _) P; rw [show exs (ex G n C) (sB B k) st = some p from hp]; exact h
noncomputable def fstF (c : Nat → Bool) : Nat → Nat → Nat
  | 0, j => j
  | m + 1, j => bif c j then fstF c m (j + 1) else j
theorem w_count {t : St → Option (Bool × St)} {f : St → Option (Fl × St)} (I : Nat → St → Prop) (c : Nat → Bool) (ht : ∀ k st, I k st → t st = some (c k, st)) (hb : ∀ k st, c k = true → I k st → Hd (f st) fun p => p.1 = .next ∧ I (k + 1) p.2) :
    ∀ (m j fuel : Nat) (st : St), c (j + m) = false → m < fuel → I j st → (∀ st, I (fstF c m j) st → P (.next, st)) → Hd (whileL t f fuel st) P
  | m, j, 0, st, _, hf, _, _ => absurd hf (Nat.not_lt_zero m)
  | 0, j, fuel + 1, st, hc, hf, hI, k => by
    show Hd ((t st).bind _) P
    rw [ht j st hI, show c j = false from hc]; exact k st hI
  | m + 1, j, fuel + 1, st, hc, hf, hI, k => by
    have k' : ∀ st, I (bif c j then fstF c m (j + 1) else j) st → P (.next, st) := k
    show Hd ((t st).bind _) P
    rw [ht j st hI]
    cases q : c j with
    | false => rw [q] at k'; exact k' st hI
    | true =>
      rw [q] at k'
      refine (hb j st q hI).get fun p hp ⟨e, hI⟩ => ?_
      show Hd ((f st).bind _) P
      rw [hp]
      obtain ⟨fl, st'⟩ := p
      cases (e : fl = .next)
      exact w_count I c ht hb m (j + 1) fuel st' (Nat.succ_add_eq_add_succ j m ▸ hc) (Nat.lt_of_succ_lt_succ hf) hI k'
theorem f_all {b : PyData → St → Option St} {f : St → Option (Fl × St)} {it : It} {xs : List PyData} (I : Nat → St → Prop) (hit : ∀ j st, I j st → nextIt st.objs j it = some xs[j]?)
    (hb : ∀ j x st, xs[j]? = some x → I j st → Hd (b x st) fun st => Hd (f st) fun p => (p.1 = .next ∧ I (j + 1) p.2) ∨ (∃ v, p.1 = .ret v) ∧ P p) (k : ∀ st, I xs.length st → P (.next, st)) :
    ∀ (m j fuel : Nat) (st : St), j + m = xs.length → m < fuel → I j st → Hd (forL b f it fuel j st) P
  | m, j, 0, st, _, hf, _ => absurd hf (Nat.not_lt_zero m)
  | 0, j, fuel + 1, st, hj, hf, hI => by
    obtain rfl : j = xs.length := hj
    show Hd ((nextIt st.objs xs.length it).bind _) P
    rw [hit _ st hI, List.getElem?_eq_none (Nat.le_refl _)]
    exact k st hI
  | m + 1, j, fuel + 1, st, hj, hf, hI => by
    have lt : j < xs.length := hj ▸ Nat.lt_add_of_pos_right (Nat.succ_pos m)
    show Hd ((nextIt st.objs j it).bind _) P
    rw [hit j st hI, List.getElem?_eq_getElem lt]
    show Hd ((b xs[j] st).bind _) P
    refine (hb j _ st (List.getElem?_eq_getElem lt) hI).get fun st1 h1 h => h.get fun p hp h => ?_
    rw [h1]; show Hd ((f st1).bind _) P
    rw [hp]
    obtain ⟨fl, st'⟩ := p
    rcases h with ⟨e, hI⟩ | ⟨⟨v, e⟩, h⟩
    · cases (e : fl = .next)
      exact f_all I hit hb k m (j + 1) fuel st' ((Nat.succ_add_eq_add_succ j m).trans hj) (Nat.lt_of_succ_lt_succ hf) hI
    · cases (e : fl = .ret v)
      exact h
theorem FO {N : List Str} (J : Nat → Prop) (m : Nat) (el : Nat → PyData) (L L1 : Nat → List (Str × V)) (O : Nat → Objs) (h0 : ∀ st, exs (ex G (n + 1) C) (B.drop k) st = ((iter G n C (sE B k 0) st).bind fun p => gd (okTarget p.1 (sE B k 1)) (forL (fun x st => bind G n C (sE B k 1) (.d x) st) (exs (ex G n C) (sB B k)) p.1 loopFuel 0 p.2)).bind fun p => bif p.1.isNext then exs (ex G (n + 1) C) (B.drop (k + 1)) p.2 else some p)
    (hi : iter G n C (sE B k 0) st = some (.vals ((List.range m).map el), st)) (hl : decide (m ≤ maxLen) = true) {σ : Str → Option V} (hs : st = S N (L 0) σ (O 0)) (hJ : J 0) (hb : ∀ j σ, j < m → bind G n C (sE B k 1) (.d (el j)) (S N (L j) σ (O j)) = some (S N (L1 j) σ (O j)))
    (hf : ∀ j σ, j < m → J j → Hd (exs (ex G n C) ((sB B k).drop 0) (S N (L1 j) σ (O j))) fun p => (p.1 = .next ∧ J (j + 1) ∧ ∃ σ', p.2 = S N (L (j + 1)) σ' (O (j + 1))) ∨ (∃ v, p.1 = .ret v) ∧ P p) (h2 : ∀ σ, J m → Hd (exs (ex G (n + 1) C) (B.drop (k + 1)) (S N (L m) σ (O m))) P) : Hd (exs (ex G (n + 1) C) (B.drop k) st) P := by
  rw [h0, hi]
  have e : ((List.range m).map el).length = m := (List.length_map ..).trans List.length_range
  have q : Hd (forL (fun x st => bind G n C (sE B k 1) (.d x) st) (exs (ex G n C) (sB B k)) (.vals ((List.range m).map el)) loopFuel 0 st) (Nx G (n + 1) C (B.drop (k + 1)) P) := f_all (fun j st => J j ∧ ∃ σ, st = S N (L j) σ (O j)) (fun _ _ _ => rfl)
    (fun j x st hx hI => by
      obtain ⟨hJ, σ, rfl⟩ := hI
      obtain ⟨a, ha, rfl⟩ := Option.map_eq_some_iff.mp (List.getElem?_map.symm.trans hx)
      have lt : j < m := List.length_range (n := m) ▸ (List.getElem?_eq_some_iff.mp ha).1
      rw [List.getElem?_range lt] at ha
      cases ha
      exact .of (hb j σ lt) ((hf j σ lt hJ).get fun p hp h => .of hp (h.imp_right fun ⟨⟨v, e⟩, h⟩ => ⟨⟨v, e⟩, by obtain ⟨f, s⟩ := p; cases (e : f = .ret v); exact h⟩)))
    (fun st ⟨hJ, σ, hI⟩ => by rw [e] at hI hJ; cases hI; exact h2 σ hJ) m 0 loopFuel st ((Nat.zero_add m).trans e.symm) (Nat.lt_succ_of_le (of_decide_eq_true hl)) ⟨hJ, σ, hs⟩
  show Hd ((gd true _).bind _) P
  exact q.get fun p hp h => by rw [gd_t rfl, hp]; exact h
theorem WH (h0 : exs (ex G (n + 1) C) (B.drop k) st = (whileL (tst G n C (sE B k 0)) (exs (ex G n C) (sB B k)) whileFuel st).bind fun p => bif p.1.isNext then exs (ex G (n + 1) C) (B.drop (k + 1)) p.2 else some p) (h : Hd (whileL (tst G n C (sE B k 0)) (exs (ex G n C) (sB B k)) whileFuel st) (Nx G (n + 1) C (B.drop (k + 1)) P)) : Hd (exs (ex G (n + 1) C) (B.drop k) st) P := by
  rw [h0]; exact h.get fun p hp h => by rw [hp]; exact h
theorem c_call {f : Str} {F : Fn} {vs : List V} {ks : List (Str × V)} {P : V × Objs → Prop} (st : St) (h0 : call G (n + 1) f vs ks o = (exs (ex G n ⟨F.scope, F.mv⟩) (F.body.drop 0) st).bind fun p => p.1.val.map fun v => (v, p.2.objs)) (h : Hd (exs (ex G n ⟨F.scope, F.mv⟩) (F.body.drop 0) st) fun p => Hd (p.1.val.map fun v => (v, p.2.objs)) P) : Hd (call G (n + 1) f vs ks o) P := by
  rw [h0]; exact h.get fun p hp h => by rw [hp]; exact h
theorem c_all {α : Type} {l : List α} {φ : α → PyData} {c : α → Bool} {ψ : α → PyData} {f : PyData → St → List PyData → Option (List PyData × St)} (I : St → Prop) (hf : ∀ x st acc, x ∈ l → I st → acc.length < maxLen → Hd (f (φ x) st acc) fun q => q.1 = acc ++ (bif c x then [ψ x] else []) ∧ I q.2) :
    ∀ (r : List α) (j fuel : Nat) (st : St) (acc : List PyData), l.drop j = r → r.length < fuel → acc.length + r.length ≤ maxLen → I st → Hd (compL f (.vals (l.map φ)) fuel j st acc) fun q => q.1 = acc ++ (r.filter c).map ψ ∧ I q.2
  | _, _, 0, _, _, _, h, _, _ => absurd h (Nat.not_lt_zero _)
  | [], j, fuel + 1, st, acc, hr, _, _, hI => by
    show Hd ((some (l.map φ)[j]?).bind _) _
    rw [List.getElem?_map, show l[j]? = none from List.getElem?_drop.symm.trans (congrArg (·[0]?) hr)]
    exact ⟨(List.append_nil acc).symm, hI⟩
  | x :: r, j, fuel + 1, st, acc, hr, h, ha, hI => by
    have hx : l[j]? = some x := List.getElem?_drop.symm.trans (congrArg (·[0]?) hr)
    show Hd ((some (l.map φ)[j]?).bind _) _
    rw [List.getElem?_map, hx]
    show Hd ((f (φ x) st acc).bind _) _
    refine (hf x st acc (List.mem_of_getElem? hx) hI (Nat.lt_of_lt_of_le (Nat.lt_add_of_pos_right (Nat.succ_pos _)) ha)).get fun p hp ⟨e, hI⟩ => ?_
    rw [hp]
    refine (c_all I hf r (j + 1) fuel p.2 p.1 (List.drop_drop.symm.trans (congrArg (List.drop 1) hr)) (Nat.lt_of_succ_lt_succ h) ?_ hI).get fun q hq ⟨e2, hI⟩ => .of hq ⟨?_, hI⟩
    · rw [e]
      cases c x <;> simp <;> simp at ha <;> omega
    · rw [e2, e, List.filter_cons]
      cases c x <;> simp
theorem x_filt {α : Type} {N : List Str} {e : Expr} (l : List α) (φ : α → PyData) (c : α → Bool) (w : α → V) (ψ : α → PyData) (L : List (Str × V)) (L1 : α → List (Str × V)) (σ : Str → Option V)
    (h0 : ev G (n + 3) C e st = ((iter G (n + 2) C (kd e 1) st).bind fun p => gd (compOk C (gnE e).2 p.2.vars) ((gd (okTarget p.1 (kd e 2)) (compL (fun x st acc => (bind G (n + 1) ⟨(gnE e).2, []⟩ (kd e 2) (.d x) st).bind fun st => (evAnd (tst G (n + 1) ⟨(gnE e).2, []⟩) ((kids e).drop 3) st).bind fun p => bif p.1 then ((ev G (n + 1) ⟨(gnE e).2, []⟩ (kd e 0) p.2).bind fun p => (rd0 p.1).bind fun y => gd (decide (acc.length < maxLen)) (some (acc ++ [y], p.2))) else some (acc, p.2)) p.1 loopFuel 0
        ⟨((localNames (gnE e).2).map fun x => (x, none)) ++ p.2.vars.filter (fun x => freeIn (gnE e).2 x.1), p.2.objs⟩ [])).bind fun q => gd (decide (q.1.length ≤ maxLen)) (some (.fl q.1, ⟨p.2.vars, q.2.objs⟩)))))
    (hi : iter G (n + 2) C (kd e 1) st = some (.vals (l.map φ), st)) (hk : compOk C (gnE e).2 st.vars = true) (hl : decide (l.length ≤ 1000) = true) (hs : (⟨((localNames (gnE e).2).map fun x => (x, none)) ++ st.vars.filter (fun x => freeIn (gnE e).2 x.1), st.objs⟩ : St) = S N L σ st.objs)
    (hb : ∀ x σ, x ∈ l → bind G (n + 1) ⟨(gnE e).2, []⟩ (kd e 2) (.d (φ x)) (S N L σ st.objs) = some (S N (L1 x) σ st.objs)) (hw : ∀ x σ, S N (L1 x) σ st.objs = S N L (ovs (L1 x) σ) st.objs)
    (ht : ∀ x σ, x ∈ l → evAnd (tst G (n + 1) ⟨(gnE e).2, []⟩) ((kids e).drop 3) (S N (L1 x) σ st.objs) = some (c x, S N (L1 x) σ st.objs)) (he : ∀ x σ, x ∈ l → c x = true → ev G (n + 1) ⟨(gnE e).2, []⟩ (kd e 0) (S N (L1 x) σ st.objs) = some (w x, S N (L1 x) σ st.objs)) (hr : ∀ x, x ∈ l → rd0 (w x) = some (ψ x)) :
    ev G (n + 3) C e st = some (.fl ((l.filter c).map ψ), st) := by
  rw [h0, hi]
  show gd (compOk C (gnE e).2 st.vars) ((gd true _).bind _) = _
  rw [hk, hs]
  generalize hz : compL _ _ _ _ _ _ = z
  have H : Hd z fun q => q.1 = [] ++ (l.filter c).map ψ ∧ ∃ σ, q.2 = S N L σ st.objs := by
    rw [← hz]
    refine c_all (fun st' => ∃ σ, st' = S N L σ st.objs) (fun x s acc hx hI hl => ?_) l 0 loopFuel _ [] rfl (Nat.lt_succ_of_le (Nat.le_trans (of_decide_eq_true hl) (by decide))) (by rw [List.length_nil, Nat.zero_add]; exact Nat.le_trans (of_decide_eq_true hl) (by decide)) ⟨σ, rfl⟩
    obtain ⟨σ, rfl⟩ := hI
    show Hd ((bind _ _ _ _ _ (S N L σ st.objs)).bind _) _
    rw [hb x σ hx]
    show Hd ((evAnd _ _ (S N (L1 x) σ st.objs)).bind _) _
    rw [ht x σ hx]
    cases q : c x with
    | false => exact ⟨(List.append_nil _).symm, _, hw x σ⟩
    | true =>
      show Hd ((ev _ _ _ _ (S N (L1 x) σ st.objs)).bind _) _
      rw [he x σ hx q]; show Hd ((rd0 (w x)).bind _) _
      rw [hr x hx]; show Hd (gd (decide (acc.length < maxLen)) _) _
      rw [decide_eq_true hl]
      exact ⟨rfl, _, hw x σ⟩
  exact H.get fun q hq ⟨e, σ', h⟩ => by
    rw [gd_t rfl, hq]
    show gd (decide (q.1.length ≤ maxLen)) (some (V.fl q.1, (⟨st.vars, q.2.objs⟩ : St))) = _
    rw [e, h]
    exact gd_t (decide_eq_true (show ([] ++ (l.filter c).map ψ).length ≤ maxLen by rw [List.nil_append, List.length_map]; exact Nat.le_trans (List.length_filter_le ..) (Nat.le_trans (of_decide_eq_true hl) (by decide))))
end
end Mine
end
section
open PySem PySem.W PyProof.Rows Mine V03
namespace L1
noncomputable def tx (l : List Nat) : V := .d (.str (mkS l))
noncomputable def ii (i : Int) : V := .d (.int i)
noncomputable def z0 : Str → Option V := fun _ => none
noncomputable def Cf (F : Fn) : Cx := ⟨F.scope, F.mv⟩
theorem maxL {n : Nat} (h : n ≤ 1000) : decide (n ≤ maxLen) = true := decide_eq_true (Nat.le_trans h (by decide))
theorem clamp_nat {k n : Nat} : clampI (k : Int) n = min k n := by unfold clampI; rw [if_neg (Int.not_lt.mpr (Int.natCast_nonneg k))]; omega
theorem clamp_neg {k n : Nat} : clampI (.negSucc k) n = n - (k + 1) := by unfold clampI; rw [if_pos (Int.negSucc_lt_zero k)]; omega
section
variable {o : Objs} {l : List Nat} {k : Nat}
theorem drop_min : l.drop (min k l.length) = l.drop k := by
  rcases Nat.le_total k l.length with h | h
  · rw [Nat.min_eq_left h]
  · rw [Nat.min_eq_right h, List.drop_of_length_le h, List.drop_length]
theorem sl_from (hl : l.length ≤ 1000) : sliceV o (tx l) (some (ii k)) none none = some (tx (l.drop k)) := by
  show gd (decide (l.length ≤ maxLen)) (some (tx ((l.drop (clampI k l.length)).take (l.length - clampI k l.length)))) = _
  rw [maxL hl, clamp_nat, drop_min, List.take_of_length_le (by rw [← drop_min, List.length_drop]; exact Nat.le_refl _)]; rfl
noncomputable def orN : Nat → V
  | 0 => .d .none
  | k + 1 => ii (.negSucc k)
theorem sl_to (hl : l.length ≤ 1000) : sliceV o (tx l) none (some (orN k)) none = some (tx (l.take (l.length - k))) := by
  cases k with
  | zero => exact gd_t (maxL hl)
  | succ k =>
    show gd (decide (l.length ≤ maxLen)) (some (tx (l.take (clampI (.negSucc k) l.length - 0)))) = _
    rw [maxL hl, clamp_neg]; rfl
theorem tr_tx (hl : l.length ≤ 1000) : truthV o (tx l) = some (l.length != 0) := gd_t (maxL hl)
theorem sub_ne {n : Nat} {α : Type} {r : Option α} (h1 : r = none → n ≤ k) (h2 : ∀ x, r = some x → k < n) : some (n - k != 0) = some r.isSome := by
  cases r with
  | none => rw [Nat.sub_eq_zero_of_le (h1 rfl)]; rfl
  | some x => exact congrArg some (bne_iff_ne.mpr (Nat.sub_ne_zero_of_lt (h2 x rfl)))
theorem tr_drop (hl : l.length ≤ 1000) : truthV o (tx (l.drop k)) = some (l[k]?).isSome := by
  rw [tr_tx (Nat.le_trans (List.length_drop ▸ Nat.sub_le ..) hl), List.length_drop]
  exact sub_ne List.getElem?_eq_none_iff.mp fun x h => (List.getElem?_eq_some_iff.mp h).1
theorem tr_take (hl : l.length ≤ 1000) : truthV o (tx (l.take (l.length - k))) = some (l.reverse[k]?).isSome := by
  rw [tr_tx (Nat.le_trans (List.length_take_le' ..) hl), List.length_take, Nat.min_eq_left (Nat.sub_le ..)]
  exact sub_ne (fun h => List.length_reverse (as := l) ▸ List.getElem?_eq_none_iff.mp h) fun x h => List.length_reverse (as := l) ▸ (List.getElem?_eq_some_iff.mp h).1
theorem idx_nat {n : Nat} (h : k < n) (hn : n ≤ 1000) : idx? (k : Int) n = some k := by
  show gd (decide (n ≤ maxLen)) (bif decide (0 ≤ (k : Int)) then gd (decide ((k : Int) < n)) (some k) else _) = _
  rw [maxL hn, decide_eq_true (Int.natCast_nonneg k)]
  exact gd_t (decide_eq_true (Int.ofNat_lt.mpr h))
theorem idx_neg {n : Nat} (h : k < n) (hn : n ≤ 1000) : idx? (.negSucc k) n = some (n - 1 - k) := by
  show gd (decide (n ≤ maxLen)) (gd (decide (-(n : Int) ≤ .negSucc k)) (some (Int.negSucc k + n).toNat)) = _
  rw [maxL hn, show (Int.negSucc k + (n : Int)).toNat = n - 1 - k by omega]
  exact gd_t (decide_eq_true (by omega))
theorem it_tx {c : Nat} (h : l[k]? = some c) (hl : l.length ≤ 1000) : itemV o (tx l) (k : Int) = some (tx [c]) := by
  show (idx? (k : Int) l.length).bind _ = _
  rw [idx_nat (List.getElem?_eq_some_iff.mp h).1 hl]; show (l[k]?).map _ = _
  rw [h]; rfl
theorem it_txn {c : Nat} (h : l.reverse[k]? = some c) (hl : l.length ≤ 1000) : itemV o (tx l) (.negSucc k) = some (tx [c]) := by
  have lt : k < l.length := List.length_reverse (as := l) ▸ (List.getElem?_eq_some_iff.mp h).1
  rw [List.getElem?_reverse lt] at h
  show (idx? (.negSucc k) l.length).bind _ = _
  rw [idx_neg lt hl]; show (l[l.length - 1 - k]?).map _ = _
  rw [h]; rfl
theorem it_hl {i : Nat} {xs : List PyData} {x : PyData} (hl : listAt o i = some xs) (h : xs[k]? = some x) (hn : xs.length ≤ 1000) : itemV o (.hl i) (k : Int) = some (.d x) := by
  show (((listAt o i).map PyData.list).bind lst?).bind _ = _
  rw [hl]; show (idx? (k : Int) xs.length).bind _ = _
  rw [idx_nat (List.getElem?_eq_some_iff.mp h).1 hn]; show (xs[k]?).map _ = _
  rw [h]; rfl
theorem len_tx (hl : l.length ≤ 1000) : callB o .len [tx l] = some (ii l.length) := gd_t (maxL hl)
theorem len_fl {xs : List PyData} (hl : xs.length ≤ 1000) : callB o .len [.d (.list xs)] = some (ii xs.length) := gd_t (maxL hl)
end
theorem rangeSize_mul {lo st : Int} {k : Nat} (hst : 1 ≤ st) : Builtin.Range.rangeSize lo (lo + k * st) st = k := by
  unfold Builtin.Range.rangeSize
  rw [if_pos (by omega)]
  cases k with
  | zero => rw [if_neg (by simp)]; rfl
  | succ k =>
    have h : 0 < ((k + 1 : Nat) : Int) * st := Int.mul_pos (by omega) (by omega)
    have e : lo + ((k + 1 : Nat) : Int) * st - lo - 1 = (st - 1) + st * k := by rw [Int.natCast_succ, Int.add_mul, Int.mul_comm st]; omega
    rw [if_pos (by omega), e, Int.add_mul_ediv_left _ _ (by omega), Int.ediv_eq_zero_of_lt (by omega) (by omega)]
    omega
theorem range_gen {lo st : Int} {k : Nat} (hk : k ≤ 1000) (h1 : 1 ≤ st) (h2 : st ≤ 1000) (hlo : -1000000 ≤ lo ∧ lo ≤ 1000000) : rangeL lo (lo + k * st) st = some ((List.range k).map fun (i : Nat) => PyData.int (lo + i * st)) := by
  have b0 : 0 ≤ (k : Int) * st := Int.mul_nonneg (by omega) (by omega)
  have b1 : (k : Int) * st ≤ 1000 * 1000 := Int.mul_le_mul (by omega) h2 (by omega) (by omega)
  have b2 : st * ((k : Int) + 1) ≤ 1000 * 1001 := Int.mul_le_mul h2 (by omega) (by omega) (by omega)
  have hs : Builtin.Range.small lo (lo + k * st) st = true := by
    unfold Builtin.Range.small Builtin.Range.rangeFitsLong
    rw [rangeSize_mul h1]
    simp
    refine ⟨⟨⟨⟨by omega, by omega⟩, by omega⟩, by omega⟩, .inr ?_⟩
    rw [if_pos (by omega)]
    omega
  unfold rangeL
  rw [decide_eq_true (show st ≠ 0 by omega), hs, rangeSize_mul h1, decide_eq_true (show ((k : Int)) ≤ maxLen by show (k : Int) ≤ ((1000000 : Nat) : Int); omega)]
  rfl
theorem range_vals {k : Nat} (hk : k ≤ 1000) : rangeL 0 k 1 = some ((List.range k).map fun (i : Nat) => PyData.int i) := by
  have := range_gen (lo := 0) (st := 1) hk (by decide) (by decide) ⟨by decide, by decide⟩
  simpa using this
theorem mulV {o : Objs} {x y : Int} (h : (i64 x || i64 y) = true) : binop o .Mult (ii x) (ii y) = some (ii (x * y)) := by
  show (gd (i64 x || i64 y) (some (x * y))).map _ = _
  rw [gd_t h]; rfl
noncomputable def low1 (c : Nat) : List Nat := strL (Txt.lower (mkS [c]))
noncomputable def costN (x y : Nat) : Int := bif [x] == [y] then 0 else bif low1 x == low1 y then 1 else 2
noncomputable def Ls (x y : Nat) : List (Str × V) := [("ch_a", tx [x]), ("ch_b", tx [y])]
noncomputable def Ns : List Str := ["ch_a", "ch_b"]
theorem sc (n x y : Nat) (o : Objs) : call G (n + 12) "_substitution_cost" [tx [x], tx [y]] [] o = some (ii (costN x y), o) := by
  refine Hd.get (c_call (F := F_substitution_cost) (P := (· = (ii (costN x y), o))) (S Ns (Ls x y) z0 o) (by rfl') (IR ([x] == [y]) (by rfl') (by rfl') (fun h => .of (a := (.ret (ii 0), S Ns (Ls x y) z0 o)) (by rfl') ?_) fun h => IR (low1 x == low1 y) (by rfl') (by rfl') (fun h2 => .of (a := (.ret (ii 1), S Ns (Ls x y) z0 o)) (by rfl') ?_) fun h2 => .of (a := (.ret (ii 2), S Ns (Ls x y) z0 o)) (by rfl') ?_)) fun _ e q => e.trans (congrArg some q)
  · exact congrArg (fun z => (ii z, o)) (show 0 = costN x y by unfold costN; rw [h]; rfl)
  · exact congrArg (fun z => (ii z, o)) (show 1 = costN x y by unfold costN; rw [h, h2]; rfl)
  · exact congrArg (fun z => (ii z, o)) (show 2 = costN x y by unfold costN; rw [h, h2]; rfl)
end L1
end
section
open PySem PySem.W Mine V03
namespace L1
section
variable {α β : Type}
noncomputable def eqA (e : α → β → Bool) (a : List α) (b : List β) (k : Nat) : Bool := (a[k]?).elim false fun x => (b[k]?).elim false fun y => e x y
noncomputable def preP (e : α → β → Bool) (a : List α) (b : List β) : Nat := fstF (eqA e a b) a.length 0
structure IS where
  row : List Int
  dist : Int
  res : Int
  mn : Int
noncomputable def minI (a b : Int) : Int := bif decide (b < a) then b else a
noncomputable def stepR (cs : List Int) (j : Nat) (s : IS) : Int := minI (minI s.res (s.row.getD j 0) + 2) (s.dist + cs.getD j 0)
noncomputable def stepI (cs : List Int) (j : Nat) (s : IS) : IS := ⟨s.row.set j (stepR cs j s), s.row.getD j 0, stepR cs j s, bif decide (stepR cs j s < s.mn) then stepR cs j s else s.mn⟩
noncomputable def innerI (cs : List Int) (s : IS) (j : Nat) : IS := Nat.rec s (fun j s => stepI cs j s) j
noncomputable def big : Int := 9223372036854775807
noncomputable def rowI (cs : List Int) (i : Nat) (row : List Int) : IS := innerI cs ⟨row, i * 2, i * 2, big⟩ cs.length
noncomputable def outerI (m : Int) : List (List Int) → Nat → List Int → Int → Int
  | [], _, _, res => res
  | cs :: rest, i, row, res => bif decide (m < (rowI cs i row).mn) then m + 1 else outerI m rest (i + 1) (rowI cs i row).row (rowI cs i row).res
noncomputable def tailP (c : β → α → Int) (a : List α) (b : List β) (m : Int) : Int :=
  bif decide (m < ((b.length : Int) - a.length) * 2) then m + 1 else outerI m (b.map fun y => a.map (c y)) 0 ((List.range a.length).map fun (i : Nat) => 2 + (i : Int) * 2) 0
noncomputable def coreP (c : β → α → Int) (c' : α → β → Int) (a : List α) (b : List β) (m : Int) : Int :=
  bif !(a.length != 0) || !(b.length != 0) then 2 * ((a.length : Int) + b.length)
  else bif decide ((40 : Int) < a.length) || decide ((40 : Int) < b.length) then m + 1
  else bif decide ((b.length : Int) < a.length) then tailP c' b a m else tailP c a b m
noncomputable def levP (e : α → β → Bool) (c : β → α → Int) (c' : α → β → Int) (a : List α) (b : List β) (m : Int) : Int :=
  coreP c c' ((a.drop (preP e a b)).take ((a.drop (preP e a b)).length - preP e (a.drop (preP e a b)).reverse (b.drop (preP e a b)).reverse))
    ((b.drop (preP e a b)).take ((b.drop (preP e a b)).length - preP e (a.drop (preP e a b)).reverse (b.drop (preP e a b)).reverse)) m
end
noncomputable def BL : List Stmt := F_levenshtein_distance.body
noncomputable def CL : Cx := Cf F_levenshtein_distance
noncomputable def NL : List Str := ["a", "b", "max_cost", "pre", "post", "row", "result", "bindex", "bchar", "distance", "minimum", "index", "substitute", "insert_delete"]
noncomputable def Lp (a b : List Nat) (m k : Int) : List (Str × V) := [("a", tx a), ("b", tx b), ("max_cost", ii m), ("pre", ii k)]
noncomputable def beqN (x y : Nat) : Bool := [x] == [y]
noncomputable def pN : Nat → Int
  | 0 => 0
  | k + 1 => .negSucc k
noncomputable def Lq (a b : List Nat) (m p q : Int) : List (Str × V) := [("a", tx a), ("b", tx b), ("max_cost", ii m), ("pre", ii p), ("post", ii q)]
noncomputable def cellI (l : List Int) : Cell := .list (l.map .int)
noncomputable def Li (o : Objs) (a b : List Nat) (m p q : Int) (y : Nat) (i : Int) (s : IS) : List (Str × V) := ("distance", ii s.dist) :: ("result", ii s.res) :: ("minimum", ii s.mn) :: ("bchar", tx [y]) :: ("bindex", ii i) :: ("row", .hl o.length) :: Lq a b m p q
noncomputable def BO : List Stmt := sB BL 15
noncomputable def BI : List Stmt := sB BO 3
noncomputable def Lb (o : Objs) (a b : List Nat) (m p q : Int) (y : Nat) (i : Int) (s : IS) (cs : List Int) (k : Nat) : List (Str × V) := ("insert_delete", ii (minI s.res (s.row.getD k 0) + 2)) :: ("substitute", ii (s.dist + cs.getD k 0)) :: ("index", ii k) :: Li o a b m p q y i ⟨s.row, s.row.getD k 0, stepR cs k s, s.mn⟩
noncomputable def PI (o : Objs) (a b : List Nat) (m p q : Int) (y : Nat) (i : Int) (P : Fl × St → Prop) (s : IS) : Prop := ∀ σ, P (.next, S NL (Li o a b m p q y i s) σ (o ++ [cellI s.row]))
theorem at_end {o : Objs} {xs : List PyData} : listAt (o ++ [.list xs]) o.length = some xs := by unfold listAt; rw [List.getElem?_append_right (Nat.le_refl _), Nat.sub_self]; rfl
theorem set_end {o : Objs} {c d : Cell} : (o ++ [c]).set o.length d = o ++ [d] := by rw [List.set_append_right _ _ (Nat.le_refl _), Nat.sub_self]; rfl
theorem inner_len (cs : List Int) (s : IS) : ∀ j, (innerI cs s j).row.length = s.row.length
  | 0 => rfl
  | j + 1 => List.length_set.trans (inner_len cs s j)
section
variable {n : Nat} {a b : List Nat} {m p q : Int} {o : Objs} {σ : Str → Option V} {k : Nat}
theorem lev2 (ha : a.length ≤ 1000) (hb : b.length ≤ 1000) : tst G (n + 20) CL (sE BL 2 0) (S NL (Lp a b m k) σ o) = some (eqA beqN a b k, S NL (Lp a b m k) σ o) := by
  refine (show _ = evAnd (tst G (n + 19) CL) [kd (sE BL 2 0) 0, kd (sE BL 2 0) 1, kd (sE BL 2 0) 2] (S NL (Lp a b m k) σ o) from (by rfl')).trans ?_
  have t1 : tst G (n + 19) CL (kd (sE BL 2 0) 0) (S NL (Lp a b m k) σ o) = some ((a[k]?).isSome, S NL (Lp a b m k) σ o) := t_val (by rfl') (x_slice (lo := some (.Name "pre" default)) (hi := none) (sp := none) (by rfl') (by rfl') (part_s (v := ii k) (by rfl')) (by rfl') (by rfl') (sl_from ha)) (tr_drop ha)
  have t2 : tst G (n + 19) CL (kd (sE BL 2 0) 1) (S NL (Lp a b m k) σ o) = some ((b[k]?).isSome, S NL (Lp a b m k) σ o) := t_val (by rfl') (x_slice (lo := some (.Name "pre" default)) (hi := none) (sp := none) (by rfl') (by rfl') (part_s (v := ii k) (by rfl')) (by rfl') (by rfl') (sl_from hb)) (tr_drop hb)
  unfold eqA
  cases h1 : a[k]? with
  | none => rw [h1] at t1; exact a_c (d := false) t1 nofun
  | some x =>
    rw [h1] at t1
    cases h2 : b[k]? with
    | none => rw [h2] at t2; exact a_c (c := true) (d := false) t1 fun _ => a_c (d := false) t2 nofun
    | some y => rw [h2] at t2; exact a_c (c := true) (d := beqN x y) t1 fun _ => a_c (c := true) (d := beqN x y) t2 fun _ => a_1 (t_cmp .Eq (by rfl') (x_item (by rfl') (by rfl') (by rfl') (it_tx h1 ha)) (x_item (by rfl') (by rfl') (by rfl') (it_tx h2 hb)) (by rfl'))
theorem po {e : Expr} (h : ∀ σ, ev G (n + 17) CL e (S NL (Lq a b m p 0) σ o) = some (.d .none, S NL (Lq a b m p 0) σ o)) (h' : ∀ k σ, ev G (n + 17) CL e (S NL (Lq a b m p (.negSucc k)) σ o) = some (ii (.negSucc k), S NL (Lq a b m p (.negSucc k)) σ o)) : ev G (n + 17) CL e (S NL (Lq a b m p (pN k)) σ o) = some (orN k, S NL (Lq a b m p (pN k)) σ o) := by
  cases k with
  | zero => exact h σ
  | succ k => exact h' k σ
theorem pm : pN k - 1 = .negSucc k := by cases k <;> rfl
theorem lev6 (ha : a.length ≤ 1000) (hb : b.length ≤ 1000) : tst G (n + 20) CL (sE BL 6 0) (S NL (Lq a b m p (pN k)) σ o) = some (eqA beqN a.reverse b.reverse k, S NL (Lq a b m p (pN k)) σ o) := by
  refine (show _ = evAnd (tst G (n + 19) CL) [kd (sE BL 6 0) 0, kd (sE BL 6 0) 1, kd (sE BL 6 0) 2] (S NL (Lq a b m p (pN k)) σ o) from (by rfl')).trans ?_
  have t1 : tst G (n + 19) CL (kd (sE BL 6 0) 0) (S NL (Lq a b m p (pN k)) σ o) = some ((a.reverse[k]?).isSome, S NL (Lq a b m p (pN k)) σ o) := t_val (by rfl') (x_slice (lo := none) (hi := some (kd (kd (kd (sE BL 6 0) 0) 1) 0)) (sp := none) (by rfl') (by rfl') (by rfl') (part_s (po (fun _ => (by rfl')) fun _ _ => (by rfl'))) (by rfl') (sl_to ha)) (tr_take ha)
  have t2 : tst G (n + 19) CL (kd (sE BL 6 0) 1) (S NL (Lq a b m p (pN k)) σ o) = some ((b.reverse[k]?).isSome, S NL (Lq a b m p (pN k)) σ o) := t_val (by rfl') (x_slice (lo := none) (hi := some (kd (kd (kd (sE BL 6 0) 1) 1) 0)) (sp := none) (by rfl') (by rfl') (by rfl') (part_s (po (fun _ => (by rfl')) fun _ _ => (by rfl'))) (by rfl') (sl_to hb)) (tr_take hb)
  unfold eqA
  cases h1 : a.reverse[k]? with
  | none => rw [h1] at t1; exact a_c (d := false) t1 nofun
  | some x =>
    rw [h1] at t1
    cases h2 : b.reverse[k]? with
    | none => rw [h2] at t2; exact a_c (c := true) (d := false) t1 fun _ => a_c (d := false) t2 nofun
    | some y => rw [h2] at t2; exact a_c (c := true) (d := beqN x y) t1 fun _ => a_c (c := true) (d := beqN x y) t2 fun _ => a_1 (t_cmp .Eq (by rfl') (x_item (j := pN k - 1) (by rfl') (by rfl') (by rfl') (pm ▸ it_txn h1 ha)) (x_item (j := pN k - 1) (by rfl') (by rfl') (by rfl') (pm ▸ it_txn h2 hb)) (by rfl'))
theorem inner_step {cs : List Int} {s : IS} {y x : Nat} {i : Int} {P : Fl × St → Prop} (hx : a[k]? = some x) (hc : cs.getD k 0 = costN y x) (ha : a.length ≤ 1000) (hr : s.row.length = a.length) (h : PI o a b m p q y i P (stepI cs k s)) :
    Hd (exs (ex G (n + 20) CL) (BI.drop 0) (S NL (("index", ii k) :: Li o a b m p q y i s) σ (o ++ [cellI s.row]))) P := by
  have lt := (List.getElem?_eq_some_iff.mp hx).1
  have hl : (s.row.map PyData.int).length = a.length := (List.length_map ..).trans hr
  have hi : (s.row.map PyData.int)[k]? = some (.int (s.row.getD k 0)) := by rw [List.getElem?_map, List.getD_eq_getElem?_getD, List.getElem?_eq_getElem (hr ▸ lt)]; rfl
  have hs {o} : call G (n + 17) "_substitution_cost" [tx [y], tx [x]] [] o = some (ii (cs.getD k 0), o) := by rw [hc]; exact sc _ y x o
  have e {c : Bool} (h : decide (stepR cs k s < s.mn) = c) : stepI cs k s = ⟨s.row.set k (stepR cs k s), s.row.getD k 0, stepR cs k s, bif c then stepR cs k s else s.mn⟩ := congrArg (fun c => IS.mk (s.row.set k (stepR cs k s)) (s.row.getD k 0) (stepR cs k s) (bif c then stepR cs k s else s.mn)) h
  refine A (ii (s.dist + cs.getD k 0)) (S NL (("substitute", ii (s.dist + cs.getD k 0)) :: ("index", ii k) :: Li o a b m p q y i s) σ (o ++ [cellI s.row])) (by rfl') (x_bin (a := ii s.dist) (by rfl') (by rfl') (x_fn "_substitution_cost" (by rfl') (evs_c (by rfl') (evs1 (x_item (by rfl') (by rfl') (by rfl') (it_tx hx ha)))) hs) (by rfl')) (by rfl')
    (A (ii (s.row.getD k 0)) (S NL (("distance", ii (s.row.getD k 0)) :: ("substitute", ii (s.dist + cs.getD k 0)) :: ("index", ii k) :: Li o a b m p q y i s) σ (o ++ [cellI s.row])) (by rfl') (x_item (w := .hl o.length) (by rfl') (by rfl') (by rfl') (it_hl at_end hi (hl ▸ ha))) (by rfl')
    (Ks 2 (S NL (Lb o a b m p q y i s cs k) σ (o ++ [cellI s.row])) (by rfl')
    (AT (st2 := S NL (Lb o a b m p q y i s cs k) σ (o ++ [cellI (s.row.set k (stepR cs k s))])) (ii (stepR cs k s)) (by rfl') (by rfl') ((b_sub (st := S NL (Lb o a b m p q y i s cs k) σ (o ++ [cellI s.row])) (i := o.length) (x := .int (stepR cs k s)) (by rfl') (by rfl') (by rfl') (by rfl') at_end (idx_nat (hl ▸ lt) (hl ▸ ha))).trans (congrArg (fun o' => some (S NL (Lb o a b m p q y i s cs k) σ o')) (set_end.trans (congrArg (fun l => o ++ [Cell.list l]) List.map_set.symm))))
    (I (decide (stepR cs k s < s.mn)) (by rfl') (by rfl') (fun h' => Nx.y (st := S NL (Li o a b m p q y i ⟨s.row.set k (stepR cs k s), s.row.getD k 0, stepR cs k s, stepR cs k s⟩) (ovs (Lb o a b m p q y i s cs k) σ) (o ++ [cellI (s.row.set k (stepR cs k s))])) (by rfl') (by rfl') ((show PI o a b m p q y i P ⟨_, _, _, _⟩ from e h' ▸ h) _))
      fun h' => Nx.y (st := S NL (Li o a b m p q y i ⟨s.row.set k (stepR cs k s), s.row.getD k 0, stepR cs k s, s.mn⟩) (ovs (Lb o a b m p q y i s cs k) σ) (o ++ [cellI (s.row.set k (stepR cs k s))])) (by rfl') (by rfl') ((show PI o a b m p q y i P ⟨_, _, _, _⟩ from e h' ▸ h) _)))))
end
end L1
end
section
open PySem PySem.W Mine V03
namespace L1
noncomputable def elI (j : Nat) : PyData := .int j
theorem it_rng {o : Objs} {m : Nat} (hm : m ≤ 1000) : itIn o (.rng 0 m 1) = some (.vals ((List.range m).map elI)) := (show itIn o (.rng 0 m 1) = (rangeL 0 m 1).map It.vals from (by rfl')).trans ((congrArg (Option.map It.vals) (range_vals hm)).trans (by rfl'))
theorem b_list {o : Objs} {lo hi s : Int} {xs : List PyData} (h : rangeL lo hi s = some xs) : callB o .list [.rng lo hi s] = some (.fl xs) := (show callB o .list [.rng lo hi s] = (rangeL lo hi s).map V.fl from (by rfl')).trans (congrArg (Option.map V.fl) h)
noncomputable def row0 (k : Nat) : List Int := (List.range k).map fun (i : Nat) => 2 + (i : Int) * 2
noncomputable def oS (cs : List (List Int)) (k : Nat) (j : Nat) : List Int × Int := Nat.rec (row0 k, 0) (fun j s => ((rowI (cs.getD j []) j s.1).row, (rowI (cs.getD j []) j s.1).res)) j
noncomputable def csO (a b : List Nat) : List (List Int) := b.map fun y => a.map (costN y)
noncomputable def Lo (o : Objs) (a b : List Nat) (m p q : Int) (j : Nat) : List (Str × V) := ("result", ii (oS (csO a b) a.length j).2) :: ("row", .hl o.length) :: Lq a b m p q
section
variable {n : Nat} {a b : List Nat} {m p q : Int} {o : Objs} {σ : Str → Option V} {k : Nat}
theorem oS_len {cs : List (List Int)} {k : Nat} : ∀ j, (oS cs k j).1.length = k
  | 0 => (List.length_map ..).trans List.length_range
  | j + 1 => (inner_len _ _ _).trans (oS_len j)
noncomputable def Pf (v : Int) (o : Objs) (r : Fl × St) : Prop := r.1 = .ret (ii v) ∧ ∃ j, r.2.objs = o ++ j
theorem outer_step {P : Fl × St → Prop} {y : Nat} {s : List Int × Int} (hy : b[k]? = some y) (ha : a.length ≤ 1000) (hb : b.length ≤ 1000) (hs : oS (csO a b) a.length k = s) (h1 : decide (m < (rowI (a.map (costN y)) k s.1).mn) = true → ∀ σ, P (.ret (ii (m + 1)), S NL (Li o a b m p q y k (rowI (a.map (costN y)) k s.1)) σ (o ++ [cellI (rowI (a.map (costN y)) k s.1).row])))
    (h2 : decide (m < (rowI (a.map (costN y)) k s.1).mn) = false → ∀ σ, P (.next, S NL (Li o a b m p q y k (rowI (a.map (costN y)) k s.1)) σ (o ++ [cellI (rowI (a.map (costN y)) k s.1).row]))) :
    Hd (exs (ex G (n + 30) CL) (BO.drop 0) (S NL (("bindex", ii k) :: Lo o a b m p q k) σ (o ++ [cellI s.1]))) P := by
  have hr : s.1.length = a.length := hs ▸ oS_len k
  have er : rowI (a.map (costN y)) k s.1 = innerI (a.map (costN y)) ⟨s.1, k * 2, k * 2, big⟩ a.length := congrArg (innerI _ _) (List.length_map ..)
  rw [er] at h1 h2
  refine A (tx [y]) (S NL (("bchar", tx [y]) :: ("bindex", ii k) :: Lo o a b m p q k) σ (o ++ [cellI s.1])) (by rfl') (x_item (by rfl') (by rfl') (by rfl') (it_tx hy hb)) (by rfl')
    (AD (k * 2) (by rfl') (x_bin (by rfl') (by rfl') (by rfl') (mulV (Bool.or_true _))) (st2 := S NL (("distance", ii (k * 2)) :: ("result", ii (k * 2)) :: ("bchar", tx [y]) :: ("bindex", ii k) :: Lo o a b m p q k) σ (o ++ [cellI s.1])) (by rfl') (Ks 1 (S NL (Li o a b m p q y k ⟨s.1, k * 2, k * 2, big⟩) σ (o ++ [cellI s.1])) (by rfl')
    (FO (fun _ => True) a.length elI (fun j => Li o a b m p q y k (innerI (a.map (costN y)) ⟨s.1, k * 2, k * 2, big⟩ j)) (fun j => ("index", ii j) :: Li o a b m p q y k (innerI (a.map (costN y)) ⟨s.1, k * 2, k * 2, big⟩ j)) (fun j => o ++ [cellI (innerI (a.map (costN y)) ⟨s.1, k * 2, k * 2, big⟩ j).row])
      (fun _ => (by rfl')) (i_val (by rfl') (x_bui .range (by rfl') (evs1 (x_bui .len (by rfl') (evs1 (by rfl')) (len_tx ha))) (by rfl')) (it_rng ha)) (maxL ha) (σ := σ) (by rfl') trivial (fun _ _ _ => (by rfl'))
      (fun j σ lt _ => inner_step (x := a[j]) (List.getElem?_eq_getElem lt) (by rw [List.getD_eq_getElem?_getD, List.getElem?_map, List.getElem?_eq_getElem lt]; rfl) ha ((inner_len _ _ _).trans hr) fun _ => .inl ⟨rfl, trivial, _, rfl⟩)
      fun σ _ => IR (decide (m < (innerI (a.map (costN y)) ⟨s.1, k * 2, k * 2, big⟩ a.length).mn)) (by rfl') (by rfl') (fun h => .of (a := (.ret (ii (m + 1)), S NL (Li o a b m p q y k (innerI (a.map (costN y)) ⟨s.1, k * 2, k * 2, big⟩ a.length)) σ (o ++ [cellI (innerI (a.map (costN y)) ⟨s.1, k * 2, k * 2, big⟩ a.length).row]))) (by rfl') (Nx.r (h1 h σ))) fun h => h2 h σ)))
theorem outer_all (ha : a.length ≤ 1000) (hb : b.length ≤ 1000) : Hd (exs (ex G (n + 33) CL) (BL.drop 12) (S NL (Lq a b m p q) σ o)) (Pf (tailP costN a b m) o) := by
  unfold tailP
  refine IR (decide (m < ((b.length : Int) - a.length) * 2)) (by rfl') (t_cmp (b := ii m) .Gt (by rfl') (x_bin (b := ii 2) (by rfl') (x_bin (v := ii ((b.length : Int) - a.length)) (by rfl') (x_bui .len (by rfl') (evs1 (by rfl')) (len_tx hb)) (x_bui .len (by rfl') (evs1 (by rfl')) (len_tx ha)) (by rfl')) (by rfl') (mulV (Bool.or_true _))) (by rfl') (by rfl')) (fun h => .of (a := (.ret (ii (m + 1)), S NL (Lq a b m p q) σ o)) (by rfl') (Nx.r ?_)) fun h => ?_
  · rw [h]; exact ⟨rfl, [], (List.append_nil o).symm⟩
  rw [h]
  have hr : rangeL 2 (2 * ((a.length : Int) + 1)) 2 = some ((row0 a.length).map PyData.int) := by
    rw [show (2 : Int) * ((a.length : Int) + 1) = 2 + a.length * 2 by omega, range_gen ha (by decide) (by decide) ⟨by decide, by decide⟩]
    exact congrArg some List.map_map.symm
  refine A (.fl ((row0 a.length).map PyData.int)) (S NL (("row", .hl o.length) :: Lq a b m p q) σ (o ++ [cellI (row0 a.length)])) (by rfl')
    (x_bui .list (by rfl') (evs1 (x_bui .range (vs := [ii 2, ii (2 * ((a.length : Int) + 1)), ii 2]) (by rfl') (evs_c (by rfl') (evs_c (x_bin (a := ii 2) (by rfl') (by rfl') (x_bin (b := ii 1) (v := ii ((a.length : Int) + 1)) (by rfl') (x_bui .len (by rfl') (evs1 (by rfl')) (len_tx ha)) (by rfl') (by rfl')) (mulV (by rfl'))) (evs1 (by rfl')))) (v := .rng 2 (2 * ((a.length : Int) + 1)) 2) (by rfl'))) (b_list hr)) (by rfl')
    (Ks 1 (S NL (Lo o a b m p q 0) σ (o ++ [cellI (row0 a.length)])) (by rfl')
    (FO (N := NL) (fun j => outerI m (csO a b) 0 (row0 a.length) 0 = outerI m ((csO a b).drop j) j (oS (csO a b) a.length j).1 (oS (csO a b) a.length j).2) b.length elI (Lo o a b m p q) (fun j => ("bindex", ii j) :: Lo o a b m p q j) (fun j => o ++ [cellI (oS (csO a b) a.length j).1])
      (fun _ => (by rfl')) (i_val (by rfl') (x_bui .range (by rfl') (evs1 (x_bui .len (by rfl') (evs1 (by rfl')) (len_tx hb))) (by rfl')) (it_rng hb)) (maxL hb) (σ := σ) (by rfl') rfl (fun _ _ _ => (by rfl'))
      (fun j σ lt hJ => ?_)
      fun σ hJ => .of (a := (.ret (ii (oS (csO a b) a.length b.length).2), S NL (Lo o a b m p q b.length) σ (o ++ [cellI (oS (csO a b) a.length b.length).1]))) (by rfl') ⟨congrArg (fun z => Fl.ret (ii z)) (hJ.trans ?_).symm, _, rfl⟩))
  · have lc : (csO a b).length = b.length := List.length_map ..
    have hd : (csO a b).drop j = a.map (costN b[j]) :: (csO a b).drop (j + 1) := (List.drop_eq_getElem_cons (lc ▸ lt)).trans (congrArg (· :: _) (List.getElem_map ..))
    have hg : (csO a b).getD j [] = a.map (costN b[j]) := by rw [List.getD_eq_getElem?_getD, List.getElem?_eq_getElem (lc ▸ lt)]; exact List.getElem_map ..
    rw [hd] at hJ
    have e : oS (csO a b) a.length (j + 1) = ((rowI (a.map (costN b[j])) j (oS (csO a b) a.length j).1).row, (rowI (a.map (costN b[j])) j (oS (csO a b) a.length j).1).res) := congrArg (fun c => ((rowI c j (oS (csO a b) a.length j).1).row, (rowI c j (oS (csO a b) a.length j).1).res)) hg
    refine outer_step (List.getElem?_eq_getElem lt) ha hb rfl (fun h _ => .inr ⟨⟨_, rfl⟩, congrArg (fun z => Fl.ret (ii z)) (hJ.trans (congrArg (fun c => bif c then _ else _) h)).symm, _, rfl⟩) fun h σ => .inl ⟨rfl, (hJ.trans (congrArg (fun c => bif c then _ else _) h)).trans (by rw [e]; rfl), ovs (Li o a b m p q b[j] j (rowI (a.map (costN b[j])) j (oS (csO a b) a.length j).1)) σ, ?_⟩
    show _ = S NL (("result", ii (oS (csO a b) a.length (j + 1)).2) :: ("row", .hl o.length) :: Lq a b m p q) _ (o ++ [cellI (oS (csO a b) a.length (j + 1)).1])
    rw [e]; rfl'
  · rw [List.drop_of_length_le (show (csO a b).length ≤ b.length from Nat.le_of_eq (List.length_map ..))]; rfl
end
end L1
end
section
open PySem PySem.W Mine V03
namespace L1
theorem eqA_end {e : Nat → Nat → Bool} {a b : List Nat} : eqA e a b (0 + a.length) = false := by unfold eqA; rw [Nat.zero_add, List.getElem?_eq_none (Nat.le_refl _)]; rfl
section
variable {n : Nat} {a b : List Nat} {m p q : Int} {o : Objs} {σ : Str → Option V} {k : Nat}
theorem core_all (ha : a.length ≤ 1000) (hb : b.length ≤ 1000) : Hd (exs (ex G (n + 33) CL) (BL.drop 9) (S NL (Lq a b m p q) σ o)) (Pf (coreP costN costN a b m) o) := by
  unfold coreP
  refine IR (!(a.length != 0) || !(b.length != 0)) (by rfl') ((show tst G (n + 32) CL (sE BL 9 0) (S NL (Lq a b m p q) σ o) = evOr (tst G (n + 31) CL) [kd (sE BL 9 0) 0, kd (sE BL 9 0) 1] (S NL (Lq a b m p q) σ o) from (by rfl')).trans (o_c (t_not (by rfl') (t_val (by rfl') (v := tx a) (by rfl') (tr_tx ha))) fun _ => o_1 (t_not (by rfl') (t_val (by rfl') (v := tx b) (by rfl') (tr_tx hb)))))
    (fun h => R (by rfl') (x_bin (a := ii 2) (b := ii ((a.length : Int) + b.length)) (by rfl') (by rfl') (x_bin (by rfl') (x_bui .len (by rfl') (evs1 (by rfl')) (len_tx ha)) (x_bui .len (by rfl') (evs1 (by rfl')) (len_tx hb)) (by rfl')) (mulV (by rfl'))) (Nx.r ?_)) fun h => ?_
  · rw [h]; exact ⟨rfl, [], (List.append_nil o).symm⟩
  rw [h]
  refine IR (decide ((40 : Int) < a.length) || decide ((40 : Int) < b.length)) (by rfl') ((show tst G (n + 32) CL (sE BL 10 0) (S NL (Lq a b m p q) σ o) = evOr (tst G (n + 31) CL) [kd (sE BL 10 0) 0, kd (sE BL 10 0) 1] (S NL (Lq a b m p q) σ o) from (by rfl')).trans (o_c (t_cmp .Gt (b := ii 40) (by rfl') (x_bui .len (by rfl') (evs1 (by rfl')) (len_tx ha)) (by rfl') (by rfl')) fun _ => o_1 (t_cmp .Gt (b := ii 40) (by rfl') (x_bui .len (by rfl') (evs1 (by rfl')) (len_tx hb)) (by rfl') (by rfl'))))
    (fun h => .of (a := (.ret (ii (m + 1)), S NL (Lq a b m p q) σ o)) (by rfl') (Nx.r ?_)) fun h => ?_
  · rw [h]; exact ⟨rfl, [], (List.append_nil o).symm⟩
  rw [h]
  refine I (decide ((b.length : Int) < a.length)) (by rfl') (t_cmp .Lt (by rfl') (x_bui .len (by rfl') (evs1 (by rfl')) (len_tx hb)) (x_bui .len (by rfl') (evs1 (by rfl')) (len_tx ha)) (by rfl')) (fun h => Nx.z (st := S NL (Lq b a m p q) σ o) (by rfl') ?_) fun h => Nx.z (st := S NL (Lq a b m p q) σ o) (by rfl') ?_
  · rw [h]; exact outer_all hb ha
  · rw [h]; exact outer_all ha hb
theorem len_map_take {l : List Nat} {k : Nat} (h : l.length ≤ 1000) : (l.take k).length ≤ 1000 := Nat.le_trans (List.length_take_le' ..) h
theorem len_drop {l : List Nat} {k : Nat} (h : l.length ≤ 1000) : (l.drop k).length ≤ 1000 := Nat.le_trans (List.length_drop ▸ Nat.sub_le ..) h
noncomputable def levV (a b : List Nat) (m : Int) : Int := bif a == b then 0 else levP beqN costN costN a b m
noncomputable def La (a b : List Nat) (m : Int) : List (Str × V) := [("a", tx a), ("b", tx b), ("max_cost", ii m)]
theorem lev_in (ha : a.length ≤ 1000) (hb : b.length ≤ 1000) {st : St} (e : st = S NL (Lq a b m p (pN (preP beqN a.reverse b.reverse))) z0 o) : Hd (exs (ex G (n + 33) CL) (BL.drop 7) st) (Pf (coreP costN costN (a.take (a.length - preP beqN a.reverse b.reverse)) (b.take (b.length - preP beqN a.reverse b.reverse)) m) o) := by
  rw [e]
  generalize preP beqN a.reverse b.reverse = k
  exact A (tx (a.take (a.length - k))) (S NL (Lq (a.take (a.length - k)) b m p (pN k)) z0 o) (by rfl') (x_slice (lo := none) (hi := some (kd (kd (sE BL 7 0) 1) 0)) (sp := none) (by rfl') (by rfl') (by rfl') (part_s (po (fun _ => (by rfl')) fun _ _ => (by rfl'))) (by rfl') (sl_to ha)) (by rfl')
    (A (tx (b.take (b.length - k))) (S NL (Lq (a.take (a.length - k)) (b.take (b.length - k)) m p (pN k)) z0 o) (by rfl') (x_slice (lo := none) (hi := some (kd (kd (sE BL 8 0) 1) 0)) (sp := none) (by rfl') (by rfl') (by rfl') (part_s (po (fun _ => (by rfl')) fun _ _ => (by rfl'))) (by rfl') (sl_to hb)) (by rfl')
    (core_all (len_map_take ha) (len_map_take hb)))
theorem lev_mid (ha : a.length ≤ 1000) (hb : b.length ≤ 1000) {st : St} (e : st = S NL (Lp a b m k) z0 o) : Hd (exs (ex G (n + 33) CL) (BL.drop 5) st) (Pf (coreP costN costN (a.take (a.length - preP beqN a.reverse b.reverse)) (b.take (b.length - preP beqN a.reverse b.reverse)) m) o) := by
  rw [e]
  exact Ks 1 (S NL (Lq a b m k (pN 0)) z0 o) (by rfl') (WH (by rfl') (w_count (fun j st => st = S NL (Lq a b m k (pN j)) z0 o) (eqA beqN a.reverse b.reverse) (fun j st e => e ▸ lev6 ha hb) (fun j st _ e => e ▸ Hd.of (a := (.next, S NL (Lq a b m k (pN j - 1)) z0 o)) (by rfl') ⟨rfl, congrArg (fun q => S NL (Lq a b m k q) z0 o) pm⟩) a.reverse.length 0 whileFuel _ eqA_end (Nat.lt_of_le_of_lt (List.length_reverse ▸ ha) (by decide)) rfl fun st e => Nx.i (lev_in ha hb e)))
theorem lev_pre (ha : a.length ≤ 1000) (hb : b.length ≤ 1000) {st : St} (e : st = S NL (Lp a b m (preP beqN a b)) z0 o) : Hd (exs (ex G (n + 33) CL) (BL.drop 3) st) (Pf (levP beqN costN costN a b m) o) := by
  rw [e]; unfold levP
  generalize preP beqN a b = k
  exact A (tx (a.drop k)) (S NL (Lp (a.drop k) b m k) z0 o) (by rfl') (x_slice (lo := some (.Name "pre" default)) (hi := none) (sp := none) (by rfl') (by rfl') (part_s (v := ii k) (by rfl')) (by rfl') (by rfl') (sl_from ha)) (by rfl')
    (A (tx (b.drop k)) (S NL (Lp (a.drop k) (b.drop k) m k) z0 o) (by rfl') (x_slice (lo := some (.Name "pre" default)) (hi := none) (sp := none) (by rfl') (by rfl') (part_s (v := ii k) (by rfl')) (by rfl') (by rfl') (sl_from hb)) (by rfl')
    (lev_mid (len_drop ha) (len_drop hb) rfl))
theorem lev_spec (ha : a.length ≤ 1000) (hb : b.length ≤ 1000) : Hd (call G (n + 34) "_levenshtein_distance" [tx a, tx b, ii m] [] o) fun r => r.1 = ii (levV a b m) ∧ ∃ j, r.2 = o ++ j := by
  have q (c : Bool) (h : (a == b) = c) : levV a b m = bif c then 0 else levP beqN costN costN a b m := congrArg (fun c => bif c then 0 else levP beqN costN costN a b m) h
  refine c_call (F := F_levenshtein_distance) (S NL (La a b m) z0 o) (by rfl') ((show Hd _ (Pf (levV a b m) o) from ?_).get fun p hp ⟨h, hj⟩ => .of hp ?_)
  · refine IR (C := CL) (B := BL) (a == b) (by rfl') (by rfl') (fun h => Hd.of (a := (.ret (ii 0), S NL (La a b m) z0 o)) (by rfl') (Nx.r (q _ h ▸ ⟨rfl, [], (List.append_nil o).symm⟩))) fun h => ?_
    rw [q _ h]
    exact Ks 1 (S NL (Lp a b m 0) z0 o) (by rfl') (WH (by rfl') (w_count (fun k st => st = S NL (Lp a b m k) z0 o) (eqA beqN a b) (fun k st e => e ▸ lev2 ha hb) (fun k st _ e => e ▸ Hd.of (a := (.next, S NL (Lp a b m (k + 1 : Nat)) z0 o)) (by rfl') ⟨rfl, rfl⟩) a.length 0 whileFuel _ eqA_end (Nat.lt_of_le_of_lt ha (by decide)) rfl fun st e => Nx.i (lev_pre ha hb e)))
  · rw [h]; exact ⟨rfl, hj⟩
end
end L1
end
section
open PySem PySem.W Mine V03
namespace L1
noncomputable def b3N : List (Nat × List Nat) := H03.b3L.map fun p => (p.1.toNat, strL p.2)
theorem strL_mkS {l : List Nat} : strL (mkS l) = l := rfl
theorem b3_tab : H03.b3L = b3N.map fun p => ((p.1 : Int), mkS p.2) := by rfl'
theorem lookup_cast (c : Nat) : ∀ l : List (Nat × List Nat), (l.map fun p => ((p.1 : Int), mkS p.2)).lookup (c : Int) = (l.lookup c).map mkS
  | [] => rfl
  | (k, x) :: r => by
    simp only [List.map_cons, List.lookup_cons]
    by_cases h : c = k
    · subst h; simp
    · have h1 : ((c : Int) == (k : Int)) = false := by simp; omega
      have h2 : (c == k) = false := by simp [h]
      rw [h1, h2]
      exact lookup_cast c r
noncomputable def M (c : Nat) : List Nat := match b3N.lookup c with | some l => l | none => Unicode.lowerOf c
theorem toList_flatten : ∀ l : List (Array Nat), (l.toArray.flatten).toList = l.flatMap Array.toList := by
  intro l; simp [List.flatMap]
theorem lowerAt_list (l : List Nat) (i : Nat) (hi : i < l.length) (h : l[i] ≠ 931) : Unicode.lowerAt l.toArray i = Unicode.lowerOf l[i] := by
  unfold Unicode.lowerAt
  have : l.toArray[i]? = some l[i] := by simp [hi]
  rw [this]
  have h' : (l[i] == 0x3A3) = false := by simpa using h
  simp [h']
theorem lower_mkS (l : List Nat) (h : 931 ∉ l) : Txt.lower (mkS l) = mkS (l.flatMap Unicode.lowerOf) := by
  unfold Txt.lower placed mkS
  have e : (l.toArray.mapIdx fun i _ => (Unicode.lowerAt l.toArray i).toArray) = (l.map fun c => (Unicode.lowerOf c).toArray).toArray := by
    apply Array.ext
    · simp
    · intro i h1 h2
      have hi : i < l.length := by simpa using h1
      simp only [Array.getElem_mapIdx, List.getElem_toArray, List.getElem_map]
      rw [lowerAt_list l i hi (fun q => h (q ▸ List.getElem_mem hi))]
  congr 1
  apply Array.toList_inj.mp
  show (Array.flatten (l.toArray.mapIdx fun i _ => (Unicode.lowerAt l.toArray i).toArray)).toList = _
  rw [e, toList_flatten]
  simp [List.flatMap]
  rfl
end L1
end
section
open PySem PySem.W Mine V03
namespace L1
theorem low1_eq (c : Nat) : low1 c = Unicode.lowerOf c := by
  by_cases h : c = 931
  · subst h; decide +kernel
  · unfold low1
    rw [lower_mkS [c] (by simpa using fun q => h q.symm), strL_mkS]; simp
theorem prim3_spec (c : Nat) : prim3 (.str (mkS [c])) = some (.str (mkS (M c))) := by
  show some (PyData.str ((H03.b3L.lookup (c : Int)).getD (Txt.lower (mkS [c])))) = _
  unfold M
  rw [b3_tab, lookup_cast]
  cases b3N.lookup c with
  | some l => rfl
  | none => exact congrArg (fun s => some (PyData.str s)) ((mkS_strL _).symm.trans (congrArg mkS (low1_eq c)))
noncomputable abbrev Chunk := Nat × Nat × List (Nat × Nat × Nat)
noncomputable def lowC : List Chunk := (List.range 26).map fun k => (fun (c : List (Nat × Nat × Nat)) => ((c.headD (0, 0, 0)).1, (c.getLastD (0, 0, 0)).2.1, c)) ((UnicodeData.oneLower.drop (26 * k)).take 26)
noncomputable def keyC : List Chunk := (List.range 25).map fun k => (fun (c : List (Nat × List Nat)) => ((c.headD (0, [])).1, (c.getLastD (0, [])).1, c.map fun p => (p.1, p.1, 0))) ((b3N.drop (26 * k)).take 26)
noncomputable def allR (l : List Chunk) : List (Nat × Nat × Nat) := l.flatMap (·.2.2)
noncomputable def meet (a b c d : Nat) : Bool := Nat.ble a d && Nat.ble c b
noncomputable def okC (l : List Chunk) : Bool := l.all fun c => c.2.2.all fun r => Nat.ble c.1 r.1 && Nat.ble r.2.1 c.2.1
noncomputable def freeC (l : List Chunk) (a b : Nat) : Bool := l.all fun c => !meet c.1 c.2.1 a b || c.2.2.all fun r => !meet r.1 r.2.1 a b
theorem freeC_ok {l : List Chunk} (h : okC l = true) {a b : Nat} (hf : freeC l a b = true) : ∀ r ∈ allR l, ∀ c, r.1 ≤ c → c ≤ r.2.1 → a ≤ c → c ≤ b → False := by
  intro r hr c h1 h2 h3 h4
  simp only [allR, List.mem_flatMap] at hr
  obtain ⟨k, hk, hr⟩ := hr
  simp only [okC, List.all_eq_true] at h
  have hb := h k hk r hr
  simp only [freeC, List.all_eq_true] at hf
  have hq := hf k hk
  simp only [Bool.and_eq_true, Nat.ble_eq] at hb
  have m1 : meet k.1 k.2.1 a b = true := by simp only [meet, Bool.and_eq_true, Nat.ble_eq]; omega
  rw [m1, Bool.not_true, Bool.false_or, List.all_eq_true] at hq
  have := hq r hr
  have m2 : meet r.1 r.2.1 a b = true := by simp only [meet, Bool.and_eq_true, Nat.ble_eq]; omega
  rw [m2] at this
  cases this
theorem lowC_all : UnicodeData.oneLower = allR lowC := by rfl'
theorem lowC_ok : okC lowC = true := by decide +kernel
theorem keyC_ok : okC keyC = true := by decide +kernel
theorem key_in : (b3N.all fun p => !freeC keyC p.1 p.1) = true := by decide +kernel
theorem low_low : (lowC.all fun k => k.2.2.all fun r => freeC lowC r.2.2 (r.2.2 + (r.2.1 - r.1))) = true := by decide +kernel
noncomputable def exR : List (Nat × Nat × Nat) := [(1017, 1017, 1010), (7838, 7838, 223), (8072, 8079, 8064), (8088, 8095, 8080), (8104, 8111, 8096), (8124, 8124, 8115), (8140, 8140, 8131), (8188, 8188, 8179)]
theorem low_key : (lowC.all fun k => k.2.2.all fun r => freeC keyC r.2.2 (r.2.2 + (r.2.1 - r.1)) || exR.contains r) = true := by decide +kernel
theorem ex_key : ((exR.drop 2).all fun r => (List.range (r.2.1 - r.1 + 1)).all fun i => (b3N.lookup (r.1 + i)).isSome) = true := by decide +kernel
end L1
end
section
open PySem PySem.W Mine V03
namespace L1
theorem mem_lookN : ∀ {l : List (Nat × List Nat)} {c : Nat} {x : List Nat}, l.lookup c = some x → (c, x) ∈ l
  | [], c, x, h => by simp at h
  | (k, y) :: r, c, x, h => by
    rw [List.lookup_cons] at h
    by_cases q : c = k
    · subst q; simp at h; subst h; simp
    · have h2 : (c == k) = false := by simp [q]
      rw [h2] at h
      exact List.mem_cons_of_mem _ (mem_lookN h)
theorem shifted_some : ∀ {l : List (Nat × Nat × Nat)} {c d : Nat}, Unicode.shifted l c = some d → ∃ r ∈ l, r.1 ≤ c ∧ c ≤ r.2.1 ∧ d = r.2.2 + (c - r.1)
  | [], c, d, h => by simp [Unicode.shifted] at h
  | (a, b, t) :: rest, c, d, h => by
    simp only [Unicode.shifted] at h
    split at h
    · cases h
    · split at h
      · rename_i h1 h2
        cases h
        exact ⟨(a, b, t), by simp, by show a ≤ c; omega, h2, rfl⟩
      · obtain ⟨r, hr, q⟩ := shifted_some h
        exact ⟨r, by simp [hr], q⟩
theorem several_none {c : Nat} (h : c ≠ 304) : UnicodeData.severalLower.lookup c = none := by
  have : UnicodeData.severalLower = [(304, [105, 775])] := by rfl'
  rw [this]
  have h' : (c == 304) = false := by simpa using h
  simp [List.lookup, h']
theorem low_none {c : Nat} (h : c ≠ 304) : Unicode.lowerOf c = [(Unicode.shifted UnicodeData.oneLower c).getD c] := by
  unfold Unicode.lowerOf Unicode.image
  rw [several_none h]
theorem low_fix {d : Nat} (h : freeC lowC d d = true) (h4 : d ≠ 304) : Unicode.lowerOf d = [d] := by
  rw [low_none h4]
  cases hs : Unicode.shifted UnicodeData.oneLower d with
  | none => rfl
  | some e =>
    obtain ⟨r, hr, h1, h2, -⟩ := shifted_some hs
    rw [lowC_all] at hr
    exact (freeC_ok lowC_ok h r hr d h1 h2 (Nat.le_refl _) (Nat.le_refl _)).elim
theorem key_none {d : Nat} (h : freeC keyC d d = true) : b3N.lookup d = none := by
  cases hs : b3N.lookup d with
  | none => rfl
  | some e =>
    have hm := mem_lookN hs
    have hk := key_in
    rw [List.all_eq_true] at hk
    have := hk (d, e) hm
    simp [h] at this
theorem M_fix {d : Nat} (h : freeC lowC d d = true) (h4 : d ≠ 304) (hk : freeC keyC d d = true) : M d = [d] := by
  unfold M
  rw [key_none hk]
  exact low_fix h h4
noncomputable def risingN : List (Nat × List Nat) → Bool
  | (a, _) :: (b, x) :: r => Nat.blt a b && risingN ((b, x) :: r)
  | _ => true
theorem rising_lookup : ∀ {l : List (Nat × List Nat)}, risingN l = true → ∀ p ∈ l, l.lookup p.1 = some p.2 ∧ ∀ q ∈ l.head?, q.1 ≤ p.1
  | [], _, p, h => by simp at h
  | [(a, x)], _, p, h => by simp at h; subst h; simp
  | (a, x) :: (b, y) :: r, hr, p, h => by
    simp only [risingN, Bool.and_eq_true, Nat.blt_eq] at hr
    rcases List.mem_cons.mp h with rfl | h
    · simp
    · obtain ⟨h1, h2⟩ := rising_lookup hr.2 p h
      have hb : b ≤ p.1 := h2 (b, y) (by simp)
      have hne : (p.1 == a) = false := by simp; omega
      refine ⟨?_, by simp; omega⟩
      rw [List.lookup_cons, hne]
      exact h1
theorem b3N_rising : risingN b3N = true := by decide +kernel
theorem M_key {p : Nat × List Nat} (h : p ∈ b3N) : M p.1 = p.2 := by
  unfold M
  rw [(rising_lookup b3N_rising p h).1]
theorem vals_ok : (b3N.all fun p => p.2.all fun d => freeC lowC d d && (freeC keyC d d && (d != 304 && d != 931))) = true := by decide +kernel
noncomputable def upK : List Nat := [304, 8072, 8073, 8074, 8075, 8076, 8077, 8078, 8079, 8088, 8089, 8090, 8091, 8092, 8093, 8094, 8095, 8104, 8105, 8106, 8107, 8108, 8109, 8110, 8111, 8124, 8140, 8188]
theorem keys_low : (b3N.all fun p => (freeC lowC p.1 p.1 && p.1 != 304) || upK.contains p.1) = true := by decide +kernel
theorem ups_ok : (upK.all fun k => (Unicode.lowerOf k).flatMap M == M k) = true := by decide +kernel
theorem flatMap_fix {f : Nat → List Nat} : ∀ {l : List Nat}, (∀ d ∈ l, f d = [d]) → l.flatMap f = l
  | [], _ => rfl
  | d :: l, h => by rw [List.flatMap_cons, h d (by simp), flatMap_fix fun x hx => h x (by simp [hx])]; rfl
theorem img_fix {c d : Nat} (h4 : c ≠ 304) (hs : Unicode.shifted UnicodeData.oneLower c = some d) : Unicode.lowerOf d = [d] ∧ (d = 931 → False) ∧ ((b3N.lookup c).isNone → c ≠ 1017 → c ≠ 7838 → M d = [d]) := by
  obtain ⟨r, hr, h1, h2, hd⟩ := shifted_some hs
  rw [lowC_all] at hr
  have hr' := hr
  simp only [allR, List.mem_flatMap] at hr
  obtain ⟨k, hk, hr⟩ := hr
  have ll := low_low
  have lk := low_key
  simp only [List.all_eq_true] at ll lk
  have ll := ll k hk r hr
  have lk := lk k hk r hr
  have free : ∀ q ∈ allR lowC, q.1 ≤ d → d ≤ q.2.1 → False := fun q hq a b => freeC_ok lowC_ok ll q hq d a b (by omega) (by omega)
  have sn : Unicode.shifted UnicodeData.oneLower d = none := by
    cases hs : Unicode.shifted UnicodeData.oneLower d with
    | none => rfl
    | some e =>
      obtain ⟨q, hq, q1, q2, -⟩ := shifted_some hs
      rw [lowC_all] at hq
      exact (free q hq q1 q2).elim
  have h304 : d ≠ 304 := by
    intro q; subst q
    rcases Bool.or_eq_true_iff.mp lk with lk | lk
    · have hm : ((304, 304, 0) : Nat × Nat × Nat) ∈ allR keyC := by decide +kernel
      exact freeC_ok keyC_ok lk _ hm 304 (Nat.le_refl _) (Nat.le_refl _) (by omega) (by omega)
    · have : ∀ r ∈ exR, ¬ (r.2.2 ≤ 304 ∧ 304 ≤ r.2.2 + (r.2.1 - r.1)) := by decide +kernel
      exact this r (by simpa using lk) ⟨by omega, by omega⟩
  have lf : Unicode.lowerOf d = [d] := by rw [low_none h304, sn]; rfl
  refine ⟨lf, ?_, fun hn e1 e2 => ?_⟩
  · intro q; subst q
    have : Unicode.shifted UnicodeData.oneLower 931 = some 963 := by decide +kernel
    rw [this] at sn; cases sn
  · unfold M
    have kn : b3N.lookup d = none := by
      rcases Bool.or_eq_true_iff.mp lk with lk | lk
      · cases hq : b3N.lookup d with
        | none => rfl
        | some e =>
          have hm := mem_lookN hq
          have hki := key_in
          rw [List.all_eq_true] at hki
          have h5 := hki (d, e) hm
          have : freeC keyC d d = true := by
            unfold freeC at lk ⊢
            rw [List.all_eq_true] at lk ⊢
            intro c hc
            have := lk c hc
            have mono : ∀ x y : Nat, meet x y d d = true → meet x y r.2.2 (r.2.2 + (r.2.1 - r.1)) = true := by
              intro x y hm
              simp only [meet, Bool.and_eq_true, Nat.ble_eq] at hm ⊢
              omega
            cases hm : meet c.1 c.2.1 d d with
            | false => simp
            | true =>
              rw [mono _ _ hm] at this
              simp only [Bool.not_true, Bool.false_or, List.all_eq_true] at this ⊢
              intro y hy
              have h6 := this y hy
              cases hm2 : meet y.1 y.2.1 d d with
              | false => rfl
              | true => rw [mono _ _ hm2] at h6; exact h6
          rw [this] at h5; cases h5
      · have hx : ∀ r ∈ exR, r ∈ exR.drop 2 ∨ r = (1017, 1017, 1010) ∨ r = (7838, 7838, 223) := by decide +kernel
        rcases hx r (by simpa using lk) with hx | rfl | rfl
        · have ek := ex_key
          simp only [List.all_eq_true] at ek
          have := ek r hx (c - r.1) (by simp; omega)
          have e : r.1 + (c - r.1) = c := by omega
          rw [e] at this
          rw [Option.isNone_iff_eq_none] at hn
          rw [hn] at this; cases this
        · exact absurd (show c = 1017 by simp only at h1 h2; omega) e1
        · exact absurd (show c = 7838 by simp only at h1 h2; omega) e2
    rw [kn]; exact lf
theorem M_low (c : Nat) : 931 ∉ M c ∧ (M c).flatMap Unicode.lowerOf = M c := by
  cases hl : b3N.lookup c with
  | some l =>
    have hm := mem_lookN hl
    have e : M c = l := by unfold M; rw [hl]
    have hv := vals_ok
    simp only [List.all_eq_true] at hv
    have hv := hv (c, l) hm
    rw [e]
    refine ⟨fun q => ?_, flatMap_fix fun d hd => ?_⟩
    · have := hv 931 q; simp at this
    · have := hv d hd
      simp only [Bool.and_eq_true, bne_iff_ne] at this
      exact low_fix this.1 this.2.2.1
  | none =>
    have e : M c = Unicode.lowerOf c := by unfold M; rw [hl]
    have h4 : c ≠ 304 := by intro q; subst q; have : b3N.lookup 304 = some [105, 775] := by decide +kernel
                            rw [this] at hl; cases hl
    rw [e, low_none h4]
    cases hs : Unicode.shifted UnicodeData.oneLower c with
    | none =>
      have h9 : c ≠ 931 := by intro q; subst q; have : Unicode.shifted UnicodeData.oneLower 931 = some 963 := by decide +kernel
                              rw [this] at hs; cases hs
      have : Unicode.lowerOf c = [c] := by rw [low_none h4, hs]; rfl
      simp [this]; omega
    | some d =>
      obtain ⟨h1, h2, -⟩ := img_fix h4 hs
      simp [h1]; exact fun q => h2 q.symm
theorem M_again (c : Nat) (e1 : c ≠ 1017) (e2 : c ≠ 7838) : (M c).flatMap M = M c ∧ (Unicode.lowerOf c).flatMap M = M c := by
  cases hl : b3N.lookup c with
  | some l =>
    have hm := mem_lookN hl
    have e : M c = l := by unfold M; rw [hl]
    have hv := vals_ok
    simp only [List.all_eq_true] at hv
    have hv := hv (c, l) hm
    refine ⟨?_, ?_⟩
    · rw [e]
      exact flatMap_fix fun d hd => by
        have := hv d hd
        simp only [Bool.and_eq_true, bne_iff_ne] at this
        exact M_fix this.1 this.2.2.1 this.2.1
    · have kl := keys_low
      simp only [List.all_eq_true] at kl
      have kl := kl (c, l) hm
      rcases Bool.or_eq_true_iff.mp kl with kl | kl
      · simp only [Bool.and_eq_true, bne_iff_ne] at kl
        rw [low_fix kl.1 kl.2]; simp
      · have uo := ups_ok
        simp only [List.all_eq_true, beq_iff_eq] at uo
        exact uo c (by simpa using kl)
  | none =>
    have e : M c = Unicode.lowerOf c := by unfold M; rw [hl]
    have h4 : c ≠ 304 := by intro q; subst q; have : b3N.lookup 304 = some [105, 775] := by decide +kernel
                            rw [this] at hl; cases hl
    have key : (Unicode.lowerOf c).flatMap M = Unicode.lowerOf c := by
      rw [low_none h4]
      cases hs : Unicode.shifted UnicodeData.oneLower c with
      | none =>
        have : Unicode.lowerOf c = [c] := by rw [low_none h4, hs]; rfl
        simp [e, this]
      | some d =>
        obtain ⟨-, -, h3⟩ := img_fix h4 hs
        simp [h3 (by rw [hl]; rfl) e1 e2]
    rw [e]
    exact ⟨key, key⟩
end L1
end
section
open PySem PySem.W Mine V03
namespace L1
section
variable {e : Nat → Nat → Bool} {c c' : Nat → Nat → Int} {φ ψ : Nat → Nat} {a b : List Nat} {m : Int}
theorem eqA_map {k : Nat} : eqA e (a.map φ) (b.map ψ) k = eqA (fun i j => e (φ i) (ψ j)) a b k := by
  unfold eqA; rw [List.getElem?_map, List.getElem?_map]
  cases a[k]? <;> cases b[k]? <;> rfl
theorem preP_map : preP e (a.map φ) (b.map ψ) = preP (fun i j => e (φ i) (ψ j)) a b := by
  unfold preP; rw [List.length_map, show eqA e (a.map φ) (b.map ψ) = _ from funext fun k => eqA_map]
theorem tailP_map : tailP c (a.map φ) (b.map ψ) m = tailP (fun j i => c (ψ j) (φ i)) a b m := by
  unfold tailP
  rw [List.length_map, List.length_map, List.map_map]
  exact congrArg (fun z => bif decide (m < ((b.length : Int) - a.length) * 2) then m + 1 else outerI m z _ _ _) (List.map_congr_left fun y _ => List.map_map)
theorem coreP_map : coreP c c' (a.map φ) (b.map ψ) m = coreP (fun j i => c (ψ j) (φ i)) (fun i j => c' (φ i) (ψ j)) a b m := by
  unfold coreP; rw [List.length_map, List.length_map, tailP_map, tailP_map]
theorem levP_map : levP e c c' (a.map φ) (b.map ψ) m = levP (fun i j => e (φ i) (ψ j)) (fun j i => c (ψ j) (φ i)) (fun i j => c' (φ i) (ψ j)) a b m := by
  unfold levP
  rw [preP_map, ← List.map_drop, ← List.map_drop, ← List.map_reverse, ← List.map_reverse, preP_map, List.length_map, List.length_map, ← List.map_take, ← List.map_take, coreP_map]
noncomputable def sameP (e : Nat → Nat → Bool) : List Nat → List Nat → Bool
  | [], [] => true
  | x :: xs, y :: ys => e x y && sameP e xs ys
  | _, _ => false
theorem same_map : ∀ {a b : List Nat}, (a.map φ == b.map ψ) = sameP (fun i j => beqN (φ i) (ψ j)) a b
  | [], [] => rfl
  | [], _ :: _ => rfl
  | _ :: _, [] => rfl
  | x :: xs, y :: ys => by
    show (φ x == ψ y && (xs.map φ == ys.map ψ)) = ((φ x == ψ y && true) && sameP _ xs ys)
    rw [Bool.and_true, same_map]
end
structure Rl (c : Int) (x y : Nat) : Prop where
  e : beqN x y = (c == 0)
  l : costN x y = c
  r : costN y x = c
noncomputable def levT (c : Nat → Nat → Int) (a b : List Nat) (m : Int) : Int := bif sameP (fun i j => c i j == 0) a b then 0 else levP (fun i j => c i j == 0) (fun j i => c i j) c a b m
theorem lev_T {c : Nat → Nat → Int} {φ ψ : Nat → Nat} (h : ∀ i j, Rl (c i j) (φ i) (ψ j)) {a b : List Nat} {m : Int} : levV (a.map φ) (b.map ψ) m = levT c a b m := by
  unfold levV levT
  rw [same_map, levP_map, show (fun i j => beqN (φ i) (ψ j)) = _ from funext fun i => funext fun j => (h i j).e, show (fun j i => costN (ψ j) (φ i)) = _ from funext fun j => funext fun i => (h i j).r, show (fun i j => costN (φ i) (ψ j)) = c from funext fun i => funext fun j => (h i j).l]
theorem Rl.symm {c : Int} {x y : Nat} (h : Rl c x y) : Rl c y x := ⟨(show ((y == x) && true) = (c == 0) by rw [← h.e]; exact congrArg (· && true) (Bool.beq_comm ..)), h.r, h.l⟩
theorem Rl.refl (x : Nat) : Rl 0 x x := by
  have e : ([x] == [x]) = true := beq_self_eq_true [x]
  have c : costN x x = 0 := by unfold costN; rw [e]; rfl
  exact ⟨e, c, c⟩
theorem Rl.ne {x y : Nat} (h : x ≠ y) : Rl (bif low1 x == low1 y then 1 else 2) x y := by
  have f {x y : Nat} (h : x ≠ y) : ([x] == [y]) = false := beq_eq_false_iff_ne.mpr fun q => h (List.cons.inj q).1
  have g {x y : Nat} (h : x ≠ y) : costN x y = bif low1 x == low1 y then 1 else 2 := by unfold costN; rw [f h]; rfl
  exact ⟨(f h).trans (by cases low1 x == low1 y <;> rfl), g h, (g fun q => h q.symm).trans (by rw [Bool.beq_comm])⟩
noncomputable def gapIx (g1 g2 : Option Nat) (j : Nat) : List Nat := (bif g1 == some j then [3] else []) ++ (bif g2 == some j then [4] else [])
noncomputable def typedIx (g1 g2 : Option Nat) : List Nat := gapIx g1 g2 0 ++ (0 :: gapIx g1 g2 1 ++ (1 :: gapIx g1 g2 2 ++ (2 :: gapIx g1 g2 3)))
noncomputable def cT (t : List Int) (x y : Nat) : Int := bif x == y then t.getD x 2 else 2
noncomputable def okPair (g1 g2 : Option Nat) (t : List Int) : Bool :=
  let a := typedIx g1 g2
  let h : Int := 2 * (a.length - 3)
  let d := h + t.sum
  levT (cT t) a [0, 1, 2] d == d && (levT (cT t) a [0, 1, 2] (h + 6) == d && (decide (levT (cT t) a [0, 1, 2] (d - 1) > d - 1) && (levT (cT t) [0, 1, 2] a d == d && (levT (cT t) [0, 1, 2] a (h + 6) == d && decide (levT (cT t) [0, 1, 2] a (d - 1) > d - 1)))))
noncomputable def t3 : List Int := [0, 1, 2]
noncomputable def gs1 : List (Option Nat) := [none, some 0, some 1, some 2, some 3]
theorem okPairs : (gs1.all fun g1 => gs1.all fun g2 => t3.all fun t0 => t3.all fun t1 => t3.all fun t2 => okPair g1 g2 [t0, t1, t2]) = true := by decide +kernel
theorem okTurns : (t3.all fun t0 => t3.all fun t1 => t3.all fun t2 => levT (cT [t0, t1, t2]) [0, 1, 2] [2, 1, 0] 6 == 4 + t1) = true := by decide +kernel
theorem okMoves : ([[2, 0, 1], [1, 0, 2], [2, 1, 0]].all fun b => levT (cT [0, 0, 0]) [0, 1, 2] b 4 == 4) = true := by decide +kernel
end L1
end
section
open PySem PySem.W Mine V03
namespace L1
noncomputable def strD (c : Nat) : PyData := .str (mkS [c])
noncomputable def BF : List Stmt := F_law_forms.body
noncomputable def CF : Cx := Cf F_law_forms
noncomputable def NF : List Str := ["kind", "pick", "small", "great", "bases", "holes", "others", "step", "steps", "pairs"]
noncomputable def LF0 (k : Nat) (p : Int) : List (Str × V) := [("kind", ii k), ("pick", ii p)]
noncomputable def σF (k : Nat) (x : Str) : Option V := (exs (ex G 60 CF) (BF.take 6) (S NF (LF0 k 0) z0 [])).bind fun p => (p.2.vars.lookup x).bind id
noncomputable def exN : List (Nat × Nat) := [(98, 8492), (99, 8450), (99, 8493), (100, 8517), (101, 8496), (102, 8497), (104, 8459), (104, 8460), (104, 8461), (105, 8464), (105, 8465), (107, 8490), (108, 8466), (109, 8499), (110, 8469), (112, 8473), (113, 8474), (114, 8475), (114, 8476), (114, 8477), (115, 383), (122, 8484), (122, 8488), (946, 976), (947, 8510), (949, 1013), (952, 977), (952, 1012), (953, 837), (953, 8126), (954, 1008), (956, 181), (960, 982), (960, 8511), (961, 1009), (966, 981), (969, 8486), (963, 1010), (965, 978), (973, 979), (971, 980), (7777, 7835), (603, 8455)]
noncomputable def smN (k : Nat) : Nat := bif Nat.blt k 26 then 97 + k else bif Nat.blt k 43 then 919 + k else bif Nat.blt k 50 then 920 + k else [973, 971, 7777, 603].getD (k - 50) 0
noncomputable def grN (k : Nat) : Nat := bif Nat.blt k 26 then 65 + k else bif Nat.blt k 43 then 887 + k else bif k == 43 then 962 else bif Nat.blt k 50 then 888 + k else [910, 939, 7776, 400].getD (k - 50) 0
noncomputable def osN (k : Nat) : List Nat := (bif Nat.blt k 26 then ([119808, 119860, 119912, 120016, 120172, 120224, 120276, 120328, 120380, 120432] ++ (bif [1, 4, 5, 7, 8, 11, 12, 17].contains k then [] else [119964]) ++ (bif [2, 7, 8, 17, 25].contains k then [] else [120068]) ++ bif [2, 7, 13, 15, 16, 17, 25].contains k then [] else [120120]).map (· + k)
  else bif Nat.blt k 50 then [120488, 120546, 120604, 120662, 120720].flatMap fun b => (bif k == 33 then [7, 17] else bif k == 43 then [18, 43] else [bif Nat.blt k 43 then k - 26 else k - 25]).map (b + ·) else []) ++ (exN.filter (·.1 == smN k)).map (·.2)
noncomputable def LF (k : Nat) (p : Int) : List (Str × V) := [("pick", ii p), ("small", tx [smN k]), ("great", tx [grN k]), ("others", .d (.list ((osN k).map strD)))]
theorem forms_tab (n : Nat) (p : Int) (o : Objs) : ((List.range 54).map fun k => exs (ex G (n + 60) CF) (BF.take 6) (S NF (LF0 k p) z0 o)) = (List.range 54).map fun k => some (.next, S NF (LF k p) (σF k) o) := by rfl'
theorem forms_os : ((List.range 54).all fun k => Nat.blt 0 (osN k).length && Nat.blt (osN k).length 1000) = true := by decide +kernel
end L1
end
section
open PySem PySem.W Mine V03
namespace L1
theorem itL {o : Objs} {xs : List PyData} {x : PyData} {i : Int} {j : Nat} (h : idx? i xs.length = some j) (hx : xs[j]? = some x) : itemV o (.d (.list xs)) i = some (.d x) := by
  show (idx? i xs.length).bind _ = _
  rw [h]; show (xs[j]?).map _ = _
  rw [hx]; rfl
noncomputable def md (x : Int) (n : Nat) : Nat := (x.fmod n).toNat
theorem md_eq {x : Int} {n : Nat} (h : n ≠ 0) : x.fmod n = md x n := (Int.toNat_of_nonneg (Int.fmod_nonneg_of_pos x (Int.ofNat_lt.mpr (Nat.pos_of_ne_zero h)))).symm
theorem md_lt {x : Int} {n : Nat} (h : n ≠ 0) : md x n < n := Int.ofNat_lt.mp (md_eq (x := x) h ▸ Int.fmod_lt_of_pos x (Int.ofNat_lt.mpr (Nat.pos_of_ne_zero h)))
theorem modV {o : Objs} {x : Int} {n : Nat} (h : n ≠ 0) : binop o .Mod (ii x) (ii n) = some (ii (md x n)) := by
  show (gd (decide ((n : Int) ≠ 0)) (some (x.fmod n))).map _ = _
  rw [gd_t (b := decide ((n : Int) ≠ 0)) (decide_eq_true fun q => h (Int.ofNat.inj q)), md_eq h]; rfl
theorem nsub {m : Nat} {o : Objs} : binop o .Sub (ii (-1)) (ii m) = some (ii (.negSucc m)) := congrArg (fun z => some (ii z)) (show (-1 : Int) - m = .negSucc m by rw [Int.negSucc_eq]; omega)
theorem gD {l : List Nat} {j : Nat} (h : j < l.length) : (l.map strD)[j]? = some (strD (l.getD j 0)) := by rw [List.getElem?_map, List.getD_eq_getElem?_getD, List.getElem?_eq_getElem h]; rfl
noncomputable def fmN (k : Nat) (p : Int) : List Nat := [smN k, grN k, (osN k).getD ((osN k).length - 1 - md p (osN k).length) 0, (osN k).getD (md (p.fdiv 16) (osN k).length) 0]
theorem forms_spec {n k : Nat} {p : Int} {o : Objs} (hk : k < 54) : call G (n + 63) "_law_forms" [ii k, ii p] [] o = some (.fl ((fmN k p).map strD), o) := by
  have h1 : exs (ex G (n + 62) CF) (BF.take 6) (S NF (LF0 k p) z0 o) = some (.next, S NF (LF k p) (σF k) o) := by
    have := congrArg (·[k]?) (forms_tab (n + 2) p o)
    simp only [List.getElem?_map, List.getElem?_range hk] at this
    exact Option.some.inj this
  have h2 := List.all_eq_true.mp forms_os k (List.mem_range.mpr hk)
  obtain ⟨h2, h3⟩ := Bool.and_eq_true _ _ ▸ h2
  have hz : (osN k).length ≠ 0 := Nat.ne_of_gt (Nat.le_of_ble_eq_true h2)
  have hl : ((osN k).map strD).length = (osN k).length := List.length_map ..
  have ho : ((osN k).map strD).length ≤ 1000 := hl ▸ Nat.le_of_lt (Nat.le_of_ble_eq_true h3)
  have hn : callB o .len [.d (.list ((osN k).map strD))] = some (ii (osN k).length) := (len_fl ho).trans (by rw [hl])
  have i1 : idx? (.negSucc (md p (osN k).length)) ((osN k).map strD).length = some ((osN k).length - 1 - md p (osN k).length) := by rw [hl]; exact idx_neg (md_lt hz) (hl ▸ ho)
  have i2 : idx? (md (p.fdiv 16) (osN k).length) ((osN k).map strD).length = some (md (p.fdiv 16) (osN k).length) := by rw [hl]; exact idx_nat (md_lt hz) (hl ▸ ho)
  refine Hd.get (c_call (F := F_law_forms) (P := (· = (.fl ((fmN k p).map strD), o))) (S NF (LF0 k p) z0 o) (by rfl') (Ks (C := CF) (B := BF) 6 _ h1 (R (st1 := S NF (LF k p) (σF k) o) (v := .fl ((fmN k p).map strD)) (by rfl') (x_list (by rfl') (evs_c (v := tx [smN k]) (by rfl') (evs_c (v := tx [grN k]) (by rfl') (evs_c (x_item (w := .d (.list ((osN k).map strD))) (by rfl') (by rfl') (x_bin (a := ii (-1)) (by rfl') (by rfl') (x_bin (a := ii p) (by rfl') (by rfl') (x_bui .len (by rfl') (evs1 (by rfl')) hn) (modV hz)) nsub) (itL i1 (gD (Nat.lt_of_le_of_lt (Nat.sub_le ..) (Nat.pred_lt hz))))) (evs1 (x_item (w := .d (.list ((osN k).map strD))) (by rfl') (by rfl') (x_bin (a := ii (p.fdiv 16)) (by rfl') (by rfl') (x_bui .len (by rfl') (evs1 (by rfl')) hn) (modV hz)) (itL i2 (gD (md_lt hz)))))))) (by rfl') (by rfl')) rfl))) fun _ e q => e.trans (congrArg some q)
end L1
end
section
open PySem PySem.W Mine V03
namespace Mine
variable {G : Env'} {n : Nat} {C : Cx} {o : Objs} {v : V} {P : Fl × St → Prop} {B : List Stmt} {k : Nat}
open L1
theorem set_S {N : List Str} {L : List (Str × V)} {σ : Str → Option V} {c : Cell} {xs ys : List PyData} (hy : xs = ys) : setCell o.length (.list xs) (S N L σ (o ++ [c])) = S N L σ (o ++ [.list ys]) := by subst hy; exact congrArg (S N L σ) set_end
theorem APE {N : List Str} {L : List (Str × V)} {σ : Str → Option V} {xs : List PyData} (ys : List PyData) {x : PyData} (h0 : exs (ex G (n + 2) C) (B.drop k) (S N L σ (o ++ [.list xs])) = ((evMeth (fs G n) C (.hl o.length) "append" [kd (sE B k 0) 1] [] (S N L σ (o ++ [.list xs]))).map fun p => (Fl.next, p.2)).bind fun p => bif p.1.isNext then exs (ex G (n + 2) C) (B.drop (k + 1)) p.2 else some p)
    (h : ev G n C (kd (sE B k 0) 1) (S N L σ (o ++ [.list xs])) = some (v, S N L σ (o ++ [.list xs]))) (hx : rd0 v = some x) (hn : decide (xs.length < maxLen) = true) (hy : xs ++ [x] = ys) (h2 : Hd (exs (ex G (n + 2) C) (B.drop (k + 1)) (S N L σ (o ++ [.list ys]))) P) : Hd (exs (ex G (n + 2) C) (B.drop k) (S N L σ (o ++ [.list xs]))) P :=
  AP h0 at_end h hx hn ((set_S (o := o) (c := .list xs) (N := N) (L := L) (σ := σ) hy).symm ▸ h2)
theorem c_eq {f : Str} {F : Fn} {vs : List V} {ks : List (Str × V)} {o' : Objs} (st : St) (h0 : call G (n + 1) f vs ks o = (exs (ex G n ⟨F.scope, F.mv⟩) (F.body.drop 0) st).bind fun p => p.1.val.map fun v => (v, p.2.objs)) (h : Hd (exs (ex G n ⟨F.scope, F.mv⟩) (F.body.drop 0) st) fun p => p.1 = .ret v ∧ p.2.objs = o') : call G (n + 1) f vs ks o = some (v, o') := by
  rw [h0]; exact h.get fun p hp ⟨h1, h2⟩ => by
    rw [hp]; show p.1.val.map _ = _
    rw [h1, ← h2]; rfl
end Mine
namespace L1
theorem gDf {α : Type} {f : Nat → α} {l : List Nat} {j : Nat} (h : j < l.length) : (l.map f)[j]? = some (f (l.getD j 0)) := by rw [List.getElem?_map, List.getD_eq_getElem?_getD, List.getElem?_eq_getElem h]; rfl
theorem len_hl {o : Objs} {i : Nat} {xs : List PyData} (h : Mine.listAt o i = some xs) (hl : xs.length ≤ 1000) : callB o .len [.hl i] = some (ii xs.length) := by
  show (((Mine.listAt o i).map PyData.list).bind lst?).bind _ = _
  rw [h]; exact gd_t (maxL hl)
theorem range_snoc {α : Type} {f : Nat → α} {j : Nat} : (List.range j).map f ++ [f j] = (List.range (j + 1)).map f := by rw [List.range_succ, List.map_append]; rfl
end L1
end
section
open PySem PySem.W Mine V03
namespace L1
noncomputable def BE : List Stmt := F_law_letters.body
noncomputable def BEl : List Stmt := sB BE 4
noncomputable def CE : Cx := Cf F_law_letters
noncomputable def NE : List Str := ["number", "one", "rest", "two", "kind", "three", "letters", "forms"]
noncomputable def k1 (x : Int) : Nat := md x 54
noncomputable def k2 (x : Int) : Nat := md ((k1 x : Int) + 1 + (x.fdiv 54).fmod 53) 54
noncomputable def not2 (a b k : Nat) : Bool := !([PyData.int a, PyData.int b].any fun y => PyData.eqv y (.int k))
noncomputable def k3L (a b : Nat) : List Nat := (List.range 54).filter (not2 a b)
noncomputable def k3 (x : Int) : Nat := (k3L (k1 x) (k2 x)).getD (md (x.fdiv 2862) 52) 0
theorem k3_len : ((List.range 54).all fun a => (List.range 54).all fun b => a == b || (k3L a b).length == 52) = true := by decide +kernel
theorem not2_ne {a b k : Nat} (h : not2 a b k = true) : k ≠ a ∧ k ≠ b := by
  refine ⟨fun q => ?_, fun q => ?_⟩ <;> subst q <;> simp [not2, PyData.eqv] at h
theorem k12 (x : Int) : k1 x ≠ k2 x := by
  have h1 := md_lt (x := x) (n := 54) (by decide)
  have h2 := md_eq (x := (k1 x : Int) + 1 + (x.fdiv 54).fmod 53) (n := 54) (by decide)
  have h3 := Int.fmod_nonneg_of_pos (x.fdiv 54) (b := 53) (by decide)
  have h4 := Int.fmod_lt_of_pos (x.fdiv 54) (b := 53) (by decide)
  unfold k2
  intro q
  rw [← q] at h2
  rw [Int.fmod_eq_emod_of_nonneg _ (by decide)] at h2
  have : k1 x < 54 := h1
  omega
noncomputable def ksN (x : Int) : List Nat := [k1 x, k2 x, k3 x]
noncomputable def rsI (r : Int) : Nat → Int
  | 0 => r
  | j + 1 => (rsI r j).fdiv 768
noncomputable def fmE (x : Int) (j : Nat) : List Nat := fmN ((ksN x).getD j 0) ((rsI (x.fdiv 148824) j).fdiv 3)
noncomputable def ltN (x : Int) (j : Nat) : Nat × Nat := ((fmE x j).getD 0 0, (fmE x j).getD (1 + md (rsI (x.fdiv 148824) j + j) 3) 0)
noncomputable def pairD (p : Nat × Nat) : PyData := .list [strD p.1, strD p.2]
noncomputable def cellL (x : Int) (j : Nat) : List PyData := (List.range j).map fun i => pairD (ltN x i)
noncomputable def LE0 (x : Int) : List (Str × V) := [("number", ii x), ("one", ii (k1 x)), ("rest", ii (x.fdiv 148824)), ("two", ii (k2 x))]
noncomputable def LE (o : Objs) (x : Int) (j : Nat) : List (Str × V) := [("number", ii x), ("one", ii (k1 x)), ("rest", ii (rsI (x.fdiv 148824) j)), ("two", ii (k2 x)), ("three", ii (k3 x)), ("letters", .hl o.length)]
section
variable {n : Nat} {x : Int} {o : Objs} {σ : Str → Option V}
theorem let2 : ev G (n + 20) CE (kd (sE BE 2 0) 0) (S NE (LE0 x) σ o) = some (.fl ((k3L (k1 x) (k2 x)).map elI), S NE (LE0 x) σ o) :=
  x_filt (N := [".0", "kind", "one", "two"]) (List.range 54) elI (not2 (k1 x) (k2 x)) (fun k => .d (elI k)) elI [("one", ii (k1 x)), ("two", ii (k2 x))] (fun k => [("kind", ii k), ("one", ii (k1 x)), ("two", ii (k2 x))]) z0 (by rfl') (by rfl') (by rfl') (by rfl') (by rfl') (fun _ _ _ => (by rfl')) (fun _ _ => (by rfl')) (fun _ _ _ => a_1 (by rfl')) (fun _ _ _ _ => (by rfl')) (fun _ _ => (by rfl'))
theorem k3_ok {x : Int} : md (x.fdiv 2862) 52 < (k3L (k1 x) (k2 x)).length ∧ (k3L (k1 x) (k2 x)).length ≤ 1000 := by
  have h := List.all_eq_true.mp (List.all_eq_true.mp k3_len (k1 x) (List.mem_range.mpr (md_lt (by decide)))) (k2 x) (List.mem_range.mpr (md_lt (by decide)))
  rw [beq_eq_false_iff_ne.mpr (k12 x)] at h
  rw [eq_of_beq h]
  exact ⟨md_lt (by decide), by decide⟩
end
end L1
end
section
open PySem PySem.W Mine V03
namespace L1
section
variable {n : Nat} {x : Int} {o : Objs} {σ : Str → Option V}
theorem ks_lt {j : Nat} (h : j < 3) : (ksN x).getD j 0 < 54 := by
  match j, h with
  | 0, _ => exact md_lt (by decide)
  | 1, _ => exact md_lt (by decide)
  | 2, _ =>
    have h := k3_ok (x := x)
    have h2 : (k3L (k1 x) (k2 x)).getD (md (x.fdiv 2862) 52) 0 ∈ k3L (k1 x) (k2 x) := by rw [List.getD_eq_getElem?_getD, List.getElem?_eq_getElem h.1]; exact List.getElem_mem h.1
    exact List.mem_range.mp (List.mem_filter.mp h2).1
theorem let4 {j : Nat} (hj : j < 3) {P : Fl × St → Prop} (h : ∀ σ, P (.next, S NE (LE o x (j + 1)) σ (o ++ [.list (cellL x (j + 1))]))) :
    Hd (exs (ex G (n + 80) CE) (BEl.drop 0) (S NE (("kind", ii ((ksN x).getD j 0)) :: LE o x j) σ (o ++ [.list (cellL x j)]))) P := by
  have hc : (cellL x j).length = j := (List.length_map ..).trans List.length_range
  have hi : ev G (n + 76) CE (kd (kd (kd (sE BEl 1 0) 1) 1) 1) (S NE (("forms", .d (.list ((fmE x j).map strD))) :: ("kind", ii ((ksN x).getD j 0)) :: LE o x j) σ (o ++ [.list (cellL x j)])) = some (ii ((1 + md (rsI (x.fdiv 148824) j + j) 3 : Nat) : Int), S NE (("forms", .d (.list ((fmE x j).map strD))) :: ("kind", ii ((ksN x).getD j 0)) :: LE o x j) σ (o ++ [.list (cellL x j)])) := by
    rw [Int.natCast_add, ← md_eq (by decide)]
    exact x_bin (a := ii 1) (b := ii ((rsI (x.fdiv 148824) j + j).fmod 3)) (by rfl') (by rfl') (x_bin (a := ii (rsI (x.fdiv 148824) j + j)) (b := ii 3) (by rfl') (x_bin (a := ii (rsI (x.fdiv 148824) j)) (b := ii j) (by rfl') (by rfl') (x_bui .len (by rfl') (evs1 (v := .hl o.length) (by rfl')) ((len_hl at_end (Nat.le_trans (Nat.le_of_eq hc) (Nat.le_trans (Nat.le_of_lt hj) (show 3 ≤ 1000 by decide)))).trans (by rw [hc]))) (by rfl')) (by rfl') (by rfl')) (by rfl')
  exact A (.fl ((fmE x j).map strD)) (S NE (("forms", .d (.list ((fmE x j).map strD))) :: ("kind", ii ((ksN x).getD j 0)) :: LE o x j) σ (o ++ [.list (cellL x j)])) (by rfl') (x_fn (vs := [ii ((ksN x).getD j 0), ii ((rsI (x.fdiv 148824) j).fdiv 3)]) "_law_forms" (by rfl') (by rfl') (forms_spec (ks_lt hj))) (by rfl')
    (APE (v := .fl [strD (ltN x j).1, strD (ltN x j).2]) (cellL x (j + 1)) (by rfl') (x_list (vs := [tx [(ltN x j).1], tx [(ltN x j).2]]) (by rfl') (evs_c (by rfl') (evs1 (x_item (w := .d (.list ((fmE x j).map strD))) (by rfl') (by rfl') hi (itL (idx_nat (Nat.lt_of_lt_of_eq (Nat.add_lt_add_left (md_lt (by decide)) 1) (rfl : 1 + 3 = _)) (show 4 ≤ 1000 by decide)) (gD (Nat.add_lt_add_left (md_lt (by decide)) 1)))))) (by rfl') (by rfl')) (by rfl') (decide_eq_true (Nat.lt_of_le_of_lt (Nat.le_of_eq hc) (Nat.lt_trans hj (show 3 < maxLen by decide)))) range_snoc
    (.of (a := (.next, S NE (LE o x (j + 1)) (ovs (("forms", .d (.list ((fmE x j).map strD))) :: ("kind", ii ((ksN x).getD j 0)) :: LE o x j) σ) (o ++ [.list (cellL x (j + 1))]))) (by rfl') (h _)))
theorem letters_spec : call G (n + 84) "_law_letters" [ii x] [] o = some (.hl o.length, o ++ [.list (cellL x 3)]) := by
  have h1 : exs (ex G (n + 83) CE) ((BE.drop 0).take 2) (S NE [("number", ii x)] z0 o) = some (.next, S NE (LE0 x) z0 o) := by
    unfold LE0; rw [show ((k2 x : Nat) : Int) = _ from (md_eq (by decide)).symm, show ((k1 x : Nat) : Int) = _ from (md_eq (by decide)).symm]; rfl'
  exact c_eq (F := F_law_letters) (S NE [("number", ii x)] z0 o) (by rfl') (Ks (C := CE) (B := BE) 2 _ h1
    (A (ii (k3 x)) (S NE (("three", ii (k3 x)) :: LE0 x) z0 o) (by rfl') (x_item (w := .fl ((k3L (k1 x) (k2 x)).map elI)) (j := md (x.fdiv 2862) 52) (by rfl') let2 (by rw [← md_eq (by decide)]; rfl') (itL (o := o) (idx_nat (Nat.lt_of_lt_of_eq k3_ok.1 (List.length_map ..).symm) (Nat.le_trans (Nat.le_of_eq (List.length_map ..)) k3_ok.2)) (gDf k3_ok.1))) (by rfl')
    (Ks 1 (S NE (LE o x 0) z0 (o ++ [.list (cellL x 0)])) (by rfl')
    (FO (k := 4) (N := NE) (fun _ => True) 3 (fun j => elI ((ksN x).getD j 0)) (LE o x) (fun j => ("kind", ii ((ksN x).getD j 0)) :: LE o x j) (fun j => o ++ [.list (cellL x j)]) (fun _ => (by rfl')) (by rfl') (by rfl') (σ := z0) (by rfl') trivial (fun _ _ _ => (by rfl'))
      (fun j σ lt _ => by
 have h := @let4 (n+2) x o σ j lt
 apply h
 intro s
 exact .inl ⟨rfl, trivial, s, rfl⟩) fun σ _ => .of (a := (.ret (.hl o.length), S NE (LE o x 3) σ (o ++ [.list (cellL x 3)]))) (by rfl') ⟨rfl, rfl⟩))))
end
end L1
end
section
open PySem PySem.W Mine V03
namespace Mine
variable {G : Env'} {n : Nat} {C : Cx} {o : Objs} {v a : V} {st : St} {e : Expr}
theorem x_mt (s : List Nat) (m : Str) (h0 : ev G (n + 1) C e st = evMeth (fs G n) C (L1.tx s) m [kd e 1] [] st) (hr : recvOk st.objs m (L1.tx s) = true) (h : ev G n C (kd e 1) st = some (a, st)) (hc : callM st.objs (mkS s) m [a] = some v) : ev G (n + 1) C e st = some (v, st) := by
  rw [h0]; show gd (recvOk st.objs m (L1.tx s)) ((evs (ev G n C) [kd e 1] st).bind _) = _
  rw [gd_t hr, evs1 h]; show ((callM st.objs (mkS s) m [a]).map _) = _
  rw [hc]; rfl
end Mine
namespace L1
theorem strs_map : ∀ ws : List (List Nat), strs? (ws.map fun w => PyData.str (mkS w)) = some (ws.map mkS)
  | [] => rfl
  | w :: ws => by show (strs? (ws.map fun w => PyData.str (mkS w))).map _ = _; rw [strs_map ws]; rfl
theorem mkS_app (a b : List Nat) : mkS a ++ mkS b = mkS (a ++ b) := by
  show Str.mk (a.toArray ++ b.toArray) = Str.mk (a ++ b).toArray
  rw [List.append_toArray]
theorem join_mkS : ∀ ws : List (List Nat), Txt.join (mkS []) (ws.map mkS) = mkS ws.flatten
  | [] => by unfold Txt.join; rw [StrLaws.glued_eq_join]; rfl
  | [w] => by unfold Txt.join; rw [StrLaws.glued_eq_join]; exact congrArg mkS (List.append_nil w).symm
  | w :: x :: r => by
    have ih := join_mkS (x :: r)
    unfold Txt.join at ih ⊢
    rw [StrLaws.glued_eq_join] at ih ⊢
    show mkS w ++ mkS [] ++ Str.join (mkS []) ((x :: r).map mkS) = _
    rw [ih, mkS_app, mkS_app, List.append_nil]; rfl
theorem foldl_len : ∀ (ws : List (List Nat)) (a : Nat), (ws.map mkS).foldl (fun s t => s + t.length + 0) a = a + ws.flatten.length
  | [], a => rfl
  | w :: ws, a => by
    rw [List.map_cons, List.foldl_cons, foldl_len ws, List.flatten_cons, List.length_append, ← Nat.add_assoc]; rfl
theorem join_ok {o : Objs} {ws : List (List Nat)} (h : ws.flatten.length ≤ 1000000) : callM o (mkS []) "join" [.fl (ws.map fun w => .str (mkS w))] = some (tx ws.flatten) := by
  show (strs? (ws.map fun w => PyData.str (mkS w))).bind _ = _
  rw [strs_map]
  show gd (JoinOk (mkS []) (ws.map mkS)) (some (V.d (.str (Txt.join (mkS []) (ws.map mkS))))) = _
  rw [join_mkS, gd_t ?_]; rfl
  unfold JoinOk
  rw [show ((ws.map mkS).toArray.foldl (fun x1 x2 => x1 + x2.length + (mkS []).length) 0) = ws.flatten.length from (List.foldl_toArray ..).trans ((foldl_len ws 0).trans (Nat.zero_add _))]
  exact (Bool.not_eq_true' _).mpr (decide_eq_false (Nat.not_lt.mpr (by rw [sizeLine_eq]; exact Nat.le_trans h (by decide))))
theorem addT {o : Objs} {a b : List Nat} (h : a.length + b.length ≤ 1000000) : binop o .Add (tx a) (tx b) = some (tx (a ++ b)) := gd_t (decide_eq_true h)
theorem chrV {o : Objs} {c : Nat} (h : c ≤ 1114111) : callB o .chr [ii c] = some (tx [c]) := gd_t (b := decide (0 ≤ (c : Int) ∧ (c : Int) ≤ 0x10FFFF)) (decide_eq_true ⟨Int.natCast_nonneg c, Int.ofNat_le.mpr h⟩)
end L1
end
section
open PySem PySem.W Mine V03
namespace L1
noncomputable def noiseL : List Nat := [173, 847, 6150, 6155, 6156, 6157, 8203, 8204, 8205, 8288, 65279, 65024, 65025, 65026, 65027, 65028, 65029, 65030, 65031, 65032, 65033, 65034, 65035, 65036, 65037, 65038, 65039]
noncomputable def natD (l : List Nat) : List PyData := l.map elI
noncomputable def txtD (w : List Nat) : PyData := .str (mkS w)
noncomputable def BT : List Stmt := F_law_typed.body
noncomputable def BTl : List Stmt := sB BT 1
noncomputable def CT : Cx := Cf F_law_typed
noncomputable def NT : List Str := ["letters", "number", "noise", "gaps", "rest", "k"]
noncomputable def rT (x : Int) : Nat → Int
  | 0 => x.fdiv 24
  | j + 1 => (rT x j).fdiv 108
noncomputable def gT (x : Int) (j : Nat) : Nat := md (rT x j) 4
noncomputable def zT (x : Int) (j : Nat) : Nat := noiseL.getD (md ((rT x j).fdiv 4) 27) 0
noncomputable def gsT (x : Int) : Nat → List (List Nat)
  | 0 => [[], [], [], []]
  | j + 1 => (gsT x j).set (gT x j) ((gsT x j).getD (gT x j) [] ++ [zT x j])
noncomputable def LT (l g : Nat) (x : Int) (j : Nat) : List (Str × V) := [("letters", .hl l), ("number", ii x), ("noise", .d (.list (natD noiseL))), ("gaps", .hl g), ("rest", ii (rT x j))]
theorem gs_len {x : Int} : ∀ j, (gsT x j).length = 4
  | 0 => rfl
  | j + 1 => List.length_set.trans (gs_len j)
theorem gs_sum {x : Int} : ∀ j, ∀ w ∈ gsT x j, w.length ≤ j
  | 0 => show ∀ w ∈ [[], [], [], []], w.length ≤ 0 by decide
  | j + 1 => fun w h => by
    rcases List.mem_or_eq_of_mem_set h with h | h
    · exact Nat.le_succ_of_le (gs_sum j w h)
    · rw [h, List.length_append]
      have lt : gT x j < (gsT x j).length := gs_len (x := x) j ▸ md_lt (by decide)
      refine Nat.succ_le_succ (gs_sum (x := x) j _ ?_)
      rw [List.getD_eq_getElem?_getD, List.getElem?_eq_getElem lt]; exact List.getElem_mem lt
theorem gs_at {x : Int} {j k : Nat} (h : k < 4) : ((gsT x j).map txtD)[k]? = some (txtD ((gsT x j).getD k [])) ∧ ((gsT x j).getD k []).length ≤ j := by
  have lt : k < (gsT x j).length := (gs_len (x := x) j).symm ▸ h
  rw [List.getElem?_map, List.getD_eq_getElem?_getD, List.getElem?_eq_getElem lt]
  exact ⟨rfl, gs_sum j _ (List.getElem_mem lt)⟩
theorem zT_ok (x : Int) (j : Nat) : (natD noiseL)[md ((rT x j).fdiv 4) 27]? = some (.int (zT x j)) ∧ zT x j ∈ noiseL := by
  have h := md_lt (x := (rT x j).fdiv 4) (n := 27) (by decide)
  refine ⟨gDf (f := elI) (l := noiseL) h, ?_⟩
  unfold zT
  rw [List.getD_eq_getElem?_getD, List.getElem?_eq_getElem (show _ < noiseL.length from h)]
  exact List.getElem_mem _
section
variable {n : Nat} {x : Int} {o : Objs} {σ : Str → Option V} {l j : Nat}
noncomputable def cT' (x : Int) (j : Nat) : List PyData := (gsT x j).map txtD
theorem typ1 (hj : j < 2) {P : Fl × St → Prop} (h : ∀ σ, P (.next, S NT (LT l o.length x (j + 1)) σ (o ++ [.list (cT' x (j + 1))]))) :
    Hd (exs (ex G (n + 30) CT) (BTl.drop 0) (S NT (("k", ii j) :: LT l o.length x j) σ (o ++ [.list (cT' x j)]))) P := by
  obtain ⟨h1, h2⟩ := gs_at (x := x) (j := j) (k := gT x j) (md_lt (by decide))
  obtain ⟨h3, h4⟩ := zT_ok x j
  have hl : (cT' x j).length = 4 := (List.length_map ..).trans (gs_len j)
  have ig {e : Expr} {n : Nat} (h : ev G n CT e (S NT (("k", ii j) :: LT l o.length x j) σ (o ++ [.list (cT' x j)])) = some (ii ((rT x j).fmod 4), S NT (("k", ii j) :: LT l o.length x j) σ (o ++ [.list (cT' x j)]))) : ev G n CT e (S NT (("k", ii j) :: LT l o.length x j) σ (o ++ [.list (cT' x j)])) = some (ii (gT x j), S NT (("k", ii j) :: LT l o.length x j) σ (o ++ [.list (cT' x j)])) := h.trans (congrArg (fun z => some (ii z, _)) (show (rT x j).fmod 4 = (gT x j : Int) from md_eq (by decide)))
  refine AT (st2 := S NT (("k", ii j) :: LT l o.length x j) σ (o ++ [.list (cT' x (j + 1))])) (tx ((gsT x j).getD (gT x j) [] ++ [zT x j])) (by rfl')
    (x_bin (by rfl') (x_item (w := .hl o.length) (by rfl') (by rfl') (ig (by rfl')) (it_hl at_end h1 (Nat.le_trans (Nat.le_of_eq hl) (show 4 ≤ 1000 by decide))))
      (x_bui .chr (by rfl') (evs1 (x_item (w := .d (.list (natD noiseL))) (j := md ((rT x j).fdiv 4) 27) (by rfl') (by rfl') (by rw [← md_eq (by decide)]; rfl') (itL (o := o ++ [.list (cT' x j)]) (idx_nat (md_lt (by decide)) (by decide)) h3))) (chrV (c := zT x j) ?_)) (addT ?_))
    ((b_sub (i := o.length) (x := txtD ((gsT x j).getD (gT x j) [] ++ [zT x j])) (by rfl') (by rfl') (ig (by rfl')) (by rfl') at_end (idx_nat ?_ ?_)).trans (congrArg some (set_S List.map_set.symm)))
    (.of (a := (.next, S NT (LT l o.length x (j + 1)) (ovs [("k", ii j)] σ) (o ++ [.list (cT' x (j + 1))]))) (by rfl') (h _))
  · exact of_decide_eq_true (List.all_eq_true.mp (show (noiseL.all fun c => decide (c ≤ 1114111)) = true by decide) _ h4)
  · exact Nat.le_trans (Nat.add_le_add_right (Nat.le_trans h2 (Nat.le_of_lt hj)) 1) (show 3 ≤ 1000000 by decide)
  · exact Nat.lt_of_lt_of_eq (md_lt (by decide)) hl.symm
  · exact Nat.le_trans (Nat.le_of_eq hl) (show 4 ≤ 1000 by decide)
theorem listAt_app {o c : Objs} {i : Nat} {xs : List PyData} (h : Mine.listAt o i = some xs) : Mine.listAt (o ++ c) i = some xs := by
  unfold Mine.listAt at h ⊢
  obtain ⟨a, ha, _⟩ := Option.bind_eq_some_iff.mp h
  rw [List.getElem?_append_left (List.getElem?_eq_some_iff.mp ha).1]; exact h
noncomputable def bT (x : Int) (k : Nat) : Nat := md (x.fdiv (2 ^ k)) 2
theorem b_lt (x : Int) (k : Nat) : bT x k < 2 := md_lt (by decide)
noncomputable def chN (p : Nat × Nat) (b : Nat) : Nat := [p.1, p.2].getD b 0
noncomputable def cntT (x : Int) : Nat := md (x.fdiv 8) 3
noncomputable def pcT (ps : List (Nat × Nat)) (x : Int) (k : Nat) : List Nat := chN (ps.getD k (0, 0)) (bT x k) :: (gsT x (cntT x)).getD (k + 1) []
noncomputable def wordT (ps : List (Nat × Nat)) (x : Int) : List Nat := (gsT x (cntT x)).getD 0 [] ++ [pcT ps x 0, pcT ps x 1, pcT ps x 2].flatten
noncomputable def Lc (l g : Nat) (x : Int) : List (Str × V) := [("letters", .hl l), ("number", ii x), ("gaps", .hl g)]
variable {ps : List (Nat × Nat)}
theorem cnt_lt : cntT x < 3 := md_lt (by decide)
theorem typ2 (hp : ps.length = 3) (hl : Mine.listAt o l = some (ps.map pairD)) : ev G (n + 30) CT (kd (kd (sE BT 2 0) 1) 1) (S NT (LT l o.length x (cntT x)) σ (o ++ [.list (cT' x (cntT x))])) = some (.fl ([pcT ps x 0, pcT ps x 1, pcT ps x 2].map txtD), S NT (LT l o.length x (cntT x)) σ (o ++ [.list (cT' x (cntT x))])) :=
  x_filt (N := [".0", "k", "letters", "number", "gaps"]) (List.range 3) elI (fun _ => true) (fun k => tx (pcT ps x k)) (fun k => txtD (pcT ps x k)) (Lc l o.length x) (fun k => ("k", ii k) :: Lc l o.length x) z0 (by rfl') (by rfl') (by rfl') (by rfl') (by rfl') (fun _ _ _ => (by rfl')) (fun _ _ => (by rfl')) (fun _ _ _ => (by rfl'))
    (fun k σ hk _ => by
      have lt := List.mem_range.mp hk
      obtain ⟨h1, h2⟩ := gs_at (x := x) (j := cntT x) (k := k + 1) (Nat.succ_lt_succ lt)
      have hq : (ps.map pairD)[k]? = some (pairD (ps.getD k (0, 0))) := by rw [List.getElem?_map, List.getD_eq_getElem?_getD, List.getElem?_eq_getElem (hp ▸ lt)]; rfl
      refine x_bin (by rfl') (x_item (w := .d (pairD (ps.getD k (0, 0)))) (by rfl') (x_item (w := .hl l) (by rfl') (by rfl') (by rfl') (it_hl (listAt_app hl) hq ?_)) (?_ : _ = some (V.d (.int (bT x k)), _)) (itL (o := o ++ [.list (cT' x (cntT x))]) (idx_nat (b_lt x k) (show 2 ≤ 1000 by decide)) (gD (l := [(ps.getD k (0, 0)).1, (ps.getD k (0, 0)).2]) (b_lt x k))))
        (x_item (w := .hl o.length) (j := (k + 1 : Nat)) (by rfl') (by rfl') (by rfl') (it_hl at_end h1 ?_)) (addT ?_)
      · rw [List.length_map, hp]; decide
      · unfold bT
        rw [← md_eq (by decide)]
        match k, lt with
        | 0, _ => rfl'
        | 1, _ => rfl'
        | 2, _ => rfl'
      · exact Nat.le_trans (Nat.le_of_eq ((List.length_map ..).trans (gs_len _))) (show 4 ≤ 1000 by decide)
      · exact Nat.le_trans (Nat.add_le_add_left (Nat.le_trans h2 (Nat.le_of_lt cnt_lt)) 1) (show 4 ≤ 1000000 by decide))
    (fun _ _ => (by rfl'))
end
end L1
end
section
open PySem PySem.W Mine V03
namespace L1
section
variable {n : Nat} {x : Int} {o : Objs} {σ : Str → Option V} {l j : Nat} {ps : List (Nat × Nat)}
theorem pc_len {k : Nat} (h : k < 3) : (pcT ps x k).length ≤ 3 := Nat.succ_le_succ (Nat.le_trans (gs_at (x := x) (j := cntT x) (k := k + 1) (Nat.succ_lt_succ h)).2 (Nat.le_of_lt_succ cnt_lt))
theorem fl_len : [pcT ps x 0, pcT ps x 1, pcT ps x 2].flatten.length ≤ 9 := by
  have h0 := pc_len (ps := ps) (x := x) (k := 0) (by decide)
  have h1 := pc_len (ps := ps) (x := x) (k := 1) (by decide)
  have h2 := pc_len (ps := ps) (x := x) (k := 2) (by decide)
  show (pcT ps x 0 ++ (pcT ps x 1 ++ (pcT ps x 2 ++ []))).length ≤ 9
  rw [List.length_append, List.length_append, List.length_append]
  exact Nat.add_le_add h0 (Nat.add_le_add h1 h2)
theorem typed_spec (hp : ps.length = 3) (hl : Mine.listAt o l = some (ps.map pairD)) : call G (n + 40) "_law_typed" [.hl l, ii x] [] o = some (tx (wordT ps x), o ++ [Cell.list (cT' x (cntT x))]) := by
  obtain ⟨h1, h2⟩ := gs_at (x := x) (j := cntT x) (k := 0) (by decide)
  refine c_eq (F := F_law_typed) (S NT [("letters", .hl l), ("number", ii x)] z0 o) (by rfl') (Ks (C := CT) (B := BT) 1 (S NT (LT l o.length x 0) z0 (o ++ [Cell.list (cT' x 0)])) (by rfl')
    (FO (k := 1) (N := NT) (fun _ => True) (cntT x) elI (LT l o.length x) (fun j => ("k", ii j) :: LT l o.length x j) (fun j => o ++ [Cell.list (cT' x j)]) (fun _ => (by rfl'))
      (i_val (by rfl') (x_bui .range (vs := [ii (cntT x)]) (by rfl') (evs1 ((show _ = some (ii ((x.fdiv 8).fmod 3), S NT (LT l o.length x 0) z0 (o ++ [Cell.list (cT' x 0)])) from (by rfl')).trans (congrArg (fun z => some (ii z, S NT (LT l o.length x 0) z0 (o ++ [Cell.list (cT' x 0)]))) (show (x.fdiv 8).fmod 3 = (cntT x : Int) from md_eq (by decide))))) (by rfl')) (it_rng (Nat.le_trans (Nat.le_of_lt cnt_lt) (by decide)))) (maxL (Nat.le_trans (Nat.le_of_lt cnt_lt) (by decide))) (σ := z0) (by rfl') trivial (fun _ _ _ => (by rfl'))
      (fun j σ lt _ => by
        have h := @typ1 (n + 8) x o σ l j (Nat.lt_of_lt_of_le lt (Nat.le_of_lt_succ cnt_lt))
        apply h; intro s; exact .inl ⟨rfl, trivial, s, rfl⟩)
      fun σ _ => R (by rfl') (x_bin (a := tx ((gsT x (cntT x)).getD 0 [])) (by rfl') (x_item (w := .hl o.length) (j := (0 : Nat)) (by rfl') (by rfl') (by rfl') (it_hl at_end h1 ?_)) (x_mt [] "join" (by rfl') (by rfl') (typ2 hp hl) (join_ok ?_)) (addT ?_)) ⟨rfl, rfl⟩))
  · exact Nat.le_trans (Nat.le_of_eq ((List.length_map ..).trans (gs_len _))) (show 4 ≤ 1000 by decide)
  · exact Nat.le_trans fl_len (by decide)
  · exact Nat.le_trans (Nat.add_le_add (Nat.le_trans h2 (Nat.le_of_lt cnt_lt)) fl_len) (show 12 ≤ 1000000 by decide)
noncomputable def g1T (x : Int) : Option Nat := bif Nat.blt 0 (cntT x) then some (gT x 0) else none
noncomputable def g2T (x : Int) : Option Nat := bif Nat.blt 1 (cntT x) then some (gT x 1) else none
noncomputable def wf (c : Nat → Nat) (z : Nat → Nat) (i : Nat) : Nat := match i with | 0 => c 0 | 1 => c 1 | 2 => c 2 | i + 3 => z i
noncomputable def chT (ps : List (Nat × Nat)) (x : Int) (k : Nat) : Nat := chN (ps.getD k (0, 0)) (bT x k)
noncomputable def zzT (x : Int) (i : Nat) : Nat := bif Nat.blt i 2 then zT x i else 0
noncomputable def setG (gs : List (List Nat)) (a z : Nat) : List (List Nat) := gs.set a (gs.getD a [] ++ [z])
noncomputable def wdG (gs : List (List Nat)) (c : Nat → Nat) : List Nat := gs.getD 0 [] ++ [c 0 :: gs.getD 1 [], c 1 :: gs.getD 2 [], c 2 :: gs.getD 3 []].flatten
theorem wd1 {c z : Nat → Nat} {a : Nat} (h : a < 4) : wdG (setG [[], [], [], []] a (z 0)) c = (typedIx (some a) none).map (wf c z) := match a, h with
  | 0, _ => rfl
  | 1, _ => rfl
  | 2, _ => rfl
  | 3, _ => rfl
theorem wd2 {c z : Nat → Nat} {a b : Nat} (h : a < 4) (h' : b < 4) : wdG (setG (setG [[], [], [], []] a (z 0)) b (z 1)) c = (typedIx (some a) (some b)).map (wf c z) := match a, h with
  | 0, _ => match b, h' with | 0, _ => rfl | 1, _ => rfl | 2, _ => rfl | 3, _ => rfl
  | 1, _ => match b, h' with | 0, _ => rfl | 1, _ => rfl | 2, _ => rfl | 3, _ => rfl
  | 2, _ => match b, h' with | 0, _ => rfl | 1, _ => rfl | 2, _ => rfl | 3, _ => rfl
  | 3, _ => match b, h' with | 0, _ => rfl | 1, _ => rfl | 2, _ => rfl | 3, _ => rfl
theorem word_ix : wordT ps x = (typedIx (g1T x) (g2T x)).map (wf (chT ps x) (zzT x)) := by
  have h := cnt_lt (x := x)
  have h0 : gT x 0 < 4 := md_lt (by decide)
  have h1 : gT x 1 < 4 := md_lt (by decide)
  show (gsT x (cntT x)).getD 0 [] ++ [chT ps x 0 :: (gsT x (cntT x)).getD 1 [], chT ps x 1 :: (gsT x (cntT x)).getD 2 [], chT ps x 2 :: (gsT x (cntT x)).getD 3 []].flatten = _
  unfold g1T g2T
  generalize cntT x = c at h ⊢
  match c, h with
  | 0, _ => rfl
  | 1, _ => exact wd1 (z := zzT x) h0
  | 2, _ => exact wd2 (z := zzT x) h0 h1
end
end L1
end
section
open PySem PySem.W Mine V03
namespace Mine
noncomputable def isFor : Stmt → Bool | .For _ _ _ o _ => o.isEmpty | _ => false
theorem for_s {G : Env'} {n : Nat} {C : Cx} (s : Stmt) (h : isFor s = true) (st : St) : ex G (n + 1) C s st = (iter G n C (((sq s).1[0]?).getD e0) st).bind fun p => gd (okTarget p.1 (((sq s).1[1]?).getD e0)) (forL (fun x st => bind G n C (((sq s).1[1]?).getD e0) (.d x) st) (exs (ex G n C) (sq s).2.1) p.1 loopFuel 0 p.2) := by
  cases s with
  | For t e b o p =>
    cases o with
    | nil => rfl
    | cons => cases h
  | _ => cases h
theorem for_h {G : Env'} {n : Nat} {C : Cx} {B : List Stmt} {k : Nat} (hd : B.drop k = st' B k :: B.drop (k + 1)) (hf : isFor (st' B k) = true) (st : St) : exs (ex G (n + 1) C) (B.drop k) st = ((iter G n C (sE B k 0) st).bind fun p => gd (okTarget p.1 (sE B k 1)) (forL (fun x st => bind G n C (sE B k 1) (.d x) st) (exs (ex G n C) (sB B k)) p.1 loopFuel 0 p.2)).bind fun p => bif p.1.isNext then exs (ex G (n + 1) C) (B.drop (k + 1)) p.2 else some p := by
  rw [hd]; show (ex G (n + 1) C (st' B k) st).bind _ = _
  rw [for_s _ hf]; rfl
end Mine
end
section
open PySem PySem.W Mine V03
namespace Mine
variable {G : Env'} {n : Nat} {C : Cx} {o : Objs} {v a b : V} {st : St} {e : Expr}
theorem x_ifv (c : Bool) (h0 : ev G (n + 1) C e st = (tst G n C (kd e 0) st).bind fun p => bif p.1 then ev G n C (kd e 1) p.2 else ev G n C (kd e 2) p.2) (h : tst G n C (kd e 0) st = some (c, st)) (h1 : ev G n C (kd e 1) st = some (a, st)) (h2 : ev G n C (kd e 2) st = some (b, st)) : ev G (n + 1) C e st = some (bif c then a else b, st) := by
  rw [h0, h]
  cases c
  · exact h2
  · exact h1
theorem t_and2 {c d : Bool} (h0 : tst G (n + 1) C e st = evAnd (tst G n C) [kd e 0, kd e 1] st) (h1 : tst G n C (kd e 0) st = some (c, st)) (h2 : c = true → tst G n C (kd e 1) st = some (d, st)) : tst G (n + 1) C e st = some (c && d, st) := h0.trans (a_c h1 fun q => a_1 (h2 q))
theorem t_or2 {c d : Bool} (h0 : tst G (n + 1) C e st = evOr (tst G n C) [kd e 0, kd e 1] st) (h1 : tst G n C (kd e 0) st = some (c, st)) (h2 : c = false → tst G n C (kd e 1) st = some (d, st)) : tst G (n + 1) C e st = some (c || d, st) := h0.trans (o_c h1 fun q => o_1 (h2 q))
theorem x_map {α : Type} {N : List Str} {e : Expr} (l : List α) (φ : α → PyData) (w : α → V) (ψ : α → PyData) (L : List (Str × V)) (L1 : α → List (Str × V)) (σ : Str → Option V)
    (h0 : ev G (n + 3) C e st = ((iter G (n + 2) C (kd e 1) st).bind fun p => gd (compOk C (gnE e).2 p.2.vars) ((gd (okTarget p.1 (kd e 2)) (compL (fun x st acc => (bind G (n + 1) ⟨(gnE e).2, []⟩ (kd e 2) (.d x) st).bind fun st => (evAnd (tst G (n + 1) ⟨(gnE e).2, []⟩) ((kids e).drop 3) st).bind fun p => bif p.1 then ((ev G (n + 1) ⟨(gnE e).2, []⟩ (kd e 0) p.2).bind fun p => (rd0 p.1).bind fun y => gd (decide (acc.length < maxLen)) (some (acc ++ [y], p.2))) else some (acc, p.2)) p.1 loopFuel 0
        ⟨((localNames (gnE e).2).map fun x => (x, none)) ++ p.2.vars.filter (fun x => freeIn (gnE e).2 x.1), p.2.objs⟩ [])).bind fun q => gd (decide (q.1.length ≤ maxLen)) (some (.fl q.1, ⟨p.2.vars, q.2.objs⟩)))))
    (hi : iter G (n + 2) C (kd e 1) st = some (.vals (l.map φ), st)) (hk : compOk C (gnE e).2 st.vars = true) (hl : decide (l.length ≤ 1000) = true) (hs : (⟨((localNames (gnE e).2).map fun x => (x, none)) ++ st.vars.filter (fun x => freeIn (gnE e).2 x.1), st.objs⟩ : St) = S N L σ st.objs)
    (hb : ∀ x σ, x ∈ l → bind G (n + 1) ⟨(gnE e).2, []⟩ (kd e 2) (.d (φ x)) (S N L σ st.objs) = some (S N (L1 x) σ st.objs)) (hw : ∀ x σ, S N (L1 x) σ st.objs = S N L (ovs (L1 x) σ) st.objs)
    (ht : (kids e).drop 3 = []) (he : ∀ x σ, x ∈ l → ev G (n + 1) ⟨(gnE e).2, []⟩ (kd e 0) (S N (L1 x) σ st.objs) = some (w x, S N (L1 x) σ st.objs)) (hr : ∀ x, x ∈ l → rd0 (w x) = some (ψ x)) :
    ev G (n + 3) C e st = some (.fl (l.map ψ), st) :=
  (x_filt (c := fun _ => true) l φ w ψ L L1 σ h0 hi hk hl hs hb hw (fun x σ _ => by rw [ht]; rfl) (fun x σ h _ => he x σ h) hr).trans (congrArg (fun l => some (V.fl (l.map ψ), st)) (List.filter_eq_self.mpr fun _ _ => rfl))
end Mine
namespace L1
noncomputable def rowD (b : Nat → Bool) : PyData := .list [.bool (b 0), .bool (b 1), .bool (b 2)]
noncomputable def tb (c k : Nat) : Bool := PyData.eqv (.int (((c : Int).fdiv (2 ^ k)).fmod 2)) (.int 1)
noncomputable def oddN (c : Nat) (b : Nat → Bool) : Int := ((((List.range 3).filter fun k => tb c k && b k).length : Nat) : Int).fmod 2
noncomputable def chiS (rows : List (Nat → Bool)) (c : Nat) : Int := rows.length - 2 * (rows.map (oddN c)).sum
noncomputable def sqD (rows : List (Nat → Bool)) (j : Nat) : List PyData := (List.range j).map fun c => .int (chiS rows c ^ 2)
noncomputable def BS : List Stmt := F_law_squares.body
noncomputable def CS : Cx := Cf F_law_squares
noncomputable def NS : List Str := ["greats", "squares", "choice", "odd"]
noncomputable def LS (rows : List (Nat → Bool)) (o : Objs) : List (Str × V) := [("greats", .d (.list (rows.map rowD))), ("squares", .hl o.length)]
theorem len_ff {o : Objs} {xs : List PyData} (hl : xs.length ≤ 1000) : callB o .len [.fl xs] = some (ii xs.length) := gd_t (maxL hl)
theorem ints_map {α : Type} {f : α → Int} : ∀ l : List α, ints? (l.map fun a => .int (f a)) = some (l.map f)
  | [] => rfl
  | x :: l => by show (ints? (l.map fun a => .int (f a))).map _ = _; rw [ints_map l]; rfl
theorem sumV {o : Objs} {xs : List PyData} {is : List Int} (h : ints? xs = some is) : callB o .sum [.d (.list xs)] = some (ii is.sum) := by
  show (ints? xs).map _ = _
  rw [h]; rfl
theorem sqV {o : Objs} {x : Int} (h : i64 x = true) : binop o .Pow (ii x) (ii 2) = some (ii (x ^ 2)) := by
  show (gd (decide ((0 : Int) ≤ 2 ∧ (2 : Int) ≤ 100)) (gd (i64 x) (some (x ^ 2)))).map _ = _
  rw [gd_t (x := gd (i64 x) (some (x ^ 2))) (by decide), gd_t h]; rfl
theorem odd_01 (c : Nat) (b : Nat → Bool) : 0 ≤ oddN c b ∧ oddN c b ≤ 1 := ⟨Int.fmod_nonneg_of_pos _ (by decide), Int.lt_add_one_iff.mp (Int.fmod_lt_of_pos _ (by decide : (0 : Int) < 2))⟩
theorem odd_sum (c : Nat) : ∀ rows : List (Nat → Bool), 0 ≤ (rows.map (oddN c)).sum ∧ (rows.map (oddN c)).sum ≤ rows.length
  | [] => ⟨Int.le_refl 0, Int.le_refl 0⟩
  | r :: rows => ⟨Int.add_nonneg (odd_01 c r).1 (odd_sum c rows).1, Int.le_trans (Int.add_le_add (odd_01 c r).2 (odd_sum c rows).2) (Int.le_of_eq (Int.add_comm ..))⟩
section
variable {n : Nat} {o : Objs} {σ : Str → Option V} {c : Nat} {rows : List (Nat → Bool)}
theorem sq_in {b : Nat → Bool} : ev G (n + 20) ⟨(gnE (sE (sB BS 1) 0 0)).2, []⟩ (kd (kd (kd (sE (sB BS 1) 0 0) 0) 0) 1) (S [".0", "row", "choice"] [("row", .d (rowD b)), ("choice", ii c)] σ o) = some (.fl (((List.range 3).filter fun k => tb c k && b k).map fun _ => .int 1), S [".0", "row", "choice"] [("row", .d (rowD b)), ("choice", ii c)] σ o) :=
  x_filt (N := [".0", "k", "row", "choice"]) (List.range 3) elI (fun k => tb c k && b k) (fun _ => ii 1) (fun _ => .int 1) [("row", .d (rowD b)), ("choice", ii c)] (fun k => [("k", ii k), ("row", .d (rowD b)), ("choice", ii c)]) z0 (by rfl') (by rfl') (by rfl') (by rfl') (by rfl') (fun _ _ _ => (by rfl')) (fun _ _ => (by rfl'))
    (fun k σ hk => by
      have lt := List.mem_range.mp hk
      match k, lt with
      | 0, _ => exact a_1 (t_and2 (by rfl') (by rfl') fun _ => (by rfl'))
      | 1, _ => exact a_1 (t_and2 (by rfl') (by rfl') fun _ => (by rfl'))
      | 2, _ => exact a_1 (t_and2 (by rfl') (by rfl') fun _ => (by rfl')))
    (fun _ _ _ _ => (by rfl')) (fun _ _ => (by rfl'))
theorem sq_odd (h : rows.length ≤ 1000) : ev G (n + 25) CS (sE (sB BS 1) 0 0) (S NS (("choice", ii c) :: LS rows o) σ (o ++ [.list (sqD rows c)])) = some (.fl (rows.map fun b => .int (oddN c b)), S NS (("choice", ii c) :: LS rows o) σ (o ++ [.list (sqD rows c)])) :=
  x_map (N := [".0", "row", "choice"]) rows rowD (fun b => ii (oddN c b)) (fun b => .int (oddN c b)) [("choice", ii c)] (fun b => [("row", .d (rowD b)), ("choice", ii c)]) z0 (by rfl') (by rfl') (by rfl') (decide_eq_true h) (by rfl') (fun _ _ _ => (by rfl')) (fun _ _ => (by rfl')) (by rfl')
    (fun b σ _ => x_bin (b := ii 2) (by rfl') (x_bui .len (by rfl') (evs1 sq_in) (len_ff (by rw [List.length_map]; exact Nat.le_trans (List.length_filter_le ..) (show 3 ≤ 1000 by decide)))) (by rfl') (by rw [List.length_map]; rfl)) (fun _ _ => (by rfl'))
theorem sqb (hc : c < 8) (h : rows.length ≤ 1000) {P : Fl × St → Prop} (hP : ∀ σ, P (.next, S NS (LS rows o) σ (o ++ [Cell.list (sqD rows (c + 1))]))) : Hd (exs (ex G (n + 30) CS) ((sB BS 1).drop 0) (S NS (("choice", ii c) :: LS rows o) σ (o ++ [Cell.list (sqD rows c)]))) P := by
  have hl : (rows.map fun b => PyData.int (oddN c b)).length = rows.length := List.length_map ..
  have hs := odd_sum c rows
  have hi : i64 (chiS rows c) = true := by
    unfold i64 chiS
    exact decide_eq_true (by omega)
  refine A (.fl (rows.map fun b => .int (oddN c b))) (S NS (("odd", .d (.list (rows.map fun b => .int (oddN c b)))) :: ("choice", ii c) :: LS rows o) σ (o ++ [Cell.list (sqD rows c)])) (by rfl') (sq_odd h) (by rfl')
    (APE (sqD rows (c + 1)) (v := ii (chiS rows c ^ 2)) (by rfl')
      (x_bin (a := ii (chiS rows c)) (by rfl') (x_bin (b := ii (2 * (rows.map (oddN c)).sum)) (by rfl') (x_bui .len (v := ii rows.length) (by rfl') (evs1 (by rfl')) ((len_fl (hl ▸ h)).trans (by rw [hl]))) (x_bin (a := ii 2) (by rfl') (by rfl') (x_bui .sum (vs := [.d (.list (rows.map fun b => .int (oddN c b)))]) (by rfl') (evs1 (by rfl')) (sumV (ints_map rows))) (mulV (by rfl'))) (by rfl')) (by rfl') (sqV hi)) (by rfl')
      (decide_eq_true (Nat.lt_of_le_of_lt (Nat.le_of_eq ((List.length_map ..).trans List.length_range)) (Nat.lt_trans hc (show 8 < maxLen by decide)))) range_snoc
      (.of (a := (.next, S NS (LS rows o) (ovs (("odd", .d (.list (rows.map fun b => .int (oddN c b)))) :: ("choice", ii c) :: LS rows o) σ) (o ++ [Cell.list (sqD rows (c + 1))]))) (by rfl') (hP _)))
end
end L1
end
section
open PySem PySem.W Mine V03
namespace L1
noncomputable def BV : List Stmt := F_law_even.body
noncomputable def BVl : List Stmt := sB BV 1
noncomputable def CV : Cx := Cf F_law_even
noncomputable def NV : List Str := ["squares", "powers", "total", "choice", "product", "k"]
noncomputable def pwD (p : Nat → Int) : PyData := .list [.int (p 0), .int (p 1), .int (p 2)]
noncomputable def fac (p : Nat → Int) (c k : Nat) : Int := bif tb c k then 1 - p k else 1 + p k
noncomputable def prod (p : Nat → Int) (s : Int) (c : Nat) : Nat → Int
  | 0 => s
  | k + 1 => prod p s c k * fac p c k
noncomputable def evenF (s p : Nat → Int) : Nat → Int
  | 0 => 0
  | c + 1 => evenF s p c + prod p (s c) c 3
noncomputable def LV (q : Nat) (s p : Nat → Int) (c : Nat) : List (Str × V) := [("squares", .hl q), ("powers", .d (pwD p)), ("total", ii (evenF s p c))]
noncomputable def LVk (q : Nat) (s p : Nat → Int) (c k : Nat) : List (Str × V) := ("product", ii (prod p (s c) c k)) :: ("choice", ii c) :: LV q s p c
section
variable {n : Nat} {o : Objs} {σ : Str → Option V} {c k q : Nat} {rows : List (Nat → Bool)} {s p : Nat → Int}
theorem squares_spec (h : rows.length ≤ 1000) : call G (n + 35) "_law_squares" [.d (.list (rows.map rowD))] [] o = some (.hl o.length, o ++ [Cell.list (sqD rows 8)]) :=
  c_eq (F := F_law_squares) (S NS [("greats", .d (.list (rows.map rowD)))] z0 o) (by rfl') (Ks (C := CS) (B := BS) 1 (S NS (LS rows o) z0 (o ++ [Cell.list (sqD rows 0)])) (by rfl')
    (FO (k := 1) (N := NS) (fun _ => True) 8 elI (fun _ => LS rows o) (fun j => ("choice", ii j) :: LS rows o) (fun j => o ++ [Cell.list (sqD rows j)]) (for_h (by rfl') (by rfl')) (by rfl') (by rfl') (σ := z0) (by rfl') trivial (fun _ _ _ => (by rfl'))
      (fun j σ lt _ => by
        have h := @sqb (n + 3) o σ j rows lt h
        apply h; intro s; exact .inl ⟨rfl, trivial, s, rfl⟩)
      fun σ _ => .of (a := (.ret (.hl o.length), S NS (LS rows o) σ (o ++ [Cell.list (sqD rows 8)]))) (by rfl') ⟨rfl, rfl⟩))
theorem pw_at (h : k < 3) : [PyData.int (p 0), .int (p 1), .int (p 2)][k]? = some (.int (p k)) := match k, h with
  | 0, _ => rfl
  | 1, _ => rfl
  | 2, _ => rfl
theorem ev_fac (hk : k < 3) : ev G (n + 30) CV (kd (sE (sB BVl 1) 0 0) 1) (S NV (("k", ii k) :: LVk q s p c k) σ o) = some (ii (fac p c k), S NV (("k", ii k) :: LVk q s p c k) σ o) := by
  have hp {e : Expr} {n : Nat} (h1 : ev G (n + 1) CV e (S NV (("k", ii k) :: LVk q s p c k) σ o) = evItem (fs G n) CV (kd e 0) (kd e 1) (S NV (("k", ii k) :: LVk q s p c k) σ o)) (h2 : ev G n CV (kd e 0) (S NV (("k", ii k) :: LVk q s p c k) σ o) = some (.d (pwD p), S NV (("k", ii k) :: LVk q s p c k) σ o)) (h3 : ev G n CV (kd e 1) (S NV (("k", ii k) :: LVk q s p c k) σ o) = some (ii k, S NV (("k", ii k) :: LVk q s p c k) σ o)) : ev G (n + 1) CV e (S NV (("k", ii k) :: LVk q s p c k) σ o) = some (ii (p k), S NV (("k", ii k) :: LVk q s p c k) σ o) :=
    x_item h1 h2 h3 (itL (idx_nat hk (show 3 ≤ 1000 by decide)) (pw_at hk))
  have ht : tst G (n + 29) CV (kd (kd (sE (sB BVl 1) 0 0) 1) 0) (S NV (("k", ii k) :: LVk q s p c k) σ o) = some (tb c k, S NV (("k", ii k) :: LVk q s p c k) σ o) := by
    match k, hk with
    | 0, _ => rfl'
    | 1, _ => rfl'
    | 2, _ => rfl'
  refine (x_ifv (tb c k) (by rfl') ht (x_bin (a := ii 1) (v := ii (1 - p k)) (by rfl') (by rfl') (hp (by rfl') (by rfl') (by rfl')) (by rfl')) (x_bin (a := ii 1) (v := ii (1 + p k)) (by rfl') (by rfl') (hp (by rfl') (by rfl') (by rfl')) (by rfl'))).trans ?_
  unfold fac
  cases tb c k <;> rfl
theorem ev_in (hk : k < 3) (hp : i64 (fac p c k) = true) {P : Fl × St → Prop} (h : ∀ σ, P (.next, S NV (LVk q s p c (k + 1)) σ o)) : Hd (exs (ex G (n + 33) CV) ((sB BVl 1).drop 0) (S NV (("k", ii k) :: LVk q s p c k) σ o)) P :=
  A (ii (prod p (s c) c (k + 1))) (S NV (("product", ii (prod p (s c) c (k + 1))) :: ("k", ii k) :: LVk q s p c k) σ o) (by rfl') (x_bin (a := ii (prod p (s c) c k)) (by rfl') (by rfl') (ev_fac (n := n + 1) hk) (mulV (by rw [hp]; exact Bool.or_true _))) (by rfl')
    (.of (a := (.next, S NV (LVk q s p c (k + 1)) (ovs (("product", ii (prod p (s c) c (k + 1))) :: ("k", ii k) :: LVk q s p c k) σ) o)) (by rfl') (h _))
theorem ev_out (hc : c < 8) (hp : ∀ c k, k < 3 → i64 (fac p c k) = true) (hq : Mine.listAt o q = some ((List.range 8).map fun c => .int (s c))) {P : Fl × St → Prop} (h : ∀ σ, P (.next, S NV (LV q s p (c + 1)) σ o)) : Hd (exs (ex G (n + 35) CV) (BVl.drop 0) (S NV (("choice", ii c) :: LV q s p c) σ o)) P :=
  A (ii (s c)) (S NV (LVk q s p c 0) σ o) (by rfl') (x_item (w := .hl q) (by rfl') (by rfl') (by rfl') (it_hl hq (by rw [List.getElem?_map, List.getElem?_range hc]; rfl) (show 8 ≤ 1000 by decide))) (by rfl')
    (FO (k := 1) (N := NV) (fun _ => True) 3 elI (LVk q s p c) (fun k => ("k", ii k) :: LVk q s p c k) (fun _ => o) (for_h (by rfl') (by rfl')) (by rfl') (by rfl') (σ := σ) (by rfl') trivial (fun _ _ _ => (by rfl'))
      (fun k σ lt _ => by
        have h := @ev_in (n + 1) o σ c k q s p lt (hp c k lt)
        apply h; intro s; exact .inl ⟨rfl, trivial, s, rfl⟩)
      fun σ _ => .of (a := (.next, S NV (LV q s p (c + 1)) (ovs (LVk q s p c 3) σ) o)) (by rfl') (h _))
theorem even_spec (hp : ∀ c k, k < 3 → i64 (fac p c k) = true) (hq : Mine.listAt o q = some ((List.range 8).map fun c => .int (s c))) : call G (n + 40) "_law_even" [.hl q, .d (pwD p)] [] o = some (ii (evenF s p 8), o) :=
  c_eq (F := F_law_even) (S NV [("squares", .hl q), ("powers", .d (pwD p))] z0 o) (by rfl') (Ks (C := CV) (B := BV) 1 (S NV (LV q s p 0) z0 o) (by rfl')
    (FO (k := 1) (N := NV) (fun _ => True) 8 elI (LV q s p) (fun c => ("choice", ii c) :: LV q s p c) (fun _ => o) (for_h (by rfl') (by rfl')) (by rfl') (by rfl') (σ := z0) (by rfl') trivial (fun _ _ _ => (by rfl'))
      (fun c σ lt _ => by
        have h := @ev_out (n + 3) o σ c q s p lt hp hq
        apply h; intro s; exact .inl ⟨rfl, trivial, s, rfl⟩)
      fun σ _ => .of (a := (.ret (ii (evenF s p 8)), S NV (LV q s p 8) σ o)) (by rfl') ⟨rfl, rfl⟩))
end
end L1
end
section
open PySem PySem.W Mine V03
namespace Mine
noncomputable def kwsE : Expr → List Keyword | .Call _ _ ks _ => ks | _ => []
section
variable {G : Env'} {n : Nat} {C : Cx} {o o' : Objs} {v a : V} {st : St} {e : Expr} {vs : List V} {ks : List (Str × V)}
theorem x_ob (i : Nat) (m f : Str) (h0 : ev G (n + 1) C e st = evMeth (fs G n) C (.obj i) m (kids e).tail (kwsE e) st) (hf : ("Headers." ++ m : Str) = f) (hr : (instAt st.objs i).isSome = true) (h : evs (ev G n C) (kids e).tail st = some (vs, st)) (hk : evKws (ev G n C) (kwsE e) st = some (ks, st)) (hc : call G n f (.obj i :: vs) ks st.objs = some (v, o')) : ev G (n + 1) C e st = some (v, ⟨st.vars, o'⟩) := by
  subst hf
  rw [h0]; show gd (instAt st.objs i).isSome ((evs (ev G n C) (kids e).tail st).bind _) = _
  rw [gd_t hr, h]; show (evKws (ev G n C) (kwsE e) st).bind _ = _
  rw [hk]; show (call G n ("Headers." ++ m) (.obj i :: vs) ks st.objs).map _ = _
  rw [hc]; rfl
theorem x_pt (b : Bool) (s : List Nat) (h0 : ev G (n + 1) C e st = evMeth (fs G n) C (.pat b) "search" [kd e 1] [] st) (h : ev G n C (kd e 1) st = some (L1.tx s, st)) (hs : (s.all fun c => decide (32 ≤ c) && c != 127) = true) : ev G (n + 1) C e st = some (.d .none, st) := by
  rw [h0]; show (evs (ev G n C) [kd e 1] st).bind _ = _
  rw [evs1 h]; exact gd_t hs
theorem x_low (s : List Nat) (h0 : ev G (n + 1) C e st = evMeth (fs G n) C (L1.tx s) "lower" [] [] st) (hl : s.length ≤ 1000) : ev G (n + 1) C e st = some (.d (.str (Txt.lower (mkS s))), st) := by
  rw [h0]; show (gd (decide (s.length ≤ maxLen)) _).map _ = _
  rw [gd_t (L1.maxL hl)]; rfl
end
end Mine
namespace L1
theorem tf {P : Prop} (h : true = false) : P := Bool.noConfusion h
theorem ft {P : Prop} (h : false = true) : P := Bool.noConfusion h
noncomputable def okW (w : List Nat) : Bool := w.all fun c => decide (32 ≤ c) && c != 127
noncomputable def NC : List Str := ["self", "value", "name", "regex"]
noncomputable def BC : List Stmt := F_Hconvert_string_type.body
noncomputable def CC : Cx := Cf F_Hconvert_string_type
noncomputable def LC (i : Nat) (w : List Nat) (b : Bool) : List (Str × V) := [("self", .obj i), ("value", tx w), ("name", .d (.bool b))]
section
variable {n i : Nat} {w : List Nat} {b : Bool} {o : Objs}
theorem cv_spec (hw : okW w = true) : call G (n + 20) "Headers._convert_string_type" [.obj i, tx w] [("name", .d (.bool b))] o = some (tx w, o) :=
  by
  have hp (b : Bool) : ev G (n + 17) CC (sE (sB BC 0) 0 0) (S NC (LC i w b) z0 o) = some (.pat b, S NC (LC i w b) z0 o) := by cases b <;> rfl'
  refine c_eq (F := F_Hconvert_string_type) (S NC (LC i w b) z0 o) (by rfl') ?_
  refine IR (C := CC) (B := BC) (n := n + 18) (k := 0) true (by rfl') (by rfl') (fun _ => ?_) tf
  refine A (.pat b) (S NC (("regex", .pat b) :: LC i w b) z0 o) (by rfl') (hp b) (by rfl') ?_
  refine IR false (by rfl') (t_val (by rfl') (x_pt b w (by rfl') (by rfl') hw) (by rfl')) ft fun _ => ?_
  exact .of (a := (.ret (tx w), S NC (("regex", .pat b) :: LC i w b) z0 o)) (by rfl') (Nx.r ⟨rfl, rfl⟩)
end
end L1
end
section
open PySem PySem.W Mine V03
namespace Mine
section
variable {G : Env'} {n : Nat} {C : Cx} {o o' : Objs} {v a : V} {st : St} {B : List Stmt} {k : Nat} {P : Fl × St → Prop}
theorem FI {N : List Str} (it : It) (J : Nat → Prop) (m : Nat) (el : Nat → PyData) (L L1 : Nat → List (Str × V)) (O : Nat → Objs) (h0 : ∀ st, exs (ex G (n + 1) C) (B.drop k) st = ((iter G n C (sE B k 0) st).bind fun p => gd (okTarget p.1 (sE B k 1)) (forL (fun x st => bind G n C (sE B k 1) (.d x) st) (exs (ex G n C) (sB B k)) p.1 loopFuel 0 p.2)).bind fun p => bif p.1.isNext then exs (ex G (n + 1) C) (B.drop (k + 1)) p.2 else some p)
    (hk : okTarget it (sE B k 1) = true) (hit : ∀ j, nextIt (O j) j it = some ((List.range m).map el)[j]?) (hi : iter G n C (sE B k 0) st = some (it, st)) (hl : decide (m ≤ maxLen) = true) {σ : Str → Option V} (hs : st = S N (L 0) σ (O 0)) (hJ : J 0) (hb : ∀ j σ, j < m → bind G n C (sE B k 1) (.d (el j)) (S N (L j) σ (O j)) = some (S N (L1 j) σ (O j)))
    (hf : ∀ j σ, j < m → J j → Hd (exs (ex G n C) ((sB B k).drop 0) (S N (L1 j) σ (O j))) fun p => (p.1 = .next ∧ J (j + 1) ∧ ∃ σ', p.2 = S N (L (j + 1)) σ' (O (j + 1))) ∨ (∃ v, p.1 = .ret v) ∧ P p) (h2 : ∀ σ, J m → Hd (exs (ex G (n + 1) C) (B.drop (k + 1)) (S N (L m) σ (O m))) P) : Hd (exs (ex G (n + 1) C) (B.drop k) st) P := by
  rw [h0, hi]
  have e : ((List.range m).map el).length = m := (List.length_map ..).trans List.length_range
  have q : Hd (forL (fun x st => bind G n C (sE B k 1) (.d x) st) (exs (ex G n C) (sB B k)) it loopFuel 0 st) (Nx G (n + 1) C (B.drop (k + 1)) P) := f_all (xs := (List.range m).map el) (fun j st => J j ∧ ∃ σ, st = S N (L j) σ (O j)) (fun j st ⟨_, σ, e⟩ => by rw [e]; exact hit j)
    (fun j x st hx hI => by
      obtain ⟨hJ, σ, rfl⟩ := hI
      obtain ⟨a, ha, rfl⟩ := Option.map_eq_some_iff.mp (List.getElem?_map.symm.trans hx)
      have lt : j < m := List.length_range (n := m) ▸ (List.getElem?_eq_some_iff.mp ha).1
      rw [List.getElem?_range lt] at ha
      cases ha
      exact .of (hb j σ lt) ((hf j σ lt hJ).get fun p hp h => .of hp (h.imp_right fun ⟨⟨v, e⟩, h⟩ => ⟨⟨v, e⟩, by obtain ⟨f, s⟩ := p; cases (e : f = .ret v); exact h⟩)))
    (fun st ⟨hJ, σ, hI⟩ => by rw [e] at hI hJ; cases hI; exact h2 σ hJ) m 0 loopFuel st ((Nat.zero_add m).trans e.symm) (Nat.lt_succ_of_le (of_decide_eq_true hl)) ⟨hJ, σ, hs⟩
  show Hd ((gd (okTarget it (sE B k 1)) _).bind _) P
  exact q.get fun p hp h => by rw [gd_t hk, hp]; exact h
theorem c_it {α : Type} {it : It} {l : List α} {φ : α → PyData} {c : α → Bool} {ψ : α → PyData} {f : PyData → St → List PyData → Option (List PyData × St)} (I : St → Prop) (hit : ∀ j st, I st → nextIt st.objs j it = some (l.map φ)[j]?) (hf : ∀ x st acc, x ∈ l → I st → acc.length < maxLen → Hd (f (φ x) st acc) fun q => q.1 = acc ++ (bif c x then [ψ x] else []) ∧ I q.2) :
    ∀ (r : List α) (j fuel : Nat) (st : St) (acc : List PyData), l.drop j = r → r.length < fuel → acc.length + r.length ≤ maxLen → I st → Hd (compL f it fuel j st acc) fun q => q.1 = acc ++ (r.filter c).map ψ ∧ I q.2
  | _, _, 0, _, _, _, h, _, _ => absurd h (Nat.not_lt_zero _)
  | [], j, fuel + 1, st, acc, hr, _, _, hI => by
    show Hd ((nextIt st.objs j it).bind _) _
    rw [hit j st hI, List.getElem?_map, show l[j]? = none from List.getElem?_drop.symm.trans (congrArg (·[0]?) hr)]
    exact ⟨(List.append_nil acc).symm, hI⟩
  | x :: r, j, fuel + 1, st, acc, hr, h, ha, hI => by
    have hx : l[j]? = some x := List.getElem?_drop.symm.trans (congrArg (·[0]?) hr)
    show Hd ((nextIt st.objs j it).bind _) _
    rw [hit j st hI, List.getElem?_map, hx]
    show Hd ((f (φ x) st acc).bind _) _
    refine (hf x st acc (List.mem_of_getElem? hx) hI (Nat.lt_of_lt_of_le (Nat.lt_add_of_pos_right (Nat.succ_pos _)) ha)).get fun p hp ⟨e, hI⟩ => ?_
    rw [hp]
    refine (c_it I hit hf r (j + 1) fuel p.2 p.1 (List.drop_drop.symm.trans (congrArg (List.drop 1) hr)) (Nat.lt_of_succ_lt_succ h) ?_ hI).get fun q hq ⟨e2, hI⟩ => .of hq ⟨?_, hI⟩
    · rw [e]
      cases c x <;> simp <;> simp at ha <;> omega
    · rw [e2, e, List.filter_cons]
      cases c x <;> simp
theorem x_fit {α : Type} {N : List Str} {e : Expr} (it : It) (l : List α) (φ : α → PyData) (c : α → Bool) (w : α → V) (ψ : α → PyData) (L : List (Str × V)) (L1 : α → List (Str × V)) (σ : Str → Option V)
    (h0 : ev G (n + 3) C e st = ((iter G (n + 2) C (kd e 1) st).bind fun p => gd (compOk C (gnE e).2 p.2.vars) ((gd (okTarget p.1 (kd e 2)) (compL (fun x st acc => (bind G (n + 1) ⟨(gnE e).2, []⟩ (kd e 2) (.d x) st).bind fun st => (evAnd (tst G (n + 1) ⟨(gnE e).2, []⟩) ((kids e).drop 3) st).bind fun p => bif p.1 then ((ev G (n + 1) ⟨(gnE e).2, []⟩ (kd e 0) p.2).bind fun p => (rd0 p.1).bind fun y => gd (decide (acc.length < maxLen)) (some (acc ++ [y], p.2))) else some (acc, p.2)) p.1 loopFuel 0
        ⟨((localNames (gnE e).2).map fun x => (x, none)) ++ p.2.vars.filter (fun x => freeIn (gnE e).2 x.1), p.2.objs⟩ [])).bind fun q => gd (decide (q.1.length ≤ maxLen)) (some (.fl q.1, ⟨p.2.vars, q.2.objs⟩)))))
    (hi : iter G (n + 2) C (kd e 1) st = some (it, st)) (hq : okTarget it (kd e 2) = true) (hit : ∀ j, nextIt st.objs j it = some (l.map φ)[j]?) (hk : compOk C (gnE e).2 st.vars = true) (hl : decide (l.length ≤ 1000) = true) (hs : (⟨((localNames (gnE e).2).map fun x => (x, none)) ++ st.vars.filter (fun x => freeIn (gnE e).2 x.1), st.objs⟩ : St) = S N L σ st.objs)
    (hb : ∀ x σ, x ∈ l → bind G (n + 1) ⟨(gnE e).2, []⟩ (kd e 2) (.d (φ x)) (S N L σ st.objs) = some (S N (L1 x) σ st.objs)) (hw : ∀ x σ, S N (L1 x) σ st.objs = S N L (ovs (L1 x) σ) st.objs)
    (ht : ∀ x σ, x ∈ l → evAnd (tst G (n + 1) ⟨(gnE e).2, []⟩) ((kids e).drop 3) (S N (L1 x) σ st.objs) = some (c x, S N (L1 x) σ st.objs)) (he : ∀ x σ, x ∈ l → c x = true → ev G (n + 1) ⟨(gnE e).2, []⟩ (kd e 0) (S N (L1 x) σ st.objs) = some (w x, S N (L1 x) σ st.objs)) (hr : ∀ x, x ∈ l → rd0 (w x) = some (ψ x)) :
    ev G (n + 3) C e st = some (.fl ((l.filter c).map ψ), st) := by
  rw [h0, hi]
  show gd (compOk C (gnE e).2 st.vars) ((gd (okTarget it (kd e 2)) _).bind _) = _
  rw [hk, hq, hs]
  generalize hz : compL _ _ _ _ _ _ = z
  have H : Hd z fun q => q.1 = [] ++ (l.filter c).map ψ ∧ ∃ σ, q.2 = S N L σ st.objs := by
    rw [← hz]
    refine c_it (fun st' => ∃ σ, st' = S N L σ st.objs) (fun j st' ⟨σ, e⟩ => by rw [e]; exact hit j) (fun x s acc hx hI hl => ?_) l 0 loopFuel _ [] rfl (Nat.lt_succ_of_le (Nat.le_trans (of_decide_eq_true hl) (by decide))) (by rw [List.length_nil, Nat.zero_add]; exact Nat.le_trans (of_decide_eq_true hl) (by decide)) ⟨σ, rfl⟩
    obtain ⟨σ, rfl⟩ := hI
    show Hd ((bind _ _ _ _ _ (S N L σ st.objs)).bind _) _
    rw [hb x σ hx]
    show Hd ((evAnd _ _ (S N (L1 x) σ st.objs)).bind _) _
    rw [ht x σ hx]
    cases q : c x with
    | false => exact ⟨(List.append_nil _).symm, _, hw x σ⟩
    | true =>
      show Hd ((ev _ _ _ _ (S N (L1 x) σ st.objs)).bind _) _
      rw [he x σ hx q]; show Hd ((rd0 (w x)).bind _) _
      rw [hr x hx]; show Hd (gd (decide (acc.length < maxLen)) _) _
      rw [decide_eq_true hl]
      exact ⟨rfl, _, hw x σ⟩
  exact H.get fun q hq ⟨e, σ', h⟩ => by
    rw [gd_t rfl, gd_t rfl, hq]
    show gd (decide (q.1.length ≤ maxLen)) (some (V.fl q.1, (⟨st.vars, q.2.objs⟩ : St))) = _
    rw [e, h]
    exact gd_t (decide_eq_true (Nat.le_trans (Nat.le_of_eq (by rw [List.nil_append, List.length_map])) (Nat.le_trans (List.length_filter_le ..) (Nat.le_trans (of_decide_eq_true hl) (by decide)))))
theorem x_mit {α : Type} {N : List Str} {e : Expr} (it : It) (l : List α) (φ : α → PyData) (w : α → V) (ψ : α → PyData) (L : List (Str × V)) (L1 : α → List (Str × V)) (σ : Str → Option V)
    (h0 : ev G (n + 3) C e st = ((iter G (n + 2) C (kd e 1) st).bind fun p => gd (compOk C (gnE e).2 p.2.vars) ((gd (okTarget p.1 (kd e 2)) (compL (fun x st acc => (bind G (n + 1) ⟨(gnE e).2, []⟩ (kd e 2) (.d x) st).bind fun st => (evAnd (tst G (n + 1) ⟨(gnE e).2, []⟩) ((kids e).drop 3) st).bind fun p => bif p.1 then ((ev G (n + 1) ⟨(gnE e).2, []⟩ (kd e 0) p.2).bind fun p => (rd0 p.1).bind fun y => gd (decide (acc.length < maxLen)) (some (acc ++ [y], p.2))) else some (acc, p.2)) p.1 loopFuel 0
        ⟨((localNames (gnE e).2).map fun x => (x, none)) ++ p.2.vars.filter (fun x => freeIn (gnE e).2 x.1), p.2.objs⟩ [])).bind fun q => gd (decide (q.1.length ≤ maxLen)) (some (.fl q.1, ⟨p.2.vars, q.2.objs⟩)))))
    (hi : iter G (n + 2) C (kd e 1) st = some (it, st)) (hq : okTarget it (kd e 2) = true) (hit : ∀ j, nextIt st.objs j it = some (l.map φ)[j]?) (hk : compOk C (gnE e).2 st.vars = true) (hl : decide (l.length ≤ 1000) = true) (hs : (⟨((localNames (gnE e).2).map fun x => (x, none)) ++ st.vars.filter (fun x => freeIn (gnE e).2 x.1), st.objs⟩ : St) = S N L σ st.objs)
    (hb : ∀ x σ, x ∈ l → bind G (n + 1) ⟨(gnE e).2, []⟩ (kd e 2) (.d (φ x)) (S N L σ st.objs) = some (S N (L1 x) σ st.objs)) (hw : ∀ x σ, S N (L1 x) σ st.objs = S N L (ovs (L1 x) σ) st.objs)
    (ht : (kids e).drop 3 = []) (he : ∀ x σ, x ∈ l → ev G (n + 1) ⟨(gnE e).2, []⟩ (kd e 0) (S N (L1 x) σ st.objs) = some (w x, S N (L1 x) σ st.objs)) (hr : ∀ x, x ∈ l → rd0 (w x) = some (ψ x)) :
    ev G (n + 3) C e st = some (.fl (l.map ψ), st) :=
  (x_fit (c := fun _ => true) it l φ w ψ L L1 σ h0 hi hq hit hk hl hs hb hw (fun x σ _ => by rw [ht]; rfl) (fun x σ h _ => he x σ h) hr).trans (congrArg (fun l => some (V.fl (l.map ψ), st)) (List.filter_eq_self.mpr fun _ _ => rfl))
end
end Mine
end
section
open PySem PySem.W Mine V03
namespace L1
noncomputable abbrev Ent := List Nat × List Nat
noncomputable def entD (p : Ent) : PyData := .tuple [txtD p.1, txtD p.2]
noncomputable def lowW (w : List Nat) : List Nat := strL (Txt.lower (mkS w))
noncomputable def kwN (b : Bool) : List (Str × V) := [("name", .d (.bool b))]
structure HA (o : Objs) (i h : Nat) (es : List Ent) : Prop where
  i : instAt o i = some (some h)
  l : Mine.listAt o h = some (es.map entD)
  n : es.length ≤ 1000
section
variable {n i h : Nat} {w : List Nat} {o : Objs} {es : List Ent} {st : St} {e : Expr} {C : Cx}
theorem x_hd (h0 : ev G (n + 1) C e st = evAttr (fs G n) C (kd e 0) "_headers" st) (h1 : ev G n C (kd e 0) st = some (.obj i, st)) (H : HA st.objs i h es) : ev G (n + 1) C e st = some (.hl h, st) := by
  rw [h0]; show (ev G n C (kd e 0) st).bind _ = _
  rw [h1]; show (instAt st.objs i).bind _ = _
  rw [H.i]; rfl
theorem i_hd (h0 : iter G (n + 1) C e st = iterV (fs G n) C e st) (h1 : ev G n C e st = some (.hl h, st)) (H : HA st.objs i h es) : iter G (n + 1) C e st = some (.cell h, st) :=
  i_val h0 h1 (by show (Mine.listAt st.objs h).map _ = _; rw [H.l]; rfl)
theorem x_cv (k : Expr) (w : List Nat) (b : Bool) (h0 : ev G (n + 21) C e st = evMeth (fs G (n + 20)) C (.obj i) "_convert_string_type" (kids e).tail (kwsE e) st) (hk : evKws (ev G (n + 20) C) (kwsE e) st = some (kwN b, st)) (hr : (instAt st.objs i).isSome = true) (h : evs (ev G (n + 20) C) (kids e).tail st = some ([tx w], st)) (hw : okW w = true) : ev G (n + 21) C e st = some (tx w, st) :=
  x_ob i "_convert_string_type" "Headers._convert_string_type" h0 (by rfl') hr h hk (cv_spec hw)
end
noncomputable def NA : List Str := ["self", "name"]
noncomputable def BA : List Stmt := F_H_get_all.body
noncomputable def CA : Cx := Cf F_H_get_all
noncomputable def sH (w : List Nat) (p : Ent) : Bool := lowW p.1 == w
noncomputable def LA (i : Nat) (w : List Nat) : List (Str × V) := [("self", .obj i), ("name", tx w)]
section
variable {n i h : Nat} {w : List Nat} {o : Objs} {es : List Ent}
theorem HA.is (H : HA o i h es) : (instAt o i).isSome = true := by rw [H.i]; rfl
theorem HA.it (H : HA o i h es) (j : Nat) : nextIt o j (.cell h) = some (es.map entD)[j]? := by
  show (Mine.listAt o h).map _ = _
  rw [H.l]; rfl
theorem nm_low (C : Cx) {e : Expr} {st : St} (h0 : ev G (n + 21) C e st = evMeth (fs G (n + 20)) C (.obj i) "_convert_string_type" (kids e).tail (kwsE e) st) (hk : evKws (ev G (n + 20) C) (kwsE e) st = some (kwN true, st)) (H : HA st.objs i h es) (ha : (kids e).tail = [kd e 1]) (hl : ev G (n + 20) C (kd e 1) st = evMeth (fs G (n + 19)) C (tx w) "lower" [] [] st) (h1 : w.length ≤ 1000) (h2 : okW (lowW w) = true) : ev G (n + 21) C e st = some (tx (lowW w), st) :=
  x_cv e (lowW w) true h0 hk H.is (ha ▸ evs1 (x_low w hl h1)) h2
theorem ga_1 (H : HA o i h es) (hn : ∀ p ∈ es, p.1.length ≤ 1000) : ev G (n + 30) CA (sE BA 1 0) (S NA (LA i w) z0 o) = some (.fl ((es.filter (sH w)).map fun p => txtD p.2), S NA (LA i w) z0 o) :=
  x_fit (N := [".0", "kv", "name"]) (.cell h) es entD (sH w) (fun p => tx p.2) (fun p => txtD p.2) [("name", tx w)] (fun p => [("kv", .d (entD p)), ("name", tx w)]) z0 (by rfl') (i_hd (by rfl') (x_hd (by rfl') (by rfl') H) H) (by rfl') H.it (by rfl') (decide_eq_true H.n) (by rfl') (fun _ _ _ => (by rfl')) (fun _ _ => (by rfl'))
    (fun p σ hp => a_1 (t_cmp .Eq (b := tx w) (by rfl') (x_low p.1 (by rfl') (hn p hp)) (by rfl') (by rfl'))) (fun _ _ _ _ => (by rfl')) (fun _ _ => (by rfl'))
theorem all_spec (H : HA o i h es) (hn : ∀ p ∈ es, p.1.length ≤ 1000) (h1 : w.length ≤ 1000) (h2 : okW (lowW w) = true) : call G (n + 35) "Headers.get_all" [.obj i, tx w] [] o = some (.fl ((es.filter (sH (lowW w))).map fun p => txtD p.2), o) :=
  c_eq (F := F_H_get_all) (S NA (LA i w) z0 o) (by rfl') (A (C := CA) (B := BA) (k := 0) (tx (lowW w)) (S NA (LA i (lowW w)) z0 o) (by rfl') (nm_low CA (by rfl') (by rfl') H (by rfl') (by rfl') h1 h2) (by rfl') (R (by rfl') (ga_1 H hn) ⟨rfl, rfl⟩))
end
end L1
end
section
open PySem PySem.W Mine V03
namespace Mine
variable {G : Env'} {n : Nat} {C : Cx} {v a b : V} {st : St} {e : Expr}
theorem x_cmp (op : CmpOp) {c} (h0 : ev G (n + 1) C e st = (ev G n C (kd e 0) st).bind fun p => (evChain (ev G n C) p.1 [op] [kd e 1] p.2).map fun q => (V.d (.bool q.1), q.2)) (h1 : ev G n C (kd e 0) st = some (a, st)) (h2 : ev G n C (kd e 1) st = some (b, st)) (hc : cmpop st.objs op a b = some c) : ev G (n + 1) C e st = some (.d (.bool c), st) := by
  rw [h0, h1]; show ((ev G n C (kd e 1) st).bind _).map _ = _
  rw [h2]; show ((cmpop st.objs op a b).bind _).map _ = _
  rw [hc]; rfl
end Mine
namespace L1
theorem range_map {α β : Type} {d : α} {f : α → β} {l : List α} : (List.range l.length).map (fun j => f (l.getD j d)) = l.map f := by
  refine List.ext_getElem? fun j => ?_
  rw [List.getElem?_map, List.getElem?_map]
  rcases Nat.lt_or_ge j l.length with h | h
  · rw [List.getElem?_range h]; show some (f (l.getD j d)) = _; rw [List.getD_eq_getElem?_getD, List.getElem?_eq_getElem h]; rfl
  · rw [List.getElem?_eq_none (Nat.le_trans (Nat.le_of_eq List.length_range) h), List.getElem?_eq_none h]; rfl
theorem find_step {α : Type} {d : α} {c : α → Bool} {l : List α} {j : Nat} (lt : j < l.length) : (l.drop j).find? c = bif c (l.getD j d) then some (l.getD j d) else (l.drop (j + 1)).find? c := by
  rw [List.drop_eq_getElem_cons lt, List.find?_cons, List.getD_eq_getElem?_getD, List.getElem?_eq_getElem lt]
  show (match c l[j] with | true => some l[j] | false => _) = bif c l[j] then some l[j] else _
  cases c l[j] <;> rfl
noncomputable def NG : List Str := ["self", "name", "default", "k", "v"]
noncomputable def BG : List Stmt := F_H_get.body
noncomputable def CG : Cx := Cf F_H_get
noncomputable def LG (i : Nat) (w : List Nat) : List (Str × V) := [("self", .obj i), ("name", tx w), ("default", .d .none)]
noncomputable def ent (es : List Ent) (j : Nat) : Ent := es.getD j ([], [])
noncomputable def fndV (x : Option Ent) : V := x.elim (.d .none) fun p => tx p.2
section
variable {n i h : Nat} {w : List Nat} {o : Objs} {es : List Ent}
theorem get_spec (H : HA o i h es) (hn : ∀ p ∈ es, p.1.length ≤ 1000) (h1 : w.length ≤ 1000) (h2 : okW (lowW w) = true) : call G (n + 35) "Headers.get" [.obj i, tx w] [] o = some (fndV (es.find? (sH (lowW w))), o) :=
  c_eq (F := F_H_get) (S NG (LG i w) z0 o) (by rfl') (A (C := CG) (B := BG) (k := 0) (tx (lowW w)) (S NG (LG i (lowW w)) z0 o) (by rfl') (nm_low CG (by rfl') (by rfl') H (by rfl') (by rfl') h1 h2) (by rfl')
    (FI (.cell h) (fun j => es.find? (sH (lowW w)) = (es.drop j).find? (sH (lowW w))) es.length (fun j => entD (ent es j)) (fun _ => LG i (lowW w)) (fun j => ("k", tx (ent es j).1) :: ("v", tx (ent es j).2) :: LG i (lowW w)) (fun _ => o) (for_h (by rfl') (by rfl')) (by rfl') (fun j => (H.it j).trans (congrArg (fun l => some l[j]?) range_map.symm)) (i_hd (by rfl') (x_hd (by rfl') (by rfl') H) H) (maxL H.n) (σ := z0) (by rfl') rfl (fun _ _ _ => (by rfl'))
      (fun j σ lt hJ => IR (sH (lowW w) (ent es j)) (by rfl') (t_cmp .Eq (b := tx (lowW w)) (by rfl') (x_low (ent es j).1 (by rfl') (hn _ (by unfold ent; rw [List.getD_eq_getElem?_getD, List.getElem?_eq_getElem lt]; exact List.getElem_mem lt))) (by rfl') (by rfl'))
        (fun q => .of (a := (.ret (tx (ent es j).2), S NG (("k", tx (ent es j).1) :: ("v", tx (ent es j).2) :: LG i (lowW w)) σ o)) (by rfl') (Nx.r (.inr ⟨⟨_, rfl⟩, by rw [hJ, find_step (d := ([], [])) lt, show sH (lowW w) (es.getD j ([], [])) = true from q]; rfl, rfl⟩)))
        fun q => .of (a := (.next, S NG (LG i (lowW w)) (ovs (("k", tx (ent es j).1) :: ("v", tx (ent es j).2) :: LG i (lowW w)) σ) o)) (by rfl') (.inl ⟨rfl, by rw [hJ, find_step (d := ([], [])) lt, show sH (lowW w) (es.getD j ([], [])) = false from q]; rfl, _, rfl⟩))
      fun σ hJ => .of (a := (.ret (.d .none), S NG (LG i (lowW w)) σ o)) (by rfl') ⟨by rw [hJ, List.drop_length]; rfl, rfl⟩))
theorem in_spec (H : HA o i h es) (hn : ∀ p ∈ es, p.1.length ≤ 1000) (h1 : w.length ≤ 1000) (h2 : okW (lowW w) = true) : call G (n + 40) "Headers.__contains__" [.obj i, tx w] [] o = some (.d (.bool (es.find? (sH (lowW w))).isSome), o) :=
  c_eq (F := F_H_contains) (S NA (LA i w) z0 o) (by rfl') (R (C := Cf F_H_contains) (B := F_H_contains.body) (k := 0) (by rfl') (x_cmp .IsNot (a := fndV (es.find? (sH (lowW w)))) (b := .d .none) (by rfl') (x_ob i "get" "Headers.get" (by rfl') (by rfl') H.is (evs1 (by rfl')) (by rfl') (get_spec H hn h1 h2)) (by rfl') (by cases es.find? (sH (lowW w)) <;> rfl)) ⟨rfl, rfl⟩)
theorem keys_spec (H : HA o i h es) : call G (n + 20) "Headers.keys" [.obj i] [] o = some (.fl (es.map fun p => txtD p.1), o) :=
  c_eq (F := F_H_keys) (S ["self"] [("self", .obj i)] z0 o) (by rfl') (R (C := Cf F_H_keys) (B := F_H_keys.body) (k := 0) (by rfl')
    (x_mit (N := [".0", "k", "v"]) (.cell h) es entD (fun p => tx p.1) (fun p => txtD p.1) [] (fun p => [("k", tx p.1), ("v", tx p.2)]) z0 (by rfl') (i_hd (by rfl') (x_hd (by rfl') (by rfl') H) H) (by rfl') H.it (by rfl') (decide_eq_true H.n) (by rfl') (fun _ _ _ => (by rfl')) (fun _ _ => (by rfl')) (by rfl') (fun _ _ _ => (by rfl')) (fun _ _ => (by rfl'))) ⟨rfl, rfl⟩)
end
end L1
end
section
open PySem PySem.W Mine V03
namespace Mine
variable {G : Env'} {n : Nat} {C : Cx} {v a : V} {st : St} {e : Expr} {P : Fl × St → Prop} {B : List Stmt} {k : Nat}
theorem E1 (h0 : exs (ex G (n + 1) C) (B.drop k) st = ((ev G n C (sE B k 0) st).map fun p => (Fl.next, p.2)).bind fun p => bif p.1.isNext then exs (ex G (n + 1) C) (B.drop (k + 1)) p.2 else some p) {st2 : St} (h : ev G n C (sE B k 0) st = some (v, st2)) (h2 : Hd (exs (ex G (n + 1) C) (B.drop (k + 1)) st2) P) : Hd (exs (ex G (n + 1) C) (B.drop k) st) P := by
  rw [h0, h]; exact h2
theorem x_tup {vs xs} (h0 : ev G (n + 1) C e st = evTup (fs G n) C (kids e) st) (h : evs (ev G n C) (kids e) st = some (vs, st)) (hl : decide (vs.length ≤ maxLen) = true) (hx : rd0s vs = some xs) : ev G (n + 1) C e st = some (.d (.tuple xs), st) := by
  rw [h0]; show (evs (ev G n C) (kids e) st).bind _ = _
  rw [h]; show gd (decide (vs.length ≤ maxLen)) _ = _
  rw [hl]; show (rd0s vs).map _ = _
  rw [hx]; rfl
theorem c_nx {f : Str} {F : Fn} {vs : List V} {ks : List (Str × V)} {o o' : Objs} (st : St) (h0 : call G (n + 1) f vs ks o = (exs (ex G n ⟨F.scope, F.mv⟩) (F.body.drop 0) st).bind fun p => p.1.val.map fun v => (v, p.2.objs)) (h : Hd (exs (ex G n ⟨F.scope, F.mv⟩) (F.body.drop 0) st) fun p => p.1 = .next ∧ p.2.objs = o') : call G (n + 1) f vs ks o = some (.d .none, o') := by
  rw [h0]; exact h.get fun p hp ⟨h1, h2⟩ => by
    rw [hp]; show p.1.val.map _ = _
    rw [h1, ← h2]; rfl
theorem APx {i : Nat} {xs : List PyData} {x : PyData} (h0 : exs (ex G (n + 2) C) (B.drop k) st = (((ev G n C (kd (kd (sE B k 0) 0) 0) st).bind fun p => evMeth (fs G n) C p.1 "append" [kd (sE B k 0) 1] [] p.2).map fun p => (Fl.next, p.2)).bind fun p => bif p.1.isNext then exs (ex G (n + 2) C) (B.drop (k + 1)) p.2 else some p)
    (h1 : ev G n C (kd (kd (sE B k 0) 0) 0) st = some (.hl i, st)) (hl : listAt st.objs i = some xs) (h : ev G n C (kd (sE B k 0) 1) st = some (v, st)) (hx : rd0 v = some x) (hn : decide (xs.length < maxLen) = true) (h2 : Hd (exs (ex G (n + 2) C) (B.drop (k + 1)) (setCell i (.list (xs ++ [x])) st)) P) : Hd (exs (ex G (n + 2) C) (B.drop k) st) P :=
  AP (h0.trans (by rw [h1]; rfl)) hl h hx hn h2
end Mine
namespace L1
noncomputable def NB : List Str := ["self", "_name", "_value", "_params", "parts", "k", "v"]
noncomputable def BB : List Stmt := F_H_add_header.body
noncomputable def CB : Cx := Cf F_H_add_header
noncomputable def LB0 (i : Nat) (a b : List Nat) : List (Str × V) := [("self", .obj i), ("_name", tx a), ("_value", tx b), ("_params", .d (.dict []))]
noncomputable def LB (p i : Nat) (a b : List Nat) : List (Str × V) := ("parts", .hl p) :: LB0 i a b
noncomputable def addO (o : Objs) (h : Nat) (es : List Ent) (a b : List Nat) : Objs := (o ++ [Cell.list [txtD b]]).set h (.list ((es ++ [(a, b)]).map entD))
section
variable {n i h p : Nat} {a b w : List Nat} {o c : Objs} {es : List Ent} {σ : Str → Option V}
theorem instAt_app (h : instAt o i = some x) : instAt (o ++ c) i = some x := by
  unfold instAt at h ⊢
  obtain ⟨a, ha, _⟩ := Option.bind_eq_some_iff.mp h
  rw [List.getElem?_append_left (List.getElem?_eq_some_iff.mp ha).1]; exact h
theorem HA.app (H : HA o i h es) : HA (o ++ c) i h es := ⟨instAt_app H.i, listAt_app H.l, H.n⟩
theorem join1 {s : List Nat} (hs : s.length ≤ 10) (hb : b.length ≤ 1000) {xs : List PyData} (hp : Mine.listAt o p = some xs) (hx : xs = [txtD b]) : callM o (mkS s) "join" [.hl p] = some (tx b) := by
  subst hx
  show (((Mine.listAt o p).map PyData.list).bind lst?).bind _ = _
  rw [hp]
  show gd (JoinOk (mkS s) [mkS b]) (some (V.d (.str (Txt.join (mkS s) [mkS b])))) = _
  rw [gd_t ?_]
  · unfold Txt.join; rw [StrLaws.glued_eq_join]; rfl
  · unfold JoinOk
    exact (Bool.not_eq_true' _).mpr (decide_eq_false (Nat.not_lt.mpr (by rw [sizeLine_eq]; show 0 + b.length + s.length ≤ _; omega)))
theorem add_spec (H : HA o i h es) (hn : es.length < 1000) (ha : okW a = true) (hb : okW b = true) (hl : b.length ≤ 1000) : call G (n + 60) "Headers.add_header" [.obj i, tx a, tx b] [] o = some (.d .none, addO o h es a b) := by
  have e1 : (es ++ [(a, b)]).map entD = es.map entD ++ [entD (a, b)] := List.map_append
  refine c_nx (F := F_H_add_header) (S NB (LB0 i a b) z0 o) (by rfl') ?_
  refine A (C := CB) (B := BB) (k := 0) (st1 := S NB (LB0 i a b) z0 o) (.fl []) (S NB (LB o.length i a b) z0 (o ++ [Cell.list []])) (by rfl') (by rfl') (by rfl') ?_
  refine I true (by rfl') (by rfl') (fun _ => ?_) tf
  refine A (tx b) (S NB (LB o.length i a b) z0 (o ++ [Cell.list []])) (by rfl') (x_cv e0 b false (by rfl') (by rfl') H.app.is (by rfl') hb) (by rfl') ?_
  refine APE [txtD b] (v := tx b) (x := txtD b) (by rfl') (by rfl') (by rfl') (by rfl') (by rfl') ?_
  refine .of (a := (.next, S NB (LB o.length i a b) z0 (o ++ [Cell.list [txtD b]]))) (by rfl') (Nx.i ?_)
  refine Ks 1 (S NB (LB o.length i a b) z0 (o ++ [Cell.list [txtD b]])) (by rfl') ?_
  refine APx (v := .d (entD (a, b))) (i := h) (xs := es.map entD) (x := entD (a, b)) (by rfl') (x_hd (by rfl') (by rfl') H.app) H.app.l (x_tup (by rfl') (evs_c (x_cv e0 a true (by rfl') (by rfl') H.app.is (by rfl') ha) (evs1 (x_mt [59, 32] "join" (by rfl') (by rfl') (by rfl') (join1 (show 2 ≤ 10 by decide) hl at_end rfl)))) (by rfl') (by rfl')) (by rfl') (decide_eq_true (Nat.lt_trans (Nat.lt_of_le_of_lt (Nat.le_of_eq (List.length_map ..)) hn) (by decide))) ?_
  rw [← e1]; exact .of (a := (.next, setCell h (.list ((es ++ [(a, b)]).map entD)) (S NB (LB o.length i a b) z0 (o ++ [Cell.list [txtD b]])))) (by rfl') ⟨rfl, rfl⟩
end
end L1
end
section
open PySem PySem.W Mine V03
namespace Mine
variable {G : Env'} {n : Nat} {C : Cx} {v a : V} {st : St} {e : Expr} {P : Fl × St → Prop} {B : List Stmt} {k : Nat}
theorem b_at {i h : Nat} (h0 : bind G (n + 1) C e v st = (ev G n C (kd e 0) st).bind fun p => p.1.obj?.bind fun i => v.hl?.bind fun h => (instAt p.2.objs i).bind fun k => gd k.isNone (some (setCell i (.inst (some h)) p.2))) (h1 : ev G n C (kd e 0) st = some (.obj i, st)) (hv : v.hl? = some h) (hi : instAt st.objs i = some none) : bind G (n + 1) C e v st = some (setCell i (.inst (some h)) st) := by
  rw [h0, h1]; show (v.hl?.bind fun h => (instAt st.objs i).bind _) = _
  rw [hv]; show (instAt st.objs i).bind _ = _
  rw [hi]; rfl
theorem x_new {vs : List V} {o' : Objs} (h0 : ev G (n + 1) C e st = evNew (fs G n) C (kids e).tail st) (h : evs (ev G n C) (kids e).tail st = some (vs, st)) (hc : call G n "Headers.__init__" (.obj st.objs.length :: vs) [] (st.objs ++ [.inst none]) = some (.d .none, o')) : ev G (n + 1) C e st = some (.obj st.objs.length, ⟨st.vars, o'⟩) := by
  rw [h0]; show (evs (ev G n C) (kids e).tail st).bind _ = _
  rw [h]; show (call G n "Headers.__init__" (.obj st.objs.length :: vs) [] (st.objs ++ [.inst none])).bind _ = _
  rw [hc]; rfl
end Mine
namespace L1
noncomputable def NI : List Str := ["self", "headers", "k", "v"]
noncomputable def BI' : List Stmt := F_H_init.body
noncomputable def CI : Cx := Cf F_H_init
noncomputable def LI (i h : Nat) : List (Str × V) := [("self", .obj i), ("headers", .hl h)]
noncomputable def newO (o : Objs) (k : Option Nat) (es : List Ent) : Objs := (o ++ [Cell.inst k]) ++ [Cell.list (es.map entD)]
section
variable {n i h p : Nat} {a b w : List Nat} {o c : Objs} {es : List Ent} {σ : Str → Option V} {k : Option Nat}
theorem len1 {c : Cell} : (o ++ [c]).length = o.length + 1 := List.length_append
theorem new_l : Mine.listAt (newO o k es) (o.length + 1) = some (es.map entD) := len1 (o := o) (c := .inst k) ▸ at_end
theorem new_i : instAt (newO o k es) o.length = some k := instAt_app (by unfold instAt; rw [List.getElem?_append_right (Nat.le_refl _), Nat.sub_self]; rfl)
theorem HA.new (h : es.length ≤ 1000) : HA (newO o (some (o.length + 1)) es) o.length (o.length + 1) es := ⟨new_i, new_l, h⟩
theorem new_set {k' : Option Nat} : (newO o k es).set o.length (.inst k') = newO o k' es := by
  unfold newO
  rw [List.set_append_left _ _ (by rw [len1]; exact Nat.lt_succ_self _), set_end]
theorem in_all (h1 : es.length ≤ 1000) (hx : ∀ p ∈ es, okW p.1 = true ∧ okW p.2 = true) : Hd (exs (ex G (n + 50) CI) (BI'.drop 1) (S NI (LI o.length (o.length + 1)) z0 (newO o none es))) fun p => p.1 = .next ∧ p.2.objs = newO o (some (o.length + 1)) es := by
  refine IR false (by rfl') (t_cmp .IsNot (a := .ty "list") (b := .ty "list") (by rfl') (x_bui .type (by rfl') (evs1 (v := .hl (o.length + 1)) (by rfl')) (by show (((Mine.listAt (newO o none es) (o.length + 1)).map PyData.list).bind lst?).map _ = _; rw [new_l]; rfl)) (by rfl') (by rfl')) ft fun _ => ?_
  refine AT (st2 := S NI (LI o.length (o.length + 1)) z0 (newO o (some (o.length + 1)) es)) (.hl (o.length + 1)) (by rfl') (st1 := S NI (LI o.length (o.length + 1)) z0 (newO o none es)) (by rfl') ((b_at (i := o.length) (st := S NI (LI o.length (o.length + 1)) z0 (newO o none es)) (by rfl') (by rfl') (by rfl') new_i).trans (congrArg (fun o' => some (S NI (LI o.length (o.length + 1)) z0 o')) new_set)) ?_
  refine I true (by rfl') (by rfl') (fun _ => ?_) tf
  refine FI (N := NI) (.cell (o.length + 1)) (fun _ => True) es.length (fun j => entD (ent es j)) (fun _ => LI o.length (o.length + 1)) (fun j => ("k", tx (ent es j).1) :: ("v", tx (ent es j).2) :: LI o.length (o.length + 1)) (fun _ => newO o (some (o.length + 1)) es) (for_h (by rfl') (by rfl')) (by rfl') (fun j => ((HA.new h1).it j).trans (congrArg (fun l => some l[j]?) range_map.symm)) (i_val (by rfl') (v := .hl (o.length + 1)) (by rfl') (by show (Mine.listAt (newO o (some (o.length + 1)) es) (o.length + 1)).map _ = _; rw [new_l]; rfl)) (maxL h1) (σ := z0) (by rfl') trivial (fun _ _ _ => (by rfl')) (fun j σ lt _ => ?_)
      fun σ _ => .of (a := (.next, S NI (LI o.length (o.length + 1)) σ (newO o (some (o.length + 1)) es))) (by rfl') (Nx.i ?_)
  · obtain ⟨q1, q2⟩ := hx (ent es j) (by unfold ent; rw [List.getD_eq_getElem?_getD, List.getElem?_eq_getElem lt]; exact List.getElem_mem lt)
    exact E1 (by rfl') (x_cv e0 (ent es j).1 true (by rfl') (by rfl') (HA.new h1).is (by rfl') q1) (E1 (by rfl') (x_cv e0 (ent es j).2 false (by rfl') (by rfl') (HA.new h1).is (by rfl') q2) (.of (a := (.next, S NI (LI o.length (o.length + 1)) (ovs (("k", tx (ent es j).1) :: ("v", tx (ent es j).2) :: LI o.length (o.length + 1)) σ) (newO o (some (o.length + 1)) es))) (by rfl') (.inl ⟨rfl, trivial, _, rfl⟩)))
  · exact .of (a := (.next, S NI (LI o.length (o.length + 1)) σ (newO o (some (o.length + 1)) es))) (by rfl') ⟨rfl, rfl⟩
theorem init0 : call G (n + 55) "Headers.__init__" [.obj o.length] [] (o ++ [.inst none]) = some (.d .none, newO o (some (o.length + 1)) []) :=
  c_nx (F := F_H_init) (S NI [("self", .obj o.length), ("headers", .d .none)] z0 (o ++ [.inst none])) (by rfl') (A (C := CI) (B := BI') (k := 0) (.fl []) (st1 := S NI [("self", .obj o.length), ("headers", .d .none)] z0 (o ++ [.inst none])) (S NI (LI o.length (o ++ [Cell.inst none]).length) z0 (newO o none [])) (by rfl') (by rfl') (by rfl') (by rw [len1]; exact in_all (Nat.zero_le _) (fun _ h => nomatch h)))
theorem init1 (h1 : es.length ≤ 1000) (hx : ∀ p ∈ es, okW p.1 = true ∧ okW p.2 = true) : call G (n + 55) "Headers.__init__" [.obj o.length, .fl (es.map entD)] [] (o ++ [.inst none]) = some (.d .none, newO o (some (o.length + 1)) es) :=
  c_nx (F := F_H_init) (S NI (LI o.length (o ++ [Cell.inst none]).length) z0 (newO o none es)) (by rfl') (Ks (C := CI) (B := BI') (k := 0) 1 (S NI (LI o.length (o ++ [Cell.inst none]).length) z0 (newO o none es)) (by rfl') (by rw [len1]; exact in_all h1 hx))
end
end L1
end
section
open PySem PySem.W Mine V03
namespace L1
noncomputable def b3C : List (Nat × Nat × List (Nat × List Nat)) := (List.range 25).map fun k => (fun (c : List (Nat × List Nat)) => ((c.headD (0, [])).1, (c.getLastD (0, [])).1, c)) ((b3N.drop (26 * k)).take 26)
noncomputable def lookC (c : Nat) : Option (List Nat) := (b3C.find? fun k => Nat.ble k.1 c && Nat.ble c k.2.1).bind fun k => k.2.2.lookup c
theorem b3C_all : b3C.flatMap (·.2.2) = b3N := by rfl'
theorem lookC_M {c : Nat} {l : List Nat} (h : lookC c = some l) : M c = l := by
  obtain ⟨k, hf, h⟩ := Option.bind_eq_some_iff.mp h
  exact M_key (p := (c, l)) (b3C_all ▸ List.mem_flatMap.mpr ⟨k, List.mem_of_find?_eq_some hf, mem_lookN h⟩)
noncomputable def isB1 (c : Nat) : Bool := b1I.any fun p => p.1 == (c : Int)
noncomputable def okC1 (c : Nat) : Bool := !isB1 c && (Nat.ble 32 c && (c != 127 && (c != 931 && Nat.ble c 0x10FFFF)))
noncomputable def okG (s g : Nat) : Bool := g != s && (okC1 g && ((freeC lowC g g && (g != 304 && lookC g == some [s])) || (freeC keyC g g && Unicode.lowerOf g == [s])))
noncomputable def okForm (s : Nat) (gs : List Nat) : Bool := okC1 s && (freeC lowC s s && (s != 304 && (freeC keyC s s && gs.all (okG s))))
theorem okForms : ((List.range 54).all fun k => okForm (smN k) (grN k :: osN k)) = true := by decide +kernel
theorem sm_ne : ((List.range 54).all fun a => (List.range 54).all fun b => a == b || smN a != smN b) = true := by decide +kernel
structure LOK (p : Nat × Nat) : Prop where
  ne : p.2 ≠ p.1
  ms : M p.1 = [p.1]
  mg : M p.2 = [p.1]
  ls : Unicode.lowerOf p.1 = [p.1]
  lg : Unicode.lowerOf p.2 = [p.1] ∨ Unicode.lowerOf p.2 = [p.2]
  cs : okC1 p.1 = true
  cg : okC1 p.2 = true
theorem bA {a b : Bool} (h : (a && b) = true) : a = true ∧ b = true := Bool.and_eq_true _ _ ▸ h
theorem lok_of {s g : Nat} {gs : List Nat} (h : okForm s gs = true) (hg : g ∈ gs) : LOK (s, g) := by
  obtain ⟨h1, h⟩ := bA h
  obtain ⟨h2, h⟩ := bA h
  obtain ⟨h3, h⟩ := bA h
  obtain ⟨h4, h⟩ := bA h
  obtain ⟨g1, h⟩ := bA (List.all_eq_true.mp h g hg)
  obtain ⟨g2, h⟩ := bA h
  have h3 := bne_iff_ne.mp h3
  rcases Bool.or_eq_true_iff.mp h with q | q
  · obtain ⟨q1, q⟩ := bA q
    obtain ⟨q2, q3⟩ := bA q
    exact ⟨bne_iff_ne.mp g1, M_fix h2 h3 h4, lookC_M (beq_iff_eq.mp q3), low_fix h2 h3, .inr (low_fix q1 (bne_iff_ne.mp q2)), h1, g2⟩
  · obtain ⟨q1, q2⟩ := bA q
    have q2 := eq_of_beq q2
    exact ⟨bne_iff_ne.mp g1, M_fix h2 h3 h4, by unfold M; rw [key_none q1]; exact q2, low_fix h2 h3, .inl q2, h1, g2⟩
noncomputable def okWc (c : Nat) : Prop := (decide (32 ≤ c) && c != 127) = true ∧ c ≠ 931 ∧ c ≤ 0x10FFFF ∧ isB1 c = false
theorem okC1_top {c : Nat} (h : okC1 c = true) : okWc c := by
  obtain ⟨h1, h⟩ := bA h
  obtain ⟨h2, h⟩ := bA h
  obtain ⟨h3, h⟩ := bA h
  obtain ⟨h4, h5⟩ := bA h
  exact ⟨by rw [h3, decide_eq_true (Nat.le_of_ble_eq_true h2)]; rfl, bne_iff_ne.mp h4, Nat.le_of_ble_eq_true h5, (Bool.not_eq_true' _).mp h1⟩
section
variable {f : Int} {j : Nat}
theorem fm_mem {k : Nat} {p : Int} {i : Nat} (hk : k < 54) (h : i < 3) : (fmN k p).getD (1 + i) 0 ∈ grN k :: osN k := by
  have h2 := List.all_eq_true.mp forms_os k (List.mem_range.mpr hk)
  have hz : 0 < (osN k).length := Nat.le_of_ble_eq_true (bA h2).1
  have m {i : Nat} (h : i < (osN k).length) : (osN k).getD i 0 ∈ grN k :: osN k := by
    rw [List.getD_eq_getElem?_getD, List.getElem?_eq_getElem h]
    exact List.mem_cons_of_mem _ (List.getElem_mem h)
  match i, h with
  | 0, _ => exact List.mem_cons_self
  | 1, _ => exact m (Nat.lt_of_le_of_lt (Nat.sub_le ..) (Nat.pred_lt (Nat.ne_of_gt hz)))
  | 2, _ => exact m (md_lt (Nat.ne_of_gt hz))
theorem lt_ok (h : j < 3) : LOK (ltN f j) := lok_of (List.all_eq_true.mp okForms _ (List.mem_range.mpr (ks_lt h))) (fm_mem (ks_lt h) (md_lt (by decide)))
theorem ks_ne {i j : Nat} (hi : i < 3) (hj : j < 3) (h : i ≠ j) : (ksN f).getD i 0 ≠ (ksN f).getD j 0 := by
  have h3 := k3_ok (x := f)
  have h2 : (k3L (k1 f) (k2 f)).getD (md (f.fdiv 2862) 52) 0 ∈ k3L (k1 f) (k2 f) := by rw [List.getD_eq_getElem?_getD, List.getElem?_eq_getElem h3.1]; exact List.getElem_mem h3.1
  obtain ⟨n1, n2⟩ := not2_ne (List.mem_filter.mp h2).2
  have n0 := k12 f
  match i, hi, j, hj with
  | 0, _, 0, _ | 1, _, 1, _ | 2, _, 2, _ => exact absurd rfl h
  | 0, _, 1, _ => exact n0
  | 1, _, 0, _ => exact n0.symm
  | 0, _, 2, _ => exact fun e => n1 e.symm
  | 2, _, 0, _ => exact n1
  | 1, _, 2, _ => exact fun e => n2 e.symm
  | 2, _, 1, _ => exact n2
theorem lt_ne {i j : Nat} (hi : i < 3) (hj : j < 3) (h : i ≠ j) : (ltN f i).1 ≠ (ltN f j).1 := by
  have q := List.all_eq_true.mp (List.all_eq_true.mp sm_ne _ (List.mem_range.mpr (ks_lt (x := f) hi))) _ (List.mem_range.mpr (ks_lt (x := f) hj))
  rw [beq_eq_false_iff_ne.mpr (ks_ne hi hj h)] at q
  exact bne_iff_ne.mp q
end
end L1
end
section
open PySem PySem.W Mine V03
namespace L1
noncomputable def tag (x : Nat) : List Nat := bif isB1 x || Nat.blt x 32 then [x] else M x
structure Fx (q : List Nat) (x : Nat) : Prop where
  t : tag x = q
  l : ∃ u, low1 x = [u] ∧ tag u = q
theorem Fx.far {q r : List Nat} {x y : Nat} (hx : Fx q x) (hy : Fx r y) (h : q ≠ r) : Rl 2 x y := by
  have n : x ≠ y := fun e => h (hx.t.symm.trans (e ▸ hy.t))
  obtain ⟨u, hu, tu⟩ := hx.l
  obtain ⟨v, hv, tv⟩ := hy.l
  have m : (low1 x == low1 y) = false := beq_eq_false_iff_ne.mpr fun e => h (by rw [hu, hv] at e; cases e; exact tu.symm.trans tv)
  have := Rl.ne n
  rw [m] at this
  exact this
theorem tag_ok {x : Nat} (h : okC1 x = true) : tag x = M x := by
  have h1 := (okC1_top h).2.2.2
  have h2 : Nat.blt x 32 = false := by
    have := Nat.le_of_ble_eq_true (bA (bA h).2).1
    cases q : Nat.blt x 32 with
    | false => rfl
    | true => exact absurd (Nat.le_of_ble_eq_true q) (Nat.not_lt.mpr this)
  unfold tag
  rw [h1, h2]; rfl
theorem LOK.fx1 {p : Nat × Nat} (h : LOK p) : Fx [p.1] p.1 := ⟨(tag_ok h.cs).trans h.ms, p.1, (low1_eq _).trans h.ls, (tag_ok h.cs).trans h.ms⟩
theorem LOK.fx2 {p : Nat × Nat} (h : LOK p) : Fx [p.1] p.2 := ⟨(tag_ok h.cg).trans h.mg, h.lg.elim (fun e => ⟨p.1, (low1_eq _).trans e, (tag_ok h.cs).trans h.ms⟩) fun e => ⟨p.2, (low1_eq _).trans e, (tag_ok h.cg).trans h.mg⟩⟩
theorem LOK.fx {p : Nat × Nat} (h : LOK p) {b : Nat} (hb : b < 2) : Fx [p.1] (chN p b) := match b, hb with
  | 0, _ => h.fx1
  | 1, _ => h.fx2
theorem noise_fx : (noiseL.all fun z => isB1 z && (Unicode.lowerOf z == [z])) = true := by decide +kernel
theorem fx_noise {z : Nat} (h : z ∈ noiseL) : Fx [z] z ∧ isB1 z = true := by
  obtain ⟨h1, h2⟩ := bA (List.all_eq_true.mp noise_fx z h)
  have t : tag z = [z] := by unfold tag; rw [h1]; rfl
  exact ⟨⟨t, z, (low1_eq z).trans (eq_of_beq h2), t⟩, h1⟩
theorem fx0 : Fx [0] 0 := ⟨by decide +kernel, 0, (low1_eq 0).trans (by decide +kernel), by decide +kernel⟩
theorem fx1 : Fx [1] 1 := ⟨by decide +kernel, 1, (low1_eq 1).trans (by decide +kernel), by decide +kernel⟩
noncomputable def wt (p : Nat × Nat) : Int := costN p.1 p.2
theorem cost3 (x y : Nat) : costN x y ∈ t3 := by
  unfold costN
  cases [x] == [y] with
  | true => exact List.mem_cons_self
  | false => cases low1 x == low1 y with
    | true => exact List.mem_cons_of_mem _ List.mem_cons_self
    | false => exact List.mem_cons_of_mem _ (List.mem_cons_of_mem _ List.mem_cons_self)
theorem Rl.of (x y : Nat) : Rl (costN x y) x y := by
  by_cases h : x = y
  · subst h
    have r := Rl.refl x
    rw [r.l]; exact r
  · have r := Rl.ne h
    rw [r.l]; exact r
noncomputable def psL (f : Int) : List (Nat × Nat) := (List.range 3).map (ltN f)
noncomputable def ch (f x : Int) (k : Nat) : Nat := chN (ltN f k) (bT x k)
noncomputable def dk (f x y : Int) (k : Nat) : Int := bif bT x k == bT y k then 0 else wt (ltN f k)
noncomputable def tl (f x y : Int) : List Int := [dk f x y 0, dk f x y 1, dk f x y 2]
theorem ch_rl (p : Nat × Nat) : ∀ {a b : Nat}, a < 2 → b < 2 → Rl (bif a == b then 0 else wt p) (chN p a) (chN p b)
  | 0, 0, _, _ => Rl.refl _
  | 1, 1, _, _ => Rl.refl _
  | 0, 1, _, _ => Rl.of _ _
  | 1, 0, _, _ => (Rl.of _ _).symm
theorem dk3 {f x y : Int} {k : Nat} : dk f x y k ∈ t3 := by
  unfold dk
  cases bT x k == bT y k with
  | true => exact List.mem_cons_self
  | false => exact cost3 _ _
noncomputable def NZ (f : Int) (z : Nat → Nat) : Prop := ∀ i, ∃ q, Fx q (z i) ∧ q ≠ [1] ∧ ∀ j, j < 3 → q ≠ [(ltN f j).1]
theorem lt_big {f : Int} {j : Nat} (h : j < 3) {z : Nat} (hz : isB1 z = true ∨ z < 32) : [z] ≠ [(ltN f j).1] := fun e => by
  have c := (lt_ok (f := f) h).cs
  rw [← (List.cons.inj e).1] at c
  rcases hz with q | q
  · rw [(okC1_top c).2.2.2] at q; exact tf q.symm
  · exact absurd (Nat.le_of_ble_eq_true (bA (bA c).2).1) (Nat.not_le.mpr q)
theorem nz0 {f : Int} : NZ f fun _ => 0 := fun _ => ⟨[0], fx0, by decide, fun j h => lt_big h (.inr (by decide))⟩
theorem nzT {f x : Int} : NZ f (zzT x) := fun i => by
  unfold zzT
  cases Nat.blt i 2 with
  | false => exact nz0 i
  | true =>
    obtain ⟨h1, h2⟩ := fx_noise (zT_ok x i).2
    exact ⟨_, h1, fun e => by rw [(List.cons.inj e).1] at h2; exact tf (h2.symm.trans (show isB1 1 = false by decide +kernel)), fun j h => lt_big h (.inl h2)⟩
theorem rl_all {f x y : Int} {z : Nat → Nat} (hz : NZ f z) : ∀ i j, Rl (cT (tl f x y) i j) (wf (chT (psL f) x) z i) (wf (chT (psL f) y) (fun _ => 1) j) := by
  have lx {k : Nat} (h : k < 3) (x : Int) : Fx [(ltN f k).1] (ch f x k) := (lt_ok h).fx (b_lt x k)
  have c {k : Nat} : Rl (dk f x y k) (ch f x k) (ch f y k) := ch_rl _ (b_lt x k) (b_lt y k)
  have n {i j : Nat} (hi : i < 3) (hj : j < 3) (h : i ≠ j) : Rl 2 (ch f x i) (ch f y j) := (lx hi x).far (lx hj y) fun e => lt_ne hi hj h (List.cons.inj e).1
  have o {i : Nat} (hi : i < 3) : Rl 2 (ch f x i) 1 := (lx hi x).far fx1 fun e => lt_big hi (.inr (by decide)) e.symm
  have p {i j : Nat} (hj : j < 3) : Rl 2 (z i) (ch f y j) := by
    obtain ⟨q, h1, -, h3⟩ := hz i
    exact h1.far (lx hj y) (h3 j hj)
  have r (i : Nat) : Rl 2 (z i) 1 := by
    obtain ⟨q, h1, h2, -⟩ := hz i
    exact h1.far fx1 h2
  intro i j
  match i, j with
  | 0, 0 => exact c
  | 1, 1 => exact c
  | 2, 2 => exact c
  | 0, 1 => exact n (by decide) (by decide) (by decide)
  | 0, 2 => exact n (by decide) (by decide) (by decide)
  | 1, 0 => exact n (by decide) (by decide) (by decide)
  | 1, 2 => exact n (by decide) (by decide) (by decide)
  | 2, 0 => exact n (by decide) (by decide) (by decide)
  | 2, 1 => exact n (by decide) (by decide) (by decide)
  | 0, j + 3 => exact o (by decide)
  | 1, j + 3 => exact o (by decide)
  | 2, j + 3 => exact o (by decide)
  | i + 3, 0 => exact p (by decide)
  | i + 3, 1 => exact p (by decide)
  | i + 3, 2 => exact p (by decide)
  | i + 3, j + 3 =>
    have e : cT (tl f x y) (i + 3) (j + 3) = 2 := by
      unfold cT
      cases (i + 3 == j + 3) <;> rfl
    rw [e]; exact r i
theorem cT_symm {t : List Int} (i j : Nat) : cT t i j = cT t j i := by
  unfold cT
  by_cases h : i = j
  · subst h; rfl
  · rw [beq_eq_false_iff_ne.mpr h, beq_eq_false_iff_ne.mpr fun e => h e.symm]; rfl
end L1
end
section
open PySem PySem.W Mine V03
namespace L1
noncomputable def plT (f x : Int) : List Nat := [ch f x 0, ch f x 1, ch f x 2]
noncomputable def wd (f x : Int) : List Nat := wordT (psL f) x
noncomputable def hid (f x : Int) : Int := 2 * (((wd f x).length : Int) - 3)
noncomputable def dist (f x y : Int) : Int := (tl f x y).sum
section
variable {f x y m : Int}
theorem lev_w : levV (wd f x) (plT f y) m = levT (cT (tl f x y)) (typedIx (g1T x) (g2T x)) [0, 1, 2] m := by
  unfold wd; rw [word_ix]
  exact lev_T (b := [0, 1, 2]) (rl_all nzT)
theorem lev_w' : levV (plT f y) (wd f x) m = levT (cT (tl f x y)) [0, 1, 2] (typedIx (g1T x) (g2T x)) m := by
  unfold wd; rw [word_ix]
  exact lev_T (a := [0, 1, 2]) (φ := wf (chT (psL f) y) fun _ => 1) fun i j => cT_symm i j ▸ (rl_all nzT j i).symm
theorem gT_mem (b : Bool) (j : Nat) : (bif b then some (gT x j) else none) ∈ gs1 := by
  have h : gT x j < 4 := md_lt (by decide)
  generalize gT x j = g at h
  cases b with
  | false => exact List.mem_cons_self
  | true => match g, h with
    | 0, _ => exact show some 0 ∈ gs1 by decide
    | 1, _ => exact show some 1 ∈ gs1 by decide
    | 2, _ => exact show some 2 ∈ gs1 by decide
    | 3, _ => exact show some 3 ∈ gs1 by decide
structure Told (F : Int → Int) (h d : Int) : Prop where
  a : F (h + d) = h + d
  b : F (h + 6) = h + d
  c : F (h + d - 1) > h + d - 1
theorem lev_ok : Told (levV (wd f x) (plT f y)) (hid f x) (dist f x y) ∧ Told (levV (plT f y) (wd f x)) (hid f x) (dist f x y) := by
  have e : hid f x = 2 * (((typedIx (g1T x) (g2T x)).length : Int) - 3) := by unfold hid wd; rw [word_ix, List.length_map]
  have h : okPair (g1T x) (g2T x) (tl f x y) = true := List.all_eq_true.mp (List.all_eq_true.mp (List.all_eq_true.mp (List.all_eq_true.mp (List.all_eq_true.mp okPairs _ (gT_mem _ 0)) _ (gT_mem _ 1)) _ (dk3 (k := 0))) _ (dk3 (k := 1))) _ (dk3 (k := 2))
  obtain ⟨h1, h⟩ := bA h
  obtain ⟨h2, h⟩ := bA h
  obtain ⟨h3, h⟩ := bA h
  obtain ⟨h4, h⟩ := bA h
  obtain ⟨h5, h6⟩ := bA h
  unfold dist
  rw [e]
  exact ⟨⟨lev_w.trans (eq_of_beq h1), lev_w.trans (eq_of_beq h2), lev_w ▸ of_decide_eq_true h3⟩, ⟨lev_w'.trans (eq_of_beq h4), lev_w'.trans (eq_of_beq h5), lev_w' ▸ of_decide_eq_true h6⟩⟩
theorem lev_turn : levV (plT f x) (plT f y).reverse 6 = 4 + dk f x y 1 :=
  (lev_T (a := [0, 1, 2]) (b := [2, 1, 0]) (rl_all (z := fun _ => 0) nz0)).trans (eq_of_beq (List.all_eq_true.mp (List.all_eq_true.mp (List.all_eq_true.mp okTurns _ (dk3 (k := 0))) _ (dk3 (k := 1))) _ (dk3 (k := 2))))
theorem dk0 {k : Nat} : dk f x x k = 0 := by unfold dk; rw [beq_self_eq_true]; rfl
noncomputable def mvL (k : Nat) : List Nat := [[2, 0, 1], [1, 0, 2], [2, 1, 0]].getD k []
noncomputable def mvT (f x : Int) (k : Nat) : List Nat := (mvL k).map (ch f x)
theorem lev_move {k : Nat} (h : k < 3) : levV (plT f x) (mvT f x k) 4 = 4 := by
  have h0 : cT (tl f x x) = cT [0, 0, 0] := by unfold tl; rw [dk0, dk0, dk0]
  have t {b : List Nat} (hb : b ∈ [[2, 0, 1], [1, 0, 2], [2, 1, 0]]) : levV (plT f x) (b.map (wf (chT (psL f) x) fun _ => 1)) 4 = 4 :=
    (lev_T (a := [0, 1, 2]) (rl_all (z := fun _ => 0) nz0)).trans (h0 ▸ eq_of_beq (List.all_eq_true.mp okMoves b hb))
  match k, h with
  | 0, _ => exact t (b := [2, 0, 1]) (by decide)
  | 1, _ => exact t (b := [1, 0, 2]) (by decide)
  | 2, _ => exact t (b := [2, 1, 0]) (by decide)
theorem t3_le {x : Int} (h : x ∈ t3) : 0 ≤ x ∧ x ≤ 2 := by
  have : (t3.all fun x => decide (0 ≤ x ∧ x ≤ 2)) = true := by decide
  exact of_decide_eq_true (List.all_eq_true.mp this x h)
theorem dist_le : 0 ≤ dist f x y ∧ dist f x y ≤ 6 := by
  have a := t3_le (dk3 (f := f) (x := x) (y := y) (k := 0))
  have b := t3_le (dk3 (f := f) (x := x) (y := y) (k := 1))
  have c := t3_le (dk3 (f := f) (x := x) (y := y) (k := 2))
  unfold dist tl
  rw [List.sum_cons, List.sum_cons, List.sum_cons, List.sum_nil]
  omega
theorem dk_symm {k : Nat} : dk f x y k = dk f y x k := by unfold dk; rw [Bool.beq_comm]
theorem dist_symm : dist f x y = dist f y x := by unfold dist tl; rw [dk_symm, dk_symm (k := 1), dk_symm (k := 2)]
theorem dist_self : dist f x x = 0 := by unfold dist tl; rw [dk0, dk0, dk0]; rfl
end
end L1
end
section
open PySem PySem.W Mine V03
namespace L1
noncomputable abbrev Row := Nat → Bool
noncomputable def S2 {α : Type} (g : α → α → Int) (rows : List α) : Int := (rows.map fun r => (rows.map fun r' => g r r').sum).sum
section
variable {α : Type}
theorem sum_mul (F : Int) (x : α → Int) : ∀ l : List α, (l.map fun r => x r * F).sum = (l.map x).sum * F
  | [] => (Int.zero_mul F).symm
  | r :: l => by rw [List.map_cons, List.sum_cons, sum_mul F x l, List.map_cons, List.sum_cons, Int.add_mul]
theorem mul_sum (F : Int) (x : α → Int) : ∀ l : List α, (l.map fun r => F * x r).sum = F * (l.map x).sum
  | [] => (Int.mul_zero F).symm
  | r :: l => by rw [List.map_cons, List.sum_cons, mul_sum F x l, List.map_cons, List.sum_cons, Int.mul_add]
theorem sum_add (x y : α → Int) : ∀ l : List α, (l.map fun r => x r + y r).sum = (l.map x).sum + (l.map y).sum
  | [] => rfl
  | r :: l => by rw [List.map_cons, List.sum_cons, sum_add x y l, List.map_cons, List.sum_cons, List.map_cons, List.sum_cons]; omega
theorem S2_add (g h : α → α → Int) (l : List α) : S2 (fun r r' => g r r' + h r r') l = S2 g l + S2 h l :=
  (congrArg List.sum (List.map_congr_left fun r _ => sum_add _ _ l)).trans (sum_add _ _ l)
theorem S2_mul (F : Int) (g : α → α → Int) (l : List α) : S2 (fun r r' => F * g r r') l = F * S2 g l :=
  (congrArg List.sum (List.map_congr_left fun r _ => mul_sum _ _ l)).trans (mul_sum _ _ l)
theorem S2_sq (x : α → Int) (F : Int) (l : List α) : S2 (fun r r' => x r * (x r' * F)) l = (l.map x).sum ^ 2 * F := by
  have h : S2 (fun r r' => x r * (x r' * F)) l = (l.map fun r => x r * ((l.map x).sum * F)).sum := congrArg List.sum (List.map_congr_left fun r _ => (mul_sum _ _ l).trans (congrArg (x r * ·) (sum_mul F x l)))
  rw [h, sum_mul, Int.pow_succ, Int.pow_succ, Int.pow_zero, Int.one_mul, Int.mul_assoc]
theorem S2_congr {g h : α → α → Int} {l : List α} (e : ∀ r ∈ l, ∀ r' ∈ l, g r r' = h r r') : S2 g l = S2 h l :=
  congrArg List.sum (List.map_congr_left fun r hr => congrArg List.sum (List.map_congr_left fun r' hr' => e r hr r' hr'))
end
noncomputable def sg (b : Bool) : Int := bif b then -1 else 1
noncomputable def of3 (x y z : Bool) : Row := fun k => match k with | 0 => x | 1 => y | _ => z
noncomputable def chi (c : Nat) (r : Row) : Int := 1 - 2 * oddN c r
noncomputable def cp (x : Nat → Int) (c : Nat) : Int := (bif tb c 0 then x 0 else 1) * (bif tb c 1 then x 1 else 1) * (bif tb c 2 then x 2 else 1)
theorem chi_tab : ((List.range 8).all fun c => [true, false].all fun x => [true, false].all fun y => [true, false].all fun z => chi c (of3 x y z) == cp (fun k => sg (of3 x y z k)) c) = true := by decide +kernel
theorem b_mem (b : Bool) : b ∈ [true, false] := by cases b <;> decide
theorem chi_eq {c : Nat} (h : c < 8) (r : Row) : chi c r = cp (fun k => sg (r k)) c := by
  have e : chi c r = chi c (of3 (r 0) (r 1) (r 2)) := by
    unfold chi oddN
    rw [List.filter_congr fun k hk => ?_]
    match k, List.mem_range.mp hk with
    | 0, _ => rfl
    | 1, _ => rfl
    | 2, _ => rfl
  exact e.trans (eq_of_beq (List.all_eq_true.mp (List.all_eq_true.mp (List.all_eq_true.mp (List.all_eq_true.mp chi_tab c (List.mem_range.mpr h)) _ (b_mem (r 0))) _ (b_mem (r 1))) _ (b_mem (r 2))))
theorem chiS_sum (c : Nat) : ∀ rows : List Row, chiS rows c = (rows.map (chi c)).sum
  | [] => rfl
  | r :: rows => by
    have := chiS_sum c rows
    unfold chiS at this ⊢
    rw [List.map_cons, List.sum_cons, List.map_cons, List.sum_cons, ← this, List.length_cons]
    show ((rows.length : Int) + 1) - 2 * (oddN c r + _) = (1 - 2 * oddN c r) + _
    omega
noncomputable def dif (a b : Bool) (p : Int) : Int := bif a == b then 1 else p
noncomputable def difP (p : Nat → Int) (r r' : Row) : Int := dif (r 0) (r' 0) (p 0) * dif (r 1) (r' 1) (p 1) * dif (r 2) (r' 2) (p 2)
theorem ring8 (x0 x1 x2 y0 y1 y2 p0 p1 p2 : Int) :
    1 * 1 * 1 * (1 * 1 * 1 * ((1 + p0) * (1 + p1) * (1 + p2))) + x0 * 1 * 1 * (y0 * 1 * 1 * ((1 - p0) * (1 + p1) * (1 + p2))) + 1 * x1 * 1 * (1 * y1 * 1 * ((1 + p0) * (1 - p1) * (1 + p2))) + x0 * x1 * 1 * (y0 * y1 * 1 * ((1 - p0) * (1 - p1) * (1 + p2))) + 1 * 1 * x2 * (1 * 1 * y2 * ((1 + p0) * (1 + p1) * (1 - p2))) + x0 * 1 * x2 * (y0 * 1 * y2 * ((1 - p0) * (1 + p1) * (1 - p2))) + 1 * x1 * x2 * (1 * y1 * y2 * ((1 + p0) * (1 - p1) * (1 - p2))) + x0 * x1 * x2 * (y0 * y1 * y2 * ((1 - p0) * (1 - p1) * (1 - p2)))
      = ((1 + p0) + x0 * y0 * (1 - p0)) * ((1 + p1) + x1 * y1 * (1 - p1)) * ((1 + p2) + x2 * y2 * (1 - p2)) := by grind
theorem one_fac (a b : Bool) (p : Int) : (1 + p) + sg a * sg b * (1 - p) = 2 * dif a b p := by
  cases a <;> cases b <;> simp [sg, dif] <;> omega
theorem mul8 (a b c : Int) : 2 * a * (2 * b) * (2 * c) = 8 * (a * b * c) := by grind
noncomputable def facs (p : Nat → Int) (c : Nat) : Int := fac p c 0 * fac p c 1 * fac p c 2
noncomputable def pr2 (p : Nat → Int) (r r' : Row) (c : Nat) : Int := cp (fun k => sg (r k)) c * (cp (fun k => sg (r' k)) c * facs p c)
theorem pair_sum (p : Nat → Int) (r r' : Row) : pr2 p r r' 0 + pr2 p r r' 1 + pr2 p r r' 2 + pr2 p r r' 3 + pr2 p r r' 4 + pr2 p r r' 5 + pr2 p r r' 6 + pr2 p r r' 7 = 8 * difP p r r' :=
  (ring8 (sg (r 0)) (sg (r 1)) (sg (r 2)) (sg (r' 0)) (sg (r' 1)) (sg (r' 2)) (p 0) (p 1) (p 2)).trans (by rw [one_fac, one_fac, one_fac, mul8]; rfl)
theorem even_sum (p : Nat → Int) (rows : List Row) : evenF (fun c => chiS rows c ^ 2) p 8 = 8 * S2 (difP p) rows := by
  have hs {c : Nat} (h : c < 8) : prod p (chiS rows c ^ 2) c 3 = S2 (fun r r' => pr2 p r r' c) rows := by
    show chiS rows c ^ 2 * fac p c 0 * fac p c 1 * fac p c 2 = _
    rw [chiS_sum, Int.mul_assoc, Int.mul_assoc, ← Int.mul_assoc (fac p c 0)]
    refine (S2_sq (chi c) (facs p c) rows).symm.trans (S2_congr fun r _ r' _ => ?_)
    rw [chi_eq h, chi_eq h]; rfl
  show 0 + prod p (chiS rows 0 ^ 2) 0 3 + prod p (chiS rows 1 ^ 2) 1 3 + prod p (chiS rows 2 ^ 2) 2 3 + prod p (chiS rows 3 ^ 2) 3 3 + prod p (chiS rows 4 ^ 2) 4 3 + prod p (chiS rows 5 ^ 2) 5 3 + prod p (chiS rows 6 ^ 2) 6 3 + prod p (chiS rows 7 ^ 2) 7 3 = _
  rw [hs (by decide), hs (by decide), hs (by decide), hs (by decide), hs (by decide), hs (by decide), hs (by decide), hs (by decide), Int.zero_add, ← S2_mul, ← S2_add, ← S2_add, ← S2_add, ← S2_add, ← S2_add, ← S2_add, ← S2_add]
  exact S2_congr fun r _ r' _ => pair_sum p r r'
end L1
end
section
open PySem PySem.W Mine V03
namespace Mine
section
variable {G : Env'} {n : Nat} {C : Cx} {v a b : V} {st st1 st2 : St} {e : Expr} {P : Fl × St → Prop} {B : List Stmt} {k : Nat} {vs : List V} {o : Objs}
theorem evs_s {f : Expr → St → Option (V × St)} {es} (h : f e st = some (v, st1)) (h2 : evs f es st1 = some (vs, st2)) : evs f (e :: es) st = some (v :: vs, st2) := by
  show (f e st).bind _ = _
  rw [h]; show (evs f es st1).map _ = _
  rw [h2]; rfl
theorem x_fo (f : Str) {o' : Objs} (h0 : ev G (n + 1) C e st = evFn (fs G n) C f (kids e).tail st) (h : evs (ev G n C) (kids e).tail st = some (vs, st)) (hc : call G n f vs [] st.objs = some (v, o')) : ev G (n + 1) C e st = some (v, ⟨st.vars, o'⟩) := by
  rw [h0]; show (evs (ev G n C) (kids e).tail st).bind _ = _
  rw [h]; show (call G n f vs [] st.objs).map _ = _
  rw [hc]; rfl
theorem x_pm (p : PyData → Option PyData) {x y : PyData} (h0 : ev G (n + 9) C e st = evPrim (fs G (n + 8)) C (n + 8) p (kids e).tail st) (h : evs (ev G (n + 8) C) (kids e).tail st = some ([.d x], st)) (hp : p x = some y) : ev G (n + 9) C e st = some (.d y, st) := by
  rw [h0]; show (evs (ev G (n + 8) C) (kids e).tail st).bind _ = _
  rw [h]; show gd (decide (8 ≤ n + 8)) ((p x).map _) = _
  rw [gd_t (decide_eq_true (Nat.le_add_left 8 n)), hp]; rfl
theorem AQ (r : Bool) (vs : List V) (h0 : exs (ex G (n + 2) C) (B.drop k) st = ((evs (ev G (n + 1) C) (kids (sE B k 0)) st).bind fun p => gd (decide (p.1.length = (kids (sE B k 1)).length ∧ p.1.length ≤ maxLen)) ((bindAll (bind G (n + 1) C) (bif r then ((kids (sE B k 1)).zip p.1).reverse else (kids (sE B k 1)).zip p.1) p.2).map fun st => (Fl.next, st))).bind fun p => bif p.1.isNext then exs (ex G (n + 2) C) (B.drop (k + 1)) p.2 else some p)
    (h : evs (ev G (n + 1) C) (kids (sE B k 0)) st = some (vs, st1)) (hb : gd (decide (vs.length = (kids (sE B k 1)).length ∧ vs.length ≤ maxLen)) ((bindAll (bind G (n + 1) C) (bif r then ((kids (sE B k 1)).zip vs).reverse else (kids (sE B k 1)).zip vs) st1).map fun st => (Fl.next, st)) = some (Fl.next, st2)) (h2 : Hd (exs (ex G (n + 2) C) (B.drop (k + 1)) st2) P) : Hd (exs (ex G (n + 2) C) (B.drop k) st) P := by
  rw [h0, h]; show Hd ((gd (decide (vs.length = (kids (sE B k 1)).length ∧ vs.length ≤ maxLen)) _).bind _) P
  rw [hb]; exact h2
end
end Mine
namespace L1
theorem gDa {α β : Type} {d : α} {f : α → β} {l : List α} {j : Nat} (h : j < l.length) : (l.map f)[j]? = some (f (l.getD j d)) := by rw [List.getElem?_map, List.getD_eq_getElem?_getD, List.getElem?_eq_getElem h]; rfl
theorem itF {o : Objs} {xs : List PyData} {x : PyData} {i : Int} {j : Nat} (h : idx? i xs.length = some j) (hx : xs[j]? = some x) : itemV o (.fl xs) i = some (.d x) := by
  show (idx? i xs.length).bind _ = _
  rw [h]; show (xs[j]?).map _ = _
  rw [hx]; rfl
theorem addL {o : Objs} {xs ys : List PyData} (h : xs.length + ys.length ≤ 1000000) : binop o .Add (.d (.list xs)) (.fl ys) = some (.fl (xs ++ ys)) := gd_t (decide_eq_true h)
theorem ltb (a b : Nat) : decide ((a : Int) < b) = Nat.blt a b := by
  cases q : Nat.blt a b with
  | true => exact decide_eq_true (Int.ofNat_lt.mpr (Nat.le_of_ble_eq_true q))
  | false => exact decide_eq_false fun h => by rw [show Nat.blt a b = true from Nat.ble_eq_true_of_le (Int.ofNat_lt.mp h)] at q; exact tf q
noncomputable def NW : List Str := (["script", "first", "letters", "place", "code", "stray", "capital", "step", "drawn", "made", "again", "family", "held", "told", "plain", "folds", "small", "great", "greats", "names", "others", "table"] : List Str) ++ (["k", "ones", "whole", "alike", "turned", "gaps", "word", "row", "there", "alone", "moved", "other", "hidden", "less", "pair", "bound", "fits", "back", "powers", "squares", "due"] : List Str)
noncomputable def BW : List Stmt := F_law.body
noncomputable def CW : Cx := Cf F_law
noncomputable def fstI (ns : List Int) : Int := (ns ++ [46278]).headD 0
noncomputable def intsD (l : List Int) : PyData := .list (l.map .int)
noncomputable def strayN (p : Nat) : Nat := bif Nat.blt p 9 then 7296 + p else 43879 + p
noncomputable def offN (u : Nat) : Nat := bif Nat.blt u 55296 then 0 else 2048
noncomputable def codeN (f : Int) : Nat := md f 1112064 + offN (md f 1112064)
noncomputable def placeN (f : Int) : Nat := md f 89
noncomputable def capL (f : Int) : List (Nat × Nat) := [(192 + md (f.fdiv 3) 23, 32), (1040 + md (f.fdiv 3) 32, 32), (1329 + md (f.fdiv 3) 38, 48)]
noncomputable def capN (f : Int) : Nat × Nat := (capL f).getD (md f 3) (0, 0)
noncomputable def W0 (ns : List Int) : List (Str × V) := [("script", .d (intsD ns))]
noncomputable def W1 (ns : List Int) (f : Int) : List (Str × V) := ("first", ii f) :: W0 ns
noncomputable def W2 (ns : List Int) (f : Int) : List (Str × V) := ("letters", .hl 0) :: ("place", ii (placeN f)) :: ("code", ii (codeN f)) :: W1 ns f
noncomputable def W3 (ns : List Int) (f : Int) : List (Str × V) := ("stray", tx [strayN (placeN f)]) :: W2 ns f
noncomputable def W4 (ns : List Int) (f : Int) : List (Str × V) := ("capital", ii (capN f).1) :: ("step", ii (capN f).2) :: W3 ns f
section
variable {n : Nat} {ns : List Int} {f : Int} {P : Fl × St → Prop} {o : Objs}
theorem w_0 (hl : ns.length ≤ 63) (h : Hd (exs (ex G (n + 20) CW) (BW.drop 1) (S NW (W1 ns (fstI ns)) z0 o)) P) : Hd (exs (ex G (n + 20) CW) (BW.drop 0) (S NW (W0 ns) z0 o)) P := by
  refine A (ii (fstI ns)) (S NW (W1 ns (fstI ns)) z0 o) (by rfl') (x_item (w := .fl (ns.map .int ++ [.int 46278])) (j := (0 : Nat)) (by rfl') (x_bin (a := .d (intsD ns)) (b := .fl [.int 46278]) (by rfl') (by rfl') (by rfl') (addL ?_)) (by rfl') (itF (idx_nat ?_ ?_) ?_)) (by rfl') h
  · rw [List.length_map]; exact Nat.le_trans (Nat.add_le_add_right hl 1) (by decide)
  · rw [List.length_append]; exact Nat.succ_pos _
  · rw [List.length_append, List.length_map]; exact Nat.le_trans (Nat.add_le_add_right hl 1) (by decide)
  · cases ns <;> rfl
theorem w_1 (h : Hd (exs (ex G (n + 100) CW) (BW.drop 2) (S NW (W2 ns f) z0 [Cell.list (cellL f 3)])) P) : Hd (exs (ex G (n + 100) CW) (BW.drop 1) (S NW (W1 ns f) z0 [])) P := by
  refine AQ false [.hl 0, ii (placeN f), ii (codeN f)] (by rfl') (evs_s (x_fo "_law_letters" (by rfl') (evs1 (by rfl')) (letters_spec (n := n + 14) (x := f) (o := []))) (evs_c (x_bin (a := ii f) (b := ii (89 : Nat)) (by rfl') (by rfl') (by rfl') (modV (by decide))) (evs1 (x_bin (a := ii (md f 1112064)) (b := bif Nat.blt (md f 1112064) 55296 then ii 0 else ii 2048) (by rfl') (x_bin (a := ii f) (b := ii (1112064 : Nat)) (by rfl') (by rfl') (by rfl') (modV (by decide))) (x_ifv (Nat.blt (md f 1112064) 55296) (by rfl') (t_cmp .Lt (a := ii (md f 1112064)) (b := ii (55296 : Nat)) (by rfl') (x_bin (a := ii f) (b := ii (1112064 : Nat)) (by rfl') (by rfl') (by rfl') (modV (by decide))) (by rfl') (congrArg some (ltb _ _))) (by rfl') (by rfl')) ?_)))) (st2 := S NW (W2 ns f) z0 [Cell.list (cellL f 3)]) (by rfl') h
  unfold codeN offN
  cases Nat.blt (md f 1112064) 55296 <;> rfl
end
end L1
end
section
open PySem PySem.W Mine V03
namespace L1
theorem lowerOf_len (c : Nat) : (Unicode.lowerOf c).length ≤ 2 := by
  by_cases h4 : c = 304
  · subst h4; decide +kernel
  · rw [low_none h4]; exact Nat.le_succ 1
theorem vals_len : (b3N.all fun p => Nat.ble p.2.length 10) = true := by decide +kernel
theorem M_len (c : Nat) : (M c).length ≤ 10 := by
  unfold M
  cases hl : b3N.lookup c with
  | none => exact Nat.le_trans (lowerOf_len c) (by decide)
  | some l => exact Nat.le_of_ble_eq_true (List.all_eq_true.mp vals_len _ (mem_lookN hl))
theorem flat_len : ∀ w : List Nat, (w.flatMap M).length ≤ 10 * w.length
  | [] => Nat.le_refl 0
  | c :: w => by
    rw [List.flatMap_cons, List.length_append, List.length_cons, Nat.mul_succ, Nat.add_comm]
    exact Nat.add_le_add (flat_len w) (M_len c)
theorem map_c {α β γ : Type} {g : β → γ} {f : α → β} (t : List α) : (t.map fun c => g (f c)) = (t.map f).map g := by rw [List.map_map]; rfl
noncomputable def twoL (c : Nat) : List (List Nat) := [M c, Unicode.lowerOf c]
noncomputable def W5 (ns : List Int) (f : Int) : List (Str × V) := ("drawn", tx [codeN f]) :: ("made", tx (M (codeN f))) :: W4 ns f
noncomputable def W6 (ns : List Int) (f : Int) : List (Str × V) := ("again", .d (.list ((twoL (codeN f)).map fun t => txtD (t.flatMap M)))) :: W5 ns f
noncomputable def SgN : List Str := [".0", "sign"]
theorem x_b3 {n : Nat} {C : Cx} {st : St} {e : Expr} (p : PyData → Option PyData) (g : Nat → PyData) (hp : ∀ c, p (strD c) = some (g c)) (hg : ∀ c, rd0 (.d (g c)) = some (g c)) (t : List Nat) (ht : t.length ≤ 1000)
    (h0 : ev G (n + 13) C e st = ((iter G (n + 12) C (kd e 1) st).bind fun p => gd (compOk C (gnE e).2 p.2.vars) ((gd (okTarget p.1 (kd e 2)) (compL (fun x st acc => (bind G (n + 11) ⟨(gnE e).2, []⟩ (kd e 2) (.d x) st).bind fun st => (evAnd (tst G (n + 11) ⟨(gnE e).2, []⟩) ((kids e).drop 3) st).bind fun p => bif p.1 then ((ev G (n + 11) ⟨(gnE e).2, []⟩ (kd e 0) p.2).bind fun p => (rd0 p.1).bind fun y => gd (decide (acc.length < maxLen)) (some (acc ++ [y], p.2))) else some (acc, p.2)) p.1 loopFuel 0
        ⟨((localNames (gnE e).2).map fun x => (x, none)) ++ p.2.vars.filter (fun x => freeIn (gnE e).2 x.1), p.2.objs⟩ [])).bind fun q => gd (decide (q.1.length ≤ maxLen)) (some (.fl q.1, ⟨p.2.vars, q.2.objs⟩)))))
    (hi : iter G (n + 12) C (kd e 1) st = some (.vals (t.map strD), st)) (hk : compOk C (gnE e).2 st.vars = true) (hs : (⟨((localNames (gnE e).2).map fun x => (x, none)) ++ st.vars.filter (fun x => freeIn (gnE e).2 x.1), st.objs⟩ : St) = S SgN [] z0 st.objs)
    (hb : ∀ x σ, x ∈ t → bind G (n + 11) ⟨(gnE e).2, []⟩ (kd e 2) (.d (strD x)) (S SgN [] σ st.objs) = some (S SgN [("sign", tx [x])] σ st.objs)) (ht' : (kids e).drop 3 = [])
    (h1 : ∀ x σ, ev G (n + 11) ⟨(gnE e).2, []⟩ (kd e 0) (S SgN [("sign", tx [x])] σ st.objs) = evPrim (fs G (n + 10)) ⟨(gnE e).2, []⟩ (n + 10) p (kids (kd e 0)).tail (S SgN [("sign", tx [x])] σ st.objs)) (h2 : ∀ x σ, evs (ev G (n + 10) ⟨(gnE e).2, []⟩) (kids (kd e 0)).tail (S SgN [("sign", tx [x])] σ st.objs) = some ([tx [x]], S SgN [("sign", tx [x])] σ st.objs)) :
    ev G (n + 13) C e st = some (.fl (t.map g), st) :=
  x_map (N := SgN) t strD (fun c => .d (g c)) g [] (fun c => [("sign", tx [c])]) z0 h0 hi hk (decide_eq_true ht) hs hb (fun _ _ => (by rfl')) ht' (fun c σ _ => x_pm p (h1 c σ) (h2 c σ) (hp c)) (fun c _ => hg c)
section
variable {n : Nat} {ns : List Int} {f : Int} {P : Fl × St → Prop} {o : Objs} {c : Nat}
theorem off_le {f : Int} : codeN f ≤ 1114111 := by
  have h := md_lt (x := f) (n := 1112064) (by decide)
  unfold codeN offN
  cases q : Nat.blt (md f 1112064) 55296 with
  | true => show _ + 0 ≤ _; omega
  | false => show _ + 2048 ≤ _; omega
theorem w_2 (h : Hd (exs (ex G (n + 100) CW) (BW.drop 3) (S NW (W3 ns f) z0 o)) P) : Hd (exs (ex G (n + 100) CW) (BW.drop 2) (S NW (W2 ns f) z0 o)) P := by
  have hp : placeN f < 89 := md_lt (by decide)
  refine A (tx [strayN (placeN f)]) (st1 := S NW (W2 ns f) z0 o) (S NW (W3 ns f) z0 o) (by rfl') (x_ife (Nat.blt (placeN f) 9) (by rfl') (t_cmp .Lt (a := ii (placeN f)) (b := ii (9 : Nat)) (by rfl') (by rfl') (by rfl') (congrArg some (ltb _ _))) (fun q => ?_) fun q => ?_) (by rfl') h
  · unfold strayN; rw [q]; exact x_bui .chr (by rfl') (evs1 (v := ii (7296 + placeN f : Nat)) (by rfl')) (chrV (show 7296 + placeN f ≤ 1114111 by omega))
  · unfold strayN; rw [q]; exact x_bui .chr (by rfl') (evs1 (v := ii (43879 + placeN f : Nat)) (by rfl')) (chrV (show 43879 + placeN f ≤ 1114111 by omega))
noncomputable def prD (p : Nat × Nat) : PyData := .list [.int p.1, .int p.2]
theorem w_3 (h : Hd (exs (ex G (n + 100) CW) (BW.drop 4) (S NW (W4 ns f) z0 o)) P) : Hd (exs (ex G (n + 100) CW) (BW.drop 3) (S NW (W3 ns f) z0 o)) P := by
  have hc {e : Expr} {n : Nat} (i a m : Nat) (hm : m ≠ 0) (h0 : ev G (n + 1) CW e (S NW (W3 ns f) z0 o) = evList (fs G n) CW (kids e) (S NW (W3 ns f) z0 o)) (hk : kids e = [kd e 0, kd e 1]) (h1 : ev G n CW (kd e 0) (S NW (W3 ns f) z0 o) = some (ii (a + (f.fdiv 3).fmod m), S NW (W3 ns f) z0 o)) (h2 : ev G n CW (kd e 1) (S NW (W3 ns f) z0 o) = some (ii (i : Nat), S NW (W3 ns f) z0 o)) : ev G (n + 1) CW e (S NW (W3 ns f) z0 o) = some (.fl [.int (a + md (f.fdiv 3) m : Nat), .int i], S NW (W3 ns f) z0 o) := by
    refine x_list (vs := [ii (a + md (f.fdiv 3) m : Nat), ii i]) h0 (hk ▸ evs_c ?_ (evs1 h2)) (by rfl') (by rfl')
    rw [h1, md_eq hm]; rfl
  refine AT (v := .d (prD (capN f))) (st2 := S NW (W4 ns f) z0 o) (by rfl') (x_item (w := .fl ((capL f).map prD)) (j := md f 3) (by rfl') (x_list (vs := [.fl [.int (192 + md (f.fdiv 3) 23 : Nat), .int 32], .fl [.int (1040 + md (f.fdiv 3) 32 : Nat), .int 32], .fl [.int (1329 + md (f.fdiv 3) 38 : Nat), .int 48]]) (by rfl') (evs_c (hc 32 192 23 (by decide) (by rfl') (by rfl') (by rfl') (by rfl')) (evs_c (hc 32 1040 32 (by decide) (by rfl') (by rfl') (by rfl') (by rfl')) (evs1 (hc 48 1329 38 (by decide) (by rfl') (by rfl') (by rfl') (by rfl'))))) (by rfl') (by rfl')) (x_bin (a := ii f) (b := ii (3 : Nat)) (by rfl') (by rfl') (by rfl') (modV (by decide))) (itF (idx_nat (md_lt (by decide)) (show 3 ≤ 1000 by decide)) (gDa (md_lt (by decide))))) (by rfl') h
theorem w_4 (h : Hd (exs (ex G (n + 100) CW) (BW.drop 5) (S NW (W5 ns f) z0 o)) P) : Hd (exs (ex G (n + 100) CW) (BW.drop 4) (S NW (W4 ns f) z0 o)) P :=
  AQ true [tx [codeN f], tx (M (codeN f))] (by rfl') (evs_c (x_bui .chr (by rfl') (evs1 (v := ii (codeN f)) (by rfl')) (chrV off_le)) (evs1 (x_pm prim3 (x := strD (codeN f)) (y := txtD (M (codeN f))) (by rfl') (evs1 (x_bui .chr (by rfl') (evs1 (v := ii (codeN f)) (by rfl')) (chrV off_le))) (prim3_spec _)))) (st2 := S NW (W5 ns f) z0 o) (by rfl') h
theorem w_5 (h : Hd (exs (ex G (n + 100) CW) (BW.drop 6) (S NW (W6 ns f) z0 o)) P) : Hd (exs (ex G (n + 100) CW) (BW.drop 5) (S NW (W5 ns f) z0 o)) P := by
  have hl : tx (lowW [codeN f]) = tx (Unicode.lowerOf (codeN f)) := congrArg tx (low1_eq _)
  have hm (t : List Nat) (ht : t ∈ twoL (codeN f)) : t.length ≤ 10 := by
    rcases List.mem_cons.mp ht with rfl | ht
    · exact M_len _
    · rw [List.mem_singleton.mp ht]; exact Nat.le_trans (lowerOf_len _) (by decide)
  refine A (.fl ((twoL (codeN f)).map fun t => txtD (t.flatMap M))) (S NW (W6 ns f) z0 o) (by rfl')
    (x_map (N := [".0", "text"]) (twoL (codeN f)) txtD (fun t => tx (t.flatMap M)) (fun t => txtD (t.flatMap M)) [] (fun t => [("text", tx t)]) z0 (by rfl') (i_val (v := .fl ((twoL (codeN f)).map txtD)) (by rfl') (x_list (vs := [tx (M (codeN f)), tx (lowW [codeN f])]) (by rfl') (evs_c (by rfl') (evs1 (x_low [codeN f] (by rfl') (show 1 ≤ 1000 by decide)))) (by rfl') (by rw [hl]; rfl)) (by rfl')) (by rfl') (by rfl') (by rfl') (fun _ _ _ => (by rfl')) (fun _ _ => (by rfl')) (by rfl')
      (fun t σ ht => x_mt [] "join" (by rfl') (by rfl') (x_b3 prim3 (fun c => txtD (M c)) prim3_spec (fun _ => (by rfl')) t (Nat.le_trans (hm t ht) (by decide)) (by rfl') (by rfl') (by rfl') (by rfl') (fun _ _ _ => (by rfl')) (by rfl') (fun _ _ => (by rfl')) (fun _ _ => (by rfl'))) ?_) (fun _ _ => (by rfl'))) (by rfl') h
  refine (congrArg (fun l => callM _ (mkS []) "join" [.fl l]) (map_c (g := txtD) (f := M) t)).trans (join_ok (ws := t.map M) ?_)
  exact Nat.le_trans (flat_len t) (Nat.le_trans (Nat.mul_le_mul_left 10 (hm t ht)) (by decide))
end
end L1
end
section
open PySem PySem.W Mine V03
namespace L1
noncomputable def Lay (d : Nat) (x : PyData) : Prop := x.canLay0 = true ∧ x.depth ≤ d
noncomputable def okT (w : List Nat) : Prop := ∀ c ∈ w, c ≤ 1114111
theorem lay_tx {w : List Nat} (h : okT w) : Lay 0 (txtD w) := by
  refine ⟨?_, Nat.le_refl 0⟩
  show (mkS w).cps.all (· < 0x110000) = true
  rw [Array.all_eq_true]
  intro i hi
  exact decide_eq_true (Nat.lt_succ_of_le (h _ (List.getElem_mem (l := w) (n := i) hi)))
theorem lay_all {d : Nat} : ∀ {xs : List PyData}, (∀ x ∈ xs, Lay d x) → PyData.canLayAll0 xs = true ∧ PyData.depthAll xs ≤ d
  | [], _ => ⟨rfl, Nat.zero_le d⟩
  | x :: xs, h => by
    obtain ⟨h1, h2⟩ := lay_all fun y hy => h y (List.mem_cons_of_mem _ hy)
    obtain ⟨h3, h4⟩ := h x List.mem_cons_self
    exact ⟨(show (x.canLay0 && PyData.canLayAll0 xs) = true by rw [h3, h1]; rfl), Nat.max_le.mpr ⟨h4, h2⟩⟩
theorem lay_l {d : Nat} {xs : List PyData} (h : ∀ x ∈ xs, Lay d x) : Lay (d + 1) (.list xs) := ⟨(lay_all h).1, Nat.succ_le_succ (lay_all h).2⟩
theorem lay_map {α : Type} {d : Nat} {g : α → PyData} {l : List α} (h : ∀ a ∈ l, Lay d (g a)) : ∀ x ∈ l.map g, Lay d x := fun x hx => by
  obtain ⟨a, ha, rfl⟩ := List.mem_map.mp hx
  exact h a ha
theorem lay_ts {ws : List (List Nat)} (h : ∀ w ∈ ws, okT w) : Lay 1 (.list (ws.map txtD)) := lay_l (lay_map fun w hw => lay_tx (h w hw))
theorem Lay.ok {d : Nat} {x : PyData} (h : Lay d x) (hd : d ≤ 20) : okD x = true := by
  show (x.canLay0 && decide (x.depth ≤ 20)) = true
  rw [h.1, decide_eq_true (Nat.le_trans h.2 hd)]; rfl
theorem eq_same {o : Objs} {a b : V} {x : PyData} {d : Nat} (ha : rd o a = some x) (hb : rd o b = some x) (hs : asS a = none) (h : Lay d x) (hd : decide (d ≤ 20) = true) : cmpop o .Eq a b = some true := by
  show (((asS a).bind _).elim ((rd o a).bind _) some) = _
  rw [hs, ha]; show (rd o b).bind _ = _
  rw [hb]; show gd (okD x && okD x) (some (PyData.eqv x x)) = _
  rw [h.ok (of_decide_eq_true hd), SeqAt.eqv_refl x h.1]; rfl
theorem ne_same {o : Objs} {a b : V} {x : PyData} {d : Nat} (ha : rd o a = some x) (hb : rd o b = some x) (hs : asS a = none) (h : Lay d x) (hd : decide (d ≤ 20) = true) : cmpop o .NotEq a b = some false := by
  show (cmpop o .Eq a b).map not = _
  rw [eq_same ha hb hs h hd]; rfl
theorem low_top : (lowC.all fun k => k.2.2.all fun r => Nat.ble (r.2.2 + (r.2.1 - r.1)) 0x10FFFF) = true := by decide +kernel
theorem lowerOf_top {c : Nat} (h : c ≤ 1114111) : okT (Unicode.lowerOf c) := by
  by_cases h4 : c = 304
  · subst h4; unfold okT; decide +kernel
  · rw [low_none h4]
    intro d hd
    rw [List.mem_singleton.mp hd]
    cases hs : Unicode.shifted UnicodeData.oneLower c with
    | none => exact h
    | some e =>
      obtain ⟨r, hr, h1, h2, hd⟩ := shifted_some hs
      obtain ⟨k, hk, hr⟩ := List.mem_flatMap.mp (lowC_all ▸ hr)
      have li := Nat.le_of_ble_eq_true (List.all_eq_true.mp (List.all_eq_true.mp low_top k hk) r hr)
      show e ≤ _
      omega
theorem vals_top : (b3N.all fun p => p.2.all fun d => Nat.ble d 0x10FFFF) = true := by decide +kernel
theorem M_top {c : Nat} (h : c ≤ 1114111) : okT (M c) := by
  unfold M
  cases hl : b3N.lookup c with
  | none => exact lowerOf_top h
  | some l => exact fun d hd => Nat.le_of_ble_eq_true (List.all_eq_true.mp (List.all_eq_true.mp vals_top _ (mem_lookN hl)) d hd)
theorem lowW_eq {w : List Nat} (h : 931 ∉ w) : lowW w = w.flatMap Unicode.lowerOf := congrArg strL (lower_mkS w h)
section
variable {n : Nat} {ns : List Int} {f : Int} {P : Fl × St → Prop} {o : Objs} {c : Nat}
theorem int_eqv (a : Int) (c : Nat) (h : PyData.eqv (.int a) (.int c) = false) : (c : Int) ≠ a := fun e => by
  subst e
  exact tf ((SeqAt.eqv_refl (.int c) rfl).symm.trans h)
theorem w_6 (h : Hd (exs (ex G (n + 100) CW) (BW.drop 7) (S NW (W6 ns f) z0 o)) P) : Hd (exs (ex G (n + 100) CW) (BW.drop 6) (S NW (W6 ns f) z0 o)) P := by
  obtain ⟨m1, m2⟩ := M_low (codeN f)
  have hl : lowW (M (codeN f)) = M (codeN f) := (lowW_eq m1).trans m2
  refine IR (false || ((!([PyData.int 1017, .int 7838].any fun y => PyData.eqv y (.int (codeN f)))) && false)) (by rfl') (t_or2 (by rfl') (t_cmp .NotEq (a := tx (M (codeN f))) (b := tx (lowW (M (codeN f)))) (by rfl') (by rfl') (x_low (M (codeN f)) (by rfl') (Nat.le_trans (M_len _) (by decide))) ?_) fun _ => t_and2 (by rfl') (t_cmp .NotIn (a := ii (codeN f)) (b := .fl [.int 1017, .int 7838]) (by rfl') (by rfl') (by rfl') (by rfl')) fun q => t_cmp .NotEq (a := .d (.list ((twoL (codeN f)).map fun t => txtD (t.flatMap M)))) (b := .fl [txtD (M (codeN f)), txtD (M (codeN f))]) (by rfl') (by rfl') (by rfl') ?_) (fun q => absurd q ?_) fun _ => h
  · rw [hl]; show some (!(M (codeN f) == M (codeN f))) = _
    rw [beq_self_eq_true]; rfl
  · have q1 : ([PyData.int 1017, .int 7838].any fun y => PyData.eqv y (.int (codeN f))) = false := (Bool.not_eq_true' _).mp q
    have q2 := (Bool.or_eq_false_iff.mp q1).1
    have q3 := (Bool.or_eq_false_iff.mp (Bool.or_eq_false_iff.mp q1).2).1
    obtain ⟨g1, g2⟩ := M_again (codeN f) (fun e => int_eqv _ _ q2 (congrArg Int.ofNat e)) fun e => int_eqv _ _ q3 (congrArg Int.ofNat e)
    refine ne_same (x := .list [txtD (M (codeN f)), txtD (M (codeN f))]) (d := 1) ?_ rfl rfl (lay_ts (ws := [M (codeN f), M (codeN f)]) fun w hw => ?_) (by decide)
    · show some (PyData.list [txtD ((M (codeN f)).flatMap M), txtD ((Unicode.lowerOf (codeN f)).flatMap M)]) = _
      rw [g1, g2]
    · have e : w = M (codeN f) := by rcases List.mem_cons.mp hw with e | e; exact e; exact List.mem_singleton.mp e
      rw [e]; exact M_top off_le
  · rw [Bool.and_false]; exact Bool.false_ne_true
end
end L1
end
section
open PySem PySem.W Mine V03
namespace Mine
variable {G : Env'} {n : Nat} {C : Cx} {st : St}
theorem x_jit {α : Type} {N : List Str} {e : Expr} (it : It) (l : List α) (φ : α → PyData) (w : α → V) (ψ : α → PyData) (L : List (Str × V)) (L1 : α → List (Str × V)) (σ : Str → Option V)
    (h0 : ev G (n + 3) C e st = ((iter G (n + 2) C (kd e 1) st).bind fun p => gd (compOk C (gnE e).2 p.2.vars) ((gd (okTarget p.1 (kd e 2)) (compL (fun x st acc => (bind G (n + 1) ⟨(gnE e).2, []⟩ (kd e 2) (.d x) st).bind fun st => (evAnd (tst G (n + 1) ⟨(gnE e).2, []⟩) ((kids e).drop 3) st).bind fun p => bif p.1 then ((ev G (n + 1) ⟨(gnE e).2, []⟩ (kd e 0) p.2).bind fun p => (rd0 p.1).bind fun y => gd (decide (acc.length < maxLen)) (some (acc ++ [y], p.2))) else some (acc, p.2)) p.1 loopFuel 0
        ⟨((localNames (gnE e).2).map fun x => (x, none)) ++ p.2.vars.filter (fun x => freeIn (gnE e).2 x.1), p.2.objs⟩ [])).bind fun q => gd (decide (q.1.length ≤ maxLen)) (some (.fl q.1, ⟨p.2.vars, q.2.objs⟩)))))
    (hi : iter G (n + 2) C (kd e 1) st = some (it, st)) (hq : okTarget it (kd e 2) = true) (hit : ∀ j o, nextIt o j it = some (l.map φ)[j]?) (hk : compOk C (gnE e).2 st.vars = true) (hl : decide (l.length ≤ 1000) = true) (hs : (⟨((localNames (gnE e).2).map fun x => (x, none)) ++ st.vars.filter (fun x => freeIn (gnE e).2 x.1), st.objs⟩ : St) = S N L σ (st.objs ++ []))
    (hb : ∀ x σ o, bind G (n + 1) ⟨(gnE e).2, []⟩ (kd e 2) (.d (φ x)) (S N L σ o) = some (S N (L1 x) σ o)) (hw : ∀ x σ o, S N (L1 x) σ o = S N L (ovs (L1 x) σ) o)
    (ht : (kids e).drop 3 = []) (he : ∀ x σ j, x ∈ l → ∃ j', ev G (n + 1) ⟨(gnE e).2, []⟩ (kd e 0) (S N (L1 x) σ (st.objs ++ j)) = some (w x, S N (L1 x) σ (st.objs ++ j'))) (hr : ∀ x, x ∈ l → rd0 (w x) = some (ψ x)) :
    ∃ j, ev G (n + 3) C e st = some (.fl (l.map ψ), ⟨st.vars, st.objs ++ j⟩) := by
  rw [h0, hi]
  show ∃ j, gd (compOk C (gnE e).2 st.vars) ((gd (okTarget it (kd e 2)) _).bind _) = _
  rw [hk, hq, hs]
  generalize hz : compL _ _ _ _ _ _ = z
  have H : Hd z fun q => q.1 = [] ++ (l.filter fun _ => true).map ψ ∧ ∃ σ j, q.2 = S N L σ (st.objs ++ j) := by
    rw [← hz]
    refine c_it (c := fun _ => true) (fun st' => ∃ σ j, st' = S N L σ (st.objs ++ j)) (fun j st' _ => hit j _) (fun x s acc hx hI hl => ?_) l 0 loopFuel _ [] rfl (Nat.lt_succ_of_le (Nat.le_trans (of_decide_eq_true hl) (by decide))) (by rw [List.length_nil, Nat.zero_add]; exact Nat.le_trans (of_decide_eq_true hl) (by decide)) ⟨σ, [], rfl⟩
    obtain ⟨σ, j, rfl⟩ := hI
    obtain ⟨j', hj⟩ := he x σ j hx
    show Hd ((bind _ _ _ _ _ (S N L σ (st.objs ++ j))).bind _) _
    rw [hb x σ]
    show Hd ((evAnd _ _ (S N (L1 x) σ (st.objs ++ j))).bind _) _
    rw [ht]
    show Hd ((ev _ _ _ _ (S N (L1 x) σ (st.objs ++ j))).bind _) _
    rw [hj]; show Hd ((rd0 (w x)).bind _) _
    rw [hr x hx]; show Hd (gd (decide (acc.length < maxLen)) _) _
    rw [decide_eq_true hl]
    exact ⟨rfl, _, j', hw x σ _⟩
  exact H.get fun q hq ⟨e, σ', j, h⟩ => ⟨j, by
    rw [gd_t rfl, gd_t rfl, hq]
    show gd (decide (q.1.length ≤ maxLen)) (some (V.fl q.1, (⟨st.vars, q.2.objs⟩ : St))) = _
    rw [e, h, List.filter_eq_self.mpr fun _ _ => rfl]
    exact gd_t (decide_eq_true (Nat.le_trans (Nat.le_of_eq (by rw [List.nil_append, List.length_map])) (Nat.le_trans (of_decide_eq_true hl) (by decide))))⟩
end Mine
namespace L1
noncomputable def numsOf (ns : List Int) : List Int := bif Nat.blt 1 ns.length then (ns.drop 1).take 4 else [9, 6, 43]
theorem nums_len (ns : List Int) : 1 ≤ (numsOf ns).length ∧ (numsOf ns).length ≤ 4 := by
  unfold numsOf
  cases q : Nat.blt 1 ns.length with
  | true =>
    have := Nat.le_of_ble_eq_true q
    show 1 ≤ ((ns.drop 1).take 4).length ∧ ((ns.drop 1).take 4).length ≤ 4
    rw [List.length_take, List.length_drop]; omega
  | false => exact show 1 ≤ [(9 : Int), 6, 43].length ∧ [(9 : Int), 6, 43].length ≤ 4 by decide
noncomputable def famD (f : Int) (xs : List Int) : PyData := .list (xs.map fun x => txtD (wd f x))
noncomputable def W7 (f : Int) (xs : List Int) : List (Str × V) := [("family", .d (famD f xs)), ("letters", .hl 0), ("code", ii (codeN f)), ("stray", tx [strayN (placeN f)]), ("capital", ii (capN f).1), ("step", ii (capN f).2), ("drawn", tx [codeN f])]
section
variable {n : Nat} {ns : List Int} {f : Int} {P : Fl × St → Prop} {o : Objs}
theorem sl5 (n : Nat) : min (min 5 (n + 1) - min 1 (n + 1)) n = min 4 n := by
  rw [Nat.min_eq_left (Nat.succ_le_succ (Nat.zero_le n)), show min 5 (n + 1) = min 4 n + 1 from Nat.succ_min_succ 4 n, Nat.add_sub_cancel, Nat.min_assoc, Nat.min_self]
theorem sl15 {xs : List PyData} (h : xs.length ≤ 1000) : sliceV o (.d (.list xs)) (some (ii 1)) (some (ii 5)) none = some (.fl ((xs.drop 1).take 4)) := by
  have e : sliceL xs (some ((1 : Nat) : Int)) (some ((5 : Nat) : Int)) = (xs.drop 1).take 4 := by
    show (xs.drop (clampI ((1 : Nat) : Int) xs.length)).take (clampI ((5 : Nat) : Int) xs.length - clampI ((1 : Nat) : Int) xs.length) = _
    rw [clamp_nat, clamp_nat]
    cases xs with
    | nil => rfl
    | cons x xs =>
      show (xs.drop (min 0 xs.length)).take _ = xs.take 4
      rw [Nat.zero_min]
      exact List.take_eq_take_iff.mpr (sl5 xs.length)
  show gd (decide (xs.length ≤ maxLen)) (some (V.fl (sliceL xs (some ((1 : Nat) : Int)) (some ((5 : Nat) : Int))))) = _
  rw [e]; exact gd_t (maxL h)
theorem fam_it (hl : ns.length ≤ 63) : iter G (n + 30) CW (kd (sE BW 7 0) 1) (S NW (W6 ns f) z0 o) = some (.vals ((numsOf ns).map .int), S NW (W6 ns f) z0 o) := by
  have h6 : (ns.map PyData.int).length ≤ 1000 := List.length_map (as := ns) PyData.int ▸ Nat.le_trans hl (by decide)
  refine i_val (v := .fl ((numsOf ns).map .int)) (by rfl') (x_ife (Nat.blt 1 ns.length) (by rfl') (t_cmp .Gt (a := ii ns.length) (b := ii (1 : Nat)) (by rfl') (x_bui .len (by rfl') (evs1 (v := .d (intsD ns)) (by rfl')) ((len_fl h6).trans (by rw [List.length_map]))) (by rfl') (congrArg some (ltb 1 _))) (fun q => ?_) fun q => ?_) (by rfl')
  · unfold numsOf; rw [q]
    refine (x_slice (w := .d (intsD ns)) (lo := some (kd (kd (kd (kd (sE BW 7 0) 1) 1) 1) 0)) (hi := some (kd (kd (kd (kd (sE BW 7 0) 1) 1) 1) 1)) (sp := none) (by rfl') (by rfl') (part_s (v := ii 1) (by rfl')) (part_s (v := ii 5) (by rfl')) (by rfl') (sl15 h6)).trans ?_
    rw [← List.map_drop, ← List.map_take]; rfl
  · unfold numsOf; rw [q]; exact x_list (vs := [ii 9, ii 6, ii 43]) (by rfl') (by rfl') (by rfl') (by rfl')
theorem w_7 (hl : ns.length ≤ 63) (hL : Mine.listAt o 0 = some ((psL f).map pairD)) (h : ∀ σ j, Hd (exs (ex G (n + 100) CW) (BW.drop 8) (S NW (W7 f (numsOf ns)) σ (o ++ j))) P) : Hd (exs (ex G (n + 100) CW) (BW.drop 7) (S NW (W6 ns f) z0 o)) P := by
  obtain ⟨j, hj⟩ := x_jit (G := G) (C := CW) (n := n + 96) (e := sE BW 7 0) (st := S NW (W6 ns f) z0 o) (N := [".0", "number", "letters"]) (.vals ((numsOf ns).map .int)) (numsOf ns) PyData.int (fun x => tx (wd f x)) (fun x => txtD (wd f x)) [("letters", .hl 0)] (fun x => [("number", ii x), ("letters", .hl 0)]) z0 (by rfl') (fam_it hl) (by rfl') (fun _ _ => (by rfl')) (by rfl') (decide_eq_true (Nat.le_trans (nums_len ns).2 (by decide))) (by rw [List.append_nil]; rfl') (fun _ _ _ => (by rfl')) (fun _ _ _ => (by rfl')) (by rfl')
    (fun x σ j _ => ⟨j ++ [Cell.list (cT' x (cntT x))], (x_fo "_law_typed" (by rfl') (evs_c (v := .hl 0) (by rfl') (evs1 (v := ii x) (by rfl'))) (typed_spec (n := n + 56) (ps := psL f) (by rfl') (listAt_app hL))).trans (congrArg (fun o' => some (tx (wd f x), S [".0", "number", "letters"] [("number", ii x), ("letters", .hl 0)] σ o')) (List.append_assoc ..))⟩) (fun _ _ => (by rfl'))
  exact A (.fl ((numsOf ns).map fun x => txtD (wd f x))) (S NW (W7 f (numsOf ns)) (ovs (W6 ns f) z0) (o ++ j)) (by rfl') hj (by rfl') (h _ j)
end
end L1
end
section
open PySem PySem.W Mine V03
namespace Mine
section
variable {G : Env'} {n : Nat} {C : Cx} {v a b : V} {st : St} {e : Expr}
theorem x_in {c} (h0 : ev G (n + 1) C e st = evCmp (fs G n) C (kd e 0) [.In] [kd e 1] st) (h1 : ev G n C (kd e 0) st = some (a, st)) (h2 : ev G n C (kd e 1) st = some (b, st)) (hb : b.obj? = none) (hc : cmpop st.objs .In a b = some c) : ev G (n + 1) C e st = some (.d (.bool c), st) := by
  rw [h0]; show (ev G n C (kd e 0) st).bind _ = _
  rw [h1]; show (ev G n C (kd e 1) st).bind _ = _
  rw [h2]; show b.obj?.elim ((cmpop st.objs .In a b).map _) _ = _
  rw [hb, hc]; rfl
theorem c_no {α : Type} {it : It} {l : List α} {φ : α → PyData} {f : PyData → St → List PyData → Option (List PyData × St)} (I : St → Prop) (hit : ∀ j st, I st → nextIt st.objs j it = some (l.map φ)[j]?) (hf : ∀ x st acc, x ∈ l → I st → Hd (f (φ x) st acc) fun q => q.1 = acc ∧ I q.2) :
    ∀ (r : List α) (j fuel : Nat) (st : St) (acc : List PyData), l.drop j = r → r.length < fuel → I st → Hd (compL f it fuel j st acc) fun q => q.1 = acc ∧ I q.2
  | _, _, 0, _, _, _, h, _ => absurd h (Nat.not_lt_zero _)
  | [], j, fuel + 1, st, acc, hr, _, hI => by
    show Hd ((nextIt st.objs j it).bind _) _
    rw [hit j st hI, List.getElem?_map, show l[j]? = none from List.getElem?_drop.symm.trans (congrArg (·[0]?) hr)]
    exact ⟨rfl, hI⟩
  | x :: r, j, fuel + 1, st, acc, hr, h, hI => by
    have hx : l[j]? = some x := List.getElem?_drop.symm.trans (congrArg (·[0]?) hr)
    show Hd ((nextIt st.objs j it).bind _) _
    rw [hit j st hI, List.getElem?_map, hx]
    show Hd ((f (φ x) st acc).bind _) _
    refine (hf x st acc (List.mem_of_getElem? hx) hI).get fun p hp ⟨e, hI⟩ => ?_
    rw [hp]
    exact (c_no I hit hf r (j + 1) fuel p.2 p.1 (List.drop_drop.symm.trans (congrArg (List.drop 1) hr)) (Nat.lt_of_succ_lt_succ h) hI).get fun q hq ⟨e2, hI⟩ => .of hq ⟨e2.trans e, hI⟩
theorem x_none {α β : Type} {N : List Str} (l : List α) (φ : α → PyData) (m : α → List β) (ψ : β → PyData) (L : List (Str × V)) (L1 : α → List (Str × V)) (L2 : α → β → List (Str × V)) (σ : Str → Option V)
    (h0 : ev G (n + 4) C e st = ((iter G (n + 3) C (kd e 1) st).bind fun p => gd (compOk C (gnE e).2 p.2.vars) ((gd (okTarget p.1 (kd e 2)) (compL (fun x st acc => (bind G (n + 2) ⟨(gnE e).2, []⟩ (kd e 2) (.d x) st).bind fun st => (iter G (n + 2) ⟨(gnE e).2, []⟩ (kd e 3) st).bind fun p => gd (okTarget p.1 (kd e 4)) (compL (fun x st acc => (bind G (n + 1) ⟨(gnE e).2, []⟩ (kd e 4) (.d x) st).bind fun st => (evAnd (tst G (n + 1) ⟨(gnE e).2, []⟩) [kd e 5] st).bind fun p => bif p.1 then ((ev G (n + 1) ⟨(gnE e).2, []⟩ (kd e 0) p.2).bind fun p => (rd0 p.1).bind fun y => gd (decide (acc.length < maxLen)) (some (acc ++ [y], p.2))) else some (acc, p.2)) p.1 loopFuel 0 p.2 acc)) p.1 loopFuel 0
        ⟨((localNames (gnE e).2).map fun x => (x, none)) ++ p.2.vars.filter (fun x => freeIn (gnE e).2 x.1), p.2.objs⟩ [])).bind fun q => gd (decide (q.1.length ≤ maxLen)) (some (.fl q.1, ⟨p.2.vars, q.2.objs⟩)))))
    (hi : iter G (n + 3) C (kd e 1) st = some (.vals (l.map φ), st)) (hk : compOk C (gnE e).2 st.vars = true) (hl : decide (l.length ≤ 1000) = true) (hm : ∀ x ∈ l, (m x).length ≤ 1000) (hs : (⟨((localNames (gnE e).2).map fun x => (x, none)) ++ st.vars.filter (fun x => freeIn (gnE e).2 x.1), st.objs⟩ : St) = S N L σ st.objs)
    (hb1 : ∀ x σ, bind G (n + 2) ⟨(gnE e).2, []⟩ (kd e 2) (.d (φ x)) (S N L σ st.objs) = some (S N (L1 x) σ st.objs)) (hi2 : ∀ x σ, iter G (n + 2) ⟨(gnE e).2, []⟩ (kd e 3) (S N (L1 x) σ st.objs) = some (.vals ((m x).map ψ), S N (L1 x) σ st.objs)) (hb2 : ∀ x y σ, bind G (n + 1) ⟨(gnE e).2, []⟩ (kd e 4) (.d (ψ y)) (S N (L1 x) σ st.objs) = some (S N (L2 x y) σ st.objs))
    (ht : ∀ x y σ, evAnd (tst G (n + 1) ⟨(gnE e).2, []⟩) [kd e 5] (S N (L2 x y) σ st.objs) = some (false, S N (L2 x y) σ st.objs)) (hw1 : ∀ x σ, S N (L1 x) σ st.objs = S N L (ovs (L1 x) σ) st.objs) (hw2 : ∀ x y σ, S N (L2 x y) σ st.objs = S N (L1 x) (ovs (L2 x y) σ) st.objs) :
    ev G (n + 4) C e st = some (.fl [], st) := by
  rw [h0, hi]
  show gd (compOk C (gnE e).2 st.vars) ((gd true _).bind _) = _
  rw [hk, hs]
  generalize hz : compL _ _ _ _ _ _ = z
  have H : Hd z fun q => q.1 = [] ∧ ∃ σ, q.2 = S N L σ st.objs := by
    rw [← hz]
    refine c_no (fun st' => ∃ σ, st' = S N L σ st.objs) (fun j st' _ => rfl) (fun x s acc hx hI => ?_) l 0 loopFuel _ [] rfl (Nat.lt_succ_of_le (Nat.le_trans (of_decide_eq_true hl) (by decide))) ⟨σ, rfl⟩
    obtain ⟨σ, rfl⟩ := hI
    show Hd ((bind _ _ _ _ _ (S N L σ st.objs)).bind _) _
    rw [hb1 x σ]
    show Hd ((iter _ _ _ _ (S N (L1 x) σ st.objs)).bind _) _
    rw [hi2 x σ]
    show Hd (gd true _) _
    rw [gd_t rfl]
    refine (c_no (l := m x) (φ := ψ) (fun st' => ∃ σ, st' = S N (L1 x) σ st.objs) (fun j st' _ => rfl) (fun y s acc hy hI => ?_) (m x) 0 loopFuel (S N (L1 x) σ st.objs) acc rfl (Nat.lt_succ_of_le (Nat.le_trans (hm x hx) (by decide))) ⟨σ, rfl⟩).get fun q hq ⟨e1, σ', e2⟩ => .of hq ⟨e1, _, e2.trans (hw1 x σ')⟩
    obtain ⟨σ, rfl⟩ := hI
    show Hd ((bind _ _ _ _ _ (S N (L1 x) σ st.objs)).bind _) _
    rw [hb2 x y σ]
    show Hd ((evAnd _ _ (S N (L2 x y) σ st.objs)).bind _) _
    rw [ht x y σ]
    exact ⟨rfl, _, hw2 x y σ⟩
  exact H.get fun q hq ⟨e, σ', h⟩ => by
    rw [gd_t rfl, gd_t rfl, hq]
    show gd (decide (q.1.length ≤ maxLen)) (some (V.fl q.1, (⟨st.vars, q.2.objs⟩ : St))) = _
    rw [e, h]
    exact gd_t (decide_eq_true (Nat.zero_le _))
end
end Mine
namespace L1
noncomputable def heldD (w : List Nat) : PyData := .list (w.map fun c => .bool (isB1 c))
noncomputable def fw (f : Int) (xs : List Int) : List (List Nat) := xs.map (wd f) ++ [[codeN f]]
noncomputable def W8 (f : Int) (xs : List Int) : List (Str × V) := ("held", .d (.list ((fw f xs).map heldD))) :: W7 f xs
section
variable {n : Nat} {xs : List Int} {f : Int} {P : Fl × St → Prop} {o : Objs} {σ : Str → Option V}
theorem wd_len {x : Int} : (wd f x).length ≤ 12 := by
  unfold wd wordT
  rw [List.length_append]
  exact Nat.le_trans (Nat.add_le_add (Nat.le_trans (gs_at (x := x) (j := cntT x) (k := 0) (by decide)).2 (Nat.le_of_lt cnt_lt)) fl_len) (show 12 ≤ 12 by decide)
theorem fw_len {w : List Nat} (h : w ∈ fw f xs) : w.length ≤ 1000 := by
  rcases List.mem_append.mp h with h | h
  · obtain ⟨x, _, rfl⟩ := List.mem_map.mp h
    exact Nat.le_trans wd_len (by decide)
  · rw [List.mem_singleton.mp h]; exact show 1 ≤ 1000 by decide
theorem fw_n (h4 : xs.length ≤ 4) : (fw f xs).length ≤ 1000 := by
  unfold fw
  rw [List.length_append, List.length_map]
  exact Nat.le_trans (Nat.add_le_add_right h4 1) (by decide)
theorem w_8 (h4 : xs.length ≤ 4) (h : Hd (exs (ex G (n + 100) CW) (BW.drop 9) (S NW (W8 f xs) σ o)) P) : Hd (exs (ex G (n + 100) CW) (BW.drop 8) (S NW (W7 f xs) σ o)) P := by
  have e : (xs.map fun x => txtD (wd f x)) ++ [strD (codeN f)] = (fw f xs).map txtD := by unfold fw; rw [List.map_append, List.map_map]; rfl
  refine A (.fl ((fw f xs).map heldD)) (S NW (W8 f xs) σ o) (by rfl')
    (x_map (N := [".0", "typed"]) (fw f xs) txtD (fun w => .fl (w.map fun c => .bool (isB1 c))) heldD [] (fun w => [("typed", tx w)]) z0 (by rfl') (i_val (v := .fl ((fw f xs).map txtD)) (by rfl') (x_bin (a := .d (famD f xs)) (b := .fl [strD (codeN f)]) (by rfl') (by rfl') (by rfl') (e ▸ addL ?_)) (by rfl')) (by rfl') (decide_eq_true (fw_n h4)) (by rfl') (fun _ _ _ => (by rfl')) (fun _ _ => (by rfl')) (by rfl')
      (fun w σ hw => x_b3 prim1 (fun c => .bool (isB1 c)) (fun _ => rfl) (fun _ => (by rfl')) w (fw_len hw) (by rfl') (by rfl') (by rfl') (by rfl') (fun _ _ _ => (by rfl')) (by rfl') (fun _ _ => (by rfl')) (fun _ _ => (by rfl'))) (fun _ _ => (by rfl'))) (by rfl') h
  rw [List.length_map]; exact Nat.le_trans (Nat.add_le_add_right h4 1) (by decide)
end
end L1
end
section
open PySem PySem.W Mine V03
namespace Mine
variable {G : Env'} {n : Nat} {C : Cx} {v a b : V} {st : St} {e : Expr}
theorem i_zip (x y : PyData) (xs ys : List PyData) {zs : List PyData} (h0 : iter G (n + 1) C e st = (evs (ev G n C) (kids e).tail st).bind fun p => (rd0s p.1).bind fun l => two l fun a b => (zipD? a).bind fun xs => (zipD? b).map fun ys => (It.zip (zipD xs ys), p.2)) (h : evs (ev G n C) (kids e).tail st = some ([.d x, .d y], st)) (hx : zipD? x = some xs) (hy : zipD? y = some ys) (hz : zipD xs ys = zs) : iter G (n + 1) C e st = some (.zip zs, st) := by
  rw [h0, h]; show (zipD? x).bind _ = _
  rw [hx]; show (zipD? y).map _ = _
  rw [hy, ← hz]; rfl
end Mine
namespace L1
theorem zip_app {α : Type} {g h : α → PyData} {r : List PyData} : ∀ l : List α, zipD (l.map g) (l.map h ++ r) = l.map fun a => .tuple [g a, h a]
  | [] => rfl
  | a :: l => congrArg (PyData.tuple [g a, h a] :: ·) (zip_app l)
theorem zip_map {α : Type} {g h : α → PyData} (l : List α) : zipD (l.map g) (l.map h) = l.map fun a => .tuple [g a, h a] := (congrArg (zipD (l.map g)) (List.append_nil _).symm).trans (zip_app l)
theorem eqv_int (a b : Int) : PyData.eqv (.int a) (.int b) = (a == b) := by rfl'
theorem b1_perm : (b1I.map fun p => p.1).Perm (noiseL.map fun (c : Nat) => (c : Int)) := by decide +kernel
theorem b1_in (c : Nat) : ((natD noiseL).any fun y => PyData.eqv y (.int (c : Int))) = isB1 c := by
  have e1 : isB1 c = (b1I.map fun p => p.1).any fun x => x == (c : Int) := by rw [List.any_map]; rfl
  have e2 : ((natD noiseL).any fun y => PyData.eqv y (.int (c : Int))) = (noiseL.map fun (c : Nat) => (c : Int)).any fun x => x == (c : Int) := by
    unfold natD
    rw [List.any_map, List.any_map]; rfl
  rw [e1, e2, b1_perm.any_eq]
theorem ix_keep : (gs1.all fun a => gs1.all fun b => ((typedIx a b).filter fun i => Nat.blt i 3) == [0, 1, 2] && (typedIx a b).all fun i => Nat.blt i 5) = true := by decide +kernel
section
variable {n : Nat} {xs : List Int} {f x : Int} {P : Fl × St → Prop} {o : Objs} {σ : Str → Option V}
theorem ch_ok {k : Nat} (h : k < 3) : okC1 (ch f x k) = true := by
  have hl := lt_ok (f := f) h
  unfold ch
  have hb := b_lt x k
  generalize bT x k = b at hb
  match b, hb with
  | 0, _ => exact hl.cs
  | 1, _ => exact hl.cg
theorem strip_wd : ((wd f x).filter fun c => !isB1 c) = plT f x := by
  obtain ⟨h1, h2⟩ := bA (List.all_eq_true.mp (List.all_eq_true.mp ix_keep _ (gT_mem (x := x) (Nat.blt 0 (cntT x)) 0)) _ (gT_mem (x := x) (Nat.blt 1 (cntT x)) 1))
  unfold wd
  rw [word_ix, List.filter_map]
  have e : (typedIx (g1T x) (g2T x)).filter ((fun c => !isB1 c) ∘ wf (chT (psL f) x) (zzT x)) = [0, 1, 2] := by
    refine (List.filter_congr fun i hi => ?_).trans (eq_of_beq h1)
    have lt := Nat.le_of_ble_eq_true (List.all_eq_true.mp h2 i hi)
    show (!isB1 (wf (chT (psL f) x) (zzT x) i)) = _
    match i, lt with
    | 0, _ => exact congrArg not (okC1_top (ch_ok (f := f) (x := x) (k := 0) (by decide))).2.2.2
    | 1, _ => exact congrArg not (okC1_top (ch_ok (f := f) (x := x) (k := 1) (by decide))).2.2.2
    | 2, _ => exact congrArg not (okC1_top (ch_ok (f := f) (x := x) (k := 2) (by decide))).2.2.2
    | 3, _ => exact congrArg not (fx_noise (zT_ok x 0).2).2
    | 4, _ => exact congrArg not (fx_noise (zT_ok x 1).2).2
  rw [e]; rfl
theorem w_9 (h4 : xs.length ≤ 4) (h : Hd (exs (ex G (n + 100) CW) (BW.drop 10) (S NW (W8 f xs) σ o)) P) : Hd (exs (ex G (n + 100) CW) (BW.drop 9) (S NW (W8 f xs) σ o)) P := by
  have hn : ((fw f xs).map heldD).length = xs.length + 1 := by unfold fw; rw [List.length_map, List.length_append, List.length_map]; rfl
  refine IR (false || false) (by rfl') (t_or2 (by rfl') (t_cmp .NotEq (a := .fl []) (b := .fl []) (by rfl')
      (x_none (N := [".0", "told", "answer"]) (fw f xs) heldD (fun w => w) (fun c => .bool (isB1 c)) [] (fun w => [("told", .d (heldD w))]) (fun w c => [("told", .d (heldD w)), ("answer", .d (.bool (isB1 c)))]) z0 (by rfl') (by rfl') (by rfl') (decide_eq_true (fw_n h4)) (fun w hw => fw_len hw) (by rfl') (fun _ _ => (by rfl')) (fun _ _ => (by rfl')) (fun _ _ _ => (by rfl')) (fun _ _ _ => a_1 (by rfl')) (fun _ _ => (by rfl')) (fun _ _ _ => (by rfl'))) (by rfl') (ne_same (x := .list []) (d := 1) (by rfl') (by rfl') (by rfl') (lay_l nofun) (by rfl'))) fun _ =>
    t_cmp .NotEq (a := .d (heldD [codeN f])) (b := .fl [.bool (isB1 (codeN f))]) (by rfl') (x_item (w := .d (.list ((fw f xs).map heldD))) (j := .negSucc 0) (by rfl') (by rfl') (by rfl') (itL (idx_neg (k := 0) (by rw [hn]; exact Nat.succ_pos _) (by rw [List.length_map]; exact fw_n h4)) ?_))
      (x_list (vs := [.d (.bool (isB1 (codeN f)))]) (by rfl') (evs1 (x_in (a := ii (codeN f)) (b := .fl (natD noiseL)) (by rfl') (by rfl') (x_fn (vs := []) "_law_noise" (by rfl') (by rfl') (by rfl')) (by rfl') ?_)) (by rfl') (by rfl')) (ne_same (x := heldD [codeN f]) (d := 1) (by rfl') (by rfl') (by rfl') (lay_l (lay_map fun c _ => ⟨rfl, Nat.le_refl 0⟩)) (by rfl'))) ft fun _ => h
  · rw [hn]; unfold fw; rw [List.map_append]
    show (_ ++ [heldD [codeN f]])[xs.length + 1 - 1 - 0]? = _
    rw [List.getElem?_append_right (by rw [List.length_map, List.length_map]; exact Nat.le_refl _), List.length_map, List.length_map]
    show [heldD [codeN f]][xs.length - xs.length]? = _
    rw [Nat.sub_self]; rfl
  · refine (show cmpop _ .In (ii (codeN f)) (.fl (natD noiseL)) = gd (okD (.int (codeN f)) && okDs (natD noiseL)) (some ((natD noiseL).any fun y => PyData.eqv y (.int (codeN f)))) from (by rfl')).trans ?_
    rw [b1_in]; exact gd_t (by rfl')
end
end L1
end
section
open PySem PySem.W Mine V03
namespace L1
noncomputable def W10 (f : Int) (xs : List Int) : List (Str × V) := [("plain", .d (.list (xs.map fun x => txtD (plT f x)))), ("letters", .hl 0), ("stray", tx [strayN (placeN f)]), ("capital", ii (capN f).1), ("step", ii (capN f).2), ("family", .d (famD f xs))]
noncomputable def smL (f : Int) : List PyData := (psL f).map fun p => txtD [p.1]
noncomputable def W11 (f : Int) (xs : List Int) : List (Str × V) := ("folds", .d (.list (xs.map fun _ => .list (smL f)))) :: W10 f xs
noncomputable def rowB (x : Int) (k : Nat) : Bool := bT x k == 1
noncomputable def W13 (f : Int) (xs : List Int) : List (Str × V) := [("greats", .d (.list ((xs.map rowB).map rowD))), ("plain", .d (.list (xs.map fun x => txtD (plT f x)))), ("letters", .hl 0), ("stray", tx [strayN (placeN f)]), ("family", .d (famD f xs))]
section
variable {n : Nat} {xs : List Int} {f x : Int} {P : Fl × St → Prop} {o : Objs} {σ : Str → Option V}
theorem len4 {α : Type} {l : List α} (h : l.length ≤ 4) : decide (l.length ≤ 1000) = true := decide_eq_true (Nat.le_trans h (by decide))
theorem w_10 (h4 : xs.length ≤ 4) (h : ∀ σ, Hd (exs (ex G (n + 100) CW) (BW.drop 11) (S NW (W10 f xs) σ o)) P) : Hd (exs (ex G (n + 100) CW) (BW.drop 10) (S NW (W8 f xs) σ o)) P := by
  refine A (.fl (xs.map fun x => txtD (plT f x))) (S NW (W10 f xs) (ovs (W8 f xs) σ) o) (by rfl')
    (x_mit (N := [".0", "typed", "told"]) (.zip (xs.map fun x => .tuple [txtD (wd f x), heldD (wd f x)])) xs (fun x => .tuple [txtD (wd f x), heldD (wd f x)]) (fun x => tx (plT f x)) (fun x => txtD (plT f x)) [] (fun x => [("typed", tx (wd f x)), ("told", .d (heldD (wd f x)))]) z0 (by rfl')
      (i_zip (famD f xs) (.list ((fw f xs).map heldD)) (xs.map fun x => txtD (wd f x)) ((fw f xs).map heldD) (by rfl') (by rfl') (by rfl') (by rfl') (by unfold fw; rw [List.map_append, List.map_map]; exact zip_app xs)) (by rfl') (fun _ => (by rfl')) (by rfl') (len4 h4) (by rfl') (fun _ _ _ => (by rfl')) (fun _ _ => (by rfl')) (by rfl')
      (fun x σ _ => x_mt [] "join" (by rfl') (by rfl')
        (x_fit (N := [".0", "sign", "out"]) (.zip ((wd f x).map fun c => .tuple [strD c, .bool (isB1 c)])) (wd f x) (fun c => .tuple [strD c, .bool (isB1 c)]) (fun c => !isB1 c) (fun c => tx [c]) strD [] (fun c => [("sign", tx [c]), ("out", .d (.bool (isB1 c)))]) z0 (by rfl')
          (i_zip (txtD (wd f x)) (heldD (wd f x)) ((wd f x).map strD) ((wd f x).map fun c => .bool (isB1 c)) (by rfl') (by rfl') (by rfl') (by rfl') (zip_map _)) (by rfl') (fun _ => (by rfl')) (by rfl') (decide_eq_true (Nat.le_trans wd_len (by decide))) (by rfl') (fun _ _ _ => (by rfl')) (fun _ _ => (by rfl')) (fun _ _ _ => a_1 (by rfl')) (fun _ _ _ _ => (by rfl')) (fun _ _ => (by rfl'))) ?_) (fun _ _ => (by rfl'))) (by rfl') (h _)
  rw [strip_wd]
  exact join_ok (ws := [[ch f x 0], [ch f x 1], [ch f x 2]]) (show 3 ≤ 1000000 by decide)
theorem M_ch {k : Nat} (h : k < 3) : M (ch f x k) = [(ltN f k).1] := by
  have hl := lt_ok (f := f) h
  unfold ch
  have hb := b_lt x k
  generalize bT x k = b at hb
  match b, hb with
  | 0, _ => exact hl.ms
  | 1, _ => exact hl.mg
theorem w_11 (h4 : xs.length ≤ 4) (h : Hd (exs (ex G (n + 100) CW) (BW.drop 12) (S NW (W11 f xs) σ o)) P) : Hd (exs (ex G (n + 100) CW) (BW.drop 11) (S NW (W10 f xs) σ o)) P := by
  refine A (.fl (xs.map fun _ => .list (smL f))) (S NW (W11 f xs) σ o) (by rfl')
    (x_map (N := [".0", "bare"]) xs (fun x => txtD (plT f x)) (fun _ => .fl (smL f)) (fun _ => .list (smL f)) [] (fun x => [("bare", tx (plT f x))]) z0 (by rfl') (by rfl') (by rfl') (len4 h4) (by rfl') (fun _ _ _ => (by rfl')) (fun _ _ => (by rfl')) (by rfl')
      (fun x σ _ => (x_b3 prim3 (fun c => txtD (M c)) prim3_spec (fun _ => (by rfl')) (plT f x) (show 3 ≤ 1000 by decide) (by rfl') (by rfl') (by rfl') (by rfl') (fun _ _ _ => (by rfl')) (by rfl') (fun _ _ => (by rfl')) (fun _ _ => (by rfl'))).trans ?_) (fun _ _ => (by rfl'))) (by rfl') h
  show some (V.fl [txtD (M (ch f x 0)), txtD (M (ch f x 1)), txtD (M (ch f x 2))], _) = _
  rw [M_ch (by decide), M_ch (by decide), M_ch (by decide)]; rfl
theorem caps : (((List.range 23).all fun i => M (192 + i) == [192 + i + 32]) && ((List.range 32).all fun i => M (1040 + i) == [1040 + i + 32]) && ((List.range 38).all fun i => M (1329 + i) == [1329 + i + 48])) = true := by decide +kernel
theorem cap_ok : M (capN f).1 = [(capN f).1 + (capN f).2] ∧ (capN f).1 + (capN f).2 ≤ 1500 := by
  obtain ⟨h, h3⟩ := bA caps
  obtain ⟨h1, h2⟩ := bA h
  have m1 := md_lt (x := f.fdiv 3) (n := 23) (by decide)
  have m2 := md_lt (x := f.fdiv 3) (n := 32) (by decide)
  have m3 := md_lt (x := f.fdiv 3) (n := 38) (by decide)
  have hm := md_lt (x := f) (n := 3) (by decide)
  unfold capN
  generalize md f 3 = m at hm
  match m, hm with
  | 0, _ => exact ⟨eq_of_beq (List.all_eq_true.mp h1 _ (List.mem_range.mpr m1)), show 192 + md (f.fdiv 3) 23 + 32 ≤ 1500 by omega⟩
  | 1, _ => exact ⟨eq_of_beq (List.all_eq_true.mp h2 _ (List.mem_range.mpr m2)), show 1040 + md (f.fdiv 3) 32 + 32 ≤ 1500 by omega⟩
  | 2, _ => exact ⟨eq_of_beq (List.all_eq_true.mp h3 _ (List.mem_range.mpr m3)), show 1329 + md (f.fdiv 3) 38 + 48 ≤ 1500 by omega⟩
theorem strays : ((List.range 89).all fun p => freeC lowC (strayN p) (strayN p) && (freeC keyC (strayN p) (strayN p) && (strayN p != 304 && okC1 (strayN p)))) = true := by decide +kernel
noncomputable def sy (f : Int) : Nat := strayN (placeN f)
theorem stray_ok : M (sy f) = [sy f] ∧ Unicode.lowerOf (sy f) = [sy f] ∧ okC1 (sy f) = true := by
  obtain ⟨h1, h⟩ := bA (List.all_eq_true.mp strays (placeN f) (List.mem_range.mpr (md_lt (by decide))))
  obtain ⟨h2, h⟩ := bA h
  obtain ⟨h3, h4⟩ := bA h
  have h3 := bne_iff_ne.mp h3
  exact ⟨M_fix h1 h3 h2, low_fix h1 h3, h4⟩
theorem sm_lay : Lay 1 (.list (smL f)) := lay_l fun y hy => by
  obtain ⟨p, hp, rfl⟩ := List.mem_map.mp hy
  obtain ⟨j, hj, rfl⟩ := List.mem_map.mp hp
  exact lay_tx fun c hc => by rw [List.mem_singleton.mp hc]; exact (okC1_top (lt_ok (f := f) (List.mem_range.mp hj)).cs).2.2.1
theorem w_12 (h4 : xs.length ≤ 4) (hL : Mine.listAt o 0 = some ((psL f).map pairD)) (h : Hd (exs (ex G (n + 100) CW) (BW.drop 13) (S NW (W11 f xs) σ o)) P) : Hd (exs (ex G (n + 100) CW) (BW.drop 12) (S NW (W11 f xs) σ o)) P := by
  obtain ⟨s1, -, s3⟩ := stray_ok (f := f)
  obtain ⟨c1, c2⟩ := cap_ok (f := f)
  have hc : (capN f).1 ≤ 1114111 := Nat.le_trans (Nat.le_add_right ..) (Nat.le_trans c2 (by decide))
  refine IR (false || false) (by rfl') (t_or2 (by rfl') (t_cmp .NotEq (a := .d (.list (xs.map fun _ => .list (smL f)))) (b := .fl (xs.map fun _ => .list (smL f))) (by rfl') (by rfl')
      (x_map (N := [".0", "bare", "letters"]) xs (fun x => txtD (plT f x)) (fun _ => .fl (smL f)) (fun _ => .list (smL f)) [("letters", .hl 0)] (fun x => [("bare", tx (plT f x)), ("letters", .hl 0)]) z0 (by rfl') (by rfl') (by rfl') (len4 h4) (by rfl') (fun _ _ _ => (by rfl')) (fun _ _ => (by rfl')) (by rfl')
        (fun x σ _ => x_mit (N := [".0", "small", "great"]) (.cell 0) (psL f) pairD (fun p => tx [p.1]) (fun p => txtD [p.1]) [] (fun p => [("small", tx [p.1]), ("great", tx [p.2])]) z0 (by rfl') (i_val (v := .hl 0) (by rfl') (by rfl') (by show (Mine.listAt o 0).map _ = _; rw [hL]; rfl)) (by rfl') (fun j => by show (Mine.listAt o 0).map _ = _; rw [hL]; rfl) (by rfl') (by rfl') (by rfl') (fun _ _ _ => (by rfl')) (fun _ _ => (by rfl')) (by rfl') (fun _ _ _ => (by rfl')) (fun _ _ => (by rfl'))) (fun _ _ => (by rfl')))
      (ne_same (x := .list (xs.map fun _ => .list (smL f))) (d := 2) (by rfl') (by rfl') (by rfl') (lay_l (lay_map fun _ _ => sm_lay)) (by rfl'))) fun _ =>
    t_cmp .NotEq (a := .fl [txtD (M (sy f)), txtD (M (capN f).1)]) (b := .fl [strD (sy f), strD ((capN f).1 + (capN f).2)]) (by rfl')
      (x_list (vs := [tx (M (sy f)), tx (M (capN f).1)]) (by rfl') (evs_c (x_pm prim3 (x := strD (sy f)) (y := txtD (M (sy f))) (by rfl') (by rfl') (prim3_spec _)) (evs1 (x_pm prim3 (x := strD (capN f).1) (y := txtD (M (capN f).1)) (by rfl') (evs1 (x_bui .chr (by rfl') (evs1 (v := ii (capN f).1) (by rfl')) (chrV hc))) (prim3_spec _)))) (by rfl') (by rfl'))
      (x_list (vs := [tx [sy f], tx [(capN f).1 + (capN f).2]]) (by rfl') (evs_c (by rfl') (evs1 (x_bui .chr (by rfl') (evs1 (v := ii ((capN f).1 + (capN f).2 : Nat)) (by rfl')) (chrV (Nat.le_trans c2 (by decide)))))) (by rfl') (by rfl')) ?_) ft fun _ => h
  rw [s1, c1]
  refine ne_same (x := .list [strD (sy f), strD ((capN f).1 + (capN f).2)]) (d := 1) (by rfl') (by rfl') (by rfl') (lay_ts (ws := [[sy f], [(capN f).1 + (capN f).2]]) fun w hw => ?_) (by rfl')
  rcases List.mem_cons.mp hw with rfl | hw
  · exact fun c hc => by rw [List.mem_singleton.mp hc]; exact (okC1_top s3).2.2.1
  · rw [List.mem_singleton.mp hw]; exact fun c hc => by rw [List.mem_singleton.mp hc]; exact Nat.le_trans c2 (by decide)
theorem ch_great {k : Nat} (h : k < 3) : (!([ch f x k] == [(ltN f k).1])) = rowB x k := by
  have hl := (lt_ok (f := f) h).ne
  unfold ch rowB
  have hb := b_lt x k
  generalize bT x k = b at hb
  match b, hb with
  | 0, _ => show (!([(ltN f k).1] == [(ltN f k).1])) = false; rw [beq_self_eq_true]; rfl
  | 1, _ => show (!([(ltN f k).2] == [(ltN f k).1])) = true; rw [beq_eq_false_iff_ne.mpr fun e => hl (List.cons.inj e).1]; rfl
noncomputable def cfD (f x : Int) (k : Nat) : PyData := .tuple [strD (ch f x k), strD (ltN f k).1]
theorem w_13 (h4 : xs.length ≤ 4) (h : ∀ σ, Hd (exs (ex G (n + 100) CW) (BW.drop 14) (S NW (W13 f xs) σ o)) P) : Hd (exs (ex G (n + 100) CW) (BW.drop 13) (S NW (W11 f xs) σ o)) P := by
  refine A (.fl (xs.map fun x => rowD (rowB x))) (S NW (W13 f xs) (ovs (W11 f xs) σ) o) (by rfl')
    (x_mit (N := [".0", "bare", "folded"]) (.zip (xs.map fun x => .tuple [txtD (plT f x), .list (smL f)])) xs (fun x => .tuple [txtD (plT f x), .list (smL f)]) (fun x => .fl [.bool (rowB x 0), .bool (rowB x 1), .bool (rowB x 2)]) (fun x => rowD (rowB x)) [] (fun x => [("bare", tx (plT f x)), ("folded", .d (.list (smL f)))]) z0 (by rfl')
      (i_zip (.list (xs.map fun x => txtD (plT f x))) (.list (xs.map fun _ => .list (smL f))) (xs.map fun x => txtD (plT f x)) (xs.map fun _ => .list (smL f)) (by rfl') (by rfl') (by rfl') (by rfl') (zip_map xs)) (by rfl') (fun _ => (by rfl')) (by rfl') (len4 h4) (by rfl') (fun _ _ _ => (by rfl')) (fun _ _ => (by rfl')) (by rfl')
      (fun x σ _ => x_mit (N := [".0", "sign", "fold"]) (.zip ((List.range 3).map (cfD f x))) (List.range 3) (cfD f x) (fun k => .d (.bool (rowB x k))) (fun k => .bool (rowB x k)) [] (fun k => [("sign", tx [ch f x k]), ("fold", tx [(ltN f k).1])]) z0 (by rfl')
          (i_zip (txtD (plT f x)) (.list (smL f)) ((plT f x).map strD) (smL f) (by rfl') (by rfl') (by rfl') (by rfl') (by rfl')) (by rfl') (fun _ => (by rfl')) (by rfl') (by rfl') (by rfl') (fun _ _ _ => (by rfl')) (fun _ _ => (by rfl')) (by rfl')
          (fun k σ hk => x_cmp .NotEq (a := tx [ch f x k]) (b := tx [(ltN f k).1]) (by rfl') (by rfl') (by rfl') (congrArg some (ch_great (List.mem_range.mp hk)))) (fun _ _ => (by rfl'))) (fun _ _ => (by rfl'))) (by rw [map_c (g := rowD) (f := rowB)]; rfl') (h _)
end
end L1
end
section
open PySem PySem.W Mine V03
namespace Mine
noncomputable def Go (N : List Str) (L : List (Str × V)) (J : Objs → Prop) (p : Fl × St) : Prop := p.1 = .next ∧ ∃ σ o, J o ∧ p.2 = S N L σ o
section
variable {G : Env'} {n : Nat} {C : Cx} {o : Objs} {st : St} {B : List Stmt} {k : Nat} {P : Fl × St → Prop}
theorem Go.mk {N : List Str} {L : List (Str × V)} {J : Objs → Prop} {σ : Str → Option V} {s : St} (h : J o) (e : s = S N L σ o) : Go N L J (.next, s) := ⟨rfl, σ, o, h, e⟩
theorem FJ {N : List Str} (it : It) (J : Nat → Objs → Prop) (m : Nat) (el : Nat → PyData) (L L1 : Nat → List (Str × V)) (h0 : ∀ st, exs (ex G (n + 1) C) (B.drop k) st = ((iter G n C (sE B k 0) st).bind fun p => gd (okTarget p.1 (sE B k 1)) (forL (fun x st => bind G n C (sE B k 1) (.d x) st) (exs (ex G n C) (sB B k)) p.1 loopFuel 0 p.2)).bind fun p => bif p.1.isNext then exs (ex G (n + 1) C) (B.drop (k + 1)) p.2 else some p)
    (hk : okTarget it (sE B k 1) = true) (hit : ∀ j o, J j o → nextIt o j it = some ((List.range m).map el)[j]?) (hi : iter G n C (sE B k 0) st = some (it, st)) (hl : decide (m ≤ maxLen) = true) {σ : Str → Option V} (hs : st = S N (L 0) σ o) (hJ : J 0 o) (hb : ∀ j σ o, bind G n C (sE B k 1) (.d (el j)) (S N (L j) σ o) = some (S N (L1 j) σ o))
    (hf : ∀ j σ o, j < m → J j o → Hd (exs (ex G n C) ((sB B k).drop 0) (S N (L1 j) σ o)) (Go N (L (j + 1)) (J (j + 1)))) (h2 : ∀ σ o, J m o → Hd (exs (ex G (n + 1) C) (B.drop (k + 1)) (S N (L m) σ o)) P) : Hd (exs (ex G (n + 1) C) (B.drop k) st) P := by
  rw [h0, hi]
  have e : ((List.range m).map el).length = m := (List.length_map ..).trans List.length_range
  have q : Hd (forL (fun x st => bind G n C (sE B k 1) (.d x) st) (exs (ex G n C) (sB B k)) it loopFuel 0 st) (Nx G (n + 1) C (B.drop (k + 1)) P) := f_all (xs := (List.range m).map el) (fun j st => ∃ σ o, J j o ∧ st = S N (L j) σ o) (fun j st ⟨σ, o, h, e⟩ => by rw [e]; exact hit j o h)
    (fun j x st hx hI => by
      obtain ⟨σ, o, hJ, rfl⟩ := hI
      obtain ⟨a, ha, rfl⟩ := Option.map_eq_some_iff.mp (List.getElem?_map.symm.trans hx)
      have lt : j < m := List.length_range (n := m) ▸ (List.getElem?_eq_some_iff.mp ha).1
      rw [List.getElem?_range lt] at ha
      cases ha
      exact .of (hb j σ o) ((hf j σ o lt hJ).get fun p hp ⟨h1, h2⟩ => .of hp (.inl ⟨h1, h2⟩)))
    (fun st ⟨σ, o, hJ, hI⟩ => by rw [e] at hI hJ; cases hI; exact h2 σ o hJ) m 0 loopFuel st ((Nat.zero_add m).trans e.symm) (Nat.lt_succ_of_le (of_decide_eq_true hl)) ⟨σ, o, hJ, hs⟩
  show Hd ((gd (okTarget it (sE B k 1)) _).bind _) P
  exact q.get fun p hp h => by rw [gd_t hk, hp]; exact h
end
end Mine
namespace L1
section
variable {n i h g p j : Nat} {a b w : List Nat} {o c : Objs} {es : List Ent} {σ : Str → Option V} {f : Int} {x : Cell}
theorem listAt_set (hn : h ≠ g) : Mine.listAt (o.set h x) g = Mine.listAt o g := by unfold Mine.listAt; rw [List.getElem?_set_ne hn]
theorem instAt_set (hn : h ≠ g) : instAt (o.set h x) g = instAt o g := by unfold instAt; rw [List.getElem?_set_ne hn]
theorem ne_il {k : Option Nat} {ys : List PyData} (h1 : instAt o i = some k) (h2 : Mine.listAt o h = some ys) : h ≠ i := fun e => by
  subst e
  obtain ⟨c, hc, e1⟩ := Option.bind_eq_some_iff.mp h1
  obtain ⟨d, hd, e2⟩ := Option.bind_eq_some_iff.mp h2
  rw [hc] at hd; cases hd
  cases c with
  | list xs => cases e1
  | inst k => cases e2
theorem listAt_here {ys : List PyData} (h1 : Mine.listAt o h = some ys) {xs : List PyData} : Mine.listAt (o.set h (.list xs)) h = some xs := by
  obtain ⟨c, hc, _⟩ := Option.bind_eq_some_iff.mp h1
  show ((o.set h (.list xs))[h]?).bind _ = _
  rw [List.getElem?_set_self (List.getElem?_eq_some_iff.mp hc).1]; rfl
theorem HA.keep {ys : List PyData} (H : HA o i h es) (hg : Mine.listAt o g = some ys) (hn : g ≠ h) : HA (o.set g x) i h es := ⟨(instAt_set (ne_il H.i hg)).trans H.i, (listAt_set hn).trans H.l, H.n⟩
theorem HA.add (H : HA o i h es) (hn : es.length < 1000) : HA (addO o h es a b) i h (es ++ [(a, b)]) :=
  ⟨(instAt_set (ne_il H.i H.l)).trans (instAt_app H.i), listAt_here (listAt_app H.l), by rw [List.length_append]; exact hn⟩
theorem HA.add' (H : HA o i h es) {es' : List Ent} (H' : HA o j g es') (hn : g ≠ h) : HA (addO o g es' a b) i h es := H.app.keep (listAt_app H'.l) hn
theorem lt_add {ys : List PyData} (hL : Mine.listAt o p = some ys) (hn : h ≠ p) : Mine.listAt (addO o h es a b) p = some ys := (listAt_set hn).trans (listAt_app hL)
theorem new_ne {ys : List PyData} (hL : Mine.listAt o p = some ys) : p < o.length := by
  obtain ⟨c, hc, _⟩ := Option.bind_eq_some_iff.mp hL
  exact (List.getElem?_eq_some_iff.mp hc).1
theorem lt_new {ys : List PyData} (hL : Mine.listAt o p = some ys) {k : Option Nat} : Mine.listAt (newO o k es) p = some ys := listAt_app (listAt_app hL)
theorem str4 {m : Nat} (h : m ≤ 9) : callB o .str [ii m] = some (tx [48 + m]) := by
  match m, Nat.lt_succ_of_le h with
  | 0, _ | 1, _ | 2, _ | 3, _ | 4, _ | 5, _ | 6, _ | 7, _ | 8, _ | 9, _ => rfl'
theorem int4 {m : Nat} (h : m ≤ 9) : callB o .int [tx [48 + m]] = some (ii m) := by
  match m, Nat.lt_succ_of_le h with
  | 0, _ | 1, _ | 2, _ | 3, _ | 4, _ | 5, _ | 6, _ | 7, _ | 8, _ | 9, _ => rfl'
end
end L1
end
section
open PySem PySem.W Mine V03
namespace L1
noncomputable def x0 (xs : List Int) : Int := xs.getD 0 0
noncomputable def oth (f x : Int) : List (List Nat) := [[ch f x 0, ch f x 1], plT f x ++ [sy f], plT f x, plT f x]
noncomputable def tg (f x : Int) (w : List Nat) : List Nat := bif w == plT f x then [57] else [56]
noncomputable def tb0 (f x : Int) : List Ent := (oth f x).map fun w => (w, tg f x w)
noncomputable def nmE (f : Int) (j : Nat) : List Ent := (List.range j).map fun k => ([(ltN f k).1], [])
noncomputable def kvE (f : Int) (xs : List Int) (j : Nat) : List Ent := (List.range j).map fun k => (plT f (xs.getD k 0), [48 + k])
noncomputable def tbE (f : Int) (xs : List Int) (j : Nat) : List Ent := tb0 f (x0 xs) ++ kvE f xs j
noncomputable def W14 (f : Int) (xs : List Int) (i : Nat) : List (Str × V) := ("names", .obj i) :: ("others", .d (.list ((oth f (x0 xs)).map txtD))) :: W13 f xs
noncomputable def W16 (f : Int) (xs : List Int) (i j : Nat) : List (Str × V) := ("table", .obj j) :: W14 f xs i
structure Sg (f : Int) (i h j g : Nat) (es es' : List Ent) (o : Objs) : Prop where
  lt : Mine.listAt o 0 = some ((psL f).map pairD)
  nm : HA o i h es
  tb : HA o j g es'
  h0 : h ≠ 0
  g0 : g ≠ 0
  hg : h ≠ g
structure Sn (f : Int) (i h : Nat) (es : List Ent) (o : Objs) : Prop where
  lt : Mine.listAt o 0 = some ((psL f).map pairD)
  nm : HA o i h es
  h0 : h ≠ 0
section
variable {n i h j g : Nat} {xs : List Int} {f x : Int} {P : Fl × St → Prop} {o c : Objs} {σ : Str → Option V} {es es' : List Ent} {a b : List Nat}
theorem Sg.app (H : Sg f i h j g es es' o) : Sg f i h j g es es' (o ++ c) := ⟨listAt_app H.lt, H.nm.app, H.tb.app, H.h0, H.g0, H.hg⟩
theorem pl_at {C : Cx} {e : Expr} {st : St} {k : Nat} (h0 : ev G (n + 1) C e st = evItem (fs G n) C (kd e 0) (kd e 1) st) (h1 : ev G n C (kd e 0) st = some (.d (.list (xs.map fun x => txtD (plT f x))), st)) (h2 : ev G n C (kd e 1) st = some (ii (k : Nat), st)) (hk : k < xs.length) (h4 : xs.length ≤ 4) : ev G (n + 1) C e st = some (tx (plT f (xs.getD k 0)), st) :=
  x_item h0 h1 h2 (itL (idx_nat (Nat.lt_of_lt_of_eq hk (List.length_map ..).symm) (Nat.le_trans (Nat.le_of_eq (List.length_map ..)) (Nat.le_trans h4 (by decide)))) (gDa hk))
theorem w_14 (h1 : 1 ≤ xs.length) (h4 : xs.length ≤ 4) (hL : Mine.listAt o 0 = some ((psL f).map pairD)) (h : ∀ σ o i h, Sn f i h [] o → Hd (exs (ex G (n + 100) CW) (BW.drop 15) (S NW (W14 f xs i) σ o)) P) : Hd (exs (ex G (n + 100) CW) (BW.drop 14) (S NW (W13 f xs) σ o)) P :=
  AQ false [.obj o.length, .fl ((oth f (x0 xs)).map txtD)] (by rfl') (evs_s (x_new (vs := []) (by rfl') (by rfl') (init0 (n := n + 43))) (evs1 (x_list (vs := [tx [ch f (x0 xs) 0, ch f (x0 xs) 1], tx (plT f (x0 xs) ++ [sy f]), tx (plT f (x0 xs)), tx (plT f (x0 xs))]) (by rfl')
      (evs_c (x_slice (w := tx (plT f (x0 xs))) (lo := none) (hi := some (kd (kd (kd (kd (sE BW 14 0) 1) 0) 1) 0)) (sp := none) (l := none) (s := none) (by rfl') (pl_at (k := 0) (by rfl') (by rfl') (by rfl') h1 h4) (by rfl') (part_s (v := ii 2) (by rfl')) (by rfl') (by rfl'))
        (evs_c (x_bin (a := tx (plT f (x0 xs))) (b := tx [sy f]) (by rfl') (pl_at (k := 0) (by rfl') (by rfl') (by rfl') h1 h4) (by rfl') (addT (show 4 ≤ 1000000 by decide)))
          (evs_c (pl_at (k := 0) (by rfl') (by rfl') (by rfl') h1 h4) (evs1 (pl_at (k := 0) (by rfl') (by rfl') (by rfl') h1 h4))))) (by rfl') (by rfl')))) (st2 := S NW (W14 f xs o.length) σ (newO o (some (o.length + 1)) [])) (by rfl')
    (h σ _ _ (o.length + 1) ⟨lt_new hL, .new (Nat.zero_le _), Nat.succ_ne_zero _⟩)
theorem okW1 {c : Nat} (h : okC1 c = true) : okW [c] = true := by
  show ((decide (32 ≤ c) && c != 127) && true) = true
  rw [(okC1_top h).1]; rfl
theorem w_15 (H : Sn f i h [] o) (k : ∀ σ o, Sn f i h (nmE f 3) o → Hd (exs (ex G (n + 100) CW) (BW.drop 16) (S NW (W14 f xs i) σ o)) P) : Hd (exs (ex G (n + 100) CW) (BW.drop 15) (S NW (W14 f xs i) σ o)) P :=
  FJ (N := NW) (.cell 0) (fun j => Sn f i h (nmE f j)) 3 (fun j => pairD (ltN f j)) (fun _ => W14 f xs i) (fun j => ("small", tx [(ltN f j).1]) :: ("great", tx [(ltN f j).2]) :: W14 f xs i) (for_h (by rfl') (by rfl')) (by rfl') (fun j o H => by show (Mine.listAt o 0).map _ = _; rw [H.lt]; rfl) (i_val (v := .hl 0) (by rfl') (by rfl') (by show (Mine.listAt o 0).map _ = _; rw [H.lt]; rfl)) (by rfl') (σ := σ) (by rfl') H (fun _ _ _ => (by rfl'))
    (fun j σ o lt H => by
      have hn : (nmE f j).length < 1000 := Nat.lt_of_le_of_lt (Nat.le_of_eq ((List.length_map ..).trans List.length_range)) (Nat.lt_trans lt (by decide))
      exact E1 (by rfl') (x_ob i "add_header" "Headers.add_header" (by rfl') (by rfl') H.nm.is (evs_c (v := tx [(ltN f j).1]) (by rfl') (evs1 (v := tx []) (by rfl'))) (by rfl') (add_spec (n := n + 37) H.nm hn (okW1 (lt_ok lt).cs) (by rfl') (Nat.zero_le _)))
        (.of (a := (.next, S NW (("small", tx [(ltN f j).1]) :: ("great", tx [(ltN f j).2]) :: W14 f xs i) σ (addO o h (nmE f j) [(ltN f j).1] []))) (by rfl') (.mk (σ := ovs (("small", tx [(ltN f j).1]) :: ("great", tx [(ltN f j).2]) :: W14 f xs i) σ) ⟨lt_add H.lt H.h0, range_snoc (f := fun k => (([(ltN f k).1], []) : Ent)) ▸ H.nm.add hn, H.h0⟩ (by rfl'))))
    k
theorem okW_ch {k : Nat} (h : k < 3) : (decide (32 ≤ ch f x k) && ch f x k != 127) = true := (okC1_top (ch_ok h)).1
theorem okW_pl : okW (plT f x) = true := by
  show ((decide (32 ≤ ch f x 0) && ch f x 0 != 127) && ((decide (32 ≤ ch f x 1) && ch f x 1 != 127) && ((decide (32 ≤ ch f x 2) && ch f x 2 != 127) && true))) = true
  rw [okW_ch (by decide), okW_ch (by decide), okW_ch (by decide)]; rfl
theorem okW_oth : ∀ w ∈ oth f x, okW w = true := fun w hw => by
  rcases List.mem_cons.mp hw with rfl | hw
  · show ((decide (32 ≤ ch f x 0) && ch f x 0 != 127) && ((decide (32 ≤ ch f x 1) && ch f x 1 != 127) && true)) = true
    rw [okW_ch (by decide), okW_ch (by decide)]; rfl
  rcases List.mem_cons.mp hw with rfl | hw
  · show ((decide (32 ≤ ch f x 0) && ch f x 0 != 127) && ((decide (32 ≤ ch f x 1) && ch f x 1 != 127) && ((decide (32 ≤ ch f x 2) && ch f x 2 != 127) && ((decide (32 ≤ sy f) && sy f != 127) && true)))) = true
    rw [okW_ch (by decide), okW_ch (by decide), okW_ch (by decide), (okC1_top stray_ok.2.2).1]; rfl
  rcases List.mem_cons.mp hw with rfl | hw
  · exact okW_pl
  · rw [List.mem_singleton.mp hw]; exact okW_pl
theorem okW_tg {w : List Nat} : okW (tg f x w) = true := by
  unfold tg
  cases w == plT f x <;> rfl'
theorem w_16 (h1 : 1 ≤ xs.length) (h4 : xs.length ≤ 4) (H : Sn f i h es o) (k : ∀ j g o, Sg f i h j g es (tb0 f (x0 xs)) o → Hd (exs (ex G (n + 100) CW) (BW.drop 17) (S NW (W16 f xs i j) σ o)) P) : Hd (exs (ex G (n + 100) CW) (BW.drop 16) (S NW (W14 f xs i) σ o)) P := by
  have hi := new_ne H.nm.l
  refine A (.obj o.length) (S NW (W16 f xs i o.length) σ (newO o (some (o.length + 1)) (tb0 f (x0 xs)))) (by rfl')
    (x_new (vs := [.fl ((tb0 f (x0 xs)).map entD)]) (by rfl') (evs1 ((x_map (N := [".0", "name", "plain"]) (oth f (x0 xs)) txtD (fun w => .d (entD (w, tg f (x0 xs) w))) (fun w => entD (w, tg f (x0 xs) w)) [("plain", .d (.list (xs.map fun x => txtD (plT f x))))] (fun w => [("name", tx w), ("plain", .d (.list (xs.map fun x => txtD (plT f x))))]) z0 (by rfl') (by rfl') (by rfl') (by rfl') (by rfl') (fun _ _ _ => (by rfl')) (fun _ _ => (by rfl')) (by rfl')
      (fun w σ _ => x_tup (vs := [tx w, tx (tg f (x0 xs) w)]) (by rfl') (evs_c (by rfl') (evs1 (x_ife (w == plT f (x0 xs)) (by rfl') (t_cmp .Eq (a := tx w) (b := tx (plT f (x0 xs))) (by rfl') (by rfl') (pl_at (k := 0) (by rfl') (by rfl') (by rfl') h1 h4) (by rfl')) (fun q => by unfold tg; rw [q]; rfl') fun q => by unfold tg; rw [q]; rfl'))) (by rfl') (by rfl')) (fun _ _ => (by rfl'))).trans (by rfl'))) (init1 (n := n + 43) (show 4 ≤ 1000 by decide) fun p hp => ?_)) (by rfl')
    (k _ (o.length + 1) _ ⟨lt_new H.lt, H.nm.app.app, .new (show 4 ≤ 1000 by decide), H.h0, Nat.succ_ne_zero _, fun e => absurd hi (by rw [e]; exact Nat.not_lt.mpr (Nat.le_succ _))⟩)
  obtain ⟨w, hw, rfl⟩ := List.mem_map.mp hp
  exact ⟨okW_oth w hw, okW_tg⟩
theorem w_17 (h4 : xs.length ≤ 4) (H : Sg f i h j g es (tb0 f (x0 xs)) o) (k : ∀ σ o, Sg f i h j g es (tbE f xs xs.length) o → Hd (exs (ex G (n + 100) CW) (BW.drop 18) (S NW (W16 f xs i j) σ o)) P) : Hd (exs (ex G (n + 100) CW) (BW.drop 17) (S NW (W16 f xs i j) σ o)) P :=
  FJ (N := NW) (.vals ((List.range xs.length).map elI)) (fun m => Sg f i h j g es (tbE f xs m)) xs.length elI (fun _ => W16 f xs i j) (fun m => ("k", ii m) :: W16 f xs i j) (for_h (by rfl') (by rfl')) (by rfl') (fun _ _ _ => rfl) (i_val (by rfl') (x_bui .range (by rfl') (evs1 (x_bui .len (v := ii xs.length) (by rfl') (evs1 (v := .d (.list (xs.map fun x => txtD (plT f x)))) (by rfl')) ((len_fl (Nat.le_trans (Nat.le_of_eq (List.length_map ..)) (Nat.le_trans h4 (by decide)))).trans (by rw [List.length_map])))) (by rfl')) (it_rng (Nat.le_trans h4 (by decide)))) (maxL (Nat.le_trans h4 (by decide))) (σ := σ) (by rfl') ((List.append_nil (tb0 f (x0 xs))).symm ▸ H) (fun _ _ _ => (by rfl'))
    (fun m σ o lt H => by
      have hn : (tbE f xs m).length < 1000 := by
        unfold tbE kvE
        rw [List.length_append, List.length_map, List.length_range]
        exact Nat.lt_of_lt_of_le (Nat.add_lt_add_left (Nat.lt_of_lt_of_le lt h4) 4) (by decide)
      have m9 : 48 + m ≤ 57 := Nat.add_le_add_left (Nat.le_trans (Nat.le_of_lt lt) (Nat.le_trans h4 (show 4 ≤ 9 by decide))) 48
      have e : tbE f xs m ++ [(plT f (xs.getD m 0), [48 + m])] = tbE f xs (m + 1) := (List.append_assoc ..).trans (congrArg (tb0 f (x0 xs) ++ ·) (range_snoc (f := fun k => ((plT f (xs.getD k 0), [48 + k]) : Ent))))
      have w1 : okW [48 + m] = true := by
        show ((decide (32 ≤ 48 + m) && 48 + m != 127) && true) = true
        rw [decide_eq_true (Nat.le_trans (by decide) (Nat.le_add_right 48 m)), bne_iff_ne.mpr fun q => absurd m9 (by rw [q]; decide)]; rfl
      exact E1 (by rfl') (x_ob j "add_header" "Headers.add_header" (by rfl') (by rfl') H.tb.is (evs_c (v := tx (plT f (xs.getD m 0))) (pl_at (by rfl') (by rfl') (by rfl') lt h4) (evs1 (x_bui .str (v := tx [48 + m]) (by rfl') (evs1 (v := ii m) (by rfl')) (str4 (Nat.le_trans (Nat.le_of_lt lt) (Nat.le_trans h4 (show 4 ≤ 9 by decide))))))) (by rfl') (add_spec (n := n + 37) H.tb hn okW_pl w1 (show 1 ≤ 1000 by decide)))
        (.of (a := (.next, S NW (("k", ii m) :: W16 f xs i j) σ (addO o g (tbE f xs m) (plT f (xs.getD m 0)) [48 + m]))) (by rfl') (.mk (σ := ovs (("k", ii m) :: W16 f xs i j) σ) ⟨lt_add H.lt H.g0, H.nm.add' H.tb H.hg.symm, e ▸ H.tb.add hn, H.h0, H.g0, H.hg⟩ (by rfl'))))
    k
end
end L1
end
section
open PySem PySem.W Mine V03
namespace Mine
variable {G : Env'} {n : Nat} {C : Cx} {v a b : V} {st : St} {e : Expr}
theorem x_ino {i : Nat} {s : List Nat} {c : Bool} (h0 : ev G (n + 1) C e st = evCmp (fs G n) C (kd e 0) [.In] [kd e 1] st) (h1 : ev G n C (kd e 0) st = some (L1.tx s, st)) (h2 : ev G n C (kd e 1) st = some (.obj i, st)) (hi : (instAt st.objs i).isSome = true) (hc : call G n "Headers.__contains__" [.obj i, L1.tx s] [] st.objs = some (.d (.bool c), st.objs)) : ev G (n + 1) C e st = some (.d (.bool c), st) := by
  obtain ⟨k, hk⟩ := Option.isSome_iff_exists.mp hi
  rw [h0]; show (ev G n C (kd e 0) st).bind _ = _
  rw [h1]; show (ev G n C (kd e 1) st).bind _ = _
  rw [h2]; show (instAt st.objs i).bind _ = _
  rw [hk]; show (call G n "Headers.__contains__" [.obj i, L1.tx s] [] st.objs).bind _ = _
  rw [hc]; rfl
end Mine
namespace L1
noncomputable def oneB (f : Int) (k : Nat) : Bool := ((nmE f 3).find? (sH (lowW [(ltN f k).2]))).isSome
noncomputable def W19 (f : Int) (xs : List Int) (j : Nat) : List (Str × V) := [("ones", .d (.list [.bool (oneB f 0), .bool (oneB f 1), .bool (oneB f 2)])), ("table", .obj j), ("greats", .d (.list ((xs.map rowB).map rowD))), ("plain", .d (.list (xs.map fun x => txtD (plT f x)))), ("family", .d (famD f xs))]
noncomputable def W20 (f : Int) (xs : List Int) (j g : Nat) : List (Str × V) := ("whole", ii 0) :: ("alike", ii 0) :: ("turned", ii (xs.length * 1000000000000)) :: ("gaps", .hl g) :: W19 f xs j
section
variable {n i h j g : Nat} {xs : List Int} {f x : Int} {P : Fl × St → Prop} {o c : Objs} {σ : Str → Option V} {es es' : List Ent} {a b : List Nat}
theorem keys_eq : (tbE f xs xs.length).map (fun p => txtD p.1) = ((oth f (x0 xs)) ++ xs.map (plT f)).map txtD := by
  unfold tbE kvE tb0
  rw [List.map_append, List.map_append, List.map_map, List.map_map, List.map_map]
  exact congrArg ((oth f (x0 xs)).map txtD ++ ·) (range_map (d := 0) (f := fun x => txtD (plT f x)) (l := xs))
theorem okT_pl : okT (plT f x) := fun c hc => by
  have h {k : Nat} (h : k < 3) : ch f x k ≤ 1114111 := (okC1_top (ch_ok h)).2.2.1
  rcases List.mem_cons.mp hc with rfl | hc
  · exact h (by decide)
  rcases List.mem_cons.mp hc with rfl | hc
  · exact h (by decide)
  · rw [List.mem_singleton.mp hc]; exact h (by decide)
theorem okT_oth : ∀ w ∈ oth f x, okT w := fun w hw => by
  rcases List.mem_cons.mp hw with rfl | hw
  · exact fun c hc => okT_pl (f := f) (x := x) c (List.mem_append_left [ch f x 2] hc)
  rcases List.mem_cons.mp hw with rfl | hw
  · exact fun c hc => (List.mem_append.mp hc).elim (okT_pl c) fun hc => by rw [List.mem_singleton.mp hc]; exact (okC1_top stray_ok.2.2).2.2.1
  rcases List.mem_cons.mp hw with rfl | hw
  · exact okT_pl
  · rw [List.mem_singleton.mp hw]; exact okT_pl
theorem addM {xs ys : List PyData} (h : xs.length + ys.length ≤ 1000000) : binop o .Add (.d (.list xs)) (.d (.list ys)) = some (.fl (xs ++ ys)) := gd_t (decide_eq_true h)
theorem w_18 (h4 : xs.length ≤ 4) (H : Sg f i h j g es (tbE f xs xs.length) o) (k : Hd (exs (ex G (n + 100) CW) (BW.drop 19) (S NW (W16 f xs i j) σ o)) P) : Hd (exs (ex G (n + 100) CW) (BW.drop 18) (S NW (W16 f xs i j) σ o)) P := by
  have e : (oth f (x0 xs)).map txtD ++ (xs.map fun x => txtD (plT f x)) = ((oth f (x0 xs)) ++ xs.map (plT f)).map txtD := by rw [List.map_append, List.map_map]; rfl
  refine IR false (by rfl') (t_cmp .NotEq (a := .fl ((tbE f xs xs.length).map fun p => txtD p.1)) (b := .fl ((oth f (x0 xs)).map txtD ++ (xs.map fun x => txtD (plT f x)))) (by rfl') (x_ob j "keys" "Headers.keys" (by rfl') (by rfl') H.tb.is (vs := []) (by rfl') (by rfl') (keys_spec (n := n + 77) H.tb)) (x_bin (a := .d (.list ((oth f (x0 xs)).map txtD))) (b := .d (.list (xs.map fun x => txtD (plT f x)))) (by rfl') (by rfl') (by rfl') (addM ?_)) ?_) ft fun _ => k
  · rw [List.length_map, List.length_map]; exact Nat.le_trans (Nat.add_le_add_left h4 4) (by decide)
  · rw [keys_eq, e]
    exact ne_same (x := .list (((oth f (x0 xs)) ++ xs.map (plT f)).map txtD)) (d := 1) (by rfl') (by rfl') (by rfl') (lay_ts fun w hw => (List.mem_append.mp hw).elim (okT_oth w) fun hw => by obtain ⟨x, _, rfl⟩ := List.mem_map.mp hw; exact okT_pl) (by rfl')
theorem low_great {k : Nat} (hk : k < 3) : okW (lowW [(ltN f k).2]) = true := by
  have hl := lt_ok (f := f) hk
  rw [show lowW [(ltN f k).2] = Unicode.lowerOf (ltN f k).2 from low1_eq _]
  rcases hl.lg with e | e
  · rw [e]; exact okW1 hl.cs
  · rw [e]; exact okW1 hl.cg
theorem w_19 (H : Sg f i h j g (nmE f 3) es' o) (k : ∀ σ, Hd (exs (ex G (n + 100) CW) (BW.drop 20) (S NW (W19 f xs j) σ o)) P) : Hd (exs (ex G (n + 100) CW) (BW.drop 19) (S NW (W16 f xs i j) σ o)) P :=
  A (.fl [.bool (oneB f 0), .bool (oneB f 1), .bool (oneB f 2)]) (S NW (W19 f xs j) (ovs (W16 f xs i j) σ) o) (by rfl')
    (x_mit (N := [".0", "small", "great", "names"]) (.cell 0) (List.range 3) (fun k => pairD (ltN f k)) (fun k => .d (.bool (oneB f k))) (fun k => .bool (oneB f k)) [("names", .obj i)] (fun k => [("small", tx [(ltN f k).1]), ("great", tx [(ltN f k).2]), ("names", .obj i)]) z0 (by rfl') (i_val (v := .hl 0) (by rfl') (by rfl') (by show (Mine.listAt o 0).map _ = _; rw [H.lt]; rfl)) (by rfl') (fun m => by show (Mine.listAt o 0).map _ = _; rw [H.lt]; rfl) (by rfl') (by rfl') (by rfl') (fun _ _ _ => (by rfl')) (fun _ _ => (by rfl')) (by rfl')
      (fun k σ hk => x_ino (i := i) (s := [(ltN f k).2]) (by rfl') (by rfl') (by rfl') H.nm.is (in_spec (n := n + 56) H.nm (fun p hp => by obtain ⟨m, _, rfl⟩ := List.mem_map.mp hp; exact show 1 ≤ 1000 by decide) (show 1 ≤ 1000 by decide) (low_great (List.mem_range.mp hk)))) (fun _ _ => (by rfl'))) (by rfl') (k _)
theorem w_20 (h4 : xs.length ≤ 4) (k : Hd (exs (ex G (n + 100) CW) (BW.drop 21) (S NW (W20 f xs j o.length) σ (o ++ [Cell.list []]))) P) : Hd (exs (ex G (n + 100) CW) (BW.drop 20) (S NW (W19 f xs j) σ o)) P :=
  AQ false [ii 0, ii 0, ii (xs.length * 1000000000000), .fl []] (by rfl') (evs_c (v := ii 0) (by rfl') (evs_c (v := ii 0) (by rfl') (evs_c (x_bin (a := ii xs.length) (b := ii 1000000000000) (by rfl') (x_bui .len (by rfl') (evs1 (v := .d (.list (xs.map fun x => txtD (plT f x)))) (by rfl')) ((len_fl (Nat.le_trans (Nat.le_of_eq (List.length_map ..)) (Nat.le_trans h4 (by decide)))).trans (by rw [List.length_map]))) (by rfl') (mulV (Bool.or_true _))) (evs1 (v := .fl []) (by rfl'))))) (st2 := S NW (W20 f xs j o.length) σ (o ++ [Cell.list []])) (by rfl') k
end
end L1
end
section
open PySem PySem.W Mine V03
namespace L1
noncomputable def X (xs : List Int) (k : Nat) : Int := xs.getD k 0
noncomputable def nmB (f x y : Int) : Bool := lowW (plT f x) == lowW (plT f y)
noncomputable def thL (f : Int) (xs : List Int) (k : Nat) : List Nat := (bif nmB f (X xs 0) (X xs k) then [9, 9] else []) ++ (List.range xs.length).filter fun m => nmB f (X xs m) (X xs k)
noncomputable def memB (l : List Nat) (m : Nat) : Bool := (natD l).any fun y => PyData.eqv y (.int m)
section
variable {xs : List Int} {f x y : Int} {k : Nat} {w : List Nat}
theorem low_len : ∀ {w : List Nat}, (∀ c ∈ w, (Unicode.lowerOf c).length = 1) → (w.flatMap Unicode.lowerOf).length = w.length
  | [], _ => rfl
  | c :: w, h => by
    rw [List.flatMap_cons, List.length_append, h c List.mem_cons_self, low_len fun d hd => h d (List.mem_cons_of_mem _ hd), Nat.add_comm]; rfl
theorem low_ch {k : Nat} (hk : k < 3) : ∃ u, Unicode.lowerOf (ch f x k) = [u] ∧ okC1 u = true := by
  have hl := lt_ok (f := f) hk
  unfold ch
  have hb := b_lt x k
  generalize bT x k = b at hb
  match b, hb with
  | 0, _ => exact ⟨_, hl.ls, hl.cs⟩
  | 1, _ => exact hl.lg.elim (fun e => ⟨_, e, hl.cs⟩) fun e => ⟨_, e, hl.cg⟩
theorem low_one {u c : Nat} (h : Unicode.lowerOf c = [u]) : (Unicode.lowerOf c).length = 1 := by rw [h]; rfl
theorem ch_931 {k : Nat} (hk : k < 3) : ch f x k ≠ 931 := (okC1_top (ch_ok hk)).2.1
theorem no931 : 931 ∉ plT f x := fun h => by
  rcases List.mem_cons.mp h with e | h
  · exact ch_931 (by decide) e.symm
  rcases List.mem_cons.mp h with e | h
  · exact ch_931 (by decide) e.symm
  · exact ch_931 (by decide) (List.mem_singleton.mp h).symm
theorem low_pl : lowW (plT f x) = Unicode.lowerOf (ch f x 0) ++ (Unicode.lowerOf (ch f x 1) ++ Unicode.lowerOf (ch f x 2)) := by
  rw [lowW_eq no931]
  show Unicode.lowerOf (ch f x 0) ++ (Unicode.lowerOf (ch f x 1) ++ (Unicode.lowerOf (ch f x 2) ++ [])) = _
  rw [List.append_nil]
theorem pl_low : (lowW (plT f x)).length = 3 ∧ okW (lowW (plT f x)) = true := by
  rw [low_pl]
  obtain ⟨a, ea, ha⟩ := low_ch (f := f) (x := x) (k := 0) (by decide)
  obtain ⟨b, eb, hb⟩ := low_ch (f := f) (x := x) (k := 1) (by decide)
  obtain ⟨c, ec, hc⟩ := low_ch (f := f) (x := x) (k := 2) (by decide)
  rw [ea, eb, ec]
  refine ⟨rfl, ?_⟩
  show ((decide (32 ≤ a) && a != 127) && ((decide (32 ≤ b) && b != 127) && ((decide (32 ≤ c) && c != 127) && true))) = true
  rw [(okC1_top ha).1, (okC1_top hb).1, (okC1_top hc).1]; rfl
theorem low_ne {w : List Nat} (h : 931 ∉ w) (hw : ∀ c ∈ w, (Unicode.lowerOf c).length = 1) (hn : w.length ≠ 3) : (lowW w == lowW (plT f x)) = false :=
  beq_eq_false_iff_ne.mpr fun e => hn (by rw [← low_len hw, ← lowW_eq h, e, pl_low.1])
theorem all_th : ((tbE f xs xs.length).filter (sH (lowW (plT f (X xs k))))).map (fun p => txtD p.2) = (thL f xs k).map fun m => txtD [48 + m] := by
  have l1 {x : Int} {k : Nat} (hk : k < 3) : (Unicode.lowerOf (ch f x k)).length = 1 := by obtain ⟨u, e, _⟩ := low_ch (f := f) (x := x) hk; exact low_one e
  have n1 : (lowW [ch f (X xs 0) 0, ch f (X xs 0) 1] == lowW (plT f (X xs k))) = false := low_ne (fun h => no931 (List.mem_append_left [ch f (X xs 0) 2] h)) (fun c hc => by
    rcases List.mem_cons.mp hc with rfl | hc
    · exact l1 (by decide)
    · rw [List.mem_singleton.mp hc]; exact l1 (by decide)) (show 2 ≠ 3 by decide)
  have n2 : (lowW (plT f (X xs 0) ++ [sy f]) == lowW (plT f (X xs k))) = false := low_ne (fun h => (List.mem_append.mp h).elim no931 fun h => (okC1_top stray_ok.2.2).2.1 (List.mem_singleton.mp h).symm) (fun c hc => by
    rcases List.mem_append.mp hc with hc | hc
    · rcases List.mem_cons.mp hc with rfl | hc
      · exact l1 (by decide)
      rcases List.mem_cons.mp hc with rfl | hc
      · exact l1 (by decide)
      · rw [List.mem_singleton.mp hc]; exact l1 (by decide)
    · rw [List.mem_singleton.mp hc]; exact low_one stray_ok.2.1) (show 4 ≠ 3 by decide)
  have t0 : ((tb0 f (X xs 0)).filter (sH (lowW (plT f (X xs k))))).map (fun p => txtD p.2) = (bif nmB f (X xs 0) (X xs k) then [9, 9] else []).map fun m => txtD [48 + m] := by
    unfold tb0 oth
    have g {w v : List Nat} (h : (lowW w == lowW (plT f (X xs k))) = false) : ¬ sH (lowW (plT f (X xs k))) (w, v) = true := fun e => tf (e.symm.trans h)
    rw [List.map_cons, List.map_cons, List.filter_cons_of_neg (g n1), List.filter_cons_of_neg (g n2)]
    have tt : tg f (X xs 0) (plT f (X xs 0)) = [57] := by unfold tg; rw [beq_self_eq_true]; rfl
    cases q : nmB f (X xs 0) (X xs k) with
    | true =>
      rw [List.filter_eq_self.mpr fun p hp => ?_]
      · show [txtD (tg f (X xs 0) (plT f (X xs 0))), txtD (tg f (X xs 0) (plT f (X xs 0)))] = _
        rw [tt]; rfl
      · obtain ⟨w, hw, rfl⟩ := List.mem_map.mp hp
        have : w = plT f (X xs 0) := (List.mem_cons.mp hw).elim id List.mem_singleton.mp
        subst this; exact q
    | false =>
      rw [List.filter_eq_nil_iff.mpr fun p hp => ?_]
      · rfl
      · obtain ⟨w, hw, rfl⟩ := List.mem_map.mp hp
        have : w = plT f (X xs 0) := (List.mem_cons.mp hw).elim id List.mem_singleton.mp
        subst this; exact fun h => tf (h.symm.trans q)
  have t1 : ((kvE f xs xs.length).filter (sH (lowW (plT f (X xs k))))).map (fun p => txtD p.2) = ((List.range xs.length).filter fun m => nmB f (X xs m) (X xs k)).map fun m => txtD [48 + m] := by
    unfold kvE
    rw [List.filter_map, List.map_map]; rfl
  unfold tbE thL
  rw [List.filter_append, List.map_append, List.map_append]
  exact congr (congrArg _ t0) t1
theorem th_le (h4 : xs.length ≤ 4) {m : Nat} (h : m ∈ thL f xs k) : m ≤ 9 := by
  rcases List.mem_append.mp h with h | h
  · cases q : nmB f (X xs 0) (X xs k) with
    | true =>
      rw [q] at h
      exact (List.mem_cons.mp h).elim (fun e => Nat.le_of_eq e) fun h => Nat.le_of_eq (List.mem_singleton.mp h)
    | false => rw [q] at h; exact nomatch h
  · exact Nat.le_trans (Nat.le_of_lt (List.mem_range.mp (List.mem_filter.mp h).1)) (Nat.le_trans h4 (by decide))
theorem mem_iff {l : List Nat} {m : Nat} : memB l m = decide (m ∈ l) := by
  have e : (memB l m = true) ↔ m ∈ l := by
    unfold memB natD
    rw [List.any_map, List.any_eq_true]
    refine ⟨fun ⟨y, hy, h⟩ => ?_, fun h => ⟨m, h, SeqAt.eqv_refl (.int m) rfl⟩⟩
    have h : ((y : Int) == (m : Int)) = true := h ▸ (eqv_int y m).symm
    exact Int.ofNat.inj (eq_of_beq h) ▸ hy
  by_cases h : m ∈ l
  · rw [e.mpr h, decide_eq_true h]
  · rw [decide_eq_false h]; exact Bool.eq_false_iff.mpr fun q => h (e.mp q)
theorem mem_th (h4 : xs.length ≤ 4) {m : Nat} (hm : m < xs.length) : memB (thL f xs k) m = nmB f (X xs m) (X xs k) := by
  rw [mem_iff]
  have h9 : m ∉ (bif nmB f (X xs 0) (X xs k) then [9, 9] else []) := by
    cases nmB f (X xs 0) (X xs k) with
    | true => exact fun h => absurd (Nat.lt_of_lt_of_le hm h4) (by rw [(List.mem_cons.mp h).elim id List.mem_singleton.mp]; decide)
    | false => exact fun h => nomatch h
  cases q : nmB f (X xs m) (X xs k) with
  | true => exact decide_eq_true (List.mem_append_right _ (List.mem_filter.mpr ⟨List.mem_range.mpr hm, q⟩))
  | false => exact decide_eq_false fun h => (List.mem_append.mp h).elim h9 fun h => tf ((List.mem_filter.mp h).2.symm.trans q)
theorem nm_self : nmB f x x = true := beq_self_eq_true _
theorem th_cons (hk : k < xs.length) : ∃ m r, thL f xs k = m :: r := by
  have h : k ∈ thL f xs k := List.mem_append_right _ (List.mem_filter.mpr ⟨List.mem_range.mpr hk, nm_self⟩)
  cases q : thL f xs k with
  | nil => rw [q] at h; exact nomatch h
  | cons m r => exact ⟨m, r, rfl⟩
theorem find_head {α : Type} {c : α → Bool} : ∀ l : List α, l.find? c = (l.filter c).head?
  | [] => rfl
  | a :: l => by
    rw [List.find?_cons, List.filter_cons]
    cases c a with
    | true => rfl
    | false => exact find_head l
theorem get_th {m : Nat} {r : List Nat} (h : thL f xs k = m :: r) : fndV ((tbE f xs xs.length).find? (sH (lowW (plT f (X xs k))))) = tx [48 + m] := by
  have e := all_th (f := f) (xs := xs) (k := k)
  rw [h] at e
  rw [find_head]
  cases q : (tbE f xs xs.length).filter (sH (lowW (plT f (X xs k)))) with
  | nil => rw [q] at e; exact nomatch e
  | cons p ps => rw [q] at e; exact congrArg V.d (List.cons.inj e).1
end
end L1
end
section
open PySem PySem.W Mine V03
namespace Mine
noncomputable def comp1 : Expr → Bool | .ListComp _ gs _ _ => (match gs with | [g] => decide (g.is_async = 0) | _ => false) | _ => false
section
variable {G : Env'} {n : Nat} {C : Cx} {st : St} {e : Expr}
theorem comp1_ex (e : Expr) (h : comp1 e = true) : ∃ elt g sc p, e = .ListComp elt [g] sc p ∧ decide (g.is_async = 0) = true := by
  cases e with
  | ListComp elt gs sc p =>
    rcases gs with _ | ⟨g, _ | ⟨_, _⟩⟩
    · cases h
    · exact ⟨elt, g, sc, p, rfl, h⟩
    · cases h
  | _ => cases h
theorem comp_h (h : comp1 e = true) : ev G (n + 3) C e st = ((iter G (n + 2) C (kd e 1) st).bind fun p => gd (compOk C (gnE e).2 p.2.vars) ((gd (okTarget p.1 (kd e 2)) (compL (fun x st acc => (bind G (n + 1) ⟨(gnE e).2, []⟩ (kd e 2) (.d x) st).bind fun st => (evAnd (tst G (n + 1) ⟨(gnE e).2, []⟩) ((kids e).drop 3) st).bind fun p => bif p.1 then ((ev G (n + 1) ⟨(gnE e).2, []⟩ (kd e 0) p.2).bind fun p => (rd0 p.1).bind fun y => gd (decide (acc.length < maxLen)) (some (acc ++ [y], p.2))) else some (acc, p.2)) p.1 loopFuel 0
        ⟨((localNames (gnE e).2).map fun x => (x, none)) ++ p.2.vars.filter (fun x => freeIn (gnE e).2 x.1), p.2.objs⟩ [])).bind fun q => gd (decide (q.1.length ≤ maxLen)) (some (.fl q.1, ⟨p.2.vars, q.2.objs⟩)))) := by
  obtain ⟨elt, g, sc, p, rfl, ha⟩ := comp1_ex e h
  rw [show (kids (.ListComp elt [g] sc p)).drop 3 = g.ifs from List.append_nil g.ifs]
  show gd (decide (g.is_async = 0)) _ = _
  rw [gd_t ha]; rfl
theorem it_pl {x : Str} {q p : Pos} {as : List Expr} {ks : List Keyword} (h : (x == ("zip" : Str)) = false) : iter G (n + 1) C (.Call (.Name x q) as ks p) st = iterV (fs G n) C (.Call (.Name x q) as ks p) st := by
  show (bif x == ("zip" : Str) then _ else iterV (fs G n) C _ st) = _
  rw [h]; rfl
end
end Mine
end
section
open PySem PySem.W Mine V03
namespace L1
noncomputable def D (f : Int) (xs : List Int) (k m : Nat) : Int := dist f (X xs m) (X xs k)
noncomputable def rowL (f : Int) (xs : List Int) (k c : Nat) : List PyData := (List.range c).map fun m => .int (D f xs k m)
noncomputable def pwF (f : Int) (xs : List Int) (k m : Nat) : Int := 1000 ^ (D f xs k m).toNat
noncomputable def alF (f : Int) (xs : List Int) (k m : Nat) : Int := bif nmB f (X xs m) (X xs k) then pwF f xs k m else 0
noncomputable def tnF (f : Int) (xs : List Int) (k m : Nat) : Int := bif Nat.blt k m then 2 * 1000 ^ (4 + dk f (X xs m) (X xs k) 1).toNat else 0
noncomputable def inn (F : Nat → Nat → Int) (k : Nat) (s : Int) (j : Nat) : Int := Nat.rec s (fun j s => s + F k j) j
noncomputable def out (F : Nat → Nat → Int) (L : Nat) (s : Int) (k : Nat) : Int := Nat.rec s (fun k s => inn F k s L) k
noncomputable def acc (F : Nat → Nat → Int) (L : Nat) (s : Int) (k j : Nat) : Int := inn F k (out F L s k) j
noncomputable def WO (f : Int) (xs : List Int) (t g k : Nat) : List (Str × V) := ("whole", ii (acc (pwF f xs) xs.length 0 k 0)) :: ("alike", ii (acc (alF f xs) xs.length 0 k 0)) :: ("turned", ii (acc (tnF f xs) xs.length (xs.length * 1000000000000) k 0)) :: ("gaps", .hl g) :: W19 f xs t
noncomputable def rc (k j : Nat) : Nat := bif Nat.ble j k then k + 1 else j
noncomputable def WI (f : Int) (xs : List Int) (t g k j : Nat) : List (Str × V) := ("row", .d (.list (rowL f xs k (rc k j)))) :: ("whole", ii (acc (pwF f xs) xs.length 0 k j)) :: ("alike", ii (acc (alF f xs) xs.length 0 k j)) :: ("turned", ii (acc (tnF f xs) xs.length (xs.length * 1000000000000) k j)) :: ("word", tx (plT f (X xs k))) :: ("there", .d (.list (natD (thL f xs k)))) :: ("k", ii k) :: ("gaps", .hl g) :: W19 f xs t
noncomputable def rowsD (f : Int) (xs : List Int) (k : Nat) : List PyData := (List.range k).map fun a => .list (rowL f xs a xs.length)
structure Jo (f : Int) (xs : List Int) (t u g k : Nat) (o : Objs) : Prop where
  tb : HA o t u (tbE f xs xs.length)
  gp : Mine.listAt o g = some (rowsD f xs k)
  ne : g ≠ u
noncomputable def BK : List Stmt := sB BW 21
noncomputable def V0 (f : Int) (xs : List Int) (t g k : Nat) : List (Str × V) := ("word", tx (plT f (X xs k))) :: ("row", .d (.list (rowL f xs k (k + 1)))) :: ("k", ii k) :: WO f xs t g k
noncomputable def V1 (f : Int) (xs : List Int) (t g k : Nat) : List (Str × V) := ("there", .d (.list (natD (thL f xs k)))) :: V0 f xs t g k
noncomputable def aloL (f : Int) (xs : List Int) (k : Nat) : List Nat := (List.range xs.length).filter (memB (thL f xs k))
noncomputable def V2 (f : Int) (xs : List Int) (t g k : Nat) : List (Str × V) := ("alone", .d (.list (natD (aloL f xs k)))) :: V1 f xs t g k
section
variable {n t u g k : Nat} {xs : List Int} {f x : Int} {P : Fl × St → Prop} {o c : Objs} {σ : Str → Option V}
theorem addF {xs ys : List PyData} (h : xs.length + ys.length ≤ 1000000) : binop o .Add (.fl xs) (.fl ys) = some (.fl (xs ++ ys)) := gd_t (decide_eq_true h)
theorem D_self : D f xs k k = 0 := dist_self
theorem row_at {a : Nat} (ha : a < k) (hk : k < xs.length) : (rowL f xs a xs.length)[k]? = some (.int (D f xs k a)) := by
  unfold rowL
  rw [List.getElem?_map, List.getElem?_range hk]
  exact congrArg (fun z => some (PyData.int z)) dist_symm
theorem len_rng {α : Type} {m : Nat} {h : Nat → α} : ((List.range m).map h).length = m := (List.length_map ..).trans List.length_range
theorem k_0 (h4 : xs.length ≤ 4) (hk : k < xs.length) (H : Jo f xs t u g k o) (h : Hd (exs (ex G (n + 90) CW) (BK.drop 1) (S NW (V0 f xs t g k) σ o)) P) : Hd (exs (ex G (n + 90) CW) (BK.drop 0) (S NW (("k", ii k) :: WO f xs t g k) σ o)) P := by
  have k4 : k ≤ 1000 := Nat.le_trans (Nat.le_of_lt hk) (Nat.le_trans h4 (by decide))
  refine AQ true [tx (plT f (X xs k)), .fl (rowL f xs k (k + 1))] (by rfl') (evs_c (pl_at (by rfl') (by rfl') (by rfl') hk h4) (evs1 (x_bin (a := .fl ((List.range k).map fun a => .int (D f xs k a))) (b := .fl [.int 0]) (by rfl')
    (x_map (N := [".0", "ahead", "k", "gaps"]) (List.range k) elI (fun a => ii (D f xs k a)) (fun a => .int (D f xs k a)) [("k", ii k), ("gaps", .hl g)] (fun a => [("ahead", ii a), ("k", ii k), ("gaps", .hl g)]) z0 (comp_h (by rfl')) (i_val (it_pl (by rfl')) (x_bui .range (by rfl') (evs1 (v := ii k) (by rfl')) (by rfl')) (it_rng k4)) (by rfl') (decide_eq_true (Nat.le_trans (Nat.le_of_eq List.length_range) k4)) (by rfl') (fun _ _ _ => (by rfl')) (fun _ _ => (by rfl')) (by rfl')
      (fun a σ ha => x_item (w := .d (.list (rowL f xs a xs.length))) (j := (k : Nat)) (by rfl') (x_item (w := .hl g) (j := (a : Nat)) (by rfl') (by rfl') (by rfl') (it_hl H.gp (by unfold rowsD; rw [List.getElem?_map, List.getElem?_range (List.mem_range.mp ha)]; rfl) (Nat.le_trans (Nat.le_of_eq len_rng) k4))) (by rfl') (itL (idx_nat (Nat.lt_of_lt_of_eq hk len_rng.symm) (Nat.le_trans (Nat.le_of_eq len_rng) (Nat.le_trans h4 (by decide)))) (row_at (List.mem_range.mp ha) hk))) (fun _ _ => (by rfl')))
    (by rfl') ((addF (Nat.le_trans (Nat.add_le_add_right (Nat.le_trans (Nat.le_of_eq len_rng) k4) 1) (by decide))).trans ?_)))) (st2 := S NW (V0 f xs t g k) σ o) (by rfl') h
  exact congrArg (fun l => some (V.fl l)) ((congrArg (fun z => (List.range k).map (fun a => PyData.int (D f xs k a)) ++ [PyData.int z]) D_self.symm).trans (range_snoc (f := fun a => PyData.int (D f xs k a))))
theorem tbE_len {p : Ent} (h : p ∈ tbE f xs xs.length) : p.1.length ≤ 1000 := by
  rcases List.mem_append.mp h with h | h
  · obtain ⟨w, hw, rfl⟩ := List.mem_map.mp h
    rcases List.mem_cons.mp hw with rfl | hw
    · exact show 2 ≤ 1000 by decide
    rcases List.mem_cons.mp hw with rfl | hw
    · exact show 4 ≤ 1000 by decide
    rcases List.mem_cons.mp hw with rfl | hw
    · exact show 3 ≤ 1000 by decide
    · rw [List.mem_singleton.mp hw]; exact show 3 ≤ 1000 by decide
  · obtain ⟨m, _, rfl⟩ := List.mem_map.mp h
    exact show 3 ≤ 1000 by decide
theorem th_len (h4 : xs.length ≤ 4) : (thL f xs k).length ≤ 1000 := by
  unfold thL
  rw [List.length_append]
  refine Nat.le_trans (Nat.add_le_add (show _ ≤ 2 from ?_) (Nat.le_trans (List.length_filter_le ..) (Nat.le_trans (Nat.le_of_eq List.length_range) h4))) (by decide)
  cases nmB f (X xs 0) (X xs k) <;> decide
theorem k_1 (h4 : xs.length ≤ 4) (H : Jo f xs t u g k o) (h : Hd (exs (ex G (n + 90) CW) (BK.drop 2) (S NW (V1 f xs t g k) σ o)) P) : Hd (exs (ex G (n + 90) CW) (BK.drop 1) (S NW (V0 f xs t g k) σ o)) P :=
  A (.fl ((thL f xs k).map elI)) (S NW (V1 f xs t g k) σ o) (by rfl')
    (x_map (N := [".0", "value"]) (thL f xs k) (fun m => txtD [48 + m]) (fun m => ii m) elI [] (fun m => [("value", tx [48 + m])]) z0 (by rfl') (i_val (by rfl') (x_ob t "get_all" "Headers.get_all" (by rfl') (by rfl') H.tb.is (evs1 (v := tx (plT f (X xs k))) (by rfl')) (by rfl') (all_spec (n := n + 51) H.tb (fun _ => tbE_len) (show 3 ≤ 1000 by decide) pl_low.2)) (by rw [all_th]; rfl')) (by rfl') (decide_eq_true (th_len h4)) (by rfl') (fun _ _ _ => (by rfl')) (fun _ _ => (by rfl')) (by rfl')
      (fun m σ hm => x_bui .int (by rfl') (evs1 (v := tx [48 + m]) (by rfl')) (int4 (th_le h4 hm))) (fun _ _ => (by rfl'))) (by rfl') h
theorem ok_nat {m : Int} {l : List Nat} : (okD (.int m) && okDs (natD l)) = true := by
  have h (i : Int) : okD (.int i) = true := by rfl'
  rw [h]
  exact List.all_eq_true.mpr fun y hy => by obtain ⟨c, _, rfl⟩ := List.mem_map.mp hy; exact h c
theorem k_2 (h4 : xs.length ≤ 4) (h : Hd (exs (ex G (n + 90) CW) (BK.drop 3) (S NW (V2 f xs t g k) σ o)) P) : Hd (exs (ex G (n + 90) CW) (BK.drop 2) (S NW (V1 f xs t g k) σ o)) P := by
  refine A (.fl ((aloL f xs k).map elI)) (S NW (V2 f xs t g k) σ o) (by rfl')
    (x_filt (N := [".0", "number", "there"]) (List.range xs.length) elI (memB (thL f xs k)) (fun m => ii m) elI [("there", .d (.list (natD (thL f xs k))))] (fun m => [("number", ii m), ("there", .d (.list (natD (thL f xs k))))]) z0 (comp_h (by rfl')) (i_val (by rfl') (x_bui .range (by rfl') (evs1 (x_bui .len (v := ii xs.length) (by rfl') (evs1 (v := .d (.list (xs.map fun x => txtD (plT f x)))) (by rfl')) ((len_fl (Nat.le_trans (Nat.le_of_eq (List.length_map ..)) (Nat.le_trans h4 (by decide)))).trans (by rw [List.length_map])))) (by rfl')) (it_rng (Nat.le_trans h4 (by decide)))) (by rfl') (decide_eq_true (Nat.le_trans (Nat.le_of_eq List.length_range) (Nat.le_trans h4 (by decide)))) (by rfl') (fun _ _ _ => (by rfl')) (fun _ _ => (by rfl'))
      (fun m σ _ => a_1 (t_cmp .In (a := ii m) (b := .d (.list (natD (thL f xs k)))) (by rfl') (by rfl') (by rfl') ?_)) (fun _ _ _ _ => (by rfl')) (fun _ _ => (by rfl'))) (by rfl') h
  refine (show cmpop _ .In (ii m) (.d (.list (natD (thL f xs k)))) = gd (okD (.int m) && okDs (natD (thL f xs k))) (some (memB (thL f xs k) m)) from (by rfl')).trans (gd_t ok_nat)
end
end L1
end
section
open PySem PySem.W Mine V03
namespace L1
noncomputable def mvs (f x : Int) : List (List Nat) := [[ch f x 2, ch f x 0, ch f x 1], [ch f x 1, ch f x 0, ch f x 2], [ch f x 2, ch f x 1, ch f x 0]]
noncomputable def V3 (f : Int) (xs : List Int) (t g k : Nat) : List (Str × V) := ("moved", tx (mvT f (X xs k) (md k 3))) :: V1 f xs t g k
noncomputable def V5 (f : Int) (xs : List Int) (t g k : Nat) : List (Str × V) := ("told", ii 4) :: WI f xs t g k 0
section
variable {n t u g k : Nat} {xs : List Int} {f x : Int} {P : Fl × St → Prop} {o c : Objs} {σ : Str → Option V}
theorem th_eq (h4 : xs.length ≤ 4) (h1 : 0 < xs.length) : (bif memB (thL f xs k) 0 then [PyData.int 9, .int 9] else []) ++ natD (aloL f xs k) = natD (thL f xs k) := by
  have e : aloL f xs k = (List.range xs.length).filter fun m => nmB f (X xs m) (X xs k) := List.filter_congr fun m hm => mem_th h4 (List.mem_range.mp hm)
  rw [e, mem_th h4 h1]
  unfold thL natD
  rw [List.map_append]
  cases nmB f (X xs 0) (X xs k) <;> rfl
theorem lay_nat {l : List Nat} : Lay 1 (.list (natD l)) := lay_l fun y hy => by obtain ⟨c, _, rfl⟩ := List.mem_map.mp hy; exact ⟨rfl, Nat.le_refl 0⟩
theorem in_nat {l : List Nat} {m : Nat} : cmpop o .In (ii m) (.d (.list (natD l))) = some (memB l m) := (show cmpop o .In (ii m) (.d (.list (natD l))) = gd (okD (.int m) && okDs (natD l)) (some (memB l m)) from (by rfl')).trans (gd_t ok_nat)
theorem sl1 {m : Nat} {l : List Nat} (h : (m :: l).length ≤ 1000) : sliceV o (.d (.list (natD (m :: l)))) none (some (ii 1)) none = some (.fl [.int m]) := by
  have hn : (natD (m :: l)).length ≤ 1000 := List.length_map (as := m :: l) elI ▸ h
  have e : sliceL (natD (m :: l)) none (some ((1 : Nat) : Int)) = [PyData.int m] := by
    show (natD (m :: l)).take (clampI ((1 : Nat) : Int) (natD (m :: l)).length - 0) = _
    rw [clamp_nat, Nat.min_eq_left (show 1 ≤ (natD (m :: l)).length from Nat.succ_le_succ (Nat.zero_le _))]; rfl
  show gd (decide ((natD (m :: l)).length ≤ maxLen)) (some (V.fl (sliceL (natD (m :: l)) none (some ((1 : Nat) : Int))))) = _
  rw [e]; exact gd_t (maxL hn)
theorem k_3 (h4 : xs.length ≤ 4) (hk : k < xs.length) (H : Jo f xs t u g k o) (h : Hd (exs (ex G (n + 90) CW) (BK.drop 4) (S NW (V2 f xs t g k) σ o)) P) : Hd (exs (ex G (n + 90) CW) (BK.drop 3) (S NW (V2 f xs t g k) σ o)) P := by
  obtain ⟨m, r, e⟩ := th_cons (f := f) hk
  have hl := th_len (f := f) (k := k) h4
  have m9 : m ≤ 9 := th_le (f := f) (k := k) h4 (e ▸ List.mem_cons_self)
  refine IR (false || false) (by rfl') (t_or2 (by rfl') (t_cmp .NotEq (a := .d (.list (natD (thL f xs k)))) (b := .fl ((bif memB (thL f xs k) 0 then [PyData.int 9, .int 9] else []) ++ natD (aloL f xs k))) (by rfl') (by rfl') (x_bin (a := .fl (bif memB (thL f xs k) 0 then [PyData.int 9, .int 9] else [])) (b := .d (.list (natD (aloL f xs k)))) (by rfl') (x_ife (memB (thL f xs k) 0) (by rfl') (t_cmp .In (a := ii (0 : Nat)) (b := .d (.list (natD (thL f xs k)))) (by rfl') (by rfl') (by rfl') in_nat) (fun q => by rw [q]; rfl') fun q => by rw [q]; rfl') (by rfl') ?_) ?_) fun _ =>
    t_cmp .NotEq (a := .fl [txtD [48 + m]]) (b := .fl [txtD [48 + m]]) (by rfl') (x_list (vs := [tx [48 + m]]) (by rfl') (evs1 ((x_ob t "get" "Headers.get" (by rfl') (by rfl') H.tb.is (evs1 (v := tx (plT f (X xs k))) (by rfl')) (by rfl') (get_spec (n := n + 50) (w := plT f (X xs k)) H.tb (fun _ => tbE_len) (show 3 ≤ 1000 by decide) pl_low.2)).trans ?_)) (by rfl') (by rfl'))
      (x_map (N := [".0", "number"]) [m] elI (fun m => tx [48 + m]) (fun m => txtD [48 + m]) [] (fun m => [("number", ii m)]) z0 (comp_h (by rfl')) (i_val (v := .fl [.int m]) (by rfl') (x_slice (w := .d (.list (natD (thL f xs k)))) (lo := none) (hi := some (kd (kd (kd (kd (kd (sE BK 3 0) 1) 1) 1) 1) 0)) (sp := none) (l := none) (s := none) (by rfl') (by rfl') (by rfl') (part_s (v := ii 1) (by rfl')) (by rfl') (by rw [e]; exact sl1 (e ▸ hl))) (by rfl')) (by rfl') (by rfl') (by rfl') (fun _ _ _ => (by rfl')) (fun _ _ => (by rfl')) (by rfl') (fun m' σ hm => x_bui .str (by rfl') (evs1 (v := ii m') (by rfl')) (str4 (List.mem_singleton.mp hm ▸ m9))) (fun _ _ => (by rfl')))
      (ne_same (x := .list [txtD [48 + m]]) (d := 1) (by rfl') (by rfl') (by rfl') (lay_ts (ws := [[48 + m]]) fun w hw => by rw [List.mem_singleton.mp hw]; exact fun c hc => by rw [List.mem_singleton.mp hc]; exact Nat.le_trans (Nat.add_le_add_left m9 48) (by decide)) (by rfl'))) ft fun _ => h
  · refine gd_t (decide_eq_true ?_)
    refine Nat.le_trans (Nat.add_le_add (show _ ≤ 2 from ?_) (Nat.le_trans (Nat.le_of_eq (List.length_map ..)) (Nat.le_trans (List.length_filter_le ..) (Nat.le_trans (Nat.le_of_eq List.length_range) h4)))) (show 2 + 4 ≤ 1000000 by decide)
    cases memB (thL f xs k) 0 <;> decide
  · rw [th_eq h4 (Nat.lt_of_le_of_lt (Nat.zero_le k) hk)]
    exact ne_same (x := .list (natD (thL f xs k))) (by rfl') (by rfl') (by rfl') lay_nat (by rfl')
  · rw [get_th e]
theorem k_4 (h : Hd (exs (ex G (n + 90) CW) (BK.drop 5) (S NW (V3 f xs t g k) (ovs (V2 f xs t g k) σ) o)) P) : Hd (exs (ex G (n + 90) CW) (BK.drop 4) (S NW (V2 f xs t g k) σ o)) P := by
  have e {m : Nat} (h : m < 3) : (mvs f (X xs k)).getD m [] = mvT f (X xs k) m := match m, h with
    | 0, _ => rfl
    | 1, _ => rfl
    | 2, _ => rfl
  refine A (tx (mvT f (X xs k) (md k 3))) (S NW (V3 f xs t g k) (ovs (V2 f xs t g k) σ) o) (by rfl') (x_item (w := .fl ((mvs f (X xs k)).map txtD)) (j := md k 3) (by rfl') (x_list (vs := [tx [ch f (X xs k) 2, ch f (X xs k) 0, ch f (X xs k) 1], tx [ch f (X xs k) 1, ch f (X xs k) 0, ch f (X xs k) 2], tx [ch f (X xs k) 2, ch f (X xs k) 1, ch f (X xs k) 0]]) (by rfl') (by rfl') (by rfl') (by rfl')) (x_bin (a := ii k) (b := ii (3 : Nat)) (by rfl') (by rfl') (by rfl') (modV (by decide))) (itF (idx_nat (md_lt (by decide)) (show 3 ≤ 1000 by decide)) ?_)) (by rfl') h
  rw [gDa (d := []) (show md k 3 < (mvs f (X xs k)).length from md_lt (by decide)), e (md_lt (by decide))]; rfl
theorem lev_eq {a b : List Nat} {m : Int} (ha : a.length ≤ 1000) (hb : b.length ≤ 1000) : ∃ j, call G (n + 34) "_levenshtein_distance" [tx a, tx b, ii m] [] o = some (ii (levV a b m), o ++ j) :=
  (lev_spec (m := m) ha hb).get fun r hr h => by
  obtain ⟨h1, j, h2⟩ := h
  exact ⟨j, by rw [hr, ← h1, ← h2]⟩
theorem Jo.app (H : Jo f xs t u g k o) : Jo f xs t u g k (o ++ c) := ⟨H.tb.app, listAt_app H.gp, H.ne⟩
theorem k_5 (H : Jo f xs t u g k o) (h : ∀ σ o, Jo f xs t u g k o → Hd (exs (ex G (n + 90) CW) (BK.drop 7) (S NW (WI f xs t g k 0) σ o)) P) : Hd (exs (ex G (n + 90) CW) (BK.drop 5) (S NW (V3 f xs t g k) σ o)) P := by
  obtain ⟨j, hj⟩ := lev_eq (n := n + 54) (o := o) (a := plT f (X xs k)) (b := mvT f (X xs k) (md k 3)) (m := 4) (show 3 ≤ 1000 by decide) (by
    have hm := md_lt (x := (k : Int)) (n := 3) (by decide)
    generalize md k 3 = m at hm
    match m, hm with
    | 0, _ => exact show 3 ≤ 1000 by decide
    | 1, _ => exact show 3 ≤ 1000 by decide
    | 2, _ => exact show 3 ≤ 1000 by decide)
  rw [lev_move (md_lt (by decide))] at hj
  refine A (ii 4) (S NW (V5 f xs t g k) (ovs (V3 f xs t g k) σ) (o ++ j)) (by rfl') (x_fo "_levenshtein_distance" (by rfl') (vs := [tx (plT f (X xs k)), tx (mvT f (X xs k) (md k 3)), ii 4]) (by rfl') hj) (by rfl') ?_
  refine IR false (by rfl') (by rfl') ft fun _ => ?_
  rw [show S NW (V5 f xs t g k) (ovs (V3 f xs t g k) σ) (o ++ j) = S NW (WI f xs t g k 0) (ovs (V5 f xs t g k) (ovs (V3 f xs t g k) σ)) (o ++ j) from (by rfl')]
  exact h _ _ H.app
end
end L1
end
section
open PySem PySem.W Mine V03
namespace Mine
section
variable {G : Env'} {n : Nat} {C : Cx} {v a b c : V} {st : St} {e : Expr}
theorem ch2 (o1 o2 : CmpOp) {r : Bool} (h1 : ev G n C (kd e 1) st = some (b, st)) (hc : cmpop st.objs o1 a b = some true) (h2 : ev G n C (kd e 2) st = some (c, st)) (hr : cmpop st.objs o2 b c = some r) : evChain (ev G n C) a [o1, o2] [kd e 1, kd e 2] st = some (r, st) := by
  show (ev G n C (kd e 1) st).bind _ = _
  rw [h1]; show (cmpop st.objs o1 a b).bind _ = _
  rw [hc]; show (ev G n C (kd e 2) st).bind _ = _
  rw [h2]; show (cmpop st.objs o2 b c).bind _ = _
  rw [hr]; rfl
theorem x_cmp2 (o1 o2 : CmpOp) {r} (h0 : ev G (n + 1) C e st = (ev G n C (kd e 0) st).bind fun p => (evChain (ev G n C) p.1 [o1, o2] [kd e 1, kd e 2] p.2).map fun q => (V.d (.bool q.1), q.2)) (h1 : ev G n C (kd e 0) st = some (a, st)) (h2 : ev G n C (kd e 1) st = some (b, st)) (hc : cmpop st.objs o1 a b = some true) (h3 : ev G n C (kd e 2) st = some (c, st)) (hr : cmpop st.objs o2 b c = some r) : ev G (n + 1) C e st = some (.d (.bool r), st) := by
  rw [h0, h1]; show (evChain (ev G n C) a [o1, o2] [kd e 1, kd e 2] st).map _ = _
  rw [ch2 o1 o2 h2 hc h3 hr]; rfl
theorem t_cmp2 (o1 o2 : CmpOp) {r} (h0 : tst G (n + 1) C e st = (ev G n C (kd e 0) st).bind fun p => evChain (ev G n C) p.1 [o1, o2] [kd e 1, kd e 2] p.2) (h1 : ev G n C (kd e 0) st = some (a, st)) (h2 : ev G n C (kd e 1) st = some (b, st)) (hc : cmpop st.objs o1 a b = some true) (h3 : ev G n C (kd e 2) st = some (c, st)) (hr : cmpop st.objs o2 b c = some r) : tst G (n + 1) C e st = some (r, st) := by
  rw [h0, h1]; exact ch2 o1 o2 h2 hc h3 hr
end
end Mine
namespace L1
noncomputable def lsN (k j : Nat) : Nat := bif Nat.blt j k then md ((k : Int) + j) 2 else 0
noncomputable def bd (f : Int) (xs : List Int) (k j : Nat) : Int := hid f (X xs j) + (bif Nat.ble j k then D f xs k j - lsN k j else 6)
noncomputable def pr (f : Int) (xs : List Int) (k j p : Nat) : List Nat := [wd f (X xs j), plT f (X xs k)].getD p []
noncomputable def T (f : Int) (xs : List Int) (k j : Nat) : Int := levV (pr f xs k j (md k 2)) (pr f xs k j (1 - md k 2)) (bd f xs k j)
noncomputable def BJ : List Stmt := sB BK 7
noncomputable def U0 (f : Int) (xs : List Int) (t g k j : Nat) : List (Str × V) := ("hidden", ii (hid f (X xs j))) :: ("less", ii (lsN k j)) :: ("other", ii j) :: WI f xs t g k j
noncomputable def U1 (f : Int) (xs : List Int) (t g k j : Nat) : List (Str × V) := ("pair", .d (.list [txtD (wd f (X xs j)), txtD (plT f (X xs k))])) :: ("bound", ii (bd f xs k j)) :: U0 f xs t g k j
noncomputable def U2 (f : Int) (xs : List Int) (t g k j : Nat) : List (Str × V) := ("told", ii (T f xs k j)) :: U1 f xs t g k j
noncomputable def U3 (f : Int) (xs : List Int) (t g k j : Nat) : List (Str × V) := ("fits", .d (.bool true)) :: U2 f xs t g k j
section
variable {n t u g k j : Nat} {xs : List Int} {f x : Int} {P : Fl × St → Prop} {o c : Objs} {σ : Str → Option V}
theorem leb (a b : Nat) : decide ((a : Int) ≤ b) = Nat.ble a b := by
  cases q : Nat.ble a b with
  | true => exact decide_eq_true (Int.ofNat_le.mpr (Nat.le_of_ble_eq_true q))
  | false => exact decide_eq_false fun h => by rw [Nat.ble_eq_true_of_le (Int.ofNat_le.mp h)] at q; exact tf q
theorem fam_at {C : Cx} {e : Expr} {st : St} {k : Nat} (h0 : ev G (n + 1) C e st = evItem (fs G n) C (kd e 0) (kd e 1) st) (h1 : ev G n C (kd e 0) st = some (.d (famD f xs), st)) (h2 : ev G n C (kd e 1) st = some (ii (k : Nat), st)) (hk : k < xs.length) (h4 : xs.length ≤ 4) : ev G (n + 1) C e st = some (tx (wd f (X xs k)), st) :=
  x_item h0 h1 h2 (itL (idx_nat (Nat.lt_of_lt_of_eq hk (List.length_map ..).symm) (Nat.le_trans (Nat.le_of_eq (List.length_map ..)) (Nat.le_trans h4 (by decide)))) (gDa hk))
theorem len3 {α : Type} {l : List α} (h : l.length ≤ 12) : l.length ≤ 1000 := Nat.le_trans h (by decide)
theorem wl : (wd f x).length ≤ 1000 := len3 wd_len
theorem rc_lt : j < rc k (j + 1) := by
  unfold rc
  cases q : Nat.ble (j + 1) k with
  | true => exact Nat.lt_succ_of_lt (Nat.le_of_ble_eq_true q)
  | false => exact Nat.lt_succ_self j
theorem rc_le (h : Nat.ble j k = true) : rc k j = k + 1 := by unfold rc; rw [h]; rfl
theorem rc_len (hk : k < xs.length) (hj : j ≤ xs.length) (h4 : xs.length ≤ 4) : (rowL f xs k (rc k j)).length ≤ 1000 := by
  refine Nat.le_trans (Nat.le_of_eq len_rng) (Nat.le_trans ?_ (Nat.le_trans h4 (by decide)))
  unfold rc
  cases Nat.ble j k with
  | true => exact hk
  | false => exact hj
theorem row_it {C : Cx} {e : Expr} {st : St} {m : Nat} (h0 : ev G (n + 1) C e st = evItem (fs G n) C (kd e 0) (kd e 1) st) (h1 : ev G n C (kd e 0) st = some (.d (.list (rowL f xs k (rc k m))), st)) (h2 : ev G n C (kd e 1) st = some (ii (j : Nat), st)) (hj : j < rc k m) (hl : (rowL f xs k (rc k m)).length ≤ 1000) : ev G (n + 1) C e st = some (ii (D f xs k j), st) :=
  x_item h0 h1 h2 (itL (idx_nat (Nat.lt_of_lt_of_eq hj len_rng.symm) hl) (by unfold rowL; rw [List.getElem?_map, List.getElem?_range hj]; rfl))
theorem j_0 (h4 : xs.length ≤ 4) (hj : j < xs.length) (h : Hd (exs (ex G (n + 80) CW) (BJ.drop 1) (S NW (U0 f xs t g k j) σ o)) P) : Hd (exs (ex G (n + 80) CW) (BJ.drop 0) (S NW (("other", ii j) :: WI f xs t g k j) σ o)) P :=
  AQ true [ii (hid f (X xs j)), ii (lsN k j)] (by rfl') (evs_c (x_bin (a := ii 2) (b := ii (((wd f (X xs j)).length : Int) - 3)) (by rfl') (by rfl') (x_bin (a := ii (wd f (X xs j)).length) (b := ii 3) (by rfl') (x_bui .len (by rfl') (evs1 (fam_at (by rfl') (by rfl') (by rfl') hj h4)) (len_tx wl)) (by rfl') (by rfl')) (mulV (by rfl'))) (evs1
    (x_ife (Nat.blt j k) (by rfl') (t_cmp .Lt (a := ii j) (b := ii k) (by rfl') (by rfl') (by rfl') (congrArg some (ltb _ _))) (fun q => by unfold lsN; rw [q]; exact x_bin (a := ii ((k : Int) + j)) (b := ii (2 : Nat)) (by rfl') (by rfl') (by rfl') (modV (by decide))) fun q => by unfold lsN; rw [q]; rfl'))) (st2 := S NW (U0 f xs t g k j) σ o) (by rfl') h
theorem j_1 (h4 : xs.length ≤ 4) (hk : k < xs.length) (hj : j < xs.length) (h : Hd (exs (ex G (n + 80) CW) (BJ.drop 2) (S NW (U1 f xs t g k j) σ o)) P) : Hd (exs (ex G (n + 80) CW) (BJ.drop 1) (S NW (U0 f xs t g k j) σ o)) P :=
  AQ true [.fl [txtD (wd f (X xs j)), txtD (plT f (X xs k))], ii (bd f xs k j)] (by rfl') (evs_c (x_list (vs := [tx (wd f (X xs j)), tx (plT f (X xs k))]) (by rfl') (evs_c (fam_at (by rfl') (by rfl') (by rfl') hj h4) (evs1 (by rfl'))) (by rfl') (by rfl')) (evs1
    (x_bin (a := ii (hid f (X xs j))) (b := ii (bif Nat.ble j k then D f xs k j - lsN k j else 6)) (by rfl') (by rfl') (x_ife (Nat.ble j k) (by rfl') (t_cmp .LtE (a := ii j) (b := ii k) (by rfl') (by rfl') (by rfl') (congrArg some (leb _ _)))
      (fun q => by rw [q]; exact x_bin (a := ii (D f xs k j)) (b := ii (lsN k j)) (by rfl') (row_it (m := j) (by rfl') (by rfl') (by rfl') (by rw [rc_le q]; exact Nat.lt_succ_of_le (Nat.le_of_ble_eq_true q)) (rc_len hk (Nat.le_of_lt hj) h4)) (by rfl') (by rfl')) fun q => by rw [q]; rfl') (by rfl')))) (st2 := S NW (U1 f xs t g k j) σ o) (by rfl') h
theorem pr_len {p : Nat} : (pr f xs k j p).length ≤ 1000 := match p with
  | 0 => wl
  | 1 => show 3 ≤ 1000 by decide
  | p + 2 => Nat.zero_le _
theorem told_T : Told (fun m => levV (pr f xs k j (md k 2)) (pr f xs k j (1 - md k 2)) m) (hid f (X xs j)) (D f xs k j) := by
  have hp := md_lt (x := (k : Int)) (n := 2) (by decide)
  generalize md k 2 = p at hp
  match p, hp with
  | 0, _ => exact lev_ok.1
  | 1, _ => exact lev_ok.2
theorem j_2 (H : Jo f xs t u g k o) (h : ∀ o, Jo f xs t u g k o → Hd (exs (ex G (n + 80) CW) (BJ.drop 3) (S NW (U2 f xs t g k j) σ o)) P) : Hd (exs (ex G (n + 80) CW) (BJ.drop 2) (S NW (U1 f xs t g k j) σ o)) P := by
  obtain ⟨i, hi⟩ := lev_eq (n := n + 44) (o := o) (a := pr f xs k j (md k 2)) (b := pr f xs k j (1 - md k 2)) (m := bd f xs k j) pr_len pr_len
  have hp := md_lt (x := (k : Int)) (n := 2) (by decide)
  have e1 : (1 : Int) - (md k 2 : Nat) = ((1 - md k 2 : Nat) : Int) := (Int.ofNat_sub (Nat.le_of_lt_succ hp)).symm
  have at' {e : Expr} {n p : Nat} (hp : p < 2) (h0 : ev G (n + 1) CW e (S NW (U1 f xs t g k j) σ o) = evItem (fs G n) CW (kd e 0) (kd e 1) (S NW (U1 f xs t g k j) σ o)) (h1 : ev G n CW (kd e 0) (S NW (U1 f xs t g k j) σ o) = some (.d (.list [txtD (wd f (X xs j)), txtD (plT f (X xs k))]), S NW (U1 f xs t g k j) σ o)) (h2 : ev G n CW (kd e 1) (S NW (U1 f xs t g k j) σ o) = some (ii (p : Nat), S NW (U1 f xs t g k j) σ o)) : ev G (n + 1) CW e (S NW (U1 f xs t g k j) σ o) = some (tx (pr f xs k j p), S NW (U1 f xs t g k j) σ o) :=
    x_item h0 h1 h2 (itL (idx_nat (show p < 2 from hp) (show 2 ≤ 1000 by decide)) (gDa (d := []) (f := txtD) (l := [wd f (X xs j), plT f (X xs k)]) hp))
  exact A (ii (T f xs k j)) (S NW (U2 f xs t g k j) σ (o ++ i)) (by rfl') (x_fo "_levenshtein_distance" (by rfl') (vs := [tx (pr f xs k j (md k 2)), tx (pr f xs k j (1 - md k 2)), ii (bd f xs k j)]) (evs_c (at' hp (by rfl') (by rfl') (x_bin (a := ii k) (b := ii (2 : Nat)) (by rfl') (by rfl') (by rfl') (modV (by decide)))) (evs_c (at' (Nat.lt_of_le_of_lt (Nat.sub_le ..) (by decide)) (by rfl') (by rfl') (e1 ▸ x_bin (a := ii 1) (b := ii (md k 2)) (by rfl') (by rfl') (x_bin (a := ii k) (b := ii (2 : Nat)) (by rfl') (by rfl') (by rfl') (modV (by decide))) (by rfl'))) (evs1 (by rfl')))) hi) (by rfl') (h _ H.app)
end
end L1
end
section
open PySem PySem.W Mine V03
namespace L1
noncomputable def U5 (f : Int) (xs : List Int) (t g k j : Nat) : List (Str × V) := ("row", .d (.list (rowL f xs k (rc k (j + 1))))) :: ("other", ii j) :: WI f xs t g k j
noncomputable def U6 (f : Int) (xs : List Int) (t g k j : Nat) : List (Str × V) := ("whole", ii (acc (pwF f xs) xs.length 0 k (j + 1))) :: U5 f xs t g k j
noncomputable def U7 (f : Int) (xs : List Int) (t g k j : Nat) : List (Str × V) := ("alike", ii (acc (alF f xs) xs.length 0 k (j + 1))) :: U6 f xs t g k j
section
variable {n t u g k j : Nat} {xs : List Int} {f x : Int} {P : Fl × St → Prop} {o c : Objs} {σ : Str → Option V}
theorem md2 {x : Int} (h : PyData.eqv (.int (md x 2)) (.int (1 : Nat)) = false) : md x 2 = 0 := by
  have hp := md_lt (x := x) (n := 2) (by decide)
  generalize md x 2 = p at h hp
  match p, hp with
  | 0, _ => rfl
  | 1, _ => exact tf ((SeqAt.eqv_refl (.int (1 : Nat)) rfl).symm.trans h)
theorem ls_0 (h : PyData.eqv (.int (lsN k j)) (.int (1 : Nat)) = false) : lsN k j = 0 := by
  unfold lsN at h ⊢
  cases q : Nat.blt j k with
  | true => rw [q] at h; exact md2 h
  | false => rfl
theorem ls_1 (h : PyData.eqv (.int (lsN k j)) (.int (1 : Nat)) = true) : lsN k j = 1 ∧ Nat.ble j k = true := by
  have e : lsN k j = 1 := Int.ofNat.inj (eq_of_beq ((eqv_int (lsN k j) (1 : Nat)).symm.trans h))
  refine ⟨e, ?_⟩
  unfold lsN at e
  cases q : Nat.blt j k with
  | true => exact Nat.ble_eq_true_of_le (Nat.le_of_lt (Nat.le_of_ble_eq_true q))
  | false => rw [q] at e; exact absurd (show 0 = 1 from e) (by decide)
theorem T_1 (h : PyData.eqv (.int (lsN k j)) (.int (1 : Nat)) = true) : bd f xs k j < T f xs k j := by
  obtain ⟨e, q⟩ := ls_1 h
  have hT := (told_T (f := f) (xs := xs) (k := k) (j := j)).c
  have eb : bd f xs k j = hid f (X xs j) + D f xs k j - 1 := by unfold bd; rw [q, e]; exact (Int.add_sub_assoc ..).symm
  unfold T; rw [eb]; exact hT
theorem T_2 (h : PyData.eqv (.int (lsN k j)) (.int (1 : Nat)) = false) (q : Nat.ble j k = true) : T f xs k j = bd f xs k j := by
  have hT := (told_T (f := f) (xs := xs) (k := k) (j := j)).a
  have eb : bd f xs k j = hid f (X xs j) + D f xs k j := by unfold bd; rw [q, ls_0 h]; show _ + (_ - 0) = _; rw [Int.sub_zero]
  unfold T; rw [eb]; exact hT
theorem T_3 (q : Nat.ble j k = false) : T f xs k j - hid f (X xs j) = D f xs k j := by
  have hT := (told_T (f := f) (xs := xs) (k := k) (j := j)).b
  have eb : bd f xs k j = hid f (X xs j) + 6 := by unfold bd; rw [q]; rfl
  unfold T; rw [eb]; show levV _ _ _ - _ = _
  rw [show levV (pr f xs k j (md k 2)) (pr f xs k j (1 - md k 2)) (hid f (X xs j) + 6) = _ from hT]; omega
theorem D_le : 0 ≤ D f xs k j ∧ D f xs k j ≤ 6 := dist_le
theorem j_3 (h : Hd (exs (ex G (n + 80) CW) (BJ.drop 4) (S NW (U3 f xs t g k j) σ o)) P) : Hd (exs (ex G (n + 80) CW) (BJ.drop 3) (S NW (U2 f xs t g k j) σ o)) P := by
  refine A (.d (.bool true)) (st1 := S NW (U2 f xs t g k j) σ o) (S NW (U3 f xs t g k j) σ o) (by rfl') (x_ife (PyData.eqv (.int (lsN k j)) (.int (1 : Nat))) (by rfl') (t_cmp .Eq (a := ii (lsN k j)) (b := ii (1 : Nat)) (by rfl') (by rfl') (by rfl') (by rfl')) (fun q => x_cmp .Gt (a := ii (T f xs k j)) (b := ii (bd f xs k j)) (by rfl') (by rfl') (by rfl') (congrArg some (decide_eq_true (T_1 q)))) fun q =>
    x_ife (Nat.ble j k) (by rfl') (t_cmp .LtE (a := ii j) (b := ii k) (by rfl') (by rfl') (by rfl') (congrArg some (leb _ _))) (fun q2 => x_cmp .Eq (a := ii (T f xs k j)) (b := ii (bd f xs k j)) (by rfl') (by rfl') (by rfl') (by rw [T_2 q q2]; exact eq_same (x := .int (bd f xs k j)) (d := 0) rfl rfl rfl ⟨rfl, Nat.le_refl 0⟩ (by decide))) fun q2 =>
      x_cmp2 .LtE .LtE (a := ii 0) (b := ii (D f xs k j)) (c := ii 6) (by rfl') (by rfl') ((x_bin (v := ii (T f xs k j - hid f (X xs j))) (a := ii (T f xs k j)) (b := ii (hid f (X xs j))) (by rfl') (by rfl') (by rfl') (by rfl')).trans (by rw [T_3 q2])) (congrArg some (decide_eq_true D_le.1)) (by rfl') (congrArg some (decide_eq_true D_le.2))) (by rfl') h
theorem rc_app (hk : k < xs.length) : rowL f xs k (rc k j) ++ (bif Nat.blt k j then [PyData.int (D f xs k j)] else []) = rowL f xs k (rc k (j + 1)) := by
  unfold rc
  show _ = rowL f xs k (bif Nat.blt j k then k + 1 else j + 1)
  rcases Nat.lt_trichotomy j k with h | h | h
  · rw [Nat.ble_eq_true_of_le (Nat.le_of_lt h), show Nat.blt j k = true from Nat.ble_eq_true_of_le h, show Nat.blt k j = false from Bool.eq_false_iff.mpr fun q => absurd (Nat.le_of_ble_eq_true q) (Nat.not_le.mpr (Nat.lt_succ_of_lt h))]
    exact List.append_nil _
  · subst h
    rw [Nat.ble_eq_true_of_le (Nat.le_refl j), show Nat.blt j j = false from Bool.eq_false_iff.mpr fun q => absurd (Nat.le_of_ble_eq_true q) (Nat.not_le.mpr (Nat.lt_succ_self j))]
    exact List.append_nil _
  · rw [show Nat.ble j k = false from Bool.eq_false_iff.mpr fun q => absurd (Nat.le_of_ble_eq_true q) (Nat.not_le.mpr h), show Nat.blt j k = false from Bool.eq_false_iff.mpr fun q => absurd (Nat.le_of_ble_eq_true q) (Nat.not_le.mpr (Nat.lt_succ_of_lt h)), show Nat.blt k j = true from Nat.ble_eq_true_of_le h]
    exact range_snoc (f := fun m => PyData.int (D f xs k m))
theorem gt_ble (h : Nat.blt k j = true) : Nat.ble j k = false := Bool.eq_false_iff.mpr fun q => absurd (Nat.le_of_ble_eq_true h) (Nat.not_le.mpr (Nat.lt_succ_of_le (Nat.le_of_ble_eq_true q)))
theorem j_4 (h4 : xs.length ≤ 4) (hk : k < xs.length) (hj : j < xs.length) (h : Hd (exs (ex G (n + 80) CW) (BJ.drop 6) (S NW (U5 f xs t g k j) (ovs (U3 f xs t g k j) σ) o)) P) : Hd (exs (ex G (n + 80) CW) (BJ.drop 4) (S NW (U3 f xs t g k j) σ o)) P := by
  refine IR false (by rfl') (by rfl') ft fun _ => ?_
  refine A (.fl (rowL f xs k (rc k (j + 1)))) (S NW (U5 f xs t g k j) (ovs (U3 f xs t g k j) σ) o) (by rfl') (x_bin (a := .d (.list (rowL f xs k (rc k j)))) (b := .fl (bif Nat.blt k j then [PyData.int (D f xs k j)] else [])) (by rfl') (by rfl') (x_ife (Nat.blt k j) (by rfl') (t_cmp .Gt (a := ii j) (b := ii k) (by rfl') (by rfl') (by rfl') (congrArg some (ltb _ _))) (fun q => by rw [q]; exact x_list (vs := [ii (D f xs k j)]) (by rfl') (evs1 ((x_bin (v := ii (T f xs k j - hid f (X xs j))) (a := ii (T f xs k j)) (b := ii (hid f (X xs j))) (by rfl') (by rfl') (by rfl') (by rfl')).trans (by rw [T_3 (gt_ble q)]))) (by rfl') (by rfl')) fun q => by rw [q]; exact x_list (vs := []) (by rfl') (by rfl') (by rfl') (by rfl')) (rc_app hk ▸ addL ?_)) (by rfl') h
  refine Nat.le_trans (Nat.add_le_add (rc_len hk (Nat.le_of_lt hj) h4) (show _ ≤ 1 from ?_)) (by decide)
  cases Nat.blt k j with
  | true => exact Nat.le_refl 1
  | false => exact Nat.zero_le 1
theorem powV {d : Int} (h : 0 ≤ d ∧ d ≤ 6) : binop o .Pow (ii 1000) (ii d) = some (ii (1000 ^ d.toNat)) := by
  show (gd (decide (0 ≤ d ∧ d ≤ 100)) (gd (i64 1000) (some ((1000 : Int) ^ d.toNat)))).map _ = _
  rw [gd_t (x := gd (i64 1000) (some ((1000 : Int) ^ d.toNat))) (decide_eq_true ⟨h.1, Int.le_trans h.2 (by decide)⟩)]; rfl
theorem j_6 (h4 : xs.length ≤ 4) (hk : k < xs.length) (hj : j < xs.length) (h : Hd (exs (ex G (n + 80) CW) (BJ.drop 8) (S NW (U7 f xs t g k j) σ o)) P) : Hd (exs (ex G (n + 80) CW) (BJ.drop 6) (S NW (U5 f xs t g k j) σ o)) P := by
  have hl := rc_len (f := f) (k := k) (j := j + 1) hk hj h4
  refine A (ii (acc (pwF f xs) xs.length 0 k (j + 1))) (S NW (U6 f xs t g k j) σ o) (by rfl') (x_bin (a := ii (acc (pwF f xs) xs.length 0 k j)) (b := ii (pwF f xs k j)) (by rfl') (by rfl') (x_bin (a := ii 1000) (b := ii (D f xs k j)) (by rfl') (by rfl') (row_it (by rfl') (by rfl') (by rfl') rc_lt hl) (powV D_le)) (by rfl')) (by rfl') ?_
  refine A (ii (acc (alF f xs) xs.length 0 k (j + 1))) (st1 := S NW (U6 f xs t g k j) σ o) (S NW (U7 f xs t g k j) σ o) (by rfl') (x_bin (a := ii (acc (alF f xs) xs.length 0 k j)) (b := ii (alF f xs k j)) (by rfl') (by rfl') (x_ife (nmB f (X xs j) (X xs k)) (by rfl') (t_cmp .In (a := ii j) (b := .d (.list (natD (thL f xs k)))) (by rfl') (by rfl') (by rfl') (in_nat.trans (congrArg some (mem_th h4 hj)))) (fun q => ?_) fun q => ?_) (by rfl')) (by rfl') h
  · unfold alF; rw [q]; exact x_bin (a := ii 1000) (b := ii (D f xs k j)) (by rfl') (by rfl') (row_it (by rfl') (by rfl') (by rfl') rc_lt hl) (powV D_le)
  · unfold alF; rw [q]; rfl'
theorem j_8 (h4 : xs.length ≤ 4) (hj : j < xs.length) (H : Jo f xs t u g k o) : Hd (exs (ex G (n + 80) CW) (BJ.drop 8) (S NW (U7 f xs t g k j) σ o)) (Go NW (WI f xs t g k (j + 1)) (Jo f xs t u g k)) := by
  obtain ⟨i, hi⟩ := lev_eq (n := n + 43) (o := o) (a := plT f (X xs j)) (b := (plT f (X xs k)).reverse) (m := 6) (show 3 ≤ 1000 by decide) (show 3 ≤ 1000 by decide)
  have hd := t3_le (dk3 (f := f) (x := X xs j) (y := X xs k) (k := 1))
  rw [lev_turn] at hi
  refine I (Nat.blt k j) (by rfl') (t_cmp .Gt (a := ii j) (b := ii k) (by rfl') (by rfl') (by rfl') (congrArg some (ltb _ _))) (fun q => ?_) fun q => ?_
  · have eT : acc (tnF f xs) xs.length (xs.length * 1000000000000) k j + 2 * 1000 ^ (4 + dk f (X xs j) (X xs k) 1).toNat = acc (tnF f xs) xs.length (xs.length * 1000000000000) k (j + 1) := by
      show _ = _ + tnF f xs k j
      unfold tnF; rw [q]; rfl
    refine A (ii (4 + dk f (X xs j) (X xs k) 1)) (S NW (("back", ii (4 + dk f (X xs j) (X xs k) 1)) :: U7 f xs t g k j) σ (o ++ i)) (by rfl') (x_fo "_levenshtein_distance" (by rfl') (vs := [tx (plT f (X xs j)), tx (plT f (X xs k)).reverse, ii 6]) (evs_c (pl_at (by rfl') (by rfl') (by rfl') hj h4) (by rfl')) hi) (by rfl') ?_
    refine IR (false || !true) (by rfl') (t_or2 (by rfl') (by rfl') fun _ => t_not (by rfl') (t_cmp2 .LtE .LtE (a := ii 4) (b := ii (4 + dk f (X xs j) (X xs k) 1)) (c := ii 6) (by rfl') (by rfl') (by rfl') (congrArg some (decide_eq_true (by omega))) (by rfl') (congrArg some (decide_eq_true (by omega))))) ft fun _ => ?_
    refine A (ii (acc (tnF f xs) xs.length (xs.length * 1000000000000) k (j + 1))) (S NW (("turned", ii (acc (tnF f xs) xs.length (xs.length * 1000000000000) k (j + 1))) :: ("back", ii (4 + dk f (X xs j) (X xs k) 1)) :: U7 f xs t g k j) σ (o ++ i)) (by rfl') (x_bin (a := ii (acc (tnF f xs) xs.length (xs.length * 1000000000000) k j)) (b := ii (2 * 1000 ^ (4 + dk f (X xs j) (X xs k) 1).toNat)) (by rfl') (by rfl') (x_bin (a := ii 2) (b := ii (1000 ^ (4 + dk f (X xs j) (X xs k) 1).toNat)) (by rfl') (by rfl') (x_bin (a := ii 1000) (b := ii (4 + dk f (X xs j) (X xs k) 1)) (by rfl') (by rfl') (by rfl') (powV ⟨by omega, by omega⟩)) (mulV (by rfl'))) (eT ▸ (by rfl'))) (by rfl') ?_
    exact .of (a := (.next, S NW (("turned", ii (acc (tnF f xs) xs.length (xs.length * 1000000000000) k (j + 1))) :: ("back", ii (4 + dk f (X xs j) (X xs k) 1)) :: U7 f xs t g k j) σ (o ++ i))) (by rfl') (Nx.i (.of (a := (.next, S NW (WI f xs t g k (j + 1)) (ovs (("back", ii (4 + dk f (X xs j) (X xs k) 1)) :: U7 f xs t g k j) σ) (o ++ i))) (by rfl') (.mk H.app rfl)))
  · have eT : acc (tnF f xs) xs.length (xs.length * 1000000000000) k j = acc (tnF f xs) xs.length (xs.length * 1000000000000) k (j + 1) := by
      show _ = _ + tnF f xs k j
      unfold tnF; rw [q]; exact (Int.add_zero _).symm
    have e : S NW (U7 f xs t g k j) σ o = S NW (WI f xs t g k (j + 1)) (ovs (U7 f xs t g k j) σ) o := by
      unfold WI
      rw [← eT]; rfl'
    rw [e]
    exact Nx.y (st := S NW (WI f xs t g k (j + 1)) (ovs (U7 f xs t g k j) σ) o) (by rfl') (by rfl') (.mk H rfl)
end
end L1
end
section
open PySem PySem.W Mine V03
namespace L1
section
variable {n t u g k j i h : Nat} {xs : List Int} {f x : Int} {P : Fl × St → Prop} {o c : Objs} {σ : Str → Option V} {es : List Ent}
theorem j_all (h4 : xs.length ≤ 4) (hk : k < xs.length) (hj : j < xs.length) (H : Jo f xs t u g k o) : Hd (exs (ex G (n + 80) CW) (BJ.drop 0) (S NW (("other", ii j) :: WI f xs t g k j) σ o)) (Go NW (WI f xs t g k (j + 1)) (Jo f xs t u g k)) :=
  j_0 h4 hj (j_1 h4 hk hj (j_2 H fun o H => j_3 (j_4 h4 hk hj (j_6 h4 hk hj (j_8 h4 hj H)))))
theorem ln_it {C : Cx} {e : Expr} {st : St} (h4 : xs.length ≤ 4) (h0 : iter G (n + 3) C e st = iterV (fs G (n + 2)) C e st) (h1 : ev G (n + 2) C e st = evBui (fs G (n + 1)) C (bn .range) (kids e).tail st) (he : (kids e).tail = [kd e 1]) (h2 : ev G (n + 1) C (kd e 1) st = evBui (fs G n) C (bn .len) (kids (kd e 1)).tail st) (he2 : (kids (kd e 1)).tail = [kd (kd e 1) 1]) (h3 : ev G n C (kd (kd e 1) 1) st = some (.d (.list (xs.map fun x => txtD (plT f x))), st)) : iter G (n + 3) C e st = some (.vals ((List.range xs.length).map elI), st) :=
  i_val h0 (x_bui .range h1 (vs := [ii xs.length]) (he ▸ evs1 (x_bui .len (v := ii xs.length) h2 (he2 ▸ evs1 h3) ((len_fl (Nat.le_trans (Nat.le_of_eq (List.length_map ..)) (Nat.le_trans h4 (by decide)))).trans (by rw [List.length_map])))) (by rfl')) (it_rng (Nat.le_trans h4 (by decide)))
theorem k_7 (h4 : xs.length ≤ 4) (hk : k < xs.length) (H : Jo f xs t u g k o) : Hd (exs (ex G (n + 90) CW) (BK.drop 7) (S NW (WI f xs t g k 0) σ o)) (Go NW (WO f xs t g (k + 1)) (Jo f xs t u g (k + 1))) := by
  refine FJ (N := NW) (.vals ((List.range xs.length).map elI)) (fun _ => Jo f xs t u g k) xs.length elI (WI f xs t g k) (fun j => ("other", ii j) :: WI f xs t g k j) (for_h (by rfl') (by rfl')) (by rfl') (fun _ _ _ => rfl) (ln_it (f := f) h4 (by rfl') (by rfl') (by rfl') (by rfl') (by rfl') (by rfl')) (maxL (Nat.le_trans h4 (by decide))) (σ := σ) rfl H (fun _ _ _ => (by rfl')) (fun j σ o hj H => j_all (n := n + 9) h4 hk hj H) fun σ o H => ?_
  have er : rc k xs.length = xs.length := by
    unfold rc
    rw [Bool.eq_false_iff.mpr fun q => absurd (Nat.le_of_ble_eq_true q) (Nat.not_le.mpr hk)]; rfl
  refine AP (i := g) (xs := rowsD f xs k) (v := .d (.list (rowL f xs k (rc k xs.length)))) (x := .list (rowL f xs k (rc k xs.length))) (by rfl') H.gp (by rfl') (by rfl') (decide_eq_true (Nat.lt_of_le_of_lt (Nat.le_of_eq len_rng) (Nat.lt_of_lt_of_le hk (Nat.le_trans h4 (by decide))))) ?_
  have e : rowsD f xs k ++ [.list (rowL f xs k (rc k xs.length))] = rowsD f xs (k + 1) := by rw [er]; exact range_snoc (f := fun a => PyData.list (rowL f xs a xs.length))
  rw [e]
  exact .of (a := (.next, S NW (WO f xs t g (k + 1)) (ovs (WI f xs t g k xs.length) σ) (o.set g (.list (rowsD f xs (k + 1)))))) (by rfl') (.mk ⟨H.tb.keep H.gp H.ne, listAt_here H.gp, H.ne⟩ rfl)
theorem w_21 (h4 : xs.length ≤ 4) (H : Jo f xs t u g 0 o) (h : ∀ σ o, Hd (exs (ex G (n + 100) CW) (BW.drop 22) (S NW (WO f xs t g xs.length) σ o)) P) : Hd (exs (ex G (n + 100) CW) (BW.drop 21) (S NW (WO f xs t g 0) σ o)) P :=
  FJ (N := NW) (.vals ((List.range xs.length).map elI)) (fun k => Jo f xs t u g k) xs.length elI (WO f xs t g) (fun k => ("k", ii k) :: WO f xs t g k) (for_h (by rfl') (by rfl')) (by rfl') (fun _ _ _ => rfl) (ln_it (f := f) h4 (by rfl') (by rfl') (by rfl') (by rfl') (by rfl') (by rfl')) (maxL (Nat.le_trans h4 (by decide))) (σ := σ) rfl H (fun _ _ _ => (by rfl'))
    (fun k σ o hk H => k_0 (n := n + 9) h4 hk H (k_1 h4 H (k_2 h4 (k_3 h4 hk H (k_4 (k_5 H fun σ o H => k_7 h4 hk H)))))) fun σ o _ => h σ o
theorem w_20' (h4 : xs.length ≤ 4) (H : HA o t u (tbE f xs xs.length)) (h : ∀ g σ o, Hd (exs (ex G (n + 100) CW) (BW.drop 22) (S NW (WO f xs t g xs.length) σ o)) P) : Hd (exs (ex G (n + 100) CW) (BW.drop 20) (S NW (W19 f xs t) σ o)) P := by
  refine w_20 h4 ?_
  have e : S NW (W20 f xs t o.length) σ (o ++ [Cell.list []]) = S NW (WO f xs t o.length 0) σ (o ++ [Cell.list []]) := (by rfl')
  rw [e]
  exact w_21 h4 ⟨H.app, at_end, fun e => absurd (new_ne H.l) (by rw [← e]; exact Nat.lt_irrefl _)⟩ (h _)
noncomputable def p1 (f : Int) (k : Nat) : Int := bif oneB f k then 1000 else 1000000
noncomputable def p0 (f : Int) (k : Nat) : Int := bif oneB f k then 1000 else 0
noncomputable def p3 (f : Int) (k : Nat) : Int := bif k == 1 then p1 f 1 else 1
noncomputable def rws (xs : List Int) : List (Nat → Bool) := xs.map rowB
noncomputable def evn (xs : List Int) (p : Nat → Int) : Int := evenF (fun c => chiS (rws xs) c ^ 2) p 8
noncomputable def X22 (f : Int) (xs : List Int) (q : Nat) : List (Str × V) := [("powers", .d (pwD (p1 f))), ("squares", .hl q), ("whole", ii (acc (pwF f xs) xs.length 0 xs.length 0)), ("alike", ii (acc (alF f xs) xs.length 0 xs.length 0)), ("turned", ii (acc (tnF f xs) xs.length (xs.length * 1000000000000) xs.length 0)), ("ones", .d (.list [.bool (oneB f 0), .bool (oneB f 1), .bool (oneB f 2)]))]
noncomputable def X23 (f : Int) (xs : List Int) (q : Nat) : List (Str × V) := ("due", .d (.list [.int (evn xs (p1 f)), .int (evn xs (p0 f))])) :: X22 f xs q
theorem w_22 (h4 : xs.length ≤ 4) (h : ∀ q σ o, Mine.listAt o q = some (sqD (rws xs) 8) → Hd (exs (ex G (n + 100) CW) (BW.drop 23) (S NW (X22 f xs q) σ o)) P) : Hd (exs (ex G (n + 100) CW) (BW.drop 22) (S NW (WO f xs t g xs.length) σ o)) P := by
  have hl : (rws xs).length ≤ 1000 := Nat.le_trans (Nat.le_of_eq (List.length_map ..)) (Nat.le_trans h4 (by decide))
  exact AQ true [.fl [.int (p1 f 0), .int (p1 f 1), .int (p1 f 2)], .hl o.length] (by rfl') (evs_s (x_map (N := [".0", "one"]) (List.range 3) (fun k => .bool (oneB f k)) (fun k => bif oneB f k then ii 1000 else ii 1000000) (fun k => .int (p1 f k)) [] (fun k => [("one", .d (.bool (oneB f k)))]) z0 (comp_h (by rfl')) (by rfl') (by rfl') (by rfl') (by rfl') (fun _ _ _ => (by rfl')) (fun _ _ => (by rfl')) (by rfl') (fun k σ _ => x_ifv (oneB f k) (by rfl') (by rfl') (by rfl') (by rfl')) (fun k _ => by unfold p1; cases oneB f k <;> rfl)) (evs_s (x_fo "_law_squares" (by rfl') (vs := [.d (.list ((rws xs).map rowD))]) (by rfl') (squares_spec (n := n + 63) hl)) rfl)) (st2 := S NW (X22 f xs o.length) (ovs (WO f xs t g xs.length) σ) (o ++ [Cell.list (sqD (rws xs) 8)])) (by rfl') (h _ _ _ at_end)
theorem i_p (a b : Bool) (x y : Int) : i64 (bif a then 1 - (bif b then x else y) else 1 + (bif b then x else y)) = (bif a then bif b then i64 (1 - x) else i64 (1 - y) else bif b then i64 (1 + x) else i64 (1 + y)) := by cases a <;> cases b <;> rfl
theorem i_1 {c k : Nat} : i64 (fac (p1 f) c k) = true := by
  unfold fac p1
  rw [i_p]
  cases tb c k <;> cases oneB f k <;> decide
theorem i_0 {c k : Nat} : i64 (fac (p0 f) c k) = true := by
  unfold fac p0
  rw [i_p]
  cases tb c k <;> cases oneB f k <;> decide
theorem i_3 {c k : Nat} : i64 (fac (p3 f) c k) = true := by
  unfold fac p3 p1
  cases tb c k <;> cases (k == 1) <;> cases oneB f 1 <;> decide
theorem w_23 (hq : Mine.listAt o g = some (sqD (rws xs) 8)) (h : Hd (exs (ex G (n + 100) CW) (BW.drop 24) (S NW (X23 f xs g) σ o)) P) : Hd (exs (ex G (n + 100) CW) (BW.drop 23) (S NW (X22 f xs g) σ o)) P :=
  A (.fl [.int (evn xs (p1 f)), .int (evn xs (p0 f))]) (S NW (X23 f xs g) σ o) (by rfl') (x_list (vs := [ii (evn xs (p1 f)), ii (evn xs (p0 f))]) (by rfl') (evs_c (x_fn "_law_even" (by rfl') (vs := [.hl g, .d (pwD (p1 f))]) (by rfl') (even_spec (n := n + 57) (fun _ _ _ => i_1) hq)) (evs1 (x_fn "_law_even" (by rfl') (vs := [.hl g, .fl [.int (p0 f 0), .int (p0 f 1), .int (p0 f 2)]]) (evs_c (by rfl') (evs1 (x_map (N := [".0", "one"]) (List.range 3) (fun k => .bool (oneB f k)) (fun k => bif oneB f k then ii 1000 else ii 0) (fun k => .int (p0 f k)) [] (fun k => [("one", .d (.bool (oneB f k)))]) z0 (comp_h (by rfl')) (by rfl') (by rfl') (by rfl') (by rfl') (fun _ _ _ => (by rfl')) (fun _ _ => (by rfl')) (by rfl') (fun k σ _ => x_ifv (oneB f k) (by rfl') (by rfl') (by rfl') (by rfl')) (fun k _ => by unfold p0; cases oneB f k <;> rfl)))) ((show call G (n + 97) "_law_even" [.hl g, .fl [.int (p0 f 0), .int (p0 f 1), .int (p0 f 2)]] [] o = call G (n + 97) "_law_even" [.hl g, .d (pwD (p0 f))] [] o from (by rfl')).trans (even_spec (n := n + 57) (fun _ _ _ => i_0) hq))))) (by rfl') (by rfl')) (by rfl') h
theorem w_24 (hq : Mine.listAt o g = some (sqD (rws xs) 8)) (e1 : 8 * acc (pwF f xs) xs.length 0 xs.length 0 = evn xs (p1 f)) (e2 : 8 * acc (alF f xs) xs.length 0 xs.length 0 = evn xs (p0 f)) (e3 : 8 * acc (tnF f xs) xs.length (xs.length * 1000000000000) xs.length 0 = 1000000000000 * evn xs (p3 f)) (h : ∀ st, P (.ret (.d (.bool true)), st)) : Hd (exs (ex G (n + 100) CW) (BW.drop 24) (S NW (X23 f xs g) σ o)) P := by
  refine R (by rfl') (x_cmp .Eq (a := .fl [.int (evn xs (p1 f)), .int (evn xs (p0 f)), .int (1000000000000 * evn xs (p3 f))]) (b := .fl [.int (evn xs (p1 f)), .int (evn xs (p0 f)), .int (1000000000000 * evn xs (p3 f))]) (by rfl') (x_list (vs := [ii (evn xs (p1 f)), ii (evn xs (p0 f)), ii (1000000000000 * evn xs (p3 f))]) (by rfl') (evs_c (e1 ▸ x_bin (a := ii 8) (b := ii (acc (pwF f xs) xs.length 0 xs.length 0)) (by rfl') (by rfl') (by rfl') (mulV (by rfl'))) (evs_c (e2 ▸ x_bin (a := ii 8) (b := ii (acc (alF f xs) xs.length 0 xs.length 0)) (by rfl') (by rfl') (by rfl') (mulV (by rfl'))) (evs1 (e3 ▸ x_bin (a := ii 8) (b := ii (acc (tnF f xs) xs.length (xs.length * 1000000000000) xs.length 0)) (by rfl') (by rfl') (by rfl') (mulV (by rfl')))))) (by rfl') (by rfl'))
    (x_bin (a := .d (.list [.int (evn xs (p1 f)), .int (evn xs (p0 f))])) (b := .fl [.int (1000000000000 * evn xs (p3 f))]) (by rfl') (by rfl') (x_list (vs := [ii (1000000000000 * evn xs (p3 f))]) (by rfl') (evs1 (x_bin (a := ii 1000000000000) (b := ii (evn xs (p3 f))) (by rfl') (by rfl') (x_fn "_law_even" (by rfl') (vs := [.hl g, .fl [.int (p3 f 0), .int (p3 f 1), .int (p3 f 2)]]) (by rfl') ((show call G (n + 94) "_law_even" [.hl g, .fl [.int (p3 f 0), .int (p3 f 1), .int (p3 f 2)]] [] o = call G (n + 94) "_law_even" [.hl g, .d (pwD (p3 f))] [] o from (by rfl')).trans (even_spec (n := n + 54) (fun _ _ _ => i_3) hq))) (mulV (by rfl')))) (by rfl') (by rfl')) (by rfl'))
    (eq_same (x := .list [.int (evn xs (p1 f)), .int (evn xs (p0 f)), .int (1000000000000 * evn xs (p3 f))]) (d := 1) (by rfl') (by rfl') (by rfl') (lay_l fun y hy => ?_) (by rfl'))) (h _)
  rcases List.mem_cons.mp hy with rfl | hy
  · exact ⟨rfl, Nat.le_refl 0⟩
  rcases List.mem_cons.mp hy with rfl | hy
  · exact ⟨rfl, Nat.le_refl 0⟩
  · rw [List.mem_singleton.mp hy]; exact ⟨rfl, Nat.le_refl 0⟩
end
end L1
end
section
open PySem PySem.W Mine V03
namespace L1
noncomputable def o1 (p : Nat × Nat) : Bool := Unicode.lowerOf p.1 == Unicode.lowerOf p.2
noncomputable def dz (e o : Bool) : Int := bif e then 0 else bif o then 1 else 2
noncomputable def pz (e o : Bool) : Int := bif e then 1 else bif o then 1000 else 1000000
noncomputable def qz (e o : Bool) : Int := bif e then 1 else bif o then 1000 else 0
theorem fin1 : ∀ e0 e1 e2 u0 u1 u2 : Bool, (1000 : Int) ^ (dz e0 u0 + (dz e1 u1 + (dz e2 u2 + 0))).toNat = pz e0 u0 * pz e1 u1 * pz e2 u2 := by decide +kernel
theorem fin2 : ∀ e0 e1 e2 u0 u1 u2 : Bool, (bif (e0 || u0) && ((e1 || u1) && (e2 || u2)) then (1000 : Int) ^ (dz e0 u0 + (dz e1 u1 + (dz e2 u2 + 0))).toNat else 0) = qz e0 u0 * qz e1 u1 * qz e2 u2 := by decide +kernel
theorem fin3 : ∀ e u : Bool, (1000 : Int) ^ (4 + dz e u).toNat = 1000000000000 * pz e u := by decide +kernel
section
variable {xs : List Int} {f x y : Int} {k : Nat}
noncomputable def eb (x y : Int) (k : Nat) : Bool := rowB x k == rowB y k
theorem wt_o {p : Nat × Nat} (h : LOK p) : wt p = bif o1 p then 1 else 2 := by
  unfold wt costN o1
  rw [beq_eq_false_iff_ne.mpr fun e => h.ne (List.cons.inj e).1.symm, low1_eq, low1_eq]; rfl
theorem eb_b : (bT x k == bT y k) = eb x y k := by
  have a := b_lt x k
  have b := b_lt y k
  unfold eb rowB
  generalize bT x k = p at a
  generalize bT y k = q at b
  match p, a, q, b with
  | 0, _, 0, _ => rfl
  | 0, _, 1, _ => rfl
  | 1, _, 0, _ => rfl
  | 1, _, 1, _ => rfl
theorem dk_z (hk : k < 3) : dk f x y k = dz (eb x y k) (o1 (ltN f k)) := by
  unfold dk dz
  rw [eb_b, wt_o (lt_ok hk)]
theorem dist_z : dist f x y = dz (eb x y 0) (o1 (ltN f 0)) + (dz (eb x y 1) (o1 (ltN f 1)) + (dz (eb x y 2) (o1 (ltN f 2)) + 0)) := by
  unfold dist tl
  rw [List.sum_cons, List.sum_cons, List.sum_cons, List.sum_nil, dk_z (by decide), dk_z (by decide), dk_z (by decide)]
theorem low_z (hk : k < 3) : (Unicode.lowerOf (ch f x k) == Unicode.lowerOf (ch f y k)) = (eb x y k || o1 (ltN f k)) := by
  rw [← eb_b]
  have a := b_lt x k
  have b := b_lt y k
  unfold ch
  generalize bT x k = p at a
  generalize bT y k = q at b
  match p, a, q, b with
  | 0, _, 0, _ => exact beq_self_eq_true _
  | 0, _, 1, _ => rfl
  | 1, _, 0, _ => exact Bool.beq_comm ..
  | 1, _, 1, _ => exact beq_self_eq_true _
theorem sing {a b c d : List Nat} {u v : Nat} (ha : a = [u]) (hb : b = [v]) : (a ++ c == b ++ d) = ((a == b) && (c == d)) := by
  subst ha; subst hb
  show ((u == v) && (c == d)) = (((u == v) && true) && (c == d))
  rw [Bool.and_true]
theorem nm_z : nmB f x y = ((eb x y 0 || o1 (ltN f 0)) && ((eb x y 1 || o1 (ltN f 1)) && (eb x y 2 || o1 (ltN f 2)))) := by
  obtain ⟨a, ea, _⟩ := low_ch (f := f) (x := x) (k := 0) (by decide)
  obtain ⟨b, hb, _⟩ := low_ch (f := f) (x := x) (k := 1) (by decide)
  obtain ⟨c, ec, _⟩ := low_ch (f := f) (x := y) (k := 0) (by decide)
  obtain ⟨d, ed, _⟩ := low_ch (f := f) (x := y) (k := 1) (by decide)
  unfold nmB
  rw [low_pl, low_pl, sing ea ec, sing hb ed, low_z (by decide), low_z (by decide), low_z (by decide)]
theorem one_z (hk : k < 3) : oneB f k = o1 (ltN f k) := by
  have hl := lt_ok (f := f) hk
  have e1 : lowW [(ltN f k).2] = Unicode.lowerOf (ltN f k).2 := low1_eq _
  have es {j : Nat} (hj : j < 3) : lowW [(ltN f j).1] = [(ltN f j).1] := (low1_eq _).trans (lt_ok hj).ls
  have e2 : oneB f k = (nmE f 3).any (sH (lowW [(ltN f k).2])) := by
    unfold oneB
    cases q : (nmE f 3).any (sH (lowW [(ltN f k).2])) with
    | true => exact List.find?_isSome.mpr (List.any_eq_true.mp q)
    | false => exact Bool.eq_false_iff.mpr fun h => tf ((List.any_eq_true.mpr (List.find?_isSome.mp h)).symm.trans q)
  rw [e2]
  cases q : o1 (ltN f k) with
  | true => exact List.any_eq_true.mpr ⟨([(ltN f k).1], []), List.mem_map.mpr ⟨k, List.mem_range.mpr hk, rfl⟩, (show (lowW [(ltN f k).1] == lowW [(ltN f k).2]) = true by rw [e1, es hk, ← hl.ls]; exact q)⟩
  | false =>
    refine List.any_eq_false.mpr fun p hp h => ?_
    obtain ⟨j, hj, rfl⟩ := List.mem_map.mp hp
    have hj := List.mem_range.mp hj
    have h : (lowW [(ltN f j).1] == lowW [(ltN f k).2]) = true := h
    rw [e1, es hj] at h
    have h := eq_of_beq h
    by_cases e : j = k
    · subst e
      unfold o1 at q
      rw [hl.ls, ← h, beq_self_eq_true] at q; exact tf q
    · rcases hl.lg with g | g
      · rw [g] at h; exact lt_ne hj hk e (List.cons.inj h).1
      · rw [g] at h
        have m := (lt_ok (f := f) hj).ms
        rw [(List.cons.inj h).1, hl.mg] at m
        exact lt_ne hj hk e ((List.cons.inj h).1.trans (List.cons.inj m).1.symm).symm.symm |>.elim
end
end L1
end
section
open PySem PySem.W Mine V03
namespace L1
section
variable {xs : List Int} {f x y : Int} {k : Nat} {F : Nat → Nat → Int}
theorem inn_sum (s : Int) : ∀ j, inn F k s j = s + ((List.range j).map (F k)).sum
  | 0 => (Int.add_zero s).symm
  | j + 1 => by
    show inn F k s j + F k j = _
    rw [inn_sum s j, List.range_succ, List.map_append, List.sum_append, Int.add_assoc]
    show _ = s + (_ + (F k j + 0))
    rw [Int.add_zero]
theorem out_sum {L : Nat} (s : Int) : ∀ k, out F L s k = s + ((List.range k).map fun k => ((List.range L).map (F k)).sum).sum
  | 0 => (Int.add_zero s).symm
  | k + 1 => by
    show inn F k (out F L s k) L = _
    rw [inn_sum, out_sum s k, List.range_succ, List.map_append, List.sum_append, Int.add_assoc]
    show _ = s + (_ + (_ + 0))
    rw [Int.add_zero]
theorem out_S2 (φ : Int → Int → Int) (h : ∀ k m, F k m = φ (X xs k) (X xs m)) : out F xs.length 0 xs.length = S2 φ xs := by
  rw [out_sum, Int.zero_add]
  unfold S2
  have e : ((List.range xs.length).map fun k => ((List.range xs.length).map (F k)).sum) = (List.range xs.length).map fun k => (xs.map (φ (X xs k))).sum := List.map_congr_left fun k _ => congrArg List.sum ((List.map_congr_left fun m _ => h k m).trans (range_map (d := 0) (f := φ (X xs k)) (l := xs)))
  rw [e]
  exact congrArg List.sum (range_map (d := 0) (f := fun a => (xs.map (φ a)).sum) (l := xs))
theorem S2_map {α β : Type} (r : α → β) (g : β → β → Int) (l : List α) : S2 g (l.map r) = S2 (fun a b => g (r a) (r b)) l := by
  unfold S2
  rw [List.map_map]
  exact congrArg List.sum (List.map_congr_left fun a _ => by show ((l.map r).map _).sum = _; rw [List.map_map]; rfl)
theorem evn_S2 (p : Nat → Int) : evn xs p = 8 * S2 (fun a b => difP p (rowB a) (rowB b)) xs := by
  unfold evn
  rw [even_sum]
  unfold rws
  rw [S2_map]
theorem eb_symm : eb x y k = eb y x k := Bool.beq_comm ..
theorem sum_1 : 8 * acc (pwF f xs) xs.length 0 xs.length 0 = evn xs (p1 f) := by
  rw [evn_S2]
  refine congrArg (8 * ·) (out_S2 _ fun k m => ?_)
  unfold pwF D
  rw [dist_z, fin1, ← one_z (by decide), ← one_z (by decide), ← one_z (by decide), eb_symm, eb_symm (k := 1), eb_symm (k := 2)]; rfl
theorem sum_0 : 8 * acc (alF f xs) xs.length 0 xs.length 0 = evn xs (p0 f) := by
  rw [evn_S2]
  refine congrArg (8 * ·) (out_S2 _ fun k m => ?_)
  unfold alF pwF D
  rw [dist_z, nm_z, fin2, ← one_z (by decide), ← one_z (by decide), ← one_z (by decide), eb_symm, eb_symm (k := 1), eb_symm (k := 2)]; rfl
theorem sum_half (g : Nat → Nat → Int) (c : Int) (hd : ∀ k, g k k = c) (hs : ∀ k m, g k m = g m k) : ∀ L, L ≤ 4 → out (fun k m => bif Nat.blt k m then 2 * g k m else 0) L (L * c) L = out g L 0 L
  | 0, _ => by rw [Int.natCast_zero, Int.zero_mul]; rfl
  | 1, _ => by
    show (1 * c) + 0 = 0 + g 0 0
    rw [hd]; omega
  | 2, _ => by
    show (2 * c) + 0 + 2 * g 0 1 + 0 + 0 = 0 + g 0 0 + g 0 1 + g 1 0 + g 1 1
    rw [hd, hd, hs 1 0]; omega
  | 3, _ => by
    show (3 * c) + 0 + 2 * g 0 1 + 2 * g 0 2 + 0 + 0 + 2 * g 1 2 + 0 + 0 + 0 = 0 + g 0 0 + g 0 1 + g 0 2 + g 1 0 + g 1 1 + g 1 2 + g 2 0 + g 2 1 + g 2 2
    rw [hd, hd, hd, hs 1 0, hs 2 0, hs 2 1]; omega
  | 4, _ => by
    show (4 * c) + 0 + 2 * g 0 1 + 2 * g 0 2 + 2 * g 0 3 + 0 + 0 + 2 * g 1 2 + 2 * g 1 3 + 0 + 0 + 0 + 2 * g 2 3 + 0 + 0 + 0 + 0 = 0 + g 0 0 + g 0 1 + g 0 2 + g 0 3 + g 1 0 + g 1 1 + g 1 2 + g 1 3 + g 2 0 + g 2 1 + g 2 2 + g 2 3 + g 3 0 + g 3 1 + g 3 2 + g 3 3
    rw [hd, hd, hd, hd, hs 1 0, hs 2 0, hs 2 1, hs 3 0, hs 3 1, hs 3 2]; omega
theorem dif1 (a b : Bool) : dif a b 1 = 1 := by cases a <;> cases b <;> rfl
theorem sum_3 (h4 : xs.length ≤ 4) : 8 * acc (tnF f xs) xs.length (xs.length * 1000000000000) xs.length 0 = 1000000000000 * evn xs (p3 f) := by
  have hg (k m : Nat) : (1000 : Int) ^ (4 + dk f (X xs m) (X xs k) 1).toNat = 1000000000000 * difP (p3 f) (rowB (X xs k)) (rowB (X xs m)) := by
    have e : difP (p3 f) (rowB (X xs k)) (rowB (X xs m)) = pz (eb (X xs k) (X xs m) 1) (oneB f 1) := by
      show dif _ _ 1 * dif _ _ (p1 f 1) * dif _ _ 1 = _
      rw [dif1, dif1, Int.one_mul, Int.mul_one]; rfl
    rw [dk_z (by decide), fin3, e, ← one_z (by decide), eb_symm]
  have h := sum_half (fun k m => (1000 : Int) ^ (4 + dk f (X xs m) (X xs k) 1).toNat) 1000000000000 (fun k => by show (1000 : Int) ^ (4 + dk f (X xs k) (X xs k) 1).toNat = _; rw [dk0]; rfl) (fun k m => by show (1000 : Int) ^ (4 + dk f _ _ 1).toNat = 1000 ^ (4 + dk f _ _ 1).toNat; rw [dk_symm]) xs.length h4
  show 8 * out (tnF f xs) xs.length (xs.length * 1000000000000) xs.length = _
  rw [show tnF f xs = fun k m => bif Nat.blt k m then 2 * 1000 ^ (4 + dk f (X xs m) (X xs k) 1).toNat else 0 from rfl, h, out_S2 (fun a b => 1000000000000 * difP (p3 f) (rowB a) (rowB b)) hg, S2_mul, evn_S2]
  generalize S2 _ xs = z
  omega
end
end L1
end
section
open PySem PySem.W Mine V03
namespace L1
theorem letters_at {f : Int} : Mine.listAt [Cell.list (cellL f 3)] 0 = some ((psL f).map pairD) := (by rfl')
theorem law_in {ns : List Int} {f : Int} (hl : ns.length ≤ 63) {P : Fl × St → Prop} (h : ∀ st, P (.ret (.d (.bool true)), st)) : Hd (exs (ex G (68 + 100) CW) (BW.drop 1) (S NW (W1 ns f) z0 [])) P := by
  obtain ⟨h1, h4⟩ := nums_len ns
  refine w_1 (w_2 (w_3 (w_4 (w_5 (w_6 (w_7 hl letters_at fun σ j => ?_))))))
  have hL : Mine.listAt ([Cell.list (cellL f 3)] ++ j) 0 = some ((psL f).map pairD) := listAt_app letters_at
  generalize numsOf ns = xs at h1 h4
  exact w_8 h4 (w_9 h4 (w_10 h4 fun σ => w_11 h4 (w_12 h4 hL (w_13 h4 fun σ => w_14 h1 h4 hL fun σ o i h' H => w_15 H fun σ o H => w_16 h1 h4 H fun j g o H => w_17 h4 H fun σ o H => w_18 h4 H (w_19 H fun σ => w_20' h4 H.tb fun g σ o => w_22 h4 fun q σ o hq => w_23 hq (w_24 hq sum_1 sum_0 (sum_3 h4) h))))))
theorem hlaw (ns : List Int) (hl : ns.length ≤ 63) : Hd ((fs G 169).call "law" [.d (.list (ns.map .int))] [] []) fun r => r.1 = .d (.bool true) :=
  c_call (F := F_law) (S NW (W0 ns) z0 []) (by rfl') (w_0 (n := 148) hl (law_in hl fun st => rfl))
end L1
end
section
open PySem PySem.W PyProof.Rows Mine H03
set_option maxHeartbeats 8000000 in
theorem PySem.Challenge.cw_tp0058_03_holds : PySem.Challenge.rw_tp0058_03.Holds := by
  w_on
  refine holds_law (by decide +kernel) fun said => ?_
  refine law_holds (q := qv) (loose := H03.loose) (Y := H03.Y) said rfl H03.behind (fun _ _ _ _ _ => trivial) (by rfl) (by rfl) (by rfl) (by decide +kernel) ⟨rfl, rfl, rfl, rfl, rfl, by decide +kernel⟩ ?hw ?call
  case hw => w_witness2
  case call =>
    intro w s₀ s₁ mg mb G Y a hmg args vs as hpre hlay L low
    have hrd := L.reads
    have hwl := L.well
    have hlo := L.low low
    wrow_args hpre hlay hrd hwl hlo
    rename_i ns hs hlay0 hL1 hr1 hl2 w4 w3 l vals w0 hL ra w1 r0 hI hr hc hc2
    refine V03.top_call (L1.hlaw ns (by omega)) Y L.keeps L.gens G.T.g hmg hL hI fun s' hk ho hg => ?fin
    case fin =>
      refine GoodW.toG ⟨.inl ⟨_, .bool true, [], rfl, raisesW_false ?hn, .bool true, ?hp, unshared_nil⟩, hk, ho, hg⟩
      case hn => wrow_none_raised
      case hp => wrow_post
end
