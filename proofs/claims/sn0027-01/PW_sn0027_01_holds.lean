import PyProof.Rows.All
import Wide.All
import OpenK.AllK
import Wide.FinOn
import PySem.Sre
import Lean
import PySem.Challenge.RW_sn0027_01
set_option Elab.async false
set_option rowWalk.seconds 0
section
local macro_rules | `(tactic| walk_at $s:str) => `(tactic| k_extra $s)
local macro_rules | `(tactic| k_ne) => `(tactic| (refine PySem.W.neN ?_; (try dsimp only); k_extra "k_ne"))
local macro_rules | `(tactic| k_all) => `(tactic| k_extra "k_all")
section
open PySem PySem.W PyProof.Rows
set_option Elab.async false
namespace Mine
set_option maxRecDepth 100000 in
set_option maxHeartbeats 8000000 in
open_top hd for PySem.Challenge.rw_sn0027_01
end Mine
end
section
open PySem PySem.W PyProof.Rows
namespace Mine
noncomputable abbrev loose : List PySem.Str := looseW Mine.hd.view_39 [Str.ofString "Whitespace", Str.ofString "_twin_re_1", Str.ofString "_twin_re_2"]
noncomputable def Hold (P : Prop) : Prop := P
theorem Hold.mk {P : Prop} (h : Hold P) : P := h
theorem Hold.out {P : Prop} (h : P) : Hold P := h
/-- the switch that open_top leaves on is off in the texts built apart -/
theorem top_off : True := by
  w_top off
  trivial
end Mine
end
section
open PySem PySem.W PyProof.Rows
namespace Mine
theorem runs_toks {M : Model} {Γ : Ctx} {p : Pos} {t : Sem Fin} {fs : List Frame} {s : Shared} {e : End} {s' : Shared} (h : Runs M Γ p t fs s e s') : s.toks ≤ s'.toks := by
  induction h <;> (try simp only [Shared.setGen] at *) <;> omega
theorem wakes_toks {M : Model} {Γ : Ctx} {p : Pos} {g : Nat} {r : Resume} {s : Shared} {res : GenResult} {s' : Shared} (h : Wakes M Γ p g r s res s') : s.toks ≤ s'.toks := by
  unfold Wakes at h
  split at h
  · exact h.elim
  · split at h
    · obtain ⟨e₁, s₁, h1, _, _, rfl⟩ := h
      have := runs_toks h1
      simpa [Shared.setGen] using this
    · obtain ⟨_, rfl⟩ := h; exact Nat.le_refl _
    · obtain ⟨_, rfl⟩ := h; exact Nat.le_refl _
  · obtain ⟨e₁, s₁, h1, _, _, rfl⟩ := h
    have := runs_toks h1
    simpa [Shared.setGen] using this
  · obtain ⟨_, rfl⟩ := h; exact Nat.le_refl _
  · obtain ⟨_, rfl⟩ := h; exact Nat.le_refl _
theorem wp_toks {α : Type} {M : Model} {Γ : Ctx} : ∀ (t : Sem α) (n : Nat) (Q : α → Pos → Shared → Prop) (E : Value → Pos → Shared → Prop) (p : Pos) (s : Shared), n ≤ s.toks →
    Sem.wp M Γ t (fun a p' s' => n ≤ s'.toks → Q a p' s') (fun e p' s' => n ≤ s'.toks → E e p' s') p s → Sem.wp M Γ t Q E p s := by
  intro t
  induction t with
  | pure a => intro n Q E p s hn h; exact h hn
  | raise e => intro n Q E p s hn h; exact h hn
  | unsupported _ => intro n Q E p s hn h; exact h
  | finish _ => intro n Q E p s hn h; exact h
  | rule _ k ih => intro n Q E p s hn h; exact ih () n Q E p s hn h
  | «at» p' k ih => intro n Q E p s hn h; exact ih () n Q E p' s hn h
  | load a _ k ih => intro n Q E p s hn h; obtain ⟨o, ho, h⟩ := h; exact ⟨o, ho, ih o n Q E p s hn h⟩
  | update a _ f k ih => intro n Q E p s hn h; exact ⟨h.1, ih () n Q E p _ hn h.2⟩
  | loadIfAlive a k ih => intro n Q E p s hn h; exact ih _ n Q E p s hn h
  | point _ k ih => intro n Q E p s hn h; exact ih () n Q E p s hn h
  | register _ _ _ => intro n Q E p s hn h; exact h
  | alloc o k ih => intro n Q E p s hn h; exact ih _ n Q E p _ hn h
  | fresh k ih => intro n Q E p s hn h; exact ih _ n Q E p _ (Nat.le_succ_of_le hn) h
  | ask k ih => intro n Q E p s hn h; exact ih _ n Q E p s hn h
  | choose src m k ih => intro n Q E p s hn h; exact ⟨h.1, ih _ n Q E p _ hn h.2⟩
  | os q _ k ih => intro n Q E p s hn h; exact ih _ n Q E p _ hn h
  | call c hd _ _ k ih =>
    intro n Q E p s hn h
    obtain ⟨r, s', hr, h⟩ := h
    exact ⟨r, s', hr, ih r n Q E p s' (Nat.le_trans hn (runs_toks hr)) h⟩
  | handled own k ih => intro n Q E p s hn h; exact ih _ n Q E p s hn h
  | genState g k ih => intro n Q E p s hn h; obtain ⟨st, hs, h⟩ := h; exact ⟨st, hs, ih _ n Q E p s hn h⟩
  | newGen c k ih => intro n Q E p s hn h; exact ih _ n Q E p _ hn h
  | resume g r _ k ih => intro n Q E p s hn h; obtain ⟨res, s', hw, h⟩ := h; exact ⟨res, s', hw, ih res n Q E p s' (Nat.le_trans hn (wakes_toks hw)) h⟩
  | yield _ _ _ _ _ => intro n Q E p s hn h; exact h
  | stack k ih => intro n Q E p s hn h; exact ih _ n Q E p s hn h
  | fork _ _ _ => intro n Q E p s hn h; exact h
  | thread k ih => intro n Q E p s hn h; exact ih _ n Q E p s hn h
  | await _ _ _ _ _ _ => intro n Q E p s hn h; exact h
theorem wpAny_toks {α : Type} {M : Model} {A : Around} {t : Sem α} {Q : α → Shared → Prop} {E : Value → Shared → Prop} {s : Shared} (n : Nat) (hn : n ≤ s.toks)
    (h : wpAny M A t (fun a s' => n ≤ s'.toks → Q a s') (fun e s' => n ≤ s'.toks → E e s') s) : wpAny M A t Q E s :=
  fun Γ p hΓ => wp_toks t n _ _ p s hn (h Γ p hΓ)
theorem wpAny_toksQ {α : Type} {M : Model} {A : Around} {t : Sem α} {Q : α → Shared → Prop} {E : Value → Shared → Prop} {s : Shared} (n : Nat) (hn : n ≤ s.toks)
    (h : wpAny M A t (fun a s' => n ≤ s'.toks → Q a s') E s) : wpAny M A t Q E s :=
  wpAny_toks n hn (wpAny_mono h (fun _ _ x => x) fun _ _ x _ => x)
theorem codeAny_toks {M : Model} {A : Around} {c : Code} {R : Result → Shared → Prop} {s : Shared} (n : Nat) (hn : n ≤ s.toks) (h : codeAny M A c (fun r s' => n ≤ s'.toks → R r s') s) : codeAny M A c R s :=
  fun Γ p hc hΓ => let ⟨r, s', hr, hR⟩ := h Γ p hc hΓ; ⟨r, s', hr, hR (Nat.le_trans hn (runs_toks hr))⟩
end Mine
end
section
namespace Mine
open PySem PySem.Sre
noncomputable def C1 : Array Nat := #[14, 4, 0, 1, 1, 6, 1, 16, 46, 1]
noncomputable def C2 : Array Nat := #[14, 9, 4, 1, 2, 16, 10, 16, 13, 0, 7, 7, 16, 13, 16, 10, 15, 18, 5, 16, 10, 15, 13, 11, 16, 13, 5, 5, 0, 16, 10, 1, 15, 2, 0, 1]
theorem runFor_add (a b : Nat) (m : M) : M.runFor (a + b) m = M.runFor b (M.runFor a m) := by
  induction a generalizing m with
  | zero => simp [M.runFor]
  | succ a ih =>
    rw [Nat.succ_add]
    show (if m.outcome.isSome then m else M.runFor (a + b) m.step) = M.runFor b (if m.outcome.isSome then m else M.runFor a m.step)
    cases h : m.outcome.isSome with
    | true =>
      simp only [if_true]
      cases b with
      | zero => rfl
      | succ b => show m = (if m.outcome.isSome then m else _); rw [h]; rfl
    | false => simp only [Bool.false_eq_true, if_false]; exact ih _
theorem runFor_done (n : Nat) (m : M) (h : m.outcome.isSome = true) : M.runFor n m = m := by
  cases n with
  | zero => rfl
  | succ n => show (if m.outcome.isSome then m else _) = m; rw [h]; rfl
/-- a machine's state; what it has seen is of no account -/
noncomputable def S (c T : Array Nat) (n ls s pc pos hd : Nat) (ma ob : Bool) (mk : Array (Option Nat)) (fr : List Sre.Frame) (wt : Nat) (ans : Option Bool) (sn : Seen) : M :=
  { code := c, text := T, lim := n, start := s, lastStart := ls, wholeText := false, mustAdvance := ma, pc := pc, pos := pos, handed := hd, outermost := ob, marks := mk, lastmark := -1, lastindex := -1, loops := #[], inner := none,
    frames := fr, weight := wt, answer := ans, seen := sn, outcome := none }
noncomputable def Found (b : Nat) (m : M) (p e : Nat) : Prop := ∃ k, k ≤ b ∧ (M.runFor k m).outcome = some .matched ∧ (M.runFor k m).start = p ∧ (M.runFor k m).handed = e
noncomputable def NotFound (b : Nat) (m : M) : Prop := ∃ k, k ≤ b ∧ (M.runFor k m).outcome = some .failed
theorem Found.mono {b b' : Nat} {m : M} {p e : Nat} (h : Found b m p e) (hb : b ≤ b') : Found b' m p e := let ⟨k, h0, h1⟩ := h; ⟨k, Nat.le_trans h0 hb, h1⟩
theorem NotFound.mono {b b' : Nat} {m : M} (h : NotFound b m) (hb : b ≤ b') : NotFound b' m := let ⟨k, h0, h1⟩ := h; ⟨k, Nat.le_trans h0 hb, h1⟩
theorem Found.one {b : Nat} {m m' : M} {p e : Nat} (ho : m.outcome = none) (hm : m.step = m') (h : Found b m' p e) : Found (b + 1) m p e := by
  obtain ⟨k, h0, h1, h2, h3⟩ := h
  have e : M.runFor (k + 1) m = M.runFor k m' := by
    show (if m.outcome.isSome then m else M.runFor k m.step) = _
    rw [ho, hm]; rfl
  exact ⟨k + 1, by omega, by rw [e]; exact h1, by rw [e]; exact h2, by rw [e]; exact h3⟩
theorem NotFound.one {b : Nat} {m m' : M} (ho : m.outcome = none) (hm : m.step = m') (h : NotFound b m') : NotFound (b + 1) m := by
  obtain ⟨k, h0, h1⟩ := h
  have e : M.runFor (k + 1) m = M.runFor k m' := by
    show (if m.outcome.isSome then m else M.runFor k m.step) = _
    rw [ho, hm]; rfl
  exact ⟨k + 1, by omega, by rw [e]; exact h1⟩
section
variable {c T : Array Nat} {n ls s pc pos hd wt : Nat} {ma ob : Bool} {mk : Array (Option Nat)} {fr : List Sre.Frame} {sn : Seen}
theorem found_end {p e : Nat} (h1 : s = p) (h2 : hd = e) : Found 1 (S c T n ls s pc pos hd ma ob mk [] wt (some true) sn) p e := by
  subst h1; subst h2
  exact ⟨1, Nat.le_refl _, rfl, rfl, rfl⟩
theorem notFound_end : NotFound 1 (S c T n ls s pc pos hd ma ob mk [] wt (some false) sn) := ⟨1, Nat.le_refl _, rfl⟩
theorem step_exec (hpc : pc < c.size) : (S c T n ls s pc pos hd ma ob mk fr wt none sn).step = (S c T n ls s pc pos hd ma ob mk fr wt none sn).exec := by
  have h1 : (S c T n ls s pc pos hd ma ob mk fr wt none sn).step = if pc < c.size then (S c T n ls s pc pos hd ma ob mk fr wt none sn).exec else (S c T n ls s pc pos hd ma ob mk fr wt none sn).stick "code:ran-off" := rfl
  rw [h1, if_pos hpc]
theorem exec_jump (m : M) (h : m.word 0 = 15) : m.exec = { m with seen := m.seen.add 15, pc := m.pc + 1 + m.word 1 } := by
  unfold M.exec; rw [h]; rfl
theorem exec_success (m : M) (h : m.word 0 = 1) : m.exec = if (m.outermost && ((m.wholeText && m.pos != m.lim) || (m.mustAdvance && m.pos == m.start))) = true then { m with seen := m.seen.add 1 }.say false else { m with seen := m.seen.add 1, handed := m.pos }.say true := by
  unfold M.exec; rw [h]; rfl
theorem exec_branch (m : M) (h : m.word 0 = 7) : m.exec = { m with seen := m.seen.add 7 }.alternative (m.pc + 1) ({ m with seen := m.seen.add 7 }.keep m.inner.isSome) := by
  unfold M.exec; rw [h]; rfl
theorem exec_lit_far (m : M) (h : m.word 0 = 16) (hp : m.lim ≤ m.pos) : m.exec = { m with seen := m.seen.add 16 }.say false := by
  unfold M.exec; rw [h]; exact if_pos hp
theorem exec_lit (m : M) (h : m.word 0 = 16) (hp : ¬ m.lim ≤ m.pos) (b : Bool) (ha : accepts m.code m.pc (m.text.getD m.pos 0) (m.seen.add 16) = .ok (b, m.seen.add 16)) :
    m.exec = if b = true then { m with seen := m.seen.add 16, pc := m.pc + itemWidth m.code m.pc, pos := m.pos + 1 } else { m with seen := m.seen.add 16 }.say false := by
  unfold M.exec; rw [h]
  refine (if_neg hp).trans ?_
  show (match accepts m.code m.pc (m.text.getD m.pos 0) (m.seen.add 16) with | .error why => _ | .ok (false, seen) => _ | .ok (true, seen) => _) = _
  rw [ha]
  cases b <;> rfl
noncomputable def atK (m : M) (k : Nat) : M :=
  match { m with seen := m.seen.add 6 }.isAt k with
  | .error why => { m with seen := m.seen.add 6 }.stick why
  | .ok yes => if yes then { m with seen := (m.seen.add 6).add (43 + k), pc := m.pc + 2 } else { m with seen := (m.seen.add 6).add (43 + k) }.say false
theorem exec_at (m : M) (h : m.word 0 = 6) : m.exec = atK m (m.word 1) := by
  unfold M.exec; rw [h]; rfl
theorem accepts_lit {c : Array Nat} {p ch : Nat} {sn : Seen} (h : c.getD p 0 = 16) : accepts c p ch sn = .ok (ch == c.getD (p + 1) 0, sn) := by
  unfold accepts; rw [h]; rfl
theorem width_lit {c : Array Nat} {p : Nat} (h : c.getD p 0 = 16) : itemWidth c p = 2 := by
  unfold itemWidth; rw [h]; rfl
/-- one step of a literal -/
theorem step_lit {l : Nat} (hw : c.getD pc 0 = 16) (hl : c.getD (pc + 1) 0 = l) (hpc : pc < c.size) :
    (S c T n ls s pc pos hd ma ob mk fr wt none sn).step = if pos < n ∧ T.getD pos 0 = l then S c T n ls s (pc + 2) (pos + 1) hd ma ob mk fr wt none ((sn.add 16)) else S c T n ls s pc pos hd ma ob mk fr wt (some false) (sn.add 16) := by
  subst hl
  rw [step_exec hpc]
  by_cases h1 : pos < n
  · rw [exec_lit (S c T n ls s pc pos hd ma ob mk fr wt none sn) hw (Nat.not_le.mpr h1) _ (accepts_lit hw)]
    by_cases h2 : T.getD pos 0 = c.getD (pc + 1) 0
    · refine (if_pos (beq_iff_eq.mpr h2)).trans (Eq.trans ?_ (if_pos ⟨h1, h2⟩).symm)
      show S c T n ls s (pc + itemWidth c pc) (pos + 1) hd ma ob mk fr wt none (sn.add 16) = _
      rw [width_lit hw]
    · exact (if_neg fun h => h2 (beq_iff_eq.mp h)).trans (if_neg fun h => h2 h.2).symm
  · exact (exec_lit_far (S c T n ls s pc pos hd ma ob mk fr wt none sn) hw (Nat.not_lt.mp h1)).trans (if_neg fun h => h1 h.1).symm
/-- the row's beginning -/
theorem step_bol (hw : c.getD pc 0 = 6) (hl : c.getD (pc + 1) 0 = 1) (hpc : pc < c.size) :
    (S c T n ls s pc pos hd ma ob mk fr wt none sn).step = if pos = 0 ∨ T.getD (pos - 1) 0 = 10 then S c T n ls s (pc + 2) pos hd ma ob mk fr wt none ((sn.add 6).add 44) else S c T n ls s pc pos hd ma ob mk fr wt (some false) ((sn.add 6).add 44) := by
  rw [step_exec hpc, exec_at (S c T n ls s pc pos hd ma ob mk fr wt none sn) hw]
  show atK _ (c.getD (pc + 1) 0) = _
  rw [hl]
  show (if (pos == 0 || T.getD (pos - 1) 0 == 10) = true then _ else _) = _
  by_cases h : pos = 0 ∨ T.getD (pos - 1) 0 = 10
  · exact (if_pos (by simpa using h)).trans (if_pos h).symm
  · exact (if_neg (by simpa using h)).trans (if_neg h).symm
theorem step_success (hw : c.getD pc 0 = 1) (hpc : pc < c.size) (hne : pos ≠ s) :
    (S c T n ls s pc pos hd ma ob mk fr wt none sn).step = S c T n ls s pc pos pos ma ob mk fr wt (some true) (sn.add 1) := by
  rw [step_exec hpc, exec_success (S c T n ls s pc pos hd ma ob mk fr wt none sn) hw]
  refine (if_neg ?_).trans rfl
  show ¬ (ob && (false || (ma && pos == s))) = true
  rw [beq_eq_false_iff_ne.mpr hne]
  cases ob <;> cases ma <;> exact Bool.false_ne_true
theorem step_jump {k : Nat} (hw : c.getD pc 0 = 15) (hk : c.getD (pc + 1) 0 = k) (hpc : pc < c.size) :
    (S c T n ls s pc pos hd ma ob mk fr wt none sn).step = S c T n ls s (pc + 1 + k) pos hd ma ob mk fr wt none (sn.add 15) := by
  subst hk
  exact (step_exec hpc).trans (exec_jump (S c T n ls s pc pos hd ma ob mk fr wt none sn) hw)
/-- an attempt that held -/
theorem step_held {pc' pos' : Nat} {ob' : Bool} :
    (S c T n ls s pc pos hd ma ob mk [{ wait := .nextStart, pc := pc', pos := pos', outermost := ob' }] 1 (some true) sn).step = S c T n ls s pc' pos' hd ma ob' mk [] 0 (some true) sn := by
  rfl
theorem step_fell {pc' pos' : Nat} {ob' : Bool} (h : pos' < ls) :
    (S C1 T n ls s pc pos hd ma ob mk [{ wait := .nextStart, pc := pc', pos := pos', outermost := ob' }] 1 (some false) sn).step =
      S C1 T n ls (pos' + 1) pc' (pos' + 1) (pos' + 1) false false mk [{ wait := .nextStart, pc := pc', pos := pos' + 1, outermost := false }] 1 none sn := by
  exact if_pos h
theorem step_over {pc' pos' : Nat} {ob' : Bool} (h : ¬ pos' < ls) :
    (S c T n ls s pc pos hd ma ob mk [{ wait := .nextStart, pc := pc', pos := pos', outermost := ob' }] 1 (some false) sn).step = S c T n ls s pc' pos' hd ma ob' mk [] 0 (some false) sn := by
  exact if_neg h
noncomputable def assertK (m : M) (k : Nat) : M := if m.pos < k then { m with pc := m.pc + 1 + m.word 1 } else m.attempt { m.frame .lookNot with kept := m.keep m.inner.isSome } (m.pc + 3) (m.pos - k) false
theorem exec_assertNot (m : M) (h : m.word 0 = 5) : m.exec = assertK { m with seen := m.seen.add 5 } (m.word 2) := by
  unfold M.exec; rw [h]; rfl
theorem step_branch {a : Nat} (hw : c.getD pc 0 = 7) (ha : c.getD (pc + 1) 0 = a + 1) (hpc : pc < c.size) (hwt : wt < 1000) :
    (S c T n ls s pc pos hd ma ob mk fr wt none sn).step = S c T n ls s (pc + 2) pos pos ma ob mk ({ wait := .nextBranch, pc := pc + 1, pos := pos, outermost := ob, kept := {} } :: fr) (wt + 1) none (sn.add 7) := by
  have h1 : ¬ (wt + 1 > 16777216) := by omega
  rw [step_exec hpc, exec_branch (S c T n ls s pc pos hd ma ob mk fr wt none sn) hw]
  simp only [S, M.alternative, ha, M.keep, M.attempt, M.frame]
  simp [h1]
theorem step_next {pc' pos' a : Nat} {ob' : Bool} (ha : c.getD (pc' + c.getD pc' 0) 0 = a + 1) (hwt : wt < 1000) :
    (S c T n ls s pc pos hd ma ob mk ({ wait := .nextBranch, pc := pc', pos := pos', outermost := ob', kept := {} } :: fr) (wt + 1) (some false) sn).step =
      S c T n ls s (pc' + c.getD pc' 0 + 1) pos' pos' ma ob' mk ({ wait := .nextBranch, pc := pc' + c.getD pc' 0, pos := pos', outermost := ob', kept := {} } :: fr) (wt + 1) none sn := by
  have h1 : ¬ (wt + 1 > 16777216) := by omega
  simp only [M.step, S, Option.isSome, Bool.false_eq_true, if_false, M.resume, M.putBack, M.alternative, ha, M.attempt, M.frame]
  simp [h1]
theorem step_chose {pc' pos' : Nat} {ob' : Bool} :
    (S c T n ls s pc pos hd ma ob mk ({ wait := .nextBranch, pc := pc', pos := pos', outermost := ob', kept := {} } :: fr) (wt + 1) (some true) sn).step =
      S c T n ls s pc' pos' hd ma ob' mk fr wt (some true) sn := by
  rfl
theorem step_assertNot (hw : c.getD pc 0 = 5) (h2 : c.getD (pc + 2) 0 = 0) (hpc : pc < c.size) (hwt : wt < 1000) :
    (S c T n ls s pc pos hd ma ob mk fr wt none sn).step = S c T n ls s (pc + 3) pos pos ma false mk ({ wait := .lookNot, pc := pc, pos := pos, outermost := ob, kept := {} } :: fr) (wt + 1) none (sn.add 5) := by
  rw [step_exec hpc, exec_assertNot (S c T n ls s pc pos hd ma ob mk fr wt none sn) hw]
  show assertK _ (c.getD (pc + 2) 0) = _
  rw [h2]
  exact (if_neg (Nat.not_lt_zero _)).trans (if_neg (show ¬ (wt + 1 + 0 > 16777216) by omega))
theorem step_lookNot {pc' pos' k : Nat} {ob' : Bool} (hk : c.getD (pc' + 1) 0 = k) :
    (S c T n ls s pc pos hd ma ob mk ({ wait := .lookNot, pc := pc', pos := pos', outermost := ob', kept := {} } :: fr) (wt + 1) (some false) sn).step =
      S c T n ls s (pc' + 1 + k) pos' hd ma ob' mk fr wt none sn := by
  subst hk
  rfl
end
/-- at the row's beginning a dot -/
noncomputable def dotAt (T : Array Nat) (s : Nat) : Prop := (s = 0 ∨ T.getD (s - 1) 0 = 10) ∧ T.getD s 0 = 46
theorem c1_run {T : Array Nat} {n : Nat} {mk : Array (Option Nat)} : ∀ (j s hd : Nat) (ma ob : Bool) (sn : Seen), j + s = n →
    (∃ p, s ≤ p ∧ p < n ∧ dotAt T p ∧ (∀ q, s ≤ q → q < p → ¬ dotAt T q) ∧ Found (4 * j + 6) (S C1 T n n s 5 s hd ma ob mk [{ wait := .nextStart, pc := 5, pos := s, outermost := ob }] 1 none sn) p (p + 1)) ∨
    ((∀ q, s ≤ q → q < n → ¬ dotAt T q) ∧ NotFound (4 * j + 6) (S C1 T n n s 5 s hd ma ob mk [{ wait := .nextStart, pc := 5, pos := s, outermost := ob }] 1 none sn)) := by
  intro j
  induction j with
  | zero =>
    intro s hd ma ob sn hj
    right
    have hs : s = n := by omega
    subst hs
    refine ⟨fun q h1 h2 => by omega, NotFound.mono (b := 5) ?_ (by omega)⟩
    refine .one rfl (step_bol rfl rfl (by decide)) ?_
    split
    · refine NotFound.mono (b := 3) ?_ (by omega)
      refine .one rfl (step_lit (l := 46) rfl rfl (by decide)) ?_
      rw [if_neg (by omega)]
      exact .one rfl (step_over (by omega)) notFound_end
    · exact NotFound.mono (.one rfl (step_over (by omega)) notFound_end) (by omega)
  | succ j ih =>
    intro s hd ma ob sn hj
    by_cases hd' : dotAt T s
    · left
      refine ⟨s, Nat.le_refl _, by omega, hd', fun q h1 h2 => by omega, Found.mono (b := 5) ?_ (by omega)⟩
      refine .one rfl (step_bol rfl rfl (by decide)) ?_
      rw [if_pos hd'.1]
      refine .one rfl (step_lit (l := 46) rfl rfl (by decide)) ?_
      rw [if_pos ⟨by omega, hd'.2⟩]
      refine .one rfl (step_success rfl (by decide) (by omega)) ?_
      exact .one rfl step_held (found_end rfl rfl)
    · have fell : ∀ pc pos hd ma ob' sn', (∃ p, s ≤ p ∧ p < n ∧ dotAt T p ∧ (∀ q, s ≤ q → q < p → ¬ dotAt T q) ∧ Found (4 * j + 7) (S C1 T n n s pc pos hd ma ob' mk [{ wait := .nextStart, pc := 5, pos := s, outermost := ob }] 1 (some false) sn') p (p + 1)) ∨
          ((∀ q, s ≤ q → q < n → ¬ dotAt T q) ∧ NotFound (4 * j + 7) (S C1 T n n s pc pos hd ma ob' mk [{ wait := .nextStart, pc := 5, pos := s, outermost := ob }] 1 (some false) sn')) := by
        intro pc pos hd ma ob' sn'
        rcases ih (s + 1) (s + 1) false false sn' (by omega) with ⟨p, h1, h2, h3, h4, h5⟩ | ⟨h1, h2⟩
        · left
          refine ⟨p, by omega, h2, h3, fun q hq hq' => ?_, .one rfl (step_fell (by omega)) h5⟩
          by_cases e : q = s
          · subst e; exact hd'
          · exact h4 q (by omega) hq'
        · right
          refine ⟨fun q hq hq' => ?_, .one rfl (step_fell (by omega)) h2⟩
          by_cases e : q = s
          · subst e; exact hd'
          · exact h1 q (by omega) hq'
      by_cases hb : s = 0 ∨ T.getD (s - 1) 0 = 10
      · have hc : ¬ T.getD s 0 = 46 := fun e => hd' ⟨hb, e⟩
        rcases fell 7 s hd ma ob (((sn.add 6).add 44).add 16) with ⟨p, h1, h2, h3, h4, h5⟩ | ⟨h1, h2⟩
        · left
          refine ⟨p, h1, h2, h3, h4, Found.mono (b := 4 * j + 7 + 1 + 1) (.one rfl (step_bol rfl rfl (by decide)) ?_) (by omega)⟩
          rw [if_pos hb]
          refine .one rfl (step_lit (l := 46) rfl rfl (by decide)) ?_
          rw [if_neg (fun e => hc e.2)]
          exact h5
        · right
          refine ⟨h1, NotFound.mono (b := 4 * j + 7 + 1 + 1) (.one rfl (step_bol rfl rfl (by decide)) ?_) (by omega)⟩
          rw [if_pos hb]
          refine .one rfl (step_lit (l := 46) rfl rfl (by decide)) ?_
          rw [if_neg (fun e => hc e.2)]
          exact h2
      · rcases fell 5 s hd ma ob ((sn.add 6).add 44) with ⟨p, h1, h2, h3, h4, h5⟩ | ⟨h1, h2⟩
        · left
          refine ⟨p, h1, h2, h3, h4, Found.mono (b := 4 * j + 7 + 1) (.one rfl (step_bol rfl rfl (by decide)) ?_) (by omega)⟩
          rw [if_neg hb]
          exact h5
        · right
          refine ⟨h1, NotFound.mono (b := 4 * j + 7 + 1) (.one rfl (step_bol rfl rfl (by decide)) ?_) (by omega)⟩
          rw [if_neg hb]
          exact h2
/-- a row's end at s: how long it is -/
noncomputable def endLen (T : Array Nat) (n s : Nat) : Nat := if T.getD s 0 = 13 ∧ s + 1 < n ∧ T.getD (s + 1) 0 = 10 then 2 else 1
theorem c2_hit {T : Array Nat} {n s hd : Nat} {ma ob : Bool} {mk : Array (Option Nat)} {sn : Seen} {ls : Nat} (hs : s < n) (hc : T.getD s 0 = 10 ∨ T.getD s 0 = 13) :
    Found 30 (S C2 T n ls s 10 s hd ma ob mk [{ wait := .nextStart, pc := 10, pos := s, outermost := ob }] 1 none sn) s (s + endLen T n s) := by
  refine .one rfl (step_branch (a := 6) rfl rfl (by decide) (by decide)) ?_
  refine .one rfl (step_lit (l := 13) rfl rfl (by decide)) ?_
  rcases hc with hc | hc
  · refine Found.mono (b := 7) ?_ (by omega)
    rw [if_neg (by rw [hc]; omega)]
    refine .one rfl (step_next (a := 4) rfl (by decide)) ?_
    refine .one rfl (step_lit (l := 10) rfl rfl (by decide)) ?_
    rw [if_pos ⟨hs, hc⟩]
    refine .one rfl (step_jump (k := 13) rfl rfl (by decide)) ?_
    refine .one rfl (step_success rfl (by decide) (by omega)) ?_
    refine .one rfl step_chose ?_
    refine .one rfl step_held (found_end rfl ?_)
    unfold endLen
    rw [hc, if_neg (by omega)]
  · rw [if_pos ⟨hs, hc⟩]
    refine .one rfl (step_lit (l := 10) rfl rfl (by decide)) ?_
    by_cases h10 : s + 1 < n ∧ T.getD (s + 1) 0 = 10
    · refine Found.mono (b := 5) ?_ (by omega)
      rw [if_pos h10]
      refine .one rfl (step_jump (k := 18) rfl rfl (by decide)) ?_
      refine .one rfl (step_success rfl (by decide) (by omega)) ?_
      refine .one rfl step_chose ?_
      refine .one rfl step_held (found_end rfl ?_)
      unfold endLen
      rw [if_pos ⟨hc, h10⟩]
    · refine Found.mono (b := 12) ?_ (by omega)
      rw [if_neg h10]
      refine .one rfl (step_next (a := 4) rfl (by decide)) ?_
      refine .one rfl (step_lit (l := 10) rfl rfl (by decide)) ?_
      rw [if_neg (by rw [hc]; omega)]
      refine .one rfl (step_next (a := 10) rfl (by decide)) ?_
      refine .one rfl (step_lit (l := 13) rfl rfl (by decide)) ?_
      rw [if_pos ⟨hs, hc⟩]
      refine .one rfl (step_assertNot rfl rfl (by decide) (by decide)) ?_
      refine .one rfl (step_lit (l := 10) rfl rfl (by decide)) ?_
      rw [if_neg h10]
      refine .one rfl (step_lookNot (k := 5) rfl) ?_
      refine .one rfl (step_jump (k := 2) rfl rfl (by decide)) ?_
      refine .one rfl (step_success rfl (by decide) (by omega)) ?_
      refine .one rfl step_chose ?_
      refine .one rfl step_held (found_end rfl ?_)
      unfold endLen
      rw [if_neg (by omega)]
end Mine
end
section
namespace Mine
open PySem PySem.Sre
theorem search1 {T : Array Nat} {s n : Nat} {must : Bool} (hs : s ≤ n) :
    (∃ p, s ≤ p ∧ p < n ∧ dotAt T p ∧ (∀ q, s ≤ q → q < p → ¬ dotAt T q) ∧ Found (4 * (n - s) + 6) (forSearch C1 T 0 s n must) p (p + 1)) ∨
    ((∀ q, s ≤ q → q < n → ¬ dotAt T q) ∧ NotFound (4 * (n - s) + 6) (forSearch C1 T 0 s n must)) := by
  by_cases h : n - s < 1
  · right
    refine ⟨fun q h1 h2 => by omega, ?_⟩
    have e : ∃ sn, forSearch C1 T 0 s n must = S C1 T n 0 s 5 s s must true #[] [] 0 (some false) sn := by
      refine ⟨({} : Seen).add 14, ?_⟩
      simp only [forSearch]
      rw [if_pos (by simp only [Bool.or_eq_true, decide_eq_true_eq]; exact .inr h)]
      rfl
    obtain ⟨sn, e⟩ := e
    rw [e]
    exact notFound_end.mono (by omega)
  · have e : ∃ sn, forSearch C1 T 0 s n must = S C1 T n n s 5 s s must true #[] [{ wait := .nextStart, pc := 5, pos := s, outermost := true }] 1 none sn := by
      refine ⟨({} : Seen).add 14, ?_⟩
      simp only [forSearch]
      rw [if_neg (by simp only [Bool.or_eq_true, decide_eq_true_eq]; intro x; rcases x with x | x; omega; exact h x)]
      rfl
    obtain ⟨sn, e⟩ := e
    rw [e]
    exact c1_run (n - s) s s must true sn (by omega)
noncomputable abbrev endAt (T : Array Nat) (s : Nat) : Prop := T.getD s 0 = 10 ∨ T.getD s 0 = 13
theorem inSet2 (c : Nat) (sn : Seen) : ∃ sn', inSet C2 c 36 5 true sn = .ok (decide (c = 10 ∨ c = 13), sn') := by
  by_cases h1 : c = 10
  · subst h1; exact ⟨_, rfl⟩
  · by_cases h2 : c = 13
    · subst h2; exact ⟨_, rfl⟩
    · refine ⟨((sn.add 16).add 16).add 0, ?_⟩
      have e1 : (c == 10) = false := by simpa using h1
      have e2 : (c == 13) = false := by simpa using h2
      rw [decide_eq_false (by omega)]
      show (if (c == 10) = true then _ else (if (c == 13) = true then _ else _) : Except String (Bool × Seen)) = _
      rw [e1, e2]
      rfl
theorem admitted2 {m : M} (hc : m.code = C2) : ∀ (k s : Nat) (sn : Seen), k + s = m.lim + 1 →
    (∃ p sn', s ≤ p ∧ p < m.lim ∧ endAt m.text p ∧ (∀ q, s ≤ q → q < p → ¬ endAt m.text q) ∧ M.admitted m k s sn = .ok (some p, sn')) ∨
    ((∀ q, s ≤ q → q < m.lim → ¬ endAt m.text q) ∧ ∃ sn', M.admitted m k s sn = .ok (none, sn')) := by
  intro k
  induction k with
  | zero =>
    intro s sn h
    right
    exact ⟨fun q h1 h2 => by omega, _, rfl⟩
  | succ k ih =>
    intro s sn h
    unfold M.admitted
    by_cases h1 : s ≥ m.lim
    · rw [if_pos h1]
      right
      exact ⟨fun q h1 h2 => by omega, _, rfl⟩
    · rw [if_neg h1, hc]
      obtain ⟨sn', e⟩ := inSet2 (m.text.getD s 0) sn
      rw [show C2.size = 36 from rfl, e]
      by_cases h2 : endAt m.text s
      · left
        refine ⟨s, sn', Nat.le_refl _, by omega, h2, fun q h1 h2 => by omega, ?_⟩
        rw [decide_eq_true h2]
      · rw [decide_eq_false h2]
        rcases ih (s + 1) sn' (by omega) with ⟨p, sn2, q1, q2, q3, q4, q5⟩ | ⟨q1, sn2, q5⟩
        · left
          refine ⟨p, sn2, by omega, q2, q3, fun q hq hq' => ?_, q5⟩
          by_cases e : q = s
          · subst e; exact h2
          · exact q4 q (by omega) hq'
        · right
          refine ⟨fun q hq hq' => ?_, sn2, q5⟩
          by_cases e : q = s
          · subst e; exact h2
          · exact q1 q (by omega) hq'
theorem search2 {T : Array Nat} {s n : Nat} {must : Bool} (hs : s ≤ n) :
    (∃ p, s ≤ p ∧ p < n ∧ endAt T p ∧ (∀ q, s ≤ q → q < p → ¬ endAt T q) ∧ Found 30 (forSearch C2 T 0 s n must) p (p + endLen T n p)) ∨
    ((∀ q, s ≤ q → q < n → ¬ endAt T q) ∧ NotFound 30 (forSearch C2 T 0 s n must)) := by
  by_cases h : n - s < 1
  · right
    refine ⟨fun q h1 h2 => by omega, ?_⟩
    have e : ∃ sn, forSearch C2 T 0 s n must = S C2 T n 0 s 10 s s must true #[] [] 0 (some false) sn := by
      refine ⟨({} : Seen).add 14, ?_⟩
      simp only [forSearch]
      rw [if_pos (by simp only [Bool.or_eq_true, decide_eq_true_eq]; exact .inr h)]
      rfl
    obtain ⟨sn, e⟩ := e
    rw [e]
    exact notFound_end.mono (by omega)
  · have e : ∃ sn, forSearch C2 T 0 s n must = (S C2 T n n s 10 s s must true #[] [] 0 none sn).attemptFrom s true := by
      refine ⟨({} : Seen).add 14, ?_⟩
      simp only [forSearch]
      rw [if_neg (by simp only [Bool.or_eq_true, decide_eq_true_eq]; intro x; rcases x with x | x; omega; exact h x)]
      rfl
    obtain ⟨sn, e⟩ := e
    rw [e]
    have hf : (S C2 T n n s 10 s s must true #[] [] 0 none sn).hasFirstSet = true := rfl
    unfold M.attemptFrom
    rw [hf]
    simp only [Bool.not_true, Bool.false_eq_true, if_false]
    rcases admitted2 (m := S C2 T n n s 10 s s must true #[] [] 0 none sn) rfl (n + 1 - s) s sn (show n + 1 - s + s = n + 1 by omega) with ⟨p, sn', q1, q2, q3, q4, q5⟩ | ⟨q1, sn', q5⟩
    · left
      refine ⟨p, q1, q2, q3, q4, ?_⟩
      have q5' : M.admitted (S C2 T n n s 10 s s must true #[] [] 0 none sn) ((S C2 T n n s 10 s s must true #[] [] 0 none sn).lim + 1 - s) s (S C2 T n n s 10 s s must true #[] [] 0 none sn).seen = .ok (some p, sn') := q5
      rw [q5']
      exact c2_hit (hd := p) (ma := false) (ob := true) (sn := sn') (ls := n) (mk := #[]) q2 q3
    · right
      refine ⟨q1, ?_⟩
      have q5' : M.admitted (S C2 T n n s 10 s s must true #[] [] 0 none sn) ((S C2 T n n s 10 s s must true #[] [] 0 none sn).lim + 1 - s) s (S C2 T n n s 10 s s must true #[] [] 0 none sn).seen = .ok (none, sn') := q5
      rw [q5']
      exact (notFound_end (c := C2) (T := T) (n := n) (ls := n) (s := s) (pc := 10) (pos := s) (hd := s) (ma := must) (ob := true) (mk := #[]) (wt := 0) (sn := sn')).mono (by omega)
end Mine
end
section
open PySem PySem.W PyProof.Rows
set_option maxRecDepth 100000
namespace Mine
theorem slot_sub : Slot "re.Pattern" "sub" "re.Pattern.sub" :=
  .of (owner := "re.Pattern") (n := "sub") (by rw [typeLookup_type, builtinLookup_eq_fast]; kernel_rfl) (by decide +kernel) (by decide +kernel) (by decide +kernel)
    (by first | exact .inl (by decide +kernel) | exact .inr (by decide +kernel)) (by rw [isSubtype_type]; kernel_rfl)
theorem type_sub : typeOf (.builtin "re.Pattern.sub") = pure (.type "method_descriptor") := by show builtinType _ = _; rw [builtinType_eq_fast]; kernel_rfl
theorem entry_sub : entryFor table "re.Pattern.sub" = some Builtin.«re.Pattern.sub» := entryFor_of_tree (by kernel_rfl)
theorem entry_loop : entryFor table "re.Pattern.sub.loop" = some Builtin.«re.Pattern.sub.loop» := entryFor_of_tree (by kernel_rfl)
theorem plainAttrs_pat : PlainAttrs "re.Pattern" :=
  ⟨⟨"object.__getattribute__", by rw [typeLookup_type, builtinLookup_eq_fast]; kernel_rfl, by decide +kernel⟩, by rw [typeLookup_type, builtinLookup_eq_fast]; kernel_rfl⟩
theorem owner_pat : Manifest.owners.lookup (String.ofList ['n', 'r', 'e', 't', 't', 'a', 'P', '.', 'e', 'r'].reverse) = some Manifest.sig_re_Pattern := by kernel_rfl
theorem args_sub (a b c : Value) : argsOk "re.Pattern.sub" ⟨[a, b, c], []⟩ := by
  unfold argsOk; rw [signature?_of (id := "re.Pattern.sub") (n := ['b', 'u', 's']) (o := ['n', 'r', 'e', 't', 't', 'a', 'P', '.', 'e', 'r']) (by kernel_rfl) owner_pat]; kernel_rfl
theorem nocall_str : typeLookup (.type "str") "__call__" = pure none := by rw [typeLookup_type, builtinLookup_eq_fast]; kernel_rfl
theorem plain_loop : plainId "re.Pattern.sub.loop" = true := by decide +kernel
theorem plain_join : plainId "str.join" = true := by decide +kernel
end Mine
end
section
open PySem PySem.W PyProof.Rows PySem.Builtin PySem.Builtin.Re
set_option maxRecDepth 100000
namespace Mine
section
variable {Mo : Model} {A : Around} {E : Value → Shared → Prop} {s : Shared}
theorem drive_ok {Q : Sre.M → Shared → Prop} : ∀ (turns : Nat) (m : Sre.M) (k : Nat), k ≤ 4 * turns → 0 < turns → (m.runFor k).outcome.isSome = true → Q (m.runFor k) s → wpAny Mo A (reDrive turns m) Q E s := by
  intro turns
  induction turns with
  | zero => intro m k _ h; omega
  | succ turns ih =>
    intro m k hk _ ho hq
    unfold reDrive
    dsimp only [reTurnSteps]
    cases h4 : (m.runFor 4).outcome.isSome with
    | true =>
      rw [if_pos rfl]
      refine wpAny_pure ?_
      have e : m.runFor 4 = m.runFor k := by
        by_cases hk4 : k ≤ 4
        · have : m.runFor 4 = Sre.M.runFor (4 - k) (m.runFor k) := by rw [← runFor_add]; congr 1; omega
          rw [this, runFor_done _ _ ho]
        · have : m.runFor k = Sre.M.runFor (k - 4) (m.runFor 4) := by rw [← runFor_add]; congr 1; omega
          rw [this, runFor_done _ _ h4]
      rw [e]; exact hq
    | false =>
      simp only [Bool.false_eq_true, if_false]
      have hk4 : ¬ k ≤ 4 := by
        intro hk4
        have : m.runFor 4 = Sre.M.runFor (4 - k) (m.runFor k) := by rw [← runFor_add]; congr 1; omega
        rw [this, runFor_done _ _ ho, ho] at h4
        cases h4
      have e : m.runFor k = Sre.M.runFor (k - 4) (m.runFor 4) := by rw [← runFor_add]; congr 1; omega
      refine wpAny_bind (wpAny_rule (ih (m.runFor 4) (k - 4) (by omega) (by omega) ?_ ?_))
      · rw [← e]; exact ho
      · rw [← e]; exact hq
theorem rules_ok {Q : PUnit → Shared → Prop} {f : Nat → PUnit → Sem (ForInStep PUnit)} (hf : ∀ i b, wpAny Mo A (f i b) (fun r s' => r = .yield PUnit.unit ∧ s' = s) E s) : ∀ (l : List Nat), Q ⟨⟩ s →
    wpAny Mo A (forIn l PUnit.unit f) Q E s := by
  intro l hq
  induction l with
  | nil => exact wpAny_pure hq
  | cons i l ih =>
    rw [List.forIn_cons]
    refine wpAny_bind (wpAny_mono (hf i _) (fun r s' h => ?_) fun _ _ x => x)
    obtain ⟨rfl, rfl⟩ := h
    exact ih
theorem toEnd_found {m : Sre.M} {b p e : Nat} {Q : Option Sre.M → Shared → Prop} (h : Found b m p e) (hb : b ≤ 2 ^ 40) (hq : ∀ m', m'.start = p → m'.handed = e → Q (some m') s) : wpAny Mo A (reRunToEnd m) Q E s := by
  obtain ⟨k, h0, h1, h2, h3⟩ := h
  unfold reRunToEnd
  refine wpAny_bind (drive_ok _ m k (by have : (2 : Nat) ^ 40 ≤ 4 * 2 ^ 64 := by decide
                                        omega) (by decide) (by rw [h1]; rfl) ?_)
  refine wpAny_bind ?_
  refine rules_ok (fun i b => ?_) _ ?_
  · skip
    split
    · exact wpAny_bind (wpAny_rule (wpAny_pure ⟨rfl, rfl⟩))
    · exact wpAny_bind (wpAny_pure (wpAny_pure ⟨rfl, rfl⟩))
  rw [h1]
  exact wpAny_pure (hq _ h2 h3)
theorem toEnd_not {m : Sre.M} {b : Nat} {Q : Option Sre.M → Shared → Prop} (h : NotFound b m) (hb : b ≤ 2 ^ 40) (hq : Q none s) : wpAny Mo A (reRunToEnd m) Q E s := by
  obtain ⟨k, h0, h1⟩ := h
  unfold reRunToEnd
  refine wpAny_bind (drive_ok _ m k (by have : (2 : Nat) ^ 40 ≤ 4 * 2 ^ 64 := by decide
                                        omega) (by decide) (by rw [h1]; rfl) ?_)
  refine wpAny_bind ?_
  refine rules_ok (fun i b => ?_) _ ?_
  · skip
    split
    · exact wpAny_bind (wpAny_rule (wpAny_pure ⟨rfl, rfl⟩))
    · exact wpAny_bind (wpAny_pure (wpAny_pure ⟨rfl, rfl⟩))
  rw [h1]
  exact wpAny_pure hq
end
/-- what a substitution gives, place by place -/
noncomputable def SubSpec (c : Array Nat) (x r : PySem.Str) (G : Nat → List Nat) : Prop :=
  ∀ (s : Nat) (must : Bool), s ≤ x.length →
    (∃ p e, s ≤ p ∧ p < e ∧ e ≤ x.length ∧ Found 100000 (Sre.forSearch c x.cps 0 s x.length must) p e ∧ G s = (x.cps.extract s p).toList ++ r.cps.toList ++ G e) ∨
    (NotFound 100000 (Sre.forSearch c x.cps 0 s x.length must) ∧ G s = (x.cps.extract s x.length).toList)
noncomputable abbrev patObj (v0 v1 v3 v4 : Value) (t2 t6 : Tok) (ca : Addr) : Obj := { cls := .type "re.Pattern", data := .fields #[v0, v1, .int 0 t2, v3, v4, .ref ca, .int 0 t6] }
noncomputable abbrev codeObj (c : List Nat) : Obj := { cls := .type "tuple", data := .seq (c.map fun (n : Nat) => Value.int (n : Int) 0).toArray }
section
variable {Mo : Model} {A : Around} {E : Value → Shared → Prop} {s : Shared} {a ca : Addr} {v0 v1 v3 v4 : Value} {t2 t6 : Tok} {c : List Nat} {x : PySem.Str} {t : Tok}
theorem codes_back (c : List Nat) : (((c.map fun (n : Nat) => Value.int (n : Int) 0).toArray.map reRawOf).map (·.toNat)) = c.toArray := by
  apply Array.ext'
  simp only [List.map_toArray, List.map_map]
  show List.map _ c = c
  conv => rhs; rw [← List.map_id c]
  exact List.map_congr_left fun n _ => by simp [reRawOf]
theorem target_ok {Q : ReTarget → Shared → Prop} (hp : s.heap.get? a = some (patObj v0 v1 v3 v4 t2 t6 ca)) (hc : s.heap.get? ca = some (codeObj c))
    (hq : Q { pattern := .ref a, string := .str x t, code := c.toArray, text := x.cps, kind := 0, groups := 0, pos := 0, lim := x.cps.size } s) : wpAny Mo A (reWholeTarget (.ref a) (.str x t)) Q E s := by
  unfold reWholeTarget
  refine wpAny_bind (wpAny_fieldsOf hp rfl ?_)
  unfold reTextOf
  refine wpAny_bind (wpAny_bind (wpAny_pure ?_))
  refine wpAny_pure ?_
  refine wpAny_bind (wpAny_pure ?_)
  unfold reRawItems
  refine wpAny_bind (wpAny_bind ?_)
  refine wpAny_seqItems hc rfl ?_
  refine wpAny_pure (wpAny_pure ?_)
  have := codes_back c
  simp only [Option.getD_some] at this ⊢
  rw [this]
  exact hq
theorem slice_ok {T : Array Nat} {b e : Nat} {Q : Value → Shared → Prop} (hT : T.size ≤ 100000) (hq : Q (.str ⟨T.extract b e⟩ s.toks) { s with toks := s.toks + 1 }) : wpAny Mo A (reSlice T 0 b e) Q E s := by
  unfold reSlice
  rw [if_pos (by rfl)]
  refine wpAny_mkStr hq ?_
  show (T.extract b e).size ≤ sizeLine
  have : (2 : Nat) ^ 24 = 16777216 := by decide
  rw [Array.size_extract]; unfold sizeLine; omega
noncomputable def codes (ps : List (PySem.Str × Tok)) : List Nat := ps.flatMap fun p => p.1.cps.toList
theorem glued_codes (ps : List PySem.Str) : (Builtin.Str.glued ⟨#[]⟩ ps).cps.toList = ps.flatMap fun p => p.cps.toList := by
  have key : ∀ (l : List PySem.Str) (acc : Array Nat), (l.foldl (fun acc p => acc ++ (⟨#[]⟩ : PySem.Str).cps ++ p.cps) acc).toList = acc.toList ++ l.flatMap fun p => p.cps.toList := by
    intro l
    induction l with
    | nil => intro acc; simp
    | cons p l ih => intro acc; rw [List.foldl_cons, ih]; simp
  unfold Builtin.Str.glued
  cases ps with
  | nil => rfl
  | cons p ps =>
    have := key ps p.cps
    simpa using this
end
section
variable {prog : Program} {w : World} {A : Around} {s₀ : Shared} {a ca l : Addr} {v0 v1 v3 v4 : Value} {t2 t6 : Tok} {c : List Nat} {x r : PySem.Str} {t tr : Tok} {G : Nat → List Nat} {R : Result → Shared → Prop}
theorem strValues_snoc (ps : List (PySem.Str × Tok)) (y : PySem.Str) (u : Tok) : (strValues ps).toArray.push (.str y u) = (strValues (ps ++ [(y, u)])).toArray := by simp [strValues]
theorem loop_ok (hp : s₀.heap.get? a = some (patObj v0 v1 v3 v4 t2 t6 ca)) (hc : s₀.heap.get? ca = some (codeObj c)) (hl : s₀.heap.get? l = none) (hx : x.length ≤ 1000) (hr : r.length ≤ 100) (S : SubSpec c.toArray x r G)
    (hR : ∀ t' h' tk', (∀ b o, s₀.heap.get? b = some o → h'.get? b = some o) → R (.ok (.ret (.str ⟨(G 0).toArray⟩ t'))) { s₀ with heap := h', toks := tk' }) :
    ∀ (fuel start : Nat) (tk : Nat) (h : Heap) (ep : Nat) (ps : List (PySem.Str × Tok)) (must : Bool) (k : Int), x.length - start < fuel → start ≤ x.length → (∀ b o, s₀.heap.get? b = some o → h.get? b = some o) →
      h.get? l = some { cls := .type "list", data := .seq (strValues ps).toArray ep } → ps.length ≤ 2 * start → (∀ p ∈ ps, p.1.length ≤ 1000) → codes ps ++ G start = G 0 →
      codeAny (model prog w) A (.builtin "re.Pattern.sub.loop" ⟨[.ref a, .str x t, .str r tr, rawInt 0, rawInt 0, rawInt k, rawInt start, rawInt start, .bool must, .ref l, .bool false], []⟩) R { s₀ with heap := h, toks := tk } := by
  intro fuel
  induction fuel with
  | zero => intro start tk h ep ps must k h1; omega
  | succ fuel ih =>
    intro start tk h ep ps must k h1 h2 hk hls hpl hps hG
    have e24 : (2 : Nat) ^ 24 = 16777216 := by decide
    refine codeAny_builtin entry_loop ?_
    rw [Around.under_plainId plain_loop]
    unfold Builtin.«re.Pattern.sub.loop»
    simp only [rawInt]
    refine wpAny_bind (target_ok (hk _ _ hp) (hk _ _ hc) ?_)
    simp only [Int.toNat_natCast]
    refine wpAny_bind ?_
    unfold reLiteralCannotBeTurned
    refine wpAny_bind (wpAny_pure ?_)
    refine wpAny_pure ?_
    refine wpAny_bind ?_
    rw [if_neg (by simp)]
    unfold reNextFound
    dsimp only
    rcases S start must h2 with ⟨p, e, q1, q2, q3, q4, q5⟩ | ⟨q4, q5⟩
    · refine toEnd_found q4 (by decide) fun m' e1 e2 => ?_
      dsimp only
      rw [e1, e2]
      have hrz : ∀ (ps' : List (PySem.Str × Tok)) (h' : Heap) (ep' : Nat) (tk' : Nat), (∀ b o, s₀.heap.get? b = some o → h'.get? b = some o) → h'.get? l = some { cls := .type "list", data := .seq (strValues ps').toArray ep' } →
          ps'.length ≤ 2 * start + 1 → (∀ p ∈ ps', p.1.length ≤ 1000) → codes ps' ++ r.cps.toList ++ G e = G 0 →
          wpAny (model prog w) A.in1 (do
            updateSeq l fun x => x.push (.str r tr)
            again (Code.builtin "re.Pattern.sub.loop" { pos := [Value.ref a, Value.str x t, Value.str r tr, Value.int 0 0, Value.int 0 0, Value.int (k + 1) 0, Value.int (e : Int) 0, Value.int (e : Int) 0, Value.bool (e == p), Value.ref l, Value.bool false] }))
            (fun fin s' => match fin with | .done f => R (.ok f) s' | .again c' => c'.quiet = true ∧ codeAny (model prog w) A c' R s') (fun e s' => R (.error e) s') { s₀ with heap := h', toks := tk' } := by
        intro ps' h' ep' tk' hk' hl' hn' hb' hg'
        refine wpAny_bind (wpAny_updateSeq hl' rfl ?_ ?_ ?_)
        · refine wpAny_pure ⟨plainId_quiet plain_loop _, ?_⟩
          have hupd : (h'.update l (Obj.mapSeq fun x => x.push (.str r tr))).get? l = some { cls := .type "list", data := .seq (strValues (ps' ++ [(r, tr)])).toArray (ep' + 1) } := by
            rw [Heap.get?_update_self _ hl' rfl]
            simp [Obj.mapSeq, strValues]
          exact ih e tk' _ _ (ps' ++ [(r, tr)]) (e == p) (k + 1) (by omega) q3 (fun b o hb => by
            rw [Heap.get?_update_ne _ _ _ _ (fun z => by rw [z, hl] at hb; cases hb)]; exact hk' b o hb) hupd (by rw [List.length_append]; simp; omega)
            (fun p hp => by
              rcases List.mem_append.mp hp with h | h
              · exact hb' p h
              · rw [List.mem_singleton.mp h]; exact Nat.le_trans hr (by decide)) (by
              rw [← hg']; simp [codes])
        · show (strValues ps').toArray.size ≤ sizeLine
          unfold sizeLine; simp [strValues]; omega
        · show ((strValues ps').toArray.push _).size ≤ sizeLine + 1
          unfold sizeLine; simp [strValues]; omega
      by_cases hsp : start < p
      · rw [if_pos hsp]
        refine wpAny_bind (slice_ok (by show x.length ≤ _; omega) ?_)
        refine wpAny_bind (wpAny_updateSeq hls rfl ?_ ?_ ?_)
        · rw [if_pos (by rfl)]
          refine wpAny_bind (wpAny_pure ?_)
          rw [if_pos (by rfl)]
          refine hrz (ps ++ [(⟨x.cps.extract start p⟩, tk)]) _ (ep + 1) (tk + 1) (fun b o hb => ?_) ?_ ?_ ?_ ?_
          · show (h.update l _).get? b = _
            rw [Heap.get?_update_ne _ _ _ _ (fun z => by rw [z, hl] at hb; cases hb)]; exact hk b o hb
          · show (h.update l _).get? l = _
            rw [Heap.get?_update_self _ hls rfl]
            simp [Obj.mapSeq, strValues]
          · rw [List.length_append]; simp; omega
          · intro p' hp'
            rcases List.mem_append.mp hp' with h | h
            · exact hps p' h
            · rw [List.mem_singleton.mp h]
              show (x.cps.extract start p).size ≤ 1000
              rw [Array.size_extract]
              have : x.cps.size = x.length := rfl
              omega
          · rw [← hG, q5]; simp [codes]
        · show (strValues ps).toArray.size ≤ sizeLine
          unfold sizeLine; simp [strValues]; omega
        · show ((strValues ps).toArray.push _).size ≤ sizeLine + 1
          unfold sizeLine; simp [strValues]; omega
      · rw [if_neg hsp]
        rw [if_pos (by rfl)]
        refine wpAny_bind (wpAny_pure ?_)
        rw [if_pos (by rfl)]
        refine hrz ps h ep tk hk hls (by omega) hps ?_
        rw [← hG, q5]
        have : x.cps.extract start p = #[] := Array.eq_empty_of_size_eq_zero (by rw [Array.size_extract]; omega)
        rw [this]; simp
    · refine toEnd_not q4 (by decide) ?_
      dsimp only
      have fin : ∀ (ps' : List (PySem.Str × Tok)) (h' : Heap) (ep' : Nat) (tk' : Nat), (∀ b o, s₀.heap.get? b = some o → h'.get? b = some o) → h'.get? l = some { cls := .type "list", data := .seq (strValues ps').toArray ep' } →
          ps'.length ≤ 2 * start + 1 → (∀ p ∈ ps', p.1.length ≤ 1000) → codes ps' = G 0 →
          wpAny (model prog w) A.in1 (do
            let joiner ← reSlice x.cps 0 0 0
            let __do_lift ← seqItems? (Value.ref l)
            let text ← if (__do_lift.getD #[]).isEmpty = true then pure joiner else call (Value.builtin (if (0 == 0) = true then "str.join" else "bytes.join")) [joiner, Value.ref l]
            if false = true then do
              let __do_lift ← holding [text] (do let __do_lift ← mkInt k; newTuple [text, __do_lift])
              ret __do_lift
            else ret text)
            (fun fin s' => match fin with | .done f => R (.ok f) s' | .again c' => c'.quiet = true ∧ codeAny (model prog w) A c' R s') (fun e s' => R (.error e) s') { s₀ with heap := h', toks := tk' } := by
        intro ps' h' ep' tk' hk' hl' hn' hb' hg'
        refine wpAny_bind (slice_ok (by show x.length ≤ _; omega) ?_)
        refine wpAny_bind (wpAny_seqItems hl' rfl ?_)
        simp only [Option.getD_some]
        split
        · rename_i hz
          refine wpAny_bind (wpAny_pure ?_)
          rw [if_neg (by simp)]
          refine wpAny_pure ?_
          have hz' : ps' = [] := by
            simpa [strValues] using hz
          have e0 : (⟨x.cps.extract 0 0⟩ : PySem.Str) = ⟨(G 0).toArray⟩ := by
            rw [← hg', hz']; simp [codes]
          rw [e0]
          exact hR _ _ _ hk'
        · rw [if_pos (by rfl)]
          refine wpAny_bind ?_
          refine SC.join (l := ps') (texts := ps'.map (·.1)) ⟨_, hl', rfl, _, rfl⟩ rfl ?_ fun t' k' => ?_
          · unfold JoinOk
            rw [StrLaws.joinFits (B := 1000) ?_ ?_]
            · rfl
            · intro y hy
              obtain ⟨p, hp, rfl⟩ := List.mem_map.mp hy
              exact hb' p hp
            · have e1 : (ps'.map (·.1)).length = ps'.length := by simp
              have e2 : (⟨x.cps.extract 0 0⟩ : PySem.Str).length = 0 := by show (x.cps.extract 0 0).size = 0; simp
              rw [e1, e2]
              omega
          · rw [if_neg (by simp)]
            refine wpAny_pure ?_
            have e0 : Txt.join (⟨x.cps.extract 0 0⟩ : PySem.Str) (ps'.map (·.1)) = ⟨(G 0).toArray⟩ := by
              have e1 : (⟨x.cps.extract 0 0⟩ : PySem.Str) = ⟨#[]⟩ := by simp
              unfold Txt.join
              rw [e1, ← hg']
              have := glued_codes (ps'.map (·.1))
              have e2 : (Builtin.Str.glued ⟨#[]⟩ (ps'.map (·.1))) = ⟨((Builtin.Str.glued ⟨#[]⟩ (ps'.map (·.1))).cps.toList).toArray⟩ := by simp
              rw [e2, this]
              simp [codes, List.flatMap_map]
            rw [e0]
            exact hR _ _ _ hk'
      by_cases hsp : start < x.cps.size
      · rw [if_pos hsp]
        refine wpAny_bind (slice_ok (by show x.length ≤ _; omega) ?_)
        refine wpAny_bind (wpAny_updateSeq hls rfl ?_ ?_ ?_)
        · refine fin (ps ++ [(⟨x.cps.extract start x.cps.size⟩, tk)]) _ (ep + 1) (tk + 1) (fun b o hb => ?_) ?_ ?_ ?_ ?_
          · show (h.update l _).get? b = _
            rw [Heap.get?_update_ne _ _ _ _ (fun z => by rw [z, hl] at hb; cases hb)]; exact hk b o hb
          · show (h.update l _).get? l = _
            rw [Heap.get?_update_self _ hls rfl]
            simp [Obj.mapSeq, strValues]
          · rw [List.length_append]; simp; omega
          · intro p' hp'
            rcases List.mem_append.mp hp' with h | h
            · exact hps p' h
            · rw [List.mem_singleton.mp h]
              show (x.cps.extract start x.cps.size).size ≤ 1000
              rw [Array.size_extract]
              have : x.cps.size = x.length := rfl
              omega
          · rw [← hG, q5]; simp [codes]; show x.cps.size - start = Min.min (x.cps.size - start) (x.cps.size - start); omega
        · show (strValues ps).toArray.size ≤ sizeLine
          unfold sizeLine; simp [strValues]; omega
        · show ((strValues ps).toArray.push _).size ≤ sizeLine + 1
          unfold sizeLine; simp [strValues]; omega
      · rw [if_neg hsp]
        refine fin ps h ep tk hk hls (by omega) hps ?_
        rw [← hG, q5]
        have : x.cps.extract start x.length = #[] := Array.eq_empty_of_size_eq_zero (by
            rw [Array.size_extract]
            have : x.cps.size = x.length := rfl
            omega)
        rw [this]; simp
end
end Mine
end
section
open PySem PySem.W PyProof.Rows PySem.Builtin PySem.Builtin.Re
set_option maxRecDepth 100000
namespace Mine
theorem named_sub (a b : Value) : reNamed "re.Pattern.sub" "sub" ["repl", "string", "count"] 2 [a, b] [] = pure [some a, some b, none] := by rfl
section
variable {prog : Program} {w : World} {A : Around} {E : Value → Shared → Prop} {s : Shared} {a ca : Addr} {v0 v1 v3 v4 : Value} {t2 t6 : Tok} {c : List Nat} {x r : PySem.Str} {t tr : Tok} {G : Nat → List Nat} {Q : Value → Shared → Prop}
theorem sub_call (hp : s.heap.get? a = some (patObj v0 v1 v3 v4 t2 t6 ca)) (hc : s.heap.get? ca = some (codeObj c)) (hx : x.length ≤ 1000) (hr : r.length ≤ 100) (h92 : r.cps.contains 92 = false) (S : SubSpec c.toArray x r G)
    (hq : ∀ t' h' tk', (∀ b o, s.heap.get? b = some o → h'.get? b = some o) → Q (.str ⟨(G 0).toArray⟩ t') { s with heap := h', toks := tk' }) :
    wpAny (model prog w) A (call (.builtin "re.Pattern.sub") [.ref a, .str r tr, .str x t]) Q E s := by
  have hT : s.TypeIs (.ref a) "re.Pattern" := ⟨_, hp, rfl⟩
  refine wpAny_call (codeAny_call_builtin slot_sub.plain entry_sub (slot_sub.check _ _ _ _ _ _ _ _ hT (args_sub _ _ _) ?_))
  unfold Builtin.«re.Pattern.sub» reSubstitute
  simp only [named_sub]
  refine wpAny_bind (wpAny_pure ?_)
  refine wpAny_bind (wpAny_pure ?_)
  refine wpAny_bind (wpAny_specialOf (typeIs_str _ _ _) nocall_str ?_)
  simp only [Option.isSome, Bool.false_eq_true, if_false]
  refine wpAny_bind (wpAny_pure ?_)
  refine wpAny_bind (wpAny_pure ?_)
  rw [h92]
  simp only [Bool.not_false, if_true]
  refine wpAny_bind (wpAny_pure ?_)
  refine wpAny_bind (wpAny_holding (target_ok hp hc ?_))
  simp only [show ((0 : Int) == 1) = false from rfl, Bool.false_eq_true, if_false]
  refine wpAny_bind (wpAny_newList ?_)
  refine wpAny_pure ⟨plainId_quiet plain_loop _, ?_⟩
  have hl : s.heap.get? s.heap.objs.size = none := by
    cases q : s.heap.get? s.heap.objs.size with
    | none => rfl
    | some o => exact absurd (Heap.lt_size q) (Nat.lt_irrefl _)
  exact loop_ok (s₀ := s) (l := s.heap.objs.size) (G := G) hp hc hl hx hr S (fun t' h' tk' hk => hq t' h' tk' hk) (x.length + 1) 0 s.toks _ 0 [] false 0 (by omega) (Nat.zero_le _)
    (fun b o hb => Heap.get?_push_of_some _ hb) (Heap.get?_push_size _ rfl) (Nat.zero_le _) (fun p hp => nomatch hp) (by simp [codes])
end
end Mine
end
section
open PySem
namespace Mine
/-- a dot is doubled where a row begins -/
noncomputable def dotL : Bool → List Nat → List Nat
  | _, [] => []
  | b, c :: r => (if b && c == 46 then [46, 46] else [c]) ++ dotL (c == 10) r
/-- each row's end is a return and a feed -/
noncomputable def fixL : List Nat → List Nat
  | [] => []
  | 13 :: 10 :: r => 13 :: 10 :: fixL r
  | c :: r => (if c == 10 || c == 13 then [13, 10] else [c]) ++ fixL r
theorem dotL_cons (b : Bool) (c : Nat) (r : List Nat) : dotL b (c :: r) = (if b && c == 46 then [46, 46] else [c]) ++ dotL (c == 10) r := rfl
theorem fixL_other {c : Nat} {r : List Nat} (h : c = 13 → ∀ r', r ≠ 10 :: r') : fixL (c :: r) = (if c == 10 || c == 13 then [13, 10] else [c]) ++ fixL r := by
  rw [fixL]
  intro r' e1 e2
  exact h e1 r' e2
noncomputable def bolB (T : Array Nat) (s : Nat) : Bool := s == 0 || T.getD (s - 1) 0 == 10
theorem drop_step {T : Array Nat} {s : Nat} (h : s < T.size) : T.toList.drop s = T.getD s 0 :: T.toList.drop (s + 1) := by
  rw [List.drop_eq_getElem_cons (by simpa using h)]
  simp [Array.getD, h]
theorem extract_step {T : Array Nat} {s p : Nat} (h : s < p) (hp : p ≤ T.size) : (T.extract s p).toList = T.getD s 0 :: (T.extract (s + 1) p).toList := by
  simp only [Array.toList_extract, List.extract_eq_take_drop]
  rw [drop_step (by omega)]
  rw [show p - s = (p - (s + 1)) + 1 by omega, List.take_succ_cons]
theorem extract_none {T : Array Nat} {s p : Nat} (h : p ≤ s) : (T.extract s p).toList = [] := by
  have : T.extract s p = #[] := Array.eq_empty_of_size_eq_zero (by rw [Array.size_extract]; omega)
  rw [this]
theorem bolB_succ (T : Array Nat) (s : Nat) : bolB T (s + 1) = (T.getD s 0 == 10) := by
  unfold bolB
  simp
theorem dotL_upto {T : Array Nat} : ∀ (k s : Nat), s + k ≤ T.size → (∀ q, s ≤ q → q < s + k → ¬ dotAt T q) →
    dotL (bolB T s) (T.toList.drop s) = (T.extract s (s + k)).toList ++ dotL (bolB T (s + k)) (T.toList.drop (s + k)) := by
  intro k
  induction k with
  | zero => intro s _ _; rw [extract_none (by omega)]; rfl
  | succ k ih =>
    intro s h hn
    rw [extract_step (by omega) h, drop_step (by omega)]
    have h1 : ¬ dotAt T s := hn s (Nat.le_refl _) (by omega)
    have h2 : (bolB T s && T.getD s 0 == 46) = false := by
      unfold dotAt at h1
      unfold bolB
      rw [Bool.eq_false_iff]
      intro e
      apply h1
      simpa using e
    rw [dotL_cons, h2]
    have := ih (s + 1) (by omega) (fun q h1 h2 => hn q (by omega) (by omega))
    rw [bolB_succ, show s + 1 + k = s + (k + 1) by omega] at this
    simp only [Bool.false_eq_true, if_false, List.cons_append, List.nil_append]
    rw [this]
theorem spec1 {x : PySem.Str} (hx : x.length ≤ 1000) : SubSpec C1 x ⟨#[46, 46]⟩ (fun s => dotL (bolB x.cps s) (x.cps.toList.drop s)) := by
  intro s must hs
  have hn : x.cps.size = x.length := rfl
  rcases search1 (T := x.cps) (must := must) hs with ⟨p, h1, h2, h3, h4, h5⟩ | ⟨h4, h5⟩
  · left
    refine ⟨p, p + 1, h1, by omega, by omega, h5.mono (by omega), ?_⟩
    have e := dotL_upto (T := x.cps) (p - s) s (by omega) (fun q q1 q2 => h4 q q1 (by omega))
    rw [show s + (p - s) = p by omega] at e
    dsimp only
    rw [e, drop_step (T := x.cps) (s := p) (by omega), h3.2]
    have hb : bolB x.cps p = true := by
      unfold bolB
      simpa using h3.1
    rw [hb, bolB_succ, h3.2, dotL_cons, List.append_assoc]
    rfl
  · right
    refine ⟨h5.mono (by omega), ?_⟩
    have e := dotL_upto (T := x.cps) (x.length - s) s (by omega) (fun q q1 q2 => h4 q q1 (by omega))
    rw [show s + (x.length - s) = x.length by omega] at e
    dsimp only
    rw [e]
    have : x.cps.toList.drop x.length = [] := List.drop_eq_nil_of_le (by simp [hn])
    rw [this]
    simp [dotL]
theorem fixL_cons {c : Nat} {r : List Nat} (h10 : c ≠ 10) (h13 : c ≠ 13) : fixL (c :: r) = c :: fixL r := by
  rw [fixL_other (fun e => absurd e h13)]
  have e1 : (c == 10) = false := by simpa using h10
  have e2 : (c == 13) = false := by simpa using h13
  rw [e1, e2]
  rfl
theorem fixL_upto {T : Array Nat} : ∀ (k s : Nat), s + k ≤ T.size → (∀ q, s ≤ q → q < s + k → ¬ endAt T q) →
    fixL (T.toList.drop s) = (T.extract s (s + k)).toList ++ fixL (T.toList.drop (s + k)) := by
  intro k
  induction k with
  | zero => intro s _ _; rw [extract_none (by omega)]; rfl
  | succ k ih =>
    intro s h hn
    rw [extract_step (by omega) h, drop_step (by omega)]
    have h1 : ¬ endAt T s := hn s (Nat.le_refl _) (by omega)
    rw [fixL_cons (fun e => h1 (.inl e)) (fun e => h1 (.inr e))]
    have := ih (s + 1) (by omega) (fun q h1 h2 => hn q (by omega) (by omega))
    rw [show s + 1 + k = s + (k + 1) by omega] at this
    rw [this]
    rfl
theorem spec2 {x : PySem.Str} (_hx : x.length ≤ 1000) : SubSpec C2 x ⟨#[13, 10]⟩ (fun s => fixL (x.cps.toList.drop s)) := by
  intro s must hs
  have hn : x.cps.size = x.length := rfl
  rcases search2 (T := x.cps) (must := must) hs with ⟨p, h1, h2, h3, h4, h5⟩ | ⟨h4, h5⟩
  · left
    have hel : endLen x.cps x.length p = 1 ∨ endLen x.cps x.length p = 2 := by unfold endLen; split <;> omega
    have hel2 : p + endLen x.cps x.length p ≤ x.length := by unfold endLen; split <;> omega
    refine ⟨p, p + endLen x.cps x.length p, h1, by omega, hel2, h5.mono (by omega), ?_⟩
    have e := fixL_upto (T := x.cps) (p - s) s (by omega) (fun q q1 q2 => h4 q q1 (by omega))
    rw [show s + (p - s) = p by omega] at e
    dsimp only
    rw [e, List.append_assoc]
    congr 1
    rw [drop_step (T := x.cps) (s := p) (by omega)]
    unfold endLen
    by_cases h : x.cps.getD p 0 = 13 ∧ p + 1 < x.length ∧ x.cps.getD (p + 1) 0 = 10
    · rw [if_pos h, h.1, drop_step (T := x.cps) (s := p + 1) (by omega), h.2.2]
      rfl
    · rw [if_neg h]
      have key : ∀ (c : Nat) (r : List Nat), (c = 10 ∨ c = 13) → (c = 13 → ∀ r', r ≠ 10 :: r') → fixL (c :: r) = [13, 10] ++ fixL r := by
        intro c r hc hr
        rw [fixL_other hr]
        rcases hc with rfl | rfl <;> rfl
      rw [key _ _ h3 (fun h13 r' e => ?_)]
      have hlt : p + 1 < x.length := by
        by_cases hlt : p + 1 < x.length
        · exact hlt
        · rw [List.drop_eq_nil_of_le (by simp; omega)] at e; cases e
      rw [drop_step (T := x.cps) (s := p + 1) (by omega)] at e
      exact h ⟨h13, hlt, by injection e⟩
  · right
    refine ⟨h5.mono (by omega), ?_⟩
    have e := fixL_upto (T := x.cps) (x.length - s) s (by omega) (fun q q1 q2 => h4 q q1 (by omega))
    rw [show s + (x.length - s) = x.length by omega] at e
    dsimp only
    rw [e]
    have : x.cps.toList.drop x.length = [] := List.drop_eq_nil_of_le (by simp [hn])
    rw [this]
    simp [fixL]
end Mine
end
section
open PySem PySem.W PyProof.Rows
set_option maxRecDepth 100000
namespace Mine
theorem fr_keeps {h₀ h h' : Heap} {L : Addr} {m : PySem.Str → Option Value} (F : Fr h₀ L h m) (k : ∀ b o, h.get? b = some o → h'.get? b = some o) : Fr h₀ L h' m := by
  obtain ⟨oL, es, ep, hL, r⟩ := F.ns
  exact ⟨⟨oL, es, ep, k _ _ hL, r⟩, fun b o e => k b o (F.keep b o e), F.above⟩
theorem news_keeps {h₀ h h' : Heap} {L : Addr} {news : List (Addr × Obj)} (N : News h₀ L h news) (k : ∀ b o, h.get? b = some o → h'.get? b = some o) : News h₀ L h' news :=
  fun p hp => ⟨k _ _ (N p hp).1, (N p hp).2⟩
section
variable {prog : Program} {w : World} {A : Around} {E : Value → Shared → Prop} {s : Shared} {K : Frag} {L : Addr} {h₀ : Heap} {m : PySem.Str → Option Value} {news : List (Addr × Obj)}
  {a ca : Addr} {v0 v1 v3 v4 : Value} {t2 t6 : Tok} {x : PySem.Str} {t tr : Tok} {oc : Obj}
theorem pat_method {pl : Sem Bool} {Q : Value × List Value → Shared → Prop} (F : Fr h₀ L s.heap m) (X : K.In h₀) (hl : K.lookup a = some (patObj v0 v1 v3 v4 t2 t6 ca)) (h : Q (.builtin "re.Pattern.sub", [.ref a]) s) :
    wpAny (model prog w) A (getMethod (.ref a) (PySem.Str.ofString "sub") pl) Q E s :=
  getMethod_builtin ⟨_, F.keep _ _ (X _ _ hl), rfl⟩ plainAttrs_pat slot_sub type_sub (fun b e => by cases e; exact ⟨_, F.keep _ _ (X _ _ hl), rfl⟩) h
theorem pat_sub1 {Q : Value → Shared → Prop} (F : Fr h₀ L s.heap m) (X : K.In h₀) (N : News h₀ L s.heap news) (hl : K.lookup a = some (patObj v0 v1 v3 v4 t2 t6 ca)) (hc : K.lookup ca = some oc) (e : oc = codeObj C1.toList) (hx : x.length ≤ 1000)
    (h : ∀ t' h' tk', Fr h₀ L h' m → News h₀ L h' news → Q (.str ⟨(dotL true x.cps.toList).toArray⟩ t') { s with heap := h', toks := tk' }) :
    wpAny (model prog w) A (call (.builtin "re.Pattern.sub") [.ref a, .str (PySem.Str.ofString "..") tr, .str x t]) Q E s := by
  have er : PySem.Str.ofString ".." = ⟨#[46, 46]⟩ := by decide +kernel
  rw [er]
  subst e
  refine sub_call (F.keep _ _ (X _ _ hl)) (F.keep _ _ (X _ _ hc)) hx (by decide) (by decide +kernel) (spec1 hx) fun t' h' tk' k => ?_
  exact h t' h' tk' (fr_keeps F k) (news_keeps N k)
theorem pat_sub2 {Q : Value → Shared → Prop} (F : Fr h₀ L s.heap m) (X : K.In h₀) (N : News h₀ L s.heap news) (hl : K.lookup a = some (patObj v0 v1 v3 v4 t2 t6 ca)) (hc : K.lookup ca = some oc) (e : oc = codeObj C2.toList) (hx : x.length ≤ 1000)
    (h : ∀ t' h' tk', Fr h₀ L h' m → News h₀ L h' news → Q (.str ⟨(fixL x.cps.toList).toArray⟩ t') { s with heap := h', toks := tk' }) :
    wpAny (model prog w) A (call (.builtin "re.Pattern.sub") [.ref a, .str (PySem.Str.ofString "\r\n") tr, .str x t]) Q E s := by
  have er : PySem.Str.ofString "\r\n" = ⟨#[13, 10]⟩ := by decide +kernel
  rw [er]
  subst e
  refine sub_call (F.keep _ _ (X _ _ hl)) (F.keep _ _ (X _ _ hc)) hx (by decide) (by decide +kernel) (spec2 hx) fun t' h' tk' k => ?_
  exact h t' h' tk' (fr_keeps F k) (news_keeps N k)
end
theorem dotL_le : ∀ (b : Bool) (l : List Nat), (dotL b l).length ≤ 2 * l.length
  | _, [] => by simp [dotL]
  | b, c :: r => by
    rw [dotL_cons, List.length_append]
    have := dotL_le (c == 10) r
    split <;> simp <;> omega
theorem fixL_le : ∀ (n : Nat) (l : List Nat), l.length ≤ n → (fixL l).length ≤ 2 * l.length := by
  intro n
  induction n with
  | zero => intro l h; cases l with
    | nil => simp [fixL]
    | cons c r => simp at h
  | succ n ih =>
    intro l h
    match l with
    | [] => simp [fixL]
    | c :: r =>
      by_cases hc : ∃ r', c = 13 ∧ r = 10 :: r'
      · obtain ⟨r', rfl, rfl⟩ := hc
        have := ih r' (by simp at h; omega)
        show (13 :: 10 :: fixL r').length ≤ _
        simp; omega
      · rw [fixL_other (fun e r' e' => hc ⟨r', e, e'⟩), List.length_append]
        have := ih r (by simp at h; omega)
        split <;> simp <;> omega
/-- a def's word: what a call of it gives back; nothing that stood before is turned -/
noncomputable def Spec (prog : Program) (w : World) (K : Frag) (p : Program) (loose : List PySem.Str) (mean : ExcName → Option Value) (mg mb : PySem.Str → Option Value) (f : Addr) (d : Nat) (news : List (Addr × Obj)) (args : List Value) (R : Tok → Value) : Prop :=
  ∀ (dp un : Nat) (gd : Option (List Code)) (cn : PySem.Str) (cs : Scope) (a : Addr) (ccd : Value) (cl : List (PySem.Str × Addr)) (outer : List Env) (A₀ : Around) (base h₀ : Heap) (L : Addr) (m : PySem.Str → Option Value) (s : Shared) (Q E : Value → Shared → Prop),
    Below A₀ base outer h₀ → Fr h₀ L s.heap m → K.In h₀ → News h₀ L s.heap news → Top p loose mean mg mb h₀ → cs.kind = .function → dp + d < recursionLimit → un + 8 * d < cLine →
    (∀ (t : Tok) (h' : Heap) (tk' : Nat), 0 < tk' → Fr h₀ L h' m → News h₀ L h' news → Q (R t) { s with heap := h', toks := tk' }) →
      wpAny (model prog w) (ktrTop dp un gd cn cs L a ccd cl outer) (call (.ref f) args) Q E s
theorem Spec.use {prog : Program} {w : World} {K : Frag} {p : Program} {loose : List PySem.Str} {mean : ExcName → Option Value} {mg mb : PySem.Str → Option Value} {f : Addr} {d : Nat} {news : List (Addr × Obj)} {args : List Value} {R : Tok → Value}
    {dp un : Nat} {gd : Option (List Code)} {cn : PySem.Str} {cs : Scope} {a : Addr} {ccd : Value} {cl : List (PySem.Str × Addr)} {outer : List Env} {A₀ : Around} {base h₀ : Heap} {L : Addr} {m : PySem.Str → Option Value} {s : Shared} {Q E : Value → Shared → Prop}
    (S : Spec prog w K p loose mean mg mb f d news args R) (B : Below A₀ base outer h₀) (F : Fr h₀ L s.heap m) (X : K.In h₀) (N : News h₀ L s.heap news) (T : Top p loose mean mg mb h₀) (hk : cs.kind = .function) (hd : dp + d < recursionLimit) (hu : un + 8 * d < cLine)
    (hq : ∀ (t : Tok) (h' : Heap) (tk' : Nat), 0 < tk' → Fr h₀ L h' m → News h₀ L h' news → Q (R t) { s with heap := h', toks := tk' }) :
    wpAny (model prog w) (ktrTop dp un gd cn cs L a ccd cl outer) (call (.ref f) args) Q E s := S dp un gd cn cs a ccd cl outer A₀ base h₀ L m s Q E B F X N T hk hd hu hq
/-- as Spec, where what comes back is a new object -/
noncomputable def SpecO (prog : Program) (w : World) (K : Frag) (p : Program) (loose : List PySem.Str) (mean : ExcName → Option Value) (mg mb : PySem.Str → Option Value) (f : Addr) (d : Nat) (news : List (Addr × Obj)) (args : List Value) (O : Obj → Prop) : Prop :=
  ∀ (dp un : Nat) (gd : Option (List Code)) (cn : PySem.Str) (cs : Scope) (a : Addr) (ccd : Value) (cl : List (PySem.Str × Addr)) (outer : List Env) (A₀ : Around) (base h₀ : Heap) (L : Addr) (m : PySem.Str → Option Value) (s : Shared) (Q E : Value → Shared → Prop),
    Below A₀ base outer h₀ → Fr h₀ L s.heap m → K.In h₀ → News h₀ L s.heap news → Top p loose mean mg mb h₀ → cs.kind = .function → dp + d < recursionLimit → un + 8 * d < cLine → 0 < s.toks →
    (∀ (q : Addr) (o : Obj) (h' : Heap) (tk' : Nat), O o → 0 < tk' → Fr h₀ L h' m → News h₀ L h' ((q, o) :: news) → AllLt q news → Q (.ref q) { s with heap := h', toks := tk' }) →
      wpAny (model prog w) (ktrTop dp un gd cn cs L a ccd cl outer) (call (.ref f) args) Q E s
theorem SpecO.use {prog : Program} {w : World} {K : Frag} {p : Program} {loose : List PySem.Str} {mean : ExcName → Option Value} {mg mb : PySem.Str → Option Value} {f : Addr} {d : Nat} {news : List (Addr × Obj)} {args : List Value} {O : Obj → Prop}
    {dp un : Nat} {gd : Option (List Code)} {cn : PySem.Str} {cs : Scope} {a : Addr} {ccd : Value} {cl : List (PySem.Str × Addr)} {outer : List Env} {A₀ : Around} {base h₀ : Heap} {L : Addr} {m : PySem.Str → Option Value} {s : Shared} {Q E : Value → Shared → Prop}
    (S : SpecO prog w K p loose mean mg mb f d news args O) (B : Below A₀ base outer h₀) (F : Fr h₀ L s.heap m) (X : K.In h₀) (N : News h₀ L s.heap news) (T : Top p loose mean mg mb h₀) (hk : cs.kind = .function) (hd : dp + d < recursionLimit) (hu : un + 8 * d < cLine) (ht : 0 < s.toks)
    (hq : ∀ (q : Addr) (o : Obj) (h' : Heap) (tk' : Nat), O o → 0 < tk' → Fr h₀ L h' m → News h₀ L h' ((q, o) :: news) → AllLt q news → Q (.ref q) { s with heap := h', toks := tk' }) :
    wpAny (model prog w) (ktrTop dp un gd cn cs L a ccd cl outer) (call (.ref f) args) Q E s := S dp un gd cn cs a ccd cl outer A₀ base h₀ L m s Q E B F X N T hk hd hu ht hq
noncomputable abbrev tup3 (a b : PySem.Str) (k : Int) (t1 t2 t3 : Tok) : Obj := { cls := .type "tuple", data := .seq #[.str a t1, .str b t2, .int k t3] }
end Mine
end
section
open PySem PySem.W PyProof.Rows
set_option Elab.async false
namespace Mine
variable {w : World} {mg mb : PySem.Str → Option Value} {mean : ExcName → Option Value}
set_option maxRecDepth 100000 in
set_option maxHeartbeats 8000000 in
theorem fix_spec (x : PySem.Str) (t : Tok) (hx : x.length ≤ 400) (news) : Spec PySem.Challenge.rw_sn0027_01.row.prog w (Mine.hd.heap_39 w.params) Mine.hd.view_39 loose mean mg mb 160 1 news [.str x t] (fun t' => .str ⟨(fixL x.cps.toList).toArray⟩ t') := by
  k_fill
  k_with_none
  k_with "getMethod ref" => (k_here; (with_reducible show wpAny _ _ (getMethod (Value.ref _) (PySem.Str.ofString "sub") _) _ _ _); k_dflt (refine' pat_method (by k_asm) (by k_asm) (by k_is) ?_; ))
  k_with "call builtin:re.Pattern.sub" => (k_here; k_dflt (first
      | (refine' pat_sub1 (by k_asm) (by k_asm) (by k_asm) (by k_is) (by k_is) (by rfl) (by l_fact) ?_; k_whole; intro t' h' tk' F' N')
      | (refine' pat_sub2 (by k_asm) (by k_asm) (by k_asm) (by k_is) (by k_is) (by rfl) (by l_fact) ?_; k_whole; intro t' h' tk' F' N')))
  unfold Spec
  intro dp un gd cn cs a ccd cl outer A₀ base h₀ L m s Q E B F X N T hk hd hu hret
  refine wpAny_call ?_
  k_dflt cell_enter
  refine wpAny_toksQ 1 (Nat.le_add_left _ _) ?_
  k_fold
  k_steps
  exact hret _ _ _ (by assumption) (by assumption) (by assumption)
set_option maxRecDepth 100000 in
set_option maxHeartbeats 8000000 in
theorem quote_spec (x : PySem.Str) (t : Tok) (hx : x.length ≤ 400) (news) : Spec PySem.Challenge.rw_sn0027_01.row.prog w (Mine.hd.heap_39 w.params) Mine.hd.view_39 loose mean mg mb 153 1 news [.str x t] (fun t' => .str ⟨(dotL true (fixL x.cps.toList)).toArray⟩ t') := by
  k_fill
  k_with_none
  k_with "getMethod ref" => (k_here; (with_reducible show wpAny _ _ (getMethod (Value.ref _) (PySem.Str.ofString "sub") _) _ _ _); k_dflt (refine' pat_method (by k_asm) (by k_asm) (by k_is) ?_; ))
  k_with "call builtin:re.Pattern.sub" => (k_here; k_dflt (first
      | (refine' pat_sub1 (by k_asm) (by k_asm) (by k_asm) (by k_is) (by k_is) (by rfl) (by l_fact) ?_; k_whole; intro t' h' tk' F' N')
      | (refine' pat_sub2 (by k_asm) (by k_asm) (by k_asm) (by k_is) (by k_is) (by rfl) (by l_fact) ?_; k_whole; intro t' h' tk' F' N')))
  unfold Spec
  intro dp un gd cn cs a ccd cl outer A₀ base h₀ L m s Q E B F X N T hk hd hu hret
  have hx2 : (⟨(fixL x.cps.toList).toArray⟩ : PySem.Str).length ≤ 800 := by
    have := fixL_le _ x.cps.toList (Nat.le_refl _)
    show (fixL x.cps.toList).toArray.size ≤ 800
    have e : x.cps.toList.length = x.length := by simp [PySem.Str.length]
    rw [List.size_toArray]; omega
  refine wpAny_call ?_
  k_dflt cell_enter
  refine wpAny_toksQ 1 (Nat.le_add_left _ _) ?_
  k_fold
  k_steps
  all_goals exact hret _ _ _ (by assumption) (by assumption) (by assumption)
end Mine
end
section
open PySem PySem.StrLaws PySem.Builtin PySem.Builtin.Str
namespace Mine
/-- a text's parts between a word's places -/
noncomputable def splitS (y : List Nat) : Nat → List Nat → List (List Nat)
  | _, [] => [[]]
  | k + 1, _ :: r => splitS y k r
  | 0, c :: r => if y.isPrefixOf (c :: r) then [] :: splitS y (y.length - 1) r else match splitS y 0 r with
    | p :: ps => (c :: p) :: ps
    | [] => [[c]]
theorem splitS_cons (y : List Nat) (c : Nat) (r : List Nat) : splitS y 0 (c :: r) = if y.isPrefixOf (c :: r) then [] :: splitS y (y.length - 1) r else match splitS y 0 r with
    | p :: ps => (c :: p) :: ps
    | [] => [[c]] := rfl
theorem splitS_ne (y : List Nat) : ∀ (l : List Nat) (k : Nat), splitS y k l ≠ []
  | [], k => by cases k <;> simp [splitS]
  | c :: r, k + 1 => by show splitS y k r ≠ []; exact splitS_ne y r k
  | c :: r, 0 => by
    unfold splitS
    split
    · simp
    · split <;> simp
theorem splitS_skip (y : List Nat) : ∀ (k : Nat) (l : List Nat), splitS y k l = splitS y 0 (l.drop k)
  | 0, l => by simp
  | k + 1, [] => by simp [splitS]
  | k + 1, c :: r => by show splitS y k r = _; rw [splitS_skip y k r]; rfl
theorem splitS_far {x y : PySem.Str} (hy : 1 ≤ y.length) : ∀ (n a : Nat), a + n ≤ x.length → (∀ k, a ≤ k → k < a + n → ¬ At x y x.length k) → ∀ p ps, splitS y.cps.toList 0 (x.cps.toList.drop (a + n)) = p :: ps →
    splitS y.cps.toList 0 (x.cps.toList.drop a) = ((x.cps.toList.drop a).take n ++ p) :: ps := by
  intro n
  induction n with
  | zero => intro a _ _ p ps h; simpa using h
  | succ n ih =>
    intro a ha hn p ps h
    have hL : x.cps.toList.length = x.length := by simp [PySem.Str.length]
    have hlt : a < x.cps.toList.length := by omega
    have ih' := ih (a + 1) (by omega) (fun k h1 h2 => hn k (by omega) (by omega)) p ps (by rw [show a + 1 + n = a + (n + 1) by omega]; exact h)
    rw [List.drop_eq_getElem_cons hlt]
    have hno : y.cps.toList.isPrefixOf (x.cps.toList[a] :: x.cps.toList.drop (a + 1)) = false := by
      rw [← List.drop_eq_getElem_cons hlt]
      rw [Bool.eq_false_iff]
      intro hp
      apply hn a (Nat.le_refl _) (by omega)
      have hp' := List.isPrefixOf_iff_prefix.mp hp
      have hyl : y.cps.toList.length = y.length := by simp [PySem.Str.length]
      refine ⟨?_, ?_⟩
      · have := hp'.length_le
        rw [List.length_drop] at this
        omega
      · rw [subAt_eq]
        have := List.prefix_iff_eq_take.mp hp'
        rw [hyl] at this
        rw [← this]
        simp
    unfold splitS
    rw [hno, ih']
    simp
theorem splitS_hit {x y : PySem.Str} (hy : 1 ≤ y.length) {a : Nat} (h : At x y x.length a) : splitS y.cps.toList 0 (x.cps.toList.drop a) = [] :: splitS y.cps.toList 0 (x.cps.toList.drop (a + y.length)) := by
  have hL : x.cps.toList.length = x.length := by simp [PySem.Str.length]
  have hyl : y.cps.toList.length = y.length := by simp [PySem.Str.length]
  have hlt : a < x.cps.toList.length := by have := h.1; omega
  have hp : y.cps.toList.isPrefixOf (x.cps.toList.drop a) = true := by
    apply List.isPrefixOf_iff_prefix.mpr
    have := h.2
    rw [subAt_eq] at this
    rw [← eq_of_beq this]
    exact List.take_prefix _ _
  rw [List.drop_eq_getElem_cons hlt] at hp ⊢
  rw [splitS_cons, hp]
  simp only [if_true]
  rw [splitS_skip, List.drop_drop, hyl, show a + 1 + (y.length - 1) = a + y.length by omega]
theorem splitS_none {x y : PySem.Str} (hy : 1 ≤ y.length) {a : Nat} (ha : a ≤ x.length) (hn : ∀ k, a ≤ k → ¬ At x y x.length k) : splitS y.cps.toList 0 (x.cps.toList.drop a) = [x.cps.toList.drop a] := by
  have hL : x.cps.toList.length = x.length := by simp [PySem.Str.length]
  rw [splitS_far hy (x.length - a) a (by omega) (fun k h1 _ => hn k h1) [] [] (by rw [List.drop_eq_nil_of_le (by omega)]; rfl)]
  rw [List.append_nil, List.take_of_length_le (by rw [List.length_drop]; omega)]
theorem parts_split {x y : PySem.Str} (hy : 1 ≤ y.length) : ∀ (cuts : List Nat) (a f : Nat), a ≤ x.length → ChainG x y x.length a cuts f → (∀ k, f ≤ k → ¬ At x y x.length k) →
    (partsFrom x y.length a cuts).map (fun p => p.cps.toList) = splitS y.cps.toList 0 (x.cps.toList.drop a) := by
  intro cuts
  induction cuts with
  | nil =>
    intro a f ha hc hn
    have e : f = a := hc
    subst e
    rw [splitS_none hy ha hn]
    show [(strSub x f x.length).cps.toList] = _
    have hL : x.cps.toList.length = x.length := by simp [PySem.Str.length]
    rw [strSub_toList, List.take_of_length_le (by rw [List.length_drop]; omega)]
  | cons c r ih =>
    intro a f ha hc hn
    obtain ⟨h1, h2, h3, h4⟩ := hc
    show (strSub x a c).cps.toList :: (partsFrom x y.length (c + y.length) r).map _ = _
    rw [ih (c + y.length) f h2.1 h4 hn]
    have h5 := splitS_hit hy h2
    have := splitS_far hy (c - a) a (by have := h2.1; omega) (fun k h6 h7 => h3 k h6 (by omega)) [] (splitS y.cps.toList 0 (x.cps.toList.drop (c + y.length))) (by rw [show a + (c - a) = c by omega]; exact h5)
    rw [this, strSub_toList, List.append_nil]
theorem occ_parts (x y : PySem.Str) (hy : 1 ≤ y.length) : (partsBetween x (occurrences x y 0 x.length (x.length + 1)) y.length).map (fun p => p.cps.toList) = splitS y.cps.toList 0 x.cps.toList := by
  obtain ⟨f, h1, h2⟩ := occ_tight x y hy
  rw [partsBetween_eq, parts_split hy _ 0 f (Nat.zero_le _) h1 h2]
  rfl
theorem occ_empty {x y : PySem.Str} (hy : 1 ≤ y.length) (h : (occurrences x y 0 x.length (x.length + 1)).isEmpty = true) : splitS y.cps.toList 0 x.cps.toList = [x.cps.toList] := by
  rw [← occ_parts x y hy, List.isEmpty_iff.mp h]
  show [(strSub x 0 x.length).cps.toList] = _
  rw [strSub_toList]
  have hL : x.cps.toList.length = x.length := by simp [PySem.Str.length]
  rw [show x.length - 0 = x.cps.toList.length by omega]
  simp only [List.drop_zero, List.take_length]
theorem strKind_pos (x : PySem.Str) : 1 ≤ PySem.Builtin.Str.strKind x := by unfold PySem.Builtin.Str.strKind; split <;> (try split) <;> omega
theorem split_eq {x y : PySem.Str} (hy : 1 ≤ y.length) (hk : PySem.Builtin.Str.strKind y = 1) : (Txt.split x y).map (fun p => p.cps.toList) = splitS y.cps.toList 0 x.cps.toList := by
  unfold Txt.split
  have h1 := strKind_pos x
  by_cases hl : x.length < y.length
  · rw [if_pos (by simp [hl])]
    have := splitS_none (x := x) hy (Nat.zero_le _) (fun k _ h => by have := h.1; omega)
    simpa using this.symm
  · rw [if_neg (by simp [hk]; omega)]
    split
    · rename_i h; rw [occ_empty hy h]; rfl
    · exact occ_parts x y hy
/-- the parts with a word between them -/
noncomputable def joinS (z : List Nat) : List (List Nat) → List Nat
  | [] => []
  | [p] => p
  | p :: ps => p ++ z ++ joinS z ps
theorem join_codes (z : PySem.Str) : ∀ ps : List PySem.Str, (PySem.Str.join z ps).cps.toList = joinS z.cps.toList (ps.map fun p => p.cps.toList)
  | [] => rfl
  | [p] => rfl
  | p :: q :: ps => by
    show ((p.cps ++ z.cps) ++ (PySem.Str.join z (q :: ps)).cps).toList = p.cps.toList ++ z.cps.toList ++ joinS z.cps.toList ((q :: ps).map fun p => p.cps.toList)
    rw [← join_codes z (q :: ps)]
    simp
theorem replace_eq {x y z : PySem.Str} (hy : 1 ≤ y.length) : (Txt.replace x y z).cps.toList = joinS z.cps.toList (splitS y.cps.toList 0 x.cps.toList) := by
  unfold Txt.replace
  have h0 : (y.length == 0) = false := by simpa using (by omega : y.length ≠ 0)
  rw [h0, Bool.false_and, Bool.or_false]
  split
  · rename_i h; rw [occ_empty hy h]; rfl
  · rw [glued_eq_join, join_codes, occ_parts x y hy]
theorem one_char (c d : Nat) : ∀ l : List Nat, joinS [d] (splitS [c] 0 l) = l.map fun k => if k = c then d else k
  | [] => rfl
  | k :: r => by
    have ih := one_char c d r
    obtain ⟨p, ps, e⟩ : ∃ p ps, splitS [c] 0 r = p :: ps := by
      cases h : splitS [c] 0 r with
      | nil => exact absurd h (splitS_ne _ _ _)
      | cons p ps => exact ⟨p, ps, rfl⟩
    rw [e] at ih
    unfold splitS
    by_cases h : k = c
    · subst h
      have : ([k] : List Nat).isPrefixOf (k :: r) = true := by simp [List.isPrefixOf]
      rw [if_pos this]
      show joinS [d] ([] :: splitS [k] 0 r) = _
      rw [e]
      show [] ++ [d] ++ joinS [d] (p :: ps) = _
      rw [ih]; simp
    · have : ([c] : List Nat).isPrefixOf (k :: r) = false := by
        simp [List.isPrefixOf]; exact fun e => h e.symm
      rw [this, e]
      simp only [Bool.false_eq_true, if_false, List.map_cons, if_neg h]
      rw [← ih]
      cases ps <;> simp [joinS]
end Mine
end
section
open PySem PySem.W PyProof.Rows
set_option Elab.async false
namespace Mine
theorem retS {h₀ h' : Heap} {L : Addr} {m : PySem.Str → Option Value} {news : List (Addr × Obj)} {s : Shared} {Q : Value → Shared → Prop} {y d : PySem.Str} {t : Tok} {tk' : Nat}
    (hret : ∀ (t : Tok) (h' : Heap) (tk' : Nat), 0 < tk' → Fr h₀ L h' m → News h₀ L h' news → Q (.str y t) { s with heap := h', toks := tk' }) (e : d = y) (ht : 1 ≤ tk') (F : Fr h₀ L h' m) (N : News h₀ L h' news) : Q (.str d t) { s with heap := h', toks := tk' } := by
  subst e; exact hret t h' tk' ht F N
noncomputable def p257 : List Nat → List Nat
  | [] => []
  | [34] => []
  | 34 :: c :: r => if c == 34 then 34 :: p257 r else []
  | c :: r => c :: p257 r
theorem p257_other {c : Nat} {r : List Nat} (h : c ≠ 34) : p257 (c :: r) = c :: p257 r := by
  rw [p257]
  · rintro rfl; exact fun _ => h rfl
  · intro c r' h1; exact absurd h1 h
theorem item_at {x : PySem.Str} {i : Int} (h0 : 0 ≤ i) (h : i < x.length) : Txt.item x i = ⟨#[x.cps.toList.getD i.toNat 0]⟩ := by
  have hi : i.toNat < x.cps.size := by show i.toNat < x.length; omega
  unfold Txt.item Txt.charAt
  have e : seqIndex? i x.length = some i.toNat := by
    have h1 : ¬ i < 0 := by omega
    unfold seqIndex?
    simp [h1, h0, h]
  rw [e]
  simp [hi]
theorem drop_at {x : PySem.Str} {i : Int} (h0 : 0 ≤ i) (h : i < x.length) : x.cps.toList.drop i.toNat = x.cps.toList.getD i.toNat 0 :: x.cps.toList.drop (i + 1).toNat := by
  have hi : i.toNat < x.cps.toList.length := by
    have : x.cps.toList.length = x.length := by simp [PySem.Str.length]
    omega
  rw [List.drop_eq_getElem_cons hi, show (i + 1).toNat = i.toNat + 1 by omega, List.getD_eq_getElem?_getD, List.getElem?_eq_getElem hi]
  rfl
theorem quote_is : PySem.Str.ofString "\"" = ⟨#[34]⟩ := by decide +kernel
theorem item_quote {x : PySem.Str} {i : Int} (h0 : 0 ≤ i) (h : i < x.length) (hc : (Txt.item x i == PySem.Str.ofString "\"") = true) : x.cps.toList.getD i.toNat 0 = 34 := by
  rw [item_at h0 h, quote_is] at hc
  simpa using hc
theorem item_noquote {x : PySem.Str} {i : Int} (h0 : 0 ≤ i) (h : i < x.length) (hc : (Txt.item x i == PySem.Str.ofString "\"") = false) : x.cps.toList.getD i.toNat 0 ≠ 34 := by
  rw [item_at h0 h, quote_is] at hc
  intro e
  rw [e] at hc
  simp at hc
theorem bne_beq {a b : PySem.Str} (h : (a != b) = false) : (a == b) = true := by
  unfold bne at h; simpa using h
theorem bne_beq' {a b : PySem.Str} (h : (a != b) = true) : (a == b) = false := by
  unfold bne at h; simpa using h
theorem codes_add (d e : PySem.Str) : (d ++ e).cps.toList = d.cps.toList ++ e.cps.toList := by
  show (d.cps ++ e.cps).toList = _
  simp
theorem len_add (d e : PySem.Str) : (d ++ e).length = d.length + e.length := by
  show (d.cps ++ e.cps).size = _
  simp [PySem.Str.length]
section
variable {x d : PySem.Str} {i : Int}
theorem p_start (hx5 : 5 ≤ x.length) : 5 ≤ (5 : Int) ∧ (5 : Int) ≤ x.length ∧ (PySem.Str.ofString "").length ≤ Int.toNat 5 ∧ p257 (x.cps.toList.drop 5) = (PySem.Str.ofString "").cps.toList ++ p257 (x.cps.toList.drop (Int.toNat 5)) :=
  ⟨by omega, by omega, by decide, rfl⟩
theorem p_turnE (h0 : 5 ≤ i) (hd : d.length ≤ i.toNat) (hp : p257 (x.cps.toList.drop 5) = d.cps.toList ++ p257 (x.cps.toList.drop i.toNat)) (hi : i < x.length) (hc : (Txt.item x i == PySem.Str.ofString "\"") = false) :
    5 ≤ i + 1 ∧ i + 1 ≤ x.length ∧ (d ++ Txt.item x i).length ≤ (i + 1).toNat ∧ p257 (x.cps.toList.drop 5) = (d ++ Txt.item x i).cps.toList ++ p257 (x.cps.toList.drop (i + 1).toNat) := by
  have hn := item_noquote (by omega) hi hc
  refine ⟨by omega, by omega, ?_, ?_⟩
  · rw [len_add, item_at (by omega) hi]
    show d.length + 1 ≤ _
    omega
  · rw [hp, drop_at (by omega) hi, p257_other hn, codes_add, item_at (by omega) hi]
    simp
theorem p_turnD (h0 : 5 ≤ i) (hd : d.length ≤ i.toNat) (hp : p257 (x.cps.toList.drop 5) = d.cps.toList ++ p257 (x.cps.toList.drop i.toNat)) (hi : i < x.length) (hc : (Txt.item x i == PySem.Str.ofString "\"") = true)
    (hi2 : ¬ (x.length : Int) ≤ i + 1) (hc2 : (Txt.item x (i + 1) != PySem.Str.ofString "\"") = false) :
    5 ≤ i + 1 + 1 ∧ i + 1 + 1 ≤ x.length ∧ (d ++ Txt.item x i).length ≤ (i + 1 + 1).toNat ∧ p257 (x.cps.toList.drop 5) = (d ++ Txt.item x i).cps.toList ++ p257 (x.cps.toList.drop (i + 1 + 1).toNat) := by
  have hn := item_quote (by omega) hi hc
  have hn2 := item_quote (by omega) (by omega) (bne_beq hc2)
  refine ⟨by omega, by omega, ?_, ?_⟩
  · rw [len_add, item_at (by omega) hi]
    show d.length + 1 ≤ _
    omega
  · rw [hp, drop_at (by omega) hi, hn, drop_at (by omega) (by omega : i + 1 < x.length), hn2, codes_add, item_at (by omega) hi, hn]
    simp [p257]
theorem arr_eq {d : PySem.Str} {l : List Nat} (h : l = d.cps.toList) : d = ⟨l.toArray⟩ := by
  subst h
  simp
theorem p_endA (hp : p257 (x.cps.toList.drop 5) = d.cps.toList ++ p257 (x.cps.toList.drop i.toNat)) (hi2 : i ≤ x.length) (hi : ¬ i < x.length) : d = ⟨(p257 (x.cps.toList.drop 5)).toArray⟩ := by
  refine arr_eq ?_
  rw [hp, List.drop_eq_nil_of_le (by have : x.cps.toList.length = x.length := by simp [PySem.Str.length]
                                     omega)]
  simp [p257]
theorem p_endB (h0 : 5 ≤ i) (hp : p257 (x.cps.toList.drop 5) = d.cps.toList ++ p257 (x.cps.toList.drop i.toNat)) (hi : i < x.length) (hc : (Txt.item x i == PySem.Str.ofString "\"") = true) (hi2 : (x.length : Int) ≤ i + 1) : d = ⟨(p257 (x.cps.toList.drop 5)).toArray⟩ := by
  refine arr_eq ?_
  have hn := item_quote (by omega) hi hc
  rw [hp, drop_at (by omega) hi, hn, List.drop_eq_nil_of_le (by have : x.cps.toList.length = x.length := by simp [PySem.Str.length]
                                                                omega)]
  simp [p257]
theorem p_endC (h0 : 5 ≤ i) (hp : p257 (x.cps.toList.drop 5) = d.cps.toList ++ p257 (x.cps.toList.drop i.toNat)) (hi : i < x.length) (hc : (Txt.item x i == PySem.Str.ofString "\"") = true) (hi2 : ¬ (x.length : Int) ≤ i + 1)
    (hc2 : (Txt.item x (i + 1) != PySem.Str.ofString "\"") = true) : d = ⟨(p257 (x.cps.toList.drop 5)).toArray⟩ := by
  refine arr_eq ?_
  have hn := item_quote (by omega) hi hc
  have hn2 := item_noquote (by omega) (by omega) (bne_beq' hc2)
  rw [hp, drop_at (by omega) hi, hn, drop_at (by omega) (by omega : i + 1 < x.length)]
  have : (x.cps.toList.getD (i + 1).toNat 0 == 34) = false := by simpa using hn2
  simp only [p257, this]
  simp
end
variable {w : World} {mg mb : PySem.Str → Option Value} {mean : ExcName → Option Value}
set_option maxRecDepth 100000 in
set_option maxHeartbeats 8000000 in
theorem parse_spec (x : PySem.Str) (t : Tok) (hx : x.length ≤ 1000) (hx5 : 5 ≤ x.length) (h3 : (Txt.slice x none (some 3) != PySem.Str.ofString "257") = false) (h5 : (Txt.slice x (some 3) (some 5) != PySem.Str.ofString " \"") = false) (news) :
    Spec PySem.Challenge.rw_sn0027_01.row.prog w (Mine.hd.heap_39 w.params) Mine.hd.view_39 loose mean mg mb 136 1 news [.str x t] (fun t' => .str ⟨(p257 (x.cps.toList.drop 5)).toArray⟩ t') := by
  k_fill
  k_with_none
  unfold Spec
  intro dp un gd cn cs a ccd cl outer A₀ base h₀ L m s Q E B F X N T hk hd hu hret
  refine wpAny_call ?_
  k_dflt cell_enter
  refine wpAny_toksQ 1 (Nat.le_add_left _ _) ?_
  k_fold
  k_with_none
  k_with "state" => first | exact p_start (by assumption) | exact p_turnE (by assumption) (by assumption) (by assumption) (by assumption) (by assumption) | exact p_turnD (by assumption) (by assumption) (by assumption) (by assumption) (by assumption) (by assumption) (by assumption)
  k_with "exec While Compare cons nil" => k_while (fun (_ : List Int) (i : Int) (d : PySem.Str) => 5 ≤ i ∧ i ≤ x.length ∧ d.length ≤ i.toNat ∧ p257 (x.cps.toList.drop 5) = d.cps.toList ++ p257 (x.cps.toList.drop i.toNat)) (fun (_ : List Int) (i : Int) (d : PySem.Str) => (x.length - i).toNat) "i" "dirname"
  k_steps
  all_goals first
    | exact retS hret (p_endA (by assumption) (by assumption) (by assumption)) (by assumption) (by assumption) (by assumption)
    | exact retS hret (p_endB (by assumption) (by assumption) (by assumption) (by assumption) (by assumption)) (by assumption) (by assumption) (by assumption)
    | exact retS hret (p_endC (by assumption) (by assumption) (by assumption) (by assumption) (by assumption) (by assumption)) (by assumption) (by assumption) (by assumption)
  k_with_none
end Mine
end
section
open PySem PySem.StrLaws PySem.Builtin PySem.Builtin.Str
namespace Mine
theorem range_filterMap (L : List Nat) : ∀ (n a : Nat), a + n ≤ L.length → ((List.range n).map fun k => a + k).filterMap (fun i => L[i]?) = (L.drop a).take n := by
  intro n
  induction n with
  | zero => intro a _; simp
  | succ n ih =>
    intro a h
    rw [List.range_succ, List.map_append, List.filterMap_append, ih a (by omega)]
    have h1 : a + n < L.length := by omega
    simp only [List.map_cons, List.map_nil, List.filterMap_cons, List.filterMap_nil, List.getElem?_eq_getElem h1]
    rw [List.take_succ_eq_append_getElem (by rw [List.length_drop]; omega)]
    simp
theorem slice_of {x : PySem.Str} {lo hi : Option Int} {a b : Nat} (hab : a ≤ b) (hb : b ≤ x.length) (hi' : strSliceIndices lo hi 1 x.length = sliceRange a b 1) : (Txt.slice x lo hi).cps.toList = (x.cps.toList.drop a).take (b - a) := by
  have hL : x.cps.toList.length = x.length := by simp [PySem.Str.length]
  have e : strSliceIndices lo hi 1 x.length = (List.range (b - a)).map fun k => a + k := by
    rw [hi']
    unfold sliceRange
    by_cases h : a < b
    · have h1 : (a : Int) < b := by omega
      rw [if_pos (by decide), if_pos h1]
      have : (((b : Int) - a + 1 - 1) / 1).toNat = b - a := by rw [Int.ediv_one]; omega
      dsimp only
      rw [this]
      apply List.map_congr_left
      intro k _
      omega
    · have h1 : ¬ (a : Int) < b := by omega
      rw [if_pos (by decide), if_neg h1]
      have : b - a = 0 := by omega
      dsimp only
      rw [this]
      rfl
  unfold Txt.slice
  rw [e]
  split
  · rename_i h
    have h' : b - a = x.length := by simpa using h
    have ha : a = 0 := by omega
    subst ha
    rw [List.drop_zero, List.take_of_length_le (by omega)]
  · show (List.filterMap _ _).toArray.toList = _
    have e2 : (fun (i : Nat) => x.cps[i]?) = (fun (i : Nat) => x.cps.toList[i]?) := by funext i; simp
    rw [e2, range_filterMap _ _ _ (by omega)]
theorem slice_to {x : PySem.Str} {b : Nat} (hb : b ≤ x.length) : (Txt.slice x none (some (b : Int))).cps.toList = x.cps.toList.take b := by
  have := slice_of (x := x) (lo := none) (hi := some (b : Int)) (a := 0) (b := b) (Nat.zero_le _) hb (by
    unfold strSliceIndices
    have h1 : ¬ ((b : Int) < 0) := by omega
    have h2 : max 0 (min (b : Int) x.length) = b := by omega
    simp only [h1, if_false, show (1 : Int) > 0 from by decide, if_true, h2]
    rfl)
  simpa using this
theorem slice_mid {x : PySem.Str} {a b : Nat} (hab : a ≤ b) (hb : b ≤ x.length) : (Txt.slice x (some (a : Int)) (some (b : Int))).cps.toList = (x.cps.toList.drop a).take (b - a) := by
  refine slice_of hab hb ?_
  unfold strSliceIndices
  have h1 : ¬ ((b : Int) < 0) := by omega
  have h2 : max 0 (min (b : Int) x.length) = b := by omega
  have h3 : ¬ ((a : Int) < 0) := by omega
  have h4 : max 0 (min (a : Int) x.length) = a := by omega
  simp only [h1, h3, if_false, show (1 : Int) > 0 from by decide, if_true, h2, h4]
theorem slice_last {x : PySem.Str} {a : Nat} : (Txt.slice x (some (-(a : Int))) none).cps.toList = x.cps.toList.drop (if a = 0 then 0 else x.length - a) := by
  have hL : x.cps.toList.length = x.length := by simp [PySem.Str.length]
  have := slice_of (x := x) (lo := some (-(a : Int))) (hi := none) (a := if a = 0 then 0 else x.length - a) (b := x.length) (by split <;> omega) (Nat.le_refl _) (by
    unfold strSliceIndices
    simp only [show (1 : Int) > 0 from by decide, if_true]
    congr 1
    by_cases h0 : a = 0
    · subst h0
      simp
      omega
    · rw [if_pos (by omega), if_neg h0]
      omega)
  rw [this, List.take_of_length_le (by rw [List.length_drop]; omega)]
end Mine
end
section
open PySem PySem.W PyProof.Rows
set_option Elab.async false
namespace Mine
section
variable {prog : Program} {w : World} {A : Around} {E : Value → Shared → Prop} {s : Shared} {x y z : PySem.Str} {t : Tok} {u v : Nat} {Q : Value → Shared → Prop}
noncomputable def repS (x y z : PySem.Str) : PySem.Str := ⟨(joinS z.cps.toList (splitS y.cps.toList 0 x.cps.toList)).toArray⟩
theorem rep_rule (hu : 0 < u) (hv : 0 < v) (huv : u ≠ v) (hyz : (y == z) = false) (hy : 1 ≤ y.length) (hx : x.length ≤ 100000) (hz : z.length ≤ 14) (hs : 1 ≤ s.toks)
    (h : ∀ t' k, 1 ≤ k → Q (.str (repS x y z) t') { s with toks := k }) : wpAny (model prog w) A (call (.builtin "str.replace") [.str x t, .str y u, .str z v]) Q E s := by
  refine wpAny_toksQ 1 hs ?_
  refine SC.replaceW (Nat.pos_iff_ne_zero.mp hu) (Nat.pos_iff_ne_zero.mp hv) huv hyz (by omega) hz fun t' k hk => ?_
  have e : Txt.replace x y z = repS x y z := arr_eq (replace_eq hy).symm
  rw [e]
  exact h t' k hk
end
theorem dot_is : PySem.Str.ofString "." = ⟨#[46]⟩ := by decide +kernel
theorem dots_quotes (x : PySem.Str) : (repS x (PySem.Str.ofString ".") (PySem.Str.ofString "\"")).cps.toList = x.cps.toList.map fun k => if k = 46 then 34 else k := by
  rw [dot_is, quote_is]
  exact one_char 46 34 x.cps.toList
theorem quotes_dots (x : PySem.Str) : (repS x (PySem.Str.ofString "\"") (PySem.Str.ofString ".")).cps.toList = x.cps.toList.map fun k => if k = 34 then 46 else k := by
  rw [dot_is, quote_is]
  exact one_char 34 46 x.cps.toList
/-- what stands behind the closing quote -/
noncomputable def tailL (n : Nat) : List Nat := if n / 2 % 2 = 1 then [32, 34] else []
theorem mul_is (n : Nat) : (Txt.mul (PySem.Str.ofString " \"") (((n : Int).fdiv 2).fmod 2)).cps.toList = tailL n := by
  have e0 : PySem.Str.ofString " \"" = ⟨#[32, 34]⟩ := by decide +kernel
  have e : ((n : Int).fdiv 2).fmod 2 = ((n / 2 % 2 : Nat) : Int) := by
    rw [Int.fdiv_eq_ediv_of_nonneg _ (by decide), Int.fmod_eq_emod_of_nonneg _ (by decide)]
    omega
  rw [e, e0]
  unfold tailL
  have h : n / 2 % 2 = 0 ∨ n / 2 % 2 = 1 := by omega
  rcases h with h | h
  · rw [h]; rfl
  · rw [h]; rfl
/-- _law_read, sign by sign -/
noncomputable def readL (l : List Nat) : List Nat := (p257 ((l.map fun k => if k = 46 then 34 else k) ++ 34 :: tailL l.length)).map fun k => if k = 34 then 46 else k
noncomputable abbrev askS (x : PySem.Str) : PySem.Str := PySem.Str.ofString "257 \"" ++ repS x (PySem.Str.ofString ".") (PySem.Str.ofString "\"") ++ (PySem.Str.ofString "\"" ++ Txt.mul (PySem.Str.ofString " \"") (((x.length : Int).fdiv 2).fmod 2))
theorem ask_codes (x : PySem.Str) : (askS x).cps.toList = [50, 53, 55, 32, 34] ++ ((x.cps.toList.map fun k => if k = 46 then 34 else k) ++ 34 :: tailL x.length) := by
  have e0 : (PySem.Str.ofString "257 \"").cps.toList = [50, 53, 55, 32, 34] := by decide +kernel
  unfold askS
  rw [codes_add, codes_add, codes_add, e0, dots_quotes, mul_is, quote_is]
  simp
theorem codes_len (x : PySem.Str) : x.length = x.cps.toList.length := by simp [PySem.Str.length]
theorem str_ext {a b : PySem.Str} (h : a.cps.toList = b.cps.toList) : a = b := by
  cases a; cases b
  simpa using h
theorem tail_le (n : Nat) : (tailL n).length ≤ 2 := by unfold tailL; split <;> simp
theorem ask_len (x : PySem.Str) : (askS x).length = 6 + x.length + (tailL x.length).length := by
  rw [codes_len, ask_codes, codes_len x]
  simp; omega
theorem ask_3 (x : PySem.Str) : (Txt.slice (askS x) none (some 3) != PySem.Str.ofString "257") = false := by
  have e : Txt.slice (askS x) none (some 3) = PySem.Str.ofString "257" := by
    refine str_ext ?_
    have := slice_to (x := askS x) (b := 3) (by rw [ask_len]; omega)
    have e0 : (PySem.Str.ofString "257").cps.toList = [50, 53, 55] := by decide +kernel
    rw [e0]
    rw [show ((3 : Nat) : Int) = 3 from rfl] at this
    rw [this, ask_codes]
    rfl
  rw [e]
  decide +kernel
theorem ask_5 (x : PySem.Str) : (Txt.slice (askS x) (some 3) (some 5) != PySem.Str.ofString " \"") = false := by
  have e : Txt.slice (askS x) (some 3) (some 5) = PySem.Str.ofString " \"" := by
    refine str_ext ?_
    have := slice_mid (x := askS x) (a := 3) (b := 5) (by omega) (by rw [ask_len]; omega)
    have e0 : (PySem.Str.ofString " \"").cps.toList = [32, 34] := by decide +kernel
    rw [e0]
    rw [show ((3 : Nat) : Int) = 3 from rfl, show ((5 : Nat) : Int) = 5 from rfl] at this
    rw [this, ask_codes]
    rfl
  rw [e]
  decide +kernel
theorem ask_small {x : PySem.Str} (hx : x.length ≤ 400) : (askS x).length ≤ 1000 := by rw [ask_len]; have := tail_le x.length; omega
theorem ask_big (x : PySem.Str) : 5 ≤ (askS x).length := by rw [ask_len]; omega
theorem p257_le : ∀ (n : Nat) (l : List Nat), l.length ≤ n → (p257 l).length ≤ l.length := by
  intro n
  induction n with
  | zero => intro l h; cases l with
    | nil => simp [p257]
    | cons c r => simp at h
  | succ n ih =>
    intro l h
    match l with
    | [] => simp [p257]
    | [34] => simp [p257]
    | 34 :: c :: r =>
      have := ih r (by simp at h; omega)
      simp only [p257]
      split <;> simp <;> omega
    | c :: r =>
      by_cases hc : c = 34
      · subst hc
        cases r with
        | nil => simp [p257]
        | cons d r =>
          have := ih r (by simp at h; omega)
          simp only [p257]
          split <;> simp <;> omega
      · have := ih r (by simp at h; omega)
        rw [p257_other hc]; simp; omega
theorem read_is (x : PySem.Str) : repS ⟨(p257 ((askS x).cps.toList.drop 5)).toArray⟩ (PySem.Str.ofString "\"") (PySem.Str.ofString ".") = ⟨(readL x.cps.toList).toArray⟩ := by
  refine str_ext ?_
  rw [quotes_dots, ask_codes]
  unfold readL
  rw [codes_len x]
  simp
variable {w : World} {mg mb : PySem.Str → Option Value} {mean : ExcName → Option Value}
set_option maxRecDepth 100000 in
set_option maxHeartbeats 8000000 in
theorem read_spec (x : PySem.Str) (t : Tok) (hx : x.length ≤ 400) (news) :
    Spec PySem.Challenge.rw_sn0027_01.row.prog w (Mine.hd.heap_39 w.params) Mine.hd.view_39 loose mean mg mb 184 3 news [.str x t] (fun t' => .str ⟨(readL x.cps.toList).toArray⟩ t') := by
  k_fill
  k_with_none
  k_with "execs cons" => (k_here; refine wpAny_execs_cons ?_; refine wpAny_toksQ 1 (by first | exact Nat.le_add_left _ _ | assumption) ?_; (try dsimp only))
  k_with "call builtin:str.replace" => (k_here; k_dflt (refine' rep_rule (by (try dsimp only); omega) (by (try dsimp only); omega) (by (try dsimp only); omega) (by decide +kernel) (by decide +kernel) (by l_fact) (by decide +kernel) (by (try dsimp only); omega) ?_; k_whole; intro _ _ _))
  k_with "call ref" => (k_here; k_dflt (refine' Spec.use (parse_spec _ _ (by with_reducible exact ask_small (by with_reducible assumption)) (by with_reducible exact ask_big _) (by with_reducible exact ask_3 _) (by with_reducible exact ask_5 _) _) (by k_asm) (by k_asm) (by k_asm) (by k_asm) (by k_asm) (by exact rfl) (by ktr_room) (by ktr_units) ?_; k_whole; intro _ _ _ _ _ _))
  unfold Spec
  intro dp un gd cn cs a ccd cl outer A₀ base h₀ L m s Q E B F X N T hk hd hu hret
  have hmul : (Txt.mul (PySem.Str.ofString " \"") (((x.length : Int).fdiv 2).fmod 2)).length ≤ 2 := by
    rw [codes_len, mul_is]; exact tail_le _
  have hrep : (repS x (PySem.Str.ofString ".") (PySem.Str.ofString "\"")).length = x.length := by
    rw [codes_len, dots_quotes, codes_len x]; simp
  have hask : (askS x).length ≤ 500 ∧ 6 ≤ (askS x).length := by
    rw [ask_len]; have := tail_le x.length; omega
  have hp : (⟨(p257 ((PySem.Str.ofString "257 \"" ++ repS x (PySem.Str.ofString ".") (PySem.Str.ofString "\"") ++ (PySem.Str.ofString "\"" ++ Txt.mul (PySem.Str.ofString " \"") (((x.length : Int).fdiv 2).fmod 2))).cps.toList.drop 5)).toArray⟩ : PySem.Str).length ≤ 1000 := by
    rw [codes_len]
    have := p257_le _ ((askS x).cps.toList.drop 5) (Nat.le_refl _)
    have e := codes_len (askS x)
    rw [List.length_drop] at this
    show (p257 ((askS x).cps.toList.drop 5)).length ≤ 1000
    omega
  refine wpAny_call ?_
  k_dflt cell_enter
  refine wpAny_toksQ 1 (Nat.le_add_left _ _) ?_
  k_fold
  k_with_none
  k_with "execs cons" => (k_here; refine wpAny_execs_cons ?_; refine wpAny_toksQ 1 (by first | exact Nat.le_add_left _ _ | assumption) ?_; (try dsimp only))
  k_with "call builtin:str.replace" => (k_here; k_dflt (refine' rep_rule (by (try dsimp only); omega) (by (try dsimp only); omega) (by (try dsimp only); omega) (by decide +kernel) (by decide +kernel) (by l_fact) (by decide +kernel) (by (try dsimp only); omega) ?_; k_whole; intro _ _ _))
  k_with "call ref" => (k_here; k_dflt (refine' Spec.use (parse_spec _ _ (by with_reducible exact ask_small (by with_reducible assumption)) (by with_reducible exact ask_big _) (by with_reducible exact ask_3 _) (by with_reducible exact ask_5 _) _) (by k_asm) (by k_asm) (by k_asm) (by k_asm) (by k_asm) (by exact rfl) (by ktr_room) (by ktr_units) ?_; k_whole; intro _ _ _ _ _ _))
  k_steps
  exact retS hret (by with_reducible exact read_is x) (by assumption) (by assumption) (by assumption)
end Mine
end
section
open PySem PySem.W PyProof.Rows
set_option maxRecDepth 100000
namespace Mine
section
variable {prog : Program} {w : World} {A : Around} {E : Value → Shared → Prop} {s s₂ : Shared} {env : Env} {h₀ : Heap} {x : PySem.Str} {body : List Stmt} {Q : Flow → Shared → Prop} {σ : Type}
noncomputable def LEnd (h₀ : Heap) (L : Addr) (s : Shared) (Led : σ → List (Addr × Obj)) (ps : σ → List (PySem.Str × Value)) (stored : List PySem.Str) (m₀ : PySem.Str → Option Value) (P : σ → Prop) (own : List (Addr × Obj)) (wr : List Addr) (s₂ : Shared) : Prop :=
  ∃ (c' : σ) (h' : Heap) (tk : Nat) (m' : PySem.Str → Option Value) (news' : List (Addr × Obj)), s₂ = { s with heap := h', toks := tk } ∧ Fr h₀ L h' m' ∧ News h₀ L h' news' ∧ (∀ p ∈ Led c', p ∈ news') ∧ (∀ p ∈ own, p ∈ news') ∧ (∀ p ∈ Led c', p.1 ∉ wr) ∧
    (∀ p ∈ ps c', m' p.1 = some p.2) ∧ (∀ z, (∀ p ∈ ps c', z ≠ p.1) → stored.contains z = false → m' z = m₀ z) ∧ P c'
noncomputable def LPost (h₀ : Heap) (L : Addr) (s : Shared) (Led : σ → List (Addr × Obj)) (ps : σ → List (PySem.Str × Value)) (stored : List PySem.Str) (m₀ : PySem.Str → Option Value) (P : σ → Prop) (own : List (Addr × Obj)) (wr : List Addr) (Q : Flow → Shared → Prop) (f : Flow) (s₂ : Shared) : Prop :=
  match f with
  | .ret v => Q (.ret v) s₂
  | .brk => Q .next s₂
  | _ => LEnd h₀ L s Led ps stored m₀ P own wr s₂
theorem kst_fr2 {L : Addr} {h : Heap} {ps : List (PySem.Str × Value)} {stored : List PySem.Str} {m₀ m₁ : PySem.Str → Option Value} {v : Value} (h1 : ∀ p ∈ ps, m₁ p.1 = some p.2) (h2 : ∀ z, (∀ p ∈ ps, z ≠ p.1) → stored.contains z = false → m₁ z = m₀ z)
    (F : Fr h₀ L h (fun y => if y = x then some v else m₁ y)) : Fr h₀ L h (fun y => if y = x then some v else kstB (fun z => if stored.contains z then m₁ z else m₀ z) ps y) := by
  have em : (kstB (fun z => if stored.contains z then m₁ z else m₀ z) ps) = m₁ := by
    funext y
    refine kstB_eq h1 fun hn => ?_
    show (if stored.contains y = true then m₁ y else m₀ y) = m₁ y
    cases h3 : stored.contains y with
    | true => simp
    | false => simp only [Bool.false_eq_true, if_false]; exact (h2 y hn h3).symm
  rw [em]
  exact F
theorem loop_core {I : Addr} {fp wr : List Addr} {n : Nat} {Pv : Nat → Value → Prop} {St : Nat → Heap → Prop} (W : Walks prog w A I fp wr n Pv St) {m₀ : PySem.Str → Option Value}
    (Led : σ → List (Addr × Obj)) (ps : σ → List (PySem.Str × Value)) (stored : List PySem.Str) (P : Nat → σ → Prop) (c₀ : σ)
    (hLf : env.locals ∉ fp) (hwr : ∀ b ∈ wr, h₀.get? b = none) (hst : St 0 s₂.heap) (F : Fr h₀ env.locals s₂.heap m₀) (N : News h₀ env.locals s₂.heap (Led c₀)) (hoff : ∀ p ∈ Led c₀, p.1 ∉ wr)
    (hk : ∀ p ∈ ps c₀, m₀ p.1 = some p.2) (hp : P 0 c₀)
    (turn : ∀ (i : Nat) (v : Value) (c : σ) (u : PySem.Str → Option Value) (h : Heap) (tk : Nat) (own : List (Addr × Obj)), i < n → Pv i v → P i c → (∀ p ∈ Led c, p.1 ∉ wr) → (∀ p ∈ own, p.1 ∈ fp) → (∀ b ∈ fp, h₀.get? b = none → ∀ o, h.get? b = some o → (b, o) ∈ own) → St (i + 1) h →
      Fr h₀ env.locals h (fun y => if y = x then some v else kstB (fun z => if stored.contains z then u z else m₀ z) (ps c) y) → News h₀ env.locals h (own ++ Led c) →
      wpAny (model prog w) A (execs body env) (LPost h₀ env.locals { s₂ with heap := h, toks := tk } Led ps stored m₀ (P (i + 1)) own wr Q) E { s₂ with heap := h, toks := tk })
    (done : ∀ (c : σ) (u : PySem.Str → Option Value) (h : Heap) (tk : Nat), P n c → Fr h₀ env.locals h (kstB (fun z => if stored.contains z then u z else m₀ z) (ps c)) → News h₀ env.locals h (Led c) → Q .next { s₂ with heap := h, toks := tk }) :
    LoopAtV prog w A h₀ env x body Q E (.ref I) s₂ := by
  refine ⟨I, fp, wr, n, Pv, St, m₀, Led c₀, fun i m nx => ∃ c, nx = Led c ∧ (∀ p ∈ ps c, m p.1 = some p.2) ∧ (∀ z, (∀ p ∈ ps c, z ≠ p.1) → stored.contains z = false → m z = m₀ z) ∧ P i c, rfl, W, hLf, hwr, hoff, hst, F, N, ⟨c₀, rfl, hk, fun _ _ _ => rfl, hp⟩, ?_, ?_⟩
  · rintro i v m₁ news₁ s₁ own ⟨h, tk, rfl⟩ hi hv ⟨c, rfl, h1, h2, hP⟩ hof hown _ hmem hst₁ F₁ N₁
    refine wpAny_mono (turn i v c m₁ h tk own hi hv hP hof hown hmem hst₁ (kst_fr2 h1 h2 F₁) N₁) (fun f s₃ q => ?_) fun _ _ e => e
    have fin : LEnd h₀ env.locals { s₂ with heap := h, toks := tk } Led ps stored m₀ (P (i + 1)) own wr s₃ → LoopStepU h₀ env.locals wr own (fun m nx => ∃ c, nx = Led c ∧ (∀ p ∈ ps c, m p.1 = some p.2) ∧ (∀ z, (∀ p ∈ ps c, z ≠ p.1) → stored.contains z = false → m z = m₀ z) ∧ P (i + 1) c) { s₂ with heap := h, toks := tk } .next s₃ := by
      rintro ⟨c', h', tk', m', news', e, F', N', q1, q2, q3, q4, q5, q6⟩
      refine ⟨rfl, h', tk', m', Led c', e, F', fun p hp => N' p ?_, q3, c', rfl, q4, q5, q6⟩
      rcases List.mem_append.mp hp with hp | hp
      · exact q2 p hp
      · exact q1 p hp
    cases f with
    | ret v => exact .ret q
    | brk => exact .brk q
    | next => exact .next (fin q)
    | cont => exact .cont (fin q)
  · rintro h' tk m' news' F' N' _ ⟨c, rfl, h1, h2, hP⟩
    refine done c m' h' tk hP ?_ N'
    have em : (kstB (fun z => if stored.contains z then m' z else m₀ z) (ps c)) = m' := by
      funext y
      refine kstB_eq h1 fun hn => ?_
      show (if stored.contains y = true then m' y else m₀ y) = m' y
      cases h3 : stored.contains y with
      | true => simp
      | false => simp only [Bool.false_eq_true, if_false]; exact (h2 y hn h3).symm
    rw [em]
    exact F'
/-- over a list that the call has made and that stays -/
theorem loop_list {l : Addr} {vs : List Value} {nn : Nat} {m₀ : PySem.Str → Option Value} (Led : σ → List (Addr × Obj)) (ps : σ → List (PySem.Str × Value)) (stored : List PySem.Str) (P : Nat → σ → Prop) (c₀ : σ)
    (hh : A.handled = none) (hm : (l, listOf vs.toArray nn) ∈ Led c₀) (F : Fr h₀ env.locals s.heap m₀) (N : News h₀ env.locals s.heap (Led c₀)) (hk : ∀ p ∈ ps c₀, m₀ p.1 = some p.2) (hp : P 0 c₀)
    (turn : ∀ (i : Nat) (v : Value) (c : σ) (u : PySem.Str → Option Value) (h : Heap) (tk : Nat) (I : Addr) (own : List (Addr × Obj)), vs[i]? = some v → P i c → (∀ p ∈ Led c, p.1 ∉ [I]) → (∃ o, (I, o) ∈ own) → (∀ p ∈ own, p.1 = I ∨ p.1 = l) →
      Fr h₀ env.locals h (fun y => if y = x then some v else kstB (fun z => if stored.contains z then u z else m₀ z) (ps c) y) → News h₀ env.locals h (own ++ Led c) →
      wpAny (model prog w) A (execs body env) (LPost h₀ env.locals { s with heap := h, toks := tk } Led ps stored m₀ (P (i + 1)) own [I] Q) E { s with heap := h, toks := tk })
    (done : ∀ (c : σ) (u : PySem.Str → Option Value) (h : Heap) (tk : Nat), P vs.length c → Fr h₀ env.locals h (kstB (fun z => if stored.contains z then u z else m₀ z) (ps c)) → News h₀ env.locals h (Led c) → Q .next { s with heap := h, toks := tk }) :
    wpAny (model prog w) A (pyIter (.ref l)) (fun it s₂ => LoopAtV prog w A h₀ env x body Q E it s₂) E s := by
  have hls : s.heap.IsList l vs.toArray := ⟨_, (N _ hm).1, rfl, _, rfl⟩
  have hlt : l < s.heap.objs.size := Heap.lt_size (N _ hm).1
  have hnew : h₀.get? s.heap.objs.size = none := by
    cases q : h₀.get? s.heap.objs.size with
    | none => rfl
    | some o => exact absurd (Heap.lt_size (F.keep _ _ q)) (Nat.lt_irrefl _)
  refine wpAny_pyIter_list hls ?_
  have W := Walks.list (prog := prog) (w := w) hh s.heap.objs.size l (Nat.ne_of_lt hlt) vs.toArray
  refine loop_core (s₂ := { s with heap := s.heap.push _ }) W Led ps stored P c₀ ?_ ?_ ⟨⟨_, Heap.get?_push_size _ rfl, rfl, rfl⟩, hls.at fun o e => Heap.get?_push_of_some _ e⟩ (F.push _) (fun p hp => ⟨Heap.get?_push_of_some _ (N p hp).1, (N p hp).2⟩) ?_ hk hp ?_ ?_
  · intro hm'
    rcases List.mem_cons.mp hm' with e | hm'
    · exact absurd F.ns.lt (e ▸ Nat.lt_irrefl _)
    · exact (N _ hm).2.1 (List.mem_singleton.mp hm').symm
  · intro b hb
    rw [List.mem_singleton.mp hb]
    exact hnew
  · intro p hp hI
    exact absurd (Heap.lt_size (N p hp).1) ((List.mem_singleton.mp hI) ▸ Nat.lt_irrefl _)
  · intro i v c u h tk own hi hv hP hof hown hmem hst F₁ N₁
    obtain ⟨o, ho, _⟩ := hst.1
    exact turn i v c u h tk s.heap.objs.size own (by simpa using hv) hP hof ⟨o, hmem _ (.head _) hnew o ho⟩ (fun p hp => by simpa using hown p hp) F₁ N₁
  · intro c u h tk hP F₁ N₁
    exact done c u h tk (by simpa using hP) F₁ N₁
/-- over a list that stays; only names are turned -/
theorem loop_listC {news : List (Addr × Obj)} {l : Addr} {vs : List Value} {nn : Nat} {m₀ : PySem.Str → Option Value} (ps : σ → List (PySem.Str × Value)) (stored : List PySem.Str) (P : Nat → σ → Prop) (c₀ : σ)
    (F : Fr h₀ env.locals s.heap m₀) (N : News h₀ env.locals s.heap news) (hm : (l, listOf vs.toArray nn) ∈ news) (hk : ∀ p ∈ ps c₀, m₀ p.1 = some p.2) (hp : P 0 c₀) (hh : A.handled = none)
    (turn : ∀ (i : Nat) (v : Value) (c : σ) (u : PySem.Str → Option Value) (h : Heap) (tk : Nat) (I : Addr) (own : List (Addr × Obj)), vs[i]? = some v → P i c → (∀ p ∈ news, p.1 ∉ [I]) →
      Fr h₀ env.locals h (fun y => if y = x then some v else kstB (fun z => if stored.contains z then u z else m₀ z) (ps c) y) → News h₀ env.locals h (news ++ own) →
      wpAny (model prog w) A (execs body env) (LPost h₀ env.locals { s with heap := h, toks := tk } (fun _ => news) ps stored m₀ (P (i + 1)) own [I] Q) E { s with heap := h, toks := tk })
    (done : ∀ (c : σ) (u : PySem.Str → Option Value) (h : Heap) (tk : Nat), P vs.length c → Fr h₀ env.locals h (kstB (fun z => if stored.contains z then u z else m₀ z) (ps c)) → News h₀ env.locals h news → Q .next { s with heap := h, toks := tk }) :
    wpAny (model prog w) A (pyIter (.ref l)) (fun it s₂ => LoopAtV prog w A h₀ env x body Q E it s₂) E s :=
  loop_list (fun _ => news) ps stored P c₀ hh hm F N hk hp (fun i v c u h tk I own hv hP hoff _ _ F₁ N₁ => turn i v c u h tk I own hv hP hoff F₁ fun p hp => N₁ p ((List.mem_append.mp hp).elim (fun h => List.mem_append.mpr (.inr h)) fun h => List.mem_append.mpr (.inl h))) done
theorem loop_strW {y : PySem.Str} {t : Tok} {m₀ : PySem.Str → Option Value} {ty : String} {oI : Obj} (Led : σ → List (Addr × Obj)) (ps : σ → List (PySem.Str × Value)) (stored : List PySem.Str) (P : Nat → σ → Prop) (c₀ : σ)
    (W : Walks prog w A s.heap.objs.size [s.heap.objs.size] [s.heap.objs.size] y.cps.size (SignAt y) (fun i h => h.IsStrIter s.heap.objs.size ty y t i)) (hst : (s.heap.push oI).IsStrIter s.heap.objs.size ty y t 0)
    (F : Fr h₀ env.locals s.heap m₀) (N : News h₀ env.locals s.heap (Led c₀)) (hk : ∀ p ∈ ps c₀, m₀ p.1 = some p.2) (hp : P 0 c₀)
    (turn : ∀ (i : Nat) (cc : Nat) (tc : Tok) (c : σ) (u : PySem.Str → Option Value) (h : Heap) (tk : Nat) (I : Addr) (own : List (Addr × Obj)), y.cps[i]? = some cc → P i c → (∀ p ∈ Led c, p.1 ∉ [I]) → (∀ p ∈ own, p.1 = I) → (∃ o, (I, o) ∈ own) →
      Fr h₀ env.locals h (fun z => if z = x then some (.str ⟨#[cc]⟩ tc) else kstB (fun z => if stored.contains z then u z else m₀ z) (ps c) z) → News h₀ env.locals h (Led c ++ own) →
      wpAny (model prog w) A (execs body env) (LPost h₀ env.locals { s with heap := h, toks := tk } Led ps stored m₀ (P (i + 1)) own [I] Q) E { s with heap := h, toks := tk })
    (done : ∀ (c : σ) (u : PySem.Str → Option Value) (h : Heap) (tk : Nat), P y.length c → Fr h₀ env.locals h (kstB (fun z => if stored.contains z then u z else m₀ z) (ps c)) → News h₀ env.locals h (Led c) → Q .next { s with heap := h, toks := tk }) :
    LoopAtV prog w A h₀ env x body Q E (.ref s.heap.objs.size) { s with heap := s.heap.push oI } := by
  have hnew : h₀.get? s.heap.objs.size = none := by
    cases q : h₀.get? s.heap.objs.size with
    | none => rfl
    | some o => exact absurd (Heap.lt_size (F.keep _ _ q)) (Nat.lt_irrefl _)
  refine loop_core (s₂ := { s with heap := s.heap.push oI }) W Led ps stored P c₀ ?_ ?_ hst (F.push _) (fun p hp => ⟨Heap.get?_push_of_some _ (N p hp).1, (N p hp).2⟩) ?_ hk hp ?_ ?_
  · intro hm'
    exact absurd F.ns.lt ((List.mem_singleton.mp hm') ▸ Nat.lt_irrefl _)
  · intro b hb
    rw [List.mem_singleton.mp hb]
    exact hnew
  · intro p hp hI
    exact absurd (Heap.lt_size (N p hp).1) ((List.mem_singleton.mp hI) ▸ Nat.lt_irrefl _)
  · intro i v c u h tk own hi hv hP hof hown hmem hst₁ F₁ N₁
    obtain ⟨cc, tc, hcc, rfl⟩ := hv
    obtain ⟨o, ho, _⟩ := hst₁
    exact turn i cc tc c u h tk s.heap.objs.size own hcc hP hof (fun p hp => List.mem_singleton.mp (hown p hp)) ⟨o, hmem _ (.head _) hnew o ho⟩ F₁ fun p hp => N₁ p ((List.mem_append.mp hp).elim (fun h => List.mem_append.mpr (.inr h)) fun h => List.mem_append.mpr (.inl h))
  · intro c u h tk hP F₁ N₁
    exact done c u h tk hP F₁ N₁
/-- over a text's signs -/
theorem loop_str {y : PySem.Str} {t : Tok} {m₀ : PySem.Str → Option Value} (Led : σ → List (Addr × Obj)) (ps : σ → List (PySem.Str × Value)) (stored : List PySem.Str) (P : Nat → σ → Prop) (c₀ : σ)
    (F : Fr h₀ env.locals s.heap m₀) (N : News h₀ env.locals s.heap (Led c₀)) (hk : ∀ p ∈ ps c₀, m₀ p.1 = some p.2) (hp : P 0 c₀) (hh : A.handled = none)
    (turn : ∀ (i : Nat) (cc : Nat) (tc : Tok) (c : σ) (u : PySem.Str → Option Value) (h : Heap) (tk : Nat) (I : Addr) (own : List (Addr × Obj)), y.cps[i]? = some cc → P i c → (∀ p ∈ Led c, p.1 ∉ [I]) → (∀ p ∈ own, p.1 = I) → (∃ o, (I, o) ∈ own) →
      Fr h₀ env.locals h (fun z => if z = x then some (.str ⟨#[cc]⟩ tc) else kstB (fun z => if stored.contains z then u z else m₀ z) (ps c) z) → News h₀ env.locals h (Led c ++ own) →
      wpAny (model prog w) A (execs body env) (LPost h₀ env.locals { s with heap := h, toks := tk } Led ps stored m₀ (P (i + 1)) own [I] Q) E { s with heap := h, toks := tk })
    (done : ∀ (c : σ) (u : PySem.Str → Option Value) (h : Heap) (tk : Nat), P y.length c → Fr h₀ env.locals h (kstB (fun z => if stored.contains z then u z else m₀ z) (ps c)) → News h₀ env.locals h (Led c) → Q .next { s with heap := h, toks := tk }) :
    wpAny (model prog w) A (pyIter (.str y t)) (fun it s₂ => LoopAtV prog w A h₀ env x body Q E it s₂) E s := by
  cases ha : y.cps.all (· < 128)
  · exact wpAny_pyIter_wide ha (loop_strW Led ps stored P c₀ (Walks.strWide hh _ y t) ⟨_, Heap.get?_push_size _ rfl, rfl, rfl⟩ F N hk hp turn done)
  · exact wpAny_pyIter_ascii ha (loop_strW Led ps stored P c₀ (Walks.strAscii hh _ y t) ⟨_, Heap.get?_push_size _ rfl, rfl, rfl⟩ F N hk hp turn done)
theorem lendC {L : Addr} {news own news' : List (Addr × Obj)} {ps : σ → List (PySem.Str × Value)} {stored : List PySem.Str} {m₀ m' : PySem.Str → Option Value} {P : σ → Prop} {I : Addr} {h' : Heap} {tk : Nat} (c' : σ)
    (F : Fr h₀ L h' m') (N : News h₀ L h' news') (hn : ∀ p ∈ news ++ own, p ∈ news') (hoff : ∀ p ∈ news, p.1 ∉ [I]) (hk : ∀ p ∈ ps c', m' p.1 = some p.2) (hr : ∀ z, (∀ p ∈ ps c', z ≠ p.1) → stored.contains z = false → m' z = m₀ z) (hp : P c') :
    LPost h₀ L s (fun _ => news) ps stored m₀ P own [I] Q .next { s with heap := h', toks := tk } :=
  ⟨c', h', tk, m', news', rfl, F, N, fun p hp => hn p (List.mem_append.mpr (.inl hp)), fun p hp => hn p (List.mem_append.mpr (.inr hp)), hoff, hk, hr, hp⟩
theorem lend {L : Addr} {own news' : List (Addr × Obj)} {Led : σ → List (Addr × Obj)} {ps : σ → List (PySem.Str × Value)} {stored : List PySem.Str} {m₀ m' : PySem.Str → Option Value} {P : σ → Prop} {I : Addr} {h' : Heap} {tk : Nat} (c' : σ)
    (F : Fr h₀ L h' m') (N : News h₀ L h' news') (hn : ∀ p ∈ Led c' ++ own, p ∈ news') (hoff : ∀ p ∈ Led c', p.1 ∉ [I]) (hk : ∀ p ∈ ps c', m' p.1 = some p.2) (hr : ∀ z, (∀ p ∈ ps c', z ≠ p.1) → stored.contains z = false → m' z = m₀ z) (hp : P c') :
    LPost h₀ L s Led ps stored m₀ P own [I] Q .next { s with heap := h', toks := tk } :=
  ⟨c', h', tk, m', news', rfl, F, N, fun p hp => hn p (List.mem_append.mpr (.inl hp)), fun p hp => hn p (List.mem_append.mpr (.inr hp)), hoff, hk, hr, hp⟩
end
theorem allLt_ne {d : Addr} {l : List (Addr × Obj)} (h : AllLt d l) : ∀ p ∈ l, p.1 ≠ d := fun p hp => Nat.ne_of_lt (kst_ltOf h p hp)
theorem allLt_left {d : Addr} : ∀ {a b : List (Addr × Obj)}, AllLt d (a ++ b) → AllLt d a
  | [], _, _ => trivial
  | _ :: _, _, h => ⟨h.1, allLt_left h.2⟩
theorem allLt_right {d : Addr} : ∀ {a b : List (Addr × Obj)}, AllLt d (a ++ b) → AllLt d b
  | [], _, h => h
  | _ :: _, _, h => allLt_right h.2
end Mine
end
section
open PySem PySem.W PyProof.Rows
set_option maxRecDepth 100000
namespace Mine
section
variable {prog : Program} {w : World} {A : Around} {E : Value → Shared → Prop} {s : Shared} {env : Env} {h₀ : Heap} {x : PySem.Str} {body : List Stmt} {Q : Flow → Shared → Prop} {σ : Type}
/-- over a range with step 1 -/
theorem loop_range {r : Addr} {a b : Int} {ta tb tc : Tok} (n : Nat) {m₀ : PySem.Str → Option Value} (Led : σ → List (Addr × Obj)) (ps : σ → List (PySem.Str × Value)) (stored : List PySem.Str) (P : Nat → σ → Prop) (c₀ : σ)
    (hr : IsRange s.heap r a b 1 ta tb tc) (hs : -100000 ≤ a ∧ a ≤ 100000 ∧ -100000 ≤ b ∧ b ≤ 100000) (hn : (b - a).toNat = n)
    (F : Fr h₀ env.locals s.heap m₀) (N : News h₀ env.locals s.heap (Led c₀)) (hk : ∀ p ∈ ps c₀, m₀ p.1 = some p.2) (hp : P 0 c₀) (hh : A.handled = none)
    (turn : ∀ (i : Nat) (t : Tok) (c : σ) (u : PySem.Str → Option Value) (h : Heap) (tk : Nat) (I : Addr) (own : List (Addr × Obj)), i < n → P i c → (∀ p ∈ Led c, p.1 ∉ [I]) → (∀ p ∈ own, p.1 = I) → (∃ o, (I, o) ∈ own) →
      Fr h₀ env.locals h (fun z => if z = x then some (.int (a + i) t) else kstB (fun z => if stored.contains z then u z else m₀ z) (ps c) z) → News h₀ env.locals h (Led c ++ own) →
      wpAny (model prog w) A (execs body env) (LPost h₀ env.locals { s with heap := h, toks := tk } Led ps stored m₀ (P (i + 1)) own [I] Q) E { s with heap := h, toks := tk })
    (done : ∀ (c : σ) (u : PySem.Str → Option Value) (h : Heap) (tk : Nat), P n c → Fr h₀ env.locals h (kstB (fun z => if stored.contains z then u z else m₀ z) (ps c)) → News h₀ env.locals h (Led c) → Q .next { s with heap := h, toks := tk }) :
    wpAny (model prog w) A (pyIter (.ref r)) (fun it s₂ => LoopAtV prog w A h₀ env x body Q E it s₂) E s := by
  have hsz : Builtin.Range.rangeSize a b 1 = (n : Int) := by
    rw [rangeSize_one]
    split <;> omega
  refine wpAny_pyIter_range hr (small_one (by omega) (by omega) (by omega) (by omega)) ?_
  have hnew : h₀.get? s.heap.objs.size = none := by
    cases q : h₀.get? s.heap.objs.size with
    | none => rfl
    | some o => exact absurd (Heap.lt_size (F.keep _ _ q)) (Nat.lt_irrefl _)
  have W := Walks.range (prog := prog) (w := w) hh s.heap.objs.size a 1 n
  refine loop_core (s₂ := { s with heap := s.heap.push _ }) W Led ps stored P c₀ ?_ ?_ ?_ (F.push _) (fun p hp => ⟨Heap.get?_push_of_some _ (N p hp).1, (N p hp).2⟩) ?_ hk hp ?_ ?_
  · intro hm'
    exact absurd F.ns.lt ((List.mem_singleton.mp hm') ▸ Nat.lt_irrefl _)
  · intro b hb
    rw [List.mem_singleton.mp hb]
    exact hnew
  · rw [hsz]
    have e1 : a + ((0 : Nat) : Int) * 1 = a := by omega
    have e2 : (n : Int) - ((0 : Nat) : Int) = n := by omega
    rw [e1, e2]
    exact Heap.get?_push_size _ rfl
  · intro p hp hI
    exact absurd (Heap.lt_size (N p hp).1) ((List.mem_singleton.mp hI) ▸ Nat.lt_irrefl _)
  · intro i v c u h tk own hi hv hP hof hown hmem hst₁ F₁ N₁
    obtain ⟨t, rfl⟩ := hv
    rw [Int.mul_one] at F₁
    exact turn i t c u h tk s.heap.objs.size own hi hP hof (fun p hp => List.mem_singleton.mp (hown p hp)) ⟨_, hmem _ (.head _) hnew _ hst₁⟩ F₁ fun p hp => N₁ p ((List.mem_append.mp hp).elim (fun h => List.mem_append.mpr (.inr h)) fun h => List.mem_append.mpr (.inl h))
  · intro c u h tk hP F₁ N₁
    exact done c u h tk hP F₁ N₁
end
end Mine
end
section
open PySem PySem.W PyProof.Rows PySem.Builtin PySem.Builtin.Str
set_option maxRecDepth 100000
namespace Mine
section
variable {prog : Program} {w : World} {A : Around} {E : Value → Shared → Prop} {s : Shared} {h₀ : Heap} {L : Addr} {m : PySem.Str → Option Value} {news : List (Addr × Obj)} {Q : Value → Shared → Prop} {x y : PySem.Str} {t u : Tok}
theorem split_led (F : Fr h₀ L s.heap m) (N : News h₀ L s.heap news) (hy : (y.length == 0) = false) (hk : PySem.Builtin.Str.strKind y = 1) (hx : x.length ≤ 1000)
    (hq : ∀ (l : Addr) (h' : Heap) (k : Nat) (ps : List (PySem.Str × Tok)), ps.map (fun p => p.1.cps.toList) = splitS y.cps.toList 0 x.cps.toList → Fr h₀ L h' m → News h₀ L h' ((l, listOf (strValues ps).toArray 0) :: news) → (∀ p ∈ news, p.1 < l) → Q (.ref l) { s with heap := h', toks := k }) :
    wpAny (model prog w) A (call (.builtin "str.split") [.str x t, .str y u]) Q E s := by
  have hy1 : 1 ≤ y.length := by
    have : y.length ≠ 0 := by simpa using hy
    omega
  have e24 : (2 : Nat) ^ 24 = 16777216 := by decide
  have hsz : x.length ≤ sizeLine := by unfold sizeLine; omega
  have hsp := split_eq (x := x) hy1 hk
  have fin : ∀ (ps : List (PySem.Str × Tok)) (k : Nat), ps.map (·.1) = Txt.split x y → Q (.ref s.heap.objs.size) { s with heap := s.heap.push { cls := .type "list", data := .seq (strValues ps).toArray }, toks := k } := by
    intro ps k e
    refine hq _ _ k ps ?_ (F.push _) (N.push F _) fun p hp => Heap.lt_size (N p hp).1
    rw [← hsp, ← e, List.map_map]
    rfl
  cases h1 : (decide (x.length < y.length) || decide (PySem.Builtin.Str.strKind x < PySem.Builtin.Str.strKind y))
  · cases hf : (occurrences x y 0 x.length (x.length + 1)).isEmpty
    · have hn : (partsBetween x (occurrences x y 0 x.length (x.length + 1)) y.length).length ≤ sizeLine := by
        have h2 := StrLaws.occ_length_le x y 0 x.length (x.length + 1)
        unfold partsBetween sizeLine
        simp
        omega
      refine call_meets PySem.F.slot_str_split (typeIs_str _ _ _) PySem.F.entry_str_split (PySem.F.args_str_split_2 _ _) (meets_str_split_sep x y t u h1 hy hf hsz hn) ?_
      show wants Q E _ { s with toks := _, heap := s.heap.push { cls := .type "list", data := .seq (strsFrom s.toks (partsBetween x (occurrences x y 0 x.length (x.length + 1)) y.length)).toArray } }
      rw [strsFrom_eq]
      exact fin (numbered s.toks _) _ ((numbered_texts _ _).trans ((if_neg (ne_true_of_eq_false h1)).trans (if_neg (ne_true_of_eq_false hf))).symm)
    · exact call_meets PySem.F.slot_str_split (typeIs_str _ _ _) PySem.F.entry_str_split (PySem.F.args_str_split_2 _ _) (meets_str_split_not_found x y t u h1 hy hf)
        (fin [(x, t)] s.toks ((if_neg (ne_true_of_eq_false h1)).trans (if_pos hf)).symm)
  · exact call_meets PySem.F.slot_str_split (typeIs_str _ _ _) PySem.F.entry_str_split (PySem.F.args_str_split_2 _ _) (meets_str_split_cannot_occur x y t u h1)
      (fin [(x, t)] s.toks (if_pos h1).symm)
end
theorem splitS_count (y : List Nat) : ∀ (l : List Nat) (k : Nat), (splitS y k l).length ≤ l.length + 1
  | [], k => by cases k <;> simp [splitS]
  | c :: r, k + 1 => by
    have := splitS_count y r k
    show (splitS y k r).length ≤ r.length + 1 + 1
    omega
  | c :: r, 0 => by
    rw [splitS_cons]
    have h0 := splitS_count y r (y.length - 1)
    have h1 := splitS_count y r 0
    split
    · simp; omega
    · cases h : splitS y 0 r with
      | nil => simp
      | cons p ps => rw [h] at h1; simp at h1 ⊢; omega
theorem split_size {x y : PySem.Str} {ps : List (PySem.Str × Tok)} (he : ps.map (fun p => p.1.cps.toList) = splitS y.cps.toList 0 x.cps.toList) (hx : x.length ≤ 1000) : (strValues ps).toArray.size ≤ sizeLine := by
  have h1 := splitS_count y.cps.toList x.cps.toList 0
  rw [← he, List.length_map, ← codes_len] at h1
  have e24 : (2 : Nat) ^ 24 = 16777216 := by decide
  unfold sizeLine
  simp [strValues]
  omega
theorem pick_init (vs : List Value) : (slicePick vs.toArray none (some (-1)) none).toList = vs.take (vs.length - 1) := by
  have e : sliceBounds none (some (-1)) none vs.toArray.size = (((0 : Nat) : Int), ((vs.toArray.size - 1 : Nat) : Int), 1) := by
    simp only [sliceBounds, Option.getD_none, show (1 : Int) > 0 by decide, if_true, if_pos (show (-1 : Int) < 0 by decide)]
    congr 1
    congr 1
    omega
  rw [kmk_pick_nat _ e]
  simp
/-- a text's rows, their ends cut off -/
noncomputable def rowsL (l : List Nat) : List (List Nat) := (splitS [13, 10] 0 l).dropLast
noncomputable def rowsLen (rs : List (List Nat)) : Nat := (rs.map fun r => r.length + 2).sum
noncomputable def told (l : List Nat) : Bool := (readL (l ++ [13, 10])).drop ((readL (l ++ [13, 10])).length - 2) == [13, 10]
noncomputable def partStep (c : List Nat × List Nat × Int) (r : List Nat) : List Nat × List Nat × Int :=
  if told r then (c.1 ++ r ++ [13, 10], c.2.1, c.2.2 + 1) else (c.1, c.2.1 ++ r ++ [13, 10], c.2.2 - 1)
noncomputable def partRun (rs : List (List Nat)) : List Nat × List Nat × Int := rs.foldl partStep ([], [], 0)
noncomputable def partE (l : List Nat) : List Nat := readL (partRun (rowsL l)).1
noncomputable def partO (l : List Nat) : List Nat := readL (dotL true (fixL (partRun (rowsL l)).2.1)) ++ [13, 10]
noncomputable def partN (l : List Nat) : Int := ((partRun (rowsL l)).2.2 * ((partRun (rowsL l)).2.2 - 1)).fdiv 2
theorem splitS_len : ∀ (l : List Nat) (k : Nat), k ≤ l.length → rowsLen (splitS [13, 10] k l) + k = l.length + 2
  | [], k, h => by
    have : k = 0 := by simpa using h
    subst this; rfl
  | c :: r, k + 1, h => by
    have := splitS_len r k (by simp at h; omega)
    show rowsLen (splitS [13, 10] k r) + (k + 1) = r.length + 1 + 2
    omega
  | c :: r, 0, _ => by
    rw [splitS_cons]
    by_cases hp : List.isPrefixOf [13, 10] (c :: r) = true
    · rw [if_pos hp]
      have h1 : 1 ≤ r.length := by
        cases r with
        | nil => simp [List.isPrefixOf] at hp
        | cons d r => simp
      have := splitS_len r 1 h1
      show (0 + 2) + rowsLen (splitS [13, 10] 1 r) + 0 = r.length + 1 + 2
      omega
    · rw [if_neg hp]
      have := splitS_len r 0 (Nat.zero_le _)
      cases h : splitS [13, 10] 0 r with
      | nil => exact absurd h (splitS_ne _ _ _)
      | cons p ps =>
        rw [h] at this
        show (p.length + 1 + 2) + rowsLen ps + 0 = r.length + 1 + 2
        have e : rowsLen (p :: ps) = (p.length + 2) + rowsLen ps := rfl
        omega
theorem rowsL_len (l : List Nat) : rowsLen (rowsL l) ≤ l.length := by
  have h := splitS_len l 0 (Nat.zero_le _)
  have hne := splitS_ne [13, 10] l 0
  have e : splitS [13, 10] 0 l = rowsL l ++ [(splitS [13, 10] 0 l).getLast hne] := (List.dropLast_concat_getLast hne).symm
  rw [e] at h
  have e2 : rowsLen (rowsL l ++ [(splitS [13, 10] 0 l).getLast hne]) = rowsLen (rowsL l) + (((splitS [13, 10] 0 l).getLast hne).length + 2) := by
    unfold rowsLen; simp
  omega
theorem rowsLen_split (rs : List (List Nat)) (i : Nat) (r : List Nat) (h : rs[i]? = some r) : rowsLen (rs.drop i) = r.length + 2 + rowsLen (rs.drop (i + 1)) := by
  have hi : i < rs.length := (List.getElem?_eq_some_iff.mp h).1
  rw [List.drop_eq_getElem_cons hi]
  have : rs[i] = r := (List.getElem?_eq_some_iff.mp h).2
  rw [this]
  rfl
theorem partRun_step (rs : List (List Nat)) (i : Nat) (r : List Nat) (h : rs[i]? = some r) : partRun (rs.take (i + 1)) = partStep (partRun (rs.take i)) r := by
  unfold partRun
  rw [List.take_add_one, h]
  simp
theorem readL_le (l : List Nat) : (readL l).length ≤ l.length + 3 := by
  unfold readL
  rw [List.length_map]
  have h1 := p257_le _ ((l.map fun k => if k = 46 then 34 else k) ++ 34 :: tailL l.length) (Nat.le_refl _)
  have h2 := tail_le l.length
  simp at h1
  omega
theorem readS_le (y : PySem.Str) : (⟨(readL y.cps.toList).toArray⟩ : PySem.Str).length ≤ y.length + 3 := by
  have := readL_le y.cps.toList
  rw [← codes_len] at this
  rw [codes_len]
  exact this
theorem crlf_is : (PySem.Str.ofString "\r\n") = ⟨#[13, 10]⟩ := by decide +kernel
theorem row_at {x : PySem.Str} {ps : List (PySem.Str × Tok)} {i : Nat} {v : Value} (he : ps.map (fun p => p.1.cps.toList) = splitS (PySem.Str.ofString "\r\n").cps.toList 0 x.cps.toList)
    (hv : ((strValues ps).take ((strValues ps).length - 1))[i]? = some v) : ∃ r tr, v = .str r tr ∧ (rowsL x.cps.toList)[i]? = some r.cps.toList := by
  rw [crlf_is] at he
  have hlen : (strValues ps).length = ps.length := by simp [strValues]
  rw [hlen, List.getElem?_take] at hv
  split at hv
  · rename_i hi
    unfold strValues at hv
    rw [List.getElem?_map] at hv
    cases hp : ps[i]? with
    | none => rw [hp] at hv; cases hv
    | some p =>
      rw [hp] at hv
      cases hv
      refine ⟨p.1, p.2, rfl, ?_⟩
      have hr : rowsL x.cps.toList = (ps.map (fun p => p.1.cps.toList)).dropLast := by rw [he]; rfl
      rw [hr, List.dropLast_eq_take, List.length_map, List.getElem?_take, if_pos hi, List.getElem?_map, hp]
      rfl
  · cases hv
theorem rows_count {x : PySem.Str} {ps : List (PySem.Str × Tok)} (he : ps.map (fun p => p.1.cps.toList) = splitS (PySem.Str.ofString "\r\n").cps.toList 0 x.cps.toList) :
    ((strValues ps).take ((strValues ps).length - 1)).length = (rowsL x.cps.toList).length := by
  rw [crlf_is] at he
  have hr : rowsL x.cps.toList = (ps.map (fun p => p.1.cps.toList)).dropLast := by rw [he]; rfl
  rw [hr]
  simp [strValues]
/-- what the loop of _law_parted keeps -/
noncomputable def PartInv (x : PySem.Str) (i : Nat) (c : PySem.Str × Tok × PySem.Str × Tok × Int × Tok) : Prop :=
  (c.1.cps.toList, c.2.2.1.cps.toList, c.2.2.2.2.1) = partRun ((rowsL x.cps.toList).take i) ∧ c.1.length + c.2.2.1.length + rowsLen ((rowsL x.cps.toList).drop i) ≤ x.length ∧ -(i : Int) ≤ c.2.2.2.2.1 ∧ c.2.2.2.2.1 ≤ i
theorem part_start (x : PySem.Str) (t1 t2 t3 : Tok) : PartInv x 0 (PySem.Str.ofString "", t1, PySem.Str.ofString "", t2, 0, t3) := by
  have e0 : PySem.Str.ofString "" = ⟨#[]⟩ := by decide +kernel
  refine ⟨?_, ?_, Int.le_refl _, Int.le_refl _⟩
  · rw [e0]; rfl
  · rw [e0]
    have := rowsL_len x.cps.toList
    rw [codes_len x]
    show 0 + 0 + rowsLen (rowsL x.cps.toList) ≤ _
    omega
section
variable {x e o r : PySem.Str} {te to tk : Tok} {k : Int} {i : Nat}
theorem part_room (hP : PartInv x i (e, te, o, to, k, tk)) (hr : (rowsL x.cps.toList)[i]? = some r.cps.toList) : e.length + o.length + r.length + 2 ≤ x.length ∧ i < (rowsL x.cps.toList).length := by
  have h := hP.2.1
  rw [rowsLen_split _ _ _ hr, ← codes_len r] at h
  refine ⟨?_, (List.getElem?_eq_some_iff.mp hr).1⟩
  dsimp only at h
  omega
theorem told_slice (r : PySem.Str) : (Txt.slice ⟨(readL (r ++ PySem.Str.ofString "\r\n").cps.toList).toArray⟩ (some (-2)) none == PySem.Str.ofString "\r\n") = told r.cps.toList := by
  have h := slice_last (x := ⟨(readL (r ++ PySem.Str.ofString "\r\n").cps.toList).toArray⟩) (a := 2)
  rw [show -((2 : Nat) : Int) = -2 from rfl, if_neg (by decide)] at h
  have e1 : (r ++ PySem.Str.ofString "\r\n").cps.toList = r.cps.toList ++ [13, 10] := by rw [codes_add, crlf_is]
  rw [e1] at h ⊢
  unfold told
  have h2 : Txt.slice ⟨(readL (r.cps.toList ++ [13, 10])).toArray⟩ (some (-2)) none = ⟨((readL (r.cps.toList ++ [13, 10])).drop ((readL (r.cps.toList ++ [13, 10])).length - 2)).toArray⟩ := by
    refine str_ext ?_
    rw [h]
    rw [codes_len]
  rw [h2, crlf_is]
  rw [Bool.eq_iff_iff]
  simp
theorem part_yes (hP : PartInv x i (e, te, o, to, k, tk)) (hr : (rowsL x.cps.toList)[i]? = some r.cps.toList) (ht : (Txt.slice ⟨(readL (r ++ PySem.Str.ofString "\r\n").cps.toList).toArray⟩ (some (-2)) none == PySem.Str.ofString "\r\n") = true) (te' to' tk' : Tok) :
    PartInv x (i + 1) (e ++ r ++ PySem.Str.ofString "\r\n", te', o, to', k + 1, tk') := by
  rw [told_slice] at ht
  obtain ⟨h1, h2, h3, h4⟩ := hP
  rw [rowsLen_split _ _ _ hr, ← codes_len r] at h2
  dsimp only at h1 h2 h3 h4
  refine ⟨?_, ?_, by dsimp only; omega, by dsimp only; omega⟩
  · rw [partRun_step _ _ _ hr, ← h1]
    unfold partStep
    rw [ht, codes_add, codes_add, crlf_is]
    rfl
  · rw [len_add, len_add, crlf_is]
    show e.length + r.length + 2 + o.length + _ ≤ _
    omega
theorem part_no (hP : PartInv x i (e, te, o, to, k, tk)) (hr : (rowsL x.cps.toList)[i]? = some r.cps.toList) (ht : (Txt.slice ⟨(readL (r ++ PySem.Str.ofString "\r\n").cps.toList).toArray⟩ (some (-2)) none == PySem.Str.ofString "\r\n") = false) (te' to' tk' : Tok) :
    PartInv x (i + 1) (e, te', o ++ r ++ PySem.Str.ofString "\r\n", to', k - 1, tk') := by
  rw [told_slice] at ht
  obtain ⟨h1, h2, h3, h4⟩ := hP
  rw [rowsLen_split _ _ _ hr, ← codes_len r] at h2
  dsimp only at h1 h2 h3 h4
  refine ⟨?_, ?_, by dsimp only; omega, by dsimp only; omega⟩
  · rw [partRun_step _ _ _ hr, ← h1]
    unfold partStep
    rw [ht, codes_add, codes_add, crlf_is]
    rfl
  · rw [len_add, len_add, crlf_is]
    show e.length + (o.length + r.length + 2) + _ ≤ _
    omega
theorem part_end (hP : PartInv x (rowsL x.cps.toList).length (e, te, o, to, k, tk)) : (e.cps.toList, o.cps.toList, k) = partRun (rowsL x.cps.toList) ∧ e.length + o.length ≤ x.length ∧ -(x.length : Int) ≤ k ∧ k ≤ x.length := by
  obtain ⟨h1, h2, h3, h4⟩ := hP
  rw [List.take_length] at h1
  have hl : (rowsL x.cps.toList).length ≤ x.length := by
    have h := rowsL_len x.cps.toList
    rw [← codes_len] at h
    have key : ∀ rs : List (List Nat), rs.length ≤ rowsLen rs := by
      intro rs
      induction rs with
      | nil => exact Nat.zero_le _
      | cons a rs ih => show rs.length + 1 ≤ (a.length + 2) + rowsLen rs; omega
    have := key (rowsL x.cps.toList)
    omega
  dsimp only at h1 h2 h3 h4
  exact ⟨h1, by omega, by omega, by omega⟩
theorem part_out (hE : (e.cps.toList, o.cps.toList, k) = partRun (rowsL x.cps.toList)) (t1 t2 t3 : Tok) :
    ({ cls := .type "tuple", data := .seq #[.str ⟨(readL e.cps.toList).toArray⟩ t1, .str (⟨(readL (⟨(dotL true (fixL o.cps.toList)).toArray⟩ : PySem.Str).cps.toList).toArray⟩ ++ PySem.Str.ofString "\r\n") t2, .int ((k * (k - 1)).fdiv 2) t3] } : Obj) =
      tup3 ⟨(partE x.cps.toList).toArray⟩ ⟨(partO x.cps.toList).toArray⟩ (partN x.cps.toList) t1 t2 t3 := by
  have e1 : (⟨(partE x.cps.toList).toArray⟩ : PySem.Str) = ⟨(readL e.cps.toList).toArray⟩ := by unfold partE; rw [← hE]
  have e2 : (⟨(partO x.cps.toList).toArray⟩ : PySem.Str) = ⟨(readL (⟨(dotL true (fixL o.cps.toList)).toArray⟩ : PySem.Str).cps.toList).toArray⟩ ++ PySem.Str.ofString "\r\n" := by
    refine str_ext ?_
    rw [codes_add, crlf_is]
    unfold partO
    rw [← hE]
  have e3 : partN x.cps.toList = (k * (k - 1)).fdiv 2 := by unfold partN; rw [← hE]
  rw [e1, e2, e3]
end
end Mine
end
section
open PySem PySem.W PyProof.Rows
set_option maxRecDepth 100000
namespace Mine
/-- as SpecO, where no token needs to have been drawn before -/
noncomputable def SpecP (prog : Program) (w : World) (K : Frag) (p : Program) (loose : List PySem.Str) (mean : ExcName → Option Value) (mg mb : PySem.Str → Option Value) (f : Addr) (d : Nat) (news : List (Addr × Obj)) (args : List Value) (O : Obj → Prop) : Prop :=
  ∀ (dp un : Nat) (gd : Option (List Code)) (cn : PySem.Str) (cs : Scope) (a : Addr) (ccd : Value) (cl : List (PySem.Str × Addr)) (outer : List Env) (A₀ : Around) (base h₀ : Heap) (L : Addr) (m : PySem.Str → Option Value) (s : Shared) (Q E : Value → Shared → Prop),
    Below A₀ base outer h₀ → Fr h₀ L s.heap m → K.In h₀ → News h₀ L s.heap news → Top p loose mean mg mb h₀ → cs.kind = .function → dp + d < recursionLimit → un + 8 * d < cLine →
    (∀ (q : Addr) (o : Obj) (h' : Heap) (tk' : Nat), O o → 0 < tk' → Fr h₀ L h' m → News h₀ L h' ((q, o) :: news) → AllLt q news → Q (.ref q) { s with heap := h', toks := tk' }) →
      wpAny (model prog w) (ktrTop dp un gd cn cs L a ccd cl outer) (call (.ref f) args) Q E s
theorem SpecP.use {prog : Program} {w : World} {K : Frag} {p : Program} {loose : List PySem.Str} {mean : ExcName → Option Value} {mg mb : PySem.Str → Option Value} {f : Addr} {d : Nat} {news : List (Addr × Obj)} {args : List Value} {O : Obj → Prop}
    {dp un : Nat} {gd : Option (List Code)} {cn : PySem.Str} {cs : Scope} {a : Addr} {ccd : Value} {cl : List (PySem.Str × Addr)} {outer : List Env} {A₀ : Around} {base h₀ : Heap} {L : Addr} {m : PySem.Str → Option Value} {s : Shared} {Q E : Value → Shared → Prop}
    (S : SpecP prog w K p loose mean mg mb f d news args O) (B : Below A₀ base outer h₀) (F : Fr h₀ L s.heap m) (X : K.In h₀) (N : News h₀ L s.heap news) (T : Top p loose mean mg mb h₀) (hk : cs.kind = .function) (hd : dp + d < recursionLimit) (hu : un + 8 * d < cLine)
    (hq : ∀ (q : Addr) (o : Obj) (h' : Heap) (tk' : Nat), O o → 0 < tk' → Fr h₀ L h' m → News h₀ L h' ((q, o) :: news) → AllLt q news → Q (.ref q) { s with heap := h', toks := tk' }) :
    wpAny (model prog w) (ktrTop dp un gd cn cs L a ccd cl outer) (call (.ref f) args) Q E s := S dp un gd cn cs a ccd cl outer A₀ base h₀ L m s Q E B F X N T hk hd hu hq
theorem SpecP.toO {prog : Program} {w : World} {K : Frag} {p : Program} {loose : List PySem.Str} {mean : ExcName → Option Value} {mg mb : PySem.Str → Option Value} {f : Addr} {d : Nat} {news : List (Addr × Obj)} {args : List Value} {O : Obj → Prop} (S : SpecP prog w K p loose mean mg mb f d news args O) : SpecO prog w K p loose mean mg mb f d news args O :=
  fun dp un gd cn cs a ccd cl outer A₀ base h₀ L m s Q E B F X N T hk hd hu _ hret => S dp un gd cn cs a ccd cl outer A₀ base h₀ L m s Q E B F X N T hk hd hu hret
end Mine
end
section
open PySem PySem.W PyProof.Rows
set_option Elab.async false
set_option pp.deepTerms false
set_option pp.deepTerms.threshold 12
namespace Mine
variable {w : World} {mg mb : PySem.Str → Option Value} {mean : ExcName → Option Value}
set_option maxRecDepth 100000 in
set_option maxHeartbeats 8000000 in
theorem part_spec (x : PySem.Str) (t : Tok) (hx : x.length ≤ 90) (news) :
    SpecP PySem.Challenge.rw_sn0027_01.row.prog w (Mine.hd.heap_39 w.params) Mine.hd.view_39 loose mean mg mb 191 5 news [.str x t] (fun o => ∃ t1 t2 t3, o = tup3 ⟨(partE x.cps.toList).toArray⟩ ⟨(partO x.cps.toList).toArray⟩ (partN x.cps.toList) t1 t2 t3) := by
  k_fill
  k_with_none
  k_with "k_ne" => (first | assumption | exact Ne.symm (by assumption) | exact And.left (by assumption) | exact Ne.symm (And.left (by assumption)) | exact And.left (And.right (by assumption)) | exact Ne.symm (And.left (And.right (by assumption))) | exact And.right (by assumption) | exact Ne.symm (And.right (by assumption)) | exact And.left (And.right (And.right (by assumption))) | exact Ne.symm (And.left (And.right (And.right (by assumption)))) | exact And.right (And.right (by assumption)) | exact Ne.symm (And.right (And.right (by assumption))) | exact And.left (And.right (And.right (And.right (by assumption)))) | exact Ne.symm (And.left (And.right (And.right (And.right (by assumption))))) | exact And.right (And.right (And.right (by assumption))) | exact Ne.symm (And.right (And.right (And.right (by assumption)))) | exact And.left (And.right (And.right (And.right (And.right (by assumption))))) | exact Ne.symm (And.left (And.right (And.right (And.right (And.right (by assumption)))))) | exact And.right (And.right (And.right (And.right (by assumption)))) | exact Ne.symm (And.right (And.right (And.right (And.right (by assumption))))) | exact And.left (And.right (And.right (And.right (And.right (And.right (by assumption)))))) | exact Ne.symm (And.left (And.right (And.right (And.right (And.right (And.right (by assumption))))))) | exact And.right (And.right (And.right (And.right (And.right (by assumption))))) | exact Ne.symm (And.right (And.right (And.right (And.right (And.right (by assumption)))))) | exact And.left (And.right (And.right (And.right (And.right (And.right (And.right (by assumption))))))) | exact Ne.symm (And.left (And.right (And.right (And.right (And.right (And.right (And.right (by assumption)))))))) | exact And.right (And.right (And.right (And.right (And.right (And.right (by assumption)))))) | exact Ne.symm (And.right (And.right (And.right (And.right (And.right (And.right (by assumption))))))) | exact And.left (And.right (And.right (And.right (And.right (And.right (And.right (And.right (by assumption)))))))) | exact Ne.symm (And.left (And.right (And.right (And.right (And.right (And.right (And.right (And.right (by assumption))))))))) | exact And.right (And.right (And.right (And.right (And.right (And.right (And.right (by assumption))))))) | exact Ne.symm (And.right (And.right (And.right (And.right (And.right (And.right (And.right (by assumption)))))))) | exact And.left (And.right (And.right (And.right (And.right (And.right (And.right (And.right (And.right (by assumption))))))))) | exact Ne.symm (And.left (And.right (And.right (And.right (And.right (And.right (And.right (And.right (And.right (by assumption)))))))))) | exact And.right (And.right (And.right (And.right (And.right (And.right (And.right (And.right (by assumption)))))))) | exact Ne.symm (And.right (And.right (And.right (And.right (And.right (And.right (And.right (And.right (by assumption))))))))) | exact And.left (And.right (And.right (And.right (And.right (And.right (And.right (And.right (And.right (And.right (by assumption)))))))))) | exact Ne.symm (And.left (And.right (And.right (And.right (And.right (And.right (And.right (And.right (And.right (And.right (by assumption))))))))))) | exact And.right (And.right (And.right (And.right (And.right (And.right (And.right (And.right (And.right (by assumption))))))))) | exact Ne.symm (And.right (And.right (And.right (And.right (And.right (And.right (And.right (And.right (And.right (by assumption)))))))))) | exact And.left (And.right (And.right (And.right (And.right (And.right (And.right (And.right (And.right (And.right (And.right (by assumption))))))))))) | exact Ne.symm (And.left (And.right (And.right (And.right (And.right (And.right (And.right (And.right (And.right (And.right (And.right (by assumption)))))))))))) | exact And.right (And.right (And.right (And.right (And.right (And.right (And.right (And.right (And.right (And.right (by assumption)))))))))) | exact Ne.symm (And.right (And.right (And.right (And.right (And.right (And.right (And.right (And.right (And.right (And.right (by assumption))))))))))) | exact And.left (And.right (And.right (And.right (And.right (And.right (And.right (And.right (And.right (And.right (And.right (And.right (by assumption)))))))))))) | exact Ne.symm (And.left (And.right (And.right (And.right (And.right (And.right (And.right (And.right (And.right (And.right (And.right (And.right (by assumption))))))))))))) | exact And.right (And.right (And.right (And.right (And.right (And.right (And.right (And.right (And.right (And.right (And.right (by assumption))))))))))) | exact Ne.symm (And.right (And.right (And.right (And.right (And.right (And.right (And.right (And.right (And.right (And.right (And.right (by assumption)))))))))))) | exact And.left (And.right (And.right (And.right (And.right (And.right (And.right (And.right (And.right (And.right (And.right (And.right (And.right (by assumption))))))))))))) | exact Ne.symm (And.left (And.right (And.right (And.right (And.right (And.right (And.right (And.right (And.right (And.right (And.right (And.right (And.right (by assumption)))))))))))))) | exact And.right (And.right (And.right (And.right (And.right (And.right (And.right (And.right (And.right (And.right (And.right (And.right (by assumption)))))))))))) | exact Ne.symm (And.right (And.right (And.right (And.right (And.right (And.right (And.right (And.right (And.right (And.right (And.right (And.right (by assumption))))))))))))))
  k_with "k_all" => (first | assumption | exact allLt_ne (by assumption) | exact allLt_ne (And.right (by assumption)) | exact allLt_ne (And.right (And.right (by assumption))) | exact allLt_ne (And.right (And.right (And.right (by assumption)))) | exact allLt_ne (And.right (And.right (And.right (And.right (by assumption))))) | exact allLt_ne (And.right (And.right (And.right (And.right (And.right (by assumption)))))) | exact allLt_ne (And.right (And.right (And.right (And.right (And.right (And.right (by assumption))))))) | exact allLt_ne (And.right (And.right (And.right (And.right (And.right (And.right (And.right (by assumption)))))))))
  k_with "execs cons" => (k_here; refine wpAny_execs_cons ?_; refine wpAny_toksQ 1 (by first | exact Nat.le_add_left _ _ | assumption) ?_; (try dsimp only))
  k_with "call builtin:str.split" => (k_here; k_dflt (refine' split_led (by k_asm) (by k_asm) (by decide +kernel) (by decide +kernel) (by l_fact) ?_; k_whole); intro _ _ _ _ _ _ _ zl; (try k_lt zl))
  k_with "subscriptTail Name Slice ref ref" => (k_here; (with_reducible show wpAny _ _ (subscriptTail _ (PySem.Expr.Slice _ _ none _) (Value.ref _) (Value.ref _)) _ _ _); k_dflt (refine' kmk_slice_lit (by k_asm) (by k_asm) (by kmk_list) (by kmk_part) (by kmk_part) (by exact pick_init _) ?_ (by with_unfolding_all rfl) (by kmk_pure) (by exact split_size (by assumption) (by l_fact)); k_whole); intro _ _ _ _ zl; (try k_lt zl))
  k_with "call ref" => (k_here; k_dflt (first
      | (refine' Spec.use (read_spec _ _ (by l_fact) _) (by k_asm) (by k_asm) (by k_asm) (by k_asm) (by k_asm) (by exact rfl) (by ktr_room) (by ktr_units) ?_; k_whole; intro t' h' tk' p' F' N')
      | (refine' Spec.use (quote_spec _ _ (by l_fact) _) (by k_asm) (by k_asm) (by k_asm) (by k_asm) (by k_asm) (by exact rfl) (by ktr_room) (by ktr_units) ?_; k_whole; intro t' h' tk' p' F' N')))
  unfold SpecP
  intro dp un gd cn cs a ccd cl outer A₀ base h₀ L m s Q E B F X N T hk hd hu hret
  refine wpAny_call ?_
  k_dflt cell_enter
  refine wpAny_toksQ 1 (Nat.le_add_left _ _) ?_
  k_fold
  k_with_none
  k_with "k_ne" => (first | assumption | exact Ne.symm (by assumption) | exact And.left (by assumption) | exact Ne.symm (And.left (by assumption)) | exact And.left (And.right (by assumption)) | exact Ne.symm (And.left (And.right (by assumption))) | exact And.right (by assumption) | exact Ne.symm (And.right (by assumption)) | exact And.left (And.right (And.right (by assumption))) | exact Ne.symm (And.left (And.right (And.right (by assumption)))) | exact And.right (And.right (by assumption)) | exact Ne.symm (And.right (And.right (by assumption))) | exact And.left (And.right (And.right (And.right (by assumption)))) | exact Ne.symm (And.left (And.right (And.right (And.right (by assumption))))) | exact And.right (And.right (And.right (by assumption))) | exact Ne.symm (And.right (And.right (And.right (by assumption)))) | exact And.left (And.right (And.right (And.right (And.right (by assumption))))) | exact Ne.symm (And.left (And.right (And.right (And.right (And.right (by assumption)))))) | exact And.right (And.right (And.right (And.right (by assumption)))) | exact Ne.symm (And.right (And.right (And.right (And.right (by assumption))))) | exact And.left (And.right (And.right (And.right (And.right (And.right (by assumption)))))) | exact Ne.symm (And.left (And.right (And.right (And.right (And.right (And.right (by assumption))))))) | exact And.right (And.right (And.right (And.right (And.right (by assumption))))) | exact Ne.symm (And.right (And.right (And.right (And.right (And.right (by assumption)))))) | exact And.left (And.right (And.right (And.right (And.right (And.right (And.right (by assumption))))))) | exact Ne.symm (And.left (And.right (And.right (And.right (And.right (And.right (And.right (by assumption)))))))) | exact And.right (And.right (And.right (And.right (And.right (And.right (by assumption)))))) | exact Ne.symm (And.right (And.right (And.right (And.right (And.right (And.right (by assumption))))))) | exact And.left (And.right (And.right (And.right (And.right (And.right (And.right (And.right (by assumption)))))))) | exact Ne.symm (And.left (And.right (And.right (And.right (And.right (And.right (And.right (And.right (by assumption))))))))) | exact And.right (And.right (And.right (And.right (And.right (And.right (And.right (by assumption))))))) | exact Ne.symm (And.right (And.right (And.right (And.right (And.right (And.right (And.right (by assumption)))))))) | exact And.left (And.right (And.right (And.right (And.right (And.right (And.right (And.right (And.right (by assumption))))))))) | exact Ne.symm (And.left (And.right (And.right (And.right (And.right (And.right (And.right (And.right (And.right (by assumption)))))))))) | exact And.right (And.right (And.right (And.right (And.right (And.right (And.right (And.right (by assumption)))))))) | exact Ne.symm (And.right (And.right (And.right (And.right (And.right (And.right (And.right (And.right (by assumption))))))))) | exact And.left (And.right (And.right (And.right (And.right (And.right (And.right (And.right (And.right (And.right (by assumption)))))))))) | exact Ne.symm (And.left (And.right (And.right (And.right (And.right (And.right (And.right (And.right (And.right (And.right (by assumption))))))))))) | exact And.right (And.right (And.right (And.right (And.right (And.right (And.right (And.right (And.right (by assumption))))))))) | exact Ne.symm (And.right (And.right (And.right (And.right (And.right (And.right (And.right (And.right (And.right (by assumption)))))))))) | exact And.left (And.right (And.right (And.right (And.right (And.right (And.right (And.right (And.right (And.right (And.right (by assumption))))))))))) | exact Ne.symm (And.left (And.right (And.right (And.right (And.right (And.right (And.right (And.right (And.right (And.right (And.right (by assumption)))))))))))) | exact And.right (And.right (And.right (And.right (And.right (And.right (And.right (And.right (And.right (And.right (by assumption)))))))))) | exact Ne.symm (And.right (And.right (And.right (And.right (And.right (And.right (And.right (And.right (And.right (And.right (by assumption))))))))))) | exact And.left (And.right (And.right (And.right (And.right (And.right (And.right (And.right (And.right (And.right (And.right (And.right (by assumption)))))))))))) | exact Ne.symm (And.left (And.right (And.right (And.right (And.right (And.right (And.right (And.right (And.right (And.right (And.right (And.right (by assumption))))))))))))) | exact And.right (And.right (And.right (And.right (And.right (And.right (And.right (And.right (And.right (And.right (And.right (by assumption))))))))))) | exact Ne.symm (And.right (And.right (And.right (And.right (And.right (And.right (And.right (And.right (And.right (And.right (And.right (by assumption)))))))))))) | exact And.left (And.right (And.right (And.right (And.right (And.right (And.right (And.right (And.right (And.right (And.right (And.right (And.right (by assumption))))))))))))) | exact Ne.symm (And.left (And.right (And.right (And.right (And.right (And.right (And.right (And.right (And.right (And.right (And.right (And.right (And.right (by assumption)))))))))))))) | exact And.right (And.right (And.right (And.right (And.right (And.right (And.right (And.right (And.right (And.right (And.right (And.right (by assumption)))))))))))) | exact Ne.symm (And.right (And.right (And.right (And.right (And.right (And.right (And.right (And.right (And.right (And.right (And.right (And.right (by assumption))))))))))))))
  k_with "k_all" => (first | assumption | exact allLt_ne (by assumption) | exact allLt_ne (And.right (by assumption)) | exact allLt_ne (And.right (And.right (by assumption))) | exact allLt_ne (And.right (And.right (And.right (by assumption)))) | exact allLt_ne (And.right (And.right (And.right (And.right (by assumption))))) | exact allLt_ne (And.right (And.right (And.right (And.right (And.right (by assumption)))))) | exact allLt_ne (And.right (And.right (And.right (And.right (And.right (And.right (by assumption))))))) | exact allLt_ne (And.right (And.right (And.right (And.right (And.right (And.right (And.right (by assumption)))))))))
  k_with "execs cons" => (k_here; refine wpAny_execs_cons ?_; refine wpAny_toksQ 1 (by first | exact Nat.le_add_left _ _ | assumption) ?_; (try dsimp only))
  k_with "call builtin:str.split" => (k_here; k_dflt (refine' split_led (by k_asm) (by k_asm) (by decide +kernel) (by decide +kernel) (by l_fact) ?_; k_whole); intro _ _ _ _ _ _ _ zl; (try k_lt zl))
  k_with "subscriptTail Name Slice ref ref" => (k_here; (with_reducible show wpAny _ _ (subscriptTail _ (PySem.Expr.Slice _ _ none _) (Value.ref _) (Value.ref _)) _ _ _); k_dflt (refine' kmk_slice_lit (by k_asm) (by k_asm) (by kmk_list) (by kmk_part) (by kmk_part) (by exact pick_init _) ?_ (by with_unfolding_all rfl) (by kmk_pure) (by exact split_size (by assumption) (by l_fact)); k_whole); intro _ _ _ _ zl; (try k_lt zl))
  k_with "call ref" => (k_here; k_dflt (first
      | (refine' Spec.use (read_spec _ _ (by l_fact) _) (by k_asm) (by k_asm) (by k_asm) (by k_asm) (by k_asm) (by exact rfl) (by ktr_room) (by ktr_units) ?_; k_whole; intro t' h' tk' p' F' N')
      | (refine' Spec.use (quote_spec _ _ (by l_fact) _) (by k_asm) (by k_asm) (by k_asm) (by k_asm) (by k_asm) (by exact rfl) (by ktr_room) (by ktr_units) ?_; k_whole; intro t' h' tk' p' F' N')))
  k_with "pyIter ref" => refine Hold.mk ?_
  k_steps
  unfold Hold
  k_with_none
  k_with "k_ne" => (first | assumption | exact Ne.symm (by assumption) | exact And.left (by assumption) | exact Ne.symm (And.left (by assumption)) | exact And.left (And.right (by assumption)) | exact Ne.symm (And.left (And.right (by assumption))) | exact And.right (by assumption) | exact Ne.symm (And.right (by assumption)) | exact And.left (And.right (And.right (by assumption))) | exact Ne.symm (And.left (And.right (And.right (by assumption)))) | exact And.right (And.right (by assumption)) | exact Ne.symm (And.right (And.right (by assumption))) | exact And.left (And.right (And.right (And.right (by assumption)))) | exact Ne.symm (And.left (And.right (And.right (And.right (by assumption))))) | exact And.right (And.right (And.right (by assumption))) | exact Ne.symm (And.right (And.right (And.right (by assumption)))) | exact And.left (And.right (And.right (And.right (And.right (by assumption))))) | exact Ne.symm (And.left (And.right (And.right (And.right (And.right (by assumption)))))) | exact And.right (And.right (And.right (And.right (by assumption)))) | exact Ne.symm (And.right (And.right (And.right (And.right (by assumption))))) | exact And.left (And.right (And.right (And.right (And.right (And.right (by assumption)))))) | exact Ne.symm (And.left (And.right (And.right (And.right (And.right (And.right (by assumption))))))) | exact And.right (And.right (And.right (And.right (And.right (by assumption))))) | exact Ne.symm (And.right (And.right (And.right (And.right (And.right (by assumption)))))) | exact And.left (And.right (And.right (And.right (And.right (And.right (And.right (by assumption))))))) | exact Ne.symm (And.left (And.right (And.right (And.right (And.right (And.right (And.right (by assumption)))))))) | exact And.right (And.right (And.right (And.right (And.right (And.right (by assumption)))))) | exact Ne.symm (And.right (And.right (And.right (And.right (And.right (And.right (by assumption))))))) | exact And.left (And.right (And.right (And.right (And.right (And.right (And.right (And.right (by assumption)))))))) | exact Ne.symm (And.left (And.right (And.right (And.right (And.right (And.right (And.right (And.right (by assumption))))))))) | exact And.right (And.right (And.right (And.right (And.right (And.right (And.right (by assumption))))))) | exact Ne.symm (And.right (And.right (And.right (And.right (And.right (And.right (And.right (by assumption)))))))) | exact And.left (And.right (And.right (And.right (And.right (And.right (And.right (And.right (And.right (by assumption))))))))) | exact Ne.symm (And.left (And.right (And.right (And.right (And.right (And.right (And.right (And.right (And.right (by assumption)))))))))) | exact And.right (And.right (And.right (And.right (And.right (And.right (And.right (And.right (by assumption)))))))) | exact Ne.symm (And.right (And.right (And.right (And.right (And.right (And.right (And.right (And.right (by assumption))))))))) | exact And.left (And.right (And.right (And.right (And.right (And.right (And.right (And.right (And.right (And.right (by assumption)))))))))) | exact Ne.symm (And.left (And.right (And.right (And.right (And.right (And.right (And.right (And.right (And.right (And.right (by assumption))))))))))) | exact And.right (And.right (And.right (And.right (And.right (And.right (And.right (And.right (And.right (by assumption))))))))) | exact Ne.symm (And.right (And.right (And.right (And.right (And.right (And.right (And.right (And.right (And.right (by assumption)))))))))) | exact And.left (And.right (And.right (And.right (And.right (And.right (And.right (And.right (And.right (And.right (And.right (by assumption))))))))))) | exact Ne.symm (And.left (And.right (And.right (And.right (And.right (And.right (And.right (And.right (And.right (And.right (And.right (by assumption)))))))))))) | exact And.right (And.right (And.right (And.right (And.right (And.right (And.right (And.right (And.right (And.right (by assumption)))))))))) | exact Ne.symm (And.right (And.right (And.right (And.right (And.right (And.right (And.right (And.right (And.right (And.right (by assumption))))))))))) | exact And.left (And.right (And.right (And.right (And.right (And.right (And.right (And.right (And.right (And.right (And.right (And.right (by assumption)))))))))))) | exact Ne.symm (And.left (And.right (And.right (And.right (And.right (And.right (And.right (And.right (And.right (And.right (And.right (And.right (by assumption))))))))))))) | exact And.right (And.right (And.right (And.right (And.right (And.right (And.right (And.right (And.right (And.right (And.right (by assumption))))))))))) | exact Ne.symm (And.right (And.right (And.right (And.right (And.right (And.right (And.right (And.right (And.right (And.right (And.right (by assumption)))))))))))) | exact And.left (And.right (And.right (And.right (And.right (And.right (And.right (And.right (And.right (And.right (And.right (And.right (And.right (by assumption))))))))))))) | exact Ne.symm (And.left (And.right (And.right (And.right (And.right (And.right (And.right (And.right (And.right (And.right (And.right (And.right (And.right (by assumption)))))))))))))) | exact And.right (And.right (And.right (And.right (And.right (And.right (And.right (And.right (And.right (And.right (And.right (And.right (by assumption)))))))))))) | exact Ne.symm (And.right (And.right (And.right (And.right (And.right (And.right (And.right (And.right (And.right (And.right (And.right (And.right (by assumption))))))))))))))
  k_with "k_all" => (first | assumption | exact allLt_ne (by assumption) | exact allLt_ne (And.right (by assumption)) | exact allLt_ne (And.right (And.right (by assumption))) | exact allLt_ne (And.right (And.right (And.right (by assumption)))) | exact allLt_ne (And.right (And.right (And.right (And.right (by assumption))))) | exact allLt_ne (And.right (And.right (And.right (And.right (And.right (by assumption)))))) | exact allLt_ne (And.right (And.right (And.right (And.right (And.right (And.right (by assumption))))))) | exact allLt_ne (And.right (And.right (And.right (And.right (And.right (And.right (And.right (by assumption)))))))))
  k_with "execs cons" => (k_here; refine wpAny_execs_cons ?_; refine wpAny_toksQ 1 (by first | exact Nat.le_add_left _ _ | assumption) ?_; (try dsimp only))
  k_with "call builtin:str.split" => (k_here; k_dflt (refine' split_led (by k_asm) (by k_asm) (by decide +kernel) (by decide +kernel) (by l_fact) ?_; k_whole); intro _ _ _ _ _ _ _ zl; (try k_lt zl))
  k_with "subscriptTail Name Slice ref ref" => (k_here; (with_reducible show wpAny _ _ (subscriptTail _ (PySem.Expr.Slice _ _ none _) (Value.ref _) (Value.ref _)) _ _ _); k_dflt (refine' kmk_slice_lit (by k_asm) (by k_asm) (by kmk_list) (by kmk_part) (by kmk_part) (by exact pick_init _) ?_ (by with_unfolding_all rfl) (by kmk_pure) (by exact split_size (by assumption) (by l_fact)); k_whole); intro _ _ _ _ zl; (try k_lt zl))
  k_with "call ref" => (k_here; k_dflt (first
      | (refine' Spec.use (read_spec _ _ (by l_fact) _) (by k_asm) (by k_asm) (by k_asm) (by k_asm) (by k_asm) (by exact rfl) (by ktr_room) (by ktr_units) ?_; k_whole; intro t' h' tk' p' F' N')
      | (refine' Spec.use (quote_spec _ _ (by l_fact) _) (by k_asm) (by k_asm) (by k_asm) (by k_asm) (by k_asm) (by exact rfl) (by ktr_room) (by ktr_units) ?_; k_whole; intro t' h' tk' p' F' N')))
  refine' loop_listC (σ := PySem.Str × Tok × PySem.Str × Tok × Int × Tok) (fun c => [(PySem.Str.ofString "even", .str c.1 c.2.1), (PySem.Str.ofString "odd", .str c.2.2.1 c.2.2.2.1), (PySem.Str.ofString "more", .int c.2.2.2.2.1 c.2.2.2.2.2)]) [PySem.Str.ofString "row"] (PartInv x) (PySem.Str.ofString "", ?t1, PySem.Str.ofString "", ?t2, 0, ?t3) ?F ?N ?hm ?hk ?hp ?hh ?turn ?done
  case F => k_asm
  case N => k_asm
  case hm => k_mem
  case hk => kst_all
  case hh => rfl
  case hp => exact part_start _ _ _ _
  case turn =>
    rintro i v ⟨e, te, o, to, k, tk3⟩ u h tk I own hv hP hoff F₁ N₁
    dsimp only [kstB] at F₁
    obtain ⟨r, tr, rfl, hr⟩ := row_at (by assumption) hv
    have hroom := part_room hP hr
    have hcl : (PySem.Str.ofString "\r\n").length = 2 := by decide +kernel
    have hrl : (⟨(readL (r ++ PySem.Str.ofString "\r\n").cps.toList).toArray⟩ : PySem.Str).length ≤ 300 := by
      have h1 := readS_le (r ++ PySem.Str.ofString "\r\n")
      rw [len_add, hcl] at h1
      omega
    clear hv
    k_steps
    all_goals (refine' lendC (_, _, _, _, _, _) ?F ?N ?hn hoff ?hk ?hr ?hp; (case F => k_asm); (case N => k_asm); (case hn => kst_in); (case hk => kst_all); (case hr => ksw_same); (case hp => first | exact part_yes hP hr (by assumption) _ _ _ | exact part_no hP hr (by assumption) _ _ _))
  case done =>
    rintro ⟨e, te, o, to, k, tk3⟩ u h tk hP F₁ N₁
    dsimp only [kstB] at F₁
    rw [rows_count (by assumption)] at hP
    obtain ⟨hE, hl, hk1, hk2⟩ := part_end hP
    have hq : (⟨(dotL true (fixL o.cps.toList)).toArray⟩ : PySem.Str).length ≤ 4 * o.length := by
      have h1 := fixL_le _ o.cps.toList (Nat.le_refl _)
      have h2 := dotL_le true (fixL o.cps.toList)
      rw [codes_len o]
      show (dotL true (fixL o.cps.toList)).toArray.size ≤ _
      rw [List.size_toArray]
      omega
    have hrl := readS_le ⟨(dotL true (fixL o.cps.toList)).toArray⟩
    have hcl : (PySem.Str.ofString "\r\n").length = 2 := by decide +kernel
    dsimp only
    k_steps
    exact hret _ _ _ _ ⟨_, _, _, part_out hE _ _ _⟩ (by assumption) (by assumption) (cb_drop (by assumption) (by kcj_all)) (by first | assumption | exact And.right (And.right (by assumption)))
end Mine
end
section
open PySem PySem.W PyProof.Rows
set_option maxRecDepth 100000
namespace Mine
noncomputable abbrev WsC := Addr × List Value × Nat × Int × Tok × Int × Tok × Int × Tok
/-- the counts, one run of blanks longer -/
noncomputable def bump (cs : List Int) (b : Int) : List Int :=
  if (cs.length : Int) ≤ b then (cs ++ (List.replicate (b - cs.length + 1).toNat [(0 : Int)]).flatten).set b.toNat ((cs ++ (List.replicate (b - cs.length + 1).toNat [(0 : Int)]).flatten).getD b.toNat 0 + 1)
  else cs.set b.toNat (cs.getD b.toNat 0 + 1)
/-- Whitespace.__init__, sign by sign: b, n, nt, the counts -/
noncomputable def wsStep (c : Int × Int × Int × List Int) (k : Nat) : Int × Int × Int × List Int :=
  if k = 32 then (c.1 + 1, c.2.1 + 1, c.2.2.1, c.2.2.2) else (0, c.2.1 + 1, c.2.2.1 + 1, bump c.2.2.2 c.1)
noncomputable def wsRun (l : List Nat) : Int × Int × Int × List Int := l.foldl wsStep (0, 0, 0, [])
/-- what the loop keeps: address, values, epoch of the counts; b, n, nt -/
noncomputable def WsInv (pre : List Nat) (rest : List (Addr × Obj)) (i : Nat) (c : WsC) : Prop :=
  i ≤ pre.length ∧ ∃ ns, IntsAre c.2.1 ns ∧ (c.2.2.2.1, c.2.2.2.2.2.1, c.2.2.2.2.2.2.2.1, ns) = wsRun (pre.take i) ∧ AllLt c.1 rest ∧ 0 ≤ c.2.2.2.1 ∧ c.2.2.2.1 ≤ i ∧ ns.length ≤ i + 1 ∧ 0 ≤ c.2.2.2.2.2.1 ∧ c.2.2.2.2.2.1 ≤ i ∧ 0 ≤ c.2.2.2.2.2.2.2.1 ∧ c.2.2.2.2.2.2.2.1 ≤ i ∧ (∀ n ∈ ns, 0 ≤ n ∧ n ≤ i)
theorem wsRun_step {pre : List Nat} {i k : Nat} (h : pre[i]? = some k) : wsRun (pre.take (i + 1)) = wsStep (wsRun (pre.take i)) k := by
  unfold wsRun
  rw [List.take_add_one, h]
  simp
theorem blank_is : PySem.Str.ofString " " = ⟨#[32]⟩ := by decide +kernel
theorem tab_is : PySem.Str.ofString "\t" = ⟨#[9]⟩ := by decide +kernel
theorem sign_blank {cc : Nat} (h : ((⟨#[cc]⟩ : PySem.Str) == PySem.Str.ofString " ") = true) : cc = 32 := by
  rw [blank_is] at h; simpa using h
theorem sign_noblank {cc : Nat} (h : ((⟨#[cc]⟩ : PySem.Str) == PySem.Str.ofString " ") = false) : cc ≠ 32 := by
  rw [blank_is] at h; intro e; subst e; simp at h
theorem sign_tab {cc : Nat} (h : ((⟨#[cc]⟩ : PySem.Str) == PySem.Str.ofString "\t") = true) : cc = 9 := by
  rw [tab_is] at h; simpa using h
theorem sign_notab {cc : Nat} (h : ((⟨#[cc]⟩ : PySem.Str) == PySem.Str.ofString "\t") = false) : cc ≠ 9 := by
  rw [tab_is] at h; intro e; subst e; simp at h
section
variable {x : PySem.Str} {pre post : List Nat} {i cc : Nat}
theorem sign_at (hxp : x.cps.toList = pre ++ 120 :: post) (hi : i ≤ pre.length) (hcc : x.cps[i]? = some cc) : (i = pre.length ∧ cc = 120) ∨ pre[i]? = some cc := by
  have h : x.cps.toList[i]? = some cc := by simpa using hcc
  rw [hxp] at h
  by_cases hl : i < pre.length
  · right; rwa [List.getElem?_append_left hl] at h
  · left
    have e : i = pre.length := by omega
    subst e
    rw [List.getElem?_append_right (Nat.le_refl _)] at h
    simp at h
    exact ⟨rfl, h.symm⟩
theorem sign_over (hxp : x.cps.toList = pre ++ 120 :: post) (hpre : ∀ k ∈ pre, k = 32 ∨ k = 9) (hi : i ≤ pre.length) (hcc : x.cps[i]? = some cc) (h1 : cc ≠ 32) (h2 : cc ≠ 9) : i = pre.length := by
  rcases sign_at hxp hi hcc with h | h
  · exact h.1
  · rcases hpre cc (List.mem_of_getElem? h) with h3 | h3
    · exact absurd h3 h1
    · exact absurd h3 h2
variable {rest : List (Addr × Obj)} {cl : Addr} {vs : List Value} {nn : Nat} {b n nt : Int} {tb tn tnt : Tok} {ns : List Int}
theorem ws_blank (hxp : x.cps.toList = pre ++ 120 :: post) (hP : WsInv pre rest i (cl, vs, nn, b, tb, n, tn, nt, tnt)) (hcc : x.cps[i]? = some cc) (hc : ((⟨#[cc]⟩ : PySem.Str) == PySem.Str.ofString " ") = true) (tb' tn' tnt' : Tok) :
    WsInv pre rest (i + 1) (cl, vs, nn, b + 1, tb', n + 1, tn', nt, tnt') := by
  obtain ⟨hi, ns, hI, hrun, hlt, hb0, hb1, hlen, hn0, hn1, hnt0, hnt1, hns⟩ := hP
  have h32 := sign_blank hc
  have hp : pre[i]? = some cc := by
    rcases sign_at hxp hi hcc with h | h
    · omega
    · exact h
  have hil : i < pre.length := (List.getElem?_eq_some_iff.mp hp).1
  dsimp only at hI hrun hlt hb0 hb1 hn0 hn1 hnt0 hnt1
  refine ⟨by omega, ns, hI, ?_, hlt, by dsimp only; omega, by dsimp only; omega, by omega, by dsimp only; omega, by dsimp only; omega, by dsimp only; omega, by dsimp only; omega, fun m hm => ?_⟩
  · rw [wsRun_step hp, ← hrun]
    unfold wsStep
    rw [if_pos h32]
  · have := hns m hm; omega
theorem flat_zero : ∀ k : Nat, (List.replicate k [(0 : Int)]).flatten = List.replicate k 0
  | 0 => rfl
  | k + 1 => by rw [List.replicate_succ, List.flatten_cons, flat_zero k]; rfl
theorem bump_len (cs : List Int) (b : Int) (hb : 0 ≤ b) {j : Int} (h1 : b ≤ j) (h2 : (cs.length : Int) ≤ j + 1) : ((bump cs b).length : Int) ≤ j + 1 := by
  unfold bump
  split
  · rw [List.length_set, List.length_append, flat_zero, List.length_replicate]; omega
  · rw [List.length_set]; omega
theorem bump_le {cs : List Int} {b j : Int} (hj : 0 ≤ j) (hcs : ∀ n ∈ cs, 0 ≤ n ∧ n ≤ j) : ∀ n ∈ bump cs b, 0 ≤ n ∧ n ≤ j + 1 := by
  have key : ∀ (l : List Int) (k : Nat), (∀ n ∈ l, 0 ≤ n ∧ n ≤ j) → ∀ n ∈ l.set k (l.getD k 0 + 1), 0 ≤ n ∧ n ≤ j + 1 := by
    intro l k hl n hn
    rcases List.mem_or_eq_of_mem_set hn with h | h
    · have := hl n h; omega
    · have : l.getD k 0 = 0 ∨ l.getD k 0 ∈ l := by
        rw [List.getD_eq_getElem?_getD]
        cases hk : l[k]? with
        | none => left; rfl
        | some v => right; exact List.mem_of_getElem? hk
      rcases this with h0 | h0
      · omega
      · have := hl _ h0; omega
  unfold bump
  split
  · refine key _ _ fun n hn => ?_
    rcases List.mem_append.mp hn with h | h
    · exact hcs n h
    · rw [flat_zero] at h
      have := List.eq_of_mem_replicate h
      omega
  · exact key _ _ hcs
theorem ws_tab {cl' : Addr} {vs' : List Value} {nn' : Nat} {ns' : List Int} (hxp : x.cps.toList = pre ++ 120 :: post) (hi : i ≤ pre.length) (hrun : (b, n, nt, ns) = wsRun (pre.take i)) (hb0 : 0 ≤ b) (hb1 : b ≤ i) (hlen : ns.length ≤ i + 1) (hn0 : 0 ≤ n) (hn1 : n ≤ i) (hnt0 : 0 ≤ nt) (hnt1 : nt ≤ i) (hns : ∀ m ∈ ns, 0 ≤ m ∧ m ≤ i)
    (hcc : x.cps[i]? = some cc) (hc : ((⟨#[cc]⟩ : PySem.Str) == PySem.Str.ofString " ") = false) (hc2 : ((⟨#[cc]⟩ : PySem.Str) == PySem.Str.ofString "\t") = true) (hI' : IntsAre vs' ns') (he : ns' = bump ns b) (hlt : AllLt cl' rest) (tb' tn' tnt' : Tok) :
    WsInv pre rest (i + 1) (cl', vs', nn', 0, tb', n + 1, tn', nt + 1, tnt') := by
  have h9 := sign_tab hc2
  have h32 := sign_noblank hc
  have hp : pre[i]? = some cc := by
    rcases sign_at hxp hi hcc with h | h
    · omega
    · exact h
  have hil : i < pre.length := (List.getElem?_eq_some_iff.mp hp).1
  subst he
  have h1 := bump_len ns b hb0 hb1 (by omega)
  refine ⟨by omega, _, hI', ?_, hlt, Int.le_refl _, by dsimp only; omega, by omega, by dsimp only; omega, by dsimp only; omega, by dsimp only; omega, by dsimp only; omega, fun m hm => ?_⟩
  · rw [wsRun_step hp, ← hrun]
    unfold wsStep
    rw [if_neg h32]
  · have := bump_le (by omega) hns m hm; omega
theorem bump_more (h : (ns.length : Int) ≤ b) : bump ns b = (ns ++ (List.replicate (b - ns.length + 1).toNat [(0 : Int)]).flatten).set b.toNat ((ns ++ (List.replicate (b - ns.length + 1).toNat [(0 : Int)]).flatten).getD b.toNat 0 + 1) := by
  unfold bump; rw [if_pos h]
theorem bump_in (h : ¬ (ns.length : Int) ≤ b) : bump ns b = ns.set b.toNat (ns.getD b.toNat 0 + 1) := by
  unfold bump; rw [if_neg h]
theorem ws_start {l' : Addr} (hlt : AllLt l' rest) (t1 t2 t3 : Tok) : WsInv pre rest 0 (l', [], 0, 0, t1, 0, t2, 0, t3) :=
  ⟨Nat.zero_le _, [], IntsAre.nil, rfl, hlt, Int.le_refl _, Int.le_refl _, Nat.zero_le _, Int.le_refl _, Int.le_refl _, Int.le_refl _, Int.le_refl _, fun _ h => nomatch h⟩
end
theorem ws_lt4 {D p1 p2 p3 r1 r2 r3 : Addr} {o1 o2 o3 : Obj} {news own : List (Addr × Obj)} (h : p1 < D ∧ p2 < D ∧ p3 < D ∧ r1 < D ∧ r2 < D ∧ r3 < D ∧ AllLt D (news ++ own)) : AllLt D ((r1, o1) :: (r2, o2) :: (r3, o3) :: news) ∧ AllLt D own :=
  ⟨⟨h.2.2.2.1, h.2.2.2.2.1, h.2.2.2.2.2.1, allLt_left h.2.2.2.2.2.2⟩, allLt_right h.2.2.2.2.2.2⟩
theorem ws_off {cl cl' I : Addr} {o1 o2 : Obj} {rest own : List (Addr × Obj)} (hoff : ∀ p ∈ (cl, o1) :: rest, p.1 ∉ [I]) (h : AllLt cl' own) (ho : ∃ o, (I, o) ∈ own) : ∀ p ∈ (cl', o2) :: rest, p.1 ∉ [I] := by
  obtain ⟨o, ho⟩ := ho
  intro p hp
  rcases List.mem_cons.mp hp with e | hp
  · subst e
    intro hI
    exact allLt_ne h _ ho (List.mem_singleton.mp hI).symm
  · exact hoff p (.tail _ hp)
theorem ws_drop {h₀ h : Heap} {L : Addr} {a b c d : Addr × Obj} {news own : List (Addr × Obj)} (N : News h₀ L h (a :: b :: c :: d :: (news ++ own))) : News h₀ L h (a :: b :: c :: d :: news) :=
  fun p hp => N p (List.mem_append.mpr (Or.inl hp : p ∈ (a :: b :: c :: d :: news) ∨ p ∈ own))
theorem ws_off2 {cl I : Addr} {o1 o2 : Obj} {rest : List (Addr × Obj)} (hoff : ∀ p ∈ (cl, o1) :: rest, p.1 ∉ [I]) : ∀ p ∈ (cl, o2) :: rest, p.1 ∉ [I] := by
  intro p hp
  rcases List.mem_cons.mp hp with e | hp
  · subst e
    exact hoff (cl, o1) (.head _)
  · exact hoff p (.tail _ hp)
noncomputable abbrev wsEnt (p : Params) (name : String) (v : Value) (t : Tok) : DictEntry := { hash := PyData.keyHash p (PySem.Str.ofString name), key := .str (PySem.Str.ofString name) t, val := v }
/-- what a Whitespace made of x is: its parts' places and values -/
noncomputable abbrev wsNews (p : Params) (q dx nm ct : Addr) (vs : List Value) (b nt : Int) (tb tnt t1 t2 t3 t4 t5 : Tok) (v1 v2 v5 : Value) (news : List (Addr × Obj)) : List (Addr × Obj) :=
  (nm, { cls := .type "tuple", data := .seq #[.ref ct, .int b tb] }) :: (ct, { cls := .type "tuple", data := .seq vs.toArray }) :: (q, instObj 100 dx) ::
    (dx, dictOf [wsEnt p "raw" v1 t1, wsEnt p "n" v2 t2, wsEnt p "nt" (.int nt tnt) t3, wsEnt p "norm" (.ref nm) t4, wsEnt p "is_simple" v5 t5] 5) :: news
theorem ws_far {dx q ct nm : Addr} {news : List (Addr × Obj)} (h1 : ∀ p ∈ news, p.1 < dx) (h2 : dx < q) (h3 : AllLt ct news) (h4 : AllLt nm news) : ∀ p ∈ news, (@LT.lt Nat _ p.1 dx) ∧ (@LT.lt Nat _ p.1 q) ∧ (@LT.lt Nat _ p.1 ct) ∧ (@LT.lt Nat _ p.1 nm) :=
  fun p hp => ⟨h1 p hp, Nat.lt_trans (h1 p hp) h2, kst_ltOf h3 p hp, kst_ltOf h4 p hp⟩
end Mine
end
section
open PySem PySem.W PyProof.Rows
set_option Elab.async false
set_option pp.deepTerms false
set_option pp.deepTerms.threshold 12
namespace Mine
/-- indent_level's sum, j steps of its loop -/
noncomputable def lvlRun (ns : List Int) (z : Int) : Nat → Int
  | 0 => 0
  | j + 1 => lvlRun ns z j + (z + j).fdiv z * ns.getD (z + j).toNat 0
noncomputable def lvl (ns : List Int) (b nt z : Int) : Int := b + z * (lvlRun ns z ((ns.length : Int) - z).toNat + nt)
theorem fdiv_le {a z : Int} (ha : 0 ≤ a) (hz : 1 ≤ z) : 0 ≤ a.fdiv z ∧ a.fdiv z ≤ a := by
  rw [Int.fdiv_eq_ediv_of_nonneg _ (by omega)]
  exact ⟨Int.ediv_nonneg ha (by omega), Int.ediv_le_self _ ha⟩
theorem mul_le_sq {a b m : Int} (ha : 0 ≤ a) (hb : 0 ≤ b) (h1 : a ≤ m) (h2 : b ≤ m) : 0 ≤ a * b ∧ a * b ≤ m * m :=
  ⟨Int.mul_nonneg ha hb, Int.mul_le_mul h1 h2 hb (by omega)⟩
theorem getD_in {ns : List Int} {m : Int} (hm : 0 ≤ m) (h : ∀ n ∈ ns, 0 ≤ n ∧ n ≤ m) (i : Nat) : 0 ≤ ns.getD i 0 ∧ ns.getD i 0 ≤ m := by
  rw [List.getD_eq_getElem?_getD]
  cases hk : ns[i]? with
  | none => exact ⟨Int.le_refl _, hm⟩
  | some v => exact h v (List.mem_of_getElem? hk)
theorem lvl_turn {ns : List Int} {z : Int} {i : Nat} (hz : 1 ≤ z ∧ z ≤ 8) (hlen : ns.length ≤ 302) (hns : ∀ n ∈ ns, 0 ≤ n ∧ n ≤ 302) (hi : i < ((ns.length : Int) - z).toNat) : 0 ≤ (z + i).fdiv z ∧ (z + i).fdiv z ≤ 310 ∧ 0 ≤ ns.getD (z + i).toNat 0 ∧ ns.getD (z + i).toNat 0 ≤ 302 ∧ 0 ≤ (z + i).fdiv z * ns.getD (z + i).toNat 0 ∧ (z + i).fdiv z * ns.getD (z + i).toNat 0 ≤ 100000 := by
  have h1 := fdiv_le (a := z + i) (z := z) (by omega) hz.1
  have h2 := getD_in (by decide) hns (z + i).toNat
  have h3 := Int.mul_le_mul (a := (z + i).fdiv z) (b := ns.getD (z + i).toNat 0) (c := 310) (d := 302) (by omega) h2.2 h2.1 (by decide)
  have h4 := Int.mul_nonneg h1.1 h2.1
  exact ⟨h1.1, by omega, h2.1, h2.2, h4, by omega⟩
variable {w : World} {mg mb : PySem.Str → Option Value} {mean : ExcName → Option Value}
set_option maxRecDepth 100000 in
set_option maxHeartbeats 8000000 in
theorem ind_spec (q dx nm ct : Addr) (vs : List Value) (ns : List Int) (b nt z : Int) (tz tb tnt t1 t2 t3 t4 t5 : Tok) (v1 v2 v5 : Value) (hI : IntsAre vs ns) (hz : 1 ≤ z ∧ z ≤ 8) (hlen : ns.length ≤ 302) (hb : 0 ≤ b ∧ b ≤ 302) (hnt : 0 ≤ nt ∧ nt ≤ 302) (hns : ∀ n ∈ ns, 0 ≤ n ∧ n ≤ 302) (news) (hmem : ∀ p ∈ wsNews w.params q dx nm ct vs b nt tb tnt t1 t2 t3 t4 t5 v1 v2 v5 [], p ∈ news) :
    Spec PySem.Challenge.rw_sn0027_01.row.prog w (Mine.hd.heap_39 w.params) Mine.hd.view_39 loose mean mg mb 69 2 news [.ref q, .int z tz] (fun t => .int (lvl ns b nt z) t) := by
  k_fill
  k_with_none
  k_with "k_ne" => (first | assumption | exact Ne.symm (by assumption) | exact And.left (by assumption) | exact Ne.symm (And.left (by assumption)) | exact And.left (And.right (by assumption)) | exact Ne.symm (And.left (And.right (by assumption))) | exact And.right (by assumption) | exact Ne.symm (And.right (by assumption)) | exact And.left (And.right (And.right (by assumption))) | exact Ne.symm (And.left (And.right (And.right (by assumption)))) | exact And.right (And.right (by assumption)) | exact Ne.symm (And.right (And.right (by assumption))) | exact And.left (And.right (And.right (And.right (by assumption)))) | exact Ne.symm (And.left (And.right (And.right (And.right (by assumption))))) | exact And.right (And.right (And.right (by assumption))) | exact Ne.symm (And.right (And.right (And.right (by assumption)))) | exact And.left (And.right (And.right (And.right (And.right (by assumption))))) | exact Ne.symm (And.left (And.right (And.right (And.right (And.right (by assumption)))))) | exact And.right (And.right (And.right (And.right (by assumption)))) | exact Ne.symm (And.right (And.right (And.right (And.right (by assumption))))) | exact And.left (And.right (And.right (And.right (And.right (And.right (by assumption)))))) | exact Ne.symm (And.left (And.right (And.right (And.right (And.right (And.right (by assumption))))))) | exact And.right (And.right (And.right (And.right (And.right (by assumption))))) | exact Ne.symm (And.right (And.right (And.right (And.right (And.right (by assumption)))))) | exact And.left (And.right (And.right (And.right (And.right (And.right (And.right (by assumption))))))) | exact Ne.symm (And.left (And.right (And.right (And.right (And.right (And.right (And.right (by assumption)))))))) | exact And.right (And.right (And.right (And.right (And.right (And.right (by assumption)))))) | exact Ne.symm (And.right (And.right (And.right (And.right (And.right (And.right (by assumption))))))) | exact And.left (And.right (And.right (And.right (And.right (And.right (And.right (And.right (by assumption)))))))) | exact Ne.symm (And.left (And.right (And.right (And.right (And.right (And.right (And.right (And.right (by assumption))))))))) | exact And.right (And.right (And.right (And.right (And.right (And.right (And.right (by assumption))))))) | exact Ne.symm (And.right (And.right (And.right (And.right (And.right (And.right (And.right (by assumption)))))))) | exact And.left (And.right (And.right (And.right (And.right (And.right (And.right (And.right (And.right (by assumption))))))))) | exact Ne.symm (And.left (And.right (And.right (And.right (And.right (And.right (And.right (And.right (And.right (by assumption)))))))))) | exact And.right (And.right (And.right (And.right (And.right (And.right (And.right (And.right (by assumption)))))))) | exact Ne.symm (And.right (And.right (And.right (And.right (And.right (And.right (And.right (And.right (by assumption))))))))) | exact And.left (And.right (And.right (And.right (And.right (And.right (And.right (And.right (And.right (And.right (by assumption)))))))))) | exact Ne.symm (And.left (And.right (And.right (And.right (And.right (And.right (And.right (And.right (And.right (And.right (by assumption))))))))))) | exact And.right (And.right (And.right (And.right (And.right (And.right (And.right (And.right (And.right (by assumption))))))))) | exact Ne.symm (And.right (And.right (And.right (And.right (And.right (And.right (And.right (And.right (And.right (by assumption)))))))))) | exact And.left (And.right (And.right (And.right (And.right (And.right (And.right (And.right (And.right (And.right (And.right (by assumption))))))))))) | exact Ne.symm (And.left (And.right (And.right (And.right (And.right (And.right (And.right (And.right (And.right (And.right (And.right (by assumption)))))))))))) | exact And.right (And.right (And.right (And.right (And.right (And.right (And.right (And.right (And.right (And.right (by assumption)))))))))) | exact Ne.symm (And.right (And.right (And.right (And.right (And.right (And.right (And.right (And.right (And.right (And.right (by assumption))))))))))) | exact And.left (And.right (And.right (And.right (And.right (And.right (And.right (And.right (And.right (And.right (And.right (And.right (by assumption)))))))))))) | exact Ne.symm (And.left (And.right (And.right (And.right (And.right (And.right (And.right (And.right (And.right (And.right (And.right (And.right (by assumption))))))))))))) | exact And.right (And.right (And.right (And.right (And.right (And.right (And.right (And.right (And.right (And.right (And.right (by assumption))))))))))) | exact Ne.symm (And.right (And.right (And.right (And.right (And.right (And.right (And.right (And.right (And.right (And.right (And.right (by assumption)))))))))))) | exact And.left (And.right (And.right (And.right (And.right (And.right (And.right (And.right (And.right (And.right (And.right (And.right (And.right (by assumption))))))))))))) | exact Ne.symm (And.left (And.right (And.right (And.right (And.right (And.right (And.right (And.right (And.right (And.right (And.right (And.right (And.right (by assumption)))))))))))))) | exact And.right (And.right (And.right (And.right (And.right (And.right (And.right (And.right (And.right (And.right (And.right (And.right (by assumption)))))))))))) | exact Ne.symm (And.right (And.right (And.right (And.right (And.right (And.right (And.right (And.right (And.right (And.right (And.right (And.right (by assumption))))))))))))))
  k_with "k_all" => (first | assumption | exact allLt_ne (by assumption) | exact allLt_ne (And.right (by assumption)) | exact allLt_ne (And.right (And.right (by assumption))) | exact allLt_ne (And.right (And.right (And.right (by assumption)))) | exact allLt_ne (And.right (And.right (And.right (And.right (by assumption))))) | exact allLt_ne (And.right (And.right (And.right (And.right (And.right (by assumption)))))) | exact allLt_ne (And.right (And.right (And.right (And.right (And.right (And.right (by assumption))))))) | exact allLt_ne (And.right (And.right (And.right (And.right (And.right (And.right (And.right (by assumption)))))))))
  k_with "call builtin:len" => (k_here; k_dflt (refine' kun_lenT (by exact News.isTup (by k_asm) (by k_mem)) (by assumption) (by omega) ?_; k_whole))
  k_with "subscriptTail" => (k_here; (with_reducible show wpAny _ _ (subscriptTail _ _ (Value.ref _) (Value.int _ _)) _ _ _); (with_unfolding_all refine' item_tuple_ints (by exact News.isTup (by k_asm) (by k_mem)) (by assumption) (by omega) (by omega) (by omega) ?_; ); k_whole; intro _)
  unfold Spec
  intro dp un gd cn cs a ccd cl outer A₀ base h₀ L m s Q E B F X N₀ T hk hd hu hret
  have N : News h₀ L s.heap (wsNews w.params q dx nm ct vs b nt tb tnt t1 t2 t3 t4 t5 v1 v2 v5 news) := fun p hp => by
    rcases List.mem_append.mp (show p ∈ wsNews w.params q dx nm ct vs b nt tb tnt t1 t2 t3 t4 t5 v1 v2 v5 [] ++ news from hp) with h | h
    · exact N₀ p (hmem p h)
    · exact N₀ p h
  clear N₀
  dsimp only [wsNews, wsEnt] at N
  refine wpAny_call ?_
  k_dflt cell_enter
  refine wpAny_toksQ 1 (Nat.le_add_left _ _) ?_
  k_fold
  k_with_none
  k_with "k_ne" => (first | assumption | exact Ne.symm (by assumption) | exact And.left (by assumption) | exact Ne.symm (And.left (by assumption)) | exact And.left (And.right (by assumption)) | exact Ne.symm (And.left (And.right (by assumption))) | exact And.right (by assumption) | exact Ne.symm (And.right (by assumption)) | exact And.left (And.right (And.right (by assumption))) | exact Ne.symm (And.left (And.right (And.right (by assumption)))) | exact And.right (And.right (by assumption)) | exact Ne.symm (And.right (And.right (by assumption))) | exact And.left (And.right (And.right (And.right (by assumption)))) | exact Ne.symm (And.left (And.right (And.right (And.right (by assumption))))) | exact And.right (And.right (And.right (by assumption))) | exact Ne.symm (And.right (And.right (And.right (by assumption)))) | exact And.left (And.right (And.right (And.right (And.right (by assumption))))) | exact Ne.symm (And.left (And.right (And.right (And.right (And.right (by assumption)))))) | exact And.right (And.right (And.right (And.right (by assumption)))) | exact Ne.symm (And.right (And.right (And.right (And.right (by assumption))))) | exact And.left (And.right (And.right (And.right (And.right (And.right (by assumption)))))) | exact Ne.symm (And.left (And.right (And.right (And.right (And.right (And.right (by assumption))))))) | exact And.right (And.right (And.right (And.right (And.right (by assumption))))) | exact Ne.symm (And.right (And.right (And.right (And.right (And.right (by assumption)))))) | exact And.left (And.right (And.right (And.right (And.right (And.right (And.right (by assumption))))))) | exact Ne.symm (And.left (And.right (And.right (And.right (And.right (And.right (And.right (by assumption)))))))) | exact And.right (And.right (And.right (And.right (And.right (And.right (by assumption)))))) | exact Ne.symm (And.right (And.right (And.right (And.right (And.right (And.right (by assumption))))))) | exact And.left (And.right (And.right (And.right (And.right (And.right (And.right (And.right (by assumption)))))))) | exact Ne.symm (And.left (And.right (And.right (And.right (And.right (And.right (And.right (And.right (by assumption))))))))) | exact And.right (And.right (And.right (And.right (And.right (And.right (And.right (by assumption))))))) | exact Ne.symm (And.right (And.right (And.right (And.right (And.right (And.right (And.right (by assumption)))))))) | exact And.left (And.right (And.right (And.right (And.right (And.right (And.right (And.right (And.right (by assumption))))))))) | exact Ne.symm (And.left (And.right (And.right (And.right (And.right (And.right (And.right (And.right (And.right (by assumption)))))))))) | exact And.right (And.right (And.right (And.right (And.right (And.right (And.right (And.right (by assumption)))))))) | exact Ne.symm (And.right (And.right (And.right (And.right (And.right (And.right (And.right (And.right (by assumption))))))))) | exact And.left (And.right (And.right (And.right (And.right (And.right (And.right (And.right (And.right (And.right (by assumption)))))))))) | exact Ne.symm (And.left (And.right (And.right (And.right (And.right (And.right (And.right (And.right (And.right (And.right (by assumption))))))))))) | exact And.right (And.right (And.right (And.right (And.right (And.right (And.right (And.right (And.right (by assumption))))))))) | exact Ne.symm (And.right (And.right (And.right (And.right (And.right (And.right (And.right (And.right (And.right (by assumption)))))))))) | exact And.left (And.right (And.right (And.right (And.right (And.right (And.right (And.right (And.right (And.right (And.right (by assumption))))))))))) | exact Ne.symm (And.left (And.right (And.right (And.right (And.right (And.right (And.right (And.right (And.right (And.right (And.right (by assumption)))))))))))) | exact And.right (And.right (And.right (And.right (And.right (And.right (And.right (And.right (And.right (And.right (by assumption)))))))))) | exact Ne.symm (And.right (And.right (And.right (And.right (And.right (And.right (And.right (And.right (And.right (And.right (by assumption))))))))))) | exact And.left (And.right (And.right (And.right (And.right (And.right (And.right (And.right (And.right (And.right (And.right (And.right (by assumption)))))))))))) | exact Ne.symm (And.left (And.right (And.right (And.right (And.right (And.right (And.right (And.right (And.right (And.right (And.right (And.right (by assumption))))))))))))) | exact And.right (And.right (And.right (And.right (And.right (And.right (And.right (And.right (And.right (And.right (And.right (by assumption))))))))))) | exact Ne.symm (And.right (And.right (And.right (And.right (And.right (And.right (And.right (And.right (And.right (And.right (And.right (by assumption)))))))))))) | exact And.left (And.right (And.right (And.right (And.right (And.right (And.right (And.right (And.right (And.right (And.right (And.right (And.right (by assumption))))))))))))) | exact Ne.symm (And.left (And.right (And.right (And.right (And.right (And.right (And.right (And.right (And.right (And.right (And.right (And.right (And.right (by assumption)))))))))))))) | exact And.right (And.right (And.right (And.right (And.right (And.right (And.right (And.right (And.right (And.right (And.right (And.right (by assumption)))))))))))) | exact Ne.symm (And.right (And.right (And.right (And.right (And.right (And.right (And.right (And.right (And.right (And.right (And.right (And.right (by assumption))))))))))))))
  k_with "k_all" => (first | assumption | exact allLt_ne (by assumption) | exact allLt_ne (And.right (by assumption)) | exact allLt_ne (And.right (And.right (by assumption))) | exact allLt_ne (And.right (And.right (And.right (by assumption)))) | exact allLt_ne (And.right (And.right (And.right (And.right (by assumption))))) | exact allLt_ne (And.right (And.right (And.right (And.right (And.right (by assumption)))))) | exact allLt_ne (And.right (And.right (And.right (And.right (And.right (And.right (by assumption))))))) | exact allLt_ne (And.right (And.right (And.right (And.right (And.right (And.right (And.right (by assumption)))))))))
  k_with "call builtin:len" => (k_here; k_dflt (refine' kun_lenT (by exact News.isTup (by k_asm) (by k_mem)) (by assumption) (by omega) ?_; k_whole))
  k_with "subscriptTail" => (k_here; (with_reducible show wpAny _ _ (subscriptTail _ _ (Value.ref _) (Value.int _ _)) _ _ _); (with_unfolding_all refine' item_tuple_ints (by exact News.isTup (by k_asm) (by k_mem)) (by assumption) (by omega) (by omega) (by omega) ?_; ); k_whole; intro _)
  have hlz := hI.sizeZ
  k_with "pyIter ref" => refine Hold.mk ?_
  k_steps
  unfold Hold
  k_with_none
  k_with "k_ne" => (first | assumption | exact Ne.symm (by assumption) | exact And.left (by assumption) | exact Ne.symm (And.left (by assumption)) | exact And.left (And.right (by assumption)) | exact Ne.symm (And.left (And.right (by assumption))) | exact And.right (by assumption) | exact Ne.symm (And.right (by assumption)) | exact And.left (And.right (And.right (by assumption))) | exact Ne.symm (And.left (And.right (And.right (by assumption)))) | exact And.right (And.right (by assumption)) | exact Ne.symm (And.right (And.right (by assumption))) | exact And.left (And.right (And.right (And.right (by assumption)))) | exact Ne.symm (And.left (And.right (And.right (And.right (by assumption))))) | exact And.right (And.right (And.right (by assumption))) | exact Ne.symm (And.right (And.right (And.right (by assumption)))) | exact And.left (And.right (And.right (And.right (And.right (by assumption))))) | exact Ne.symm (And.left (And.right (And.right (And.right (And.right (by assumption)))))) | exact And.right (And.right (And.right (And.right (by assumption)))) | exact Ne.symm (And.right (And.right (And.right (And.right (by assumption))))) | exact And.left (And.right (And.right (And.right (And.right (And.right (by assumption)))))) | exact Ne.symm (And.left (And.right (And.right (And.right (And.right (And.right (by assumption))))))) | exact And.right (And.right (And.right (And.right (And.right (by assumption))))) | exact Ne.symm (And.right (And.right (And.right (And.right (And.right (by assumption)))))) | exact And.left (And.right (And.right (And.right (And.right (And.right (And.right (by assumption))))))) | exact Ne.symm (And.left (And.right (And.right (And.right (And.right (And.right (And.right (by assumption)))))))) | exact And.right (And.right (And.right (And.right (And.right (And.right (by assumption)))))) | exact Ne.symm (And.right (And.right (And.right (And.right (And.right (And.right (by assumption))))))) | exact And.left (And.right (And.right (And.right (And.right (And.right (And.right (And.right (by assumption)))))))) | exact Ne.symm (And.left (And.right (And.right (And.right (And.right (And.right (And.right (And.right (by assumption))))))))) | exact And.right (And.right (And.right (And.right (And.right (And.right (And.right (by assumption))))))) | exact Ne.symm (And.right (And.right (And.right (And.right (And.right (And.right (And.right (by assumption)))))))) | exact And.left (And.right (And.right (And.right (And.right (And.right (And.right (And.right (And.right (by assumption))))))))) | exact Ne.symm (And.left (And.right (And.right (And.right (And.right (And.right (And.right (And.right (And.right (by assumption)))))))))) | exact And.right (And.right (And.right (And.right (And.right (And.right (And.right (And.right (by assumption)))))))) | exact Ne.symm (And.right (And.right (And.right (And.right (And.right (And.right (And.right (And.right (by assumption))))))))) | exact And.left (And.right (And.right (And.right (And.right (And.right (And.right (And.right (And.right (And.right (by assumption)))))))))) | exact Ne.symm (And.left (And.right (And.right (And.right (And.right (And.right (And.right (And.right (And.right (And.right (by assumption))))))))))) | exact And.right (And.right (And.right (And.right (And.right (And.right (And.right (And.right (And.right (by assumption))))))))) | exact Ne.symm (And.right (And.right (And.right (And.right (And.right (And.right (And.right (And.right (And.right (by assumption)))))))))) | exact And.left (And.right (And.right (And.right (And.right (And.right (And.right (And.right (And.right (And.right (And.right (by assumption))))))))))) | exact Ne.symm (And.left (And.right (And.right (And.right (And.right (And.right (And.right (And.right (And.right (And.right (And.right (by assumption)))))))))))) | exact And.right (And.right (And.right (And.right (And.right (And.right (And.right (And.right (And.right (And.right (by assumption)))))))))) | exact Ne.symm (And.right (And.right (And.right (And.right (And.right (And.right (And.right (And.right (And.right (And.right (by assumption))))))))))) | exact And.left (And.right (And.right (And.right (And.right (And.right (And.right (And.right (And.right (And.right (And.right (And.right (by assumption)))))))))))) | exact Ne.symm (And.left (And.right (And.right (And.right (And.right (And.right (And.right (And.right (And.right (And.right (And.right (And.right (by assumption))))))))))))) | exact And.right (And.right (And.right (And.right (And.right (And.right (And.right (And.right (And.right (And.right (And.right (by assumption))))))))))) | exact Ne.symm (And.right (And.right (And.right (And.right (And.right (And.right (And.right (And.right (And.right (And.right (And.right (by assumption)))))))))))) | exact And.left (And.right (And.right (And.right (And.right (And.right (And.right (And.right (And.right (And.right (And.right (And.right (And.right (by assumption))))))))))))) | exact Ne.symm (And.left (And.right (And.right (And.right (And.right (And.right (And.right (And.right (And.right (And.right (And.right (And.right (And.right (by assumption)))))))))))))) | exact And.right (And.right (And.right (And.right (And.right (And.right (And.right (And.right (And.right (And.right (And.right (And.right (by assumption)))))))))))) | exact Ne.symm (And.right (And.right (And.right (And.right (And.right (And.right (And.right (And.right (And.right (And.right (And.right (And.right (by assumption))))))))))))))
  k_with "k_all" => (first | assumption | exact allLt_ne (by assumption) | exact allLt_ne (And.right (by assumption)) | exact allLt_ne (And.right (And.right (by assumption))) | exact allLt_ne (And.right (And.right (And.right (by assumption)))) | exact allLt_ne (And.right (And.right (And.right (And.right (by assumption))))) | exact allLt_ne (And.right (And.right (And.right (And.right (And.right (by assumption)))))) | exact allLt_ne (And.right (And.right (And.right (And.right (And.right (And.right (by assumption))))))) | exact allLt_ne (And.right (And.right (And.right (And.right (And.right (And.right (And.right (by assumption)))))))))
  k_with "call builtin:len" => (k_here; k_dflt (refine' kun_lenT (by exact News.isTup (by k_asm) (by k_mem)) (by assumption) (by omega) ?_; k_whole))
  k_with "subscriptTail" => (k_here; (with_reducible show wpAny _ _ (subscriptTail _ _ (Value.ref _) (Value.int _ _)) _ _ _); (with_unfolding_all refine' item_tuple_ints (by exact News.isTup (by k_asm) (by k_mem)) (by assumption) (by omega) (by omega) (by omega) ?_; ); k_whole; intro _)
  refine' loop_range (σ := Int × Tok) ((ns.length : Int) - z).toNat (fun _ => ?news) (fun c => [(PySem.Str.ofString "il", .int c.1 c.2)]) [PySem.Str.ofString "i"] (fun i c => c.1 = lvlRun ns z i ∧ 0 ≤ c.1 ∧ c.1 ≤ i * 100000) (0, ?t) ?hr ?hs ?hn ?F ?N ?hk ?hp ?hh ?turn ?done
  case hr => assumption
  case hs => omega
  case hn => rfl
  case F => k_asm
  case N => k_asm
  case hk => kst_all
  case hp => exact ⟨rfl, Int.le_refl _, Int.le_refl _⟩
  case hh => rfl
  case turn =>
    rintro i t ⟨c, tc⟩ u h tk I own hi ⟨hc, hc0, hc1⟩ hoff hown hIo F₁ N₁
    dsimp only [kstB] at F₁ hc hc0 hc1
    simp only [List.cons_append] at N₁
    have hb1 := lvl_turn hz hlen hns hi
    have hj : 0 ≤ z + (i : Int) ∧ z + (i : Int) < ns.length := by omega
    k_steps
    refine' lend (_, _) ?F ?N ?hn ?ho ?hk ?hr ?hp
    case F => k_asm
    case N => k_asm
    case hn => kst_in
    case ho => exact hoff
    case hk => kst_all
    case hr => ksw_same
    case hp => exact ⟨by rw [hc]; rfl, by omega, by push_cast; omega⟩
  case done =>
    rintro ⟨c, tc⟩ u h tk ⟨hc, hc0, hc1⟩ F₁ N₁
    dsimp only [kstB] at F₁ hc hc0 hc1
    have hcb : c ≤ 30200000 := by omega
    k_steps
    subst hc
    exact hret _ _ _ (Nat.succ_pos _) (by assumption) (cb_drop (by assumption) (by kcj_all))
end Mine
end
section
open PySem PySem.W PyProof.Rows
set_option maxRecDepth 100000
namespace Mine
theorem dots_blanks (x : PySem.Str) : (repS x (PySem.Str.ofString ".") (PySem.Str.ofString " ")).cps.toList = x.cps.toList.map fun k => if k = 46 then 32 else k := by
  rw [dot_is, blank_is]
  exact one_char 46 32 x.cps.toList
theorem strs_take (ps : List (PySem.Str × Tok)) (k : Nat) : StrsAre ((strValues ps).take k) ((ps.map (·.1)).take k) := by
  induction ps generalizing k with
  | nil => cases k <;> exact .nil
  | cons p ps ih =>
    cases k with
    | zero => exact .nil
    | succ k => exact .cons _ _ (ih k)
theorem rows_of {l : List Nat} {ps : List (PySem.Str × Tok)} (he : ps.map (fun p => p.1.cps.toList) = splitS (PySem.Str.ofString "\r\n").cps.toList 0 l) :
    ∃ xs, StrsAre ((strValues ps).take ((strValues ps).length - 1)) xs ∧ xs.map (fun y => y.cps.toList) = rowsL l := by
  refine ⟨_, strs_take ps _, ?_⟩
  rw [crlf_is] at he
  have hr : rowsL l = (ps.map (fun p => p.1.cps.toList)).dropLast := by rw [he]; rfl
  rw [hr, List.dropLast_eq_take, List.map_take, List.map_map, List.length_map]
  simp [strValues, Function.comp_def]
theorem strs_at : ∀ {vs : List Value} {xs : List PySem.Str} {i : Nat} {v : Value}, StrsAre vs xs → vs[i]? = some v → ∃ y t, v = .str y t ∧ xs[i]? = some y
  | _, _, 0, v, .cons y t h, hv => ⟨y, t, by simpa using hv.symm, rfl⟩
  | _, _, i + 1, v, .cons y t h, hv => by
    obtain ⟨y', t', e, h'⟩ := strs_at (i := i) h (by simpa using hv)
    exact ⟨y', t', e, by simpa using h'⟩
theorem rows_small {l : List Nat} {xs : List PySem.Str} (hX : xs.map (fun y => y.cps.toList) = rowsL l) (hl : l.length ≤ 90) : xs.length ≤ 90 ∧ ∀ y ∈ xs, y.length ≤ 90 := by
  have h := rowsL_len l
  rw [← hX] at h
  have key : ∀ zs : List PySem.Str, zs.length ≤ rowsLen (zs.map fun y => y.cps.toList) ∧ ∀ y ∈ zs, y.length ≤ rowsLen (zs.map fun y => y.cps.toList) := by
    intro zs
    induction zs with
    | nil => exact ⟨Nat.zero_le _, fun _ h => nomatch h⟩
    | cons z zs ih =>
      have e : rowsLen ((z :: zs).map fun y => y.cps.toList) = z.length + 2 + rowsLen (zs.map fun y => y.cps.toList) := by
        rw [codes_len z]; rfl
      rw [e]
      refine ⟨by rw [List.length_cons]; omega, fun y hy => ?_⟩
      rcases List.mem_cons.mp hy with rfl | hy
      · omega
      · have := ih.2 y hy; omega
  have k := key xs
  exact ⟨by omega, fun y hy => by have := k.2 y hy; omega⟩
theorem ints_snoc {ys : List Value} {xs : List PySem.Str} {i : Nat} {y : PySem.Str} {t : Tok} (hg : IntsAre ys ((xs.take i).map fun y => (y.length : Int))) (hy : xs[i]? = some y) : IntsAre (ys ++ [.int (y.length : Int) t]) ((xs.take (i + 1)).map fun y => (y.length : Int)) := by
  rw [List.take_add_one, hy, List.map_append]
  exact hg.append (.cons _ _ .nil)
theorem strs_append {vs ws : List Value} {xs ys : List PySem.Str} (h : StrsAre vs xs) (k : StrsAre ws ys) : StrsAre (vs ++ ws) (xs ++ ys) := by
  induction h with
  | nil => exact k
  | cons y t h ih => exact .cons y t ih
theorem strs_reverse {vs : List Value} {xs : List PySem.Str} (h : StrsAre vs xs) : StrsAre vs.reverse xs.reverse := by
  induction h with
  | nil => exact .nil
  | cons y t h ih =>
    rw [List.reverse_cons, List.reverse_cons]
    exact strs_append ih (.cons y t .nil)
noncomputable abbrev blanksS (n : Nat) : PySem.Str := Txt.mul (PySem.Str.ofString " ") (n : Int)
theorem lead_strs {vs : List Value} {xs : List PySem.Str} (h : StrsAre vs xs) (z : PySem.Str) (t : Tok) : StrsAre (vs.reverse ++ vs ++ [Value.str z t]).toArray.toList (xs.reverse ++ xs ++ [z]) := by
  rw [List.toList_toArray]
  exact strs_append (strs_append (strs_reverse h) h) (.cons z t .nil)
theorem blanks_fold : ∀ (n : Nat) (acc : Array Nat), ((List.replicate n (#[32] : Array Nat)).foldl (· ++ ·) acc).toList = acc.toList ++ List.replicate n 32
  | 0, acc => by simp
  | n + 1, acc => by
    rw [List.replicate_succ, List.foldl_cons, blanks_fold n]
    simp [List.replicate_succ]
theorem blanks_codes (n : Nat) : (blanksS n).cps.toList = List.replicate n 32 := by
  unfold blanksS Txt.mul
  rw [blank_is]
  by_cases h0 : (n : Int) < 1
  · have : n = 0 := by omega
    subst this
    rfl
  · rw [if_neg h0]
    by_cases h1 : n = 1
    · subst h1; rfl
    · rw [if_neg (by simp [PySem.Str.length]; omega)]
      have := blanks_fold n #[]
      simpa using this
theorem blanks_len (n : Nat) : (blanksS n).length = n := by
  rw [codes_len, blanks_codes, List.length_replicate]
theorem sum_rows : ∀ xs : List PySem.Str, (xs.map (·.length)).sum + 2 * xs.length = rowsLen (xs.map fun y => y.cps.toList)
  | [] => rfl
  | x :: xs => by
    have e : rowsLen ((x :: xs).map fun y => y.cps.toList) = x.length + 2 + rowsLen (xs.map fun y => y.cps.toList) := by
      rw [codes_len x]; rfl
    rw [e, ← sum_rows xs]
    simp; omega
theorem lead_weight {l : List Nat} {xs : List PySem.Str} (hX : xs.map (fun y => y.cps.toList) = rowsL l) (hl : l.length ≤ 90) : ((xs.reverse ++ xs ++ [blanksS xs.length]).map (·.length)).sum + (xs.reverse ++ xs ++ [blanksS xs.length]).length ≤ 280 := by
  have h := rowsL_len l
  rw [← hX, ← sum_rows] at h
  have e : (xs.reverse.map (·.length)).sum = (xs.map (·.length)).sum := by rw [List.map_reverse, List.sum_reverse]
  rw [List.map_append, List.map_append, List.sum_append, List.sum_append, e, List.length_append, List.length_append, List.length_reverse]
  simp only [List.map_cons, List.map_nil, List.sum_cons, List.sum_nil, blanks_len, List.length_cons, List.length_nil]
  omega
/-- the lead ahead of its x -/
noncomputable def leadL (rs : List (List Nat)) : List Nat := joinS [9] (rs.reverse ++ rs ++ [List.replicate rs.length 32])
theorem lead_codes {rs : List (List Nat)} {xs : List PySem.Str} (hX : xs.map (fun y => y.cps.toList) = rs) : (Txt.join (PySem.Str.ofString "\t") (xs.reverse ++ xs ++ [blanksS xs.length]) ++ PySem.Str.ofString "x \t").cps.toList = leadL rs ++ 120 :: [32, 9] := by
  have e0 : (PySem.Str.ofString "x \t").cps.toList = [120, 32, 9] := by decide +kernel
  rw [codes_add, e0]
  have e1 : Txt.join (PySem.Str.ofString "\t") (xs.reverse ++ xs ++ [blanksS xs.length]) = PySem.Str.join (PySem.Str.ofString "\t") (xs.reverse ++ xs ++ [blanksS xs.length]) := StrLaws.glued_eq_join _ _
  rw [e1, join_codes, tab_is]
  unfold leadL
  subst hX
  simp [blanks_codes, List.map_reverse]
theorem joinS_mem {z : List Nat} {p : Nat → Prop} (hz : ∀ k ∈ z, p k) : ∀ ps : List (List Nat), (∀ r ∈ ps, ∀ k ∈ r, p k) → ∀ k ∈ joinS z ps, p k
  | [], _, k, h => nomatch h
  | [r], hp, k, h => hp r (.head _) k h
  | r :: q :: ps, hp, k, h => by
    have h' : k ∈ r ++ z ++ joinS z (q :: ps) := h
    rcases List.mem_append.mp h' with h' | h'
    · rcases List.mem_append.mp h' with h' | h'
      · exact hp r (.head _) k h'
      · exact hz k h'
    · exact joinS_mem hz (q :: ps) (fun r hr => hp r (.tail _ hr)) k h'
theorem lead_plain {rs : List (List Nat)} (h : ∀ r ∈ rs, ∀ k ∈ r, k = 32) : ∀ k ∈ leadL rs, k = 32 ∨ k = 9 := by
  refine joinS_mem (fun k hk => .inr (List.mem_singleton.mp hk)) _ fun r hr k hk => ?_
  rcases List.mem_append.mp hr with hr | hr
  · rcases List.mem_append.mp hr with hr | hr
    · exact .inl (h r (List.mem_reverse.mp hr) k hk)
    · exact .inl (h r hr k hk)
  · rw [List.mem_singleton.mp hr] at hk
    exact .inl (List.eq_of_mem_replicate hk)
theorem lead_len {sep : PySem.Str} {ys : List PySem.Str} (hs : sep.length ≤ 1) (hw : (ys.map (·.length)).sum + ys.length ≤ 280) : (Txt.join sep ys).length ≤ 280 := by
  have e1 : Txt.join sep ys = PySem.Str.join sep ys := StrLaws.glued_eq_join _ _
  rw [e1]
  have h := StrLaws.join_length_le sep ys
  have h2 : ys.length * sep.length ≤ ys.length * 1 := Nat.mul_le_mul_left _ hs
  omega
theorem lead_small {y : PySem.Str} (h : y.length ≤ 280) : (y ++ PySem.Str.ofString "x \t").length ≤ 300 := by
  have e0 : (PySem.Str.ofString "x \t").length = 3 := by decide +kernel
  rw [len_add, e0]; omega
/-- the test of the pairs -/
noncomputable def tst (z a b : Int) : Bool := decide (a > b) && ((a - b).fmod z == 0)
/-- how many pairs tell, of the first i ones -/
noncomputable def pairsTo (ls : List Int) (z : Int) : Nat → Nat
  | 0 => 0
  | i + 1 => pairsTo ls z i + ls.countP (tst z (ls.getD i 0))
noncomputable def hookAt (rs : List (List Nat)) (z : Int) : Int :=
  let r := wsRun (leadL rs)
  let ls := rs.map fun r => (r.length : Int)
  lvl r.2.2.2 r.1 r.2.2.1 z - (rs.length : Int) - 2 * z * ((rs.length : Int) + (pairsTo ls z ls.length : Int))
noncomputable def hooksL (rs : List (List Nat)) (k : Nat) : List Int := (List.range k).map fun (j : Nat) => hookAt rs (1 + (j : Int))
theorem pairsTo_le (ls : List Int) (z : Int) : ∀ i, pairsTo ls z i ≤ i * ls.length
  | 0 => Nat.zero_le _
  | i + 1 => by
    have h := pairsTo_le ls z i
    have h2 : ls.countP (tst z (ls.getD i 0)) ≤ ls.length := List.countP_le_length
    rw [Nat.add_mul, Nat.one_mul]
    exact Nat.add_le_add h h2
theorem countP_step (ls : List Int) (p : Int → Bool) (j : Nat) (b : Int) (h : ls[j]? = some b) : (ls.take (j + 1)).countP p = (ls.take j).countP p + if p b then 1 else 0 := by
  rw [List.take_add_one, h, List.countP_append]
  simp [List.countP_cons]
theorem hgl_le {xs : List PySem.Str} (h : ∀ y ∈ xs, y.length ≤ 90) {j : Nat} {a : Int} (ha : (xs.map fun y => (y.length : Int))[j]? = some a) : 0 ≤ a ∧ a ≤ 90 := by
  obtain ⟨y, hy, rfl⟩ := List.mem_map.mp (List.mem_of_getElem? ha)
  have := h y hy
  omega
section
variable {ls : List Int} {z a b : Int} {j j2 P : Nat} {zs : List Value} {v : Value}
theorem pair_yes (h : zs.length = P + (ls.take j2).countP (tst z a)) (hb : ls[j2]? = some b) (h1 : b < a) (h2 : (a - b).fmod z = 0) : (zs ++ [v]).length = P + (ls.take (j2 + 1)).countP (tst z a) := by
  rw [countP_step _ _ _ _ hb]
  have : tst z a b = true := by simp [tst, h1, h2]
  rw [this, List.length_append, h]
  simp; omega
theorem pair_no (h : zs.length = P + (ls.take j2).countP (tst z a)) (hb : ls[j2]? = some b) (h2 : (a - b).fmod z ≠ 0) : zs.length = P + (ls.take (j2 + 1)).countP (tst z a) := by
  rw [countP_step _ _ _ _ hb]
  have : tst z a b = false := by simp [tst, h2]
  rw [this, h]
  simp
theorem pair_less (h : zs.length = P + (ls.take j2).countP (tst z a)) (hb : ls[j2]? = some b) (h1 : ¬ b < a) : zs.length = P + (ls.take (j2 + 1)).countP (tst z a) := by
  rw [countP_step _ _ _ _ hb]
  have : tst z a b = false := by simp [tst, h1]
  rw [this, h]
  simp
theorem pairs_small (hl : ls.length ≤ 90) (hj : j ≤ 90) : pairsTo ls z j ≤ 8100 := by
  have h1 := pairsTo_le ls z j
  have h2 : j * ls.length ≤ 90 * 90 := Nat.mul_le_mul hj hl
  omega
theorem pair_small (hl : ls.length ≤ 90) (hj : j ≤ 90) : pairsTo ls z j + (ls.take j2).countP (tst z a) ≤ 10000 := by
  have h1 := pairs_small (z := z) hl hj
  have h2 : (ls.take j2).countP (tst z a) ≤ (ls.take j2).length := List.countP_le_length
  rw [List.length_take] at h2
  omega
theorem pair_row {n : Nat} (h : zs.length = pairsTo ls z j + (ls.take n).countP (tst z a)) (hn : n = ls.length) (ha : ls[j]? = some a) : zs.length = pairsTo ls z (j + 1) := by
  subst hn
  rw [List.take_length] at h
  rw [h]
  show _ = pairsTo ls z j + ls.countP (tst z (ls.getD j 0))
  rw [List.getD_eq_getElem?_getD, ha]
  rfl
end
noncomputable def wsOk (c : Int × Int × Int × List Int) (k : Nat) : Prop := 0 ≤ c.1 ∧ c.1 ≤ k ∧ 0 ≤ c.2.2.1 ∧ c.2.2.1 ≤ k ∧ c.2.2.2.length ≤ k + 1 ∧ ∀ n ∈ c.2.2.2, 0 ≤ n ∧ n ≤ k
theorem wsStep_ok {c : Int × Int × Int × List Int} {k : Nat} (h : wsOk c k) (x : Nat) : wsOk (wsStep c x) (k + 1) := by
  obtain ⟨h1, h2, h3, h4, h5, h6⟩ := h
  unfold wsStep
  split
  · exact ⟨by dsimp only; omega, by dsimp only; omega, by dsimp only; omega, by dsimp only; omega, by dsimp only; omega, fun n hn => by have := h6 n hn; omega⟩
  · refine ⟨Int.le_refl _, by dsimp only; omega, by dsimp only; omega, by dsimp only; omega, ?_, fun n hn => ?_⟩
    · have := bump_len c.2.2.2 c.1 h1 (j := (k : Int) + 1) (by omega) (by omega)
      dsimp only
      omega
    · have := bump_le (b := c.1) (j := (k : Int)) (by omega) h6 n hn
      push_cast
      exact this
theorem wsFold_ok : ∀ (l : List Nat) (c : Int × Int × Int × List Int) (k : Nat), wsOk c k → wsOk (l.foldl wsStep c) (k + l.length)
  | [], _, _, h => h
  | x :: l, c, k, h => by
    have := wsFold_ok l (wsStep c x) (k + 1) (wsStep_ok h x)
    rw [List.length_cons, show k + (l.length + 1) = k + 1 + l.length by omega]
    exact this
theorem wsRun_ok (l : List Nat) : wsOk (wsRun l) l.length := by
  have := wsFold_ok l (0, 0, 0, []) 0 ⟨Int.le_refl _, Int.le_refl _, Int.le_refl _, Int.le_refl _, Nat.zero_le _, fun _ h => nomatch h⟩
  rw [Nat.zero_add] at this
  exact this
theorem lead_short {rs : List (List Nat)} {xs : List PySem.Str} (hX : xs.map (fun y => y.cps.toList) = rs) (h : (Txt.join (PySem.Str.ofString "\t") (xs.reverse ++ xs ++ [blanksS xs.length])).length ≤ 280) : (leadL rs).length ≤ 280 := by
  have h1 := lead_small h
  have h2 := congrArg List.length (lead_codes hX)
  have e0 : (PySem.Str.ofString "x \t").length = 3 := by decide +kernel
  rw [← codes_len, len_add, e0, List.length_append] at h2
  simp only [List.length_cons, List.length_nil] at h2
  omega
theorem lead_ok {rs : List (List Nat)} {b n nt : Int} {ns : List Int} (hrun : (b, n, nt, ns) = wsRun (leadL rs)) (h : (leadL rs).length ≤ 280) : ns.length ≤ 302 ∧ (0 ≤ b ∧ b ≤ 302) ∧ (0 ≤ nt ∧ nt ≤ 302) ∧ ∀ n ∈ ns, 0 ≤ n ∧ n ≤ 302 := by
  have k := wsRun_ok (leadL rs)
  rw [← hrun] at k
  obtain ⟨h1, h2, h3, h4, h5, h6⟩ := k
  dsimp only at h1 h2 h3 h4 h5 h6
  exact ⟨by omega, ⟨h1, by omega⟩, ⟨h3, by omega⟩, fun n hn => by have := h6 n hn; omega⟩
theorem hook_is {rs : List (List Nat)} {xs : List PySem.Str} {b n nt : Int} {ns : List Int} {z : Int} {k : Nat} (hX : xs.map (fun y => y.cps.toList) = rs) (hrun : (b, n, nt, ns) = wsRun (leadL rs)) (hk : k = xs.length) :
    lvl ns b nt z - (xs.length : Int) - 2 * z * ((xs.length : Int) + (pairsTo (xs.map fun y => (y.length : Int)) z k : Nat)) = hookAt rs z := by
  subst hk hX
  unfold hookAt
  rw [← hrun]
  simp only [List.length_map, List.map_map, Function.comp_def, ← codes_len]
theorem hooks_snoc {rs : List (List Nat)} {ys : List Value} {i : Nat} {v : Int} {t : Tok} (hg : IntsAre ys (hooksL rs i)) (hv : v = hookAt rs (1 + (i : Int))) : IntsAre (ys ++ [.int v t]) (hooksL rs (i + 1)) := by
  subst hv
  unfold hooksL
  rw [List.range_succ, List.map_append]
  exact hg.append (.cons _ _ .nil)
end Mine
end
section
open PySem PySem.W PyProof.Rows
set_option Elab.async false
set_option pp.deepTerms false
set_option pp.deepTerms.threshold 12
namespace Mine
variable {w : World} {mg mb : PySem.Str → Option Value} {mean : ExcName → Option Value}
/-- Whitespace(x), called -/
noncomputable def SpecW (prog : Program) (w : World) (K : Frag) (p : Program) (loose : List PySem.Str) (mean : ExcName → Option Value) (mg mb : PySem.Str → Option Value) (news : List (Addr × Obj)) (args : List Value) (pre : List Nat) : Prop :=
  ∀ (dp un : Nat) (gd : Option (List Code)) (cn : PySem.Str) (cs : Scope) (a : Addr) (ccd : Value) (cl : List (PySem.Str × Addr)) (outer : List Env) (A₀ : Around) (base h₀ : Heap) (L : Addr) (m : PySem.Str → Option Value) (s : Shared) (Q E : Value → Shared → Prop),
    Below A₀ base outer h₀ → Fr h₀ L s.heap m → K.In h₀ → News h₀ L s.heap news → Top p loose mean mg mb h₀ → cs.kind = .function → dp + 3 < recursionLimit → un + 8 * 3 < cLine →
    (∀ (q dx nm ct : Addr) (vs : List Value) (ns : List Int) (b n nt : Int) (tb tnt t1 t2 t3 t4 t5 : Tok) (v1 v2 v5 : Value) (h' : Heap) (tk' : Nat), (b, n, nt, ns) = wsRun pre → IntsAre vs ns → (∀ p ∈ news, (@LT.lt Nat _ p.1 dx) ∧ (@LT.lt Nat _ p.1 q) ∧ (@LT.lt Nat _ p.1 ct) ∧ (@LT.lt Nat _ p.1 nm)) → Fr h₀ L h' m → News h₀ L h' (wsNews w.params q dx nm ct vs b nt tb tnt t1 t2 t3 t4 t5 v1 v2 v5 news) → Q (.ref q) { s with heap := h', toks := tk' }) →
      wpAny (model prog w) (ktrTop dp un gd cn cs L a ccd cl outer) (call (.ref 100) args) Q E s
theorem SpecW.use {prog : Program} {w : World} {K : Frag} {p : Program} {loose : List PySem.Str} {mean : ExcName → Option Value} {mg mb : PySem.Str → Option Value} {news : List (Addr × Obj)} {args : List Value} {pre : List Nat}
    {dp un : Nat} {gd : Option (List Code)} {cn : PySem.Str} {cs : Scope} {a : Addr} {ccd : Value} {cl : List (PySem.Str × Addr)} {outer : List Env} {A₀ : Around} {base h₀ : Heap} {L : Addr} {m : PySem.Str → Option Value} {s : Shared} {Q E : Value → Shared → Prop}
    (S : SpecW prog w K p loose mean mg mb news args pre) (B : Below A₀ base outer h₀) (F : Fr h₀ L s.heap m) (X : K.In h₀) (N : News h₀ L s.heap news) (T : Top p loose mean mg mb h₀) (hk : cs.kind = .function) (hd : dp + 3 < recursionLimit) (hu : un + 8 * 3 < cLine)
    (hq : ∀ (q dx nm ct : Addr) (vs : List Value) (ns : List Int) (b n nt : Int) (tb tnt t1 t2 t3 t4 t5 : Tok) (v1 v2 v5 : Value) (h' : Heap) (tk' : Nat), (b, n, nt, ns) = wsRun pre → IntsAre vs ns → (∀ p ∈ news, (@LT.lt Nat _ p.1 dx) ∧ (@LT.lt Nat _ p.1 q) ∧ (@LT.lt Nat _ p.1 ct) ∧ (@LT.lt Nat _ p.1 nm)) → Fr h₀ L h' m → News h₀ L h' (wsNews w.params q dx nm ct vs b nt tb tnt t1 t2 t3 t4 t5 v1 v2 v5 news) → Q (.ref q) { s with heap := h', toks := tk' }) :
    wpAny (model prog w) (ktrTop dp un gd cn cs L a ccd cl outer) (call (.ref 100) args) Q E s := S dp un gd cn cs a ccd cl outer A₀ base h₀ L m s Q E B F X N T hk hd hu hq
set_option maxRecDepth 100000 in
set_option maxHeartbeats 8000000 in
theorem ws_spec (x : PySem.Str) (t : Tok) (hx : x.length ≤ 300) (pre post : List Nat) (hxp : x.cps.toList = pre ++ 120 :: post) (hpre : ∀ k ∈ pre, k = 32 ∨ k = 9) (news) :
    SpecW PySem.Challenge.rw_sn0027_01.row.prog w (Mine.hd.heap_39 w.params) Mine.hd.view_39 loose mean mg mb news [.str x t] pre := by
  k_fill
  k_with_none
  k_with "k_ne" => (first | assumption | exact Ne.symm (by assumption) | exact And.left (by assumption) | exact Ne.symm (And.left (by assumption)) | exact And.left (And.right (by assumption)) | exact Ne.symm (And.left (And.right (by assumption))) | exact And.right (by assumption) | exact Ne.symm (And.right (by assumption)) | exact And.left (And.right (And.right (by assumption))) | exact Ne.symm (And.left (And.right (And.right (by assumption)))) | exact And.right (And.right (by assumption)) | exact Ne.symm (And.right (And.right (by assumption))) | exact And.left (And.right (And.right (And.right (by assumption)))) | exact Ne.symm (And.left (And.right (And.right (And.right (by assumption))))) | exact And.right (And.right (And.right (by assumption))) | exact Ne.symm (And.right (And.right (And.right (by assumption)))) | exact And.left (And.right (And.right (And.right (And.right (by assumption))))) | exact Ne.symm (And.left (And.right (And.right (And.right (And.right (by assumption)))))) | exact And.right (And.right (And.right (And.right (by assumption)))) | exact Ne.symm (And.right (And.right (And.right (And.right (by assumption))))) | exact And.left (And.right (And.right (And.right (And.right (And.right (by assumption)))))) | exact Ne.symm (And.left (And.right (And.right (And.right (And.right (And.right (by assumption))))))) | exact And.right (And.right (And.right (And.right (And.right (by assumption))))) | exact Ne.symm (And.right (And.right (And.right (And.right (And.right (by assumption)))))) | exact And.left (And.right (And.right (And.right (And.right (And.right (And.right (by assumption))))))) | exact Ne.symm (And.left (And.right (And.right (And.right (And.right (And.right (And.right (by assumption)))))))) | exact And.right (And.right (And.right (And.right (And.right (And.right (by assumption)))))) | exact Ne.symm (And.right (And.right (And.right (And.right (And.right (And.right (by assumption))))))) | exact And.left (And.right (And.right (And.right (And.right (And.right (And.right (And.right (by assumption)))))))) | exact Ne.symm (And.left (And.right (And.right (And.right (And.right (And.right (And.right (And.right (by assumption))))))))) | exact And.right (And.right (And.right (And.right (And.right (And.right (And.right (by assumption))))))) | exact Ne.symm (And.right (And.right (And.right (And.right (And.right (And.right (And.right (by assumption)))))))) | exact And.left (And.right (And.right (And.right (And.right (And.right (And.right (And.right (And.right (by assumption))))))))) | exact Ne.symm (And.left (And.right (And.right (And.right (And.right (And.right (And.right (And.right (And.right (by assumption)))))))))) | exact And.right (And.right (And.right (And.right (And.right (And.right (And.right (And.right (by assumption)))))))) | exact Ne.symm (And.right (And.right (And.right (And.right (And.right (And.right (And.right (And.right (by assumption))))))))) | exact And.left (And.right (And.right (And.right (And.right (And.right (And.right (And.right (And.right (And.right (by assumption)))))))))) | exact Ne.symm (And.left (And.right (And.right (And.right (And.right (And.right (And.right (And.right (And.right (And.right (by assumption))))))))))) | exact And.right (And.right (And.right (And.right (And.right (And.right (And.right (And.right (And.right (by assumption))))))))) | exact Ne.symm (And.right (And.right (And.right (And.right (And.right (And.right (And.right (And.right (And.right (by assumption)))))))))) | exact And.left (And.right (And.right (And.right (And.right (And.right (And.right (And.right (And.right (And.right (And.right (by assumption))))))))))) | exact Ne.symm (And.left (And.right (And.right (And.right (And.right (And.right (And.right (And.right (And.right (And.right (And.right (by assumption)))))))))))) | exact And.right (And.right (And.right (And.right (And.right (And.right (And.right (And.right (And.right (And.right (by assumption)))))))))) | exact Ne.symm (And.right (And.right (And.right (And.right (And.right (And.right (And.right (And.right (And.right (And.right (by assumption))))))))))) | exact And.left (And.right (And.right (And.right (And.right (And.right (And.right (And.right (And.right (And.right (And.right (And.right (by assumption)))))))))))) | exact Ne.symm (And.left (And.right (And.right (And.right (And.right (And.right (And.right (And.right (And.right (And.right (And.right (And.right (by assumption))))))))))))) | exact And.right (And.right (And.right (And.right (And.right (And.right (And.right (And.right (And.right (And.right (And.right (by assumption))))))))))) | exact Ne.symm (And.right (And.right (And.right (And.right (And.right (And.right (And.right (And.right (And.right (And.right (And.right (by assumption)))))))))))) | exact And.left (And.right (And.right (And.right (And.right (And.right (And.right (And.right (And.right (And.right (And.right (And.right (And.right (by assumption))))))))))))) | exact Ne.symm (And.left (And.right (And.right (And.right (And.right (And.right (And.right (And.right (And.right (And.right (And.right (And.right (And.right (by assumption)))))))))))))) | exact And.right (And.right (And.right (And.right (And.right (And.right (And.right (And.right (And.right (And.right (And.right (And.right (by assumption)))))))))))) | exact Ne.symm (And.right (And.right (And.right (And.right (And.right (And.right (And.right (And.right (And.right (And.right (And.right (And.right (by assumption))))))))))))))
  k_with "k_all" => (first | assumption | exact allLt_ne (by assumption) | exact allLt_ne (And.right (by assumption)) | exact allLt_ne (And.right (And.right (by assumption))) | exact allLt_ne (And.right (And.right (And.right (by assumption)))) | exact allLt_ne (And.right (And.right (And.right (And.right (by assumption))))) | exact allLt_ne (And.right (And.right (And.right (And.right (And.right (by assumption)))))) | exact allLt_ne (And.right (And.right (And.right (And.right (And.right (And.right (by assumption))))))) | exact allLt_ne (And.right (And.right (And.right (And.right (And.right (And.right (And.right (by assumption)))))))))
  k_with "call ref" => (k_here; k_dflt (refine' call_cls (by k_asm) (by k_asm) (by k_asm) (by k_is) (by k_is) (by k_is) ?_; k_whole; intro _ _ _ _ _ zl l2; (try k_lt zl); (try k_lt2 l2); (try k_sweep); cell_enter))
  k_with "call type:tuple" => (k_here; k_dflt (refine' kde_tupleOf (by k_asm) (by k_asm) (by exact News.isList (by k_asm) (by k_mem)) (by assumption) (by exact List.toList_toArray) ?_; k_whole); intro _ _ _ _ zl; (try k_lt zl); (try k_sweep))
  unfold SpecW
  intro dp un gd cn cs a ccd cl outer A₀ base h₀ L m s Q E B F X N T hk hd hu hret
  k_with_none
  k_with "k_ne" => (first | assumption | exact Ne.symm (by assumption) | exact And.left (by assumption) | exact Ne.symm (And.left (by assumption)) | exact And.left (And.right (by assumption)) | exact Ne.symm (And.left (And.right (by assumption))) | exact And.right (by assumption) | exact Ne.symm (And.right (by assumption)) | exact And.left (And.right (And.right (by assumption))) | exact Ne.symm (And.left (And.right (And.right (by assumption)))) | exact And.right (And.right (by assumption)) | exact Ne.symm (And.right (And.right (by assumption))) | exact And.left (And.right (And.right (And.right (by assumption)))) | exact Ne.symm (And.left (And.right (And.right (And.right (by assumption))))) | exact And.right (And.right (And.right (by assumption))) | exact Ne.symm (And.right (And.right (And.right (by assumption)))) | exact And.left (And.right (And.right (And.right (And.right (by assumption))))) | exact Ne.symm (And.left (And.right (And.right (And.right (And.right (by assumption)))))) | exact And.right (And.right (And.right (And.right (by assumption)))) | exact Ne.symm (And.right (And.right (And.right (And.right (by assumption))))) | exact And.left (And.right (And.right (And.right (And.right (And.right (by assumption)))))) | exact Ne.symm (And.left (And.right (And.right (And.right (And.right (And.right (by assumption))))))) | exact And.right (And.right (And.right (And.right (And.right (by assumption))))) | exact Ne.symm (And.right (And.right (And.right (And.right (And.right (by assumption)))))) | exact And.left (And.right (And.right (And.right (And.right (And.right (And.right (by assumption))))))) | exact Ne.symm (And.left (And.right (And.right (And.right (And.right (And.right (And.right (by assumption)))))))) | exact And.right (And.right (And.right (And.right (And.right (And.right (by assumption)))))) | exact Ne.symm (And.right (And.right (And.right (And.right (And.right (And.right (by assumption))))))) | exact And.left (And.right (And.right (And.right (And.right (And.right (And.right (And.right (by assumption)))))))) | exact Ne.symm (And.left (And.right (And.right (And.right (And.right (And.right (And.right (And.right (by assumption))))))))) | exact And.right (And.right (And.right (And.right (And.right (And.right (And.right (by assumption))))))) | exact Ne.symm (And.right (And.right (And.right (And.right (And.right (And.right (And.right (by assumption)))))))) | exact And.left (And.right (And.right (And.right (And.right (And.right (And.right (And.right (And.right (by assumption))))))))) | exact Ne.symm (And.left (And.right (And.right (And.right (And.right (And.right (And.right (And.right (And.right (by assumption)))))))))) | exact And.right (And.right (And.right (And.right (And.right (And.right (And.right (And.right (by assumption)))))))) | exact Ne.symm (And.right (And.right (And.right (And.right (And.right (And.right (And.right (And.right (by assumption))))))))) | exact And.left (And.right (And.right (And.right (And.right (And.right (And.right (And.right (And.right (And.right (by assumption)))))))))) | exact Ne.symm (And.left (And.right (And.right (And.right (And.right (And.right (And.right (And.right (And.right (And.right (by assumption))))))))))) | exact And.right (And.right (And.right (And.right (And.right (And.right (And.right (And.right (And.right (by assumption))))))))) | exact Ne.symm (And.right (And.right (And.right (And.right (And.right (And.right (And.right (And.right (And.right (by assumption)))))))))) | exact And.left (And.right (And.right (And.right (And.right (And.right (And.right (And.right (And.right (And.right (And.right (by assumption))))))))))) | exact Ne.symm (And.left (And.right (And.right (And.right (And.right (And.right (And.right (And.right (And.right (And.right (And.right (by assumption)))))))))))) | exact And.right (And.right (And.right (And.right (And.right (And.right (And.right (And.right (And.right (And.right (by assumption)))))))))) | exact Ne.symm (And.right (And.right (And.right (And.right (And.right (And.right (And.right (And.right (And.right (And.right (by assumption))))))))))) | exact And.left (And.right (And.right (And.right (And.right (And.right (And.right (And.right (And.right (And.right (And.right (And.right (by assumption)))))))))))) | exact Ne.symm (And.left (And.right (And.right (And.right (And.right (And.right (And.right (And.right (And.right (And.right (And.right (And.right (by assumption))))))))))))) | exact And.right (And.right (And.right (And.right (And.right (And.right (And.right (And.right (And.right (And.right (And.right (by assumption))))))))))) | exact Ne.symm (And.right (And.right (And.right (And.right (And.right (And.right (And.right (And.right (And.right (And.right (And.right (by assumption)))))))))))) | exact And.left (And.right (And.right (And.right (And.right (And.right (And.right (And.right (And.right (And.right (And.right (And.right (And.right (by assumption))))))))))))) | exact Ne.symm (And.left (And.right (And.right (And.right (And.right (And.right (And.right (And.right (And.right (And.right (And.right (And.right (And.right (by assumption)))))))))))))) | exact And.right (And.right (And.right (And.right (And.right (And.right (And.right (And.right (And.right (And.right (And.right (And.right (by assumption)))))))))))) | exact Ne.symm (And.right (And.right (And.right (And.right (And.right (And.right (And.right (And.right (And.right (And.right (And.right (And.right (by assumption))))))))))))))
  k_with "k_all" => (first | assumption | exact allLt_ne (by assumption) | exact allLt_ne (And.right (by assumption)) | exact allLt_ne (And.right (And.right (by assumption))) | exact allLt_ne (And.right (And.right (And.right (by assumption)))) | exact allLt_ne (And.right (And.right (And.right (And.right (by assumption))))) | exact allLt_ne (And.right (And.right (And.right (And.right (And.right (by assumption)))))) | exact allLt_ne (And.right (And.right (And.right (And.right (And.right (And.right (by assumption))))))) | exact allLt_ne (And.right (And.right (And.right (And.right (And.right (And.right (And.right (by assumption)))))))))
  k_with "call ref" => (k_here; k_dflt (refine' call_cls (by k_asm) (by k_asm) (by k_asm) (by k_is) (by k_is) (by k_is) ?_; k_whole; intro _ _ _ _ _ zl l2; (try k_lt zl); (try k_lt2 l2); (try k_sweep); cell_enter))
  k_with "call type:tuple" => (k_here; k_dflt (refine' kde_tupleOf (by k_asm) (by k_asm) (by exact News.isList (by k_asm) (by k_mem)) (by assumption) (by exact List.toList_toArray) ?_; k_whole); intro _ _ _ _ zl; (try k_lt zl); (try k_sweep))
  k_with "pyIter str" => refine Hold.mk ?_
  k_steps
  unfold Hold
  k_with_none
  k_with "k_ne" => (first | assumption | exact Ne.symm (by assumption) | exact And.left (by assumption) | exact Ne.symm (And.left (by assumption)) | exact And.left (And.right (by assumption)) | exact Ne.symm (And.left (And.right (by assumption))) | exact And.right (by assumption) | exact Ne.symm (And.right (by assumption)) | exact And.left (And.right (And.right (by assumption))) | exact Ne.symm (And.left (And.right (And.right (by assumption)))) | exact And.right (And.right (by assumption)) | exact Ne.symm (And.right (And.right (by assumption))) | exact And.left (And.right (And.right (And.right (by assumption)))) | exact Ne.symm (And.left (And.right (And.right (And.right (by assumption))))) | exact And.right (And.right (And.right (by assumption))) | exact Ne.symm (And.right (And.right (And.right (by assumption)))) | exact And.left (And.right (And.right (And.right (And.right (by assumption))))) | exact Ne.symm (And.left (And.right (And.right (And.right (And.right (by assumption)))))) | exact And.right (And.right (And.right (And.right (by assumption)))) | exact Ne.symm (And.right (And.right (And.right (And.right (by assumption))))) | exact And.left (And.right (And.right (And.right (And.right (And.right (by assumption)))))) | exact Ne.symm (And.left (And.right (And.right (And.right (And.right (And.right (by assumption))))))) | exact And.right (And.right (And.right (And.right (And.right (by assumption))))) | exact Ne.symm (And.right (And.right (And.right (And.right (And.right (by assumption)))))) | exact And.left (And.right (And.right (And.right (And.right (And.right (And.right (by assumption))))))) | exact Ne.symm (And.left (And.right (And.right (And.right (And.right (And.right (And.right (by assumption)))))))) | exact And.right (And.right (And.right (And.right (And.right (And.right (by assumption)))))) | exact Ne.symm (And.right (And.right (And.right (And.right (And.right (And.right (by assumption))))))) | exact And.left (And.right (And.right (And.right (And.right (And.right (And.right (And.right (by assumption)))))))) | exact Ne.symm (And.left (And.right (And.right (And.right (And.right (And.right (And.right (And.right (by assumption))))))))) | exact And.right (And.right (And.right (And.right (And.right (And.right (And.right (by assumption))))))) | exact Ne.symm (And.right (And.right (And.right (And.right (And.right (And.right (And.right (by assumption)))))))) | exact And.left (And.right (And.right (And.right (And.right (And.right (And.right (And.right (And.right (by assumption))))))))) | exact Ne.symm (And.left (And.right (And.right (And.right (And.right (And.right (And.right (And.right (And.right (by assumption)))))))))) | exact And.right (And.right (And.right (And.right (And.right (And.right (And.right (And.right (by assumption)))))))) | exact Ne.symm (And.right (And.right (And.right (And.right (And.right (And.right (And.right (And.right (by assumption))))))))) | exact And.left (And.right (And.right (And.right (And.right (And.right (And.right (And.right (And.right (And.right (by assumption)))))))))) | exact Ne.symm (And.left (And.right (And.right (And.right (And.right (And.right (And.right (And.right (And.right (And.right (by assumption))))))))))) | exact And.right (And.right (And.right (And.right (And.right (And.right (And.right (And.right (And.right (by assumption))))))))) | exact Ne.symm (And.right (And.right (And.right (And.right (And.right (And.right (And.right (And.right (And.right (by assumption)))))))))) | exact And.left (And.right (And.right (And.right (And.right (And.right (And.right (And.right (And.right (And.right (And.right (by assumption))))))))))) | exact Ne.symm (And.left (And.right (And.right (And.right (And.right (And.right (And.right (And.right (And.right (And.right (And.right (by assumption)))))))))))) | exact And.right (And.right (And.right (And.right (And.right (And.right (And.right (And.right (And.right (And.right (by assumption)))))))))) | exact Ne.symm (And.right (And.right (And.right (And.right (And.right (And.right (And.right (And.right (And.right (And.right (by assumption))))))))))) | exact And.left (And.right (And.right (And.right (And.right (And.right (And.right (And.right (And.right (And.right (And.right (And.right (by assumption)))))))))))) | exact Ne.symm (And.left (And.right (And.right (And.right (And.right (And.right (And.right (And.right (And.right (And.right (And.right (And.right (by assumption))))))))))))) | exact And.right (And.right (And.right (And.right (And.right (And.right (And.right (And.right (And.right (And.right (And.right (by assumption))))))))))) | exact Ne.symm (And.right (And.right (And.right (And.right (And.right (And.right (And.right (And.right (And.right (And.right (And.right (by assumption)))))))))))) | exact And.left (And.right (And.right (And.right (And.right (And.right (And.right (And.right (And.right (And.right (And.right (And.right (And.right (by assumption))))))))))))) | exact Ne.symm (And.left (And.right (And.right (And.right (And.right (And.right (And.right (And.right (And.right (And.right (And.right (And.right (And.right (by assumption)))))))))))))) | exact And.right (And.right (And.right (And.right (And.right (And.right (And.right (And.right (And.right (And.right (And.right (And.right (by assumption)))))))))))) | exact Ne.symm (And.right (And.right (And.right (And.right (And.right (And.right (And.right (And.right (And.right (And.right (And.right (And.right (by assumption))))))))))))))
  k_with "k_all" => (first | assumption | exact allLt_ne (by assumption) | exact allLt_ne (And.right (by assumption)) | exact allLt_ne (And.right (And.right (by assumption))) | exact allLt_ne (And.right (And.right (And.right (by assumption)))) | exact allLt_ne (And.right (And.right (And.right (And.right (by assumption))))) | exact allLt_ne (And.right (And.right (And.right (And.right (And.right (by assumption)))))) | exact allLt_ne (And.right (And.right (And.right (And.right (And.right (And.right (by assumption))))))) | exact allLt_ne (And.right (And.right (And.right (And.right (And.right (And.right (And.right (by assumption)))))))))
  k_with "call ref" => (k_here; k_dflt (refine' call_cls (by k_asm) (by k_asm) (by k_asm) (by k_is) (by k_is) (by k_is) ?_; k_whole; intro _ _ _ _ _ zl l2; (try k_lt zl); (try k_lt2 l2); (try k_sweep); cell_enter))
  k_with "call type:tuple" => (k_here; k_dflt (refine' kde_tupleOf (by k_asm) (by k_asm) (by exact News.isList (by k_asm) (by k_mem)) (by assumption) (by exact List.toList_toArray) ?_; k_whole); intro _ _ _ _ zl; (try k_lt zl); (try k_sweep))
  rename_i X0 DX es0
  refine' loop_str (σ := WsC) (fun c => (c.1, listOf c.2.1.toArray c.2.2.1) :: ?rest) (fun c => [(PySem.Str.ofString "count", .ref c.1), (PySem.Str.ofString "b", .int c.2.2.2.1 c.2.2.2.2.1), (PySem.Str.ofString "n", .int c.2.2.2.2.2.1 c.2.2.2.2.2.2.1), (PySem.Str.ofString "nt", .int c.2.2.2.2.2.2.2.1 c.2.2.2.2.2.2.2.2)]) [PySem.Str.ofString "ch"] (WsInv pre ?rest) (?cl, [], 0, 0, ?t1, 0, ?t2, 0, ?t3) ?F ?N ?hk ?hp ?hh ?turn ?done
  case F => k_asm
  case N => k_asm
  case hk => kst_all
  case hh => rfl
  case hp => exact ws_start (by assumption) _ _ _
  case turn =>
    rintro i cc tc ⟨cl, vs, nn, b, tb, n, tn, nt, tnt⟩ u h tk I own hcc hP hoff hown hIo F₁ N₁
    dsimp only [kstB] at F₁
    simp only [List.cons_append] at N₁
    have hP0 := hP
    obtain ⟨hi, ns, hI, hrun, hlt, hb0, hb1, hlen, hn0, hn1, hnt0, hnt1, hns⟩ := hP
    dsimp only at hI hrun hlt hb0 hb1 hn0 hn1 hnt0 hnt1
    have hclI : cl ≠ I := by
      intro e
      exact hoff _ (.head _) (by rw [e]; exact .head _)
    simp only [AllLt, and_true] at hlt
    have hne : ∀ p ∈ news ++ own, p.1 ≠ cl := by
      intro p hp
      rcases List.mem_append.mp hp with hp | hp
      · exact allLt_ne (by first | exact hlt.2.2.2 | exact hlt.2.2) p hp
      · rw [hown p hp]; exact fun e => hclI e.symm
    have hMk : KstMark := kstMark
    have hpl : pre.length < 300 := by
      have h1 := congrArg List.length hxp
      rw [← codes_len, List.length_append, List.length_cons] at h1
      omega
    k_steps
    rotate_left
    rotate_left
    rotate_left
    · unfold LPost
      dsimp only
      have he := sign_over hxp hpre hi hcc (sign_noblank (by assumption)) (sign_notab (by assumption))
      have N₂ := ws_drop N₁
      have hsz : vs.toArray.size ≤ 16384 := by rw [List.size_toArray]; have := hI.sizeZ; rw [List.size_toArray] at this; omega
      clear N₁
      k_steps
      subst he
      rw [List.take_length] at hrun
      exact hret _ _ _ _ _ _ _ _ _ _ _ _ _ _ _ _ _ _ _ _ _ hrun hI (ws_far (by assumption) (by assumption) (And.right (And.right (And.right (And.right (by assumption))))) (And.right (And.right (And.right (And.right (And.right (by assumption))))))) (by assumption) (cb_drop (by assumption) (by kcj_all))
    all_goals (refine' lend (_, _, _, _, _, _, _, _, _) ?F ?N ?hn ?_ ?hk ?hr ?_; (case F => k_asm); (case N => k_asm); (case hn => kst_in); (case hk => kst_all); (case hr => ksw_same))
    · exact hoff
    · exact ws_blank hxp hP0 hcc (by assumption) _ _ _
    · exact ws_off hoff (ws_lt4 (o1 := default) (o2 := default) (o3 := default) (by assumption)).2 hIo
    · exact ws_tab hxp hi hrun hb0 hb1 hlen hn0 hn1 hnt0 hnt1 hns hcc (by assumption) (by assumption) (by assumption) (bump_more (by assumption)).symm (ws_lt4 (by assumption)).1 _ _ _
    · exact ws_off2 hoff
    · exact ws_tab hxp hi hrun hb0 hb1 hlen hn0 hn1 hnt0 hnt1 hns hcc (by assumption) (by assumption) (by assumption) (bump_in (by assumption)).symm hP0.2.choose_spec.2.2.1 _ _ _
  case done =>
    rintro ⟨cl, vs, nn, b, tb, n, tn, nt, tnt⟩ u h tk hP F₁ N₁
    have h1 := hP.1
    have h2 := congrArg List.length hxp
    rw [← codes_len, List.length_append, List.length_cons] at h2
    omega
end Mine
end
section
open PySem PySem.W PyProof.Rows
set_option maxRecDepth 100000
namespace Mine
section
variable {prog : Program} {w : World} {A : Around} {E : Value → Shared → Prop} {s : Shared} {h₀ : Heap} {L : Addr} {m : PySem.Str → Option Value} {env : Env}
  {elt : PySem.Expr} {x : PySem.Str} {scope : Scope} {cl : List (PySem.Str × Addr)} {S : List (Addr × Obj) → Prop} {P : Nat → Value → Prop} {Fin : List Value → List (Addr × Obj) → Prop}
/-- a comprehension's turns by a word that each turn keeps -/
theorem rest_inv {n : Nat} (inv : Nat → List Value → List (Addr × Obj) → Prop)
    (turn : ∀ i ys nw, i < n → inv i ys nw → ∀ v I oI C oC D m₂ h tk (E' : Value → Shared → Prop), P i v → LCg.NsObj oC m₂ → m₂ x = some v → Fr h₀ L h m → News h₀ L h ((I, oI) :: (C, oC) :: (D, LCg.lst ys) :: nw) → LCg.Off3 I C D nw → ((@Ne Nat I C) ∧ (@Ne Nat I D) ∧ (@Ne Nat C D)) →
      wpAny (model prog w) A (eval elt (compEnvC scope cl C env)) (LCg.CompEnd h₀ L m { s with heap := h, toks := tk } I oI C oC D (LCg.lst ys) S (fun y nw' => inv (i + 1) (ys ++ [y]) nw')) E' { s with heap := h, toks := tk })
    (fin : ∀ ys nw, inv n ys nw → Fin ys nw) : ∀ (k i : Nat) (ys : List Value) (nw : List (Addr × Obj)), i + k = n → inv i ys nw → LCg.CompRest prog w A h₀ L m env elt x scope cl s S P Fin k i ys nw := by
  intro k
  induction k with
  | zero =>
    intro i ys nw hi h
    have : i = n := by omega
    subst this
    exact LCg.CompRest.zero (fin ys nw h)
  | succ k ih =>
    intro i ys nw hi h
    refine LCg.CompRest.succ fun v I oI C oC D m₂ h' tk E' hv hC hx F N off hne => ?_
    refine wpAny_mono (turn i ys nw (by omega) h v I oI C oC D m₂ h' tk E' hv hC hx F N off hne) (fun y s' q => ?_) fun _ _ e => e
    obtain ⟨h₂, tk₂, nw', e, F', N', off', hS, hinv⟩ := q
    exact ⟨h₂, tk₂, nw', e, F', N', off', hS, ih (i + 1) (ys ++ [y]) nw' (by omega) hinv⟩
/-- a comprehension over a list in the ledger, whose turns make nothing that is kept -/
theorem src_list {ax : Addr} {vs : List Value} {k : Nat} {news : List (Addr × Obj)} {s₁ : Shared} {FinQ : Shared → List Value → List (Addr × Obj) → Prop} (good : Nat → List Value → Prop)
    (F : Fr h₀ L s₁.heap m) (N : News h₀ L s₁.heap news) (hm : (ax, listOf vs.toArray k) ∈ news) (hsz : vs.length ≤ 1000) (hg : good 0 []) (hh : A.handled = none)
    (turn : ∀ i ys, i < vs.length → good i ys → ∀ v I oI C oC D m₂ h tk (E' : Value → Shared → Prop), vs[i]? = some v → LCg.NsObj oC m₂ → m₂ x = some v → Fr h₀ L h m → News h₀ L h ((I, oI) :: (C, oC) :: (D, LCg.lst ys) :: news) → LCg.Off3 I C D news → ((@Ne Nat I C) ∧ (@Ne Nat I D) ∧ (@Ne Nat C D)) →
      wpAny (model prog w) A (eval elt (compEnvC scope cl C env)) (LCg.CompEnd h₀ L m { s₁ with heap := h, toks := tk } I oI C oC D (LCg.lst ys) (fun _ => True) (fun y nw' => nw' = news ∧ good (i + 1) (ys ++ [y]))) E' { s₁ with heap := h, toks := tk })
    (fin : ∀ g ys, good vs.length ys → FinQ { s₁ with heap := g } ys news) : LCg.CompSrc prog w A h₀ L m env elt x scope cl FinQ (.ref ax) s₁ := by
  refine LCg.CompSrc.ledger hh F N hm (by rw [sizeLine_eq, List.size_toArray]; omega) fun g => ?_
  rw [List.size_toArray]
  refine rest_inv (n := vs.length) (fun i ys nw => nw = news ∧ good i ys) ?_ ?_ vs.length 0 [] news (by omega) ⟨rfl, hg⟩
  · rintro i ys nw hi ⟨rfl, hgd⟩ v I oI C oC D m₂ h tk E' hv hC hx F' N' off hne
    refine wpAny_mono (turn i ys hi hgd v I oI C oC D m₂ h tk E' (by simpa using hv) hC hx F' N' off hne) (fun y s' q => ?_) fun _ _ e => e
    obtain ⟨h₂, tk₂, nw', e, F₂, N₂, off₂, _, rfl, hgd'⟩ := q
    exact ⟨h₂, tk₂, nw', e, F₂, N₂, off₂, .inr ⟨_, hm, rfl, _, rfl⟩, rfl, hgd'⟩
  · rintro ys nw ⟨rfl, hgd⟩
    exact fin g ys hgd
theorem comp_const {I C D : Addr} {oI oC oD : Obj} {s₁ : Shared} {news : List (Addr × Obj)} {good : Value → Prop} {y : Value} {h' : Heap} {tk : Nat} (F : Fr h₀ L h' m) (N : News h₀ L h' ((I, oI) :: (C, oC) :: (D, oD) :: news)) (off : LCg.Off3 I C D news) (hg : good y) :
    LCg.CompEnd h₀ L m s₁ I oI C oC D oD (fun _ => True) (fun y nw' => nw' = news ∧ good y) y { s₁ with heap := h', toks := tk } :=
  LCg.CompEnd.intro F N news (fun _ hp => hp) off trivial ⟨rfl, hg⟩
end
end Mine
end
section
open PySem PySem.W PyProof.Rows
set_option maxRecDepth 100000
namespace Mine
section
variable {prog : Program} {w : World} {A : Around} {E : Value → Shared → Prop} {s : Shared} {env : Env} {h₀ : Heap} {target : PySem.Expr} {body : List Stmt} {Q : Flow → Shared → Prop} {σ : Type}
noncomputable def TPost (h₀ : Heap) (L : Addr) (s : Shared) (Led : σ → List (Addr × Obj)) (ps : σ → List (PySem.Str × Value)) (stored : List PySem.Str) (m₀ : PySem.Str → Option Value) (P : σ → Prop) (own : List (Addr × Obj)) (wr : List Addr) (f : Flow) (s₂ : Shared) : Prop :=
  f = .next ∧ LEnd h₀ L s Led ps stored m₀ P own wr s₂
/-- over a range with step 1; the loop's own name is a cell, so the turn begins with its assignment -/
theorem loopT_range {r : Addr} {a b : Int} {ta tb tc : Tok} (n : Nat) {m₀ : PySem.Str → Option Value} (Led : σ → List (Addr × Obj)) (ps : σ → List (PySem.Str × Value)) (stored : List PySem.Str) (P : Nat → σ → Prop) (c₀ : σ)
    (hr : IsRange s.heap r a b 1 ta tb tc) (hs : -100000 ≤ a ∧ a ≤ 100000 ∧ -100000 ≤ b ∧ b ≤ 100000) (hn : (b - a).toNat = n)
    (F : Fr h₀ env.locals s.heap m₀) (N : News h₀ env.locals s.heap (Led c₀)) (hk : ∀ p ∈ ps c₀, m₀ p.1 = some p.2) (hp : P 0 c₀) (hh : A.handled = none) (hgo : ∀ I v, letOwnedTupleGo target (.ref I) v = pure ())
    (turn : ∀ (i : Nat) (t : Tok) (c : σ) (u : PySem.Str → Option Value) (s₁ : Shared) (I : Addr) (own : List (Addr × Obj)), i < n → P i c → (∀ p ∈ Led c, p.1 ∉ [I]) → (∀ p ∈ own, p.1 = I) → (∃ o, (I, o) ∈ own) →
      Fr h₀ env.locals s₁.heap (kstB (fun z => if stored.contains z then u z else m₀ z) (ps c)) → News h₀ env.locals s₁.heap (Led c ++ own) →
      wpAny (model prog w) A (assign target env (.int (a + i) t)) (fun _ s₃ => wpAny (model prog w) A (execs body env) (TPost h₀ env.locals s₁ Led ps stored m₀ (P (i + 1)) own [I]) E s₃) E s₁)
    (done : ∀ (c : σ) (u : PySem.Str → Option Value) (h : Heap) (tk : Nat), P n c → Fr h₀ env.locals h (kstB (fun z => if stored.contains z then u z else m₀ z) (ps c)) → News h₀ env.locals h (Led c) → Q .next { s with heap := h, toks := tk }) :
    wpAny (model prog w) A (pyIter (.ref r)) (fun it s₂ => LoopAtT prog w A h₀ env target body Q E it s₂) E s := by
  have hsz : Builtin.Range.rangeSize a b 1 = (n : Int) := by
    rw [rangeSize_one]
    split <;> omega
  refine wpAny_pyIter_range hr (small_one (by omega) (by omega) (by omega) (by omega)) ?_
  have hnew : h₀.get? s.heap.objs.size = none := by
    cases q : h₀.get? s.heap.objs.size with
    | none => rfl
    | some o => exact absurd (Heap.lt_size (F.keep _ _ q)) (Nat.lt_irrefl _)
  have frame : ∀ (m' : PySem.Str → Option Value) (c : σ), (∀ p ∈ ps c, m' p.1 = some p.2) → (∀ z, (∀ p ∈ ps c, z ≠ p.1) → stored.contains z = false → m' z = m₀ z) → (kstB (fun z => if stored.contains z then m' z else m₀ z) (ps c)) = m' := by
    intro m' c h1 h2
    funext y
    refine kstB_eq h1 fun hn => ?_
    show (if stored.contains y = true then m' y else m₀ y) = m' y
    cases h3 : stored.contains y with
    | true => simp
    | false => simp only [Bool.false_eq_true, if_false]; exact (h2 y hn h3).symm
  have W := Walks.range (prog := prog) (w := w) hh s.heap.objs.size a 1 n
  refine ⟨s.heap.objs.size, _, _, n, _, _, m₀, Led c₀, fun i m nx => ∃ c, nx = Led c ∧ (∀ p ∈ ps c, m p.1 = some p.2) ∧ (∀ z, (∀ p ∈ ps c, z ≠ p.1) → stored.contains z = false → m z = m₀ z) ∧ P i c, rfl, W, ?_, ?_, ?_, ?_, F.push _, fun p hp => ⟨Heap.get?_push_of_some _ (N p hp).1, (N p hp).2⟩, ?_, ⟨c₀, rfl, hk, fun _ _ _ => rfl, hp⟩, ?_, ?_⟩
  · intro hm'
    exact absurd F.ns.lt ((List.mem_singleton.mp hm') ▸ Nat.lt_irrefl _)
  · intro b hb
    rw [List.mem_singleton.mp hb]
    exact hnew
  · intro p hp hI
    exact absurd (Heap.lt_size (N p hp).1) ((List.mem_singleton.mp hI) ▸ Nat.lt_irrefl _)
  · rw [hsz]
    have e1 : a + ((0 : Nat) : Int) * 1 = a := by omega
    have e2 : (n : Int) - ((0 : Nat) : Int) = n := by omega
    rw [e1, e2]
    exact Heap.get?_push_size _ rfl
  · intro i s' v Q' _ hQ'
    rw [hgo]
    exact wpAny_pure hQ'
  · rintro i v m₁ news₁ s₁ own hi hv ⟨c, rfl, h1, h2, hP⟩ hof hown _ hmem hst₁ F₁ N₁
    obtain ⟨t, rfl⟩ := hv
    rw [Int.mul_one]
    have F₂ : Fr h₀ env.locals s₁.heap (kstB (fun z => if stored.contains z then m₁ z else m₀ z) (ps c)) := by rw [frame m₁ c h1 h2]; exact F₁
    refine wpAny_mono (turn i t c m₁ s₁ s.heap.objs.size own hi hP hof (fun p hp => List.mem_singleton.mp (hown p hp)) ⟨_, hmem _ (.head _) hnew _ hst₁⟩ F₂ fun p hp => N₁ p ((List.mem_append.mp hp).elim (fun h => List.mem_append.mpr (.inr h)) fun h => List.mem_append.mpr (.inl h))) (fun _ s₃ q => wpAny_mono q (fun f s₄ q => ?_) fun _ _ e => e) fun _ _ e => e
    obtain ⟨rfl, c', h', tk', m', news', e, F', N', q1, q2, q3, q4, q5, q6⟩ := q
    refine ⟨rfl, h', tk', m', Led c', e, F', fun p hp => N' p ?_, q3, c', rfl, q4, q5, q6⟩
    rcases List.mem_append.mp hp with hp | hp
    · exact q2 p hp
    · exact q1 p hp
  · rintro h' tk m' news' F' N' _ ⟨c, rfl, h1, h2, hP⟩
    refine done c m' h' tk hP ?_ N'
    rw [frame m' c h1 h2]
    exact F'
theorem tend {L : Addr} {own news' : List (Addr × Obj)} {Led : σ → List (Addr × Obj)} {ps : σ → List (PySem.Str × Value)} {stored : List PySem.Str} {m₀ m' : PySem.Str → Option Value} {P : σ → Prop} {I : Addr} {h' : Heap} {tk : Nat} (c' : σ)
    (F : Fr h₀ L h' m') (N : News h₀ L h' news') (hn : ∀ p ∈ Led c' ++ own, p ∈ news') (hoff : ∀ p ∈ Led c', p.1 ∉ [I]) (hk : ∀ p ∈ ps c', m' p.1 = some p.2) (hr : ∀ z, (∀ p ∈ ps c', z ≠ p.1) → stored.contains z = false → m' z = m₀ z) (hp : P c') :
    TPost h₀ L s Led ps stored m₀ P own [I] .next { s with heap := h', toks := tk } :=
  ⟨rfl, c', h', tk, m', news', rfl, F, N, fun p hp => hn p (List.mem_append.mpr (.inl hp)), fun p hp => hn p (List.mem_append.mpr (.inr hp)), hoff, hk, hr, hp⟩
theorem off_same {l1 l2 : List (Addr × Obj)} {wr : List Addr} (h : ∀ p ∈ l1, p.1 ∉ wr) (e : l2.map (·.1) = l1.map (·.1)) : ∀ p ∈ l2, p.1 ∉ wr := by
  intro p hp
  have h1 : p.1 ∈ l1.map (·.1) := e ▸ List.mem_map_of_mem hp
  obtain ⟨q, hq, e'⟩ := List.mem_map.mp h1
  exact e' ▸ h q hq
end
end Mine
end
section
open PySem PySem.W PyProof.Rows
set_option maxRecDepth 100000
namespace Mine
section
variable {prog : Program} {w : World} {A : Around} {E : Value → Shared → Prop} {R : Result → Shared → Prop} {s : Shared} {elt t1 i1 t2 i2 : PySem.Expr} {ifs : List PySem.Expr} {scope : Scope} {pos : Pos} {it acc : Value} {env : Env}
noncomputable abbrev twoC (elt t1 i1 t2 i2 : PySem.Expr) (ifs : List PySem.Expr) (scope : Scope) (pos : Pos) : PySem.Expr := .ListComp elt [⟨t1, i1, [], 0⟩, ⟨t2, i2, ifs, 0⟩] scope pos
theorem compTurn_two0 : compTurn (twoC elt t1 i1 t2 i2 ifs scope pos) 0 it acc env = (do
      standAt i1.pos
      match ← pyNext it with
      | none => pure (.done .next)
      | some v =>
        letOwnedTupleGo t1 it v
        assign t1 env v
        let x ← eval i2 env
        standAt i2.pos
        let x ← foldedSetIterable i2 env x
        let _ ← runOwn (.compStart (twoC elt t1 i1 t2 i2 ifs scope pos) 1 (← holding [x] (pyIter x)) acc env) env
        again (.compLoop (twoC elt t1 i1 t2 i2 ifs scope pos) 0 it acc env)) := by rfl
theorem compTurn_two1 : compTurn (twoC elt t1 i1 t2 i2 ifs scope pos) 1 it acc env = (do
      standAt i2.pos
      match ← pyNext it with
      | none => pure (.done .next)
      | some v =>
        letOwnedTupleGo t2 it v
        assign t2 env v
        let mut ok := true
        for c in ifs do
          if ok then ok ← isTrue c env (eval c env)
        if ok then
          (do let _ ← call (.builtin "list.append") [acc, ← eval elt env])
        again (.compLoop (twoC elt t1 i1 t2 i2 ifs scope pos) 1 it acc env)) := by rfl
theorem two_inner (I : Nat → Shared → Prop)
    (turn : ∀ n s, I n s → wpAny (model prog w) A (pyNext it) (fun r s₁ => match r with
      | none => R (.ok .next) s₁
      | some v => wpAny (model prog w) A (assign t2 env v) (fun _ s₂ =>
          wpAny (model prog w) A (forIn ifs true fun c r => if r = true then do let ok ← isTrue c env (eval c env); pure (ForInStep.yield ok) else pure (ForInStep.yield r)) (fun ok s₃ =>
            if ok = true then wpAny (model prog w) A (eval elt env) (fun x s₄ =>
              wpAny (model prog w) A (call (.builtin "list.append") [acc, x]) (fun _ s₅ => ∃ m, m < n ∧ I m s₅) (notedBy (model prog w) A env fun e s' => R (.error e) s') s₄) (notedBy (model prog w) A env fun e s' => R (.error e) s') s₃
            else ∃ m, m < n ∧ I m s₃) (notedBy (model prog w) A env fun e s' => R (.error e) s') s₂) (notedBy (model prog w) A env fun e s' => R (.error e) s') s₁) (notedBy (model prog w) A env fun e s' => R (.error e) s') s)
    (n : Nat) (h : I n s) (ht : ∀ v, letOwnedTupleGo t2 it v = pure () := by intro _; rfl) :
    codeAny (model prog w) A (.compLoop (twoC elt t1 i1 t2 i2 ifs scope pos) 1 it acc env) R s := by
  refine codeAny_loop rfl I (fun n s hI => ?_) n h
  show wpAny _ A ((compTurn (twoC elt t1 i1 t2 i2 ifs scope pos) 1 it acc env).onRaise (fun x => do noteFrame x env; theTreesLotGoes x)) _ _ s
  refine wpAny_noted ?_
  rw [compTurn_two1]
  refine wpAny_bind (wpAny_standAt (wpAny_bind (wpAny_mono (turn n s hI) (fun r s₁ h₁ => ?_) fun _ _ h' => h')))
  cases r with
  | none => exact wpAny_pure h₁
  | some v =>
    refine wpAny_bind (wpAny_of_eq (ht v) ?_)
    refine wpAny_bind (wpAny_mono h₁ (fun _ s₂ h₂ => wpAny_bind (wpAny_mono h₂ (fun ok s₃ h₃ => ?_) fun _ _ h' => h')) fun _ _ h' => h')
    cases ok with
    | false => exact wpAny_pure ⟨rfl, h₃⟩
    | true =>
      exact wpAny_bind (wpAny_bind (wpAny_mono h₃ (fun x s₄ h₄ => wpAny_bind (wpAny_mono h₄ (fun _ s₅ h₅ => wpAny_pure (wpAny_pure ⟨rfl, h₅⟩)) fun _ _ h' => h')) fun _ _ h' => h'))
theorem two_outer (I : Nat → Shared → Prop)
    (turn : ∀ n s, I n s → wpAny (model prog w) A (pyNext it) (fun r s₁ => match r with
      | none => R (.ok .next) s₁
      | some v => wpAny (model prog w) A (assign t1 env v) (fun _ s₂ => wpAny (model prog w) A (eval i2 env) (fun xv s₃ => wpAny (model prog w) A (pyIter xv) (fun it2 s₄ =>
          codeAny (model prog w) A (.compStart (twoC elt t1 i1 t2 i2 ifs scope pos) 1 it2 acc env) (fun r s₅ => match r with
            | .ok _ => ∃ m, m < n ∧ I m s₅
            | .error e => cameBackBy (model prog w) A env (notedBy (model prog w) A env fun e s' => R (.error e) s') e s₅) s₄) (notedBy (model prog w) A env fun e s' => R (.error e) s') s₃) (notedBy (model prog w) A env fun e s' => R (.error e) s') s₂) (notedBy (model prog w) A env fun e s' => R (.error e) s') s₁) (notedBy (model prog w) A env fun e s' => R (.error e) s') s)
    (n : Nat) (h : I n s) (ht : ∀ v, letOwnedTupleGo t1 it v = pure ()) (hs : ∀ x, foldedSetIterable i2 env x = pure x) :
    codeAny (model prog w) A (.compLoop (twoC elt t1 i1 t2 i2 ifs scope pos) 0 it acc env) R s := by
  refine codeAny_loop rfl I (fun n s hI => ?_) n h
  show wpAny _ A ((compTurn (twoC elt t1 i1 t2 i2 ifs scope pos) 0 it acc env).onRaise (fun x => do noteFrame x env; theTreesLotGoes x)) _ _ s
  refine wpAny_noted ?_
  rw [compTurn_two0]
  refine wpAny_bind (wpAny_standAt (wpAny_bind (wpAny_mono (turn n s hI) (fun r s₁ h₁ => ?_) fun _ _ h' => h')))
  cases r with
  | none => exact wpAny_pure h₁
  | some v =>
    refine wpAny_bind (wpAny_of_eq (ht v) ?_)
    refine wpAny_bind (wpAny_mono h₁ (fun _ s₂ h₂ => wpAny_bind (wpAny_mono h₂ (fun xv s₃ h₃ => wpAny_bind (wpAny_standAt (wpAny_bind (wpAny_of_eq (hs xv) ?_)))) fun _ _ h' => h')) fun _ _ h' => h')
    refine wpAny_bind (wpAny_holding (wpAny_mono h₃ (fun it2 s₄ h₄ => ?_) fun _ _ h' => h'))
    exact wpAny_bind (wpAny_runOwn (codeAny_mono h₄ fun r s₅ hr => by
      cases r with
      | ok f => exact wpAny_pure ⟨rfl, hr⟩
      | error e => exact hr))
theorem two_start
    (h0 : codeAny (model prog w) A (.compLoop (twoC elt t1 i1 t2 i2 ifs scope pos) 1 it acc env) R s)
    (h : wpAny (model prog w) A (pyIter it) (fun it' s' => codeAny (model prog w) A (.compLoop (twoC elt t1 i1 t2 i2 ifs scope pos) 1 it' acc env) R s')
      (notedBy (model prog w) A env fun x s' => R (.error x) s') s) :
    codeAny (model prog w) A (.compStart (twoC elt t1 i1 t2 i2 ifs scope pos) 1 it acc env) R s := by
  refine codeAny_of_tree ?_
  show wpAny _ _ ((compStart (twoC elt t1 i1 t2 i2 ifs scope pos) 1 it acc env).onRaise (fun x => do noteFrame x env; standAt theWindowsPlace)) _ _ s
  refine wpAny_notedAt ?_
  unfold compStart
  show wpAny _ _ (ask >>= _) _ _ s
  refine wpAny_bind (wpAny_askSetting (wpAny_ite ?_))
  split
  · first
      | exact wpAny_bind (wpAny_pure (wpAny_pure (And.intro rfl h0)))
      | exact wpAny_pure (And.intro rfl h0)
  · first
      | exact wpAny_bind (wpAny_rule (wpAny_bind (wpAny_standAt (wpAny_bind (wpAny_mono h (fun it' s' h' => wpAny_pure (And.intro rfl h')) fun _ _ x => x)))))
      | (refine wpAny_bind (wpAny_rule ?_); show wpAny _ _ (standAt i2.pos >>= _) _ _ s; exact wpAny_bind (wpAny_standAt (wpAny_bind (wpAny_mono h (fun it' s' h' => wpAny_pure (And.intro rfl h')) fun _ _ x => x))))
end
end Mine
end
section
open PySem PySem.W PyProof.Rows PySem.Spec PySem.Calls
set_option maxRecDepth 100000
namespace Mine
section
variable {prog : Program} {w : World} {A : Around} {E : Value → Shared → Prop} {s : Shared} {h₀ : Heap} {L : Addr} {m : PySem.Str → Option Value} {env : Env}
  {elt i1 i2 : PySem.Expr} {x1 x2 : PySem.Str} {p1 p2 : Pos} {ifs : List PySem.Expr} {scope : Scope} {pos : Pos} {cl : List (PySem.Str × Addr)}
/-- nothing that is kept has been turned -/
noncomputable def Same (h₀ : Heap) (L : Addr) (m : PySem.Str → Option Value) (s : Shared) (led : List (Addr × Obj)) (s' : Shared) : Prop :=
  ∃ h tk, s' = { s with heap := h, toks := tk } ∧ Fr h₀ L h m ∧ News h₀ L h led
theorem Same.intro {led : List (Addr × Obj)} {h : Heap} {tk : Nat} (F : Fr h₀ L h m) (N : News h₀ L h led) : Same h₀ L m s led { s with heap := h, toks := tk } := ⟨h, tk, rfl, F, N⟩
noncomputable abbrev testsOf (prog : Program) (ifs : List PySem.Expr) (env : Env) : Sem Bool := forIn ifs true fun c r => if r = true then do let ok ← isTrue c env (eval c env); pure (ForInStep.yield ok) else pure (ForInStep.yield r)
noncomputable def InSrc (prog : Program) (w : World) (A : Around) (h₀ : Heap) (L : Addr) (m : PySem.Str → Option Value) (s : Shared) (env : Env) (elt : PySem.Expr) (x1 x2 : PySem.Str) (ifs : List PySem.Expr) (scope : Scope) (cl : List (PySem.Str × Addr)) (le : Addr × Obj)
    (v : Value) (I : Addr) (oI : Obj) (C : Addr) (oC : Obj) (D : Addr) (ys : List Value) (next : List Value → List (Addr × Obj) → Prop) (xv : Value) (s' : Shared) : Prop :=
  ∃ h tk nw ax o its, xv = .ref ax ∧ s' = { s with heap := h, toks := tk } ∧ Fr h₀ L h m ∧ News h₀ L h ((I, oI) :: (C, oC) :: (D, LCg.lst ys) :: nw) ∧ LCg.Off3 I C D nw ∧ (ax, o) ∈ nw ∧ (o.cls = .type "list" ∨ o.cls = .type "tuple") ∧ (∃ n, o.data = .seq its n) ∧ le ∈ nw ∧ its.size ≤ 1000 ∧
    ∃ inv2 : Nat → List Value → Prop, inv2 0 ys ∧ (∀ j ys', inv2 j ys' → ys'.length ≤ 1000000) ∧
      (∀ j ys' v2 J oJ oC' m₃ h' tk' (E' : Value → Shared → Prop), inv2 j ys' → its[j]? = some v2 → LCg.NsObj oC' m₃ → m₃ x1 = some v → m₃ x2 = some v2 → Fr h₀ L h' m → News h₀ L h' ((J, oJ) :: (I, oI) :: (C, oC') :: (D, LCg.lst ys') :: nw) →
        wpAny (model prog w) A (testsOf prog ifs (compEnvC scope cl C env)) (fun ok s₃ => if ok = true then wpAny (model prog w) A (eval elt (compEnvC scope cl C env)) (fun y s₄ => Same h₀ L m s ((J, oJ) :: (I, oI) :: (C, oC') :: (D, LCg.lst ys') :: nw) s₄ ∧ inv2 (j + 1) (ys' ++ [y])) E' s₃
          else Same h₀ L m s ((J, oJ) :: (I, oI) :: (C, oC') :: (D, LCg.lst ys') :: nw) s₃ ∧ inv2 (j + 1) ys') E' { s with heap := h', toks := tk' }) ∧
      (∀ ys', inv2 its.size ys' → next ys' nw)
/-- either way of walking: over a list or over a tuple -/
theorem walk_iter {ax : Addr} {o : Obj} {its : Array Value} {k : Nat} {s₁ : Shared} {Q : Value → Shared → Prop} (hh : A.handled = none) (ho : s₁.heap.get? ax = some o) (hc : o.cls = .type "list" ∨ o.cls = .type "tuple") (hd : o.data = .seq its k)
    (h : ∀ (oI : Obj) (St : Nat → Heap → Prop), Walks prog w A s₁.heap.objs.size [s₁.heap.objs.size, ax] [s₁.heap.objs.size] its.size (fun i v => its[i]? = some v) St → St 0 (s₁.heap.push oI) → (∀ i h, St i h → ∃ o, h.get? s₁.heap.objs.size = some o) → oI.isFreed = false → Q (.ref s₁.heap.objs.size) { s₁ with heap := s₁.heap.push oI }) :
    wpAny (model prog w) A (pyIter (.ref ax)) Q E s₁ := by
  have hlt : ax < s₁.heap.objs.size := Heap.lt_size ho
  rcases hc with hc | hc
  · have hl : s₁.heap.IsList ax its := ⟨o, ho, hc, k, hd⟩
    exact wpAny_pyIter_list hl (h _ _ (Walks.list hh _ ax (Nat.ne_of_lt hlt) its) ⟨⟨_, Heap.get?_push_size _ rfl, rfl, rfl⟩, hl.at fun o e => Heap.get?_push_of_some _ e⟩ (fun i h st => by obtain ⟨o, e, _⟩ := st.1; exact ⟨o, e⟩) rfl)
  · have hl : s₁.heap.IsTuple ax its := ⟨o, ho, hc, k, hd⟩
    exact wpAny_pyIter_tuple hl (h _ _ (Walks.tuple hh _ ax (Nat.ne_of_lt hlt) its) ⟨⟨_, Heap.get?_push_size _ rfl, rfl, rfl⟩, hl.at fun o e => Heap.get?_push_of_some _ e⟩ (fun i h st => by obtain ⟨o, e, _⟩ := st.1; exact ⟨o, e⟩) rfl)
/-- the ledger when only what stands in wr has been turned, and nothing kept stands there -/
theorem news_off {h h' : Heap} {wr : List Addr} {news : List (Addr × Obj)} (N : News h₀ L h news) (hk : ∀ b o, b ∉ wr → h.get? b = some o → h'.get? b = some o) (off : ∀ p ∈ news, p.1 ∉ wr) : News h₀ L h' news :=
  fun p hp => ⟨hk _ _ (off p hp) (N p hp).1, (N p hp).2⟩
theorem fr_off {h h' : Heap} {wr : List Addr} (F : Fr h₀ L h m) (hk : ∀ b o, b ∉ wr → h.get? b = some o → h'.get? b = some o) (hL : L ∉ wr) (hw : ∀ b ∈ wr, h₀.get? b = none) : Fr h₀ L h' m :=
  ⟨F.ns.at' fun o e => hk L o hL e, fun b o e => hk b o (fun hm => by rw [hw b hm] at e; cases e) (F.keep b o e), F.above⟩
/-- the inner turns -/
theorem two_in {le : Addr × Obj} {v : Value} {I C D : Addr} {oI oC : Obj} {ys : List Value} {next : List Value → List (Addr × Obj) → Prop} {xv : Value} {s' : Shared} {R : Flow → Shared → Prop} {m₂ : PySem.Str → Option Value}
    (hh : A.handled = none) (hkind : scope.kind = .function) (hx2 : scope.names.lookup x2 = some .local) (hne : x1 ≠ x2) (hm1 : m₂ x1 = some v) (hC : LCg.NsObj oC m₂) (hdist : (@Ne Nat I C) ∧ (@Ne Nat I D) ∧ (@Ne Nat C D))
    (H : InSrc prog w A h₀ L m s env elt x1 x2 ifs scope cl le v I oI C oC D ys next xv s')
    (done : ∀ ys' nw oC' m' h tk, next ys' nw → le ∈ nw → LCg.NsObj oC' m' → Fr h₀ L h m → News h₀ L h ((I, oI) :: (C, oC') :: (D, LCg.lst ys') :: nw) → LCg.Off3 I C D nw → R .next { s with heap := h, toks := tk })
    {E : Value → Shared → Prop} {R' : Value → Shared → Prop} :
    wpAny (model prog w) A (pyIter xv) (fun it2 s₄ => codeAny (model prog w) A (.compStart (twoC elt (.Name x1 p1) i1 (.Name x2 p2) i2 ifs scope pos) 1 it2 (.ref D) (compEnvC scope cl C env)) (fun r s₅ => match r with
      | .ok f => R f s₅
      | .error e => R' e s₅) s₄) E s' := by
  obtain ⟨h, tk, nw, ax, o, its, rfl, rfl, F, N, off, hax, hcls, ⟨k, hdat⟩, hle, hsz, inv2, hi0, hil, turn, fin⟩ := H
  have haxm : (ax, o) ∈ (I, oI) :: (C, oC) :: (D, LCg.lst ys) :: nw := .tail _ (.tail _ (.tail _ hax))
  refine walk_iter hh (N _ haxm).1 hcls hdat fun oJ St W hst hsome hfreed => ?_
  dsimp only at W hst hsome ⊢
  have hJ : ∀ {b : Addr} {o' : Obj}, h.get? b = some o' → b ≠ h.objs.size := fun e => Nat.ne_of_lt (Heap.lt_size e)
  have hJ₀ : h₀.get? h.objs.size = none := by
    cases q : h₀.get? h.objs.size with
    | none => rfl
    | some o => exact absurd (Heap.lt_size (F.keep _ _ q)) (Nat.lt_irrefl _)
  have hJL : L ≠ h.objs.size := Nat.ne_of_lt F.ns.lt
  have zC := N (C, oC) (.tail _ (.head _))
  have zD := N (D, LCg.lst ys) (.tail _ (.tail _ (.head _)))
  have zI := N (I, oI) (.head _)
  have hCJ : C ≠ h.objs.size := hJ zC.1
  have hDJ : D ≠ h.objs.size := hJ zD.1
  have hIJ : I ≠ h.objs.size := hJ zI.1
  have hnwJ : ∀ p ∈ nw, p.1 ≠ h.objs.size := fun p hp => hJ (N p (.tail _ (.tail _ (.tail _ hp)))).1
  have hCL : C ≠ L := zC.2.1
  have hDL : D ≠ L := zD.2.1
  have off3 := off.mem
  have loop : ∀ s₃ : Shared, s₃ = { s with heap := h.push oJ, toks := tk } →
      codeAny (model prog w) A (.compLoop (twoC elt (.Name x1 p1) i1 (.Name x2 p2) i2 ifs scope pos) 1 (.ref h.objs.size) (.ref D) (compEnvC scope cl C env)) (fun r s₅ => match r with | .ok f => R f s₅ | .error e => R' e s₅) s₃ := by
    rintro s₃ rfl
    refine two_inner
      (fun k s' => ∃ h' tk' j ys' oC' m', s' = { s with heap := h', toks := tk' } ∧ j ≤ its.size ∧ k = its.size + 1 - j ∧ St j h' ∧ Fr h₀ L h' m ∧ LCg.NsObj oC' m' ∧ m' x1 = some v ∧ News h₀ L h' ((I, oI) :: (C, oC') :: (D, LCg.lst ys') :: nw) ∧ inv2 j ys') ?_ (its.size + 1)
      ⟨_, _, 0, ys, oC, m₂, rfl, Nat.zero_le _, rfl, hst, F.push _, hC, hm1, fun p hp => ⟨Heap.get?_push_of_some _ (N p hp).1, (N p hp).2⟩, hi0⟩
    rintro k' s' ⟨h', tk', j, ys', oC', m', rfl, hj, rfl, hst', F', hC', hm', N', hinv⟩
    by_cases hlt : j < its.size
    · refine W.item j _ _ _ hlt hst' fun v2 h₂ tk₂ hPv hst₂ hk₂ => ?_
      have F₂ : Fr h₀ L h₂ m := fr_off F' hk₂ (by simpa using hJL) fun b hb => by rw [List.mem_singleton.mp hb]; exact hJ₀
      have N₂ : News h₀ L h₂ ((I, oI) :: (C, oC') :: (D, LCg.lst ys') :: nw) := news_off N' hk₂ fun p hp => by
        rcases List.mem_cons.mp hp with rfl | hp
        · simpa using hIJ
        · rcases List.mem_cons.mp hp with rfl | hp
          · simpa using hCJ
          · rcases List.mem_cons.mp hp with rfl | hp
            · simpa using hDJ
            · simpa using hnwJ p hp
      have y := N₂ (C, oC') (.tail _ (.head _))
      refine wpAny_assign_Name (wpAny_storeName_local (lookup_relabel_local hx2) (hC'.ns y.1) (fun h₃ hn₃ hs₃ => ?_) (by simp [compEnvC, relabel, hkind]))
      have hs₃' : Heap.SameBut C h₂ h₃ := hs₃
      have hst₃ : St (j + 1) h₃ := W.frame _ _ _ hst₂ fun b hb o' e => hs₃'.extBut b o' (fun q => by
        rw [q] at hb
        rcases List.mem_cons.mp hb with hb | hb
        · exact hCJ hb
        · have := List.mem_singleton.mp hb
          exact (off3 _ hax).2.1 this.symm) e
      obtain ⟨oJ', heJ⟩ := hsome _ _ hst₃
      obtain ⟨oC₃, heC, hoC⟩ := LCg.ns_obj hn₃
      have F₃ : Fr h₀ L h₃ m := F₂.change hs₃' hCL zC.2.2
      have N₃ : News h₀ L h₃ ((h.objs.size, oJ') :: (I, oI) :: (C, oC₃) :: (D, LCg.lst ys') :: nw) := fun p hp => by
        rcases List.mem_cons.mp hp with rfl | hp
        · exact ⟨heJ, Ne.symm hJL, hJ₀⟩
        · rcases List.mem_cons.mp hp with rfl | hp
          · exact ⟨hs₃'.extBut _ _ hdist.1 (N₂ _ (.head _)).1, (N₂ _ (.head _)).2⟩
          · rcases List.mem_cons.mp hp with rfl | hp
            · exact ⟨heC, zC.2⟩
            · have z := N₂ p (.tail _ (.tail _ hp))
              refine ⟨hs₃'.extBut _ _ ?_ z.1, z.2⟩
              rcases List.mem_cons.mp hp with rfl | hp
              · exact Ne.symm hdist.2.2
              · exact (off3 p hp).2.1
      refine wpAny_mono (turn j ys' v2 h.objs.size oJ' oC₃ _ h₃ _ _ hinv hPv hoC (by
          show (if x1 = x2 then some v2 else m' x1) = some v
          rw [if_neg hne]; exact hm') (by simp) F₃ N₃) (fun ok s₄ q => ?_) fun _ _ e => e
      have next : ∀ (h₅ : Heap) (tk₅ : Nat) (zs : List Value), Fr h₀ L h₅ m → News h₀ L h₅ ((h.objs.size, oJ') :: (I, oI) :: (C, oC₃) :: (D, LCg.lst zs) :: nw) → inv2 (j + 1) zs →
          ∃ m₀, m₀ < its.size + 1 - j ∧ ∃ h' tk' j' ys' oC' m', ({ s with heap := h₅, toks := tk₅ } : Shared) = { s with heap := h', toks := tk' } ∧ j' ≤ its.size ∧ m₀ = its.size + 1 - j' ∧ St j' h' ∧ Fr h₀ L h' m ∧ LCg.NsObj oC' m' ∧ m' x1 = some v ∧ News h₀ L h' ((I, oI) :: (C, oC') :: (D, LCg.lst ys') :: nw) ∧ inv2 j' ys' := by
        intro h₅ tk₅ zs F₅ N₅ hz
        refine ⟨its.size + 1 - (j + 1), by omega, h₅, tk₅, j + 1, zs, oC₃, _, rfl, hlt, rfl, W.frame _ _ _ hst₃ fun b hb o' e => ?_, F₅, hoC, ?_, fun p hp => N₅ p (.tail _ hp), hz⟩
        · rcases List.mem_cons.mp hb with rfl | hb
          · rw [heJ] at e; cases e; exact (N₅ _ (.head _)).1
          · have hb' := List.mem_singleton.mp hb
            rw [hb'] at e ⊢
            have z := (N₃ (ax, o) (.tail _ (.tail _ (.tail _ (.tail _ hax))))).1
            rw [z] at e; cases e
            exact (N₅ (ax, o) (.tail _ (.tail _ (.tail _ (.tail _ hax))))).1
        · show (if x1 = x2 then some v2 else m' x1) = some v
          rw [if_neg hne]; exact hm'
      cases ok with
      | false =>
        obtain ⟨⟨h₅, tk₅, rfl, F₅, N₅⟩, hz⟩ := q
        exact next h₅ tk₅ ys' F₅ N₅ hz
      | true =>
        refine wpAny_mono q (fun z s₅ q => ?_) fun _ _ e => e
        obtain ⟨⟨h₅, tk₅, rfl, F₅, N₅⟩, hz⟩ := q
        have zD₅ := (N₅ (D, LCg.lst ys') (.tail _ (.tail _ (.tail _ (.head _))))).1
        refine append_at (hsz := by
          show ys'.toArray.size ≤ sizeLine
          rw [List.size_toArray, sizeLine_eq]
          have := hil j ys' hinv; omega) zD₅ fun h₆ hs₆ hD₆ => ?_
        refine next h₆ tk₅ (ys' ++ [z]) (F₅.change hs₆ hDL zD.2.2) (fun p hp => ?_) hz
        rcases List.mem_cons.mp hp with rfl | hp
        · exact ⟨hs₆.extBut _ _ (Ne.symm hDJ) (N₅ _ (.head _)).1, (N₅ _ (.head _)).2⟩
        · rcases List.mem_cons.mp hp with rfl | hp
          · exact ⟨hs₆.extBut _ _ hdist.2.1 (N₅ _ (.tail _ (.head _))).1, (N₅ _ (.tail _ (.head _))).2⟩
          · rcases List.mem_cons.mp hp with rfl | hp
            · exact ⟨hs₆.extBut _ _ hdist.2.2 (N₅ _ (.tail _ (.tail _ (.head _)))).1, (N₅ _ (.tail _ (.tail _ (.head _)))).2⟩
            · rcases List.mem_cons.mp hp with rfl | hp
              · exact ⟨hD₆.trans (congrArg some (LCg.lst_snoc ys' z)), zD.2⟩
              · have y := N₅ p (.tail _ (.tail _ (.tail _ (.tail _ hp))))
                exact ⟨hs₆.extBut _ _ (off3 p hp).2.2 y.1, y.2⟩
    · obtain rfl : j = its.size := Nat.le_antisymm hj (Nat.not_lt.mp hlt)
      refine W.done _ _ _ hst' fun h₂ tk₂ hk₂ => ?_
      exact done ys' nw oC' m' h₂ tk₂ (fin ys' hinv) hle hC' (fr_off F' hk₂ (by simpa using hJL) fun b hb => by rw [List.mem_singleton.mp hb]; exact hJ₀) (news_off N' hk₂ fun p hp => by
        rcases List.mem_cons.mp hp with rfl | hp
        · simpa using hIJ
        · rcases List.mem_cons.mp hp with rfl | hp
          · simpa using hCJ
          · rcases List.mem_cons.mp hp with rfl | hp
            · simpa using hDJ
            · simpa using hnwJ p hp) off
  exact two_start (loop _ rfl) (W.self 0 _ _ _ hst (loop _ rfl))
/-- a comprehension with two generators, the first over a list in the ledger -/
theorem two_listR {l : Addr} {vs : List Value} {k : Nat} {news : List (Addr × Obj)} {s₁ : Shared} {RR : Value → Addr → Result → Shared → Prop} (F : Fr h₀ L s₁.heap m) (N : News h₀ L s₁.heap news) (hm : (l, listOf vs.toArray k) ∈ news) (hsz : vs.length ≤ 1000) (hh : A.handled = none)
    (hcell : ∀ y ∈ scope.names, y.2 ≠ .cell) (hkind : scope.kind = .function) (hx1 : scope.names.lookup x1 = some .local) (hx2 : scope.names.lookup x2 = some .local) (hne : x1 ≠ x2) (hs2 : ∀ x C, foldedSetIterable i2 (compEnvC scope cl C env) x = pure x)
    (inv : Nat → List Value → List (Addr × Obj) → Prop) (h0 : inv 0 [] news)
    (turn : ∀ i ys nw, i < vs.length → inv i ys nw → (l, listOf vs.toArray k) ∈ nw → ∀ v I oI C oC D m₂ h tk (E' : Value → Shared → Prop), vs[i]? = some v → LCg.NsObj oC m₂ → m₂ x1 = some v → Fr h₀ L h m → News h₀ L h ((I, oI) :: (C, oC) :: (D, LCg.lst ys) :: nw) → LCg.Off3 I C D nw → ((@Ne Nat I C) ∧ (@Ne Nat I D) ∧ (@Ne Nat C D)) →
      wpAny (model prog w) A (eval i2 (compEnvC scope cl C env)) (InSrc prog w A h₀ L m s₁ env elt x1 x2 ifs scope cl (l, listOf vs.toArray k) v I oI C oC D ys (inv (i + 1))) E' { s₁ with heap := h, toks := tk })
    (fin : ∀ ys nw, inv vs.length ys nw → ∀ D C h tk m', Fr h₀ L h m → News h₀ L h ((D, LCg.lst ys) :: nw) → LCg.Off1 D nw → h.Ns C m' → h₀.get? C = none → h₀.get? D = none → C ≠ L → D ≠ L → C ≠ D → (∀ p ∈ nw, p.1 ≠ C) → RR (.ref D) C (.ok .next) { s₁ with heap := h, toks := tk }) :
    wpAny (model prog w) A (pyIter (.ref l)) (fun it s₂ => wpAny (model prog w) A (newList []) (fun acc s₃ => wpAny (model prog w) A (newFunctionEnv scope env.globals cl [] env.qual none .none (some env)) (fun cenv s₄ =>
      codeAny (model prog w) A (.compStart (twoC elt (.Name x1 p1) i1 (.Name x2 p2) i2 ifs scope pos) 0 it acc { cenv with scope := relabel scope env }) (RR acc cenv.locals) s₄) E s₃) E s₂) E s₁ := by
  refine walk_iter hh (N _ hm).1 (.inl rfl) rfl fun oI0 St W hst hsome hfreed => ?_
  generalize hI : s₁.heap.objs.size = I at W hst hsome ⊢
  refine wpAny_newObj_type (wpAny_newFunctionEnv hcell (by intro y hy; simp at hy) (fun h₁ hns₁ hsb₁ => ?_) hkind)
  try dsimp only at hns₁ hsb₁ ⊢
  generalize hH0 : s₁.heap.push oI0 = H0 at hns₁ hsb₁ hst ⊢
  generalize hH2 : H0.push { cls := .type "list", dict := none, data := .seq ([] : List Value).toArray } = H2 at hns₁ hsb₁ ⊢
  have hD : H0.objs.size = I + 1 := by rw [← hH0, Heap.size_push, hI]
  have hC : H2.objs.size = I + 2 := by rw [← hH2, Heap.size_push, hD]
  have up0 : ∀ b o, s₁.heap.get? b = some o → H0.get? b = some o := fun b o e => hH0 ▸ Heap.get?_push_of_some _ e
  have up2 : ∀ b o, H0.get? b = some o → H2.get? b = some o := fun b o e => hH2 ▸ Heap.get?_push_of_some _ e
  have up1 : ∀ b o, H0.get? b = some o → h₁.get? b = some o := fun b o e => hsb₁.extBut b o (fun q => by
    have h1 : @LT.lt Nat _ b H0.objs.size := Heap.lt_size e
    have q' : @Eq Nat b H2.objs.size := q
    omega) (Heap.get?_push_of_some _ (up2 b o e))
  have old : ∀ b o, s₁.heap.get? b = some o → h₁.get? b = some o := fun b o e => up1 b o (up0 b o e)
  have fresh₀ : ∀ a, s₁.heap.objs.size ≤ a → h₀.get? a = none := fun a ha => by
    cases e : h₀.get? a with
    | none => rfl
    | some o' => exact absurd (Heap.lt_size (F.keep a o' e)) (Nat.not_lt.mpr ha)
  have hLlt : @LT.lt Nat _ L s₁.heap.objs.size := F.ns.lt
  have hlt : ∀ p ∈ news, @LT.lt Nat _ p.1 s₁.heap.objs.size := fun p hp => Heap.lt_size (N p hp).1
  rw [hI] at hLlt hlt fresh₀
  have hacc : h₁.get? H0.objs.size = some (LCg.lst []) := hsb₁.extBut _ _ (fun q => by have q' : @Eq Nat H0.objs.size H2.objs.size := q; omega) (Heap.get?_push_of_some _ (hH2 ▸ Heap.get?_push_size _ rfl))
  have hIget : h₁.get? I = some oI0 := up1 _ _ (hH0 ▸ hI ▸ Heap.get?_push_size _ hfreed)
  obtain ⟨oC, heC, hoC⟩ := LCg.ns_obj hns₁
  have hst₁ : St 0 h₁ := W.frame _ _ _ hst fun b _ o e => up1 b o e
  have N₁ : News h₀ L h₁ ((I, oI0) :: (H2.objs.size, oC) :: (H0.objs.size, LCg.lst []) :: news) := fun p hp => by
    rcases List.mem_cons.mp hp with rfl | hp
    · exact ⟨hIget, fun q => absurd hLlt (q ▸ Nat.lt_irrefl _), fresh₀ _ (Nat.le_refl _)⟩
    · rcases List.mem_cons.mp hp with rfl | hp
      · exact ⟨heC, fun q => by have q' : @Eq Nat H2.objs.size L := q; omega, fresh₀ _ (by rw [hC]; omega)⟩
      · rcases List.mem_cons.mp hp with rfl | hp
        · exact ⟨hacc, fun q => by have q' : @Eq Nat H0.objs.size L := q; omega, fresh₀ _ (by rw [hD]; omega)⟩
        · exact ⟨old _ _ (N p hp).1, (N p hp).2⟩
  have off₁ : LCg.Off3 I H2.objs.size H0.objs.size news := LCg.Off3.of fun p hp => by
    have := hlt p hp
    refine ⟨Nat.ne_of_lt this, fun q => ?_, fun q => ?_⟩
    · have q' : @Eq Nat p.1 H2.objs.size := q; omega
    · have q' : @Eq Nat p.1 H0.objs.size := q; omega
  have hdist : (@Ne Nat I H2.objs.size) ∧ (@Ne Nat I H0.objs.size) ∧ (@Ne Nat H2.objs.size H0.objs.size) := ⟨by rw [hC]; omega, by rw [hD]; omega, by rw [hC, hD]; omega⟩
  have hCL : H2.objs.size ≠ L := fun q => by have q' : @Eq Nat H2.objs.size L := q; omega
  have hDL : H0.objs.size ≠ L := fun q => by have q' : @Eq Nat H0.objs.size L := q; omega
  have hIL : L ≠ I := Nat.ne_of_lt hLlt
  have hI₀ : h₀.get? I = none := fresh₀ _ (Nat.le_refl _)
  have hC₀ : h₀.get? H2.objs.size = none := fresh₀ _ (by rw [hC]; omega)
  have hD₀ : h₀.get? H0.objs.size = none := fresh₀ _ (by rw [hD]; omega)
  generalize H2.objs.size = C at N₁ off₁ hdist hCL hC₀ hns₁ hsb₁ heC ⊢
  generalize H0.objs.size = D at N₁ off₁ hdist hDL hD₀ hacc ⊢
  have loop : ∀ (oC : Obj) (m' : PySem.Str → Option Value) (h' : Heap) (tk : Nat), LCg.NsObj oC m' → Fr h₀ L h' m → News h₀ L h' ((I, oI0) :: (C, oC) :: (D, LCg.lst []) :: news) → St 0 h' →
      codeAny (model prog w) A (.compLoop (twoC elt (.Name x1 p1) i1 (.Name x2 p2) i2 ifs scope pos) 0 (.ref I) (.ref D) (compEnvC scope cl C env)) (RR (.ref D) C) { s₁ with heap := h', toks := tk } := by
    intro oC m' h' tk hoC F' N' hst'
    refine two_outer
      (fun k' s' => ∃ h' tk' i ys oI oC' m' nw, s' = { s₁ with heap := h', toks := tk' } ∧ i ≤ vs.length ∧ k' = vs.length + 1 - i ∧ St i h' ∧ Fr h₀ L h' m ∧ LCg.NsObj oC' m' ∧ News h₀ L h' ((I, oI) :: (C, oC') :: (D, LCg.lst ys) :: nw) ∧ LCg.Off3 I C D nw ∧ (l, listOf vs.toArray k) ∈ nw ∧ inv i ys nw) ?_ (vs.length + 1)
      ⟨h', tk, 0, [], oI0, oC, m', news, rfl, Nat.zero_le _, rfl, hst', F', hoC, N', off₁, hm, h0⟩ (fun _ => rfl) (fun x => hs2 x C)
    rintro k' s' ⟨h', tk', i, ys, oI, oC', m', nw, rfl, hi, rfl, hst', F', hC', N', off', hl', hinv⟩
    have off3 := off'.mem
    have ne : ∀ p ∈ (C, oC') :: (D, LCg.lst ys) :: nw, p.1 ∉ [I] := fun p hp => by
      rcases List.mem_cons.mp hp with rfl | hp
      · simpa using Ne.symm hdist.1
      · rcases List.mem_cons.mp hp with rfl | hp
        · simpa using Ne.symm hdist.2.1
        · simpa using (off3 p hp).1
    by_cases hlt : i < vs.length
    · refine W.item i _ _ _ (by rw [List.size_toArray]; exact hlt) hst' fun v h₂ tk₂ hPv hst₂ hk₂ => ?_
      have F₂ : Fr h₀ L h₂ m := fr_off F' hk₂ (by simpa using hIL) fun b hb => by rw [List.mem_singleton.mp hb]; exact hI₀
      have N₂ : News h₀ L h₂ ((C, oC') :: (D, LCg.lst ys) :: nw) := news_off (fun p hp => N' p (.tail _ hp)) hk₂ ne
      have y := N₂ (C, oC') (.head _)
      refine wpAny_assign_Name (wpAny_storeName_local (lookup_relabel_local hx1) (hC'.ns y.1) (fun h₃ hn₃ hs₃ => ?_) (by simp [compEnvC, relabel, hkind]))
      have hs₃' : Heap.SameBut C h₂ h₃ := hs₃
      have hst₃ : St (i + 1) h₃ := W.frame _ _ _ hst₂ fun b hb o' e => hs₃'.extBut b o' (fun q => by
        rw [q] at hb
        rcases List.mem_cons.mp hb with hb | hb
        · exact hdist.1 hb.symm
        · exact (off3 _ hl').2.1 (List.mem_singleton.mp hb).symm) e
      obtain ⟨oI', heI⟩ := hsome _ _ hst₃
      obtain ⟨oC₃, heC, hoC₃⟩ := LCg.ns_obj hn₃
      have F₃ : Fr h₀ L h₃ m := F₂.change hs₃' hCL hC₀
      have N₃ : News h₀ L h₃ ((I, oI') :: (C, oC₃) :: (D, LCg.lst ys) :: nw) := fun p hp => by
        rcases List.mem_cons.mp hp with rfl | hp
        · exact ⟨heI, Ne.symm hIL, hI₀⟩
        · rcases List.mem_cons.mp hp with rfl | hp
          · exact ⟨heC, hCL, hC₀⟩
          · have z := N₂ p (.tail _ hp)
            refine ⟨hs₃'.extBut _ _ ?_ z.1, z.2⟩
            rcases List.mem_cons.mp hp with rfl | hp
            · exact Ne.symm hdist.2.2
            · exact (off3 p hp).2.1
      refine wpAny_mono (turn i ys nw hlt hinv hl' v I oI' C oC₃ D _ h₃ _ (notedBy (model prog w) A (compEnvC scope cl C env) fun e s' => RR (.ref D) C (.error e) s') (by simpa using hPv) hoC₃ (by simp) F₃ N₃ off' hdist) (fun xv s₄ q => ?_) fun _ _ e => e
      refine two_in (R := fun _ s₅ => ∃ m_1, m_1 < vs.length + 1 - i ∧ _) (R' := fun e s₅ => _) hh hkind hx2 hne (by simp) hoC₃ hdist q ?_
      intro ys' nw' oC'' m'' h₅ tk₅ hnext hle hC'' F₅ N₅ off₅
      refine ⟨vs.length + 1 - (i + 1), by omega, h₅, tk₅, i + 1, ys', oI', oC'', m'', nw', rfl, hlt, rfl, W.frame _ _ _ hst₃ fun b hb o' e => ?_, F₅, hC'', N₅, off₅, hle, hnext⟩
      rcases List.mem_cons.mp hb with rfl | hb
      · rw [heI] at e; cases e; exact (N₅ _ (.head _)).1
      · have hb' := List.mem_singleton.mp hb
        rw [hb'] at e ⊢
        have z := (N₃ _ (.tail _ (.tail _ (.tail _ hl')))).1
        rw [z] at e; cases e
        exact (N₅ _ (.tail _ (.tail _ (.tail _ hle)))).1
    · obtain rfl : i = vs.length := Nat.le_antisymm hi (Nat.not_lt.mp hlt)
      refine W.done _ _ _ (by rw [List.size_toArray]; exact hst') fun h₂ tk₂ hk₂ => ?_
      have F₂ : Fr h₀ L h₂ m := fr_off F' hk₂ (by simpa using hIL) fun b hb => by rw [List.mem_singleton.mp hb]; exact hI₀
      have N₂ : News h₀ L h₂ ((C, oC') :: (D, LCg.lst ys) :: nw) := news_off (fun p hp => N' p (.tail _ hp)) hk₂ ne
      have y := N₂ (C, oC') (.head _)
      exact fin ys nw hinv D C h₂ tk₂ m' F₂ (fun p hp => N₂ p (.tail _ hp)) off'.one (hC'.ns y.1) hC₀ hD₀ hCL hDL hdist.2.2 fun p hp => (off3 p hp).2.1
  exact codeAny_compStart_list (loop oC _ _ _ hoC (F.keeps old) N₁ hst₁) (W.self 0 _ _ _ hst₁ (loop oC _ _ _ hoC (F.keeps old) N₁ hst₁))
theorem two_list {l : Addr} {vs : List Value} {k : Nat} {news : List (Addr × Obj)} {s₁ : Shared} {Q : Value → Shared → Prop} (F : Fr h₀ L s₁.heap m) (N : News h₀ L s₁.heap news) (hm : (l, listOf vs.toArray k) ∈ news) (hsz : vs.length ≤ 1000) (hh : A.handled = none)
    (hcell : ∀ y ∈ scope.names, y.2 ≠ .cell) (hkind : scope.kind = .function) (hx1 : scope.names.lookup x1 = some .local) (hx2 : scope.names.lookup x2 = some .local) (hne : x1 ≠ x2) (hs2 : ∀ x C, foldedSetIterable i2 (compEnvC scope cl C env) x = pure x)
    (inv : Nat → List Value → List (Addr × Obj) → Prop) (h0 : inv 0 [] news)
    (turn : ∀ i ys nw, i < vs.length → inv i ys nw → (l, listOf vs.toArray k) ∈ nw → ∀ v I oI C oC D m₂ h tk (E' : Value → Shared → Prop), vs[i]? = some v → LCg.NsObj oC m₂ → m₂ x1 = some v → Fr h₀ L h m → News h₀ L h ((I, oI) :: (C, oC) :: (D, LCg.lst ys) :: nw) → LCg.Off3 I C D nw → ((@Ne Nat I C) ∧ (@Ne Nat I D) ∧ (@Ne Nat C D)) →
      wpAny (model prog w) A (eval i2 (compEnvC scope cl C env)) (InSrc prog w A h₀ L m s₁ env elt x1 x2 ifs scope cl (l, listOf vs.toArray k) v I oI C oC D ys (inv (i + 1))) E' { s₁ with heap := h, toks := tk })
    (fin : ∀ ys nw, inv vs.length ys nw → ∀ D h tk, Fr h₀ L h m → News h₀ L h ((D, LCg.lst ys) :: nw) → LCg.Off1 D nw → Q (.ref D) { s₁ with heap := h, toks := tk }) :
    wpAny (model prog w) A (pyIter (.ref l)) (fun it s₂ => wpAny (model prog w) A (newList []) (fun acc s₃ => wpAny (model prog w) A (newFunctionEnv scope env.globals cl [] env.qual none .none (some env)) (fun cenv s₄ =>
      codeAny (model prog w) A (.compStart (twoC elt (.Name x1 p1) i1 (.Name x2 p2) i2 ifs scope pos) 0 it acc { cenv with scope := relabel scope env }) (compPost (model prog w) A E none Q acc cenv.locals) s₄) E s₃) E s₂) E s₁ :=
  two_listR F N hm hsz hh hcell hkind hx1 hx2 hne hs2 inv h0 turn fun ys nw hinv D C h tk m' F' N' o1 hn hC₀ hD₀ hCL hDL hCD offC =>
    ⟨m', hn, fun h'' hs'' => fin ys nw hinv D h'' tk (F'.change hs'' hCL hC₀) (fun p hp => by
      refine ⟨hs''.extBut _ _ ?_ (N' p hp).1, (N' p hp).2⟩
      rcases List.mem_cons.mp hp with rfl | hp
      · exact Ne.symm hCD
      · exact offC p hp) o1⟩
/-- the same, where a name is bound to the list at once -/
theorem two_listA {l : Addr} {vs : List Value} {k : Nat} {news : List (Addr × Obj)} {s₁ : Shared} {Q : Flow → Shared → Prop} {y : PySem.Str} {py : Pos} (hLe : env.locals = L) (hy : env.kindOf y = some .local) (hp : (env.scope.kind == .class || (env.scope.kind == .module && env.locals != env.globals)) = false) (F : Fr h₀ L s₁.heap m) (N : News h₀ L s₁.heap news) (hm : (l, listOf vs.toArray k) ∈ news) (hsz : vs.length ≤ 1000) (hh : A.handled = none)
    (hcell : ∀ y ∈ scope.names, y.2 ≠ .cell) (hkind : scope.kind = .function) (hx1 : scope.names.lookup x1 = some .local) (hx2 : scope.names.lookup x2 = some .local) (hne : x1 ≠ x2) (hs2 : ∀ x C, foldedSetIterable i2 (compEnvC scope cl C env) x = pure x)
    (inv : Nat → List Value → List (Addr × Obj) → Prop) (h0 : inv 0 [] news)
    (turn : ∀ i ys nw, i < vs.length → inv i ys nw → (l, listOf vs.toArray k) ∈ nw → ∀ v I oI C oC D m₂ h tk (E' : Value → Shared → Prop), vs[i]? = some v → LCg.NsObj oC m₂ → m₂ x1 = some v → Fr h₀ L h m → News h₀ L h ((I, oI) :: (C, oC) :: (D, LCg.lst ys) :: nw) → LCg.Off3 I C D nw → ((@Ne Nat I C) ∧ (@Ne Nat I D) ∧ (@Ne Nat C D)) →
      wpAny (model prog w) A (eval i2 (compEnvC scope cl C env)) (InSrc prog w A h₀ L m s₁ env elt x1 x2 ifs scope cl (l, listOf vs.toArray k) v I oI C oC D ys (inv (i + 1))) E' { s₁ with heap := h, toks := tk })
    (fin : ∀ ys nw, inv vs.length ys nw → ∀ D h tk, Fr h₀ L h (fun z => if z = y then some (.ref D) else m z) → News h₀ L h ((D, LCg.lst ys) :: nw) → LCg.Off1 D nw → Q .next { s₁ with heap := h, toks := tk }) :
    wpAny (model prog w) A (pyIter (.ref l)) (fun it s₂ => wpAny (model prog w) A (newList []) (fun acc s₃ => wpAny (model prog w) A (newFunctionEnv scope env.globals cl [] env.qual none .none (some env)) (fun cenv s₄ =>
      codeAny (model prog w) A (.compStart (twoC elt (.Name x1 p1) i1 (.Name x2 p2) i2 ifs scope pos) 0 it acc { cenv with scope := relabel scope env }) (compPost (model prog w) A E (some (assign (.Name y py) env)) (fun _ s' => Q .next s') acc cenv.locals) s₄) E s₃) E s₂) E s₁ := by
  subst hLe
  refine two_listR F N hm hsz hh hcell hkind hx1 hx2 hne hs2 inv h0 turn fun ys nw hinv D C h tk m' F' N' o1 hn hC₀ hD₀ hCL hDL hCD offC => ?_
  show wpAny _ A (assign (.Name y py) env (.ref D)) _ _ _
  refine wpAny_assign_Name (wpAny_storeName_local hy F'.ns (fun h₂ hn₂ hs₂ => ?_) hp)
  have hL₀ : h₀.get? env.locals = none := Heap.get?_none_of_le F'.above
  have F₂ : Fr h₀ env.locals h₂ (fun z => if z = y then some (.ref D) else m z) := ⟨hn₂, fun b o e => hs₂.extBut b o (fun q => by rw [q, hL₀] at e; cases e) (F'.keep b o e), F'.above⟩
  refine ⟨m', hn.sameBut hs₂ hCL, fun h'' hs'' => fin ys nw hinv D h'' _ (F₂.change hs'' hCL hC₀) (fun p hp => ?_) o1⟩
  have z : h₂.get? p.1 = some p.2 := hs₂.extBut _ _ (N' p hp).2.1 (N' p hp).1
  refine ⟨hs''.extBut _ _ ?_ z, (N' p hp).2⟩
  rcases List.mem_cons.mp hp with rfl | hp
  · exact Ne.symm hCD
  · exact offC p hp
/-- the same, where nothing that is kept is made -/
theorem two_listC {l : Addr} {vs : List Value} {k : Nat} {news : List (Addr × Obj)} {s₁ : Shared} {Q : Value → Shared → Prop} (F : Fr h₀ L s₁.heap m) (N : News h₀ L s₁.heap news) (hm : (l, listOf vs.toArray k) ∈ news) (hsz : vs.length ≤ 1000) (hh : A.handled = none)
    (hcell : ∀ y ∈ scope.names, y.2 ≠ .cell) (hkind : scope.kind = .function) (hx1 : scope.names.lookup x1 = some .local) (hx2 : scope.names.lookup x2 = some .local) (hne : x1 ≠ x2) (hs2 : ∀ x C, foldedSetIterable i2 (compEnvC scope cl C env) x = pure x)
    (good : Nat → List Value → Prop) (h0 : good 0 [])
    (turn : ∀ i ys, i < vs.length → good i ys → ∀ v I oI C oC D m₂ h tk (E' : Value → Shared → Prop), vs[i]? = some v → LCg.NsObj oC m₂ → m₂ x1 = some v → Fr h₀ L h m → News h₀ L h ((I, oI) :: (C, oC) :: (D, LCg.lst ys) :: news) → LCg.Off3 I C D news → ((@Ne Nat I C) ∧ (@Ne Nat I D) ∧ (@Ne Nat C D)) →
      wpAny (model prog w) A (eval i2 (compEnvC scope cl C env)) (InSrc prog w A h₀ L m s₁ env elt x1 x2 ifs scope cl (l, listOf vs.toArray k) v I oI C oC D ys (fun ys' nw' => nw' = news ∧ good (i + 1) ys')) E' { s₁ with heap := h, toks := tk })
    (fin : ∀ ys, good vs.length ys → ∀ D h tk, Fr h₀ L h m → News h₀ L h ((D, LCg.lst ys) :: news) → LCg.Off1 D news → Q (.ref D) { s₁ with heap := h, toks := tk }) :
    wpAny (model prog w) A (pyIter (.ref l)) (fun it s₂ => wpAny (model prog w) A (newList []) (fun acc s₃ => wpAny (model prog w) A (newFunctionEnv scope env.globals cl [] env.qual none .none (some env)) (fun cenv s₄ =>
      codeAny (model prog w) A (.compStart (twoC elt (.Name x1 p1) i1 (.Name x2 p2) i2 ifs scope pos) 0 it acc { cenv with scope := relabel scope env }) (compPost (model prog w) A E none Q acc cenv.locals) s₄) E s₃) E s₂) E s₁ :=
  two_list F N hm hsz hh hcell hkind hx1 hx2 hne hs2 (fun i ys nw => nw = news ∧ good i ys) ⟨rfl, h0⟩
    (by rintro i ys nw hi ⟨rfl, hg⟩ _; exact turn i ys hi hg)
    (by rintro ys nw ⟨rfl, hg⟩; exact fin ys hg)
/-- the two generators' comprehension, its first list reached -/
noncomputable def TwoSrc (prog : Program) (w : World) (A : Around) (env : Env) (elt i1 i2 : PySem.Expr) (x1 x2 : PySem.Str) (p1 p2 : Pos) (ifs : List PySem.Expr) (scope : Scope) (pos : Pos) (cl : List (PySem.Str × Addr)) (E : Value → Shared → Prop) (Q : Value → Shared → Prop) (xv : Value) (s₁ : Shared) : Prop :=
  wpAny (model prog w) A (pyIter xv) (fun it s₂ => wpAny (model prog w) A (newList []) (fun acc s₃ => wpAny (model prog w) A (newFunctionEnv scope env.globals cl [] env.qual none .none (some env)) (fun cenv s₄ =>
    codeAny (model prog w) A (.compStart (twoC elt (.Name x1 p1) i1 (.Name x2 p2) i2 ifs scope pos) 0 it acc { cenv with scope := relabel scope env }) (compPost (model prog w) A E none Q acc cenv.locals) s₄) E s₃) E s₂) E s₁
theorem ListComp_two {Q : Value → Shared → Prop} (hclos : closureFor scope env = pure cl) (hkind : scope.kind = .function) (hnames : ∀ y ∈ scope.names, y.2 = .local → scope.names.lookup y.1 = some .local) (hs : ∀ x, foldedSetIterable i1 env x = pure x)
    (h : wpAny (model prog w) A (eval i1 env) (TwoSrc prog w A env elt i1 i2 x1 x2 p1 p2 ifs scope pos cl E Q) E s) :
    wpAny (model prog w) A (eval (twoC elt (.Name x1 p1) i1 (.Name x2 p2) i2 ifs scope pos) env) Q E s := by
  rw [eval_ListComp]
  exact wpAny_comprehension_free (use := none) rfl hs hclos hkind hnames h
/-- the two generators' comprehension that a name is bound to, its first list reached -/
noncomputable def TwoSrcA (prog : Program) (w : World) (A : Around) (env : Env) (elt i1 i2 : PySem.Expr) (x1 x2 : PySem.Str) (p1 p2 : Pos) (ifs : List PySem.Expr) (scope : Scope) (pos : Pos) (cl : List (PySem.Str × Addr)) (y : PySem.Str) (py : Pos) (E : Value → Shared → Prop) (Q : Flow → Shared → Prop) (xv : Value) (s₁ : Shared) : Prop :=
  wpAny (model prog w) A (pyIter xv) (fun it s₂ => wpAny (model prog w) A (newList []) (fun acc s₃ => wpAny (model prog w) A (newFunctionEnv scope env.globals cl [] env.qual none .none (some env)) (fun cenv s₄ =>
    codeAny (model prog w) A (.compStart (twoC elt (.Name x1 p1) i1 (.Name x2 p2) i2 ifs scope pos) 0 it acc { cenv with scope := relabel scope env }) (compPost (model prog w) A E (some (assign (.Name y py) env)) (fun _ s' => Q .next s') acc cenv.locals) s₄) E s₃) E s₂) E s₁
theorem two_listT {l : Addr} {vs : List Value} {k : Nat} {news : List (Addr × Obj)} {s₁ : Shared} {Q : Flow → Shared → Prop} {y : PySem.Str} {py : Pos} (hLe : env.locals = L) (hy : env.kindOf y = some .local) (hp : (env.scope.kind == .class || (env.scope.kind == .module && env.locals != env.globals)) = false) (F : Fr h₀ L s₁.heap m) (N : News h₀ L s₁.heap news) (hm : (l, listOf vs.toArray k) ∈ news) (hsz : vs.length ≤ 1000) (hh : A.handled = none)
    (hcell : ∀ y ∈ scope.names, y.2 ≠ .cell) (hkind : scope.kind = .function) (hx1 : scope.names.lookup x1 = some .local) (hx2 : scope.names.lookup x2 = some .local) (hne : x1 ≠ x2) (hs2 : ∀ x C, foldedSetIterable i2 (compEnvC scope cl C env) x = pure x)
    (inv : Nat → List Value → List (Addr × Obj) → Prop) (h0 : inv 0 [] news)
    (turn : ∀ i ys nw, i < vs.length → inv i ys nw → (l, listOf vs.toArray k) ∈ nw → ∀ v I oI C oC D m₂ h tk (E' : Value → Shared → Prop), vs[i]? = some v → LCg.NsObj oC m₂ → m₂ x1 = some v → Fr h₀ L h m → News h₀ L h ((I, oI) :: (C, oC) :: (D, LCg.lst ys) :: nw) → LCg.Off3 I C D nw → ((@Ne Nat I C) ∧ (@Ne Nat I D) ∧ (@Ne Nat C D)) →
      wpAny (model prog w) A (eval i2 (compEnvC scope cl C env)) (InSrc prog w A h₀ L m s₁ env elt x1 x2 ifs scope cl (l, listOf vs.toArray k) v I oI C oC D ys (inv (i + 1))) E' { s₁ with heap := h, toks := tk })
    (fin : ∀ ys nw, inv vs.length ys nw → ∀ D h tk, Fr h₀ L h (fun z => if z = y then some (.ref D) else m z) → News h₀ L h ((D, LCg.lst ys) :: nw) → LCg.Off1 D nw → Q .next { s₁ with heap := h, toks := tk }) :
    TwoSrcA prog w A env elt i1 i2 x1 x2 p1 p2 ifs scope pos cl y py E Q (.ref l) s₁ :=
  two_listA hLe hy hp F N hm hsz hh hcell hkind hx1 hx2 hne hs2 inv h0 turn fin
theorem Assign_ListComp_two {Q : Flow → Shared → Prop} {y : PySem.Str} {py spos : Pos} (hsw : swapsWith (twoC elt (.Name x1 p1) i1 (.Name x2 p2) i2 ifs scope pos) (some (.Name y py)) spos.line env = pure true)
    (hclos : closureFor scope env = pure cl) (hkind : scope.kind = .function) (hnames : ∀ y ∈ scope.names, y.2 = .local → scope.names.lookup y.1 = some .local) (hs : ∀ x, foldedSetIterable i1 env x = pure x)
    (h : wpAny (model prog w) A (eval i1 env) (TwoSrcA prog w A env elt i1 i2 x1 x2 p1 p2 ifs scope pos cl y py E Q) E s) :
    wpAny (model prog w) A (exec (.Assign [.Name y py] (twoC elt (.Name x1 p1) i1 (.Name x2 p2) i2 ifs scope pos) spos) env) Q E s := by
  rw [exec_Assign_Name_used _ _ _ _ hsw]
  refine wpAny_bind (wpAny_standAt (wpAny_bind ?_))
  show wpAny _ A (do let _ ← comprehension (twoC elt (.Name x1 p1) i1 (.Name x2 p2) i2 ifs scope pos) scope env _ (newList []) false (eval i1 env) (some (assign (.Name y py) env))) _ _ s
  refine wpAny_bind (wpAny_mono (wpAny_comprehension_free (use := some (assign (.Name y py) env)) (Q := fun _ s' => Q .next s') rfl hs hclos hkind hnames h) (fun _ s' hq => wpAny_pure (wpAny_pure hq)) fun _ _ e => e)
/-- give a place in the ledger a name of one's own -/
theorem name_of {P : Prop} {h : Heap} {l : List (Addr × Obj)} {a : Addr} {o : Obj} (_N : News h₀ L h l) (_hm : (a, o) ∈ l) (k : ∀ a', a' = a → P) : P := k a rfl
theorem name_ob {P : Prop} {h : Heap} {l : List (Addr × Obj)} {a : Addr} {o : Obj} (_N : News h₀ L h l) (_hm : (a, o) ∈ l) (k : ∀ o', o' = o → P) : P := k o rfl
end
end Mine
end
section
open PySem PySem.W PyProof.Rows PySem.Spec PySem.Calls
set_option maxRecDepth 100000
namespace Mine
section
variable {prog : Program} {w : World} {A₀ A : Around} {s : Shared} {base h₀ : Heap} {outer : List Env} {L : Addr} {m mg mb : PySem.Str → Option Value} {env : Env} {news : List (Addr × Obj)} {K : Frag} {p : Program} {loose : List PySem.Str} {mean : ExcName → Option Value}
  {R : Result → Shared → Prop} {name qual : PySem.Str} {params : Arguments} {body : List Stmt} {scope : Scope} {cl : List (PySem.Str × Addr)} {dV kV doc pm cdv ct oc : Value} {an od : Option Addr} {fo : Obj} {osl : Array (Option Value)} {f : Addr} {args : Args} {binds : List (PySem.Str × Value)}
/-- the kit's callX_cells, with word that toks do not fall -/
theorem callX_cellsT (B : Below A₀ base outer h₀) (F : Fr h₀ L s.heap m) (N : News h₀ L s.heap news) (hlim : h₀.NoLimit) (hA : A.frames = some (env :: outer)) (hf : env.frame = some L) (hke : env.scope.kind = .function)
    (ho : s.heap.get? f = some fo) (hd : fo.data = .func (fnX name qual params body scope [] dV kV doc pm an cdv ct)) (hcd : s.heap.CodeRec cdv qual) (hroom : A.depth < recursionLimit)
    (hbind : BindsTo s (fnX name qual params body scope [] dV kV doc pm an cdv ct) args binds)
    (hkind : ∀ n, ∀ x ∈ binds, scope.names.lookup x.1 = some .local ∨ (scope.names.lookup x.1 = some .cell ∧ ((cellsFrom n scope.names []).lookup x.1).isSome = true))
    (hnd : ((cellsFrom 0 scope.names []).map (·.1)).Nodup)
    (h : ∀ g L' h₁ tk cells, s.toks ≤ tk → Fr h₀ L g m → Fr g L' h₁ (bindL (envOfC qual scope L' f cdv).kindOf binds fun _ => none) → News g L' h₁ (cells ++ news) →
      CellsAre (bindC (envOfC qual scope L' f cdv).kindOf binds fun _ => none) (cellsFrom (L' + 1) scope.names []) cells → Below A base (env :: outer) g → h₀.StaysIn g → (∀ p ∈ news, p.1 < L') →
      wpAny (model prog w) (A.deeper (envOfC qual scope L' f cdv)) (execs body (envOfC qual scope L' f cdv))
        (fun fl s' => LeaveK h₀ L m g R (match fl with | .ret v => v | _ => .none) s')
        (fun e s' => wpAny (model prog w) (A.deeper (envOfC qual scope L' f cdv)) (leaving (envOfC qual scope L' f cdv) e) (fun _ s'' => R (.error e) s'') (fun e' s'' => R (.error e') s'') s')
        { s with heap := h₁, toks := tk })
    (hco : scope.isCoroutine = false := by rfl) (hgen : scope.isGenerator = false := by rfl) (hk : scope.kind = .function := by rfl) : codeAny (model prog w) A (.call (.ref f) args) R s := by
  obtain ⟨FG, BG, st, lv⟩ := groundX (R := R) B F N hA hf hke
  refine codeAny_call_function hroom ho hd hco hgen rfl hcd (hbind _ _ _ _ ?_)
  refine wpAny_toksQ _ (Nat.le_refl _) ?_
  refine wpAny_newFunctionEnv_cells hk (hkind _) fun env' he s' x htk => ?_
  subst he
  refine ⟨(hlim.keeps F.keep).keeps x.toInCall.keep, codeAny_func ?_⟩
  have hk₁ := x.toInCall.keep
  obtain ⟨h₁, tk, rfl, _⟩ := x.done
  obtain ⟨cells, NC, Y⟩ := Cl.news (h₀ := s.heap) (Nat.le_refl _) fun n c hm => ⟨x.cell n c (lookup_of_mem_nodup (cellsFrom_names scope.names 0 (s.heap.objs.size + 1) [] [] rfl ▸ hnd) hm), x.above n c hm⟩
  refine wpAny_mono (h _ s.heap.objs.size h₁ tk cells htk FG ⟨x.toInCall.ns, fun b o e => hk₁ b o (of_hideAll _ e), Nat.le_of_eq (hideAll_size _ _)⟩ (fun p hp => ?_) Y BG st (fun p hp => Heap.lt_size (N p hp).1)) (fun fl s' hl => lv _ _ hl) fun _ _ y => y
  rcases List.mem_append.mp hp with hp | hp
  · refine ⟨(NC p hp).1, (NC p hp).2.1, ?_⟩
    cases q : (hideAll s.heap (news.map (·.1))).get? p.1 with
    | none => rfl
    | some o => have := of_hideAll _ q; rw [(NC p hp).2.2] at this; cases this
  · exact ⟨hk₁ _ _ (N p hp).1, Nat.ne_of_lt (Heap.lt_size (N p hp).1), hideAll_none _ (List.mem_map_of_mem hp)⟩
theorem code_defCT
    (B : Below A₀ base outer h₀) (F : Fr h₀ L s.heap m) (X₀ : K.In h₀) (N : News h₀ L s.heap news) (T : Top p loose mean mg mb h₀) (hA : A.frames = some (env :: outer)) (hf : env.frame = some L) (hke : env.scope.kind = .function)
    (ho : K.lookup f = some ⟨oc, od, .func (fnOf name qual params body scope dV kV doc pm an cdv ct), osl⟩) (hcd : codeIn K cdv qual = true) (hroom : A.depth < recursionLimit)
    (hbind : BindsTo s (fnOf name qual params body scope dV kV doc pm an cdv ct) args binds) (hkind : (binds.all fun y => scope.names.lookup y.1 == some .local || scope.names.lookup y.1 == some .cell) = true)
    (hnd : ((cellsFrom 0 scope.names []).map (·.1)).Nodup)
    (h : ∀ g L' h₁ tk cells, s.toks ≤ tk → Fr h₀ L g m → Fr g L' h₁ (bindL (envOfC qual scope L' f cdv).kindOf binds fun _ => none) → News g L' h₁ (cells ++ news) →
      CellsAre (bindC (envOfC qual scope L' f cdv).kindOf binds fun _ => none) (cellsFrom (L' + 1) scope.names []) cells → Below A base (env :: outer) g → K.In g → Top p loose mean mg mb g → (∀ p ∈ news, p.1 < L') →
      wpAny (model prog w) (A.deeper (envOfC qual scope L' f cdv)) (execs body (envOfC qual scope L' f cdv))
        (fun fl s' => LeaveK h₀ L m g R (match fl with | .ret v => v | _ => .none) s')
        (fun e s' => wpAny (model prog w) (A.deeper (envOfC qual scope L' f cdv)) (leaving (envOfC qual scope L' f cdv) e) (fun _ s'' => R (.error e) s'') (fun e' s'' => R (.error e') s'') s')
        { s with heap := h₁, toks := tk })
    (hco : scope.isCoroutine = false) (hgen : scope.isGenerator = false) (hk : scope.kind = .function) : codeAny (model prog w) A (.call (.ref f) args) R s :=
  callX_cellsT B F N T.nolimit hA hf hke ((X₀.keeps F.keep) _ _ ho) rfl (codeRec_of (X₀.keeps F.keep) hcd) hroom hbind (kindsX hkind) hnd (fun g L' h₁ tk cells ht FG F' N' Y B' st l => h g L' h₁ tk cells ht FG F' N' Y B' (X₀.keeps st) (T.keeps st) l) hco hgen hk
end
end Mine
end
section
open PySem PySem.W PyProof.Rows
set_option Elab.async false
set_option pp.deepTerms false
set_option pp.deepTerms.threshold 12
namespace Mine
variable {w : World} {mg mb : PySem.Str → Option Value} {mean : ExcName → Option Value}
set_option maxRecDepth 100000 in
set_option maxHeartbeats 1600000 in
theorem hooks_spec (x : PySem.Str) (t tm : Tok) (most : Int) (hx : x.length ≤ 90) (hm : 1 ≤ most ∧ most ≤ 8) (hdots : ∀ r ∈ rowsL (x.cps.toList.map fun k => if k = 46 then 32 else k), ∀ k ∈ r, k = 32) (news) :
    SpecO PySem.Challenge.rw_sn0027_01.row.prog w (Mine.hd.heap_39 w.params) Mine.hd.view_39 loose mean mg mb 177 5 news [.str x t, .int most tm] (fun o => ∃ vs k, o = listOf vs.toArray k ∧ IntsAre vs (hooksL (rowsL (x.cps.toList.map fun k => if k = 46 then 32 else k)) most.toNat)) := by
  k_fill
  k_with_none
  k_with "k_ne" => (first | assumption | exact Ne.symm (by assumption) | exact And.left (by assumption) | exact Ne.symm (And.left (by assumption)) | exact And.left (And.right (by assumption)) | exact Ne.symm (And.left (And.right (by assumption))) | exact And.right (by assumption) | exact Ne.symm (And.right (by assumption)) | exact And.left (And.right (And.right (by assumption))) | exact Ne.symm (And.left (And.right (And.right (by assumption)))) | exact And.right (And.right (by assumption)) | exact Ne.symm (And.right (And.right (by assumption))) | exact And.left (And.right (And.right (And.right (by assumption)))) | exact Ne.symm (And.left (And.right (And.right (And.right (by assumption))))) | exact And.right (And.right (And.right (by assumption))) | exact Ne.symm (And.right (And.right (And.right (by assumption)))) | exact And.left (And.right (And.right (And.right (And.right (by assumption))))) | exact Ne.symm (And.left (And.right (And.right (And.right (And.right (by assumption)))))) | exact And.right (And.right (And.right (And.right (by assumption)))) | exact Ne.symm (And.right (And.right (And.right (And.right (by assumption))))) | exact And.left (And.right (And.right (And.right (And.right (And.right (by assumption)))))) | exact Ne.symm (And.left (And.right (And.right (And.right (And.right (And.right (by assumption))))))) | exact And.right (And.right (And.right (And.right (And.right (by assumption))))) | exact Ne.symm (And.right (And.right (And.right (And.right (And.right (by assumption)))))) | exact And.left (And.right (And.right (And.right (And.right (And.right (And.right (by assumption))))))) | exact Ne.symm (And.left (And.right (And.right (And.right (And.right (And.right (And.right (by assumption)))))))) | exact And.right (And.right (And.right (And.right (And.right (And.right (by assumption)))))) | exact Ne.symm (And.right (And.right (And.right (And.right (And.right (And.right (by assumption))))))) | exact And.left (And.right (And.right (And.right (And.right (And.right (And.right (And.right (by assumption)))))))) | exact Ne.symm (And.left (And.right (And.right (And.right (And.right (And.right (And.right (And.right (by assumption))))))))) | exact And.right (And.right (And.right (And.right (And.right (And.right (And.right (by assumption))))))) | exact Ne.symm (And.right (And.right (And.right (And.right (And.right (And.right (And.right (by assumption)))))))) | exact And.left (And.right (And.right (And.right (And.right (And.right (And.right (And.right (And.right (by assumption))))))))) | exact Ne.symm (And.left (And.right (And.right (And.right (And.right (And.right (And.right (And.right (And.right (by assumption)))))))))) | exact And.right (And.right (And.right (And.right (And.right (And.right (And.right (And.right (by assumption)))))))) | exact Ne.symm (And.right (And.right (And.right (And.right (And.right (And.right (And.right (And.right (by assumption))))))))) | exact And.left (And.right (And.right (And.right (And.right (And.right (And.right (And.right (And.right (And.right (by assumption)))))))))) | exact Ne.symm (And.left (And.right (And.right (And.right (And.right (And.right (And.right (And.right (And.right (And.right (by assumption))))))))))) | exact And.right (And.right (And.right (And.right (And.right (And.right (And.right (And.right (And.right (by assumption))))))))) | exact Ne.symm (And.right (And.right (And.right (And.right (And.right (And.right (And.right (And.right (And.right (by assumption)))))))))) | exact And.left (And.right (And.right (And.right (And.right (And.right (And.right (And.right (And.right (And.right (And.right (by assumption))))))))))) | exact Ne.symm (And.left (And.right (And.right (And.right (And.right (And.right (And.right (And.right (And.right (And.right (And.right (by assumption)))))))))))) | exact And.right (And.right (And.right (And.right (And.right (And.right (And.right (And.right (And.right (And.right (by assumption)))))))))) | exact Ne.symm (And.right (And.right (And.right (And.right (And.right (And.right (And.right (And.right (And.right (And.right (by assumption))))))))))) | exact And.left (And.right (And.right (And.right (And.right (And.right (And.right (And.right (And.right (And.right (And.right (And.right (by assumption)))))))))))) | exact Ne.symm (And.left (And.right (And.right (And.right (And.right (And.right (And.right (And.right (And.right (And.right (And.right (And.right (by assumption))))))))))))) | exact And.right (And.right (And.right (And.right (And.right (And.right (And.right (And.right (And.right (And.right (And.right (by assumption))))))))))) | exact Ne.symm (And.right (And.right (And.right (And.right (And.right (And.right (And.right (And.right (And.right (And.right (And.right (by assumption)))))))))))) | exact And.left (And.right (And.right (And.right (And.right (And.right (And.right (And.right (And.right (And.right (And.right (And.right (And.right (by assumption))))))))))))) | exact Ne.symm (And.left (And.right (And.right (And.right (And.right (And.right (And.right (And.right (And.right (And.right (And.right (And.right (And.right (by assumption)))))))))))))) | exact And.right (And.right (And.right (And.right (And.right (And.right (And.right (And.right (And.right (And.right (And.right (And.right (by assumption)))))))))))) | exact Ne.symm (And.right (And.right (And.right (And.right (And.right (And.right (And.right (And.right (And.right (And.right (And.right (And.right (by assumption))))))))))))))
  k_with "k_all" => (first | assumption | exact allLt_ne (by assumption) | exact allLt_ne (And.right (by assumption)) | exact allLt_ne (And.right (And.right (by assumption))) | exact allLt_ne (And.right (And.right (And.right (by assumption)))) | exact allLt_ne (And.right (And.right (And.right (And.right (by assumption))))) | exact allLt_ne (And.right (And.right (And.right (And.right (And.right (by assumption)))))) | exact allLt_ne (And.right (And.right (And.right (And.right (And.right (And.right (by assumption))))))) | exact allLt_ne (And.right (And.right (And.right (And.right (And.right (And.right (And.right (by assumption)))))))))
  k_with "execs cons" => (k_here; refine wpAny_execs_cons ?_; refine wpAny_toksQ 1 (by first | exact Nat.le_add_left _ _ | assumption) ?_; (try dsimp only))
  k_with "call builtin:str.replace" => (k_here; k_dflt (refine' rep_rule (by (try dsimp only); omega) (by (try dsimp only); omega) (by (try dsimp only); omega) (by decide +kernel) (by decide +kernel) (by l_fact) (by decide +kernel) (by (try dsimp only); omega) ?_; k_whole; intro _ _ _; (try dsimp only)))
  k_with "call builtin:str.split" => (k_here; k_dflt (refine' split_led (by k_asm) (by k_asm) (by decide +kernel) (by decide +kernel) (by l_fact) ?_; k_whole); intro _ _ _ _ _ _ _ zl; (try k_lt zl))
  k_with "subscriptTail Name Slice ref ref" => (k_here; (with_reducible show wpAny _ _ (subscriptTail _ (PySem.Expr.Slice _ _ none _) (Value.ref _) (Value.ref _)) _ _ _); k_dflt (refine' kmk_slice_lit (by k_asm) (by k_asm) (by kmk_list) (by kmk_part) (by kmk_part) (by exact pick_init _) ?_ (by with_unfolding_all rfl) (by kmk_pure) (by exact split_size (by assumption) (by l_fact)); k_whole); intro _ _ _ _ zl; (try k_lt zl))
  k_with "subscriptTail Name Slice ref ref" => (k_here; (with_reducible show wpAny _ _ (subscriptTail _ (PySem.Expr.Slice none none (some _) _) (Value.ref _) (Value.ref _)) _ _ _); k_dflt (refine' krv_lit (by k_asm) (by k_asm) (by kmk_list) (by exact IsPart.int _ _) (by exact congrArg List.reverse List.toList_toArray) ?_ (by with_unfolding_all rfl) (by kmk_pure) (by assumption); k_whole); intro _ _ _ _ zl; (try k_lt zl))
  k_with "binaryOp Add ref ref" => (k_here; k_dflt (refine' kmk_add_lit (by k_asm) (by k_asm) (by kmk_list) (by kmk_list) (by exact congr (congrArg HAppend.hAppend List.toList_toArray) List.toList_toArray) ?_ (by (simp only [List.toList_toArray, List.length_append, List.length_reverse, List.length_cons, List.length_nil]; omega)); k_whole); intro _ _ _ _ zl; (try k_lt zl))
  k_with "call builtin:str.join" => (k_here; k_dflt (refine' join_listW (by exact News.isList (by k_asm) (by k_mem)) (by exact lead_strs (by assumption) _ _) (by decide +kernel) (by exact Nat.le_trans (m := 280) (by assumption) (by decide)) ?_; k_whole); intro _ _)
  k_with "call builtin:len" => (k_here; (with_reducible show wpAny _ _ (call (Value.builtin "len") [Value.ref _]) _ _ _); k_dflt (refine' kun_lenL (by exact News.isList (by k_asm) (by k_mem)) (by assumption) (by omega) ?_; k_whole))
  k_with "call builtin:list.append" => (k_here; (with_reducible show wpAny _ _ (call (Value.builtin _) [Value.ref _, _]) _ _ _); k_dflt (refine' append_K (by k_asm) (by k_asm) (by k_upd) ?_ (by assumption); k_whole); intro _ _ _)
  k_with "call ref" => (k_here; refine Hold.mk ?_)
  k_with "pyIter ref" => (k_here; (with_reducible show wpAny _ _ (pyIter (Value.ref _)) (fun it s₂ => LoopAtV _ _ _ _ _ _ _ _ _ it s₂) _ _); refine Hold.mk ?_)
  k_with "eval ListComp" => (k_here; (with_reducible show wpAny _ _ (eval (PySem.Expr.ListComp _ [_] _ _) _) _ _ _); k_dflt (refine LCg.ListComp_U (F₀ := by k_asm) (by rfl) (by decide) (by rfl) (by decide) (by rfl) ?_); k_dflt lcg_toSrc)
  k_with "eval ListComp" => (k_here; (with_reducible show wpAny _ _ (eval (PySem.Expr.ListComp _ [_, _] _ _) _) _ _ _); k_dflt (refine' ListComp_two (by exact rfl) (by exact rfl) (by decide) (by intro _; rfl) ?_; k_whole))
  k_with "exec For Name Call cons nil" => (k_here; (rename Fr _ _ _ _ => zlF); (with_unfolding_all refine' For_invTF zlF ?_ (by intro _; rfl); k_whole))
  k_with "pyIter ref" => (k_here; (with_reducible show wpAny _ _ (pyIter (Value.ref _)) (fun it s₂ => LoopAtT _ _ _ _ _ _ _ _ _ it s₂) _ _); refine Hold.mk ?_)
  k_with "CompSrc" => (refine Hold.mk ?_)
  unfold SpecO
  intro dp un gd cn cs a ccd cl outer A₀ base h₀ L m s Q E B F X N T hk hd hu ht hret
  refine wpAny_call ?_
  k_dflt (refine' code_defCT ?k1 ?k2 ?k3 ?k4 ?k5 ?kA ?kF ?kK ?k6 ?k7 ?k8 ?k9 ?kB ?kD ?_ ?c2 ?c3 ?c4; (case kA => exact rfl); (case kF => exact rfl); (case kK => assumption); (case k1 => k_asm); (case k2 => k_asm); (case k3 => k_asm); (case k4 => k_asm); (case k5 => k_asm); (case k6 => k_is); (case k7 => k_is); (case k8 => ktr_room); (case k9 => exact BindsTo.of_eq rfl); (case kB => exact rfl); (case kD => decide +kernel); (case c2 => exact rfl); (case c3 => exact rfl); (case c4 => exact rfl); k_whole; intro g' L' h' tk' cells' htk FG' F' N' Y' B' X' T' l1; (have hn1 : ∀ p ∈ news, p.1 ≠ L' + 1 := fun p hp => Nat.ne_of_lt (Nat.lt_succ_of_lt (l1 p hp))); (have hn2 : ∀ p ∈ news, p.1 ≠ L' + 1 + 1 := fun p hp => Nat.ne_of_lt (Nat.lt_succ_of_lt (Nat.lt_succ_of_lt (l1 p hp)))); (try k_lt l1); k_cells Y'; (try simp only [List.cons_append, List.nil_append] at N'); (try dsimp only); (try k_lift B'); (try k_fold))
  have hrl : (repS x (PySem.Str.ofString ".") (PySem.Str.ofString " ")).length ≤ 90 := by
    rw [codes_len, dots_blanks, List.length_map, ← codes_len]; exact hx
  have ht1 : 1 ≤ tk' := by omega
  refine wpAny_toksQ 1 ht1 ?_
  k_fold
  k_with_none
  k_with "k_ne" => (first | assumption | exact Ne.symm (by assumption) | exact And.left (by assumption) | exact Ne.symm (And.left (by assumption)) | exact And.left (And.right (by assumption)) | exact Ne.symm (And.left (And.right (by assumption))) | exact And.right (by assumption) | exact Ne.symm (And.right (by assumption)) | exact And.left (And.right (And.right (by assumption))) | exact Ne.symm (And.left (And.right (And.right (by assumption)))) | exact And.right (And.right (by assumption)) | exact Ne.symm (And.right (And.right (by assumption))) | exact And.left (And.right (And.right (And.right (by assumption)))) | exact Ne.symm (And.left (And.right (And.right (And.right (by assumption))))) | exact And.right (And.right (And.right (by assumption))) | exact Ne.symm (And.right (And.right (And.right (by assumption)))) | exact And.left (And.right (And.right (And.right (And.right (by assumption))))) | exact Ne.symm (And.left (And.right (And.right (And.right (And.right (by assumption)))))) | exact And.right (And.right (And.right (And.right (by assumption)))) | exact Ne.symm (And.right (And.right (And.right (And.right (by assumption))))) | exact And.left (And.right (And.right (And.right (And.right (And.right (by assumption)))))) | exact Ne.symm (And.left (And.right (And.right (And.right (And.right (And.right (by assumption))))))) | exact And.right (And.right (And.right (And.right (And.right (by assumption))))) | exact Ne.symm (And.right (And.right (And.right (And.right (And.right (by assumption)))))) | exact And.left (And.right (And.right (And.right (And.right (And.right (And.right (by assumption))))))) | exact Ne.symm (And.left (And.right (And.right (And.right (And.right (And.right (And.right (by assumption)))))))) | exact And.right (And.right (And.right (And.right (And.right (And.right (by assumption)))))) | exact Ne.symm (And.right (And.right (And.right (And.right (And.right (And.right (by assumption))))))) | exact And.left (And.right (And.right (And.right (And.right (And.right (And.right (And.right (by assumption)))))))) | exact Ne.symm (And.left (And.right (And.right (And.right (And.right (And.right (And.right (And.right (by assumption))))))))) | exact And.right (And.right (And.right (And.right (And.right (And.right (And.right (by assumption))))))) | exact Ne.symm (And.right (And.right (And.right (And.right (And.right (And.right (And.right (by assumption)))))))) | exact And.left (And.right (And.right (And.right (And.right (And.right (And.right (And.right (And.right (by assumption))))))))) | exact Ne.symm (And.left (And.right (And.right (And.right (And.right (And.right (And.right (And.right (And.right (by assumption)))))))))) | exact And.right (And.right (And.right (And.right (And.right (And.right (And.right (And.right (by assumption)))))))) | exact Ne.symm (And.right (And.right (And.right (And.right (And.right (And.right (And.right (And.right (by assumption))))))))) | exact And.left (And.right (And.right (And.right (And.right (And.right (And.right (And.right (And.right (And.right (by assumption)))))))))) | exact Ne.symm (And.left (And.right (And.right (And.right (And.right (And.right (And.right (And.right (And.right (And.right (by assumption))))))))))) | exact And.right (And.right (And.right (And.right (And.right (And.right (And.right (And.right (And.right (by assumption))))))))) | exact Ne.symm (And.right (And.right (And.right (And.right (And.right (And.right (And.right (And.right (And.right (by assumption)))))))))) | exact And.left (And.right (And.right (And.right (And.right (And.right (And.right (And.right (And.right (And.right (And.right (by assumption))))))))))) | exact Ne.symm (And.left (And.right (And.right (And.right (And.right (And.right (And.right (And.right (And.right (And.right (And.right (by assumption)))))))))))) | exact And.right (And.right (And.right (And.right (And.right (And.right (And.right (And.right (And.right (And.right (by assumption)))))))))) | exact Ne.symm (And.right (And.right (And.right (And.right (And.right (And.right (And.right (And.right (And.right (And.right (by assumption))))))))))) | exact And.left (And.right (And.right (And.right (And.right (And.right (And.right (And.right (And.right (And.right (And.right (And.right (by assumption)))))))))))) | exact Ne.symm (And.left (And.right (And.right (And.right (And.right (And.right (And.right (And.right (And.right (And.right (And.right (And.right (by assumption))))))))))))) | exact And.right (And.right (And.right (And.right (And.right (And.right (And.right (And.right (And.right (And.right (And.right (by assumption))))))))))) | exact Ne.symm (And.right (And.right (And.right (And.right (And.right (And.right (And.right (And.right (And.right (And.right (And.right (by assumption)))))))))))) | exact And.left (And.right (And.right (And.right (And.right (And.right (And.right (And.right (And.right (And.right (And.right (And.right (And.right (by assumption))))))))))))) | exact Ne.symm (And.left (And.right (And.right (And.right (And.right (And.right (And.right (And.right (And.right (And.right (And.right (And.right (And.right (by assumption)))))))))))))) | exact And.right (And.right (And.right (And.right (And.right (And.right (And.right (And.right (And.right (And.right (And.right (And.right (by assumption)))))))))))) | exact Ne.symm (And.right (And.right (And.right (And.right (And.right (And.right (And.right (And.right (And.right (And.right (And.right (And.right (by assumption))))))))))))))
  k_with "k_all" => (first | assumption | exact allLt_ne (by assumption) | exact allLt_ne (And.right (by assumption)) | exact allLt_ne (And.right (And.right (by assumption))) | exact allLt_ne (And.right (And.right (And.right (by assumption)))) | exact allLt_ne (And.right (And.right (And.right (And.right (by assumption))))) | exact allLt_ne (And.right (And.right (And.right (And.right (And.right (by assumption)))))) | exact allLt_ne (And.right (And.right (And.right (And.right (And.right (And.right (by assumption))))))) | exact allLt_ne (And.right (And.right (And.right (And.right (And.right (And.right (And.right (by assumption)))))))))
  k_with "execs cons" => (k_here; refine wpAny_execs_cons ?_; refine wpAny_toksQ 1 (by first | exact Nat.le_add_left _ _ | assumption) ?_; (try dsimp only))
  k_with "call builtin:str.replace" => (k_here; k_dflt (refine' rep_rule (by (try dsimp only); omega) (by (try dsimp only); omega) (by (try dsimp only); omega) (by decide +kernel) (by decide +kernel) (by l_fact) (by decide +kernel) (by (try dsimp only); omega) ?_; k_whole; intro _ _ _; (try dsimp only)))
  k_with "call builtin:str.split" => (k_here; k_dflt (refine' split_led (by k_asm) (by k_asm) (by decide +kernel) (by decide +kernel) (by l_fact) ?_; k_whole); intro _ _ _ _ _ _ _ zl; (try k_lt zl))
  k_with "subscriptTail Name Slice ref ref" => (k_here; (with_reducible show wpAny _ _ (subscriptTail _ (PySem.Expr.Slice _ _ none _) (Value.ref _) (Value.ref _)) _ _ _); k_dflt (refine' kmk_slice_lit (by k_asm) (by k_asm) (by kmk_list) (by kmk_part) (by kmk_part) (by exact pick_init _) ?_ (by with_unfolding_all rfl) (by kmk_pure) (by exact split_size (by assumption) (by l_fact)); k_whole); intro _ _ _ _ zl; (try k_lt zl))
  k_with "subscriptTail Name Slice ref ref" => (k_here; (with_reducible show wpAny _ _ (subscriptTail _ (PySem.Expr.Slice none none (some _) _) (Value.ref _) (Value.ref _)) _ _ _); k_dflt (refine' krv_lit (by k_asm) (by k_asm) (by kmk_list) (by exact IsPart.int _ _) (by exact congrArg List.reverse List.toList_toArray) ?_ (by with_unfolding_all rfl) (by kmk_pure) (by assumption); k_whole); intro _ _ _ _ zl; (try k_lt zl))
  k_with "binaryOp Add ref ref" => (k_here; k_dflt (refine' kmk_add_lit (by k_asm) (by k_asm) (by kmk_list) (by kmk_list) (by exact congr (congrArg HAppend.hAppend List.toList_toArray) List.toList_toArray) ?_ (by (simp only [List.toList_toArray, List.length_append, List.length_reverse, List.length_cons, List.length_nil]; omega)); k_whole); intro _ _ _ _ zl; (try k_lt zl))
  k_with "call builtin:str.join" => (k_here; k_dflt (refine' join_listW (by exact News.isList (by k_asm) (by k_mem)) (by exact lead_strs (by assumption) _ _) (by decide +kernel) (by exact Nat.le_trans (m := 280) (by assumption) (by decide)) ?_; k_whole); intro _ _)
  k_with "call builtin:len" => (k_here; (with_reducible show wpAny _ _ (call (Value.builtin "len") [Value.ref _]) _ _ _); k_dflt (refine' kun_lenL (by exact News.isList (by k_asm) (by k_mem)) (by assumption) (by omega) ?_; k_whole))
  k_with "call builtin:list.append" => (k_here; (with_reducible show wpAny _ _ (call (Value.builtin _) [Value.ref _, _]) _ _ _); k_dflt (refine' append_K (by k_asm) (by k_asm) (by k_upd) ?_ (by assumption); k_whole); intro _ _ _)
  k_with "call ref" => (k_here; refine Hold.mk ?_)
  k_with "pyIter ref" => (k_here; (with_reducible show wpAny _ _ (pyIter (Value.ref _)) (fun it s₂ => LoopAtV _ _ _ _ _ _ _ _ _ it s₂) _ _); refine Hold.mk ?_)
  k_with "eval ListComp" => (k_here; (with_reducible show wpAny _ _ (eval (PySem.Expr.ListComp _ [_] _ _) _) _ _ _); k_dflt (refine LCg.ListComp_U (F₀ := by k_asm) (by rfl) (by decide) (by rfl) (by decide) (by rfl) ?_); k_dflt lcg_toSrc)
  k_with "eval ListComp" => (k_here; (with_reducible show wpAny _ _ (eval (PySem.Expr.ListComp _ [_, _] _ _) _) _ _ _); k_dflt (refine' ListComp_two (by exact rfl) (by exact rfl) (by decide) (by intro _; rfl) ?_; k_whole))
  k_with "exec For Name Call cons nil" => (k_here; (rename Fr _ _ _ _ => zlF); (with_unfolding_all refine' For_invTF zlF ?_ (by intro _; rfl); k_whole))
  k_with "pyIter ref" => (k_here; (with_reducible show wpAny _ _ (pyIter (Value.ref _)) (fun it s₂ => LoopAtT _ _ _ _ _ _ _ _ _ it s₂) _ _); refine Hold.mk ?_)
  k_with "CompSrc" => (refine Hold.mk ?_)
  k_steps
  unfold Hold
  k_with_none
  k_with "k_ne" => (first | assumption | exact Ne.symm (by assumption) | exact And.left (by assumption) | exact Ne.symm (And.left (by assumption)) | exact And.left (And.right (by assumption)) | exact Ne.symm (And.left (And.right (by assumption))) | exact And.right (by assumption) | exact Ne.symm (And.right (by assumption)) | exact And.left (And.right (And.right (by assumption))) | exact Ne.symm (And.left (And.right (And.right (by assumption)))) | exact And.right (And.right (by assumption)) | exact Ne.symm (And.right (And.right (by assumption))) | exact And.left (And.right (And.right (And.right (by assumption)))) | exact Ne.symm (And.left (And.right (And.right (And.right (by assumption))))) | exact And.right (And.right (And.right (by assumption))) | exact Ne.symm (And.right (And.right (And.right (by assumption)))) | exact And.left (And.right (And.right (And.right (And.right (by assumption))))) | exact Ne.symm (And.left (And.right (And.right (And.right (And.right (by assumption)))))) | exact And.right (And.right (And.right (And.right (by assumption)))) | exact Ne.symm (And.right (And.right (And.right (And.right (by assumption))))) | exact And.left (And.right (And.right (And.right (And.right (And.right (by assumption)))))) | exact Ne.symm (And.left (And.right (And.right (And.right (And.right (And.right (by assumption))))))) | exact And.right (And.right (And.right (And.right (And.right (by assumption))))) | exact Ne.symm (And.right (And.right (And.right (And.right (And.right (by assumption)))))) | exact And.left (And.right (And.right (And.right (And.right (And.right (And.right (by assumption))))))) | exact Ne.symm (And.left (And.right (And.right (And.right (And.right (And.right (And.right (by assumption)))))))) | exact And.right (And.right (And.right (And.right (And.right (And.right (by assumption)))))) | exact Ne.symm (And.right (And.right (And.right (And.right (And.right (And.right (by assumption))))))) | exact And.left (And.right (And.right (And.right (And.right (And.right (And.right (And.right (by assumption)))))))) | exact Ne.symm (And.left (And.right (And.right (And.right (And.right (And.right (And.right (And.right (by assumption))))))))) | exact And.right (And.right (And.right (And.right (And.right (And.right (And.right (by assumption))))))) | exact Ne.symm (And.right (And.right (And.right (And.right (And.right (And.right (And.right (by assumption)))))))) | exact And.left (And.right (And.right (And.right (And.right (And.right (And.right (And.right (And.right (by assumption))))))))) | exact Ne.symm (And.left (And.right (And.right (And.right (And.right (And.right (And.right (And.right (And.right (by assumption)))))))))) | exact And.right (And.right (And.right (And.right (And.right (And.right (And.right (And.right (by assumption)))))))) | exact Ne.symm (And.right (And.right (And.right (And.right (And.right (And.right (And.right (And.right (by assumption))))))))) | exact And.left (And.right (And.right (And.right (And.right (And.right (And.right (And.right (And.right (And.right (by assumption)))))))))) | exact Ne.symm (And.left (And.right (And.right (And.right (And.right (And.right (And.right (And.right (And.right (And.right (by assumption))))))))))) | exact And.right (And.right (And.right (And.right (And.right (And.right (And.right (And.right (And.right (by assumption))))))))) | exact Ne.symm (And.right (And.right (And.right (And.right (And.right (And.right (And.right (And.right (And.right (by assumption)))))))))) | exact And.left (And.right (And.right (And.right (And.right (And.right (And.right (And.right (And.right (And.right (And.right (by assumption))))))))))) | exact Ne.symm (And.left (And.right (And.right (And.right (And.right (And.right (And.right (And.right (And.right (And.right (And.right (by assumption)))))))))))) | exact And.right (And.right (And.right (And.right (And.right (And.right (And.right (And.right (And.right (And.right (by assumption)))))))))) | exact Ne.symm (And.right (And.right (And.right (And.right (And.right (And.right (And.right (And.right (And.right (And.right (by assumption))))))))))) | exact And.left (And.right (And.right (And.right (And.right (And.right (And.right (And.right (And.right (And.right (And.right (And.right (by assumption)))))))))))) | exact Ne.symm (And.left (And.right (And.right (And.right (And.right (And.right (And.right (And.right (And.right (And.right (And.right (And.right (by assumption))))))))))))) | exact And.right (And.right (And.right (And.right (And.right (And.right (And.right (And.right (And.right (And.right (And.right (by assumption))))))))))) | exact Ne.symm (And.right (And.right (And.right (And.right (And.right (And.right (And.right (And.right (And.right (And.right (And.right (by assumption)))))))))))) | exact And.left (And.right (And.right (And.right (And.right (And.right (And.right (And.right (And.right (And.right (And.right (And.right (And.right (by assumption))))))))))))) | exact Ne.symm (And.left (And.right (And.right (And.right (And.right (And.right (And.right (And.right (And.right (And.right (And.right (And.right (And.right (by assumption)))))))))))))) | exact And.right (And.right (And.right (And.right (And.right (And.right (And.right (And.right (And.right (And.right (And.right (And.right (by assumption)))))))))))) | exact Ne.symm (And.right (And.right (And.right (And.right (And.right (And.right (And.right (And.right (And.right (And.right (And.right (And.right (by assumption))))))))))))))
  k_with "k_all" => (first | assumption | exact allLt_ne (by assumption) | exact allLt_ne (And.right (by assumption)) | exact allLt_ne (And.right (And.right (by assumption))) | exact allLt_ne (And.right (And.right (And.right (by assumption)))) | exact allLt_ne (And.right (And.right (And.right (And.right (by assumption))))) | exact allLt_ne (And.right (And.right (And.right (And.right (And.right (by assumption)))))) | exact allLt_ne (And.right (And.right (And.right (And.right (And.right (And.right (by assumption))))))) | exact allLt_ne (And.right (And.right (And.right (And.right (And.right (And.right (And.right (by assumption)))))))))
  k_with "execs cons" => (k_here; refine wpAny_execs_cons ?_; refine wpAny_toksQ 1 (by first | exact Nat.le_add_left _ _ | assumption) ?_; (try dsimp only))
  k_with "call builtin:str.replace" => (k_here; k_dflt (refine' rep_rule (by (try dsimp only); omega) (by (try dsimp only); omega) (by (try dsimp only); omega) (by decide +kernel) (by decide +kernel) (by l_fact) (by decide +kernel) (by (try dsimp only); omega) ?_; k_whole; intro _ _ _; (try dsimp only)))
  k_with "call builtin:str.split" => (k_here; k_dflt (refine' split_led (by k_asm) (by k_asm) (by decide +kernel) (by decide +kernel) (by l_fact) ?_; k_whole); intro _ _ _ _ _ _ _ zl; (try k_lt zl))
  k_with "subscriptTail Name Slice ref ref" => (k_here; (with_reducible show wpAny _ _ (subscriptTail _ (PySem.Expr.Slice _ _ none _) (Value.ref _) (Value.ref _)) _ _ _); k_dflt (refine' kmk_slice_lit (by k_asm) (by k_asm) (by kmk_list) (by kmk_part) (by kmk_part) (by exact pick_init _) ?_ (by with_unfolding_all rfl) (by kmk_pure) (by exact split_size (by assumption) (by l_fact)); k_whole); intro _ _ _ _ zl; (try k_lt zl))
  k_with "subscriptTail Name Slice ref ref" => (k_here; (with_reducible show wpAny _ _ (subscriptTail _ (PySem.Expr.Slice none none (some _) _) (Value.ref _) (Value.ref _)) _ _ _); k_dflt (refine' krv_lit (by k_asm) (by k_asm) (by kmk_list) (by exact IsPart.int _ _) (by exact congrArg List.reverse List.toList_toArray) ?_ (by with_unfolding_all rfl) (by kmk_pure) (by assumption); k_whole); intro _ _ _ _ zl; (try k_lt zl))
  k_with "binaryOp Add ref ref" => (k_here; k_dflt (refine' kmk_add_lit (by k_asm) (by k_asm) (by kmk_list) (by kmk_list) (by exact congr (congrArg HAppend.hAppend List.toList_toArray) List.toList_toArray) ?_ (by (simp only [List.toList_toArray, List.length_append, List.length_reverse, List.length_cons, List.length_nil]; omega)); k_whole); intro _ _ _ _ zl; (try k_lt zl))
  k_with "call builtin:str.join" => (k_here; k_dflt (refine' join_listW (by exact News.isList (by k_asm) (by k_mem)) (by exact lead_strs (by assumption) _ _) (by decide +kernel) (by exact Nat.le_trans (m := 280) (by assumption) (by decide)) ?_; k_whole); intro _ _)
  k_with "call builtin:len" => (k_here; (with_reducible show wpAny _ _ (call (Value.builtin "len") [Value.ref _]) _ _ _); k_dflt (refine' kun_lenL (by exact News.isList (by k_asm) (by k_mem)) (by assumption) (by omega) ?_; k_whole))
  k_with "call builtin:list.append" => (k_here; (with_reducible show wpAny _ _ (call (Value.builtin _) [Value.ref _, _]) _ _ _); k_dflt (refine' append_K (by k_asm) (by k_asm) (by k_upd) ?_ (by assumption); k_whole); intro _ _ _)
  k_with "call ref" => (k_here; refine Hold.mk ?_)
  k_with "pyIter ref" => (k_here; (with_reducible show wpAny _ _ (pyIter (Value.ref _)) (fun it s₂ => LoopAtV _ _ _ _ _ _ _ _ _ it s₂) _ _); refine Hold.mk ?_)
  k_with "eval ListComp" => (k_here; (with_reducible show wpAny _ _ (eval (PySem.Expr.ListComp _ [_] _ _) _) _ _ _); k_dflt (refine LCg.ListComp_U (F₀ := by k_asm) (by rfl) (by decide) (by rfl) (by decide) (by rfl) ?_); k_dflt lcg_toSrc)
  k_with "eval ListComp" => (k_here; (with_reducible show wpAny _ _ (eval (PySem.Expr.ListComp _ [_, _] _ _) _) _ _ _); k_dflt (refine' ListComp_two (by exact rfl) (by exact rfl) (by decide) (by intro _; rfl) ?_; k_whole))
  k_with "exec For Name Call cons nil" => (k_here; (rename Fr _ _ _ _ => zlF); (with_unfolding_all refine' For_invTF zlF ?_ (by intro _; rfl); k_whole))
  k_with "pyIter ref" => (k_here; (with_reducible show wpAny _ _ (pyIter (Value.ref _)) (fun it s₂ => LoopAtT _ _ _ _ _ _ _ _ _ it s₂) _ _); refine Hold.mk ?_)
  k_with "CompSrc" => (refine Hold.mk ?_)
  rename List (PySem.Str × Tok) => ps
  rename List.map _ ps = _ => hps
  obtain ⟨xs, hS, hX⟩ := rows_of hps
  generalize (strValues ps).take ((strValues ps).length - 1) = vs at *
  have hrs := rows_small hX (by rw [← codes_len]; exact hrl)
  have hxl := hrs.1
  have hMk : KstMark := kstMark
  have hvl : vs.length = xs.length := hS.length
  have hvz : vs.toArray.size ≤ sizeLine := by rw [List.size_toArray, sizeLine_eq]; omega
  have hs24 := sizeLine_eq
  have hvzz : ((vs.toArray.size : Nat) : Int) = ((xs.length : Nat) : Int) := by rw [List.size_toArray, hvl]
  have hjl := lead_len (sep := PySem.Str.ofString "\t") (by decide +kernel) (lead_weight hX (by rw [← codes_len]; exact hrl))
  have hjw := lead_weight hX (by rw [← codes_len]; exact hrl)
  refine' src_list (fun i ys => IntsAre ys ((xs.take i).map fun y => (y.length : Int))) ?F ?N ?hm ?hsz ?hg ?hh ?turn ?fin
  case F => k_asm
  case N => k_asm
  case hm => k_mem
  case hsz => rw [hS.length]; omega
  case hg => exact .nil
  case hh => rfl
  case turn =>
    intro i ys hi hg v I oI C oC D m₂ h tk E' hv hC hx F₁ N₁ off hne
    obtain ⟨y, ty, rfl, hy⟩ := strs_at hS hv
    have hyl := hrs.2 y (List.mem_of_getElem? hy)
    k_steps
    exact comp_const (by assumption) (by assumption) off (ints_snoc hg hy)
  case fin =>
    intro g ys hg
    have hgl : IntsAre ys (xs.map fun y => (y.length : Int)) := by rw [hvl, List.take_length] at hg; exact hg
    have hll : (xs.map fun y => (y.length : Int)).length ≤ 90 := by rw [List.length_map]; exact hxl
    have hyl : ys.length = xs.length := by have := hgl.sizeZ; rw [List.size_toArray, List.length_map] at this; omega
    k_steps
    unfold Hold
    refine' SpecW.use (ws_spec _ _ ?ha (leadL (rowsL (repS x (PySem.Str.ofString ".") (PySem.Str.ofString " ")).cps.toList)) [32, 9] (lead_codes hX) (lead_plain ?hdots) _) ?B ?F ?X ?N ?T ?k ?dd ?uu ?_
    case ha => exact lead_small hjl
    case hdots => rw [dots_blanks]; exact hdots
    case B => k_asm
    case F => k_asm
    case X => k_asm
    case N => k_asm
    case T => k_asm
    case k => exact rfl
    case dd => ktr_room
    case uu => ktr_units
    intro q dx nm ct vs' ns b n nt tb tnt t1 t2 t3 t4 t5 v1 v2 v5 h₂ tk₂ hrun hI hfar F₂ N₂
    have hf1 := hfar (L' + 1, _) (by k_mem)
    have hf2 := hfar (L' + 1 + 1, _) (by k_mem)
    dsimp only [wsNews, wsEnt] at N₂
    k_steps
    unfold Hold
    refine name_of (by k_asm) (by k_mem : (_, listOf vs.toArray 0) ∈ _) fun rwA e => ?_
    subst e
    refine name_of (by k_asm) (by k_mem : (_, LCg.lst ys) ∈ _) fun lnA e => ?_
    subst e
    refine name_of (by k_asm) (by k_mem : (_, listOf #[] 0) ∈ _) fun tlA e => ?_
    subst e
    refine name_ob (by k_asm) (by k_mem : (L' + 1, _) ∈ _) fun oLen e => ?_
    subst e
    refine name_ob (by k_asm) (by k_mem : (L' + 1 + 1, _) ∈ _) fun oSz e => ?_
    subst e
    have hAl : AllLt tlA news := by first | exact And.right (And.right (And.right (And.right (And.right (And.right (And.right (And.right (And.right (And.right (by assumption)))))))))) | exact And.right (And.right (And.right (And.right (And.right (And.right (And.right (And.right (And.right (And.right (And.right (by assumption))))))))))) | exact And.right (And.right (And.right (And.right (And.right (And.right (And.right (And.right (And.right (And.right (And.right (And.right (by assumption)))))))))))) | exact And.right (And.right (And.right (And.right (And.right (And.right (And.right (And.right (And.right (And.right (And.right (And.right (And.right (by assumption))))))))))))) | exact And.right (And.right (And.right (And.right (And.right (And.right (And.right (And.right (And.right (And.right (And.right (And.right (And.right (And.right (by assumption)))))))))))))) | exact And.right (And.right (And.right (And.right (And.right (And.right (And.right (And.right (And.right (And.right (And.right (And.right (And.right (And.right (And.right (by assumption))))))))))))))) | exact And.right (And.right (And.right (And.right (And.right (And.right (And.right (And.right (And.right (And.right (And.right (And.right (And.right (And.right (And.right (And.right (by assumption))))))))))))))))
    have hnt : ∀ p ∈ news, p.1 ≠ tlA := by k_all
    k_with_none
    k_with "k_ne" => (first | assumption | exact Ne.symm (by assumption) | exact And.left (by assumption) | exact Ne.symm (And.left (by assumption)) | exact And.left (And.right (by assumption)) | exact Ne.symm (And.left (And.right (by assumption))) | exact And.right (by assumption) | exact Ne.symm (And.right (by assumption)) | exact And.left (And.right (And.right (by assumption))) | exact Ne.symm (And.left (And.right (And.right (by assumption)))) | exact And.right (And.right (by assumption)) | exact Ne.symm (And.right (And.right (by assumption))) | exact And.left (And.right (And.right (And.right (by assumption)))) | exact Ne.symm (And.left (And.right (And.right (And.right (by assumption))))) | exact And.right (And.right (And.right (by assumption))) | exact Ne.symm (And.right (And.right (And.right (by assumption)))) | exact And.left (And.right (And.right (And.right (And.right (by assumption))))) | exact Ne.symm (And.left (And.right (And.right (And.right (And.right (by assumption)))))) | exact And.right (And.right (And.right (And.right (by assumption)))) | exact Ne.symm (And.right (And.right (And.right (And.right (by assumption))))) | exact And.left (And.right (And.right (And.right (And.right (And.right (by assumption)))))) | exact Ne.symm (And.left (And.right (And.right (And.right (And.right (And.right (by assumption))))))) | exact And.right (And.right (And.right (And.right (And.right (by assumption))))) | exact Ne.symm (And.right (And.right (And.right (And.right (And.right (by assumption)))))) | exact And.left (And.right (And.right (And.right (And.right (And.right (And.right (by assumption))))))) | exact Ne.symm (And.left (And.right (And.right (And.right (And.right (And.right (And.right (by assumption)))))))) | exact And.right (And.right (And.right (And.right (And.right (And.right (by assumption)))))) | exact Ne.symm (And.right (And.right (And.right (And.right (And.right (And.right (by assumption))))))) | exact And.left (And.right (And.right (And.right (And.right (And.right (And.right (And.right (by assumption)))))))) | exact Ne.symm (And.left (And.right (And.right (And.right (And.right (And.right (And.right (And.right (by assumption))))))))) | exact And.right (And.right (And.right (And.right (And.right (And.right (And.right (by assumption))))))) | exact Ne.symm (And.right (And.right (And.right (And.right (And.right (And.right (And.right (by assumption)))))))) | exact And.left (And.right (And.right (And.right (And.right (And.right (And.right (And.right (And.right (by assumption))))))))) | exact Ne.symm (And.left (And.right (And.right (And.right (And.right (And.right (And.right (And.right (And.right (by assumption)))))))))) | exact And.right (And.right (And.right (And.right (And.right (And.right (And.right (And.right (by assumption)))))))) | exact Ne.symm (And.right (And.right (And.right (And.right (And.right (And.right (And.right (And.right (by assumption))))))))) | exact And.left (And.right (And.right (And.right (And.right (And.right (And.right (And.right (And.right (And.right (by assumption)))))))))) | exact Ne.symm (And.left (And.right (And.right (And.right (And.right (And.right (And.right (And.right (And.right (And.right (by assumption))))))))))) | exact And.right (And.right (And.right (And.right (And.right (And.right (And.right (And.right (And.right (by assumption))))))))) | exact Ne.symm (And.right (And.right (And.right (And.right (And.right (And.right (And.right (And.right (And.right (by assumption)))))))))) | exact And.left (And.right (And.right (And.right (And.right (And.right (And.right (And.right (And.right (And.right (And.right (by assumption))))))))))) | exact Ne.symm (And.left (And.right (And.right (And.right (And.right (And.right (And.right (And.right (And.right (And.right (And.right (by assumption)))))))))))) | exact And.right (And.right (And.right (And.right (And.right (And.right (And.right (And.right (And.right (And.right (by assumption)))))))))) | exact Ne.symm (And.right (And.right (And.right (And.right (And.right (And.right (And.right (And.right (And.right (And.right (by assumption))))))))))) | exact And.left (And.right (And.right (And.right (And.right (And.right (And.right (And.right (And.right (And.right (And.right (And.right (by assumption)))))))))))) | exact Ne.symm (And.left (And.right (And.right (And.right (And.right (And.right (And.right (And.right (And.right (And.right (And.right (And.right (by assumption))))))))))))) | exact And.right (And.right (And.right (And.right (And.right (And.right (And.right (And.right (And.right (And.right (And.right (by assumption))))))))))) | exact Ne.symm (And.right (And.right (And.right (And.right (And.right (And.right (And.right (And.right (And.right (And.right (And.right (by assumption)))))))))))) | exact And.left (And.right (And.right (And.right (And.right (And.right (And.right (And.right (And.right (And.right (And.right (And.right (And.right (by assumption))))))))))))) | exact Ne.symm (And.left (And.right (And.right (And.right (And.right (And.right (And.right (And.right (And.right (And.right (And.right (And.right (And.right (by assumption)))))))))))))) | exact And.right (And.right (And.right (And.right (And.right (And.right (And.right (And.right (And.right (And.right (And.right (And.right (by assumption)))))))))))) | exact Ne.symm (And.right (And.right (And.right (And.right (And.right (And.right (And.right (And.right (And.right (And.right (And.right (And.right (by assumption))))))))))))))
    k_with "k_all" => (first | assumption | exact allLt_ne (by assumption) | exact allLt_ne (And.right (by assumption)) | exact allLt_ne (And.right (And.right (by assumption))) | exact allLt_ne (And.right (And.right (And.right (by assumption)))) | exact allLt_ne (And.right (And.right (And.right (And.right (by assumption))))) | exact allLt_ne (And.right (And.right (And.right (And.right (And.right (by assumption)))))) | exact allLt_ne (And.right (And.right (And.right (And.right (And.right (And.right (by assumption))))))) | exact allLt_ne (And.right (And.right (And.right (And.right (And.right (And.right (And.right (by assumption)))))))))
    k_with "execs cons" => (k_here; refine wpAny_execs_cons ?_; refine wpAny_toksQ 1 (by first | exact Nat.le_add_left _ _ | assumption) ?_; (try dsimp only))
    k_with "call builtin:str.replace" => (k_here; k_dflt (refine' rep_rule (by (try dsimp only); omega) (by (try dsimp only); omega) (by (try dsimp only); omega) (by decide +kernel) (by decide +kernel) (by l_fact) (by decide +kernel) (by (try dsimp only); omega) ?_; k_whole; intro _ _ _; (try dsimp only)))
    k_with "call builtin:str.split" => (k_here; k_dflt (refine' split_led (by k_asm) (by k_asm) (by decide +kernel) (by decide +kernel) (by l_fact) ?_; k_whole); intro _ _ _ _ _ _ _ zl; (try k_lt zl))
    k_with "subscriptTail Name Slice ref ref" => (k_here; (with_reducible show wpAny _ _ (subscriptTail _ (PySem.Expr.Slice _ _ none _) (Value.ref _) (Value.ref _)) _ _ _); k_dflt (refine' kmk_slice_lit (by k_asm) (by k_asm) (by kmk_list) (by kmk_part) (by kmk_part) (by exact pick_init _) ?_ (by with_unfolding_all rfl) (by kmk_pure) (by exact split_size (by assumption) (by l_fact)); k_whole); intro _ _ _ _ zl; (try k_lt zl))
    k_with "subscriptTail Name Slice ref ref" => (k_here; (with_reducible show wpAny _ _ (subscriptTail _ (PySem.Expr.Slice none none (some _) _) (Value.ref _) (Value.ref _)) _ _ _); k_dflt (refine' krv_lit (by k_asm) (by k_asm) (by kmk_list) (by exact IsPart.int _ _) (by exact congrArg List.reverse List.toList_toArray) ?_ (by with_unfolding_all rfl) (by kmk_pure) (by assumption); k_whole); intro _ _ _ _ zl; (try k_lt zl))
    k_with "binaryOp Add ref ref" => (k_here; k_dflt (refine' kmk_add_lit (by k_asm) (by k_asm) (by kmk_list) (by kmk_list) (by exact congr (congrArg HAppend.hAppend List.toList_toArray) List.toList_toArray) ?_ (by (simp only [List.toList_toArray, List.length_append, List.length_reverse, List.length_cons, List.length_nil]; omega)); k_whole); intro _ _ _ _ zl; (try k_lt zl))
    k_with "call builtin:str.join" => (k_here; k_dflt (refine' join_listW (by exact News.isList (by k_asm) (by k_mem)) (by exact lead_strs (by assumption) _ _) (by decide +kernel) (by exact Nat.le_trans (m := 280) (by assumption) (by decide)) ?_; k_whole); intro _ _)
    k_with "call builtin:len" => (k_here; (with_reducible show wpAny _ _ (call (Value.builtin "len") [Value.ref _]) _ _ _); k_dflt (refine' kun_lenL (by exact News.isList (by k_asm) (by k_mem)) (by assumption) (by omega) ?_; k_whole))
    k_with "call builtin:list.append" => (k_here; (with_reducible show wpAny _ _ (call (Value.builtin _) [Value.ref _, _]) _ _ _); k_dflt (refine' append_K (by k_asm) (by k_asm) (by k_upd) ?_ (by assumption); k_whole); intro _ _ _)
    k_with "call ref" => (k_here; refine Hold.mk ?_)
    k_with "pyIter ref" => (k_here; (with_reducible show wpAny _ _ (pyIter (Value.ref _)) (fun it s₂ => LoopAtV _ _ _ _ _ _ _ _ _ it s₂) _ _); refine Hold.mk ?_)
    k_with "eval ListComp" => (k_here; (with_reducible show wpAny _ _ (eval (PySem.Expr.ListComp _ [_] _ _) _) _ _ _); k_dflt (refine LCg.ListComp_U (F₀ := by k_asm) (by rfl) (by decide) (by rfl) (by decide) (by rfl) ?_); k_dflt lcg_toSrc)
    k_with "eval ListComp" => (k_here; (with_reducible show wpAny _ _ (eval (PySem.Expr.ListComp _ [_, _] _ _) _) _ _ _); k_dflt (refine' ListComp_two (by exact rfl) (by exact rfl) (by decide) (by intro _; rfl) ?_; k_whole))
    k_with "exec For Name Call cons nil" => (k_here; (rename Fr _ _ _ _ => zlF); (with_unfolding_all refine' For_invTF zlF ?_ (by intro _; rfl); k_whole))
    k_with "pyIter ref" => (k_here; (with_reducible show wpAny _ _ (pyIter (Value.ref _)) (fun it s₂ => LoopAtT _ _ _ _ _ _ _ _ _ it s₂) _ _); refine Hold.mk ?_)
    k_with "CompSrc" => (refine Hold.mk ?_)
    have hmb : 0 ≤ most + 1 - 1 ∧ most + 1 - 1 ≤ 8 := by omega
    refine' loopT_range (σ := List Value × Nat × Obj) (most + 1 - 1).toNat (fun c => (tlA, listOf c.1.toArray c.2.1) :: (L' + 1 + 1, c.2.2) :: wsNews w.params q dx nm ct vs' b nt tb tnt t1 t2 t3 t4 t5 v1 v2 v5 ((lnA, LCg.lst ys) :: (rwA, listOf vs.toArray 0) :: (L' + 1, oLen) :: news)) (fun _ => []) [PySem.Str.ofString "pairs"] (fun i c => IntsAre c.1 (hooksL (rowsL (repS x (PySem.Str.ofString ".") (PySem.Str.ofString " ")).cps.toList) i) ∧ ∃ v₀, c.2.2.data = .cell v₀) ([], 0, oSz) ?hr ?hs ?hn ?F ?N ?hk ?hp ?hh ?hgo ?turn ?done
    case hr => assumption
    case hs => omega
    case hn => rfl
    case F => k_asm
    case N => exact cb_drop (by assumption) (by dsimp only [wsNews, wsEnt]; kcj_all)
    case hk => kst_all
    case hp => exact ⟨.nil, _, by k_asm⟩
    case hh => rfl
    case hgo => intro I v; rfl
    case turn =>
      rintro i t ⟨zs, nn, oz⟩ u s₁ I own hi ⟨hz, v₀, hv₀⟩ hoff hown hIo F₁ N₁
      dsimp only [kstB, wsNews, wsEnt] at F₁ hz hv₀ N₁
      simp only [List.cons_append] at N₁
      have hzs : zs.toArray.size ≤ sizeLine := by
        have := hz.sizeZ
        unfold hooksL at this
        rw [List.length_map, List.length_range] at this
        omega
      have hoI : ∀ p ∈ own, p.1 ≠ L' + 1 + 1 ∧ p.1 ≠ tlA := fun p hp => by
        rw [hown p hp]
        exact ⟨fun e => hoff (L' + 1 + 1, oz) (.tail _ (.head _)) (e ▸ .head _), fun e => hoff (tlA, _) (.head _) (e ▸ .head _)⟩
      have hne2 : ∀ p ∈ news ++ own, p.1 ≠ L' + 1 + 1 := fun p hp => (List.mem_append.mp hp).elim (hn2 p) fun h => (hoI p h).1
      have hne1 : ∀ p ∈ news ++ own, p.1 ≠ tlA := fun p hp => (List.mem_append.mp hp).elim (hnt p) fun h => (hoI p h).2
      k_steps
      unfold TwoSrc
      have hz1 : 1 ≤ 1 + (i : Int) ∧ 1 + (i : Int) ≤ 8 := by omega
      refine' two_listC (l := lnA) (vs := ys) (k := ys.length) ?F ?N ?hm ?hsz ?hh ?hcell ?hkind ?hx1 ?hx2 ?hne ?hs2 (fun j zs' => zs'.length = pairsTo (xs.map fun y => (y.length : Int)) (1 + (i : Int)) j ∧ j ≤ ys.length) ?h0 ?turn2 ?fin2
      case F => k_asm
      case N => k_asm
      case hm => k_mem
      case hsz => omega
      case hh => rfl
      case hcell => decide
      case hkind => rfl
      case hx1 => rfl
      case hx2 => rfl
      case hne => decide
      case hs2 => intro x C; rfl
      case h0 => exact ⟨rfl, Nat.zero_le _⟩
      case turn2 =>
        rintro j zs' hj ⟨hzl, hjl⟩ v Iq oI C oC D m₂ h₃ tk₃ E' hv hC hx1 F₃ N₃ off hdist
        obtain ⟨a1, ta1, rfl, ha1⟩ := IntsAre.at hgl j v hv
        have hab := hgl_le hrs.2 ha1
        k_steps
        refine ⟨_, _, _, lnA, LCg.lst ys, ys.toArray, rfl, rfl, F₃, N₃, off, by k_mem, .inl rfl, ⟨_, rfl⟩, by k_mem, by rw [List.size_toArray]; omega, fun j2 zs2 => zs2.length = pairsTo (xs.map fun y => (y.length : Int)) (1 + (i : Int)) j + ((xs.map fun y => (y.length : Int)).take j2).countP (tst (1 + (i : Int)) a1), ?_, ?_, ?_, ?_⟩
        · simpa using hzl
        · intro j2 zs2 h
          have := pair_small (j2 := j2) (z := 1 + (i : Int)) (a := a1) hll (by omega : j ≤ 90)
          omega
        · intro j2 zs2 v2 J oJ oC' m₃ h₄ tk₄ E'' hin hv2 hC' hm1 hm2 F₄ N₄
          obtain ⟨b1, tb1, rfl, hb1⟩ := IntsAre.at hgl j2 v2 (by simpa using hv2)
          have hbb := hgl_le hrs.2 hb1
          refine wpAny_tests_one ?_
          k_steps
          all_goals first | exact Same.intro (by assumption) (by assumption) | skip
          · exact pair_yes hin hb1 (by assumption) (by assumption)
          · exact pair_no hin hb1 (by assumption)
          · exact pair_less hin hb1 (by assumption)
        · intro ys' h
          exact ⟨rfl, pair_row h (by rw [List.size_toArray, List.length_map]; exact hyl) ha1, hj⟩
      case fin2 =>
        rintro zs' ⟨hzl, hjl2⟩ D h₃ tk₃ F₃ N₃ off
        simp only [LCg.Off1, and_true] at off
        have hps := pairs_small (z := 1 + (i : Int)) hll (by omega : ys.length ≤ 90)
        have hzz : ((zs'.toArray.size : Nat) : Int) = ((pairsTo (xs.map fun y => (y.length : Int)) (1 + (i : Int)) ys.length : Nat) : Int) := by rw [List.size_toArray, hzl]
        k_steps
        unfold Hold
        obtain ⟨w1, w2, w3, w4⟩ := lead_ok hrun (lead_short hX hjl)
        refine' Spec.use (ind_spec q dx nm ct vs' ns b nt (1 + (i : Int)) t tb tnt t1 t2 t3 t4 t5 v1 v2 v5 hI hz1 w1 w2 w3 w4 _ ?hmem) ?B ?F ?X ?N ?T ?k ?dd ?uu ?_
        case B => k_asm
        case F => k_asm
        case X => k_asm
        case N => k_asm
        case T => k_asm
        case hmem => dsimp only [wsNews, wsEnt]; kcj_all
        case k => exact rfl
        case dd => ktr_room
        case uu => ktr_units
        intro ti hi2 tki hki Fi Ni
        k_steps
        refine' tend (_, _, _) ?F ?N ?hn ?_ ?hk ?hr ?_
        case F => k_asm
        case N => k_asm
        case hn => kst_in
        case hk => kst_all
        case hr => ksw_same
        · exact off_same hoff rfl
        · exact ⟨by dsimp only; rw [List.concat_eq_append]; exact hooks_snoc hz (hook_is hX hrun hyl), _, by assumption⟩
    case done =>
      rintro ⟨zs, nn, oz⟩ u h tk ⟨hz, v₀, hv₀⟩ F₁ N₁
      dsimp only [kstB, wsNews, wsEnt] at F₁ hz hv₀ N₁
      have hmm : most + 1 - 1 = most := by omega
      rw [hmm] at hz
      k_steps
      exact hret _ _ _ _ ⟨zs, nn, rfl, by rw [← dots_blanks]; exact hz⟩ (by assumption) (by assumption) (cb_drop (by assumption) (by kcj_all)) hAl
end Mine
end
section
open PySem PySem.W PyProof.Rows PyProof.V PyProof
set_option maxRecDepth 100000
namespace Mine
/-- a dict of ints as a list of pairs -/
noncomputable def putI (l : List (Int × Int)) (k v : Int) : List (Int × Int) := if l.any (fun p => p.1 == k) then l.map (fun p => if p.1 == k then (p.1, v) else p) else l ++ [(k, v)]
noncomputable def lookI (k : Int) : List (Int × Int) → Option Int
  | [] => none
  | p :: r => if p.1 == k then some p.2 else lookI k r
noncomputable abbrev encI (l : List (Int × Int)) : List (PyData × PyData) := l.map fun p => (PyData.int p.1, PyData.int p.2)
noncomputable def sizeStep (rows v : Int) (f : List (Int × Int)) (z : Nat) : List (Int × Int) :=
  if (rows.fdiv (2 ^ z)).fmod 4 = 2 then putI f (rows - 2 ^ z) ((lookI (rows - 2 ^ z) f).getD 0 + v) else f
noncomputable def rowsStep (f : List (Int × Int)) (p : Int × Int) : List (Int × Int) := (List.range 7).foldl (sizeStep p.1 p.2) f
noncomputable def ordStep (l : List (Int × Int)) : List (Int × Int) := l.foldl rowsStep []
noncomputable def ordRun (l : List (Int × Int)) : Nat → List (Int × Int)
  | 0 => l
  | n + 1 => ordStep (ordRun l n)
noncomputable def startI (dots : List Int) : List (Int × Int) := [((dots.map fun d => (2 : Int) ^ d.toNat).sum, 1)]
noncomputable def ordersI (dots : List Int) (n : Nat) : Int := ((ordRun (startI dots) n).map (·.2)).sum
theorem same_int (a b : Int) : PySem.Spec.same (.int a) (.int b) = (a == b) := by simp [PySem.Spec.same]
theorem put_enc (l : List (Int × Int)) (k v : Int) : putD (.int k) (.int v) (encI l) = encI (putI l k v) := by
  have h1 : (encI l).any (fun p => PySem.Spec.same p.1 (.int k)) = l.any fun p => p.1 == k := by
    unfold encI
    rw [List.any_map]
    congr 1
  unfold putD putI
  rw [h1]
  split
  · unfold encI
    rw [List.map_map, List.map_map]
    apply List.map_congr_left
    intro p _
    simp only [Function.comp_apply, same_int]
    split <;> rfl
  · simp [encI]
theorem look_enc (k : Int) : ∀ l : List (Int × Int), PySem.Spec.lookup (.int k) (encI l) = (lookI k l).map PyData.int
  | [] => rfl
  | p :: l => by
    show (if PySem.Spec.same (.int p.1) (.int k) then some (PyData.int p.2) else PySem.Spec.lookup (.int k) (encI l)) = _
    rw [same_int, look_enc k l]
    show _ = Option.map PyData.int (if p.1 == k then some p.2 else lookI k l)
    split <;> rfl
end Mine
end
section
open PySem PySem.W PyProof.Rows PyProof.V PyProof PySem.Spec
set_option maxRecDepth 100000
namespace Mine
section
variable {prog : Program} {w : World} {A : Around} {E : Value → Shared → Prop} {s : Shared} {h₀ : Heap} {L : Addr} {m : PySem.Str → Option Value} {news : List (Addr × Obj)} {d : Addr} {o : Obj} {kvs : List (Int × Value)} {l : List (Int × Int)} {k v : Int} {t u : Tok}
/-- a dict of ints in the ledger -/
noncomputable def DictI (prog : Program) (w : World) (d : Addr) (o : Obj) (kvs : List (Int × Value)) (l : List (Int × Int)) : Prop := (d == sysModules) = false ∧ o.IsDictOf (PySem.intKind prog w) kvs ∧ FlatPairs PyData.int kvs (encI l)
theorem DictI.tab (h : DictI prog w d o kvs l) (N : News h₀ L s.heap news) (hm : (d, o) ∈ news) : TabAt (PySem.intKind prog w) PyData.int s.heap d (encI l) := TabAt.ofNews N hm h.1 h.2.1 h.2.2
theorem name_dict {P : Prop} (h : DictI prog w d o kvs l) (q : ∀ d' o' kvs', DictI prog w d' o' kvs' l → d' = d → o' = o → P) : P := q d o kvs h rfl rfl
theorem flat_int {x : Value} {n : Int} (h : Flat x (.int n)) : ∃ t, x = .int n t := by cases h (default : Heap); exact ⟨_, rfl⟩
theorem getI {Q : Value → Shared → Prop} {z : Int} (h : DictI prog w d o kvs l) (N : News h₀ L s.heap news) (hm : (d, o) ∈ news) (q : ∀ t', Q (.int ((lookI k l).getD z) t') { s with toks := s.toks + 1 }) :
    wpAny (model prog w) A (call (.builtin "dict.get") [.ref d, .int k t, .int z u]) Q E s := by
  refine call_get2_tab PyProof.V.same_int (intKind_is prog w k t) (h.tab N hm) (Flat.int z u) fun x hx => ?_
  have e : (lookup (.int k) (encI l)).getD (.int z) = .int ((lookI k l).getD z) := by
    rw [look_enc]; cases lookI k l <;> rfl
  rw [e] at hx
  obtain ⟨t', rfl⟩ := flat_int hx
  exact q t'
theorem methodI {Q : Value × List Value → Shared → Prop} {pl : Sem Bool} (h : DictI prog w d o kvs l) (N : News h₀ L s.heap news) (hm : (d, o) ∈ news) (q : Q (.builtin "dict.get", [.ref d]) s) :
    wpAny (model prog w) A (getMethod (.ref d) (PySem.Str.ofString "get") pl) Q E s := getMethod_tab_any (by rfl) (h.tab N hm) q
theorem itemI {value slice : PySem.Expr} {Q : Value → Shared → Prop} (h : DictI prog w d o kvs l) (N : News h₀ L s.heap news) (hm : (d, o) ∈ news) (hl : lookI k l = some v) (q : ∀ t', Q (.int v t') { s with toks := s.toks + 1 })
    (hs : subscripted slice false (.ref d) (.int k t) = operate [.ref d, .int k t] (getItem (.ref d) (.int k t))) (hg : ∀ r, letTemporaryGo value (.ref d) r = pure ()) :
    wpAny (model prog w) A (subscriptTail value slice (.ref d) (.int k t)) Q E s := by
  refine item_intTab (h.tab N hm) (by rw [look_enc, hl]; rfl) (fun x hx => ?_) hs hg
  obtain ⟨t', rfl⟩ := flat_int hx
  exact q t'
theorem setI {Q : Unit → Shared → Prop} {g : Obj → List (Addr × Obj)} (h : DictI prog w d o kvs l) (F : Fr h₀ L s.heap m) (N : News h₀ L s.heap news) (U : UpdF d o news g) (hz : l.length ≤ 100000)
    (q : ∀ h' o', Fr h₀ L h' m → News h₀ L h' (g o') → DictI prog w d o' (stored kvs k (.int v u)) (putI l k v) → Q () { s with heap := h', toks := s.toks + 1 }) : wpAny (model prog w) A (setItem (.ref d) (.int k t) (.int v u)) Q E s := by
  refine setItem_K PyProof.V.same_int (intKind_is prog w k t) (Flat.int v u) F N U h.2.1 h.2.2 (fun h' o' F' N' hd hf => q h' o' F' N' ⟨h.1, hd, ?_⟩) (by rw [List.length_map, sizeLine_eq]; omega)
  rw [← put_enc]
  exact hf
theorem keys_nodup : ∀ {kvs : List (Int × Value)} {l : List (Int × Int)}, FlatPairs PyData.int kvs (encI l) → kvs.map (·.1) = l.map (·.1)
  | _, [], h => by cases h; rfl
  | _, p :: l, h => by
    cases h with
    | cons hv hr => rw [List.map_cons, List.map_cons, keys_nodup hr]
theorem look_nodup : ∀ {l : List (Int × Int)} {i : Nat} {k v : Int}, (l.map (·.1)).Nodup → l[i]? = some (k, v) → lookI k l = some v
  | p :: l, 0, k, v, _, h => by
    have : p = (k, v) := by simpa using h
    subst this
    simp [lookI]
  | p :: l, i + 1, k, v, hn, h => by
    have h' : l[i]? = some (k, v) := by simpa using h
    rw [List.map_cons, List.nodup_cons] at hn
    have hne : ¬ p.1 = k := fun e => hn.1 (e ▸ List.mem_map_of_mem (List.mem_of_getElem? h'))
    have := look_nodup hn.2 h'
    simp [lookI, hne, this]
theorem DictI.look {i : Nat} (h : DictI prog w d o kvs l) (hi : l[i]? = some (k, v)) : lookI k l = some v := by
  obtain ⟨_, ⟨es, ep, _, _, _, _, hnd⟩, hf⟩ := h
  rw [keys_nodup hf] at hnd
  exact look_nodup hnd hi
theorem keys_at : ∀ {kvs : List (Int × Value)} {l : List (Int × Int)} {i : Nat} {k : Int} {x : Value}, FlatPairs PyData.int kvs (encI l) → kvs[i]? = some (k, x) → ∃ v, l[i]? = some (k, v)
  | _, [], i, k, x, h, hk => by
    cases h
    simp at hk
  | _, p :: l, i, k, x, h, hk => by
    cases h with
    | cons hv hr =>
      cases i with
      | zero => simp at hk; exact ⟨p.2, by simp [← hk.1]⟩
      | succ i => simp at hk; obtain ⟨v, e⟩ := keys_at hr hk; exact ⟨v, by simpa using e⟩
end
section
variable {prog : Program} {w : World} {A : Around} {E : Value → Shared → Prop} {s : Shared} {env : Env} {h₀ : Heap} {x : PySem.Str} {body : List Stmt} {Q : Flow → Shared → Prop} {σ : Type}
/-- over the keys of a dict of ints that stays -/
theorem loop_dict {d : Addr} {o : Obj} {kvs : List (Int × Value)} {l : List (Int × Int)} {m₀ : PySem.Str → Option Value} (Led : σ → List (Addr × Obj)) (ps : σ → List (PySem.Str × Value)) (stored : List PySem.Str) (P : Nat → σ → Prop) (c₀ : σ)
    (hd : DictI prog w d o kvs l) (hm : (d, o) ∈ Led c₀) (F : Fr h₀ env.locals s.heap m₀) (N : News h₀ env.locals s.heap (Led c₀)) (hk : ∀ p ∈ ps c₀, m₀ p.1 = some p.2) (hp : P 0 c₀) (hh : A.handled = none)
    (turn : ∀ (i : Nat) (k v : Int) (t : Tok) (c : σ) (u : PySem.Str → Option Value) (h : Heap) (tk : Nat) (I : Addr) (own : List (Addr × Obj)), l[i]? = some (k, v) → P i c → (∀ p ∈ Led c, p.1 ∉ [I]) → (∃ o, (I, o) ∈ own) → (∀ p ∈ own, p.1 = I ∨ p.1 = d) →
      Fr h₀ env.locals h (fun y => if y = x then some (.int k t) else kstB (fun z => if stored.contains z then u z else m₀ z) (ps c) y) → News h₀ env.locals h (Led c ++ own) →
      wpAny (model prog w) A (execs body env) (LPost h₀ env.locals { s with heap := h, toks := tk } Led ps stored m₀ (P (i + 1)) own [I] Q) E { s with heap := h, toks := tk })
    (done : ∀ (c : σ) (u : PySem.Str → Option Value) (h : Heap) (tk : Nat), P l.length c → Fr h₀ env.locals h (kstB (fun z => if stored.contains z then u z else m₀ z) (ps c)) → News h₀ env.locals h (Led c) → Q .next { s with heap := h, toks := tk }) :
    wpAny (model prog w) A (pyIter (.ref d)) (fun it s₂ => LoopAtV prog w A h₀ env x body Q E it s₂) E s := by
  obtain ⟨lo, hdo, hf⟩ := hd
  obtain ⟨es, ep, hex, hdat, hko, hpr, hnd⟩ := id hdo
  have hlen : kvs.length = l.length := by have := hf.length; rw [List.length_map] at this; exact this.symm
  have hat : s.heap.DictAt (PySem.intKind prog w) d kvs ep := ⟨o, es, (N _ hm).1, hex, hdat, hko, hpr, hnd⟩
  have hlt : d < s.heap.objs.size := Heap.lt_size (N _ hm).1
  have hnew : h₀.get? s.heap.objs.size = none := by
    cases q : h₀.get? s.heap.objs.size with
    | none => rfl
    | some o => exact absurd (Heap.lt_size (F.keep _ _ q)) (Nat.lt_irrefl _)
  refine wpAny_pyIter_dict lo hat ?_
  have W := Walks.dictKeys (prog := prog) (w := w) (knd := PySem.intKind prog w) hh s.heap.objs.size d (Nat.ne_of_lt hlt) kvs ep
  refine loop_core (s₂ := { s with heap := s.heap.push _ }) W Led ps stored P c₀ ?_ ?_ ⟨⟨_, Heap.get?_push_size _ rfl, rfl, rfl⟩, hat.at' fun o e => Heap.get?_push_of_some _ e⟩ (F.push _) (fun p hp => ⟨Heap.get?_push_of_some _ (N p hp).1, (N p hp).2⟩) ?_ hk hp ?_ ?_
  · intro hm'
    rcases List.mem_cons.mp hm' with e | hm'
    · exact absurd F.ns.lt (e ▸ Nat.lt_irrefl _)
    · exact (N _ hm).2.1 (List.mem_singleton.mp hm').symm
  · intro b hb
    rw [List.mem_singleton.mp hb]
    exact hnew
  · intro p hp hI
    exact absurd (Heap.lt_size (N p hp).1) ((List.mem_singleton.mp hI) ▸ Nat.lt_irrefl _)
  · intro i v c u h tk own hi hv hP hof hown hmem hst F₁ N₁
    obtain ⟨k, y, hky, his⟩ := hv
    obtain ⟨v', hv'⟩ := keys_at hf hky
    obtain ⟨t, rfl⟩ := Value.isInt_shape his
    obtain ⟨oi, hoi, _⟩ := hst.1
    exact turn i k v' t c u h tk s.heap.objs.size own hv' hP hof ⟨oi, hmem _ (.head _) hnew oi hoi⟩ (fun p hp => by simpa using hown p hp) F₁ fun p hp => N₁ p ((List.mem_append.mp hp).elim (fun h => List.mem_append.mpr (.inr h)) fun h => List.mem_append.mpr (.inl h))
  · intro c u h tk hP F₁ N₁
    exact done c u h tk (hlen ▸ hP) F₁ N₁
end
end Mine
end
section
open PySem PySem.W PyProof.Rows PyProof.V PyProof PySem.Spec
set_option maxRecDepth 100000
namespace Mine
section
variable {prog : Program} {w : World} {A : Around} {E : Value → Shared → Prop} {s : Shared} {h₀ : Heap} {L : Addr} {m : PySem.Str → Option Value} {env : Env}
/-- a comprehension's source: a dict of ints in the ledger -/
noncomputable def SrcDict (prog : Program) (w : World) (A : Around) (h₀ : Heap) (L : Addr) (m : PySem.Str → Option Value) (env : Env) (elt : PySem.Expr) (x : PySem.Str) (scope : Scope) (cl : List (PySem.Str × Addr)) (Fin : Shared → List Value → List (Addr × Obj) → Prop) (xv : Value) (s₁ : Shared) : Prop :=
  ∃ d od kvs l news, xv = .ref d ∧ A.handled = none ∧ Fr h₀ L s₁.heap m ∧ News h₀ L s₁.heap news ∧ (d, od) ∈ news ∧ DictI prog w d od kvs l ∧ l.length ≤ sizeLine ∧
    ∀ s₂ : Shared, (∃ h, s₂ = { s₁ with heap := h }) → LCg.CompRest prog w A h₀ L m env elt x scope cl s₂ (fun nw => (d, od) ∈ nw) (fun i v => ∃ k y t, l[i]? = some (k, y) ∧ v = .int k t) (Fin s₂) l.length 0 [] news
theorem walks_keys {I d : Addr} {od : Obj} {kvs : List (Int × Value)} {l : List (Int × Int)} {ep : Nat} (hh : A.handled = none) (hd : DictI prog w d od kvs l) (hne : d ≠ I) :
    Walks prog w A I [I, d] [I] l.length (fun i v => ∃ k y t, l[i]? = some (k, y) ∧ v = .int k t) (fun i h => h.IsKeyIter I d i kvs.length ep ∧ h.DictAt (PySem.intKind prog w) d kvs ep) := by
  have W := Walks.dictKeys (prog := prog) (w := w) (A := A) (knd := PySem.intKind prog w) hh I d hne kvs ep
  have hlen : kvs.length = l.length := by have := hd.2.2.length; rw [List.length_map] at this; exact this.symm
  rw [← hlen]
  refine ⟨W.sub, W.frame, fun i s Q E hi st hQ => W.item i s Q E hi st fun v h' tk hP => hQ v h' tk ?_, W.done, W.self⟩
  obtain ⟨k, x, hx, hk⟩ := hP
  obtain ⟨y, hy⟩ := keys_at hd.2.2 hx
  obtain ⟨t, rfl⟩ := Value.isInt_shape hk
  exact ⟨k, y, t, hy, rfl⟩
theorem ListComp_dict {elt iter : PySem.Expr} {x : PySem.Str} {px : Pos} {scope : Scope} {cl : List (PySem.Str × Addr)} {pos : Pos} {Q : Value → Shared → Prop} (F₀ : Fr h₀ L s.heap m)
    (hclos : closureFor scope env = pure cl) (hcell : ∀ y ∈ scope.names, y.2 ≠ .cell) (hkind : scope.kind = .function)
    (hnames : ∀ y ∈ scope.names, y.2 = .local → scope.names.lookup y.1 = some .local) (hx : scope.names.lookup x = some .local)
    (h : wpAny (model prog w) A (eval iter env) (SrcDict prog w A h₀ L m env elt x scope cl (fun s₂ => LCg.FinE h₀ L m s₂ Q)) E s)
    (hs : ∀ x, foldedSetIterable iter env x = pure x := by intro _; rfl) :
    wpAny (model prog w) A (eval (.ListComp elt [⟨.Name x px, iter, [], 0⟩] scope pos) env) Q E s := by
  rw [eval_ListComp]
  refine wpAny_comprehension_free (use := none) rfl hs hclos hkind hnames (wpAny_mono h (fun xv s₁ h₁ => ?_) fun _ _ e => e)
  obtain ⟨d, od, kvs, l, news, rfl, hh, F, N, hm, hd, hsz, R⟩ := h₁
  obtain ⟨lo, hdo, hf⟩ := id hd
  obtain ⟨es, ep, hex, hdat, hko, hpr, hnd⟩ := id hdo
  have hlen : kvs.length = l.length := by have := hf.length; rw [List.length_map] at this; exact this.symm
  have at_of : ∀ g : Heap, g.get? d = some od → g.DictAt (PySem.intKind prog w) d kvs ep := fun g e => ⟨od, es, e, hex, hdat, hko, hpr, hnd⟩
  have hat := at_of _ (N _ hm).1
  have hlt : d < s₁.heap.objs.size := Heap.lt_size (N _ hm).1
  refine wpAny_pyIter_dict lo hat ?_
  have up : ∀ (oI : Obj) b o, s₁.heap.get? b = some o → (s₁.heap.push oI).get? b = some o := fun oI b o e => Heap.get?_push_of_some _ e
  refine LCg.block_U (S := fun nw => (d, od) ∈ nw) (walks_keys hh hd (Nat.ne_of_lt hlt)) hsz (fun i h st => by obtain ⟨o, e, _⟩ := st.1; exact ⟨o, e⟩)
    (fun i g g' o nw st e e' k N' S' => ⟨by obtain ⟨o', q, r⟩ := st.1; rw [e] at q; cases q; exact ⟨o, e', r⟩, at_of _ (N' _ S').1⟩)
    hcell hkind hx ⟨⟨_, Heap.get?_push_size _ rfl, rfl, rfl⟩, hat.at' fun o e => Heap.get?_push_of_some _ e⟩ (fun b hb => ?_)
      (F.keeps (up _)) (N.grown (up _)) (Nat.ne_of_lt F.ns.lt) (next_is_new F) (fun p hp => Nat.ne_of_lt (Heap.lt_size (N p hp).1)) hm (R _ ⟨_, rfl⟩) ?_
  · show b < (s₁.heap.push _).objs.size
    rw [Heap.size_push]
    rcases List.mem_cons.mp hb with rfl | hb
    · exact Nat.lt_succ_self _
    · rw [List.mem_singleton.mp hb]; exact Nat.lt_succ_of_lt hlt
  · intro D C h tk m' ys news' F' N' o1 hn hC₀ hD₀ hCL hDL hCD offC fin
    refine ⟨m', hn, fun h'' hs'' => fin D h'' tk (F'.change hs'' hCL hC₀) (fun p hp => ?_) o1⟩
    refine ⟨hs''.extBut _ _ ?_ (N' p hp).1, (N' p hp).2⟩
    rcases List.mem_cons.mp hp with rfl | hp
    · exact Ne.symm hCD
    · exact offC p hp
/-- over the keys of a dict, whose turns make nothing that is kept -/
theorem src_dict {elt : PySem.Expr} {x : PySem.Str} {scope : Scope} {cl : List (PySem.Str × Addr)} {d : Addr} {od : Obj} {kvs : List (Int × Value)} {l : List (Int × Int)} {news : List (Addr × Obj)} {s₁ : Shared} {FinQ : Shared → List Value → List (Addr × Obj) → Prop} (good : Nat → List Value → Prop)
    (F : Fr h₀ L s₁.heap m) (N : News h₀ L s₁.heap news) (hm : (d, od) ∈ news) (hd : DictI prog w d od kvs l) (hsz : l.length ≤ 100000) (hg : good 0 []) (hh : A.handled = none)
    (turn : ∀ i ys k y t, l[i]? = some (k, y) → good i ys → ∀ I oI C oC D m₂ h tk (E' : Value → Shared → Prop), LCg.NsObj oC m₂ → m₂ x = some (.int k t) → Fr h₀ L h m → News h₀ L h ((I, oI) :: (C, oC) :: (D, LCg.lst ys) :: news) → LCg.Off3 I C D news → ((@Ne Nat I C) ∧ (@Ne Nat I D) ∧ (@Ne Nat C D)) →
      wpAny (model prog w) A (eval elt (compEnvC scope cl C env)) (LCg.CompEnd h₀ L m { s₁ with heap := h, toks := tk } I oI C oC D (LCg.lst ys) (fun _ => True) (fun y nw' => nw' = news ∧ good (i + 1) (ys ++ [y]))) E' { s₁ with heap := h, toks := tk })
    (fin : ∀ g ys, good l.length ys → FinQ { s₁ with heap := g } ys news) : SrcDict prog w A h₀ L m env elt x scope cl FinQ (.ref d) s₁ := by
  refine ⟨d, od, kvs, l, news, rfl, hh, F, N, hm, hd, by rw [sizeLine_eq]; omega, ?_⟩
  rintro s₂ ⟨g, rfl⟩
  refine rest_inv (n := l.length) (fun i ys nw => nw = news ∧ good i ys) ?_ ?_ l.length 0 [] news (by omega) ⟨rfl, hg⟩
  · rintro i ys nw hi ⟨rfl, hgd⟩ v I oI C oC D m₂ h tk E' ⟨k, y, t, hv, rfl⟩ hC hx F' N' off hne
    refine wpAny_mono (turn i ys k y t hv hgd I oI C oC D m₂ h tk E' hC hx F' N' off hne) (fun y s' q => ?_) fun _ _ e => e
    obtain ⟨h₂, tk₂, nw', e, F₂, N₂, off₂, _, rfl, hgd'⟩ := q
    exact ⟨h₂, tk₂, nw', e, F₂, N₂, off₂, hm, rfl, hgd'⟩
  · rintro ys nw ⟨rfl, hgd⟩
    exact fin g ys hgd
end
/-- how long a dict can grow -/
theorem putI_le (l : List (Int × Int)) (k v : Int) : (putI l k v).length ≤ l.length + 1 := by
  unfold putI
  split
  · rw [List.length_map]; omega
  · rw [List.length_append]; simp
theorem sizeStep_le (k v : Int) (f : List (Int × Int)) (z : Nat) : (sizeStep k v f z).length ≤ f.length + 1 := by
  unfold sizeStep
  split
  · exact putI_le _ _ _
  · omega
theorem sizes_le (k v : Int) (f : List (Int × Int)) : ∀ j, ((List.range j).foldl (sizeStep k v) f).length ≤ f.length + j
  | 0 => by simp
  | j + 1 => by
    rw [List.range_succ, List.foldl_append]
    have := sizes_le k v f j
    have := sizeStep_le k v ((List.range j).foldl (sizeStep k v) f) j
    simp only [List.foldl_cons, List.foldl_nil]
    omega
theorem rows_le : ∀ (l : List (Int × Int)) (f : List (Int × Int)), (l.foldl rowsStep f).length ≤ f.length + 7 * l.length
  | [], f => by simp
  | p :: l, f => by
    rw [List.foldl_cons]
    have := rows_le l (rowsStep f p)
    have := sizes_le p.1 p.2 f 7
    rw [List.length_cons]
    unfold rowsStep at *
    omega
theorem sizes_snoc (k v : Int) (f : List (Int × Int)) (j : Nat) : (List.range (j + 1)).foldl (sizeStep k v) f = sizeStep k v ((List.range j).foldl (sizeStep k v) f) j := by
  rw [List.range_succ, List.foldl_append]; rfl
theorem pow_at (j : Nat) : (0 + (j : Int)).toNat = j := by omega
theorem size_yes {k v : Int} {l2 l3 : List (Int × Int)} {j : Nat} (h : (k.fdiv (2 ^ (0 + (j : Int)).toNat)).fmod 4 = 2) (hl : l3 = (List.range j).foldl (sizeStep k v) l2) :
    putI l3 (k - 2 ^ (0 + (j : Int)).toNat) ((lookI (k - 2 ^ (0 + (j : Int)).toNat) l3).getD 0 + v) = (List.range (j + 1)).foldl (sizeStep k v) l2 := by
  rw [pow_at] at *
  rw [sizes_snoc, ← hl, sizeStep, if_pos h]
theorem size_no {k v : Int} {l2 l3 : List (Int × Int)} {j : Nat} (h : (k.fdiv (2 ^ (0 + (j : Int)).toNat)).fmod 4 ≠ 2) (hl : l3 = (List.range j).foldl (sizeStep k v) l2) : l3 = (List.range (j + 1)).foldl (sizeStep k v) l2 := by
  rw [pow_at] at *
  rw [sizes_snoc, ← hl, sizeStep, if_neg h]
theorem ord_done {l l2 a : List (Int × Int)} {i : Nat} (hl : l = ordRun a i) (h : l2 = (l.take l.length).foldl rowsStep []) : l2 = ordRun a (i + 1) := by
  rw [h, List.take_length, hl]; rfl
theorem vals_snoc {ys : List Value} {l : List (Int × Int)} {i : Nat} {k v : Int} {t : Tok} (h : l[i]? = some (k, v)) (hg : IntsAre ys ((l.take i).map (·.2))) : IntsAre (ys ++ [.int v t]) ((l.take (i + 1)).map (·.2)) := by
  rw [List.take_add_one, h, List.map_append]
  exact hg.append (.cons _ _ .nil)
theorem rows_snoc {l : List (Int × Int)} {i : Nat} {k v : Int} (h : l[i]? = some (k, v)) (f : List (Int × Int)) : (l.take (i + 1)).foldl rowsStep f = (List.range 7).foldl (sizeStep k v) ((l.take i).foldl rowsStep f) := by
  rw [List.take_add_one, h, List.foldl_append]; rfl
/-- as Spec, where a token has been drawn before -/
noncomputable def SpecT (prog : Program) (w : World) (K : Frag) (p : Program) (loose : List PySem.Str) (mean : ExcName → Option Value) (mg mb : PySem.Str → Option Value) (f : Addr) (d : Nat) (news : List (Addr × Obj)) (args : List Value) (R : Tok → Value) : Prop :=
  ∀ (dp un : Nat) (gd : Option (List Code)) (cn : PySem.Str) (cs : Scope) (a : Addr) (ccd : Value) (cl : List (PySem.Str × Addr)) (outer : List Env) (A₀ : Around) (base h₀ : Heap) (L : Addr) (m : PySem.Str → Option Value) (s : Shared) (Q E : Value → Shared → Prop),
    Below A₀ base outer h₀ → Fr h₀ L s.heap m → K.In h₀ → News h₀ L s.heap news → Top p loose mean mg mb h₀ → cs.kind = .function → dp + d < recursionLimit → un + 8 * d < cLine → 0 < s.toks →
    (∀ (t : Tok) (h' : Heap) (tk' : Nat), 0 < tk' → Fr h₀ L h' m → News h₀ L h' news → Q (R t) { s with heap := h', toks := tk' }) →
      wpAny (model prog w) (ktrTop dp un gd cn cs L a ccd cl outer) (call (.ref f) args) Q E s
theorem SpecT.use {prog : Program} {w : World} {K : Frag} {p : Program} {loose : List PySem.Str} {mean : ExcName → Option Value} {mg mb : PySem.Str → Option Value} {f : Addr} {d : Nat} {news : List (Addr × Obj)} {args : List Value} {R : Tok → Value}
    {dp un : Nat} {gd : Option (List Code)} {cn : PySem.Str} {cs : Scope} {a : Addr} {ccd : Value} {cl : List (PySem.Str × Addr)} {outer : List Env} {A₀ : Around} {base h₀ : Heap} {L : Addr} {m : PySem.Str → Option Value} {s : Shared} {Q E : Value → Shared → Prop}
    (S : SpecT prog w K p loose mean mg mb f d news args R) (B : Below A₀ base outer h₀) (F : Fr h₀ L s.heap m) (X : K.In h₀) (N : News h₀ L s.heap news) (T : Top p loose mean mg mb h₀) (hk : cs.kind = .function) (hd : dp + d < recursionLimit) (hu : un + 8 * d < cLine) (ht : 0 < s.toks)
    (hq : ∀ (t : Tok) (h' : Heap) (tk' : Nat), 0 < tk' → Fr h₀ L h' m → News h₀ L h' news → Q (R t) { s with heap := h', toks := tk' }) :
    wpAny (model prog w) (ktrTop dp un gd cn cs L a ccd cl outer) (call (.ref f) args) Q E s := S dp un gd cn cs a ccd cl outer A₀ base h₀ L m s Q E B F X N T hk hd hu ht hq
end Mine
end
section
open PySem PySem.W PyProof.Rows PyProof.V
set_option Elab.async false
set_option pp.deepTerms false
set_option pp.deepTerms.threshold 12
namespace Mine
theorem pows_snoc {ys : List Value} {ds : List Int} {i : Nat} {d : Int} {t : Tok} (hg : IntsAre ys ((ds.take i).map fun d => (2 : Int) ^ d.toNat)) (hy : ds[i]? = some d) : IntsAre (ys ++ [.int ((2 : Int) ^ d.toNat) t]) ((ds.take (i + 1)).map fun d => (2 : Int) ^ d.toNat) := by
  rw [List.take_add_one, hy, List.map_append]
  exact hg.append (.cons _ _ .nil)
variable {w : World} {mg mb : PySem.Str → Option Value} {mean : ExcName → Option Value}
set_option maxRecDepth 100000 in
set_option maxHeartbeats 1600000 in
theorem orders_spec (dl : Addr) (dvs : List Value) (dk : Nat) (ds : List Int) (n : Nat) (tn : Tok) (hD : IntsAre dvs ds) (hdl : ds.length ≤ 7) (hds : ∀ d ∈ ds, 0 ≤ d ∧ d ≤ 7) (hn : n ≤ 28) (news) (hsm : ∀ i, i ≤ n → (ordRun (startI ds) i).length ≤ 1000) (hmem : (dl, listOf dvs.toArray dk) ∈ news) :
    SpecT PySem.Challenge.rw_sn0027_01.row.prog w (Mine.hd.heap_39 w.params) Mine.hd.view_39 loose mean mg mb 172 2 news [.ref dl, .int n tn] (fun t => .int (ordersI ds n) t) := by
  k_fill
  k_with_none
  k_with "k_ne" => (first | assumption | exact Ne.symm (by assumption) | exact And.left (by assumption) | exact Ne.symm (And.left (by assumption)) | exact And.left (And.right (by assumption)) | exact Ne.symm (And.left (And.right (by assumption))) | exact And.right (by assumption) | exact Ne.symm (And.right (by assumption)) | exact And.left (And.right (And.right (by assumption))) | exact Ne.symm (And.left (And.right (And.right (by assumption)))) | exact And.right (And.right (by assumption)) | exact Ne.symm (And.right (And.right (by assumption))) | exact And.left (And.right (And.right (And.right (by assumption)))) | exact Ne.symm (And.left (And.right (And.right (And.right (by assumption))))) | exact And.right (And.right (And.right (by assumption))) | exact Ne.symm (And.right (And.right (And.right (by assumption)))) | exact And.left (And.right (And.right (And.right (And.right (by assumption))))) | exact Ne.symm (And.left (And.right (And.right (And.right (And.right (by assumption)))))) | exact And.right (And.right (And.right (And.right (by assumption)))) | exact Ne.symm (And.right (And.right (And.right (And.right (by assumption))))) | exact And.left (And.right (And.right (And.right (And.right (And.right (by assumption)))))) | exact Ne.symm (And.left (And.right (And.right (And.right (And.right (And.right (by assumption))))))) | exact And.right (And.right (And.right (And.right (And.right (by assumption))))) | exact Ne.symm (And.right (And.right (And.right (And.right (And.right (by assumption)))))) | exact And.left (And.right (And.right (And.right (And.right (And.right (And.right (by assumption))))))) | exact Ne.symm (And.left (And.right (And.right (And.right (And.right (And.right (And.right (by assumption)))))))) | exact And.right (And.right (And.right (And.right (And.right (And.right (by assumption)))))) | exact Ne.symm (And.right (And.right (And.right (And.right (And.right (And.right (by assumption))))))) | exact And.left (And.right (And.right (And.right (And.right (And.right (And.right (And.right (by assumption)))))))) | exact Ne.symm (And.left (And.right (And.right (And.right (And.right (And.right (And.right (And.right (by assumption))))))))) | exact And.right (And.right (And.right (And.right (And.right (And.right (And.right (by assumption))))))) | exact Ne.symm (And.right (And.right (And.right (And.right (And.right (And.right (And.right (by assumption)))))))) | exact And.left (And.right (And.right (And.right (And.right (And.right (And.right (And.right (And.right (by assumption))))))))) | exact Ne.symm (And.left (And.right (And.right (And.right (And.right (And.right (And.right (And.right (And.right (by assumption)))))))))) | exact And.right (And.right (And.right (And.right (And.right (And.right (And.right (And.right (by assumption)))))))) | exact Ne.symm (And.right (And.right (And.right (And.right (And.right (And.right (And.right (And.right (by assumption))))))))) | exact And.left (And.right (And.right (And.right (And.right (And.right (And.right (And.right (And.right (And.right (by assumption)))))))))) | exact Ne.symm (And.left (And.right (And.right (And.right (And.right (And.right (And.right (And.right (And.right (And.right (by assumption))))))))))) | exact And.right (And.right (And.right (And.right (And.right (And.right (And.right (And.right (And.right (by assumption))))))))) | exact Ne.symm (And.right (And.right (And.right (And.right (And.right (And.right (And.right (And.right (And.right (by assumption)))))))))) | exact And.left (And.right (And.right (And.right (And.right (And.right (And.right (And.right (And.right (And.right (And.right (by assumption))))))))))) | exact Ne.symm (And.left (And.right (And.right (And.right (And.right (And.right (And.right (And.right (And.right (And.right (And.right (by assumption)))))))))))) | exact And.right (And.right (And.right (And.right (And.right (And.right (And.right (And.right (And.right (And.right (by assumption)))))))))) | exact Ne.symm (And.right (And.right (And.right (And.right (And.right (And.right (And.right (And.right (And.right (And.right (by assumption))))))))))) | exact And.left (And.right (And.right (And.right (And.right (And.right (And.right (And.right (And.right (And.right (And.right (And.right (by assumption)))))))))))) | exact Ne.symm (And.left (And.right (And.right (And.right (And.right (And.right (And.right (And.right (And.right (And.right (And.right (And.right (by assumption))))))))))))) | exact And.right (And.right (And.right (And.right (And.right (And.right (And.right (And.right (And.right (And.right (And.right (by assumption))))))))))) | exact Ne.symm (And.right (And.right (And.right (And.right (And.right (And.right (And.right (And.right (And.right (And.right (And.right (by assumption)))))))))))) | exact And.left (And.right (And.right (And.right (And.right (And.right (And.right (And.right (And.right (And.right (And.right (And.right (And.right (by assumption))))))))))))) | exact Ne.symm (And.left (And.right (And.right (And.right (And.right (And.right (And.right (And.right (And.right (And.right (And.right (And.right (And.right (by assumption)))))))))))))) | exact And.right (And.right (And.right (And.right (And.right (And.right (And.right (And.right (And.right (And.right (And.right (And.right (by assumption)))))))))))) | exact Ne.symm (And.right (And.right (And.right (And.right (And.right (And.right (And.right (And.right (And.right (And.right (And.right (And.right (by assumption))))))))))))))
  k_with "k_all" => (first | assumption | exact allLt_ne (by assumption) | exact allLt_ne (And.right (by assumption)) | exact allLt_ne (And.right (And.right (by assumption))) | exact allLt_ne (And.right (And.right (And.right (by assumption)))) | exact allLt_ne (And.right (And.right (And.right (And.right (by assumption))))) | exact allLt_ne (And.right (And.right (And.right (And.right (And.right (by assumption)))))) | exact allLt_ne (And.right (And.right (And.right (And.right (And.right (And.right (by assumption))))))) | exact allLt_ne (And.right (And.right (And.right (And.right (And.right (And.right (And.right (by assumption)))))))))
  k_with "eval ListComp" => (k_here; (with_reducible show wpAny _ _ (eval (PySem.Expr.ListComp _ [_] _ _) _) _ _ _); k_dflt (refine LCg.ListComp_U (F₀ := by k_asm) (by rfl) (by decide) (by rfl) (by decide) (by rfl) ?_); k_dflt lcg_toSrc)
  k_with "eval ListComp" => (k_here; (with_reducible show wpAny _ _ (eval (PySem.Expr.ListComp (PySem.Expr.Subscript _ _ _) [_] _ _) _) _ _ _); k_dflt (refine ListComp_dict (F₀ := by k_asm) (by rfl) (by decide) (by rfl) (by decide) (by rfl) ?_))
  k_with "pyIter ref" => (k_here; (with_reducible show wpAny _ _ (pyIter (Value.ref _)) (fun it s₂ => LoopAtV _ _ _ _ _ _ _ _ _ it s₂) _ _); refine Hold.mk ?_)
  k_with "eval Dict cons cons" => (k_here; k_dflt (refine' kdn_eval (knd := PySem.intKind _ _) (by k_asm) (by k_asm) (by exact Top.nolimit (by k_asm)) (by rfl) (by rfl) (by exact List.cons_ne_nil _ _) (by exact Nat.le_of_ble_eq_true rfl) ?_; k_whole); intro _ _ _ _ _ zl _ _; (try k_lt zl))
  k_with "getMethod ref" => (k_here; (with_reducible show wpAny _ _ (getMethod (Value.ref _) (PySem.Str.ofString "get") _) _ _ _); k_dflt (refine' methodI (by assumption) (by k_asm) (by k_mem) ?_; k_whole))
  k_with "call builtin:dict.get" => (k_here; (with_reducible show wpAny _ _ (call _ [Value.ref _, Value.int _ _, Value.int _ _]) _ _ _); k_dflt (refine' getI (by assumption) (by k_asm) (by k_mem) ?_; k_whole); intro _; (try dsimp only))
  k_with "setItem ref int" => (k_here; (with_reducible show wpAny _ _ (setItem (Value.ref _) (Value.int _ _) (Value.int _ _)) _ _ _); k_dflt (refine' setI (by assumption) (by k_asm) (by k_asm) (by k_updF) (by assumption) ?_; k_whole); intro _ _ _ _ _; (try dsimp only))
  k_with "subscriptTail Name Name ref int" => (k_here; (with_reducible show wpAny _ _ (subscriptTail _ _ (Value.ref _) (Value.int _ _)) _ _ _); k_dflt (refine' itemI (by assumption) (by k_asm) (by k_mem) (by assumption) ?_ (by rfl) (by intro _; rfl); k_whole); intro _; (try dsimp only))
  k_with "CompSrc" => (refine Hold.mk ?_)
  unfold SpecT
  intro dp un gd cn cs a ccd cl outer A₀ base h₀ L m s Q E B F X N₀ T hk hd hu ht hret
  have N : News h₀ L s.heap ((dl, listOf dvs.toArray dk) :: news) := fun p hp => (List.mem_cons.mp hp).elim (fun e => e ▸ N₀ _ hmem) (N₀ p)
  clear N₀
  refine wpAny_call ?_
  k_dflt (refine' code_defCT ?k1 ?k2 ?k3 ?k4 ?k5 ?kA ?kF ?kK ?k6 ?k7 ?k8 ?k9 ?kB ?kD ?_ ?c2 ?c3 ?c4; (case kA => exact rfl); (case kF => exact rfl); (case kK => assumption); (case k1 => k_asm); (case k2 => k_asm); (case k3 => k_asm); (case k4 => k_asm); (case k5 => k_asm); (case k6 => k_is); (case k7 => k_is); (case k8 => ktr_room); (case k9 => exact BindsTo.of_eq rfl); (case kB => exact rfl); (case kD => decide +kernel); (case c2 => exact rfl); (case c3 => exact rfl); (case c4 => exact rfl); k_whole; intro g' L' h' tk' cells' htk FG' F' N' Y' B' X' T' l1; (have hn1 : ∀ p ∈ news, p.1 ≠ L' + 1 := fun p hp => Nat.ne_of_lt (Nat.lt_succ_of_lt (l1 p (.tail _ hp)))); (try k_lt l1); k_cells Y'; (try simp only [List.cons_append, List.nil_append] at N'); (try dsimp only); (try k_lift B'); (try k_fold))
  have ht1 : 1 ≤ tk' := by omega
  refine wpAny_toksQ 1 ht1 ?_
  k_fold
  k_with_none
  k_with "k_ne" => (first | assumption | exact Ne.symm (by assumption) | exact And.left (by assumption) | exact Ne.symm (And.left (by assumption)) | exact And.left (And.right (by assumption)) | exact Ne.symm (And.left (And.right (by assumption))) | exact And.right (by assumption) | exact Ne.symm (And.right (by assumption)) | exact And.left (And.right (And.right (by assumption))) | exact Ne.symm (And.left (And.right (And.right (by assumption)))) | exact And.right (And.right (by assumption)) | exact Ne.symm (And.right (And.right (by assumption))) | exact And.left (And.right (And.right (And.right (by assumption)))) | exact Ne.symm (And.left (And.right (And.right (And.right (by assumption))))) | exact And.right (And.right (And.right (by assumption))) | exact Ne.symm (And.right (And.right (And.right (by assumption)))) | exact And.left (And.right (And.right (And.right (And.right (by assumption))))) | exact Ne.symm (And.left (And.right (And.right (And.right (And.right (by assumption)))))) | exact And.right (And.right (And.right (And.right (by assumption)))) | exact Ne.symm (And.right (And.right (And.right (And.right (by assumption))))) | exact And.left (And.right (And.right (And.right (And.right (And.right (by assumption)))))) | exact Ne.symm (And.left (And.right (And.right (And.right (And.right (And.right (by assumption))))))) | exact And.right (And.right (And.right (And.right (And.right (by assumption))))) | exact Ne.symm (And.right (And.right (And.right (And.right (And.right (by assumption)))))) | exact And.left (And.right (And.right (And.right (And.right (And.right (And.right (by assumption))))))) | exact Ne.symm (And.left (And.right (And.right (And.right (And.right (And.right (And.right (by assumption)))))))) | exact And.right (And.right (And.right (And.right (And.right (And.right (by assumption)))))) | exact Ne.symm (And.right (And.right (And.right (And.right (And.right (And.right (by assumption))))))) | exact And.left (And.right (And.right (And.right (And.right (And.right (And.right (And.right (by assumption)))))))) | exact Ne.symm (And.left (And.right (And.right (And.right (And.right (And.right (And.right (And.right (by assumption))))))))) | exact And.right (And.right (And.right (And.right (And.right (And.right (And.right (by assumption))))))) | exact Ne.symm (And.right (And.right (And.right (And.right (And.right (And.right (And.right (by assumption)))))))) | exact And.left (And.right (And.right (And.right (And.right (And.right (And.right (And.right (And.right (by assumption))))))))) | exact Ne.symm (And.left (And.right (And.right (And.right (And.right (And.right (And.right (And.right (And.right (by assumption)))))))))) | exact And.right (And.right (And.right (And.right (And.right (And.right (And.right (And.right (by assumption)))))))) | exact Ne.symm (And.right (And.right (And.right (And.right (And.right (And.right (And.right (And.right (by assumption))))))))) | exact And.left (And.right (And.right (And.right (And.right (And.right (And.right (And.right (And.right (And.right (by assumption)))))))))) | exact Ne.symm (And.left (And.right (And.right (And.right (And.right (And.right (And.right (And.right (And.right (And.right (by assumption))))))))))) | exact And.right (And.right (And.right (And.right (And.right (And.right (And.right (And.right (And.right (by assumption))))))))) | exact Ne.symm (And.right (And.right (And.right (And.right (And.right (And.right (And.right (And.right (And.right (by assumption)))))))))) | exact And.left (And.right (And.right (And.right (And.right (And.right (And.right (And.right (And.right (And.right (And.right (by assumption))))))))))) | exact Ne.symm (And.left (And.right (And.right (And.right (And.right (And.right (And.right (And.right (And.right (And.right (And.right (by assumption)))))))))))) | exact And.right (And.right (And.right (And.right (And.right (And.right (And.right (And.right (And.right (And.right (by assumption)))))))))) | exact Ne.symm (And.right (And.right (And.right (And.right (And.right (And.right (And.right (And.right (And.right (And.right (by assumption))))))))))) | exact And.left (And.right (And.right (And.right (And.right (And.right (And.right (And.right (And.right (And.right (And.right (And.right (by assumption)))))))))))) | exact Ne.symm (And.left (And.right (And.right (And.right (And.right (And.right (And.right (And.right (And.right (And.right (And.right (And.right (by assumption))))))))))))) | exact And.right (And.right (And.right (And.right (And.right (And.right (And.right (And.right (And.right (And.right (And.right (by assumption))))))))))) | exact Ne.symm (And.right (And.right (And.right (And.right (And.right (And.right (And.right (And.right (And.right (And.right (And.right (by assumption)))))))))))) | exact And.left (And.right (And.right (And.right (And.right (And.right (And.right (And.right (And.right (And.right (And.right (And.right (And.right (by assumption))))))))))))) | exact Ne.symm (And.left (And.right (And.right (And.right (And.right (And.right (And.right (And.right (And.right (And.right (And.right (And.right (And.right (by assumption)))))))))))))) | exact And.right (And.right (And.right (And.right (And.right (And.right (And.right (And.right (And.right (And.right (And.right (And.right (by assumption)))))))))))) | exact Ne.symm (And.right (And.right (And.right (And.right (And.right (And.right (And.right (And.right (And.right (And.right (And.right (And.right (by assumption))))))))))))))
  k_with "k_all" => (first | assumption | exact allLt_ne (by assumption) | exact allLt_ne (And.right (by assumption)) | exact allLt_ne (And.right (And.right (by assumption))) | exact allLt_ne (And.right (And.right (And.right (by assumption)))) | exact allLt_ne (And.right (And.right (And.right (And.right (by assumption))))) | exact allLt_ne (And.right (And.right (And.right (And.right (And.right (by assumption)))))) | exact allLt_ne (And.right (And.right (And.right (And.right (And.right (And.right (by assumption))))))) | exact allLt_ne (And.right (And.right (And.right (And.right (And.right (And.right (And.right (by assumption)))))))))
  k_with "eval ListComp" => (k_here; (with_reducible show wpAny _ _ (eval (PySem.Expr.ListComp _ [_] _ _) _) _ _ _); k_dflt (refine LCg.ListComp_U (F₀ := by k_asm) (by rfl) (by decide) (by rfl) (by decide) (by rfl) ?_); k_dflt lcg_toSrc)
  k_with "eval ListComp" => (k_here; (with_reducible show wpAny _ _ (eval (PySem.Expr.ListComp (PySem.Expr.Subscript _ _ _) [_] _ _) _) _ _ _); k_dflt (refine ListComp_dict (F₀ := by k_asm) (by rfl) (by decide) (by rfl) (by decide) (by rfl) ?_))
  k_with "pyIter ref" => (k_here; (with_reducible show wpAny _ _ (pyIter (Value.ref _)) (fun it s₂ => LoopAtV _ _ _ _ _ _ _ _ _ it s₂) _ _); refine Hold.mk ?_)
  k_with "eval Dict cons cons" => (k_here; k_dflt (refine' kdn_eval (knd := PySem.intKind _ _) (by k_asm) (by k_asm) (by exact Top.nolimit (by k_asm)) (by rfl) (by rfl) (by exact List.cons_ne_nil _ _) (by exact Nat.le_of_ble_eq_true rfl) ?_; k_whole); intro _ _ _ _ _ zl _ _; (try k_lt zl))
  k_with "getMethod ref" => (k_here; (with_reducible show wpAny _ _ (getMethod (Value.ref _) (PySem.Str.ofString "get") _) _ _ _); k_dflt (refine' methodI (by assumption) (by k_asm) (by k_mem) ?_; k_whole))
  k_with "call builtin:dict.get" => (k_here; (with_reducible show wpAny _ _ (call _ [Value.ref _, Value.int _ _, Value.int _ _]) _ _ _); k_dflt (refine' getI (by assumption) (by k_asm) (by k_mem) ?_; k_whole); intro _; (try dsimp only))
  k_with "setItem ref int" => (k_here; (with_reducible show wpAny _ _ (setItem (Value.ref _) (Value.int _ _) (Value.int _ _)) _ _ _); k_dflt (refine' setI (by assumption) (by k_asm) (by k_asm) (by k_updF) (by assumption) ?_; k_whole); intro _ _ _ _ _; (try dsimp only))
  k_with "subscriptTail Name Name ref int" => (k_here; (with_reducible show wpAny _ _ (subscriptTail _ _ (Value.ref _) (Value.int _ _)) _ _ _); k_dflt (refine' itemI (by assumption) (by k_asm) (by k_mem) (by assumption) ?_ (by rfl) (by intro _; rfl); k_whole); intro _; (try dsimp only))
  k_with "CompSrc" => (refine Hold.mk ?_)
  have hMk : KstMark := kstMark
  k_steps
  unfold Hold
  refine' src_list (fun i ys => IntsAre ys ((ds.take i).map fun d => (2 : Int) ^ d.toNat)) ?F ?N ?hm ?hsz ?hg ?hh ?turn ?fin
  case F => k_asm
  case N => k_asm
  case hm => k_mem
  case hsz => have := hD.sizeZ; rw [List.size_toArray] at this; omega
  case hg => exact .nil
  case hh => rfl
  case turn =>
    intro i ys hi hg v I oI C oC D m₂ h tk E' hv hC hx F₁ N₁ off hne
    obtain ⟨a1, ta1, rfl, ha1⟩ := IntsAre.at hD i v hv
    have hab := hds a1 (List.mem_of_getElem? ha1)
    k_steps
    exact comp_const (by assumption) (by assumption) off (pows_snoc hg ha1)
  case fin =>
    intro g ys hg
    have hvl : dvs.length = ds.length := by have := hD.sizeZ; rw [List.size_toArray] at this; omega
    rw [hvl, List.take_length] at hg
    k_steps
    unfold Hold
    k_with_none
    k_with "k_ne" => (first | assumption | exact Ne.symm (by assumption) | exact And.left (by assumption) | exact Ne.symm (And.left (by assumption)) | exact And.left (And.right (by assumption)) | exact Ne.symm (And.left (And.right (by assumption))) | exact And.right (by assumption) | exact Ne.symm (And.right (by assumption)) | exact And.left (And.right (And.right (by assumption))) | exact Ne.symm (And.left (And.right (And.right (by assumption)))) | exact And.right (And.right (by assumption)) | exact Ne.symm (And.right (And.right (by assumption))) | exact And.left (And.right (And.right (And.right (by assumption)))) | exact Ne.symm (And.left (And.right (And.right (And.right (by assumption))))) | exact And.right (And.right (And.right (by assumption))) | exact Ne.symm (And.right (And.right (And.right (by assumption)))) | exact And.left (And.right (And.right (And.right (And.right (by assumption))))) | exact Ne.symm (And.left (And.right (And.right (And.right (And.right (by assumption)))))) | exact And.right (And.right (And.right (And.right (by assumption)))) | exact Ne.symm (And.right (And.right (And.right (And.right (by assumption))))) | exact And.left (And.right (And.right (And.right (And.right (And.right (by assumption)))))) | exact Ne.symm (And.left (And.right (And.right (And.right (And.right (And.right (by assumption))))))) | exact And.right (And.right (And.right (And.right (And.right (by assumption))))) | exact Ne.symm (And.right (And.right (And.right (And.right (And.right (by assumption)))))) | exact And.left (And.right (And.right (And.right (And.right (And.right (And.right (by assumption))))))) | exact Ne.symm (And.left (And.right (And.right (And.right (And.right (And.right (And.right (by assumption)))))))) | exact And.right (And.right (And.right (And.right (And.right (And.right (by assumption)))))) | exact Ne.symm (And.right (And.right (And.right (And.right (And.right (And.right (by assumption))))))) | exact And.left (And.right (And.right (And.right (And.right (And.right (And.right (And.right (by assumption)))))))) | exact Ne.symm (And.left (And.right (And.right (And.right (And.right (And.right (And.right (And.right (by assumption))))))))) | exact And.right (And.right (And.right (And.right (And.right (And.right (And.right (by assumption))))))) | exact Ne.symm (And.right (And.right (And.right (And.right (And.right (And.right (And.right (by assumption)))))))) | exact And.left (And.right (And.right (And.right (And.right (And.right (And.right (And.right (And.right (by assumption))))))))) | exact Ne.symm (And.left (And.right (And.right (And.right (And.right (And.right (And.right (And.right (And.right (by assumption)))))))))) | exact And.right (And.right (And.right (And.right (And.right (And.right (And.right (And.right (by assumption)))))))) | exact Ne.symm (And.right (And.right (And.right (And.right (And.right (And.right (And.right (And.right (by assumption))))))))) | exact And.left (And.right (And.right (And.right (And.right (And.right (And.right (And.right (And.right (And.right (by assumption)))))))))) | exact Ne.symm (And.left (And.right (And.right (And.right (And.right (And.right (And.right (And.right (And.right (And.right (by assumption))))))))))) | exact And.right (And.right (And.right (And.right (And.right (And.right (And.right (And.right (And.right (by assumption))))))))) | exact Ne.symm (And.right (And.right (And.right (And.right (And.right (And.right (And.right (And.right (And.right (by assumption)))))))))) | exact And.left (And.right (And.right (And.right (And.right (And.right (And.right (And.right (And.right (And.right (And.right (by assumption))))))))))) | exact Ne.symm (And.left (And.right (And.right (And.right (And.right (And.right (And.right (And.right (And.right (And.right (And.right (by assumption)))))))))))) | exact And.right (And.right (And.right (And.right (And.right (And.right (And.right (And.right (And.right (And.right (by assumption)))))))))) | exact Ne.symm (And.right (And.right (And.right (And.right (And.right (And.right (And.right (And.right (And.right (And.right (by assumption))))))))))) | exact And.left (And.right (And.right (And.right (And.right (And.right (And.right (And.right (And.right (And.right (And.right (And.right (by assumption)))))))))))) | exact Ne.symm (And.left (And.right (And.right (And.right (And.right (And.right (And.right (And.right (And.right (And.right (And.right (And.right (by assumption))))))))))))) | exact And.right (And.right (And.right (And.right (And.right (And.right (And.right (And.right (And.right (And.right (And.right (by assumption))))))))))) | exact Ne.symm (And.right (And.right (And.right (And.right (And.right (And.right (And.right (And.right (And.right (And.right (And.right (by assumption)))))))))))) | exact And.left (And.right (And.right (And.right (And.right (And.right (And.right (And.right (And.right (And.right (And.right (And.right (And.right (by assumption))))))))))))) | exact Ne.symm (And.left (And.right (And.right (And.right (And.right (And.right (And.right (And.right (And.right (And.right (And.right (And.right (And.right (by assumption)))))))))))))) | exact And.right (And.right (And.right (And.right (And.right (And.right (And.right (And.right (And.right (And.right (And.right (And.right (by assumption)))))))))))) | exact Ne.symm (And.right (And.right (And.right (And.right (And.right (And.right (And.right (And.right (And.right (And.right (And.right (And.right (by assumption))))))))))))))
    k_with "k_all" => (first | assumption | exact allLt_ne (by assumption) | exact allLt_ne (And.right (by assumption)) | exact allLt_ne (And.right (And.right (by assumption))) | exact allLt_ne (And.right (And.right (And.right (by assumption)))) | exact allLt_ne (And.right (And.right (And.right (And.right (by assumption))))) | exact allLt_ne (And.right (And.right (And.right (And.right (And.right (by assumption)))))) | exact allLt_ne (And.right (And.right (And.right (And.right (And.right (And.right (by assumption))))))) | exact allLt_ne (And.right (And.right (And.right (And.right (And.right (And.right (And.right (by assumption)))))))))
    k_with "eval ListComp" => (k_here; (with_reducible show wpAny _ _ (eval (PySem.Expr.ListComp _ [_] _ _) _) _ _ _); k_dflt (refine LCg.ListComp_U (F₀ := by k_asm) (by rfl) (by decide) (by rfl) (by decide) (by rfl) ?_); k_dflt lcg_toSrc)
    k_with "eval ListComp" => (k_here; (with_reducible show wpAny _ _ (eval (PySem.Expr.ListComp (PySem.Expr.Subscript _ _ _) [_] _ _) _) _ _ _); k_dflt (refine ListComp_dict (F₀ := by k_asm) (by rfl) (by decide) (by rfl) (by decide) (by rfl) ?_))
    k_with "pyIter ref" => (k_here; (with_reducible show wpAny _ _ (pyIter (Value.ref _)) (fun it s₂ => LoopAtV _ _ _ _ _ _ _ _ _ it s₂) _ _); refine Hold.mk ?_)
    k_with "eval Dict cons cons" => (k_here; k_dflt (refine' kdn_eval (knd := PySem.intKind _ _) (by k_asm) (by k_asm) (by exact Top.nolimit (by k_asm)) (by rfl) (by rfl) (by exact List.cons_ne_nil _ _) (by exact Nat.le_of_ble_eq_true rfl) ?_; k_whole); intro _ _ _ _ _ zl _ _; (try k_lt zl))
    k_with "getMethod ref" => (k_here; (with_reducible show wpAny _ _ (getMethod (Value.ref _) (PySem.Str.ofString "get") _) _ _ _); k_dflt (refine' methodI (by assumption) (by k_asm) (by k_mem) ?_; k_whole))
    k_with "call builtin:dict.get" => (k_here; (with_reducible show wpAny _ _ (call _ [Value.ref _, Value.int _ _, Value.int _ _]) _ _ _); k_dflt (refine' getI (by assumption) (by k_asm) (by k_mem) ?_; k_whole); intro _; (try dsimp only))
    k_with "setItem ref int" => (k_here; (with_reducible show wpAny _ _ (setItem (Value.ref _) (Value.int _ _) (Value.int _ _)) _ _ _); k_dflt (refine' setI (by assumption) (by k_asm) (by k_asm) (by k_updF) (by assumption) ?_; k_whole); intro _ _ _ _ _; (try dsimp only))
    k_with "subscriptTail Name Name ref int" => (k_here; (with_reducible show wpAny _ _ (subscriptTail _ _ (Value.ref _) (Value.int _ _)) _ _ _); k_dflt (refine' itemI (by assumption) (by k_asm) (by k_mem) (by assumption) ?_ (by rfl) (by intro _; rfl); k_whole); intro _; (try dsimp only))
    k_with "CompSrc" => (refine Hold.mk ?_)
    refine name_ob (by k_asm) (by k_mem : (L' + 1, _) ∈ _) fun oW e => ?_
    subst e
    have hsum : DictI PySem.Challenge.rw_sn0027_01.row.prog w _ _ _ (startI ds) := ⟨by assumption, by assumption, by (rename FlatPairs _ _ _ => hfp); exact hfp⟩
    refine name_dict hsum fun wd0 od0 kv0 hsum' e1 e2 => ?_
    clear hsum
    subst e1 e2
    refine' loop_range (σ := Addr × Obj × Obj × List (Int × Value) × List (Int × Int)) n (fun c => (c.1, c.2.1) :: (L' + 1, c.2.2.1) :: (dl, listOf dvs.toArray dk) :: news) (fun _ => []) [PySem.Str.ofString "step", PySem.Str.ofString "fewer", PySem.Str.ofString "rows", PySem.Str.ofString "size"]
      (fun i c => DictI PySem.Challenge.rw_sn0027_01.row.prog w c.1 c.2.1 c.2.2.2.1 c.2.2.2.2 ∧ c.2.2.2.2 = ordRun (startI ds) i ∧ c.2.2.1.data = .cell (some (.ref c.1)) ∧ AllLt c.1 ((L' + 1, c.2.2.1) :: (dl, listOf dvs.toArray dk) :: news)) (wd0, od0, oW, kv0, startI ds) ?hr ?hs ?hn ?F ?N ?hk ?hp ?hh ?turn ?done
    case hr => assumption
    case hs => omega
    case hn => omega
    case hp => exact ⟨hsum', rfl, by assumption, by assumption⟩
    case F => k_asm
    case N => exact cb_drop (by assumption) (by kcj_all)
    case hk => kst_all
    case hh => rfl
    case turn =>
      rintro i t ⟨wd, od, ow, kvs, l⟩ u h tk I own hi ⟨hD1, hl, how, hlt⟩ hoff hown hIo F₁ N₁
      dsimp only [kstB] at F₁ hD1 hl how hlt
      simp only [List.cons_append] at N₁
      k_steps
      unfold Hold
      have hfew : DictI PySem.Challenge.rw_sn0027_01.row.prog w _ _ [] [] := ⟨by assumption, by assumption, by assumption⟩
      refine name_dict hfew fun fd fo fk hfew' e1 e2 => ?_
      clear hfew
      subst e1 e2
      have hfd : AllLt fd ((wd, od) :: (L' + 1, ow) :: (dl, listOf dvs.toArray dk) :: (news ++ own)) := by assumption
      refine' loop_dict (σ := Obj × List (Int × Value) × List (Int × Int)) (d := wd) (fun c => (wd, od) :: (fd, c.1) :: (L' + 1, ow) :: (dl, listOf dvs.toArray dk) :: (news ++ own)) (fun _ => []) [PySem.Str.ofString "rows", PySem.Str.ofString "size"]
        (fun i c => DictI PySem.Challenge.rw_sn0027_01.row.prog w fd c.1 c.2.1 c.2.2 ∧ c.2.2 = (l.take i).foldl rowsStep []) (fo, fk, []) hD1 ?hmB ?FB ?NB ?hkB ?hpB ?hhB ?turnB ?doneB
      case hmB => exact .head _
      case FB => k_asm
      case NB => exact cb_drop (by assumption) (by kcj_all)
      case hkB => kst_all
      case hhB => rfl
      case hpB => exact ⟨hfew', rfl⟩
      case turnB =>
        rintro i2 k v t2 ⟨f2, k2, l2⟩ u2 h2 tk2 I2 own2 hi2 ⟨hD2, hl2⟩ hoff2 hIo2 hown2 F₂ N₂
        dsimp only [kstB] at F₂ hD2 hl2
        simp only [List.cons_append] at N₂
        have hlk := hD1.look hi2
        k_steps
        unfold Hold
        refine' loop_range (σ := Obj × List (Int × Value) × List (Int × Int)) 7 (fun c => (fd, c.1) :: (wd, od) :: (L' + 1, ow) :: (dl, listOf dvs.toArray dk) :: (news ++ own ++ own2)) (fun _ => []) [PySem.Str.ofString "size"]
          (fun j c => DictI PySem.Challenge.rw_sn0027_01.row.prog w fd c.1 c.2.1 c.2.2 ∧ c.2.2 = (List.range j).foldl (sizeStep k v) l2) (f2, k2, l2) ?hrC ?hsC ?hnC ?FC ?NC ?hkC ?hpC ?hhC ?turnC ?doneC
        case hrC => assumption
        case hsC => omega
        case hnC => rfl
        case hpC => exact ⟨hD2, rfl⟩
        case FC => k_asm
        case NC => exact cb_drop (by assumption) (by kcj_all)
        case hkC => kst_all
        case hhC => rfl
        case turnC =>
          rintro j t3 ⟨f3, k3, l3⟩ u3 h3 tk3 I3 own3 hj ⟨hD3, hl3⟩ hoff3 hown3 hIo3 F₃ N₃
          dsimp only [kstB] at F₃ hD3 hl3
          simp only [List.cons_append] at N₃
          have hneA : ∀ p ∈ news ++ own ++ own2 ++ own3, p.1 ≠ fd := by
            intro p hp
            rcases List.mem_append.mp hp with hp | hp
            · rcases List.mem_append.mp hp with hp | hp
              · exact Nat.ne_of_lt (kst_ltOf hfd p (.tail _ (.tail _ (.tail _ hp))))
              · rcases hown2 p hp with e | e
                · rw [e]; exact fun e => hoff2 (fd, f2) (.tail _ (.head _)) (e ▸ .head _)
                · rw [e]; exact Nat.ne_of_lt hfd.1
            · rw [hown3 p hp]; exact fun e => hoff3 (fd, f3) (.head _) (e ▸ .head _)
          have hz3 : l3.length ≤ 100000 := by
            have := rows_le (l.take i2) []
            have := sizes_le k v l2 j
            have := hsm i (by omega)
            rw [List.length_take] at *
            simp only [List.length_nil] at *
            subst hl3 hl2 hl
            omega
          k_steps
          · rename DictI _ _ fd _ _ (putI _ _ _) => hput
            rw [size_yes (by assumption) hl3] at hput
            obtain ⟨kN, hdN⟩ : ∃ kN, DictI _ w fd _ kN _ := ⟨_, hput⟩
            clear hput
            refine' lend (_, kN, _) ?F ?N ?hn ?_ ?hk ?hr ⟨hdN, rfl⟩
            case F => k_asm
            case N => k_asm
            case hn => kst_in
            case hk => kst_all
            case hr => ksw_same
            · exact off_same hoff3 rfl
          · refine' lend (f3, k3, l3) ?F ?N ?hn ?_ ?hk ?hr ⟨hD3, size_no (by assumption) hl3⟩
            case F => k_asm
            case N => k_asm
            case hn => kst_in
            case hk => kst_all
            case hr => ksw_same
            · exact off_same hoff3 rfl
        case doneC =>
          rintro ⟨f3, k3, l3⟩ u3 h3 tk3 ⟨hD3, hl3⟩ F₃ N₃
          dsimp only [kstB] at F₃ hD3 hl3 N₃
          k_steps
          refine' lend (f3, k3, l3) ?F ?N ?hn ?_ ?hk ?hr ⟨hD3, by rw [rows_snoc hi2, ← hl2]; exact hl3⟩
          case F => k_asm
          case N => k_asm
          case hn => kst_in
          case hk => kst_all
          case hr => ksw_same
          · exact off_same hoff2 rfl
      case doneB =>
        rintro ⟨f2, k2, l2⟩ u2 h2 tk2 ⟨hD2, hl2⟩ F₂ N₂
        dsimp only [kstB] at F₂ hD2 hl2 N₂
        have hdl1 : dl ≠ L' + 1 := hn1 _ hmem
        have hw1 : wd ≠ L' + 1 := Nat.ne_of_gt hlt.1
        have hf1 : fd ≠ L' + 1 := Nat.ne_of_gt hfd.2.1
        have hneW : ∀ p ∈ news ++ own, p.1 ≠ L' + 1 := fun p hp => (List.mem_append.mp hp).elim (hn1 p) fun h => by
          rw [hown p h]; exact fun e => hoff (L' + 1, ow) (.tail _ (.head _)) (e ▸ .head _)
        k_steps
        refine name_ob (by k_asm) (by k_mem : (L' + 1, _) ∈ _) fun oN e => ?_
        subst e
        have hIf : fd ≠ I := by
          obtain ⟨oi, hoi⟩ := hIo
          exact Nat.ne_of_gt (kst_ltOf hfd _ (.tail _ (.tail _ (.tail _ (List.mem_append.mpr (.inr hoi))))))
        refine' lend (fd, f2, oN, k2, l2) ?FE ?NE ?hnE ?_ ?hkE ?hrE ⟨hD2, ord_done hl hl2, by assumption, hfd.2.1, hfd.2.2.1, allLt_left hfd.2.2.2⟩
        case FE => k_asm
        case NE => k_asm
        case hnE => kst_in
        case hkE => kst_all
        case hrE => ksw_same
        · intro p hp
          rcases List.mem_cons.mp hp with rfl | hp
          · exact fun h => hIf (List.mem_singleton.mp h)
          · exact off_same hoff (l2 := (wd, od) :: (L' + 1, oN) :: (dl, listOf dvs.toArray dk) :: news) rfl p (.tail _ hp)
    case done =>
      rintro ⟨wd, od, ow, kvs, l⟩ u h tk ⟨hD1, hl, how, hlt⟩ F₁ N₁
      dsimp only [kstB] at F₁ hD1 hl how hlt N₁
      k_steps
      refine' src_dict (fun i ys => IntsAre ys ((l.take i).map (·.2))) ?F ?N ?hm hD1 ?hsz ?hg ?hh ?turnF ?finF
      case F => k_asm
      case N => k_asm
      case hm => k_mem
      case hsz => subst hl; have := hsm n (Nat.le_refl n); omega
      case hg => exact .nil
      case hh => rfl
      case turnF =>
        intro i ys k v t hi hg I oI C oC D m₂ h tk E' hC hx F₁ N₁ off hne
        have hlk := hD1.look hi
        k_steps
        exact comp_const (by assumption) (by assumption) off (vals_snoc hi hg)
      case finF =>
        intro g ys hg
        rw [List.take_length] at hg
        k_steps
        have e : (List.map (fun x => x.2) l).sum = ordersI ds n := by rw [hl]; rfl
        rw [e]
        exact hret _ _ _ (by assumption) (by assumption) (cb_drop (by assumption) (by kcj_all))
end Mine
end
section
open PySem PySem.W
set_option maxRecDepth 100000
namespace Mine
noncomputable def quoteR : List Nat → List Nat
  | [] => []
  | c :: r => if c = 46 then 46 :: 46 :: r else c :: r
theorem quoteR_cons (c : Nat) (r : List Nat) : quoteR (c :: r) = if c = 46 then 46 :: 46 :: r else c :: r := rfl
noncomputable def stepB (rows : List (List Nat)) (b : Bool) : List (List Nat) := rows.map quoteR ++ if b then [[62, 46], [46, 62]] else []
noncomputable def rowsB (bs : List Bool) : List (List Nat) := bs.foldl stepB []
noncomputable def joinR (rs : List (List Nat)) : List Nat := rs.flatMap (· ++ [13, 10])
noncomputable def cutL (l : List Nat) : List Nat := joinS [13, 10] (splitS [62, 13, 10] 0 (joinS [] (splitS [62, 46, 13, 10] 0 l)))
/-- the mail's signs -/
noncomputable def mailL (bs : List Bool) : List Nat := cutL (joinR (rowsB bs))
noncomputable def blankL (l : List Nat) : List Nat := l.map fun k => if k = 46 then 32 else k
noncomputable def dotsB (bs : List Bool) : List Int := ((List.range 7).filter fun p => bs.getD p false).map fun (p : Nat) => 7 - (p : Int)
noncomputable def stepsB (ds : List Int) : Int := ds.sum - ((ds.length : Int) * ((ds.length : Int) - 1)).fdiv 2
noncomputable def factI : Nat → Int
  | 0 => 1
  | n + 1 => factI n * ((n : Int) + 1)
noncomputable def okMail (l : List Nat) : Bool := decide (l.length ≤ 90) && (rowsL (blankL l)).all fun r => r.all (· == 32)
noncomputable def primesL : List (Nat × Int) := [(2, 2), (3, 3), (4, 2), (5, 5), (7, 7), (8, 2)]
noncomputable def partsL (ls : List (List Nat)) : List (List Nat) := ls.flatMap fun l => [partE l, partO l]
noncomputable def coreL (ls : List (List Nat)) : Int := (ls.map partN).sum
noncomputable def hookB (l : List Nat) (z : Int) : Int := hookAt (rowsL (blankL l)) z
noncomputable def twosB (os : Int) : Int := (((List.range 15).filter fun (k : Nat) => os.fmod (2 ^ (k + 1)) == 0).length : Int)
noncomputable def onesB (n : Int) : Int := (((List.range 5).filter fun (k : Nat) => (n.fdiv (2 ^ k)).fmod 2 == 1).length : Int)
noncomputable def lawB (bs : List Bool) : Bool :=
  let ds := dotsB bs
  let n := (stepsB ds).toNat
  let os := ordersI ds n
  let l := mailL bs
  let l1 := partsL [l]
  let l2 := partsL l1
  (stepsB ds == (n : Int)) && decide (n ≤ 28) && (List.range (n + 1)).all (fun i => decide ((ordRun (startI ds) i).length ≤ 1000))
    && okMail l && okMail (partE l) && okMail (partO l) && l2.all (fun l => decide (l.length ≤ 90))
    && (hookB l 1 == 2 * (n : Int))
    && primesL.all (fun p => decide (0 ≤ hookB l (p.1 : Int)) && decide (hookB l (p.1 : Int) ≤ 1000) && (hookB l (p.1 : Int)).fmod (2 * (p.1 : Int)) == 0)
    && (primesL.foldl (fun a p => a * p.2 ^ ((hookB l (p.1 : Int)).fdiv (2 * (p.1 : Int))).toNat) os == factI n)
    && (hookB l 2 == 2 * (hookB (partE l) 1 + hookB (partO l) 1)) && (hookB l 4 == 2 * (hookB (partE l) 2 + hookB (partO l) 2)) && (hookB l 6 == 2 * (hookB (partE l) 3 + hookB (partO l) 3))
    && (coreL [l] + coreL l1 + coreL l2 == twosB os + onesB (n : Int))
    && (coreL [l] + 2 * coreL l1 + 4 * coreL l2 == (n : Int))
noncomputable def allB : Nat → List (List Bool)
  | 0 => [[]]
  | n + 1 => (allB n).flatMap fun bs => [false :: bs, true :: bs]
end Mine
end
section
open PySem PySem.W
set_option maxRecDepth 100000
namespace Mine
noncomputable def PlainR (rs : List (List Nat)) : Prop := ∀ r ∈ rs, ∀ k ∈ r, k ≠ 10 ∧ k ≠ 13
theorem fixL_row : ∀ (r t : List Nat), (∀ k ∈ r, k ≠ 10 ∧ k ≠ 13) → fixL (r ++ 13 :: 10 :: t) = r ++ 13 :: 10 :: fixL t
  | [], t, _ => rfl
  | c :: r, t, h => by
    have hc := h c (.head _)
    rw [List.cons_append, fixL_other (fun e => absurd e hc.2), fixL_row r t fun k hk => h k (.tail _ hk)]
    have : (c == 10 || c == 13) = false := by simp [hc]
    rw [this]; rfl
theorem fixL_join : ∀ (rs : List (List Nat)) (t : List Nat), PlainR rs → fixL (joinR rs ++ t) = joinR rs ++ fixL t
  | [], t, _ => rfl
  | r :: rs, t, h => by
    have e : joinR (r :: rs) ++ t = r ++ 13 :: 10 :: (joinR rs ++ t) := by simp [joinR]
    rw [e, fixL_row _ _ (h r (.head _)), fixL_join rs t fun r hr => h r (.tail _ hr)]
    simp [joinR]
theorem dotL_row : ∀ (r t : List Nat), (∀ k ∈ r, k ≠ 10 ∧ k ≠ 13) → dotL false (r ++ 13 :: 10 :: t) = r ++ 13 :: 10 :: dotL true t
  | [], t, _ => rfl
  | c :: r, t, h => by
    have hc := h c (.head _)
    rw [List.cons_append, dotL_cons, show (c == 10) = false by simp [hc], dotL_row r t fun k hk => h k (.tail _ hk)]
    rfl
theorem dotL_head (r t : List Nat) (h : ∀ k ∈ r, k ≠ 10 ∧ k ≠ 13) : dotL true (r ++ 13 :: 10 :: t) = quoteR r ++ 13 :: 10 :: dotL true t := by
  cases r with
  | nil => rfl
  | cons c r =>
    have hc := h c (.head _)
    rw [List.cons_append, dotL_cons, show (c == 10) = false by simp [hc], dotL_row r t fun k hk => h k (.tail _ hk)]
    by_cases e : c = 46
    · subst e; rfl
    · have e1 : (true && c == 46) = false := by simp [e]
      rw [e1]
      rw [quoteR_cons, if_neg e]; rfl
theorem dotL_join : ∀ (rs : List (List Nat)), PlainR rs → dotL true (joinR rs) = joinR (rs.map quoteR)
  | [], _ => rfl
  | r :: rs, h => by
    have e : joinR (r :: rs) = r ++ 13 :: 10 :: joinR rs := by simp [joinR]
    rw [e, dotL_head _ _ (h r (.head _)), dotL_join rs fun r hr => h r (.tail _ hr)]
    simp [joinR]
theorem quoteR_mem {r : List Nat} {k : Nat} (h : k ∈ quoteR r) : k ∈ r ∨ k = 46 := by
  cases r with
  | nil => exact .inl h
  | cons c r =>
    rw [quoteR_cons] at h
    split at h
    · rename_i e
      rcases List.mem_cons.mp h with e' | h
      · exact .inr e'
      · exact .inl (e ▸ h)
    · exact .inl h
theorem quoteR_len (r : List Nat) : (quoteR r).length ≤ r.length + 1 := by
  cases r with
  | nil => simp [quoteR]
  | cons c r => rw [quoteR_cons]; split <;> simp
theorem plain_quote {rs : List (List Nat)} (h : PlainR rs) : PlainR (rs.map quoteR) := by
  intro r hr k hk
  obtain ⟨r', hr', rfl⟩ := List.mem_map.mp hr
  rcases quoteR_mem hk with hk | rfl
  · exact h r' hr' k hk
  · exact ⟨by decide, by decide⟩
theorem plain_step {rs : List (List Nat)} (h : PlainR rs) (b : Bool) : PlainR (stepB rs b) := by
  intro r hr k hk
  rcases List.mem_append.mp hr with hr | hr
  · exact plain_quote h r hr k hk
  · cases b
    · simp at hr
    · simp at hr
      rcases hr with rfl | rfl <;> simp at hk <;> rcases hk with rfl | rfl <;> exact ⟨by decide, by decide⟩
theorem rowsB_snoc {bs : List Bool} {i : Nat} {b : Bool} (h : bs[i]? = some b) : rowsB (bs.take (i + 1)) = stepB (rowsB (bs.take i)) b := by
  unfold rowsB
  rw [List.take_add_one, h, List.foldl_append]; rfl
theorem rowsB_ok : ∀ (i : Nat) (bs : List Bool), i ≤ bs.length → PlainR (rowsB (bs.take i)) ∧ (rowsB (bs.take i)).length ≤ 2 * i ∧ ∀ r ∈ rowsB (bs.take i), r.length ≤ i + 2
  | 0, bs, _ => ⟨fun r h => by simp [rowsB] at h, by simp [rowsB], fun r h => by simp [rowsB] at h⟩
  | i + 1, bs, h => by
    obtain ⟨h1, h2, h3⟩ := rowsB_ok i bs (by omega)
    obtain ⟨b, hb⟩ : ∃ b, bs[i]? = some b := ⟨bs[i], by simp [show i < bs.length by omega]⟩
    rw [rowsB_snoc hb]
    refine ⟨plain_step h1 b, ?_, ?_⟩
    · unfold stepB
      rw [List.length_append, List.length_map]
      cases b <;> simp <;> omega
    · intro r hr
      rcases List.mem_append.mp hr with hr | hr
      · obtain ⟨r', hr', rfl⟩ := List.mem_map.mp hr
        have := h3 r' hr'
        have := quoteR_len r'
        omega
      · cases b
        · simp at hr
        · simp at hr
          rcases hr with rfl | rfl <;> simp
theorem joinR_len : ∀ (rs : List (List Nat)) (k : Nat), (∀ r ∈ rs, r.length ≤ k) → (joinR rs).length ≤ rs.length * (k + 2)
  | [], k, _ => by simp [joinR]
  | r :: rs, k, h => by
    have h1 := joinR_len rs k fun r hr => h r (.tail _ hr)
    have h2 := h r (.head _)
    have e : joinR (r :: rs) = r ++ 13 :: 10 :: joinR rs := by simp [joinR]
    rw [e, List.length_append, List.length_cons, List.length_cons, List.length_cons, Nat.succ_mul]
    omega
theorem mail_small {bs : List Bool} {i : Nat} (h : i ≤ bs.length) (h7 : i ≤ 7) : (joinR (rowsB (bs.take i))).length ≤ 154 := by
  obtain ⟨_, h2, h3⟩ := rowsB_ok i bs h
  have h4 := joinR_len _ _ h3
  have h5 : (rowsB (bs.take i)).length * (i + 2 + 2) ≤ 14 * 11 := Nat.mul_le_mul (by omega) (by omega)
  omega
/-- the loop's word -/
noncomputable def MailInv (bs : List Bool) (i : Nat) (x : PySem.Str) : Prop := i ≤ bs.length ∧ fixL x.cps.toList = joinR (rowsB (bs.take i)) ∧ x.length ≤ (joinR (rowsB (bs.take i))).length
theorem mail_start (bs : List Bool) : MailInv bs 0 (PySem.Str.ofString "") := ⟨Nat.zero_le _, by rw [List.take_zero]; decide +kernel, by rw [List.take_zero]; decide +kernel⟩
theorem mail_len {bs : List Bool} {i : Nat} {x : PySem.Str} (h : MailInv bs i x) (h7 : i ≤ 7) : x.length ≤ 400 := by
  have := mail_small h.1 h7
  have := h.2.2
  omega
noncomputable abbrev quoted (x : PySem.Str) : PySem.Str := ⟨(dotL true (fixL x.cps.toList)).toArray⟩
theorem quoted_is {bs : List Bool} {i : Nat} {x : PySem.Str} (h : MailInv bs i x) : (quoted x).cps.toList = joinR ((rowsB (bs.take i)).map quoteR) := by
  show (dotL true (fixL x.cps.toList)).toArray.toList = _
  rw [List.toList_toArray, h.2.1, dotL_join _ (rowsB_ok i bs h.1).1]
theorem str_len (x : PySem.Str) : x.length = x.cps.toList.length := by simp [PySem.Str.length]
theorem fix_self (rs : List (List Nat)) (h : PlainR rs) : fixL (joinR rs) = joinR rs := by
  have := fixL_join rs [] h
  simpa [fixL] using this
theorem quoted_len {bs : List Bool} {i : Nat} {x : PySem.Str} (h : MailInv bs i x) (h7 : i ≤ 7) : (⟨(dotL true (fixL x.cps.toList)).toArray⟩ : PySem.Str).length ≤ 200 := by
  obtain ⟨_, h2, h3⟩ := rowsB_ok i bs h.1
  rw [str_len, quoted_is h]
  have h4 := joinR_len ((rowsB (bs.take i)).map quoteR) (i + 3) (fun r hr => by
    obtain ⟨r', hr', rfl⟩ := List.mem_map.mp hr
    have := h3 r' hr'
    have := quoteR_len r'
    omega)
  rw [List.length_map] at h4
  have h5 : (rowsB (bs.take i)).length * (i + 3 + 2) ≤ 14 * 12 := Nat.mul_le_mul (by omega) (by omega)
  omega
theorem mail_even {bs : List Bool} {i : Nat} {x : PySem.Str} (h : MailInv bs i x) (hb : bs[i]? = some false) : MailInv bs (i + 1) (quoted x) := by
  have hi : i < bs.length := by
    cases Nat.lt_or_ge i bs.length with
    | inl h => exact h
    | inr h => rw [List.getElem?_eq_none h] at hb; cases hb
  have e : joinR (rowsB (bs.take (i + 1))) = joinR ((rowsB (bs.take i)).map quoteR) := by
    rw [rowsB_snoc hb]; simp [stepB]
  refine ⟨hi, ?_, ?_⟩
  · rw [quoted_is h, e, fix_self _ (plain_quote (rowsB_ok i bs h.1).1)]
  · rw [str_len, quoted_is h, e]; exact Nat.le_refl _
theorem mail_odd {bs : List Bool} {i : Nat} {x y : PySem.Str} {e1 e2 : List Nat} (h : MailInv bs i x) (hb : bs[i]? = some true) (hy : y.cps.toList = (quoted x).cps.toList ++ ([62, 46] ++ e1 ++ [46, 62] ++ e2)) (he : fixL ([62, 46] ++ e1 ++ [46, 62] ++ e2) = [62, 46, 13, 10, 46, 62, 13, 10]) (hl : e1.length + e2.length ≤ 4) : MailInv bs (i + 1) y := by
  have hi : i < bs.length := by
    cases Nat.lt_or_ge i bs.length with
    | inl h => exact h
    | inr h => rw [List.getElem?_eq_none h] at hb; cases hb
  have e : joinR (rowsB (bs.take (i + 1))) = joinR ((rowsB (bs.take i)).map quoteR) ++ [62, 46, 13, 10, 46, 62, 13, 10] := by
    rw [rowsB_snoc hb]; simp [stepB, joinR]
  refine ⟨hi, ?_, ?_⟩
  · rw [hy, quoted_is h, fixL_join _ _ (plain_quote (rowsB_ok i bs h.1).1), he, e]
  · rw [str_len, hy, quoted_is h, e]
    simp only [List.length_append, List.length_cons, List.length_nil]
    omega
theorem mail_end {bs : List Bool} {x : PySem.Str} (h : MailInv bs bs.length x) : fixL x.cps.toList = joinR (rowsB bs) := by
  have := h.2.1
  rwa [List.take_length] at this
theorem splitS_sum (y : List Nat) : ∀ (l : List Nat) (k : Nat), ((splitS y k l).map (·.length)).sum ≤ l.length
  | [], k => by cases k <;> simp [splitS]
  | c :: r, k + 1 => by
    show ((splitS y k r).map (·.length)).sum ≤ _
    have := splitS_sum y r k
    rw [List.length_cons]; omega
  | c :: r, 0 => by
    rw [splitS_cons]
    have h0 := splitS_sum y r (y.length - 1)
    have h1 := splitS_sum y r 0
    split
    · simp; omega
    · cases h : splitS y 0 r with
      | nil => simp
      | cons p ps => rw [h] at h1; simp at h1 ⊢; omega
theorem joinS_le (z : List Nat) : ∀ ps : List (List Nat), (joinS z ps).length ≤ (ps.map (·.length)).sum + ps.length * z.length
  | [] => by simp [joinS]
  | [p] => by simp [joinS]
  | p :: q :: ps => by
    have := joinS_le z (q :: ps)
    show (p ++ z ++ joinS z (q :: ps)).length ≤ _
    rw [List.length_append, List.length_append, List.map_cons, List.sum_cons, List.length_cons (as := q :: ps), Nat.succ_mul]
    omega
theorem repS_le (x y z : PySem.Str) : (repS x y z).length ≤ x.length + (x.length + 1) * z.length := by
  have e : (repS x y z).length = (joinS z.cps.toList (splitS y.cps.toList 0 x.cps.toList)).length := by
    rw [str_len]; rfl
  rw [e, str_len x, str_len z]
  have h1 := joinS_le z.cps.toList (splitS y.cps.toList 0 x.cps.toList)
  have h2 := splitS_sum y.cps.toList x.cps.toList 0
  have h3 := splitS_count y.cps.toList x.cps.toList 0
  have h4 := Nat.mul_le_mul_right z.cps.toList.length h3
  omega
theorem codes_app (a b : PySem.Str) : (a ++ b).cps.toList = a.cps.toList ++ b.cps.toList := codes_add a b
theorem odd_is {q e1 e2 : PySem.Str} {l1 l2 : List Nat} (h1 : e1.cps.toList = l1) (h2 : e2.cps.toList = l2) : (q ++ PySem.Str.ofString ">." ++ e1 ++ PySem.Str.ofString ".>" ++ e2).cps.toList = q.cps.toList ++ ([62, 46] ++ l1 ++ [46, 62] ++ l2) := by
  have a : (PySem.Str.ofString ">.").cps.toList = [62, 46] := by decide +kernel
  have b : (PySem.Str.ofString ".>").cps.toList = [46, 62] := by decide +kernel
  simp only [codes_add, a, b, h1, h2, List.append_assoc]
theorem mail_is {bs : List Bool} {x : PySem.Str} (h : MailInv bs bs.length x) : repS (repS ⟨(fixL x.cps.toList).toArray⟩ (PySem.Str.ofString ">.\x0d\n") (PySem.Str.ofString "")) (PySem.Str.ofString ">\x0d\n") (PySem.Str.ofString "\x0d\n") = ⟨(mailL bs).toArray⟩ := by
  have a : (PySem.Str.ofString ">.\x0d\n").cps.toList = [62, 46, 13, 10] := by decide +kernel
  have b : (PySem.Str.ofString ">\x0d\n").cps.toList = [62, 13, 10] := by decide +kernel
  have c : (PySem.Str.ofString "\x0d\n").cps.toList = [13, 10] := by decide +kernel
  have d : (PySem.Str.ofString "").cps.toList = [] := by decide +kernel
  unfold repS mailL cutL
  simp only [a, b, c, d, List.toList_toArray, mail_end h]
end Mine
end
section
open PySem PySem.W PyProof.Rows
set_option Elab.async false
set_option pp.deepTerms false
set_option pp.deepTerms.threshold 12
namespace Mine
variable {w : World} {mg mb : PySem.Str → Option Value} {mean : ExcName → Option Value}
set_option maxRecDepth 100000 in
set_option maxHeartbeats 1600000 in
theorem mail_spec (hl : Addr) (hvs : List Value) (hk : Nat) (hs : List Int) (hH : IntsAre hvs hs) (h7 : hs.length ≤ 7) (h05 : ∀ h ∈ hs, 0 ≤ h ∧ h ≤ 5) (news) (hmem : (hl, listOf hvs.toArray hk) ∈ news) :
    Spec PySem.Challenge.rw_sn0027_01.row.prog w (Mine.hd.heap_39 w.params) Mine.hd.view_39 loose mean mg mb 167 2 news [.ref hl] (fun t => .str ⟨(mailL (hs.map fun h => h.fmod 2 == 1)).toArray⟩ t) := by
  have hAt : ∀ (i : Nat) (v : Value), hvs[i]? = some v → ∃ (a : Int) (t : Tok), v = Value.int a t ∧ hs[i]? = some a := fun i v h => IntsAre.at hH i v h
  have hH' : hvs.length = hs.length := by have := hH.sizeZ; rw [List.size_toArray] at this; omega
  k_fill
  k_with_none
  k_with "k_ne" => (first | assumption | exact Ne.symm (by assumption) | exact And.left (by assumption) | exact Ne.symm (And.left (by assumption)) | exact And.left (And.right (by assumption)) | exact Ne.symm (And.left (And.right (by assumption))) | exact And.right (by assumption) | exact Ne.symm (And.right (by assumption)) | exact And.left (And.right (And.right (by assumption))) | exact Ne.symm (And.left (And.right (And.right (by assumption)))) | exact And.right (And.right (by assumption)) | exact Ne.symm (And.right (And.right (by assumption))) | exact And.left (And.right (And.right (And.right (by assumption)))) | exact Ne.symm (And.left (And.right (And.right (And.right (by assumption))))) | exact And.right (And.right (And.right (by assumption))) | exact Ne.symm (And.right (And.right (And.right (by assumption)))) | exact And.left (And.right (And.right (And.right (And.right (by assumption))))) | exact Ne.symm (And.left (And.right (And.right (And.right (And.right (by assumption)))))) | exact And.right (And.right (And.right (And.right (by assumption)))) | exact Ne.symm (And.right (And.right (And.right (And.right (by assumption))))) | exact And.left (And.right (And.right (And.right (And.right (And.right (by assumption)))))) | exact Ne.symm (And.left (And.right (And.right (And.right (And.right (And.right (by assumption))))))) | exact And.right (And.right (And.right (And.right (And.right (by assumption))))) | exact Ne.symm (And.right (And.right (And.right (And.right (And.right (by assumption)))))) | exact And.left (And.right (And.right (And.right (And.right (And.right (And.right (by assumption))))))) | exact Ne.symm (And.left (And.right (And.right (And.right (And.right (And.right (And.right (by assumption)))))))) | exact And.right (And.right (And.right (And.right (And.right (And.right (by assumption)))))) | exact Ne.symm (And.right (And.right (And.right (And.right (And.right (And.right (by assumption))))))) | exact And.left (And.right (And.right (And.right (And.right (And.right (And.right (And.right (by assumption)))))))) | exact Ne.symm (And.left (And.right (And.right (And.right (And.right (And.right (And.right (And.right (by assumption))))))))) | exact And.right (And.right (And.right (And.right (And.right (And.right (And.right (by assumption))))))) | exact Ne.symm (And.right (And.right (And.right (And.right (And.right (And.right (And.right (by assumption)))))))) | exact And.left (And.right (And.right (And.right (And.right (And.right (And.right (And.right (And.right (by assumption))))))))) | exact Ne.symm (And.left (And.right (And.right (And.right (And.right (And.right (And.right (And.right (And.right (by assumption)))))))))) | exact And.right (And.right (And.right (And.right (And.right (And.right (And.right (And.right (by assumption)))))))) | exact Ne.symm (And.right (And.right (And.right (And.right (And.right (And.right (And.right (And.right (by assumption))))))))) | exact And.left (And.right (And.right (And.right (And.right (And.right (And.right (And.right (And.right (And.right (by assumption)))))))))) | exact Ne.symm (And.left (And.right (And.right (And.right (And.right (And.right (And.right (And.right (And.right (And.right (by assumption))))))))))) | exact And.right (And.right (And.right (And.right (And.right (And.right (And.right (And.right (And.right (by assumption))))))))) | exact Ne.symm (And.right (And.right (And.right (And.right (And.right (And.right (And.right (And.right (And.right (by assumption)))))))))) | exact And.left (And.right (And.right (And.right (And.right (And.right (And.right (And.right (And.right (And.right (And.right (by assumption))))))))))) | exact Ne.symm (And.left (And.right (And.right (And.right (And.right (And.right (And.right (And.right (And.right (And.right (And.right (by assumption)))))))))))) | exact And.right (And.right (And.right (And.right (And.right (And.right (And.right (And.right (And.right (And.right (by assumption)))))))))) | exact Ne.symm (And.right (And.right (And.right (And.right (And.right (And.right (And.right (And.right (And.right (And.right (by assumption))))))))))) | exact And.left (And.right (And.right (And.right (And.right (And.right (And.right (And.right (And.right (And.right (And.right (And.right (by assumption)))))))))))) | exact Ne.symm (And.left (And.right (And.right (And.right (And.right (And.right (And.right (And.right (And.right (And.right (And.right (And.right (by assumption))))))))))))) | exact And.right (And.right (And.right (And.right (And.right (And.right (And.right (And.right (And.right (And.right (And.right (by assumption))))))))))) | exact Ne.symm (And.right (And.right (And.right (And.right (And.right (And.right (And.right (And.right (And.right (And.right (And.right (by assumption)))))))))))) | exact And.left (And.right (And.right (And.right (And.right (And.right (And.right (And.right (And.right (And.right (And.right (And.right (And.right (by assumption))))))))))))) | exact Ne.symm (And.left (And.right (And.right (And.right (And.right (And.right (And.right (And.right (And.right (And.right (And.right (And.right (And.right (by assumption)))))))))))))) | exact And.right (And.right (And.right (And.right (And.right (And.right (And.right (And.right (And.right (And.right (And.right (And.right (by assumption)))))))))))) | exact Ne.symm (And.right (And.right (And.right (And.right (And.right (And.right (And.right (And.right (And.right (And.right (And.right (And.right (by assumption))))))))))))))
  k_with "k_all" => (first | assumption | exact allLt_ne (by assumption) | exact allLt_ne (And.right (by assumption)) | exact allLt_ne (And.right (And.right (by assumption))) | exact allLt_ne (And.right (And.right (And.right (by assumption)))) | exact allLt_ne (And.right (And.right (And.right (And.right (by assumption))))) | exact allLt_ne (And.right (And.right (And.right (And.right (And.right (by assumption)))))) | exact allLt_ne (And.right (And.right (And.right (And.right (And.right (And.right (by assumption))))))) | exact allLt_ne (And.right (And.right (And.right (And.right (And.right (And.right (And.right (by assumption)))))))))
  k_with "execs cons" => (k_here; refine wpAny_execs_cons ?_; refine wpAny_toksQ 1 (by first | exact Nat.le_add_left _ _ | assumption) ?_; (try dsimp only))
  k_with "call builtin:str.replace" => (k_here; k_dflt (refine' rep_rule (by (try dsimp only); omega) (by (try dsimp only); omega) (by (try dsimp only); omega) (by decide +kernel) (by decide +kernel) (by l_fact) (by decide +kernel) (by (try dsimp only); omega) ?_; k_whole; intro _ _ _; (try dsimp only)))
  k_with "call ref" => (k_here; refine Hold.mk ?_)
  k_with "pyIter ref" => (k_here; (with_reducible show wpAny _ _ (pyIter (Value.ref _)) (fun it s₂ => LoopAtV _ _ _ _ _ _ _ _ _ it s₂) _ _); refine Hold.mk ?_)
  unfold Spec
  intro dp un gd cn cs a ccd cl outer A₀ base h₀ L m s Q E B F X N₀ T hk hd hu hret
  have N : News h₀ L s.heap ((hl, listOf hvs.toArray _) :: news) := fun p hp => (List.mem_cons.mp hp).elim (fun e => e ▸ N₀ _ hmem) (N₀ p)
  clear N₀
  refine wpAny_call ?_
  k_dflt cell_enter
  refine wpAny_toksQ 1 (Nat.le_add_left _ _) ?_
  k_fold
  k_with_none
  k_with "k_ne" => (first | assumption | exact Ne.symm (by assumption) | exact And.left (by assumption) | exact Ne.symm (And.left (by assumption)) | exact And.left (And.right (by assumption)) | exact Ne.symm (And.left (And.right (by assumption))) | exact And.right (by assumption) | exact Ne.symm (And.right (by assumption)) | exact And.left (And.right (And.right (by assumption))) | exact Ne.symm (And.left (And.right (And.right (by assumption)))) | exact And.right (And.right (by assumption)) | exact Ne.symm (And.right (And.right (by assumption))) | exact And.left (And.right (And.right (And.right (by assumption)))) | exact Ne.symm (And.left (And.right (And.right (And.right (by assumption))))) | exact And.right (And.right (And.right (by assumption))) | exact Ne.symm (And.right (And.right (And.right (by assumption)))) | exact And.left (And.right (And.right (And.right (And.right (by assumption))))) | exact Ne.symm (And.left (And.right (And.right (And.right (And.right (by assumption)))))) | exact And.right (And.right (And.right (And.right (by assumption)))) | exact Ne.symm (And.right (And.right (And.right (And.right (by assumption))))) | exact And.left (And.right (And.right (And.right (And.right (And.right (by assumption)))))) | exact Ne.symm (And.left (And.right (And.right (And.right (And.right (And.right (by assumption))))))) | exact And.right (And.right (And.right (And.right (And.right (by assumption))))) | exact Ne.symm (And.right (And.right (And.right (And.right (And.right (by assumption)))))) | exact And.left (And.right (And.right (And.right (And.right (And.right (And.right (by assumption))))))) | exact Ne.symm (And.left (And.right (And.right (And.right (And.right (And.right (And.right (by assumption)))))))) | exact And.right (And.right (And.right (And.right (And.right (And.right (by assumption)))))) | exact Ne.symm (And.right (And.right (And.right (And.right (And.right (And.right (by assumption))))))) | exact And.left (And.right (And.right (And.right (And.right (And.right (And.right (And.right (by assumption)))))))) | exact Ne.symm (And.left (And.right (And.right (And.right (And.right (And.right (And.right (And.right (by assumption))))))))) | exact And.right (And.right (And.right (And.right (And.right (And.right (And.right (by assumption))))))) | exact Ne.symm (And.right (And.right (And.right (And.right (And.right (And.right (And.right (by assumption)))))))) | exact And.left (And.right (And.right (And.right (And.right (And.right (And.right (And.right (And.right (by assumption))))))))) | exact Ne.symm (And.left (And.right (And.right (And.right (And.right (And.right (And.right (And.right (And.right (by assumption)))))))))) | exact And.right (And.right (And.right (And.right (And.right (And.right (And.right (And.right (by assumption)))))))) | exact Ne.symm (And.right (And.right (And.right (And.right (And.right (And.right (And.right (And.right (by assumption))))))))) | exact And.left (And.right (And.right (And.right (And.right (And.right (And.right (And.right (And.right (And.right (by assumption)))))))))) | exact Ne.symm (And.left (And.right (And.right (And.right (And.right (And.right (And.right (And.right (And.right (And.right (by assumption))))))))))) | exact And.right (And.right (And.right (And.right (And.right (And.right (And.right (And.right (And.right (by assumption))))))))) | exact Ne.symm (And.right (And.right (And.right (And.right (And.right (And.right (And.right (And.right (And.right (by assumption)))))))))) | exact And.left (And.right (And.right (And.right (And.right (And.right (And.right (And.right (And.right (And.right (And.right (by assumption))))))))))) | exact Ne.symm (And.left (And.right (And.right (And.right (And.right (And.right (And.right (And.right (And.right (And.right (And.right (by assumption)))))))))))) | exact And.right (And.right (And.right (And.right (And.right (And.right (And.right (And.right (And.right (And.right (by assumption)))))))))) | exact Ne.symm (And.right (And.right (And.right (And.right (And.right (And.right (And.right (And.right (And.right (And.right (by assumption))))))))))) | exact And.left (And.right (And.right (And.right (And.right (And.right (And.right (And.right (And.right (And.right (And.right (And.right (by assumption)))))))))))) | exact Ne.symm (And.left (And.right (And.right (And.right (And.right (And.right (And.right (And.right (And.right (And.right (And.right (And.right (by assumption))))))))))))) | exact And.right (And.right (And.right (And.right (And.right (And.right (And.right (And.right (And.right (And.right (And.right (by assumption))))))))))) | exact Ne.symm (And.right (And.right (And.right (And.right (And.right (And.right (And.right (And.right (And.right (And.right (And.right (by assumption)))))))))))) | exact And.left (And.right (And.right (And.right (And.right (And.right (And.right (And.right (And.right (And.right (And.right (And.right (And.right (by assumption))))))))))))) | exact Ne.symm (And.left (And.right (And.right (And.right (And.right (And.right (And.right (And.right (And.right (And.right (And.right (And.right (And.right (by assumption)))))))))))))) | exact And.right (And.right (And.right (And.right (And.right (And.right (And.right (And.right (And.right (And.right (And.right (And.right (by assumption)))))))))))) | exact Ne.symm (And.right (And.right (And.right (And.right (And.right (And.right (And.right (And.right (And.right (And.right (And.right (And.right (by assumption))))))))))))))
  k_with "k_all" => (first | assumption | exact allLt_ne (by assumption) | exact allLt_ne (And.right (by assumption)) | exact allLt_ne (And.right (And.right (by assumption))) | exact allLt_ne (And.right (And.right (And.right (by assumption)))) | exact allLt_ne (And.right (And.right (And.right (And.right (by assumption))))) | exact allLt_ne (And.right (And.right (And.right (And.right (And.right (by assumption)))))) | exact allLt_ne (And.right (And.right (And.right (And.right (And.right (And.right (by assumption))))))) | exact allLt_ne (And.right (And.right (And.right (And.right (And.right (And.right (And.right (by assumption)))))))))
  k_with "execs cons" => (k_here; refine wpAny_execs_cons ?_; refine wpAny_toksQ 1 (by first | exact Nat.le_add_left _ _ | assumption) ?_; (try dsimp only))
  k_with "call builtin:str.replace" => (k_here; k_dflt (refine' rep_rule (by (try dsimp only); omega) (by (try dsimp only); omega) (by (try dsimp only); omega) (by decide +kernel) (by decide +kernel) (by l_fact) (by decide +kernel) (by (try dsimp only); omega) ?_; k_whole; intro _ _ _; (try dsimp only)))
  k_with "call ref" => (k_here; refine Hold.mk ?_)
  k_with "pyIter ref" => (k_here; (with_reducible show wpAny _ _ (pyIter (Value.ref _)) (fun it s₂ => LoopAtV _ _ _ _ _ _ _ _ _ it s₂) _ _); refine Hold.mk ?_)
  k_steps
  unfold Hold
  refine name_of (by k_asm) (by k_mem : (_, listOf #[Value.str (PySem.Str.ofString "\n") _, _, _] 0) ∈ _) fun el e => ?_
  subst e
  refine' loop_listC (σ := PySem.Str × Tok) (vs := hvs) (fun c => [(PySem.Str.ofString "mail", .str c.1 c.2)]) [PySem.Str.ofString "heap"] (fun i c => MailInv (hs.map fun h => h.fmod 2 == 1) i c.1) (PySem.Str.ofString "", _) ?F ?N ?hm ?hkk ?hp ?hh ?turn ?done
  case F => k_asm
  case N => k_asm
  case hm => k_mem
  case hkk => kst_all
  case hp => exact mail_start _
  case hh => rfl
  case turn =>
    rintro i v ⟨x, tx⟩ u h tk I own hv hP hoff F₁ N₁
    dsimp only [kstB] at F₁ hP
    obtain ⟨a, ta, rfl, ha⟩ := hAt i v hv
    have ha5 := h05 a (List.mem_of_getElem? ha)
    have hbi : (hs.map fun h => h.fmod 2 == 1)[i]? = some (a.fmod 2 == 1) := by rw [List.getElem?_map, ha]; rfl
    have hi7 : i + 1 ≤ 7 := by
      have : i < hs.length := by
        cases Nat.lt_or_ge i hs.length with
        | inl h => exact h
        | inr h => rw [List.getElem?_eq_none h] at ha; cases ha
      omega
    have hxl : x.length ≤ 400 := mail_len hP (by omega)
    have hql := quoted_len hP (by omega)
    k_steps
    unfold Hold
    refine' Spec.use (quote_spec x _ hxl _) ?BQ ?FQ ?XQ ?NQ ?TQ ?kQ ?ddQ ?uuQ ?_
    case BQ => k_asm
    case FQ => k_asm
    case XQ => k_asm
    case NQ => k_asm
    case TQ => k_asm
    case kQ => exact rfl
    case ddQ => ktr_room
    case uuQ => ktr_units
    intro tq hq tkq htq FQ NQ
    have hcase : a = 0 ∨ a = 1 ∨ a = 2 ∨ a = 3 ∨ a = 4 ∨ a = 5 := by omega
    rcases hcase with rfl | rfl | rfl | rfl | rfl | rfl
    all_goals k_steps
    all_goals (refine' lendC (_, _) ?F ?N ?hn hoff ?hk ?hr ?_; (case F => k_asm); (case N => k_asm); (case hn => kst_in); (case hk => kst_all); (case hr => ksw_same))
    · exact mail_even hP hbi
    · exact mail_odd hP hbi (odd_is (l1 := [10]) (l2 := [13, 10]) (by decide +kernel) (by decide +kernel)) (by decide) (by decide)
    · exact mail_even hP hbi
    · exact mail_odd hP hbi (odd_is (l1 := [13]) (l2 := [10]) (by decide +kernel) (by decide +kernel)) (by decide) (by decide)
    · exact mail_even hP hbi
    · exact mail_odd hP hbi (odd_is (l1 := [13, 10]) (l2 := [13]) (by decide +kernel) (by decide +kernel)) (by decide) (by decide)
  case done =>
    rintro ⟨x, tx⟩ u h tk hP F₁ N₁
    dsimp only [kstB] at F₁ hP
    have hvl : hvs.length = (hs.map fun h => h.fmod 2 == 1).length := by have := hH'; rw [List.length_map]; exact this
    rw [hvl] at hP
    have hxl : x.length ≤ 400 := mail_len hP (by rw [List.length_map]; exact h7)
    have hfl : (⟨(fixL x.cps.toList).toArray⟩ : PySem.Str).length ≤ 200 := by
      rw [str_len]
      show (fixL x.cps.toList).toArray.toList.length ≤ 200
      rw [List.toList_toArray, mail_end hP]
      have := mail_small (bs := hs.map fun h => h.fmod 2 == 1) (Nat.le_refl _) (by rw [List.length_map]; exact h7)
      rw [List.take_length] at this
      omega
    have hrl : (repS ⟨(fixL x.cps.toList).toArray⟩ (PySem.Str.ofString ">.\x0d\n") (PySem.Str.ofString "")).length ≤ 200 := by
      have := repS_le ⟨(fixL x.cps.toList).toArray⟩ (PySem.Str.ofString ">.\x0d\n") (PySem.Str.ofString "")
      have e : (PySem.Str.ofString "").length = 0 := by decide +kernel
      rw [e] at this
      omega
    k_steps
    unfold Hold
    refine' Spec.use (fix_spec x _ hxl _) ?BR ?FR ?XR ?NR ?TR ?kR ?ddR ?uuR ?_
    case BR => k_asm
    case FR => k_asm
    case XR => k_asm
    case NR => k_asm
    case TR => k_asm
    case kR => exact rfl
    case ddR => ktr_room
    case uuR => ktr_units
    intro tq hq tkq htq FQ NQ
    k_steps
    rw [mail_is hP]
    exact hret _ _ _ (by assumption) (by assumption) (cb_drop (by assumption) (by kcj_all))
end Mine
end
section
open PySem PySem.W PyProof.Rows PySem.Spec PySem.Calls
set_option maxRecDepth 100000
namespace Mine
theorem adjust_to (b n : Nat) (hb : b ≤ n) : Builtin.Slice.sliceAdjust none (some (b : Int)) 1 (n : Int) = (0, (b : Int)) := by
  unfold Builtin.Slice.sliceAdjust
  have h1 : ¬ ((1 : Int) < 0) := by omega
  have h2 : ¬ ((b : Int) < 0) := by omega
  simp only [h1, h2, if_false]
  congr 1
  all_goals (try split)
  all_goals (try omega)
theorem places_to (b : Nat) : Builtin.Slice.slicePlaces 0 (b : Int) 1 = b := by
  unfold Builtin.Slice.slicePlaces
  have h1 : (1 : Int) > 0 := by omega
  simp only [h1, if_true, Int.ediv_one]
  split <;> omega
section
variable {prog : Program} {w : World} {A : Around} {E : Value → Shared → Prop} {s : Shared}
theorem sliceApplied_to {sl : Addr} {b n : Nat} {u : Tok} {Q : Int × Int × Nat → Shared → Prop} (hs : s.heap.IsSliceOf sl .none (.int b u) .none) (hb : b ≤ n) (h : Q (0, 1, b) s) :
    wpAny (model prog w) A (Builtin.Slice.sliceApplied (.ref sl) (pure (n : Int))) Q E s := by
  obtain ⟨os, hos, hcs, hds⟩ := id hs
  unfold Builtin.Slice.sliceApplied Builtin.Slice.sliceFields
  refine wpAny_bind (wpAny_bind (wpAny_field hos hds (x := .none) rfl (wpAny_bind (wpAny_field hos hds (x := .int b u) rfl (wpAny_bind (wpAny_field hos hds (x := .none) rfl (wpAny_pure ?_)))))))
  refine wpAny_bind (slicePart_none ?_)
  show wpAny _ _ (if ((1 : Int) == 0) = true then _ else _) _ _ s
  rw [if_neg (by decide)]
  refine wpAny_bind (slicePart_none (wpAny_bind (slicePart_int (wpAny_bind (wpAny_pure ?_)))))
  show wpAny _ _ (match Builtin.Slice.sliceAdjust none (some (b : Int)) 1 (n : Int) with | (lo, hi) => pure (lo, (1 : Int), Builtin.Slice.slicePlaces lo hi 1)) _ _ s
  rw [adjust_to b n hb]
  show wpAny _ _ (pure ((0 : Int), (1 : Int), Builtin.Slice.slicePlaces 0 (b : Int) 1)) _ _ s
  rw [places_to b]
  exact wpAny_pure h
theorem pick_to (xs : Array Value) (b : Nat) (hb : b ≤ xs.size) : ((List.range b).filterMap fun (k : Nat) => xs[((0 : Int) + (k : Int) * 1).toNat]?).toArray = (xs.toList.take b).toArray := by
  have e : (fun (k : Nat) => xs[((0 : Int) + (k : Int) * 1).toNat]?) = fun k => xs[0 + k]? := by
    funext k
    have : ((0 : Int) + (k : Int) * 1).toNat = 0 + k := by omega
    rw [this]
  rw [e]
  have := pick_run xs 0 b
  rw [List.filterMap_map] at this
  have e2 : ((fun x => xs[x]?) ∘ fun x => 0 + x) = fun k => xs[0 + k]? := rfl
  rw [e2] at this
  rw [this, List.drop_zero]
theorem getItem_tuple_to {t sl : Addr} {items : Array Value} {b : Nat} {u : Tok} {Q : Value → Shared → Prop} (ht : IsTup s.heap t items) (hs : s.heap.IsSliceOf sl .none (.int b u) .none) (hb : b < items.size)
    (h : Q (.ref s.heap.objs.size) { s with heap := s.heap.push { cls := .type "tuple", data := .seq (items.toList.take b).toArray } })
    (hsz : items.size ≤ sizeLine) : wpAny (model prog w) A (getItem (.ref t) (.ref sl)) Q E s := by
  have hdrop : sizeOk (.seq (items.toList.take b).toArray) := by
    show (items.toList.take b).toArray.size ≤ sizeLine
    rw [List.size_toArray, List.length_take, Array.length_toList]
    omega
  obtain ⟨os, hos, hcs, hds⟩ := id hs
  have hTs : s.TypeIs (.ref sl) "slice" := ⟨os, hos, hcs⟩
  unfold getItem
  try with_reducible refine wpAny_holding ?_
  first | refine wpAny_bind (wpAny_pure ?_) | skip
  refine wpAny_bind (wpAny_sequenceKey ht.typeIs (by decide) ?_)
  refine wpAny_bind (wpAny_callSpecial?_slot (name := Str.ofString "__getitem__") ht.typeIs slot_tuple_getitem
    (wpAny_call_entry slot_tuple_getitem ht.typeIs entry_tuple_getitem ?_ (args_tuple_getitem _ _)))
  show wpAny _ _ (Builtin.Tuple.tupleItemsOf (.ref t) >>= _) _ _ s
  refine wpAny_bind (tupleItemsOf_ ht ?_)
  refine wpAny_bind (wpAny_typeOf hTs ?_)
  rw [if_pos (by decide)]
  refine wpAny_bind (sliceApplied_to hs (Nat.le_of_lt hb) ?_)
  have hno : ¬ (((0 : Int) == 0 && (1 : Int) == 1 && b == items.size) = true) := by
    have : (b == items.size) = false := by rw [beq_eq_false_iff_ne]; omega
    rw [this]; simp
  show wpAny _ _ (if ((0 : Int) == 0 && (1 : Int) == 1 && b == items.size) = true then _ else _) _ _ s
  rw [if_neg hno, pick_to items b (Nat.le_of_lt hb)]
  first
    | exact wpAny_bind (m := Builtin.Tuple.tupleExact _) (wpAny_newObj_type (wpAny_pure ⟨_, rfl, wpAny_pure h⟩) hdrop)
    | exact wpAny_bind (m := Builtin.Tuple.tupleExact _) (wpAny_newObj_type (wpAny_bind (wpAny_pure (wpAny_pure ⟨_, rfl, wpAny_pure h⟩))) hdrop)
    | exact wpAny_bind (wpAny_bind (m := Builtin.Tuple.tupleExact _) (wpAny_newObj_type (wpAny_pure (wpAny_pure ⟨_, rfl, wpAny_pure h⟩)) hdrop))
    | exact wpAny_bind (wpAny_bind (m := Builtin.Tuple.tupleExact _) (wpAny_newObj_type (wpAny_pure ⟨_, rfl, wpAny_pure h⟩) hdrop))
end
section
variable {prog : Program} {w : World} {A : Around} {E : Value → Shared → Prop} {s : Shared} {h₀ : Heap} {L : Addr} {m : PySem.Str → Option Value} {news : List (Addr × Obj)}
/-- a tuple's first two of three items -/
theorem slice_tuple_two {value slice : PySem.Expr} {t : Addr} {o : Obj} {a b c : Value} {k : Nat} {u : Tok} {Q : Value → Shared → Prop}
    (F : Fr h₀ L s.heap m) (N : News h₀ L s.heap news) (hm : (t, o) ∈ news) (hc : o.cls = .type "tuple") (hd : o.data = .seq #[a, b, c] k)
    (h : ∀ D h', Fr h₀ L h' m → News h₀ L h' ((D, { cls := .type "tuple", data := .seq #[a, b] }) :: news) → (∀ p ∈ news, p.1 < D) → Q (.ref D) { s with heap := h' })
    (hs : subscripted slice false (.ref t) (.ref s.heap.objs.size) = operate [.ref s.heap.objs.size, .ref t] (getItem (.ref t) (.ref s.heap.objs.size)))
    (hg : ∀ r, letTemporaryGo value (.ref t) r = pure ()) :
    wpAny (model prog w) A (subscriptTail value slice (.ref t) (.ref s.heap.objs.size)) Q E { s with heap := s.heap.push { cls := .type "slice", data := .fields #[.none, .int 2 u, .none] } } := by
  have ht : IsTup s.heap t #[a, b, c] := ⟨o, (N _ hm).1, hc, k, hd⟩
  have ht' : IsTup (s.heap.push { cls := .type "slice", data := .fields #[.none, .int 2 u, .none] }) t #[a, b, c] := ht.keeps fun _ _ e => Heap.get?_push_of_some _ e
  refine subscriptTail_ops (s := { s with heap := s.heap.push { cls := .type "slice", data := .fields #[.none, .int 2 u, .none] } }) ht'.typeIs slot_tuple_getitem.lookup
    (getItem_tuple_to (b := 2) ht' (Heap.IsSliceOf.new ..) (by decide : 2 < 3) ?_ (show 3 ≤ sizeLine by rw [sizeLine_eq]; omega)) hs hg
  have N1 := News.push (F.push { cls := .type "slice", data := .fields #[.none, .int 2 u, .none] }) (N.grown fun _ _ e => Heap.get?_push_of_some _ e) { cls := .type "tuple", data := .seq #[a, b] }
  exact h _ _ ((F.push _).push _) N1 fun p hp => Nat.lt_of_lt_of_le (Heap.lt_size (N p hp).1) (by rw [Heap.size_push]; exact Nat.le_succ _)
end
end Mine
end
section
open PySem PySem.W PyProof.Rows
set_option maxRecDepth 100000
set_option maxHeartbeats 1000000
namespace Mine
noncomputable def partsS (xs : List PySem.Str) : List PySem.Str := xs.flatMap fun x => [⟨(partE x.cps.toList).toArray⟩, ⟨(partO x.cps.toList).toArray⟩]
noncomputable def levS (xs : List PySem.Str) : Nat → List PySem.Str
  | 0 => xs
  | j + 1 => partsS (levS xs j)
noncomputable def coreS (xs : List PySem.Str) : Int := (xs.map fun x => partN x.cps.toList).sum
noncomputable def coresS (xs : List PySem.Str) (n : Nat) : List Int := (List.range n).map fun j => coreS (levS xs j)
noncomputable def levL (ls : List (List Nat)) : Nat → List (List Nat)
  | 0 => ls
  | j + 1 => partsL (levL ls j)
theorem partsS_codes (xs : List PySem.Str) : (partsS xs).map (fun x => x.cps.toList) = partsL (xs.map fun x => x.cps.toList) := by
  unfold partsS partsL
  rw [List.map_flatMap, List.flatMap_map]
  simp
theorem levS_codes (xs : List PySem.Str) : ∀ j, (levS xs j).map (fun x => x.cps.toList) = levL (xs.map fun x => x.cps.toList) j
  | 0 => rfl
  | j + 1 => by
    show (partsS (levS xs j)).map _ = partsL (levL _ j)
    rw [partsS_codes, levS_codes xs j]
theorem coreS_codes (xs : List PySem.Str) : coreS xs = coreL (xs.map fun x => x.cps.toList) := by
  unfold coreS coreL
  rw [List.map_map]; rfl
theorem coresS_codes (xs : List PySem.Str) (n : Nat) : coresS xs n = (List.range n).map fun j => coreL (levL (xs.map fun x => x.cps.toList) j) := by
  unfold coresS
  apply List.map_congr_left
  intro j _
  rw [coreS_codes, levS_codes]
theorem coresS_snoc {xs : List PySem.Str} {vs : List Value} {i : Nat} {v : Int} {t : Tok} (h : IntsAre vs (coresS xs i)) (hv : v = coreS (levS xs i)) : IntsAre (vs ++ [.int v t]) (coresS xs (i + 1)) := by
  unfold coresS at *
  rw [List.range_succ, List.map_append]
  subst hv
  exact h.append (.cons _ _ .nil)
/-- the texts parted so far: refs to their tuples -/
noncomputable def PartsIn (tups : List (Addr × Obj)) : List Value → List PySem.Str → Prop
  | [], [] => True
  | v :: vs, x :: xs => (∃ q t1 t2 t3, v = .ref q ∧ (q, tup3 ⟨(partE x.cps.toList).toArray⟩ ⟨(partO x.cps.toList).toArray⟩ (partN x.cps.toList) t1 t2 t3) ∈ tups) ∧ PartsIn tups vs xs
  | _, _ => False
theorem PartsIn.mono {a b : List (Addr × Obj)} (h : ∀ p ∈ a, p ∈ b) : ∀ {vs : List Value} {xs : List PySem.Str}, PartsIn a vs xs → PartsIn b vs xs
  | [], [], _ => trivial
  | v :: vs, x :: xs, ⟨⟨q, t1, t2, t3, e, hm⟩, r⟩ => ⟨⟨q, t1, t2, t3, e, h _ hm⟩, PartsIn.mono h r⟩
  | [], _ :: _, h => h.elim
  | _ :: _, [], h => h.elim
theorem PartsIn.snoc {tups : List (Addr × Obj)} {q : Addr} {x : PySem.Str} {t1 t2 t3 : Tok} (hm : (q, tup3 ⟨(partE x.cps.toList).toArray⟩ ⟨(partO x.cps.toList).toArray⟩ (partN x.cps.toList) t1 t2 t3) ∈ tups) : ∀ {vs : List Value} {xs : List PySem.Str}, PartsIn tups vs xs → PartsIn tups (vs ++ [.ref q]) (xs ++ [x])
  | [], [], _ => ⟨⟨q, t1, t2, t3, rfl, hm⟩, trivial⟩
  | v :: vs, y :: xs, ⟨e, r⟩ => ⟨e, PartsIn.snoc hm r⟩
  | [], _ :: _, h => h.elim
  | _ :: _, [], h => h.elim
theorem PartsIn.at {tups : List (Addr × Obj)} : ∀ {vs : List Value} {xs : List PySem.Str} {i : Nat} {v : Value}, PartsIn tups vs xs → vs[i]? = some v → ∃ x q t1 t2 t3, v = .ref q ∧ xs[i]? = some x ∧ (q, tup3 ⟨(partE x.cps.toList).toArray⟩ ⟨(partO x.cps.toList).toArray⟩ (partN x.cps.toList) t1 t2 t3) ∈ tups
  | v :: vs, x :: xs, 0, w, ⟨⟨q, t1, t2, t3, e, hm⟩, _⟩, h => by cases h; exact ⟨x, q, t1, t2, t3, e, rfl, hm⟩
  | v :: vs, x :: xs, i + 1, w, ⟨_, r⟩, h => by obtain ⟨x', q, t1, t2, t3, e, e', hm⟩ := PartsIn.at (i := i) r (by simpa using h); exact ⟨x', q, t1, t2, t3, e, by simpa using e', hm⟩
  | [], [], _, _, _, h => by simp at h
  | [], _ :: _, _, _, h, _ => h.elim
  | _ :: _, [], _, _, h, _ => h.elim
theorem PartsIn.len {tups : List (Addr × Obj)} : ∀ {vs : List Value} {xs : List PySem.Str}, PartsIn tups vs xs → vs.length = xs.length
  | [], [], _ => rfl
  | v :: vs, x :: xs, ⟨_, r⟩ => by rw [List.length_cons, List.length_cons, PartsIn.len r]
  | [], _ :: _, h => h.elim
  | _ :: _, [], h => h.elim
theorem ints_snocF {f : PySem.Str → Int} {ys : List Value} {xs : List PySem.Str} {i : Nat} {x : PySem.Str} {t : Tok} (h : IntsAre ys ((xs.take i).map f)) (hx : xs[i]? = some x) : IntsAre (ys ++ [.int (f x) t]) ((xs.take (i + 1)).map f) := by
  rw [List.take_add_one, hx, List.map_append]
  exact h.append (.cons _ _ .nil)
theorem take_snoc {xs : List PySem.Str} {i : Nat} {x : PySem.Str} (hx : xs[i]? = some x) : xs.take (i + 1) = xs.take i ++ [x] := by rw [List.take_add_one, hx]; rfl
theorem partsS_snoc (xs : List PySem.Str) (x : PySem.Str) : partsS (xs ++ [x]) = partsS xs ++ [⟨(partE x.cps.toList).toArray⟩, ⟨(partO x.cps.toList).toArray⟩] := by
  unfold partsS; rw [List.flatMap_append]; simp
theorem partsS_len (xs : List PySem.Str) : (partsS xs).length = 2 * xs.length := by
  induction xs with
  | nil => rfl
  | cons x xs ih =>
    have e : partsS (x :: xs) = ⟨(partE x.cps.toList).toArray⟩ :: ⟨(partO x.cps.toList).toArray⟩ :: partsS xs := by simp [partsS]
    rw [e, List.length_cons, List.length_cons, ih, List.length_cons]; omega
theorem strs_snoc {ws : List Value} {as : List PySem.Str} (h : StrsAre ws as) (x : PySem.Str) (t : Tok) : StrsAre (ws ++ [.str x t]) (as ++ [x]) := strs_append h (.cons _ _ .nil)
section
variable {prog : Program} {w : World} {A : Around} {E : Value → Shared → Prop} {s : Shared} {h₀ : Heap} {L : Addr} {m : PySem.Str → Option Value} {env : Env}
  {elt : PySem.Expr} {x : PySem.Str} {scope : Scope} {cl : List (PySem.Str × Addr)}
/-- a comprehension over a list in the ledger, whose turns make things that are kept -/
theorem src_listK {ax : Addr} {vs : List Value} {k : Nat} {news : List (Addr × Obj)} {s₁ : Shared} {FinQ : Shared → List Value → List (Addr × Obj) → Prop} (good : Nat → List Value → List (Addr × Obj) → Prop)
    (F : Fr h₀ L s₁.heap m) (N : News h₀ L s₁.heap news) (hm : (ax, listOf vs.toArray k) ∈ news) (hsz : vs.length ≤ 1000) (hg : good 0 [] []) (hh : A.handled = none)
    (turn : ∀ i ys own, i < vs.length → good i ys own → ∀ v I oI C oC D m₂ h tk (E' : Value → Shared → Prop), vs[i]? = some v → LCg.NsObj oC m₂ → m₂ x = some v → Fr h₀ L h m → News h₀ L h ((I, oI) :: (C, oC) :: (D, LCg.lst ys) :: (news ++ own)) → LCg.Off3 I C D (news ++ own) → ((@Ne Nat I C) ∧ (@Ne Nat I D) ∧ (@Ne Nat C D)) →
      wpAny (model prog w) A (eval elt (compEnvC scope cl C env)) (LCg.CompEnd h₀ L m { s₁ with heap := h, toks := tk } I oI C oC D (LCg.lst ys) (fun _ => True) (fun y nw' => ∃ own', nw' = news ++ own' ∧ good (i + 1) (ys ++ [y]) own')) E' { s₁ with heap := h, toks := tk })
    (fin : ∀ g ys own, good vs.length ys own → FinQ { s₁ with heap := g } ys (news ++ own)) : LCg.CompSrc prog w A h₀ L m env elt x scope cl FinQ (.ref ax) s₁ := by
  refine LCg.CompSrc.ledger hh F N hm (by rw [sizeLine_eq, List.size_toArray]; omega) fun g => ?_
  rw [List.size_toArray]
  refine rest_inv (n := vs.length) (fun i ys nw => ∃ own, nw = news ++ own ∧ good i ys own) ?_ ?_ vs.length 0 [] news (by omega) ⟨[], by rw [List.append_nil], hg⟩
  · rintro i ys nw hi ⟨own, rfl, hgd⟩ v I oI C oC D m₂ h tk E' hv hC hx F' N' off hne
    refine wpAny_mono (turn i ys own hi hgd v I oI C oC D m₂ h tk E' (by simpa using hv) hC hx F' N' off hne) (fun y s' q => ?_) fun _ _ e => e
    obtain ⟨h₂, tk₂, nw', e, F₂, N₂, off₂, _, own', rfl, hgd'⟩ := q
    exact ⟨h₂, tk₂, _, e, F₂, N₂, off₂, .inr ⟨_, List.mem_append_left _ hm, rfl, _, rfl⟩, own', rfl, hgd'⟩
  · rintro ys nw ⟨own, rfl, hgd⟩
    exact fin g ys own hgd
theorem off1_ne {D : Addr} {l : List (Addr × Obj)} : LCg.Off1 D l → ∀ p ∈ l, p.1 ≠ D := by
  induction l with
  | nil => intro _ p hp; cases hp
  | cons q l ih =>
    intro h p hp
    rcases List.mem_cons.mp hp with rfl | hp
    · exact h.1
    · exact ih h.2 p hp
theorem mem_move {a b c q : Addr × Obj} {l o : List (Addr × Obj)} : ∀ p ∈ a :: b :: c :: (l ++ q :: o), p ∈ q :: a :: b :: c :: (l ++ o) := by
  intro p hp
  simp only [List.mem_cons, List.mem_append] at hp ⊢
  rcases hp with h | h | h | h | h | h
  · exact .inr (.inl h)
  · exact .inr (.inr (.inl h))
  · exact .inr (.inr (.inr (.inl h)))
  · exact .inr (.inr (.inr (.inr (.inl h))))
  · exact .inl h
  · exact .inr (.inr (.inr (.inr (.inr h))))
theorem offK {I C D q : Addr} {oI oC oD ob : Obj} {l o : List (Addr × Obj)} (off : LCg.Off3 I C D (l ++ o)) (hlt : AllLt q ((I, oI) :: (C, oC) :: (D, oD) :: (l ++ o))) : LCg.Off3 I C D (l ++ (q, ob) :: o) := by
  refine LCg.Off3.of fun p hp => ?_
  rcases List.mem_append.mp hp with hp | hp
  · exact off.mem p (List.mem_append_left _ hp)
  rcases List.mem_cons.mp hp with rfl | hp
  · exact ⟨Nat.ne_of_gt hlt.1, Nat.ne_of_gt hlt.2.1, Nat.ne_of_gt hlt.2.2.1⟩
  · exact off.mem p (List.mem_append_right _ hp)
theorem mem_front {a b c q : Addr × Obj} {l : List (Addr × Obj)} (h : q ∈ l) : ∀ p ∈ q :: a :: b :: c :: l, p ∈ a :: b :: c :: l := by
  intro p hp
  rcases List.mem_cons.mp hp with rfl | hp
  · exact .tail _ (.tail _ (.tail _ h))
  · exact hp
theorem mem_move2 {a b c q z : Addr × Obj} {l o : List (Addr × Obj)} : ∀ p ∈ a :: b :: c :: (l ++ q :: o), p ∈ q :: z :: a :: b :: c :: (l ++ o) := by
  intro p hp
  rcases List.mem_cons.mp (mem_move p hp) with h | h
  · exact List.mem_cons.mpr (.inl h)
  · exact .tail _ (.tail _ h)
end
end Mine
end
section
open PySem PySem.W PyProof.Rows
set_option Elab.async false
set_option pp.deepTerms false
set_option pp.deepTerms.threshold 12
namespace Mine
variable {w : World} {mg mb : PySem.Str → Option Value} {mean : ExcName → Option Value}
set_option maxRecDepth 100000 in
set_option maxHeartbeats 1600000 in
theorem cores_spec (ml : Addr) (mvs : List Value) (mk : Nat) (xs : List PySem.Str) (hM : StrsAre mvs xs) (hsm : ∀ j, j ≤ 3 → (levS xs j).length ≤ 100 ∧ (j < 3 → ∀ x ∈ levS xs j, x.length ≤ 90)) (news) (hmem : (ml, listOf mvs.toArray mk) ∈ news) :
    SpecP PySem.Challenge.rw_sn0027_01.row.prog w (Mine.hd.heap_39 w.params) Mine.hd.view_39 loose mean mg mb 196 6 news [.ref ml] (fun o => ∃ vs k, o = listOf vs.toArray k ∧ IntsAre vs (coresS xs 3)) := by
  k_fill
  k_with_none
  k_with "k_ne" => (first | assumption | exact Ne.symm (by assumption) | exact And.left (by assumption) | exact Ne.symm (And.left (by assumption)) | exact And.left (And.right (by assumption)) | exact Ne.symm (And.left (And.right (by assumption))) | exact And.right (by assumption) | exact Ne.symm (And.right (by assumption)) | exact And.left (And.right (And.right (by assumption))) | exact Ne.symm (And.left (And.right (And.right (by assumption)))) | exact And.right (And.right (by assumption)) | exact Ne.symm (And.right (And.right (by assumption))) | exact And.left (And.right (And.right (And.right (by assumption)))) | exact Ne.symm (And.left (And.right (And.right (And.right (by assumption))))) | exact And.right (And.right (And.right (by assumption))) | exact Ne.symm (And.right (And.right (And.right (by assumption)))) | exact And.left (And.right (And.right (And.right (And.right (by assumption))))) | exact Ne.symm (And.left (And.right (And.right (And.right (And.right (by assumption)))))) | exact And.right (And.right (And.right (And.right (by assumption)))) | exact Ne.symm (And.right (And.right (And.right (And.right (by assumption))))) | exact And.left (And.right (And.right (And.right (And.right (And.right (by assumption)))))) | exact Ne.symm (And.left (And.right (And.right (And.right (And.right (And.right (by assumption))))))) | exact And.right (And.right (And.right (And.right (And.right (by assumption))))) | exact Ne.symm (And.right (And.right (And.right (And.right (And.right (by assumption)))))) | exact And.left (And.right (And.right (And.right (And.right (And.right (And.right (by assumption))))))) | exact Ne.symm (And.left (And.right (And.right (And.right (And.right (And.right (And.right (by assumption)))))))) | exact And.right (And.right (And.right (And.right (And.right (And.right (by assumption)))))) | exact Ne.symm (And.right (And.right (And.right (And.right (And.right (And.right (by assumption))))))) | exact And.left (And.right (And.right (And.right (And.right (And.right (And.right (And.right (by assumption)))))))) | exact Ne.symm (And.left (And.right (And.right (And.right (And.right (And.right (And.right (And.right (by assumption))))))))) | exact And.right (And.right (And.right (And.right (And.right (And.right (And.right (by assumption))))))) | exact Ne.symm (And.right (And.right (And.right (And.right (And.right (And.right (And.right (by assumption)))))))) | exact And.left (And.right (And.right (And.right (And.right (And.right (And.right (And.right (And.right (by assumption))))))))) | exact Ne.symm (And.left (And.right (And.right (And.right (And.right (And.right (And.right (And.right (And.right (by assumption)))))))))) | exact And.right (And.right (And.right (And.right (And.right (And.right (And.right (And.right (by assumption)))))))) | exact Ne.symm (And.right (And.right (And.right (And.right (And.right (And.right (And.right (And.right (by assumption))))))))) | exact And.left (And.right (And.right (And.right (And.right (And.right (And.right (And.right (And.right (And.right (by assumption)))))))))) | exact Ne.symm (And.left (And.right (And.right (And.right (And.right (And.right (And.right (And.right (And.right (And.right (by assumption))))))))))) | exact And.right (And.right (And.right (And.right (And.right (And.right (And.right (And.right (And.right (by assumption))))))))) | exact Ne.symm (And.right (And.right (And.right (And.right (And.right (And.right (And.right (And.right (And.right (by assumption)))))))))) | exact And.left (And.right (And.right (And.right (And.right (And.right (And.right (And.right (And.right (And.right (And.right (by assumption))))))))))) | exact Ne.symm (And.left (And.right (And.right (And.right (And.right (And.right (And.right (And.right (And.right (And.right (And.right (by assumption)))))))))))) | exact And.right (And.right (And.right (And.right (And.right (And.right (And.right (And.right (And.right (And.right (by assumption)))))))))) | exact Ne.symm (And.right (And.right (And.right (And.right (And.right (And.right (And.right (And.right (And.right (And.right (by assumption))))))))))) | exact And.left (And.right (And.right (And.right (And.right (And.right (And.right (And.right (And.right (And.right (And.right (And.right (by assumption)))))))))))) | exact Ne.symm (And.left (And.right (And.right (And.right (And.right (And.right (And.right (And.right (And.right (And.right (And.right (And.right (by assumption))))))))))))) | exact And.right (And.right (And.right (And.right (And.right (And.right (And.right (And.right (And.right (And.right (And.right (by assumption))))))))))) | exact Ne.symm (And.right (And.right (And.right (And.right (And.right (And.right (And.right (And.right (And.right (And.right (And.right (by assumption)))))))))))) | exact And.left (And.right (And.right (And.right (And.right (And.right (And.right (And.right (And.right (And.right (And.right (And.right (And.right (by assumption))))))))))))) | exact Ne.symm (And.left (And.right (And.right (And.right (And.right (And.right (And.right (And.right (And.right (And.right (And.right (And.right (And.right (by assumption)))))))))))))) | exact And.right (And.right (And.right (And.right (And.right (And.right (And.right (And.right (And.right (And.right (And.right (And.right (by assumption)))))))))))) | exact Ne.symm (And.right (And.right (And.right (And.right (And.right (And.right (And.right (And.right (And.right (And.right (And.right (And.right (by assumption))))))))))))))
  k_with "k_all" => (first | assumption | exact allLt_ne (by assumption) | exact allLt_ne (And.right (by assumption)) | exact allLt_ne (And.right (And.right (by assumption))) | exact allLt_ne (And.right (And.right (And.right (by assumption)))) | exact allLt_ne (And.right (And.right (And.right (And.right (by assumption))))) | exact allLt_ne (And.right (And.right (And.right (And.right (And.right (by assumption)))))) | exact allLt_ne (And.right (And.right (And.right (And.right (And.right (And.right (by assumption))))))) | exact allLt_ne (And.right (And.right (And.right (And.right (And.right (And.right (And.right (by assumption)))))))))
  k_with "execs cons" => (k_here; refine wpAny_execs_cons ?_; refine wpAny_toksQ 1 (by first | exact Nat.le_add_left _ _ | assumption) ?_; (try dsimp only))
  k_with "call builtin:list.append" => (k_here; (with_reducible show wpAny _ _ (call (Value.builtin _) [Value.ref _, _]) _ _ _); k_dflt (refine' append_K (by k_asm) (by k_asm) (by k_upd) ?_ (by assumption); k_whole); intro _ _ _)
  k_with "call ref" => (k_here; refine Hold.mk ?_)
  k_with "pyIter ref" => (k_here; (with_reducible show wpAny _ _ (pyIter (Value.ref _)) (fun it s₂ => LoopAtV _ _ _ _ _ _ _ _ _ it s₂) _ _); refine Hold.mk ?_)
  k_with "eval ListComp" => (k_here; (with_reducible show wpAny _ _ (eval (PySem.Expr.ListComp _ [_] _ _) _) _ _ _); k_dflt (refine LCg.ListComp_U (F₀ := by k_asm) (by rfl) (by decide) (by rfl) (by decide) (by rfl) ?_); k_dflt lcg_toSrc)
  k_with "eval ListComp" => (k_here; (with_reducible show wpAny _ _ (eval (PySem.Expr.ListComp _ [_, _] _ _) _) _ _ _); k_dflt (refine' ListComp_two (by exact rfl) (by exact rfl) (by decide) (by intro _; rfl) ?_; k_whole))
  k_with "exec Assign cons ListComp" => (k_here; (with_reducible show wpAny _ _ (exec (PySem.Stmt.Assign [_] (PySem.Expr.ListComp _ [_, _] _ _) _) _) _ _ _); k_dflt (refine' Assign_ListComp_two (by with_unfolding_all rfl) (by exact rfl) (by exact rfl) (by decide) (by intro _; rfl) ?_; k_whole))
  k_with "subscriptTail Name Slice ref ref" => (k_here; (with_reducible show wpAny _ _ (subscriptTail _ (PySem.Expr.Slice none (some _) none _) (Value.ref _) (Value.ref _)) _ _ _); k_dflt (refine' slice_tuple_two (by k_asm) (by k_asm) (by k_mem) (by rfl) (by rfl) ?_ (by with_unfolding_all rfl) (by kmk_pure); k_whole); intro _ _ _ _ zl; (try k_lt zl))
  k_with "CompSrc" => (refine Hold.mk ?_)
  unfold SpecP
  intro dp un gd cn cs a ccd cl outer A₀ base h₀ L m s Q E B F X N₀ T hkf hd hu hret
  have N : News h₀ L s.heap ((ml, listOf mvs.toArray mk) :: news) := fun p hp => (List.mem_cons.mp hp).elim (fun e => e ▸ N₀ _ hmem) (N₀ p)
  clear N₀
  refine wpAny_call ?_
  k_dflt cell_enter
  refine wpAny_toksQ 1 (Nat.le_add_left _ _) ?_
  k_fold
  k_with_none
  k_with "k_ne" => (first | assumption | exact Ne.symm (by assumption) | exact And.left (by assumption) | exact Ne.symm (And.left (by assumption)) | exact And.left (And.right (by assumption)) | exact Ne.symm (And.left (And.right (by assumption))) | exact And.right (by assumption) | exact Ne.symm (And.right (by assumption)) | exact And.left (And.right (And.right (by assumption))) | exact Ne.symm (And.left (And.right (And.right (by assumption)))) | exact And.right (And.right (by assumption)) | exact Ne.symm (And.right (And.right (by assumption))) | exact And.left (And.right (And.right (And.right (by assumption)))) | exact Ne.symm (And.left (And.right (And.right (And.right (by assumption))))) | exact And.right (And.right (And.right (by assumption))) | exact Ne.symm (And.right (And.right (And.right (by assumption)))) | exact And.left (And.right (And.right (And.right (And.right (by assumption))))) | exact Ne.symm (And.left (And.right (And.right (And.right (And.right (by assumption)))))) | exact And.right (And.right (And.right (And.right (by assumption)))) | exact Ne.symm (And.right (And.right (And.right (And.right (by assumption))))) | exact And.left (And.right (And.right (And.right (And.right (And.right (by assumption)))))) | exact Ne.symm (And.left (And.right (And.right (And.right (And.right (And.right (by assumption))))))) | exact And.right (And.right (And.right (And.right (And.right (by assumption))))) | exact Ne.symm (And.right (And.right (And.right (And.right (And.right (by assumption)))))) | exact And.left (And.right (And.right (And.right (And.right (And.right (And.right (by assumption))))))) | exact Ne.symm (And.left (And.right (And.right (And.right (And.right (And.right (And.right (by assumption)))))))) | exact And.right (And.right (And.right (And.right (And.right (And.right (by assumption)))))) | exact Ne.symm (And.right (And.right (And.right (And.right (And.right (And.right (by assumption))))))) | exact And.left (And.right (And.right (And.right (And.right (And.right (And.right (And.right (by assumption)))))))) | exact Ne.symm (And.left (And.right (And.right (And.right (And.right (And.right (And.right (And.right (by assumption))))))))) | exact And.right (And.right (And.right (And.right (And.right (And.right (And.right (by assumption))))))) | exact Ne.symm (And.right (And.right (And.right (And.right (And.right (And.right (And.right (by assumption)))))))) | exact And.left (And.right (And.right (And.right (And.right (And.right (And.right (And.right (And.right (by assumption))))))))) | exact Ne.symm (And.left (And.right (And.right (And.right (And.right (And.right (And.right (And.right (And.right (by assumption)))))))))) | exact And.right (And.right (And.right (And.right (And.right (And.right (And.right (And.right (by assumption)))))))) | exact Ne.symm (And.right (And.right (And.right (And.right (And.right (And.right (And.right (And.right (by assumption))))))))) | exact And.left (And.right (And.right (And.right (And.right (And.right (And.right (And.right (And.right (And.right (by assumption)))))))))) | exact Ne.symm (And.left (And.right (And.right (And.right (And.right (And.right (And.right (And.right (And.right (And.right (by assumption))))))))))) | exact And.right (And.right (And.right (And.right (And.right (And.right (And.right (And.right (And.right (by assumption))))))))) | exact Ne.symm (And.right (And.right (And.right (And.right (And.right (And.right (And.right (And.right (And.right (by assumption)))))))))) | exact And.left (And.right (And.right (And.right (And.right (And.right (And.right (And.right (And.right (And.right (And.right (by assumption))))))))))) | exact Ne.symm (And.left (And.right (And.right (And.right (And.right (And.right (And.right (And.right (And.right (And.right (And.right (by assumption)))))))))))) | exact And.right (And.right (And.right (And.right (And.right (And.right (And.right (And.right (And.right (And.right (by assumption)))))))))) | exact Ne.symm (And.right (And.right (And.right (And.right (And.right (And.right (And.right (And.right (And.right (And.right (by assumption))))))))))) | exact And.left (And.right (And.right (And.right (And.right (And.right (And.right (And.right (And.right (And.right (And.right (And.right (by assumption)))))))))))) | exact Ne.symm (And.left (And.right (And.right (And.right (And.right (And.right (And.right (And.right (And.right (And.right (And.right (And.right (by assumption))))))))))))) | exact And.right (And.right (And.right (And.right (And.right (And.right (And.right (And.right (And.right (And.right (And.right (by assumption))))))))))) | exact Ne.symm (And.right (And.right (And.right (And.right (And.right (And.right (And.right (And.right (And.right (And.right (And.right (by assumption)))))))))))) | exact And.left (And.right (And.right (And.right (And.right (And.right (And.right (And.right (And.right (And.right (And.right (And.right (And.right (by assumption))))))))))))) | exact Ne.symm (And.left (And.right (And.right (And.right (And.right (And.right (And.right (And.right (And.right (And.right (And.right (And.right (And.right (by assumption)))))))))))))) | exact And.right (And.right (And.right (And.right (And.right (And.right (And.right (And.right (And.right (And.right (And.right (And.right (by assumption)))))))))))) | exact Ne.symm (And.right (And.right (And.right (And.right (And.right (And.right (And.right (And.right (And.right (And.right (And.right (And.right (by assumption))))))))))))))
  k_with "k_all" => (first | assumption | exact allLt_ne (by assumption) | exact allLt_ne (And.right (by assumption)) | exact allLt_ne (And.right (And.right (by assumption))) | exact allLt_ne (And.right (And.right (And.right (by assumption)))) | exact allLt_ne (And.right (And.right (And.right (And.right (by assumption))))) | exact allLt_ne (And.right (And.right (And.right (And.right (And.right (by assumption)))))) | exact allLt_ne (And.right (And.right (And.right (And.right (And.right (And.right (by assumption))))))) | exact allLt_ne (And.right (And.right (And.right (And.right (And.right (And.right (And.right (by assumption)))))))))
  k_with "execs cons" => (k_here; refine wpAny_execs_cons ?_; refine wpAny_toksQ 1 (by first | exact Nat.le_add_left _ _ | assumption) ?_; (try dsimp only))
  k_with "call builtin:list.append" => (k_here; (with_reducible show wpAny _ _ (call (Value.builtin _) [Value.ref _, _]) _ _ _); k_dflt (refine' append_K (by k_asm) (by k_asm) (by k_upd) ?_ (by assumption); k_whole); intro _ _ _)
  k_with "call ref" => (k_here; refine Hold.mk ?_)
  k_with "pyIter ref" => (k_here; (with_reducible show wpAny _ _ (pyIter (Value.ref _)) (fun it s₂ => LoopAtV _ _ _ _ _ _ _ _ _ it s₂) _ _); refine Hold.mk ?_)
  k_with "eval ListComp" => (k_here; (with_reducible show wpAny _ _ (eval (PySem.Expr.ListComp _ [_] _ _) _) _ _ _); k_dflt (refine LCg.ListComp_U (F₀ := by k_asm) (by rfl) (by decide) (by rfl) (by decide) (by rfl) ?_); k_dflt lcg_toSrc)
  k_with "eval ListComp" => (k_here; (with_reducible show wpAny _ _ (eval (PySem.Expr.ListComp _ [_, _] _ _) _) _ _ _); k_dflt (refine' ListComp_two (by exact rfl) (by exact rfl) (by decide) (by intro _; rfl) ?_; k_whole))
  k_with "exec Assign cons ListComp" => (k_here; (with_reducible show wpAny _ _ (exec (PySem.Stmt.Assign [_] (PySem.Expr.ListComp _ [_, _] _ _) _) _) _ _ _); k_dflt (refine' Assign_ListComp_two (by with_unfolding_all rfl) (by exact rfl) (by exact rfl) (by decide) (by intro _; rfl) ?_; k_whole))
  k_with "subscriptTail Name Slice ref ref" => (k_here; (with_reducible show wpAny _ _ (subscriptTail _ (PySem.Expr.Slice none (some _) none _) (Value.ref _) (Value.ref _)) _ _ _); k_dflt (refine' slice_tuple_two (by k_asm) (by k_asm) (by k_mem) (by rfl) (by rfl) ?_ (by with_unfolding_all rfl) (by kmk_pure); k_whole); intro _ _ _ _ zl; (try k_lt zl))
  k_with "CompSrc" => (refine Hold.mk ?_)
  have hMk : KstMark := kstMark
  k_steps
  unfold Hold
  refine name_of (by k_asm) (by k_mem : (_, listOf #[] 0) ∈ _) fun coA e => ?_
  subst e
  have hco : AllLt coA ((ml, listOf mvs.toArray mk) :: news) := by assumption
  have hnc : ∀ p ∈ news, p.1 ≠ coA := fun p hp => Nat.ne_of_lt (kst_ltOf hco p (.tail _ hp))
  refine' loop_range (σ := Addr × List Value × Nat × List Value × Nat) 3 (fun c => (coA, listOf c.2.2.2.1.toArray c.2.2.2.2) :: (c.1, listOf c.2.1.toArray c.2.2.1) :: news) (fun c => [(PySem.Str.ofString "mails", .ref c.1)]) [PySem.Str.ofString "depth", PySem.Str.ofString "parted"]
    (fun i c => StrsAre c.2.1 (levS xs i) ∧ IntsAre c.2.2.2.1 (coresS xs i) ∧ @Ne Nat c.1 coA) (ml, mvs, mk, [], 0) ?hr ?hs ?hn ?F ?N ?hk ?hp ?hh ?turn ?done
  case hr => assumption
  case hs => omega
  case hn => rfl
  case F => k_asm
  case N => exact cb_drop (by assumption) (by kcj_all)
  case hk => kst_all
  case hp => exact ⟨hM, .nil, Nat.ne_of_lt hco.1⟩
  case hh => rfl
  case turn =>
    rintro i t ⟨m2, vs, k, cvs, ck⟩ u h tk I own hi ⟨hS, hC, hmc⟩ hoff hown hIo F₁ N₁
    dsimp only [kstB] at F₁ hS hC hmc
    simp only [List.cons_append] at N₁
    have hlv := hsm i (by omega)
    have hvl : vs.length = (levS xs i).length := hS.length
    k_steps
    unfold Hold
    refine' src_listK (fun i2 ys own2 => PartsIn own2 ys ((levS xs i).take i2) ∧ ∀ p ∈ own2, coA < p.1) ?FA ?NA ?hmA ?hszA ?hgA ?hhA ?turnA ?finA
    case FA => k_asm
    case NA => k_asm
    case hmA => k_mem
    case hszA => omega
    case hgA => exact ⟨trivial, fun p hp => nomatch hp⟩
    case hhA => rfl
    case turnA =>
      rintro i2 ys own2 hi2 ⟨hg, hgt⟩ v J oJ C oC D m₂ h₃ tk₃ E' hv hC2 hx F₃ N₃ off hne
      obtain ⟨y, ty, rfl, hy⟩ := strs_at hS hv
      have hy90 := hlv.2 hi y (List.mem_of_getElem? hy)
      k_steps
      unfold Hold
      refine' SpecP.use (part_spec y ty hy90 _) ?BB ?FB ?XB ?NB ?TB ?kB ?ddB ?uuB ?_
      case BB => k_asm
      case FB => k_asm
      case XB => k_asm
      case NB => k_asm
      case TB => k_asm
      case kB => exact rfl
      case ddB => ktr_room
      case uuB => ktr_units
      rintro q o hq tq ⟨t1, t2, t3, rfl⟩ htq FQ NQ hlt
      refine LCg.CompEnd.intro FQ NQ _ mem_move (offK off hlt) trivial ⟨_, rfl, ?_, ?_⟩
      · rw [take_snoc hy]
        exact PartsIn.snoc (.head _) (hg.mono fun p hp => .tail _ hp)
      · intro p hp
        rcases List.mem_cons.mp hp with rfl | hp
        · exact kst_ltOf hlt (coA, _) (.tail _ (.tail _ (.tail _ (.head _))))
        · exact hgt p hp
    case finA =>
      rintro g ys own2 ⟨hg, hgt⟩
      rw [hvl, List.take_length] at hg
      unfold LCg.FinA
      intro D h₂ tk₂ F₂ N₂ off₂
      simp only [List.cons_append] at N₂
      have hoffD := off1_ne off₂
      have hcD : @Ne Nat coA D := hoffD _ (.head _)
      have hmD : @Ne Nat m2 D := hoffD _ (.tail _ (.head _))
      have hrest : ∀ p ∈ news ++ own ++ own2, p.1 ≠ coA := by
        intro p hp
        rcases List.mem_append.mp hp with hp | hp
        · rcases List.mem_append.mp hp with hp | hp
          · exact hnc p hp
          · rw [hown p hp]; exact fun e => hoff (coA, _) (.head _) (e ▸ .head _)
        · exact Nat.ne_of_gt (hgt p hp)
      have hyl := hg.len
      have hcz : cvs.toArray.size ≤ sizeLine := by
        have := hC.sizeZ
        unfold coresS at this
        rw [List.length_map, List.length_range] at this
        rw [sizeLine_eq]
        omega
      k_steps
      unfold Hold
      refine' src_list (fun i2 zs => IntsAre zs (((levS xs i).take i2).map fun x => partN x.cps.toList)) ?FC ?NC ?hmC ?hszC ?hgC ?hhC ?turnC ?finC
      case FC => k_asm
      case NC => k_asm
      case hmC => k_mem
      case hszC => omega
      case hgC => exact .nil
      case hhC => rfl
      case turnC =>
        intro i2 zs hi2 hz v J oJ C oC D2 m₂ h₃ tk₃ E' hv hC2 hx F₃ N₃ off hne
        obtain ⟨y, q, t1, t2, t3, rfl, hy, hq⟩ := hg.at hv
        have N₄ : News _ _ h₃ ((q, tup3 ⟨(partE y.cps.toList).toArray⟩ ⟨(partO y.cps.toList).toArray⟩ (partN y.cps.toList) t1 t2 t3) :: _) := fun p hp => N₃ p (mem_front (by simp only [List.mem_cons, List.mem_append]; exact .inr (.inr (.inr (.inr hq)))) p hp)
        clear N₃
        k_steps
        exact comp_const (by assumption) (cb_drop (by k_asm) (fun p hp => .tail _ hp)) off (ints_snocF (f := fun x => partN x.cps.toList) hz hy)
      case finC =>
        intro g zs hz
        rw [hyl, List.take_length] at hz
        k_steps
        refine name_ob (by k_asm) (by k_mem : (coA, _) ∈ _) fun oCo e => ?_
        obtain ⟨tS, hS'⟩ : ∃ tS, oCo = listOf (cvs.toArray.push (.int (coreS (levS xs i)) tS)) (ck + 1) := ⟨_, e⟩
        obtain ⟨cv2, hcv2, hI2⟩ : ∃ cv2, oCo = listOf cv2.toArray (ck + 1) ∧ IntsAre cv2 (coresS xs (i + 1)) := ⟨cvs ++ [.int (coreS (levS xs i)) tS], by rw [hS', List.push_toArray], coresS_snoc hC rfl⟩
        refine' two_listT (l := D) (vs := ys) (k := ys.length) (news := (D, LCg.lst ys) :: (coA, oCo) :: (m2, listOf vs.toArray k) :: (news ++ own ++ own2)) ?hLe ?hy ?hpp ?F ?N ?hm ?hsz ?hh ?hcell ?hkind ?hx1 ?hx2 ?hne ?hs2 (fun i2 zs nw => ∃ own3, nw = (D, LCg.lst ys) :: (coA, oCo) :: (m2, listOf vs.toArray k) :: (news ++ own ++ own2 ++ own3) ∧ StrsAre zs (partsS ((levS xs i).take i2))) ?h0 ?turnE ?finE
        case F => k_asm
        case N => rw [e]; exact cb_drop (by assumption) (by kcj_all)
        case hLe => rfl
        case hy => rfl
        case hpp => rfl
        case hm => k_mem
        case hsz => omega
        case hh => rfl
        case hcell => decide
        case hkind => rfl
        case hx1 => rfl
        case hx2 => rfl
        case hne => decide
        case hs2 => intro x C; rfl
        case h0 => exact ⟨[], by rw [List.append_nil], .nil⟩
        case turnE =>
          rintro i2 zs nw hi2 ⟨own3, rfl, hz⟩ hle v J oJ C oC D2 m₂ h₃ tk₃ E' hv hC2 hx F₃ N₃ off hne
          obtain ⟨y, q, t1, t2, t3, rfl, hy, hq⟩ := hg.at hv
          have N₄ : News _ _ h₃ ((q, tup3 ⟨(partE y.cps.toList).toArray⟩ ⟨(partO y.cps.toList).toArray⟩ (partN y.cps.toList) t1 t2 t3) :: _) := fun p hp => N₃ p (mem_front (by simp only [List.mem_cons, List.mem_append]; exact .inr (.inr (.inr (.inl (.inr hq))))) p hp)
          clear N₃
          k_steps
          refine name_of (by k_asm) (by k_mem : (_, ({ cls := .type "tuple", data := .seq #[.str ⟨(partE y.cps.toList).toArray⟩ t1, .str ⟨(partO y.cps.toList).toArray⟩ t2] } : Obj)) ∈ _) fun sl e => ?_
          subst e
          have hsl : AllLt sl ((J, oJ) :: (C, oC) :: (D2, LCg.lst zs) :: ((D, LCg.lst ys) :: (coA, oCo) :: (m2, listOf vs.toArray k) :: (news ++ own ++ own2) ++ own3)) := And.right (by assumption)
          refine ⟨_, _, (D, LCg.lst ys) :: (coA, oCo) :: (m2, listOf vs.toArray k) :: (news ++ own ++ own2 ++ ((sl, _) :: own3)), sl, _, #[.str ⟨(partE y.cps.toList).toArray⟩ t1, .str ⟨(partO y.cps.toList).toArray⟩ t2], rfl, rfl, by k_asm, cb_drop (by k_asm) (mem_move2 (l := (D, LCg.lst ys) :: (coA, oCo) :: (m2, listOf vs.toArray k) :: (news ++ own ++ own2))), offK (l := (D, LCg.lst ys) :: (coA, oCo) :: (m2, listOf vs.toArray k) :: (news ++ own ++ own2)) off hsl,
            .tail _ (.tail _ (.tail _ (List.mem_append_right _ (.head _)))), .inr rfl, ⟨_, rfl⟩, .head _, (by decide : 2 ≤ 1000), fun j ws => StrsAre ws (partsS ((levS xs i).take i2) ++ [⟨(partE y.cps.toList).toArray⟩, ⟨(partO y.cps.toList).toArray⟩].take j), ?_, ?_, ?_, ?_⟩
          · dsimp only; rw [List.take_zero, List.append_nil]; exact hz
          · intro j ws h
            have h1 := h.length
            rw [List.length_append, partsS_len, List.length_take, List.length_take] at h1
            simp only [List.length_cons, List.length_nil] at h1
            have := hlv.1
            omega
          · intro j ws v2 K oK oC' m₃ h₄ tk₄ E'' hin hv2 hC' hm1 hm2 F₄ N₄
            refine wpAny_tests_nil ?_
            rw [if_pos rfl]
            have hj : j = 0 ∨ j = 1 := by
              have : j < 2 := by
                cases Nat.lt_or_ge j 2 with
                | inl h => exact h
                | inr h => rw [Array.getElem?_eq_none h] at hv2; cases hv2
              omega
            rcases hj with rfl | rfl
            · cases hv2
              k_steps
              · exact Same.intro (by assumption) (by assumption)
              · (try dsimp only at hin); rw [List.take_zero, List.append_nil] at hin; exact strs_snoc hin _ _
            · cases hv2
              k_steps
              · exact Same.intro (by assumption) (by assumption)
              · have := strs_snoc hin ⟨(partO y.cps.toList).toArray⟩ t2
                rw [List.append_assoc] at this
                exact this
          · intro ws h
            exact ⟨_, rfl, by rw [take_snoc hy, partsS_snoc]; exact h⟩
        case finE =>
          rintro zs nw ⟨own3, rfl, hz⟩ D2 h₃ tk₃ F₃ N₃ off
          rw [hyl, List.take_length] at hz
          subst hcv2
          have hne2 := off1_ne off
          k_steps
          refine' lend (D2, zs, zs.length, cv2, ck + 1) ?F ?N ?hn ?_ ?hk ?hr ⟨hz, hI2, Ne.symm (hne2 _ (.tail _ (.head _)))⟩
          case F => k_asm
          case N => k_asm
          case hn =>
            intro p hp
            simp only [List.cons_append, List.mem_cons, List.mem_append] at hp ⊢
            rcases hp with h | h | h | h
            · exact .inr (.inr (.inl h))
            · exact .inl h
            · exact .inr (.inr (.inr (.inr (.inl (.inl (.inl h))))))
            · exact .inr (.inr (.inr (.inr (.inl (.inl (.inr h))))))
          case hk => kst_all
          case hr => ksw_same
          · intro p hp
            rcases List.mem_cons.mp hp with rfl | hp
            · exact hoff (coA, listOf cvs.toArray ck) (.head _)
            rcases List.mem_cons.mp hp with rfl | hp
            · obtain ⟨oi, hoi⟩ := hIo
              exact fun h => hne2 (I, oi) (.tail _ (.tail _ (.tail _ (List.mem_append_left _ (List.mem_append_left _ (List.mem_append_right _ hoi)))))) (List.mem_singleton.mp h).symm
            · exact hoff p (.tail _ (.tail _ hp))
  case done =>
    rintro ⟨m2, vs, k, cvs, ck⟩ u h tk ⟨hS, hC, hmc⟩ F₁ N₁
    dsimp only [kstB] at F₁ hS hC hmc N₁
    k_steps
    exact hret _ _ _ _ ⟨_, _, rfl, hC⟩ (by assumption) (by assumption) (cb_drop (by assumption) (by kcj_all)) hco.2
end Mine
end
section
open PySem PySem.W PyProof.Rows PySem.Spec PySem.Calls
set_option maxRecDepth 100000
set_option maxHeartbeats 2000000
namespace Mine
noncomputable def ownOf (h : Heap) (fp : List Addr) : List (Addr × Obj) := fp.filterMap fun b => (h.get? b).map fun o => (b, o)
theorem ownOf_mem {h : Heap} {fp : List Addr} {b : Addr} {o : Obj} (hb : b ∈ fp) (e : h.get? b = some o) : (b, o) ∈ ownOf h fp := List.mem_filterMap.mpr ⟨b, hb, by rw [e]; rfl⟩
theorem ownOf_at {h : Heap} {fp : List Addr} {p : Addr × Obj} (hp : p ∈ ownOf h fp) : p.1 ∈ fp ∧ h.get? p.1 = some p.2 := by
  obtain ⟨b, hb, e⟩ := List.mem_filterMap.mp hp
  cases q : h.get? b with
  | none => rw [q] at e; cases e
  | some o => rw [q] at e; cases e; exact ⟨hb, q⟩
theorem fr_buts {h₀ h h' : Heap} {L : Addr} {wr : List Addr} {m : PySem.Str → Option Value} (F : Fr h₀ L h m) (hk : ∀ b o, b ∉ wr → h.get? b = some o → h'.get? b = some o) (hL : L ∉ wr) (hI : ∀ b ∈ wr, h₀.get? b = none) : Fr h₀ L h' m :=
  ⟨F.ns.at' fun o e => hk L o hL e, fun b o e => hk b o (fun hm => by rw [hI b hm] at e; cases e) (F.keep b o e), F.above⟩
theorem news_buts {h₀ h h' : Heap} {L : Addr} {wr : List Addr} {news : List (Addr × Obj)} (N : News h₀ L h news) (hk : ∀ b o, b ∉ wr → h.get? b = some o → h'.get? b = some o) (off : ∀ p ∈ news, p.1 ∉ wr) : News h₀ L h' news :=
  fun p hp => ⟨hk _ _ (off p hp) (N p hp).1, (N p hp).2⟩
section
variable {prog : Program} {w : World} {A : Around} {E : Value → Shared → Prop} {s : Shared} {h₀ : Heap} {L : Addr} {m : PySem.Str → Option Value} {env : Env}
/-- what a turn of a pair comprehension gives back -/
noncomputable def PairEnd (h₀ : Heap) (L : Addr) (m : PySem.Str → Option Value) (s₁ : Shared) (led : List (Addr × Obj)) (good : Value → Prop) (y : Value) (s₂ : Shared) : Prop :=
  ∃ h' tk, s₂ = { s₁ with heap := h', toks := tk } ∧ Fr h₀ L h' m ∧ News h₀ L h' led ∧ good y
theorem pair_end {s₁ : Shared} {led all : List (Addr × Obj)} {good : Value → Prop} {y : Value} {h' : Heap} {tk : Nat} (F : Fr h₀ L h' m) (N : News h₀ L h' all) (hs : ∀ p ∈ led, p ∈ all) (hg : good y) : PairEnd h₀ L m s₁ led good y { s₁ with heap := h', toks := tk } :=
  ⟨h', tk, rfl, F, fun p hp => N p (hs p hp), hg⟩
noncomputable abbrev pairX (elt : PySem.Expr) (x x₂ : PySem.Str) (px px₂ tp : Pos) (tk : Nat) (iter : PySem.Expr) (scope : Scope) (pos : Pos) : PySem.Expr := .ListComp elt [⟨.Tuple [.Name x px, .Name x₂ px₂] tk tp, iter, [], 0⟩] scope pos
noncomputable def PairTurns (prog : Program) (w : World) (A : Around) (h₀ : Heap) (L : Addr) (m : PySem.Str → Option Value) (env : Env) (elt : PySem.Expr) (x x₂ : PySem.Str) (scope : Scope) (cl : List (PySem.Str × Addr)) (n : Nat) (Pv : Nat → Value → Value → Prop) (news : List (Addr × Obj)) (good : Nat → List Value → Prop) (s₁ : Shared) : Prop :=
  ∀ i ys v0 v1 own C oC D m₂ h tk (E' : Value → Shared → Prop), i < n → good i ys → Pv i v0 v1 → LCg.NsObj oC m₂ → m₂ x = some v0 → m₂ x₂ = some v1 → Fr h₀ L h m → News h₀ L h ((C, oC) :: (D, LCg.lst ys) :: (news ++ own)) → (∀ p ∈ news ++ own, p.1 ≠ C ∧ p.1 ≠ D) → C ≠ D →
    wpAny (model prog w) A (eval elt (compEnvC scope cl C env)) (PairEnd h₀ L m { s₁ with heap := h, toks := tk } ((C, oC) :: (D, LCg.lst ys) :: (news ++ own)) (fun y => good (i + 1) (ys ++ [y]))) E' { s₁ with heap := h, toks := tk }
theorem block_W {elt iter : PySem.Expr} {x x₂ : PySem.Str} {px px₂ tp : Pos} {tk} {scope : Scope} {cl : List (PySem.Str × Addr)} {pos : Pos} {s₂ : Shared} {I : Addr} {fp wr : List Addr} {n : Nat} {Pt : Nat → Array Value → Prop} {Pv : Nat → Value → Value → Prop} {St : Nat → Heap → Prop} {Mid : Nat → Addr → Heap → Prop} {news : List (Addr × Obj)}
    {good : Nat → List Value → Prop} {RR : Value → Addr → Result → Shared → Prop}
    (W : WalksU prog w A I fp wr n Pt St Mid) (hPt : ∀ i v, Pt i v → ∃ v0 v1, v = #[v0, v1] ∧ Pv i v0 v1) (hsz : n ≤ sizeLine)
    (hcell : ∀ y ∈ scope.names, y.2 ≠ .cell) (hkind : scope.kind = .function) (hx : scope.names.lookup x = some .local) (hx₂ : scope.names.lookup x₂ = some .local) (hxx : x ≠ x₂) (hh : A.handled = none) (hst : St 0 s₂.heap) (hfp : ∀ b ∈ fp, b < s₂.heap.objs.size)
    (F : Fr h₀ L s₂.heap m) (N : News h₀ L s₂.heap news) (hLf : L ∉ fp) (hwr : ∀ b ∈ wr, h₀.get? b = none) (off : ∀ p ∈ news, p.1 ∉ wr) (hg : good 0 [])
    (R : PairTurns prog w A h₀ L m env elt x x₂ scope cl n Pv news good s₂)
    (hRR : ∀ D C h tk m' ys, Fr h₀ L h m → News h₀ L h ((D, LCg.lst ys) :: news) → (∀ p ∈ news, p.1 ≠ D) → h.Ns C m' → h₀.get? C = none → h₀.get? D = none → C ≠ L → D ≠ L → C ≠ D → (∀ p ∈ news, p.1 ≠ C) → good n ys → RR (.ref D) C (.ok .next) { s₂ with heap := h, toks := tk }) :
    wpAny (model prog w) A (newList []) (fun acc s₃ => wpAny (model prog w) A (newFunctionEnv scope env.globals cl [] env.qual none .none (some env)) (fun cenv s₄ =>
      codeAny (model prog w) A (.compStart (pairX elt x x₂ px px₂ tp tk iter scope pos) 0 (.ref I) acc { cenv with scope := relabel scope env }) (RR acc cenv.locals) s₄) E s₃) E s₂ := by
  refine wpAny_newObj_type (wpAny_newFunctionEnv hcell (by intro y hy; simp at hy) (fun h₁ hns₁ hsb₁ => ?_) hkind)
  dsimp only at hns₁ hsb₁ ⊢
  generalize hH2 : s₂.heap.push { cls := .type "list", dict := none, data := .seq ([] : List Value).toArray } = H2 at hns₁ hsb₁ ⊢
  have hC : H2.objs.size = s₂.heap.objs.size + 1 := by rw [← hH2, Heap.size_push]
  have hDC : s₂.heap.objs.size ≠ H2.objs.size := by rw [hC]; exact Nat.ne_of_lt (Nat.lt_succ_self _)
  have below : ∀ b, b < s₂.heap.objs.size → b ≠ H2.objs.size ∧ b ≠ s₂.heap.objs.size := fun b hb => ⟨by rw [hC]; exact Nat.ne_of_lt (Nat.lt_succ_of_lt hb), Nat.ne_of_lt hb⟩
  have hDf : s₂.heap.objs.size ∉ fp := fun hm => Nat.lt_irrefl _ (hfp _ hm)
  have hCf : H2.objs.size ∉ fp := fun hm => by have := hfp _ hm; rw [hC] at this; exact Nat.lt_irrefl _ (Nat.lt_of_succ_lt this)
  have old : ∀ b o, s₂.heap.get? b = some o → h₁.get? b = some o := fun b o e => hsb₁.extBut b o (below b (Heap.lt_size e)).1 (Heap.get?_push_of_some _ (hH2 ▸ Heap.get?_push_of_some _ e))
  have hacc : h₁.get? s₂.heap.objs.size = some (LCg.lst []) := hsb₁.extBut _ _ hDC (Heap.get?_push_of_some _ (hH2 ▸ Heap.get?_push_size _ rfl))
  have hst₁ : St 0 h₁ := W.frame _ _ _ hst fun b _ o e => old b o e
  have fresh : ∀ a, s₂.heap.objs.size ≤ a → s₂.heap.get? a = none := fun a ha => by
    cases e : s₂.heap.get? a with
    | none => rfl
    | some o' => exact absurd (Heap.lt_size e) (Nat.not_lt.mpr ha)
  have fresh₀ : ∀ a, s₂.heap.objs.size ≤ a → h₀.get? a = none := fun a ha => by
    cases e : h₀.get? a with
    | none => rfl
    | some o' => have := F.keep a o' e; rw [fresh a ha] at this; cases this
  have hD₀ : h₀.get? s₂.heap.objs.size = none := fresh₀ _ (Nat.le_refl _)
  have hC₀ : h₀.get? H2.objs.size = none := fresh₀ _ (by rw [hC]; exact Nat.le_succ _)
  have hLlt : L < s₂.heap.objs.size := F.ns.lt
  have hDL : s₂.heap.objs.size ≠ L := Ne.symm (below L hLlt).2
  have hCL : H2.objs.size ≠ L := Ne.symm (below L hLlt).1
  have hLw : L ∉ wr := fun h => hLf (W.sub _ h)
  have hDw : s₂.heap.objs.size ∉ wr := fun h => hDf (W.sub _ h)
  have hCw : H2.objs.size ∉ wr := fun h => hCf (W.sub _ h)
  have hnC : ∀ p ∈ news, p.1 ≠ H2.objs.size ∧ p.1 ≠ s₂.heap.objs.size := fun p hp => below _ (Heap.lt_size (N p hp).1)
  have loop : ∀ s₃ : Shared, s₃ = { s₂ with heap := h₁, toks := s₂.toks + ([] : List (PySem.Str × Value)).length } →
      codeAny (model prog w) A (.compLoop (pairX elt x x₂ px px₂ tp tk iter scope pos) 0 (.ref I) (.ref s₂.heap.objs.size) (compEnvC scope cl H2.objs.size env))
        (RR (.ref s₂.heap.objs.size) H2.objs.size) s₃ := by
    rintro s₃ rfl
    refine LCp.codeAny_compLoop_pair
      (fun k s' => ∃ h' tk i ys m', s' = { s₂ with heap := h', toks := tk } ∧ i ≤ n ∧ k = n + 1 - i ∧ ys.length = i ∧ St i h' ∧ Fr h₀ L h' m ∧ h'.Ns H2.objs.size m' ∧ News h₀ L h' ((s₂.heap.objs.size, LCg.lst ys) :: news) ∧ good i ys) ?_ (n + 1)
      ⟨h₁, _, 0, [], _, rfl, Nat.zero_le _, rfl, rfl, hst₁, F.keeps old, hns₁, fun p hp => ?_, hg⟩
    · rintro k s' ⟨h', tk', i, ys, m', rfl, hi, rfl, hyl, hst', F', hn', N', hgi⟩
      by_cases hlt : i < n
      · refine W.item i _ _ _ hlt hst' fun T vals h₂ tk₂ hPv hT₂ hmid hk₂ => ?_
        obtain ⟨v₁, v₂, rfl, hv⟩ := hPt _ _ hPv
        refine W.go _ _ _ i T _ _ _ hmid fun h₃ hst₃ hk₃ => ?_
        have hTw := W.apart _ _ _ hmid
        have ht : IsTup h₃ T #[v₁, v₂] := by obtain ⟨o, e, r⟩ := hT₂; exact ⟨o, hk₃ _ _ hTw e, r⟩
        refine assign_Tuple_tuple hh ht rfl rfl fun h₅ he => ?_
        have he' : ∀ b o, h₃.get? b = some o → h₅.get? b = some o := fun b o e => he b o (Nat.ne_of_lt (Heap.lt_size e)) e
        have k5 : ∀ b o, b ∉ wr → h'.get? b = some o → h₅.get? b = some o := fun b o hb e => he' _ _ (hk₃ _ _ hb (hk₂ _ _ hb e))
        refine assignInOrder_cons (wpAny_assign_Name (wpAny_storeName_local (lookup_relabel_local hx) (hn'.at' fun o e => k5 _ o hCw e) (fun h₆ hn₆ hs₆ => ?_) (by simp [compEnvC, relabel, hkind])))
        refine assignInOrder_cons (wpAny_assign_Name (wpAny_storeName_local (lookup_relabel_local hx₂) hn₆ (fun h₇ hn₇ hs₇ => ?_) (by simp [compEnvC, relabel, hkind])))
        refine assignInOrder_nil ?_
        have k7 : ∀ b o, b ≠ H2.objs.size → h₅.get? b = some o → h₇.get? b = some o := fun b o hb e => hs₇.extBut b o hb (hs₆.extBut b o hb e)
        have hst₇ : St (i + 1) h₇ := W.frame _ _ _ hst₃ fun b hb o e => k7 b o (fun q => hCf (q ▸ hb)) (he' _ _ e)
        obtain ⟨oC, heC, hoC⟩ := LCg.ns_obj hn₇
        have F₅ : Fr h₀ L h₅ m := fr_buts F' k5 hLw hwr
        have F₇ : Fr h₀ L h₇ m := (F₅.change hs₆ hCL hC₀).change hs₇ hCL hC₀
        have N₅ : News h₀ L h₅ ((s₂.heap.objs.size, LCg.lst ys) :: news) := news_buts N' k5 fun p hp => by
          rcases List.mem_cons.mp hp with rfl | hp
          · exact hDw
          · exact off p hp
        have hown : ∀ p ∈ ownOf h₇ (fp.filter fun b => (h₀.get? b).isNone), p.1 ∈ fp ∧ h₀.get? p.1 = none ∧ h₇.get? p.1 = some p.2 := fun p hp => by
          obtain ⟨h1, h2⟩ := ownOf_at hp
          obtain ⟨h3, h4⟩ := List.mem_filter.mp h1
          exact ⟨h3, Option.isNone_iff_eq_none.mp h4, h2⟩
        have N₇ : News h₀ L h₇ ((H2.objs.size, oC) :: (s₂.heap.objs.size, LCg.lst ys) :: (news ++ ownOf h₇ (fp.filter fun b => (h₀.get? b).isNone))) := fun p hp => by
          rcases List.mem_cons.mp hp with rfl | hp
          · exact ⟨heC, hCL, hC₀⟩
          rcases List.mem_cons.mp hp with rfl | hp
          · have z := N₅ _ (List.mem_cons_self)
            exact ⟨k7 _ _ hDC z.1, z.2⟩
          rcases List.mem_append.mp hp with hp | hp
          · have z := N₅ _ (List.mem_cons_of_mem _ hp)
            exact ⟨k7 _ _ (hnC p hp).1 z.1, z.2⟩
          · obtain ⟨h1, h2, h3⟩ := hown p hp
            exact ⟨h3, fun e => hLf (e ▸ h1), h2⟩
        refine wpAny_mono (R i ys v₁ v₂ _ H2.objs.size oC s₂.heap.objs.size _ h₇ _ _ hlt hgi hv hoC (by simp [hxx]) (by simp) F₇ N₇ (fun p hp => ?_) (Ne.symm hDC)) (fun y s₄ h₄ => ?_) fun _ _ e => e
        · rcases List.mem_append.mp hp with hp | hp
          · exact hnC p hp
          · obtain ⟨h1, h2, h3⟩ := hown p hp
            exact ⟨fun e => hCf (e ▸ h1), fun e => hDf (e ▸ h1)⟩
        · obtain ⟨h₄, tk₄, rfl, F₄, N₄, hg₄⟩ := h₄
          have zC := (N₄ (H2.objs.size, oC) List.mem_cons_self).1
          have zD := (N₄ (s₂.heap.objs.size, LCg.lst ys) (List.mem_cons_of_mem _ List.mem_cons_self)).1
          have hst₄ : St (i + 1) h₄ := W.frame _ _ _ hst₇ fun b hb o e => by
            cases q : h₀.get? b with
            | some o' =>
              have e1 := F₇.keep _ _ q
              rw [e] at e1
              cases e1
              exact F₄.keep _ _ q
            | none => exact (N₄ (b, o) (List.mem_cons_of_mem _ (List.mem_cons_of_mem _ (List.mem_append_right _ (ownOf_mem (List.mem_filter.mpr ⟨hb, by rw [q]; rfl⟩) e))))).1
          refine append_at (hsz := by show ys.toArray.size ≤ sizeLine; rw [List.size_toArray, hyl]; exact Nat.le_trans hi hsz) zD fun h₈ hs₈ hD₈ => ?_
          refine ⟨n + 1 - (i + 1), by omega, h₈, tk₄, i + 1, ys ++ [y], _, rfl, hlt, rfl, by rw [List.length_append, List.length_singleton, hyl], W.frame _ _ _ hst₄ fun b hb o e => hs₈.extBut b o (fun q => hDf (q ▸ hb)) e, F₄.change hs₈ hDL hD₀,
            (hoC.ns zC).sameBut hs₈ (Ne.symm hDC), fun p hp => ?_, hg₄⟩
          rcases List.mem_cons.mp hp with rfl | hp
          · exact ⟨hD₈.trans (congrArg some (LCg.lst_snoc ys y)), hDL, hD₀⟩
          · have z := N₄ p (List.mem_cons_of_mem _ (List.mem_cons_of_mem _ (List.mem_append_left _ hp)))
            exact ⟨hs₈.extBut _ _ (hnC p hp).2 z.1, z.2⟩
      · obtain rfl : i = n := Nat.le_antisymm hi (Nat.not_lt.mp hlt)
        refine W.done _ _ _ hst' fun h₂ tk₂ hk₂ => ?_
        exact hRR _ _ h₂ tk₂ _ ys (fr_buts F' hk₂ hLw hwr) (news_buts N' hk₂ fun p hp => by
          rcases List.mem_cons.mp hp with rfl | hp
          · exact hDw
          · exact off p hp) (fun p hp => (hnC p hp).2) (hn'.at' fun o e => hk₂ _ o hCw e) hC₀ hD₀ hCL hDL (Ne.symm hDC) (fun p hp => (hnC p hp).1) hgi
    · rcases List.mem_cons.mp hp with rfl | hp
      · exact ⟨hacc, hDL, hD₀⟩
      · exact ⟨old _ _ (N p hp).1, (N p hp).2⟩
  exact codeAny_compStart_list (loop _ rfl) (W.self 0 _ _ _ hst₁ (loop _ rfl))
/-- what the iterable of a pair comprehension has to be -/
noncomputable def PairSrc (prog : Program) (w : World) (A : Around) (E : Value → Shared → Prop) (h₀ : Heap) (L : Addr) (m : PySem.Str → Option Value) (env : Env) (elt : PySem.Expr) (x x₂ : PySem.Str) (scope : Scope) (cl : List (PySem.Str × Addr)) (Q : Value → Shared → Prop) (xv : Value) (s₁ : Shared) : Prop :=
  wpAny (model prog w) A (pyIter xv) (fun it s₂ => ∃ (I : Addr) (fp wr : List Addr) (n : Nat) (Pt : Nat → Array Value → Prop) (Pv : Nat → Value → Value → Prop) (St : Nat → Heap → Prop) (Mid : Nat → Addr → Heap → Prop) (news : List (Addr × Obj)) (good : Nat → List Value → Prop),
    it = .ref I ∧ WalksU prog w A I fp wr n Pt St Mid ∧ (∀ i v, Pt i v → ∃ v0 v1, v = #[v0, v1] ∧ Pv i v0 v1) ∧ n ≤ sizeLine ∧ A.handled = none ∧ St 0 s₂.heap ∧ (∀ b ∈ fp, b < s₂.heap.objs.size) ∧ Fr h₀ L s₂.heap m ∧ News h₀ L s₂.heap news ∧ L ∉ fp ∧ (∀ b ∈ wr, h₀.get? b = none) ∧ (∀ p ∈ news, p.1 ∉ wr) ∧ good 0 [] ∧
    PairTurns prog w A h₀ L m env elt x x₂ scope cl n Pv news good s₂ ∧
    (∀ ys D h tk, good n ys → Fr h₀ L h m → News h₀ L h ((D, LCg.lst ys) :: news) → (∀ p ∈ news, p.1 ≠ D) → Q (.ref D) { s₂ with heap := h, toks := tk })) E s₁
theorem ListComp_pair {elt iter : PySem.Expr} {x x₂ : PySem.Str} {px px₂ tp : Pos} {tk} {scope : Scope} {cl : List (PySem.Str × Addr)} {pos : Pos} {Q : Value → Shared → Prop} (F₀ : Fr h₀ L s.heap m)
    (hclos : closureFor scope env = pure cl) (hcell : ∀ y ∈ scope.names, y.2 ≠ .cell) (hkind : scope.kind = .function)
    (hnames : ∀ y ∈ scope.names, y.2 = .local → scope.names.lookup y.1 = some .local) (hx : scope.names.lookup x = some .local) (hx₂ : scope.names.lookup x₂ = some .local) (hxx : x ≠ x₂)
    (h : wpAny (model prog w) A (eval iter env) (PairSrc prog w A E h₀ L m env elt x x₂ scope cl Q) E s)
    (hs : ∀ x, foldedSetIterable iter env x = pure x := by intro _; rfl) :
    wpAny (model prog w) A (eval (pairX elt x x₂ px px₂ tp tk iter scope pos) env) Q E s := by
  rw [eval_ListComp]
  refine wpAny_comprehension_free (use := none) rfl hs hclos hkind hnames (wpAny_mono h (fun xv s₁ h₁ => ?_) fun _ _ e => e)
  unfold PairSrc at h₁
  refine wpAny_mono h₁ (fun it s₂ h₂ => ?_) fun _ _ e => e
  obtain ⟨I, fp, wr, n, Pt, Pv, St, Mid, news, good, rfl, W, hPt, hsz, hh, hst, hfp, F, N, hLf, hwr, off, hg, R, fin⟩ := h₂
  refine block_W W hPt hsz hcell hkind hx hx₂ hxx hh hst hfp F N hLf hwr off hg R ?_
  intro D C h tk m' ys F' N' o1 hn hC₀ hD₀ hCL hDL hCD offC hgn
  refine ⟨m', hn, fun h'' hs'' => fin ys D h'' tk hgn (F'.change hs'' hCL hC₀) (fun p hp => ?_) o1⟩
  refine ⟨hs''.extBut _ _ ?_ (N' p hp).1, (N' p hp).2⟩
  rcases List.mem_cons.mp hp with rfl | hp
  · exact Ne.symm hCD
  · exact offC p hp
variable {elt : PySem.Expr} {x x₂ : PySem.Str} {scope : Scope} {cl : List (PySem.Str × Addr)} {Q : Value → Shared → Prop} {news : List (Addr × Obj)}
theorem ne_add {a b : Nat} (k : Nat) (h : a < b) : a ≠ b + k := by omega
theorem sz_lt {n n' : Nat} (j : Nat) {k : Nat} (h : n' = n + k) (hj : j < k) : n + j < n' := by omega
theorem sz_old {a n n' k : Nat} (h : n' = n + k) (ha : a < n) : a < n' := by omega
/-- enumerate over a list in the ledger -/
theorem enum_src {l : Addr} {vs : List Value} {nn : Nat} (good : Nat → List Value → Prop) (hh : A.handled = none) (F : Fr h₀ L s.heap m) (N : News h₀ L s.heap news) (hm : (l, listOf vs.toArray nn) ∈ news) (hsz : vs.length ≤ 1000) (hg : good 0 [])
    (turn : ∀ g, PairTurns prog w A h₀ L m env elt x x₂ scope cl vs.length (fun i v0 v1 => (∃ t, v0 = .int i t) ∧ vs[i]? = some v1) news good { s with heap := g })
    (fin : ∀ g ys D h tk, good vs.length ys → Fr h₀ L h m → News h₀ L h ((D, LCg.lst ys) :: news) → (∀ p ∈ news, p.1 ≠ D) → Q (.ref D) { ({ s with heap := g } : Shared) with heap := h, toks := tk }) :
    wpAny (model prog w) A (call (.type "enumerate") [.ref l]) (PairSrc prog w A E h₀ L m env elt x x₂ scope cl Q) E s := by
  have hax := N _ hm
  have hl : s.heap.IsList l vs.toArray := ⟨_, hax.1, rfl, _, rfl⟩
  have hlt : l < s.heap.objs.size := Heap.lt_size hax.1
  have hLs : L < s.heap.objs.size := F.ns.lt
  have fresh₀ : ∀ k, h₀.get? (s.heap.objs.size + k) = none := fun k => by
    cases e : h₀.get? (s.heap.objs.size + k) with
    | none => rfl
    | some o' => exact absurd (Heap.lt_size (F.keep _ o' e)) (Nat.not_lt.mpr (Nat.le_add_right _ _))
  refine call_enumerate_list hl fun h' hE hI hsz' hk => ?_
  unfold PairSrc
  refine wpAny_pyIter_enum hE ?_
  refine ⟨_, _, _, vs.toArray.size, _, fun i v0 v1 => (∃ t, v0 = .int i t) ∧ vs[i]? = some v1, _, _, news, good, rfl, (WalksT.enumerate hh (s.heap.objs.size + 1) s.heap.objs.size l (Nat.succ_ne_self _) (ne_add 1 hlt) (Nat.ne_of_lt hlt) vs.toArray).toU, ?_, ?_, hh, ?_, ?_, F.keeps hk, N.grown hk, ?_, ?_, ?_, hg, ?_, ?_⟩
  · rintro i v ⟨t, x, hx, rfl⟩
    exact ⟨_, _, rfl, ⟨t, rfl⟩, by simpa using hx⟩
  · rw [List.size_toArray, sizeLine_eq]; omega
  · exact ⟨⟨.none, hE⟩, hI, hl.at fun o e => hk l o e⟩
  · intro b hb
    have hb' : b = s.heap.objs.size + 1 ∨ b = s.heap.objs.size ∨ b = l := by simpa using hb
    show b < h'.objs.size
    rcases hb' with rfl | rfl | rfl
    · exact sz_lt 1 hsz' (by decide)
    · exact sz_lt 0 hsz' (by decide)
    · exact sz_old hsz' hlt
  · intro hI'
    have hb' : L = s.heap.objs.size + 1 ∨ L = s.heap.objs.size ∨ L = l := by simpa using hI'
    rcases hb' with e | e | e
    · exact ne_add 1 hLs e
    · exact ne_add 0 hLs e
    · exact hax.2.1 e.symm
  · intro b hb
    have hb' : b = s.heap.objs.size + 1 ∨ b = s.heap.objs.size := by simpa using hb
    rcases hb' with rfl | rfl
    · exact fresh₀ 1
    · exact fresh₀ 0
  · intro p hp hI'
    have hb' : p.1 = s.heap.objs.size + 1 ∨ p.1 = s.heap.objs.size := by simpa using hI'
    have hlp := Heap.lt_size (N p hp).1
    rcases hb' with e | e
    · exact ne_add 1 hlp e
    · exact ne_add 0 hlp e
  · rw [List.size_toArray]; exact turn h'
  · rw [List.size_toArray]; exact fin h'
/-- zip of two lists in the ledger -/
theorem zip_src {l1 l2 : Addr} {xs ys : List Value} {n1 n2 : Nat} (good : Nat → List Value → Prop) (hh : A.handled = none) (F : Fr h₀ L s.heap m) (N : News h₀ L s.heap news) (hm1 : (l1, listOf xs.toArray n1) ∈ news) (hm2 : (l2, listOf ys.toArray n2) ∈ news) (hsz : xs.length ≤ 1000) (hg : good 0 [])
    (turn : ∀ g, PairTurns prog w A h₀ L m env elt x x₂ scope cl (min xs.length ys.length) (fun i v0 v1 => xs[i]? = some v0 ∧ ys[i]? = some v1) news good { s with heap := g })
    (fin : ∀ g zs D h tk, good (min xs.length ys.length) zs → Fr h₀ L h m → News h₀ L h ((D, LCg.lst zs) :: news) → (∀ p ∈ news, p.1 ≠ D) → Q (.ref D) { ({ s with heap := g } : Shared) with heap := h, toks := tk }) :
    wpAny (model prog w) A (call (.type "zip") [.ref l1, .ref l2]) (PairSrc prog w A E h₀ L m env elt x x₂ scope cl Q) E s := by
  have hax1 := N _ hm1
  have hax2 := N _ hm2
  have hl1 : s.heap.IsList l1 xs.toArray := ⟨_, hax1.1, rfl, _, rfl⟩
  have hl2 : s.heap.IsList l2 ys.toArray := ⟨_, hax2.1, rfl, _, rfl⟩
  have hlt1 : l1 < s.heap.objs.size := Heap.lt_size hax1.1
  have hlt2 : l2 < s.heap.objs.size := Heap.lt_size hax2.1
  have hLs : L < s.heap.objs.size := F.ns.lt
  have fresh₀ : ∀ k, h₀.get? (s.heap.objs.size + k) = none := fun k => by
    cases e : h₀.get? (s.heap.objs.size + k) with
    | none => rfl
    | some o' => exact absurd (Heap.lt_size (F.keep _ o' e)) (Nat.not_lt.mpr (Nat.le_add_right _ _))
  have D : ZipApart (s.heap.objs.size + 4) (s.heap.objs.size + 2) (s.heap.objs.size + 3) s.heap.objs.size (s.heap.objs.size + 1) l1 l2 := ktu_apart _ _ _ hlt1 hlt2
  refine call_zip_2 hl1 hl2 fun h' hz hTI hTO hi1 hi2 hsz' hk => ?_
  unfold PairSrc
  refine wpAny_pyIter_zip hz ?_
  refine ⟨_, _, _, min xs.toArray.size ys.toArray.size, _, fun i v0 v1 => xs[i]? = some v0 ∧ ys[i]? = some v1, _, _, news, good, rfl, (WalksT.zip2 hh _ _ _ _ _ _ _ D xs.toArray ys.toArray).toU, ?_, ?_, hh, ?_, ?_, F.keeps hk, N.grown hk, ?_, ?_, ?_, hg, ?_, ?_⟩
  · rintro i v ⟨x, y, hx, hy, rfl⟩
    exact ⟨_, _, rfl, by simpa using hx, by simpa using hy⟩
  · simp only [List.size_toArray]; rw [sizeLine_eq]; omega
  · exact ⟨hz, hTI, ⟨_, _, hTO⟩, hi1, hi2, hl1.at fun o e => hk _ o e, hl2.at fun o e => hk _ o e⟩
  · intro b hb
    have hb' : b = s.heap.objs.size + 4 ∨ b = s.heap.objs.size + 2 ∨ b = s.heap.objs.size + 3 ∨ b = s.heap.objs.size ∨ b = s.heap.objs.size + 1 ∨ b = l1 ∨ b = l2 := by simpa using hb
    show b < h'.objs.size
    rcases hb' with rfl | rfl | rfl | rfl | rfl | rfl | rfl
    · exact sz_lt 4 hsz' (by decide)
    · exact sz_lt 2 hsz' (by decide)
    · exact sz_lt 3 hsz' (by decide)
    · exact sz_lt 0 hsz' (by decide)
    · exact sz_lt 1 hsz' (by decide)
    · exact sz_old hsz' hlt1
    · exact sz_old hsz' hlt2
  · intro hI'
    have hb' : L = s.heap.objs.size + 4 ∨ L = s.heap.objs.size + 2 ∨ L = s.heap.objs.size + 3 ∨ L = s.heap.objs.size ∨ L = s.heap.objs.size + 1 ∨ L = l1 ∨ L = l2 := by simpa using hI'
    rcases hb' with e | e | e | e | e | e | e
    · exact ne_add 4 hLs e
    · exact ne_add 2 hLs e
    · exact ne_add 3 hLs e
    · exact ne_add 0 hLs e
    · exact ne_add 1 hLs e
    · exact hax1.2.1 e.symm
    · exact hax2.2.1 e.symm
  · intro b hb
    have hb' : b = s.heap.objs.size + 4 ∨ b = s.heap.objs.size + 3 ∨ b = s.heap.objs.size ∨ b = s.heap.objs.size + 1 := by simpa using hb
    rcases hb' with rfl | rfl | rfl | rfl
    · exact fresh₀ 4
    · exact fresh₀ 3
    · exact fresh₀ 0
    · exact fresh₀ 1
  · intro p hp hI'
    have hb' : p.1 = s.heap.objs.size + 4 ∨ p.1 = s.heap.objs.size + 3 ∨ p.1 = s.heap.objs.size ∨ p.1 = s.heap.objs.size + 1 := by simpa using hI'
    have hlp := Heap.lt_size (N p hp).1
    rcases hb' with e | e | e | e
    · exact ne_add 4 hlp e
    · exact ne_add 3 hlp e
    · exact ne_add 0 hlp e
    · exact ne_add 1 hlp e
  · simp only [List.size_toArray]; exact turn h'
  · simp only [List.size_toArray]; exact fin h'
end
end Mine
end
section
open PySem PySem.W PyProof.Rows
set_option maxRecDepth 100000
namespace Mine
section
variable {prog : Program} {w : World} {A : Around} {E : Value → Shared → Prop} {s : Shared} {h₀ : Heap} {L : Addr} {m : PySem.Str → Option Value} {env : Env}
  {ct elt : PySem.Expr} {x : PySem.Str} {scope : Scope} {cl : List (PySem.Str × Addr)} {S : List (Addr × Obj) → Prop} {P : Nat → Value → Prop} {Fin : List Value → List (Addr × Obj) → Prop}
/-- a comprehension with a test over a range, whose turns make nothing that is kept -/
theorem src_rangeT {r : Addr} {a b : Int} {t u v : Tok} (n : Nat) {news : List (Addr × Obj)} {s₁ : Shared} {FinQ : Shared → List Value → List (Addr × Obj) → Prop} (good : Nat → List Value → Prop)
    (hh : A.handled = none) (F : Fr h₀ L s₁.heap m) (N : News h₀ L s₁.heap news) (hr : IsRange s₁.heap r a b 1 t u v) (hs : -100000 ≤ a ∧ a ≤ 100000 ∧ -100000 ≤ b ∧ b ≤ 100000) (hn : (b - a).toNat = n) (hg : good 0 [])
    (turn : ∀ i ys, i < n → good i ys → ∀ tv I oI C oC D m₂ h tk (E' : Value → Shared → Prop), LCg.NsObj oC m₂ → m₂ x = some (.int (a + (i : Int)) tv) → Fr h₀ L h m → News h₀ L h ((I, oI) :: (C, oC) :: (D, LCg.lst ys) :: news) → LCg.Off3 I C D news → ((@Ne Nat I C) ∧ (@Ne Nat I D) ∧ (@Ne Nat C D)) →
      wpAny (model prog w) A (isTrue ct (compEnvC scope cl C env) (eval ct (compEnvC scope cl C env))) (fun ok s' => if ok = true then
        wpAny (model prog w) A (eval elt (compEnvC scope cl C env)) (LCg.CompEnd h₀ L m { s₁ with heap := h, toks := tk } I oI C oC D (LCg.lst ys) (fun _ => True) (fun y nw' => nw' = news ∧ good (i + 1) (ys ++ [y]))) E' s'
        else LCg.CompEnd h₀ L m { s₁ with heap := h, toks := tk } I oI C oC D (LCg.lst ys) (fun _ => True) (fun _ nw' => nw' = news ∧ good (i + 1) ys) Value.none s') E' { s₁ with heap := h, toks := tk })
    (fin : ∀ g ys, good n ys → FinQ { s₁ with heap := g } ys news) : LCt.CompSrcT prog w A h₀ L m env ct elt x scope cl FinQ (.ref r) s₁ := by
  have hsz : Builtin.Range.rangeSize a b 1 = (n : Int) := by
    rw [rangeSize_one]
    split <;> omega
  refine LCt.CompSrcT.range (n := n) hh F N hr (small_one (by omega) (by omega) (by omega) (by omega)) hsz (by rw [sizeLine_eq]; omega) fun g => ?_
  have key : ∀ (k i : Nat) (ys : List Value), i + k = n → good i ys → LCt.CompRestT prog w A h₀ L m env ct elt x scope cl { s₁ with heap := g } (fun _ => True) (fun i v => ∃ t, v = .int (a + (i : Int)) t) (FinQ { s₁ with heap := g }) k i ys news := by
    intro k
    induction k with
    | zero =>
      intro i ys hi h
      have : i = n := by omega
      subst this
      exact LCt.CompRestT.zero (fin g ys h)
    | succ k ih =>
      intro i ys hi h
      refine LCt.CompRestT.succ fun v I oI C oC D m₂ h' tk E' hv hC hx F' N' off hne => ?_
      obtain ⟨tv, rfl⟩ := hv
      refine wpAny_mono (turn i ys (by omega) h tv I oI C oC D m₂ h' tk E' hC hx F' N' off hne) (fun ok s' q => ?_) fun _ _ e => e
      cases ok with
      | true =>
        rw [if_pos rfl] at q ⊢
        refine wpAny_mono q (fun y s'' q => ?_) fun _ _ e => e
        obtain ⟨h₂, tk₂, nw', e, F₂, N₂, off₂, _, rfl, hg'⟩ := q
        exact ⟨h₂, tk₂, _, e, F₂, N₂, off₂, trivial, ih (i + 1) (ys ++ [y]) (by omega) hg'⟩
      | false =>
        rw [if_neg (by simp)] at q ⊢
        obtain ⟨h₂, tk₂, nw', e, F₂, N₂, off₂, _, rfl, hg'⟩ := q
        exact ⟨h₂, tk₂, _, e, F₂, N₂, off₂, trivial, ih (i + 1) ys (by omega) hg'⟩
  exact key n 0 [] (by omega) hg
theorem comp_skip {I C D : Addr} {oI oC oD : Obj} {s₁ : Shared} {news : List (Addr × Obj)} {good : Prop} {h' : Heap} {tk : Nat} (F : Fr h₀ L h' m) (N : News h₀ L h' ((I, oI) :: (C, oC) :: (D, oD) :: news)) (off : LCg.Off3 I C D news) (hg : good) :
    LCg.CompEnd h₀ L m s₁ I oI C oC D oD (fun _ => True) (fun _ nw' => nw' = news ∧ good) Value.none { s₁ with heap := h', toks := tk } :=
  LCg.CompEnd.intro F N news (fun _ hp => hp) off trivial ⟨rfl, hg⟩
end
/-- whatever a slice picks of a list of ints is ints -/
theorem ints_all : ∀ {zs : List Value}, (∀ v ∈ zs, ∃ n t, v = Value.int n t) → ∃ ns, IntsAre zs ns
  | [], _ => ⟨[], .nil⟩
  | v :: zs, h => by
    obtain ⟨n, t, rfl⟩ := h v (.head _)
    obtain ⟨ns, hn⟩ := ints_all fun v hv => h v (.tail _ hv)
    exact ⟨n :: ns, .cons _ _ hn⟩
theorem ints_mem {vs : List Value} {ns : List Int} (h : IntsAre vs ns) {v : Value} (hv : v ∈ vs) : ∃ n t, v = Value.int n t := by
  induction h with
  | nil => cases hv
  | cons n t _ ih =>
    rcases List.mem_cons.mp hv with rfl | hv
    · exact ⟨_, _, rfl⟩
    · exact ih hv
theorem pick_mem {its : Array Value} {lo hi st : Option Int} {v : Value} (h : v ∈ (slicePick its lo hi st).toList) : v ∈ its.toList := by
  unfold slicePick at h
  simp only [List.toList_toArray, List.mem_filterMap] at h
  obtain ⟨i, _, e⟩ := h
  exact Array.mem_toList_iff.mpr (Array.mem_of_getElem? e)
theorem pick_ints {vs : List Value} {ns : List Int} (h : IntsAre vs ns) (lo hi st : Option Int) : ∃ ms, IntsAre (slicePick vs.toArray lo hi st).toList ms :=
  ints_all fun v hv => ints_mem h (by have := pick_mem hv; rwa [List.toList_toArray] at this)
/-- the dots of the first letters -/
noncomputable def dotsTo (bs : List Bool) (k : Nat) : List Int := ((List.range k).filter fun p => bs.getD p false).map fun (p : Nat) => 7 - (p : Int)
theorem dots_yes {bs : List Bool} {i : Nat} {ys : List Value} {t : Tok} (h : IntsAre ys (dotsTo bs i)) (hb : bs[i]? = some true) : IntsAre (ys ++ [.int (7 - (i : Int)) t]) (dotsTo bs (i + 1)) := by
  unfold dotsTo at *
  rw [List.range_succ, List.filter_append, List.map_append]
  have : bs.getD i false = true := by rw [List.getD_eq_getElem?_getD, hb]; rfl
  simp only [List.filter_cons, this, if_true, List.filter_nil, List.map_cons, List.map_nil]
  exact h.append (.cons _ _ .nil)
theorem dots_no {bs : List Bool} {i : Nat} {ys : List Value} (h : IntsAre ys (dotsTo bs i)) (hb : bs[i]? = some false) : IntsAre ys (dotsTo bs (i + 1)) := by
  unfold dotsTo at *
  rw [List.range_succ, List.filter_append, List.map_append]
  have : bs.getD i false = false := by rw [List.getD_eq_getElem?_getD, hb]; rfl
  simp only [List.filter_cons, this, if_false, List.filter_nil, List.map_nil, List.append_nil, Bool.false_eq_true]
  exact h
theorem dots_all (bs : List Bool) : dotsTo bs 7 = dotsB bs := rfl
end Mine
end
section
open PySem PySem.W PyProof.Rows
set_option maxRecDepth 100000
namespace Mine
noncomputable def okStr (x : PySem.Str) : Prop := x.length ≤ 90 ∧ ∀ r ∈ rowsL (x.cps.toList.map fun k => if k = 46 then 32 else k), ∀ k ∈ r, k = 32
theorem ok_of {l : List Nat} (h : okMail l = true) : okStr ⟨l.toArray⟩ := by
  unfold okMail at h
  simp only [Bool.and_eq_true, decide_eq_true_eq, List.all_eq_true, beq_iff_eq] at h
  refine ⟨by rw [codes_len]; simpa using h.1, ?_⟩
  intro r hr k hk
  exact h.2 r (by simpa [blankL] using hr) k hk
structure LawFacts (bs : List Bool) (n : Nat) (os : Int) : Prop where
  steps : stepsB (dotsB bs) = (n : Int)
  n28 : n ≤ 28
  ords : os = ordersI (dotsB bs) n
  small : ∀ i, i ≤ n → (ordRun (startI (dotsB bs)) i).length ≤ 1000
  mail : okStr ⟨(mailL bs).toArray⟩
  even : okStr ⟨(partE (mailL bs)).toArray⟩
  odd : okStr ⟨(partO (mailL bs)).toArray⟩
  parts : ∀ l ∈ partsL (partsL [mailL bs]), l.length ≤ 90
  one : hookB (mailL bs) 1 = 2 * (n : Int)
  primes : ∀ p ∈ primesL, (0 ≤ hookB (mailL bs) (p.1 : Int) ∧ hookB (mailL bs) (p.1 : Int) ≤ 1000) ∧ (hookB (mailL bs) (p.1 : Int)).fmod (2 * (p.1 : Int)) = 0
  prod : primesL.foldl (fun a p => a * p.2 ^ ((hookB (mailL bs) (p.1 : Int)).fdiv (2 * (p.1 : Int))).toNat) os = factI n
  two : hookB (mailL bs) 2 = 2 * (hookB (partE (mailL bs)) 1 + hookB (partO (mailL bs)) 1)
  four : hookB (mailL bs) 4 = 2 * (hookB (partE (mailL bs)) 2 + hookB (partO (mailL bs)) 2)
  six : hookB (mailL bs) 6 = 2 * (hookB (partE (mailL bs)) 3 + hookB (partO (mailL bs)) 3)
  cores : coreL [mailL bs] + coreL (partsL [mailL bs]) + coreL (partsL (partsL [mailL bs])) = twosB os + onesB (n : Int)
  core : coreL [mailL bs] + 2 * coreL (partsL [mailL bs]) + 4 * coreL (partsL (partsL [mailL bs])) = (n : Int)
theorem law_facts {bs : List Bool} (h : lawB bs = true) : ∃ n os, LawFacts bs n os := by
  unfold lawB at h
  simp only [Bool.and_eq_true, decide_eq_true_eq, List.all_eq_true, beq_iff_eq] at h
  obtain ⟨⟨⟨⟨⟨⟨⟨⟨⟨⟨⟨⟨⟨⟨h1, h2⟩, h3⟩, h4⟩, h5⟩, h6⟩, h7⟩, h8⟩, h9⟩, h10⟩, h11⟩, h12⟩, h13⟩, h14⟩, h15⟩ := h
  exact ⟨_, _, h1, h2, rfl, fun i hi => h3 i (List.mem_range.mpr (by omega)), ok_of h4, ok_of h5, ok_of h6, h7, h8, h9, h10, h11, h12, h13, h14, h15⟩
theorem dotsB_len (bs : List Bool) : (dotsB bs).length ≤ 7 := by
  unfold dotsB
  rw [List.length_map]
  exact Nat.le_trans (List.length_filter_le _ _) (by simp)
theorem dotsB_at (bs : List Bool) : ∀ d ∈ dotsB bs, 0 ≤ d ∧ d ≤ 7 := by
  intro d hd
  unfold dotsB at hd
  obtain ⟨p, hp, rfl⟩ := List.mem_map.mp hd
  have := List.mem_range.mp (List.mem_filter.mp hp).1
  omega
theorem ints_cons {vs : List Value} {a : Int} {l : List Int} (h : IntsAre vs (a :: l)) : ∃ t vs', vs = .int a t :: vs' ∧ IntsAre vs' l := by
  cases h with | cons _ t h => exact ⟨t, _, rfl, h⟩
theorem ints_nil {vs : List Value} (h : IntsAre vs []) : vs = [] := by
  cases h; rfl
theorem ints3 {vs : List Value} {a b c : Int} (hI : IntsAre vs [a, b, c]) : ∃ t1 t2 t3, vs = [.int a t1, .int b t2, .int c t3] := by
  obtain ⟨t1, v1, rfl, h1⟩ := ints_cons hI
  obtain ⟨t2, v2, rfl, h2⟩ := ints_cons h1
  obtain ⟨t3, v3, rfl, h3⟩ := ints_cons h2
  exact ⟨t1, t2, t3, by rw [ints_nil h3]⟩
theorem ints4 {vs : List Value} {a b c d : Int} {l : List Int} (hI : IntsAre vs (a :: b :: c :: d :: l)) : ∃ t1 t2 t3 t4 vs', vs = .int a t1 :: .int b t2 :: .int c t3 :: .int d t4 :: vs' ∧ IntsAre vs' l := by
  obtain ⟨t1, v1, rfl, h1⟩ := ints_cons hI
  obtain ⟨t2, v2, rfl, h2⟩ := ints_cons h1
  obtain ⟨t3, v3, rfl, h3⟩ := ints_cons h2
  obtain ⟨t4, v4, rfl, h4⟩ := ints_cons h3
  exact ⟨t1, t2, t3, t4, v4, rfl, h4⟩
theorem ints8 {vs : List Value} {a b c d e f g h : Int} (hI : IntsAre vs [a, b, c, d, e, f, g, h]) : ∃ t1 t2 t3 t4 t5 t6 t7 t8, vs = [.int a t1, .int b t2, .int c t3, .int d t4, .int e t5, .int f t6, .int g t7, .int h t8] := by
  obtain ⟨t1, t2, t3, t4, v4, rfl, h4⟩ := ints4 hI
  obtain ⟨t5, t6, t7, t8, v8, rfl, h8⟩ := ints4 h4
  exact ⟨t1, t2, t3, t4, t5, t6, t7, t8, by rw [ints_nil h8]⟩
theorem off1_of {D : Addr} {l : List (Addr × Obj)} (h : ∀ p ∈ l, p.1 ≠ D) : LCg.Off1 D l := by
  induction l with
  | nil => trivial
  | cons p l ih => exact ⟨h p (.head _), ih fun q hq => h q (.tail _ hq)⟩
end Mine
end
section
open PySem PySem.W PyProof.Rows
set_option maxRecDepth 100000
set_option Elab.async false
namespace Mine
theorem law_0 : (allB 4).all (fun b => lawB (false :: false :: false :: b)) = true := by decide +kernel
theorem law_1 : (allB 4).all (fun b => lawB (false :: false :: true :: b)) = true := by decide +kernel
theorem law_2 : (allB 4).all (fun b => lawB (false :: true :: false :: b)) = true := by decide +kernel
theorem law_3 : (allB 4).all (fun b => lawB (false :: true :: true :: b)) = true := by decide +kernel
theorem law_4 : (allB 4).all (fun b => lawB (true :: false :: false :: b)) = true := by decide +kernel
theorem law_5 : (allB 4).all (fun b => lawB (true :: false :: true :: b)) = true := by decide +kernel
theorem law_6 : (allB 4).all (fun b => lawB (true :: true :: false :: b)) = true := by decide +kernel
theorem law_7 : (allB 4).all (fun b => lawB (true :: true :: true :: b)) = true := by decide +kernel
theorem mem_four (d e f g : Bool) : [d, e, f, g] ∈ allB 4 := by cases d <;> cases e <;> cases f <;> cases g <;> decide
theorem law_all (bs : List Bool) (h : bs.length = 7) : lawB bs = true := by
  match bs, h with
  | [a, b, c, d, e, f, g], _ =>
    have hm := mem_four d e f g
    cases a <;> cases b <;> cases c
    · exact List.all_eq_true.mp law_0 _ hm
    · exact List.all_eq_true.mp law_1 _ hm
    · exact List.all_eq_true.mp law_2 _ hm
    · exact List.all_eq_true.mp law_3 _ hm
    · exact List.all_eq_true.mp law_4 _ hm
    · exact List.all_eq_true.mp law_5 _ hm
    · exact List.all_eq_true.mp law_6 _ hm
    · exact List.all_eq_true.mp law_7 _ hm
end Mine
end
section
open PySem PySem.W PyProof.Rows
set_option maxRecDepth 100000
set_option Elab.async false
namespace Mine
noncomputable def bitsB (bs : List Bool) : Bool := primesL.all fun p => decide (hookB (mailL bs) (p.1 : Int) ≤ 40 * (p.1 : Int))
theorem bits_0 : (allB 5).all (fun b => bitsB (false :: false :: b)) = true := by decide +kernel
theorem bits_1 : (allB 5).all (fun b => bitsB (false :: true :: b)) = true := by decide +kernel
theorem bits_2 : (allB 5).all (fun b => bitsB (true :: false :: b)) = true := by decide +kernel
theorem bits_3 : (allB 5).all (fun b => bitsB (true :: true :: b)) = true := by decide +kernel
theorem mem_five (c d e f g : Bool) : [c, d, e, f, g] ∈ allB 5 := by cases c <;> cases d <;> cases e <;> cases f <;> cases g <;> decide
theorem bits_all (bs : List Bool) (h : bs.length = 7) : bitsB bs = true := by
  match bs, h with
  | [a, b, c, d, e, f, g], _ =>
    have hm := mem_five c d e f g
    cases a <;> cases b
    · exact List.all_eq_true.mp bits_0 _ hm
    · exact List.all_eq_true.mp bits_1 _ hm
    · exact List.all_eq_true.mp bits_2 _ hm
    · exact List.all_eq_true.mp bits_3 _ hm
theorem pow2_bits : ∀ e, e ≤ 20 → Builtin.Int.intBits ((2 : Int) ^ e) ≤ 64 := by decide +kernel
theorem pow3_bits : ∀ e, e ≤ 20 → Builtin.Int.intBits ((3 : Int) ^ e) ≤ 64 := by decide +kernel
theorem pow5_bits : ∀ e, e ≤ 20 → Builtin.Int.intBits ((5 : Int) ^ e) ≤ 64 := by decide +kernel
theorem pow7_bits : ∀ e, e ≤ 20 → Builtin.Int.intBits ((7 : Int) ^ e) ≤ 64 := by decide +kernel
theorem exp_le {H : Int} (p : Int) (hp : 0 < p) (h0 : 0 ≤ H) (h : H ≤ 40 * p) : (H.fdiv (2 * p)).toNat ≤ 20 := by
  rw [Int.fdiv_eq_ediv_of_nonneg _ (by omega)]
  have : H / (2 * p) ≤ 20 := by
    apply Int.ediv_le_of_le_mul (by omega)
    omega
  omega
end Mine
end
section
open PySem PySem.W PyProof.Rows
set_option maxRecDepth 100000
namespace Mine
theorem hooks8 (l : List Nat) : hooksL (rowsL ((⟨l.toArray⟩ : PySem.Str).cps.toList.map fun k => if k = 46 then 32 else k)) (8 : Int).toNat = [hookB l 1, hookB l 2, hookB l 3, hookB l 4, hookB l 5, hookB l 6, hookB l 7, hookB l 8] := rfl
theorem hooks3 (l : List Nat) : hooksL (rowsL ((⟨l.toArray⟩ : PySem.Str).cps.toList.map fun k => if k = 46 then 32 else k)) (3 : Int).toNat = [hookB l 1, hookB l 2, hookB l 3] := rfl
theorem steps_is {bs : List Bool} {n : Nat} {os : Int} (F : LawFacts bs n os) : (dotsB bs).sum - (((dotsB bs).length : Int) * (((dotsB bs).length : Int) - 1)).fdiv 2 = (n : Int) := F.steps
theorem bit_yes {a : Int} (h : a.fmod 2 = 1) : some (a.fmod 2 == 1) = some true := by rw [h]; rfl
theorem bit_no {a : Int} (h : a.fmod 2 ≠ 1) : some (a.fmod 2 == 1) = some false := congrArg some (beq_eq_false_iff_ne.mpr h)
structure Told (bs : List Bool) (n : Nat) (os : Int) (H2 H3 H4 H5 H6 H7 H8 E1 E2 E3 O1 O2 O3 : Int) : Prop where
  told : [hookB (mailL bs) 1, hookB (mailL bs) 2, hookB (mailL bs) 3, hookB (mailL bs) 4, hookB (mailL bs) 5, hookB (mailL bs) 6, hookB (mailL bs) 7, hookB (mailL bs) 8] = [2 * (n : Int), H2, H3, H4, H5, H6, H7, H8]
  even : [hookB (partE (mailL bs)) 1, hookB (partE (mailL bs)) 2, hookB (partE (mailL bs)) 3] = [E1, E2, E3]
  odd : [hookB (partO (mailL bs)) 1, hookB (partO (mailL bs)) 2, hookB (partO (mailL bs)) 3] = [O1, O2, O3]
  a2 : 0 ≤ H2 ∧ H2 ≤ 1000 ∧ H2.fmod (2 * 2) = 0
  a3 : 0 ≤ H3 ∧ H3 ≤ 1000 ∧ H3.fmod (2 * 3) = 0
  a4 : 0 ≤ H4 ∧ H4 ≤ 1000 ∧ H4.fmod (2 * 4) = 0
  a5 : 0 ≤ H5 ∧ H5 ≤ 1000 ∧ H5.fmod (2 * 5) = 0
  a7 : 0 ≤ H7 ∧ H7 ≤ 1000 ∧ H7.fmod (2 * 7) = 0
  a8 : 0 ≤ H8 ∧ H8 ≤ 1000 ∧ H8.fmod (2 * 8) = 0
  prod : os * 2 ^ (H2.fdiv (2 * 2)).toNat * 3 ^ (H3.fdiv (2 * 3)).toNat * 2 ^ (H4.fdiv (2 * 4)).toNat * 5 ^ (H5.fdiv (2 * 5)).toNat * 7 ^ (H7.fdiv (2 * 7)).toNat * 2 ^ (H8.fdiv (2 * 8)).toNat = factI n
  b2 : Builtin.Int.intBits ((2 : Int) ^ (H2.fdiv (2 * 2)).toNat) ≤ 64
  b3 : Builtin.Int.intBits ((3 : Int) ^ (H3.fdiv (2 * 3)).toNat) ≤ 64
  b4 : Builtin.Int.intBits ((2 : Int) ^ (H4.fdiv (2 * 4)).toNat) ≤ 64
  b5 : Builtin.Int.intBits ((5 : Int) ^ (H5.fdiv (2 * 5)).toNat) ≤ 64
  b7 : Builtin.Int.intBits ((7 : Int) ^ (H7.fdiv (2 * 7)).toNat) ≤ 64
  b8 : Builtin.Int.intBits ((2 : Int) ^ (H8.fdiv (2 * 8)).toNat) ≤ 64
  two : H2 = 2 * (E1 + O1)
  four : H4 = 2 * (E2 + O2)
  six : H6 = 2 * (E3 + O3)
theorem told_facts {bs : List Bool} {n : Nat} {os : Int} (F : LawFacts bs n os) (hb : bitsB bs = true) : ∃ H2 H3 H4 H5 H6 H7 H8 E1 E2 E3 O1 O2 O3, Told bs n os H2 H3 H4 H5 H6 H7 H8 E1 E2 E3 O1 O2 O3 := by
  unfold bitsB at hb
  simp only [List.all_eq_true, decide_eq_true_eq] at hb
  have p2 := F.primes (2, 2) (by decide)
  have p3 := F.primes (3, 3) (by decide)
  have p4 := F.primes (4, 2) (by decide)
  have p5 := F.primes (5, 5) (by decide)
  have p7 := F.primes (7, 7) (by decide)
  have p8 := F.primes (8, 2) (by decide)
  refine ⟨hookB (mailL bs) 2, hookB (mailL bs) 3, hookB (mailL bs) 4, hookB (mailL bs) 5, hookB (mailL bs) 6, hookB (mailL bs) 7, hookB (mailL bs) 8, hookB (partE (mailL bs)) 1, hookB (partE (mailL bs)) 2, hookB (partE (mailL bs)) 3, hookB (partO (mailL bs)) 1, hookB (partO (mailL bs)) 2, hookB (partO (mailL bs)) 3, ⟨by rw [F.one], rfl, rfl, ⟨p2.1.1, p2.1.2, p2.2⟩, ⟨p3.1.1, p3.1.2, p3.2⟩, ⟨p4.1.1, p4.1.2, p4.2⟩, ⟨p5.1.1, p5.1.2, p5.2⟩, ⟨p7.1.1, p7.1.2, p7.2⟩, ⟨p8.1.1, p8.1.2, p8.2⟩, ?_, pow2_bits _ (exp_le 2 (by decide) p2.1.1 (hb (2, 2) (by decide))), pow3_bits _ (exp_le 3 (by decide) p3.1.1 (hb (3, 3) (by decide))), pow2_bits _ (exp_le 4 (by decide) p4.1.1 (hb (4, 2) (by decide))), pow5_bits _ (exp_le 5 (by decide) p5.1.1 (hb (5, 5) (by decide))), pow7_bits _ (exp_le 7 (by decide) p7.1.1 (hb (7, 7) (by decide))), pow2_bits _ (exp_le 8 (by decide) p8.1.1 (hb (8, 2) (by decide))), F.two, F.four, F.six⟩⟩
  exact F.prod
end Mine
end
section
open PySem PySem.W PyProof.Rows
namespace Mine
theorem pick_odd {a b c d e f g h : Value} : (slicePick #[a, b, c, d, e, f, g, h] (some 1) (some 6) (some 2)).toList = [b, d, f] := rfl
end Mine
end
section
open PySem PySem.W PyProof.Rows
set_option maxRecDepth 100000
namespace Mine
theorem levS_len (xs : List PySem.Str) : ∀ j, (levS xs j).length = 2 ^ j * xs.length
  | 0 => by simp [levS]
  | j + 1 => by
    show (partsS (levS xs j)).length = _
    rw [partsS_len, levS_len xs j, Nat.pow_succ]
    rw [Nat.mul_comm (2 ^ j) 2, Nat.mul_assoc]
theorem lev_small {bs : List Bool} {n : Nat} {os : Int} (F : LawFacts bs n os) : ∀ j, j < 3 → ∀ l ∈ levL [mailL bs] j, l.length ≤ 90 := by
  intro j hj l hl
  have hc : ∀ x : List Nat, (⟨x.toArray⟩ : PySem.Str).length = x.length := fun x => by rw [codes_len]
  have h1 := F.mail.1
  have h2 := F.even.1
  have h3 := F.odd.1
  rw [hc] at h1 h2 h3
  match j, hj, hl with
  | 0, _, hl =>
    rw [List.mem_singleton.mp hl]; exact h1
  | 1, _, hl =>
    have hl' : l ∈ [partE (mailL bs), partO (mailL bs)] := hl
    rcases List.mem_cons.mp hl' with rfl | hl'
    · exact h2
    · rw [List.mem_singleton.mp hl']; exact h3
  | 2, _, hl => exact F.parts l hl
theorem cores_small {bs : List Bool} {n : Nat} {os : Int} (F : LawFacts bs n os) : ∀ j, j ≤ 3 → (levS [⟨(mailL bs).toArray⟩] j).length ≤ 100 ∧ (j < 3 → ∀ x ∈ levS [⟨(mailL bs).toArray⟩] j, x.length ≤ 90) := by
  intro j hj
  constructor
  · rw [levS_len]
    have : 2 ^ j ≤ 2 ^ 3 := Nat.pow_le_pow_right (by decide) hj
    simp only [List.length_cons, List.length_nil]
    omega
  · intro hj x hx
    have h1 : x.cps.toList ∈ (levS [⟨(mailL bs).toArray⟩] j).map (fun x => x.cps.toList) := List.mem_map_of_mem hx
    rw [levS_codes] at h1
    rw [codes_len]
    exact lev_small F j hj _ h1
theorem cores3 (l : List Nat) : coresS [⟨l.toArray⟩] 3 = [coreL [l], coreL (partsL [l]), coreL (partsL (partsL [l]))] := by
  rw [coresS_codes]; rfl
noncomputable def twosTo (os : Int) (i : Nat) : Nat := ((List.range i).filter fun (k : Nat) => os.fmod (2 ^ (k + 1)) == 0).length
noncomputable def onesTo (n : Int) (i : Nat) : Nat := ((List.range i).filter fun (k : Nat) => (n.fdiv (2 ^ k)).fmod 2 == 1).length
theorem filt_snoc (p : Nat → Bool) (i : Nat) : ((List.range (i + 1)).filter p).length = ((List.range i).filter p).length + if p i then 1 else 0 := by
  rw [List.range_succ, List.filter_append, List.length_append]
  cases h : p i <;> simp [h]
theorem one_add (i : Nat) : (1 + (i : Int)).toNat = i + 1 := by omega
theorem zero_add' (i : Nat) : (0 + (i : Int)).toNat = i := by omega
theorem twos_yes {os : Int} {i : Nat} {zs : List Value} {v : Value} (hz : zs.length = twosTo os i) (h : os.fmod (2 ^ (1 + (i : Int)).toNat) = 0) : (zs ++ [v]).length = twosTo os (i + 1) := by
  rw [one_add] at h
  unfold twosTo at *
  rw [filt_snoc, List.length_append, hz, h]; rfl
theorem twos_no {os : Int} {i : Nat} {zs : List Value} (hz : zs.length = twosTo os i) (h : os.fmod (2 ^ (1 + (i : Int)).toNat) ≠ 0) : zs.length = twosTo os (i + 1) := by
  rw [one_add] at h
  unfold twosTo at *
  rw [filt_snoc, hz]
  have : (os.fmod (2 ^ (i + 1)) == 0) = false := beq_eq_false_iff_ne.mpr h
  rw [this]; rfl
theorem ones_yes {n : Int} {i : Nat} {zs : List Value} {v : Value} (hz : zs.length = onesTo n i) (h : (n.fdiv (2 ^ (0 + (i : Int)).toNat)).fmod 2 = 1) : (zs ++ [v]).length = onesTo n (i + 1) := by
  rw [zero_add'] at h
  unfold onesTo at *
  rw [filt_snoc, List.length_append, hz, h]; rfl
theorem ones_no {n : Int} {i : Nat} {zs : List Value} (hz : zs.length = onesTo n i) (h : (n.fdiv (2 ^ (0 + (i : Int)).toNat)).fmod 2 ≠ 1) : zs.length = onesTo n (i + 1) := by
  rw [zero_add'] at h
  unfold onesTo at *
  rw [filt_snoc, hz]
  have : ((n.fdiv (2 ^ i)).fmod 2 == 1) = false := beq_eq_false_iff_ne.mpr h
  rw [this]; rfl
theorem twosTo_le (os : Int) (i : Nat) : twosTo os i ≤ i := Nat.le_trans (List.length_filter_le _ _) (by simp)
theorem onesTo_le (n : Int) (i : Nat) : onesTo n i ≤ i := Nat.le_trans (List.length_filter_le _ _) (by simp)
end Mine
end
section
open PySem PySem.W PyProof.Rows
set_option Elab.async false
set_option maxRecDepth 100000
namespace Mine
theorem post_true (scr : List Int) : PySem.Challenge.rw_sn0027_01.row.claim.post [ofPy (PyData.list (List.map PyData.int scr))] (WData.bool true) [ofPy (PyData.list (List.map PyData.int scr))] = true := by
  refine postW_of (by wrow_shape) (w_eq_bool (w_res rfl) w_lit) ?_
  rfl
end Mine
end
section
open PySem PySem.W PyProof.Rows
set_option maxRecDepth 100000
namespace Mine
noncomputable abbrev heapOf {h₀ h : Heap} {L : Addr} {m : PySem.Str → Option Value} (_ : Fr h₀ L h m) : Heap := h₀
section
variable {prog : Program} {w : World} {A : Around} {E : Value → Shared → Prop} {s : Shared} {env : Env} {h₀ : Heap} {target : PySem.Expr} {body : List Stmt} {Q : Flow → Shared → Prop} {σ : Type}
/-- over a list that stays; the turn begins with the target's assignment -/
theorem loopT_list {l : Addr} {vs : List Value} {nn : Nat} {m₀ : PySem.Str → Option Value} (Led : σ → List (Addr × Obj)) (ps : σ → List (PySem.Str × Value)) (stored : List PySem.Str) (P : Nat → σ → Prop) (c₀ : σ)
    (hm : (l, listOf vs.toArray nn) ∈ Led c₀)
    (F : Fr h₀ env.locals s.heap m₀) (N : News h₀ env.locals s.heap (Led c₀)) (hk : ∀ p ∈ ps c₀, m₀ p.1 = some p.2) (hp : P 0 c₀) (hh : A.handled = none)
    (turn : ∀ (i : Nat) (v : Value) (c : σ) (u : PySem.Str → Option Value) (s₁ : Shared) (I : Addr) (own : List (Addr × Obj)), vs[i]? = some v → P i c → (∀ p ∈ Led c, p.1 ∉ [I]) → (∀ p ∈ own, p.1 = I ∨ p.1 = l) → (∃ o, (I, o) ∈ own) →
      Fr h₀ env.locals s₁.heap (kstB (fun z => if stored.contains z then u z else m₀ z) (ps c)) → News h₀ env.locals s₁.heap (Led c ++ own) →
      wpAny (model prog w) A (assign target env v) (fun _ s₃ => wpAny (model prog w) A (execs body env) (TPost h₀ env.locals s₁ Led ps stored m₀ (P (i + 1)) own [I]) E s₃) E s₁)
    (done : ∀ (c : σ) (u : PySem.Str → Option Value) (h : Heap) (tk : Nat), P vs.length c → Fr h₀ env.locals h (kstB (fun z => if stored.contains z then u z else m₀ z) (ps c)) → News h₀ env.locals h (Led c) → Q .next { s with heap := h, toks := tk }) :
    wpAny (model prog w) A (pyIter (.ref l)) (fun it s₂ => LoopAtT prog w A h₀ env target body Q E it s₂) E s := by
  have hls : s.heap.IsList l vs.toArray := ⟨_, (N _ hm).1, rfl, _, rfl⟩
  have hlt : l < s.heap.objs.size := Heap.lt_size (N _ hm).1
  have hnew : h₀.get? s.heap.objs.size = none := by
    cases q : h₀.get? s.heap.objs.size with
    | none => rfl
    | some o => exact absurd (Heap.lt_size (F.keep _ _ q)) (Nat.lt_irrefl _)
  have frame : ∀ (m' : PySem.Str → Option Value) (c : σ), (∀ p ∈ ps c, m' p.1 = some p.2) → (∀ z, (∀ p ∈ ps c, z ≠ p.1) → stored.contains z = false → m' z = m₀ z) → (kstB (fun z => if stored.contains z then m' z else m₀ z) (ps c)) = m' := by
    intro m' c h1 h2
    funext y
    refine kstB_eq h1 fun hn => ?_
    show (if stored.contains y = true then m' y else m₀ y) = m' y
    cases h3 : stored.contains y with
    | true => simp
    | false => simp only [Bool.false_eq_true, if_false]; exact (h2 y hn h3).symm
  refine wpAny_pyIter_list hls ?_
  have W := Walks.list (prog := prog) (w := w) hh s.heap.objs.size l (Nat.ne_of_lt hlt) vs.toArray
  refine ⟨s.heap.objs.size, _, _, _, _, _, m₀, Led c₀, fun i m nx => ∃ c, nx = Led c ∧ (∀ p ∈ ps c, m p.1 = some p.2) ∧ (∀ z, (∀ p ∈ ps c, z ≠ p.1) → stored.contains z = false → m z = m₀ z) ∧ P i c, rfl, W, ?_, ?_, ?_, ⟨⟨_, Heap.get?_push_size _ rfl, rfl, rfl⟩, hls.at fun o e => Heap.get?_push_of_some _ e⟩, F.push _, fun p hp => ⟨Heap.get?_push_of_some _ (N p hp).1, (N p hp).2⟩, fun i s' v Q' st hQ' => letGo_listiter st.1 hQ', ⟨c₀, rfl, hk, fun _ _ _ => rfl, hp⟩, ?_, ?_⟩
  · intro hm'
    rcases List.mem_cons.mp hm' with e | hm'
    · exact absurd F.ns.lt (e ▸ Nat.lt_irrefl _)
    · exact (N _ hm).2.1 (List.mem_singleton.mp hm').symm
  · intro b hb
    rw [List.mem_singleton.mp hb]
    exact hnew
  · intro p hp hI
    exact absurd (Heap.lt_size (N p hp).1) ((List.mem_singleton.mp hI) ▸ Nat.lt_irrefl _)
  · rintro i v m₁ news₁ s₁ own hi hv ⟨c, rfl, h1, h2, hP⟩ hof hown _ hmem hst₁ F₁ N₁
    obtain ⟨o, ho, _⟩ := hst₁.1
    have F₂ : Fr h₀ env.locals s₁.heap (kstB (fun z => if stored.contains z then m₁ z else m₀ z) (ps c)) := by rw [frame m₁ c h1 h2]; exact F₁
    refine wpAny_mono (turn i v c m₁ s₁ s.heap.objs.size own (by simpa using hv) hP hof (fun p hp => by simpa using hown p hp) ⟨_, hmem _ (.head _) hnew o ho⟩ F₂ fun p hp => N₁ p ((List.mem_append.mp hp).elim (fun h => List.mem_append.mpr (.inr h)) fun h => List.mem_append.mpr (.inl h))) (fun _ s₃ q => wpAny_mono q (fun f s₄ q => ?_) fun _ _ e => e) fun _ _ e => e
    obtain ⟨rfl, c', h', tk', m', news', e, F', N', q1, q2, q3, q4, q5, q6⟩ := q
    refine ⟨rfl, h', tk', m', Led c', e, F', fun p hp => N' p ?_, q3, c', rfl, q4, q5, q6⟩
    rcases List.mem_append.mp hp with hp | hp
    · exact q2 p hp
    · exact q1 p hp
  · rintro h' tk m' news' F' N' _ ⟨c, rfl, h1, h2, hP⟩
    refine done c m' h' tk (by simpa using hP) ?_ N'
    rw [frame m' c h1 h2]
    exact F'
/-- the same, where only names are turned -/
theorem loopT_listC {news : List (Addr × Obj)} {l : Addr} {vs : List Value} {nn : Nat} {m₀ : PySem.Str → Option Value} (ps : σ → List (PySem.Str × Value)) (stored : List PySem.Str) (P : Nat → σ → Prop) (c₀ : σ)
    (hm : (l, listOf vs.toArray nn) ∈ news)
    (F : Fr h₀ env.locals s.heap m₀) (N : News h₀ env.locals s.heap news) (hk : ∀ p ∈ ps c₀, m₀ p.1 = some p.2) (hp : P 0 c₀) (hh : A.handled = none)
    (turn : ∀ (i : Nat) (v : Value) (c : σ) (u : PySem.Str → Option Value) (s₁ : Shared) (I : Addr) (own : List (Addr × Obj)), vs[i]? = some v → P i c → (∀ p ∈ news, p.1 ∉ [I]) → (∀ p ∈ own, p.1 = I ∨ p.1 = l) → (∃ o, (I, o) ∈ own) →
      Fr h₀ env.locals s₁.heap (kstB (fun z => if stored.contains z then u z else m₀ z) (ps c)) → News h₀ env.locals s₁.heap (news ++ own) →
      wpAny (model prog w) A (assign target env v) (fun _ s₃ => wpAny (model prog w) A (execs body env) (TPost h₀ env.locals s₁ (fun _ => news) ps stored m₀ (P (i + 1)) own [I]) E s₃) E s₁)
    (done : ∀ (c : σ) (u : PySem.Str → Option Value) (h : Heap) (tk : Nat), P vs.length c → Fr h₀ env.locals h (kstB (fun z => if stored.contains z then u z else m₀ z) (ps c)) → News h₀ env.locals h news → Q .next { s with heap := h, toks := tk }) :
    wpAny (model prog w) A (pyIter (.ref l)) (fun it s₂ => LoopAtT prog w A h₀ env target body Q E it s₂) E s :=
  loopT_list (fun _ => news) ps stored P c₀ hm F N hk hp hh turn done
/-- over a range with step 1, where only names are turned -/
theorem loopT_rangeC {news : List (Addr × Obj)} {r : Addr} {a b : Int} {ta tb tc : Tok} (n : Nat) {m₀ : PySem.Str → Option Value} (ps : σ → List (PySem.Str × Value)) (stored : List PySem.Str) (P : Nat → σ → Prop) (c₀ : σ)
    (hr : IsRange s.heap r a b 1 ta tb tc) (hs : -100000 ≤ a ∧ a ≤ 100000 ∧ -100000 ≤ b ∧ b ≤ 100000) (hn : (b - a).toNat = n)
    (F : Fr h₀ env.locals s.heap m₀) (N : News h₀ env.locals s.heap news) (hk : ∀ p ∈ ps c₀, m₀ p.1 = some p.2) (hp : P 0 c₀) (hh : A.handled = none) (hgo : ∀ I v, letOwnedTupleGo target (.ref I) v = pure ())
    (turn : ∀ (i : Nat) (t : Tok) (c : σ) (u : PySem.Str → Option Value) (s₁ : Shared) (I : Addr) (own : List (Addr × Obj)), i < n → P i c → (∀ p ∈ news, p.1 ∉ [I]) → (∀ p ∈ own, p.1 = I) → (∃ o, (I, o) ∈ own) →
      Fr h₀ env.locals s₁.heap (kstB (fun z => if stored.contains z then u z else m₀ z) (ps c)) → News h₀ env.locals s₁.heap (news ++ own) →
      wpAny (model prog w) A (assign target env (.int (a + i) t)) (fun _ s₃ => wpAny (model prog w) A (execs body env) (TPost h₀ env.locals s₁ (fun _ => news) ps stored m₀ (P (i + 1)) own [I]) E s₃) E s₁)
    (done : ∀ (c : σ) (u : PySem.Str → Option Value) (h : Heap) (tk : Nat), P n c → Fr h₀ env.locals h (kstB (fun z => if stored.contains z then u z else m₀ z) (ps c)) → News h₀ env.locals h news → Q .next { s with heap := h, toks := tk }) :
    wpAny (model prog w) A (pyIter (.ref r)) (fun it s₂ => LoopAtT prog w A h₀ env target body Q E it s₂) E s :=
  loopT_range n (fun _ => news) ps stored P c₀ hr hs hn F N hk hp hh hgo turn done
noncomputable def prod6 (os H2 H3 H4 H5 H7 H8 : Int) : Nat → Int
  | 0 => os
  | 1 => os * 2 ^ (H2.fdiv (2 * 2)).toNat
  | 2 => os * 2 ^ (H2.fdiv (2 * 2)).toNat * 3 ^ (H3.fdiv (2 * 3)).toNat
  | 3 => os * 2 ^ (H2.fdiv (2 * 2)).toNat * 3 ^ (H3.fdiv (2 * 3)).toNat * 2 ^ (H4.fdiv (2 * 4)).toNat
  | 4 => os * 2 ^ (H2.fdiv (2 * 2)).toNat * 3 ^ (H3.fdiv (2 * 3)).toNat * 2 ^ (H4.fdiv (2 * 4)).toNat * 5 ^ (H5.fdiv (2 * 5)).toNat
  | 5 => os * 2 ^ (H2.fdiv (2 * 2)).toNat * 3 ^ (H3.fdiv (2 * 3)).toNat * 2 ^ (H4.fdiv (2 * 4)).toNat * 5 ^ (H5.fdiv (2 * 5)).toNat * 7 ^ (H7.fdiv (2 * 7)).toNat
  | _ => os * 2 ^ (H2.fdiv (2 * 2)).toNat * 3 ^ (H3.fdiv (2 * 3)).toNat * 2 ^ (H4.fdiv (2 * 4)).toNat * 5 ^ (H5.fdiv (2 * 5)).toNat * 7 ^ (H7.fdiv (2 * 7)).toNat * 2 ^ (H8.fdiv (2 * 8)).toNat
end
end Mine
end
section
open PySem PySem.W PyProof.Rows
set_option Elab.async false
set_option maxRecDepth 100000
namespace Mine
/-- the product loop's turn, its six pairs at once -/
theorem prod_pick {h₀ : Heap} {L : Addr} {h : Heap} {news : List (Addr × Obj)} {i : Nat} {v : Value} {q0 q1 q2 q3 q4 q5 : Addr} {s0 s1 s2 s3 s4 s5 p0 p1 p2 p3 p4 p5 : Tok} {bs : List Bool} {n : Nat} {os H2 H3 H4 H5 H6 H7 H8 E1 E2 E3 O1 O2 O3 : Int} {u1 u2 u3 u4 u5 u6 u7 u8 : Tok} (N : News h₀ L h news)
    (hv : [Value.ref q0, .ref q1, .ref q2, .ref q3, .ref q4, .ref q5][i]? = some v)
    (m0 : (q0, ({ cls := .type "tuple", data := .seq #[.int 2 s0, .int 2 p0] } : Obj)) ∈ news)
    (m1 : (q1, ({ cls := .type "tuple", data := .seq #[.int 3 s1, .int 3 p1] } : Obj)) ∈ news)
    (m2 : (q2, ({ cls := .type "tuple", data := .seq #[.int 4 s2, .int 2 p2] } : Obj)) ∈ news)
    (m3 : (q3, ({ cls := .type "tuple", data := .seq #[.int 5 s3, .int 5 p3] } : Obj)) ∈ news)
    (m4 : (q4, ({ cls := .type "tuple", data := .seq #[.int 7 s4, .int 7 p4] } : Obj)) ∈ news)
    (m5 : (q5, ({ cls := .type "tuple", data := .seq #[.int 8 s5, .int 2 p5] } : Obj)) ∈ news)
    (TF : Told bs n os H2 H3 H4 H5 H6 H7 H8 E1 E2 E3 O1 O2 O3) :
    ∃ (a b H : Int) (ta tb tH : Tok) (q : Addr), v = .ref q ∧ News h₀ L h ((q, ({ cls := .type "tuple", data := .seq #[.int a ta, .int b tb] } : Obj)) :: news) ∧ ((0 ≤ a - 1 ∧ a - 1 < 2 ^ 63) ∧ 2 * a ≠ 0 ∧ (2 * a).natAbs < 1073741824 ∧ b.natAbs < 2 ^ 64 ∧ Builtin.Int.intBits a ≤ 64) ∧ (2 ≤ a ∧ a ≤ 8) ∧ (0 ≤ H ∧ H ≤ 1000) ∧
      [Value.int (2 * (n : Int)) u1, .int H2 u2, .int H3 u3, .int H4 u4, .int H5 u5, .int H6 u6, .int H7 u7, .int H8 u8][(a - 1).toNat]? = some (.int H tH) ∧ H.fmod (2 * a) = 0 ∧ (0 ≤ H.fdiv (2 * a) ∧ H.fdiv (2 * a) ≤ 1000000) ∧
      Builtin.Int.intBits (b ^ (H.fdiv (2 * a)).toNat) ≤ 64 ∧ prod6 os H2 H3 H4 H5 H7 H8 (i + 1) = prod6 os H2 H3 H4 H5 H7 H8 i * b ^ (H.fdiv (2 * a)).toNat := by
  have fr : ∀ {p}, p ∈ news → News h₀ L h (p :: news) := fun {p} hp x hx => N x ((List.mem_cons.mp hx).elim (fun e => e ▸ hp) id)
  have fd : ∀ {H c : Int}, 0 ≤ H → H ≤ 1000 → 0 < c → 0 ≤ H.fdiv c ∧ H.fdiv c ≤ 1000000 := by
    intro H c h0 h1 hc
    rw [Int.fdiv_eq_ediv_of_nonneg _ (Int.le_of_lt hc)]
    exact ⟨Int.ediv_nonneg h0 (Int.le_of_lt hc), Int.le_trans (Int.ediv_le_self c h0) (Int.le_trans h1 (by decide))⟩
  match i, hv with
  | 0, hv => cases hv; exact ⟨2, 2, H2, _, _, _, _, rfl, fr m0, by decide, by decide, ⟨TF.a2.1, TF.a2.2.1⟩, rfl, TF.a2.2.2, fd TF.a2.1 TF.a2.2.1 (by decide), TF.b2, rfl⟩
  | 1, hv => cases hv; exact ⟨3, 3, H3, _, _, _, _, rfl, fr m1, by decide, by decide, ⟨TF.a3.1, TF.a3.2.1⟩, rfl, TF.a3.2.2, fd TF.a3.1 TF.a3.2.1 (by decide), TF.b3, rfl⟩
  | 2, hv => cases hv; exact ⟨4, 2, H4, _, _, _, _, rfl, fr m2, by decide, by decide, ⟨TF.a4.1, TF.a4.2.1⟩, rfl, TF.a4.2.2, fd TF.a4.1 TF.a4.2.1 (by decide), TF.b4, rfl⟩
  | 3, hv => cases hv; exact ⟨5, 5, H5, _, _, _, _, rfl, fr m3, by decide, by decide, ⟨TF.a5.1, TF.a5.2.1⟩, rfl, TF.a5.2.2, fd TF.a5.1 TF.a5.2.1 (by decide), TF.b5, rfl⟩
  | 4, hv => cases hv; exact ⟨7, 7, H7, _, _, _, _, rfl, fr m4, by decide, by decide, ⟨TF.a7.1, TF.a7.2.1⟩, rfl, TF.a7.2.2, fd TF.a7.1 TF.a7.2.1 (by decide), TF.b7, rfl⟩
  | 5, hv => cases hv; exact ⟨8, 2, H8, _, _, _, _, rfl, fr m5, by decide, by decide, ⟨TF.a8.1, TF.a8.2.1⟩, rfl, TF.a8.2.2, fd TF.a8.1 TF.a8.2.1 (by decide), TF.b8, rfl⟩
  | j + 6, hv => cases hv
end Mine
end
section
open PySem PySem.W PyProof.Rows
namespace Mine
/-- leave out places of the ledger -/
theorem news_cut (a b : Nat) {h₀ : Heap} {L : Addr} {h : Heap} {l : List (Addr × Obj)} (N : News h₀ L h l) : News h₀ L h (l.take a ++ l.drop b) := fun p hp => N p ((List.mem_append.mp hp).elim List.mem_of_mem_take List.mem_of_mem_drop)
/-- a pair's tokens are of no account -/
theorem tup_gen {M : Model} {A : Around} {Q : Value → Shared → Prop} {E : Value → Shared → Prop} {s : Shared} {a b : Int} {t1 t2 : Tok} (h1 : 1 ≤ s.toks)
    (h : ∀ (t1 t2 : Tok) (tk : Nat), 1 ≤ tk → wpAny M A (newTuple [.int a t1, .int b t2]) Q E { s with toks := tk }) : wpAny M A (newTuple [.int a t1, .int b t2]) Q E s := h t1 t2 s.toks h1
end Mine
end
section
open PySem PySem.W PyProof.Rows
set_option Elab.async false
set_option pp.deepTerms false
set_option pp.deepTerms.threshold 12
namespace Mine
/-- what a walk leaves to be shown -/
noncomputable abbrev Arg {T R : Prop} (_ : PLift T → R) : Prop := T
set_option maxRecDepth 100000 in
set_option maxHeartbeats 16000000 in
def walkA := fun (hZ : PLift _) => (show PySem.Challenge.rw_sn0027_01.Holds from by
  k_with_none
  k_with "k_ne" => (first | assumption | exact Ne.symm (by assumption) | exact And.left (by assumption) | exact Ne.symm (And.left (by assumption)) | exact And.left (And.right (by assumption)) | exact Ne.symm (And.left (And.right (by assumption))) | exact And.right (by assumption) | exact Ne.symm (And.right (by assumption)) | exact And.left (And.right (And.right (by assumption))) | exact Ne.symm (And.left (And.right (And.right (by assumption)))) | exact And.right (And.right (by assumption)) | exact Ne.symm (And.right (And.right (by assumption))) | exact And.left (And.right (And.right (And.right (by assumption)))) | exact Ne.symm (And.left (And.right (And.right (And.right (by assumption))))) | exact And.right (And.right (And.right (by assumption))) | exact Ne.symm (And.right (And.right (And.right (by assumption)))) | exact And.left (And.right (And.right (And.right (And.right (by assumption))))) | exact Ne.symm (And.left (And.right (And.right (And.right (And.right (by assumption)))))) | exact And.right (And.right (And.right (And.right (by assumption)))) | exact Ne.symm (And.right (And.right (And.right (And.right (by assumption))))) | exact And.left (And.right (And.right (And.right (And.right (And.right (by assumption)))))) | exact Ne.symm (And.left (And.right (And.right (And.right (And.right (And.right (by assumption))))))) | exact And.right (And.right (And.right (And.right (And.right (by assumption))))) | exact Ne.symm (And.right (And.right (And.right (And.right (And.right (by assumption)))))) | exact And.left (And.right (And.right (And.right (And.right (And.right (And.right (by assumption))))))) | exact Ne.symm (And.left (And.right (And.right (And.right (And.right (And.right (And.right (by assumption)))))))) | exact And.right (And.right (And.right (And.right (And.right (And.right (by assumption)))))) | exact Ne.symm (And.right (And.right (And.right (And.right (And.right (And.right (by assumption))))))) | exact And.left (And.right (And.right (And.right (And.right (And.right (And.right (And.right (by assumption)))))))) | exact Ne.symm (And.left (And.right (And.right (And.right (And.right (And.right (And.right (And.right (by assumption))))))))) | exact And.right (And.right (And.right (And.right (And.right (And.right (And.right (by assumption))))))) | exact Ne.symm (And.right (And.right (And.right (And.right (And.right (And.right (And.right (by assumption)))))))) | exact And.left (And.right (And.right (And.right (And.right (And.right (And.right (And.right (And.right (by assumption))))))))) | exact Ne.symm (And.left (And.right (And.right (And.right (And.right (And.right (And.right (And.right (And.right (by assumption)))))))))) | exact And.right (And.right (And.right (And.right (And.right (And.right (And.right (And.right (by assumption)))))))) | exact Ne.symm (And.right (And.right (And.right (And.right (And.right (And.right (And.right (And.right (by assumption))))))))) | exact And.left (And.right (And.right (And.right (And.right (And.right (And.right (And.right (And.right (And.right (by assumption)))))))))) | exact Ne.symm (And.left (And.right (And.right (And.right (And.right (And.right (And.right (And.right (And.right (And.right (by assumption))))))))))) | exact And.right (And.right (And.right (And.right (And.right (And.right (And.right (And.right (And.right (by assumption))))))))) | exact Ne.symm (And.right (And.right (And.right (And.right (And.right (And.right (And.right (And.right (And.right (by assumption)))))))))) | exact And.left (And.right (And.right (And.right (And.right (And.right (And.right (And.right (And.right (And.right (And.right (by assumption))))))))))) | exact Ne.symm (And.left (And.right (And.right (And.right (And.right (And.right (And.right (And.right (And.right (And.right (And.right (by assumption)))))))))))) | exact And.right (And.right (And.right (And.right (And.right (And.right (And.right (And.right (And.right (And.right (by assumption)))))))))) | exact Ne.symm (And.right (And.right (And.right (And.right (And.right (And.right (And.right (And.right (And.right (And.right (by assumption))))))))))) | exact And.left (And.right (And.right (And.right (And.right (And.right (And.right (And.right (And.right (And.right (And.right (And.right (by assumption)))))))))))) | exact Ne.symm (And.left (And.right (And.right (And.right (And.right (And.right (And.right (And.right (And.right (And.right (And.right (And.right (by assumption))))))))))))) | exact And.right (And.right (And.right (And.right (And.right (And.right (And.right (And.right (And.right (And.right (And.right (by assumption))))))))))) | exact Ne.symm (And.right (And.right (And.right (And.right (And.right (And.right (And.right (And.right (And.right (And.right (And.right (by assumption)))))))))))) | exact And.left (And.right (And.right (And.right (And.right (And.right (And.right (And.right (And.right (And.right (And.right (And.right (And.right (by assumption))))))))))))) | exact Ne.symm (And.left (And.right (And.right (And.right (And.right (And.right (And.right (And.right (And.right (And.right (And.right (And.right (And.right (by assumption)))))))))))))) | exact And.right (And.right (And.right (And.right (And.right (And.right (And.right (And.right (And.right (And.right (And.right (And.right (by assumption)))))))))))) | exact Ne.symm (And.right (And.right (And.right (And.right (And.right (And.right (And.right (And.right (And.right (And.right (And.right (And.right (by assumption))))))))))))))
  k_with "k_all" => (first | assumption | exact allLt_ne (by assumption) | exact allLt_ne (And.right (by assumption)) | exact allLt_ne (And.right (And.right (by assumption))) | exact allLt_ne (And.right (And.right (And.right (by assumption)))) | exact allLt_ne (And.right (And.right (And.right (And.right (by assumption))))) | exact allLt_ne (And.right (And.right (And.right (And.right (And.right (by assumption)))))) | exact allLt_ne (And.right (And.right (And.right (And.right (And.right (And.right (by assumption))))))) | exact allLt_ne (And.right (And.right (And.right (And.right (And.right (And.right (And.right (by assumption)))))))))
  k_with "execs cons" => (k_here; refine wpAny_execs_cons ?_; refine wpAny_toksQ 1 (by first | exact Nat.le_add_left _ _ | assumption) ?_; (try dsimp only))
  k_with "eval ListComp" => (k_here; (with_reducible show wpAny _ _ (eval (PySem.Expr.ListComp _ [Comprehension.mk (PySem.Expr.Tuple _ _ _) _ _ _] _ _) _) _ _ _); k_dflt (refine' ListComp_pair (by k_asm) (by with_unfolding_all rfl) (by decide) (by rfl) (by decide) (by rfl) (by rfl) (by decide) ?_; k_whole))
  k_with "exec Assign cons ListComp" => (k_here; (with_reducible show wpAny _ _ (exec (PySem.Stmt.Assign [_] (PySem.Expr.ListComp _ [Comprehension.mk (PySem.Expr.Tuple _ _ _) _ _ _] _ _) _) _) _ _ _); k_dflt (refine wpAny_Assign_Name ?_))
  k_with "exec Assign cons ListComp" => (k_here; (with_reducible show wpAny _ _ (exec (PySem.Stmt.Assign [_] (PySem.Expr.ListComp _ [Comprehension.mk (PySem.Expr.Name _ _) _ [_] _] _ _) _) _) _ _ _); k_dflt (refine LCt.Assign_ListComp_T (F₀ := by k_asm) (by rfl) (by with_unfolding_all rfl) (by with_unfolding_all rfl) (by decide) (by rfl) (by decide) (by rfl) (by rfl) (by rfl) ?_))
  k_with "eval ListComp" => (k_here; (with_reducible show wpAny _ _ (eval (PySem.Expr.ListComp _ [Comprehension.mk (PySem.Expr.Name _ _) _ [_] _] _ _) _) _ _ _); k_dflt (refine LCt.ListComp_T (F₀ := by k_asm) (by with_unfolding_all rfl) (by decide) (by rfl) (by decide) (by rfl) ?_))
  k_with "CompEnd" => (refine Hold.mk ?_)
  k_with "call ref" => (k_here; refine Hold.mk ?_)
  k_with "call builtin:len" => (k_here; (with_reducible show wpAny _ _ (call (Value.builtin "len") [Value.ref _]) _ _ _); k_dflt (refine' kun_lenL (by exact News.isList (by k_asm) (by k_mem)) (by assumption) (by omega) ?_; k_whole))
  k_with "subscriptTail Name Constant ref int" => (k_here; (with_reducible show wpAny _ _ (subscriptTail _ _ (Value.ref _) (Value.int _ _)) _ _ _); k_dflt (refine' PyProof.Rows.item_listL (by exact News.isList (by k_asm) (by k_mem)) (by first | assumption | omega) (by first | assumption | omega) (by first | assumption | exact rfl) ?_ (by with_unfolding_all rfl) (by kmk_pure); k_whole))
  k_with "subscriptTail Name BinOp ref int" => (k_here; (with_reducible show wpAny _ _ (subscriptTail _ _ (Value.ref _) (Value.int _ _)) _ _ _); k_dflt (refine' PyProof.Rows.item_listL (by exact News.isList (by k_asm) (by k_mem)) (by first | assumption | omega) (by first | assumption | omega) (by first | assumption | exact rfl) ?_ (by with_unfolding_all rfl) (by kmk_pure); k_whole))
  k_with "ite" => (k_dflt (first | (refine PySem.W.ite_neg (by first | assumption | (intro hq; simp only [bne_self_eq_false, Bool.false_eq_true] at hq)) ?_) | (refine PySem.W.ite_pos (by assumption) ?_)))
  k_with "exec For Tuple List cons nil" => (k_here; (rename Fr _ _ _ _ => zlF); k_dflt (refine' @For_invT _ _ _ _ _ _ _ _ _ _ _ (heapOf zlF) ?_ (by intro _; rfl) (by passes_own); k_whole); (try dsimp only [heapOf]))
  k_with "exec For Name Call cons nil" => (k_here; (rename Fr _ _ _ _ => zlF); k_dflt (refine' @For_invT _ _ _ _ _ _ _ _ _ _ _ (heapOf zlF) ?_ (by intro _; rfl) (by passes_own); k_whole); (try dsimp only [heapOf]))
  k_with "pyIter ref" => (k_here; (with_reducible show wpAny _ _ (pyIter (Value.ref _)) (fun it s₂ => LoopAtT _ _ _ _ _ _ _ _ _ it s₂) _ _); refine Hold.mk ?_)
  k_with "subscriptTail Name Slice ref ref" => (k_here; (with_reducible show wpAny _ _ (subscriptTail _ (PySem.Expr.Slice none (some _) none _) (Value.ref _) (Value.ref _)) _ _ _); k_dflt (refine' slice_tuple_two (by k_asm) (by k_asm) (by k_mem) (by rfl) (by rfl) ?_ (by with_unfolding_all rfl) (by kmk_pure); k_whole); intro _ _ _ _ zl; (try k_lt zl))
  k_with "subscriptTail Name Slice ref ref" => (k_here; (with_reducible show wpAny _ _ (subscriptTail _ (PySem.Expr.Slice (some _) (some _) (some _) _) (Value.ref _) (Value.ref _)) _ _ _); k_dflt (refine' kmk_slice3_lit (by k_asm) (by k_asm) (by kmk_list) (by kmk_part) (by kmk_part) (by kmk_part) (by decide) (by exact pick_odd) ?_ (by with_unfolding_all rfl) (by kmk_pure) (by exact Nat.le_of_ble_eq_true rfl); k_whole); intro _ _ _ _ zl; (try k_lt zl))
  k_with "call type:zip" => (k_here; refine Hold.mk ?_)
  k_with "CompSrcT" => (refine Hold.mk ?_)
  k_with "subscriptTail Name Slice ref ref" => (k_here; (with_reducible show wpAny _ _ (subscriptTail _ (PySem.Expr.Slice (some _) none (some _) _) (Value.ref _) (Value.ref _)) _ _ _); k_dflt (refine' kmk_slice3_lit (by k_asm) (by k_asm) (by kmk_list) (by kmk_part) (by kmk_part) (by kmk_part) (by decide) (by exact rfl) ?_ (by with_unfolding_all rfl) (by kmk_pure) (by assumption); k_whole); intro _ _ _ _ zl; (try k_lt zl))
  k_with "subscriptTail Name Name ref int" => (k_here; (with_reducible show wpAny _ _ (subscriptTail _ _ (Value.ref _) (Value.int _ _)) _ _ _); k_dflt (refine' PyProof.Rows.item_listL (by exact News.isList (by k_asm) (by k_mem)) (by omega) (by omega) (by assumption) ?_ (by with_unfolding_all rfl) (by kmk_pure); k_whole))
  k_with "call type:enumerate" => (k_here; refine Hold.mk ?_)
  k_with "binaryOp Pow int int" => (k_here; (with_reducible refine pow_int_small (by first | assumption | omega) (by first | assumption | omega) (by first | assumption | omega | decide) ?_); )
  k_with "binaryOp FloorDiv int int" => (k_here; (with_reducible refine floordiv_int (by first | assumption | omega) ?_ (Or.inl (PyProof.noPylong_small (by first | assumption | omega)))); )
  k_with "binaryOp Mod int int" => (k_here; (with_reducible refine mod_int' (by first | assumption | omega) ?_))
  refine Mine.hd ?_
  k_fill
  intro kzw kzs₀ kzs₁ kzmg kzmb kzG kzY kzfa kzo kzpm kzcd kzdoc kzdV kzkV kzho kzhd kzhcd kzhD kzhmg kzhg kzargs kzvals kzas kzhpre kzhlay kzhrd kzhwl kzhlo
  have kzKX := kIn_of kzY
  have kzX := (Ground.X kzG).1
  have kzV := (Ground.X kzG).2
  have kzGL := glob_more (Ground.glob kzG (by decide +kernel) (by decide +kernel)) kzV
  refine Ground.open kzG ?_
  intro kzT kzB kzD kzTE kzTW
  try (refine guard_noD kzD (by decide +kernel) ?_; clear kzD)
  obtain ⟨_, _, kzM⟩ := bmod_of_top kzT
  have kzTA := at_of_top kzT
  try (obtain ⟨_, _, kzhe, kzB0⟩ := based_of_top kzT rfl kzhmg kzho kzhd; have kzhe' : kzcd = _ := kzhe; subst kzhe'; clear kzhe)
  clear kzhmg
  wrow_args kzhpre kzhlay kzhrd kzhwl kzhlo
  all_goals (
    first | refine callC_kw (enter_call ?_) | refine enter_call ?_ | refine callC_kw (enter_callW ?_) | refine enter_callW ?_ | w_how
    w_top on
    try refine codeAny_mono ?_ (fun _ _ g => GoodW.toG g)
    have kzK0 := below_caller (Top.heap kzT)
    w_call any kzho kzhd kzhcd kzhD kzT kzF
    clear kzhd kzTA
    k_drop
    skip)
  all_goals (try k_fold)
  have hMk : KstMark := kstMark
  k_steps
  unfold Hold
  rename IntsAre _ _ => hScr
  rename List Int => scr
  rename ¬ _ => h63
  rename List Value => svs
  have hsvz : svs.toArray.size ≤ sizeLine := by
    have := hScr.sizeZ
    rw [sizeLine_eq]
    omega
  refine' enum_src (vs := [Value.int 1 _, Value.int 0 _, Value.int 3 _, Value.int 5 _, Value.int 2 _, Value.int 4 _, Value.int 1 _]) (nn := 0) (fun i ys => ∃ hs : List Int, IntsAre ys hs ∧ hs.length = i ∧ ∀ h ∈ hs, 0 ≤ h ∧ h ≤ 5) ?hh ?F ?N ?hm ?hsz ?hg ?turn ?fin
  case hh => rfl
  case F => k_asm
  case N => k_asm
  case hm => k_mem
  case hsz => exact (by decide : 7 ≤ 1000)
  case hg => exact ⟨[], .nil, rfl, fun h hh => nomatch hh⟩
  case turn =>
    intro g
    unfold PairTurns
    rintro i ys v0 v1 own C oC D m₂ h tk E' hi ⟨hs, hH, hHl, hHb⟩ ⟨⟨t0, rfl⟩, hv1⟩ hC hx hx2 F₁ N₁ off hCD
    obtain ⟨a1, ta1, rfl⟩ := ints_mem (ns := [1, 0, 3, 5, 2, 4, 1]) (.cons _ _ (.cons _ _ (.cons _ _ (.cons _ _ (.cons _ _ (.cons _ _ (.cons _ _ .nil))))))) (List.mem_of_getElem? hv1)
    obtain ⟨ms, hms⟩ := pick_ints hScr (some (i : Int)) none (some 7)
    k_steps
    refine pair_end (by assumption) (by assumption) (fun p hp => .tail _ hp) ⟨hs ++ [(a1 + ms.sum).fmod 6], hH.append (.cons _ _ .nil), by rw [List.length_append, hHl]; rfl, ?_⟩
    intro h hh
    rcases List.mem_append.mp hh with hh | hh
    · exact hHb h hh
    · rw [List.mem_singleton.mp hh]
      rw [Int.fmod_eq_emod_of_nonneg _ (by decide)]
      omega
  case fin =>
    rintro g ys D h tk ⟨hs, hH, hHl, hHb⟩ F₁ N₁ off
    have off1 := off1_of off
    simp only [LCg.Off1, and_true] at off1
    have h7 : hs.length = 7 := hHl
    obtain ⟨n, os, LF⟩ := law_facts (law_all (hs.map fun h => h.fmod 2 == 1) (by rw [List.length_map]; exact h7))
    have hyl : ys.length = 7 := by have := hH.sizeZ; rw [List.size_toArray] at this; omega
    k_steps
    unfold Hold
    refine' src_rangeT 7 (fun i zs => IntsAre zs (dotsTo (hs.map fun h => h.fmod 2 == 1) i)) ?hh ?F ?N ?hr ?hs ?hn ?hg ?turnD ?finD
    case hh => rfl
    case F => k_asm
    case N => k_asm
    case hr => assumption
    case hs => omega
    case hn => rfl
    case hg => exact .nil
    case turnD =>
      intro i zs hi hz tv J oJ C oC D2 m₂ h₂ tk₂ E' hC hx F₂ N₂ off2 hne
      obtain ⟨v, hv⟩ : ∃ v, ys[i]? = some v := ⟨ys[i], by simp [show i < ys.length by omega]⟩
      rename IntsAre ys hs => hH
      obtain ⟨a1, ta1, rfl, ha⟩ := IntsAre.at hH i v hv
      have hv0 : ys[(0 + (i : Int)).toNat]? = some (.int a1 ta1) := by rw [pow_at]; exact hv
      have hbi : (hs.map fun h => h.fmod 2 == 1)[i]? = some (a1.fmod 2 == 1) := by rw [List.getElem?_map, ha]; rfl
      k_steps
      · unfold Hold
        rename _ = (1 : Int) => hbit
        refine comp_const (by assumption) (by assumption) off2 ?_
        rw [show 7 - (0 + (i : Int)) = 7 - (i : Int) by omega]
        exact dots_yes hz (hbi.trans (bit_yes hbit))
      · unfold Hold
        exact comp_skip (by assumption) (by assumption) off2 (dots_no hz (hbi.trans (bit_no (by assumption))))
    case finD =>
      intro g zs hz
      rw [dots_all] at hz
      have hzz : ((zs.toArray.size : Nat) : Int) = (((dotsB (hs.map fun h => h.fmod 2 == 1)).length : Nat) : Int) := by rw [hz.sizeZ]
      have hd7 := dotsB_len (hs.map fun h => h.fmod 2 == 1)
      k_steps
      unfold Hold
      refine name_of (by k_asm) (by k_mem : (_, LCg.lst zs) ∈ _) fun dA e => ?_
      subst e
      rename _ = Data.cell _ => hcT
      rw [steps_is LF] at hcT
      rw [steps_is LF]
      refine' SpecT.use (orders_spec dA zs zs.length _ n _ hz hd7 (dotsB_at _) LF.n28 _ LF.small ?hmemO) ?BO ?FO ?XO ?NO ?TO ?kO ?ddO ?uuO ?htO ?_
      case BO => k_asm
      case FO => k_asm
      case XO => k_asm
      case NO => k_asm
      case TO => k_asm
      case hmemO => k_mem
      case kO => exact rfl
      case ddO => ktr_room
      case uuO => ktr_units
      case htO => (try dsimp only); omega
      intro tO hO tkO htO FO NO
      rw [← LF.ords]
      k_steps
      unfold Hold
      rename IntsAre ys hs => hH
      refine' Spec.use (mail_spec D ys ys.length hs hH (by omega) hHb _ ?hmemM) ?BM ?FM ?XM ?NM ?TM ?kM ?ddM ?uuM ?_
      case BM => k_asm
      case FM => k_asm
      case XM => k_asm
      case NM => k_asm
      case TM => k_asm
      case hmemM => k_mem
      case kM => exact rfl
      case ddM => ktr_room
      case uuM => ktr_units
      intro tM hM tkM htM FM NM
      k_steps
      unfold Hold
      refine' SpecO.use (hooks_spec _ _ _ 8 LF.mail.1 ⟨by decide, by decide⟩ LF.mail.2 _) ?BK ?FK ?XK ?NK ?TK ?kK ?ddK ?uuK ?htK ?_
      case BK => k_asm
      case FK => k_asm
      case XK => k_asm
      case NK => k_asm
      case TK => k_asm
      case kK => exact rfl
      case ddK => ktr_room
      case uuK => ktr_units
      case htK => (try dsimp only); omega
      rintro toA oT hK tkK ⟨tvs, tkk, rfl, hIK⟩ htK FK NK hltK
      obtain ⟨H2, H3, H4, H5, H6, H7, H8, E1, E2, E3, O1, O2, O3, TF⟩ := told_facts LF (bits_all _ (by rw [List.length_map]; exact h7))
      rw [hooks8, TF.told] at hIK
      obtain ⟨u1, u2, u3, u4, u5, u6, u7, u8, rfl⟩ := ints8 hIK
      rename_i zA0 zA1 zA2 zA3 zA4 zA5 zA6 zA7 zA8 zA9 zA10 zA11 zA12 zA13 zA14 zA15 zA16 zA17 zA18 zA19 zA20 zA21 zA22 zA23 zA24 zA25 zA26 zA27 zA28 zA29 zA30 zA31 zA32 zA33 zA34 zA35 zA36 zA37 zA38 zA39 zA40 zA41 zA42 zA43 zA44 zA45 zA46 zA47 zA48 zA49 zA50 zA51 zA52 zA53 zA54 zA55 zA56 zA57 zA58 zA59 zA60 zA61 zA62 zA63
      clear kzG kzY kzo kzho kzX kzV kzB kzTE kzTW zA0 zA1 kzM zA3 kzhcd zA4 zA5 zA7 zA8 zA9 zA10 zA12 zA13 zA14 zA15 zA16 hScr zA17 h63 zA18 kzhD zA22 zA23 zA25 zA26 zA27 zA28 zA29 hsvz zA33 hHb off off1 h7 zA36 zA37 zA38 zA40 zA41 zA42 zA43 zA44 zA45 g hz hzz hd7 zA47 htM zA61 zA62 zA63
      revert kzw kzs₀ kzs₁ kzmg kzmb kzfa kzpm kzdoc kzhg kzKX kzGL kzT zA2 scr zA6 zA11 svs kzK0 zA19 zA20 zA21 zA24 qk ek hMk zA30 zA31 zA32 ys D h tk hs hH hHl n os LF hyl zA34 zA35 zA39 zs zA46 zA48 zA49 zA50 zA51 zA52 hcT dA zA53 zA54 zA55 tO hO tkO htO zA56 zA57 zA58 zA59 tM hM tkM zA60 toA hK tkK tkk htK FK hltK H2 H3 H4 H5 H6 H7 H8 E1 E2 E3 O1 O2 O3 TF u1 u2 u3 u4 u5 u6 u7 u8 NK hIK
      exact hZ.down)
set_option maxRecDepth 100000 in
set_option maxHeartbeats 16000000 in
def walkB := fun (hZ : PLift _) => (show Arg walkA from by
  intro kzw kzs₀ kzs₁ kzmg kzmb kzfa kzpm kzdoc kzhg kzKX kzGL kzT zA2 scr zA6 zA11 svs kzK0 zA19 zA20 zA21 zA24 qk ek hMk zA30 zA31 zA32 ys D h tk hs hH hHl n os LF hyl zA34 zA35 zA39 zs zA46 zA48 zA49 zA50 zA51 zA52 hcT dA zA53 zA54 zA55 tO hO tkO htO zA56 zA57 zA58 zA59 tM hM tkM zA60 toA hK tkK tkk htK FK hltK H2 H3 H4 H5 H6 H7 H8 E1 E2 E3 O1 O2 O3 TF u1 u2 u3 u4 u5 u6 u7 u8 NK hIK
  w_top off
  k_with_none
  k_with "k_ne" => (first | assumption | exact Ne.symm (by assumption) | exact And.left (by assumption) | exact Ne.symm (And.left (by assumption)) | exact And.left (And.right (by assumption)) | exact Ne.symm (And.left (And.right (by assumption))) | exact And.right (by assumption) | exact Ne.symm (And.right (by assumption)) | exact And.left (And.right (And.right (by assumption))) | exact Ne.symm (And.left (And.right (And.right (by assumption)))) | exact And.right (And.right (by assumption)) | exact Ne.symm (And.right (And.right (by assumption))) | exact And.left (And.right (And.right (And.right (by assumption)))) | exact Ne.symm (And.left (And.right (And.right (And.right (by assumption))))) | exact And.right (And.right (And.right (by assumption))) | exact Ne.symm (And.right (And.right (And.right (by assumption)))) | exact And.left (And.right (And.right (And.right (And.right (by assumption))))) | exact Ne.symm (And.left (And.right (And.right (And.right (And.right (by assumption)))))) | exact And.right (And.right (And.right (And.right (by assumption)))) | exact Ne.symm (And.right (And.right (And.right (And.right (by assumption))))) | exact And.left (And.right (And.right (And.right (And.right (And.right (by assumption)))))) | exact Ne.symm (And.left (And.right (And.right (And.right (And.right (And.right (by assumption))))))) | exact And.right (And.right (And.right (And.right (And.right (by assumption))))) | exact Ne.symm (And.right (And.right (And.right (And.right (And.right (by assumption)))))) | exact And.left (And.right (And.right (And.right (And.right (And.right (And.right (by assumption))))))) | exact Ne.symm (And.left (And.right (And.right (And.right (And.right (And.right (And.right (by assumption)))))))) | exact And.right (And.right (And.right (And.right (And.right (And.right (by assumption)))))) | exact Ne.symm (And.right (And.right (And.right (And.right (And.right (And.right (by assumption))))))) | exact And.left (And.right (And.right (And.right (And.right (And.right (And.right (And.right (by assumption)))))))) | exact Ne.symm (And.left (And.right (And.right (And.right (And.right (And.right (And.right (And.right (by assumption))))))))) | exact And.right (And.right (And.right (And.right (And.right (And.right (And.right (by assumption))))))) | exact Ne.symm (And.right (And.right (And.right (And.right (And.right (And.right (And.right (by assumption)))))))) | exact And.left (And.right (And.right (And.right (And.right (And.right (And.right (And.right (And.right (by assumption))))))))) | exact Ne.symm (And.left (And.right (And.right (And.right (And.right (And.right (And.right (And.right (And.right (by assumption)))))))))) | exact And.right (And.right (And.right (And.right (And.right (And.right (And.right (And.right (by assumption)))))))) | exact Ne.symm (And.right (And.right (And.right (And.right (And.right (And.right (And.right (And.right (by assumption))))))))) | exact And.left (And.right (And.right (And.right (And.right (And.right (And.right (And.right (And.right (And.right (by assumption)))))))))) | exact Ne.symm (And.left (And.right (And.right (And.right (And.right (And.right (And.right (And.right (And.right (And.right (by assumption))))))))))) | exact And.right (And.right (And.right (And.right (And.right (And.right (And.right (And.right (And.right (by assumption))))))))) | exact Ne.symm (And.right (And.right (And.right (And.right (And.right (And.right (And.right (And.right (And.right (by assumption)))))))))) | exact And.left (And.right (And.right (And.right (And.right (And.right (And.right (And.right (And.right (And.right (And.right (by assumption))))))))))) | exact Ne.symm (And.left (And.right (And.right (And.right (And.right (And.right (And.right (And.right (And.right (And.right (And.right (by assumption)))))))))))) | exact And.right (And.right (And.right (And.right (And.right (And.right (And.right (And.right (And.right (And.right (by assumption)))))))))) | exact Ne.symm (And.right (And.right (And.right (And.right (And.right (And.right (And.right (And.right (And.right (And.right (by assumption))))))))))) | exact And.left (And.right (And.right (And.right (And.right (And.right (And.right (And.right (And.right (And.right (And.right (And.right (by assumption)))))))))))) | exact Ne.symm (And.left (And.right (And.right (And.right (And.right (And.right (And.right (And.right (And.right (And.right (And.right (And.right (by assumption))))))))))))) | exact And.right (And.right (And.right (And.right (And.right (And.right (And.right (And.right (And.right (And.right (And.right (by assumption))))))))))) | exact Ne.symm (And.right (And.right (And.right (And.right (And.right (And.right (And.right (And.right (And.right (And.right (And.right (by assumption)))))))))))) | exact And.left (And.right (And.right (And.right (And.right (And.right (And.right (And.right (And.right (And.right (And.right (And.right (And.right (by assumption))))))))))))) | exact Ne.symm (And.left (And.right (And.right (And.right (And.right (And.right (And.right (And.right (And.right (And.right (And.right (And.right (And.right (by assumption)))))))))))))) | exact And.right (And.right (And.right (And.right (And.right (And.right (And.right (And.right (And.right (And.right (And.right (And.right (by assumption)))))))))))) | exact Ne.symm (And.right (And.right (And.right (And.right (And.right (And.right (And.right (And.right (And.right (And.right (And.right (And.right (by assumption))))))))))))))
  k_with "k_all" => (first | assumption | exact allLt_ne (by assumption) | exact allLt_ne (And.right (by assumption)) | exact allLt_ne (And.right (And.right (by assumption))) | exact allLt_ne (And.right (And.right (And.right (by assumption)))) | exact allLt_ne (And.right (And.right (And.right (And.right (by assumption))))) | exact allLt_ne (And.right (And.right (And.right (And.right (And.right (by assumption)))))) | exact allLt_ne (And.right (And.right (And.right (And.right (And.right (And.right (by assumption))))))) | exact allLt_ne (And.right (And.right (And.right (And.right (And.right (And.right (And.right (by assumption)))))))))
  k_with "execs cons" => (k_here; refine wpAny_execs_cons ?_; refine wpAny_toksQ 1 (by first | exact Nat.le_add_left _ _ | assumption) ?_; (try dsimp only))
  k_with "eval ListComp" => (k_here; (with_reducible show wpAny _ _ (eval (PySem.Expr.ListComp _ [Comprehension.mk (PySem.Expr.Tuple _ _ _) _ _ _] _ _) _) _ _ _); k_dflt (refine' ListComp_pair (by k_asm) (by with_unfolding_all rfl) (by decide) (by rfl) (by decide) (by rfl) (by rfl) (by decide) ?_; k_whole))
  k_with "exec Assign cons ListComp" => (k_here; (with_reducible show wpAny _ _ (exec (PySem.Stmt.Assign [_] (PySem.Expr.ListComp _ [Comprehension.mk (PySem.Expr.Tuple _ _ _) _ _ _] _ _) _) _) _ _ _); k_dflt (refine wpAny_Assign_Name ?_))
  k_with "exec Assign cons ListComp" => (k_here; (with_reducible show wpAny _ _ (exec (PySem.Stmt.Assign [_] (PySem.Expr.ListComp _ [Comprehension.mk (PySem.Expr.Name _ _) _ [_] _] _ _) _) _) _ _ _); k_dflt (refine LCt.Assign_ListComp_T (F₀ := by k_asm) (by rfl) (by with_unfolding_all rfl) (by with_unfolding_all rfl) (by decide) (by rfl) (by decide) (by rfl) (by rfl) (by rfl) ?_))
  k_with "eval ListComp" => (k_here; (with_reducible show wpAny _ _ (eval (PySem.Expr.ListComp _ [Comprehension.mk (PySem.Expr.Name _ _) _ [_] _] _ _) _) _ _ _); k_dflt (refine LCt.ListComp_T (F₀ := by k_asm) (by with_unfolding_all rfl) (by decide) (by rfl) (by decide) (by rfl) ?_))
  k_with "CompEnd" => (refine Hold.mk ?_)
  k_with "call ref" => (k_here; refine Hold.mk ?_)
  k_with "call builtin:len" => (k_here; (with_reducible show wpAny _ _ (call (Value.builtin "len") [Value.ref _]) _ _ _); k_dflt (refine' kun_lenL (by exact News.isList (by k_asm) (by k_mem)) (by assumption) (by omega) ?_; k_whole))
  k_with "subscriptTail Name Constant ref int" => (k_here; (with_reducible show wpAny _ _ (subscriptTail _ _ (Value.ref _) (Value.int _ _)) _ _ _); k_dflt (refine' PyProof.Rows.item_listL (by exact News.isList (by k_asm) (by k_mem)) (by first | assumption | omega) (by first | assumption | omega) (by first | assumption | exact rfl) ?_ (by with_unfolding_all rfl) (by kmk_pure); k_whole))
  k_with "subscriptTail Name BinOp ref int" => (k_here; (with_reducible show wpAny _ _ (subscriptTail _ _ (Value.ref _) (Value.int _ _)) _ _ _); k_dflt (refine' PyProof.Rows.item_listL (by exact News.isList (by k_asm) (by k_mem)) (by first | assumption | omega) (by first | assumption | omega) (by first | assumption | exact rfl) ?_ (by with_unfolding_all rfl) (by kmk_pure); k_whole))
  k_with "ite" => (k_dflt (first | (refine PySem.W.ite_neg (by first | assumption | (intro hq; simp only [bne_self_eq_false, Bool.false_eq_true] at hq)) ?_) | (refine PySem.W.ite_pos (by assumption) ?_)))
  k_with "exec For Tuple List cons nil" => (k_here; (rename Fr _ _ _ _ => zlF); k_dflt (refine' @For_invT _ _ _ _ _ _ _ _ _ _ _ (heapOf zlF) ?_ (by intro _; rfl) (by passes_own); k_whole); (try dsimp only [heapOf]))
  k_with "exec For Name Call cons nil" => (k_here; (rename Fr _ _ _ _ => zlF); k_dflt (refine' @For_invT _ _ _ _ _ _ _ _ _ _ _ (heapOf zlF) ?_ (by intro _; rfl) (by passes_own); k_whole); (try dsimp only [heapOf]))
  k_with "pyIter ref" => (k_here; (with_reducible show wpAny _ _ (pyIter (Value.ref _)) (fun it s₂ => LoopAtT _ _ _ _ _ _ _ _ _ it s₂) _ _); refine Hold.mk ?_)
  k_with "subscriptTail Name Slice ref ref" => (k_here; (with_reducible show wpAny _ _ (subscriptTail _ (PySem.Expr.Slice none (some _) none _) (Value.ref _) (Value.ref _)) _ _ _); k_dflt (refine' slice_tuple_two (by k_asm) (by k_asm) (by k_mem) (by rfl) (by rfl) ?_ (by with_unfolding_all rfl) (by kmk_pure); k_whole); intro _ _ _ _ zl; (try k_lt zl))
  k_with "subscriptTail Name Slice ref ref" => (k_here; (with_reducible show wpAny _ _ (subscriptTail _ (PySem.Expr.Slice (some _) (some _) (some _) _) (Value.ref _) (Value.ref _)) _ _ _); k_dflt (refine' kmk_slice3_lit (by k_asm) (by k_asm) (by kmk_list) (by kmk_part) (by kmk_part) (by kmk_part) (by decide) (by exact pick_odd) ?_ (by with_unfolding_all rfl) (by kmk_pure) (by exact Nat.le_of_ble_eq_true rfl); k_whole); intro _ _ _ _ zl; (try k_lt zl))
  k_with "call type:zip" => (k_here; refine Hold.mk ?_)
  k_with "CompSrcT" => (refine Hold.mk ?_)
  k_with "subscriptTail Name Slice ref ref" => (k_here; (with_reducible show wpAny _ _ (subscriptTail _ (PySem.Expr.Slice (some _) none (some _) _) (Value.ref _) (Value.ref _)) _ _ _); k_dflt (refine' kmk_slice3_lit (by k_asm) (by k_asm) (by kmk_list) (by kmk_part) (by kmk_part) (by kmk_part) (by decide) (by exact rfl) ?_ (by with_unfolding_all rfl) (by kmk_pure) (by assumption); k_whole); intro _ _ _ _ zl; (try k_lt zl))
  k_with "subscriptTail Name Name ref int" => (k_here; (with_reducible show wpAny _ _ (subscriptTail _ _ (Value.ref _) (Value.int _ _)) _ _ _); k_dflt (refine' PyProof.Rows.item_listL (by exact News.isList (by k_asm) (by k_mem)) (by omega) (by omega) (by assumption) ?_ (by with_unfolding_all rfl) (by kmk_pure); k_whole))
  k_with "call type:enumerate" => (k_here; refine Hold.mk ?_)
  k_with "binaryOp Pow int int" => (k_here; (with_reducible refine pow_int_small (by first | assumption | omega) (by first | assumption | omega) (by first | assumption | omega | decide) ?_); )
  k_with "binaryOp FloorDiv int int" => (k_here; (with_reducible refine floordiv_int (by first | assumption | omega) ?_ (Or.inl (PyProof.noPylong_small (by first | assumption | omega)))); )
  k_with "binaryOp Mod int int" => (k_here; (with_reducible refine mod_int' (by first | assumption | omega) ?_))
  k_steps
  unfold Hold
  refine' @loopT_listC _ _ _ _ _ _ _ _ _ _ (Int × Tok) _ _ [_, _, _, _, _, _] 0 _ (fun c => [(PySem.Str.ofString "product", .int c.1 c.2)]) [PySem.Str.ofString "size", PySem.Str.ofString "prime"] (fun i c => c.1 = prod6 os H2 H3 H4 H5 H7 H8 i) (os, _) ?hmP ?FP ?NP ?hkP ?hpP ?hhP ?turnP ?doneP
  case FP => k_asm
  case NP => k_asm
  case hmP => k_mem
  case hkP => kst_all
  case hpP => rfl
  case hhP => rfl
  case turnP =>
    rintro i v ⟨pr, pt⟩ u sP I own hv hP hoff hown hIo F₁ N₁
    dsimp only [kstB] at F₁ hP
    simp only [List.cons_append, List.nil_append] at N₁
    obtain ⟨a, b, H, ta, tb, tH, q, rfl, N₄, ⟨⟨ha1, ha2⟩, ha3, ha4, hbn, hb2a⟩, hab, hHb, hget, hfm, hfd, hbits, hstep⟩ := prod_pick (u1 := u1) (u2 := u2) (u3 := u3) (u4 := u4) (u5 := u5) (u6 := u6) (u7 := u7) (u8 := u8) N₁ hv (by k_mem) (by k_mem) (by k_mem) (by k_mem) (by k_mem) (by k_mem) TF
    clear N₁
    have hcG : ¬ ((H.fmod (2 * a) != 0) = true) := by rw [hfm]; decide
    obtain ⟨hfd1, hfd2⟩ := hfd
    k_steps
    refine' tend (_, _) ?F ?N ?hn hoff ?hk ?hr ?hp
    case F => k_asm
    case N => exact cb_drop (by k_asm) (fun p hp => .tail _ hp)
    case hn => kst_in
    case hk => kst_all
    case hr => ksw_same
    case hp => subst hP; exact hstep.symm
  case doneP =>
    rintro ⟨pr, pt⟩ u h tk hP F₁ N₁
    dsimp only [kstB] at F₁ hP
    replace N₁ := news_cut 0 7 N₁
    simp only [List.take_zero, List.drop_succ_cons, List.drop_zero, List.nil_append] at N₁
    have hpr : pr = factI n := hP.trans TF.prod
    subst hpr
    clear hP
    k_steps
    unfold Hold
    have hn28 := LF.n28
    refine' @loopT_rangeC _ _ _ _ _ _ _ _ _ _ (Int × Tok) _ _ _ _ _ _ _ ((n : Int) + 1 - 2).toNat _ (fun c => [(PySem.Str.ofString "due", .int c.1 c.2)]) [PySem.Str.ofString "k"] (fun i c => c.1 = factI (i + 1)) (1, _) ?hrD ?hsD ?hnD ?FD ?ND ?hkD ?hpD ?hhD ?hgoD ?turnD ?doneD
    case hrD => assumption
    case hsD => omega
    case hnD => rfl
    case FD => k_asm
    case ND => k_asm
    case hkD => kst_all
    case hpD => rfl
    case hhD => rfl
    case hgoD => intro I v; rfl
    case turnD =>
      rintro i t ⟨du, dt⟩ u2 sP I own hi hP hoff hown hIo F₂ N₂
      dsimp only [kstB] at F₂ hP
      simp only [List.cons_append, List.nil_append] at N₂
      have hbk : Builtin.Int.intBits (2 + (i : Int)) ≤ 64 := intBits_le_64 (by omega) (by omega)
      k_steps
      refine' tend (_, _) ?F ?N ?hn hoff ?hk ?hr ?hp
      case F => k_asm
      case N => k_asm
      case hn => kst_in
      case hk => kst_all
      case hr => ksw_same
      case hp =>
        subst hP
        show factI (i + 1) * (2 + (i : Int)) = factI (i + 1) * (((i + 1 : Nat) : Int) + 1)
        congr 1
        omega
    case doneD =>
      rintro ⟨du, dt⟩ u2 h2 tk2 hP F₂ N₂
      dsimp only [kstB] at F₂ hP
      have hdu : du = factI n := by
        rw [hP]
        cases n with
        | zero => rfl
        | succ n => congr 1; omega
      subst hdu
      clear hP
      rename_i zB0 zB1 zB2 zB3 zB4 zB5 zB6 zB7 zB8 zB9 zB10 zB11 zB12 zB13 zB14 zB15 zB16 zB17 zB18 zB19 zB20 zB21 zB22 zB23 zB24 zB25 zB26 zB27 zB28 zB29 zB30 zB31 zB32 zB33 zB34 zB35 zB36 zB37 zB38 zB39 zB40 zB41 zB42 zB43
      clear kzGL svs zA21 zA31 hH zA34 zA39 zA46 zA55 hM hK hltK zB3 zB4 zB6 zB8 zB10 zB11 zB13 zB14 zB16 zB17 zB19 zB20 zB22 zB23 zB26 zB29 zB30 zB32 zB33 zB34 zB38 zB39 zB40 zB41 zB42 zB43 hn28
      revert kzw kzs₀ kzs₁ kzmg kzmb kzfa kzpm kzdoc kzhg kzKX kzT zA2 scr zA6 zA11 kzK0 zA19 zA20 zA24 qk ek hMk zA30 zA32 ys D zB0 zB1 hs hHl n os LF hyl zA35 zs zA48 zA49 zA50 zA51 zA52 hcT dA zA53 zA54 tO hO tkO htO zA56 zA57 zA58 zA59 tM tkM zA60 toA tkK tkk htK H2 H3 H4 H5 H6 H7 H8 E1 E2 E3 O1 O2 O3 TF u1 zB2 u3 u4 u5 u6 u7 u8 hIK zB5 zB7 zB9 zB12 zB15 zB18 zB21 zB24 zB25 zB27 zB28 pt u h tk N₁ F₁ zB31 zB35 zB36 zB37 dt u2 h2 tk2 N₂ F₂
      exact hZ.down)
set_option maxRecDepth 100000 in
set_option maxHeartbeats 16000000 in
def walkC := fun (hZ : PLift _) => (show Arg walkB from by
  intro kzw kzs₀ kzs₁ kzmg kzmb kzfa kzpm kzdoc kzhg kzKX kzT zA2 scr zA6 zA11 kzK0 zA19 zA20 zA24 qk ek hMk zA30 zA32 ys D zB0 zB1 hs hHl n os LF hyl zA35 zs zA48 zA49 zA50 zA51 zA52 hcT dA zA53 zA54 tO hO tkO htO zA56 zA57 zA58 zA59 tM tkM zA60 toA tkK tkk htK H2 H3 H4 H5 H6 H7 H8 E1 E2 E3 O1 O2 O3 TF u1 zB2 u3 u4 u5 u6 u7 u8 hIK zB5 zB7 zB9 zB12 zB15 zB18 zB21 zB24 zB25 zB27 zB28 pt u h tk N₁ F₁ zB31 zB35 zB36 zB37 dt u2 h2 tk2 N₂ F₂
  k_with_none
  k_with "k_ne" => (first | assumption | exact Ne.symm (by assumption) | exact And.left (by assumption) | exact Ne.symm (And.left (by assumption)) | exact And.left (And.right (by assumption)) | exact Ne.symm (And.left (And.right (by assumption))) | exact And.right (by assumption) | exact Ne.symm (And.right (by assumption)) | exact And.left (And.right (And.right (by assumption))) | exact Ne.symm (And.left (And.right (And.right (by assumption)))) | exact And.right (And.right (by assumption)) | exact Ne.symm (And.right (And.right (by assumption))) | exact And.left (And.right (And.right (And.right (by assumption)))) | exact Ne.symm (And.left (And.right (And.right (And.right (by assumption))))) | exact And.right (And.right (And.right (by assumption))) | exact Ne.symm (And.right (And.right (And.right (by assumption)))) | exact And.left (And.right (And.right (And.right (And.right (by assumption))))) | exact Ne.symm (And.left (And.right (And.right (And.right (And.right (by assumption)))))) | exact And.right (And.right (And.right (And.right (by assumption)))) | exact Ne.symm (And.right (And.right (And.right (And.right (by assumption))))) | exact And.left (And.right (And.right (And.right (And.right (And.right (by assumption)))))) | exact Ne.symm (And.left (And.right (And.right (And.right (And.right (And.right (by assumption))))))) | exact And.right (And.right (And.right (And.right (And.right (by assumption))))) | exact Ne.symm (And.right (And.right (And.right (And.right (And.right (by assumption)))))) | exact And.left (And.right (And.right (And.right (And.right (And.right (And.right (by assumption))))))) | exact Ne.symm (And.left (And.right (And.right (And.right (And.right (And.right (And.right (by assumption)))))))) | exact And.right (And.right (And.right (And.right (And.right (And.right (by assumption)))))) | exact Ne.symm (And.right (And.right (And.right (And.right (And.right (And.right (by assumption))))))) | exact And.left (And.right (And.right (And.right (And.right (And.right (And.right (And.right (by assumption)))))))) | exact Ne.symm (And.left (And.right (And.right (And.right (And.right (And.right (And.right (And.right (by assumption))))))))) | exact And.right (And.right (And.right (And.right (And.right (And.right (And.right (by assumption))))))) | exact Ne.symm (And.right (And.right (And.right (And.right (And.right (And.right (And.right (by assumption)))))))) | exact And.left (And.right (And.right (And.right (And.right (And.right (And.right (And.right (And.right (by assumption))))))))) | exact Ne.symm (And.left (And.right (And.right (And.right (And.right (And.right (And.right (And.right (And.right (by assumption)))))))))) | exact And.right (And.right (And.right (And.right (And.right (And.right (And.right (And.right (by assumption)))))))) | exact Ne.symm (And.right (And.right (And.right (And.right (And.right (And.right (And.right (And.right (by assumption))))))))) | exact And.left (And.right (And.right (And.right (And.right (And.right (And.right (And.right (And.right (And.right (by assumption)))))))))) | exact Ne.symm (And.left (And.right (And.right (And.right (And.right (And.right (And.right (And.right (And.right (And.right (by assumption))))))))))) | exact And.right (And.right (And.right (And.right (And.right (And.right (And.right (And.right (And.right (by assumption))))))))) | exact Ne.symm (And.right (And.right (And.right (And.right (And.right (And.right (And.right (And.right (And.right (by assumption)))))))))) | exact And.left (And.right (And.right (And.right (And.right (And.right (And.right (And.right (And.right (And.right (And.right (by assumption))))))))))) | exact Ne.symm (And.left (And.right (And.right (And.right (And.right (And.right (And.right (And.right (And.right (And.right (And.right (by assumption)))))))))))) | exact And.right (And.right (And.right (And.right (And.right (And.right (And.right (And.right (And.right (And.right (by assumption)))))))))) | exact Ne.symm (And.right (And.right (And.right (And.right (And.right (And.right (And.right (And.right (And.right (And.right (by assumption))))))))))) | exact And.left (And.right (And.right (And.right (And.right (And.right (And.right (And.right (And.right (And.right (And.right (And.right (by assumption)))))))))))) | exact Ne.symm (And.left (And.right (And.right (And.right (And.right (And.right (And.right (And.right (And.right (And.right (And.right (And.right (by assumption))))))))))))) | exact And.right (And.right (And.right (And.right (And.right (And.right (And.right (And.right (And.right (And.right (And.right (by assumption))))))))))) | exact Ne.symm (And.right (And.right (And.right (And.right (And.right (And.right (And.right (And.right (And.right (And.right (And.right (by assumption)))))))))))) | exact And.left (And.right (And.right (And.right (And.right (And.right (And.right (And.right (And.right (And.right (And.right (And.right (And.right (by assumption))))))))))))) | exact Ne.symm (And.left (And.right (And.right (And.right (And.right (And.right (And.right (And.right (And.right (And.right (And.right (And.right (And.right (by assumption)))))))))))))) | exact And.right (And.right (And.right (And.right (And.right (And.right (And.right (And.right (And.right (And.right (And.right (And.right (by assumption)))))))))))) | exact Ne.symm (And.right (And.right (And.right (And.right (And.right (And.right (And.right (And.right (And.right (And.right (And.right (And.right (by assumption))))))))))))))
  k_with "k_all" => (first | assumption | exact allLt_ne (by assumption) | exact allLt_ne (And.right (by assumption)) | exact allLt_ne (And.right (And.right (by assumption))) | exact allLt_ne (And.right (And.right (And.right (by assumption)))) | exact allLt_ne (And.right (And.right (And.right (And.right (by assumption))))) | exact allLt_ne (And.right (And.right (And.right (And.right (And.right (by assumption)))))) | exact allLt_ne (And.right (And.right (And.right (And.right (And.right (And.right (by assumption))))))) | exact allLt_ne (And.right (And.right (And.right (And.right (And.right (And.right (And.right (by assumption)))))))))
  k_with "execs cons" => (k_here; refine wpAny_execs_cons ?_; refine wpAny_toksQ 1 (by first | exact Nat.le_add_left _ _ | assumption) ?_; (try dsimp only))
  k_with "eval ListComp" => (k_here; (with_reducible show wpAny _ _ (eval (PySem.Expr.ListComp _ [Comprehension.mk (PySem.Expr.Tuple _ _ _) _ _ _] _ _) _) _ _ _); k_dflt (refine' ListComp_pair (by k_asm) (by with_unfolding_all rfl) (by decide) (by rfl) (by decide) (by rfl) (by rfl) (by decide) ?_; k_whole))
  k_with "exec Assign cons ListComp" => (k_here; (with_reducible show wpAny _ _ (exec (PySem.Stmt.Assign [_] (PySem.Expr.ListComp _ [Comprehension.mk (PySem.Expr.Tuple _ _ _) _ _ _] _ _) _) _) _ _ _); k_dflt (refine wpAny_Assign_Name ?_))
  k_with "exec Assign cons ListComp" => (k_here; (with_reducible show wpAny _ _ (exec (PySem.Stmt.Assign [_] (PySem.Expr.ListComp _ [Comprehension.mk (PySem.Expr.Name _ _) _ [_] _] _ _) _) _) _ _ _); k_dflt (refine LCt.Assign_ListComp_T (F₀ := by k_asm) (by rfl) (by with_unfolding_all rfl) (by with_unfolding_all rfl) (by decide) (by rfl) (by decide) (by rfl) (by rfl) (by rfl) ?_))
  k_with "eval ListComp" => (k_here; (with_reducible show wpAny _ _ (eval (PySem.Expr.ListComp _ [Comprehension.mk (PySem.Expr.Name _ _) _ [_] _] _ _) _) _ _ _); k_dflt (refine LCt.ListComp_T (F₀ := by k_asm) (by with_unfolding_all rfl) (by decide) (by rfl) (by decide) (by rfl) ?_))
  k_with "CompEnd" => (refine Hold.mk ?_)
  k_with "call ref" => (k_here; refine Hold.mk ?_)
  k_with "call builtin:len" => (k_here; (with_reducible show wpAny _ _ (call (Value.builtin "len") [Value.ref _]) _ _ _); k_dflt (refine' kun_lenL (by exact News.isList (by k_asm) (by k_mem)) (by assumption) (by omega) ?_; k_whole))
  k_with "subscriptTail Name Constant ref int" => (k_here; (with_reducible show wpAny _ _ (subscriptTail _ _ (Value.ref _) (Value.int _ _)) _ _ _); k_dflt (refine' PyProof.Rows.item_listL (by exact News.isList (by k_asm) (by k_mem)) (by first | assumption | omega) (by first | assumption | omega) (by first | assumption | exact rfl) ?_ (by with_unfolding_all rfl) (by kmk_pure); k_whole))
  k_with "subscriptTail Name BinOp ref int" => (k_here; (with_reducible show wpAny _ _ (subscriptTail _ _ (Value.ref _) (Value.int _ _)) _ _ _); k_dflt (refine' PyProof.Rows.item_listL (by exact News.isList (by k_asm) (by k_mem)) (by first | assumption | omega) (by first | assumption | omega) (by first | assumption | exact rfl) ?_ (by with_unfolding_all rfl) (by kmk_pure); k_whole))
  k_with "ite" => (k_dflt (first | (refine PySem.W.ite_neg (by first | assumption | (intro hq; simp only [bne_self_eq_false, Bool.false_eq_true] at hq)) ?_) | (refine PySem.W.ite_pos (by assumption) ?_)))
  k_with "exec For Tuple List cons nil" => (k_here; (rename Fr _ _ _ _ => zlF); k_dflt (refine' @For_invT _ _ _ _ _ _ _ _ _ _ _ (heapOf zlF) ?_ (by intro _; rfl) (by passes_own); k_whole); (try dsimp only [heapOf]))
  k_with "exec For Name Call cons nil" => (k_here; (rename Fr _ _ _ _ => zlF); k_dflt (refine' @For_invT _ _ _ _ _ _ _ _ _ _ _ (heapOf zlF) ?_ (by intro _; rfl) (by passes_own); k_whole); (try dsimp only [heapOf]))
  k_with "pyIter ref" => (k_here; (with_reducible show wpAny _ _ (pyIter (Value.ref _)) (fun it s₂ => LoopAtT _ _ _ _ _ _ _ _ _ it s₂) _ _); refine Hold.mk ?_)
  k_with "subscriptTail Name Slice ref ref" => (k_here; (with_reducible show wpAny _ _ (subscriptTail _ (PySem.Expr.Slice none (some _) none _) (Value.ref _) (Value.ref _)) _ _ _); k_dflt (refine' slice_tuple_two (by k_asm) (by k_asm) (by k_mem) (by rfl) (by rfl) ?_ (by with_unfolding_all rfl) (by kmk_pure); k_whole); intro _ _ _ _ zl; (try k_lt zl))
  k_with "subscriptTail Name Slice ref ref" => (k_here; (with_reducible show wpAny _ _ (subscriptTail _ (PySem.Expr.Slice (some _) (some _) (some _) _) (Value.ref _) (Value.ref _)) _ _ _); k_dflt (refine' kmk_slice3_lit (by k_asm) (by k_asm) (by kmk_list) (by kmk_part) (by kmk_part) (by kmk_part) (by decide) (by exact pick_odd) ?_ (by with_unfolding_all rfl) (by kmk_pure) (by exact Nat.le_of_ble_eq_true rfl); k_whole); intro _ _ _ _ zl; (try k_lt zl))
  k_with "call type:zip" => (k_here; refine Hold.mk ?_)
  k_with "CompSrcT" => (refine Hold.mk ?_)
  k_with "subscriptTail Name Slice ref ref" => (k_here; (with_reducible show wpAny _ _ (subscriptTail _ (PySem.Expr.Slice (some _) none (some _) _) (Value.ref _) (Value.ref _)) _ _ _); k_dflt (refine' kmk_slice3_lit (by k_asm) (by k_asm) (by kmk_list) (by kmk_part) (by kmk_part) (by kmk_part) (by decide) (by exact rfl) ?_ (by with_unfolding_all rfl) (by kmk_pure) (by assumption); k_whole); intro _ _ _ _ zl; (try k_lt zl))
  k_with "subscriptTail Name Name ref int" => (k_here; (with_reducible show wpAny _ _ (subscriptTail _ _ (Value.ref _) (Value.int _ _)) _ _ _); k_dflt (refine' PyProof.Rows.item_listL (by exact News.isList (by k_asm) (by k_mem)) (by omega) (by omega) (by assumption) ?_ (by with_unfolding_all rfl) (by kmk_pure); k_whole))
  k_with "call type:enumerate" => (k_here; refine Hold.mk ?_)
  k_with "binaryOp Pow int int" => (k_here; (with_reducible refine pow_int_small (by first | assumption | omega) (by first | assumption | omega) (by first | assumption | omega | decide) ?_); )
  k_with "binaryOp FloorDiv int int" => (k_here; (with_reducible refine floordiv_int (by first | assumption | omega) ?_ (Or.inl (PyProof.noPylong_small (by first | assumption | omega)))); )
  k_with "binaryOp Mod int int" => (k_here; (with_reducible refine mod_int' (by first | assumption | omega) ?_))
  k_steps
  unfold Hold
  refine' SpecP.use (part_spec _ _ LF.mail.1 _) ?BP2 ?FP2 ?XP2 ?NP2 ?TP2 ?kP2 ?ddP2 ?uuP2 ?_
  case BP2 => k_asm
  case FP2 => k_asm
  case XP2 => k_asm
  case NP2 => k_asm
  case TP2 => k_asm
  case kP2 => exact rfl
  case ddP2 => ktr_room
  case uuP2 => ktr_units
  rintro pA pO hP2 tkP2 ⟨p1, p2, p3, rfl⟩ htP2 FP2 NP2 hltP2
  k_steps
  unfold Hold
  refine' SpecO.use (hooks_spec _ _ _ 3 LF.even.1 ⟨by decide, by decide⟩ LF.even.2 _) ?BE3 ?FE3 ?XE3 ?NE3 ?TE3 ?kE3 ?ddE3 ?uuE3 ?htE3 ?_
  case BE3 => k_asm
  case FE3 => k_asm
  case XE3 => k_asm
  case NE3 => k_asm
  case TE3 => k_asm
  case kE3 => exact rfl
  case ddE3 => ktr_room
  case uuE3 => ktr_units
  case htE3 => (try dsimp only); omega
  rintro eA eO hE3 tkE3 ⟨evs, ek, rfl, hIE⟩ htE3 FE3 NE3 hltE3
  have hIE' : IntsAre evs [E1, E2, E3] := by rw [← TF.even]; exact hIE
  obtain ⟨v1, v2, v3, rfl⟩ := ints3 hIE'
  k_steps
  unfold Hold
  refine' SpecO.use (hooks_spec _ _ _ 3 LF.odd.1 ⟨by decide, by decide⟩ LF.odd.2 _) ?BO3 ?FO3 ?XO3 ?NO3 ?TO3 ?kO3 ?ddO3 ?uuO3 ?htO3 ?_
  case BO3 => k_asm
  case FO3 => k_asm
  case XO3 => k_asm
  case NO3 => k_asm
  case TO3 => k_asm
  case kO3 => exact rfl
  case ddO3 => ktr_room
  case uuO3 => ktr_units
  case htO3 => (try dsimp only); omega
  rintro oA oO hO3 tkO3 ⟨ovs, ok, rfl, hIO⟩ htO3 FO3 NO3 hltO3
  have hIO' : IntsAre ovs [O1, O2, O3] := by rw [← TF.odd]; exact hIO
  obtain ⟨w1, w2, w3, rfl⟩ := ints3 hIO'
  refine name_of (by k_asm) (by k_mem : (_, listOf [Value.int H2 _, Value.int H4 _, Value.int H6 _].toArray 0) ∈ _) fun sA e => ?_
  subst e
  rename_i zC0 zC1 zC2 zC3 zC4 zC5 zC6 zC7 zC8 zC9 zC10 zC11 zC12 zC13 zC14
  clear zA32 hHl tkM hIK zB5 zB7 zB25 zB28 N₁ zB31 zB35 zB36 zB37 zC1 zC2 hltP2 zC9 zC10 zC13 FE3 zC14 zl hltE3 NE3 hltO3
  revert kzw kzs₀ kzs₁ kzmg kzmb kzfa kzpm kzdoc kzhg kzKX kzT zA2 scr zA6 zA11 kzK0 zA19 zA20 zA24 qk zC0 hMk zA30 ys D zB0 zB1 hs n os LF hyl zA35 zs zA48 zA49 zA50 zA51 zA52 hcT dA zA53 zA54 tO hO tkO htO zA56 zA57 zA58 zA59 tM zA60 toA tkK tkk htK H2 H3 H4 H5 H6 H7 H8 E1 E2 E3 O1 O2 O3 TF u1 zB2 u3 u4 u5 u6 u7 u8 zB9 zB12 zB15 zB18 zB21 zB24 zB27 pt u h tk F₁ dt u2 h2 tk2 N₂ F₂ pA hP2 tkP2 p1 p2 p3 htP2 zC3 zC4 zC5 zC6 zC7 zC8 zC11 zC12 eA hE3 tkE3 ek htE3 v1 v2 v3 hIE hIE' oA hO3 tkO3 ok htO3 FO3 w1 w2 w3 hIO hIO' sA NO3
  exact hZ.down)
set_option maxRecDepth 100000 in
set_option maxHeartbeats 16000000 in
def walkD := fun (hZ : PLift _) => (show Arg walkC from by
  intro kzw kzs₀ kzs₁ kzmg kzmb kzfa kzpm kzdoc kzhg kzKX kzT zA2 scr zA6 zA11 kzK0 zA19 zA20 zA24 qk zC0 hMk zA30 ys D zB0 zB1 hs n os LF hyl zA35 zs zA48 zA49 zA50 zA51 zA52 hcT dA zA53 zA54 tO hO tkO htO zA56 zA57 zA58 zA59 tM zA60 toA tkK tkk htK H2 H3 H4 H5 H6 H7 H8 E1 E2 E3 O1 O2 O3 TF u1 zB2 u3 u4 u5 u6 u7 u8 zB9 zB12 zB15 zB18 zB21 zB24 zB27 pt u h tk F₁ dt u2 h2 tk2 N₂ F₂ pA hP2 tkP2 p1 p2 p3 htP2 zC3 zC4 zC5 zC6 zC7 zC8 zC11 zC12 eA hE3 tkE3 ek htE3 v1 v2 v3 hIE hIE' oA hO3 tkO3 ok htO3 FO3 w1 w2 w3 hIO hIO' sA NO3
  k_with_none
  k_with "k_ne" => (first | assumption | exact Ne.symm (by assumption) | exact And.left (by assumption) | exact Ne.symm (And.left (by assumption)) | exact And.left (And.right (by assumption)) | exact Ne.symm (And.left (And.right (by assumption))) | exact And.right (by assumption) | exact Ne.symm (And.right (by assumption)) | exact And.left (And.right (And.right (by assumption))) | exact Ne.symm (And.left (And.right (And.right (by assumption)))) | exact And.right (And.right (by assumption)) | exact Ne.symm (And.right (And.right (by assumption))) | exact And.left (And.right (And.right (And.right (by assumption)))) | exact Ne.symm (And.left (And.right (And.right (And.right (by assumption))))) | exact And.right (And.right (And.right (by assumption))) | exact Ne.symm (And.right (And.right (And.right (by assumption)))) | exact And.left (And.right (And.right (And.right (And.right (by assumption))))) | exact Ne.symm (And.left (And.right (And.right (And.right (And.right (by assumption)))))) | exact And.right (And.right (And.right (And.right (by assumption)))) | exact Ne.symm (And.right (And.right (And.right (And.right (by assumption))))) | exact And.left (And.right (And.right (And.right (And.right (And.right (by assumption)))))) | exact Ne.symm (And.left (And.right (And.right (And.right (And.right (And.right (by assumption))))))) | exact And.right (And.right (And.right (And.right (And.right (by assumption))))) | exact Ne.symm (And.right (And.right (And.right (And.right (And.right (by assumption)))))) | exact And.left (And.right (And.right (And.right (And.right (And.right (And.right (by assumption))))))) | exact Ne.symm (And.left (And.right (And.right (And.right (And.right (And.right (And.right (by assumption)))))))) | exact And.right (And.right (And.right (And.right (And.right (And.right (by assumption)))))) | exact Ne.symm (And.right (And.right (And.right (And.right (And.right (And.right (by assumption))))))) | exact And.left (And.right (And.right (And.right (And.right (And.right (And.right (And.right (by assumption)))))))) | exact Ne.symm (And.left (And.right (And.right (And.right (And.right (And.right (And.right (And.right (by assumption))))))))) | exact And.right (And.right (And.right (And.right (And.right (And.right (And.right (by assumption))))))) | exact Ne.symm (And.right (And.right (And.right (And.right (And.right (And.right (And.right (by assumption)))))))) | exact And.left (And.right (And.right (And.right (And.right (And.right (And.right (And.right (And.right (by assumption))))))))) | exact Ne.symm (And.left (And.right (And.right (And.right (And.right (And.right (And.right (And.right (And.right (by assumption)))))))))) | exact And.right (And.right (And.right (And.right (And.right (And.right (And.right (And.right (by assumption)))))))) | exact Ne.symm (And.right (And.right (And.right (And.right (And.right (And.right (And.right (And.right (by assumption))))))))) | exact And.left (And.right (And.right (And.right (And.right (And.right (And.right (And.right (And.right (And.right (by assumption)))))))))) | exact Ne.symm (And.left (And.right (And.right (And.right (And.right (And.right (And.right (And.right (And.right (And.right (by assumption))))))))))) | exact And.right (And.right (And.right (And.right (And.right (And.right (And.right (And.right (And.right (by assumption))))))))) | exact Ne.symm (And.right (And.right (And.right (And.right (And.right (And.right (And.right (And.right (And.right (by assumption)))))))))) | exact And.left (And.right (And.right (And.right (And.right (And.right (And.right (And.right (And.right (And.right (And.right (by assumption))))))))))) | exact Ne.symm (And.left (And.right (And.right (And.right (And.right (And.right (And.right (And.right (And.right (And.right (And.right (by assumption)))))))))))) | exact And.right (And.right (And.right (And.right (And.right (And.right (And.right (And.right (And.right (And.right (by assumption)))))))))) | exact Ne.symm (And.right (And.right (And.right (And.right (And.right (And.right (And.right (And.right (And.right (And.right (by assumption))))))))))) | exact And.left (And.right (And.right (And.right (And.right (And.right (And.right (And.right (And.right (And.right (And.right (And.right (by assumption)))))))))))) | exact Ne.symm (And.left (And.right (And.right (And.right (And.right (And.right (And.right (And.right (And.right (And.right (And.right (And.right (by assumption))))))))))))) | exact And.right (And.right (And.right (And.right (And.right (And.right (And.right (And.right (And.right (And.right (And.right (by assumption))))))))))) | exact Ne.symm (And.right (And.right (And.right (And.right (And.right (And.right (And.right (And.right (And.right (And.right (And.right (by assumption)))))))))))) | exact And.left (And.right (And.right (And.right (And.right (And.right (And.right (And.right (And.right (And.right (And.right (And.right (And.right (by assumption))))))))))))) | exact Ne.symm (And.left (And.right (And.right (And.right (And.right (And.right (And.right (And.right (And.right (And.right (And.right (And.right (And.right (by assumption)))))))))))))) | exact And.right (And.right (And.right (And.right (And.right (And.right (And.right (And.right (And.right (And.right (And.right (And.right (by assumption)))))))))))) | exact Ne.symm (And.right (And.right (And.right (And.right (And.right (And.right (And.right (And.right (And.right (And.right (And.right (And.right (by assumption))))))))))))))
  k_with "k_all" => (first | assumption | exact allLt_ne (by assumption) | exact allLt_ne (And.right (by assumption)) | exact allLt_ne (And.right (And.right (by assumption))) | exact allLt_ne (And.right (And.right (And.right (by assumption)))) | exact allLt_ne (And.right (And.right (And.right (And.right (by assumption))))) | exact allLt_ne (And.right (And.right (And.right (And.right (And.right (by assumption)))))) | exact allLt_ne (And.right (And.right (And.right (And.right (And.right (And.right (by assumption))))))) | exact allLt_ne (And.right (And.right (And.right (And.right (And.right (And.right (And.right (by assumption)))))))))
  k_with "execs cons" => (k_here; refine wpAny_execs_cons ?_; refine wpAny_toksQ 1 (by first | exact Nat.le_add_left _ _ | assumption) ?_; (try dsimp only))
  k_with "eval ListComp" => (k_here; (with_reducible show wpAny _ _ (eval (PySem.Expr.ListComp _ [Comprehension.mk (PySem.Expr.Tuple _ _ _) _ _ _] _ _) _) _ _ _); k_dflt (refine' ListComp_pair (by k_asm) (by with_unfolding_all rfl) (by decide) (by rfl) (by decide) (by rfl) (by rfl) (by decide) ?_; k_whole))
  k_with "exec Assign cons ListComp" => (k_here; (with_reducible show wpAny _ _ (exec (PySem.Stmt.Assign [_] (PySem.Expr.ListComp _ [Comprehension.mk (PySem.Expr.Tuple _ _ _) _ _ _] _ _) _) _) _ _ _); k_dflt (refine wpAny_Assign_Name ?_))
  k_with "exec Assign cons ListComp" => (k_here; (with_reducible show wpAny _ _ (exec (PySem.Stmt.Assign [_] (PySem.Expr.ListComp _ [Comprehension.mk (PySem.Expr.Name _ _) _ [_] _] _ _) _) _) _ _ _); k_dflt (refine LCt.Assign_ListComp_T (F₀ := by k_asm) (by rfl) (by with_unfolding_all rfl) (by with_unfolding_all rfl) (by decide) (by rfl) (by decide) (by rfl) (by rfl) (by rfl) ?_))
  k_with "eval ListComp" => (k_here; (with_reducible show wpAny _ _ (eval (PySem.Expr.ListComp _ [Comprehension.mk (PySem.Expr.Name _ _) _ [_] _] _ _) _) _ _ _); k_dflt (refine LCt.ListComp_T (F₀ := by k_asm) (by with_unfolding_all rfl) (by decide) (by rfl) (by decide) (by rfl) ?_))
  k_with "CompEnd" => (refine Hold.mk ?_)
  k_with "call ref" => (k_here; refine Hold.mk ?_)
  k_with "call builtin:len" => (k_here; (with_reducible show wpAny _ _ (call (Value.builtin "len") [Value.ref _]) _ _ _); k_dflt (refine' kun_lenL (by exact News.isList (by k_asm) (by k_mem)) (by assumption) (by omega) ?_; k_whole))
  k_with "subscriptTail Name Constant ref int" => (k_here; (with_reducible show wpAny _ _ (subscriptTail _ _ (Value.ref _) (Value.int _ _)) _ _ _); k_dflt (refine' PyProof.Rows.item_listL (by exact News.isList (by k_asm) (by k_mem)) (by first | assumption | omega) (by first | assumption | omega) (by first | assumption | exact rfl) ?_ (by with_unfolding_all rfl) (by kmk_pure); k_whole))
  k_with "subscriptTail Name BinOp ref int" => (k_here; (with_reducible show wpAny _ _ (subscriptTail _ _ (Value.ref _) (Value.int _ _)) _ _ _); k_dflt (refine' PyProof.Rows.item_listL (by exact News.isList (by k_asm) (by k_mem)) (by first | assumption | omega) (by first | assumption | omega) (by first | assumption | exact rfl) ?_ (by with_unfolding_all rfl) (by kmk_pure); k_whole))
  k_with "ite" => (k_dflt (first | (refine PySem.W.ite_neg (by first | assumption | (intro hq; simp only [bne_self_eq_false, Bool.false_eq_true] at hq)) ?_) | (refine PySem.W.ite_pos (by assumption) ?_)))
  k_with "exec For Tuple List cons nil" => (k_here; (rename Fr _ _ _ _ => zlF); k_dflt (refine' @For_invT _ _ _ _ _ _ _ _ _ _ _ (heapOf zlF) ?_ (by intro _; rfl) (by passes_own); k_whole); (try dsimp only [heapOf]))
  k_with "exec For Name Call cons nil" => (k_here; (rename Fr _ _ _ _ => zlF); k_dflt (refine' @For_invT _ _ _ _ _ _ _ _ _ _ _ (heapOf zlF) ?_ (by intro _; rfl) (by passes_own); k_whole); (try dsimp only [heapOf]))
  k_with "pyIter ref" => (k_here; (with_reducible show wpAny _ _ (pyIter (Value.ref _)) (fun it s₂ => LoopAtT _ _ _ _ _ _ _ _ _ it s₂) _ _); refine Hold.mk ?_)
  k_with "subscriptTail Name Slice ref ref" => (k_here; (with_reducible show wpAny _ _ (subscriptTail _ (PySem.Expr.Slice none (some _) none _) (Value.ref _) (Value.ref _)) _ _ _); k_dflt (refine' slice_tuple_two (by k_asm) (by k_asm) (by k_mem) (by rfl) (by rfl) ?_ (by with_unfolding_all rfl) (by kmk_pure); k_whole); intro _ _ _ _ zl; (try k_lt zl))
  k_with "subscriptTail Name Slice ref ref" => (k_here; (with_reducible show wpAny _ _ (subscriptTail _ (PySem.Expr.Slice (some _) (some _) (some _) _) (Value.ref _) (Value.ref _)) _ _ _); k_dflt (refine' kmk_slice3_lit (by k_asm) (by k_asm) (by kmk_list) (by kmk_part) (by kmk_part) (by kmk_part) (by decide) (by exact pick_odd) ?_ (by with_unfolding_all rfl) (by kmk_pure) (by exact Nat.le_of_ble_eq_true rfl); k_whole); intro _ _ _ _ zl; (try k_lt zl))
  k_with "call type:zip" => (k_here; refine Hold.mk ?_)
  k_with "CompSrcT" => (refine Hold.mk ?_)
  k_with "subscriptTail Name Slice ref ref" => (k_here; (with_reducible show wpAny _ _ (subscriptTail _ (PySem.Expr.Slice (some _) none (some _) _) (Value.ref _) (Value.ref _)) _ _ _); k_dflt (refine' kmk_slice3_lit (by k_asm) (by k_asm) (by kmk_list) (by kmk_part) (by kmk_part) (by kmk_part) (by decide) (by exact rfl) ?_ (by with_unfolding_all rfl) (by kmk_pure) (by assumption); k_whole); intro _ _ _ _ zl; (try k_lt zl))
  k_with "subscriptTail Name Name ref int" => (k_here; (with_reducible show wpAny _ _ (subscriptTail _ _ (Value.ref _) (Value.int _ _)) _ _ _); k_dflt (refine' PyProof.Rows.item_listL (by exact News.isList (by k_asm) (by k_mem)) (by omega) (by omega) (by assumption) ?_ (by with_unfolding_all rfl) (by kmk_pure); k_whole))
  k_with "call type:enumerate" => (k_here; refine Hold.mk ?_)
  k_with "binaryOp Pow int int" => (k_here; (with_reducible refine pow_int_small (by first | assumption | omega) (by first | assumption | omega) (by first | assumption | omega | decide) ?_); )
  k_with "binaryOp FloorDiv int int" => (k_here; (with_reducible refine floordiv_int (by first | assumption | omega) ?_ (Or.inl (PyProof.noPylong_small (by first | assumption | omega)))); )
  k_with "binaryOp Mod int int" => (k_here; (with_reducible refine mod_int' (by first | assumption | omega) ?_))
  rename News _ _ _ _ => nD9
  replace nD9 := news_cut 3 9 nD9
  simp only [List.take_succ_cons, List.take_zero, List.drop_succ_cons, List.drop_zero, List.nil_append, List.cons_append] at nD9
  k_steps
  unfold Hold
  refine' zip_src (xs := [.int E1 v1, .int E2 v2, .int E3 v3]) (ys := [.int O1 w1, .int O2 w2, .int O3 w3]) (n1 := ek) (n2 := ok) (fun i zs => IntsAre zs ([2 * (E1 + O1), 2 * (E2 + O2), 2 * (E3 + O3)].take i)) ?hhZ ?FZ ?NZ ?hm1Z ?hm2Z ?hszZ ?hgZ ?turnZ ?finZ
  case hhZ => rfl
  case FZ => k_asm
  case NZ => k_asm
  case hm1Z => k_mem
  case hm2Z => k_mem
  case hszZ => exact (by decide : 3 ≤ 1000)
  case hgZ => exact .nil
  case turnZ =>
    intro g
    unfold PairTurns
    rintro i zs x0 x1 own C oC D2 m₂ h tk E' hi hg ⟨h0, h1⟩ hC hx hx2 F₁ N₁ off hCD
    match i, h0, h1, hg with
    | 0, h0, h1, hg | 1, h0, h1, hg | 2, h0, h1, hg =>
      cases h0
      cases h1
      k_steps
      exact pair_end (by assumption) (by assumption) (fun p hp => hp) (hg.append (.cons _ _ .nil))
    | i + 3, h0, _, _ => cases h0
  case finZ =>
    rintro g zs D2 h tk hg F₁ N₁ off
    obtain ⟨z1, z2, z3, rfl⟩ := ints3 (hg : IntsAre zs [2 * (E1 + O1), 2 * (E2 + O2), 2 * (E3 + O3)])
    have hL : [H2, H4, H6] = [2 * (E1 + O1), 2 * (E2 + O2), 2 * (E3 + O3)] := by rw [TF.two, TF.four, TF.six]
    k_steps
    unfold Hold
    refine name_of (by k_asm) (by k_mem : (_, listOf [Value.str ⟨(mailL (hs.map fun h => h.fmod 2 == 1)).toArray⟩ _].toArray 0) ∈ _) fun mA e => ?_
    subst e
    refine' SpecP.use (cores_spec mA _ 0 [⟨(mailL (hs.map fun h => h.fmod 2 == 1)).toArray⟩] (.cons _ _ .nil) (cores_small LF) _ ?hmemC) ?BC9 ?FC9 ?XC9 ?NC9 ?TC9 ?kC9 ?ddC9 ?uuC9 ?_
    case BC9 => k_asm
    case FC9 => k_asm
    case XC9 => k_asm
    case NC9 => k_asm
    case TC9 => k_asm
    case hmemC => k_mem
    case kC9 => exact rfl
    case ddC9 => ktr_room
    case uuC9 => ktr_units
    rintro coA oC9 hC9 tkC9 ⟨cvs, ck, rfl, hIC⟩ htC9 FC9 NC9 hltC9
    rw [cores3] at hIC
    obtain ⟨cc0, hc0⟩ : ∃ x, x = coreL [mailL (hs.map fun h => h.fmod 2 == 1)] := ⟨_, rfl⟩
    obtain ⟨cc1, hc1⟩ : ∃ x, x = coreL (partsL [mailL (hs.map fun h => h.fmod 2 == 1)]) := ⟨_, rfl⟩
    obtain ⟨cc2, hc2'⟩ : ∃ x, x = coreL (partsL (partsL [mailL (hs.map fun h => h.fmod 2 == 1)])) := ⟨_, rfl⟩
    have hcs := LF.cores
    have hco := LF.core
    rw [← hc0, ← hc1, ← hc2'] at hIC hcs hco
    obtain ⟨x1, x2, x3, rfl⟩ := ints3 hIC
    rename_i zD0 zD1 zD2 zD3 zD4 zD5 zD6 zD7
    clear kzK0 zB0 zB1 LF hyl zA50 zA53 zA54 htO zA59 zA60 tkk htK H3 H5 H7 H8 TF u1 u3 u5 u7 u8 zD0 F₁ N₂ F₂ p3 htP2 zC5 zC11 zC12 hE3 htE3 hIE hIE' hO3 htO3 hIO hIO' g off hg hL zD2 zD3 zD5 zD6 zD7 htC9 hltC9 hc0 hc1 hc2'
    revert kzw kzs₀ kzs₁ kzmg kzmb kzfa kzpm kzdoc kzhg kzKX kzT zA2 scr zA6 zA11 zA19 zA20 zA24 qk zC0 hMk zA30 ys D hs n os zA35 zs zA48 zA49 zA51 zA52 hcT dA tO hO tkO zA56 zA57 zA58 tM toA tkK H2 H4 H6 E1 E2 E3 O1 O2 O3 zB2 u4 u6 zB9 zB12 zB15 zB18 zB21 zB24 zB27 pt u zD1 dt u2 h2 tk2 pA hP2 tkP2 p1 p2 zC3 zC4 zC6 zC7 zC8 eA tkE3 ek v1 v2 v3 oA tkO3 ok w1 w2 w3 sA D2 h tk z1 z2 z3 zD4 mA coA hC9 tkC9 ck FC9 cc0 cc1 cc2 hcs hco x1 x2 x3 NC9 hIC
    exact hZ.down)
set_option maxRecDepth 100000 in
set_option maxHeartbeats 16000000 in
theorem walkE : Arg walkD := by
  intro kzw kzs₀ kzs₁ kzmg kzmb kzfa kzpm kzdoc kzhg kzKX kzT zA2 scr zA6 zA11 zA19 zA20 zA24 qk zC0 hMk zA30 ys D hs n os zA35 zs zA48 zA49 zA51 zA52 hcT dA tO hO tkO zA56 zA57 zA58 tM toA tkK H2 H4 H6 E1 E2 E3 O1 O2 O3 zB2 u4 u6 zB9 zB12 zB15 zB18 zB21 zB24 zB27 pt u zD1 dt u2 h2 tk2 pA hP2 tkP2 p1 p2 zC3 zC4 zC6 zC7 zC8 eA tkE3 ek v1 v2 v3 oA tkO3 ok w1 w2 w3 sA D2 h tk z1 z2 z3 zD4 mA coA hC9 tkC9 ck FC9 cc0 cc1 cc2 hcs hco x1 x2 x3 NC9 hIC
  k_with_none
  k_with "k_ne" => (first | assumption | exact Ne.symm (by assumption) | exact And.left (by assumption) | exact Ne.symm (And.left (by assumption)) | exact And.left (And.right (by assumption)) | exact Ne.symm (And.left (And.right (by assumption))) | exact And.right (by assumption) | exact Ne.symm (And.right (by assumption)) | exact And.left (And.right (And.right (by assumption))) | exact Ne.symm (And.left (And.right (And.right (by assumption)))) | exact And.right (And.right (by assumption)) | exact Ne.symm (And.right (And.right (by assumption))) | exact And.left (And.right (And.right (And.right (by assumption)))) | exact Ne.symm (And.left (And.right (And.right (And.right (by assumption))))) | exact And.right (And.right (And.right (by assumption))) | exact Ne.symm (And.right (And.right (And.right (by assumption)))) | exact And.left (And.right (And.right (And.right (And.right (by assumption))))) | exact Ne.symm (And.left (And.right (And.right (And.right (And.right (by assumption)))))) | exact And.right (And.right (And.right (And.right (by assumption)))) | exact Ne.symm (And.right (And.right (And.right (And.right (by assumption))))) | exact And.left (And.right (And.right (And.right (And.right (And.right (by assumption)))))) | exact Ne.symm (And.left (And.right (And.right (And.right (And.right (And.right (by assumption))))))) | exact And.right (And.right (And.right (And.right (And.right (by assumption))))) | exact Ne.symm (And.right (And.right (And.right (And.right (And.right (by assumption)))))) | exact And.left (And.right (And.right (And.right (And.right (And.right (And.right (by assumption))))))) | exact Ne.symm (And.left (And.right (And.right (And.right (And.right (And.right (And.right (by assumption)))))))) | exact And.right (And.right (And.right (And.right (And.right (And.right (by assumption)))))) | exact Ne.symm (And.right (And.right (And.right (And.right (And.right (And.right (by assumption))))))) | exact And.left (And.right (And.right (And.right (And.right (And.right (And.right (And.right (by assumption)))))))) | exact Ne.symm (And.left (And.right (And.right (And.right (And.right (And.right (And.right (And.right (by assumption))))))))) | exact And.right (And.right (And.right (And.right (And.right (And.right (And.right (by assumption))))))) | exact Ne.symm (And.right (And.right (And.right (And.right (And.right (And.right (And.right (by assumption)))))))) | exact And.left (And.right (And.right (And.right (And.right (And.right (And.right (And.right (And.right (by assumption))))))))) | exact Ne.symm (And.left (And.right (And.right (And.right (And.right (And.right (And.right (And.right (And.right (by assumption)))))))))) | exact And.right (And.right (And.right (And.right (And.right (And.right (And.right (And.right (by assumption)))))))) | exact Ne.symm (And.right (And.right (And.right (And.right (And.right (And.right (And.right (And.right (by assumption))))))))) | exact And.left (And.right (And.right (And.right (And.right (And.right (And.right (And.right (And.right (And.right (by assumption)))))))))) | exact Ne.symm (And.left (And.right (And.right (And.right (And.right (And.right (And.right (And.right (And.right (And.right (by assumption))))))))))) | exact And.right (And.right (And.right (And.right (And.right (And.right (And.right (And.right (And.right (by assumption))))))))) | exact Ne.symm (And.right (And.right (And.right (And.right (And.right (And.right (And.right (And.right (And.right (by assumption)))))))))) | exact And.left (And.right (And.right (And.right (And.right (And.right (And.right (And.right (And.right (And.right (And.right (by assumption))))))))))) | exact Ne.symm (And.left (And.right (And.right (And.right (And.right (And.right (And.right (And.right (And.right (And.right (And.right (by assumption)))))))))))) | exact And.right (And.right (And.right (And.right (And.right (And.right (And.right (And.right (And.right (And.right (by assumption)))))))))) | exact Ne.symm (And.right (And.right (And.right (And.right (And.right (And.right (And.right (And.right (And.right (And.right (by assumption))))))))))) | exact And.left (And.right (And.right (And.right (And.right (And.right (And.right (And.right (And.right (And.right (And.right (And.right (by assumption)))))))))))) | exact Ne.symm (And.left (And.right (And.right (And.right (And.right (And.right (And.right (And.right (And.right (And.right (And.right (And.right (by assumption))))))))))))) | exact And.right (And.right (And.right (And.right (And.right (And.right (And.right (And.right (And.right (And.right (And.right (by assumption))))))))))) | exact Ne.symm (And.right (And.right (And.right (And.right (And.right (And.right (And.right (And.right (And.right (And.right (And.right (by assumption)))))))))))) | exact And.left (And.right (And.right (And.right (And.right (And.right (And.right (And.right (And.right (And.right (And.right (And.right (And.right (by assumption))))))))))))) | exact Ne.symm (And.left (And.right (And.right (And.right (And.right (And.right (And.right (And.right (And.right (And.right (And.right (And.right (And.right (by assumption)))))))))))))) | exact And.right (And.right (And.right (And.right (And.right (And.right (And.right (And.right (And.right (And.right (And.right (And.right (by assumption)))))))))))) | exact Ne.symm (And.right (And.right (And.right (And.right (And.right (And.right (And.right (And.right (And.right (And.right (And.right (And.right (by assumption))))))))))))))
  k_with "k_all" => (first | assumption | exact allLt_ne (by assumption) | exact allLt_ne (And.right (by assumption)) | exact allLt_ne (And.right (And.right (by assumption))) | exact allLt_ne (And.right (And.right (And.right (by assumption)))) | exact allLt_ne (And.right (And.right (And.right (And.right (by assumption))))) | exact allLt_ne (And.right (And.right (And.right (And.right (And.right (by assumption)))))) | exact allLt_ne (And.right (And.right (And.right (And.right (And.right (And.right (by assumption))))))) | exact allLt_ne (And.right (And.right (And.right (And.right (And.right (And.right (And.right (by assumption)))))))))
  k_with "execs cons" => (k_here; refine wpAny_execs_cons ?_; refine wpAny_toksQ 1 (by first | exact Nat.le_add_left _ _ | assumption) ?_; (try dsimp only))
  k_with "eval ListComp" => (k_here; (with_reducible show wpAny _ _ (eval (PySem.Expr.ListComp _ [Comprehension.mk (PySem.Expr.Tuple _ _ _) _ _ _] _ _) _) _ _ _); k_dflt (refine' ListComp_pair (by k_asm) (by with_unfolding_all rfl) (by decide) (by rfl) (by decide) (by rfl) (by rfl) (by decide) ?_; k_whole))
  k_with "exec Assign cons ListComp" => (k_here; (with_reducible show wpAny _ _ (exec (PySem.Stmt.Assign [_] (PySem.Expr.ListComp _ [Comprehension.mk (PySem.Expr.Tuple _ _ _) _ _ _] _ _) _) _) _ _ _); k_dflt (refine wpAny_Assign_Name ?_))
  k_with "exec Assign cons ListComp" => (k_here; (with_reducible show wpAny _ _ (exec (PySem.Stmt.Assign [_] (PySem.Expr.ListComp _ [Comprehension.mk (PySem.Expr.Name _ _) _ [_] _] _ _) _) _) _ _ _); k_dflt (refine LCt.Assign_ListComp_T (F₀ := by k_asm) (by rfl) (by with_unfolding_all rfl) (by with_unfolding_all rfl) (by decide) (by rfl) (by decide) (by rfl) (by rfl) (by rfl) ?_))
  k_with "eval ListComp" => (k_here; (with_reducible show wpAny _ _ (eval (PySem.Expr.ListComp _ [Comprehension.mk (PySem.Expr.Name _ _) _ [_] _] _ _) _) _ _ _); k_dflt (refine LCt.ListComp_T (F₀ := by k_asm) (by with_unfolding_all rfl) (by decide) (by rfl) (by decide) (by rfl) ?_))
  k_with "CompEnd" => (refine Hold.mk ?_)
  k_with "call ref" => (k_here; refine Hold.mk ?_)
  k_with "call builtin:len" => (k_here; (with_reducible show wpAny _ _ (call (Value.builtin "len") [Value.ref _]) _ _ _); k_dflt (refine' kun_lenL (by exact News.isList (by k_asm) (by k_mem)) (by assumption) (by omega) ?_; k_whole))
  k_with "subscriptTail Name Constant ref int" => (k_here; (with_reducible show wpAny _ _ (subscriptTail _ _ (Value.ref _) (Value.int _ _)) _ _ _); k_dflt (refine' PyProof.Rows.item_listL (by exact News.isList (by k_asm) (by k_mem)) (by first | assumption | omega) (by first | assumption | omega) (by first | assumption | exact rfl) ?_ (by with_unfolding_all rfl) (by kmk_pure); k_whole))
  k_with "subscriptTail Name BinOp ref int" => (k_here; (with_reducible show wpAny _ _ (subscriptTail _ _ (Value.ref _) (Value.int _ _)) _ _ _); k_dflt (refine' PyProof.Rows.item_listL (by exact News.isList (by k_asm) (by k_mem)) (by first | assumption | omega) (by first | assumption | omega) (by first | assumption | exact rfl) ?_ (by with_unfolding_all rfl) (by kmk_pure); k_whole))
  k_with "ite" => (k_dflt (first | (refine PySem.W.ite_neg (by first | assumption | (intro hq; simp only [bne_self_eq_false, Bool.false_eq_true] at hq)) ?_) | (refine PySem.W.ite_pos (by assumption) ?_)))
  k_with "exec For Tuple List cons nil" => (k_here; (rename Fr _ _ _ _ => zlF); k_dflt (refine' @For_invT _ _ _ _ _ _ _ _ _ _ _ (heapOf zlF) ?_ (by intro _; rfl) (by passes_own); k_whole); (try dsimp only [heapOf]))
  k_with "exec For Name Call cons nil" => (k_here; (rename Fr _ _ _ _ => zlF); k_dflt (refine' @For_invT _ _ _ _ _ _ _ _ _ _ _ (heapOf zlF) ?_ (by intro _; rfl) (by passes_own); k_whole); (try dsimp only [heapOf]))
  k_with "pyIter ref" => (k_here; (with_reducible show wpAny _ _ (pyIter (Value.ref _)) (fun it s₂ => LoopAtT _ _ _ _ _ _ _ _ _ it s₂) _ _); refine Hold.mk ?_)
  k_with "subscriptTail Name Slice ref ref" => (k_here; (with_reducible show wpAny _ _ (subscriptTail _ (PySem.Expr.Slice none (some _) none _) (Value.ref _) (Value.ref _)) _ _ _); k_dflt (refine' slice_tuple_two (by k_asm) (by k_asm) (by k_mem) (by rfl) (by rfl) ?_ (by with_unfolding_all rfl) (by kmk_pure); k_whole); intro _ _ _ _ zl; (try k_lt zl))
  k_with "subscriptTail Name Slice ref ref" => (k_here; (with_reducible show wpAny _ _ (subscriptTail _ (PySem.Expr.Slice (some _) (some _) (some _) _) (Value.ref _) (Value.ref _)) _ _ _); k_dflt (refine' kmk_slice3_lit (by k_asm) (by k_asm) (by kmk_list) (by kmk_part) (by kmk_part) (by kmk_part) (by decide) (by exact pick_odd) ?_ (by with_unfolding_all rfl) (by kmk_pure) (by exact Nat.le_of_ble_eq_true rfl); k_whole); intro _ _ _ _ zl; (try k_lt zl))
  k_with "call type:zip" => (k_here; refine Hold.mk ?_)
  k_with "CompSrcT" => (refine Hold.mk ?_)
  k_with "subscriptTail Name Slice ref ref" => (k_here; (with_reducible show wpAny _ _ (subscriptTail _ (PySem.Expr.Slice (some _) none (some _) _) (Value.ref _) (Value.ref _)) _ _ _); k_dflt (refine' kmk_slice3_lit (by k_asm) (by k_asm) (by kmk_list) (by kmk_part) (by kmk_part) (by kmk_part) (by decide) (by exact rfl) ?_ (by with_unfolding_all rfl) (by kmk_pure) (by assumption); k_whole); intro _ _ _ _ zl; (try k_lt zl))
  k_with "subscriptTail Name Name ref int" => (k_here; (with_reducible show wpAny _ _ (subscriptTail _ _ (Value.ref _) (Value.int _ _)) _ _ _); k_dflt (refine' PyProof.Rows.item_listL (by exact News.isList (by k_asm) (by k_mem)) (by omega) (by omega) (by assumption) ?_ (by with_unfolding_all rfl) (by kmk_pure); k_whole))
  k_with "call type:enumerate" => (k_here; refine Hold.mk ?_)
  k_with "binaryOp Pow int int" => (k_here; (with_reducible refine pow_int_small (by first | assumption | omega) (by first | assumption | omega) (by first | assumption | omega | decide) ?_); )
  k_with "binaryOp FloorDiv int int" => (k_here; (with_reducible refine floordiv_int (by first | assumption | omega) ?_ (Or.inl (PyProof.noPylong_small (by first | assumption | omega)))); )
  k_with "binaryOp Mod int int" => (k_here; (with_reducible refine mod_int' (by first | assumption | omega) ?_))
  rename News _ _ _ _ => nD9
  replace nD9 := news_cut 1 6 nD9
  simp only [List.take_succ_cons, List.take_zero, List.drop_succ_cons, List.drop_zero, List.nil_append, List.cons_append] at nD9
  k_steps
  unfold Hold
  refine' src_rangeT 15 (fun i zs => zs.length = twosTo os i) ?hhT ?FT ?NT ?hrT ?hsT ?hnT ?hgT ?turnT ?finT
  case hhT => rfl
  case FT => k_asm
  case NT => k_asm
  case hrT => assumption
  case hsT => omega
  case hnT => rfl
  case hgT => rfl
  case turnT =>
    intro i zs hi hz tv J oJ C oC D2 m₂ h₂ tk₂ E' hC hx F₂ N₂ off2 hne
    k_steps
    · unfold Hold
      rename _ = (0 : Int) => hbit
      exact comp_const (by assumption) (by assumption) off2 (twos_yes hz hbit)
    · unfold Hold
      exact comp_skip (by assumption) (by assumption) off2 (twos_no hz (by assumption))
  case finT =>
    intro g zs hz
    have hzz1 : ((zs.toArray.size : Nat) : Int) = ((twosTo os 15 : Nat) : Int) := by rw [List.size_toArray, hz]
    have hzl1 := twosTo_le os 15
    k_steps
    unfold Hold
    refine' src_rangeT 5 (fun i zs => zs.length = onesTo (n : Int) i) ?hhU ?FU ?NU ?hrU ?hsU ?hnU ?hgU ?turnU ?finU
    case hhU => rfl
    case FU => k_asm
    case NU => k_asm
    case hrU => assumption
    case hsU => omega
    case hnU => rfl
    case hgU => rfl
    case turnU =>
      intro i zs hi hz tv J oJ C oC D2 m₂ h₂ tk₂ E' hC hx F₂ N₂ off2 hne
      k_steps
      · unfold Hold
        rename _ = (1 : Int) => hbit
        exact comp_const (by assumption) (by assumption) off2 (ones_yes hz hbit)
      · unfold Hold
        exact comp_skip (by assumption) (by assumption) off2 (ones_no hz (by assumption))
    case finU =>
      intro g zs2 hz2
      have hzz2 : ((zs2.toArray.size : Nat) : Int) = ((onesTo (n : Int) 5 : Nat) : Int) := by rw [List.size_toArray, hz2]
      have hzl2 := onesTo_le (n : Int) 5
      have hcs' : cc0 + (cc1 + (cc2 + 0)) = ((twosTo os 15 : Nat) : Int) + ((onesTo (n : Int) 5 : Nat) : Int) := by
        have e1 : twosB os = ((twosTo os 15 : Nat) : Int) := rfl
        have e2 : onesB (n : Int) = ((onesTo (n : Int) 5 : Nat) : Int) := rfl
        rw [← e1, ← e2, ← hcs]
        omega
      have hcs2 : (cc0 + (cc1 + (cc2 + 0)) == ((twosTo os 15 : Nat) : Int) + ((onesTo (n : Int) 5 : Nat) : Int)) = true := by rw [hcs']; exact beq_self_eq_true _
      have hfin : (cc0 + 2 * cc1 + 4 * cc2 == (n : Int)) = true := by rw [hco]; exact beq_self_eq_true _
      walk1
      walk1
      walk1
      walk1
      walk1
      walk1
      walk1
      walk1
      walk1
      walk1
      walk1
      walk1
      walk1
      walk1
      walk1
      walk1
      walk1
      walk1
      walk1
      walk1
      walk1
      walk1
      walk1
      walk1
      walk1
      walk1
      walk1
      walk1
      walk1
      walk1
      walk1
      walk1
      walk1
      walk1
      walk1
      walk1
      walk1
      walk1
      walk1
      walk1
      walk1
      walk1
      walk1
      walk1
      walk1
      walk1
      walk1
      walk1
      walk1
      walk1
      rw [hfin]
      refine goodW_bool (by with_reducible assumption) ?hgW (raisesW_false ?hrW) ?hpW
      case hgW => first | assumption | rfl
      case hrW => wrow_none_raised
      case hpW => exact post_true _
theorem law_holds : PySem.Challenge.rw_sn0027_01.Holds := walkA ⟨walkB ⟨walkC ⟨walkD ⟨walkE⟩⟩⟩⟩
end Mine
end
end
theorem PySem.Challenge.cw_sn0027_01_holds : PySem.Challenge.rw_sn0027_01.Holds := by
  exact Mine.law_holds
