import PyProof.Rows.All
import Wide.All
import OpenK.AllK
import Wide.FinOn
import PySem.Challenge.RW_jc0005_01
set_option Elab.async false

section
open PySem PySem.W PySem.W.X PyProof.Rows
set_option Elab.async false
namespace Mine
set_option maxRecDepth 100000 in
set_option maxHeartbeats 0 in
open_top hd for PySem.Challenge.rw_jc0005_01
end Mine
end

section
open PySem PySem.Sre
set_option Elab.async false
set_option maxRecDepth 100000
set_option linter.all false
namespace Mine

noncomputable def code1 : Array Nat := #[14, 4, 0, 1, 1, 6, 1, 16, 46, 1]
noncomputable def code2 : Array Nat := #[14, 9, 4, 1, 2, 16, 10, 16, 13, 0, 7, 7, 16, 13, 16, 10, 15, 18, 5, 16, 10, 15, 13, 11, 16, 13, 5, 5, 0, 16, 10, 1, 15, 2, 0, 1]

theorem runFor_out : ∀ (n : Nat) (m : M), m.outcome.isSome = true → M.runFor n m = m
  | 0, _, _ => rfl
  | n + 1, m, h => by rw [M.runFor, if_pos h]
theorem runFor_add : ∀ (a b : Nat) (m : M), M.runFor (a + b) m = M.runFor b (M.runFor a m)
  | 0, b, m => by rw [Nat.zero_add]; rfl
  | a + 1, b, m => by
    rw [Nat.add_right_comm]
    by_cases h : m.outcome.isSome = true
    · rw [runFor_out _ _ h, runFor_out _ _ h, runFor_out _ _ h]
    · rw [M.runFor, if_neg h, M.runFor, if_neg h, runFor_add a b]

/-- the machine ends, in n steps at most, in such a state -/
noncomputable def Ends (n : Nat) (m : M) (P : M → Prop) : Prop := (M.runFor n m).outcome.isSome = true ∧ P (M.runFor n m)
theorem Ends.done {n : Nat} {m : M} {P : M → Prop} (h : m.outcome.isSome = true) (p : P m) : Ends n m P := by
  unfold Ends
  rw [runFor_out n m h]
  exact ⟨h, p⟩
theorem Ends.step {n : Nat} {m m' : M} {P : M → Prop} (h : m.outcome.isSome = false) (e : m.step = m') (p : Ends n m' P) : Ends (n + 1) m P := by
  unfold Ends
  rw [M.runFor, if_neg (by rw [h]; simp), e]
  exact p
theorem Ends.more {n k : Nat} {m : M} {P : M → Prop} (p : Ends n m P) : Ends (n + k) m P := by
  obtain ⟨h, p⟩ := p
  unfold Ends
  rw [runFor_add, runFor_out _ _ h]
  exact ⟨h, p⟩

/-- pattern 1 at a place -/
noncomputable def at1 (text : Array Nat) (s : Nat) (b : Bool) (seen : Seen) : M :=
  { code := code1, text, lim := text.size, start := s, lastStart := text.size, pc := 5, pos := s, handed := s, outermost := b, marks := #[], frames := [{ wait := .nextStart, pc := 5, pos := s, outermost := b }], weight := 1, seen }

theorem at1_step1 (text : Array Nat) (s : Nat) (b : Bool) (seen : Seen) : (at1 text s b seen).step =
    if (s == 0 || text.getD (s - 1) 0 == 10) = true then { at1 text s b ((seen.add 6).add (43 + 1)) with pc := 7 } else { at1 text s b ((seen.add 6).add (43 + 1)) with answer := some false } := by kernel_rfl
theorem at1_step2 (text : Array Nat) (s : Nat) (b : Bool) (seen : Seen) : ({ at1 text s b seen with pc := 7 } : M).step =
    if s ≥ text.size then { at1 text s b (seen.add 16) with pc := 7, answer := some false } else
    match (text.getD s 0 == 46) with
    | false => { at1 text s b (seen.add 16) with pc := 7, answer := some false }
    | true => { at1 text s b (seen.add 16) with pc := 9, pos := s + 1 } := by kernel_rfl
theorem at1_step3 (text : Array Nat) (s : Nat) (b : Bool) (seen : Seen) : ({ at1 text s b seen with pc := 9, pos := s + 1 } : M).step =
    { at1 text s b (seen.add 1) with pc := 9, pos := s + 1, handed := s + 1, answer := some true } := by cases b <;> kernel_rfl
theorem at1_step4 (text : Array Nat) (s : Nat) (b : Bool) (seen : Seen) : ({ at1 text s b seen with pc := 9, pos := s + 1, handed := s + 1, answer := some true } : M).step =
    { at1 text s b seen with frames := [], weight := 0, handed := s + 1, answer := some true } := by kernel_rfl
theorem at1_step5 (text : Array Nat) (s : Nat) (b : Bool) (seen : Seen) : ({ at1 text s b seen with frames := [], weight := 0, handed := s + 1, answer := some true } : M).step =
    { at1 text s b seen with frames := [], weight := 0, handed := s + 1, answer := some true, outcome := some .matched } := by kernel_rfl
theorem at1_fail (text : Array Nat) (s pc : Nat) (b : Bool) (seen : Seen) : ({ at1 text s b seen with pc := pc, answer := some false } : M).step =
    if s < text.size then at1 text (s + 1) false seen else { at1 text s b seen with frames := [], weight := 0, answer := some false } := by kernel_rfl
theorem at1_end (text : Array Nat) (s : Nat) (b : Bool) (seen : Seen) : ({ at1 text s b seen with frames := [], weight := 0, answer := some false } : M).step =
    { at1 text s b seen with frames := [], weight := 0, answer := some false, outcome := some .failed } := by kernel_rfl

noncomputable def find1 (text : Array Nat) : Nat → Nat → Option Nat
  | 0, _ => none
  | n + 1, s => if ((s == 0 || text.getD (s - 1) 0 == 10) && text.getD s 0 == 46) = true then some s else find1 text n (s + 1)
noncomputable def Got (r : Option (Nat × Nat)) (m : M) : Prop := match r with | some p => m.outcome = some .matched ∧ m.start = p.1 ∧ m.handed = p.2 | none => m.outcome = some .failed

theorem run1 (text : Array Nat) : ∀ (n s : Nat) (b : Bool) (seen : Seen), s + n = text.size → Ends (3 * n + 6) (at1 text s b seen) (Got ((find1 text n s).map fun p => (p, p + 1)))
  | 0, s, b, seen, h => by
    have hge : s ≥ text.size := by (first | lia | omega)
    have hlt : ¬ s < text.size := by (first | lia | omega)
    refine Ends.step rfl (at1_step1 text s b seen) ?_
    split
    · refine Ends.step rfl (at1_step2 text s b _) ?_
      rw [if_pos hge]
      refine Ends.step rfl (at1_fail text s 7 b _) ?_
      rw [if_neg hlt]
      refine Ends.step rfl (at1_end text s b _) ?_
      exact Ends.done rfl rfl
    · refine Ends.step rfl (at1_fail text s 5 b _) ?_
      rw [if_neg hlt]
      refine Ends.step rfl (at1_end text s b _) ?_
      exact Ends.done rfl rfl
  | n + 1, s, b, seen, h => by
    have hge : ¬ s ≥ text.size := by (first | lia | omega)
    have hlt : s < text.size := by (first | lia | omega)
    have e : 3 * (n + 1) + 6 = (3 * n + 6) + 3 := by (first | lia | omega)
    rw [e]
    refine Ends.step rfl (at1_step1 text s b seen) ?_
    unfold find1
    cases h1 : (s == 0 || text.getD (s - 1) 0 == 10) with
    | true =>
      rw [if_pos rfl]
      refine Ends.step rfl (at1_step2 text s b _) ?_
      rw [if_neg hge]
      cases h2 : (text.getD s 0 == 46) with
      | true =>
        rw [if_pos (by rfl)]
        refine Ends.step rfl (at1_step3 text s b _) ?_
        refine Ends.step rfl (at1_step4 text s b _) ?_
        refine Ends.step rfl (at1_step5 text s b _) ?_
        exact Ends.done rfl ⟨rfl, rfl, rfl⟩
      | false =>
        rw [if_neg (by simp)]
        refine Ends.step rfl (at1_fail text s 7 b _) ?_
        rw [if_pos hlt]
        exact run1 text n (s + 1) false _ (by first | decide | lia | omega)
    | false =>
      rw [if_neg (by simp), if_neg (by simp)]
      refine Ends.step rfl (at1_fail text s 5 b _) ?_
      rw [if_pos hlt]
      exact (run1 text n (s + 1) false _ (by first | decide | lia | omega)).more (k := 1)

theorem search1 (text : Array Nat) (s : Nat) (h : s ≤ text.size) : Ends (3 * (text.size - s) + 6) (forSearch code1 text 0 s text.size false) (Got ((find1 text (text.size - s) s).map fun p => (p, p + 1))) := by
  rcases Nat.lt_or_ge s text.size with hlt | hge
  · have e : forSearch code1 text 0 s text.size false = at1 text s true (({} : Seen).add 14) := by
      have e0 : forSearch code1 text 0 s text.size false = if (decide (s > text.size) || decide (text.size - s < 1)) = true then { at1 text s true (({} : Seen).add 14) with lastStart := 0, frames := [], weight := 0, answer := some false } else at1 text s true (({} : Seen).add 14) := by kernel_rfl
      rw [e0, if_neg (by simp; (first | lia | omega))]
    rw [e]
    exact run1 text _ s true _ (by first | decide | lia | omega)
  · have e : s = text.size := by (first | lia | omega)
    subst e
    have e : forSearch code1 text 0 text.size text.size false = { at1 text text.size true (({} : Seen).add 14) with lastStart := 0, frames := [], weight := 0, answer := some false } := by
      have e0 : forSearch code1 text 0 text.size text.size false = if (decide (text.size > text.size) || decide (text.size - text.size < 1)) = true then { at1 text text.size true (({} : Seen).add 14) with lastStart := 0, frames := [], weight := 0, answer := some false } else at1 text text.size true (({} : Seen).add 14) := by kernel_rfl
      rw [e0, if_pos (by simp)]
    rw [e, Nat.sub_self]
    refine Ends.step rfl (show _ = { at1 text text.size true (({} : Seen).add 14) with lastStart := 0, frames := [], weight := 0, answer := some false, outcome := some .failed } from by kernel_rfl) ?_
    exact Ends.done rfl rfl

/-! pattern 2 -/
noncomputable def frN (s : Nat) (b : Bool) : Sre.Frame := { wait := .nextStart, pc := 10, pos := s, outermost := b }
noncomputable def frB (s : Nat) (b : Bool) (pc : Nat) : Sre.Frame := { wait := .nextBranch, pc := pc, pos := s, outermost := b }
noncomputable def frK (s : Nat) (b : Bool) : Sre.Frame := { wait := .lookNot, pc := 26, pos := s + 1, outermost := b }
noncomputable def m2 (text : Array Nat) (s pc pos handed : Nat) (om : Bool) (fr : List Sre.Frame) (w : Nat) (ans : Option Bool) (seen : Seen) : M :=
  { code := code2, text, lim := text.size, start := s, lastStart := text.size, pc, pos, handed, outermost := om, marks := #[], frames := fr, weight := w, answer := ans, seen }
section
variable (text : Array Nat) (s pos h : Nat) (b om : Bool) (fr : List Sre.Frame) (w : Nat) (seen : Seen)
theorem b0 : (m2 text s 10 s s b [frN s b] 1 none seen).step = m2 text s 12 s s b [frB s b 11, frN s b] 2 none (seen.add 7) := by kernel_rfl
theorem l12 : (m2 text s 12 pos h om fr w none seen).step = if pos ≥ text.size then m2 text s 12 pos h om fr w (some false) (seen.add 16) else match (text.getD pos 0 == 13) with | false => m2 text s 12 pos h om fr w (some false) (seen.add 16) | true => m2 text s 14 (pos + 1) h om fr w none (seen.add 16) := by kernel_rfl
theorem l14 : (m2 text s 14 pos h om fr w none seen).step = if pos ≥ text.size then m2 text s 14 pos h om fr w (some false) (seen.add 16) else match (text.getD pos 0 == 10) with | false => m2 text s 14 pos h om fr w (some false) (seen.add 16) | true => m2 text s 16 (pos + 1) h om fr w none (seen.add 16) := by kernel_rfl
theorem l19 : (m2 text s 19 pos h om fr w none seen).step = if pos ≥ text.size then m2 text s 19 pos h om fr w (some false) (seen.add 16) else match (text.getD pos 0 == 10) with | false => m2 text s 19 pos h om fr w (some false) (seen.add 16) | true => m2 text s 21 (pos + 1) h om fr w none (seen.add 16) := by kernel_rfl
theorem l24 : (m2 text s 24 pos h om fr w none seen).step = if pos ≥ text.size then m2 text s 24 pos h om fr w (some false) (seen.add 16) else match (text.getD pos 0 == 13) with | false => m2 text s 24 pos h om fr w (some false) (seen.add 16) | true => m2 text s 26 (pos + 1) h om fr w none (seen.add 16) := by kernel_rfl
theorem l29 : (m2 text s 29 pos h om fr w none seen).step = if pos ≥ text.size then m2 text s 29 pos h om fr w (some false) (seen.add 16) else match (text.getD pos 0 == 10) with | false => m2 text s 29 pos h om fr w (some false) (seen.add 16) | true => m2 text s 31 (pos + 1) h om fr w none (seen.add 16) := by kernel_rfl
theorem j16 : (m2 text s 16 pos h om fr w none seen).step = m2 text s 35 pos h om fr w none (seen.add 15) := by kernel_rfl
theorem j21 : (m2 text s 21 pos h om fr w none seen).step = m2 text s 35 pos h om fr w none (seen.add 15) := by kernel_rfl
theorem j32 : (m2 text s 32 pos h om fr w none seen).step = m2 text s 35 pos h om fr w none (seen.add 15) := by kernel_rfl
theorem s35 : (m2 text s 35 pos h om fr w none seen).step = m2 text s 35 pos pos om fr w (some true) (seen.add 1) := by cases om <;> kernel_rfl
theorem s31 : (m2 text s 31 pos h om fr w none seen).step = m2 text s 31 pos pos om fr w (some true) (seen.add 1) := by cases om <;> kernel_rfl
theorem a26 : (m2 text s 26 (s + 1) h b [frB s b 23, frN s b] 2 none seen).step = m2 text s 29 (s + 1) (s + 1) false [frK s b, frB s b 23, frN s b] 3 none (seen.add 5) := by kernel_rfl
theorem k_no (pc : Nat) : (m2 text s pc pos h om [frK s b, frB s b 23, frN s b] 3 (some false) seen).step = m2 text s 32 (s + 1) h b [frB s b 23, frN s b] 2 none seen := by kernel_rfl
theorem k_yes (pc : Nat) : (m2 text s pc pos h om [frK s b, frB s b 23, frN s b] 3 (some true) seen).step = m2 text s 26 (s + 1) h b [frB s b 23, frN s b] 2 (some false) seen := by kernel_rfl
theorem b_yes (pc q : Nat) : (m2 text s pc pos h om [frB s b q, frN s b] 2 (some true) seen).step = m2 text s q s h b [frN s b] 1 (some true) seen := by kernel_rfl
theorem b_no11 (pc : Nat) : (m2 text s pc pos h om [frB s b 11, frN s b] 2 (some false) seen).step = m2 text s 19 s s b [frB s b 18, frN s b] 2 none seen := by kernel_rfl
theorem b_no18 (pc : Nat) : (m2 text s pc pos h om [frB s b 18, frN s b] 2 (some false) seen).step = m2 text s 24 s s b [frB s b 23, frN s b] 2 none seen := by kernel_rfl
theorem n_yes (pc : Nat) : (m2 text s pc pos h om [frN s b] 1 (some true) seen).step = m2 text s 10 s h b [] 0 (some true) seen := by kernel_rfl
theorem e_yes (pc : Nat) : (m2 text s pc pos h om [] 0 (some true) seen).step = { m2 text s pc pos h om [] 0 (some true) seen with outcome := some .matched } := by kernel_rfl
theorem e_no (pc : Nat) : (m2 text s pc pos h om [] 0 (some false) seen).step = { m2 text s pc pos h om [] 0 (some false) seen with outcome := some .failed } := by kernel_rfl
end

/-- a row's end is there -/
noncomputable def brk (c : Nat) : Bool := c == 10 || c == 13
noncomputable def endOf (text : Array Nat) (s : Nat) : Nat := if (text.getD s 0 == 13 && (decide (s + 1 < text.size) && text.getD (s + 1) 0 == 10)) = true then s + 2 else s + 1

theorem fin2 (text : Array Nat) (s pos h : Nat) (b om : Bool) (pc q : Nat) (seen : Seen) : Ends 3 (m2 text s pc pos h om [frB s b q, frN s b] 2 (some true) seen) (Got (some (s, h))) := by
  refine Ends.step rfl (b_yes text s pos h b om seen pc q) ?_
  refine Ends.step rfl (n_yes text s s h b b seen q) ?_
  refine Ends.step rfl (e_yes text s s h b seen 10) ?_
  exact Ends.done rfl ⟨rfl, rfl, rfl⟩
theorem run2 (text : Array Nat) (s : Nat) (b : Bool) (seen : Seen) (hs : s < text.size) (hb : brk (text.getD s 0) = true) : Ends 20 (m2 text s 10 s s b [frN s b] 1 none seen) (Got (some (s, endOf text s))) := by
  have hge : ¬ s ≥ text.size := by (first | lia | omega)
  refine Ends.step rfl (b0 text s b seen) ?_
  refine Ends.step rfl (l12 text s s s b _ _ _) ?_
  rw [if_neg hge]
  unfold endOf
  cases h1 : (text.getD s 0 == 13) with
  | true =>
    refine Ends.step rfl (l14 text s (s + 1) s b _ _ _) ?_
    have h10 : (text.getD s 0 == 10) = false := by
      rw [beq_iff_eq] at h1
      rw [h1]; rfl
    have fail1 : ∀ seen', Ends 16 (m2 text s 14 (s + 1) s b [frB s b 11, frN s b] 2 (some false) seen') (Got (some (s, s + 1))) ∨ (decide (s + 1 < text.size) && text.getD (s + 1) 0 == 10) = true := by
      intro seen'
      cases h2 : (decide (s + 1 < text.size) && text.getD (s + 1) 0 == 10) with
      | true => exact .inr rfl
      | false =>
        left
        refine Ends.step rfl (b_no11 text s (s + 1) s b b _ 14) ?_
        refine Ends.step rfl (l19 text s s s b _ _ _) ?_
        rw [if_neg hge, h10]
        refine Ends.step rfl (b_no18 text s s s b b _ 19) ?_
        refine Ends.step rfl (l24 text s s s b _ _ _) ?_
        rw [if_neg hge, h1]
        refine Ends.step rfl (a26 text s s b _) ?_
        refine Ends.step rfl (l29 text s (s + 1) (s + 1) false _ _ _) ?_
        have go : ∀ seen'', Ends 9 (m2 text s 29 (s + 1) (s + 1) false [frK s b, frB s b 23, frN s b] 3 (some false) seen'') (Got (some (s, s + 1))) := by
          intro seen''
          refine Ends.step rfl (k_no text s (s + 1) (s + 1) b false _ 29) ?_
          refine Ends.step rfl (j32 text s (s + 1) (s + 1) b _ _ _) ?_
          refine Ends.step rfl (s35 text s (s + 1) (s + 1) b _ _ _) ?_
          exact (fin2 text s (s + 1) (s + 1) b b 35 23 _).more (k := 3)
        by_cases h3 : s + 1 ≥ text.size
        · rw [if_pos h3]; exact (go _).more (k := 1)
        · rw [if_neg h3]
          have h4 : (text.getD (s + 1) 0 == 10) = false := by
            rw [decide_eq_true (by first | decide | lia | omega), Bool.true_and] at h2
            exact h2
          rw [h4]; exact (go _).more (k := 1)
    by_cases h3 : s + 1 ≥ text.size
    · rw [if_pos h3]
      rcases fail1 _ with h | h
      · rw [decide_eq_false (by first | decide | lia | omega), Bool.false_and, Bool.and_false, if_neg (by simp)]
        exact h.more (k := 1)
      · rw [decide_eq_false (by first | decide | lia | omega)] at h
        simp at h
    · rw [if_neg h3, decide_eq_true (by first | decide | lia | omega), Bool.true_and, Bool.true_and]
      cases h4 : (text.getD (s + 1) 0 == 10) with
      | true =>
        rw [if_pos rfl]
        refine Ends.step rfl (j16 text s (s + 1 + 1) s b _ _ _) ?_
        refine Ends.step rfl (s35 text s (s + 1 + 1) s b _ _ _) ?_
        exact (fin2 text s (s + 2) (s + 2) b b 35 11 _).more (k := 12)
      | false =>
        rw [if_neg (by simp)]
        rcases fail1 _ with h | h
        · exact h.more (k := 1)
        · rw [h4, Bool.and_false] at h; cases h
  | false =>
    have h10 : (text.getD s 0 == 10) = true := by
      unfold brk at hb
      rw [h1, Bool.or_false] at hb
      exact hb
    rw [Bool.false_and, if_neg (by simp)]
    refine Ends.step rfl (b_no11 text s s s b b _ 12) ?_
    refine Ends.step rfl (l19 text s s s b _ _ _) ?_
    rw [if_neg hge, h10]
    refine Ends.step rfl (j21 text s (s + 1) s b _ _ _) ?_
    refine Ends.step rfl (s35 text s (s + 1) s b _ _ _) ?_
    exact (fin2 text s (s + 1) (s + 1) b b 35 18 _).more (k := 11)

noncomputable def find2 (text : Array Nat) : Nat → Nat → Option Nat
  | 0, _ => none
  | n + 1, s => if brk (text.getD s 0) = true then some s else find2 text n (s + 1)
theorem admitted2 (m : M) (hc : m.code = code2) (text : Array Nat) (ht : m.text = text) (hl : m.lim = text.size) : ∀ (n s : Nat) (seen : Seen), s + n = text.size → ∃ seen', M.admitted m (n + 1) s seen = .ok (find2 text n s, seen')
  | 0, s, seen, h => by
    refine ⟨seen, ?_⟩
    rw [M.admitted, hl, if_pos (by first | decide | lia | omega)]
    rfl
  | n + 1, s, seen, h => by
    rw [M.admitted, hl, if_neg (by first | decide | lia | omega), ht, hc]
    have e : ∀ c, inSet code2 c code2.size 5 true seen = match (c == 10) with | true => .ok (true, seen.add 16) | false => match (c == 13) with | true => .ok (true, (seen.add 16).add 16) | false => .ok (false, ((seen.add 16).add 16).add 0) := by
      intro c
      have e0 : inSet code2 c code2.size 5 true seen = if (c == 10) = true then .ok (true, seen.add 16) else if (c == 13) = true then .ok (true, (seen.add 16).add 16) else .ok (false, ((seen.add 16).add 16).add 0) := by kernel_rfl
      rw [e0]
      cases c == 10 <;> cases c == 13 <;> rfl
    rw [e]
    unfold find2 brk
    cases h1 : (text.getD s 0 == 10) with
    | true => exact ⟨_, by rw [if_pos (by simp)]⟩
    | false =>
      cases h2 : (text.getD s 0 == 13) with
      | true => exact ⟨_, by rw [if_pos (by simp)]⟩
      | false =>
        rw [if_neg (by simp)]
        exact admitted2 m hc text ht hl n (s + 1) _ (by first | decide | lia | omega)
theorem find2_ok (text : Array Nat) : ∀ (n s p : Nat), find2 text n s = some p → s + n = text.size → s ≤ p ∧ p < text.size ∧ brk (text.getD p 0) = true
  | 0, _, _, h, _ => by cases h
  | n + 1, s, p, h, e => by
    unfold find2 at h
    split at h
    · cases h; exact ⟨Nat.le_refl _, by (first | lia | omega), by assumption⟩
    · have := find2_ok text n (s + 1) p h (by first | decide | lia | omega)
      exact ⟨by (first | lia | omega), this.2⟩

theorem search2 (text : Array Nat) (s : Nat) (h : s ≤ text.size) : Ends 20 (forSearch code2 text 0 s text.size false) (Got ((find2 text (text.size - s) s).map fun p => (p, endOf text p))) := by
  have e0 : forSearch code2 text 0 s text.size false = if (decide (s > text.size) || decide (text.size - s < 1)) = true then { m2 text s 10 s s true [] 0 (some false) (({} : Seen).add 14) with lastStart := 0 } else
      (m2 text s 10 s s true [] 0 none (({} : Seen).add 14)).attemptFrom s true := by kernel_rfl
  rw [e0]
  rcases Nat.lt_or_ge s text.size with hlt | hge
  · rw [if_neg (by simp; (first | lia | omega))]
    have e1 : (m2 text s 10 s s true [] 0 none (({} : Seen).add 14)).attemptFrom s true = match M.admitted (m2 text s 10 s s true [] 0 none (({} : Seen).add 14)) (text.size + 1 - s) s (({} : Seen).add 14) with
        | .ok (some p, seen) => m2 text p 10 p p true [frN p true] 1 none seen
        | .ok (none, seen) => m2 text s 10 s s true [] 0 (some false) seen
        | .error why => (m2 text s 10 s s true [] 0 none (({} : Seen).add 14)).stick why := by kernel_rfl
    rw [e1]
    obtain ⟨seen', e2⟩ := admitted2 (m2 text s 10 s s true [] 0 none (({} : Seen).add 14)) rfl text rfl rfl (text.size - s) s (({} : Seen).add 14) (by first | decide | lia | omega)
    have e3 : text.size + 1 - s = text.size - s + 1 := by (first | lia | omega)
    rw [e3, e2]
    cases hf : find2 text (text.size - s) s with
    | none =>
      refine Ends.step rfl (e_no text s s s true _ 10) ?_
      exact Ends.done rfl rfl
    | some p =>
      obtain ⟨h1, h2, h3⟩ := find2_ok text _ _ _ hf (by first | decide | lia | omega)
      exact run2 text p true _ h2 h3
  · have e : s = text.size := by (first | lia | omega)
    subst e
    rw [if_pos (by simp), Nat.sub_self]
    refine Ends.step rfl (show _ = { m2 text text.size 10 text.size text.size true [] 0 (some false) (({} : Seen).add 14) with lastStart := 0, outcome := some .failed } from by kernel_rfl) ?_
    exact Ends.done rfl rfl
end Mine
end

section
open PySem PySem.W PyProof.Rows
set_option Elab.async false
set_option maxRecDepth 100000
set_option linter.unusedVariables false
set_option linter.all false
namespace Mine

noncomputable abbrev PW : Program := PySem.Challenge.pw_jc0005_01
set_option genInjectivity false
set_option genSizeOf false
noncomputable abbrev Vw := Addr → Option Obj
noncomputable def Le (g g' : Vw) : Prop := ∀ b o, g b = some o → g' b = some o
theorem Le.refl (g : Vw) : Le g g := fun _ _ e => e
theorem Le.trans {a b c : Vw} (h : Le a b) (k : Le b c) : Le a c := fun x o e => k x o (h x o e)

inductive PV where
  | none
  | bool (b : Bool)
  | int (i : Int)
  | str (s : Str)
  | tuple (l : List PV)
  | list (l : List PV)
  | dict (l : List (Str × PV))
  | slice (lo hi st : Option Int)
  | range (a b : Int)
  | view (l : List (Str × PV))
  | ty (T : String)
  | exc (code : Int) (msg : Str)
  | hid (a : Addr)

mutual
inductive Rep (P : Params) (g : Vw) : Value → PV → Prop
  | none : Rep P g .none .none
  | bool (b : Bool) : Rep P g (.bool b) (.bool b)
  | int (i : Int) (t : Tok) : Rep P g (.int i t) (.int i)
  | str (s : Str) (t : Tok) : Rep P g (.str s t) (.str s)
  | tuple {a : Addr} {o : Obj} {vs : Array Value} {n : Nat} {l : List PV} : g a = some o → o.cls = .type "tuple" → o.data = .seq vs n → RepL P g vs.toList l → Rep P g (.ref a) (.tuple l)
  | list {a : Addr} {o : Obj} {vs : Array Value} {n : Nat} {l : List PV} : g a = some o → o.cls = .type "list" → o.data = .seq vs n → RepL P g vs.toList l → Rep P g (.ref a) (.list l)
  | dict {a : Addr} {es : Array DictEntry} {n : Nat} {l : List (Str × PV)} : (a == sysModules) = false → g a = some { cls := .type "dict", data := .dict es n } → RepD P g es.toList l → Rep P g (.ref a) (.dict l)
  | slice {a : Addr} {vl vu vs : Value} {lo hi st : Option Int} : g a = some { cls := .type "slice", data := .fields #[vl, vu, vs] } → IsPart vl lo → IsPart vu hi → IsPart vs st → Rep P g (.ref a) (.slice lo hi st)
  | range {a : Addr} {t u v : Tok} {x y : Int} : g a = some { cls := .type "range", dict := none, data := .fields #[.int x t, .int y u, .int 1 v], slots := #[] } → Rep P g (.ref a) (.range x y)
  | view {a d : Addr} {es : Array DictEntry} {n : Nat} {l : List (Str × PV)} : (d == sysModules) = false → g a = some { cls := .type "dict_items", data := .fields #[.ref d] } → g d = some { cls := .type "dict", data := .dict es n } → RepD P g es.toList l → Rep P g (.ref a) (.view l)
  | ty (T : String) : Rep P g (.type T) (.ty T)
  | exc {a d : Addr} {vs : Array Value} {code : Int} {msg : Str} {t1 t2 t3 t4 : Tok} {n : Nat} : g a = some { cls := .ref 83, dict := some d, data := .fields vs } → vs[2]? = some .none →
      g d = some { cls := .type "dict", data := .dict #[⟨PyData.keyHash P "smtp_code", .str "smtp_code" t1, .int code t2⟩, ⟨PyData.keyHash P "smtp_error", .str "smtp_error" t3, .str msg t4⟩] n } → Rep P g (.ref a) (.exc code msg)
  | hid (a : Addr) : Rep P g (.ref a) (.hid a)
inductive RepL (P : Params) (g : Vw) : List Value → List PV → Prop
  | nil : RepL P g [] []
  | cons {v : Value} {d : PV} {vs : List Value} {ds : List PV} : Rep P g v d → RepL P g vs ds → RepL P g (v :: vs) (d :: ds)
inductive RepD (P : Params) (g : Vw) : List DictEntry → List (Str × PV) → Prop
  | nil : RepD P g [] []
  | cons {k : Str} {t : Tok} {v : Value} {d : PV} {es : List DictEntry} {l : List (Str × PV)} : Rep P g v d → RepD P g es l → RepD P g (⟨PyData.keyHash P k, .str k t, v⟩ :: es) ((k, d) :: l)
end

theorem RepL.ind {P : Params} {g : Vw} {motive : List Value → List PV → Prop} (hn : motive [] []) (hc : ∀ (v : Value) (d : PV) (vs : List Value) (ds : List PV), Rep P g v d → RepL P g vs ds → motive vs ds → motive (v :: vs) (d :: ds)) {vs : List Value} {ds : List PV} (r : RepL P g vs ds) : motive vs ds :=
  RepL.rec (motive_1 := fun _ _ _ => True) (motive_2 := fun vs ds _ => motive vs ds) (motive_3 := fun _ _ _ => True) .intro (fun _ => .intro) (fun _ _ => .intro) (fun _ _ => .intro) (fun _ _ _ _ _ => .intro) (fun _ _ _ _ _ => .intro) (fun _ _ _ _ => .intro)
    (fun _ _ _ _ => .intro) (fun _ => .intro) (fun _ _ _ _ _ => .intro) (fun _ => .intro) (fun _ _ _ => .intro) (fun _ => .intro) hn (fun a r _ ih => hc _ _ _ _ a r ih) .intro (fun _ _ _ _ => .intro) r
theorem RepD.ind {P : Params} {g : Vw} {motive : List DictEntry → List (Str × PV) → Prop} (hn : motive [] []) (hc : ∀ (k : Str) (t : Tok) (v : Value) (d : PV) (es : List DictEntry) (l : List (Str × PV)), Rep P g v d → RepD P g es l → motive es l → motive (⟨PyData.keyHash P k, .str k t, v⟩ :: es) ((k, d) :: l)) {es : List DictEntry} {l : List (Str × PV)} (r : RepD P g es l) : motive es l :=
  RepD.rec (motive_1 := fun _ _ _ => True) (motive_2 := fun _ _ _ => True) (motive_3 := fun es l _ => motive es l) .intro (fun _ => .intro) (fun _ _ => .intro) (fun _ _ => .intro) (fun _ _ _ _ _ => .intro) (fun _ _ _ _ _ => .intro) (fun _ _ _ _ => .intro)
    (fun _ _ _ _ => .intro) (fun _ => .intro) (fun _ _ _ _ _ => .intro) (fun _ => .intro) (fun _ _ _ => .intro) (fun _ => .intro) .intro (fun _ _ _ _ => .intro) hn (fun a r _ ih => hc _ _ _ _ _ _ a r ih) r

theorem Rep.mono {P : Params} {g g' : Vw} (h : Le g g') {v : Value} {d : PV} (r : Rep P g v d) : Rep P g' v d :=
  Rep.rec (motive_1 := fun v d _ => Rep P g' v d) (motive_2 := fun v d _ => RepL P g' v d) (motive_3 := fun v d _ => RepD P g' v d) .none .bool .int .str (fun e c d _ r => .tuple (h _ _ e) c d r) (fun e c d _ r => .list (h _ _ e) c d r) (fun z e _ r => .dict z (h _ _ e) r)
    (fun e p q r => .slice (h _ _ e) p q r) (fun e => .range (h _ _ e)) (fun z e f _ r => .view z (h _ _ e) (h _ _ f) r) .ty (fun e f k => .exc (h _ _ e) f (h _ _ k)) .hid .nil (fun _ _ a r => .cons a r) .nil (fun _ _ a r => .cons a r) r
theorem RepL.mono {P : Params} {g g' : Vw} (h : Le g g') {vs : List Value} {ds : List PV} (r : RepL P g vs ds) : RepL P g' vs ds := r.ind (motive := RepL P g') .nil fun _ _ _ _ a _ ih => .cons (a.mono h) ih
theorem RepD.mono {P : Params} {g g' : Vw} (h : Le g g') {es : List DictEntry} {l : List (Str × PV)} (r : RepD P g es l) : RepD P g' es l := r.ind (motive := RepD P g') .nil fun _ _ _ _ _ _ a _ ih => .cons (a.mono h) ih

inductive InvInt (i : Int) : Value → Prop
  | mk (t : Tok) : InvInt i (.int i t)
inductive InvStr (s : Str) : Value → Prop
  | mk (t : Tok) : InvStr s (.str s t)
inductive InvSeq (P : Params) (g : Vw) (T : String) (l : List PV) : Value → Prop
  | mk {a : Addr} {o : Obj} {vs : Array Value} {n : Nat} : g a = some o → o.cls = .type T → o.data = .seq vs n → RepL P g vs.toList l → InvSeq P g T l (.ref a)
inductive InvDict (P : Params) (g : Vw) (l : List (Str × PV)) : Value → Prop
  | mk {a : Addr} {es : Array DictEntry} {n : Nat} : (a == sysModules) = false → g a = some { cls := .type "dict", data := .dict es n } → RepD P g es.toList l → InvDict P g l (.ref a)
inductive InvSlice (g : Vw) (lo hi st : Option Int) : Value → Prop
  | mk {a : Addr} {vl vu vs : Value} : g a = some { cls := .type "slice", data := .fields #[vl, vu, vs] } → IsPart vl lo → IsPart vu hi → IsPart vs st → InvSlice g lo hi st (.ref a)
inductive InvRange (g : Vw) (x y : Int) : Value → Prop
  | mk {a : Addr} {t u v : Tok} : g a = some { cls := .type "range", dict := none, data := .fields #[.int x t, .int y u, .int 1 v], slots := #[] } → InvRange g x y (.ref a)
inductive InvView (P : Params) (g : Vw) (l : List (Str × PV)) : Value → Prop
  | mk {a d : Addr} {es : Array DictEntry} {n : Nat} : (d == sysModules) = false → g a = some { cls := .type "dict_items", data := .fields #[.ref d] } → g d = some { cls := .type "dict", data := .dict es n } → RepD P g es.toList l → InvView P g l (.ref a)
inductive InvExc (P : Params) (g : Vw) (code : Int) (msg : Str) : Value → Prop
  | mk {a d : Addr} {vs : Array Value} {t1 t2 t3 t4 : Tok} {n : Nat} : g a = some { cls := .ref 83, dict := some d, data := .fields vs } → vs[2]? = some .none →
      g d = some { cls := .type "dict", data := .dict #[⟨PyData.keyHash P "smtp_code", .str "smtp_code" t1, .int code t2⟩, ⟨PyData.keyHash P "smtp_error", .str "smtp_error" t3, .str msg t4⟩] n } → InvExc P g code msg (.ref a)
inductive InvCons (P : Params) (g : Vw) (d : PV) (ds : List PV) : List Value → Prop
  | mk {v : Value} {vs : List Value} : Rep P g v d → RepL P g vs ds → InvCons P g d ds (v :: vs)
inductive InvConsD (P : Params) (g : Vw) (k : Str) (d : PV) (l : List (Str × PV)) : List DictEntry → Prop
  | mk {t : Tok} {v : Value} {es : List DictEntry} : Rep P g v d → RepD P g es l → InvConsD P g k d l (⟨PyData.keyHash P k, .str k t, v⟩ :: es)
noncomputable def Inv (P : Params) (g : Vw) (v : Value) : PV → Prop :=
  PV.rec (motive_1 := fun _ => Prop) (motive_2 := fun _ => Unit) (motive_3 := fun _ => Unit) (motive_4 := fun _ => Unit) (v = .none) (fun b => v = .bool b) (fun i => InvInt i v) (fun s => InvStr s v) (fun l _ => InvSeq P g "tuple" l v) (fun l _ => InvSeq P g "list" l v) (fun l _ => InvDict P g l v)
    (fun lo hi st => InvSlice g lo hi st v) (fun x y => InvRange g x y v) (fun l _ => InvView P g l v) (fun T => v = .type T) (fun c m => InvExc P g c m v) (fun a => v = .ref a) () (fun _ _ _ _ => ()) () (fun _ _ _ _ => ()) (fun _ _ _ => ())
theorem Rep.inv {P : Params} {g : Vw} {v : Value} {d : PV} (r : Rep P g v d) : Inv P g v d :=
  Rep.casesOn (motive_1 := fun v d _ => Inv P g v d) r rfl (fun _ => rfl) (fun _ t => .mk t) (fun _ t => .mk t) (fun e c d r => .mk e c d r) (fun e c d r => .mk e c d r) (fun z e r => .mk z e r) (fun e p q r => .mk e p q r) (fun e => .mk e) (fun z e f r => .mk z e f r) (fun _ => rfl) (fun e f k => .mk e f k) (fun _ => rfl)
noncomputable def InvL (P : Params) (g : Vw) (vs : List Value) (ds : List PV) : Prop := List.rec (motive := fun _ => Prop) (vs = []) (fun d ds _ => InvCons P g d ds vs) ds
theorem RepL.inv {P : Params} {g : Vw} {vs : List Value} {ds : List PV} (r : RepL P g vs ds) : InvL P g vs ds := RepL.casesOn (motive_2 := fun vs ds _ => InvL P g vs ds) r rfl fun a r => .mk a r
noncomputable def InvD (P : Params) (g : Vw) (es : List DictEntry) (l : List (Str × PV)) : Prop := List.rec (motive := fun _ => Prop) (es = []) (fun d ds _ => InvConsD P g d.1 d.2 ds es) l
theorem RepD.inv {P : Params} {g : Vw} {es : List DictEntry} {l : List (Str × PV)} (r : RepD P g es l) : InvD P g es l := RepD.casesOn (motive_3 := fun es l _ => InvD P g es l) r rfl fun a r => .mk a r

/-- the rest of the state: with k nothing else is turned; without it the generators stay bare -/
noncomputable def Rest (k : Bool) (s s' : Shared) : Prop := s'.os = s.os ∧ (if k = true then s'.gens = s.gens ∧ s'.drawn = s.drawn else (AllBare s.gens → AllBare s'.gens))
theorem Rest.refl (k : Bool) (s : Shared) : Rest k s s := ⟨rfl, by split <;> simp⟩
theorem Rest.trans {k : Bool} {s s' s'' : Shared} (h : Rest k s s') (h' : Rest k s' s'') : Rest k s s'' := by
  refine ⟨h'.1.trans h.1, ?_⟩
  have a := h.2
  have b := h'.2
  split at a <;> rename_i hk
  · rw [if_pos hk] at b ⊢; exact ⟨b.1.trans a.1, b.2.trans a.2⟩
  · rw [if_neg hk] at b ⊢; exact fun x => b (a x)
theorem Rest.same (k : Bool) (s : Shared) (h : Heap) (t : Nat) : Rest k s { s with heap := h, toks := t } := ⟨rfl, by split <;> simp⟩

structure Step (k : Bool) (g : Vw) (s : Shared) (g' : Vw) (s' : Shared) : Prop where
  heap : Le s.heap.get? s'.heap.get?
  up : Le g g'
  sub : Le g' s'.heap.get?
  new : ∀ b o, g' b = some o → g b = some o ∨ s.heap.get? b = none
  rest : Rest k s s'

theorem Step.refl {k : Bool} {g : Vw} {s : Shared} (h : Le g s.heap.get?) : Step k g s g s := ⟨Le.refl _, Le.refl _, h, fun _ _ e => .inl e, Rest.refl _ _⟩
theorem Step.tok {k : Bool} {g : Vw} {s : Shared} (h : Le g s.heap.get?) (t : Nat) : Step k g s g { s with toks := t } := ⟨Le.refl _, Le.refl _, h, fun _ _ e => .inl e, Rest.same k s s.heap t⟩
theorem Step.trans {k : Bool} {g g' g'' : Vw} {s s' s'' : Shared} (h : Step k g s g' s') (h' : Step k g' s' g'' s'') : Step k g s g'' s'' where
  heap := h.heap.trans h'.heap
  up := h.up.trans h'.up
  sub := h'.sub
  new := fun b o e => by
    rcases h'.new b o e with e | e
    · exact h.new b o e
    · right
      cases q : s.heap.get? b with
      | none => rfl
      | some o' => rw [h.heap b o' q] at e; cases e
  rest := h.rest.trans h'.rest

/-- what grows without a new thing to see -/
theorem Step.grow {k : Bool} {g : Vw} {s s' : Shared} (h : Le g s.heap.get?) (hh : Le s.heap.get? s'.heap.get?) (r : Rest k s s') : Step k g s g s' :=
  ⟨hh, Le.refl _, h.trans hh, fun _ _ e => .inl e, r⟩

noncomputable def put (g : Vw) (a : Addr) (o : Obj) : Vw := fun b => if b = a then some o else g b
theorem put_self (g : Vw) (a : Addr) (o : Obj) : put g a o a = some o := by simp [put]
theorem put_le {g : Vw} {a : Addr} {o : Obj} (h : g a = none) : Le g (put g a o) := by
  intro b o' e
  unfold put
  by_cases q : b = a
  · subst q; rw [h] at e; cases e
  · rw [if_neg q]; exact e

/-- one new object that is shown -/
theorem Step.show {k : Bool} {g : Vw} {s s' : Shared} {a : Addr} {o : Obj} (h : Le g s.heap.get?) (hh : Le s.heap.get? s'.heap.get?) (hn : s.heap.get? a = none) (ha : s'.heap.get? a = some o) (r : Rest k s s') :
    Step k g s (put g a o) s' := by
  have hg : g a = none := by
    cases q : g a with
    | none => rfl
    | some o' => rw [h a o' q] at hn; cases hn
  refine ⟨hh, put_le hg, ?_, ?_, r⟩
  · intro b o' e
    unfold put at e
    by_cases q : b = a
    · subst q; rw [if_pos rfl] at e; cases e; exact ha
    · rw [if_neg q] at e; exact hh _ _ (h _ _ e)
  · intro b o' e
    unfold put at e
    by_cases q : b = a
    · subst q; exact .inr hn
    · rw [if_neg q] at e; exact .inl e

theorem get_size_none (h : Heap) : h.get? h.objs.size = none := by
  cases q : h.get? h.objs.size with
  | none => rfl
  | some o => exact absurd (Heap.lt_size q) (Nat.lt_irrefl _)

theorem Step.push {k : Bool} {g : Vw} {s : Shared} {o : Obj} (h : Le g s.heap.get?) (hf : o.isFreed = false := by rfl) (t : Nat) :
    Step k g s (put g s.heap.objs.size o) { s with heap := s.heap.push o, toks := t } :=
  Step.show h (fun _ _ e => Heap.get?_push_of_some _ e) (get_size_none _) (Heap.get?_push_size _ hf) (Rest.same k s _ t)

/-! what every place of the run knows of the module -/
noncomputable abbrev KF (w : World) : Frag := Mine.hd.heap_39 w.params
structure Base (w : World) (g : Vw) : Prop where
  K : ∀ a o, (KF w).lookup a = some o → g a = some o
  bl : ∃ (h₀ : Heap) (mb : Str → Option Value), Le h₀.get? g ∧ h₀.Ns builtinsNs mb ∧ (∀ x : Str, x ≠ "__name__" → mb x = bootBuiltins x) ∧ h₀.NoLimit
theorem Base.mono {w : World} {g g' : Vw} (b : Base w g) (h : Le g g') : Base w g' where
  K := fun a o e => h _ _ (b.K a o e)
  bl := let ⟨h₀, mb, l, r⟩ := b.bl; ⟨h₀, mb, l.trans h, r⟩
theorem Base.kin {w : World} {g : Vw} {h : Heap} (b : Base w g) (l : Le g h.get?) : (KF w).In h := fun a o e => l _ _ (b.K a o e)
theorem Base.nolimit {w : World} {g : Vw} {h : Heap} (b : Base w g) (l : Le g h.get?) : h.NoLimit := by
  obtain ⟨h₀, mb, l₀, _, _, n⟩ := b.bl
  exact n.keeps (l₀.trans l)

structure Cx where
  w : World
  A : Around
  env : Env

noncomputable abbrev REnv := List (Str × PV)

structure EnvOK (c : Cx) (ρ : REnv) (g : Vw) (h : Heap) : Prop where
  base : Base c.w g
  fn : c.env.scope.kind = .function
  gl : c.env.globals = mainGlobals
  bn : c.env.builtins = builtinsNs
  loc : ∃ m, h.Ns c.env.locals m ∧ ∀ x d, c.env.kindOf x = some .local → ρ.lookup x = some d → ∃ v, m x = some v ∧ Rep c.w.params g v d
  cel : ∀ x d, (c.env.kindOf x = some .cell ∨ c.env.kindOf x = some .free) → ρ.lookup x = some d → ∃ a v, c.env.cells.lookup x = some a ∧ h.IsCell a (some v) ∧ Rep c.w.params g v d
theorem EnvOK.mono {c : Cx} {ρ : REnv} {g g' : Vw} {h h' : Heap} (e : EnvOK c ρ g h) (lh : Le h.get? h'.get?) (lg : Le g g') : EnvOK c ρ g' h' where
  base := e.base.mono lg
  fn := e.fn
  gl := e.gl
  bn := e.bn
  loc := let ⟨m, n, f⟩ := e.loc; ⟨m, n.keeps lh, fun x d hx hd => let ⟨v, hv, r⟩ := f x d hx hd; ⟨v, hv, r.mono lg⟩⟩
  cel := fun x d hx hd => let ⟨a, v, h1, h2, r⟩ := e.cel x d hx hd; ⟨a, v, h1, h2.keeps lh, r.mono lg⟩
theorem EnvOK.step {k : Bool} {c : Cx} {ρ : REnv} {g g' : Vw} {s s' : Shared} (e : EnvOK c ρ g s.heap) (st : Step k g s g' s') : EnvOK c ρ g' s'.heap := e.mono st.heap st.up

noncomputable abbrev Wp (c : Cx) {α : Type} (t : Sem α) (Q : α → Shared → Prop) (E : Value → Shared → Prop) (s : Shared) : Prop := wpAny (model PW c.w) c.A t Q E s

noncomputable def Ev (k : Bool) (c : Cx) (ρ : REnv) (e : Expr) (d : PV) : Prop :=
  ∀ (g : Vw) (s : Shared) (Q : Value → Shared → Prop) (E : Value → Shared → Prop), EnvOK c ρ g s.heap → Le g s.heap.get? →
    (∀ v g' s', Step k g s g' s' → Rep c.w.params g' v d → Q v s') → Wp c (eval e c.env) Q E s

noncomputable def EvL (k : Bool) (c : Cx) (ρ : REnv) (es : List Expr) (ds : List PV) : Prop :=
  ∀ (pos : Pos) (g : Vw) (s : Shared) (Q : List Value → Shared → Prop) (E : Value → Shared → Prop), EnvOK c ρ g s.heap → Le g s.heap.get? →
    (∀ vs g' s', Step k g s g' s' → RepL c.w.params g' vs ds → Q vs s') → Wp c (spliced (backTo pos (starEach es c.env))) Q E s

/-- a test -/
noncomputable def Tr (k : Bool) (c : Cx) (ρ : REnv) (e : Expr) (b : Bool) : Prop :=
  ∀ (g : Vw) (s : Shared) (Q : Bool → Shared → Prop) (E : Value → Shared → Prop), EnvOK c ρ g s.heap → Le g s.heap.get? →
    (∀ g' s', Step k g s g' s' → Q b s') → Wp c (isTrue e c.env (eval e c.env)) Q E s

section
variable {k : Bool} {c : Cx} {ρ : REnv}

theorem Ev.int {i : Int} {kd : Nat} {pos : Pos} : Ev k c ρ (.Constant (.int i) kd pos) (.int i) := fun g s Q E F L h => wpAny_Constant_int (h _ g _ (Step.tok L _) (.int i _))
theorem Ev.str {x : Str} {kd : Nat} {pos : Pos} : Ev k c ρ (.Constant (.str x) kd pos) (.str x) := fun g s Q E F L h => Calls.Constant_str (h _ g _ (Step.tok L _) (.str x _))
theorem Ev.bool {b : Bool} {kd : Nat} {pos : Pos} : Ev k c ρ (.Constant (.bool b) kd pos) (.bool b) := fun g s Q E F L h => Constant_bool (h _ g _ (Step.refl L) (.bool b))
theorem Ev.none {kd : Nat} {pos : Pos} : Ev k c ρ (.Constant .none kd pos) .none := fun g s Q E F L h => Constant_none (h _ g _ (Step.refl L) .none)

theorem Ev.loc {x : Str} {pos : Pos} {d : PV} (hk : c.env.kindOf x = some .local) (hd : ρ.lookup x = some d) (hn : (x == ("__debug__" : Str)) = false := by decide) : Ev k c ρ (.Name x pos) d := fun g s Q E F L h => by
  obtain ⟨m, n, f⟩ := F.loc
  obtain ⟨v, hv, r⟩ := f x d hk hd
  exact wpAny_Name (wpAny_loadName_local F.fn hk n hv (h v g s (Step.refl L) r)) hn
theorem Ev.cell {x : Str} {pos : Pos} {d : PV} (hk : c.env.kindOf x = some .cell) (hd : ρ.lookup x = some d) (hn : (x == ("__debug__" : Str)) = false := by decide) : Ev k c ρ (.Name x pos) d := fun g s Q E F L h => by
  obtain ⟨a, v, h1, h2, r⟩ := F.cel x d (.inl hk) hd
  exact wpAny_Name (wpAny_loadName_cell F.fn hk h1 h2 (h v g s (Step.refl L) r)) hn
theorem Ev.free {x : Str} {pos : Pos} {d : PV} (hk : c.env.kindOf x = some .free) (hd : ρ.lookup x = some d) (hn : (x == ("__debug__" : Str)) = false := by decide) (hc : (x == ("__classdict__" : Str)) = false := by decide) : Ev k c ρ (.Name x pos) d := fun g s Q E F L h => by
  obtain ⟨a, v, h1, h2, r⟩ := F.cel x d (.inr hk) hd
  exact wpAny_Name (wpAny_loadName_free F.fn hk h1 h2 (h v g s (Step.refl L) r) hc) hn

theorem EvL.nil : EvL k c ρ [] [] := fun pos g s Q E F L h => args_nil (h [] g s (Step.refl L) .nil)
theorem EvL.cons {e : Expr} {rest : List Expr} {d : PV} {ds : List PV} (he : starEach (e :: rest) c.env = (false, eval e c.env) :: starEach rest c.env) (h1 : Ev k c ρ e d) (h2 : EvL k c ρ rest ds) : EvL k c ρ (e :: rest) (d :: ds) := fun pos g s Q E F L h =>
  args_cons (h1 g s _ E F L fun v g' s' st r => h2 pos g' s' _ E (F.step st) st.sub fun vs g'' s'' st' r' => h _ g'' s'' (st.trans st') (.cons (r.mono st'.up) r')) he

theorem newList_V {w : World} {A : Around} {g : Vw} {s : Shared} {vs : List Value} {ds : List PV} {Q : Value → Shared → Prop} {E : Value → Shared → Prop} (L : Le g s.heap.get?) (r : RepL w.params g vs ds) (hsz : vs.length ≤ sizeLine)
    (h : ∀ v g' s', Step k g s g' s' → Rep w.params g' v (.list ds) → Q v s') : wpAny (model PW w) A (newList vs) Q E s := by
  refine wpAny_newObj_type ?_ (by show vs.toArray.size ≤ sizeLine; rw [List.size_toArray]; exact hsz)
  have st : Step k g s _ _ := Step.push (o := { cls := .type "list", data := .seq vs.toArray }) L rfl s.toks
  exact h _ _ _ st (.list (put_self _ _ _) rfl rfl (by simpa using r.mono st.up))
theorem newTuple_V {w : World} {A : Around} {g : Vw} {s : Shared} {vs : List Value} {ds : List PV} {Q : Value → Shared → Prop} {E : Value → Shared → Prop} (L : Le g s.heap.get?) (r : RepL w.params g vs ds) (hsz : vs.length ≤ sizeLine)
    (h : ∀ v g' s', Step k g s g' s' → Rep w.params g' v (.tuple ds) → Q v s') : wpAny (model PW w) A (newTuple vs) Q E s := by
  refine wpAny_newObj_type ?_ (by show vs.toArray.size ≤ sizeLine; rw [List.size_toArray]; exact hsz)
  have st : Step k g s _ _ := Step.push (o := { cls := .type "tuple", data := .seq vs.toArray }) L rfl s.toks
  exact h _ _ _ st (.tuple (put_self _ _ _) rfl rfl (by simpa using r.mono st.up))

theorem RepL.length {P : Params} {g : Vw} {vs : List Value} {ds : List PV} (r : RepL P g vs ds) : vs.length = ds.length := r.ind (motive := fun vs ds => vs.length = ds.length) rfl fun _ _ _ _ _ _ ih => congrArg (· + 1) ih

theorem Ev.list {es : List Expr} {ds : List PV} {pos : Pos} (h1 : EvL k c ρ es ds) (hsz : ds.length ≤ sizeLine) : Ev k c ρ (.List es pos) (.list ds) := fun g s Q E F L h =>
  List_ (h1 pos g s _ E F L fun vs g' s' st r => newList_V st.sub r (by rw [r.length]; exact hsz) fun v g'' s'' st' r' => h v g'' s'' (st.trans st') r')
theorem Ev.tuple {es : List Expr} {ds : List PV} {kd : Nat} {pos : Pos} (h1 : EvL k c ρ es ds) (hsz : ds.length ≤ sizeLine) : Ev k c ρ (.Tuple es kd pos) (.tuple ds) := fun g s Q E F L h =>
  Tuple_ (h1 pos g s _ E F L fun vs g' s' st r => newTuple_V st.sub r (by rw [r.length]; exact hsz) fun v g'' s'' st' r' => h v g'' s'' (st.trans st') r')

/-! operators: what they give, by the shapes -/
noncomputable def BinV (k : Bool) (c : Cx) (op : Operator) (a b d : PV) : Prop :=
  ∀ (g : Vw) (s : Shared) (va vb : Value) (Q : Value → Shared → Prop) (E : Value → Shared → Prop), Base c.w g → Le g s.heap.get? → Rep c.w.params g va a → Rep c.w.params g vb b →
    (∀ v g' s', Step k g s g' s' → Rep c.w.params g' v d → Q v s') → Wp c (binaryOp op va vb) Q E s
noncomputable def CmpV (k : Bool) (c : Cx) (op : CmpOp) (a b : PV) (d : Bool) : Prop :=
  ∀ (g : Vw) (s : Shared) (va vb : Value) (Q : Value → Shared → Prop) (E : Value → Shared → Prop), Base c.w g → Le g s.heap.get? → Rep c.w.params g va a → Rep c.w.params g vb b →
    (∀ g' s', Step k g s g' s' → Q (.bool d) s') → Wp c (compareOp op va vb) Q E s
noncomputable def IopV (k : Bool) (c : Cx) (op : Operator) (a b d : PV) : Prop :=
  ∀ (g : Vw) (s : Shared) (va vb : Value) (Q : Value → Shared → Prop) (E : Value → Shared → Prop), Base c.w g → Le g s.heap.get? → Rep c.w.params g va a → Rep c.w.params g vb b →
    (∀ v g' s', Step k g s g' s' → Rep c.w.params g' v d → Q v s') → Wp c (inplaceOp op va vb) Q E s

theorem Ev.bin {l r : Expr} {op : Operator} {pos : Pos} {a b d : PV} (h1 : Ev k c ρ l a) (h2 : Ev k c ρ r b) (h3 : BinV k c op a b d) : Ev k c ρ (.BinOp l op r pos) d := fun g s Q E F L h =>
  wpAny_BinOp (h1 g s _ E F L fun va g' s' st ra => h2 g' s' _ E (F.step st) st.sub fun vb g'' s'' st' rb => h3 g'' s'' va vb Q E (F.base.mono (st.trans st').up) st'.sub (ra.mono st'.up) rb fun v g3 s3 st3 r3 => h v g3 s3 ((st.trans st').trans st3) r3)
theorem Ev.cmp {l r : Expr} {op : CmpOp} {pos : Pos} {a b : PV} {d : Bool} (h1 : Ev k c ρ l a) (h2 : Ev k c ρ r b) (h3 : CmpV k c op a b d) (hm : behindInMarks op r = false) : Ev k c ρ (.Compare l [op] [r] pos) (.bool d) := fun g s Q E F L h =>
  wpAny_Compare1 (h1 g s _ E F L fun va g' s' st ra => h2 g' s' _ E (F.step st) st.sub fun vb g'' s'' st' rb => h3 g'' s'' va vb Q E (F.base.mono (st.trans st').up) st'.sub (ra.mono st'.up) rb fun g3 s3 st3 => h _ g3 s3 ((st.trans st').trans st3) (.bool d)) hm
theorem Tr.cmp {l r : Expr} {op : CmpOp} {pos : Pos} {a b : PV} {d : Bool} (h1 : Ev k c ρ l a) (h2 : Ev k c ρ r b) (h3 : CmpV k c op a b d) (hm : behindInMarks op r = false) : Tr k c ρ (.Compare l [op] [r] pos) d := fun g s Q E F L h =>
  wpAny_isTrue_Compare1 (h1 g s _ E F L fun va g' s' st ra => h2 g' s' _ E (F.step st) st.sub fun vb g'' s'' st' rb => h3 g'' s'' va vb _ E (F.base.mono (st.trans st').up) st'.sub (ra.mono st'.up) rb fun g3 s3 st3 => wpAny_truthy_bool (h g3 s3 ((st.trans st').trans st3))) hm
end
end Mine
end

section
open PySem PySem.W PyProof.Rows
set_option Elab.async false
set_option maxRecDepth 100000
set_option linter.all false
namespace Mine

noncomputable def PV.toPy : PV → PyData :=
  PV.rec (motive_1 := fun _ => PyData) (motive_2 := fun _ => List PyData) (motive_3 := fun _ => Unit) (motive_4 := fun _ => Unit) .none .bool .int .str (fun _ => .tuple) (fun _ => .list) (fun _ _ => .none) (fun _ _ _ => .none) (fun _ _ => .none) (fun _ _ => .none) (fun _ => .none) (fun _ _ => .none) (fun _ => .none)
    [] (fun _ _ a b => a :: b) () (fun _ _ _ _ => ()) (fun _ _ _ => ())
noncomputable def PV.toPys : List PV → List PyData :=
  PV.rec_1 (motive_1 := fun _ => PyData) (motive_2 := fun _ => List PyData) (motive_3 := fun _ => Unit) (motive_4 := fun _ => Unit) .none .bool .int .str (fun _ => .tuple) (fun _ => .list) (fun _ _ => .none) (fun _ _ _ => .none) (fun _ _ => .none) (fun _ _ => .none) (fun _ => .none) (fun _ _ => .none) (fun _ => .none)
    [] (fun _ _ a b => a :: b) () (fun _ _ _ _ => ()) (fun _ _ _ => ())
/-- no dict within, the signs are signs, the depth is small -/
noncomputable def PV.ok (n : Nat) (d : PV) : Bool :=
  PV.rec (motive_1 := fun _ => Nat → Bool) (motive_2 := fun _ => Nat → Bool) (motive_3 := fun _ => Unit) (motive_4 := fun _ => Unit) (fun _ => true) (fun _ _ => true) (fun _ _ => true) (fun s _ => PyData.strOk s) (fun _ ih n => Nat.rec (motive := fun _ => Bool) false (fun n _ => ih n) n) (fun _ ih n => Nat.rec (motive := fun _ => Bool) false (fun n _ => ih n) n)
    (fun _ _ _ => false) (fun _ _ _ _ => false) (fun _ _ _ => false) (fun _ _ _ => false) (fun _ _ => false) (fun _ _ _ => false) (fun _ _ => false) (fun _ => true) (fun _ _ a b n => a n && b n) () (fun _ _ _ _ => ()) (fun _ _ _ => ()) d n
noncomputable def PV.oks (n : Nat) (d : List PV) : Bool :=
  PV.rec_1 (motive_1 := fun _ => Nat → Bool) (motive_2 := fun _ => Nat → Bool) (motive_3 := fun _ => Unit) (motive_4 := fun _ => Unit) (fun _ => true) (fun _ _ => true) (fun _ _ => true) (fun s _ => PyData.strOk s) (fun _ ih n => Nat.rec (motive := fun _ => Bool) false (fun n _ => ih n) n) (fun _ ih n => Nat.rec (motive := fun _ => Bool) false (fun n _ => ih n) n)
    (fun _ _ _ => false) (fun _ _ _ _ => false) (fun _ _ _ => false) (fun _ _ _ => false) (fun _ _ => false) (fun _ _ _ => false) (fun _ _ => false) (fun _ => true) (fun _ _ a b n => a n && b n) () (fun _ _ _ _ => ()) (fun _ _ _ => ()) d n
theorem PV.oks_cons {n : Nat} {d : PV} {l : List PV} : PV.oks n (d :: l) = (PV.ok n d && PV.oks n l) := rfl
theorem PV.ok_str {n : Nat} {s : Str} : PV.ok n (.str s) = PyData.strOk s := rfl

theorem Rep.reads {P : Params} {g : Vw} {h : Heap} (L : Le g h.get?) {v : Value} {d : PV} (n : Nat) (r : Rep P g v d) (k : PV.ok n d = true) : ∃ as, Reads h v d.toPy as :=
  Rep.rec (motive_1 := fun v d _ => ∀ n, PV.ok n d = true → ∃ as, Reads h v d.toPy as) (motive_2 := fun vs ds _ => ∀ n, PV.oks n ds = true → ∃ as, ReadsAll h vs (PV.toPys ds) as) (motive_3 := fun _ _ _ => True)
    (fun _ _ => ⟨_, Reads.none⟩) (fun b _ _ => ⟨_, Reads.bool b⟩) (fun i t _ _ => ⟨_, Reads.int i t⟩) (fun x t _ _ => ⟨_, Reads.str x t⟩)
    (fun e c d _ ih n k => by
      cases n with
      | zero => exact Bool.noConfusion k
      | succ n => obtain ⟨_, q⟩ := ih n k; exact ⟨_, Reads.tuple (L _ _ e) c d q⟩)
    (fun e c d _ ih n k => by
      cases n with
      | zero => exact Bool.noConfusion k
      | succ n => obtain ⟨_, q⟩ := ih n k; exact ⟨_, Reads.list (L _ _ e) c d q⟩)
    (fun _ _ _ _ _ k => Bool.noConfusion k) (fun _ _ _ _ _ k => Bool.noConfusion k) (fun _ _ k => Bool.noConfusion k) (fun _ _ _ _ _ _ k => Bool.noConfusion k) (fun _ _ k => Bool.noConfusion k) (fun _ _ _ _ k => Bool.noConfusion k) (fun _ _ k => Bool.noConfusion k)
    (fun _ _ => ⟨_, ReadsAll.nil⟩) (fun _ _ ia ir n k => have k := (Bool.and_eq_true _ _).mp k; let ⟨_, q⟩ := ia n k.1; let ⟨_, p⟩ := ir n k.2; ⟨_, ReadsAll.cons q p⟩) .intro (fun _ _ _ _ => .intro) r n k
theorem ok_lay (n : Nat) (d : PV) (h : PV.ok n d = true) : d.toPy.canLay0 = true ∧ d.toPy.depth ≤ n :=
  PV.rec (motive_1 := fun d => ∀ n, PV.ok n d = true → d.toPy.canLay0 = true ∧ d.toPy.depth ≤ n) (motive_2 := fun l => ∀ n, PV.oks n l = true → PyData.canLayAll0 (PV.toPys l) = true ∧ PyData.depthAll (PV.toPys l) ≤ n) (motive_3 := fun _ => True) (motive_4 := fun _ => True)
    (fun _ _ => ⟨rfl, Nat.zero_le _⟩) (fun _ _ _ => ⟨rfl, Nat.zero_le _⟩) (fun _ _ _ => ⟨rfl, Nat.zero_le _⟩) (fun _ _ h => ⟨h, Nat.zero_le _⟩)
    (fun _ ih n k => by
      cases n with
      | zero => exact Bool.noConfusion k
      | succ n => exact ⟨(ih n k).1, Nat.succ_le_succ (ih n k).2⟩)
    (fun _ ih n k => by
      cases n with
      | zero => exact Bool.noConfusion k
      | succ n => exact ⟨(ih n k).1, Nat.succ_le_succ (ih n k).2⟩)
    (fun _ _ _ k => Bool.noConfusion k) (fun _ _ _ _ k => Bool.noConfusion k) (fun _ _ _ k => Bool.noConfusion k) (fun _ _ _ k => Bool.noConfusion k) (fun _ _ k => Bool.noConfusion k) (fun _ _ _ k => Bool.noConfusion k) (fun _ _ k => Bool.noConfusion k)
    (fun _ _ => ⟨rfl, Nat.zero_le _⟩) (fun _ _ ia ir n k => have k := (Bool.and_eq_true _ _).mp k; ⟨(Bool.and_eq_true _ _).mpr ⟨(ia n k.1).1, (ir n k.2).1⟩, Nat.max_le.mpr ⟨(ia n k.1).2, (ir n k.2).2⟩⟩) .intro (fun _ _ _ _ => .intro) (fun _ _ _ => .intro) d n h
theorem oks_lay (n : Nat) (l : List PV) (h : PV.oks n l = true) : PyData.canLayAll0 (PV.toPys l) = true ∧ PyData.depthAll (PV.toPys l) ≤ n :=
  have q := ok_lay (n + 1) (.list l) h
  ⟨q.1, Nat.le_of_succ_le_succ q.2⟩
theorem ok_shaped {n : Nat} {d : PV} (h : PV.ok n d = true) (hn : n ≤ 64) : SeqAt.shaped d.toPy = true := by
  have q := ok_lay n d h
  unfold SeqAt.shaped
  rw [q.1, Bool.true_and, decide_eq_true_eq]
  omega

/-- what == says -/
noncomputable def PV.eqv (a b : PV) : Bool := PyData.eqv a.toPy b.toPy

section
variable {k : Bool} {c : Cx}

/-! ints, bools -/
theorem BinV.of_int {op : Operator} {a b r : Int}
    (h : ∀ (A : Around) (s : Shared) (t u : Tok) (Q : Value → Shared → Prop) (E : Value → Shared → Prop), Q (.int r s.toks) { s with toks := s.toks + 1 } → wpAny (model PW c.w) A (binaryOp op (.int a t) (.int b u)) Q E s) : BinV k c op (.int a) (.int b) (.int r) := by
  intro g s va vb Q E B L ra rb hQ
  cases ra.inv; cases rb.inv
  exact h _ _ _ _ _ _ (hQ _ g _ (Step.tok L _) (.int _ _))
theorem BinV.add {a b : Int} : BinV k c .Add (.int a) (.int b) (.int (a + b)) := .of_int fun _ _ _ _ _ _ h => add_int h
theorem BinV.sub {a b : Int} : BinV k c .Sub (.int a) (.int b) (.int (a - b)) := .of_int fun _ _ _ _ _ _ h => sub_int h
theorem BinV.mod {a b : Int} (hb : b ≠ 0) : BinV k c .Mod (.int a) (.int b) (.int (a.fmod b)) := .of_int fun _ _ _ _ _ _ h => mod_int hb h
theorem BinV.floordiv {a b : Int} (hb : b ≠ 0) (hl : b.natAbs.log2 < 9000) : BinV k c .FloorDiv (.int a) (.int b) (.int (a.fdiv b)) := .of_int fun _ _ _ _ _ _ h => floordiv_int hb h (.inl (by first | exact PySem.noPylong_of_log2 hl | exact PySem.Calls.noPylong_of_log2 hl | exact PyProof.noPylong_of_log2 hl))
theorem BinV.pow {a n : Int} (hn : 0 ≤ n) (hsz : (Builtin.Int.intBits a : Int) * n ≤ 2 ^ 27) : BinV k c .Pow (.int a) (.int n) (.int (a ^ n.toNat)) := .of_int fun _ _ _ _ _ _ h => pow_int hn hsz h
theorem BinV.sub_bool {a b : Bool} : BinV k c .Sub (.bool a) (.bool b) (.int (b2i a - b2i b)) := by
  intro g s va vb Q E B L ra rb hQ
  cases ra.inv; cases rb.inv
  exact PyProof.Rows.sub_bool (hQ _ g _ (Step.tok L _) (.int _ _))
theorem IopV.add {a b : Int} : IopV k c .Add (.int a) (.int b) (.int (a + b)) := by
  intro g s va vb Q E B L ra rb hQ
  cases ra.inv; cases rb.inv
  exact iadd_int (hQ _ g _ (Step.tok L _) (.int _ _))
theorem CmpV.lt {a b : Int} : CmpV k c .Lt (.int a) (.int b) (decide (a < b)) := by
  intro g s va vb Q E B L ra rb hQ
  cases ra.inv; cases rb.inv
  exact lt_int (hQ g _ (Step.refl L))
/-! strs -/
theorem CmpV.lt_str {a b : Str} : CmpV k c .Lt (.str a) (.str b) (decide (a.cps.toList < b.cps.toList)) := by
  intro g s va vb Q E B L ra rb hQ
  cases ra.inv; cases rb.inv
  exact PyProof.Rows.lt_str (hQ g _ (Step.refl L))
theorem CmpV.gt_str {a b : Str} : CmpV k c .Gt (.str a) (.str b) (decide (b.cps.toList < a.cps.toList)) := by
  intro g s va vb Q E B L ra rb hQ
  cases ra.inv; cases rb.inv
  exact PySem.P.gt_str (hQ g _ (Step.refl L))
theorem BinV.add_str {a b : Str} (hsz : a.length + b.length ≤ sizeLine) : BinV k c .Add (.str a) (.str b) (.str (a ++ b)) := by
  intro g s va vb Q E B L ra rb hQ
  cases ra.inv; cases rb.inv
  exact PySem.SB.add (fun t tk => hQ _ g _ (Step.tok L _) (.str _ _)) hsz
theorem IopV.add_str {a b : Str} (hsz : a.length + b.length ≤ sizeLine) : IopV k c .Add (.str a) (.str b) (.str (a ++ b)) := by
  intro g s va vb Q E B L ra rb hQ
  cases ra.inv; cases rb.inv
  exact PySem.SB.iadd (fun t tk => hQ _ g _ (Step.tok L _) (.str _ _)) hsz
theorem BinV.mul_str {a : Str} {n : Int} (hok : MulOk a n) : BinV k c .Mult (.str a) (.int n) (.str (Txt.mul a n)) := by
  intro g s va vb Q E B L ra rb hQ
  cases ra.inv; cases rb.inv
  exact PySem.SB.mul hok (fun t tk => hQ _ g _ (Step.tok L _) (.str _ _))
/-! all shapes -/
theorem CmpV.eq {a b : PV} (n m : Nat) (ha : PV.ok n a = true) (hb : PV.ok m b = true) (hn : n ≤ 64) (hm : m ≤ 64) (hu : c.A.units + 64 < cLine) : CmpV k c .Eq a b (PV.eqv a b) := by
  intro g s va vb Q E B L ra rb hQ
  obtain ⟨as, qa⟩ := ra.reads L n ha
  obtain ⟨bs, qb⟩ := rb.reads L m hb
  exact eq_dataH qa qb (ok_shaped ha hn) (ok_shaped hb hm) hu (hQ g s (Step.refl L))
theorem CmpV.ne {a b : PV} (n m : Nat) (ha : PV.ok n a = true) (hb : PV.ok m b = true) (hn : n ≤ 64) (hm : m ≤ 64) (hu : c.A.units + 64 < cLine) : CmpV k c .NotEq a b (!PV.eqv a b) := by
  intro g s va vb Q E B L ra rb hQ
  obtain ⟨as, qa⟩ := ra.reads L n ha
  obtain ⟨bs, qb⟩ := rb.reads L m hb
  exact ne_dataH qa qb (ok_shaped ha hn) (ok_shaped hb hm) hu (hQ g s (Step.refl L))
theorem toPys_any (x : PV) : ∀ l : List PV, ((PV.toPys l).any fun y => PyData.eqv y x.toPy) = l.any fun y => PV.eqv y x
  | [] => rfl
  | d :: ds => congrArg (PV.eqv d x || ·) (toPys_any x ds)
theorem CmpV.mem {x : PV} {l : List PV} (n m : Nat) (ha : PV.ok n x = true) (hb : PV.oks m l = true) (hn : n ≤ 63) (hm : m ≤ 63) (hu : c.A.units + 70 < cLine) : CmpV k c .In x (.list l) (l.any fun y => PV.eqv y x) := by
  intro g s va vb Q E B L ra rb hQ
  obtain ⟨as, qa⟩ := ra.reads L n ha
  obtain ⟨bs, qb⟩ := rb.reads L (m + 1) hb
  have la := ok_lay n x ha
  have lb := oks_lay m l hb
  replace qb : Reads s.heap vb (.list (PV.toPys l)) bs := qb
  refine SeqAt.in_list_reads qb qa lb.1 la.1 ?_ ?_
  · have := Nat.min_le_right (PyData.depthAll (PV.toPys l)) x.toPy.depth
    have := la.2
    omega
  · rw [toPys_any]; exact hQ g s (Step.refl L)
theorem CmpV.notMem {x : PV} {l : List PV} (n m : Nat) (ha : PV.ok n x = true) (hb : PV.oks m l = true) (hn : n ≤ 63) (hm : m ≤ 63) (hu : c.A.units + 70 < cLine) : CmpV k c .NotIn x (.list l) (!l.any fun y => PV.eqv y x) := by
  intro g s va vb Q E B L ra rb hQ
  obtain ⟨as, qa⟩ := ra.reads L n ha
  obtain ⟨bs, qb⟩ := rb.reads L (m + 1) hb
  have la := ok_lay n x ha
  have lb := oks_lay m l hb
  replace qb : Reads s.heap vb (.list (PV.toPys l)) bs := qb
  refine SeqAt.notIn_list_reads qb qa lb.1 la.1 ?_ ?_
  · have := Nat.min_le_right (PyData.depthAll (PV.toPys l)) x.toPy.depth
    have := la.2
    omega
  · rw [toPys_any]; exact hQ g s (Step.refl L)

/-! lists -/
theorem RepL.append {P : Params} {g : Vw} {vs ws : List Value} {ds es : List PV} (r : RepL P g vs ds) (h : RepL P g ws es) : RepL P g (vs ++ ws) (ds ++ es) := r.ind (motive := fun vs ds => RepL P g (vs ++ ws) (ds ++ es)) h fun _ _ _ _ a _ ih => .cons a ih
theorem BinV.add_list {a b : List PV} (hsz : a.length + b.length ≤ sizeLine) : BinV k c .Add (.list a) (.list b) (.list (a ++ b)) := by
  intro g s va vb Q E B L ra rb hQ
  cases ra.inv with
  | mk e1 c1 d1 r1 =>
    cases rb.inv with
    | mk e2 c2 d2 r2 =>
      rename_i la oa vsa na lb ob vsb nb
      obtain ⟨cls, dd, data, sl⟩ := oa
      obtain ⟨cls2, dd2, data2, sl2⟩ := ob
      simp only at c1 d1 c2 d2
      subst c1 d1 c2 d2
      have hs1 : vsa.size = a.length := by rw [← r1.length]; simp
      have hs2 : vsb.size = b.length := by rw [← r2.length]; simp
      refine concat_meets ⟨_, L _ _ e1, rfl⟩ ⟨_, L _ _ e2, rfl⟩ noFill_list_add seq_list_add PySem.F.slot_list_add PySem.F.entry_list_add (PySem.F.args_list_add_2 _ _) (list_addW la lb vsa vsb na nb dd dd2 sl sl2 (by rw [hs1, hs2]; exact hsz)) ⟨L _ _ e1, L _ _ e2, ?_⟩
      have st : Step k g s _ _ := Step.push (o := { cls := .type "list", data := .seq (vsa ++ vsb) }) L rfl s.toks
      exact hQ _ _ _ st (.list (put_self _ _ _) rfl rfl (by simpa using (r1.append r2).mono st.up))
end
end Mine
end

section
open PySem PySem.W PyProof.Rows
set_option Elab.async false
set_option maxRecDepth 100000
set_option linter.all false
namespace Mine
section
variable {k : Bool} {c : Cx} {ρ : REnv}

/-! tests and choices -/
theorem Tr.not {x : Expr} {pos : Pos} {b : Bool} (h1 : Tr k c ρ x b) : Tr k c ρ (.UnaryOp .Not x pos) (!b) := fun g s Q E F L h =>
  isTrue_not (h1 g s _ E F L fun g' s' st => h g' s' st)
theorem Tr.and_t {x : Expr} {rest : List Expr} {pos : Pos} {b : Bool} (h1 : Tr k c ρ x true) (h2 : Tr k c ρ (.BoolOp .And rest pos) b) : Tr k c ρ (.BoolOp .And (x :: rest) pos) b := fun g s Q E F L h =>
  isTrue_and (h1 g s _ E F L fun g' s' st => h2 g' s' Q E (F.step st) st.sub fun g'' s'' st' => h g'' s'' (st.trans st'))
theorem Tr.and_f {x : Expr} {rest : List Expr} {pos : Pos} (h1 : Tr k c ρ x false) : Tr k c ρ (.BoolOp .And (x :: rest) pos) false := fun g s Q E F L h =>
  isTrue_and (h1 g s _ E F L fun g' s' st => h g' s' st)
theorem Tr.and_nil {pos : Pos} : Tr k c ρ (.BoolOp .And [] pos) true := fun g s Q E F L h => isTrue_and_nil (h g s (Step.refl L))
theorem Tr.or_f {x : Expr} {rest : List Expr} {pos : Pos} {b : Bool} (h1 : Tr k c ρ x false) (h2 : Tr k c ρ (.BoolOp .Or rest pos) b) : Tr k c ρ (.BoolOp .Or (x :: rest) pos) b := fun g s Q E F L h =>
  isTrue_or (h1 g s _ E F L fun g' s' st => h2 g' s' Q E (F.step st) st.sub fun g'' s'' st' => h g'' s'' (st.trans st'))
theorem Tr.or_t {x : Expr} {rest : List Expr} {pos : Pos} (h1 : Tr k c ρ x true) : Tr k c ρ (.BoolOp .Or (x :: rest) pos) true := fun g s Q E F L h =>
  isTrue_or (h1 g s _ E F L fun g' s' st => h g' s' st)
theorem Tr.or_nil {pos : Pos} : Tr k c ρ (.BoolOp .Or [] pos) false := fun g s Q E F L h => isTrue_or_nil (h g s (Step.refl L))
/-- a plain expression of a bool as a test -/
theorem Tr.plain {e : Expr} {b : Bool} (h1 : Ev k c ρ e (.bool b)) (he : isTrue e c.env (eval e c.env) = (do let v ← eval e c.env; standAt e.pos; holding [v] (truthy v))) : Tr k c ρ e b := fun g s Q E F L h =>
  isTrue_plain (h1 g s _ E F L fun v g' s' st r => by cases r.inv; exact wpAny_truthy_bool (h g' s' st)) he
theorem Ev.not {x : Expr} {pos : Pos} {b : Bool} (h1 : Ev k c ρ x (.bool b)) : Ev k c ρ (.UnaryOp .Not x pos) (.bool (!b)) := fun g s Q E F L h =>
  UnaryOp_ (h1 g s _ E F L fun v g' s' st r => by cases r.inv; exact not_of (wpAny_truthy_bool (h _ g' s' st (.bool _))))
theorem Ev.neg {pos p : Pos} {i : Int} {kd : Nat} : Ev k c ρ (.UnaryOp .USub (.Constant (.int i) kd p) pos) (.int (-i)) := fun g s Q E F L h =>
  UnaryOp_ (wpAny_Constant_int (by
    refine PyProof.Rows.neg_int ?_
    exact h _ g _ (Step.tok L _) (.int _ _)))
theorem Ev.and_t {x y : Expr} {rest : List Expr} {pos : Pos} {d : PV} (h1 : Ev k c ρ x (.bool true)) (h2 : Ev k c ρ (.BoolOp .And (y :: rest) pos) d) : Ev k c ρ (.BoolOp .And (x :: y :: rest) pos) d := fun g s Q E F L h =>
  BoolOp_and (h1 g s _ E F L fun v g' s' st r => by
    cases r.inv
    exact wpAny_truthy_bool (h2 g' s' Q E (F.step st) st.sub fun v g'' s'' st' r' => h v g'' s'' (st.trans st') r'))
theorem Ev.bool_one {x : Expr} {op : BoolOp} {pos : Pos} {d : PV} (h1 : Ev k c ρ x d) : Ev k c ρ (.BoolOp op [x] pos) d := fun g s Q E F L h => BoolOp_one (h1 g s Q E F L h)
theorem Ev.ite {t x y : Expr} {pos : Pos} {d : PV} (b : Bool) (h1 : Tr k c ρ t b) (h2 : b = true → Ev k c ρ x d) (h3 : b = false → Ev k c ρ y d) : Ev k c ρ (.IfExp t x y pos) d := fun g s Q E F L h =>
  IfExp_ (h1 g s _ E F L fun g' s' st => by
    cases b with
    | true => exact h2 rfl g' s' Q E (F.step st) st.sub fun v g'' s'' st' r' => h v g'' s'' (st.trans st') r'
    | false => exact h3 rfl g' s' Q E (F.step st) st.sub fun v g'' s'' st' r' => h v g'' s'' (st.trans st') r')

/-! slices and items -/
inductive PartIs (k : Bool) (c : Cx) (ρ : REnv) : Option Expr → Option Int → Prop
  | none : PartIs k c ρ none none
  | some {e : Expr} {i : Int} : Ev k c ρ e (.int i) → PartIs k c ρ (some e) (some i)
theorem part_of {c : Cx} {ρ : REnv} {g : Vw} {s : Shared} {x : Option Expr} {Q : Value → Shared → Prop} {E : Value → Shared → Prop} {k : Bool} (lo : Option Int) (F : EnvOK c ρ g s.heap) (L : Le g s.heap.get?)
    (h1 : PartIs k c ρ x lo)
    (h : ∀ v g' s', Step k g s g' s' → IsPart v lo → Q v s') : Wp c (valueOrNone (evalOpt x c.env)) Q E s := by
  cases h1 with
  | none => exact wpAny_pure (h _ g s (Step.refl L) .none)
  | some h1 => exact h1 g s Q E F L fun v g' s' st r => by cases r.inv; exact h _ g' s' st (.int _ _)

theorem Ev.slice {l u st : Option Expr} {pos : Pos} {lo hi sp : Option Int} (h1 : PartIs k c ρ l lo) (h2 : PartIs k c ρ u hi) (h3 : PartIs k c ρ st sp) : Ev k c ρ (.Slice l u st pos) (.slice lo hi sp) := fun g s Q E F L h => by
  show Wp c (do
    let l ← valueOrNone (evalOpt l c.env)
    let u ← holding [l] (valueOrNone (evalOpt u c.env))
    let s ← holding [l, u] (valueOrNone (evalOpt st c.env))
    newFields "slice" [l, u, s]) Q E s
  refine wpAny_bind (part_of lo F L h1 fun vl g1 s1 st1 p1 => wpAny_bind (wpAny_holding (part_of hi (F.step st1) st1.sub h2 fun vu g2 s2 st2 p2 => wpAny_bind (wpAny_holding (part_of sp ((F.step st1).step st2) st2.sub h3 fun vs g3 s3 st3 p3 => ?_)))))
  refine wpAny_newObj_type ?_ (by size_fits)
  have st4 : Step k g3 s3 _ _ := Step.push (o := { cls := .type "slice", data := .fields #[vl, vu, vs] }) st3.sub rfl s3.toks
  exact h _ _ _ (((st1.trans st2).trans st3).trans st4) (.slice (put_self _ _ _) p1 p2 p3)

noncomputable def GetV (k : Bool) (c : Cx) (o i d : PV) : Prop :=
  ∀ (g : Vw) (s : Shared) (vo vi : Value) (Q : Value → Shared → Prop) (E : Value → Shared → Prop), Base c.w g → Le g s.heap.get? → Rep c.w.params g vo o → Rep c.w.params g vi i →
    (∀ v g' s', Step k g s g' s' → Rep c.w.params g' v d → Q v s') → Wp c (getItem vo vi) Q E s

noncomputable def PV.seq (d : PV) : Bool :=
  PV.rec (motive_1 := fun _ => Bool) (motive_2 := fun _ => Unit) (motive_3 := fun _ => Unit) (motive_4 := fun _ => Unit) false (fun _ => false) (fun _ => false) (fun _ => true) (fun _ _ => true) (fun _ _ => true) (fun _ _ => false) (fun _ _ _ => false) (fun _ _ => false) (fun _ _ => false) (fun _ => false) (fun _ _ => false) (fun _ => false)
    () (fun _ _ _ _ => ()) () (fun _ _ _ _ => ()) (fun _ _ _ => ()) d
theorem Rep.item_type {P : Params} {g : Vw} {v : Value} {d : PV} (r : Rep P g v d) (hq : d.seq = true) : ∃ T id, typeLookup (.type T) "__getitem__" = pure (some (.builtin id)) ∧ ∀ s : Shared, Le g s.heap.get? → s.TypeIs v T :=
  Rep.casesOn (motive_1 := fun v d _ => d.seq = true → ∃ T id, typeLookup (.type T) "__getitem__" = pure (some (.builtin id)) ∧ ∀ s : Shared, Le g s.heap.get? → s.TypeIs v T) r
    (fun h => Bool.noConfusion h) (fun _ h => Bool.noConfusion h) (fun _ _ h => Bool.noConfusion h) (fun x t _ => ⟨_, _, PySem.F.slot_str_getitem.lookup, fun s _ => typeIs_str s x t⟩)
    (fun e c d _ _ => ⟨_, _, slot_tuple_getitem.lookup, fun s L => ⟨_, L _ _ e, c⟩⟩) (fun e c d _ _ => ⟨_, _, slot_list_getitem.lookup, fun s L => ⟨_, L _ _ e, c⟩⟩)
    (fun _ _ _ h => Bool.noConfusion h) (fun _ _ _ _ h => Bool.noConfusion h) (fun _ h => Bool.noConfusion h) (fun _ _ _ _ h => Bool.noConfusion h) (fun _ h => Bool.noConfusion h) (fun _ _ _ h => Bool.noConfusion h) (fun _ h => Bool.noConfusion h) hq

theorem tail_of {value sl : Expr} {o i : Value} {T id : String} {A : Around} {w : World} {s : Shared} {E : Value → Shared → Prop} {Q : Value → Shared → Prop} (hT : s.TypeIs o T)
    (hl : typeLookup (.type T) "__getitem__" = pure (some (.builtin id))) (h : wpAny (model PW w) A (getItem o i) Q E s)
    (hs : ∃ ops, subscripted sl false o i = operate ops (getItem o i)) : wpAny (model PW w) A (subscriptTail value sl o i) Q E s := by
  unfold subscriptTail
  refine wpAny_bind ?_
  rw [getitemInPython_of_ne hT.not_modules]
  refine wpAny_bind (wpAny_specialOf hT hl ?_)
  have fin : wpAny (model PW w) A (subscripted sl false o i) (fun r s₃ => wpAny (model PW w) A (letTemporaryGo value o r >>= fun _ => pure r) Q E s₃) E s := by
    obtain ⟨ops, hs⟩ := hs
    rw [hs]
    exact wpAny_operating (wpAny_mono h (fun r s₃ h₃ => wpAny_bind (wpAny_letTemporaryGo (wpAny_pure h₃))) fun _ _ x => x)
  first
    | exact wpAny_pure (wpAny_bind fin)
    | exact wpAny_bind (wpAny_pure (wpAny_bind fin))
    | exact wpAny_bind fin

theorem Ev.sub {value sl : Expr} {pos : Pos} {o i d : PV} (h1 : Ev k c ρ value o) (h2 : Ev k c ρ sl i) (h3 : GetV k c o i d) (hq : o.seq = true)
    (hs : ∀ vo vi, subscripted sl false vo vi = operate [vo, vi] (getItem vo vi) ∨ subscripted sl false vo vi = operate [vi, vo] (getItem vo vi)) : Ev k c ρ (.Subscript value sl pos) d := fun g s Q E F L h =>
  Subscript_ (h1 g s _ E F L fun vo g1 s1 st1 r1 => h2 g1 s1 _ E (F.step st1) st1.sub fun vi g2 s2 st2 r2 => by
    have r1' := r1.mono st2.up
    have key := h3 g2 s2 vo vi Q E (F.base.mono (st1.trans st2).up) st2.sub r1' r2 fun v g3 s3 st3 r3 => h v g3 s3 ((st1.trans st2).trans st3) r3
    obtain ⟨T, id, hl, hT⟩ := r1'.item_type hq
    exact tail_of (hT s2 st2.sub) hl key ((hs vo vi).elim (fun e => ⟨_, e⟩) fun e => ⟨_, e⟩))

theorem RepL.get {P : Params} {g : Vw} {vs : List Value} {ds : List PV} (r : RepL P g vs ds) : ∀ (i : Nat), (∃ v d, vs[i]? = some v ∧ ds[i]? = some d ∧ Rep P g v d) ∨ (vs[i]? = none ∧ ds[i]? = none) :=
  r.ind (motive := fun vs ds => ∀ (i : Nat), (∃ v d, vs[i]? = some v ∧ ds[i]? = some d ∧ Rep P g v d) ∨ (vs[i]? = none ∧ ds[i]? = none)) (fun i => .inr ⟨rfl, rfl⟩) fun v d _ _ a _ ih i => by
    cases i with
    | zero => exact .inl ⟨v, d, rfl, rfl, a⟩
    | succ i => exact ih i
theorem RepL.at {P : Params} {g : Vw} {vs : List Value} {ds : List PV} (h : RepL P g vs ds) {i : Nat} {d : PV} (hd : ds[i]? = some d) : ∃ v, vs[i]? = some v ∧ Rep P g v d := by
  rcases h.get i with ⟨v, d', h1, h2, r⟩ | ⟨_, h2⟩
  · rw [hd] at h2; cases h2; exact ⟨v, h1, r⟩
  · rw [hd] at h2; cases h2

theorem GetV.list {l : List PV} {i : Int} {d : PV} (h0 : 0 ≤ i) (h1 : i < 2 ^ 63) (hd : l[i.toNat]? = some d) : GetV k c (.list l) (.int i) d := by
  intro g s vo vi Q E B L ro ri hQ
  cases ri.inv
  cases ro.inv with
  | mk e c1 d1 r =>
    obtain ⟨v, hv, q⟩ := r.at hd
    exact wpAny_getItem_list ⟨_, L _ _ e, c1, _, d1⟩ h0 h1 (by rw [← Array.getElem?_toList]; exact hv) (hQ v g s (Step.refl L) q)
theorem GetV.tuple {l : List PV} {i : Int} {d : PV} (h0 : 0 ≤ i) (h1 : i < 2 ^ 63) (hd : l[i.toNat]? = some d) : GetV k c (.tuple l) (.int i) d := by
  intro g s vo vi Q E B L ro ri hQ
  cases ri.inv
  cases ro.inv with
  | mk e c1 d1 r =>
    obtain ⟨v, hv, q⟩ := r.at hd
    have hlt : i.toNat < l.length := by
      rcases Nat.lt_or_ge i.toNat l.length with h | h
      · exact h
      · rw [List.getElem?_eq_none h] at hd; cases hd
    have hsz : ∀ {vs : Array Value}, RepL c.w.params g vs.toList l → vs.size = l.length := fun q => by rw [← q.length]; simp
    refine getItem_tuple ⟨_, L _ _ e, c1, _, d1⟩ (by omega) h1 (j := i.toNat) ?_ (by rw [← Array.getElem?_toList]; exact hv) (hQ v g s (Step.refl L) q)
    rw [hsz r]
    unfold seqIndex?
    have : ¬ (i < 0) := by omega
    simp only [this, if_false, h0, decide_true, Bool.true_and]
    rw [if_pos]
    rw [decide_eq_true_eq]
    omega

noncomputable def pick {α : Type} (l : List α) (lo hi st : Option Int) : List α :=
  (sliceRange (sliceBounds lo hi st l.length).1 (sliceBounds lo hi st l.length).2.1 (sliceBounds lo hi st l.length).2.2).filterMap (l[·]?)
theorem RepL.picked {P : Params} {g : Vw} {vs : List Value} {ds : List PV} (h : RepL P g vs ds) : ∀ is : List Nat, RepL P g (is.filterMap (vs[·]?)) (is.filterMap (ds[·]?))
  | [] => .nil
  | i :: is => by
    rw [List.filterMap_cons, List.filterMap_cons]
    rcases h.get i with ⟨v, d, h1, h2, r⟩ | ⟨h1, h2⟩
    · rw [h1, h2]; exact .cons r (h.picked is)
    · rw [h1, h2]; exact h.picked is
theorem RepL.pick {P : Params} {g : Vw} {vs : Array Value} {ds : List PV} (h : RepL P g vs.toList ds) (lo hi st : Option Int) : RepL P g (slicePick vs lo hi st).toList (Mine.pick ds lo hi st) := by
  have hsz : vs.size = ds.length := by rw [← h.length]; simp
  unfold slicePick Mine.pick
  rw [hsz]
  have := h.picked (sliceRange (sliceBounds lo hi st ds.length).1 (sliceBounds lo hi st ds.length).2.1 (sliceBounds lo hi st ds.length).2.2)
  simpa using this

theorem GetV.slice_list {l : List PV} {lo hi st : Option Int} (h0 : st ≠ some 0) (hsz : l.length ≤ sizeLine) : GetV k c (.list l) (.slice lo hi st) (.list (Mine.pick l lo hi st)) := by
  intro g s vo vi Q E B L ro ri hQ
  cases ri.inv with
  | mk es pl pu ps =>
    cases ro.inv with
    | mk e c1 d1 r =>
      rename_i la oa vsa na
      have hs1 : vsa.size = l.length := by rw [← r.length]; simp
      refine wpAny_getItem_list_slice ⟨_, L _ _ e, c1, _, d1⟩ ⟨_, L _ _ es, rfl, rfl⟩ pl pu ps h0 ?_ (by rw [hs1]; exact hsz)
      have st : Step k g s _ _ := Step.push (o := { cls := .type "list", data := .seq (slicePick vsa lo hi st) }) L rfl s.toks
      exact hQ _ _ _ st (.list (put_self _ _ _) rfl rfl ((r.pick lo hi _).mono st.up))

theorem part_opt {v : Value} {lo : Option Int} (h : IsPart v lo) : ∃ p : Option (Int × Tok), v = partValue p ∧ p.map (·.1) = lo := by
  cases h with
  | none => exact ⟨none, rfl, rfl⟩
  | int i t => exact ⟨some (i, t), rfl, rfl⟩
theorem GetV.slice_str {x : Str} {lo hi : Option Int} (hsz : x.length ≤ sizeLine) : GetV k c (.str x) (.slice lo hi none) (.str (Txt.slice x lo hi)) := by
  intro g s vo vi Q E B L ro ri hQ
  cases ro.inv with
  | mk t =>
    cases ri.inv with
    | mk es pl pu ps =>
      cases ps
      obtain ⟨p, rfl, hp⟩ := part_opt pl
      obtain ⟨q, rfl, hq⟩ := part_opt pu
      refine wpAny_getItem_str_slice (l := p) (u := q) (st := none) ⟨_, L _ _ es, rfl, rfl⟩ rfl ?_
      have key : ∀ t' tk, Q (.str (Txt.slice x (p.map (·.1)) (q.map (·.1))) t') { s with toks := tk } := fun t' tk => by rw [hp, hq]; exact hQ _ g _ (Step.tok L _) (.str _ _)
      exact post_val_or_str ⟨Nat.le_trans (Txt.slice_le x _ _) hsz, key⟩
end
end Mine
end

section
open PySem PySem.W PyProof.Rows
set_option Elab.async false
set_option maxRecDepth 100000
set_option linter.all false
namespace Mine
section
variable {k : Bool} {c : Cx} {ρ : REnv}

theorem ld_glob {x : Str} {pos : Pos} {v : Value} {g : Vw} {s : Shared} {Q : Value → Shared → Prop} {E : Value → Shared → Prop} (F : EnvOK c ρ g s.heap) (L : Le g s.heap.get?) (hk : c.env.kindOf x = some .globalImplicit)
    (hv : nsIn (KF c.w) mainGlobals x = some (some v)) (hQ : Q v s) (hd : (x == ("__debug__" : Str)) = false := by decide) : Wp c (eval (.Name x pos) c.env) Q E s := by
  refine Calls.Name_function_global F.fn hk ?_ hd
  unfold loadGlobal
  rw [F.gl]
  exact wpAny_bind ((looks_nsIn (F.base.kin L) hv).here (wpAny_pure hQ))
theorem ld_blt {x : Str} {pos : Pos} {v : Value} {g : Vw} {s : Shared} {Q : Value → Shared → Prop} {E : Value → Shared → Prop} (F : EnvOK c ρ g s.heap) (L : Le g s.heap.get?) (hk : c.env.kindOf x = some .globalImplicit)
    (hv : nsIn (KF c.w) mainGlobals x = some Option.none) (hb : bootBuiltins x = some v) (hQ : Q v s) (hn : x ≠ "__name__" := by decide +kernel) (hd : (x == ("__debug__" : Str)) = false := by decide) : Wp c (eval (.Name x pos) c.env) Q E s := by
  refine Calls.Name_function_global F.fn hk ?_ hd
  unfold loadGlobal
  rw [F.gl, F.bn]
  refine wpAny_bind ((looks_nsIn (F.base.kin L) hv).here ?_)
  obtain ⟨h₀, mb, l₀, nb, bb, _⟩ := F.base.bl
  refine wpAny_bind (wpAny_nsGet (nb.keeps (l₀.trans L)) ?_)
  rw [bb x hn, hb]
  exact wpAny_pure hQ

theorem Ev.ty {x : Str} {pos : Pos} {T : String} (hk : c.env.kindOf x = some .globalImplicit) (hv : nsIn (KF c.w) mainGlobals x = some Option.none) (hb : bootBuiltins x = some (.type T)) (hn : x ≠ "__name__" := by decide +kernel) (hd : (x == ("__debug__" : Str)) = false := by decide) : Ev k c ρ (.Name x pos) (.ty T) := fun g s Q E F L h =>
  ld_blt F L hk hv hb (h _ g s (Step.refl L) (.ty T)) hn hd
theorem Ev.gstr {x y : Str} {pos : Pos} {t : Tok} (hk : c.env.kindOf x = some .globalImplicit) (hv : nsIn (KF c.w) mainGlobals x = some (some (.str y t))) (hd : (x == ("__debug__" : Str)) = false := by decide) : Ev k c ρ (.Name x pos) (.str y) := fun g s Q E F L h =>
  ld_glob F L hk hv (h _ g s (Step.refl L) (.str y t)) hd

/-- what a call gives -/
noncomputable def CallV (k : Bool) (w : World) (A : Around) (f : Value) (args : List PV) (d : PV) : Prop :=
  ∀ (g : Vw) (s : Shared) (vs : List Value) (Q : Value → Shared → Prop) (E : Value → Shared → Prop), Base w g → Le g s.heap.get? → RepL w.params g vs args →
    (∀ v g' s', Step k g s g' s' → Rep w.params g' v d → Q v s') → wpAny (model PW w) A (call f vs) Q E s

theorem Ev.call_b {x : Str} {np pos : Pos} {id : String} {e : Expr} {rest : List Expr} {ds : List PV} {d : PV} (hk : c.env.kindOf x = some .globalImplicit) (hv : nsIn (KF c.w) mainGlobals x = some Option.none) (hb : bootBuiltins x = some (.builtin id))
    (h1 : EvL k c ρ (e :: rest) ds) (h2 : CallV k c.w c.A (.builtin id) ds d) (he : starEach (e :: rest) c.env = (false, eval e c.env) :: starEach rest c.env) (hplain : (backTo pos (starEach rest c.env)).any (·.1) = false)
    (hn : x ≠ "__name__" := by decide +kernel) (hd : (x == ("__debug__" : Str)) = false := by decide) : Ev k c ρ (.Call (.Name x np) (e :: rest) [] pos) d := fun g s Q E F L h =>
  Call_ (ld_blt F L hk hv hb (PyProof.Rows.callWith_builtin1 (h1 pos g s _ E F L fun vs g' s' st r => h2 g' s' vs Q E (F.base.mono st.up) st.sub r fun v g'' s'' st' r' => h v g'' s'' (st.trans st') r') he hplain) hn hd)
theorem Ev.call_t {x : Str} {np pos : Pos} {T : String} {e : Expr} {rest : List Expr} {ds : List PV} {d : PV} (hk : c.env.kindOf x = some .globalImplicit) (hv : nsIn (KF c.w) mainGlobals x = some Option.none) (hb : bootBuiltins x = some (.type T))
    (h1 : EvL k c ρ (e :: rest) ds) (h2 : CallV k c.w c.A (.type T) ds d) (he : starEach (e :: rest) c.env = (false, eval e c.env) :: starEach rest c.env) (hplain : (backTo pos (starEach rest c.env)).any (·.1) = false)
    (hn : x ≠ "__name__" := by decide +kernel) (hd : (x == ("__debug__" : Str)) = false := by decide) : Ev k c ρ (.Call (.Name x np) (e :: rest) [] pos) d := fun g s Q E F L h =>
  Call_ (ld_blt F L hk hv hb (PySem.Pv.callWith_type1 (h1 pos g s _ E F L fun vs g' s' st r => h2 g' s' vs Q E (F.base.mono st.up) st.sub r fun v g'' s'' st' r' => h v g'' s'' (st.trans st') r') he hplain) hn hd)
theorem Ev.call_f {x : Str} {np pos : Pos} {fa : Addr} {o : Obj} {fd : FuncData} {e : Expr} {rest : List Expr} {ds : List PV} {d : PV} (hk : c.env.kindOf x = some .globalImplicit) (hv : nsIn (KF c.w) mainGlobals x = some (some (.ref fa)))
    (ho : (KF c.w).lookup fa = some o) (hf : o.data = .func fd)
    (h1 : EvL k c ρ (e :: rest) ds) (h2 : CallV k c.w c.A (.ref fa) ds d) (he : starEach (e :: rest) c.env = (false, eval e c.env) :: starEach rest c.env)
    (hd : (x == ("__debug__" : Str)) = false := by decide) : Ev k c ρ (.Call (.Name x np) (e :: rest) [] pos) d := fun g s Q E F L h =>
  Call_ (ld_glob F L hk hv (callWith_def hf (h1 pos g s _ E F L fun vs g' s' st r => ⟨(F.base.mono st.up).kin st.sub _ _ ho, h2 g' s' vs Q E (F.base.mono st.up) st.sub r fun v g'' s'' st' r' => h v g'' s'' (st.trans st') r'⟩) he) hd)

/-! a state that holds more is no hindrance -/
noncomputable def AX (hd : Option Value) : Around := { handled := hd, depth := 500, units := 400 }
theorem of_AX {α : Type} {M : Model} {A : Around} {t : Sem α} {Q : α → Shared → Prop} {E : Value → Shared → Prop} {s : Shared} (h1 : A.depth ≤ 500) (h2 : A.units ≤ 400) (h : wpAny M (AX A.handled) t Q E s) : wpAny M A t Q E s :=
  fun Γ p hΓ => by
  refine h Γ p ⟨hΓ.1, Nat.le_trans hΓ.2.1 h1, ?_, ?_, Nat.le_trans hΓ.2.2.2.2 h2⟩
  · intro l e; cases e
  · intro l e; cases e

structure Room (A : Around) (n : Nat) : Prop where
  depth : A.depth + 2 * n ≤ 500
  units : A.units + 20 * n ≤ 400

end
end Mine
end

section
open PySem PySem.W PyProof.Rows
set_option Elab.async false
set_option maxRecDepth 100000
set_option linter.all false
namespace Mine

/-- a stretch of the run that may turn the hidden objects of X -/
structure SS (X : Addr → Prop) (k : Bool) (g : Vw) (s : Shared) (g' : Vw) (s' : Shared) : Prop where
  heap : ∀ b o, ¬ X b → s.heap.get? b = some o → s'.heap.get? b = some o
  up : Le g g'
  sub : Le g' s'.heap.get?
  new : ∀ b o, g' b = some o → g b = some o ∨ (s.heap.get? b = none ∧ ¬ X b)
  rest : Rest k s s'

variable {X Y : Addr → Prop} {k : Bool} {g g₁ g₂ : Vw} {s s₁ s₂ : Shared}
theorem SS.refl (h : Le g s.heap.get?) : SS X k g s g s := ⟨fun _ _ _ e => e, Le.refl _, h, fun _ _ e => .inl e, Rest.refl _ _⟩
theorem SS.of (st : Step k g s g₁ s₁) (hX : ∀ b, X b → s.heap.get? b ≠ none) : SS X k g s g₁ s₁ :=
  ⟨fun b o _ e => st.heap b o e, st.up, st.sub, fun b o e => (st.new b o e).imp id fun q => ⟨q, fun x => hX b x q⟩, st.rest⟩
theorem SS.step (h : SS (fun _ => False) k g s g₁ s₁) : Step k g s g₁ s₁ := ⟨fun b o e => h.heap b o id e, h.up, h.sub, fun b o e => (h.new b o e).imp id (·.1), h.rest⟩
theorem SS.wide (h : SS X k g s g₁ s₁) (h' : SS Y k g₁ s₁ g₂ s₂) (hXY : ∀ b, X b → Y b) (hY : ∀ b, Y b → ¬ X b → s.heap.get? b = none) : SS X k g s g₂ s₂ where
  heap := fun b o hb e => h'.heap b o (fun y => by have := hY b y hb; rw [e] at this; cases this) (h.heap b o hb e)
  up := h.up.trans h'.up
  sub := h'.sub
  new := fun b o e => by
    rcases h'.new b o e with e | ⟨e, hb⟩
    · exact h.new b o e
    · have hx : ¬ X b := fun x => hb (hXY b x)
      refine .inr ⟨?_, hx⟩
      cases q : s.heap.get? b with
      | none => rfl
      | some o' => rw [h.heap b o' hx q] at e; cases e
  rest := h.rest.trans h'.rest
theorem SS.trans (h : SS X k g s g₁ s₁) (h' : SS X k g₁ s₁ g₂ s₂) : SS X k g s g₂ s₂ := h.wide h' (fun _ x => x) fun _ y n => absurd y n
/-- the run of a call, seen from outside -/
theorem SS.leave {s₀ : Shared} (h : SS X k g s g₁ s₁) (hs : Le s₀.heap.get? s.heap.get?) (hX : ∀ b, X b → s₀.heap.get? b = none) (hr : Rest k s₀ s) : Step k g s₀ g₁ s₁ where
  heap := fun b o e => h.heap b o (fun x => by rw [hX b x] at e; cases e) (hs b o e)
  up := h.up
  sub := h.sub
  new := fun b o e => (h.new b o e).imp id fun q => by
    cases q' : s₀.heap.get? b with
    | none => rfl
    | some o' => rw [hs b o' q'] at q; cases q.1
  rest := hr.trans h.rest
/-- a hidden thing is shown -/
theorem SS.reveal {D : Addr} {o : Obj} (h : SS X k g s g₁ s₁) (hD : s.heap.get? D = none) (hX : ¬ X D) (ho : s₁.heap.get? D = some o) : SS X k g s (put g₁ D o) s₁ := by
  have hn : g₁ D = none ∨ g₁ D = some o := by
    cases q : g₁ D with
    | none => exact .inl rfl
    | some o' => right; rw [h.sub D o' q] at ho; exact ho
  have hle : Le g₁ (put g₁ D o) := by
    intro b o' e
    unfold put
    by_cases q : b = D
    · subst q; rcases hn with n | n
      · rw [n] at e; cases e
      · rw [n] at e; rw [if_pos rfl]; exact e
    · rw [if_neg q]; exact e
  refine ⟨h.heap, h.up.trans hle, ?_, ?_, h.rest⟩
  · intro b o' e
    unfold put at e
    by_cases q : b = D
    · subst q; rw [if_pos rfl] at e; cases e; exact ho
    · rw [if_neg q] at e; exact h.sub _ _ e
  · intro b o' e
    unfold put at e
    by_cases q : b = D
    · subst q; exact .inr ⟨hD, hX⟩
    · rw [if_neg q] at e; exact h.new _ _ e
theorem SS.grow (h : Le g s.heap.get?) (hh : ∀ b o, ¬ X b → s.heap.get? b = some o → s₁.heap.get? b = some o) (hg : ∀ b o, g b = some o → ¬ X b) (r : Rest k s s₁) : SS X k g s g s₁ :=
  ⟨hh, Le.refl _, fun b o e => hh b o (hg b o e) (h b o e), fun _ _ e => .inl e, r⟩

/-! what is walked over -/
structure Walked (w : World) (A : Around) (isl : Bool) (g : Vw) (s₀ : Shared) (ds : List PV) (it : Value) (s : Shared) : Prop where
  ex : ∃ (I : Addr) (fp wr : List Addr) (P : Nat → Value → Prop) (St : Nat → Heap → Prop), it = .ref I ∧ Walks PW w A I fp wr ds.length P St ∧ St 0 s.heap ∧ (∀ b ∈ fp, s.heap.get? b ≠ none) ∧
    (∀ b ∈ wr, s₀.heap.get? b = none) ∧ (∀ i h, St i h → ∀ b ∈ wr, h.get? b ≠ none) ∧ (isl = true → ∀ i h, St i h → ∃ l j, h.IsListIter I l j) ∧ (∀ b ∈ fp, b ∈ wr ∨ g b ≠ none) ∧ ∀ i v, i < ds.length → P i v → ∃ d, ds[i]? = some d ∧ Rep w.params g v d
  le : Le s₀.heap.get? s.heap.get?
  rest : Rest true s₀ s
noncomputable def IterV (w : World) (A : Around) (isl : Bool) (src : PV) (ds : List PV) : Prop :=
  ∀ (g : Vw) (s : Shared) (v : Value) (Q : Value → Shared → Prop) (E : Value → Shared → Prop), Base w g → Le g s.heap.get? → Rep w.params g v src → (∀ it s', Walked w A isl g s ds it s' → Q it s') → wpAny (model PW w) A (pyIter v) Q E s

theorem push_le (h : Heap) (o : Obj) : Le h.get? (h.push o).get? := fun _ _ e => Heap.get?_push_of_some _ e
theorem IterV.list {w : World} {A : Around} {l : List PV} (hh : A.handled = none) : IterV w A true (.list l) l := by
  intro g s v Q E B L r h
  replace r := r.inv
  cases r with
  | mk e c1 d1 q =>
    rename_i a o vs n
    have hl : s.heap.IsList a vs := ⟨_, L _ _ e, c1, _, d1⟩
    have hsz : vs.size = l.length := by rw [← q.length]; simp
    have W := Walks.list (prog := PW) (w := w) (A := A) hh s.heap.objs.size a (Nat.ne_of_lt (Heap.lt_size (L _ _ e))) vs
    rw [hsz] at W
    refine wpAny_pyIter_list hl (h _ _ ⟨⟨s.heap.objs.size, [s.heap.objs.size, a], [s.heap.objs.size], _, _, rfl, W, ?_, ?_, ?_, ?_, ?_, ?_, ?_⟩, push_le _ _, Rest.same _ _ _ _⟩)
    · exact ⟨⟨_, Heap.get?_push_size _ rfl, rfl, rfl⟩, hl.push _⟩
    · intro b hb
      simp only [List.mem_cons, List.not_mem_nil, or_false] at hb
      rcases hb with rfl | rfl
      · show (s.heap.push _).get? _ ≠ none
        rw [Heap.get?_push_size _ rfl]; simp
      · show (s.heap.push _).get? _ ≠ none
        rw [Heap.get?_push_of_some _ (L _ _ e)]; simp
    · intro b hb; rw [List.mem_singleton] at hb; subst hb; exact get_size_none _
    · rintro i h ⟨⟨o', ho', _⟩, _⟩ b hb
      rw [List.mem_singleton] at hb; subst hb
      rw [ho']; simp
    · exact fun _ i h hi => ⟨_, _, hi.1⟩
    · intro b hb
      simp only [List.mem_cons, List.not_mem_nil, or_false] at hb
      rcases hb with rfl | rfl
      · exact .inl (List.mem_singleton.mpr rfl)
      · exact .inr (by rw [e]; simp)
    · intro i v _ hv
      rcases q.get i with ⟨v', d, h1, h2, r⟩ | ⟨h1, _⟩
      · rw [← Array.getElem?_toList, h1] at hv; cases hv; exact ⟨d, h2, r⟩
      · rw [← Array.getElem?_toList, h1] at hv; cases hv
theorem IterV.tuple {w : World} {A : Around} {l : List PV} (hh : A.handled = none) : IterV w A false (.tuple l) l := by
  intro g s v Q E B L r h
  replace r := r.inv
  cases r with
  | mk e c1 d1 q =>
    rename_i a o vs n
    have hl : s.heap.IsTuple a vs := ⟨_, L _ _ e, c1, _, d1⟩
    have hsz : vs.size = l.length := by rw [← q.length]; simp
    have W := Walks.tuple (prog := PW) (w := w) (A := A) hh s.heap.objs.size a (Nat.ne_of_lt (Heap.lt_size (L _ _ e))) vs
    rw [hsz] at W
    refine wpAny_pyIter_tuple hl (h _ _ ⟨⟨s.heap.objs.size, [s.heap.objs.size, a], [s.heap.objs.size], _, _, rfl, W, ?_, ?_, ?_, ?_, ?_, ?_, ?_⟩, push_le _ _, Rest.same _ _ _ _⟩)
    · exact ⟨⟨_, Heap.get?_push_size _ rfl, rfl, rfl⟩, hl.push _⟩
    · intro b hb
      simp only [List.mem_cons, List.not_mem_nil, or_false] at hb
      rcases hb with rfl | rfl
      · show (s.heap.push _).get? _ ≠ none
        rw [Heap.get?_push_size _ rfl]; simp
      · show (s.heap.push _).get? _ ≠ none
        rw [Heap.get?_push_of_some _ (L _ _ e)]; simp
    · intro b hb; rw [List.mem_singleton] at hb; subst hb; exact get_size_none _
    · rintro i h ⟨⟨o', ho', _⟩, _⟩ b hb
      rw [List.mem_singleton] at hb; subst hb
      rw [ho']; simp
    · exact fun q => nomatch q
    · intro b hb
      simp only [List.mem_cons, List.not_mem_nil, or_false] at hb
      rcases hb with rfl | rfl
      · exact .inl (List.mem_singleton.mpr rfl)
      · exact .inr (by rw [e]; simp)
    · intro i v _ hv
      rcases q.get i with ⟨v', d, h1, h2, r⟩ | ⟨h1, _⟩
      · rw [← Array.getElem?_toList, h1] at hv; cases hv; exact ⟨d, h2, r⟩
      · rw [← Array.getElem?_toList, h1] at hv; cases hv
noncomputable def ups (a : Int) (n : Nat) : List PV := (List.range n).map fun i : Nat => PV.int (a + (i : Int))
theorem IterV.range {w : World} {A : Around} {a b : Int} (hh : A.handled = none) (hs : Builtin.Range.small a b 1 = true) : IterV w A false (.range a b) (ups a (b - a).toNat) := by
  intro g s v Q E B L r h
  replace r := r.inv
  cases r with
  | mk e =>
    rename_i r t u v
    have hlen : (ups a (b - a).toNat).length = (b - a).toNat := by simp [ups]
    have h0 : Builtin.Range.rangeSize a b 1 = (((b - a).toNat : Nat) : Int) := by
      unfold Builtin.Range.rangeSize
      simp
      omega
    have hp := Heap.get?_push_size s.heap (o := { cls := .type "range_iterator", data := .fields #[rawInt a, rawInt (Builtin.Range.rangeSize a b 1), rawInt 1] }) rfl
    have W := Walks.range (prog := PW) (w := w) (A := A) hh s.heap.objs.size a 1 (ups a (b - a).toNat).length
    refine wpAny_pyIter_range (L _ _ e) hs (h _ _ ⟨⟨s.heap.objs.size, [s.heap.objs.size], [s.heap.objs.size], _, _, rfl, W, ?_, ?_, ?_, ?_, ?_, ?_, ?_⟩, push_le _ _, Rest.same _ _ _ _⟩)
    · show IsRangeIter _ _ _ _ _
      rw [h0] at hp ⊢
      rw [hlen]
      simpa [IsRangeIter] using hp
    · intro b' hb
      simp only [List.mem_cons, List.not_mem_nil, or_false] at hb
      subst hb
      show (s.heap.push _).get? _ ≠ none
      rw [hp]; simp
    · intro b' hb; rw [List.mem_singleton] at hb; subst hb; exact get_size_none _
    · intro i h hi b' hb; rw [List.mem_singleton] at hb; subst hb
      have hi : h.get? _ = _ := hi
      rw [hi]; simp
    · exact fun q => nomatch q
    · exact fun b hb => .inl hb
    · rintro i v hi ⟨tk, rfl⟩
      refine ⟨.int (a + (i : Int)), ?_, ?_⟩
      · rw [hlen] at hi
        simp [ups, hi]
      · rw [Int.mul_one]; exact .int _ _
end Mine
end

section
open PySem PySem.W PyProof.Rows
set_option Elab.async false
set_option maxRecDepth 100000
set_option linter.all false
namespace Mine
section
variable {k : Bool} {c : Cx} {ρ : REnv} {g g' : Vw} {s s' s'' : Shared}

theorem Step.touch {Z : Addr → Prop} {s₀ : Shared} (st : Step k g s₀ g' s') (h : ∀ b o, ¬ Z b → s'.heap.get? b = some o → s''.heap.get? b = some o) (hz : ∀ b, Z b → s₀.heap.get? b = none) (hg : ∀ b, Z b → g' b = none) (r : Rest k s' s'') : Step k g s₀ g' s'' where
  heap := fun b o e => h b o (fun z => by rw [hz b z] at e; cases e) (st.heap b o e)
  up := st.up
  sub := fun b o e => h b o (fun z => by rw [hg b z] at e; cases e) (st.sub b o e)
  new := st.new
  rest := st.rest.trans r
theorem Step.hides {b : Addr} (st : Step k g s g' s') (h1 : g b = none) (h2 : s.heap.get? b ≠ none) : g' b = none := by
  cases q : g' b with
  | none => rfl
  | some o =>
    rcases st.new b o q with e | e
    · rw [h1] at e; cases e
    · exact absurd e h2
theorem Le.none {g : Vw} {h : Heap} {b : Addr} (L : Le g h.get?) (e : h.get? b = none) : g b = none := by
  cases q : g b with
  | none => rfl
  | some o => rw [L b o q] at e; cases e
theorem Rest.heap {k : Bool} {s : Shared} (h : Heap) (t : Nat) : Rest k s { s with heap := h, toks := t } := Rest.same k s h t
theorem Rest.any {k : Bool} {s s' : Shared} (r : Rest true s s') : Rest k s s' := by
  refine ⟨r.1, ?_⟩
  have a := r.2
  rw [if_pos rfl] at a
  split
  · exact a
  · rw [a.1]; exact id

/-- the tests of a comprehension -/
noncomputable def Tests (k : Bool) (c : Cx) (ρ : REnv) (ifs : List Expr) (b : Bool) : Prop :=
  ∀ (g : Vw) (s : Shared) (Q : Bool → Shared → Prop) (E : Value → Shared → Prop), EnvOK c ρ g s.heap → Le g s.heap.get? → (∀ g' s', Step k g s g' s' → Q b s') →
    Wp c (forIn ifs true fun e r => if r = true then do let ok ← isTrue e c.env (eval e c.env); pure (ForInStep.yield ok) else pure (ForInStep.yield r)) Q E s
theorem Tests.nil : Tests k c ρ [] true := fun g s Q E F L h => wpAny_tests_nil (h g s (Step.refl L))
theorem Tests.one {e : Expr} {b : Bool} (h1 : Tr k c ρ e b) : Tests k c ρ [e] b := fun g s Q E F L h => wpAny_tests_one (h1 g s Q E F L h)

/-- the place of a comprehension's inside -/
noncomputable abbrev inC (c : Cx) (scope : Scope) (cl : List (Str × Addr)) (C : Addr) : Cx := ⟨c.w, c.A, compEnvC scope cl C c.env⟩
/-- what the inside sees of the outside -/
noncomputable def Seen (c : Cx) (ρ : REnv) (scope : Scope) (cl : List (Str × Addr)) (ρ' : REnv) : Prop :=
  ∀ y d, ρ'.lookup y = some d → ρ.lookup y = some d ∧ cl.lookup y = c.env.cells.lookup y ∧ (c.env.kindOf y = some .cell ∨ c.env.kindOf y = some .free) ∧ (relabel scope c.env).names.lookup y ≠ some .local

theorem EnvOK.inside {scope : Scope} {cl : List (Str × Addr)} {C : Addr} {ρ' ρx : REnv} {h : Heap} {m : Str → Option Value} (F : EnvOK c ρ g h) (hk : scope.kind = .function) (hS : Seen c ρ scope cl ρ') (hn : h.Ns C m)
    (hx : ∀ y d, ρx.lookup y = some d → (relabel scope c.env).names.lookup y = some .local ∧ ∃ v, m y = some v ∧ Rep c.w.params g v d) : EnvOK (inC c scope cl C) (ρx ++ ρ') g h where
  base := F.base
  fn := by show (relabel scope c.env).kind = .function; simpa [relabel] using hk
  gl := F.gl
  bn := F.bn
  loc := ⟨m, hn, fun y d hky hd => by
    rw [lookup_append] at hd
    cases q : ρx.lookup y with
    | some d' => rw [q] at hd; cases hd; exact (hx y d q).2
    | none => rw [q] at hd; exact absurd hky (hS y d hd).2.2.2⟩
  cel := fun y d hky hd => by
    rw [lookup_append] at hd
    cases q : ρx.lookup y with
    | some d' =>
      have h1 : (relabel scope c.env).names.lookup y = some .local := (hx y d' q).1
      have h2 : (relabel scope c.env).names.lookup y = some .cell ∨ (relabel scope c.env).names.lookup y = some .free := hky
      rw [h1] at h2
      rcases h2 with h2 | h2 <;> cases h2
    | none =>
      rw [q] at hd
      obtain ⟨h1, h2, h3, _⟩ := hS y d hd
      obtain ⟨a, v, ha, hv, r⟩ := F.cel y d h3 h1
      exact ⟨a, v, h2.trans ha, hv, r⟩
where lookup_append {ρx ρ' : REnv} {y : Str} : (ρx ++ ρ').lookup y = match ρx.lookup y with | some d => some d | none => ρ'.lookup y := by
        induction ρx with
        | nil => rfl
        | cons p r ih =>
          obtain ⟨z, d⟩ := p
          simp only [List.cons_append, List.lookup_cons]
          cases hz : y == z <;> simp [ih]

theorem RepL.snoc {P : Params} {g : Vw} {vs : List Value} {ds : List PV} {v : Value} {d : PV} (h : RepL P g vs ds) (r : Rep P g v d) : RepL P g (vs ++ [v]) (ds ++ [d]) := h.append (.cons r .nil)
theorem take_filterMap {α β : Type} (f : α → Option β) (l : List α) (i : Nat) (d : α) (h : l[i]? = some d) : (l.take (i + 1)).filterMap f = (l.take i).filterMap f ++ (f d).toList := by
  rw [List.take_add_one, h, List.filterMap_append]
  cases q : f d <;> simp [q]
theorem RepL.size {P : Params} {g : Vw} {vs : Array Value} {ds : List PV} (h : RepL P g vs.toList ds) : vs.size = ds.length := by rw [← h.length]; simp

/-- what a target takes -/
noncomputable def TgtV (w : World) (A : Around) (isl : Bool) (target : Expr) (env : Env) (d : PV) (ρd : REnv) : Prop :=
  ∀ (g : Vw) (s : Shared) (m : Str → Option Value) (I : Addr) (v : Value) (Q : Unit → Shared → Prop) (E : Value → Shared → Prop), Le g s.heap.get? → g env.locals = none → s.heap.Ns env.locals m → Rep w.params g v d → (isl = true → ∃ l j, s.heap.IsListIter I l j) →
    (∀ h' t m', (∀ b o, b ≠ env.locals → s.heap.get? b = some o → h'.get? b = some o) → h'.Ns env.locals m' → (∀ y, ρd.lookup y = none → m' y = m y) → (∀ y e, ρd.lookup y = some e → ∃ v, m' y = some v ∧ Rep w.params g v e) → Q () { s with heap := h', toks := t }) →
    wpAny (model PW w) A (letOwnedTupleGo target (.ref I) v) (fun _ s₁ => wpAny (model PW w) A (assign target env v) Q E s₁) E s
theorem TgtV.name {w : World} {A : Around} {isl : Bool} {x : Str} {px : Pos} {env : Env} {d : PV} (hkx : env.kindOf x = some .local) (hp : (env.scope.kind == .class || (env.scope.kind == .module && env.locals != env.globals)) = false) :
    TgtV w A isl (.Name x px) env d [(x, d)] := fun g s m I v Q E L hg hn r _ h =>
  wpAny_of_eq (a := ()) rfl (wpAny_assign_Name (wpAny_storeName_local hkx hn (fun h₃ hn₃ hs₃ => h h₃ _ _ (fun b o hb e => hs₃.extBut b o hb e) hn₃ (fun y hy => by
      rw [List.lookup_cons] at hy
      cases q : y == x with
      | true => rw [q] at hy; cases hy
      | false => rw [beq_eq_false_iff_ne] at q; show (if y = x then _ else _) = _; rw [if_neg q]) (fun y e hy => by
      rw [List.lookup_cons] at hy
      cases q : y == x with
      | true =>
        rw [q] at hy; cases hy
        have q := eq_of_beq q
        subst q
        exact ⟨v, by simp, r⟩
      | false => rw [q] at hy; cases hy)) hp))
theorem TgtV.pair {w : World} {A : Around} {x y : Str} {px py tp : Pos} {tk : Nat} {env : Env} {d e : PV} (hh : A.handled = none) (hkx : env.kindOf x = some .local) (hky : env.kindOf y = some .local) (hp : (env.scope.kind == .class || (env.scope.kind == .module && env.locals != env.globals)) = false) :
    TgtV w A true (.Tuple [.Name x px, .Name y py] tk tp) env (.tuple [d, e]) [(y, e), (x, d)] := fun g s m I v Q E L hg hn r hI h => by
  obtain ⟨l, j, hI⟩ := hI rfl
  replace r := r.inv
  cases r with
  | mk e1 c1 d1 q =>
    rename_i t o vs n
    refine wpAny_letOwnedTupleGo_listiter hI ?_
    obtain ⟨vs⟩ := vs
    replace q := q.inv
    cases q with
    | mk q1 q =>
      rename_i v1 vs
      replace q := q.inv
      cases q with
      | mk q2 q =>
        rename_i v2 vs
        replace q := q.inv
        cases q
        refine assign_Tuple_tuple hh ⟨o, L _ _ e1, c1, n, d1⟩ rfl rfl fun h₅ he => ?_
        have he' : ∀ b o, s.heap.get? b = some o → h₅.get? b = some o := fun b o e => he b o (Nat.ne_of_lt (Heap.lt_size e)) e
        refine assignInOrder_cons (wpAny_assign_Name (wpAny_storeName_local hkx (hn.at' fun o e => he' _ o e) (fun h₆ hn₆ hs₆ => ?_) hp))
        refine assignInOrder_cons (wpAny_assign_Name (wpAny_storeName_local hky hn₆ (fun h₃ hn₃ hs₃ => ?_) hp))
        refine assignInOrder_nil ?_
        refine h h₃ _ _ (fun b o hb e => hs₃.extBut b o hb (hs₆.extBut b o hb (he' b o e))) hn₃ (fun z hz => ?_) fun z e' hz => ?_
        · rw [List.lookup_cons] at hz
          cases q : z == y with
          | true => rw [q] at hz; cases hz
          | false =>
            rw [q] at hz
            dsimp only at hz
            rw [List.lookup_cons] at hz
            cases q' : z == x with
            | true => rw [q'] at hz; cases hz
            | false =>
              rw [beq_eq_false_iff_ne] at q q'
              show (if z = y then _ else if z = x then _ else m z) = _
              rw [if_neg q, if_neg q']
        rw [List.lookup_cons] at hz
        cases q : z == y with
        | true =>
          rw [q] at hz; cases hz
          have q := eq_of_beq q
          subst q
          exact ⟨v2, by simp, q2⟩
        | false =>
          rw [q] at hz
          dsimp only at hz
          rw [List.lookup_cons] at hz
          cases q' : z == x with
          | true =>
            rw [q'] at hz; cases hz
            have q' := eq_of_beq q'
            subst q'
            rw [beq_eq_false_iff_ne] at q
            exact ⟨v1, by simp [q], q1⟩
          | false => rw [q'] at hz; cases hz

theorem comp_loop {w : World} {A : Around} {s : Shared} {elt target iter : Expr} {ifs : List Expr} {scope : Scope} {pos : Pos} {it acc : Value} {env : Env} {R : Result → Shared → Prop} (I : Nat → Shared → Prop)
    (turn : ∀ n s, I n s → wpAny (model PW w) A (pyNext it) (fun r s₁ => match r with
      | none => R (.ok .next) s₁
      | some v => wpAny (model PW w) A (letOwnedTupleGo target it v) (fun _ s₁ => wpAny (model PW w) A (assign target env v) (fun _ s₂ =>
          wpAny (model PW w) A (forIn ifs true fun c r => if r = true then do let ok ← isTrue c env (eval c env); pure (ForInStep.yield ok) else pure (ForInStep.yield r)) (fun ok s₃ =>
            if ok = true then wpAny (model PW w) A (eval elt env) (fun x s₄ =>
              wpAny (model PW w) A (call (.builtin "list.append") [acc, x]) (fun _ s₅ => ∃ m, m < n ∧ I m s₅) (notedBy (model PW w) A env fun e s' => R (.error e) s') s₄) (notedBy (model PW w) A env fun e s' => R (.error e) s') s₃
            else ∃ m, m < n ∧ I m s₃) (notedBy (model PW w) A env fun e s' => R (.error e) s') s₂) (notedBy (model PW w) A env fun e s' => R (.error e) s') s₁) (notedBy (model PW w) A env fun e s' => R (.error e) s') s₁) (notedBy (model PW w) A env fun e s' => R (.error e) s') s)
    (n : Nat) (h : I n s) : codeAny (model PW w) A (.compLoop (.ListComp elt [⟨target, iter, ifs, 0⟩] scope pos) 0 it acc env) R s := by
  refine codeAny_loop rfl I (fun n s hI => ?_) n h
  show wpAny _ A ((compTurn (.ListComp elt [⟨target, iter, ifs, 0⟩] scope pos) 0 it acc env).onRaise (fun x => do noteFrame x env; theTreesLotGoes x)) _ _ s
  refine wpAny_noted ?_
  rw [compTurn_list]
  refine wpAny_bind (wpAny_standAt (wpAny_bind (wpAny_mono (turn n s hI) (fun r s₁ h₁ => ?_) fun _ _ h' => h')))
  cases r with
  | none => exact wpAny_pure h₁
  | some v =>
    refine wpAny_bind (wpAny_mono h₁ (fun _ s₁ h₁ => ?_) fun _ _ h' => h')
    refine wpAny_bind (wpAny_mono h₁ (fun _ s₂ h₂ => wpAny_bind (wpAny_mono h₂ (fun ok s₃ h₃ => ?_) fun _ _ h' => h')) fun _ _ h' => h')
    cases ok with
    | false => exact wpAny_pure ⟨rfl, h₃⟩
    | true =>
      exact wpAny_bind (wpAny_bind (wpAny_mono h₃ (fun x s₄ h₄ => wpAny_bind (wpAny_mono h₄ (fun _ s₅ h₅ => wpAny_pure (wpAny_pure ⟨rfl, h₅⟩)) fun _ _ h' => h')) fun _ _ h' => h'))

/-- the turns of a comprehension -/
theorem comp_turns {elt target iter : Expr} {isl : Bool} {ifs : List Expr} {scope : Scope} {cl : List (Str × Addr)} {pos : Pos} {C D : Addr} {s₀ : Shared} {ds : List PV} {it : Value} {ρ' : REnv} {R : Result → Shared → Prop} (f : PV → Option PV) (bnd : PV → REnv)
    (F : EnvOK c ρ g s₀.heap) (L : Le g s₀.heap.get?) (W : Walked c.w c.A isl g s₀ ds it s) (hk : scope.kind = .function) (hT : ∀ d, d ∈ ds → TgtV c.w c.A isl target (inC c scope cl C).env d (bnd d)) (hx : ∀ d, d ∈ ds → ∀ y e, (bnd d).lookup y = some e → (relabel scope c.env).names.lookup y = some .local) (hS : Seen c ρ scope cl ρ')
    (hbody : ∀ d, d ∈ ds → Tests k (inC c scope cl C) (bnd d ++ ρ') ifs (f d).isSome ∧ ∀ o, f d = some o → Ev k (inC c scope cl C) (bnd d ++ ρ') elt o)
    (hC₀ : s.heap.get? C = none) (hD₀ : s.heap.get? D = none) (hDC : D ≠ C) (hs : ∀ b o, s.heap.get? b = some o → s'.heap.get? b = some o) (hr : Rest k s s')
    (hD : s'.heap.PlainList D #[]) {m : Str → Option Value} (hn : s'.heap.Ns C m) (hsz : ds.length ≤ sizeLine)
    (hR : ∀ g' s'' ys m', Step k g s₀ g' s'' → g' C = none → g' D = none → s''.heap.Ns C m' → s''.heap.PlainList D ys → RepL c.w.params g' ys.toList (ds.filterMap f) → R (.ok .next) s'') :
    codeAny (model PW c.w) c.A (.compLoop (.ListComp elt [⟨target, iter, ifs, 0⟩] scope pos) 0 it (.ref D) (compEnvC scope cl C c.env)) R s' := by
  obtain ⟨⟨I, fp, wr, P, St, rfl, W, hst, hfp, hwr, hSt, hisl, hfg, hP⟩, hle, hrest⟩ := W
  have none₀ : ∀ b, s.heap.get? b = none → s₀.heap.get? b = none := fun b e => by
    cases q : s₀.heap.get? b with
    | none => rfl
    | some o => rw [hle b o q] at e; cases e
  let Z : Addr → Prop := fun b => b = C ∨ b = D ∨ b ∈ wr
  have hZ₀ : ∀ b, Z b → s₀.heap.get? b = none := by
    rintro b (rfl | rfl | h)
    · exact none₀ _ hC₀
    · exact none₀ _ hD₀
    · exact hwr b h
  have hnot : ∀ b, b ∈ fp → b ≠ C ∧ b ≠ D := fun b hb => ⟨fun e => hfp b hb (e ▸ hC₀), fun e => hfp b hb (e ▸ hD₀)⟩
  have hCw : C ∉ wr := fun h => (hnot C (W.sub _ h)).1 rfl
  have hDw : D ∉ wr := fun h => (hnot D (W.sub _ h)).2 rfl
  have st₀ : Step k g s₀ g s' := Step.grow L (hle.trans hs) (hrest.any.trans hr)
  refine comp_loop (env := (inC c scope cl C).env) (fun n s₁ => ∃ i g₁ ys m₁, n = ds.length + 1 - i ∧ i ≤ ds.length ∧ Step k g s₀ g₁ s₁ ∧ (∀ b, Z b → g₁ b = none) ∧ St i s₁.heap ∧ s₁.heap.PlainList D ys ∧ RepL c.w.params g₁ ys.toList ((ds.take i).filterMap f) ∧ s₁.heap.Ns C m₁) ?_ (ds.length + 1)
    ⟨0, g, #[], m, rfl, Nat.zero_le _, st₀, fun b hb => L.none (hZ₀ b hb), W.frame _ _ _ hst fun b _ o e => hs b o e, hD, by simpa using RepL.nil, hn⟩
  rintro n s₁ ⟨i, g₁, ys, m₁, rfl, hi, st₁, hz₁, hst₁, hD₁, r₁, hn₁⟩
  by_cases hlt : i < ds.length
  · refine W.item i _ _ _ hlt hst₁ fun v h₂ tk₂ hPv hst₂ hk₂ => ?_
    have hD₂ : h₂.PlainList D ys := hD₁.at fun o e => hk₂ D o hDw e
    have hn₂ : h₂.Ns C m₁ := hn₁.at' fun o e => hk₂ C o hCw e
    obtain ⟨d, hd, rd⟩ := hP i v hlt hPv
    have hmem : d ∈ ds := List.mem_of_getElem? hd
    have st₂ : Step k g s₀ g₁ { s₁ with heap := h₂, toks := tk₂ } := st₁.touch (Z := Z) (fun b o hb e => hk₂ b o (fun q => hb (.inr (.inr q))) e) hZ₀ hz₁ (Rest.same _ _ _ _)
    refine hT d hmem g₁ _ m₁ I v _ _ st₂.sub (hz₁ _ (.inl rfl)) hn₂ (rd.mono st₁.up) (fun q => hisl q _ _ hst₂) fun h₃ tk₃ m₃ hs₃ hn₃ _ hm₃ => ?_
    have st₃ : Step k g s₀ g₁ { s₁ with heap := h₃, toks := tk₃ } := st₂.touch (Z := Z) (fun b o hb e => hs₃ b o (fun q => hb (.inl q)) e) hZ₀ hz₁ (Rest.same _ _ _ _)
    have hst₃ : St (i + 1) h₃ := W.frame _ _ _ hst₂ fun b hb o e => hs₃ b o (hnot b hb).1 e
    have hD₃ : h₃.PlainList D ys := hD₂.at fun o e => hs₃ D o hDC e
    have F₃ : EnvOK (inC c scope cl C) (bnd d ++ ρ') g₁ h₃ := EnvOK.inside (ρx := bnd d) (F.step st₃) hk hS hn₃ (fun y e hy => ⟨hx d hmem y e hy, hm₃ y e hy⟩)
    have ex₃ : ∀ b, Z b → h₃.get? b ≠ none := by
      rintro b (hb | hb | h)
      · obtain ⟨o, _, _, e, _⟩ := hn₃
        have e : h₃.get? C = some o := e
        rw [hb, e]; simp
      · obtain ⟨_, e⟩ := hD₃; rw [hb, e]; simp
      · exact hSt _ _ hst₃ b h
    have next : ∀ g₄ s₄ ys' m₄, Step k g s₀ g₄ s₄ → (∀ b, Z b → g₄ b = none) → s₄.heap.PlainList D ys' → RepL c.w.params g₄ ys'.toList ((ds.take (i + 1)).filterMap f) → s₄.heap.Ns C m₄ → St (i + 1) s₄.heap →
        ∃ n', n' < ds.length + 1 - i ∧ ∃ i g₁ ys m₁, n' = ds.length + 1 - i ∧ i ≤ ds.length ∧ Step k g s₀ g₁ s₄ ∧ (∀ b, Z b → g₁ b = none) ∧ St i s₄.heap ∧ s₄.heap.PlainList D ys ∧ RepL c.w.params g₁ ys.toList ((ds.take i).filterMap f) ∧ s₄.heap.Ns C m₁ :=
      fun g₄ s₄ ys' m₄ st hz hd' hr' hn' hst' => ⟨ds.length + 1 - (i + 1), by omega, i + 1, g₄, ys', m₄, rfl, hlt, st, hz, hst', hd', hr', hn'⟩
    refine (hbody d hmem).1 g₁ _ _ _ F₃ st₃.sub fun g₄ s₄ st₄ => ?_
    have hD₄ : s₄.heap.PlainList D ys := hD₃.at fun o e => st₄.heap D o e
    have hst₄ : St (i + 1) s₄.heap := W.frame _ _ _ hst₃ fun b _ o e => st₄.heap b o e
    have r₄ := r₁.mono st₄.up
    cases q : f d with
    | none =>
      rw [if_neg (by simp)]
      refine next g₄ s₄ ys _ (st₃.trans st₄) (fun b hb => st₄.hides (hz₁ b hb) (ex₃ b hb)) hD₄ ?_ (hn₃.keeps st₄.heap) hst₄
      rw [take_filterMap f ds i d hd, q]; simpa using r₄
    | some o =>
      rw [if_pos (by simp)]
      refine (hbody d hmem).2 o q g₄ s₄ _ _ (F₃.step st₄) st₄.sub fun v₅ g₅ s₅ st₅ r₅ => ?_
      have hys : ys.size ≤ sizeLine := by
        rw [r₁.size]
        refine Nat.le_trans (List.length_filterMap_le _ _) (Nat.le_trans ?_ hsz)
        rw [List.length_take]; omega
      have hD₅ : s₅.heap.PlainList D ys := hD₄.at fun o e => st₅.heap D o e
      refine wpAny_list_append_plain (hsz := hys) hD₅ fun h₆ hl₆ hs₆ => ?_
      have hz₅ : ∀ b, Z b → g₅ b = none := fun b hb => (st₄.trans st₅).hides (hz₁ b hb) (ex₃ b hb)
      have st₆ : Step k g s₀ g₅ { s₅ with heap := h₆ } := ((st₃.trans st₄).trans st₅).touch (Z := Z) (fun b o hb e => hs₆.extBut b o (fun q => hb (.inr (.inl q))) e) hZ₀ hz₅ (Rest.same _ _ _ s₅.toks)
      refine next g₅ _ (ys.push v₅) _ st₆ hz₅ hl₆ ?_ ((hn₃.keeps (st₄.trans st₅).heap).sameBut hs₆ (Ne.symm hDC)) (W.frame _ _ _ hst₄ fun b hb o e => hs₆.extBut b o (hnot b hb).2 (st₅.heap b o e))
      rw [take_filterMap f ds i d hd, q]
      simpa using (r₄.mono st₅.up).snoc r₅
  · have hin : i = ds.length := by omega
    subst hin
    refine W.done _ _ _ hst₁ fun h₂ tk₂ hk₂ => ?_
    refine hR g₁ _ ys m₁ (st₁.touch (Z := Z) (fun b o hb e => hk₂ b o (fun q => hb (.inr (.inr q))) e) hZ₀ hz₁ (Rest.same _ _ _ _)) (hz₁ _ (.inl rfl)) (hz₁ _ (.inr (.inl rfl))) (hn₁.at' fun o e => hk₂ C o hCw e) (hD₁.at fun o e => hk₂ D o hDw e) ?_
    simpa using r₁
end
end Mine
end

section
open PySem PySem.W PyProof.Rows
set_option Elab.async false
set_option maxRecDepth 100000
set_option linter.all false
namespace Mine
section
variable {k : Bool} {c : Cx} {ρ : REnv} {g g' : Vw} {s s' s'' : Shared}

/-- the whole inside of a comprehension, from the walker on -/
theorem comp_block {elt target iter : Expr} {isl : Bool} {ifs : List Expr} {scope : Scope} {cl : List (Str × Addr)} {pos : Pos} {s₀ : Shared} {ds : List PV} {it : Value} {ρ' : REnv} {E : Value → Shared → Prop} {RR : Value → Addr → Result → Shared → Prop} (f : PV → Option PV) (bnd : PV → REnv)
    (F : EnvOK c ρ g s₀.heap) (L : Le g s₀.heap.get?) (W : Walked c.w c.A isl g s₀ ds it s) (hcell : ∀ y ∈ scope.names, y.2 ≠ .cell) (hk : scope.kind = .function)
    (hT : ∀ C d, d ∈ ds → TgtV c.w c.A isl target (inC c scope cl C).env d (bnd d)) (hx : ∀ d, d ∈ ds → ∀ y e, (bnd d).lookup y = some e → (relabel scope c.env).names.lookup y = some .local) (hS : Seen c ρ scope cl ρ')
    (hbody : ∀ C d, d ∈ ds → Tests k (inC c scope cl C) (bnd d ++ ρ') ifs (f d).isSome ∧ ∀ o, f d = some o → Ev k (inC c scope cl C) (bnd d ++ ρ') elt o)
    (hsz : ds.length ≤ sizeLine)
    (hR : ∀ C D g' s'' ys m', s₀.heap.get? C = none → s₀.heap.get? D = none → C ≠ D → Step k g s₀ g' s'' → g' C = none → g' D = none → s''.heap.Ns C m' → s''.heap.PlainList D ys → RepL c.w.params g' ys.toList (ds.filterMap f) → RR (.ref D) C (.ok .next) s'') :
    wpAny (model PW c.w) c.A (newList []) (fun acc s₃ => wpAny (model PW c.w) c.A (newFunctionEnv scope c.env.globals cl [] c.env.qual none .none (some c.env)) (fun cenv s₄ =>
      codeAny (model PW c.w) c.A (.compStart (.ListComp elt [⟨target, iter, ifs, 0⟩] scope pos) 0 it acc { cenv with scope := relabel scope c.env }) (RR acc cenv.locals) s₄) E s₃) E s := by
  refine wpAny_newObj_type (wpAny_newFunctionEnv hcell (by intro y hy; simp at hy) (fun h₁ hns₁ hsb₁ => ?_) hk)
  dsimp only at hns₁ hsb₁ ⊢
  generalize hH2 : s.heap.push { cls := .type "list", dict := none, data := .seq ([] : List Value).toArray } = H2 at hns₁ hsb₁ ⊢
  have hC : H2.objs.size = s.heap.objs.size + 1 := by rw [← hH2, Heap.size_push]
  have hDC : s.heap.objs.size ≠ H2.objs.size := by rw [hC]; exact Nat.ne_of_lt (Nat.lt_succ_self _)
  have below : ∀ b, b < s.heap.objs.size → b ≠ H2.objs.size := fun b hb => by rw [hC]; exact Nat.ne_of_lt (Nat.lt_succ_of_lt hb)
  have old : ∀ b o, s.heap.get? b = some o → h₁.get? b = some o := fun b o e => hsb₁.extBut b o (below b (Heap.lt_size e)) (Heap.get?_push_of_some _ (hH2 ▸ Heap.get?_push_of_some _ e))
  have hacc : h₁.PlainList s.heap.objs.size #[] := ⟨_, hsb₁.extBut _ _ hDC (Heap.get?_push_of_some _ (hH2 ▸ Heap.get?_push_size _ rfl))⟩
  have fresh : ∀ a, s.heap.objs.size ≤ a → s.heap.get? a = none := fun a ha => by
    cases e : s.heap.get? a with
    | none => rfl
    | some o' => exact absurd (Heap.lt_size e) (Nat.not_lt.mpr ha)
  have fresh₀ : ∀ a, s.heap.get? a = none → s₀.heap.get? a = none := fun a ha => by
    cases e : s₀.heap.get? a with
    | none => rfl
    | some o' => rw [W.le a o' e] at ha; cases ha
  have loop : ∀ s₃ : Shared, s₃ = { s with heap := h₁, toks := s.toks + ([] : List (Str × Value)).length } →
      codeAny (model PW c.w) c.A (.compLoop (.ListComp elt [⟨target, iter, ifs, 0⟩] scope pos) 0 it (.ref s.heap.objs.size) (compEnvC scope cl H2.objs.size c.env)) (RR (.ref s.heap.objs.size) H2.objs.size) s₃ := by
    rintro s₃ rfl
    refine comp_turns f bnd F L W hk (hT _) hx hS (hbody _) (fresh _ (by rw [hC]; exact Nat.le_succ _)) (fresh _ (Nat.le_refl _)) hDC old (Rest.same _ _ _ _) hacc hns₁ hsz fun g' s'' ys m' st h1 h2 h3 h4 h5 => ?_
    exact hR _ _ g' s'' ys m' (fresh₀ _ (fresh _ (by rw [hC]; exact Nat.le_succ _))) (fresh₀ _ (fresh _ (Nat.le_refl _))) (Ne.symm hDC) st h1 h2 h3 h4 h5
  obtain ⟨⟨I, fp, wr, P, St, rfl, WW, hst, _⟩, _⟩ := W
  exact codeAny_compStart_list (loop _ rfl) (WW.self 0 _ _ _ (WW.frame 0 _ _ hst fun b _ o e => old b o e) (loop _ rfl))

theorem Ev.listcomp {elt target iter : Expr} {isl : Bool} {ifs : List Expr} {scope : Scope} {cl : List (Str × Addr)} {pos : Pos} {src : PV} {ds : List PV} {ρ' : REnv} (f : PV → Option PV) (bnd : PV → REnv)
    (h1 : Ev k c ρ iter src) (hI : IterV c.w c.A isl src ds) (hclos : closureFor scope c.env = pure cl) (hcell : ∀ y ∈ scope.names, y.2 ≠ .cell) (hk : scope.kind = .function)
    (hnames : ∀ y ∈ scope.names, y.2 = .local → scope.names.lookup y.1 = some .local)
    (hT : ∀ C d, d ∈ ds → TgtV c.w c.A isl target (inC c scope cl C).env d (bnd d)) (hx : ∀ d, d ∈ ds → ∀ y e, (bnd d).lookup y = some e → (relabel scope c.env).names.lookup y = some .local) (hS : Seen c ρ scope cl ρ')
    (hbody : ∀ C d, d ∈ ds → Tests k (inC c scope cl C) (bnd d ++ ρ') ifs (f d).isSome ∧ ∀ o, f d = some o → Ev k (inC c scope cl C) (bnd d ++ ρ') elt o)
    (hsz : ds.length ≤ sizeLine) (hs : ∀ x, foldedSetIterable iter c.env x = pure x := by intro _; rfl) : Ev k c ρ (.ListComp elt [⟨target, iter, ifs, 0⟩] scope pos) (.list (ds.filterMap f)) := fun g s Q E F L h => by
  show wpAny _ _ (eval _ _) _ _ _
  rw [eval_ListComp]
  refine wpAny_comprehension_free (use := Option.none) rfl hs hclos hk hnames (h1 g s _ _ F L fun v g₁ s₁ st₁ r₁ => hI g₁ s₁ v _ _ (F.base.mono st₁.up) st₁.sub r₁ fun it s₂ W => ?_)
  refine comp_block (RR := fun acc C => compPost (model PW c.w) c.A E Option.none Q acc C) f bnd (F.step st₁) st₁.sub W hcell hk hT hx hS hbody hsz fun C D g' s'' ys m' hC hD hCD st hgC hgD hn hl r => ?_
  refine ⟨m', hn, fun h' hs' => ?_⟩
  obtain ⟨n, hl⟩ := hl
  have hl' : h'.get? D = _ := hs'.extBut D _ (Ne.symm hCD) hl
  have st' : Step k g₁ s₁ g' { s'' with heap := h' } := st.touch (Z := fun b => b = C) (fun b o hb e => hs'.extBut b o hb e) (fun b hb => hb ▸ hC) (fun b hb => hb ▸ hgC) (Rest.same _ _ _ s''.toks)
  have st'' : Step k g₁ s₁ (put g' D { cls := .type "list", data := .seq ys n }) { s'' with heap := h' } := SS.step (SS.reveal (SS.of st' (fun b hb => hb.elim)) hD id hl')
  refine h _ _ _ (st₁.trans st'') (.list (put_self _ _ _) rfl rfl (r.mono ?_))
  exact put_le hgD
end
end Mine
end

section
open PySem PySem.W PyProof.Rows
set_option Elab.async false
set_option maxRecDepth 100000
set_option linter.all false
namespace Mine

noncomputable def Own (c : Cx) (b : Addr) : Prop := b = c.env.locals ∨ ∃ x, c.env.cells.lookup x = some b
/-- a frame of a function: its own names are hidden from the view -/
structure FrOK (c : Cx) (ρ : REnv) (g : Vw) (s : Shared) : Prop where
  env : EnvOK c ρ g s.heap
  le : Le g s.heap.get?
  hid : ∀ b, Own c b → g b = none
  cell : ∀ x a, c.env.cells.lookup x = some a → a ≠ c.env.locals ∧ ∃ v, s.heap.IsCell a v
  apart : c.env.cells.Pairwise fun x y => x.2 ≠ y.2

section
variable {k : Bool} {c : Cx} {ρ ρ₁ ρ₂ : REnv} {g g' g₁ g₂ : Vw} {s s' s₁ s₂ : Shared}

theorem FrOK.has (F : FrOK c ρ g s) : ∀ b, Own c b → s.heap.get? b ≠ none := by
  rintro b (rfl | ⟨x, hx⟩)
  · obtain ⟨m, ⟨o, _, _, e, _⟩, _⟩ := F.env.loc
    rw [e]; simp
  · obtain ⟨_, v, o, e, _⟩ := F.cell x b hx
    rw [e]; simp
theorem FrOK.step (F : FrOK c ρ g s) (st : Step k g s g' s') : FrOK c ρ g' s' where
  env := F.env.step st
  le := st.sub
  hid := fun b hb => st.hides (F.hid b hb) (F.has b hb)
  cell := fun x a hx => let ⟨h1, v, h2⟩ := F.cell x a hx; ⟨h1, v, h2.keeps st.heap⟩
  apart := F.apart
theorem FrOK.ss (F : FrOK c ρ g s) (st : Step k g s g' s') : SS (Own c) k g s g' s' := SS.of st F.has

/-- a smaller environment -/
noncomputable def Sub (ρ' ρ : REnv) : Prop := ∀ x d, ρ'.lookup x = some d → ρ.lookup x = some d
theorem EnvOK.less (F : EnvOK c ρ g s.heap) (h : Sub ρ₁ ρ) : EnvOK c ρ₁ g s.heap where
  base := F.base
  fn := F.fn
  gl := F.gl
  bn := F.bn
  loc := let ⟨m, n, f⟩ := F.loc; ⟨m, n, fun x d hx hd => f x d hx (h x d hd)⟩
  cel := fun x d hx hd => F.cel x d hx (h x d hd)
theorem FrOK.less (F : FrOK c ρ g s) (h : Sub ρ₁ ρ) : FrOK c ρ₁ g s := ⟨F.env.less h, F.le, F.hid, F.cell, F.apart⟩

noncomputable def CanStore (c : Cx) (x : Str) : Prop := c.env.kindOf x = some .local ∨ (c.env.kindOf x = some .cell ∧ ∃ a, c.env.cells.lookup x = some a)

theorem Rest.own (k : Bool) (s : Shared) (h : Heap) : Rest k s { s with heap := h } := Rest.same k s h s.toks
theorem store_V {x : Str} {v : Value} {d : PV} {Q : Unit → Shared → Prop} {E : Value → Shared → Prop} (F : FrOK c ρ g s) (r : Rep c.w.params g v d) (hk : CanStore c x)
    (h : ∀ s', SS (Own c) k g s g s' → FrOK c ((x, d) :: ρ) g s' → Q () s') : Wp c (storeName c.env x v) Q E s := by
  have low : ∀ b o, g b = some o → ¬ Own c b := fun b o e hb => by rw [F.hid b hb] at e; cases e
  rcases hk with hk | ⟨hk, a, ha⟩
  · obtain ⟨m, hn, hm⟩ := F.env.loc
    refine wpAny_storeName_local hk hn (fun h' hn' hs' => ?_) (by rw [F.env.fn]; rfl)
    have hold : ∀ b o, ¬ Own c b → s.heap.get? b = some o → h'.get? b = some o := fun b o hb e => hs'.extBut b o (fun q => hb (.inl q)) e
    have ss : SS (Own c) k g s g { s with heap := h', toks := s.toks + 1 } := SS.grow F.le hold low (Rest.same _ _ _ _)
    refine h _ ss ⟨⟨F.env.base, F.env.fn, F.env.gl, F.env.bn, ⟨_, hn', fun y e hy he => ?_⟩, fun y e hy he => ?_⟩, ss.sub, F.hid, fun y b hb => ?_, F.apart⟩
    · rw [List.lookup_cons] at he
      cases q : y == x with
      | true =>
        rw [q] at he; cases he
        have q := eq_of_beq q
        exact ⟨v, by simp [q], r⟩
      | false =>
        rw [q] at he
        obtain ⟨v', h1, h2⟩ := hm y e hy he
        rw [beq_eq_false_iff_ne] at q
        exact ⟨v', by simp [q, h1], h2⟩
    · rw [List.lookup_cons] at he
      cases q : y == x with
      | true =>
        have q := eq_of_beq q
        rw [q, hk] at hy
        rcases hy with hy | hy <;> cases hy
      | false =>
        rw [q] at he
        obtain ⟨b, v', h1, h2, h3⟩ := F.env.cel y e hy he
        exact ⟨b, v', h1, h2.sameBut hs' (F.cell y b h1).1, h3⟩
    · obtain ⟨h1, v', h2⟩ := F.cell y b hb
      exact ⟨h1, v', h2.sameBut hs' h1⟩
  · obtain ⟨hal, v₀, hv₀⟩ := F.cell x a ha
    refine wpAny_storeName_cell F.env.fn hk ha hv₀ fun h' hc' hs' => ?_
    have hold : ∀ b o, ¬ Own c b → s.heap.get? b = some o → h'.get? b = some o := fun b o hb e => hs'.extBut b o (fun q => hb (.inr ⟨x, q ▸ ha⟩)) e
    have ss : SS (Own c) k g s g { s with heap := h' } := SS.grow F.le hold low (Rest.own _ _ _)
    refine h _ ss ⟨⟨F.env.base, F.env.fn, F.env.gl, F.env.bn, ?_, fun y e hy he => ?_⟩, ss.sub, F.hid, fun y b hb => ?_, F.apart⟩
    · obtain ⟨m, hn, hm⟩ := F.env.loc
      refine ⟨m, hn.sameBut hs' (Ne.symm hal), fun y e hy he => ?_⟩
      rw [List.lookup_cons] at he
      cases q : y == x with
      | true =>
        have q := eq_of_beq q
        rw [q, hk] at hy
        cases hy
      | false => rw [q] at he; exact hm y e hy he
    · rw [List.lookup_cons] at he
      cases q : y == x with
      | true =>
        rw [q] at he; cases he
        have q := eq_of_beq q
        subst q
        exact ⟨a, v, ha, hc', r⟩
      | false =>
        rw [q] at he
        obtain ⟨b, v', h1, h2, h3⟩ := F.env.cel y e hy he
        rw [beq_eq_false_iff_ne] at q
        refine ⟨b, v', h1, h2.sameBut hs' fun e => q ?_, h3⟩
        exact name_of_addr F.apart (mem_of_lookup h1) (e ▸ mem_of_lookup ha)
    · obtain ⟨h1, v', h2⟩ := F.cell y b hb
      refine ⟨h1, ?_⟩
      by_cases e : b = a
      · subst e; exact ⟨_, hc'⟩
      · exact ⟨v', h2.sameBut hs' e⟩

/-! statements -/
noncomputable def Sx (k : Bool) (c : Cx) (ρ : REnv) (t : Stmt) (ρ' : REnv) : Prop :=
  ∀ (g : Vw) (s : Shared) (Q : Flow → Shared → Prop) (E : Value → Shared → Prop), FrOK c ρ g s → (∀ g' s', SS (Own c) k g s g' s' → FrOK c ρ' g' s' → Q .next s') → Wp c (exec t c.env) Q E s
noncomputable def Nx (k : Bool) (c : Cx) (ρ : REnv) (t : List Stmt) (ρ' : REnv) : Prop :=
  ∀ (g : Vw) (s : Shared) (Q : Flow → Shared → Prop) (E : Value → Shared → Prop), FrOK c ρ g s → (∀ g' s', SS (Own c) k g s g' s' → FrOK c ρ' g' s' → Q .next s') → Wp c (execs t c.env) Q E s
noncomputable def Fx (k : Bool) (c : Cx) (ρ : REnv) (t : List Stmt) (d : PV) : Prop :=
  ∀ (g : Vw) (s : Shared) (Q : Flow → Shared → Prop) (E : Value → Shared → Prop), FrOK c ρ g s → (∀ v g' s', SS (Own c) k g s g' s' → Rep c.w.params g' v d → Q (.ret v) s') → Wp c (execs t c.env) Q E s

theorem Nx.nil : Nx k c ρ [] ρ := fun g s Q E F h => wpAny_execs_nil (h g s (SS.refl F.le) F)
theorem Nx.cons {t : Stmt} {r : List Stmt} (h1 : Sx k c ρ t ρ₁) (h2 : Nx k c ρ₁ r ρ₂) : Nx k c ρ (t :: r) ρ₂ := fun g s Q E F h =>
  wpAny_execs_cons (h1 g s _ E F fun g' s' st F' => h2 g' s' Q E F' fun g'' s'' st' F'' => h g'' s'' (st.trans st') F'')
theorem Nx.less {r : List Stmt} (h1 : Nx k c ρ r ρ₁) (h2 : Sub ρ₂ ρ₁) : Nx k c ρ r ρ₂ := fun g s Q E F h => h1 g s Q E F fun g' s' st F' => h g' s' st (F'.less h2)
theorem Sx.less {t : Stmt} (h1 : Sx k c ρ t ρ₁) (h2 : Sub ρ₂ ρ₁) : Sx k c ρ t ρ₂ := fun g s Q E F h => h1 g s Q E F fun g' s' st F' => h g' s' st (F'.less h2)
theorem Fx.cons {t : Stmt} {r : List Stmt} {d : PV} (h1 : Sx k c ρ t ρ₁) (h2 : Fx k c ρ₁ r d) : Fx k c ρ (t :: r) d := fun g s Q E F h =>
  wpAny_execs_cons (h1 g s _ E F fun g' s' st F' => h2 g' s' Q E F' fun v g'' s'' st' r' => h v g'' s'' (st.trans st') r')
theorem Fx.ret {e : Expr} {pos : Pos} {r : List Stmt} {d : PV} (h1 : Ev k c ρ e d) : Fx k c ρ (.Return (some e) pos :: r) d := fun g s Q E F h =>
  wpAny_execs_cons (wpAny_Return_some (h1 g s _ E F.env F.le fun v g' s' st r' => h v g' s' (F.ss st) r'))
theorem Sx.if_t {test : Expr} {body orelse : List Stmt} {pos : Pos} (h1 : Tr k c ρ test true) (h2 : Nx k c ρ body ρ₁) : Sx k c ρ (.If test body orelse pos) ρ₁ := fun g s Q E F h =>
  wpAny_If (h1 g s _ E F.env F.le fun g' s' st => h2 g' s' Q E (F.step st) fun g'' s'' st' F' => h g'' s'' ((F.ss st).trans st') F')
theorem Sx.if_f {test : Expr} {body orelse : List Stmt} {pos : Pos} (h1 : Tr k c ρ test false) (h2 : Nx k c ρ orelse ρ₁) : Sx k c ρ (.If test body orelse pos) ρ₁ := fun g s Q E F h =>
  wpAny_If (h1 g s _ E F.env F.le fun g' s' st => h2 g' s' Q E (F.step st) fun g'' s'' st' F' => h g'' s'' ((F.ss st).trans st') F')
theorem Sx.assign {x : Str} {px pos : Pos} {value : Expr} {d : PV} (h1 : Ev k c ρ value d) (hk : CanStore c x) (hs : swapsWith value (some (.Name x px)) pos.line c.env = pure false) : Sx k c ρ (.Assign [.Name x px] value pos) ((x, d) :: ρ) := fun g s Q E F h =>
  wpAny_Assign_Name (h1 g s _ E F.env F.le fun v g' s' st r => store_V (k := k) (F.step st) r hk fun s'' st' F' => h g' s'' ((F.ss st).trans st') F') hs
theorem Sx.aug {x : Str} {px pos : Pos} {op : Operator} {value : Expr} {a b d : PV} (hl : c.env.kindOf x = some .local) (h0 : ρ.lookup x = some a) (h1 : Ev k c ρ value b) (h2 : IopV k c op a b d) :
    Sx k c ρ (.AugAssign (.Name x px) op value pos) ((x, d) :: ρ) := fun g s Q E F h => by
  obtain ⟨m, n, f⟩ := F.env.loc
  obtain ⟨v, hv, r⟩ := f x a hl h0
  refine wpAny_AugAssign_Name (wpAny_loadName_local F.env.fn hl n hv ?_)
  refine h1 g s _ E F.env F.le fun u g' s' st ru => h2 g' s' v u _ E (F.env.base.mono st.up) st.sub (r.mono st.up) ru fun u' g'' s'' st' r' => ?_
  have st₂ := st.trans st'
  exact store_V (k := k) (F.step st₂) r' (.inl hl) fun s₃ st₃ F₃ => h g'' s₃ ((F.ss st₂).trans st₃) F₃

/-! a for loop over what does not turn -/
theorem for_loop {w : World} {A : Around} {s : Shared} {target : Expr} {it : Value} {body : List Stmt} {env : Env} {R : Result → Shared → Prop} (I : Nat → Shared → Prop)
    (turn : ∀ n s, I n s → wpAny (model PW w) A (pyNext it) (fun r s₁ => match r with
      | none => R (.ok .next) s₁
      | some v => wpAny (model PW w) A (letOwnedTupleGo target it v) (fun _ s₁ => wpAny (model PW w) A (assign target env v) (fun _ s₂ => wpAny (model PW w) A (execs body env) (fun f s₃ => match f with
          | .next | .cont => ∃ m, m < n ∧ I m s₃
          | .brk => R (.ok .next) s₃
          | .ret v => R (.ok (.ret v)) s₃) (notedBy (model PW w) A env fun e s' => R (.error e) s') s₂) (notedBy (model PW w) A env fun e s' => R (.error e) s') s₁) (notedBy (model PW w) A env fun e s' => R (.error e) s') s₁) (notedBy (model PW w) A env fun e s' => R (.error e) s') s)
    (n : Nat) (h : I n s) : codeAny (model PW w) A (.forLoop target it body [] env) R s := by
  refine codeAny_loop' rfl I (fun n s hI => ?_) n h
  show wpAny _ _ ((forTurn target it body [] env).onRaise (fun x => do noteFrame x env; theTreesLotGoes x)) _ _ s
  refine wpAny_noted ?_
  simp only [forTurn]
  refine wpAny_bind (wpAny_standAt (wpAny_bind (wpAny_onRaise (wpAny_mono (turn n s hI) (fun r s₁ h₁ => ?_) fun _ _ h' => wpAny_standAt h'))))
  cases r with
  | none => exact wpAny_pure (.inr ⟨rfl, codeAny_block (wpAny_execs_nil h₁)⟩)
  | some v =>
    refine wpAny_bind (wpAny_mono h₁ (fun _ s₁ h₁ => ?_) fun _ _ h' => h')
    refine wpAny_bind (wpAny_mono h₁ (fun _ s₂ h₂ => wpAny_bind (wpAny_mono h₂ (fun f s₃ h₃ => ?_) fun _ _ h' => h')) fun _ _ h' => h')
    cases f with
    | next => exact wpAny_pure (.inl ⟨rfl, h₃⟩)
    | cont => exact wpAny_pure (.inl ⟨rfl, h₃⟩)
    | brk => exact wpAny_pure h₃
    | ret v => exact wpAny_pure h₃

theorem SS.touch {X Z : Addr → Prop} (st : SS X k g s g₁ s₁) (h : ∀ b o, ¬ Z b → s₁.heap.get? b = some o → s₂.heap.get? b = some o) (hz : ∀ b, Z b → X b ∨ s.heap.get? b = none) (hg : ∀ b, Z b → g₁ b = none) (r : Rest k s₁ s₂) : SS X k g s g₁ s₂ where
  heap := fun b o hb e => h b o (fun z => by rcases hz b z with x | x; exact hb x; rw [x] at e; cases e) (st.heap b o hb e)
  up := st.up
  sub := fun b o e => h b o (fun z => by rw [hg b z] at e; cases e) (st.sub b o e)
  new := st.new
  rest := st.rest.trans r
theorem FrOK.keep {Z : Addr → Prop} (F : FrOK c ρ g s) (h : ∀ b o, ¬ Z b → s.heap.get? b = some o → s'.heap.get? b = some o) (hz : ∀ b, Z b → g b = none ∧ ¬ Own c b) : FrOK c ρ g s' where
  env := { base := F.env.base, fn := F.env.fn, gl := F.env.gl, bn := F.env.bn,
           loc := let ⟨m, n, f⟩ := F.env.loc; ⟨m, n.at' fun o e => h _ o (fun z => (hz _ z).2 (.inl rfl)) e, f⟩,
           cel := fun x d hx hd => let ⟨a, v, h1, ⟨o, ho, hc⟩, r⟩ := F.env.cel x d hx hd; ⟨a, v, h1, ⟨o, h _ o (fun z => (hz _ z).2 (.inr ⟨x, h1⟩)) ho, hc⟩, r⟩ }
  le := fun b o e => h b o (fun z => by rw [(hz b z).1] at e; cases e) (F.le b o e)
  hid := F.hid
  cell := fun x a hx => let ⟨h1, v, o, ho, hc⟩ := F.cell x a hx; ⟨h1, v, o, h _ o (fun z => (hz _ z).2 (.inr ⟨x, hx⟩)) ho, hc⟩
  apart := F.apart
theorem SS.hides {X : Addr → Prop} {b : Addr} (st : SS X k g s g' s') (h1 : g b = none) (h2 : s.heap.get? b ≠ none) : g' b = none := by
  cases q : g' b with
  | none => rfl
  | some o =>
    rcases st.new b o q with e | e
    · rw [h1] at e; cases e
    · exact absurd e.1 h2

end
end Mine
end

section
open PySem PySem.W PyProof.Rows
set_option Elab.async false
set_option maxRecDepth 100000
set_option linter.all false
namespace Mine
section
variable {k : Bool} {c : Cx} {ρ ρ₁ ρ₂ : REnv} {g g' g₁ g₂ : Vw} {s s' s₁ s₂ : Shared}

theorem Sx.assign_comp {elt target iter : Expr} {isl : Bool} {ifs : List Expr} {scope : Scope} {cl : List (Str × Addr)} {pos py spos : Pos} {y : Str} {src : PV} {ds : List PV} {ρ' : REnv} (f : PV → Option PV) (bnd : PV → REnv)
    (hsw : swapsWith (.ListComp elt [⟨target, iter, ifs, 0⟩] scope pos) (some (.Name y py)) spos.line c.env = pure true) (hy : CanStore c y)
    (h1 : Ev k c ρ iter src) (hI : IterV c.w c.A isl src ds) (hclos : closureFor scope c.env = pure cl) (hcell : ∀ y ∈ scope.names, y.2 ≠ .cell) (hk : scope.kind = .function)
    (hnames : ∀ y ∈ scope.names, y.2 = .local → scope.names.lookup y.1 = some .local)
    (hT : ∀ C d, d ∈ ds → TgtV c.w c.A isl target (inC c scope cl C).env d (bnd d)) (hx : ∀ d, d ∈ ds → ∀ y e, (bnd d).lookup y = some e → (relabel scope c.env).names.lookup y = some .local) (hS : Seen c ρ scope cl ρ')
    (hbody : ∀ C d, d ∈ ds → Tests k (inC c scope cl C) (bnd d ++ ρ') ifs (f d).isSome ∧ ∀ o, f d = some o → Ev k (inC c scope cl C) (bnd d ++ ρ') elt o)
    (hsz : ds.length ≤ sizeLine) (hs : ∀ x, foldedSetIterable iter c.env x = pure x := by intro _; rfl) : Sx k c ρ (.Assign [.Name y py] (.ListComp elt [⟨target, iter, ifs, 0⟩] scope pos) spos) ((y, .list (ds.filterMap f)) :: ρ) := fun g s Q E F h => by
  show wpAny _ _ (exec _ _) _ _ _
  rw [exec_Assign_Name_used _ _ _ _ hsw]
  refine wpAny_bind (wpAny_standAt (wpAny_bind ?_))
  show wpAny _ c.A (do let _ ← comprehension (.ListComp elt [⟨target, iter, ifs, 0⟩] scope pos) scope c.env _ (newList []) false (eval iter c.env) (some (PySem.assign (.Name y py) c.env))) _ _ s
  refine wpAny_bind (wpAny_mono (wpAny_comprehension_free (use := some (PySem.assign (.Name y py) c.env)) (Q := fun _ s' => Q .next s') rfl hs hclos hk hnames
    (h1 g s _ _ F.env F.le fun v g₁ s₁ st₁ r₁ => hI g₁ s₁ v _ _ (F.env.base.mono st₁.up) st₁.sub r₁ fun it s₂ W => ?_)) (fun _ s' hq => wpAny_pure (wpAny_pure hq)) fun _ _ e => e)
  refine comp_block (RR := fun acc C => compPost (model PW c.w) c.A E (some (PySem.assign (.Name y py) c.env)) (fun _ s' => Q .next s') acc C) f bnd (F.env.step st₁) st₁.sub W hcell hk hT hx hS hbody hsz fun C D g' s'' ys m' hC hD hCD st hgC hgD hn hl r => ?_
  obtain ⟨n, hl⟩ := hl
  have st'' : Step k g₁ s₁ (put g' D { cls := .type "list", data := .seq ys n }) s'' := SS.step (SS.reveal (SS.of st (fun b hb => hb.elim)) hD id hl)
  have F₁ := F.step (st₁.trans st'')
  have hgC' : put g' D { cls := .type "list", data := .seq ys n } C = none := by unfold put; rw [if_neg hCD]; exact hgC
  have hCo : ¬ Own c C := fun ho => (F.step st₁).has C ho hC
  have hCs : s.heap.get? C = none := by
    cases q : s.heap.get? C with
    | none => rfl
    | some o => have := st₁.heap C o q; rw [hC] at this; cases this
  show wpAny _ c.A (PySem.assign (.Name y py) c.env (.ref D)) _ _ _
  refine wpAny_assign_Name (store_V (k := k) F₁ (.list (put_self _ _ _) rfl rfl (r.mono (put_le hgD))) hy fun s₃ st₃ F₃ => ?_)
  refine ⟨m', hn.at' fun o e => st₃.heap C o hCo e, fun h' hs' => ?_⟩
  have keep : ∀ b o, ¬ b = C → s₃.heap.get? b = some o → h'.get? b = some o := fun b o hb e => hs'.extBut b o hb e
  exact h _ _ ((((F.ss (st₁.trans st'')).trans st₃)).touch (Z := fun b => b = C) (s₂ := { s₃ with heap := h' }) keep (fun b hb => .inr (hb ▸ hCs)) (fun b hb => hb ▸ hgC') (Rest.own _ _ _)) (F₃.keep (Z := fun b => b = C) keep fun b hb => hb ▸ ⟨hgC', hCo⟩)

/-! many targets -/
noncomputable def Sto (k : Bool) (c : Cx) (t : Value → Sem Unit) (x : Str) : Prop :=
  ∀ (ρ : REnv) (g : Vw) (s : Shared) (v : Value) (d : PV) (Q : Unit → Shared → Prop) (E : Value → Shared → Prop), FrOK c ρ g s → Rep c.w.params g v d → (∀ s', SS (Own c) k g s g s' → FrOK c ((x, d) :: ρ) g s' → Q () s') → Wp c (t v) Q E s
theorem Sto.name {x : Str} {px : Pos} (hk : CanStore c x) : Sto k c (assign (.Name x px) c.env) x := fun ρ g s v d Q E F r h => wpAny_assign_Name (store_V F r hk h)
theorem Sto.bind {x : Str} (hk : CanStore c x) : Sto k c (bindName c.env x) x := fun ρ g s v d Q E F r h => wpAny_bindName (store_V F r hk h)
inductive Stos (k : Bool) (c : Cx) : List (Value → Sem Unit) → List Str → Prop
  | nil : Stos k c [] []
  | cons {t x ts xs} : Sto k c t x → Stos k c ts xs → Stos k c (t :: ts) (x :: xs)
noncomputable def binds : List Str → List PV → REnv → REnv
  | x :: xs, d :: ds, ρ => binds xs ds ((x, d) :: ρ)
  | _, _, ρ => ρ
theorem assign_all {ts : List (Value → Sem Unit)} {xs : List Str} (t : Stos k c ts xs) : ∀ {vs : List Value} {ds : List PV} {ρ : REnv} {g : Vw} {s : Shared} {Q : Unit → Shared → Prop} {E : Value → Shared → Prop}, RepL c.w.params g vs ds → xs.length = ds.length → FrOK c ρ g s →
    (∀ s', SS (Own c) k g s g s' → FrOK c (binds xs ds ρ) g s' → Q () s') → Wp c (assignInOrder ts vs) Q E s := by
  induction t with
  | nil =>
    intro vs ds ρ g s Q E r hl F h
    cases ds with
    | nil => cases r.inv; exact assignInOrder_nil (h s (SS.refl F.le) F)
    | cons _ _ => exact Nat.noConfusion hl
  | cons a t ih =>
    intro vs ds ρ g s Q E r hl F h
    cases ds with
    | nil => exact Nat.noConfusion hl
    | cons d ds =>
      replace r := r.inv
      cases r with
      | mk r rs => exact assignInOrder_cons (a _ _ _ _ _ _ _ F r fun s' st F' => ih rs (Nat.succ.inj hl) F' fun s'' st' F'' => h s'' (st.trans st') F'')

/-- what is unpacked -/
noncomputable def UnpackV (w : World) (A : Around) (n : Nat) : Prop :=
  ∀ (g : Vw) (s : Shared) (v : Value) (ds : List PV) (Q : List Value → Shared → Prop) (E : Value → Shared → Prop), Le g s.heap.get? → Rep w.params g v (.tuple ds) → ds.length = n →
    (∀ vs s', RepL w.params g vs ds → Step true g s g s' → Q vs s') → wpAny (model PW w) A (unpackItems v n none) Q E s
theorem UnpackV.free {w : World} {A : Around} {n : Nat} (hh : A.handled = none) : UnpackV w A n := fun g s v ds Q E L r hn h => by
  replace r := r.inv
  cases r with
  | mk e c d q =>
    subst hn
    rw [← q.size]
    refine unpackItems_tuple hh ⟨_, L _ _ e, c, _, d⟩ fun h' he => ?_
    exact h _ _ q (Step.grow L (fun b o e => he b o (Nat.ne_of_lt (Heap.lt_size e)) e) (Rest.own _ _ _))
theorem Step.any (st : Step true g s g' s') : Step k g s g' s' := ⟨st.heap, st.up, st.sub, st.new, st.rest.any⟩

theorem Sx.unpack {elts : List Expr} {tk : Nat} {tpos pos : Pos} {value : Expr} {xs : List Str} {ds : List PV} (h1 : Ev k c ρ value (.tuple ds)) (hl : xs.length = ds.length) (hU : UnpackV c.w c.A ds.length)
    (hts : Stos k c ((assignEach elts c.env).map (·.2)) xs) (hn : (assignEach elts c.env).length = ds.length) (hstar : (assignEach elts c.env).findIdx? (·.1) = none)
    (hs : swapsWithSole [.Tuple elts tk tpos] value pos.line c.env = pure false) (hw : swappedStores [.Tuple elts tk tpos] value c.env = pure none) : Sx k c ρ (.Assign [.Tuple elts tk tpos] value pos) (binds xs ds ρ) := fun g s Q E F h => by
  refine Assign_Tuple (h1 g s _ E F.env F.le fun v g' s' st r => ?_) hs hw
  rw [arm_assign_Tuple]
  refine wpAny_bind (wpAny_standAt ?_)
  unfold PySem.unpack
  rw [hn, hstar]
  refine wpAny_bind (wpAny_holding (hU g' s' v ds _ E st.sub r rfl fun vs s₂ rs st₂ => ?_))
  exact assign_all hts rs hl ((F.step st).step st₂) fun s₃ st₃ F₃ => h g' s₃ ((F.ss (st.trans st₂.any)).trans st₃) F₃
theorem RepL.reverse {P : Params} : ∀ {vs : List Value} {ds : List PV}, RepL P g vs ds → RepL P g vs.reverse ds.reverse
  | _, _, .nil => .nil
  | _, _, .cons a r => by rw [List.reverse_cons, List.reverse_cons]; exact (RepL.reverse r).append (.cons a .nil)
theorem Sx.swapped {elts : List Expr} {tk : Nat} {tpos pos : Pos} {value : Expr} {xs : List Str} {ds : List PV} (h1 : Ev k c ρ value (.tuple ds)) (hl : xs.length = ds.length) (hU : UnpackV c.w c.A xs.length)
    (hts : Stos k c (xs.reverse.map fun n => bindName c.env n) xs.reverse)
    (hs : swapsWithSole [.Tuple elts tk tpos] value pos.line c.env = pure false) (hw : swappedStores [.Tuple elts tk tpos] value c.env = pure (some xs)) : Sx k c ρ (.Assign [.Tuple elts tk tpos] value pos) (binds xs.reverse ds.reverse ρ) := fun g s Q E F h => by
  refine Assign_Tuple_swapped (h1 g s _ E F.env F.le fun v g' s' st r => ?_) hs hw
  refine hU g' s' v ds _ E st.sub r hl.symm fun vs s₂ rs st₂ => ?_
  exact assign_all hts rs.reverse (by simp [hl]) ((F.step st).step st₂) fun s₃ st₃ F₃ => h g' s₃ ((F.ss (st.trans st₂.any)).trans st₃) F₃

/-! calls of the program's functions -/
noncomputable def OB (w : World) (a : Addr) : Obj := ((KF w).lookup a).getD default
noncomputable def FD (w : World) (a : Addr) : FuncData := match (OB w a).data with | .func fd => fd | _ => default
noncomputable abbrev fc (w : World) (A : Around) (fa L : Addr) : Cx := ⟨w, A.deeper (callEnvC (FD w fa) L fa), callEnvC (FD w fa) L fa⟩

structure IsFn (w : World) (fa cc : Addr) (body : List Stmt) : Prop where
  ob : (KF w).lookup fa = some (OB w fa)
  fd : (OB w fa).data = .func (FD w fa)
  code : (FD w fa).code = .ref cc
  cob : (KF w).lookup cc = some (OB w cc)
  name : ∃ vs t, (OB w cc).data = .fields vs ∧ vs[1]? = some (.str (FD w fa).qualname t)
  body : (FD w fa).body = .stmts body
  clo : (FD w fa).closure = []
  gl : (FD w fa).globals = mainGlobals
  bn : (FD w fa).builtins = builtinsNs
  co : (FD w fa).scope.isCoroutine = false
  kind : (FD w fa).scope.kind = .function

theorem bindL_zip {kindOf : Str → Option NameKind} : ∀ (xs : List Str) (vs : List Value) (ds : List PV) (P : Params) (g : Vw) (m : Str → Option Value) (ρ : REnv), RepL P g vs ds → xs.length = vs.length →
    (∀ x d, kindOf x = some .local → ρ.lookup x = some d → ∃ v, m x = some v ∧ Rep P g v d) →
    ∀ x d, kindOf x = some .local → (binds xs ds ρ).lookup x = some d → ∃ v, bindL kindOf (xs.zip vs) m x = some v ∧ Rep P g v d := by
  intro xs
  induction xs with
  | nil =>
    intro vs ds P g m ρ r hl h x d hk hd
    cases vs with
    | nil =>
      cases ds with
      | nil => exact h x d hk hd
      | cons d ds => replace r := r.inv; cases r
    | cons _ _ => simp at hl
  | cons x xs ih =>
    intro vs ds P g m ρ r hl h y e hk hd
    cases ds with
    | nil => replace r := r.inv; cases r; simp at hl
    | cons d ds =>
    replace r := r.inv
    cases r with
    | mk a r =>
    rename_i v vs
    rw [List.zip_cons_cons]
    unfold bindL
    refine ih vs ds P g _ ((x, d) :: ρ) r (by simpa using hl) (fun z f hz hf => ?_) y e hk hd
    rw [List.lookup_cons] at hf
    cases q : z == x with
    | true =>
      rw [q] at hf; cases hf
      have q := eq_of_beq q
      subst q
      rw [if_pos hz]
      exact ⟨v, by simp, a⟩
    | false =>
      rw [q] at hf
      obtain ⟨v', h1, h2⟩ := h z f hz hf
      rw [beq_eq_false_iff_ne] at q
      refine ⟨v', ?_, h2⟩
      split
      · simp [q, h1]
      · exact h1
theorem bindC_zip {kindOf : Str → Option NameKind} : ∀ (xs : List Str) (vs : List Value) (ds : List PV) (P : Params) (g : Vw) (m : Str → Option Value) (ρ : REnv), RepL P g vs ds → xs.length = vs.length →
    (∀ x d, kindOf x ≠ some .local → ρ.lookup x = some d → ∃ v, m x = some v ∧ Rep P g v d) →
    ∀ x d, kindOf x ≠ some .local → (binds xs ds ρ).lookup x = some d → ∃ v, bindC kindOf (xs.zip vs) m x = some v ∧ Rep P g v d := by
  intro xs
  induction xs with
  | nil =>
    intro vs ds P g m ρ r hl h x d hk hd
    cases vs with
    | nil =>
      cases ds with
      | nil => exact h x d hk hd
      | cons d ds => replace r := r.inv; cases r
    | cons _ _ => simp at hl
  | cons x xs ih =>
    intro vs ds P g m ρ r hl h y e hk hd
    cases ds with
    | nil => replace r := r.inv; cases r; simp at hl
    | cons d ds =>
    replace r := r.inv
    cases r with
    | mk a r =>
    rename_i v vs
    rw [List.zip_cons_cons]
    unfold bindC
    refine ih vs ds P g _ ((x, d) :: ρ) r (by simpa using hl) (fun z f hz hf => ?_) y e hk hd
    rw [List.lookup_cons] at hf
    cases q : z == x with
    | true =>
      rw [q] at hf; cases hf
      have q := eq_of_beq q
      subst q
      rw [if_neg hz]
      exact ⟨v, by simp, a⟩
    | false =>
      rw [q] at hf
      obtain ⟨v', h1, h2⟩ := h z f hz hf
      rw [beq_eq_false_iff_ne] at q
      refine ⟨v', ?_, h2⟩
      split
      · exact h1
      · simp [q, h1]

theorem enter {w : World} {A : Around} {fa cc : Addr} {body : List Stmt} {vs : List Value} {args : List PV} {xs : List Str} {R : Result → Shared → Prop} (I : IsFn w fa cc body) (hgen : (FD w fa).scope.isGenerator = false)
    (hbind : bindArgs (FD w fa) ⟨vs, []⟩ = pure (xs.zip vs)) (hl : xs.length = vs.length)
    (hkind : ∀ n, ∀ x ∈ xs, (FD w fa).scope.names.lookup x = some .local ∨ ((FD w fa).scope.names.lookup x = some .cell ∧ ((cellsFrom n (FD w fa).scope.names []).lookup x).isSome = true))
    (hroom : A.depth < recursionLimit) (B : Base w g) (Lg : Le g s.heap.get?) (r : RepL w.params g vs args)
    (h : ∀ L s₁, FrOK (fc w A fa L) (binds xs args []) g s₁ → Le s.heap.get? s₁.heap.get? → (∀ b, Own (fc w A fa L) b → s.heap.get? b = none) → Rest true s s₁ →
      wpAny (model PW w) (fc w A fa L).A (execs body (fc w A fa L).env) (fun f s' => R (.ok (.ret (match f with | .ret v => v | _ => .none))) s')
        (fun e s' => wpAny (model PW w) (fc w A fa L).A (leaving (fc w A fa L).env e) (fun _ s'' => R (.error e) s'') (fun e' s'' => R (.error e') s'') s') s₁) :
    codeAny (model PW w) A (.call (.ref fa) ⟨vs, []⟩) R s := by
  have hlim : s.heap.NoLimit := B.nolimit Lg
  have hcd : s.heap.CodeRec (FD w fa).code (FD w fa).qualname := by
    obtain ⟨vs', t, h1, h2⟩ := I.name
    exact ⟨cc, OB w cc, vs', t, I.code, B.kin Lg _ _ I.cob, h1, h2⟩
  have hk : ∀ x ∈ xs.zip vs, x.1 ∈ xs := fun x hx => (List.of_mem_zip hx).1
  refine codeAny_call_cells hroom (B.kin Lg _ _ I.ob) I.fd hlim hcd I.body hbind I.clo (fun x hx => hkind _ x.1 (hk x hx)) (fun s₁ hs₁ => ?_) I.co hgen I.kind
  have hL : s.heap.get? s.heap.objs.size = none := get_size_none _
  have hLs : ∀ o, s₁.heap.get? s.heap.objs.size = some o → True := fun _ _ => trivial
  obtain ⟨hsame, hns, hkeep, hfr⟩ := hs₁.toInCall
  have none₀ : ∀ a, s.heap.objs.size ≤ a → s.heap.get? a = none := fun a ha => by
    cases e : s.heap.get? a with
    | none => rfl
    | some o' => exact absurd (Heap.lt_size e) (Nat.not_lt.mpr ha)
  have ownN : ∀ b, Own (fc w A fa s.heap.objs.size) b → s.heap.get? b = none := by
    rintro b (rfl | ⟨x, hx⟩)
    · exact hL
    · exact none₀ b (Nat.le_of_lt (hs₁.above x b (mem_of_lookup hx)))
  refine h s.heap.objs.size s₁ ⟨⟨B, I.kind, I.gl, I.bn, ⟨_, hns, ?_⟩, ?_⟩, Lg.trans hkeep, fun b hb => Lg.none (ownN b hb), fun x a hx => ⟨fun e => ?_, _, hs₁.cell x a hx⟩, hs₁.apart⟩ hkeep ownN ?_
  · exact bindL_zip xs vs args w.params g _ [] r hl (fun x d _ hd => by cases hd)
  · intro x d hx hd
    have hxl : (callEnvC (FD w fa) s.heap.objs.size fa).kindOf x ≠ some .local := by
      intro q
      have hx : (callEnvC (FD w fa) s.heap.objs.size fa).kindOf x = some .cell ∨ (callEnvC (FD w fa) s.heap.objs.size fa).kindOf x = some .free := hx
      rw [q] at hx
      rcases hx with hx | hx <;> cases hx
    obtain ⟨v, h1, h2⟩ := bindC_zip (kindOf := (callEnvC (FD w fa) s.heap.objs.size fa).kindOf) xs vs args w.params g (fun _ => Option.none) [] r hl (fun x d _ hd => by cases hd) x d hxl hd
    have hmem : x ∈ xs := by
      clear h1 h2 hbind hkind hk
      have key : ∀ (xs : List Str) (ds : List PV) (ρ : REnv), (∀ d, ρ.lookup x ≠ some d) → (binds xs ds ρ).lookup x = some d → x ∈ xs := by
        intro xs
        induction xs with
        | nil => intro ds ρ h1 h2; exact absurd h2 (by cases ds <;> exact h1 d)
        | cons y ys ih =>
          intro ds ρ h1 h2
          cases ds with
          | nil => exact absurd h2 (h1 d)
          | cons e ds =>
            by_cases q : x = y
            · exact q ▸ List.mem_cons_self
            · refine List.mem_cons_of_mem _ (ih ds _ (fun d' => ?_) h2)
              rw [List.lookup_cons, beq_eq_false_iff_ne.mpr q]
              exact h1 d'
      exact key xs args [] (by simp) hd
    rcases hkind (s.heap.objs.size + 1) x hmem with q | ⟨_, q⟩
    · exact absurd q hxl
    · obtain ⟨a, ha⟩ := Option.isSome_iff_exists.mp q
      exact ⟨a, v, ha, h1 ▸ hs₁.cell x a ha, h2⟩
  · have := hs₁.above x a (mem_of_lookup hx)
    have e' : a = s.heap.objs.size := e
    have this : s.heap.objs.size < a := this
    exact Nat.lt_irrefl _ (e' ▸ this)
  · obtain ⟨h', t, rfl⟩ := hsame
    exact Rest.same _ _ _ _

theorem CallV.fn {w : World} {A : Around} {fa cc : Addr} {body : List Stmt} {args : List PV} {xs : List Str} {d : PV} (ρ₀ : REnv) (I : IsFn w fa cc body) (hgen : (FD w fa).scope.isGenerator = false)
    (hbind : ∀ vs, vs.length = args.length → bindArgs (FD w fa) ⟨vs, []⟩ = pure (xs.zip vs)) (hl : xs.length = args.length)
    (hkind : ∀ n, ∀ x ∈ xs, (FD w fa).scope.names.lookup x = some .local ∨ ((FD w fa).scope.names.lookup x = some .cell ∧ ((cellsFrom n (FD w fa).scope.names []).lookup x).isSome = true))
    (hroom : A.depth < recursionLimit) (hρ : binds xs args [] = ρ₀) (h : ∀ L, Fx k (fc w A fa L) ρ₀ body d) : CallV k w A (.ref fa) args d := fun g s vs Q E B L r hQ => by
  refine wpAny_call (enter I hgen (hbind vs r.length) (by rw [hl, r.length]) hkind hroom B L r fun Lo s₁ F hle hown hrest => ?_)
  rw [hρ] at F
  refine h Lo g s₁ _ _ F fun v g' s' st rv => ?_
  exact hQ v g' s' (st.leave hle hown hrest.any) rv
end
end Mine
end

section
open PySem PySem.W PyProof.Rows PySem.Builtin PySem.Builtin.Str
set_option Elab.async false
set_option maxRecDepth 100000
set_option linter.all false
namespace Mine
section
variable {k : Bool} {w : World} {A : Around} {c : Cx} {ρ : REnv}

/-- a builtin that makes nothing but a value -/
theorem CallV.len_list {l : List PV} (h : (l.length : Int) < 2 ^ 63) : CallV k w A (.builtin "len") [.list l] (.int l.length) := fun g s vs Q E B L r hQ => by
  replace r := r.inv
  cases r with
  | mk r1 r2 =>
    replace r2 := r2.inv
    cases r2
    replace r1 := r1.inv
    cases r1 with
    | mk e c1 d1 q =>
      refine Calls.call_len_list ⟨_, L _ _ e, c1, _, d1⟩ (by rw [q.size]; exact h) ?_
      rw [q.size]
      exact hQ _ g _ (Step.tok L _) (.int _ _)
theorem CallV.len_str {x : Str} (h : ¬ (x.length : Int) ≥ 2 ^ 63) : CallV k w A (.builtin "len") [.str x] (.int x.length) := fun g s vs Q E B L r hQ => by
  replace r := r.inv
  cases r with
  | mk r1 r2 =>
    replace r2 := r2.inv
    cases r2
    replace r1 := r1.inv
    cases r1 with
    | mk t => exact PySem.P.len_str h (hQ _ g _ (Step.tok L _) (.int _ _))
theorem CallV.chr {i : Int} (h : (decide (i < 0) || decide (i > 0x10FFFF)) = false) : CallV k w A (.builtin "chr") [.int i] (.str ⟨#[i.toNat]⟩) := fun g s vs Q E B L r hQ => by
  replace r := r.inv
  cases r with
  | mk r1 r2 =>
    replace r2 := r2.inv
    cases r2
    replace r1 := r1.inv
    cases r1 with
    | mk t => exact PySem.P.chr_of_int h (hQ _ g _ (Step.tok L _) (.str _ _))
theorem CallV.range1 {a : Int} : CallV k w A (.type "range") [.int a] (.range 0 a) := fun g s vs Q E B L r hQ => by
  replace r := r.inv
  cases r with
  | mk r1 r2 =>
    replace r2 := r2.inv
    cases r2
    replace r1 := r1.inv
    cases r1 with
    | mk t =>
      refine PySem.call_range_1 ?_
      have st : Step k g s _ _ := Step.push (o := { cls := .type "range", data := .fields #[.int 0 s.toks, .int a t, .int 1 (s.toks + 1)] }) L rfl (s.toks + 1 + 1)
      exact hQ _ _ _ st (.range (put_self _ _ _))
theorem CallV.range2 {a b : Int} : CallV k w A (.type "range") [.int a, .int b] (.range a b) := fun g s vs Q E B L r hQ => by
  replace r := r.inv
  cases r with
  | mk r1 r2 =>
    replace r2 := r2.inv
    cases r2 with
    | mk r2 r3 =>
      replace r3 := r3.inv
      cases r3
      replace r1 := r1.inv
      cases r1 with
      | mk t =>
        replace r2 := r2.inv
        cases r2 with
        | mk u =>
          refine PySem.call_range_2 ?_
          have st : Step k g s _ _ := Step.push (o := { cls := .type "range", data := .fields #[.int a t, .int b u, .int 1 s.toks] }) L rfl (s.toks + 1)
          exact hQ _ _ _ st (.range (put_self _ _ _))
noncomputable def pI (l : List Int) : List PV := l.map .int
theorem RepL.pI {P : Params} {g : Vw} : ∀ {l : List Int} {vs : List Value}, RepL P g vs (pI l) → ∃ xs : List (Int × Tok), vs = xs.map (fun p => .int p.1 p.2) ∧ xs.map (·.1) = l := by
  intro l
  induction l with
  | nil => intro vs r; cases r.inv; exact ⟨[], rfl, rfl⟩
  | cons i l ih =>
    intro vs r
    replace r := r.inv
    cases r with
    | mk a r =>
      cases a.inv with
      | mk t =>
        obtain ⟨xs, h1, h2⟩ := ih r
        exact ⟨(i, t) :: xs, congrArg (_ :: ·) h1, congrArg (_ :: ·) h2⟩
theorem CallV.sum {l : List Int} (hh : A.handled = none) : CallV k w A (.builtin "sum") [.list (pI l)] (.int l.sum) := fun g s vs Q E B L r hQ => by
  replace r := r.inv
  cases r with
  | mk r1 r2 =>
    replace r2 := r2.inv
    cases r2
    replace r1 := r1.inv
    cases r1 with
    | mk e c1 d1 q =>
      rename_i a o vs n
      obtain ⟨xs, h1, h2⟩ := q.pI
      have hl : s.heap.IsList a (intItems xs.toArray) := ⟨_, L _ _ e, c1, n, by rw [d1]; congr 1; apply Array.ext'; simp [intItems, h1]⟩
      refine sum_intListG hh hl fun h' tk t' hk => ?_
      rw [preSum_eq, List.take_of_length_le (by simp)]
      have e2 : (xs.toArray.toList.map (·.1)) = l := by simpa using h2
      rw [e2]
      exact hQ _ g _ (Step.grow L hk (Rest.same _ _ _ _)) (.int _ _)

/-! methods -/
/-- a value of an exact type -/
noncomputable def OfT (k : Bool) (T : String) (a : PV) : Prop := ∀ (P : Params) (g : Vw) (s : Shared) (v : Value), Le g s.heap.get? → Rep P g v a → s.TypeIs v T ∧ ∀ b, v = .ref b → ∃ ob, s.heap.get? b = some ob ∧ ob.dict = Option.none
theorem OfT.str {x : Str} : OfT k "str" (.str x) := fun P g s v L r => by cases r.inv; exact ⟨typeIs_str _ _ _, fun _ e => nomatch e⟩
theorem OfT.dict {l : List (Str × PV)} : OfT k "dict" (.dict l) := fun P g s v L r => by
  replace r := r.inv
  cases r with
  | mk z e q => exact ⟨⟨_, L _ _ e, rfl⟩, fun b hb => by cases hb; exact ⟨_, L _ _ e, rfl⟩⟩
theorem Ev.meth {o : Expr} {name : Str} {apos pos : Pos} {es : List Expr} {a d : PV} {ds : List PV} {T id : String} (hbase : attributeBase o name c.env (eval o c.env) = eval o c.env)
    (hfew : ((backTo pos (starEach es c.env)).all (fun x => !x.1) && (backToKw pos (keywordEach [] c.env)).all (fun x => x.1.isSome)
      && decide (es.length + ([] : List Keyword).length + (if ([] : List Keyword).isEmpty then 0 else 1) < 30)) = true) (hline : (apos.endLine == pos.line) = true)
    (hargs : ∀ (A : Around) (s : Shared) (Q : Args → Shared → Prop) (E : Value → Shared → Prop), wpAny (model PW c.w) A (spliced (backTo pos (starEach es c.env))) (fun vs s' => Q ⟨vs, []⟩ s') E s → wpAny (model PW c.w) A (evalArgs (.builtin id) true (backTo pos (starEach es c.env)) []) Q E s)
    (hplain : (backTo pos (starEach es c.env)).any (·.1) = false)
    (pa : PlainAttrs T) (slot : Slot T name id) (ty : typeOf (.builtin id) = pure (.type "method_descriptor"))
    (h0 : Ev k c ρ o a) (h1 : EvL k c ρ es ds) (hT : OfT k T a) (h2 : CallV k c.w c.A (.builtin id) (a :: ds) d) : Ev k c ρ (.Call (.Attribute o name apos) es [] pos) d := fun g s Q E F L h =>
  wpAny_Call_method_lateS hbase hfew hline (h0 g s _ E F L fun v g' s' st r => by
    obtain ⟨t1, t2⟩ := hT c.w.params g' s' v st.sub r
    refine ⟨T, id, pa, slot, ty, t1, t2, Calls.callWith_builtin hplain (hargs _ _ _ _ ?_)⟩
    refine h1 pos g' s' _ E (F.step st) st.sub fun vs g'' s'' st' rs => ?_
    exact h2 g'' s'' (v :: vs) Q E ((F.base.mono st.up).mono st'.up) st'.sub (.cons (r.mono st'.up) rs) fun v3 g3 s3 st3 r3 => h v3 g3 s3 ((st.trans st').trans st3) r3)
theorem evalArgs_one {M : Model} {A : Around} {s : Shared} {Q : Args → Shared → Prop} {E : Value → Shared → Prop} {f : Value} {x : Sem Value} {rest : List (Bool × Sem Value)} (h : wpAny M A (spliced ((false, x) :: rest)) (fun vs s' => Q ⟨vs, []⟩ s') E s) : wpAny M A (evalArgs f true ((false, x) :: rest) []) Q E s := Calls.evalArgs_plain h

noncomputable def pS (l : List Str) : List PV := l.map .str
theorem RepL.pS {P : Params} {g : Vw} : ∀ {l : List Str} {vs : List Value}, RepL P g vs (pS l) → StrsAre vs l := by
  intro l
  induction l with
  | nil => intro vs r; cases r.inv; exact .nil
  | cons i l ih =>
    intro vs r
    replace r := r.inv
    cases r with
    | mk a r =>
      cases a.inv with
      | mk t => exact .cons _ _ (ih r)
theorem CallV.join {x : Str} {l : List Str} (hok : (l.map (·.length)).sum + l.length * x.length ≤ 16777216) : CallV k w A (.builtin "str.join") [.str x, .list (pS l)] (.str (Txt.join x l)) := fun g s vs Q E B L r hQ => by
  replace r := r.inv
  cases r with
  | mk r1 r2 =>
    replace r2 := r2.inv
    cases r2 with
    | mk r2 r3 =>
      replace r3 := r3.inv
      cases r3
      replace r1 := r1.inv
      cases r1 with
      | mk t =>
        replace r2 := r2.inv
        cases r2 with
        | mk e c1 d1 q => exact join_list ⟨_, L _ _ e, c1, _, d1⟩ q.pS hok fun t' tk => hQ _ g _ (Step.tok L _) (.str _ _)
theorem rep_strValues {P : Params} {g : Vw} : ∀ l : List (Str × Tok), RepL P g (strValues l) (pS (l.map (·.1)))
  | [] => .nil
  | p :: l => .cons (.str _ _) (rep_strValues l)
theorem CallV.split {x y : Str} (hy : (y.length == 0) = false) (hsz : x.length ≤ sizeLine) (hsz2 : (partsBetween x (occurrences x y 0 x.length (x.length + 1)) y.length).length ≤ sizeLine) : CallV k w A (.builtin "str.split") [.str x, .str y] (.list (pS (Txt.split x y))) := fun g s vs Q E B L r hQ => by
  replace r := r.inv
  cases r with
  | mk r1 r2 =>
    replace r2 := r2.inv
    cases r2 with
    | mk r2 r3 =>
      replace r3 := r3.inv
      cases r3
      replace r1 := r1.inv
      cases r1 with
      | mk t =>
        replace r2 := r2.inv
        cases r2 with
        | mk u =>
          have fin : ∀ (l : List (Str × Tok)) (tk : Nat), l.map (·.1) = Txt.split x y → Q (.ref s.heap.objs.size) { s with heap := s.heap.push { cls := .type "list", data := .seq (strValues l).toArray }, toks := tk } := fun l tk hl => by
            have st : Step k g s _ _ := Step.push (o := { cls := .type "list", data := .seq (strValues l).toArray }) L rfl tk
            refine hQ _ _ _ st (.list (put_self _ _ _) rfl rfl ?_)
            rw [← hl]
            simpa using (rep_strValues l)
          have hT : s.TypeIs (.str x t) "str" := typeIs_str _ _ _
          cases h1 : (decide (x.length < y.length) || decide (strKind x < strKind y))
          · cases hf : (occurrences x y 0 x.length (x.length + 1)).isEmpty
            · refine call_meets F.slot_str_split hT F.entry_str_split (F.args_str_split_2 _ _) (meets_str_split_sep x y t u h1 hy hf hsz hsz2) ?_
              show wants Q E _ { s with toks := _, heap := s.heap.push { cls := .type "list", data := .seq (strsFrom s.toks (partsBetween x (occurrences x y 0 x.length (x.length + 1)) y.length)).toArray } }
              rw [strsFrom_eq]
              exact fin (numbered s.toks _) _ ((numbered_texts _ _).trans ((if_neg (ne_true_of_eq_false h1)).trans (if_neg (ne_true_of_eq_false hf))).symm)
            · exact call_meets F.slot_str_split hT F.entry_str_split (F.args_str_split_2 _ _) (meets_str_split_not_found x y t u h1 hy hf) (fin [(x, t)] s.toks ((if_neg (ne_true_of_eq_false h1)).trans (if_pos hf)).symm)
          · exact call_meets F.slot_str_split hT F.entry_str_split (F.args_str_split_2 _ _) (meets_str_split_cannot_occur x y t u h1) (fin [(x, t)] s.toks (if_pos h1).symm)

theorem RepD.pairs {g : Vw} {es : List DictEntry} {l : List (Str × PV)} (r : RepD w.params g es l) : ∃ kvs : List (Str × Value), Pairs (strKind PW w) es kvs ∧ kvs.map (·.1) = l.map (·.1) ∧ RepL w.params g (kvs.map (·.2)) (l.map (·.2)) ∧ ∀ e ∈ es, ∃ x, (strKind PW w).is x e.key = true ∧ e.hash = (strKind PW w).hash x :=
  r.ind (motive := fun es l => ∃ kvs : List (Str × Value), Pairs (strKind PW w) es kvs ∧ kvs.map (·.1) = l.map (·.1) ∧ RepL w.params g (kvs.map (·.2)) (l.map (·.2)) ∧ ∀ e ∈ es, ∃ x, (strKind PW w).is x e.key = true ∧ e.hash = (strKind PW w).hash x)
    ⟨[], .nil, rfl, .nil, fun e he => nomatch he⟩ fun x t v d es l a _ ⟨kvs, h1, h2, h3, h4⟩ =>
    have hk : (strKind PW w).is x (.str x t) = true := beq_self_eq_true x
    ⟨(x, v) :: kvs, .cons hk rfl h1, congrArg (x :: ·) h2, .cons a h3, fun e he => (List.mem_cons.mp he).elim (fun q => ⟨x, by rw [q]; exact hk, by rw [q]; rfl⟩) (h4 e)⟩
theorem Rep.dictAt {g : Vw} {s : Shared} {d : Addr} {es : Array DictEntry} {n : Nat} {l : List (Str × PV)} (h : s.heap.get? d = some { cls := .type "dict", data := .dict es n }) (r : RepD w.params g es.toList l) (hn : (l.map (·.1)).Nodup) :
    ∃ kvs : List (Str × Value), s.heap.DictAt (strKind PW w) d kvs n ∧ kvs.map (·.1) = l.map (·.1) ∧ RepL w.params g (kvs.map (·.2)) (l.map (·.2)) := by
  obtain ⟨kvs, h1, h2, h3, h4⟩ := r.pairs
  exact ⟨kvs, ⟨_, es, h, ⟨rfl, rfl, rfl⟩, rfl, fun e he => h4 e (by simpa using he), h1, by rw [h2]; exact hn⟩, h2, h3⟩
end
end Mine
end

section
open PySem PySem.W PyProof.Rows PySem.Builtin PySem.Builtin.Str
set_option Elab.async false
set_option maxRecDepth 100000
set_option linter.all false
namespace Mine
section
variable {k : Bool} {w : World} {A : Around} {c : Cx} {ρ : REnv}

noncomputable def tpick {α : Type} (l : List α) (lo hi : Option Int) : List α :=
  (List.range (Builtin.Slice.slicePlaces (Builtin.Slice.sliceAdjust lo hi 1 l.length).1 (Builtin.Slice.sliceAdjust lo hi 1 l.length).2 1)).filterMap fun (k : Nat) => l[((Builtin.Slice.sliceAdjust lo hi 1 l.length).1 + (k : Int) * 1).toNat]?
theorem RepL.tpicked {P : Params} {g : Vw} {vs : Array Value} {ds : List PV} (h : RepL P g vs.toList ds) (f : Nat → Nat) : ∀ is : List Nat, RepL P g (is.filterMap fun k => vs[f k]?) (is.filterMap fun k => ds[f k]?)
  | [] => .nil
  | i :: is => by
    rw [List.filterMap_cons, List.filterMap_cons]
    rcases h.get (f i) with ⟨v, d, h1, h2, r⟩ | ⟨h1, h2⟩
    · rw [Array.getElem?_toList] at h1
      rw [h1, h2]; exact .cons r (h.tpicked f is)
    · rw [Array.getElem?_toList] at h1
      rw [h1, h2]; exact h.tpicked f is

theorem slicePart_of {M : Model} {A : Around} {s : Shared} {E : Value → Shared → Prop} {prog : Program} {w : World} {v : Value} {lo : Option Int} {Q : Option Int → Shared → Prop} (p : IsPart v lo) (h : Q lo s) : wpAny (model prog w) A (Builtin.Slice.slicePartIndex v) Q E s := by
  cases p with
  | none => exact slicePart_none h
  | int i t => exact slicePart_int h
theorem GetV.slice_tuple {l : List PV} {lo hi : Option Int} (hno : ((Builtin.Slice.sliceAdjust lo hi 1 l.length).1 == 0 && (1 : Int) == 1 && Builtin.Slice.slicePlaces (Builtin.Slice.sliceAdjust lo hi 1 l.length).1 (Builtin.Slice.sliceAdjust lo hi 1 l.length).2 1 == l.length) = false)
    (hsz : (tpick l lo hi).length ≤ sizeLine) : GetV k c (.tuple l) (.slice lo hi Option.none) (.tuple (tpick l lo hi)) := by
  intro g s vo vi Q E B L ro ri hQ
  replace ri := ri.inv
  cases ri with
  | mk es pl pu ps =>
    rename_i sl vl vu vst
    replace ro := ro.inv
    cases ro with
    | mk e c1 d1 r =>
      rename_i t o vs n
      have hs1 : vs.size = l.length := r.size
      have ht : IsTup s.heap t vs := ⟨_, L _ _ e, c1, _, d1⟩
      have hTs : s.TypeIs (.ref sl) "slice" := ⟨_, L _ _ es, rfl⟩
      have rp := r.tpicked (fun k => ((Builtin.Slice.sliceAdjust lo hi 1 l.length).1 + (k : Int) * 1).toNat) (List.range (Builtin.Slice.slicePlaces (Builtin.Slice.sliceAdjust lo hi 1 l.length).1 (Builtin.Slice.sliceAdjust lo hi 1 l.length).2 1))
      unfold getItem
      try with_reducible refine wpAny_holding ?_
      first | refine wpAny_bind (wpAny_pure ?_) | skip
      refine wpAny_bind (wpAny_sequenceKey ht.typeIs (by decide) ?_)
      refine wpAny_bind (wpAny_callSpecial?_slot (name := Str.ofString "__getitem__") ht.typeIs slot_tuple_getitem
        (wpAny_call_entry slot_tuple_getitem ht.typeIs entry_tuple_getitem ?_ (args_tuple_getitem _ _)))
      show wpAny _ _ (Builtin.Tuple.tupleItemsOf (.ref t) >>= _) _ _ s
      refine wpAny_bind (tupleItemsOf_ ht ?_)
      refine wpAny_bind (wpAny_typeOf hTs ?_)
      rw [if_pos (by decide)]
      have app : ∀ (Q : Int × Int × Nat → Shared → Prop) (E : Value → Shared → Prop), Q ((Builtin.Slice.sliceAdjust lo hi 1 l.length).1, 1, Builtin.Slice.slicePlaces (Builtin.Slice.sliceAdjust lo hi 1 l.length).1 (Builtin.Slice.sliceAdjust lo hi 1 l.length).2 1) s → wpAny (model PW c.w) c.A.in1 (Builtin.Slice.sliceApplied (.ref sl) (pure (vs.size : Int))) Q E s := by
        intro Q E h
        unfold Builtin.Slice.sliceApplied Builtin.Slice.sliceFields
        refine wpAny_bind (wpAny_bind (wpAny_field (L _ _ es) rfl (x := vl) rfl (wpAny_bind (wpAny_field (L _ _ es) rfl (x := vu) rfl (wpAny_bind (wpAny_field (L _ _ es) rfl (x := vst) rfl (wpAny_pure ?_)))))))
        refine wpAny_bind (slicePart_of (M := model PW c.w) ps ?_)
        show wpAny _ _ (if ((1 : Int) == 0) = true then _ else _) _ _ s
        rw [if_neg (by decide)]
        refine wpAny_bind (slicePart_of (M := model PW c.w) pl (wpAny_bind (slicePart_of (M := model PW c.w) pu (wpAny_bind (wpAny_pure ?_)))))
        rw [hs1]
        exact wpAny_pure h
      refine wpAny_bind (app _ _ ?_)
      dsimp only
      rw [hs1]
      rw [if_neg (by rw [hno]; exact Bool.false_ne_true)]
      have hdrop : sizeOk (.seq ((List.range (Builtin.Slice.slicePlaces (Builtin.Slice.sliceAdjust lo hi 1 l.length).1 (Builtin.Slice.sliceAdjust lo hi 1 l.length).2 1)).filterMap fun k : Nat => vs[((Builtin.Slice.sliceAdjust lo hi 1 l.length).1 + (k : Int) * 1).toNat]?).toArray) := by
        show _ ≤ sizeLine
        rw [List.size_toArray, rp.length]
        exact hsz
      have st : Step k g s _ _ := Step.push (o := { cls := .type "tuple", data := .seq ((List.range (Builtin.Slice.slicePlaces (Builtin.Slice.sliceAdjust lo hi 1 l.length).1 (Builtin.Slice.sliceAdjust lo hi 1 l.length).2 1)).filterMap fun k : Nat => vs[((Builtin.Slice.sliceAdjust lo hi 1 l.length).1 + (k : Int) * 1).toNat]?).toArray }) L rfl s.toks
      have fin := hQ _ _ _ st (.tuple (put_self _ _ _) rfl rfl (by simpa [tpick] using rp.mono st.up))
      first
        | exact wpAny_bind (m := Builtin.Tuple.tupleExact _) (wpAny_newObj_type (wpAny_pure ⟨_, rfl, wpAny_pure fin⟩) hdrop)
        | exact wpAny_bind (m := Builtin.Tuple.tupleExact _) (wpAny_newObj_type (wpAny_bind (wpAny_pure (wpAny_pure ⟨_, rfl, wpAny_pure fin⟩))) hdrop)
        | exact wpAny_bind (wpAny_bind (m := Builtin.Tuple.tupleExact _) (wpAny_newObj_type (wpAny_pure (wpAny_pure ⟨_, rfl, wpAny_pure fin⟩)) hdrop))
        | exact wpAny_bind (wpAny_bind (m := Builtin.Tuple.tupleExact _) (wpAny_newObj_type (wpAny_pure ⟨_, rfl, wpAny_pure fin⟩) hdrop))

theorem GetV.list_neg {l : List PV} {i : Int} {d : PV} (h0 : i < 0) (h1 : -(l.length : Int) ≤ i) (h2 : -(2 ^ 63) ≤ i) (hd : l[(i + l.length).toNat]? = some d) : GetV k c (.list l) (.int i) d := by
  intro g s vo vi Q E B L ro ri hQ
  replace ri := ri.inv
  cases ri
  replace ro := ro.inv
  cases ro with
  | mk e c1 d1 r =>
    obtain ⟨v, hv, q⟩ := r.at hd
    refine wpAny_getItem_list_neg ⟨_, L _ _ e, c1, _, d1⟩ h0 (by rw [r.size]; exact h1) h2 (x := v) (by rw [← Array.getElem?_toList, r.size]; exact hv) (hQ v g s (Step.refl L) q)

theorem BinV.mul_list {d : PV} {n : Int} (h0 : -(2 ^ 63 : Int) ≤ n) (h1 : n < 2 ^ 63) (h2 : n.toNat ≤ 2 ^ 24) : BinV k c .Mult (.list [d]) (.int n) (.list (List.replicate n.toNat d)) := by
  intro g s va vb Q E B L ra rb hQ
  replace rb := rb.inv
  cases rb with
  | mk u =>
    replace ra := ra.inv
    cases ra with
    | mk e c1 d1 r =>
      rename_i l o vs m
      obtain ⟨cls, dd, data, sl⟩ := o
      simp only at c1 d1
      subst c1 d1
      obtain ⟨vs⟩ := vs
      replace r := r.inv
      cases r with
      | mk r1 r2 =>
        rename_i v vs
        replace r2 := r2.inv
        cases r2
        have hl := L _ _ e
        have fin : Q (.ref s.heap.objs.size) { s with heap := s.heap.push { cls := .type "list", data := .seq (List.foldl (fun x1 x2 => x1 ++ x2) #[] (List.replicate (if (#[v] : Array Value).isEmpty = true then 0 else n.toNat) #[v])) } } := by
          have st : Step k g s _ _ := Step.push (o := { cls := .type "list", data := .seq (List.foldl (fun x1 x2 => x1 ++ x2) #[] (List.replicate (if (#[v] : Array Value).isEmpty = true then 0 else n.toNat) #[v])) }) L rfl s.toks
          refine hQ _ _ _ st (.list (put_self _ _ _) rfl rfl ?_)
          have key : ∀ (j : Nat) (acc : Array Value), (List.foldl (fun x1 x2 => x1 ++ x2) acc (List.replicate j #[v])).toList = acc.toList ++ List.replicate j v := by
            intro j
            induction j with
            | zero => intro acc; simp
            | succ j ih => intro acc; rw [List.replicate_succ, List.foldl_cons, ih]; simp [List.replicate_succ]
          have e0 : (if (#[v] : Array Value).isEmpty = true then 0 else n.toNat) = n.toNat := if_neg (by simp)
          rw [e0, key]
          have rr : ∀ j : Nat, RepL c.w.params g (List.replicate j v) (List.replicate j d) := by
            intro j
            induction j with
            | zero => exact .nil
            | succ j ih => exact .cons r1 ih
          simpa using (rr n.toNat).mono st.up
        exact wpAny_binaryOp_repeat_ref (T := "list") (U := "int") (by decide) ⟨_, hl, rfl⟩ (fun s' => typeIs_int s' n u) noFill_list_mul PySem.F.fills_int_mul PySem.F.slot_int_rmul repeat_list PySem.F.slot_int_index.lookup
          (call_meets PySem.F.slot_int_rmul (typeIs_int s n u) PySem.F.entry_int_rmul (PySem.F.args_int_rmul_2 _ _) (lm_int_rmul_list_any n u l #[v] m dd sl)
            ⟨hl, rfl, ⟨_, hl, rfl⟩, call_meets PySem.F.slot_list_mul ⟨_, hl, rfl⟩ PySem.F.entry_list_mul (PySem.F.args_list_mul_2 _ _)
              (lm_list_mul_any l #[v] m dd sl n u (by simp [Builtin.List.listFitsIndex]; omega) (by simp; omega) (by simp [Builtin.List.listTooLong, sizeLine]; omega))
              ⟨hl, fin⟩⟩)

/-- items of a dict, and a list of them -/
theorem CallV.items {l : List (Str × PV)} (hn : (l.map (·.1)).Nodup) : CallV k w A (.builtin "dict.items") [.dict l] (.view l) := fun g s vs Q E B L r hQ => by
  replace r := r.inv
  cases r with
  | mk r1 r2 =>
    replace r2 := r2.inv
    cases r2
    replace r1 := r1.inv
    cases r1 with
    | mk z e q =>
      rename_i d es n
      obtain ⟨kvs, hat, h1, h2⟩ := Rep.dictAt (L _ _ e) q hn
      refine call_meetsIn PySem.F.slot_dict_items hat.dictOf.typeIs PySem.F.entry_dict_items (PySem.F.args_dict_items_1 _) (meets_dict_items (strKind PW w) d z) ⟨⟨kvs, hat.dictOf⟩, ?_⟩
      have st : Step k g s _ _ := Step.push (o := { cls := .type "dict_items", data := .fields #[.ref d] }) L rfl s.toks
      exact hQ _ _ _ st (.view z (put_self _ _ _) (st.up _ _ e) (q.mono st.up))

open Classical in
noncomputable def ext (g : Vw) (S : Addr → Prop) (h : Heap) : Vw := fun b => if S b then h.get? b else g b
theorem Step.ext {g : Vw} {s s' : Shared} {S : Addr → Prop} (L : Le g s.heap.get?) (hh : Le s.heap.get? s'.heap.get?) (hS : ∀ b, S b → s.heap.get? b = Option.none) (r : Rest k s s') : Step k g s (ext g S s'.heap) s' where
  heap := hh
  up := fun b o e => by
    unfold Mine.ext
    rw [if_neg (fun q => by rw [L.none (hS b q)] at e; cases e)]
    exact e
  sub := fun b o e => by
    unfold Mine.ext at e
    by_cases q : S b
    · rw [if_pos q] at e; exact e
    · rw [if_neg q] at e; exact hh _ _ (L _ _ e)
  new := fun b o e => by
    unfold Mine.ext at e
    by_cases q : S b
    · exact .inr (hS b q)
    · rw [if_neg q] at e; exact .inl e
  rest := r
theorem RepL.of {P : Params} {g : Vw} : ∀ {vs : List Value} {ds : List PV}, vs.length = ds.length → (∀ (i : Nat) v d, vs[i]? = some v → ds[i]? = some d → Rep P g v d) → RepL P g vs ds
  | [], [], _, _ => .nil
  | v :: vs, d :: ds, hl, h => .cons (h 0 v d rfl rfl) (RepL.of (by simpa using hl) fun i v' d' h1 h2 => h (i + 1) v' d' (by simpa using h1) (by simpa using h2))

noncomputable def pairs (l : List (Str × PV)) : List PV := l.map fun p => .tuple [.str p.1, p.2]
theorem CallV.list_view {l : List (Str × PV)} (hh : A.handled = Option.none) (hn : (l.map (·.1)).Nodup) (hsz : l.length ≤ sizeLine) : CallV k w A (.type "list") [.view l] (.list (pairs l)) := fun g s vs Q E B L r hQ => by
  replace r := r.inv
  cases r with
  | mk r1 r2 =>
    replace r2 := r2.inv
    cases r2
    replace r1 := r1.inv
    cases r1 with
    | mk z ev e q =>
      rename_i v d es n
      obtain ⟨kvs, hat, h1, h2⟩ := Rep.dictAt (L _ _ e) q hn
      have hlen : kvs.length = l.length := by have := congrArg List.length h1; simpa using this
      refine kdx_call (knd := strKind PW w) (kvs := kvs) (ep := n) hh ⟨_, L _ _ ev, rfl, rfl⟩ hat (by rw [hlen]; exact hsz) fun h' tk acc c as hk hD hl hG hacc => ?_
      let S : Addr → Prop := fun b => b = s.heap.objs.size ∨ b ∈ as
      have hS : ∀ b, S b → s.heap.get? b = Option.none := by
        rintro b (rfl | hb)
        · exact get_size_none _
        · cases q : s.heap.get? b with
          | none => rfl
          | some o => exact absurd (Heap.lt_size q) (Nat.not_lt.mpr (Nat.le_of_lt (hG.above b hb)))
      have st : Step k g s (ext g S h') { s with heap := h', toks := tk } := Step.ext (s' := { s with heap := h', toks := tk }) L hk hS (Rest.same _ _ _ _)
      have at_ : ∀ b, S b → ext g S h' b = h'.get? b := fun b hb => by unfold ext; rw [if_pos hb]
      refine hQ _ _ _ st (.list ((at_ _ (.inl rfl)).trans hD) rfl rfl ?_)
      rw [hacc]
      refine RepL.of (by simp [pairs, hl, hlen]) fun i v' d' hv hd => ?_
      rw [List.getElem?_map] at hv
      cases ha : as[i]? with
      | none => rw [ha] at hv; cases hv
      | some a =>
        rw [ha] at hv; cases hv
        obtain ⟨key, kk, x, h3, h4, h5⟩ := hG.pairs i a ha
        obtain ⟨t, rfl⟩ := Value.isStrOf_shape h4
        have hm : a ∈ as := List.mem_of_getElem? ha
        have e1 : (kvs.map (·.1))[i]? = some kk := by rw [List.getElem?_map, h3]; rfl
        rw [h1, List.getElem?_map] at e1
        cases hp : l[i]? with
        | none => rw [hp] at e1; cases e1
        | some p =>
          rw [hp] at e1
          have e1 : p.1 = kk := by simpa using e1
          unfold pairs at hd
          rw [List.getElem?_map, hp] at hd
          cases hd
          have e2 : (kvs.map (·.2))[i]? = some x := by rw [List.getElem?_map, h3]; rfl
          have e3 : (l.map (·.2))[i]? = some p.2 := by rw [List.getElem?_map, hp]; rfl
          obtain ⟨x', hx', rx⟩ := h2.at e3
          rw [e2] at hx'
          cases hx'
          refine .tuple ((at_ a (.inr hm)).trans h5) rfl rfl ?_
          rw [e1]
          exact .cons (.str _ _) (.cons (rx.mono st.up) .nil)
end
end Mine
end

section
set_option hygiene false in
local macro_rules | `(tactic| got_up) => `(tactic| repeat (first | with_reducible exact Look.here | refine Look.there (by kernel_rfl) ?_))
set_option hygiene false in
local macro_rules | `(tactic| one_place) => `(tactic| repeat (first | exact Sub.nil | refine Sub.cons (by got_up; done) ?_))
set_option hygiene false in
local macro_rules | `(tactic| one_item) => `(tactic| first
  | exact Ev.int | exact Ev.str | exact Ev.bool | exact Ev.none
  | (refine Ev.loc' (by kernel_rfl) ?_ (by kernel_rfl); got_up; done)
  | (refine Ev.cell' (by kernel_rfl) ?_ (by kernel_rfl); got_up; done)
  | (refine Ev.free' (by kernel_rfl) ?_ (by kernel_rfl) (by kernel_rfl); got_up; done)
  | (refine Ev.ty (by kernel_rfl) (by kernel_rfl) (by kernel_rfl) (by decide +kernel) (by kernel_rfl); done))

section
open PySem PySem.W PyProof.Rows PySem.Builtin PySem.Builtin.Str
set_option Elab.async false
set_option maxRecDepth 100000
set_option linter.all false
namespace Mine

inductive Look : REnv → Str → PV → Prop
  | here {x : Str} {d : PV} {ρ : REnv} : Look ((x, d) :: ρ) x d
  | there {x y : Str} {d e : PV} {ρ : REnv} : (x == y) = false → Look ρ x d → Look ((y, e) :: ρ) x d
theorem Look.eq : ∀ {ρ : REnv} {x : Str} {d : PV}, Look ρ x d → ρ.lookup x = some d
  | _, _, _, .here => by rw [List.lookup_cons, beq_self_eq_true]
  | _, _, _, .there h r => by rw [List.lookup_cons, h]; exact r.eq

section
variable {k : Bool} {w : World} {A : Around} {c : Cx} {ρ : REnv}
theorem Ev.loc' {x : Str} {pos : Pos} {d : PV} (hk : c.env.kindOf x = some .local) (hd : Look ρ x d) (hn : (x == ("__debug__" : Str)) = false) : Ev k c ρ (.Name x pos) d := Ev.loc hk hd.eq hn
theorem Ev.cell' {x : Str} {pos : Pos} {d : PV} (hk : c.env.kindOf x = some .cell) (hd : Look ρ x d) (hn : (x == ("__debug__" : Str)) = false) : Ev k c ρ (.Name x pos) d := Ev.cell hk hd.eq hn

theorem Sub.nil : Sub [] ρ := fun _ _ h => by cases h
theorem Sub.cons {x : Str} {d : PV} {r : REnv} (h : Look ρ x d) (h2 : Sub r ρ) : Sub ((x, d) :: r) ρ := fun y e hy => by
  rw [List.lookup_cons] at hy
  cases q : y == x with
  | true =>
    rw [q] at hy
    cases hy
    have q := eq_of_beq q
    subst q
    exact h.eq
  | false => rw [q] at hy; exact h2 y e hy
theorem mem1 {p : Str → Prop} {a : Str} (h1 : p a) : ∀ x ∈ [a], p x := fun x hx => by rw [List.mem_singleton] at hx; exact hx ▸ h1
theorem mem2 {p : Str → Prop} {a b : Str} {l : List Str} (h1 : p a) (h2 : ∀ x ∈ b :: l, p x) : ∀ x ∈ a :: b :: l, p x := fun x hx => by
  rcases List.mem_cons.mp hx with e | e
  · exact e ▸ h1
  · exact h2 x e
theorem bind1 {fd : FuncData} {xs : List Str} {n : Nat} (hn : n = 1) (h : ∀ a, bindArgs fd ⟨[a], []⟩ = pure (xs.zip [a])) : ∀ vs : List Value, vs.length = n → bindArgs fd ⟨vs, []⟩ = pure (xs.zip vs)
  | [a], _ => h a
  | [], e => by simp [hn] at e
  | _ :: _ :: _, e => by simp [hn] at e
theorem bind2 {fd : FuncData} {xs : List Str} {n : Nat} (hn : n = 2) (h : ∀ a b, bindArgs fd ⟨[a, b], []⟩ = pure (xs.zip [a, b])) : ∀ vs : List Value, vs.length = n → bindArgs fd ⟨vs, []⟩ = pure (xs.zip vs)
  | [a, b], _ => h a b
  | [], e => by simp [hn] at e
  | [_], e => by simp [hn] at e
  | _ :: _ :: _ :: _, e => by simp [hn] at e
theorem bind4 {fd : FuncData} {xs : List Str} {n : Nat} (hn : n = 4) (h : ∀ a b c d, bindArgs fd ⟨[a, b, c, d], []⟩ = pure (xs.zip [a, b, c, d])) : ∀ vs : List Value, vs.length = n → bindArgs fd ⟨vs, []⟩ = pure (xs.zip vs)
  | [a, b, c, d], _ => h a b c d
  | [], e => by simp [hn] at e
  | [_], e => by simp [hn] at e
  | [_, _], e => by simp [hn] at e
  | [_, _, _], e => by simp [hn] at e
  | _ :: _ :: _ :: _ :: _ :: _, e => by simp [hn] at e
theorem bind5 {fd : FuncData} {xs : List Str} {n : Nat} (hn : n = 5) (h : ∀ a b c d e, bindArgs fd ⟨[a, b, c, d, e], []⟩ = pure (xs.zip [a, b, c, d, e])) : ∀ vs : List Value, vs.length = n → bindArgs fd ⟨vs, []⟩ = pure (xs.zip vs)
  | [a, b, c, d, e], _ => h a b c d e
  | [], e => by simp [hn] at e
  | [_], e => by simp [hn] at e
  | [_, _], e => by simp [hn] at e
  | [_, _, _], e => by simp [hn] at e
  | [_, _, _, _], e => by simp [hn] at e
  | _ :: _ :: _ :: _ :: _ :: _ :: _, e => by simp [hn] at e

-- a side
local macro_rules | `(tactic| one_sign) => `(tactic| first | kernel_rfl | rfl)

noncomputable def strB (a b : Str) : Int := b2i (decide (b.cps.toList < a.cps.toList)) - b2i (decide (a.cps.toList < b.cps.toList))
set_option maxHeartbeats 0 in
theorem f_strcoll {k : Bool} {w : World} {A : Around} {a b : Str} (hroom : A.depth < recursionLimit) : CallV k w A (.ref 99) [.str a, .str b] (.int (strB a b)) := by
  refine CallV.fn (cc := 98) (xs := ["a", "b"]) [("b", .str b), ("a", .str a)] ⟨by kernel_rfl, by kernel_rfl, by kernel_rfl, by kernel_rfl, ⟨_, _, rfl, rfl⟩, rfl, by kernel_rfl, by kernel_rfl, by kernel_rfl, by kernel_rfl, by kernel_rfl⟩ (by kernel_rfl)
    (bind2 rfl fun _ _ => by kernel_rfl) rfl (fun n => mem2 (.inl (by kernel_rfl)) (mem1 (.inl (by kernel_rfl)))) hroom rfl fun L => ?_
  refine Fx.ret (Ev.bin (Ev.cmp ?_ ?_ CmpV.gt_str (by kernel_rfl)) (Ev.cmp ?_ ?_ CmpV.lt_str (by kernel_rfl)) BinV.sub_bool)
  all_goals one_item
end
end Mine
end

section
open PySem PySem.W PyProof.Rows PySem.Builtin PySem.Builtin.Re
set_option Elab.async false
set_option maxRecDepth 100000
set_option linter.all false
namespace Mine

theorem plainAttrs_pat : PlainAttrs "re.Pattern" :=
  ⟨⟨"object.__getattribute__", by rw [typeLookup_type, builtinLookup_eq_fast]; kernel_rfl, by decide +kernel⟩, by rw [typeLookup_type, builtinLookup_eq_fast]; kernel_rfl⟩
theorem owner_pat : Manifest.owners.lookup (String.ofList ['n', 'r', 'e', 't', 't', 'a', 'P', '.', 'e', 'r'].reverse) = some Manifest.sig_re_Pattern := by kernel_rfl
theorem slot_pat_sub : Slot "re.Pattern" "sub" "re.Pattern.sub" :=
  .of (owner := "re.Pattern") (n := "sub") (by rw [typeLookup_type, builtinLookup_eq_fast]; kernel_rfl) (by decide +kernel) (by decide +kernel) (by decide +kernel)
    (by first | exact .inl (by decide +kernel) | exact .inr (by decide +kernel)) (by rw [isSubtype_type]; kernel_rfl)
theorem type_pat_sub : typeOf (.builtin "re.Pattern.sub") = pure (.type "method_descriptor") := by show builtinType _ = _; rw [builtinType_eq_fast]; kernel_rfl
theorem entry_pat_sub : entryFor table "re.Pattern.sub" = some Builtin.«re.Pattern.sub» := entryFor_of_tree (by kernel_rfl)
theorem entry_pat_loop : entryFor table "re.Pattern.sub.loop" = some Builtin.«re.Pattern.sub.loop» := entryFor_of_tree (by kernel_rfl)
theorem args_pat_sub (a b c : Value) : argsOk "re.Pattern.sub" ⟨[a, b, c], []⟩ := by
  unfold argsOk; rw [signature?_of (id := "re.Pattern.sub") (n := ['b', 'u', 's']) (o := ['n', 'r', 'e', 't', 't', 'a', 'P', '.', 'e', 'r']) (by kernel_rfl) owner_pat]; kernel_rfl
theorem str_no_call : typeLookup (.type "str") "__call__" = pure none := by rw [typeLookup_type, builtinLookup_eq_fast]; kernel_rfl

section
variable {M : Model} {w : World} {A : Around} {s : Shared} {E : Value → Shared → Prop}

theorem wpAny_reDrive {m : Sre.M} {P : Sre.M → Prop} {Q : Sre.M → Shared → Prop} : ∀ (n N : Nat) (m : Sre.M), Ends N m P → N ≤ 4 * n → 1 ≤ n → (∀ m', m'.outcome.isSome = true → P m' → Q m' s) → wpAny M A (reDrive n m) Q E s
  | 0, _, _, _, _, h, _ => by (first | lia | omega)
  | n + 1, N, m, h, hN, _, hQ => by
    have hout : ∀ k, (Sre.M.runFor N m).outcome.isSome = true → Sre.M.runFor (N + k) m = Sre.M.runFor N m := fun k e => by rw [runFor_add, runFor_out _ _ e]
    unfold reDrive
    dsimp only
    by_cases h1 : (Sre.M.runFor reTurnSteps m).outcome.isSome = true
    · rw [if_pos h1]
      refine wpAny_pure (hQ _ h1 ?_)
      have e : Sre.M.runFor reTurnSteps m = Sre.M.runFor N m := by
        rcases Nat.le_total N reTurnSteps with hle | hle
        · obtain ⟨k, hk⟩ := Nat.exists_eq_add_of_le hle
          rw [hk, hout k h.1]
        · obtain ⟨k, hk⟩ := Nat.exists_eq_add_of_le hle
          rw [hk, runFor_add, runFor_out _ _ h1]
      rw [e]
      exact h.2
    · rw [if_neg h1]
      have hlt : reTurnSteps < N := by
        rcases Nat.lt_or_ge reTurnSteps N with q | q
        · exact q
        · obtain ⟨k, hk⟩ := Nat.exists_eq_add_of_le q
          exact absurd (by rw [hk, hout k h.1]; exact h.1) h1
      have e4 : reTurnSteps = 4 := rfl
      refine wpAny_bind (wpAny_rule (wpAny_reDrive (m := m) (P := P) n (N - 4) _ ?_ (by first | decide | lia | omega) (by first | decide | lia | omega) hQ))
      obtain ⟨k, hk⟩ := Nat.exists_eq_add_of_le (Nat.le_of_lt hlt)
      have : N - 4 = k := by (first | lia | omega)
      rw [this]
      unfold Ends
      rw [← runFor_add, ← hk]
      exact h

theorem wpAny_rules {α : Type} (l : List Nat) (c : Nat → Bool) (f : Nat → String) {k : PUnit → Sem α} {Q : α → Shared → Prop} (h : wpAny M A (k ⟨⟩) Q E s) :
    wpAny M A ((forIn l (PUnit.unit) fun i _ => if c i = true then (do rule (f i); pure (ForInStep.yield PUnit.unit)) else pure (ForInStep.yield PUnit.unit)) >>= k) Q E s := by
  refine wpAny_bind ?_
  induction l with
  | nil => exact wpAny_pure h
  | cons i l ih =>
    rw [List.forIn_cons]
    refine wpAny_bind ?_
    split
    · exact wpAny_bind (wpAny_rule (wpAny_pure ih))
    · exact wpAny_pure ih

theorem wpAny_reRunToEnd {m : Sre.M} {N : Nat} {r : Option (Nat × Nat)} {Q : Option Sre.M → Shared → Prop} (h : Ends N m (Got r)) (hN : N ≤ 2 ^ 65)
    (h1 : ∀ m' a b, r = some (a, b) → m'.start = a → m'.handed = b → Q (some m') s) (h2 : r = none → Q none s) : wpAny M A (reRunToEnd m) Q E s := by
  unfold reRunToEnd
  refine wpAny_bind (wpAny_reDrive (m := m) (2 ^ 64) N m h (by first | decide | lia | omega) (by first | decide | lia | omega) fun m' ho hp => ?_)
  refine wpAny_rules (List.range Sre.names.size) (fun i => m'.seen.has i) (fun i => Sre.names.getD i "") ?_
  cases r with
  | none =>
    have hp : m'.outcome = some .failed := hp
    rw [hp]
    exact wpAny_pure (h2 rfl)
  | some p =>
    obtain ⟨a, b⟩ := p
    obtain ⟨hp, ha, hb⟩ := hp
    rw [hp]
    exact wpAny_pure (h1 m' a b rfl ha hb)

/-- a pattern in the heap -/
structure PatAt (h : Heap) (pat : Addr) (code : Array Nat) : Prop where
  ex : ∃ (o oc : Obj) (fs vs : Array Value) (ca : Addr) (n : Nat), h.get? pat = some o ∧ o.data = .fields fs ∧ o.cls = .type "re.Pattern" ∧ o.dict = none ∧ fs.getD 5 .none = .ref ca ∧ reRawNat (fs.getD 6 .none) = 0 ∧ reRawNat (fs.getD 2 .none) = 0 ∧
    h.get? ca = some oc ∧ oc.data = .seq vs n ∧ (vs.map reRawOf).map (·.toNat) = code
theorem PatAt.keeps {h h' : Heap} {pat : Addr} {code : Array Nat} (p : PatAt h pat code) (k : Le h.get? h'.get?) : PatAt h' pat code := by
  obtain ⟨o, oc, fs, vs, ca, n, h1, h2, h3, h4, h5, h6, h7, h8, h9, h10⟩ := p.ex
  exact ⟨o, oc, fs, vs, ca, n, k _ _ h1, h2, h3, h4, h5, h6, h7, k _ _ h8, h9, h10⟩

theorem wpAny_reWholeTarget {pat : Addr} {code : Array Nat} {x : Str} {t : Tok} {Q : ReTarget → Shared → Prop} (p : PatAt s.heap pat code)
    (h : Q { pattern := .ref pat, string := .str x t, code, text := x.cps, kind := 0, groups := 0, pos := 0, lim := x.cps.size } s) : wpAny M A (reWholeTarget (.ref pat) (.str x t)) Q E s := by
  obtain ⟨o, oc, fs, vs, ca, n, h1, h2, h3, h4, h5, h6, h7, h8, h9, h10⟩ := p.ex
  unfold reWholeTarget
  refine wpAny_bind (wpAny_fieldsOf h1 h2 ?_)
  refine wpAny_bind (m := reTextOf (.str x t)) (wpAny_pure ?_)
  dsimp only
  rw [h6, h5, h7]
  refine wpAny_bind (m := reNoCollectionInside _ _) (wpAny_pure ?_)
  unfold reRawItems
  refine wpAny_bind (wpAny_bind (wpAny_seqItems h8 h9 (wpAny_pure ?_)))
  rw [show ((some vs).getD #[]).map reRawOf = vs.map reRawOf from rfl, h10]
  exact wpAny_pure h
end

noncomputable def parts (next : Nat → Option (Nat × Nat)) (text : Array Nat) (repl : Str) : Nat → Nat → List Str
  | 0, _ => []
  | f + 1, p => match next p with
    | some (a, b) => (if p < a then [⟨text.extract p a⟩] else []) ++ repl :: parts next text repl f b
    | none => if p < text.size then [⟨text.extract p text.size⟩] else []
noncomputable def Fwd (next : Nat → Option (Nat × Nat)) (n : Nat) : Prop := ∀ p a b, p ≤ n → next p = some (a, b) → p ≤ a ∧ a < b ∧ b ≤ n

theorem strs_snoc {vs : List Value} {l : List Str} (h : StrsAre vs l) (x : Str) (t : Tok) : StrsAre (vs ++ [.str x t]) (l ++ [x]) := by
  induction h with
  | nil => exact .cons _ _ .nil
  | cons y u _ ih => exact .cons _ _ ih
theorem strs_len : ∀ {vs : List Value} {l : List Str}, StrsAre vs l → vs.length = l.length
  | _, _, .nil => rfl
  | _, _, .cons _ _ r => by rw [List.length_cons, List.length_cons, strs_len r]

section
variable {w : World} {A : Around}
theorem extract_len (x : Array Nat) (a b : Nat) : (Str.mk (x.extract a b)).length ≤ x.size := by
  show (x.extract a b).size ≤ _
  rw [Array.size_extract]; (first | lia | omega)

theorem plain_upd {h : Heap} {L : Addr} {ys : Array Value} {n : Nat} {v : Value} (hL : h.get? L = some { cls := .type "list", data := .seq ys n }) : (h.update L (Obj.mapSeq (·.push v))).PlainList L (ys.push v) := by
  exact ⟨_, Heap.get?_update_self _ hL rfl⟩
theorem push_plain {M : Model} {s : Shared} {E : Value → Shared → Prop} {L : Addr} {ys : Array Value} {v : Value} {Q : Unit → Shared → Prop} (hL : s.heap.PlainList L ys) (hsz : ys.size ≤ sizeLine)
    (h : ∀ h', h'.PlainList L (ys.push v) → (∀ b o, b ≠ L → s.heap.get? b = some o → h'.get? b = some o) → Q () { s with heap := h' }) : wpAny M A (updateSeq L (·.push v)) Q E s := by
  obtain ⟨n, hL⟩ := hL
  refine wpAny_updateSeq hL rfl (h _ ?_ ?_) hsz (by simp; (first | lia | omega))
  · exact plain_upd hL
  · exact fun b o hb e => (Heap.get?_update_other _ _ (Ne.symm hb)).trans e

theorem sub_loop {pat : Addr} {code : Array Nat} {x repl : Str} {t u : Tok} {N : Nat} {next : Nat → Option (Nat × Nat)} {L : Addr} {R : Result → Shared → Prop} (hx : x.length ≤ 2 ^ 20) (hr : repl.length ≤ 8)
    (hs : ∀ p, p ≤ x.cps.size → Ends N (Sre.forSearch code x.cps 0 p x.cps.size false) (Got (next p))) (hN : N ≤ 2 ^ 65) (hf : Fwd next x.cps.size) (hcode : ∀ (vs : Array Value) (l : List Str), StrsAre vs.toList l → (vs.map reRawOf).map (·.toNat) ≠ code) :
    ∀ (f p n : Nat) (l : List Str) (ys : Array Value) (s : Shared), x.cps.size - p < f → p ≤ x.cps.size → PatAt s.heap pat code → s.heap.PlainList L ys → L ≠ pat → StrsAre ys.toList l → l.length ≤ 2 * p →
      ((l.map (·.length)).sum ≤ 10 * p) →
      (∀ (s' : Shared), (∀ b o, b ≠ L → s.heap.get? b = some o → s'.heap.get? b = some o) → Rest true s s' → ∀ t', R (.ok (.ret (.str (Txt.join ⟨#[]⟩ (l ++ parts next x.cps repl f p)) t'))) s') →
      codeAny (model PW w) A (.builtin "re.Pattern.sub.loop" ⟨[.ref pat, .str x t, .str repl u, rawInt 0, rawInt 0, rawInt n, rawInt p, rawInt p, .bool false, .ref L, .bool false], []⟩) R s
  | 0, p, n, l, ys, s, h0, _, _, _, _, _, _, _, _ => by (first | lia | omega)
  | f + 1, p, n, l, ys, s, h0, hp, hpat, hL, hne, hys, hlen, hsum, hR => by
    have hsz : x.cps.size ≤ 2 ^ 20 := hx
    refine codeAny_builtin entry_pat_loop ?_
    unfold Builtin.«re.Pattern.sub.loop»
    refine wpAny_bind (wpAny_reWholeTarget hpat ?_)
    show wpAny _ _ (reLiteralCannotBeTurned (.str repl u) >>= _) _ _ _
    refine wpAny_bind (m := reLiteralCannotBeTurned (.str repl u)) ?_
    unfold reLiteralCannotBeTurned
    refine wpAny_bind (m := asStr? (.str repl u)) (wpAny_pure ?_)
    refine wpAny_pure ?_
    show wpAny _ _ (reNextFound _ ((p : Int).toNat) false >>= _) _ _ _
    unfold reNextFound
    dsimp only
    rw [Int.toNat_natCast]
    refine wpAny_bind (wpAny_reRunToEnd (hs p hp) hN (fun m' a b hab ha hb => ?_) fun hnone => ?_)
    · obtain ⟨q1, q2, q3⟩ := hf p a b hp hab
      dsimp only
      have e0 : parts next x.cps repl (f + 1) p = (if p < a then [⟨x.cps.extract p a⟩] else []) ++ repl :: parts next x.cps repl f b := by rw [parts, hab]
      have tail : ∀ (s₁ : Shared) (l₁ : List Str) (ys₁ : Array Value), s₁.heap.PlainList L ys₁ → StrsAre ys₁.toList l₁ → l₁.length ≤ 2 * p + 1 → (l₁.map (·.length)).sum ≤ 10 * p + (a - p) → l₁ = l ++ (if p < a then [⟨x.cps.extract p a⟩] else []) → (∀ b o, b ≠ L → s.heap.get? b = some o → s₁.heap.get? b = some o) → Rest true s s₁ →
          ∀ (g : Sem Fin), wpAny (model PW w) (A.under (.builtin "re.Pattern.sub.loop" ⟨[.ref pat, .str x t, .str repl u, rawInt 0, rawInt 0, rawInt n, rawInt p, rawInt p, .bool false, .ref L, .bool false], []⟩)) (if ((0 : Int) == 0) = true then do
            let item ← pure (Value.str repl u)
            if (item != Value.none) = true then do
              updateSeq L fun x => x.push item
              again (.builtin "re.Pattern.sub.loop" ⟨[.ref pat, .str x t, .str repl u, rawInt 0, rawInt 0, rawInt (n + 1), rawInt m'.handed, rawInt m'.handed, .bool (m'.handed == m'.start), .ref L, .bool false], []⟩)
            else again (.builtin "re.Pattern.sub.loop" ⟨[.ref pat, .str x t, .str repl u, rawInt 0, rawInt 0, rawInt (n + 1), rawInt m'.handed, rawInt m'.handed, .bool (m'.handed == m'.start), .ref L, .bool false], []⟩) else g)
          (fun fin s' => match fin with | .done f => R (.ok f) s' | .again c' => c'.quiet = true ∧ codeAny (model PW w) A c' R s') (fun e s' => R (.error e) s') s₁ := by
        intro s₁ l₁ ys₁ hL₁ hys₁ hl₁ hsum₁ hl hk hr₁ g
        rw [if_pos (show ((0 : Int) == 0) = true from rfl)]
        refine wpAny_bind (wpAny_pure ?_)
        rw [if_pos (by rfl)]
        have hsy : ys₁.size ≤ sizeLine := by
          have := strs_len hys₁
          rw [Array.length_toList] at this
          rw [this, sizeLine_eq]
          (first | lia | omega)
        refine wpAny_bind (push_plain hL₁ hsy fun h' hL' hk' => ?_)
        refine wpAny_pure ⟨plainId_quiet (by decide +kernel) _, ?_⟩
        rw [hb, ha]
        have hbe : (b == a) = false := by rw [beq_eq_false_iff_ne]; (first | lia | omega)
        rw [hbe, show ((n : Int) + 1) = ((n + 1 : Nat) : Int) by (first | lia | omega)]
        have hpk : ∀ o, s.heap.get? pat = some o → h'.get? pat = some o := fun o e => hk' pat o (Ne.symm hne) (hk pat o (Ne.symm hne) e)
        obtain ⟨o, oc, fs, vs, ca, nn, h1, h2, h3, h4, h5, h6, h7, h8, h9, h10⟩ := id hpat.ex
        have hcaL : ca ≠ L := fun e => by
          obtain ⟨nl, hL0⟩ := id hL
          rw [e, hL0] at h8
          cases h8
          cases h9
          exact hcode _ _ hys h10
        have hpat' : PatAt h' pat code := ⟨⟨o, oc, fs, vs, ca, nn, hpk o h1, h2, h3, h4, h5, h6, h7, hk' ca oc hcaL (hk ca oc hcaL h8), h9, h10⟩⟩
        refine sub_loop hx hr hs hN hf hcode f b (n + 1) (l₁ ++ [repl]) (ys₁.push (.str repl u)) _ (by first | decide | lia | omega) (by first | decide | lia | omega) hpat' hL' hne (by simpa using strs_snoc hys₁ repl u) ?_ ?_ fun s' hk₂ hr₂ t' => ?_
        · simp; (first | lia | omega)
        · simp only [List.map_append, List.map_cons, List.map_nil, List.sum_append, List.sum_cons, List.sum_nil]
          (first | lia | omega)
        · have := hR s' (fun b o hb e => hk₂ b o hb (hk' b o hb (hk b o hb e))) (hr₁.trans ((Rest.same true s₁ h' s₁.toks).trans hr₂)) t'
          rw [e0] at this
          have e1 : l ++ ((if p < a then [⟨x.cps.extract p a⟩] else []) ++ repl :: parts next x.cps repl f b) = l₁ ++ [repl] ++ parts next x.cps repl f b := by rw [hl]; simp
          rw [e1] at this
          exact this
      rw [ha]
      by_cases hpa : p < a
      · rw [if_pos hpa]
        refine wpAny_bind (m := reSlice x.cps 0 p a) (wpAny_mkStr ?_ (Nat.le_trans (extract_len _ _ _) (by rw [sizeLine_eq]; (first | lia | omega))))
        have hsy : ys.size ≤ sizeLine := by
          have := strs_len hys
          rw [Array.length_toList] at this
          rw [this, sizeLine_eq]
          (first | lia | omega)
        refine wpAny_bind (push_plain hL hsy fun h' hL' hk' => ?_)
        rw [← ha]
        refine tail _ (l ++ [⟨x.cps.extract p a⟩]) _ hL' (by simpa using strs_snoc hys _ _) (by simp; (first | lia | omega)) ?_ (by rw [if_pos hpa]) hk' (Rest.same _ _ _ _) _
        simp only [List.map_append, List.map_cons, List.map_nil, List.sum_append, List.sum_cons, List.sum_nil]
        have : (Str.mk (x.cps.extract p a)).length ≤ a - p := by show (x.cps.extract p a).size ≤ _; rw [Array.size_extract]; (first | lia | omega)
        (first | lia | omega)
      · rw [if_neg hpa, ← ha]
        exact tail s l ys hL hys (by first | decide | lia | omega) (by first | decide | lia | omega) (by rw [if_neg hpa]; simp) (fun b o _ e => e) (Rest.refl _ _) _
    · dsimp only
      have e0 : parts next x.cps repl (f + 1) p = if p < x.cps.size then [⟨x.cps.extract p x.cps.size⟩] else [] := by rw [parts, hnone]
      have tail : ∀ (s₁ : Shared) (l₁ : List Str) (ys₁ : Array Value), s₁.heap.PlainList L ys₁ → StrsAre ys₁.toList l₁ → l₁ = l ++ parts next x.cps repl (f + 1) p → (l₁.map (·.length)).sum ≤ 2 ^ 24 → (∀ b o, b ≠ L → s.heap.get? b = some o → s₁.heap.get? b = some o) → Rest true s s₁ →
          wpAny (model PW w) (A.under (.builtin "re.Pattern.sub.loop" ⟨[.ref pat, .str x t, .str repl u, rawInt 0, rawInt 0, rawInt n, rawInt p, rawInt p, .bool false, .ref L, .bool false], []⟩)) (do
            let joiner ← reSlice x.cps 0 0 0
            let d ← seqItems? (Value.ref L)
            if (d.getD #[]).isEmpty = true then do
              let text ← pure joiner
              if false = true then do
                let d ← holding [text] do
                  let d ← mkInt n
                  newTuple [text, d]
                ret d
              else ret text
            else do
              let text ← call (Value.builtin (if ((0 : Nat) == 0) = true then "str.join" else "bytes.join")) [joiner, Value.ref L]
              if false = true then do
                let d ← holding [text] do
                  let d ← mkInt n
                  newTuple [text, d]
                ret d
              else ret text)
          (fun fin s' => match fin with | .done f => R (.ok f) s' | .again c' => c'.quiet = true ∧ codeAny (model PW w) A c' R s') (fun e s' => R (.error e) s') s₁ := by
        intro s₁ l₁ ys₁ hL₁ hys₁ hl hsum₁ hk hr₁
        have e00 : Str.mk (x.cps.extract 0 0) = ⟨#[]⟩ := by simp
        refine wpAny_bind (m := reSlice x.cps 0 0 0) (wpAny_mkStr ?_ (by rw [e00]; exact Nat.zero_le _))
        rw [e00]
        have hL₁' := hL₁
        obtain ⟨nl, hL₁'⟩ := hL₁'
        refine wpAny_bind (wpAny_seqItems hL₁' rfl ?_)
        have fin := hR
        rw [← hl] at fin
        rw [show (some ys₁).getD #[] = ys₁ from rfl]
        cases he : ys₁.isEmpty with
        | true =>
          rw [if_pos rfl]
          refine wpAny_bind (wpAny_pure ?_)
          rw [if_neg (by simp)]
          have : l₁ = [] := by
            have hz : ys₁ = #[] := by simpa using he
            rw [hz] at hys₁
            cases hys₁; rfl
          subst this
          have := fin { s₁ with toks := s₁.toks + 1 } hk (hr₁.trans (Rest.same true s₁ s₁.heap _)) s₁.toks
          exact wpAny_pure this
        | false =>
          rw [if_neg (by simp)]
          refine wpAny_bind ?_
          show wpAny _ _ (call (.builtin "str.join") [.str ⟨#[]⟩ s₁.toks, .ref L]) _ _ _
          refine join_list (ys := l₁) hL₁.isList hys₁ (by show _ + _ * 0 ≤ _; (first | lia | omega)) fun t' k => ?_
          rw [if_neg (by simp)]
          exact wpAny_pure (fin { s₁ with toks := k } hk (hr₁.trans (Rest.same true s₁ s₁.heap k)) t')
      by_cases hpa : p < x.cps.size
      · rw [if_pos hpa]
        refine wpAny_bind (m := reSlice x.cps 0 p x.cps.size) (wpAny_mkStr ?_ (Nat.le_trans (extract_len _ _ _) (by rw [sizeLine_eq]; (first | lia | omega))))
        have hsy : ys.size ≤ sizeLine := by
          have := strs_len hys
          rw [Array.length_toList] at this
          rw [this, sizeLine_eq]
          (first | lia | omega)
        refine wpAny_bind (push_plain hL hsy fun h' hL' hk' => ?_)
        refine tail _ (l ++ [⟨x.cps.extract p x.cps.size⟩]) _ hL' (by simpa using strs_snoc hys _ _) (by rw [e0, if_pos hpa]) ?_ hk' (Rest.same _ _ _ _)
        simp only [List.map_append, List.map_cons, List.map_nil, List.sum_append, List.sum_cons, List.sum_nil]
        have : (Str.mk (x.cps.extract p x.cps.size)).length ≤ x.cps.size := extract_len _ _ _
        (first | lia | omega)
      · rw [if_neg hpa]
        exact tail s l ys hL hys (by rw [e0, if_neg hpa]; simp) (by first | decide | lia | omega) (fun b o _ e => e) (Rest.refl _ _)
end
end Mine
end

section
open PySem PySem.W PyProof.Rows PySem.Builtin PySem.Builtin.Re
set_option Elab.async false
set_option maxRecDepth 100000
set_option linter.all false
namespace Mine
section
variable {w : World} {A : Around} {s : Shared} {E : Value → Shared → Prop}

theorem sub_call {pat : Addr} {code : Array Nat} {x r : Str} {t u : Tok} {N : Nat} {next : Nat → Option (Nat × Nat)} {Q : Value → Shared → Prop} (hx : x.length ≤ 2 ^ 20) (hr : r.length ≤ 8) (hlit : r.cps.contains 92 = false)
    (hs : ∀ p, p ≤ x.cps.size → Ends N (Sre.forSearch code x.cps 0 p x.cps.size false) (Got (next p))) (hN : N ≤ 2 ^ 65) (hf : Fwd next x.cps.size) (hcode : ∀ (vs : Array Value) (l : List Str), StrsAre vs.toList l → (vs.map reRawOf).map (·.toNat) ≠ code)
    (hp : PatAt s.heap pat code) (h : ∀ s' t', Le s.heap.get? s'.heap.get? → Rest true s s' → Q (.str (Txt.join ⟨#[]⟩ (parts next x.cps r (x.cps.size + 1) 0)) t') s') : wpAny (model PW w) A (call (.builtin "re.Pattern.sub") [.ref pat, .str r u, .str x t]) Q E s := by
  have hT : s.TypeIs (.ref pat) "re.Pattern" := by
    obtain ⟨o, oc, fs, vs, ca, n, h1, h2, h3, h4, _⟩ := hp.ex
    exact ⟨o, h1, h3⟩
  refine wpAny_call (codeAny_call_builtin slot_pat_sub.plain entry_pat_sub (slot_pat_sub.check _ _ _ _ _ _ _ _ hT (args_pat_sub _ _ _) ?_))
  unfold Builtin.«re.Pattern.sub» reSubstitute
  refine wpAny_bind (m := reNamed _ _ _ _ _ _) (wpAny_of_eq (a := [some (.str r u), some (.str x t), none]) (by kernel_rfl) ?_)
  refine wpAny_bind (wpAny_pure ?_)
  refine wpAny_bind (wpAny_specialOf (T := "str") (typeIs_str _ _ _) str_no_call ?_)
  refine wpAny_bind (m := asStr? (.str r u)) (wpAny_pure ?_)
  dsimp only
  refine wpAny_bind (wpAny_pure ?_)
  rw [hlit]
  rw [if_neg (by simp), if_pos (by rfl)]
  refine wpAny_bind (wpAny_pure ?_)
  dsimp only
  refine wpAny_bind (wpAny_holding (wpAny_reWholeTarget hp ?_))
  rw [if_neg (by decide)]
  refine wpAny_bind (wpAny_newObj_type ?_ (by size_fits))
  refine wpAny_pure ⟨plainId_quiet (by decide +kernel) _, ?_⟩
  have hLn := get_size_none s.heap
  have hpL : s.heap.objs.size ≠ pat := by
    obtain ⟨o, oc, fs, vs, ca, n, h1, _⟩ := hp.ex
    exact fun e => by rw [← e, hLn] at h1; cases h1
  have hle : Le s.heap.get? (s.heap.push { cls := .type "list", data := .seq ([] : List Value).toArray }).get? := push_le _ _
  refine sub_loop (s := { s with heap := s.heap.push { cls := .type "list", data := .seq ([] : List Value).toArray } }) hx hr hs hN hf hcode (x.cps.size + 1) 0 0 [] #[] (by omega) (Nat.zero_le _) (hp.keeps hle) ⟨_, Heap.get?_push_size _ rfl⟩ hpL .nil (Nat.zero_le _) (by simp) fun s' hk hrest t' => ?_
  rw [List.nil_append]
  exact h s' t' (fun b o e => hk b o (fun q => by rw [q, hLn] at e; cases e) (hle b o e)) ((Rest.same true s _ _).trans hrest)
end
end Mine
end

section
open PySem PySem.W PyProof.Rows PySem.Builtin PySem.Builtin.Re PySem.Builtin.Str
set_option Elab.async false
set_option maxRecDepth 100000
set_option linter.all false
namespace Mine

/-- the text of these signs -/
noncomputable abbrev S (l : List Nat) : Str := ⟨l.toArray⟩
theorem S_of (x : Str) : x = S x.cps.toList := by cases x; simp [S]
theorem S_app (a b : List Nat) : S a ++ S b = S (a ++ b) := by
  show Str.mk (a.toArray ++ b.toArray) = _
  simp [S]

noncomputable def flat (l : List Str) : List Nat := (l.map fun x => x.cps.toList).flatten
theorem flat_nil : flat [] = [] := rfl
theorem flat_cons (x : Str) (l : List Str) : flat (x :: l) = x.cps.toList ++ flat l := by simp [flat]
theorem flat_append (a b : List Str) : flat (a ++ b) = flat a ++ flat b := by simp [flat]
theorem join_nil_sep : ∀ l : List Str, Txt.join ⟨#[]⟩ l = S (flat l)
  | [] => by
    show Str.empty = S []
    rfl
  | [x] => by
    show glued _ _ = _
    rw [StrLaws.glued_eq_join]
    show x = _
    rw [flat_cons, flat_nil, List.append_nil]
  | x :: y :: r => by
    have ih := join_nil_sep (y :: r)
    have ih' : glued ⟨#[]⟩ (y :: r) = _ := ih
    rw [StrLaws.glued_eq_join] at ih'
    show glued _ _ = _
    rw [StrLaws.glued_eq_join]
    show x ++ ⟨#[]⟩ ++ Str.join ⟨#[]⟩ (y :: r) = _
    rw [ih', flat_cons x, ← S_app, ← S_of x]
    congr 1

theorem getD_arr (l : List Nat) (i : Nat) : l.toArray.getD i 0 = l.getD i 0 := by simp [Array.getD_eq_getD_getElem?]
theorem extract_arr (l : List Nat) (a b : Nat) : (l.toArray.extract a b).toList = (l.drop a).take (b - a) := by simp

noncomputable def crlfS : Bool → List Nat → List Nat
  | _, [] => []
  | p, c :: r => if c = 10 then (if p = true then crlfS false r else 13 :: 10 :: crlfS false r) else if c = 13 then 13 :: 10 :: crlfS true r else c :: crlfS false r
noncomputable def crlfL (l : List Nat) : List Nat := crlfS false l
theorem crlfL_nil : crlfL [] = [] := rfl
theorem crlfL_free {c : Nat} {r : List Nat} (h : brk c = false) : crlfL (c :: r) = c :: crlfL r := by
  unfold brk at h
  simp at h
  rw [crlfL, crlfS, if_neg h.1, if_neg h.2]; rfl
theorem crlfL_app : ∀ (p r : List Nat), (∀ c ∈ p, brk c = false) → crlfL (p ++ r) = p ++ crlfL r
  | [], _, _ => rfl
  | c :: p, r, h => by
    rw [List.cons_append, crlfL_free (h c List.mem_cons_self), crlfL_app p r fun d hd => h d (List.mem_cons_of_mem _ hd), List.cons_append]
theorem crlfL_lf (r : List Nat) : crlfL (10 :: r) = 13 :: 10 :: crlfL r := by simp [crlfL, crlfS]
theorem crlfL_crlf (r : List Nat) : crlfL (13 :: 10 :: r) = 13 :: 10 :: crlfL r := by simp [crlfL, crlfS]
theorem crlfL_cr (r : List Nat) (h : r.head? ≠ some 10) : crlfL (13 :: r) = 13 :: 10 :: crlfL r := by
  cases r with
  | nil => simp [crlfL, crlfS]
  | cons d q => simp at h; simp [crlfL, crlfS, h]

theorem find2_none (l : List Nat) : ∀ (n s : Nat), find2 l.toArray n s = none → s + n = l.length → ∀ c ∈ l.drop s, brk c = false
  | 0, s, _, e, c, hc => by rw [List.drop_eq_nil_of_le (by first | decide | lia | omega)] at hc; cases hc
  | n + 1, s, h, e, c, hc => by
    have hs : s < l.length := by (first | lia | omega)
    rw [List.drop_eq_getElem_cons hs] at hc
    unfold find2 at h
    split at h
    · cases h
    · rename_i hb
      rcases List.mem_cons.mp hc with rfl | hc
      · rw [getD_arr] at hb
        simpa [hs] using hb
      · exact find2_none l n (s + 1) h (by first | decide | lia | omega) c hc
theorem find2_some (l : List Nat) : ∀ (n s a : Nat), find2 l.toArray n s = some a → s + n = l.length → s ≤ a ∧ a < l.length ∧ (∀ c ∈ (l.drop s).take (a - s), brk c = false) ∧ brk (l.getD a 0) = true
  | 0, _, _, h, _ => by cases h
  | n + 1, s, a, h, e => by
    have hs : s < l.length := by (first | lia | omega)
    unfold find2 at h
    split at h
    · rename_i hb
      cases h
      rw [getD_arr] at hb
      exact ⟨Nat.le_refl _, hs, by simp, hb⟩
    · rename_i hb
      obtain ⟨h1, h2, h3, h4⟩ := find2_some l n (s + 1) a h (by first | decide | lia | omega)
      refine ⟨by (first | lia | omega), h2, ?_, h4⟩
      rw [List.drop_eq_getElem_cons hs, show a - s = (a - (s + 1)) + 1 by (first | lia | omega), List.take_succ_cons]
      intro c hc
      rcases List.mem_cons.mp hc with rfl | hc
      · rw [getD_arr] at hb
        simpa [hs] using hb
      · exact h3 c hc

noncomputable def next2 (text : Array Nat) (p : Nat) : Option (Nat × Nat) := (find2 text (text.size - p) p).map fun a => (a, endOf text a)
theorem endOf_cases (text : Array Nat) (a : Nat) : endOf text a = a + 1 ∨ (endOf text a = a + 2 ∧ a + 1 < text.size) := by
  unfold endOf
  by_cases hc : (text.getD a 0 == 13 && (decide (a + 1 < text.size) && text.getD (a + 1) 0 == 10)) = true
  · rw [if_pos hc]
    rw [Bool.and_eq_true, Bool.and_eq_true, decide_eq_true_eq] at hc
    exact .inr ⟨rfl, hc.2.1⟩
  · rw [if_neg hc]; exact .inl rfl
theorem fwd2 (text : Array Nat) : Fwd (next2 text) text.size := by
  intro p a b hp h
  unfold next2 at h
  cases hf : find2 text (text.size - p) p with
  | none => rw [hf] at h; cases h
  | some a' =>
    rw [hf] at h
    have h : some (a', endOf text a') = some (a, b) := h
    cases h
    obtain ⟨h1, h2, _⟩ := find2_ok text _ _ _ hf (by first | decide | lia | omega)
    rcases endOf_cases text a with e | ⟨e, h3⟩
    · rw [e]; exact ⟨h1, by (first | lia | omega), by (first | lia | omega)⟩
    · rw [e]; exact ⟨h1, by (first | lia | omega), by (first | lia | omega)⟩
theorem parts2 (l : List Nat) : ∀ (f p : Nat), l.length - p < f → p ≤ l.length → flat (parts (next2 l.toArray) l.toArray (S [13, 10]) f p) = crlfL (l.drop p)
  | 0, _, h, _ => by (first | lia | omega)
  | f + 1, p, h, hp => by
    have hsz : l.toArray.size = l.length := by simp
    unfold parts
    cases hf : find2 l.toArray (l.length - p) p with
    | none =>
      have hn : next2 l.toArray p = none := by unfold next2; rw [hsz, hf]; rfl
      rw [hn]
      have hfree := find2_none l _ p hf (by first | decide | lia | omega)
      have e := crlfL_app (l.drop p) [] hfree
      rw [List.append_nil] at e
      rw [e]
      dsimp only
      rw [hsz]
      split
      · rw [flat_cons, flat_nil, extract_arr]
        rw [List.append_nil, crlfL_nil, List.append_nil, List.take_of_length_le (by simp)]
      · rw [flat_nil, List.drop_eq_nil_of_le (by first | decide | lia | omega)]; rfl
    | some a =>
      have hn : next2 l.toArray p = some (a, endOf l.toArray a) := by unfold next2; rw [hsz, hf]; rfl
      rw [hn]
      obtain ⟨h1, h2, h3, h4⟩ := find2_some l _ p a hf (by first | decide | lia | omega)
      obtain ⟨_, h5, h6⟩ := fwd2 l.toArray p a _ (by rw [hsz]; exact hp) hn
      rw [hsz] at h6
      dsimp only
      have ih := parts2 l f (endOf l.toArray a) (by first | decide | lia | omega) h6
      rw [flat_append, flat_cons, ih]
      have e1 : flat (if p < a then [Str.mk (l.toArray.extract p a)] else []) = (l.drop p).take (a - p) := by
        split
        · rw [flat_cons, flat_nil, extract_arr, List.append_nil]
        · rw [show a - p = 0 by (first | lia | omega)]; rfl
      rw [e1]
      have e2 : l.drop p = (l.drop p).take (a - p) ++ l.drop a := by
        conv => lhs; rw [← List.take_append_drop (a - p) (l.drop p)]
        rw [List.drop_drop, show p + (a - p) = a by (first | lia | omega)]
      rw [e2]
      rw [crlfL_app _ _ h3]
      have e2' : ((l.drop p).take (a - p) ++ l.drop a).take (a - p) = (l.drop p).take (a - p) := by rw [← e2]
      rw [e2']
      congr 1
      have ha : l.drop a = l.getD a 0 :: l.drop (a + 1) := by rw [List.drop_eq_getElem_cons h2]; simp [h2]
      rw [ha]
      show [13, 10] ++ _ = _
      unfold endOf
      rw [getD_arr, getD_arr, hsz]
      by_cases c13 : l.getD a 0 = 13
      · rw [c13]
        by_cases c10 : a + 1 < l.length ∧ l.getD (a + 1) 0 = 10
        · rw [if_pos (by simp; exact ⟨c10.1, by simpa using c10.2⟩)]
          have hb : l.drop (a + 1) = 10 :: l.drop (a + 2) := by rw [List.drop_eq_getElem_cons c10.1]; have := c10.2; simp [c10.1] at this; rw [this]
          rw [hb, crlfL_crlf]; rfl
        · rw [if_neg (by simpa using c10)]
          rw [crlfL_cr]
          · rfl
          · intro q
            rw [List.head?_drop] at q
            apply c10
            have : a + 1 < l.length := by
              rcases Nat.lt_or_ge (a + 1) l.length with h | h
              · exact h
              · rw [List.getElem?_eq_none h] at q; cases q
            exact ⟨this, by simp [q]⟩
      · rw [if_neg (by simp at c13 ⊢; intro h; exact absurd h c13)]
        have : l.getD a 0 = 10 := by
          unfold brk at h4
          simp only [Bool.or_eq_true, beq_iff_eq] at h4
          rcases h4 with h | h
          · exact h
          · exact absurd h c13
        rw [this, crlfL_lf]; rfl

/-! dots -/
noncomputable def dotL : Bool → List Nat → List Nat
  | _, [] => []
  | b, c :: r => if b = true ∧ c = 46 then 46 :: 46 :: dotL false r else c :: dotL (c == 10) r
noncomputable def bol (l : List Nat) (p : Nat) : Bool := p == 0 || l.getD (p - 1) 0 == 10
noncomputable def next1 (text : Array Nat) (p : Nat) : Option (Nat × Nat) := (find1 text (text.size - p) p).map fun a => (a, a + 1)
theorem find1_ok (text : Array Nat) : ∀ (n s p : Nat), find1 text n s = some p → s + n = text.size → s ≤ p ∧ p < text.size
  | 0, _, _, h, _ => by cases h
  | n + 1, s, p, h, e => by
    unfold find1 at h
    split at h
    · cases h; exact ⟨Nat.le_refl _, by (first | lia | omega)⟩
    · have := find1_ok text n (s + 1) p h (by first | decide | lia | omega)
      exact ⟨by (first | lia | omega), this.2⟩
theorem fwd1 (text : Array Nat) : Fwd (next1 text) text.size := by
  intro p a b hp h
  unfold next1 at h
  cases hf : find1 text (text.size - p) p with
  | none => rw [hf] at h; cases h
  | some a' =>
    rw [hf] at h
    simp at h
    obtain ⟨rfl, rfl⟩ := h
    obtain ⟨h1, h2⟩ := find1_ok text _ _ _ hf (by first | decide | lia | omega)
    exact ⟨h1, by (first | lia | omega), by (first | lia | omega)⟩
theorem bol_succ (l : List Nat) (p : Nat) : bol l (p + 1) = (l.getD p 0 == 10) := by
  unfold bol
  rw [show (p + 1 == 0) = false from rfl, Bool.false_or, Nat.add_sub_cancel]
theorem dot_none (l : List Nat) : ∀ (n s : Nat), find1 l.toArray n s = none → s + n = l.length → dotL (bol l s) (l.drop s) = l.drop s
  | 0, s, _, e => by rw [List.drop_eq_nil_of_le (by first | decide | lia | omega)]; cases bol l s <;> rfl
  | n + 1, s, h, e => by
    have hs : s < l.length := by (first | lia | omega)
    have ha : l.drop s = l.getD s 0 :: l.drop (s + 1) := by rw [List.drop_eq_getElem_cons hs]; simp [hs]
    unfold find1 at h
    rw [getD_arr, getD_arr] at h
    split at h
    · cases h
    · rename_i hb
      rw [ha, dotL, if_neg, ← bol_succ, dot_none l n (s + 1) h (by first | decide | lia | omega)]
      intro q
      apply hb
      rw [Bool.and_eq_true]
      exact ⟨q.1, by rw [q.2]; rfl⟩
theorem dot_some (l : List Nat) : ∀ (n s a : Nat), find1 l.toArray n s = some a → s + n = l.length → dotL (bol l s) (l.drop s) = (l.drop s).take (a - s) ++ 46 :: 46 :: dotL (bol l (a + 1)) (l.drop (a + 1))
  | 0, _, _, h, _ => by cases h
  | n + 1, s, a, h, e => by
    have hs : s < l.length := by (first | lia | omega)
    have ha : l.drop s = l.getD s 0 :: l.drop (s + 1) := by rw [List.drop_eq_getElem_cons hs]; simp [hs]
    unfold find1 at h
    rw [getD_arr, getD_arr] at h
    split at h
    · rename_i hb
      cases h
      rw [Bool.and_eq_true] at hb
      have h46 : l.getD s 0 = 46 := by simpa using hb.2
      rw [ha, dotL, if_pos ⟨hb.1, h46⟩, Nat.sub_self, bol_succ, h46]
      rfl
    · rename_i hb
      have ih := dot_some l n (s + 1) a h (by first | decide | lia | omega)
      obtain ⟨h1, _⟩ := find1_ok l.toArray n (s + 1) a h (by simp; (first | lia | omega))
      rw [ha, dotL, if_neg, ← bol_succ, ih, show a - s = (a - (s + 1)) + 1 by (first | lia | omega), List.take_succ_cons]
      · rfl
      · intro q
        apply hb
        rw [Bool.and_eq_true]
        exact ⟨q.1, by rw [q.2]; rfl⟩
theorem parts1 (l : List Nat) : ∀ (f p : Nat), l.length - p < f → p ≤ l.length → flat (parts (next1 l.toArray) l.toArray (S [46, 46]) f p) = dotL (bol l p) (l.drop p)
  | 0, _, h, _ => by (first | lia | omega)
  | f + 1, p, h, hp => by
    have hsz : l.toArray.size = l.length := by simp
    unfold parts
    cases hf : find1 l.toArray (l.length - p) p with
    | none =>
      have hn : next1 l.toArray p = none := by unfold next1; rw [hsz, hf]; rfl
      rw [hn, dot_none l _ p hf (by first | decide | lia | omega)]
      dsimp only
      rw [hsz]
      split
      · rw [flat_cons, flat_nil, extract_arr, List.append_nil, List.take_of_length_le (by simp)]
      · rw [flat_nil, List.drop_eq_nil_of_le (by first | decide | lia | omega)]
    | some a =>
      have hn : next1 l.toArray p = some (a, a + 1) := by unfold next1; rw [hsz, hf]; rfl
      rw [hn, dot_some l _ p a hf (by first | decide | lia | omega)]
      obtain ⟨h1, h2⟩ := find1_ok l.toArray _ p a hf (by simp; (first | lia | omega))
      rw [hsz] at h2
      dsimp only
      have ih := parts1 l f (a + 1) (by first | decide | lia | omega) h2
      rw [flat_append, flat_cons, ih]
      have e1 : flat (if p < a then [Str.mk (l.toArray.extract p a)] else []) = (l.drop p).take (a - p) := by
        split
        · rw [flat_cons, flat_nil, extract_arr, List.append_nil]
        · rw [show a - p = 0 by (first | lia | omega)]; rfl
      rw [e1]
      rfl

theorem join2 (l : List Nat) : Txt.join ⟨#[]⟩ (parts (next2 l.toArray) l.toArray (S [13, 10]) (l.toArray.size + 1) 0) = S (crlfL l) := by
  rw [join_nil_sep, parts2 l _ 0 (by simp) (Nat.zero_le _)]; rfl
theorem join1 (l : List Nat) : Txt.join ⟨#[]⟩ (parts (next1 l.toArray) l.toArray (S [46, 46]) (l.toArray.size + 1) 0) = S (dotL true l) := by
  rw [join_nil_sep, parts1 l _ 0 (by simp) (Nat.zero_le _)]; rfl
end Mine
end

section
open PySem PySem.W PyProof.Rows PySem.Builtin PySem.Builtin.Re PySem.Builtin.Str
set_option Elab.async false
set_option maxRecDepth 100000
set_option linter.all false
namespace Mine
section
variable {k : Bool} {w : World} {A : Around} {c : Cx} {ρ : REnv}

theorem code_no {code : Array Nat} {a : Nat} (h0 : code[0]? = some (a + 1)) (vs : Array Value) (l : List Str) (h : StrsAre vs.toList l) : (vs.map reRawOf).map (·.toNat) ≠ code := by
  intro e
  rw [← e] at h0
  obtain ⟨vs⟩ := vs
  cases h with
  | nil => simp at h0
  | cons y t r =>
    simp [reRawOf] at h0
theorem kpat1 {h : Heap} (K : (KF w).In h) : PatAt h 36 code1 := ⟨⟨OB w 36, OB w 35, _, _, 35, _, K 36 _ (by kernel_rfl), rfl, rfl, rfl, rfl, rfl, rfl, K 35 _ (by kernel_rfl), rfl, by kernel_rfl⟩⟩
theorem kpat2 {h : Heap} (K : (KF w).In h) : PatAt h 41 code2 := ⟨⟨OB w 41, OB w 40, _, _, 40, _, K 41 _ (by kernel_rfl), rfl, rfl, rfl, rfl, rfl, rfl, K 40 _ (by kernel_rfl), rfl, by kernel_rfl⟩⟩

theorem sub1 {l : List Nat} {t u : Tok} {s : Shared} {Q : Value → Shared → Prop} {E : Value → Shared → Prop} (hl : l.length ≤ 2 ^ 20) (K : (KF w).In s.heap)
    (h : ∀ s' t', Le s.heap.get? s'.heap.get? → Rest true s s' → Q (.str (S (dotL true l)) t') s') : wpAny (model PW w) A (call (.builtin "re.Pattern.sub") [.ref 36, .str (S [46, 46]) u, .str (S l) t]) Q E s := by
  refine sub_call (code := code1) (N := 3 * l.length + 6) (next := next1 l.toArray) (by simpa [Str.length] using hl) (by decide) (by kernel_rfl) (fun p hp => ?_) (by first | decide | lia | omega) (fwd1 _) (code_no (a := 13) rfl) (kpat1 K) fun s' t' h1 h2 => ?_
  · have := search1 l.toArray p hp
    have hs : l.toArray.size = l.length := by simp
    obtain ⟨q, hq⟩ := Nat.exists_eq_add_of_le (show 3 * (l.toArray.size - p) + 6 ≤ 3 * l.length + 6 by rw [hs]; (first | lia | omega))
    rw [hq]
    exact this.more
  · have := h s' t' h1 h2
    rw [join1]
    exact this
theorem sub2 {l : List Nat} {t u : Tok} {s : Shared} {Q : Value → Shared → Prop} {E : Value → Shared → Prop} (hl : l.length ≤ 2 ^ 20) (K : (KF w).In s.heap)
    (h : ∀ s' t', Le s.heap.get? s'.heap.get? → Rest true s s' → Q (.str (S (crlfL l)) t') s') : wpAny (model PW w) A (call (.builtin "re.Pattern.sub") [.ref 41, .str (S [13, 10]) u, .str (S l) t]) Q E s := by
  refine sub_call (code := code2) (N := 20) (next := next2 l.toArray) (by simpa [Str.length] using hl) (by decide) (by kernel_rfl) (fun p hp => search2 l.toArray p hp) (by first | decide | lia | omega) (fwd2 _) (code_no (a := 13) rfl) (kpat2 K) fun s' t' h1 h2 => ?_
  have := h s' t' h1 h2
  rw [join2]
  exact this

/-- the method sub of a pattern of the module -/
theorem Ev.pat {x : Str} {np apos pos : Pos} {pa : Addr} {es : List Expr} {r y z : Str} (hk : c.env.kindOf x = some .globalImplicit) (hv : nsIn (KF c.w) mainGlobals x = some (some (.ref pa)))
    (hbase : attributeBase (.Name x np) "sub" c.env (eval (.Name x np) c.env) = eval (.Name x np) c.env)
    (hfew : ((backTo pos (starEach es c.env)).all (fun x => !x.1) && (backToKw pos (keywordEach [] c.env)).all (fun x => x.1.isSome)
      && decide (es.length + ([] : List Keyword).length + (if ([] : List Keyword).isEmpty then 0 else 1) < 30)) = true) (hline : (apos.endLine == pos.line) = true)
    (hargs : ∀ (A : Around) (s : Shared) (Q : Args → Shared → Prop) (E : Value → Shared → Prop), wpAny (model PW c.w) A (spliced (backTo pos (starEach es c.env))) (fun vs s' => Q ⟨vs, []⟩ s') E s → wpAny (model PW c.w) A (evalArgs (.builtin "re.Pattern.sub") true (backTo pos (starEach es c.env)) []) Q E s)
    (hplain : (backTo pos (starEach es c.env)).any (·.1) = false) (code : Array Nat) (hpat : ∀ h : Heap, (KF c.w).In h → PatAt h pa code)
    (h1 : EvL k c ρ es [.str r, .str y])
    (h2 : ∀ (s : Shared) (t u : Tok) (Q : Value → Shared → Prop) (E : Value → Shared → Prop), (KF c.w).In s.heap → (∀ s' t', Le s.heap.get? s'.heap.get? → Rest true s s' → Q (.str z t') s') → wpAny (model PW c.w) c.A (call (.builtin "re.Pattern.sub") [.ref pa, .str r u, .str y t]) Q E s)
    (hd : (x == ("__debug__" : Str)) = false) : Ev k c ρ (.Call (.Attribute (.Name x np) "sub" apos) es [] pos) (.str z) := fun g s Q E F L h =>
  wpAny_Call_method_lateS hbase hfew hline (ld_glob F L hk hv (by
    have K := F.base.kin L
    obtain ⟨o, oc, fs, vs, ca, n, q1, q2, q3, q4, _⟩ := (hpat s.heap K).ex
    refine ⟨"re.Pattern", "re.Pattern.sub", plainAttrs_pat, slot_pat_sub, type_pat_sub, ⟨o, q1, q3⟩, (fun a e => by cases e; exact ⟨o, q1, q4⟩), Calls.callWith_builtin hplain (hargs _ _ _ _ ?_)⟩
    refine h1 pos g s _ E F L fun vs g' s' st rs => ?_
    cases rs with
    | cons r1 rs =>
      cases rs with
      | cons r2 rs =>
        cases rs
        cases r1
        cases r2
        refine h2 s' _ _ _ _ ((F.base.mono st.up).kin st.sub) fun s'' t' hle hr => ?_
        exact h _ g' s'' (st.trans (Step.grow st.sub hle hr.any)) (.str _ _)) hd)

theorem Ev.str' {x y : Str} {kd : Nat} {pos : Pos} (h : x = y) : Ev k c ρ (.Constant (.str x) kd pos) (.str y) := h ▸ Ev.str
theorem Ev.gstr' {x y z : Str} {pos : Pos} {t : Tok} (hk : c.env.kindOf x = some .globalImplicit) (hv : nsIn (KF c.w) mainGlobals x = some (some (.str y t))) (h : y = z) (hd : (x == ("__debug__" : Str)) = false) : Ev k c ρ (.Name x pos) (.str z) := h ▸ Ev.gstr hk hv hd

/-- what quotedata makes of a text -/
noncomputable def quoted (l : List Nat) : List Nat := dotL true (crlfL l)
theorem crlfS_len : ∀ (b : Bool) (l : List Nat), (crlfS b l).length ≤ 2 * l.length
  | _, [] => by simp [crlfS]
  | b, c :: r => by
    have h1 := crlfS_len false r
    have h2 := crlfS_len true r
    rw [crlfS]
    split
    · split <;> simp <;> (first | lia | omega)
    · split <;> simp <;> (first | lia | omega)

set_option maxHeartbeats 0 in
theorem f_quote {l : List Nat} (hl : l.length ≤ 2 ^ 18) (hroom : A.depth < recursionLimit) : CallV k w A (.ref 92) [.str (S l)] (.str (S (quoted l))) := by
  refine CallV.fn (cc := 91) (xs := ["data"]) [("data", .str (S l))] ⟨by kernel_rfl, by kernel_rfl, by kernel_rfl, by kernel_rfl, ⟨_, _, rfl, rfl⟩, rfl, by kernel_rfl, by kernel_rfl, by kernel_rfl, by kernel_rfl, by kernel_rfl⟩ (by kernel_rfl)
    (bind1 rfl fun _ => by kernel_rfl) rfl (fun n => mem1 (.inl (by kernel_rfl))) hroom rfl fun L => ?_
  have h2 := crlfS_len false l
  refine Fx.ret (Ev.pat (pa := 36) (r := S [46, 46]) (y := S (crlfL l)) (by kernel_rfl) (by kernel_rfl) rfl (by rfl) (by rfl) (fun _ _ _ _ h => evalArgs_one h) (by rfl) code1 (fun _ K => kpat1 K)
    (EvL.cons rfl (Ev.str' (by kernel_rfl)) (EvL.cons rfl ?_ EvL.nil)) (fun s t u Q E K h => sub1 (by unfold crlfL; (first | lia | omega)) K h) (by kernel_rfl))
  refine Ev.pat (pa := 41) (r := S [13, 10]) (y := S l) (by kernel_rfl) (by kernel_rfl) rfl (by rfl) (by rfl) (fun _ _ _ _ h => evalArgs_one h) (by rfl) code2 (fun _ K => kpat2 K)
    (EvL.cons rfl (Ev.gstr' (by kernel_rfl) rfl (by kernel_rfl) (by kernel_rfl)) (EvL.cons rfl (Ev.loc' (by kernel_rfl) Look.here (by kernel_rfl)) EvL.nil)) (fun s t u Q E K h => sub2 (by first | decide | lia | omega) K h) (by kernel_rfl)
end
end Mine
end

section
open PySem PySem.W PyProof.Rows PySem.Builtin
set_option Elab.async false
set_option maxRecDepth 100000
set_option linter.all false
namespace Mine
/-- what is being handled has no context of its own -/
noncomputable def HandOK (A : Around) (h : Heap) : Prop := A.handled = none ∨ ∃ e o vs, A.handled = some (.ref e) ∧ h.get? e = some o ∧ o.data = .fields vs ∧ vs[2]? = some .none
theorem HandOK.le {A : Around} {h h' : Heap} (H : HandOK A h) (k : Le h.get? h'.get?) : HandOK A h' := by
  rcases H with H | ⟨e, o, vs, h1, h2, h3, h4⟩
  · exact .inl H
  · exact .inr ⟨e, o, vs, h1, k _ _ h2, h3, h4⟩
theorem HandOK.mono {A B : Around} {h : Heap} (H : HandOK A h) (e : B.handled = A.handled) : HandOK B h := by
  unfold HandOK at H ⊢
  rw [e]; exact H
theorem HandOK.but {A : Around} {h h' : Heap} {a : Addr} (H : HandOK A h) (hne : A.handled ≠ some (.ref a)) (k : ∀ b o, b ≠ a → h.get? b = some o → h'.get? b = some o) : HandOK A h' := by
  rcases H with H | ⟨e, o, vs, h1, h2, h3, h4⟩
  · exact .inl H
  · exact .inr ⟨e, o, vs, h1, k e o (fun q => hne (by rw [h1, q])) h2, h3, h4⟩

theorem entry_unchain : entryFor table "proto.unchain" = some Builtin.«proto.unchain» := entryFor_of_tree (by kernel_rfl)
section
variable {w : World} {A : Around} {s : Shared} {E : Value → Shared → Prop}

theorem stop_raise {α : Type} {Q : α → Shared → Prop} (H : HandOK A s.heap) (hE : ∀ h' e o, Le s.heap.get? h'.get? → h'.get? e = some o → o.cls = .type "StopIteration" → E (.ref e) { s with heap := h' }) :
    wpAny (model PW w) A (newExc (.type "StopIteration") [] >>= fun e => (raiseNew e : Sem α)) Q E s := by
  refine wpAny_bind ?_
  simp only [newExc, newTuple]
  refine wpAny_bind (wpAny_newObj_type ?_ (by size_fits))
  refine wpAny_bind (m := firstArgMember _ _) (wpAny_of_eq (a := Value.none) (by first | rfl | (simp only [firstArgMember]; rfl)) ?_)
  refine wpAny_newObj_type ?_ (by size_fits)
  dsimp only
  generalize hob : ({ cls := Value.type "StopIteration", dict := none, data := .fields _ } : Obj) = ob
  have k1 : Le s.heap.get? (s.heap.push { cls := .type "tuple", data := .seq ([] : List Value).toArray }).get? := push_le _ _
  have hn := get_size_none (s.heap.push { cls := .type "tuple", data := .seq ([] : List Value).toArray })
  generalize hh1 : s.heap.push { cls := .type "tuple", data := .seq ([] : List Value).toArray } = h1 at k1 hn ⊢
  have k2 : Le h1.get? (h1.push ob).get? := push_le _ _
  have hf : ob.isFreed = false := by rw [← hob]; rfl
  have hc : ob.cls = .type "StopIteration" := by rw [← hob]
  have hd : ∃ vs, ob.data = .fields vs ∧ 2 < vs.size := by rw [← hob]; exact ⟨_, rfl, by simp; omega⟩
  have hg : (h1.push ob).get? h1.objs.size = some ob := Heap.get?_push_size _ hf
  clear hob
  unfold raiseNew
  refine wpAny_bind (wpAny_handled ?_)
  rcases H with H | ⟨e, o, vs, e1, e2, e3, e4⟩
  · rw [H]
    exact wpAny_bind (wpAny_pure (wpAny_throw (hE _ _ _ (k1.trans k2) hg hc)))
  · rw [e1]
    have hne : e ≠ h1.objs.size := fun q => by have := k1 e o e2; rw [q, hn] at this; cases this
    dsimp only
    rw [if_pos (by simpa using hne)]
    refine wpAny_bind (wpAny_holding (wpAny_runValue (codeAny_builtin entry_unchain ?_)))
    unfold Builtin.«proto.unchain»
    refine wpAny_bind (wpAny_field (k2 _ _ (k1 _ _ e2)) e3 e4 ?_)
    rw [if_pos (by rfl)]
    refine wpAny_pure ?_
    obtain ⟨vs', hd1, hd2⟩ := hd
    refine wpAny_bind (m := updateField h1.objs.size 2 (.ref e)) (wpAny_setField (i := 2) (x := .ref e) hg hd1 hd2 ?_)
    refine wpAny_throw (hE _ h1.objs.size (ob.mapFields (·.setIfInBounds 2 (.ref e))) (fun b o' hb => ?_) ?_ ?_)
    · have hbn : b ≠ h1.objs.size := fun q => by have := k1 b o' hb; rw [q, hn] at this; cases this
      exact (Heap.get?_update_other _ _ (Ne.symm hbn)).trans (k2 _ _ (k1 _ _ hb))
    · exact Heap.get?_update_self _ hg (Obj.isFreed_of_fields (Obj.data_mapFields hd1 _))
    · rw [Obj.cls_mapFields]; exact hc

theorem handled_ne {a : Addr} {o : Obj} (H : HandOK A s.heap) (ha : s.heap.get? a = some o) (hd : ∀ vs, o.data = .fields vs → vs[2]? ≠ some .none) : A.handled ≠ some (.ref a) := by
  rcases H with H | ⟨e, o', vs, h1, h2, h3, h4⟩
  · rw [H]; exact fun q => nomatch q
  · intro q
    rw [h1] at q
    cases q
    rw [ha] at h2
    cases h2
    exact hd vs h3 h4

theorem items_end {it d : Addr} {i ep : Nat} {kvs : List (Str × Value)} {ok ov : Value} {Q : Option Value → Shared → Prop} (H : HandOK A s.heap) (hit : IsItemIter s.heap it d i kvs.length ep ok ov)
    (hm : s.heap.DictAt (strKind PW w) d kvs ep) (hx : kvs[i]? = none) (hQ : ∀ h', Heap.ExtBut it s.heap h' → Q none { s with heap := h' }) : wpAny (model PW w) A (pyNext (.ref it)) Q E s := by
  have Hn := handled_ne H hit (fun vs e => by cases e; simp)
  obtain ⟨od, es, hod, hcd, hdd, hk, hpr, hn⟩ := id hm
  have hT : s.TypeIs (.ref it) "dict_itemiterator" := ⟨_, hit, rfl⟩
  have hsz : es.size = kvs.length := by rw [← hpr.length]; simp
  have hge : es.size ≤ i := by rw [hsz]; simpa using hx
  unfold pyNext
  refine wpAny_bind (wpAny_attempt (wpAny_callSpecial?_slot (name := Str.ofString "__next__") hT F.slot_dict_itemiterator_next
    (wpAny_call_entry F.slot_dict_itemiterator_next hT F.entry_dict_itemiterator_next ?_ (F.args_dict_itemiterator_next_1 _))))
  refine wpAny_bind (wpAny_pure ?_)
  refine wpAny_bind (wpAny_bind ?_)
  first | refine wpAny_bind (wpAny_typeNameOfWhole_itemiter hT (wpAny_pure ?_)) | refine wpAny_bind (wpAny_typeNameOf_itemiter hT (wpAny_pure ?_))
  refine wpAny_bind (wpAny_fieldsOf hit rfl ?_)
  simp only [show Builtin.Dict_items.ownsTuple "dict_itemiterator" = true from by decide, if_true]
  show wpAny _ _ (if (Value.ref d == Value.none) = true then _ else _) _ _ s
  rw [if_neg (show ¬ ((Value.ref d == Value.none) = true) from Bool.false_ne_true)]
  refine wpAny_bind (wpAny_pure (wpAny_bind (wpAny_dictEntries hod hdd ?_)))
  rw [if_neg (by rw [hsz]; simp)]
  refine wpAny_bind (wpAny_pure (wpAny_bind (wpAny_dictEpoch hod hdd ?_)))
  rw [if_neg (by simp)]
  refine wpAny_pure ?_
  simp only [show ¬ ((i : Int) < 0) from by omega, if_false, Int.toNat_natCast, Array.getElem?_eq_none hge]
  refine wpAny_bind ?_
  first | refine wpAny_bind (wpAny_typeNameOfWhole_itemiter hT (wpAny_pure ?_)) | refine wpAny_bind (wpAny_typeNameOf_itemiter hT (wpAny_pure ?_))
  show wpAny _ _ (setField (.ref it) 2 .none >>= _) _ _ s
  refine wpAny_bind (wpAny_setField hit rfl (by simp) ?_)
  have ek : ∀ b o, b ≠ it → s.heap.get? b = some o → (s.heap.update it (Obj.mapFields (·.setIfInBounds 2 .none))).get? b = some o := fun b o hb e => (Heap.get?_update_other _ _ (Ne.symm hb)).trans e
  refine stop_raise (A := A.in1) ((H.but Hn ek).mono rfl) fun h' e o hle he hc => ?_
  refine wpAny_bind (wpAny_isInstance (T := "StopIteration") (b := true) ⟨_, he, hc⟩ isSubtype_stop ?_)
  exact wpAny_pure (hQ _ fun b o hb e => hle b o (ek b o hb e))

theorem tuple_end {it t : Addr} {i : Nat} {items : Array Value} {Q : Option Value → Shared → Prop} (H : HandOK A s.heap)
    (hit : s.heap.IsTupleIter it t i) (ht : s.heap.IsTuple t items) (hx : items[i]? = none) (hQ : ∀ h', Heap.ExtBut it s.heap h' → Q none { s with heap := h' }) : wpAny (model PW w) A (pyNext (.ref it)) Q E s := by
  obtain ⟨o, ho, hc, hd⟩ := id hit
  have Hn := handled_ne H ho (fun vs e => by rw [hd] at e; cases e; simp)
  obtain ⟨ol, hol, _, nl, hdl⟩ := ht
  unfold pyNext
  refine wpAny_bind (wpAny_attempt (wpAny_callSpecial?_slot (name := Str.ofString "__next__") hit.typeIs F.slot_tuple_iterator_next
    (wpAny_call_entry F.slot_tuple_iterator_next hit.typeIs F.entry_tuple_iterator_next ?_ (F.args_tuple_iterator_next_1 _))))
  show wpAny _ _ (field (.ref it) 0 >>= _) _ _ s
  refine wpAny_bind (wpAny_field ho hd (x := .ref t) rfl ?_)
  show wpAny _ _ (if (Value.ref t == Value.none) = true then _ else _) _ _ s
  rw [if_neg (show ¬ ((Value.ref t == Value.none) = true) from Bool.false_ne_true)]
  show wpAny _ _ (field (.ref it) 1 >>= _) _ _ s
  refine wpAny_bind (wpAny_field ho hd (x := .int i 0) rfl ?_)
  show wpAny _ _ (seqItems? (.ref t) >>= _) _ _ s
  refine wpAny_bind (wpAny_seqItems hol hdl ?_)
  simp only [Int.toNat_natCast, hx]
  refine wpAny_bind (wpAny_rule (wpAny_bind (wpAny_setField ho hd (by simp) ?_)))
  have ek : ∀ b o, b ≠ it → s.heap.get? b = some o → (s.heap.update it (Obj.mapFields (·.setIfInBounds 0 .none))).get? b = some o := fun b o hb e => (Heap.get?_update_other _ _ (Ne.symm hb)).trans e
  refine stop_raise (A := A.in1) ((H.but Hn ek).mono rfl) fun h' e o hle he hc => ?_
  refine wpAny_bind (wpAny_isInstance (T := "StopIteration") (b := true) ⟨_, he, hc⟩ isSubtype_stop ?_)
  exact wpAny_pure (hQ _ fun b o hb e => hle b o (ek b o hb e))

/-- a tuple unpacked, whatever is being handled -/
theorem unpack_H {n : Nat} {g : Vw} {v : Value} {ds : List PV} {Q : List Value → Shared → Prop} (H : HandOK A s.heap) (L : Le g s.heap.get?) (r : Rep w.params g v (.tuple ds)) (hn : ds.length = n)
    (h : ∀ vs s', RepL w.params g vs ds → Step true g s g s' → Q vs s') : wpAny (model PW w) A (unpackItems v n none) Q E s := by
  replace r := r.inv
  cases r with
  | mk e c d q =>
    rename_i t o items m
    subst hn
    rw [← q.size]
    have ht : s.heap.IsTuple t items := ⟨o, L _ _ e, c, m, d⟩
    have hlt : t ≠ s.heap.objs.size := Nat.ne_of_lt (Heap.lt_size (L _ _ e))
    unfold unpackItems
    refine wpAny_bind ?_
    unfold notIterableAtAll
    refine wpAny_bind (wpAny_specialOf ht.typeIs F.slot_tuple_iter.lookup ?_)
    refine wpAny_pure ?_
    simp only [Bool.false_eq_true, if_false]
    refine wpAny_bind (wpAny_holding (wpAny_pyIter_tuple ht ?_))
    refine wpAny_bind (wpAny_holding (wpAny_draw_tuple hlt items.size 0 _ _ ⟨_, Heap.get?_push_size _ rfl, rfl, rfl⟩ (ht.push _) (by omega) fun h₁ hit₁ hs₁ => ?_))
    have hall : List.take items.size (List.drop 0 items.toList) = items.toList := by
      rw [List.drop_zero]; exact List.take_of_length_le (by simp)
    rw [hall, if_neg (by simp)]
    have up : ∀ b o, s.heap.get? b = some o → h₁.get? b = some o := fun b o e => hs₁.extBut b o (Nat.ne_of_lt (Heap.lt_size e)) (Heap.get?_push_of_some _ e)
    refine wpAny_bind (wpAny_holding (tuple_end (H.le up) hit₁ ((ht.push _).extBut hs₁.extBut hlt) (by simp) fun h₂ he₂ => ?_))
    simp only [Option.isSome_none, Bool.false_eq_true, if_false]
    exact wpAny_pure (h _ _ q (Step.grow L (fun b o e => he₂ b o (Nat.ne_of_lt (Heap.lt_size e)) (up b o e)) (Rest.same _ _ _ _)))
end
end Mine
end

section
open PySem PySem.W PyProof.Rows PySem.Builtin
set_option Elab.async false
set_option maxRecDepth 100000
set_option linter.all false
namespace Mine
section
variable {k : Bool} {c : Cx} {ρ ρ₁ ρ₂ : REnv} {g g' g₁ g₂ : Vw} {s s' s₁ s₂ : Shared}

noncomputable def HandV (A : Around) (g : Vw) : Prop := A.handled = none ∨ ∃ e o vs, A.handled = some (.ref e) ∧ g e = some o ∧ o.data = .fields vs ∧ vs[2]? = some .none
theorem HandV.mono {A : Around} (H : HandV A g) (l : Le g g') : HandV A g' := by
  rcases H with H | ⟨e, o, vs, h1, h2, h3⟩
  · exact .inl H
  · exact .inr ⟨e, o, vs, h1, l _ _ h2, h3⟩
theorem HandV.ok {A : Around} {h : Heap} (H : HandV A g) (l : Le g h.get?) : HandOK A h := by
  rcases H with H | ⟨e, o, vs, h1, h2, h3⟩
  · exact .inl H
  · exact .inr ⟨e, o, vs, h1, l _ _ h2, h3⟩
theorem HandV.as {A B : Around} (H : HandV A g) (e : B.handled = A.handled) : HandV B g := by
  unfold HandV at H ⊢
  rw [e]; exact H

theorem FrOK.seen (F : FrOK c ρ g s) (hg : Le g g') (hs : Le g' s.heap.get?) (hid : ∀ b, Own c b → g' b = none) : FrOK c ρ g' s :=
  ⟨F.env.mono (Le.refl _) hg, hs, hid, F.cell, F.apart⟩

/-- a for loop over the items of a dict -/
theorem for_items {xk xv : Str} {pk pv tp pos : Pos} {tk : Nat} {iter : Expr} {body : List Stmt} {l : List (Str × PV)} (ρs : Nat → REnv) (X : Addr → Prop) (H : Nat → Vw → Heap → Prop)
    (h1 : Ev k c (ρs 0) iter (.view l)) (hn : (l.map (·.1)).Nodup) (hxk : c.env.kindOf xk = some .local) (hxv : c.env.kindOf xv = some .local)
    (hX : ∀ i g h, H i g h → ∀ b, X b → h.get? b ≠ none ∧ ¬ Own c b) (hH : ∀ i g g' h h', H i g h → Le g g' → (∀ b o, X b → h.get? b = some o → h'.get? b = some o) → Le g' h'.get? → H i g' h')
    (hbody : ∀ i x d, l[i]? = some (x, d) → ∀ (g : Vw) (s : Shared) (Q : Flow → Shared → Prop) (E : Value → Shared → Prop), FrOK c ((xv, d) :: (xk, .str x) :: ρs i) g s → H i g s.heap → (∀ b, X b → g b = none) →
      (∀ g' s', SS (fun b => Own c b ∨ X b) k g s g' s' → FrOK c (ρs (i + 1)) g' s' → H (i + 1) g' s'.heap → Q .next s') → Wp c (execs body c.env) Q E s)
    {Q : Flow → Shared → Prop} {E : Value → Shared → Prop} (HV : HandV c.A g) (F : FrOK c (ρs 0) g s) (hh : H 0 g s.heap) (hid : ∀ b, X b → g b = none)
    (hQ : ∀ g' s', SS (fun b => Own c b ∨ X b) k g s g' s' → FrOK c (ρs l.length) g' s' → H l.length g' s'.heap → Q .next s')
    (hs : ∀ x, foldedSetIterable iter c.env x = pure x := by intro _; rfl) : Wp c (exec (.For (.Tuple [.Name xk pk, .Name xv pv] tk tp) iter body [] pos) c.env) Q E s := by
  refine wpAny_For (h1 g s _ E F.env F.le fun v g₀ s₀ st₀ r₀ => ?_) hs
  replace r₀ := r₀.inv
  cases r₀ with
  | mk z ev ed q =>
    rename_i v d es ep
    obtain ⟨kvs, hat, hk1, hk2⟩ := Rep.dictAt (st₀.sub _ _ ed) q hn
    have hlen : kvs.length = l.length := by have := congrArg List.length hk1; simpa using this
    have F₀ := F.step st₀
    have X₀ := fun b hb => (hX 0 _ _ hh b hb)
    have hid₀ : ∀ b, X b → g₀ b = none := fun b hb => st₀.hides (hid b hb) (X₀ b hb).1
    have hh₀ : H 0 g₀ s₀.heap := hH 0 _ _ _ _ hh st₀.up (fun b o _ e => st₀.heap b o e) st₀.sub
    have HV₀ := HV.mono st₀.up
    have ss₀ : SS (fun b => Own c b ∨ X b) k g s g₀ s₀ := SS.of st₀ fun b hb => by rcases hb with hb | hb; exact F.has b hb; exact (X₀ b hb).1
    refine wpAny_pyIter_items (knd := strKind PW c.w) ⟨_, st₀.sub _ _ ev, rfl, rfl⟩ hat ?_
    let I := s₀.heap.objs.size
    have hI₀ : s₀.heap.get? I = none := get_size_none _
    have hIs : s.heap.get? I = none := by
      cases q : s.heap.get? I with
      | none => rfl
      | some o => have := st₀.heap I o q; rw [hI₀] at this; cases this
    have hIo : ¬ Own c I := fun ho => F₀.has I ho hI₀
    have hIX : ¬ X I := fun hx => (hX 0 _ _ hh₀ I hx).1 hI₀
    have hIg : g₀ I = none := st₀.sub.none hI₀
    have hle := push_le s₀.heap { cls := .type "dict_itemiterator", data := .fields #[.none, .bool false, .ref d, .int 0 0, .int kvs.length 0, .int ep 0, .none, .none] }
    have hgd : ∀ {g' : Vw}, Le g₀ g' → g' d = some { cls := .type "dict", data := .dict es ep } := fun l => l _ _ ed
    refine for_loop (fun n s₁ => ∃ i g₁ ok ov, n = kvs.length + 1 - i ∧ i ≤ kvs.length ∧ SS (fun b => Own c b ∨ X b) k g s g₁ s₁ ∧ Le g₀ g₁ ∧ FrOK c (ρs i) g₁ s₁ ∧ H i g₁ s₁.heap ∧ (∀ b, X b → g₁ b = none) ∧ g₁ I = none ∧ IsItemIter s₁.heap I d i kvs.length ep ok ov) ?_ (kvs.length + 1)
      ⟨0, g₀, .none, .none, rfl, Nat.zero_le _, ss₀.touch (Z := fun _ => False) (fun b o _ e => hle b o e) (fun _ h => h.elim) (fun _ h => h.elim) (Rest.own _ _ _), Le.refl _, F₀.keep (Z := fun _ => False) (fun b o _ e => hle b o e) (fun _ h => h.elim), hH 0 _ _ _ _ hh₀ (Le.refl _) (fun b o _ e => hle b o e) (F₀.le.trans hle), hid₀, hIg, Heap.get?_push_size _ rfl⟩
    rintro n s₁ ⟨i, g₁, ok, ov, rfl, hi, ss₁, hgg, F₁, hh₁, hid₁, hI₁, hit₁⟩
    have hat₁ : s₁.heap.DictAt (strKind PW c.w) d kvs ep := by
      obtain ⟨o, es', ho, r⟩ := hat
      have e1 := st₀.sub _ _ ed
      rw [e1] at ho
      cases ho
      exact ⟨_, es', F₁.le _ _ (hgd hgg), r⟩
    have HV₁ := (HV₀.mono hgg)
    cases hv : kvs[i]? with
    | none =>
      have hin : i = kvs.length := Nat.le_antisymm hi (by simpa using hv)
      subst hin
      refine items_end (HV₁.ok F₁.le) hit₁ hat₁ hv fun h₂ hx₂ => ?_
      have hk₂ : ∀ b o, ¬ (b = I) → s₁.heap.get? b = some o → h₂.get? b = some o := fun b o hb e => hx₂ b o hb e
      have F₂ : FrOK c (ρs kvs.length) g₁ { s₁ with heap := h₂ } := F₁.keep (Z := fun b => b = I) hk₂ fun b hb => hb ▸ ⟨hI₁, hIo⟩
      have fin := hQ g₁ { s₁ with heap := h₂ } (ss₁.touch (Z := fun b => b = I) hk₂ (fun b hb => .inr (hb ▸ hIs)) (fun b hb => hb ▸ hI₁) (Rest.own _ _ _))
      rw [hlen] at F₂ hh₁
      exact fin F₂ (hH _ _ _ _ _ hh₁ (Le.refl _) (fun b o hb e => hk₂ b o (fun h => hIX (h ▸ hb)) e) F₂.le)
    | some kv =>
      obtain ⟨x, val⟩ := kv
      have hlt : i < kvs.length := (List.getElem?_eq_some_iff.mp hv).1
      obtain ⟨dd, hd, rd⟩ : ∃ dd, l[i]? = some (x, dd) ∧ Rep c.w.params g₀ val dd := by
        have e1 : (kvs.map (·.1))[i]? = some x := by rw [List.getElem?_map, hv]; rfl
        have e2 : (kvs.map (·.2))[i]? = some val := by rw [List.getElem?_map, hv]; rfl
        rw [hk1, List.getElem?_map] at e1
        cases hp : l[i]? with
        | none => rw [hp] at e1; cases e1
        | some p =>
          obtain ⟨p1, p2⟩ := p
          rw [hp] at e1
          have e1 : p1 = x := by simpa using e1
          have e3 : (l.map (·.2))[i]? = some p2 := by rw [List.getElem?_map, hp]; rfl
          obtain ⟨v', hv', rv'⟩ := hk2.at e3
          rw [e2] at hv'
          cases hv'
          exact ⟨p2, by rw [e1], rv'⟩
      refine wpAny_pyNext_items_item hit₁ hat₁ hv fun key h₂ hkey hout ht₂ hz₂ hk₂ => ?_
      obtain ⟨t, rfl⟩ := Value.isStrOf_shape hkey
      let T := s₁.heap.objs.size
      have hTn : s₁.heap.get? T = none := get_size_none _
      refine wpAny_letOwnedTupleGo_items hout fun h₃ he₃ hs₃ => ?_
      have hTI : T ≠ I := fun e => by rw [e, show s₁.heap.get? I = _ from hit₁] at hTn; cases hTn
      have ht₃ : h₃.get? T = some { cls := .type "tuple", data := .seq #[.str x t, val] } := (hs₃.2 T hTI).trans ht₂
      have hk₃ : ∀ b o, ¬ (b = I) → s₁.heap.get? b = some o → h₃.get? b = some o := fun b o hb e => hs₃.extBut b o hb (hk₂ b o hb e)
      have hTs : s.heap.get? T = none := by
        cases q : s.heap.get? T with
        | none => rfl
        | some o =>
          exfalso
          by_cases hTX : Own c T ∨ X T
          · rcases hTX with h | h
            · exact F₁.has T h hTn
            · exact (hX i _ _ hh₁ T h).1 hTn
          · have := ss₁.heap T o hTX q
            rw [hTn] at this; cases this
      have hTX : ¬ (Own c T ∨ X T) := by
        rintro (h | h)
        · exact F₁.has T h hTn
        · exact (hX i _ _ hh₁ T h).1 hTn
      have ss₃ : SS (fun b => Own c b ∨ X b) k g s g₁ { s₁ with heap := h₃ } := ss₁.touch (Z := fun b => b = I) hk₃ (fun b hb => .inr (hb ▸ hIs)) (fun b hb => hb ▸ hI₁) (Rest.own _ _ _)
      have F₃ : FrOK c (ρs i) g₁ { s₁ with heap := h₃ } := F₁.keep (Z := fun b => b = I) hk₃ fun b hb => hb ▸ ⟨hI₁, hIo⟩
      have hh₃ : H i g₁ h₃ := hH i _ _ _ _ hh₁ (Le.refl _) (fun b o hb e => hk₃ b o (fun h => hIX (h ▸ hb)) e) F₃.le
      have ss₄ := ss₃.reveal hTs hTX ht₃
      have hgT : g₁ T = none := F₁.le.none hTn
      have hg₄ : Le g₁ (put g₁ T { cls := .type "tuple", data := .seq #[.str x t, val] }) := put_le hgT
      have pn : ∀ b, b ≠ T → put g₁ T { cls := .type "tuple", data := .seq #[.str x t, val] } b = g₁ b := fun b hb => by unfold put; rw [if_neg hb]
      have F₄ := F₃.seen hg₄ ss₄.sub fun b hb => by rw [pn b (fun e => hTX (e ▸ .inl hb))]; exact F₁.hid b hb
      have hh₄ := hH i _ _ _ _ hh₃ hg₄ (fun b o _ e => e) ss₄.sub
      have hid₄ : ∀ b, X b → put g₁ T { cls := .type "tuple", data := .seq #[.str x t, val] } b = none := fun b hb => by rw [pn b (fun e => hTX (e ▸ .inr hb))]; exact hid₁ b hb
      have hI₄ : put g₁ T { cls := .type "tuple", data := .seq #[.str x t, val] } I = none := by rw [pn I (Ne.symm hTI)]; exact hI₁
      rw [arm_assign_Tuple]
      refine wpAny_bind (wpAny_standAt ?_)
      unfold PySem.unpack
      have rT : Rep c.w.params (put g₁ T { cls := .type "tuple", data := .seq #[.str x t, val] }) (.ref T) (.tuple [.str x, dd]) := .tuple (put_self _ _ _) rfl rfl (.cons (.str _ _) (.cons (rd.mono (hgg.trans hg₄)) .nil))
      refine wpAny_bind (wpAny_holding (unpack_H (n := 2) ((HV₁.mono hg₄).ok ss₄.sub) ss₄.sub rT rfl fun vs s₅ rs st₅ => ?_))
      have ss₅ := ss₄.trans (SS.of (k := k) st₅.any fun b hb => by
        rcases hb with hb | hb
        · exact F₄.has b hb
        · exact (hX i _ _ hh₄ b hb).1)
      have F₅ := F₄.step (k := k) st₅.any
      refine assign_all (k := k) (xs := [xk, xv]) (.cons (Sto.name (.inl hxk)) (.cons (Sto.name (.inl hxv)) .nil)) rs rfl F₅ fun s₆ st₆ F₆ => ?_
      have hX₅ : ∀ b, X b → s₅.heap.get? b ≠ none ∧ ¬ Own c b := hX i _ _ (hH i _ _ _ _ hh₄ (Le.refl _) (fun b o _ e => st₅.heap b o e) F₅.le)
      have hh₆ : H i _ s₆.heap := hH i _ _ _ _ hh₄ (Le.refl _) (fun b o hb e => st₆.heap b o (hX₅ b hb).2 (st₅.heap b o e)) F₆.le
      have hit₅ : IsItemIter s₅.heap I d (i + 1) kvs.length ep (.str x t) val := st₅.heap _ _ he₃
      have hit₆ : IsItemIter s₆.heap I d (i + 1) kvs.length ep (.str x t) val := st₆.heap _ _ hIo hit₅
      have ss₆ := ss₅.trans (⟨fun b o hb e => st₆.heap b o (fun h => hb (.inl h)) e, st₆.up, st₆.sub, fun b o e => .inl e, st₆.rest⟩ : SS (fun b => Own c b ∨ X b) k _ s₅ _ s₆)
      have hI₆ : s₆.heap.get? I ≠ none := by rw [show s₆.heap.get? I = _ from hit₆]; simp
      refine hbody i x dd hd _ s₆ _ _ F₆ hh₆ hid₄ fun g₇ s₇ ss₇ F₇ hh₇ => ?_
      refine ⟨kvs.length + 1 - (i + 1), by omega, i + 1, g₇, .str x t, val, rfl, hlt, ss₆.trans ss₇, (hgg.trans hg₄).trans ss₇.up, F₇, hh₇, fun b hb => ss₇.hides (hid₄ b hb) (hX i _ _ hh₆ b hb).1, ss₇.hides hI₄ hI₆, ?_⟩
      exact ss₇.heap _ _ (fun h => by rcases h with h | h; exact hIo h; exact hIX h) hit₆
end
end Mine
end

section
open PySem PySem.W PySem.W.X PyProof.Rows
set_option Elab.async false
set_option maxRecDepth 100000
set_option linter.all false
namespace Mine

/-- a value that is no new thing -/
noncomputable def XVal (s : Shared) (v₀ v : Value) (s' : Shared) : Prop := v = v₀ ∧ Le s.heap.get? s'.heap.get? ∧ Rest true s s'
theorem mem_le {h₀ h : Heap} {news : List (Addr × Obj)} (D : Mem h₀ h [] news) : Le h₀.get? h.get? := fun b o e => D.keep b o e (by simp [away])
theorem mem_rest {s : Shared} {h : Heap} {g : Array GenState} {d : Drawn} {t : Nat} {os : OsState} (hg : g = s.gens) (hd : d = s.drawn) (ho : os = s.os) : Rest true s ⟨h, g, d, t, os⟩ := by subst hg hd ho; exact Rest.same true s h t

theorem xval_of {s : Shared} {t : Nat} {v : Value} : XVal s v v ⟨s.heap, s.gens, s.drawn, t, s.os⟩ := ⟨rfl, Le.refl _, mem_rest rfl rfl rfl⟩
set_option hygiene false in
local macro_rules | `(tactic| x_close) => `(tactic| exact xval_of)

section
variable (w : World) (s : Shared) (K : (Mine.hd.heap_39 w.params).In s.heap) (hd : Option Value)
set_option maxHeartbeats 0 in
include K in
theorem x_isi_int (i : Int) (t : Tok) : wpAny (model PW w) (AX hd) (call (.builtin "isinstance") [.int i t, .type "int"]) (fun v s' => XVal s (.bool true) v s') (fun _ _ => False) s := by x_run
set_option maxHeartbeats 0 in
include K in
theorem x_isi_bool (i : Int) (t : Tok) : wpAny (model PW w) (AX hd) (call (.builtin "isinstance") [.int i t, .type "bool"]) (fun v s' => XVal s (.bool false) v s') (fun _ _ => False) s := by x_run
set_option maxHeartbeats 0 in
include K in
theorem x_isi_tup (i : Int) (t : Tok) : wpAny (model PW w) (AX hd) (call (.builtin "isinstance") [.int i t, .type "tuple"]) (fun v s' => XVal s (.bool false) v s') (fun _ _ => False) s := by x_run
set_option maxHeartbeats 0 in
include K in
theorem x_isi_stup (x : Str) (t : Tok) : wpAny (model PW w) (AX hd) (call (.builtin "isinstance") [.str x t, .type "tuple"]) (fun v s' => XVal s (.bool false) v s') (fun _ _ => False) s := by x_run
end
end Mine
end

section
open PySem PySem.W PyProof.Rows PySem.Builtin
set_option Elab.async false
set_option maxRecDepth 100000
set_option linter.all false
namespace Mine
section
variable {k : Bool} {w : World} {A : Around} {c : Cx} {ρ ρ₁ ρ₂ : REnv} {g g' g₁ g₂ : Vw} {s s' s₁ s₂ : Shared}

theorem isi_of {f : Value} {vs : List Value} {b : Bool} {s : Shared} {Q : Value → Shared → Prop} {E : Value → Shared → Prop} (B : Base w g) (L : Le g s.heap.get?) (h1 : A.depth ≤ 500) (h2 : A.units ≤ 400)
    (h : (Mine.hd.heap_39 w.params).In s.heap → wpAny (model PW w) (AX A.handled) (call f vs) (fun v s' => XVal s (.bool b) v s') (fun _ _ => False) s) (hQ : ∀ g' s', Step k g s g' s' → Q (.bool b) s') : wpAny (model PW w) A (call f vs) Q E s := by
  refine of_AX h1 h2 (wpAny_mono (h (B.kin L)) (fun v s' hv => ?_) fun _ _ h => h.elim)
  obtain ⟨rfl, hle, hr⟩ := hv
  exact hQ g s' (Step.grow L hle hr.any)
theorem CallV.isi_bool {i : Int} (h1 : A.depth ≤ 500) (h2 : A.units ≤ 400) : CallV k w A (.builtin "isinstance") [.int i, .ty "bool"] (.bool false) := fun g s vs Q E B L r hQ => by
  replace r := r.inv
  cases r with
  | mk r1 r2 =>
    replace r2 := r2.inv
    cases r2 with
    | mk r2 r3 =>
      cases r3.inv; cases r1.inv; cases r2.inv
      exact isi_of B L h1 h2 (fun K => x_isi_bool w s K _ _ _) fun g' s' st => hQ _ g' s' st (.bool _)
theorem CallV.isi_int {i : Int} (h1 : A.depth ≤ 500) (h2 : A.units ≤ 400) : CallV k w A (.builtin "isinstance") [.int i, .ty "int"] (.bool true) := fun g s vs Q E B L r hQ => by
  replace r := r.inv
  cases r with
  | mk r1 r2 =>
    replace r2 := r2.inv
    cases r2 with
    | mk r2 r3 =>
      cases r3.inv; cases r1.inv; cases r2.inv
      exact isi_of B L h1 h2 (fun K => x_isi_int w s K _ _ _) fun g' s' st => hQ _ g' s' st (.bool _)
theorem CallV.isi_tup {i : Int} (h1 : A.depth ≤ 500) (h2 : A.units ≤ 400) : CallV k w A (.builtin "isinstance") [.int i, .ty "tuple"] (.bool false) := fun g s vs Q E B L r hQ => by
  replace r := r.inv
  cases r with
  | mk r1 r2 =>
    replace r2 := r2.inv
    cases r2 with
    | mk r2 r3 =>
      cases r3.inv; cases r1.inv; cases r2.inv
      exact isi_of B L h1 h2 (fun K => x_isi_tup w s K _ _ _) fun g' s' st => hQ _ g' s' st (.bool _)
theorem CallV.isi_stup {i : Str} (h1 : A.depth ≤ 500) (h2 : A.units ≤ 400) : CallV k w A (.builtin "isinstance") [.str i, .ty "tuple"] (.bool false) := fun g s vs Q E B L r hQ => by
  replace r := r.inv
  cases r with
  | mk r1 r2 =>
    replace r2 := r2.inv
    cases r2 with
    | mk r2 r3 =>
      cases r3.inv; cases r1.inv; cases r2.inv
      exact isi_of B L h1 h2 (fun K => x_isi_stup w s K _ _ _) fun g' s' st => hQ _ g' s' st (.bool _)

/-! a dict in the making -/
inductive KR (P : Params) (g : Vw) : List (Str × Value) → List (Str × PV) → Prop
  | nil : KR P g [] []
  | cons {x : Str} {v : Value} {d : PV} {kvs : List (Str × Value)} {l : List (Str × PV)} : Rep P g v d → KR P g kvs l → KR P g ((x, v) :: kvs) ((x, d) :: l)
theorem KR.mono {P : Params} (h : Le g g') : ∀ {kvs l}, KR P g kvs l → KR P g' kvs l
  | _, _, .nil => .nil
  | _, _, .cons a r => .cons (a.mono h) (KR.mono h r)
theorem KR.length {P : Params} : ∀ {kvs l}, KR P g kvs l → kvs.length = l.length
  | _, _, .nil => rfl
  | _, _, .cons _ r => by rw [List.length_cons, List.length_cons, KR.length r]
theorem KR.snoc {P : Params} {x : Str} {v : Value} {d : PV} (a : Rep P g v d) : ∀ {kvs l}, KR P g kvs l → KR P g (kvs ++ [(x, v)]) (l ++ [(x, d)])
  | _, _, .nil => .cons a .nil
  | _, _, .cons b r => .cons b (KR.snoc a r)
theorem KR.any {P : Params} {x : Str} : ∀ {kvs l}, KR P g kvs l → (kvs.any fun kv => decide (kv.1 = x)) = l.any fun p => decide (p.1 = x)
  | _, _, .nil => rfl
  | _, _, .cons _ r => by rw [List.any_cons, List.any_cons, KR.any r]
theorem KR.put {P : Params} {x : Str} {v : Value} {d : PV} (a : Rep P g v d) : ∀ {kvs l}, KR P g kvs l → KR P g (kvs.map fun kv => if kv.1 = x then (kv.1, v) else kv) (l.map fun p => if p.1 = x then (p.1, d) else p)
  | _, _, .nil => .nil
  | _, _, .cons (x := y) b r => by
    simp only [List.map_cons]
    by_cases h : y = x
    · rw [if_pos h, if_pos h]; exact .cons a (KR.put a r)
    · rw [if_neg h, if_neg h]; exact .cons b (KR.put a r)
/-- what a dict becomes -/
noncomputable def setL (l : List (Str × PV)) (x : Str) (d : PV) : List (Str × PV) := if (l.any fun p => decide (p.1 = x)) = true then l.map fun p => if p.1 = x then (p.1, d) else p else l ++ [(x, d)]
theorem KR.stored {P : Params} {x : Str} {v : Value} {d : PV} {kvs : List (Str × Value)} {l : List (Str × PV)} (h : KR P g kvs l) (a : Rep P g v d) : KR P g (stored kvs x v) (setL l x d) := by
  unfold PySem.stored setL
  rw [h.any]
  split
  · exact h.put a
  · exact h.snoc a
theorem KR.value {P : Params} {x : Str} : ∀ {kvs l}, KR P g kvs l → (∃ v d, valueAt kvs x = some v ∧ l.lookup x = some d ∧ Rep P g v d) ∨ (valueAt kvs x = none ∧ l.lookup x = none)
  | _, _, .nil => .inr ⟨rfl, rfl⟩
  | _, _, .cons (x := y) (v := v) (d := d) (kvs := kvs) (l := l) b r => by
    unfold valueAt
    rw [List.find?_cons, List.lookup_cons]
    by_cases h : y = x
    · subst h
      left
      exact ⟨v, d, by simp, by simp, b⟩
    · rw [decide_eq_false h, beq_eq_false_iff_ne.mpr (Ne.symm h)]
      exact KR.value r
noncomputable def DRep (w : World) (g : Vw) (h : Heap) (D : Addr) (l : List (Str × PV)) : Prop := ∃ kvs, h.DictOf (strKind PW w) D kvs ∧ KR w.params g kvs l
theorem DRep.keep {h h' : Heap} {D : Addr} {l : List (Str × PV)} (d : DRep w g h D l) (lg : Le g g') (hk : ∀ o, h.get? D = some o → h'.get? D = some o) : DRep w g' h' D l := by
  obtain ⟨kvs, ⟨o, es, ep, ho, r⟩, h2⟩ := d
  exact ⟨kvs, ⟨o, es, ep, hk o ho, r⟩, h2.mono lg⟩
theorem DRep.has {h : Heap} {D : Addr} {l : List (Str × PV)} (d : DRep w g h D l) : h.get? D ≠ none := by
  obtain ⟨kvs, ⟨o, es, ep, ho, r⟩, h2⟩ := d
  rw [ho]; simp
theorem DRep.set {D : Addr} {l : List (Str × PV)} {x : Str} {t : Tok} {v : Value} {d : PV} {Q : Unit → Shared → Prop} {E : Value → Shared → Prop} (h0 : DRep w g s.heap D l) (r : Rep w.params g v d) (hsz : l.length ≤ sizeLine)
    (h : ∀ h', DRep w g h' D (setL l x d) → Heap.SameBut D s.heap h' → Q () { s with heap := h', toks := s.toks + 1 }) : wpAny (model PW w) A (setItem (.ref D) (.str x t) v) Q E s := by
  obtain ⟨kvs, h1, h2⟩ := h0
  exact wpAny_setItem_pairs (knd := strKind PW w) (strKind_is _ _ _ _) h1 (fun h' hm hs => h h' ⟨_, hm, h2.stored r⟩ hs) (by rw [h2.length]; exact hsz)

/-- a dict that is made is shown -/
theorem DRep.show {h : Heap} {D : Addr} {l : List (Str × PV)} (d : DRep w g h D l) : ∃ es n, h.get? D = some { cls := .type "dict", data := .dict es n } ∧ RepD w.params g es.toList l := by
  obtain ⟨kvs, ⟨o, es, ep, ho, hx, hd, hk, hp, hn⟩, h2⟩ := d
  obtain ⟨cls, dd, data, sl⟩ := o
  obtain ⟨h3, h4, h5⟩ := hx
  simp only at h3 h4 h5 hd
  subst h3 h4 h5 hd
  refine ⟨es, ep, ho, ?_⟩
  have hk' : ∀ e ∈ es.toList, ∃ k, (strKind PW w).is k e.key = true ∧ e.hash = (strKind PW w).hash k := fun e he => hk e (by simpa using he)
  clear hk hn ho
  generalize es.toList = L at hp hk'
  induction hp generalizing l with
  | nil => cases h2; exact .nil
  | cons hkey hval hrest ih =>
    rename_i e kv es' kvs'
    cases h2 with
    | cons a r =>
      rename_i y v d l
      obtain ⟨eh, ek, ev⟩ := e
      simp only at hkey hval
      subst hval
      obtain ⟨t, rfl⟩ := Value.isStrOf_shape hkey
      obtain ⟨y', h1, h3⟩ := hk' _ List.mem_cons_self
      have e1 : y' = y := Value.isStrOf_inj (.str y t) y' y h1 (by simp [Value.isStrOf])
      subst e1
      have e2 : eh = PyData.keyHash w.params y' := h3
      subst e2
      exact .cons a (ih r fun e he => hk' e (List.mem_cons_of_mem _ he))

theorem sysM_fresh (B : Base w g) (L : Le g s.heap.get?) : (s.heap.objs.size == sysModules) = false := by
  have h : (36 : Nat) < s.heap.objs.size := Heap.lt_size (L _ _ (B.K 36 (OB w 36) (by kernel_rfl)))
  rw [beq_eq_false_iff_ne]
  intro e
  have e : s.heap.objs.size = (1 : Nat) := e
  omega
end
end Mine
end

section
open PySem PySem.W PyProof.Rows PySem.Builtin
set_option Elab.async false
set_option maxRecDepth 100000
set_option linter.all false
namespace Mine
section
variable {k : Bool} {w : World} {A : Around} {c : Cx} {ρ ρ₁ ρ₂ : REnv} {g g' g₁ g₂ : Vw} {s s' s₁ s₂ : Shared}

noncomputable def CallP (p : Vw → Prop) (k : Bool) (w : World) (A : Around) (f : Value) (args : List PV) (d : PV) : Prop :=
  ∀ (g : Vw) (s : Shared) (vs : List Value) (Q : Value → Shared → Prop) (E : Value → Shared → Prop), p g → Base w g → Le g s.heap.get? → RepL w.params g vs args →
    (∀ v g' s', Step k g s g' s' → Rep w.params g' v d → Q v s') → wpAny (model PW w) A (call f vs) Q E s
noncomputable def FxP (p : Vw → Prop) (k : Bool) (c : Cx) (ρ : REnv) (t : List Stmt) (d : PV) : Prop :=
  ∀ (g : Vw) (s : Shared) (Q : Flow → Shared → Prop) (E : Value → Shared → Prop), p g → FrOK c ρ g s → (∀ v g' s', SS (Own c) k g s g' s' → Rep c.w.params g' v d → Q (.ret v) s') → Wp c (execs t c.env) Q E s
theorem CallP.fn {p : Vw → Prop} {fa cc : Addr} {body : List Stmt} {args : List PV} {xs : List Str} {d : PV} (ρ₀ : REnv) (I : IsFn w fa cc body) (hgen : (FD w fa).scope.isGenerator = false)
    (hbind : ∀ vs, vs.length = args.length → bindArgs (FD w fa) ⟨vs, []⟩ = pure (xs.zip vs)) (hl : xs.length = args.length)
    (hkind : ∀ n, ∀ x ∈ xs, (FD w fa).scope.names.lookup x = some .local ∨ ((FD w fa).scope.names.lookup x = some .cell ∧ ((cellsFrom n (FD w fa).scope.names []).lookup x).isSome = true))
    (hroom : A.depth < recursionLimit) (hρ : binds xs args [] = ρ₀) (h : ∀ L, FxP p k (fc w A fa L) ρ₀ body d) : CallP p k w A (.ref fa) args d := fun g s vs Q E hp B L r hQ => by
  refine wpAny_call (enter I hgen (hbind vs r.length) (by rw [hl, r.length]) hkind hroom B L r fun Lo s₁ F hle hown hrest => ?_)
  rw [hρ] at F
  exact h Lo g s₁ _ _ hp F fun v g' s' st rv => hQ v g' s' (st.leave hle hown hrest.any) rv
theorem CallP.v {p : Vw → Prop} {f : Value} {args : List PV} {d : PV} (h : CallP p k w A f args d) (hp : ∀ g, p g) : CallV k w A f args d := fun g s vs Q E B L r hQ => h g s vs Q E (hp g) B L r hQ

/-- what a key's value becomes -/
noncomputable def plusV : PV → PV → PV
  | .int a, .int b => .int (a + b)
  | .str a, .str b => .str (a ++ b)
  | x, _ => x
noncomputable def addC (l : List (Str × PV)) (x : Str) (v : PV) : List (Str × PV) := match l.lookup x with | some o => setL l x (plusV o v) | none => setL l x v
/-- what may be added -/
noncomputable def CanAdd (l : List (Str × PV)) (x : Str) (v : PV) : Prop := match l.lookup x with | some o => (∃ a b, o = .int a ∧ v = .int b) ∨ (∃ a b, o = .str a ∧ v = .str b ∧ a.length + b.length ≤ sizeLine) | none => True
noncomputable def NumOrText : PV → Prop
  | .int _ => True
  | .str _ => True
  | _ => False

theorem setL_new {l : List (Str × PV)} {x : Str} {d : PV} (h : x ∉ l.map (·.1)) : setL l x d = l ++ [(x, d)] := by
  unfold setL
  rw [if_neg]
  rw [List.any_eq_true]
  rintro ⟨p, hp, e⟩
  exact h (List.mem_map.mpr ⟨p, hp, by simpa using e⟩)

/-- a dict in the making is hidden -/
noncomputable def HD (w : World) (D : Addr) (ls : Nat → List (Str × PV)) (c : Cx) (i : Nat) (g : Vw) (h : Heap) : Prop := DRep w g h D (ls i) ∧ ¬ Own c D
theorem HD.has {D : Addr} {ls : Nat → List (Str × PV)} {i : Nat} {g : Vw} {h : Heap} (x : HD w D ls c i g h) : ∀ b, b = D → h.get? b ≠ none ∧ ¬ Own c b := fun b hb => hb ▸ ⟨x.1.has, x.2⟩
theorem HD.keep {D : Addr} {ls : Nat → List (Str × PV)} {i : Nat} {g g' : Vw} {h h' : Heap} (x : HD w D ls c i g h) (lg : Le g g') (hk : ∀ b o, b = D → h.get? b = some o → h'.get? b = some o) (_ : Le g' h'.get?) : HD w D ls c i g' h' :=
  ⟨x.1.keep lg fun o e => hk D o rfl e, x.2⟩

theorem FrOK.dset {D : Addr} {h' : Heap} {t : Nat} (F : FrOK c ρ g s) (hs : Heap.SameBut D s.heap h') (hD : ¬ Own c D) (hg : g D = none) : FrOK c ρ g { s with heap := h', toks := t } :=
  F.keep (Z := fun b => b = D) (fun b o hb e => hs.extBut b o hb e) fun b hb => hb ▸ ⟨hg, hD⟩
theorem SS.dset {D : Addr} {h' : Heap} {t : Nat} (L : Le g s.heap.get?) (hs : Heap.SameBut D s.heap h') (hg : g D = none) : SS (fun b => Own c b ∨ b = D) k g s g { s with heap := h', toks := t } :=
  (SS.refl L).touch (Z := fun b => b = D) (fun b o hb e => hs.extBut b o hb e) (fun b hb => .inl (.inr hb)) (fun b hb => hb ▸ hg) (Rest.same _ _ _ _)

theorem DRep.step {D : Addr} {l : List (Str × PV)} (d : DRep w g s.heap D l) (st : Step k g s g' s') : DRep w g' s'.heap D l := d.keep st.up fun o e => st.heap D o e
theorem FrOK.ssD {D : Addr} (F : FrOK c ρ g s) (st : Step k g s g' s') (h : s.heap.get? D ≠ none) : SS (fun b => Own c b ∨ b = D) k g s g' s' := SS.of st fun b hb => by
  rcases hb with hb | hb
  · exact F.has b hb
  · exact hb ▸ h

theorem set_stmt {D : Addr} {l : List (Str × PV)} {x : Str} {d : PV} {o i value : Expr} {pos' pos : Pos} {Q : Flow → Shared → Prop} {E : Value → Shared → Prop} (hv : Ev k c ρ value d) (ho : Ev k c ρ o (.hid D)) (hi : Ev k c ρ i (.str x))
    (F : FrOK c ρ g s) (hd : DRep c.w g s.heap D l) (hD : ¬ Own c D) (hg : g D = none) (hsz : l.length ≤ sizeLine) (hs : swapsWith value (some (.Subscript o i pos')) pos.line c.env = pure false)
    (h : ∀ g' s', SS (fun b => Own c b ∨ b = D) k g s g' s' → FrOK c ρ g' s' → DRep c.w g' s'.heap D (setL l x d) → Q .next s') : Wp c (exec (.Assign [.Subscript o i pos'] value pos) c.env) Q E s := by
  refine wpAny_Assign_Subscript ?_ hs
  refine hv g s _ E F.env F.le fun v g1 s1 st1 r1 => ?_
  refine ho g1 s1 _ E (F.step st1).env st1.sub fun ov g2 s2 st2 r2 => ?_
  refine hi g2 s2 _ E ((F.step st1).step st2).env st2.sub fun iv g3 s3 st3 r3 => ?_
  replace r2 := r2.inv
  cases r2
  replace r3 := r3.inv
  cases r3
  have st := (st1.trans st2).trans st3
  have hg3 : g3 D = none := st.hides hg hd.has
  have F3 := F.step st
  refine (hd.step st).set (r1.mono (st2.trans st3).up) hsz fun h' hd' hs' => ?_
  exact h g3 _ ((F.ssD st hd.has).trans (SS.dset st.sub hs' hg3)) (F3.dset hs' hD hg3) hd'

theorem aug_stmt {D : Addr} {l : List (Str × PV)} {x : Str} {d old new : PV} {o i value : Expr} {pos' pos : Pos} {Q : Flow → Shared → Prop} {E : Value → Shared → Prop} (hv : Ev k c ρ value d) (ho : Ev k c ρ o (.hid D)) (hi : Ev k c ρ i (.str x)) (hl : l.lookup x = some old)
    (hop : IopV k c .Add old d new) (F : FrOK c ρ g s) (hd : DRep c.w g s.heap D l) (hD : ¬ Own c D) (hg : g D = none) (hsz : l.length ≤ sizeLine) (ha : ∀ ov iv new, augStore i ov iv new = (do holding [new, ov, iv] (setItem ov iv new); release [new, ov, iv] []; pure .next))
    (h : ∀ g' s', SS (fun b => Own c b ∨ b = D) k g s g' s' → FrOK c ρ g' s' → DRep c.w g' s'.heap D (setL l x new) → Q .next s') : Wp c (exec (.AugAssign (.Subscript o i pos') .Add value pos) c.env) Q E s := by
  refine wpAny_AugAssign_Subscript_any ?_ ha
  refine ho g s _ E F.env F.le fun ov g1 s1 st1 r1 => ?_
  refine hi g1 s1 _ E (F.step st1).env st1.sub fun iv g2 s2 st2 r2 => ?_
  replace r1 := r1.inv
  cases r1
  replace r2 := r2.inv
  cases r2
  have st12 := st1.trans st2
  have F2 := F.step st12
  obtain ⟨kvs, hk1, hk2⟩ := hd.step st12
  rcases hk2.value (x := x) with ⟨vo, d', h1, h2, ro⟩ | ⟨_, h2⟩
  · rw [hl] at h2
    cases h2
    refine wpAny_getItem_of (knd := strKind PW c.w) (strKind_is _ _ _ _) hk1.mapOf h1 ?_
    have st3 : Step k g2 s2 g2 { s2 with toks := s2.toks + 1 } := Step.tok F2.le _
    refine hv g2 _ _ E (F2.step st3).env st3.sub fun v g4 s4 st4 r4 => ?_
    have st34 := st3.trans st4
    refine hop g4 s4 vo v _ E ((F2.step st34).env.base) st4.sub (ro.mono st34.up) r4 fun nv g5 s5 st5 r5 => ?_
    have st := (st12.trans st34).trans st5
    have hg5 : g5 D = none := st.hides hg hd.has
    refine (hd.step st).set r5 hsz fun h' hd' hs' => ?_
    exact h g5 _ ((F.ssD st hd.has).trans (SS.dset st.sub hs' hg5)) ((F.step st).dset hs' hD hg5) hd'
  · rw [hl] at h2; cases h2

theorem in_test {D : Addr} {l : List (Str × PV)} {x : Str} {o i : Expr} {pos : Pos} {Q : Bool → Shared → Prop} {E : Value → Shared → Prop} (ho : Ev k c ρ o (.hid D)) (hi : Ev k c ρ i (.str x))
    (F : FrOK c ρ g s) (hd : DRep c.w g s.heap D l) (hsys : (D == sysModules) = false) (hm : behindInMarks .In o = false)
    (h : ∀ g' s', Step k g s g' s' → Q (l.lookup x).isSome s') : Wp c (isTrue (.Compare i [.In] [o] pos) c.env (eval (.Compare i [.In] [o] pos) c.env)) Q E s := by
  refine wpAny_isTrue_Compare1 ?_ hm
  refine hi g s _ E F.env F.le fun iv g1 s1 st1 r1 => ?_
  refine ho g1 s1 _ E (F.step st1).env st1.sub fun ov g2 s2 st2 r2 => ?_
  replace r1 := r1.inv
  cases r1
  replace r2 := r2.inv
  cases r2
  have st12 := st1.trans st2
  obtain ⟨kvs, hk1, hk2⟩ := hd.step st12
  refine wpAny_in_of (knd := strKind PW c.w) (strKind_is _ _ _ _) hsys hk1.mapOf ?_
  have e : (valueAt kvs x).isSome = (l.lookup x).isSome := by
    rcases hk2.value (x := x) with ⟨v, d, h1, h2, _⟩ | ⟨h1, h2⟩
    · rw [h1, h2]; rfl
    · rw [h1, h2]; rfl
  rw [e]
  exact wpAny_truthy_bool (h g2 _ (st12.trans (Step.tok st12.sub _)))


theorem Ev.meth0 {o : Expr} {name : Str} {apos pos : Pos} {a d : PV} {T id : String} (hbase : attributeBase o name c.env (eval o c.env) = eval o c.env) (hline : (apos.endLine == pos.line) = true)
    (pa : PlainAttrs T) (slot : Slot T name id) (ty : typeOf (.builtin id) = pure (.type "method_descriptor"))
    (h0 : Ev k c ρ o a) (hT : OfT k T a) (h2 : CallV k c.w c.A (.builtin id) [a] d) : Ev k c ρ (.Call (.Attribute o name apos) [] [] pos) d := fun g s Q E F L h =>
  wpAny_Call_method_lateS hbase rfl hline (h0 g s _ E F L fun v g' s' st r => by
    obtain ⟨t1, t2⟩ := hT c.w.params g' s' v st.sub r
    refine ⟨T, id, pa, slot, ty, t1, t2, Calls.callWith_builtin rfl (PyProof.Rows.evalArgs_none ?_)⟩
    exact h2 g' s' [v] Q E (F.base.mono st.up) st.sub (.cons r .nil) fun v3 g3 s3 st3 r3 => h v3 g3 s3 (st.trans st3) r3)

set_option maxHeartbeats 0 in
theorem f_add_callers {lt : List (Str × PV)} {x : Str} {v : PV} (hn : (lt.map (·.1)).Nodup) (hsz : lt.length ≤ 2 ^ 20) (hv : NumOrText v) (hok : CanAdd lt x v) (hroom : A.depth ≤ 480) (hu : A.units ≤ 300) :
    CallP (HandV A) k w A (.ref 120) [.dict lt, .dict [(x, v)]] (.dict (addC lt x v)) := by
  refine CallP.fn (cc := 119) (xs := ["target", "source"]) [("source", .dict [(x, v)]), ("target", .dict lt)] ⟨by kernel_rfl, by kernel_rfl, by kernel_rfl, by kernel_rfl, ⟨_, _, rfl, rfl⟩, rfl, by kernel_rfl, by kernel_rfl, by kernel_rfl, by kernel_rfl, by kernel_rfl⟩ (by kernel_rfl)
    (bind2 rfl fun _ _ => by kernel_rfl) rfl (fun n => mem2 (.inl (by kernel_rfl)) (mem1 (.inl (by kernel_rfl)))) (by unfold recursionLimit; (first | lia | omega)) rfl fun L g s Q E HV F h => ?_
  have hvw : HandV (fc w A 120 L).A g := HV.as rfl
  refine wpAny_execs_cons (wpAny_Assign_Name (wpAny_Dict_empty ?_) (by rfl))
  have hn0 := get_size_none s.heap
  have hsys := sysM_fresh F.env.base F.le
  generalize hDe : s.heap.objs.size = D at hn0 hsys
  have hsz' : (2 : Nat) ^ 20 ≤ sizeLine := by rw [sizeLine_eq]; (first | lia | omega)
  have hDo : ¬ Own (fc w A 120 L) D := fun ho => F.has D ho hn0
  have hDg : g D = none := F.le.none hn0
  have st1 : Step k g s g { s with heap := s.heap.push { cls := .type "dict", data := .dict #[] } } := Step.grow F.le (push_le _ _) (Rest.own _ _ _)
  have hd1 : DRep w g (s.heap.push { cls := .type "dict", data := .dict #[] }) D [] := ⟨[], by rw [← hDe]; exact Heap.DictOf.new (knd := strKind PW w) s.heap, .nil⟩
  refine store_V (k := k) (F.step st1) (.hid D) (.inl (by kernel_rfl)) fun s2 st2 F2 => ?_
  have hd2 : DRep w g s2.heap D [] := hd1.keep (Le.refl _) fun o e => st2.heap D o hDo e
  refine wpAny_execs_cons ?_
  refine for_items (c := fc w A 120 L) (k := k) (l := lt) (fun _ => [("new_callers", .hid D), ("source", .dict [(x, v)]), ("target", .dict lt)]) (fun b => b = D) (HD w D (fun i => lt.take i) (fc w A 120 L))
    (Ev.meth0 (T := "dict") (id := "dict.items") rfl (by rfl) PySem.F.plainAttrs_dict PySem.F.slot_dict_items PySem.F.type_dict_items (by one_item) OfT.dict (CallV.items hn)) hn (by kernel_rfl) (by kernel_rfl)
    (fun i g h H => H.has) (fun i g g' h h' H lg hk _ => H.keep lg hk (by assumption)) ?_ hvw F2 ⟨hd2, hDo⟩ (fun b hb => hb ▸ hDg) ?_
  · intro i y d hi g s Q E F H hid h
    have hlen : i < lt.length := (List.getElem?_eq_some_iff.mp hi).1
    have hy : y ∉ (lt.take i).map (·.1) := by
      intro hm
      rw [List.map_take] at hm
      obtain ⟨j, hj⟩ := List.mem_iff_getElem?.mp hm
      rw [List.getElem?_take] at hj
      split at hj
      · rename_i hji
        rw [List.getElem?_map] at hj
        have e1 : (lt.map (·.1))[j]? = some y := by rw [List.getElem?_map]; exact hj
        have e2 : (lt.map (·.1))[i]? = some y := by rw [List.getElem?_map, hi]; rfl
        obtain ⟨a1, a2⟩ := List.getElem?_eq_some_iff.mp e1
        obtain ⟨b1, b2⟩ := List.getElem?_eq_some_iff.mp e2
        exact (List.pairwise_iff_getElem.mp hn j i a1 b1 hji) (a2.trans b2.symm)
      · cases hj
    refine wpAny_execs_cons (set_stmt (k := k) (D := D) (l := lt.take i) (x := y) (d := d) (by one_item) (by one_item) (by one_item) F H.1 H.2 (hid D rfl) (by rw [List.length_take]; (first | lia | omega)) (by rfl) fun g' s' st F' hd' => wpAny_execs_nil ?_)
    refine h g' s' st (F'.less ?_) ⟨?_, hDo⟩
    · one_place
    · rw [setL_new hy] at hd'
      show DRep w g' s'.heap D (lt.take (i + 1))
      rw [List.take_add_one, hi]
      exact hd'
  · intro g3 s3 st3 F3 H3
    have hd3 : DRep w g3 s3.heap D lt := by have : DRep w g3 s3.heap D (lt.take lt.length) := H3.1; rwa [List.take_length] at this
    have hg3 : g3 D = none := st3.hides hDg hd2.has
    have hv3 : HandV (fc w A 120 L).A g3 := hvw.mono st3.up
    refine wpAny_execs_cons ?_
    refine for_items (c := fc w A 120 L) (k := k) (l := [(x, v)]) (fun _ => [("new_callers", .hid D), ("source", .dict [(x, v)]), ("target", .dict lt)]) (fun b => b = D) (HD w D (fun i => if i = 0 then lt else addC lt x v) (fc w A 120 L))
      (Ev.meth0 (T := "dict") (id := "dict.items") rfl (by rfl) PySem.F.plainAttrs_dict PySem.F.slot_dict_items PySem.F.type_dict_items (by one_item) OfT.dict (CallV.items (by simp))) (by simp) (by kernel_rfl) (by kernel_rfl)
      (fun i g h H => H.has) (fun i g g' h h' H lg hk _ => H.keep lg hk (by assumption)) ?_ hv3 F3 ⟨hd3, hDo⟩ (fun b hb => hb ▸ hg3) ?_
    · intro i y d hi g s Q E F H hid h
      have hi0 : i = 0 ∧ y = x ∧ d = v := by
        cases i with
        | zero => simp at hi; exact ⟨rfl, hi.1.symm, hi.2.symm⟩
        | succ i => simp at hi
      obtain ⟨rfl, rfl, rfl⟩ := hi0
      have hd0 : DRep w g s.heap D lt := H.1
      have fin : ∀ {Q' : Flow → Shared → Prop} {g' : Vw} {s' : Shared}, (∀ g' s', SS (fun b => Own (fc w A 120 L) b ∨ b = D) k g s g' s' → FrOK (fc w A 120 L) [("new_callers", .hid D), ("source", .dict [(y, d)]), ("target", .dict lt)] g' s' → HD w D (fun i => if i = 0 then lt else addC lt y d) (fc w A 120 L) (0 + 1) g' s'.heap → Q' .next s') →
          SS (fun b => Own (fc w A 120 L) b ∨ b = D) k g s g' s' → FrOK (fc w A 120 L) [("caller", d), ("func", .str y), ("new_callers", .hid D), ("source", .dict [(y, d)]), ("target", .dict lt)] g' s' → DRep w g' s'.heap D (addC lt y d) → Q' .next s' := by
        intro Q' g' s' h st F' hd'
        refine h g' s' st (F'.less ?_) ⟨hd', hDo⟩
        one_place
      refine wpAny_execs_cons (wpAny_If ?_)
      refine in_test (k := k) (D := D) (l := lt) (x := y) (by one_item) (by one_item) F hd0 hsys (by rfl) fun g4 s4 st4 => ?_
      have F4 := F.step st4
      have hd4 := hd0.step st4
      have hg4 : g4 D = none := st4.hides (hid D rfl) hd0.has
      cases hl : lt.lookup y with
      | none =>
        rw [if_neg (by simp)]
        refine wpAny_execs_cons (set_stmt (k := k) (D := D) (l := lt) (x := y) (d := d) (by one_item) (by one_item) (by one_item) F4 hd4 hDo hg4 (by first | decide | lia | omega) (by rfl) fun g' s' st F' hd' => wpAny_execs_nil (wpAny_execs_nil ?_))
        refine fin h ((F.ssD st4 hd0.has).trans st) F' ?_
        have e : addC lt y d = setL lt y d := by unfold addC; rw [hl]
        rw [e]; exact hd'
      | some old =>
        rw [if_pos (by simp)]
        have tup : CallV k w (fc w A 120 L).A (.builtin "isinstance") [d, .ty "tuple"] (.bool false) := by
          have a1 : (fc w A 120 L).A.depth ≤ 500 := by show A.depth + 1 ≤ 500; (first | lia | omega)
          have a2 : (fc w A 120 L).A.units ≤ 400 := by show A.units + 3 ≤ 400; (first | lia | omega)
          cases d with
          | int i => exact CallV.isi_tup a1 a2
          | str x => exact CallV.isi_stup a1 a2
          | _ => exact hv.elim
        refine wpAny_execs_cons (wpAny_If ?_)
        refine Tr.plain (k := k) (b := false) (c := fc w A 120 L) (ρ := [("caller", d), ("func", .str y), ("new_callers", .hid D), ("source", .dict [(y, d)]), ("target", .dict lt)])
          (Ev.call_b (id := "isinstance") (ds := [d, .ty "tuple"]) (by kernel_rfl) (by kernel_rfl) (by kernel_rfl) (EvL.cons rfl (by one_item) (EvL.cons rfl (by one_item) EvL.nil)) tup rfl (by rfl) (by decide +kernel) (by kernel_rfl)) rfl g4 s4 _ E F4.env F4.le fun g5 s5 st5 => ?_
        rw [if_neg (by simp)]
        have F5 := F4.step st5
        have hd5 := hd4.step st5
        have hop : IopV k (fc w A 120 L) .Add old d (plusV old d) := by
          unfold CanAdd at hok
          rw [hl] at hok
          rcases hok with ⟨a, b, rfl, rfl⟩ | ⟨a, b, rfl, rfl, hs⟩
          · exact IopV.add
          · exact IopV.add_str hs
        refine wpAny_execs_cons (aug_stmt (k := k) (D := D) (l := lt) (x := y) (d := d) (old := old) (by one_item) (by one_item) (by one_item) hl hop F5 hd5 hDo (st5.hides hg4 hd4.has) (by first | decide | lia | omega) (by intro _ _ _; rfl) fun g' s' st F' hd' => wpAny_execs_nil (wpAny_execs_nil (wpAny_execs_nil ?_)))
        refine fin h ((F.ssD (st4.trans st5) hd0.has).trans st) F' ?_
        have e : addC lt y d = setL lt y (plusV old d) := by unfold addC; rw [hl]
        rw [e]; exact hd'
    · intro g6 s6 st6 F6 H6
      have hd6 : DRep w g6 s6.heap D (addC lt x v) := H6.1
      have hg6 : g6 D = none := st6.hides hg3 hd3.has
      refine wpAny_execs_cons (wpAny_Return_some ?_)
      refine Ev.loc' (k := k) (c := fc w A 120 L) (ρ := [("new_callers", .hid D), ("source", .dict [(x, v)]), ("target", .dict lt)]) (d := .hid D) (by kernel_rfl) Look.here (by kernel_rfl) g6 s6 _ E F6.env F6.le fun rv g7 s7 st7 r7 => ?_
      replace r7 := r7.inv
      cases r7
      have hd7 := hd6.step st7
      obtain ⟨es, n, hD7, rep⟩ := hd7.show
      have ss1 : SS (Own (fc w A 120 L)) k g s g s2 := (F.ss st1).trans st2
      have ss2 : SS (Own (fc w A 120 L)) k g s g6 s6 := ss1.wide (Y := fun b => Own (fc w A 120 L) b ∨ b = D) (st3.trans st6) (fun b hb => .inl hb) fun b hb hno => by
        rcases hb with hb | hb
        · exact absurd hb hno
        · exact hb ▸ hn0
      have ss3 := (ss2.trans (F6.ss st7)).reveal hn0 hDo hD7
      have hg7 : g7 D = none := st7.hides hg6 hd6.has
      exact h _ _ _ ss3 (.dict hsys (put_self _ _ _) (RepD.mono (put_le hg7) rep))
end
end Mine
end

section
open PySem PySem.W PyProof.Rows PySem.Builtin
set_option Elab.async false
set_option maxRecDepth 100000
set_option linter.all false
namespace Mine
section
variable {k : Bool} {w : World} {A : Around} {c : Cx} {ρ ρ₁ ρ₂ : REnv} {g g' g₁ g₂ : Vw} {s s' s₁ s₂ : Shared}

theorem Ev.free' {x : Str} {pos : Pos} {d : PV} (hk : c.env.kindOf x = some .free) (hd : Look ρ x d) (hn : (x == ("__debug__" : Str)) = false) (hc : (x == ("__classdict__" : Str)) = false) : Ev k c ρ (.Name x pos) d := Ev.free hk hd.eq hn hc

theorem unpack_stmt {elts : List Expr} {tk : Nat} {tpos pos : Pos} {value : Expr} {xs : List Str} {ds : List PV} {Q : Flow → Shared → Prop} {E : Value → Shared → Prop} (h1 : Ev k c ρ value (.tuple ds)) (hl : xs.length = ds.length) (HV : HandV c.A g)
    (hts : Stos k c ((assignEach elts c.env).map (·.2)) xs) (hn : (assignEach elts c.env).length = ds.length) (hstar : (assignEach elts c.env).findIdx? (·.1) = none)
    (hs : swapsWithSole [.Tuple elts tk tpos] value pos.line c.env = pure false) (hw : swappedStores [.Tuple elts tk tpos] value c.env = pure none) (F : FrOK c ρ g s)
    (h : ∀ g' s', SS (Own c) k g s g' s' → FrOK c (binds xs ds ρ) g' s' → Q .next s') : Wp c (exec (.Assign [.Tuple elts tk tpos] value pos) c.env) Q E s := by
  refine Assign_Tuple (h1 g s _ E F.env F.le fun v g' s' st r => ?_) hs hw
  rw [arm_assign_Tuple]
  refine wpAny_bind (wpAny_standAt ?_)
  unfold PySem.unpack
  rw [hn, hstar]
  refine wpAny_bind (wpAny_holding (unpack_H ((HV.mono st.up).ok st.sub) st.sub r rfl fun vs s₂ rs st₂ => ?_))
  exact assign_all hts rs hl ((F.step st).step st₂) fun s₃ st₃ F₃ => h g' s₃ ((F.ss (st.trans st₂.any)).trans st₃) F₃

/-- from a view on -/
noncomputable def EvG (g₀ : Vw) (k : Bool) (c : Cx) (ρ : REnv) (e : Expr) (d : PV) : Prop :=
  ∀ (g : Vw) (s : Shared) (Q : Value → Shared → Prop) (E : Value → Shared → Prop), Le g₀ g → EnvOK c ρ g s.heap → Le g s.heap.get? → (∀ v g' s', Step k g s g' s' → Rep c.w.params g' v d → Q v s') → Wp c (eval e c.env) Q E s
noncomputable def EvLG (g₀ : Vw) (k : Bool) (c : Cx) (ρ : REnv) (es : List Expr) (ds : List PV) : Prop :=
  ∀ (pos : Pos) (g : Vw) (s : Shared) (Q : List Value → Shared → Prop) (E : Value → Shared → Prop), Le g₀ g → EnvOK c ρ g s.heap → Le g s.heap.get? → (∀ vs g' s', Step k g s g' s' → RepL c.w.params g' vs ds → Q vs s') → Wp c (spliced (backTo pos (starEach es c.env))) Q E s
theorem Ev.toG {e : Expr} {d : PV} {g₀ : Vw} (h : Ev k c ρ e d) : EvG g₀ k c ρ e d := fun g s Q E _ => h g s Q E
theorem EvLG.nil {g₀ : Vw} : EvLG g₀ k c ρ [] [] := fun pos g s Q E _ F L h => args_nil (h [] g s (Step.refl L) .nil)
theorem EvLG.cons {g₀ : Vw} {e : Expr} {rest : List Expr} {d : PV} {ds : List PV} (he : starEach (e :: rest) c.env = (false, eval e c.env) :: starEach rest c.env) (h1 : EvG g₀ k c ρ e d) (h2 : EvLG g₀ k c ρ rest ds) : EvLG g₀ k c ρ (e :: rest) (d :: ds) := fun pos g s Q E H F L h =>
  args_cons (h1 g s _ E H F L fun v g' s' st r => h2 pos g' s' _ E (H.trans st.up) (F.step st) st.sub fun vs g'' s'' st' r' => h _ g'' s'' (st.trans st') (.cons (r.mono st'.up) r')) he
theorem EvG.tuple {g₀ : Vw} {es : List Expr} {ds : List PV} {kd : Nat} {pos : Pos} (h1 : EvLG g₀ k c ρ es ds) (hsz : ds.length ≤ sizeLine) : EvG g₀ k c ρ (.Tuple es kd pos) (.tuple ds) := fun g s Q E H F L h =>
  Tuple_ (h1 pos g s _ E H F L fun vs g' s' st r => newTuple_V st.sub r (by rw [r.length]; exact hsz) fun v g'' s'' st' r' => h v g'' s'' (st.trans st') r')
theorem EvG.call_f {g₀ : Vw} {p : Vw → Prop} {x : Str} {np pos : Pos} {fa : Addr} {o : Obj} {fd : FuncData} {e : Expr} {rest : List Expr} {ds : List PV} {d : PV} (hk : c.env.kindOf x = some .globalImplicit) (hv : nsIn (KF c.w) mainGlobals x = some (some (.ref fa)))
    (ho : (KF c.w).lookup fa = some o) (hf : o.data = .func fd) (hp : ∀ g, Le g₀ g → p g)
    (h1 : EvL k c ρ (e :: rest) ds) (h2 : CallP p k c.w c.A (.ref fa) ds d) (he : starEach (e :: rest) c.env = (false, eval e c.env) :: starEach rest c.env)
    (hd : (x == ("__debug__" : Str)) = false) : EvG g₀ k c ρ (.Call (.Name x np) (e :: rest) [] pos) d := fun g s Q E H F L h =>
  Call_ (ld_glob F L hk hv (callWith_def hf (h1 pos g s _ E F L fun vs g' s' st r => ⟨(F.base.mono st.up).kin st.sub _ _ ho, h2 g' s' vs Q E (hp _ (H.trans st.up)) (F.base.mono st.up) st.sub r fun v g'' s'' st' r' => h v g'' s'' (st.trans st') r'⟩) he) hd)


/-- the books -/
noncomputable abbrev bookV (a b c d : Int) (l : List (Str × PV)) : PV := .tuple [.int a, .int b, .int c, .int d, .dict l]

set_option maxHeartbeats 0 in
theorem f_add_stats {a1 a2 a3 a4 b1 b2 b3 b4 : Int} {lt : List (Str × PV)} {x : Str} {v : PV} (hn : (lt.map (·.1)).Nodup) (hsz : lt.length ≤ 2 ^ 20) (hv : NumOrText v) (hok : CanAdd lt x v) (hroom : A.depth ≤ 470) (hu : A.units ≤ 280) :
    CallP (HandV A) k w A (.ref 113) [bookV a1 a2 a3 a4 lt, bookV b1 b2 b3 b4 [(x, v)]] (bookV (b1 + a1) (b2 + a2) (b3 + a3) (b4 + a4) (addC lt x v)) := by
  refine CallP.fn (cc := 112) (xs := ["target", "source"]) [("source", bookV b1 b2 b3 b4 [(x, v)]), ("target", bookV a1 a2 a3 a4 lt)] ⟨by kernel_rfl, by kernel_rfl, by kernel_rfl, by kernel_rfl, ⟨_, _, rfl, rfl⟩, rfl, by kernel_rfl, by kernel_rfl, by kernel_rfl, by kernel_rfl, by kernel_rfl⟩ (by kernel_rfl)
    (bind2 rfl fun _ _ => by kernel_rfl) rfl (fun n => mem2 (.inl (by kernel_rfl)) (mem1 (.inl (by kernel_rfl)))) (by unfold recursionLimit; omega) rfl fun L g s Q E HV F h => ?_
  have hvw : HandV (fc w A 113 L).A g := HV.as rfl
  refine wpAny_execs_cons (unpack_stmt (k := k) (c := fc w A 113 L) (xs := ["cc", "nc", "tt", "ct", "callers"]) (ds := [.int b1, .int b2, .int b3, .int b4, .dict [(x, v)]]) (by one_item) rfl hvw
    (.cons (Sto.name (.inl (by kernel_rfl))) (.cons (Sto.name (.inl (by kernel_rfl))) (.cons (Sto.name (.inl (by kernel_rfl))) (.cons (Sto.name (.inl (by kernel_rfl))) (.cons (Sto.name (.inl (by kernel_rfl))) .nil))))) rfl rfl rfl rfl F fun g1 s1 st1 F1 => ?_)
  refine wpAny_execs_cons (unpack_stmt (k := k) (c := fc w A 113 L) (ρ := [("callers", .dict [(x, v)]), ("ct", .int b4), ("tt", .int b3), ("nc", .int b2), ("cc", .int b1), ("source", bookV b1 b2 b3 b4 [(x, v)]), ("target", bookV a1 a2 a3 a4 lt)]) (xs := ["t_cc", "t_nc", "t_tt", "t_ct", "t_callers"]) (ds := [.int a1, .int a2, .int a3, .int a4, .dict lt]) (by one_item) rfl (hvw.mono st1.up)
    (.cons (Sto.name (.inl (by kernel_rfl))) (.cons (Sto.name (.inl (by kernel_rfl))) (.cons (Sto.name (.inl (by kernel_rfl))) (.cons (Sto.name (.inl (by kernel_rfl))) (.cons (Sto.name (.inl (by kernel_rfl))) .nil))))) rfl rfl rfl rfl F1 fun g2 s2 st2 F2 => ?_)
  have F2 : FrOK (fc w A 113 L) [("t_callers", .dict lt), ("t_ct", .int a4), ("t_tt", .int a3), ("t_nc", .int a2), ("t_cc", .int a1), ("callers", .dict [(x, v)]), ("ct", .int b4), ("tt", .int b3), ("nc", .int b2), ("cc", .int b1), ("source", bookV b1 b2 b3 b4 [(x, v)]), ("target", bookV a1 a2 a3 a4 lt)] g2 s2 := F2
  have hv2 : HandV (fc w A 113 L).A g2 := (hvw.mono st1.up).mono st2.up
  refine wpAny_execs_cons (wpAny_Return_some ?_)
  refine EvG.tuple (g₀ := g2) (k := k) (c := fc w A 113 L) (ds := [.int (b1 + a1), .int (b2 + a2), .int (b3 + a3), .int (b4 + a4), .dict (addC lt x v)])
    (.cons rfl (Ev.toG (Ev.bin (a := .int b1) (b := .int a1) ?_ ?_ BinV.add)) (.cons rfl (Ev.toG (Ev.bin (a := .int b2) (b := .int a2) ?_ ?_ BinV.add)) (.cons rfl (Ev.toG (Ev.bin (a := .int b3) (b := .int a3) ?_ ?_ BinV.add)) (.cons rfl (Ev.toG (Ev.bin (a := .int b4) (b := .int a4) ?_ ?_ BinV.add)) (.cons rfl
      (EvG.call_f (p := HandV (fc w A 113 L).A) (fa := 120) (by kernel_rfl) (by kernel_rfl) (show (KF w).lookup 120 = some (OB w 120) by kernel_rfl) (show (OB w 120).data = .func (FD w 120) by kernel_rfl) (fun g hg => hv2.mono hg) (EvL.cons rfl (d := .dict lt) ?_ (EvL.cons rfl (d := .dict [(x, v)]) ?_ EvL.nil))
        (f_add_callers hn hsz hv hok (by show A.depth + 1 ≤ 480; omega) (by show A.units + 3 ≤ 300; omega)) rfl (by kernel_rfl)) .nil))))) (by show 5 ≤ sizeLine; rw [sizeLine_eq]; omega) g2 s2 _ E (Le.refl _) F2.env F2.le fun rv g3 s3 st3 r3 => ?fin
  case fin => exact h rv g3 s3 ((st1.trans st2).trans (F2.ss st3)) r3
  all_goals one_item
end
end Mine
end

section
open PySem PySem.W PySem.W.X PyProof.Rows
set_option Elab.async false
set_option maxRecDepth 100000
set_option linter.all false
namespace Mine
/-- a made exception -/
structure MadeX (w : World) (s : Shared) (code : Int) (msg : Str) (e : Addr) (s' : Shared) : Prop where
  ex : ∃ d vs t1 t2 t3 t4 n, s.heap.get? e = none ∧ s.heap.get? d = none ∧ s'.heap.get? e = some { cls := .ref 83, dict := some d, data := .fields vs } ∧ vs[1]? = some .none ∧ vs[2]? = some .none ∧
    s'.heap.get? d = some { cls := .type "dict", data := .dict #[⟨PyData.keyHash w.params "smtp_code", .str "smtp_code" t1, .int code t2⟩, ⟨PyData.keyHash w.params "smtp_error", .str "smtp_error" t3, .str msg t4⟩] n }
  le : Le s.heap.get? s'.heap.get?
  rest : Rest true s s'

theorem madeX_of {w : World} {s : Shared} {h : Heap} {g : Array GenState} {dr : Drawn} {tk : Nat} {os : OsState} {x1 x3 x5 : Addr × Obj} {d e : Addr} {od oe : Obj} {code : Int} {msg : Str} {a1 a2 : Int} {k1 k2 : Str} {t1 t2 t3 t4 : Tok} {n : Nat} {vs : Array Value}
    (D : Mem s.heap h [] [x1, (d, od), x3, (e, oe), x5]) (h1 : od = { cls := .type "dict", data := .dict #[⟨a1, .str k1 t1, .int code t2⟩, ⟨a2, .str k2 t3, .str msg t4⟩] n }) (hk1 : k1 = ("smtp_code" : Str)) (hk2 : k2 = ("smtp_error" : Str)) (ha1 : a1 = PyData.keyHash w.params k1) (ha2 : a2 = PyData.keyHash w.params k2)
    (h2 : oe = { cls := .ref 83, dict := some d, data := .fields vs }) (h3 : vs[1]? = some .none) (h4 : vs[2]? = some .none) (hg : g = s.gens) (hd : dr = s.drawn) (ho : os = s.os) : ∃ e', Value.ref e = .ref e' ∧ MadeX w s code msg e' ⟨h, g, dr, tk, os⟩ := by
  subst hk1 hk2 ha1 ha2 h1 h2
  exact ⟨e, rfl, ⟨⟨d, vs, t1, t2, t3, t4, n, (D.nw _ (.tail _ (.tail _ (.tail _ (.head _))))).2, (D.nw _ (.tail _ (.head _))).2, (D.nw _ (.tail _ (.tail _ (.tail _ (.head _))))).1, h3, h4, (D.nw _ (.tail _ (.head _))).1⟩, mem_le D, mem_rest hg hd ho⟩⟩
set_option hygiene false in
local macro_rules | `(tactic| x_close) => `(tactic| exact madeX_of (by assumption) rfl (by kernel_rfl) (by kernel_rfl) (by rw [← PySem.W.XFast.xe12210062019545310541]; kernel_rfl) (by rw [← PySem.W.XFast.xe12210062019545310541]; kernel_rfl) rfl rfl rfl rfl rfl rfl)

section
variable (w : World) (s : Shared) (K : (Mine.hd.heap_39 w.params).In s.heap) (hd : Option Value)
set_option maxHeartbeats 0 in
include K in
theorem x_exc (i : Int) (t : Tok) (m : Str) (u : Tok) : wpAny (model PW w) (AX hd) (call (.ref 83) [.int i t, .str m u]) (fun v s' => ∃ e, v = .ref e ∧ MadeX w s i m e s') (fun _ _ => False) s := by x_run
end
end Mine
end

section
open PySem PySem.W PyProof.Rows PySem.Builtin
set_option Elab.async false
set_option maxRecDepth 100000
set_option linter.all false
namespace Mine
section
variable {w : World} {A : Around} {s : Shared} {E : Value → Shared → Prop}

theorem typeOf_obj {M : Model} {a : Addr} {o : Obj} {Q : Value → Shared → Prop} (ho : s.heap.get? a = some o) (h : Q o.cls s) : wpAny M A (typeOf (.ref a)) Q E s := by
  unfold typeOf
  exact wpAny_bind (wpAny_loadPart ho (wpAny_pure h))
noncomputable def CD (w : World) (a : Addr) : ClassData := match (OB w a).data with | .cls c => c | _ => default
theorem sub83 {M : Model} {base : Value} {b : Bool} {Q : Bool → Shared → Prop} (K : (KF w).In s.heap) (hb : (CD w 83).mro.contains base = b) (h : Q b s) : wpAny M A (isSubtype (.ref 83) base) Q E s := by
  have h1 : s.heap.get? 83 = some (OB w 83) := K 83 _ (by kernel_rfl)
  have h2 : (OB w 83).data = .cls (CD w 83) := by kernel_rfl
  unfold isSubtype mroOf classData
  refine wpAny_bind (wpAny_bind (wpAny_bind (wpAny_load h1 ?_)))
  rw [h2]
  refine wpAny_pure (wpAny_pure ?_)
  dsimp only
  rw [if_neg (show ¬ (CD w 83).mro.isEmpty = true by rw [show (CD w 83).mro.isEmpty = false by kernel_rfl]; simp)]
  rw [hb]
  exact wpAny_pure h
theorem isType_no {M : Model} {a : Addr} {o : Obj} {vs : Array Value} {Q : Bool → Shared → Prop} (ho : s.heap.get? a = some o) (hd : o.data = .fields vs) (h : Q false s) : wpAny M A (isType (.ref a)) Q E s := by
  unfold isType loadHead
  refine wpAny_bind (wpAny_loadPart ho ?_)
  rw [hd]
  exact wpAny_pure h
theorem isType83 {M : Model} {Q : Bool → Shared → Prop} (K : (KF w).In s.heap) (h : Q true s) : wpAny M A (isType (.ref 83)) Q E s := by
  have h1 : s.heap.get? 83 = some (OB w 83) := K 83 _ (by kernel_rfl)
  have h2 : (OB w 83).data = .cls (CD w 83) := by kernel_rfl
  unfold isType loadHead
  refine wpAny_bind (wpAny_loadPart h1 ?_)
  rw [h2]
  exact wpAny_pure h

/-- an exception of the module -/
structure ExcAt (h : Heap) (e : Addr) : Prop where
  ex : ∃ o vs, h.get? e = some o ∧ o.cls = .ref 83 ∧ o.data = .fields vs ∧ vs[1]? = some .none

theorem raise_83 {x : Expr} {pos : Pos} {env : Env} {Q : Flow → Shared → Prop} (hh : A.handled = none) (h : wpAny (model PW w) A (eval x env) (fun v s₁ => ∃ e, v = .ref e ∧ ExcAt s₁.heap e ∧ (KF w).In s₁.heap ∧ E (.ref e) s₁) E s) :
    wpAny (model PW w) A (exec (.Raise (some x) none pos) env) Q E s := by
  rw [arm_exec_Raise]
  refine wpAny_bind (wpAny_standAt ?_)
  show wpAny _ A (raiseStmt env (some (do let v ← eval x env; standAt pos; pure v)) none) Q E s
  unfold raiseStmt
  refine wpAny_bind (wpAny_bind (wpAny_mono h (fun v s₁ h₁ => wpAny_bind (wpAny_standAt (wpAny_pure ?_))) fun _ _ x => x))
  obtain ⟨e, rfl, ⟨o, vs, ho, hc, hd, hv⟩, K, hE⟩ := h₁
  have h1 : s₁.heap.get? 83 = some (OB w 83) := K 83 _ (by kernel_rfl)
  refine wpAny_bind (wpAny_pure ?_)
  refine wpAny_bind (wpAny_holding ?_)
  unfold excFromValue isExcClass
  refine wpAny_bind (wpAny_bind (isType_no ho hd ?_))
  rw [if_neg (by simp)]
  refine wpAny_pure ?_
  rw [if_neg (by simp)]
  unfold isInstance
  refine wpAny_bind (wpAny_bind (typeOf_obj ho ?_))
  rw [hc]
  refine sub83 (b := true) K (by kernel_rfl) ?_
  rw [if_pos rfl]
  refine wpAny_pure ?_
  dsimp only
  refine wpAny_bind (isType_no ho hd ?_)
  rw [if_neg (by simp)]
  unfold raisedInstance
  refine wpAny_bind (wpAny_bind (typeOf_obj ho ?_))
  rw [hc]
  refine wpAny_bind (typeOf_obj h1 ?_)
  rw [if_pos (by kernel_rfl)]
  refine wpAny_pure ?_
  refine wpAny_bind ?_
  unfold setFlight
  refine wpAny_bind (wpAny_field ho hd hv ?_)
  rw [if_neg (by decide)]
  refine wpAny_pure ?_
  exact wpAny_raiseNew_none hh hE

theorem matches83 {e : Addr} {o : Obj} {Q : Bool → Shared → Prop} (K : (KF w).In s.heap) (ho : s.heap.get? e = some o) (hc : o.cls = .ref 83) (h : Q true s) : wpAny (model PW w) A (excMatches (.ref e) (.ref 83)) Q E s := by
  have h1 : s.heap.get? 83 = some (OB w 83) := K 83 _ (by kernel_rfl)
  have hT : s.TypeIs (.ref 83) "type" := ⟨_, h1, by kernel_rfl⟩
  unfold excMatches
  refine wpAny_bind (wpAny_isInstance hT tc_notTuple ?_)
  rw [if_neg (by simp)]
  refine wpAny_bind (wpAny_pure ?_)
  refine wpAny_bind ?_
  rw [List.forIn_cons]
  unfold isExcClass
  refine wpAny_bind ?_
  refine wpAny_bind (wpAny_bind (isType83 K ?_))
  rw [if_pos rfl]
  refine sub83 (b := true) K (by kernel_rfl) ?_
  rw [if_neg (by simp)]
  refine wpAny_pure ?_
  dsimp only
  rw [List.forIn_nil]
  refine wpAny_pure ?_
  refine wpAny_bind (typeOf_obj ho ?_)
  rw [hc]
  rw [List.forIn_cons]
  refine wpAny_bind (wpAny_bind ?_)
  refine wpAny_bind (sub83 (b := true) K (by kernel_rfl) ?_)
  rw [if_pos rfl]
  refine wpAny_pure ?_
  dsimp only
  exact wpAny_pure (wpAny_pure h)
end
end Mine
end

section
open PySem PySem.W PyProof.Rows PySem.Builtin
set_option Elab.async false
set_option maxRecDepth 100000
set_option linter.all false
namespace Mine
section
variable {w : World} {A : Around} {s : Shared} {E : Value → Shared → Prop}

/-- an exception on its way; fs: the frames' locals -/
structure Fly (w : World) (s₀ : Shared) (fs : List Addr) (code : Int) (msg : Str) (e : Addr) (s : Shared) : Prop where
  keep : ∀ b o, b ∉ fs → s₀.heap.get? b = some o → s.heap.get? b = some o
  slots : ∀ b, b ∈ fs → ∀ o, s₀.heap.get? b = some o → ∃ sl, s.heap.get? b = some { o with slots := sl }
  fresh : s₀.heap.get? e = none
  exc : ∃ d vs t1 t2 t3 t4 n, s.heap.get? e = some { cls := .ref 83, dict := some d, data := .fields vs } ∧ 3 ≤ vs.size ∧ vs[2]? = some .none ∧ s₀.heap.get? d = none ∧
    s.heap.get? d = some { cls := .type "dict", data := .dict #[⟨PyData.keyHash w.params "smtp_code", .str "smtp_code" t1, .int code t2⟩, ⟨PyData.keyHash w.params "smtp_error", .str "smtp_error" t3, .str msg t4⟩] n } ∧
    (vs[1]? = some .none ∨ ∃ T oT ts, vs[1]? = some (.ref T) ∧ s₀.heap.get? T = none ∧ T ≠ e ∧ T ≠ d ∧ s.heap.get? T = some oT ∧ oT.data = .fields ts ∧ 4 ≤ ts.size ∧ ts[3]? = some .none)
  rest : Rest true s₀ s

theorem Fly.outer {s₀ s₁ : Shared} {fs fs' : List Addr} {code : Int} {msg : Str} {e : Addr} (f : Fly w s₀ fs code msg e s) (hle : Le s₁.heap.get? s₀.heap.get?) (hr : Rest true s₁ s₀) (hsub : ∀ b, b ∈ fs → b ∉ fs' → s₁.heap.get? b = none) (hin : ∀ b, b ∈ fs' → b ∈ fs) : Fly w s₁ fs' code msg e s where
  keep := fun b o hb ho => by
    by_cases h : b ∈ fs
    · rw [hsub b h hb] at ho; cases ho
    · exact f.keep b o h (hle b o ho)
  slots := fun b hb o ho => f.slots b (hin b hb) o (hle b o ho)
  fresh := by
    cases q : s₁.heap.get? e with
    | none => rfl
    | some o => have := hle e o q; rw [f.fresh] at this; cases this
  exc := by
    obtain ⟨d, vs, t1, t2, t3, t4, n, h1, h2, h3, h4, h5, h6⟩ := f.exc
    have no : ∀ a, s₀.heap.get? a = none → s₁.heap.get? a = none := fun a ha => by
      cases q : s₁.heap.get? a with
      | none => rfl
      | some o => have := hle a o q; rw [ha] at this; cases this
    refine ⟨d, vs, t1, t2, t3, t4, n, h1, h2, h3, no d h4, h5, ?_⟩
    rcases h6 with h6 | ⟨T, oT, ts, a1, a2, a3⟩
    · exact .inl h6
    · exact .inr ⟨T, oT, ts, a1, no T a2, a3⟩
  rest := hr.trans f.rest

/-- the frames on the stack -/
structure FramesOK (s₀ : Shared) (fs : List Addr) (envs : List Env) : Prop where
  all : ∀ env, env ∈ envs → env.scope.kind ≠ .module ∧ ∃ L o, env.frame = some L ∧ L ∈ fs ∧ s₀.heap.get? L = some o ∧ ∀ vs, o.data ≠ .fields vs
theorem FramesOK.fun {s₀ : Shared} {fs : List Addr} {envs : List Env} {h : Heap} (F : FramesOK s₀ fs envs) (hs : ∀ b, b ∈ fs → ∀ o, s₀.heap.get? b = some o → ∃ sl, h.get? b = some { o with slots := sl }) : h.FunFrames ({} : Heap) envs := by
  induction envs with
  | nil => trivial
  | cons env r ih =>
    obtain ⟨hk, L, o, h1, h2, h3, h4⟩ := F.all env List.mem_cons_self
    obtain ⟨sl, h5⟩ := hs L h2 o h3
    exact ⟨hk, ⟨L, _, h1, rfl, h5, h4⟩, ih ⟨fun e he => F.all e (List.mem_cons_of_mem _ he)⟩⟩
theorem FramesOK.mem {s₀ : Shared} {fs : List Addr} {envs : List Env} (F : FramesOK s₀ fs envs) : ∀ b, b ∈ envs.filterMap (·.frame) → b ∈ fs := fun b hb => by
  obtain ⟨env, h1, h2⟩ := List.mem_filterMap.mp hb
  obtain ⟨_, L, o, h3, h4, _⟩ := F.all env h1
  rw [h3] at h2
  cases h2
  exact h4

theorem entry_set {M : Model} {s₀ : Shared} {fs : List Addr} {env : Env} {outer : List Env} {L : Addr} {code : Int} {msg : Str} {e : Addr} {head : Value} {hn : Bool} {Q : Unit → Shared → Prop} (hfr : A.frames = some (env :: outer)) (F : FramesOK s₀ fs (env :: outer)) (hf : env.frame = some L)
    (f : Fly w s₀ fs code msg e s) (h : ∀ s', Fly w s₀ fs code msg e s' → Q () s') :
    wpAny M A (do let a ← frameOf env; let pl ← entryPlaceOf L hn; let b ← EntryCells.newEntry head a .none (rawInt L) .none pl; setField (.ref e) 1 b) (fun _ s' => wpAny M A (setFlight (.ref e) none) Q E s') E s := by
  obtain ⟨d, vs, t1, t2, t3, t4, n, he, hz, h2, hd0, hd, _⟩ := f.exc
  refine wpAny_bind (wpAny_frameOf_fun hfr (F.fun f.slots) hf fun h₁ hs₁ => ?_)
  refine wpAny_bind (wpAny_entryPlaceOf fun pl hpl => ?_)
  unfold EntryCells.newEntry newFields
  refine wpAny_bind (wpAny_newObj_type ?_ (hpl.sizeOk5 _ _ _ _ _))
  have hS : ∀ b o, b ∉ fs → s.heap.get? b = some o → h₁.get? b = some o := fun b o hb e => (hs₁.2.1 b fun q => hb (F.mem b q)).trans e
  have hfs : ∀ b, b ∈ fs → s₀.heap.get? b = none ∨ ∃ o, s₀.heap.get? b = some o := fun b _ => by cases s₀.heap.get? b with | none => exact .inl rfl | some o => exact .inr ⟨o, rfl⟩
  have hframe : ∀ b, b ∈ (env :: outer).filterMap (·.frame) → ∃ o, s₀.heap.get? b = some o ∧ ∀ vs, o.data ≠ .fields vs := fun b hb => by
    obtain ⟨env', h1, h2⟩ := List.mem_filterMap.mp hb
    obtain ⟨_, L', o, h3, _, h5, h6⟩ := F.all env' h1
    rw [h3] at h2
    cases h2
    exact ⟨o, h5, h6⟩
  have he₁ : h₁.get? e = some _ := (hs₁.2.1 e fun q => by obtain ⟨o, h5, _⟩ := hframe e q; rw [f.fresh] at h5; cases h5).trans he
  have hd₁ : h₁.get? d = some _ := (hs₁.2.1 d fun q => by obtain ⟨o, h5, _⟩ := hframe d q; rw [hd0] at h5; cases h5).trans hd
  have hTe : h₁.objs.size ≠ e := Nat.ne_of_gt (Heap.lt_size he₁)
  have hTd : h₁.objs.size ≠ d := Nat.ne_of_gt (Heap.lt_size hd₁)
  have hde : d ≠ e := fun q => by rw [q, he] at hd; cases hd
  have he₂ := Heap.get?_push_of_some (h := h₁) { cls := .type "traceback", dict := none, data := .fields ([head, .ref L, .none, rawInt L, .none] ++ (if pl.isEmpty then List.replicate 6 Value.none else pl)).toArray } he₁
  have hd₂ := Heap.get?_push_of_some (h := h₁) { cls := .type "traceback", dict := none, data := .fields ([head, .ref L, .none, rawInt L, .none] ++ (if pl.isEmpty then List.replicate 6 Value.none else pl)).toArray } hd₁
  have hz1 : 1 < vs.size := by omega
  refine wpAny_setField he₂ rfl hz1 ?_
  have he₃ := Heap.get?_update_self (Obj.mapFields (·.setIfInBounds 1 (Value.ref h₁.objs.size))) he₂ (Obj.isFreed_of_fields (Obj.data_mapFields rfl _))
  have hT₃ := (Heap.get?_update_other (h₁.push { cls := .type "traceback", dict := none, data := .fields ([head, .ref L, .none, rawInt L, .none] ++ (if pl.isEmpty then List.replicate 6 Value.none else pl)).toArray })
    (Obj.mapFields (·.setIfInBounds 1 (Value.ref h₁.objs.size))) (Ne.symm hTe)).trans (Heap.get?_push_size h₁ rfl)
  unfold setFlight
  refine wpAny_bind (wpAny_field he₃ (Obj.data_mapFields rfl _) (x := .ref h₁.objs.size) (by simp [hz1]) ?_)
  rw [if_pos (show (Value.ref h₁.objs.size != Value.none) = true from by simp)]
  refine wpAny_setField hT₃ rfl (by simp only [List.size_toArray, List.length_append, List.length_cons, List.length_nil] <;> omega) (h _ ?_)
  have up : ∀ b o, b ≠ e → h₁.get? b = some o →
      (((h₁.push { cls := .type "traceback", dict := none, data := .fields ([head, .ref L, .none, rawInt L, .none] ++ (if pl.isEmpty then List.replicate 6 Value.none else pl)).toArray }).update e (Obj.mapFields (·.setIfInBounds 1 (Value.ref h₁.objs.size)))).update h₁.objs.size
        (Obj.mapFields (·.setIfInBounds 3 ((none : Option Addr).elim Value.none fun f => rawInt f)))).get? b = some o := fun b o hbe hb => by
    have hbT : h₁.objs.size ≠ b := Nat.ne_of_gt (Heap.lt_size hb)
    rw [Heap.get?_update_other _ _ hbT, Heap.get?_update_other _ _ (Ne.symm hbe)]
    exact Heap.get?_push_of_some _ hb
  have hT0 : s₀.heap.get? h₁.objs.size = none := by
    cases q : s₀.heap.get? h₁.objs.size with
    | none => rfl
    | some o =>
      exfalso
      have : ∃ o', h₁.get? h₁.objs.size = some o' := by
        by_cases hb : h₁.objs.size ∈ fs
        · obtain ⟨sl, h5⟩ := f.slots _ hb o q
          obtain ⟨sl', h6⟩ := hs₁.2.2 _ _ h5
          exact ⟨_, h6⟩
        · exact ⟨o, hS _ o hb (f.keep _ o hb q)⟩
      obtain ⟨o', h7⟩ := this
      exact absurd (Heap.lt_size h7) (Nat.lt_irrefl _)
  refine ⟨fun b o hb hb0 => up b o (fun q => by rw [q, f.fresh] at hb0; cases hb0) (hS b o hb (f.keep b o hb hb0)), fun b hb o hb0 => ?_, f.fresh, ?_, f.rest.trans (Rest.same true s _ s.toks)⟩
  · obtain ⟨sl, h5⟩ := f.slots b hb o hb0
    obtain ⟨sl', h6⟩ := hs₁.2.2 _ _ h5
    exact ⟨sl', up b _ (fun q => by rw [q, f.fresh] at hb0; cases hb0) h6⟩
  · refine ⟨d, _, t1, t2, t3, t4, n, (Heap.get?_update_other _ _ hTe).trans he₃, ?_, ?_, hd0, up d _ hde hd₁, .inr ⟨h₁.objs.size, _, _, ?_, hT0, hTe, hTd, Heap.get?_update_self _ hT₃ (Obj.isFreed_of_fields (Obj.data_mapFields rfl _)), Obj.data_mapFields rfl _, ?_, ?_⟩⟩
    · simp; omega
    · simp [h2]
    · simp [hz1]
    · simp
    · simp

/-- a frame is left, or a try seen: the entry is made, the flight ends -/
theorem Fly.note {M : Model} {s₀ : Shared} {fs : List Addr} {env : Env} {outer : List Env} {code : Int} {msg : Str} {e : Addr} {Q : Unit → Shared → Prop} (hfr : A.frames = some (env :: outer)) (F : FramesOK s₀ fs (env :: outer))
    (f : Fly w s₀ fs code msg e s) (h : ∀ s', Fly w s₀ fs code msg e s' → Q () s') : wpAny M A (noteFrame (.ref e) env) (fun _ s' => wpAny M A (setFlight (.ref e) none) Q E s') E s := by
  obtain ⟨_, L, oL, hf, hLfs, _⟩ := F.all env List.mem_cons_self
  obtain ⟨d, vs, t1, t2, t3, t4, n, he, hz, h2, hd0, hd, h6⟩ := id f.exc
  unfold noteFrame
  simp only [hf]
  rcases h6 with h6 | ⟨T, oT, ts, a1, a2, a3, a3', a4, a5, a6, a7⟩
  · refine wpAny_bind (wpAny_field he rfl h6 ?_)
    rw [if_neg (by decide)]
    exact entry_set hfr F hf f h
  · refine wpAny_bind (wpAny_field he rfl a1 ?_)
    rw [if_pos (show (Value.ref T != Value.none) = true from by simp)]
    refine wpAny_bind (wpAny_field a4 a5 a7 ?_)
    rw [if_neg (show ¬ ((Value.none == rawInt L) = true) from by simp [rawInt])]
    refine wpAny_bind (wpAny_setField a4 a5 (by omega) ?_)
    have other : ∀ b, b ≠ T → (s.heap.update T (Obj.mapFields (·.setIfInBounds 3 Value.none))).get? b = s.heap.get? b := fun b hb => Heap.get?_update_other _ _ (Ne.symm hb)
    refine entry_set (s₀ := s₀) (fs := fs) hfr F hf ⟨fun b o hb hb0 => (other b fun q => by rw [q, a2] at hb0; cases hb0).trans (f.keep b o hb hb0), fun b hb o hb0 => ?_, f.fresh, ?_, f.rest.trans (Rest.same true s _ s.toks)⟩ h
    · obtain ⟨sl, h5⟩ := f.slots b hb o hb0
      exact ⟨sl, (other b fun q => by rw [q, a2] at hb0; cases hb0).trans h5⟩
    · exact ⟨d, vs, t1, t2, t3, t4, n, (other e (Ne.symm a3)).trans he, hz, h2, hd0, (other d (Ne.symm a3')).trans hd, .inr ⟨T, _, _, a1, a2, a3, a3', Heap.get?_update_self _ a4 (Obj.isFreed_of_fields (Obj.data_mapFields a5 _)), Obj.data_mapFields a5 _, by rw [Array.size_setIfInBounds]; exact a6, by have h3 : 3 < ts.size := a6; simp [h3]⟩⟩
end
end Mine
end

section
open PySem PySem.W PyProof.Rows PySem.Builtin
set_option Elab.async false
set_option maxRecDepth 100000
set_option linter.all false
namespace Mine
section
variable {k : Bool} {w : World} {A : Around} {c : Cx} {ρ : REnv}
theorem Ev.dict1 {ke ve : Expr} {pos : Pos} {x : Str} {d : PV} (h1 : Ev k c ρ ke (.str x)) (h2 : Ev k c ρ ve d) : Ev k c ρ (.Dict [some ke] [ve] pos) (.dict [(x, d)]) := fun g s Q E F L h => by
  refine wpAny_Dict_pairs (knd := strKind PW c.w) (pairs := [(eval ke c.env, do let x ← eval ve c.env; standAt pos; pure x)]) rfl (by simp) (by simp) ?_
  have hn0 := get_size_none s.heap
  have hsys := sysM_fresh F.base L
  have hold : (s.heap.push { cls := .type "dict", data := .dict #[] }).DictOf (strKind PW c.w) s.heap.objs.size [] := Heap.DictOf.new (knd := strKind PW c.w) s.heap
  generalize hDe : s.heap.objs.size = D at hn0 hsys hold ⊢
  have hDg : g D = Option.none := L.none hn0
  have st0 : Step k g s g { s with heap := s.heap.push { cls := .type "dict", data := .dict #[] } } := Step.grow L (push_le _ _) (Rest.own _ _ _)
  refine evalPairs_cons ?_
  refine h1 g _ _ _ (F.step st0) st0.sub fun kv g1 s1 st1 r1 => ?_
  refine wpAny_bind (h2 g1 s1 _ _ ((F.step st0).step st1) st1.sub fun vv g2 s2 st2 r2 => wpAny_bind (wpAny_standAt (wpAny_pure (evalPairs_nil ?_))))
  cases r1
  have st := (st0.trans st1).trans st2
  have st12 := st1.trans st2
  obtain ⟨o, es, ep, ho, r⟩ := hold
  refine ⟨[(x, vv)], ⟨strKind_is _ _ _ _, rfl, trivial⟩, ⟨o, es, ep, st12.heap D o ho, r⟩, fun h' hm hs => ?_⟩
  have hd : DRep c.w g2 h' D [(x, d)] := ⟨_, hm, by
    have : merged [] [(x, vv)] = [(x, vv)] := by simp [merged, PySem.stored]
    rw [this]
    exact .cons r2 .nil⟩
  obtain ⟨es', n', hD, rep⟩ := hd.show
  have hDg2 : g2 D = Option.none := st12.hides hDg (by rw [ho]; simp)
  have st3 : Step k g s g2 { s2 with heap := h', toks := s2.toks + [(Value.str x ‹_›, vv)].length } := st.touch (Z := fun b => b = D) (fun b o hb e => hs.extBut b o hb e) (fun b hb => hb ▸ hn0) (fun b hb => hb ▸ hDg2) (Rest.same _ _ _ _)
  have st4 := SS.step (SS.reveal (SS.of st3 (fun b hb => hb.elim)) hn0 id hD)
  exact h _ _ _ st4 (.dict hsys (put_self _ _ _) (RepD.mono (put_le hDg2) rep))
end
end Mine
end

section
open PySem PySem.W PyProof.Rows PySem.Builtin PySem.Builtin.Str
set_option Elab.async false
set_option maxRecDepth 100000
set_option linter.all false
namespace Mine

/-! slices -/
theorem range_pick {α : Type} (l : List α) (a c : Nat) : ((List.range c).map fun k : Nat => ((a : Int) + 1 * (k : Int)).toNat).filterMap (l[·]?) = (l.drop a).take c := by
  induction c with
  | zero => simp
  | succ c ih =>
    rw [List.range_succ, List.map_append, List.filterMap_append, ih, List.take_add_one]
    congr 1
    have e : ((a : Int) + 1 * (c : Int)).toNat = a + c := by (first | lia | omega)
    rw [List.map_cons, List.map_nil, e, List.getElem?_drop]
    show List.filterMap (l[·]?) [a + c] = _
    rw [List.filterMap_cons]
    cases l[a + c]? <;> simp
theorem sliceRange_nat {α : Type} (l : List α) (a b : Nat) : (sliceRange (a : Int) (b : Int) 1).filterMap (l[·]?) = (l.drop a).take (b - a) := by
  unfold sliceRange
  rw [if_pos (by decide)]
  by_cases h : a < b
  · rw [if_pos (by first | decide | lia | omega)]
    have e : ((((b : Int) - a + 1 - 1) / 1)).toNat = b - a := by rw [Int.ediv_one]; (first | lia | omega)
    simp only [e]
    exact range_pick l a (b - a)
  · rw [if_neg (by first | decide | lia | omega)]
    have e : b - a = 0 := by (first | lia | omega)
    simp [e]
theorem sliceRange_len (a b : Nat) : (sliceRange (a : Int) (b : Int) 1).length = b - a := by
  unfold sliceRange
  rw [if_pos (by decide)]
  by_cases h : a < b
  · rw [if_pos (by first | decide | lia | omega), Int.ediv_one]; simp; try (first | lia | omega)
  · rw [if_neg (by first | decide | lia | omega)]; simp; try (first | lia | omega)

theorem slice_txt (l : List Nat) (lo hi : Option Nat) : Txt.slice (S l) (lo.map Nat.cast) (hi.map Nat.cast) = S ((l.drop (lo.getD 0)).take ((hi.getD l.length) - lo.getD 0)) := by
  have key : strSliceIndices (lo.map Nat.cast) (hi.map Nat.cast) 1 (S l).length = sliceRange ((min (lo.getD 0) l.length : Nat) : Int) ((min (hi.getD l.length) l.length : Nat) : Int) 1 := by
    unfold strSliceIndices
    have hl : (S l).length = l.length := by simp [Str.length]
    rw [hl]
    have e1 : ∀ a : Nat, max (0 : Int) (min (if (a : Int) < 0 then (a : Int) + (l.length : Int) else (a : Int)) (l.length : Int)) = ((min a l.length : Nat) : Int) := by
      intro a
      rw [if_neg (by first | decide | lia | omega)]
      (first | lia | omega)
    have e0 : ((min 0 l.length : Nat) : Int) = 0 := by simp
    have e2 : ((min l.length l.length : Nat) : Int) = l.length := by simp
    cases lo <;> cases hi <;> simp only [Option.map_none, Option.map_some, Option.getD_none, Option.getD_some, show (1 : Int) > 0 from by decide, if_true, e1, e0, e2]
  have take : ((l.drop (min (lo.getD 0) l.length)).take (min (hi.getD l.length) l.length - min (lo.getD 0) l.length)) = ((l.drop (lo.getD 0)).take ((hi.getD l.length) - lo.getD 0)) := by
    generalize lo.getD 0 = a
    generalize hi.getD l.length = b
    by_cases h : a ≤ l.length
    · rw [Nat.min_eq_left h]
      by_cases h2 : b ≤ l.length
      · rw [Nat.min_eq_left h2]
      · rw [Nat.min_eq_right (show l.length ≤ b by (first | lia | omega)), List.take_of_length_le (by simp), List.take_of_length_le (by simp; (first | lia | omega))]
    · rw [Nat.min_eq_right (show l.length ≤ a by (first | lia | omega)), List.drop_eq_nil_of_le (Nat.le_refl _), List.drop_eq_nil_of_le (show l.length ≤ a by (first | lia | omega))]
      simp
  unfold Txt.slice
  rw [key]
  split
  · rename_i h
    rw [sliceRange_len] at h
    have h : min (hi.getD l.length) l.length - min (lo.getD 0) l.length = l.length := by simpa [Str.length] using h
    rw [← take, h]
    have h0 : min (lo.getD 0) l.length = 0 ∨ l.length = 0 := by (first | lia | omega)
    rcases h0 with h0 | h0
    · rw [h0]; simp
    · have : l = [] := List.eq_nil_of_length_eq_zero h0
      subst this
      simp
  · rw [← take, ← sliceRange_nat]
    congr 2
    simp
theorem slice_from (l : List Nat) (a : Nat) : Txt.slice (S l) (some (a : Int)) none = S (l.drop a) := by
  have := slice_txt l (some a) none
  rw [List.take_of_length_le (by simp)] at this
  exact this
theorem slice_to (l : List Nat) (b : Nat) : Txt.slice (S l) none (some (b : Int)) = S (l.take b) := by
  have := slice_txt l none (some b)
  simpa using this
theorem slice_mid (l : List Nat) (a b : Nat) : Txt.slice (S l) (some (a : Int)) (some (b : Int)) = S ((l.drop a).take (b - a)) := slice_txt l (some a) (some b)

theorem take_min {α : Type} (l : List α) (a b : Nat) : ((l.drop (min a l.length)).take (min b l.length - min a l.length)) = (l.drop a).take (b - a) := by
  by_cases h : a ≤ l.length
  · rw [Nat.min_eq_left h]
    by_cases h2 : b ≤ l.length
    · rw [Nat.min_eq_left h2]
    · rw [Nat.min_eq_right (show l.length ≤ b by (first | lia | omega)), List.take_of_length_le (by simp), List.take_of_length_le (by simp; (first | lia | omega))]
  · rw [Nat.min_eq_right (show l.length ≤ a by (first | lia | omega)), List.drop_eq_nil_of_le (Nat.le_refl _), List.drop_eq_nil_of_le (show l.length ≤ a by (first | lia | omega))]
    simp
theorem pick_any {α : Type} (l : List α) (lo hi : Option Nat) : pick l (lo.map Nat.cast) (hi.map Nat.cast) none = (l.drop (lo.getD 0)).take ((hi.getD l.length) - lo.getD 0) := by
  have e1 : ∀ a : Nat, max (0 : Int) (min (if (a : Int) < 0 then (a : Int) + (l.length : Int) else (a : Int)) (l.length : Int)) = ((min a l.length : Nat) : Int) := by
    intro a
    rw [if_neg (by first | decide | lia | omega)]
    (first | lia | omega)
  have e0 : ((min 0 l.length : Nat) : Int) = 0 := by simp
  have e2 : ((min l.length l.length : Nat) : Int) = l.length := by simp
  have key : sliceBounds (lo.map Nat.cast) (hi.map Nat.cast) none l.length = (((min (lo.getD 0) l.length : Nat) : Int), ((min (hi.getD l.length) l.length : Nat) : Int), 1) := by
    unfold sliceBounds
    cases lo <;> cases hi <;> simp only [Option.map_none, Option.map_some, Option.getD_none, Option.getD_some, show (1 : Int) > 0 from by decide, if_true, e1, e0, e2]
  unfold pick
  rw [key, sliceRange_nat, take_min]
theorem pick_from {α : Type} (l : List α) (a : Nat) : pick l (some (a : Int)) none none = l.drop a := by
  have := pick_any l (some a) none
  rw [List.take_of_length_le (by simp)] at this
  exact this
theorem pick_to {α : Type} (l : List α) (b : Nat) : pick l none (some (b : Int)) none = l.take b := by
  have := pick_any l none (some b)
  simpa using this

theorem mul_txt (l : List Nat) (n : Nat) : Txt.mul (S l) (n : Int) = S (List.replicate n l).flatten := by
  have key : ∀ (j : Nat) (acc : Array Nat), (List.foldl (· ++ ·) acc (List.replicate j l.toArray)).toList = acc.toList ++ (List.replicate j l).flatten := by
    intro j
    induction j with
    | zero => intro acc; simp
    | succ j ih => intro acc; rw [List.replicate_succ, List.foldl_cons, ih]; simp [List.replicate_succ]
  unfold Txt.mul
  split
  · have : n = 0 := by (first | lia | omega)
    subst this
    rfl
  · split
    · rename_i h1 h
      rw [Bool.or_eq_true] at h
      rcases h with h | h
      · have : n = 1 := by
          have := eq_of_beq h
          (first | lia | omega)
        subst this
        simp
      · have : l = [] := by simpa [Str.length] using h
        subst this
        simp
    · have := key n #[]
      show Str.mk _ = Str.mk _
      congr 1
      apply Array.toList_inj.mp
      simpa using this
theorem dots_txt (n : Nat) : Txt.mul (S [46]) (n : Int) = S (List.replicate n 46) := by
  rw [mul_txt]
  congr 2
  induction n with
  | zero => rfl
  | succ n ih => rw [List.replicate_succ, List.flatten_cons, ih, List.replicate_succ]; rfl

/-! rows -/
noncomputable def joinR : List (List Nat) → List Nat
  | [] => []
  | [r] => r
  | r :: q :: rs => r ++ 13 :: 10 :: joinR (q :: rs)
theorem joinR_cons {r : List Nat} {rs : List (List Nat)} (h : rs ≠ []) : joinR (r :: rs) = r ++ 13 :: 10 :: joinR rs := by
  cases rs with
  | nil => exact absurd rfl h
  | cons q rs => rfl
theorem join_rows : ∀ (rs : List (List Nat)), Txt.join (S [13, 10]) (rs.map S) = S (joinR rs)
  | [] => rfl
  | [r] => by
    show glued _ _ = _
    rw [StrLaws.glued_eq_join]
    rfl
  | r :: q :: rs => by
    have ih : glued (S [13, 10]) ((q :: rs).map S) = _ := join_rows (q :: rs)
    rw [StrLaws.glued_eq_join] at ih
    show glued _ _ = _
    rw [StrLaws.glued_eq_join]
    show S r ++ S [13, 10] ++ Str.join (S [13, 10]) ((q :: rs).map S) = _
    rw [ih, S_app, S_app]
    show S _ = S _
    congr 1
    simp [joinR]
noncomputable def cutsR : Nat → List (List Nat) → List Nat
  | _, [] => []
  | _, [_] => []
  | a, r :: q :: rs => (a + r.length) :: cutsR (a + r.length + 2) (q :: rs)
theorem run_free (l : List Nat) (limit : Nat) (n : Nat) : ∀ (m a : Nat) (st : Array Nat × Nat), (∀ i, a ≤ i → i < a + m → ((l.drop i).take 2 == [13, 10]) = false ∨ i < st.2) →
    Id.run (forIn (List.range' a (m + n)) st (StrLaws.occBody (S l) (S [13, 10]) l.length limit)) = Id.run (forIn (List.range' (a + m) n) st (StrLaws.occBody (S l) (S [13, 10]) l.length limit))
  | 0, a, _, _ => by rw [Nat.zero_add, Nat.add_zero]
  | m + 1, a, st, h => by
    rw [Nat.add_right_comm, List.range'_succ, List.forIn_cons]
    have e : StrLaws.occBody (S l) (S [13, 10]) l.length limit a st = pure (ForInStep.yield (st.fst, st.snd)) := by
      unfold StrLaws.occBody
      rw [if_neg]
      rintro ⟨⟨⟨h1, h2⟩, h3⟩, h4⟩
      rw [StrLaws.subAt_eq] at h4
      rcases h a (Nat.le_refl _) (by first | decide | lia | omega) with h | h
      · have h4 : ((l.drop a).take 2 == [13, 10]) = true := h4
        rw [h] at h4; cases h4
      · (first | lia | omega)
    rw [e]
    have ih := run_free l limit n m (a + 1) st fun i h1 h2 => h i (by first | decide | lia | omega) (by first | decide | lia | omega)
    rw [show a + 1 + m = a + (m + 1) from by (first | lia | omega)] at ih
    exact ih
theorem head_no {l : List Nat} (h : 13 ∉ l) (x : List Nat) (i : Nat) (hi : i < l.length) : (((l ++ x).drop i).take 2 == [13, 10]) = false := by
  rw [beq_eq_false_iff_ne]
  intro e
  have : (l ++ x)[i]? = some 13 := by
    have h1 := congrArg (fun z => z[0]?) e
    simpa using h1
  rw [List.getElem?_append_left hi] at this
  exact h (List.mem_of_getElem? this)
theorem run_rows (l : List Nat) (limit : Nat) (hlim : l.length < limit) : ∀ (rs : List (List Nat)) (a : Nat) (st : Array Nat × Nat), rs ≠ [] → (∀ r ∈ rs, 13 ∉ r) → a ≤ l.length → l.drop a = joinR rs → st.2 ≤ a → st.1.size ≤ a →
    (Id.run (forIn (List.range' a (l.length + 1 - a)) st (StrLaws.occBody (S l) (S [13, 10]) l.length limit))).fst.toList = st.fst.toList ++ cutsR a rs
  | [], _, _, h, _, _, _, _, _ => absurd rfl h
  | [r], a, st, _, hr, ha, hd, h1, h2 => by
    have hd : l.drop a = r := hd
    have hl : r.length = l.length - a := by rw [← hd]; simp
    have := run_free l limit 0 (l.length + 1 - a) a st fun i h1 h2 => .inl ?_
    · rw [Nat.add_zero] at this
      rw [this]
      simp [cutsR]
    · have e : l.drop i = r.drop (i - a) := by rw [← hd, List.drop_drop]; congr 1; (first | lia | omega)
      rw [e]
      by_cases hi : i - a < r.length
      · have := head_no (hr r List.mem_cons_self) [] (i - a) hi
        rwa [List.append_nil] at this
      · rw [List.drop_eq_nil_of_le (by first | decide | lia | omega)]; rfl
  | r :: q :: rs, a, st, _, hr, ha, hd, h1, h2 => by
    have hd : l.drop a = r ++ 13 :: 10 :: joinR (q :: rs) := hd
    have hl : l.length - a = r.length + 2 + (joinR (q :: rs)).length := by
      have := congrArg List.length hd
      rw [List.length_drop, List.length_append, List.length_cons, List.length_cons] at this
      (first | lia | omega)
    have hn : l.length + 1 - a = r.length + (1 + (1 + ((joinR (q :: rs)).length + 1))) := by (first | lia | omega)
    have d1 : l.drop (a + r.length) = 13 :: 10 :: joinR (q :: rs) := by rw [← List.drop_drop, hd, List.drop_left]
    have d2 : l.drop (a + r.length + 2) = joinR (q :: rs) := by rw [← List.drop_drop, d1]; rfl
    rw [hn, run_free l limit _ r.length a st fun i h1 h2 => .inl ?_]
    · rw [Nat.add_comm 1, List.range'_succ, List.forIn_cons]
      have e : StrLaws.occBody (S l) (S [13, 10]) l.length limit (a + r.length) st = pure (ForInStep.yield (st.fst.push (a + r.length), a + r.length + 2)) := by
        unfold StrLaws.occBody
        rw [if_pos]
        · rfl
        · refine ⟨⟨⟨by (first | lia | omega), by (first | lia | omega)⟩, ?_⟩, ?_⟩
          · show a + r.length + 2 ≤ _
            (first | lia | omega)
          · rw [StrLaws.subAt_eq]
            show ((l.drop (a + r.length)).take 2 == [13, 10]) = true
            rw [d1]
            rfl
      rw [e]
      show (Id.run (forIn (List.range' (a + r.length + 1) (1 + ((joinR (q :: rs)).length + 1))) (st.fst.push (a + r.length), a + r.length + 2) (StrLaws.occBody (S l) (S [13, 10]) l.length limit))).fst.toList = _
      rw [run_free l limit _ 1 (a + r.length + 1) _ fun i h1 h2 => .inr (by show i < a + r.length + 2; (first | lia | omega))]
      have ih := run_rows l limit hlim (q :: rs) (a + r.length + 2) (st.fst.push (a + r.length), a + r.length + 2) (by simp) (fun x hx => hr x (List.mem_cons_of_mem _ hx)) (by first | decide | lia | omega) d2 (Nat.le_refl _) (by simp; (first | lia | omega))
      rw [show l.length + 1 - (a + r.length + 2) = (joinR (q :: rs)).length + 1 from by (first | lia | omega)] at ih
      rw [show a + r.length + 1 + 1 = a + r.length + 2 from rfl, ih]
      simp [cutsR]
    · have e : l.drop i = (r ++ 13 :: 10 :: joinR (q :: rs)).drop (i - a) := by rw [← hd, List.drop_drop]; congr 1; (first | lia | omega)
      rw [e]
      exact head_no (hr r List.mem_cons_self) _ (i - a) (by first | decide | lia | omega)
theorem cuts_parts (l : List Nat) : ∀ (rs : List (List Nat)) (a : Nat), rs ≠ [] → a ≤ l.length → l.drop a = joinR rs → StrLaws.partsFrom (S l) 2 a (cutsR a rs) = rs.map S
  | [], _, h, _, _ => absurd rfl h
  | [r], a, _, ha, hd => by
    have hd : l.drop a = r := hd
    show [strSub (S l) a (S l).length] = [S r]
    congr 1
    rw [S_of (strSub _ _ _), StrLaws.strSub_toList]
    congr 2
    show (l.drop a).take _ = r
    rw [hd, List.take_of_length_le]
    have hl : r.length = l.length - a := by rw [← hd]; simp
    simp [Str.length]; (first | lia | omega)
  | r :: q :: rs, a, _, ha, hd => by
    have hd : l.drop a = r ++ 13 :: 10 :: joinR (q :: rs) := hd
    have hl : l.length - a = r.length + 2 + (joinR (q :: rs)).length := by
      have := congrArg List.length hd
      rw [List.length_drop, List.length_append, List.length_cons, List.length_cons] at this
      (first | lia | omega)
    have d1 : l.drop (a + r.length) = 13 :: 10 :: joinR (q :: rs) := by rw [← List.drop_drop, hd, List.drop_left]
    have d2 : l.drop (a + r.length + 2) = joinR (q :: rs) := by rw [← List.drop_drop, d1]; rfl
    show strSub (S l) a (a + r.length) :: StrLaws.partsFrom (S l) 2 (a + r.length + 2) (cutsR (a + r.length + 2) (q :: rs)) = S r :: (q :: rs).map S
    rw [cuts_parts l (q :: rs) _ (by simp) (by first | decide | lia | omega) d2]
    congr 1
    rw [S_of (strSub _ _ _), StrLaws.strSub_toList]
    congr 2
    show (l.drop a).take _ = r
    rw [hd, show a + r.length - a = r.length from by (first | lia | omega), List.take_left]
theorem split_rows {rs : List (List Nat)} (h0 : rs ≠ []) (h : ∀ r ∈ rs, 13 ∉ r) : Txt.split (S (joinR rs)) (S [13, 10]) = rs.map S := by
  have occ : occurrences (S (joinR rs)) (S [13, 10]) 0 (S (joinR rs)).length ((S (joinR rs)).length + 1) = cutsR 0 rs := by
    have hl : (S (joinR rs)).length = (joinR rs).length := by simp [Str.length]
    rw [StrLaws.occ_eq, hl]
    have := run_rows (joinR rs) ((joinR rs).length + 1) (by first | decide | lia | omega) rs 0 (#[], 0) h0 h (Nat.zero_le _) rfl (Nat.le_refl _) (by simp)
    simpa using this
  have parts := cuts_parts (joinR rs) rs 0 h0 (Nat.zero_le _) rfl
  unfold Txt.split
  rw [occ, StrLaws.partsBetween_eq]
  have one : ∀ r, rs = [r] → [S (joinR rs)] = rs.map S := fun r e => by subst e; rfl
  split
  · rename_i hc
    rw [Bool.or_eq_true, decide_eq_true_eq, decide_eq_true_eq] at hc
    cases rs with
    | nil => exact absurd rfl h0
    | cons r rs =>
      cases rs with
      | nil => exact one r rfl
      | cons q rs =>
        exfalso
        rcases hc with hc | hc
        · have : (S (joinR (r :: q :: rs))).length = r.length + (2 + (joinR (q :: rs)).length) := by
            show (joinR (r :: q :: rs)).toArray.size = _
            rw [List.size_toArray, joinR_cons (by simp), List.length_append]
            simp; (first | lia | omega)
          have h2 : (S [13, 10]).length = 2 := rfl
          (first | lia | omega)
        · have h1 : Str.strKind (S [13, 10]) = 1 := by kernel_rfl
          rw [h1] at hc
          unfold Str.strKind at hc
          split at hc
          · (first | lia | omega)
          · split at hc <;> (first | lia | omega)
  · split
    · rename_i hc
      cases rs with
      | nil => exact absurd rfl h0
      | cons r rs =>
        cases rs with
        | nil => exact one r rfl
        | cons q rs => simp [cutsR] at hc
    · exact parts
end Mine
end

section
open PySem PySem.W PyProof.Rows PySem.Builtin
set_option Elab.async false
set_option maxRecDepth 100000
set_option linter.all false
namespace Mine
section
variable {k : Bool} {w : World} {A : Around} {c : Cx} {ρ ρ₁ ρ₂ : REnv} {g g' g₁ g₂ : Vw} {s s' s₁ s₂ : Shared}
theorem Ev.str_to {e : Expr} {d d' : PV} (h : Ev k c ρ e d) (he : d = d') : Ev k c ρ e d' := he ▸ h
/-- a row without its dot -/
noncomputable def bareL (l : List Nat) : List Nat := if l.take 1 = [46] then l.drop 1 else l
theorem eqv_str (a b : Str) : PV.eqv (.str a) (.str b) = decide (a = b) := by
  show PyData.eqv (.str _) (.str _) = _
  unfold PyData.eqv
  rw [Bool.eq_iff_iff]; simp
theorem S_inj {a b : List Nat} : S a = S b ↔ a = b := ⟨fun h => by have := congrArg (fun x : Str => x.cps.toList) h; simpa using this, fun h => h ▸ rfl⟩
theorem eqv_S (a b : List Nat) : PV.eqv (.str (S a)) (.str (S b)) = decide (a = b) := by
  rw [eqv_str]
  exact decide_eq_decide.mpr S_inj
/-- signs, and few enough -/
noncomputable def Ok (n : Nat) (l : List Nat) : Prop := l.length ≤ n ∧ ∀ c ∈ l, c < 0x110000
theorem Ok.ok {n : Nat} {l : List Nat} (h : Ok n l) : PyData.strOk (S l) = true := by
  unfold PyData.strOk
  simp only [List.all_toArray, List.all_eq_true, decide_eq_true_eq]
  exact h.2
theorem Ok.pv {n m : Nat} {l : List Nat} (h : Ok n l) : PV.ok m (.str (S l)) = true := by
  have := h.ok
  exact this
theorem Ok.take {n : Nat} {l : List Nat} (h : Ok n l) (i : Nat) : Ok n (l.take i) := ⟨Nat.le_trans (by rw [List.length_take]; omega) h.1, fun c hc => h.2 c (List.mem_of_mem_take hc)⟩
theorem Ok.drop {n : Nat} {l : List Nat} (h : Ok n l) (i : Nat) : Ok n (l.drop i) := ⟨Nat.le_trans (by rw [List.length_drop]; omega) h.1, fun c hc => h.2 c (List.mem_of_mem_drop hc)⟩
theorem Ok.app {n m : Nat} {a b : List Nat} (h1 : Ok n a) (h2 : Ok m b) : Ok (n + m) (a ++ b) := ⟨by rw [List.length_append]; exact Nat.add_le_add h1.1 h2.1, fun c hc => by rcases List.mem_append.mp hc with h | h; exact h1.2 c h; exact h2.2 c h⟩
theorem Ok.le {n m : Nat} {a : List Nat} (h1 : Ok n a) (h2 : n ≤ m) : Ok m a := ⟨Nat.le_trans h1.1 h2, h1.2⟩
theorem Ok.size {n : Nat} {l : List Nat} (h : Ok n l) (hn : n ≤ 2 ^ 24) : (S l).length ≤ sizeLine := by
  rw [sizeLine_eq]
  have := h.1
  show l.toArray.size ≤ _
  rw [List.size_toArray]
  omega
set_option maxHeartbeats 0 in
theorem f_bare {l : List Nat} (hl : Ok (2 ^ 20) l) (hroom : A.depth < recursionLimit) (hu : A.units ≤ 280) : CallV k w A (.ref 139) [.str (S l)] (.str (S (bareL l))) := by
  refine CallV.fn (cc := 138) (xs := ["row"]) [("row", .str (S l))] ⟨by kernel_rfl, by kernel_rfl, by kernel_rfl, by kernel_rfl, ⟨_, _, rfl, rfl⟩, rfl, by kernel_rfl, by kernel_rfl, by kernel_rfl, by kernel_rfl, by kernel_rfl⟩ (by kernel_rfl)
    (bind1 rfl fun _ => by kernel_rfl) rfl (fun n => mem1 (.inl (by kernel_rfl))) hroom rfl fun L => ?_
  have hsz : (S l).length ≤ sizeLine := hl.size (by decide)
  have h46 : Ok 1 [46] := ⟨by simp, by simp⟩
  have hcu : (fc w A 139 L).A.units + 64 < cLine := by
    show A.units + 3 + 64 < cLine
    have : cLine = 9900 := by rfl
    omega
  refine Fx.ret (Ev.ite (decide (l.take 1 = [46])) ?c (fun h => ?x) fun h => ?y)
  case c =>
    rw [← eqv_S]
    refine Tr.cmp (Ev.str_to (Ev.sub (o := .str (S l)) (i := .slice Option.none (some 1) Option.none) (by one_item) (Ev.slice PartIs.none (PartIs.some (by one_item)) PartIs.none) (GetV.slice_str hsz) rfl (by intro _ _; first | exact .inl rfl | exact .inr rfl)) (congrArg PV.str (slice_to l 1))) (Ev.str' (by kernel_rfl)) (CmpV.eq 0 0 (hl.take 1).pv h46.pv (by omega) (by omega) hcu) (by kernel_rfl)
  case x =>
    have e : bareL l = l.drop 1 := if_pos (of_decide_eq_true h)
    rw [e]
    exact Ev.str_to (Ev.sub (o := .str (S l)) (i := .slice (some 1) Option.none Option.none) (by one_item) (Ev.slice (PartIs.some (by one_item)) PartIs.none PartIs.none) (GetV.slice_str hsz) rfl (by intro _ _; first | exact .inl rfl | exact .inr rfl)) (congrArg PV.str (slice_from l 1))
  case y =>
    have e : bareL l = l := if_neg (of_decide_eq_false h)
    rw [e]
    one_item
end
end Mine
end

section
open PySem PySem.W PyProof.Rows PySem.Builtin
set_option Elab.async false
set_option maxRecDepth 100000
set_option linter.all false
namespace Mine
section
variable {k : Bool} {w : World} {A : Around} {c : Cx} {ρ ρ₁ ρ₂ : REnv} {g g' g₁ g₂ : Vw} {s s' s₁ s₂ : Shared}
theorem MadeX.fly {fs : List Addr} {code : Int} {msg : Str} {e : Addr} (m : MadeX w s code msg e s') : Fly w s fs code msg e s' := by
  obtain ⟨d, vs, t1, t2, t3, t4, n, h1, h2, h3, h4, h5, h6⟩ := m.ex
  have hz : 3 ≤ vs.size := by
    rcases Nat.lt_or_ge 2 vs.size with h | h
    · exact h
    · rw [Array.getElem?_eq_none h] at h5; cases h5
  exact ⟨fun b o _ hb => m.le b o hb, fun b _ o hb => ⟨o.slots, m.le b o hb⟩, h1, ⟨d, vs, t1, t2, t3, t4, n, h3, hz, h5, h2, h6, .inl h4⟩, m.rest⟩
theorem MadeX.at {code : Int} {msg : Str} {e : Addr} (m : MadeX w s code msg e s') : ExcAt s'.heap e := by
  obtain ⟨d, vs, t1, t2, t3, t4, n, h1, h2, h3, h4, h5, h6⟩ := m.ex
  exact ⟨⟨_, vs, h3, rfl, rfl, h4⟩⟩
theorem FramesOK.inner {fs : List Addr} {envs : List Env} {env : Env} {L : Addr} {m : Str → Option Value} (F : FramesOK s fs envs) (st : ∀ b o, s.heap.get? b = some o → s'.heap.get? b = some o) (hk : env.scope.kind ≠ .module) (hf : env.frame = some L) (hn : s'.heap.Ns L m) : FramesOK s' (L :: fs) (env :: envs) where
  all := fun e he => by
    rcases List.mem_cons.mp he with rfl | he
    · obtain ⟨o, es, ep, ho, hd, _⟩ := hn
      exact ⟨hk, L, o, hf, List.mem_cons_self, ho, fun vs q => by rw [hd] at q; cases q⟩
    · obtain ⟨h1, L', o, h2, h3, h4, h5⟩ := F.all e he
      exact ⟨h1, L', o, h2, List.mem_cons_of_mem _ h3, st _ _ h4, h5⟩
/-- a call that ends with an exception -/
noncomputable def CallX (w : World) (A : Around) (f : Value) (args : List PV) (code : Int) (msg : Str) : Prop :=
  ∀ (g : Vw) (s : Shared) (fs : List Addr) (envs : List Env) (vs : List Value) (Q : Value → Shared → Prop) (E : Value → Shared → Prop), A.frames = some envs → FramesOK s fs envs → Base w g → Le g s.heap.get? → RepL w.params g vs args →
    (∀ e s', Fly w s fs code msg e s' → E (.ref e) s') → wpAny (model PW w) A (call f vs) Q E s

theorem strB_of (a b : List Nat) : strB (S a) (S b) = if a = b then 0 else if a < b then -1 else 1 := by
  show b2i (decide (b < a)) - b2i (decide (a < b)) = _
  by_cases h : a = b
  · subst h
    rw [if_pos rfl]
    (first | lia | omega)
  · rw [if_neg h]
    by_cases h1 : a < b
    · rw [if_pos h1]
      have h2 : ¬ b < a := List.lt_asymm h1
      simp [h1, h2, b2i]
    · rw [if_neg h1]
      have h2 : b < a := by
        refine Classical.byContradiction fun h2 => h ?_
        exact List.le_antisymm (List.not_lt.mp h2) (List.not_lt.mp h1)
      simp [h1, h2, b2i]
theorem strB_zero {a b : List Nat} : (PV.eqv (.int (strB (S a) (S b))) (.int 0)) = decide (a = b) := by
  show ((strB (S a) (S b)) == 0) = _
  rw [strB_of]
  by_cases h : a = b
  · simp [h]
  · rw [if_neg h, decide_eq_false h]
    split <;> rfl
set_option maxHeartbeats 0 in
theorem f_take_ok {a1 a2 a3 a4 : Int} {lt : List (Str × PV)} {mark due body : List Nat} (hh : A.handled = none) (he : mark = due) (hb : body.length ≤ 2 ^ 20) (hn : (lt.map (·.1)).Nodup) (hsz : lt.length ≤ 2 ^ 20) (hok : CanAdd lt "writing" (.str (S body))) (hroom : A.depth ≤ 460) (hu : A.units ≤ 250) :
    CallV k w A (.ref 146) [bookV a1 a2 a3 a4 lt, .str (S mark), .str (S body), .str (S due)] (bookV (1 + a1) (1 + a2) (body.length + a3) (0 + a4) (addC lt "writing" (.str (S body)))) := by
  refine CallV.fn (cc := 145) (xs := ["book", "mark", "body", "due"]) [("due", .str (S due)), ("body", .str (S body)), ("mark", .str (S mark)), ("book", bookV a1 a2 a3 a4 lt)] ⟨by kernel_rfl, by kernel_rfl, by kernel_rfl, by kernel_rfl, ⟨_, _, rfl, rfl⟩, rfl, by kernel_rfl, by kernel_rfl, by kernel_rfl, by kernel_rfl, by kernel_rfl⟩ (by kernel_rfl)
    (bind4 rfl fun _ _ _ _ => by kernel_rfl) rfl (fun n => mem2 (.inl (by kernel_rfl)) (mem2 (.inl (by kernel_rfl)) (mem2 (.inl (by kernel_rfl)) (mem1 (.inl (by kernel_rfl)))))) (by unfold recursionLimit; (first | lia | omega)) rfl fun L => ?_
  have hcu : (fc w A 146 L).A.units + 64 < cLine := by
    show A.units + 3 + 64 < cLine
    have : cLine = 9900 := by rfl
    (first | lia | omega)
  have hh' : (fc w A 146 L).A.handled = none := hh
  refine Fx.cons (Sx.assign (d := .int (strB (S mark) (S due))) (Ev.call_f (fa := 99) (by kernel_rfl) (by kernel_rfl) (show (KF w).lookup 99 = some (OB w 99) by kernel_rfl) (show (OB w 99).data = .func (FD w 99) by kernel_rfl) (EvL.cons rfl (d := .str (S mark)) (by one_item) (EvL.cons rfl (d := .str (S due)) (by one_item) EvL.nil)) (f_strcoll (by show A.depth + 1 < recursionLimit; unfold recursionLimit; (first | lia | omega))) rfl (by kernel_rfl)) (.inl (by kernel_rfl)) (by rfl)) ?_
  refine Fx.cons (Sx.if_f (Tr.or_f ?_ (Tr.or_f (Tr.plain (Ev.call_b (ds := [.int (strB (S mark) (S due)), .ty "bool"]) (by kernel_rfl) (by kernel_rfl) (by kernel_rfl) (EvL.cons rfl (by one_item) (EvL.cons rfl (by one_item) EvL.nil)) (CallV.isi_bool (by show A.depth + 1 ≤ 500; (first | lia | omega)) (by show A.units + 3 ≤ 400; (first | lia | omega))) rfl (by rfl) (by decide +kernel) (by kernel_rfl)) rfl) Tr.or_nil)) Nx.nil) ?_
  · have e : (!PV.eqv (.int (strB (S mark) (S due))) (.int 0)) = false := by rw [strB_zero, decide_eq_true he]; rfl
    rw [← e]
    exact Tr.cmp (by one_item) Ev.int (CmpV.ne 0 0 rfl rfl (by first | decide | lia | omega) (by first | decide | lia | omega) hcu) (by kernel_rfl)
  · refine Fx.ret (Ev.call_f (fa := 113) (by kernel_rfl) (by kernel_rfl) (show (KF w).lookup 113 = some (OB w 113) by kernel_rfl) (show (OB w 113).data = .func (FD w 113) by kernel_rfl)
      (EvL.cons rfl (d := bookV a1 a2 a3 a4 lt) (by one_item) (EvL.cons rfl (d := bookV 1 1 body.length 0 [("writing", .str (S body))]) (Ev.tuple (EvL.cons rfl Ev.int (EvL.cons rfl Ev.int (EvL.cons rfl ?_ (EvL.cons rfl Ev.int (EvL.cons rfl (Ev.dict1 Ev.str (by one_item)) EvL.nil))))) (by show 5 ≤ sizeLine; rw [sizeLine_eq]; (first | lia | omega))) EvL.nil))
      (CallP.v (f_add_stats hn hsz trivial hok (by show A.depth + 1 ≤ 470; (first | lia | omega)) (by show A.units + 3 ≤ 280; (first | lia | omega))) fun g => .inl hh') rfl (by kernel_rfl))
    have e : (.int (body.length : Int) : PV) = .int ((S body).length : Int) := by simp [Str.length]
    rw [e]
    refine Ev.call_b (ds := [.str (S body)]) (by kernel_rfl) (by kernel_rfl) (by kernel_rfl) (EvL.cons rfl (by one_item) EvL.nil) (CallV.len_str (by simp [Str.length]; (first | lia | omega))) rfl (by rfl) (by decide +kernel) (by kernel_rfl)
set_option maxHeartbeats 0 in
theorem f_take_no {a1 a2 a3 a4 : Int} {lt : List (Str × PV)} {mark due body : List Nat} (hh : A.handled = none) (he : mark ≠ due) (hroom : A.depth ≤ 460) (hu : A.units ≤ 250) :
    CallX w A (.ref 146) [bookV a1 a2 a3 a4 lt, .str (S mark), .str (S body), .str (S due)] (strB (S mark) (S due)) (S mark) := by
  intro g s fs envs vs Q E hfr hfs B Lg r hE
  have I : IsFn w 146 145 _ := ⟨by kernel_rfl, by kernel_rfl, by kernel_rfl, by kernel_rfl, ⟨_, _, rfl, rfl⟩, rfl, by kernel_rfl, by kernel_rfl, by kernel_rfl, by kernel_rfl, by kernel_rfl⟩
  refine wpAny_call (enter (xs := ["book", "mark", "body", "due"]) I (by kernel_rfl) (bind4 rfl (fun _ _ _ _ => by kernel_rfl) vs r.length) (by rw [r.length]; rfl) (fun n => mem2 (.inl (by kernel_rfl)) (mem2 (.inl (by kernel_rfl)) (mem2 (.inl (by kernel_rfl)) (mem1 (.inl (by kernel_rfl)))))) (by unfold recursionLimit; (first | lia | omega)) B Lg r fun L s₁ F hle hown hrest => ?_)
  have F : FrOK (fc w A 146 L) [("due", .str (S due)), ("body", .str (S body)), ("mark", .str (S mark)), ("book", bookV a1 a2 a3 a4 lt)] g s₁ := F
  have hcu : (fc w A 146 L).A.units + 64 < cLine := by
    show A.units + 3 + 64 < cLine
    have : cLine = 9900 := by rfl
    (first | lia | omega)
  have hh' : (fc w A 146 L).A.handled = none := hh
  refine wpAny_execs_cons ?_
  refine (Sx.assign (k := true) (c := fc w A 146 L) (ρ := [("due", .str (S due)), ("body", .str (S body)), ("mark", .str (S mark)), ("book", bookV a1 a2 a3 a4 lt)]) (d := .int (strB (S mark) (S due))) (Ev.call_f (fa := 99) (by kernel_rfl) (by kernel_rfl) (show (KF w).lookup 99 = some (OB w 99) by kernel_rfl) (show (OB w 99).data = .func (FD w 99) by kernel_rfl) (EvL.cons rfl (d := .str (S mark)) (by one_item) (EvL.cons rfl (d := .str (S due)) (by one_item) EvL.nil)) (f_strcoll (by show A.depth + 1 < recursionLimit; unfold recursionLimit; (first | lia | omega))) rfl (by kernel_rfl)) (.inl (by kernel_rfl)) (by rfl)) g s₁ _ _ F fun g2 s2 st2 F2 => ?_
  refine wpAny_execs_cons (wpAny_If ?_)
  have e : (!PV.eqv (.int (strB (S mark) (S due))) (.int 0)) = true := by rw [strB_zero, decide_eq_false he]; rfl
  refine Tr.or_t (k := true) (c := fc w A 146 L) (e ▸ Tr.cmp (by one_item) Ev.int (CmpV.ne 0 0 rfl rfl (by first | decide | lia | omega) (by first | decide | lia | omega) hcu) (by kernel_rfl)) g2 s2 _ _ F2.env F2.le fun g3 s3 st3 => ?_
  rw [if_pos rfl]
  have F3 := F2.step st3
  refine wpAny_execs_cons ?_
  refine raise_83 hh' ?_
  refine Call_ (ld_glob (v := .ref 83) F3.env F3.le (by kernel_rfl) (by kernel_rfl) ?_ (by kernel_rfl))
  refine callWith_K (F3.env.base.kin F3.le) (by kernel_rfl) ?_ rfl (by rfl)
  refine (EvL.cons (k := true) (c := fc w A 146 L) (ρ := [("side", .int (strB (S mark) (S due))), ("due", .str (S due)), ("body", .str (S body)), ("mark", .str (S mark)), ("book", bookV a1 a2 a3 a4 lt)]) rfl (d := .int (strB (S mark) (S due))) (by one_item) (EvL.cons rfl (d := .str (S mark)) (by one_item) EvL.nil)) _ g3 s3 _ _ F3.env F3.le fun vs4 g4 s4 st4 r4 => ?_
  have F4 := F3.step st4
  have K4 := F4.env.base.kin F4.le
  refine ⟨K4, ?_⟩
  cases r4 with
  | cons q1 q2 =>
  cases q2 with
  | cons q2 q3 =>
  cases q3
  cases q1
  cases q2
  refine of_AX (by show A.depth + 1 ≤ 500; (first | lia | omega)) (by show A.units + 3 ≤ 400; (first | lia | omega)) ?_
  refine wpAny_mono (x_exc w s4 K4 _ _ _ _ _) (fun v s5 hv => ?_) fun _ _ h => h.elim
  obtain ⟨e, rfl, M⟩ := hv
  have K5 : (KF w).In s5.heap := fun b o hb => M.le b o (K4 b o hb)
  refine ⟨e, rfl, M.at, K5, ?_⟩
  have ss : SS (Own (fc w A 146 L)) true g s₁ g4 s4 := (st2.trans (F2.ss st3)).trans (F3.ss st4)
  have st : Step true g s g4 s4 := ss.leave hle hown hrest
  obtain ⟨m, hn, _⟩ := F4.env.loc
  have fr : FramesOK s4 (L :: fs) ((fc w A 146 L).env :: envs) := hfs.inner st.heap (by show (FD w 146).scope.kind ≠ .module; rw [I.kind]; decide) rfl hn
  have hfr' : (fc w A 146 L).A.frames = some ((fc w A 146 L).env :: envs) := by
    show pushEnvs [(fc w A 146 L).env] A.frames = _
    rw [hfr]; rfl
  unfold leaving
  refine wpAny_bind (Fly.note hfr' fr M.fly fun s6 f6 => ?_)
  exact hE _ _ (f6.outer (s₁ := s) st.heap st.rest (fun b hb hnb => by
    rcases List.mem_cons.mp hb with rfl | hb
    · exact hown _ (.inl rfl)
    · exact absurd hb hnb) fun b hb => List.mem_cons_of_mem _ hb)
end
end Mine
end

section
open PySem PySem.W PyProof.Rows PySem.Builtin
set_option Elab.async false
set_option maxRecDepth 100000
set_option linter.all false
namespace Mine
section
variable {k : Bool} {w : World} {A : Around} {c : Cx} {ρ ρ₁ ρ₂ ρ' ρ'' : REnv} {g g' g₁ g₂ : Vw} {s s' s₁ s₂ s₀ : Shared} {fs : List Addr} {code : Int} {msg : Str} {e : Addr}

theorem Fly.flight {M : Model} {Q : Unit → Shared → Prop} {E : Value → Shared → Prop} (f : Fly w s₀ fs code msg e s) (hf : ∀ b ∈ fs, s₀.heap.get? b ≠ none) (h : ∀ s', Fly w s₀ fs code msg e s' → Q () s') : wpAny M A (setFlight (.ref e) none) Q E s := by
  obtain ⟨d, vs, t1, t2, t3, t4, n, he, hz, h2, hd0, hd, h6⟩ := id f.exc
  unfold setFlight
  rcases h6 with h6 | ⟨T, oT, ts, a1, a2, a3, a3', a4, a5, a6, a7⟩
  · refine wpAny_bind (wpAny_field he rfl h6 ?_)
    rw [if_neg (by decide)]
    exact wpAny_pure (h s f)
  · refine wpAny_bind (wpAny_field he rfl a1 ?_)
    rw [if_pos (show (Value.ref T != Value.none) = true from by simp)]
    refine wpAny_setField a4 a5 (by omega) (h _ ?_)
    have other : ∀ b, b ≠ T → (s.heap.update T (Obj.mapFields (·.setIfInBounds 3 ((none : Option Addr).elim Value.none fun f => rawInt f)))).get? b = s.heap.get? b := fun b hb => Heap.get?_update_other _ _ (Ne.symm hb)
    refine ⟨fun b o hb hb0 => (other b fun q => by rw [q, a2] at hb0; cases hb0).trans (f.keep b o hb hb0), fun b hb o hb0 => ?_, f.fresh, ?_, f.rest.trans (Rest.same true s _ s.toks)⟩
    · obtain ⟨sl, h5⟩ := f.slots b hb o hb0
      exact ⟨sl, (other b fun q => by rw [q, a2] at hb0; cases hb0).trans h5⟩
    · exact ⟨d, vs, t1, t2, t3, t4, n, (other e (Ne.symm a3)).trans he, hz, h2, hd0, (other d (Ne.symm a3')).trans hd, .inr ⟨T, _, _, a1, a2, a3, a3', Heap.get?_update_self _ a4 (Obj.isFreed_of_fields (Obj.data_mapFields a5 _)), Obj.data_mapFields a5 _, by rw [Array.size_setIfInBounds]; exact a6, by have h3 : 3 < ts.size := a6; simp [h3]⟩⟩

/-- an attribute of an exception of the module's class -/
theorem exc_get {name : Str} {x : Addr} {ox : Obj} {od : Option Obj} {v : Value} {Q : Value → Shared → Prop} {E : Value → Shared → Prop} (X : (KF w).In s.heap) (I : InstAt s.heap x ox 83 od) (hf : findObj (KF w) 83 od name = some (.value v)) (hh : handedIn v = true)
    (h : Q v { s with toks := s.toks + 1 }) : wpAny (model PW w) A (getAttr (.ref x) name true) Q E s := by
  obtain ⟨hp, gg, d, t, os⟩ := s
  have L0 := I.type (M := model PW w)
  have L1 := looks_findIn (M := model PW w) X (t := .ref 83) (name := "__getattribute__") (r := some (.builtin "BaseException.__getattribute__")) (by kernel_rfl)
  have L2 := looks_findIn (M := model PW w) X (t := .ref 83) (name := "__getattr__") (r := Option.none) (by kernel_rfl)
  have L3 := looks_find (M := model PW w) X I hf
  unfold getAttr getAttrBy
  refine wpAny_bind (wpAny_mkText (wpAny_holding (wpAny_bind (L0.at (wpAny_bind (L1.at ?_))))))
  have hx2 : (onTheHeap (Value.ref 83) && Value.builtin "BaseException.__getattribute__" == Value.builtin "object.__getattribute__") = false := by decide +kernel
  dsimp only
  rw [if_neg (by rw [hx2]; exact Bool.false_ne_true)]
  unfold getAttrByItsOwn hookBefore
  rw [if_pos (show onTheHeap (Value.ref 83) = true from rfl)]
  refine wpAny_bind (L2.at ?_)
  refine wpAny_bind (wpAny_attempt (wpAny_holding ?_))
  unfold callGetattribute
  rw [if_neg (show ¬ ((true && onTheHeap (Value.builtin "BaseException.__getattribute__")) = true) by decide)]
  unfold boundAndCalled
  refine wpAny_bind ?_
  rw [F.attr_Exception.ga.bind (.ref x)]
  refine wpAny_pure ?_
  refine wpAny_call (codeAny_call_builtin F.attr_Exception.ga.plain F.entry_bexc_ga ?_)
  have hk : builtinKind "BaseException.__getattribute__" = some .slot := by decide +kernel
  have hsplit : splitId "BaseException.__getattribute__" = some ("BaseException", "__getattribute__") := by decide +kernel
  have ha := F.args_bexc_ga (.ref x) (.str name t)
  simp only [List.singleton_append, checkBuiltinCall, hk, hsplit]
  refine wpAny_bind ?_
  unfold isInstance
  refine wpAny_bind (L0.at ?_)
  refine sub83 (b := true) X (by kernel_rfl) ?_
  rw [if_neg (by decide)]
  have fin : ∀ {R : Unit → Shared → Prop} {E' : Value → Shared → Prop} {st : Shared}, R () st → wpAny (model PW w) A.in1 (match Manifest.signature? "BaseException.__getattribute__" with | some sig => Bind.checkArgs "BaseException.__getattribute__" sig ⟨[Value.ref x, Value.str name t], []⟩ | Option.none => pure ()) R E' st := by
    intro R E' st hR
    cases hsig : Manifest.signature? "BaseException.__getattribute__" with
    | none => exact wpAny_pure hR
    | some sig =>
      simp only [argsOk, hsig] at ha
      have h2 : Bind.checkArgs "BaseException.__getattribute__" sig ⟨[Value.ref x, Value.str name t], []⟩ = pure () := ha
      show wpAny _ _ (Bind.checkArgs "BaseException.__getattribute__" sig ⟨[Value.ref x, Value.str name t], []⟩) _ _ _
      rw [h2]; exact wpAny_pure hR
  refine fin ?_
  unfold Builtin.«object.__getattribute__»
  refine wpAny_bind (wpAny_pure (wpAny_bind (wpAny_pure ?_)))
  refine wpAny_bind (L0.at (wpAny_bind (L3.at ?_)))
  refine wpAny_pure ?_
  show wpAny _ _ (handedOut v) _ _ _
  rw [handedOut_of hh]
  exact wpAny_pure h
/-- what the exception carries -/
theorem Ev.exc_code {n : Str} {np pos : Pos} (h0 : Ev k c ρ (.Name n np) (.exc code msg)) : Ev k c ρ (.Attribute (.Name n np) "smtp_code" pos) (.int code) := fun g s Q E F L h =>
  Attribute_name (h0 g s _ E F L fun v g' s' st r => by
    replace r := r.inv
    cases r with
    | mk e1 e2 e3 =>
      rename_i a d vs t1 t2 t3 t4 m
      refine exc_get ((F.base.mono st.up).kin st.sub) (od := some _) ⟨st.sub _ _ e1, rfl, rfl, st.sub _ _ e3⟩ (findObj_own (attr := Option.none) (by kernel_rfl) (by kernel_rfl) (by rfl) ?_) (v := .int code t2) rfl (h _ g' _ (st.trans (Step.tok st.sub _)) (.int _ _))
      rfl)
theorem Ev.exc_msg {n : Str} {np pos : Pos} (h0 : Ev k c ρ (.Name n np) (.exc code msg)) : Ev k c ρ (.Attribute (.Name n np) "smtp_error" pos) (.str msg) := fun g s Q E F L h =>
  Attribute_name (h0 g s _ E F L fun v g' s' st r => by
    replace r := r.inv
    cases r with
    | mk e1 e2 e3 =>
      rename_i a d vs t1 t2 t3 t4 m
      refine exc_get ((F.base.mono st.up).kin st.sub) (od := some _) ⟨st.sub _ _ e1, rfl, rfl, st.sub _ _ e3⟩ (findObj_own (attr := Option.none) (by kernel_rfl) (by kernel_rfl) (by rfl) ?_) (v := .str msg t4) rfl (h _ g' _ (st.trans (Step.tok st.sub _)) (.str _ _))
      rfl)

theorem FrOK.fly (F : FrOK c ρ g s₀) (f : Fly w s₀ fs code msg e s) (hg : ∀ b ∈ fs, g b = none) (hc : ∀ x b, c.env.cells.lookup x = some b → b ∉ fs) : FrOK c ρ g s where
  env := { base := F.env.base, fn := F.env.fn, gl := F.env.gl, bn := F.env.bn,
           loc := by
             obtain ⟨m, ⟨o, es, ep, ho, hd, r⟩, hm⟩ := F.env.loc
             by_cases hb : c.env.locals ∈ fs
             · obtain ⟨sl, h1⟩ := f.slots _ hb o ho
               exact ⟨m, ⟨_, es, ep, h1, hd, r⟩, hm⟩
             · exact ⟨m, ⟨o, es, ep, f.keep _ _ hb ho, hd, r⟩, hm⟩
           cel := fun x d hx hd => let ⟨a, v, h1, ⟨o, ho, hcl⟩, r⟩ := F.env.cel x d hx hd; ⟨a, v, h1, ⟨o, f.keep a o (hc x a h1) ho, hcl⟩, r⟩ }
  le := fun b o hb => f.keep b o (fun q => by rw [hg b q] at hb; cases hb) (F.le b o hb)
  hid := F.hid
  cell := fun x a hx => let ⟨h1, v, o, ho, hcl⟩ := F.cell x a hx; ⟨h1, v, o, f.keep a o (hc x a hx) ho, hcl⟩
  apart := F.apart

/-- the name of an except clause goes -/
theorem name_goes {n : Str} {pos : Pos} {Q : Unit → Shared → Prop} {E : Value → Shared → Prop} (F : FrOK c ρ g s) (hl : c.env.kindOf n = some .local) (hs : Sub ρ' ρ) (hn : ρ'.lookup n = none)
    (h : ∀ s', SS (Own c) k g s g s' → FrOK c ρ' g s' → Q () s') : Wp c (do bindName c.env n .none; unbindBehindTheSuite c.env n pos) Q E s := by
  obtain ⟨m, hns, hm⟩ := F.env.loc
  refine wpAny_nameGoes_keeps hl hns (by rw [F.env.fn]; rfl) fun h' v hn' hs' => ?_
  have F' := F.less hs
  have low : ∀ b o, g b = some o → ¬ Own c b := fun b o e hb => by rw [F.hid b hb] at e; cases e
  have hold : ∀ b o, ¬ Own c b → s.heap.get? b = some o → h'.get? b = some o := fun b o hb e => hs'.extBut b o (fun q => hb (.inl q)) e
  have ss : SS (Own c) k g s g { s with heap := h', toks := s.toks + 1 } := SS.grow F.le hold low (Rest.same _ _ _ _)
  refine h _ ss ⟨⟨F.env.base, F.env.fn, F.env.gl, F.env.bn, ⟨_, hn', fun y d hy hd => ?_⟩, fun y d hy hd => ?_⟩, ss.sub, F.hid, fun y b hb => ?_, F.apart⟩
  · have hyn : y ≠ n := fun q => by rw [q, hn] at hd; cases hd
    rw [if_neg hyn]
    exact hm y d hy (hs y d hd)
  · obtain ⟨b, v', h1, h2, h3⟩ := F'.env.cel y d hy hd
    exact ⟨b, v', h1, h2.sameBut hs' (F.cell y b h1).1, h3⟩
  · obtain ⟨h1, v', h2⟩ := F.cell y b hb
    exact ⟨h1, v', h2.sameBut hs' h1⟩

/-- a view of another place of the same frame -/
theorem FrOK.at {A' : Around} (F : FrOK c ρ g s) : FrOK ⟨c.w, A', c.env⟩ ρ g s := ⟨⟨F.env.base, F.env.fn, F.env.gl, F.env.bn, F.env.loc, F.env.cel⟩, F.le, F.hid, F.cell, F.apart⟩

/-- a try statement whose body ends with the exception -/
theorem try_raise {outer : List Env} {body suite : List Stmt} {b₀ : Stmt} {x n : Str} {tp hpos pos : Pos} {Q : Flow → Shared → Prop} {E : Value → Shared → Prop}
    (F : FrOK c ρ g s) (hfr : c.A.frames = some (c.env :: outer)) (fr : FramesOK s fs (c.env :: outer)) (hfs : ∀ b ∈ fs, g b = none) (hfe : ∀ b ∈ fs, s.heap.get? b ≠ none) (hc : ∀ x b, c.env.cells.lookup x = some b → b ∉ fs)
    (hbody : ∀ Q E, (∀ g1 s1 e s', Step true g s g1 s1 → Fly c.w s1 fs code msg e s' → E (.ref e) s') → Wp c (execs body c.env) Q E s)
    (hk : c.env.kindOf x = some .globalImplicit) (hv : nsIn (KF c.w) mainGlobals x = some (some (.ref 83))) (hd : (x == ("__debug__" : Str)) = false) (hn : c.env.kindOf n = some .local)
    (hsuite : ∀ e g' s' Q E, HandV (c.A.mark (some (.ref e))) g' → FrOK ⟨c.w, c.A.mark (some (.ref e)), c.env⟩ ((n, .exc code msg) :: ρ) g' s' → (∀ g'' s'', SS (Own c) true g' s' g'' s'' → FrOK ⟨c.w, c.A.mark (some (.ref e)), c.env⟩ ρ' g'' s'' → Q .next s'') →
      wpAny (model PW c.w) (c.A.mark (some (.ref e))) (execs (b₀ :: suite) c.env) Q E s')
    (hs : Sub ρ'' ρ') (hn'' : ρ''.lookup n = none)
    (h : ∀ g'' s'', SS (fun b => Own c b ∨ b ∈ fs) true g s g'' s'' → (∀ b ∈ fs, ¬ Own c b → ∀ o, s.heap.get? b = some o → ∃ sl, s''.heap.get? b = some { o with slots := sl }) → FrOK c ρ'' g'' s'' → Q .next s'') :
    Wp c (exec (.Try body [.ExceptHandler (some (.Name x tp)) (some n) (b₀ :: suite) hpos] [] [] pos) c.env) Q E s := by
  refine wpAny_Try_except (hbody _ _ fun g1 s1 e s2 st f => ?_)
  have F1 := F.step st
  have fr1 : FramesOK s1 fs (c.env :: outer) := ⟨fun env he => by
    obtain ⟨h1, L, o, h2, h3, h4, h5⟩ := fr.all env he
    exact ⟨h1, L, o, h2, h3, st.heap _ _ h4, h5⟩⟩
  have hfs1 : ∀ b ∈ fs, g1 b = none := fun b hb => st.hides (hfs b hb) (hfe b hb)
  have hfe1 : ∀ b ∈ fs, s1.heap.get? b ≠ none := fun b hb q => by
    cases q' : s.heap.get? b with
    | none => exact hfe b hb q'
    | some o => have := st.heap b o q'; rw [q] at this; cases this
  refine f.note hfr fr1 fun s3 f3 => ?_
  have F3 : FrOK c ρ g1 s3 := F1.fly f3 hfs1 hc
  have K3 := F3.env.base.kin F3.le
  obtain ⟨d, vs, t1, t2, t3, t4, m, he3, hz3, h23, hd03, hd3, _⟩ := id f3.exc
  refine wpAny_handleBy_cons (codeAny_handlers_test (ld_glob (c := ⟨c.w, c.A.mark (some (.ref e)), c.env⟩) (FrOK.at F3).env F3.le hk hv (matches83 K3 he3 rfl ?_) hd)) (by intro q; cases q)
  refine codeAny_handlers_suite_as (f3.flight hfe1 fun s4 f4 => ?_)
  have F4 : FrOK c ρ g1 s4 := F1.fly f4 hfs1 hc
  obtain ⟨d, vs, t1, t2, t3, t4, m, he, hz, h2, hd0, hdd, _⟩ := id f4.exc
  have hew : e ∉ fs := fun q => hfe1 e q f4.fresh
  have hdw : d ∉ fs := fun q => hfe1 d q hd0
  have heo : ¬ Own c e := fun q => F1.has e q f4.fresh
  have hdo : ¬ Own c d := fun q => F1.has d q hd0
  have ss1 : SS (fun b => Own c b ∨ b ∈ fs) true g s g1 s1 := SS.of st fun b hb => by
    rcases hb with hb | hb
    · exact F.has b hb
    · exact hfe b hb
  have ss4 : SS (fun b => Own c b ∨ b ∈ fs) true g1 s1 g1 s4 := SS.grow F1.le (fun b o hb hb0 => f4.keep b o (fun q => hb (.inr q)) hb0) (fun b o hb q => by
    rcases q with q | q
    · rw [F1.hid b q] at hb; cases hb
    · rw [hfs1 b q] at hb; cases hb) f4.rest
  have hX : ∀ b, b = e ∨ b = d → s1.heap.get? b = none ∧ ¬ (Own c b ∨ b ∈ fs) := by
    rintro b (rfl | rfl)
    · exact ⟨f4.fresh, fun q => q.elim heo hew⟩
    · exact ⟨hd0, fun q => q.elim hdo hdw⟩
  have ss5 := (ss4.reveal (hX d (.inr rfl)).1 (hX d (.inr rfl)).2 hdd).reveal (hX e (.inl rfl)).1 (hX e (.inl rfl)).2 he
  have hde : d ≠ e := fun q => by rw [q, he] at hdd; cases hdd
  generalize hg5 : put (put g1 d _) e _ = g5 at ss5
  have ge : g5 e = some { cls := .ref 83, dict := some d, data := .fields vs } := by rw [← hg5]; exact put_self _ _ _
  have gd : g5 d = some { cls := .type "dict", data := .dict #[⟨PyData.keyHash c.w.params "smtp_code", .str "smtp_code" t1, .int code t2⟩, ⟨PyData.keyHash c.w.params "smtp_error", .str "smtp_error" t3, .str msg t4⟩] m } := by
    rw [← hg5]
    show (if d = e then _ else put g1 d _ d) = _
    rw [if_neg hde]
    exact put_self _ _ _
  have hid5 : ∀ b, Own c b → g5 b = none := fun b hb => by
    cases q : g5 b with
    | none => rfl
    | some o =>
      rcases ss5.new b o q with z | z
      · rw [F1.hid b hb] at z; cases z
      · exact absurd (.inl hb) z.2
  have F5 : FrOK c ρ g5 s4 := F4.seen ss5.up ss5.sub hid5
  have r5 : Rep c.w.params g5 (.ref e) (.exc code msg) := .exc ge h2 gd
  have hv5 : HandV (c.A.mark (some (.ref e))) g5 := .inr ⟨e, _, vs, rfl, ge, rfl, h2⟩
  refine store_V (c := ⟨c.w, c.A.mark (some (.ref e)), c.env⟩) (k := true) (FrOK.at F5) r5 (.inl hn) fun s6 st6 F6 => ?_
  refine hsuite e g5 s6 _ _ hv5 F6 fun g7 s7 st7 F7 => ?_
  have F7' : FrOK c ρ' g7 s7 := F7.at
  refine name_goes (k := true) F7' hn hs hn'' fun s8 st8 F8 => ?_
  have own8 : SS (Own c) true g5 s4 g7 s8 := (SS.trans (show SS (Own c) true g5 s4 g5 s6 from st6) st7).trans st8
  have ss8 : SS (fun b => Own c b ∨ b ∈ fs) true g5 s4 g7 s8 := ⟨fun b o hb q => own8.heap b o (fun z => hb (.inl z)) q, own8.up, own8.sub, fun b o q => (own8.new b o q).imp id fun z => ⟨z.1, fun y => by
    rcases y with y | y
    · exact z.2 y
    · obtain ⟨o', ho'⟩ := Option.ne_none_iff_exists'.mp (hfe1 b y)
      obtain ⟨sl, hsl⟩ := f4.slots b y o' ho'
      rw [hsl] at z; cases z.1⟩, own8.rest⟩
  refine h g7 s8 ((ss1.trans ss5).trans ss8) (fun b hb hno o ho => ?_) F8
  obtain ⟨sl, hsl⟩ := f4.slots b hb o (st.heap _ _ ho)
  exact ⟨sl, own8.heap b _ hno hsl⟩
end
end Mine
end

section
open PySem PySem.W PyProof.Rows PySem.Builtin
set_option Elab.async false
set_option maxRecDepth 100000
set_option linter.all false
namespace Mine
section
variable {k : Bool} {w : World} {A : Around} {c : Cx} {ρ ρ₁ ρ₂ ρ' ρ'' : REnv} {g g' g₁ g₂ : Vw} {s s' s₁ s₂ s₀ : Shared} {fs : List Addr} {outer : List Env} {d : PV}

/-- only the slots of these objects may have turned -/
noncomputable def Turned (fs : List Addr) (s s' : Shared) : Prop := ∀ b ∈ fs, ∀ o, s.heap.get? b = some o → ∃ sl, s'.heap.get? b = some { o with slots := sl }
theorem Turned.trans (h : Turned fs s s₁) (h' : Turned fs s₁ s₂) : Turned fs s s₂ := fun b hb o ho => by
  obtain ⟨sl, h1⟩ := h b hb o ho
  obtain ⟨sl', h2⟩ := h' b hb _ h1
  exact ⟨sl', h2⟩
theorem Turned.of {X : Addr → Prop} (st : SS X k g s g' s') (h : ∀ b ∈ fs, ¬ X b) : Turned fs s s' := fun b hb o ho => ⟨o.slots, st.heap b o (h b hb) ho⟩
theorem Turned.step (st : Step k g s g' s') : Turned fs s s' := fun b hb o ho => ⟨o.slots, st.heap b o ho⟩
theorem Turned.le (st : Le s.heap.get? s'.heap.get?) : Turned fs s s' := fun b hb o ho => ⟨o.slots, st b o ho⟩

/-- the frames below this one -/
structure Out (fs : List Addr) (outer : List Env) (c : Cx) (g : Vw) (s : Shared) : Prop where
  fr : FramesOK s fs outer
  none : ∀ b ∈ fs, g b = none
  has : ∀ b ∈ fs, s.heap.get? b ≠ Option.none
  own : ∀ b ∈ fs, ¬ Own c b
noncomputable abbrev XF (c : Cx) (fs : List Addr) (b : Addr) : Prop := Own c b ∨ b ∈ fs
theorem Out.turned (O : Out fs outer c g s) (h : ∀ b ∈ fs, g' b = Option.none) (t : Turned fs s s') : Out fs outer c g' s' where
  fr := ⟨fun env he => by
    obtain ⟨h1, L, o, h2, h3, h4, h5⟩ := O.fr.all env he
    obtain ⟨sl, h6⟩ := t L h3 o h4
    exact ⟨h1, L, _, h2, h3, h6, h5⟩⟩
  none := h
  has := fun b hb q => by
    obtain ⟨o, ho⟩ := Option.ne_none_iff_exists'.mp (O.has b hb)
    obtain ⟨sl, h1⟩ := t b hb o ho
    rw [q] at h1; cases h1
  own := O.own
theorem Out.ss {X : Addr → Prop} (O : Out fs outer c g s) (st : SS X k g s g' s') (t : Turned fs s s') : Out fs outer c g' s' := O.turned (fun b hb => st.hides (O.none b hb) (O.has b hb)) t
theorem SS.xf (st : SS (Own c) k g s g' s') (O : Out fs outer c g s) : SS (XF c fs) k g s g' s' where
  heap := fun b o hb h => st.heap b o (fun q => hb (.inl q)) h
  up := st.up
  sub := st.sub
  new := fun b o h => (st.new b o h).imp id fun q => ⟨q.1, fun y => by
    rcases y with y | y
    · exact q.2 y
    · exact O.has b y q.1⟩
  rest := st.rest

noncomputable def SxF (fs : List Addr) (outer : List Env) (k : Bool) (c : Cx) (ρ : REnv) (t : Stmt) (ρ' : REnv) : Prop :=
  ∀ (g : Vw) (s : Shared) (Q : Flow → Shared → Prop) (E : Value → Shared → Prop), Out fs outer c g s → FrOK c ρ g s → (∀ g' s', SS (XF c fs) k g s g' s' → Turned fs s s' → FrOK c ρ' g' s' → Q .next s') → Wp c (exec t c.env) Q E s
noncomputable def NxF (fs : List Addr) (outer : List Env) (k : Bool) (c : Cx) (ρ : REnv) (t : List Stmt) (ρ' : REnv) : Prop :=
  ∀ (g : Vw) (s : Shared) (Q : Flow → Shared → Prop) (E : Value → Shared → Prop), Out fs outer c g s → FrOK c ρ g s → (∀ g' s', SS (XF c fs) k g s g' s' → Turned fs s s' → FrOK c ρ' g' s' → Q .next s') → Wp c (execs t c.env) Q E s
noncomputable def FxF (fs : List Addr) (outer : List Env) (k : Bool) (c : Cx) (ρ : REnv) (t : List Stmt) (d : PV) : Prop :=
  ∀ (g : Vw) (s : Shared) (Q : Flow → Shared → Prop) (E : Value → Shared → Prop), Out fs outer c g s → FrOK c ρ g s → (∀ v g' s', SS (XF c fs) k g s g' s' → Turned fs s s' → Rep c.w.params g' v d → Q (.ret v) s') → Wp c (execs t c.env) Q E s
theorem SxF.of {t : Stmt} (h : Sx k c ρ t ρ') : SxF fs outer k c ρ t ρ' := fun g s Q E O F hQ => h g s Q E F fun g' s' st F' => hQ g' s' (st.xf O) (Turned.of st O.own) F'
theorem NxF.of {t : List Stmt} (h : Nx k c ρ t ρ') : NxF fs outer k c ρ t ρ' := fun g s Q E O F hQ => h g s Q E F fun g' s' st F' => hQ g' s' (st.xf O) (Turned.of st O.own) F'
theorem NxF.nil : NxF fs outer k c ρ [] ρ := NxF.of Nx.nil
theorem NxF.cons {t : Stmt} {r : List Stmt} (h1 : SxF fs outer k c ρ t ρ₁) (h2 : NxF fs outer k c ρ₁ r ρ₂) : NxF fs outer k c ρ (t :: r) ρ₂ := fun g s Q E O F h =>
  wpAny_execs_cons (h1 g s _ E O F fun g' s' st t F' => h2 g' s' Q E (O.ss st t) F' fun g'' s'' st' t' F'' => h g'' s'' (st.trans st') (t.trans t') F'')
theorem FxF.cons {t : Stmt} {r : List Stmt} (h1 : SxF fs outer k c ρ t ρ₁) (h2 : FxF fs outer k c ρ₁ r d) : FxF fs outer k c ρ (t :: r) d := fun g s Q E O F h =>
  wpAny_execs_cons (h1 g s _ E O F fun g' s' st t F' => h2 g' s' Q E (O.ss st t) F' fun v g'' s'' st' t' r => h v g'' s'' (st.trans st') (t.trans t') r)
theorem FxF.of {r : List Stmt} (h : Fx k c ρ r d) : FxF fs outer k c ρ r d := fun g s Q E O F hQ => h g s Q E F fun v g' s' st r => hQ v g' s' (st.xf O) (Turned.of st O.own) r
theorem SxF.less {t : Stmt} (h1 : SxF fs outer k c ρ t ρ₁) (h2 : Sub ρ₂ ρ₁) : SxF fs outer k c ρ t ρ₂ := fun g s Q E O F h => h1 g s Q E O F fun g' s' st t F' => h g' s' st t (F'.less h2)
theorem NxF.less {t : List Stmt} (h1 : NxF fs outer k c ρ t ρ₁) (h2 : Sub ρ₂ ρ₁) : NxF fs outer k c ρ t ρ₂ := fun g s Q E O F h => h1 g s Q E O F fun g' s' st t F' => h g' s' st t (F'.less h2)
theorem SxF.if_t {test : Expr} {body orelse : List Stmt} {pos : Pos} (h1 : Tr k c ρ test true) (h2 : NxF fs outer k c ρ body ρ₁) : SxF fs outer k c ρ (.If test body orelse pos) ρ₁ := fun g s Q E O F h =>
  wpAny_If (h1 g s _ E F.env F.le fun g' s' st => h2 g' s' Q E (O.ss (F.ss st) (Turned.step st)) (F.step st) fun g'' s'' st' t' F' => h g'' s'' (((F.ss st).xf O).trans st') ((Turned.step st).trans t') F')
theorem SxF.if_f {test : Expr} {body orelse : List Stmt} {pos : Pos} (h1 : Tr k c ρ test false) (h2 : NxF fs outer k c ρ orelse ρ₁) : SxF fs outer k c ρ (.If test body orelse pos) ρ₁ := fun g s Q E O F h =>
  wpAny_If (h1 g s _ E F.env F.le fun g' s' st => h2 g' s' Q E (O.ss (F.ss st) (Turned.step st)) (F.step st) fun g'' s'' st' t' F' => h g'' s'' (((F.ss st).xf O).trans st') ((Turned.step st).trans t') F')
/-- a try statement whose body ends well -/
theorem SxF.try_ok {body : List Stmt} {h₀ : ExceptHandler} {hs : List ExceptHandler} {pos : Pos} (h1 : NxF fs outer k c ρ body ρ₁) : SxF fs outer k c ρ (.Try body (h₀ :: hs) [] [] pos) ρ₁ := fun g s Q E O F h =>
  wpAny_Try_except (h1 g s _ _ O F fun g' s' st t F' => wpAny_execs_nil (h g' s' st t F'))
/-- a try statement whose body raises -/
theorem SxF.try_no {body suite : List Stmt} {b₀ : Stmt} {x n : Str} {tp hpos pos : Pos} {code : Int} {msg : Str}
    (hfr : c.A.frames = some (c.env :: outer)) (hfl : c.env.frame = some c.env.locals) (hc : c.env.cells = [])
    (hbody : ∀ g s Q E, FrOK c ρ g s → FramesOK s (c.env.locals :: fs) (c.env :: outer) → (∀ g1 s1 e s', Step true g s g1 s1 → Fly c.w s1 (c.env.locals :: fs) code msg e s' → E (.ref e) s') → Wp c (execs body c.env) Q E s)
    (hk : c.env.kindOf x = some .globalImplicit) (hv : nsIn (KF c.w) mainGlobals x = some (some (.ref 83))) (hd : (x == ("__debug__" : Str)) = false) (hn : c.env.kindOf n = some .local)
    (hsuite : ∀ e g' s' Q E, HandV (c.A.mark (some (.ref e))) g' → FrOK ⟨c.w, c.A.mark (some (.ref e)), c.env⟩ ((n, .exc code msg) :: ρ) g' s' → (∀ g'' s'', SS (Own c) true g' s' g'' s'' → FrOK ⟨c.w, c.A.mark (some (.ref e)), c.env⟩ ρ' g'' s'' → Q .next s'') →
      wpAny (model PW c.w) (c.A.mark (some (.ref e))) (execs (b₀ :: suite) c.env) Q E s')
    (hs : Sub ρ'' ρ') (hn'' : ρ''.lookup n = none) : SxF fs outer true c ρ (.Try body [.ExceptHandler (some (.Name x tp)) (some n) (b₀ :: suite) hpos] [] [] pos) ρ'' := fun g s Q E O F h => by
  obtain ⟨m, hns, _⟩ := F.env.loc
  have fr : FramesOK s (c.env.locals :: fs) (c.env :: outer) := O.fr.inner (fun _ _ q => q) (by rw [F.env.fn]; decide) hfl hns
  have hown : Own c c.env.locals := .inl rfl
  refine try_raise (fs := c.env.locals :: fs) F hfr fr (fun b hb => ?_) (fun b hb => ?_) (fun x b hb => by rw [hc] at hb; cases hb) (fun Q E hE => hbody g s Q E F fr hE) hk hv hd hn hsuite hs hn'' fun g'' s'' st t F' => ?_
  · rcases List.mem_cons.mp hb with rfl | hb
    · exact F.hid _ hown
    · exact O.none b hb
  · rcases List.mem_cons.mp hb with rfl | hb
    · exact F.has _ hown
    · exact O.has b hb
  · refine h g'' s'' ?_ (fun b hb o ho => t b (List.mem_cons_of_mem _ hb) (O.own b hb) o ho) F'
    have e : (fun b => Own c b ∨ b ∈ c.env.locals :: fs) = XF c fs := by
      funext b
      refine propext ⟨fun q => ?_, fun q => ?_⟩
      · rcases q with q | q
        · exact .inl q
        · rcases List.mem_cons.mp q with rfl | q
          · exact .inl hown
          · exact .inr q
      · rcases q with q | q
        · exact .inl q
        · exact .inr (List.mem_cons_of_mem _ q)
    rw [e] at st
    exact st

/-- a call during which the frames below may turn their slots -/
noncomputable def CallF (k : Bool) (w : World) (A : Around) (f : Value) (args : List PV) (d : PV) : Prop :=
  ∀ (g : Vw) (s : Shared) (fs : List Addr) (outer : List Env) (vs : List Value) (Q : Value → Shared → Prop) (E : Value → Shared → Prop), A.frames = some outer → FramesOK s fs outer → (∀ b ∈ fs, g b = none) → (∀ b ∈ fs, s.heap.get? b ≠ none) → Base w g → Le g s.heap.get? → RepL w.params g vs args →
    (∀ v g' s', SS (fun b => b ∈ fs) k g s g' s' → Turned fs s s' → Rep w.params g' v d → Q v s') → wpAny (model PW w) A (call f vs) Q E s
theorem CallF.fn {fa cc : Addr} {body : List Stmt} {args : List PV} {xs : List Str} {d : PV} (ρ₀ : REnv) (I : IsFn w fa cc body) (hgen : (FD w fa).scope.isGenerator = false)
    (hbind : ∀ vs, vs.length = args.length → bindArgs (FD w fa) ⟨vs, []⟩ = pure (xs.zip vs)) (hl : xs.length = args.length)
    (hkind : ∀ n, ∀ x ∈ xs, (FD w fa).scope.names.lookup x = some .local ∨ ((FD w fa).scope.names.lookup x = some .cell ∧ ((cellsFrom n (FD w fa).scope.names []).lookup x).isSome = true))
    (hroom : A.depth < recursionLimit) (hρ : binds xs args [] = ρ₀) (h : ∀ L fs outer, (fc w A fa L).A.frames = some ((fc w A fa L).env :: outer) → FxF fs outer k (fc w A fa L) ρ₀ body d) : CallF k w A (.ref fa) args d := fun g s fs outer vs Q E hfr fr hno hhas B L r hQ => by
  refine wpAny_call (enter I hgen (hbind vs r.length) (by rw [hl, r.length]) hkind hroom B L r fun Lo s₁ F hle hown hrest => ?_)
  rw [hρ] at F
  have hfr' : (fc w A fa Lo).A.frames = some ((fc w A fa Lo).env :: outer) := by
    show A.frames.map _ = _
    rw [hfr]; rfl
  have O : Out fs outer (fc w A fa Lo) g s₁ := Out.turned (s := s) (g := g) (c := fc w A fa Lo) ⟨fr, hno, hhas, fun b hb q => hhas b hb (hown b q)⟩ hno (Turned.le hle)
  refine h Lo fs outer hfr' g s₁ _ _ O F fun v g' s' st t rv => hQ v g' s' ⟨fun b o hb ho => ?_, st.up, st.sub, fun b o hb => ?_, hrest.any.trans st.rest⟩ ((Turned.le hle).trans t) rv
  · exact st.heap b o (fun q => by
      rcases q with q | q
      · rw [hown b q] at ho; cases ho
      · exact hb q) (hle b o ho)
  · refine (st.new b o hb).imp id fun q => ⟨?_, fun y => q.2 (.inr y)⟩
    cases z : s.heap.get? b with
    | none => rfl
    | some o' => have := hle b o' z; rw [q.1] at this; cases this
/-- the frame itself turned -/
theorem FrOK.turn (F : FrOK c ρ g s) (st : SS (fun b => b ∈ [c.env.locals]) k g s g' s') (t : Turned [c.env.locals] s s') : FrOK c ρ g' s' where
  env := { base := F.env.base.mono st.up, fn := F.env.fn, gl := F.env.gl, bn := F.env.bn,
           loc := by
             obtain ⟨m, ⟨o, es, ep, ho, hd, r⟩, hm⟩ := F.env.loc
             obtain ⟨sl, h1⟩ := t _ (List.mem_singleton.mpr rfl) o ho
             exact ⟨m, ⟨_, es, ep, h1, hd, r⟩, fun x d hx hd => let ⟨v, hv, r⟩ := hm x d hx hd; ⟨v, hv, r.mono st.up⟩⟩
           cel := fun x d hx hd => let ⟨a, v, h1, ⟨o, ho, hcl⟩, r⟩ := F.env.cel x d hx hd; ⟨a, v, h1, ⟨o, st.heap a o (fun q => (F.cell x a h1).1 (List.mem_singleton.mp q)) ho, hcl⟩, r.mono st.up⟩ }
  le := st.sub
  hid := fun b hb => st.hides (F.hid b hb) (F.has b hb)
  cell := fun x a hx => let ⟨h1, v, o, ho, hcl⟩ := F.cell x a hx; ⟨h1, v, o, st.heap a o (fun q => h1 (List.mem_singleton.mp q)) ho, hcl⟩
  apart := F.apart
/-- a statement that stores what such a call gives -/
theorem Sx.assign_callF {x f : Str} {px np cpos pos : Pos} {fa : Addr} {o : Obj} {fd : FuncData} {e : Expr} {rest : List Expr} {ds : List PV} (hfr : c.A.frames = some [c.env]) (hfl : c.env.frame = some c.env.locals)
    (hk : c.env.kindOf f = some .globalImplicit) (hv : nsIn (KF c.w) mainGlobals f = some (some (.ref fa))) (ho : (KF c.w).lookup fa = some o) (hf : o.data = .func fd)
    (h1 : EvL k c ρ (e :: rest) ds) (h2 : CallF k c.w c.A (.ref fa) ds d) (he : starEach (e :: rest) c.env = (false, eval e c.env) :: starEach rest c.env)
    (hd : (f == ("__debug__" : Str)) = false) (hx : CanStore c x) (hs : swapsWith (.Call (.Name f np) (e :: rest) [] cpos) (some (.Name x px)) pos.line c.env = pure false) :
    Sx k c ρ (.Assign [.Name x px] (.Call (.Name f np) (e :: rest) [] cpos) pos) ((x, d) :: ρ) := fun g s Q E F h => by
  refine wpAny_Assign_Name (Call_ (ld_glob F.env F.le hk hv (callWith_def hf (h1 cpos g s _ E F.env F.le fun vs g' s' st r => ⟨(F.env.base.mono st.up).kin st.sub _ _ ho, ?_⟩) he) hd)) hs
  have F' := F.step st
  obtain ⟨m, hns, _⟩ := F'.env.loc
  have fr : FramesOK s' [c.env.locals] [c.env] := FramesOK.inner (fs := []) (envs := []) (s := s') ⟨fun _ h => by cases h⟩ (fun _ _ q => q) (by rw [F.env.fn]; decide) hfl hns
  have hown : Own c c.env.locals := .inl rfl
  refine h2 g' s' [c.env.locals] [c.env] vs _ E hfr fr (fun b hb => List.mem_singleton.mp hb ▸ F'.hid _ hown) (fun b hb => List.mem_singleton.mp hb ▸ F'.has _ hown) F'.env.base F'.le r fun v g2 s2 st2 t2 r2 => ?_
  have F2 := F'.turn st2 t2
  have ss2 : SS (Own c) k g' s' g2 s2 := ⟨fun b o hb q => st2.heap b o (fun z => hb (List.mem_singleton.mp z ▸ hown)) q, st2.up, st2.sub, fun b o q => (st2.new b o q).imp id fun z => ⟨z.1, fun y => F'.has b y z.1⟩, st2.rest⟩
  exact store_V (k := k) F2 r2 hx fun s3 st3 F3 => h g2 s3 (((F.ss st).trans ss2).trans st3) F3
end
end Mine
end

section
open PySem PySem.W PyProof.Rows PySem.Builtin
set_option Elab.async false
set_option maxRecDepth 100000
set_option linter.all false
namespace Mine
/-- a text without ends -/
noncomputable def Plain (l : List Nat) : Prop := ∀ c ∈ l, c ≠ 10 ∧ c ≠ 13 ∧ c < 0x110000
noncomputable def dots (n : Nat) : List Nat := List.replicate n 46
noncomputable def markL (m p : Nat) : List Nat := dots (1 + p % m) ++ [47]
noncomputable def endA : Nat → List Nat
  | 0 => [10]
  | 1 => [13]
  | _ => [13, 10]
noncomputable def endB : Nat → List Nat
  | 0 => [13]
  | _ => [13, 10]
noncomputable def dotted (p : List Nat) : List Nat := (if p.take 1 = [46] then [46] else []) ++ p
theorem Plain.brk {l : List Nat} (h : Plain l) : ∀ c ∈ l, Mine.brk c = false := fun c hc => by
  have := h c hc
  simp [Mine.brk, this.1, this.2.1]
theorem Plain.dots (n : Nat) : Plain (dots n) := fun c hc => by
  have := List.eq_of_mem_replicate hc
  subst this
  decide
theorem Plain.app {a b : List Nat} (h1 : Plain a) (h2 : Plain b) : Plain (a ++ b) := fun c hc => by
  rcases List.mem_append.mp hc with h | h
  · exact h1 c h
  · exact h2 c h
theorem Plain.mark (m p : Nat) : Plain (markL m p) := (Plain.dots _).app (by intro c hc; rw [List.mem_singleton] at hc; subst hc; decide)
theorem crlf_plain {p : List Nat} (h : Plain p) : crlfL p = p := by
  have := crlfL_app p [] h.brk
  rw [List.append_nil] at this
  rw [this]; simp [crlfL, crlfS]
theorem crlf_ends {p : List Nat} (h : Plain p) (i j : Nat) : crlfL (endA i ++ endB j ++ p) = [13, 10, 13, 10] ++ p := by
  have hp : p.head? ≠ some 10 := by
    cases p with
    | nil => simp
    | cons c r => simp; exact (h c List.mem_cons_self).1
  have e0 := crlf_plain h
  have eB : crlfL (endB j ++ p) = 13 :: 10 :: p := by
    unfold endB
    split
    · rw [List.singleton_append, crlfL_cr _ hp, e0]
    · show crlfL (13 :: 10 :: p) = _
      rw [crlfL_crlf, e0]
  have hB : (endB j ++ p).head? ≠ some 10 := by unfold endB; split <;> simp
  rw [List.append_assoc]
  unfold endA
  split
  · rw [List.singleton_append, crlfL_lf, eB]; rfl
  · rw [List.singleton_append, crlfL_cr _ hB, eB]; rfl
  · show crlfL (13 :: 10 :: (endB j ++ p)) = _
    rw [crlfL_crlf, eB]; rfl
theorem crlf_end (i : Nat) : crlfL (endA i) = [13, 10] := by
  unfold endA
  split
  · rw [crlfL_lf]; rfl
  · rw [crlfL_cr _ (by simp)]; rfl
  · rw [crlfL_crlf]; rfl
theorem dotL_free : ∀ (p : List Nat) (r : List Nat), (∀ c ∈ p, c ≠ 10) → dotL false (p ++ r) = p ++ dotL false r
  | [], _, _ => rfl
  | c :: p, r, h => by
    have hc : c ≠ 10 := h c List.mem_cons_self
    rw [List.cons_append, dotL, if_neg (by simp), show (c == 10) = false from beq_eq_false_iff_ne.mpr hc, dotL_free p r fun d hd => h d (List.mem_cons_of_mem _ hd), List.cons_append]
theorem dotL_start {p : List Nat} (h : Plain p) : dotL true p = dotted p := by
  cases p with
  | nil => rfl
  | cons c r =>
    have h10 : ∀ d ∈ r, d ≠ 10 := fun d hd => (h d (List.mem_cons_of_mem _ hd)).1
    have := dotL_free r [] h10
    rw [List.append_nil, show dotL false [] = [] from rfl, List.append_nil] at this
    have hc : c ≠ 10 := (h c List.mem_cons_self).1
    unfold dotted
    by_cases q : c = 46
    · subst q
      simp [dotL, this]
    · rw [dotL, if_neg (by simp [q]), show (c == 10) = false from beq_eq_false_iff_ne.mpr hc, this]
      simp [q]
theorem dots_succ (n : Nat) : dots (1 + n) = 46 :: dots n := by rw [Nat.add_comm]; rfl
theorem dotL_dots (n : Nat) (r : List Nat) : dotL true (dots (1 + n) ++ r) = 46 :: (dots (1 + n) ++ dotL false r) := by
  rw [dots_succ, List.cons_append, dotL, if_pos (by simp), dotL_free _ _ fun c hc => (Plain.dots n c hc).1]
  rfl
theorem quoted_send {p : List Nat} (h : Plain p) (m q i j : Nat) : quoted (markL m q ++ endA i ++ endB j ++ p) = 46 :: markL m q ++ [13, 10, 13, 10] ++ dotted p := by
  unfold quoted
  rw [List.append_assoc, List.append_assoc, crlfL_app _ _ (Plain.mark m q).brk, ← List.append_assoc (endA i), crlf_ends h]
  show dotL true (dots (1 + q % m) ++ [47] ++ ([13, 10, 13, 10] ++ p)) = 46 :: (dots (1 + q % m) ++ [47]) ++ [13, 10, 13, 10] ++ dotted p
  rw [List.append_assoc, dotL_dots]
  show 46 :: (dots (1 + q % m) ++ dotL false (47 :: 13 :: 10 :: 13 :: 10 :: p)) = _
  have e : dotL false (47 :: 13 :: 10 :: 13 :: 10 :: p) = 47 :: 13 :: 10 :: 13 :: 10 :: dotL true p := by simp [dotL]
  rw [e, dotL_start h]
  simp
theorem quoted_ans (n i : Nat) : quoted (dots (1 + n) ++ endA i) = 46 :: dots (1 + n) ++ [13, 10] := by
  unfold quoted
  rw [crlfL_app _ _ (Plain.dots _).brk, crlf_end, dotL_dots]
  simp [dotL]
theorem bare_dotted {p : List Nat} : bareL (dotted p) = p := by
  unfold bareL dotted
  by_cases h : p.take 1 = [46]
  · rw [if_pos h]; simp
  · rw [if_neg h]; simp [h]
theorem bare_dot (p : List Nat) : bareL (46 :: p) = p := by simp [bareL]
theorem mark_inj {m p q : Nat} : markL m p = markL m q ↔ p % m = q % m := by
  unfold markL dots
  constructor
  · intro h
    have := congrArg List.length h
    simp at this
    omega
  · intro h; rw [h]
theorem mark_ok {m p n : Nat} (hm : 0 < m) (hn : m + 1 ≤ n) : Ok n (markL m p) := ⟨by have := Nat.mod_lt p hm; simp [markL, dots]; omega, fun c hc => (Plain.mark m p c hc).2.2⟩
end Mine
end

section
open PySem PySem.W PyProof.Rows PySem.Builtin
set_option Elab.async false
set_option maxRecDepth 100000
set_option linter.all false
namespace Mine
/-- what does not change -/
structure Cst where
  pieces : List (List Nat)
  m : Nat
  shift : Int
structure CstOK (P : Cst) : Prop where
  plain : ∀ p ∈ P.pieces, Plain p
  len : ∀ p ∈ P.pieces, p.length ≤ 9
  n : P.pieces.length ≤ 20
  m0 : 2 ≤ P.m
  m1 : P.m ≤ 4
noncomputable def Cst.piece (P : Cst) (p : Nat) : List Nat := P.pieces.getD p []
theorem CstOK.pl {P : Cst} (O : CstOK P) (p : Nat) : Plain (P.piece p) := by
  unfold Cst.piece
  rw [List.getD_eq_getElem?_getD]
  cases h : P.pieces[p]? with
  | none => intro c hc; cases hc
  | some x => exact O.plain x (List.mem_of_getElem? h)
theorem CstOK.ln {P : Cst} (O : CstOK P) (p : Nat) : (P.piece p).length ≤ 9 := by
  unfold Cst.piece
  rw [List.getD_eq_getElem?_getD]
  cases h : P.pieces[p]? with
  | none => exact Nat.zero_le _
  | some x => exact O.len x (List.mem_of_getElem? h)
theorem CstOK.ok {P : Cst} (O : CstOK P) (p : Nat) : Ok 9 (P.piece p) := ⟨O.ln p, fun c hc => (O.pl p c hc).2.2⟩
theorem CstOK.mark {P : Cst} (O : CstOK P) (p : Nat) : Ok 5 (markL P.m p) := mark_ok (by have := O.m0; (first | lia | omega)) (by have := O.m1; (first | lia | omega))
theorem dotted_plain {l : List Nat} (h : Plain l) : Plain (dotted l) := by
  unfold dotted
  refine Plain.app ?_ h
  split
  · exact Plain.dots 1
  · intro c hc; cases hc
theorem dotted_len (l : List Nat) : (dotted l).length ≤ l.length + 1 := by
  unfold dotted
  split <;> simp

/-- rows, each with its end -/
noncomputable def linesR (X : List (List Nat)) : List Nat := (X.map (· ++ [13, 10])).flatten
theorem joinR_lines : ∀ X : List (List Nat), joinR (X ++ [[]]) = linesR X
  | [] => rfl
  | r :: X => by
    rw [List.cons_append, joinR_cons (by simp), joinR_lines X]
    simp [linesR]
theorem linesR_app (X Y : List (List Nat)) : linesR (X ++ Y) = linesR X ++ linesR Y := by simp [linesR]
theorem linesR_ok {n : Nat} : ∀ {X : List (List Nat)}, (∀ r ∈ X, Ok n r) → Ok ((n + 2) * X.length) (linesR X)
  | [], _ => ⟨Nat.zero_le _, fun c hc => by cases hc⟩
  | r :: X, h => by
    have h1 := h r List.mem_cons_self
    have h2 := linesR_ok (X := X) fun r hr => h r (List.mem_cons_of_mem _ hr)
    have : linesR (r :: X) = (r ++ [13, 10]) ++ linesR X := by simp [linesR]
    rw [this]
    refine ((h1.app (m := 2) (b := [13, 10]) ⟨by simp, by simp⟩).app h2).le ?_
    rw [List.length_cons, Nat.mul_succ]
    (first | lia | omega)
noncomputable def letterR (P : Cst) (p : Nat) : List (List Nat) := [46 :: markL P.m p, [], dotted (P.piece p)]
noncomputable def lettersR (P : Cst) (ls : List Nat) : List (List Nat) := (ls.map (letterR P)).flatten
noncomputable def answersR (P : Cst) (as : List Nat) : List (List Nat) := as.map fun a => 46 :: dots (1 + a % P.m)
noncomputable def thereL (P : Cst) (ls : List Nat) : List Nat := linesR (lettersR P ls)
noncomputable def backL (P : Cst) (as : List Nat) : List Nat := linesR (answersR P as)
noncomputable def sentL (P : Cst) (p : Nat) : List Nat := 46 :: markL P.m p ++ [13, 10, 13, 10] ++ dotted (P.piece p)
theorem there_app (P : Cst) (ls : List Nat) (p : Nat) : thereL P (ls ++ [p]) = thereL P ls ++ sentL P p ++ [13, 10] := by
  unfold thereL lettersR
  rw [List.map_append, List.flatten_append, linesR_app]
  simp [linesR, letterR, sentL]
theorem back_app (P : Cst) (as : List Nat) (a : Nat) : backL P (as ++ [a]) = backL P as ++ (46 :: dots (1 + a % P.m) ++ [13, 10]) := by
  unfold backL answersR
  rw [List.map_append, linesR_app]
  simp [linesR]
theorem there_cons (P : Cst) (p : Nat) (ls : List Nat) : thereL P (p :: ls) = joinR ((46 :: markL P.m p) :: [] :: dotted (P.piece p) :: (lettersR P ls ++ [[]])) := by
  have := joinR_lines (letterR P p ++ lettersR P ls)
  exact this.symm
theorem back_cons (P : Cst) (a : Nat) (as : List Nat) : backL P (a :: as) = joinR ((46 :: dots (1 + a % P.m)) :: (answersR P as ++ [[]])) := by
  have := joinR_lines (answersR P (a :: as))
  exact this.symm
theorem lettersR_row {P : Cst} (O : CstOK P) {ls : List Nat} : ∀ r ∈ lettersR P ls, Plain r ∧ r.length ≤ 10 := by
  intro r hr
  unfold lettersR at hr
  obtain ⟨x, hx, hr⟩ := List.mem_flatten.mp hr
  obtain ⟨p, _, rfl⟩ := List.mem_map.mp hx
  simp only [letterR, List.mem_cons, List.not_mem_nil, or_false] at hr
  rcases hr with rfl | rfl | rfl
  · refine ⟨(Plain.dots 1).app (Plain.mark P.m p), ?_⟩
    have := (O.mark p).1
    simp; (first | lia | omega)
  · exact ⟨(fun c hc => by cases hc), Nat.zero_le _⟩
  · refine ⟨dotted_plain (O.pl p), ?_⟩
    have h1 := dotted_len (P.piece p)
    have h2 := O.ln p
    (first | lia | omega)
theorem answersR_row {P : Cst} (O : CstOK P) {as : List Nat} : ∀ r ∈ answersR P as, Plain r ∧ r.length ≤ 10 := by
  intro r hr
  obtain ⟨p, _, rfl⟩ := List.mem_map.mp hr
  refine ⟨(Plain.dots 1).app (Plain.dots _), ?_⟩
  have h0 := O.m0
  have h1 := O.m1
  have := Nat.mod_lt p (show 0 < P.m by (first | lia | omega))
  simp [dots]; (first | lia | omega)
theorem Plain.ok {l : List Nat} {n : Nat} (h : Plain l) (hn : l.length ≤ n) : Ok n l := ⟨hn, fun c hc => (h c hc).2.2⟩
theorem there_ok {P : Cst} (O : CstOK P) {ls : List Nat} (h : ls.length ≤ 1000) : Ok (2 ^ 16) (thereL P ls) := by
  refine (linesR_ok (n := 10) fun r hr => ((lettersR_row O r hr).1).ok (lettersR_row O r hr).2).le ?_
  have : ∀ l : List Nat, (lettersR P l).length = 3 * l.length := by
    intro l
    induction l with
    | nil => rfl
    | cons a l ih =>
      have : lettersR P (a :: l) = letterR P a ++ lettersR P l := rfl
      rw [this, List.length_append, ih, List.length_cons]
      show 3 + _ = _
      (first | lia | omega)
  rw [this]
  (first | lia | omega)
theorem back_ok {P : Cst} (O : CstOK P) {as : List Nat} (h : as.length ≤ 1000) : Ok (2 ^ 16) (backL P as) := by
  refine (linesR_ok (n := 10) fun r hr => ((answersR_row O r hr).1).ok (answersR_row O r hr).2).le ?_
  have : (answersR P as).length = as.length := by simp [answersR]
  rw [this]
  (first | lia | omega)
theorem Plain.no13 {l : List Nat} (h : Plain l) : 13 ∉ l := fun q => (h 13 q).2.1 rfl
theorem split_there {P : Cst} (O : CstOK P) (p : Nat) (ls : List Nat) : Txt.split (S (thereL P (p :: ls))) (S [13, 10]) = ((46 :: markL P.m p) :: [] :: dotted (P.piece p) :: (lettersR P ls ++ [[]])).map S := by
  rw [there_cons]
  refine split_rows (by simp) fun r hr => ?_
  have : r ∈ lettersR P (p :: ls) ++ [[]] := hr
  rcases List.mem_append.mp this with h | h
  · exact (lettersR_row O r h).1.no13
  · rw [List.mem_singleton] at h; subst h; simp
theorem split_back {P : Cst} (O : CstOK P) (a : Nat) (as : List Nat) : Txt.split (S (backL P (a :: as))) (S [13, 10]) = ((46 :: dots (1 + a % P.m)) :: (answersR P as ++ [[]])).map S := by
  rw [back_cons]
  refine split_rows (by simp) fun r hr => ?_
  have : r ∈ answersR P (a :: as) ++ [[]] := hr
  rcases List.mem_append.mp this with h | h
  · exact (answersR_row O r h).1.no13
  · rw [List.mem_singleton] at h; subst h; simp
theorem join_there (P : Cst) (ls : List Nat) : Txt.join (S [13, 10]) ((lettersR P ls ++ [[]]).map S) = S (thereL P ls) := by rw [join_rows, joinR_lines]; rfl
theorem join_back (P : Cst) (as : List Nat) : Txt.join (S [13, 10]) ((answersR P as ++ [[]]).map S) = S (backL P as) := by rw [join_rows, joinR_lines]; rfl
end Mine
end

section
open PySem PySem.W PyProof.Rows PySem.Builtin
set_option Elab.async false
set_option maxRecDepth 100000
set_option linter.all false
namespace Mine
/-- the book -/
structure BK where
  b1 : Int
  b2 : Int
  b3 : Int
  b4 : Int
  lt : List (Str × PV)
noncomputable abbrev BK.pv (B : BK) : PV := bookV B.b1 B.b2 B.b3 B.b4 B.lt
noncomputable def takeOk (P : Cst) (B : BK) (p : Nat) : BK := ⟨1 + B.b1, 1 + B.b2, (P.piece p).length + B.b3, 0 + B.b4, addC B.lt "writing" (.str (S (P.piece p)))⟩
noncomputable def takeNo (P : Cst) (B : BK) (p q : Nat) : BK := ⟨0 + B.b1, 1 + B.b2, 0 + B.b3, strB (S (markL P.m p)) (S (markL P.m q)) + B.b4, addC B.lt (S (markL P.m p)) (.int 1)⟩
noncomputable def takeB (P : Cst) (B : BK) (e : Nat × Nat) : BK := if e.1 = e.2 then takeOk P B e.1 else takeNo P B e.1 e.2
noncomputable def bookOf (P : Cst) (log : List (Nat × Nat)) : BK := log.foldl (takeB P) ⟨0, 0, 0, 0, []⟩
theorem bookOf_snoc (P : Cst) (log : List (Nat × Nat)) (e : Nat × Nat) : bookOf P (log ++ [e]) = takeB P (bookOf P log) e := by simp [bookOf]
/-- the callers are well -/
structure LtOK (lt : List (Str × PV)) : Prop where
  nodup : (lt.map (·.1)).Nodup
  len : lt.length ≤ 1000
  key : ∀ x v, (x, v) ∈ lt → PV.ok 0 (.str x) = true ∧ PV.ok 0 v = true
  text : ∀ v, (("writing" : Str), v) ∈ lt → ∃ l : List Nat, v = .str (S l) ∧ l.length ≤ 2 ^ 20
  num : ∀ x v, (x, v) ∈ lt → x ≠ "writing" → ∃ i, v = .int i
/-- what turns -/
structure St where
  letters : List Nat
  answers : List Nat
  base : Nat
  want : Nat
  log : List (Nat × Nat)
noncomputable abbrev nL (l : List Nat) : PV := .list (l.map fun n : Nat => PV.int (n : Int))
noncomputable abbrev sL (l : List (List Nat)) : PV := .list (l.map fun x => PV.str (S x))
noncomputable abbrev logL (l : List (Nat × Nat)) : PV := .list (l.map fun p => PV.tuple [.int (p.1 : Int), .int (p.2 : Int)])
noncomputable abbrev St.pvs (P : Cst) (σ : St) : List PV := [.str (S (thereL P σ.letters)), .str (S (backL P σ.answers)), nL σ.letters, nL σ.answers, .int (σ.base : Int), .int (σ.want : Int), (bookOf P σ.log).pv, logL σ.log, .bool true]
noncomputable abbrev St.pv (P : Cst) (σ : St) : PV := .tuple (σ.pvs P)
/-- what a step needs -/
structure StOK (P : Cst) (σ : St) : Prop where
  l1 : σ.letters.length ≤ 900
  l2 : σ.answers.length ≤ 900
  l3 : σ.log.length ≤ 900
  base : σ.base ≤ 2 ^ 20
  want : σ.want ≤ 2 ^ 20
  letter : ∀ p ls, σ.letters = p :: ls → (p % P.m = σ.want % P.m ↔ p = σ.want)
  answer : ∀ a as, σ.answers = a :: as → σ.base ≤ a ∧ a < σ.base + P.m
  book : LtOK (bookOf P σ.log).lt
noncomputable def s1 (P : Cst) (deed : Nat) (σ : St) : St := if deed < 3 ∧ deed + 1 < P.m ∧ σ.base + deed < P.pieces.length then { σ with letters := σ.letters ++ [σ.base + deed] } else σ
noncomputable def come (σ : St) (p : Nat) : St := { σ with log := σ.log ++ [(p, σ.want)], want := if p = σ.want then σ.want + 1 else σ.want, answers := σ.answers ++ [if p = σ.want then σ.want + 1 else σ.want] }
noncomputable def s2 (deed : Nat) (σ : St) : St := match σ.letters with
  | [] => σ
  | p :: ls => if deed = 3 then { come σ p with letters := ls } else if deed = 4 then { σ with letters := ls } else if deed = 5 then come σ p else σ
noncomputable def s3 (deed : Nat) (σ : St) : St := match σ.answers with
  | [] => σ
  | a :: as => if deed = 6 then { σ with base := a, answers := as } else if deed = 7 then { σ with answers := as } else if deed = 8 then { σ with base := a } else σ
noncomputable def stepS (P : Cst) (deed : Nat) (σ : St) : St := s3 deed (s2 deed (s1 P deed σ))

section
variable {k : Bool} {w : World} {A : Around} {c : Cx} {ρ ρ₁ ρ₂ ρ' ρ'' : REnv} {g g' g₁ g₂ : Vw} {s s' s₁ s₂ s₀ : Shared}
/-- the names of a step -/
noncomputable abbrev stepE (P : Cst) (σ : St) (turn : Int) (deed : Nat) : REnv :=
  [("there", .str (S (thereL P σ.letters))), ("back", .str (S (backL P σ.answers))), ("letters", nL σ.letters), ("answers", nL σ.answers), ("base", .int (σ.base : Int)), ("want", .int (σ.want : Int)), ("book", (bookOf P σ.log).pv), ("log", logL σ.log), ("fine", .bool true),
   ("turn", .int turn), ("ends", sL [[10], [13], [13, 10]]), ("deed", .int (deed : Int)), ("pieces", sL P.pieces), ("marks", .int (P.m : Int))]

theorem Tr.and_cons {x : Expr} {rest : List Expr} {pos : Pos} {b b' : Bool} (h1 : Tr k c ρ x b) (h2 : Tr k c ρ (.BoolOp .And rest pos) b') : Tr k c ρ (.BoolOp .And (x :: rest) pos) (b && b') := by
  cases b with
  | true => exact Tr.and_t h1 h2
  | false => exact Tr.and_f h1
theorem Tr.to {e : Expr} {b b' : Bool} (h : Tr k c ρ e b) (he : b = b') : Tr k c ρ e b' := he ▸ h
theorem Ev.to {e : Expr} {d d' : PV} (h : Ev k c ρ e d) (he : d = d') : Ev k c ρ e d' := he ▸ h
theorem Ev.addS {l r : Expr} {pos : Pos} {a b : List Nat} {n m : Nat} (h1 : Ev k c ρ l (.str (S a))) (h2 : Ev k c ρ r (.str (S b))) (ha : Ok n a) (hb : Ok m b) (hn : n + m ≤ 2 ^ 24) : Ev k c ρ (.BinOp l .Add r pos) (.str (S (a ++ b))) :=
  Ev.to (Ev.bin h1 h2 (BinV.add_str (by
    have h1 := ha.1
    have h2 := hb.1
    rw [sizeLine_eq]; simp [Str.length]; omega))) (by rw [S_app])
theorem sL_at {l : List (List Nat)} {i : Nat} {x : List Nat} (h : l[i]? = some x) : (l.map fun x => PV.str (S x))[i]? = some (.str (S x)) := by rw [List.getElem?_map, h]; rfl
theorem endA_at {i : Int} (h0 : 0 ≤ i) (h1 : i < 3) : ([[10], [13], [13, 10]] : List (List Nat))[i.toNat]? = some (endA i.toNat) := by
  have : i = 0 ∨ i = 1 ∨ i = 2 := by omega
  rcases this with rfl | rfl | rfl <;> rfl
theorem endB_at {i : Int} (h0 : 0 ≤ i) (h1 : i < 2) : ([[13], [13, 10]] : List (List Nat))[i.toNat]? = some (endB i.toNat) := by
  have : i = 0 ∨ i = 1 := by omega
  rcases this with rfl | rfl <;> rfl
end
end Mine
end

section
open PySem PySem.W PyProof.Rows PySem.Builtin
set_option Elab.async false
set_option maxRecDepth 100000
set_option linter.all false
namespace Mine
section
variable {k : Bool} {w : World} {A : Around} {c : Cx} {ρ ρ₁ ρ₂ ρ' ρ'' : REnv} {g g' g₁ g₂ : Vw} {s s' s₁ s₂ s₀ : Shared}
theorem mem_of_look {x : Str} {v : PV} : ∀ {l : List (Str × PV)}, l.lookup x = some v → (x, v) ∈ l
  | [], h => by cases h
  | (y, u) :: l, h => by
    rw [List.lookup_cons] at h
    cases q : x == y with
    | true =>
      rw [q] at h; cases h
      rw [eq_of_beq q]
      exact List.mem_cons_self
    | false => rw [q] at h; exact List.mem_cons_of_mem _ (mem_of_look h)
theorem LtOK.can_text {lt : List (Str × PV)} (h : LtOK lt) {l : List Nat} (hl : l.length ≤ 2 ^ 20) : CanAdd lt "writing" (.str (S l)) := by
  unfold CanAdd
  cases q : lt.lookup ("writing" : Str) with
  | none => trivial
  | some o =>
    obtain ⟨m, rfl, hm⟩ := h.text o (mem_of_look q)
    refine .inr ⟨_, _, rfl, rfl, ?_⟩
    rw [sizeLine_eq]
    simp [Str.length]
    omega
theorem LtOK.can_num {lt : List (Str × PV)} (h : LtOK lt) {x : Str} (hx : x ≠ "writing") (i : Int) : CanAdd lt x (.int i) := by
  unfold CanAdd
  cases q : lt.lookup x with
  | none => trivial
  | some o =>
    obtain ⟨j, rfl⟩ := h.num x o (mem_of_look q) hx
    exact .inl ⟨_, _, rfl, rfl⟩
theorem pairs_ok {lt : List (Str × PV)} (h : ∀ x v, (x, v) ∈ lt → PV.ok 0 (.str x) = true ∧ PV.ok 0 v = true) : PV.ok 2 (.list (pairs lt)) = true := by
  show PV.oks 1 (pairs lt) = true
  induction lt with
  | nil => rfl
  | cons p lt ih =>
    obtain ⟨x, v⟩ := p
    have h1 := h x v List.mem_cons_self
    have h2 := ih fun y u hy => h y u (List.mem_cons_of_mem _ hy)
    show (PV.ok 1 (.tuple [.str x, v]) && PV.oks 1 (pairs lt)) = true
    rw [h2]
    show ((PV.ok 0 (.str x) && (PV.ok 0 v && PV.oks 0 [])) && true) = true
    rw [h1.1, h1.2]
    rfl
theorem eqv_self {n : Nat} {d : PV} (h : PV.ok n d = true) : PV.eqv d d = true := PySem.SeqAt.eqv_refl d.toPy (ok_lay n d h).1
theorem eqv_bools (a b : Bool) : PV.eqv (.bool a) (.bool b) = (a == b) := by
  show PyData.eqv (.bool a) (.bool b) = _
  unfold PyData.eqv
  rfl
theorem mark_ne (m p : Nat) : S (markL m p) ≠ ("writing" : Str) := by
  intro h
  have h1 := congrArg (fun x : Str => x.cps.toList.head?) h
  have h2 : (("writing" : Str).cps.toList.head?) = some 119 := by kernel_rfl
  have h3 : markL m p = 46 :: (dots (p % m) ++ [47]) := by unfold markL; rw [dots_succ]; rfl
  dsimp only at h1
  rw [h2, h3] at h1
  simp at h1

/-- a statement that calls what raises -/
theorem assign_raise {fs : List Addr} {outer : List Env} {x f : Str} {px np cpos pos : Pos} {fa : Addr} {o : Obj} {fd : FuncData} {e : Expr} {rest : List Expr} {r : List Stmt} {ds : List PV} {code : Int} {msg : Str} {Q : Flow → Shared → Prop} {E : Value → Shared → Prop}
    (hk : c.env.kindOf f = some .globalImplicit) (hv : nsIn (KF c.w) mainGlobals f = some (some (.ref fa))) (ho : (KF c.w).lookup fa = some o) (hf : o.data = .func fd)
    (h1 : EvL true c ρ (e :: rest) ds) (h2 : CallX c.w c.A (.ref fa) ds code msg) (he : starEach (e :: rest) c.env = (false, eval e c.env) :: starEach rest c.env)
    (hd : (f == ("__debug__" : Str)) = false) (hs : swapsWith (.Call (.Name f np) (e :: rest) [] cpos) (some (.Name x px)) pos.line c.env = pure false)
    (hfr : c.A.frames = some outer) (F : FrOK c ρ g s) (fr : FramesOK s fs outer) (hE : ∀ g1 s1 e s', Step true g s g1 s1 → Fly c.w s1 fs code msg e s' → E (.ref e) s') :
    Wp c (execs (.Assign [.Name x px] (.Call (.Name f np) (e :: rest) [] cpos) pos :: r) c.env) Q E s := by
  refine wpAny_execs_cons (wpAny_Assign_Name (Call_ (ld_glob F.env F.le hk hv (callWith_def hf (h1 cpos g s _ E F.env F.le fun vs g' s' st r => ⟨(F.env.base.mono st.up).kin st.sub _ _ ho, ?_⟩) he) hd)) hs)
  refine h2 g' s' fs outer vs _ E hfr ⟨fun env he => ?_⟩ (F.env.base.mono st.up) st.sub r fun e s'' fl => hE g' s' e s'' st fl
  obtain ⟨h1, L, o, h2, h3, h4, h5⟩ := fr.all env he
  exact ⟨h1, L, o, h2, h3, st.heap _ _ h4, h5⟩
/-- a statement whose value holds from a view on -/
theorem assign_G {x : Str} {px pos : Pos} {value : Expr} {r : List Stmt} {d : PV} {Q : Flow → Shared → Prop} {E : Value → Shared → Prop} (h1 : EvG g k c ρ value d) (hk : CanStore c x) (hs : swapsWith value (some (.Name x px)) pos.line c.env = pure false) (F : FrOK c ρ g s)
    (h : ∀ g' s', SS (Own c) k g s g' s' → FrOK c ((x, d) :: ρ) g' s' → Wp c (execs r c.env) Q E s') : Wp c (execs (.Assign [.Name x px] value pos :: r) c.env) Q E s :=
  wpAny_execs_cons (wpAny_Assign_Name (h1 g s _ E (Le.refl _) F.env F.le fun v g' s' st r => store_V (k := k) (F.step st) r hk fun s'' st' F' => h g' s'' ((F.ss st).trans st') F') hs)
end
end Mine
end

section
open PySem PySem.W PyProof.Rows PySem.Builtin
set_option Elab.async false
set_option maxRecDepth 100000
set_option linter.all false
namespace Mine
section
variable {k : Bool} {w : World} {A : Around} {c : Cx} {ρ ρ₁ ρ₂ ρ' ρ'' : REnv} {g g' g₁ g₂ : Vw} {s s' s₁ s₂ s₀ : Shared}
theorem Sx.two {a b : Str} {pa pb tp vp pos : Pos} {tk vk : Nat} {e1 e2 : Expr} {d1 d2 : PV} (hh : c.A.handled = none) (h1 : EvL k c ρ [e1, e2] [d1, d2]) (ha : CanStore c a) (hb : CanStore c b)
    (hs : swapsWithSole [.Tuple [.Name a pa, .Name b pb] tk tp] (.Tuple [e1, e2] vk vp) pos.line c.env = pure false) (hw : swappedStores [.Tuple [.Name a pa, .Name b pb] tk tp] (.Tuple [e1, e2] vk vp) c.env = pure (some [a, b])) :
    Sx k c ρ (.Assign [.Tuple [.Name a pa, .Name b pb] tk tp] (.Tuple [e1, e2] vk vp) pos) ((a, d1) :: (b, d2) :: ρ) :=
  Sx.swapped (xs := [a, b]) (ds := [d1, d2]) (Ev.tuple h1 (by rw [sizeLine_eq]; simp)) rfl (UnpackV.free hh) (.cons (Sto.bind hb) (.cons (Sto.bind ha) .nil)) hs hw
theorem Ev.dotsE {e em : Expr} {kd ki : Nat} {p1 p2 p3 p4 p5 : Pos} {p m : Nat} (h : Ev k c ρ e (.int (p : Int))) (hm : Ev k c ρ em (.int (m : Int))) (m0 : 0 < m) (m1 : m ≤ 4) :
    Ev k c ρ (.BinOp (.Constant (.str ".") kd p1) .Mult (.BinOp (.Constant (.int 1) ki p2) .Add (.BinOp e .Mod em p3) p4) p5) (.str (S (dots (1 + p % m)))) := by
  have hmod : ((p : Int).fmod (m : Int)) = ((p % m : Nat) : Int) := by
    rw [Int.fmod_eq_emod_of_nonneg _ (by first | decide | lia | omega)]; rfl
  have e1 : (1 + (p : Int).fmod (m : Int)) = ((1 + p % m : Nat) : Int) := by rw [hmod]; (first | lia | omega)
  have hlt := Nat.mod_lt p m0
  refine Ev.to (Ev.bin (a := .str (S [46])) (b := .int ((1 + p % m : Nat) : Int)) (Ev.str' (by kernel_rfl)) (Ev.to (Ev.bin Ev.int (Ev.bin h hm (BinV.mod (by first | decide | lia | omega))) BinV.add) (by rw [e1])) (BinV.mul_str ?_)) (by rw [dots_txt]; rfl)
  have hc : 1 + p % m = 1 ∨ 1 + p % m = 2 ∨ 1 + p % m = 3 ∨ 1 + p % m = 4 := by (first | lia | omega)
  rcases hc with q | q | q | q <;> rw [q] <;> exact ⟨by decide +kernel, fun _ _ => by decide +kernel, fun _ _ => by decide +kernel⟩
theorem Ev.markE {e em : Expr} {kd ki kd' : Nat} {p1 p2 p3 p4 p5 p6 p7 : Pos} {p m : Nat} (h : Ev k c ρ e (.int (p : Int))) (hm : Ev k c ρ em (.int (m : Int))) (m0 : 0 < m) (m1 : m ≤ 4) :
    Ev k c ρ (.BinOp (.BinOp (.Constant (.str ".") kd p1) .Mult (.BinOp (.Constant (.int 1) ki p2) .Add (.BinOp e .Mod em p3) p4) p5) .Add (.Constant (.str "/") kd' p6) p7) (.str (S (markL m p))) := by
  have hlt := Nat.mod_lt p m0
  exact Ev.addS (n := 5) (m := 1) (Ev.dotsE h hm m0 m1) (Ev.str' (by kernel_rfl)) ⟨by simp [dots]; (first | lia | omega), fun c hc => (Plain.dots _ c hc).2.2⟩ ⟨by simp, by simp⟩ (by first | decide | lia | omega)
theorem fm3 (t : Int) {n : Int} (hn : 0 < n) : 0 ≤ t.fmod n ∧ t.fmod n < n := by
  rw [Int.fmod_eq_emod_of_nonneg _ (by first | decide | lia | omega)]
  exact ⟨Int.emod_nonneg _ (by first | decide | lia | omega), Int.emod_lt_of_pos _ hn⟩
theorem ok46 : Ok 1 [46] := ⟨by simp, by simp⟩
theorem ok2 : Ok 2 [13, 10] := ⟨by simp, by simp⟩
theorem ok4 : Ok 4 [13, 10, 13, 10] := ⟨by simp, by simp⟩
theorem endA_ok (i : Nat) : Ok 2 (endA i) := by unfold endA; split <;> exact ⟨by simp, by simp⟩
theorem endB_ok (i : Nat) : Ok 2 (endB i) := by unfold endB; split <;> exact ⟨by simp, by simp⟩
theorem pS_map (rs : List (List Nat)) : pS (rs.map S) = rs.map fun x => PV.str (S x) := by simp [pS]
theorem parts_len {l : List Nat} {n : Nat} (h : Ok n l) (hn : n ≤ 2 ^ 20) (y : Str) : (Str.partsBetween (S l) (Str.occurrences (S l) y 0 (S l).length ((S l).length + 1)) y.length).length ≤ sizeLine := by
  have h1 := StrLaws.occ_length_le (S l) y 0 (S l).length ((S l).length + 1)
  have h2 : (S l).length = l.length := by simp [Str.length]
  rw [length_partsBetween, sizeLine_eq]
  have := h.1
  (first | lia | omega)
theorem oks_ints (n : Nat) (l : List Nat) : PV.oks n (l.map fun i : Nat => PV.int (i : Int)) = true := by
  induction l with
  | nil => cases n <;> rfl
  | cons a l ih =>
    exact ih
theorem eqv_ints (a b : Int) : PV.eqv (.int a) (.int b) = decide (a = b) := by
  show PyData.eqv (.int a) (.int b) = _
  unfold PyData.eqv
  rw [Bool.eq_iff_iff]; simp
theorem ne_nil (l : List Nat) : (!PV.eqv (nL l) (.list [])) = decide (l ≠ []) := by
  cases l with
  | nil => rfl
  | cons a l => rfl
theorem in3 (d a b c' : Nat) : ([PV.int (a : Int), .int (b : Int), .int (c' : Int)].any fun y => PV.eqv y (.int (d : Int))) = decide (d = a ∨ d = b ∨ d = c') := by
  simp only [List.any_cons, List.any_nil, eqv_ints, Bool.or_false]
  rw [Bool.eq_iff_iff]
  simp
  (first | lia | omega)
theorem back_mod {m a base : Nat} (m0 : 2 ≤ m) (m1 : m ≤ 4) (h1 : base ≤ a) (h2 : a < base + m) : (base : Int) + (((1 + a % m : Nat) : Int) - 1 - (base : Int)).fmod (m : Int) = (a : Int) := by
  rw [Int.fmod_eq_emod_of_nonneg _ (by first | decide | lia | omega)]
  have hc : m = 2 ∨ m = 3 ∨ m = 4 := by (first | lia | omega)
  rcases hc with rfl | rfl | rfl <;> (first | lia | omega)
theorem Sx.if_dec {test : Expr} {body orelse : List Stmt} {pos : Pos} {b : Bool} (h1 : Tr k c ρ test b) (ht : b = true → Nx k c ρ body ρ₁) (hf : b = false → Nx k c ρ orelse ρ₁) : Sx k c ρ (.If test body orelse pos) ρ₁ := by
  cases b with
  | true => exact Sx.if_t h1 (ht rfl)
  | false => exact Sx.if_f h1 (hf rfl)
theorem SxF.if_dec {fs : List Addr} {outer : List Env} {test : Expr} {body orelse : List Stmt} {pos : Pos} {b : Bool} (h1 : Tr k c ρ test b) (ht : b = true → NxF fs outer k c ρ body ρ₁) (hf : b = false → NxF fs outer k c ρ orelse ρ₁) : SxF fs outer k c ρ (.If test body orelse pos) ρ₁ := by
  cases b with
  | true => exact SxF.if_t h1 (ht rfl)
  | false => exact SxF.if_f h1 (hf rfl)
theorem join_ok {X : List (List Nat)} {n : Nat} (h : ∀ r ∈ X, r.length ≤ n) : ((X.map S).map (·.length)).sum ≤ n * X.length := by
  induction X with
  | nil => exact Nat.zero_le _
  | cons r X ih =>
    have h1 := h r List.mem_cons_self
    have h2 := ih fun r hr => h r (List.mem_cons_of_mem _ hr)
    simp only [List.map_cons, List.sum_cons, List.length_cons, Nat.mul_succ]
    have : (S r).length = r.length := by simp [Str.length]
    (first | lia | omega)
theorem pick_tail {α : Type} (x : α) (l : List α) : pick (x :: l) (some 1) Option.none Option.none = l := pick_from (x :: l) 1
theorem lettersR_len (P : Cst) (l : List Nat) : (lettersR P l).length = 3 * l.length := by
  induction l with
  | nil => rfl
  | cons a l ih =>
    have : lettersR P (a :: l) = letterR P a ++ lettersR P l := rfl
    rw [this, List.length_append, ih, List.length_cons]
    show 3 + _ = _
    (first | lia | omega)
theorem logL_last (log : List (Nat × Nat)) (e : Nat × Nat) : ((log ++ [e]).map fun p : Nat × Nat => PV.tuple [.int (p.1 : Int), .int (p.2 : Int)])[(-1 + (((log ++ [e]).map fun p : Nat × Nat => PV.tuple [.int (p.1 : Int), .int (p.2 : Int)]).length : Int)).toNat]? = some (.tuple [.int (e.1 : Int), .int (e.2 : Int)]) := by
  have h : (-1 + (((log ++ [e]).map fun p : Nat × Nat => PV.tuple [.int (p.1 : Int), .int (p.2 : Int)]).length : Int)).toNat = log.length := by simp; (first | lia | omega)
  rw [h, List.getElem?_map]
  simp
/-- the names that the try leaves -/
noncomputable abbrev stepR (P : Cst) (σ : St) (turn : Int) (deed : Nat) : REnv :=
  [("there", .str (S (thereL P σ.letters))), ("back", .str (S (backL P σ.answers))), ("letters", nL σ.letters), ("answers", nL σ.answers), ("base", .int (σ.base : Int)),
   ("turn", .int turn), ("ends", sL [[10], [13], [13, 10]]), ("deed", .int (deed : Int)), ("pieces", sL P.pieces), ("marks", .int (P.m : Int))]
set_option maxHeartbeats 0 in
theorem f_step {P : Cst} {σ : St} {deed : Nat} (O : CstOK P) (H : StOK P σ) (hdeed : deed < 9) (hh : A.handled = none) (hroom : A.depth ≤ 440) (hu : A.units ≤ 200) :
    CallF true w A (.ref 153) [σ.pv P, .int (deed : Int), sL P.pieces, .int (P.m : Int), .int P.shift] ((stepS P deed σ).pv P) := by
  refine CallF.fn (cc := 152) (xs := ["state", "deed", "pieces", "marks", "shift"]) [("shift", .int P.shift), ("marks", .int (P.m : Int)), ("pieces", sL P.pieces), ("deed", .int (deed : Int)), ("state", σ.pv P)] ⟨by kernel_rfl, by kernel_rfl, by kernel_rfl, by kernel_rfl, ⟨_, _, rfl, rfl⟩, rfl, by kernel_rfl, by kernel_rfl, by kernel_rfl, by kernel_rfl, by kernel_rfl⟩ (by kernel_rfl)
    (bind5 rfl fun _ _ _ _ _ => by kernel_rfl) rfl (fun n => mem2 (.inl (by kernel_rfl)) (mem2 (.inl (by kernel_rfl)) (mem2 (.inl (by kernel_rfl)) (mem2 (.inl (by kernel_rfl)) (mem1 (.inl (by kernel_rfl))))))) (by unfold recursionLimit; (first | lia | omega)) rfl fun L fs outer hfr => ?_
  have hh' : (fc w A 153 L).A.handled = none := hh
  have hcu : (fc w A 153 L).A.units + 64 < cLine := by
    show A.units + 3 + 64 < cLine
    have : cLine = 9900 := by rfl
    (first | lia | omega)
  have hcu2 : (fc w A 153 L).A.units + 70 < cLine := by
    show A.units + 3 + 70 < cLine
    have : cLine = 9900 := by rfl
    (first | lia | omega)
  have hroom' : (fc w A 153 L).A.depth < recursionLimit := by
    show A.depth + 1 < recursionLimit
    unfold recursionLimit; (first | lia | omega)
  have hm0 : (P.m : Int) ≠ 0 := by have := O.m0; (first | lia | omega)
  have szL : ∀ n : Nat, n ≤ 2 ^ 20 → n ≤ sizeLine := fun n hn => by rw [sizeLine_eq]; (first | lia | omega)
  refine FxF.cons (ρ₁ := [("fine", .bool true), ("log", logL σ.log), ("book", (bookOf P σ.log).pv), ("want", .int (σ.want : Int)), ("base", .int (σ.base : Int)), ("answers", nL σ.answers), ("letters", nL σ.letters), ("back", .str (S (backL P σ.answers))), ("there", .str (S (thereL P σ.letters))), ("shift", .int P.shift), ("marks", .int (P.m : Int)), ("pieces", sL P.pieces), ("deed", .int (deed : Int)), ("state", σ.pv P)]) (SxF.of (Sx.unpack (xs := ["there", "back", "letters", "answers", "base", "want", "book", "log", "fine"]) (ds := σ.pvs P) (by one_item) rfl (UnpackV.free hh')
    (.cons (Sto.name (.inl (by kernel_rfl))) (.cons (Sto.name (.inl (by kernel_rfl))) (.cons (Sto.name (.inl (by kernel_rfl))) (.cons (Sto.name (.inl (by kernel_rfl))) (.cons (Sto.name (.inl (by kernel_rfl))) (.cons (Sto.name (.inl (by kernel_rfl))) (.cons (Sto.name (.inl (by kernel_rfl))) (.cons (Sto.name (.inl (by kernel_rfl))) (.cons (Sto.name (.inl (by kernel_rfl))) .nil))))))))) rfl rfl rfl rfl)) ?_
  generalize hturn : P.shift + (σ.log.length : Int) = turn
  refine FxF.cons (ρ₁ := stepE P σ turn deed) (SxF.of ?i0) ?_
  rotate_left
  refine FxF.cons (ρ₁ := stepE P (s1 P deed σ) turn deed) (SxF.of ?i1) ?_
  rotate_left
  refine FxF.cons (ρ₁ := stepE P (s2 deed (s1 P deed σ)) turn deed) ?i2 ?_
  rotate_left
  refine FxF.cons (ρ₁ := stepE P (stepS P deed σ) turn deed) (SxF.of ?i3) ?_
  rotate_left
  refine FxF.of (Fx.ret (Ev.tuple (ds := (stepS P deed σ).pvs P) (EvL.cons rfl (by one_item) (EvL.cons rfl (by one_item) (EvL.cons rfl (by one_item) (EvL.cons rfl (by one_item) (EvL.cons rfl (by one_item) (EvL.cons rfl (by one_item) (EvL.cons rfl (by one_item) (EvL.cons rfl (by one_item) (EvL.cons rfl (by one_item) EvL.nil))))))))) (szL 9 (by first | decide | lia | omega))))
  case i0 =>
    have e : (.int (σ.log.length : Int) : PV) = .int (((σ.log.map fun p : Nat × Nat => PV.tuple [.int (p.1 : Int), .int (p.2 : Int)]).length : Nat) : Int) := by rw [List.length_map]
    refine Sx.less (Sx.two (d1 := .int turn) (d2 := sL [[10], [13], [13, 10]]) hh' (EvL.cons rfl (Ev.to (Ev.bin (b := .int (σ.log.length : Int)) (by one_item) (e ▸ ?_) BinV.add) (by rw [hturn])) (EvL.cons rfl (Ev.list (EvL.cons rfl (Ev.str' (by kernel_rfl)) (EvL.cons rfl (Ev.str' (by kernel_rfl)) (EvL.cons rfl (Ev.str' (by kernel_rfl)) EvL.nil))) (szL 3 (by first | decide | lia | omega))) EvL.nil)) (.inl (by kernel_rfl)) (.inl (by kernel_rfl)) rfl rfl) ?_
    · (refine Ev.call_b (id := "len") (by kernel_rfl) (by kernel_rfl) (by kernel_rfl) (EvL.cons rfl ?_ EvL.nil) (CallV.len_list ?_) rfl (by rfl) (by decide +kernel) (by kernel_rfl))
      · one_item
      · rw [List.length_map]; have := H.l3; (first | lia | omega)
    · one_place
  case i2 =>
    have hm1 := O.m1
    have hm0' := O.m0
    generalize hτ : s1 P deed σ = τ
    refine SxF.if_dec (b := decide (deed = 3 ∨ deed = 4 ∨ deed = 5) && (decide (τ.letters ≠ []) && true))
      (Tr.and_cons (Tr.to (Tr.cmp (a := .int (deed : Int)) (b := .list [PV.int (3 : Nat), .int (4 : Nat), .int (5 : Nat)]) (by one_item) (Ev.list (EvL.cons rfl Ev.int (EvL.cons rfl Ev.int (EvL.cons rfl Ev.int EvL.nil))) (szL 3 (by first | decide | lia | omega))) (CmpV.mem 0 0 rfl rfl (by first | decide | lia | omega) (by first | decide | lia | omega) hcu2) (by kernel_rfl)) (in3 deed 3 4 5))
        (Tr.and_cons (Tr.to (Tr.cmp (a := nL τ.letters) (b := .list []) (by one_item) (Ev.list EvL.nil (szL 0 (by first | decide | lia | omega))) (CmpV.ne 1 1 (oks_ints 0 _) rfl (by first | decide | lia | omega) (by first | decide | lia | omega) hcu) (by kernel_rfl)) (ne_nil _)) Tr.and_nil)) (fun h => ?_) (fun h => ?_)
    · simp only [Bool.and_true, Bool.and_eq_true, decide_eq_true_eq] at h
      obtain ⟨hd6, hans⟩ := h
      have e1 : s1 P deed σ = σ := if_neg (by first | decide | lia | omega)
      have hτσ : τ = σ := by rw [← hτ, e1]
      cases ha : τ.letters with
      | nil => exact absurd ha hans
      | cons p ls =>
        subst hτσ
        have hiff := H.letter p ls ha
        have hrow := lettersR_row O (ls := p :: ls)
        have hb := there_ok O (ls := p :: ls) (by rw [← ha]; have := H.l1; (first | lia | omega))
        have hb' := there_ok O (ls := ls) (by have := H.l1; rw [ha] at this; simp at this; (first | lia | omega))
        have hlen : ls.length ≤ 900 := by have := H.l1; rw [ha] at this; simp at this; (first | lia | omega)
        have hll : (lettersR P ls).length = 3 * ls.length := lettersR_len P ls
        generalize hR : (46 :: markL P.m p) :: [] :: dotted (P.piece p) :: (lettersR P ls ++ [[]]) = R
        have hR0 : R[0]? = some (46 :: markL P.m p) := by rw [← hR]; rfl
        have hR2 : R[2]? = some (dotted (P.piece p)) := by rw [← hR]; rfl
        refine NxF.cons (SxF.of (Sx.assign (d := sL R) (Ev.to (Ev.meth (T := "str") (id := "str.split") rfl (by rfl) (by rfl) (fun _ _ _ _ h => evalArgs_one h) (by rfl) PySem.F.plainAttrs_str PySem.F.slot_str_split PySem.F.type_str_split (a := .str (S (thereL P (p :: ls)))) (by rw [← ha]; one_item) (EvL.cons rfl (Ev.str' (y := S [13, 10]) (by kernel_rfl)) EvL.nil) OfT.str (CallV.split (by rfl) (hb.size (by first | decide | lia | omega)) (parts_len hb (by first | decide | lia | omega) _))) (by rw [split_there O, pS_map, hR])) (.inl (by kernel_rfl)) (by rfl))) ?_
        refine NxF.cons (ρ₁ := ("rows", sL R) :: stepE P (if deed = 4 then τ else come τ p) turn deed) ?ja (NxF.of (Nx.cons (ρ₁ := stepE P (s2 deed τ) turn deed) ?jb Nx.nil))
        case ja =>
          refine SxF.if_dec (b := decide (deed ≠ 4)) (Tr.to (Tr.cmp (a := .int (deed : Int)) (b := .int (4 : Nat)) (by one_item) Ev.int (CmpV.ne 0 0 rfl rfl (by first | decide | lia | omega) (by first | decide | lia | omega) hcu) (by kernel_rfl)) (by rw [eqv_ints, ← decide_not]; exact decide_eq_decide.mpr (by first | decide | lia | omega))) (fun h => ?_) (fun h => ?_)
          · have h4 : deed ≠ 4 := of_decide_eq_true h
            rw [if_neg h4]
            generalize hw' : (if p = τ.want then τ.want + 1 else τ.want) = w'
            have hcome : come τ p = { τ with log := τ.log ++ [(p, τ.want)], want := w', answers := τ.answers ++ [w'] } := by unfold come; rw [hw']
            have hlog := H.l3
            refine NxF.cons (ρ₁ := ("log", logL (τ.log ++ [(p, τ.want)])) :: ("rows", sL R) :: stepE P τ turn deed) (SxF.of (Sx.assign (Ev.to (Ev.bin (a := logL τ.log) (b := logL [(p, τ.want)]) (by one_item) (Ev.list (EvL.cons rfl (Ev.tuple (EvL.cons rfl (Ev.sub (o := nL (p :: ls)) (i := .int (0 : Nat)) (by rw [← ha]; one_item) Ev.int (GetV.list (by first | decide | lia | omega) (by first | decide | lia | omega) rfl) rfl (by intro _ _; first | exact .inl rfl | exact .inr rfl)) (EvL.cons rfl (by one_item) EvL.nil)) (szL 2 (by first | decide | lia | omega))) EvL.nil) (szL 1 (by first | decide | lia | omega))) (BinV.add_list (szL _ (by simp; (first | lia | omega))))) (by rw [← List.map_append])) (.inl (by kernel_rfl)) (by rfl))) ?_
            generalize hB : bookOf P τ.log = B
            have HB := H.book
            rw [hB] at HB
            have hB' : bookOf P (τ.log ++ [(p, τ.want)]) = takeB P B (p, τ.want) := by rw [bookOf_snoc, hB]
            refine NxF.cons (ρ₁ := ("elder", .dict B.lt) :: ("kept", .list (pairs B.lt)) :: ("log", logL (τ.log ++ [(p, τ.want)])) :: ("rows", sL R) :: stepE P τ turn deed) (SxF.of (Sx.two (d1 := .dict B.lt) (d2 := .list (pairs B.lt)) hh' (EvL.cons rfl (Ev.sub (o := B.pv) (i := .int (4 : Nat)) (by rw [← hB]; one_item) Ev.int (GetV.tuple (by first | decide | lia | omega) (by first | decide | lia | omega) rfl) rfl (by intro _ _; first | exact .inl rfl | exact .inr rfl))
              (EvL.cons rfl (Ev.call_t (T := "list") (by kernel_rfl) (by kernel_rfl) (by kernel_rfl) (EvL.cons rfl (Ev.meth0 (T := "dict") (id := "dict.items") rfl (by rfl) PySem.F.plainAttrs_dict PySem.F.slot_dict_items PySem.F.type_dict_items (Ev.sub (o := B.pv) (i := .int (4 : Nat)) (by rw [← hB]; one_item) Ev.int (GetV.tuple (by first | decide | lia | omega) (by first | decide | lia | omega) rfl) rfl (by intro _ _; first | exact .inl rfl | exact .inr rfl)) OfT.dict (CallV.items HB.nodup)) EvL.nil) (CallV.list_view hh' HB.nodup (szL _ (by have := HB.len; (first | lia | omega)))) rfl (by rfl) (by decide +kernel) (by kernel_rfl)) EvL.nil)) (.inl (by kernel_rfl)) (.inl (by kernel_rfl)) rfl rfl)) ?_
            refine NxF.cons (ρ₁ := ("want", .int (w' : Int)) :: ("book", (bookOf P (τ.log ++ [(p, τ.want)])).pv) :: ("fine", .bool true) :: ("elder", .dict B.lt) :: ("kept", .list (pairs B.lt)) :: ("log", logL (τ.log ++ [(p, τ.want)])) :: ("rows", sL R) :: stepR P τ turn deed) ?tr ?_
            rotate_left
            · have hmk := Nat.mod_lt w' (show 0 < P.m by (first | lia | omega))
              have hlast1 : GetV true (fc w A 153 L) (logL (τ.log ++ [(p, τ.want)])) (.int (-1)) (.tuple [.int (p : Int), .int (τ.want : Int)]) := GetV.list_neg (by first | decide | lia | omega) (by simp; (first | lia | omega)) (by first | decide | lia | omega) (logL_last _ _)
              have hkept : PV.ok 2 (.list (pairs B.lt)) = true := pairs_ok HB.key
              refine NxF.cons (SxF.of (Sx.assign (d := .bool true) (Ev.and_t (by one_item) (Ev.and_t
                (Ev.to (Ev.cmp (a := .bool (!PV.eqv (.int (w' : Int)) (.int (τ.want : Int)))) (b := .bool (PV.eqv (.int (p : Int)) (.int (τ.want : Int)))) (Ev.cmp (by one_item) (Ev.sub (o := .tuple [.int (p : Int), .int (τ.want : Int)]) (i := .int (1 : Nat)) (Ev.sub (by one_item) Ev.neg hlast1 rfl (by intro _ _; first | exact .inl rfl | exact .inr rfl)) Ev.int (GetV.tuple (by first | decide | lia | omega) (by first | decide | lia | omega) rfl) rfl (by intro _ _; first | exact .inl rfl | exact .inr rfl)) (CmpV.ne 0 0 rfl rfl (by first | decide | lia | omega) (by first | decide | lia | omega) hcu) (by kernel_rfl))
                  (Ev.cmp (Ev.sub (o := .tuple [.int (p : Int), .int (τ.want : Int)]) (i := .int (0 : Nat)) (Ev.sub (by one_item) Ev.neg hlast1 rfl (by intro _ _; first | exact .inl rfl | exact .inr rfl)) Ev.int (GetV.tuple (by first | decide | lia | omega) (by first | decide | lia | omega) rfl) rfl (by intro _ _; first | exact .inl rfl | exact .inr rfl)) (Ev.sub (o := .tuple [.int (p : Int), .int (τ.want : Int)]) (i := .int (1 : Nat)) (Ev.sub (by one_item) Ev.neg hlast1 rfl (by intro _ _; first | exact .inl rfl | exact .inr rfl)) Ev.int (GetV.tuple (by first | decide | lia | omega) (by first | decide | lia | omega) rfl) rfl (by intro _ _; first | exact .inl rfl | exact .inr rfl)) (CmpV.eq 0 0 rfl rfl (by first | decide | lia | omega) (by first | decide | lia | omega) hcu) (by kernel_rfl))
                  (CmpV.eq 0 0 rfl rfl (by first | decide | lia | omega) (by first | decide | lia | omega) hcu) (by kernel_rfl)) (d' := .bool true) (by
                    rw [eqv_bools, eqv_ints, eqv_ints, ← hw']
                    by_cases q : p = τ.want
                    · rw [if_pos q, q]; simp; (first | lia | omega)
                    · rw [if_neg q]; refine congrArg PV.bool ?_; simp; (first | lia | omega)))
                (Ev.bool_one (Ev.to (Ev.cmp (a := .list (pairs B.lt)) (b := .list (pairs B.lt)) (Ev.call_t (T := "list") (by kernel_rfl) (by kernel_rfl) (by kernel_rfl) (EvL.cons rfl (Ev.meth0 (T := "dict") (id := "dict.items") rfl (by rfl) PySem.F.plainAttrs_dict PySem.F.slot_dict_items PySem.F.type_dict_items (a := .dict B.lt) (by one_item) OfT.dict (CallV.items HB.nodup)) EvL.nil) (CallV.list_view hh' HB.nodup (szL _ (by have := HB.len; (first | lia | omega)))) rfl (by rfl) (by decide +kernel) (by kernel_rfl)) (by one_item) (CmpV.eq 2 2 hkept hkept (by first | decide | lia | omega) (by first | decide | lia | omega) hcu) (by kernel_rfl)) (by rw [eqv_self hkept]))))) (.inl (by kernel_rfl)) (by rfl))) ?_
              have htj := fm3 (turn.fdiv 9) (n := 3) (by first | decide | lia | omega)
              have hdo : Ok 5 (dots (1 + w' % P.m)) := ⟨by simp [dots]; (first | lia | omega), fun c hc => (Plain.dots _ c hc).2.2⟩
              have hbk := back_ok O (as := τ.answers) (by have := H.l2; (first | lia | omega))
              refine NxF.cons (SxF.of (Sx.aug (a := .str (S (backL P τ.answers))) (b := .str (S (46 :: dots (1 + w' % P.m) ++ [13, 10]))) (d := .str (S (backL P (τ.answers ++ [w'])))) (by kernel_rfl) (Look.eq (by got_up; done)) (Ev.to (Ev.call_f (fa := 92) (by kernel_rfl) (by kernel_rfl) (show (KF w).lookup 92 = some (OB w 92) by kernel_rfl) (show (OB w 92).data = .func (FD w 92) by kernel_rfl)
                (EvL.cons rfl (d := .str (S (dots (1 + w' % P.m) ++ endA ((turn.fdiv 9).fmod 3).toNat))) (Ev.addS (n := 5) (m := 2) (Ev.dotsE (by one_item) (by one_item) (by first | decide | lia | omega) hm1) (Ev.sub (o := sL [[10], [13], [13, 10]]) (by one_item) (Ev.bin (Ev.bin (by one_item) Ev.int (BinV.floordiv (by first | decide | lia | omega) (by decide))) Ev.int (BinV.mod (by first | decide | lia | omega))) (GetV.list htj.1 (by first | decide | lia | omega) (sL_at (endA_at htj.1 htj.2))) rfl (by intro _ _; first | exact .inl rfl | exact .inr rfl)) hdo (endA_ok _) (by first | decide | lia | omega)) EvL.nil)
                (f_quote (by have := (hdo.app (endA_ok ((turn.fdiv 9).fmod 3).toNat)).1; (first | lia | omega)) hroom') rfl (by kernel_rfl)) (by rw [quoted_ans]))
                (by have := IopV.add_str (k := true) (c := fc w A 153 L) (a := S (backL P τ.answers)) (b := S (46 :: dots (1 + w' % P.m) ++ [13, 10])) (by
                      have h1 := hbk.1
                      have h2 := hdo.1
                      rw [sizeLine_eq]; simp [Str.length]; (first | lia | omega))
                    rwa [S_app, ← back_app] at this))) ?_
              refine NxF.cons (SxF.of (Sx.assign (d := nL (τ.answers ++ [w'])) (Ev.to (Ev.bin (a := nL τ.answers) (b := nL [w']) (by one_item) (Ev.list (EvL.cons rfl (by one_item) EvL.nil) (szL 1 (by first | decide | lia | omega))) (BinV.add_list (szL _ (by simp; have := H.l2; (first | lia | omega))))) (by rw [← List.map_append])) (.inl (by kernel_rfl)) (by rfl))) ?_
              rw [hcome]
              refine NxF.less NxF.nil ?_
              one_place
            case tr =>
              have hbare0 : bareL (46 :: markL P.m p) = markL P.m p := bare_dot _
              have hm46 : Ok 6 (46 :: markL P.m p) := Ok.app (a := [46]) (n := 1) (m := 5) ok46 (O.mark p)
              have hdot : Ok 10 (dotted (P.piece p)) := (dotted_plain (O.pl p)).ok (by have h1 := dotted_len (P.piece p); have h2 := O.ln p; (first | lia | omega))
              by_cases hpw : p = τ.want
              · have hw : w' = τ.want + 1 := by rw [← hw', if_pos hpw]
                have htake : bookOf P (τ.log ++ [(p, τ.want)]) = takeOk P B p := by rw [hB']; exact if_pos hpw
                rw [htake, hw]
                refine SxF.less (SxF.try_ok (NxF.of (Nx.cons (Sx.assign (d := (takeOk P B p).pv) (Ev.call_f (fa := 146) (by kernel_rfl) (by kernel_rfl) (show (KF w).lookup 146 = some (OB w 146) by kernel_rfl) (show (OB w 146).data = .func (FD w 146) by kernel_rfl) (ds := [B.pv, .str (S (markL P.m p)), .str (S (P.piece p)), .str (S (markL P.m τ.want))]) ?args
                  (f_take_ok hh' (by rw [hpw]) (by have := O.ln p; (first | lia | omega)) HB.nodup (by have := HB.len; (first | lia | omega)) (HB.can_text (by have := O.ln p; (first | lia | omega))) (by show A.depth + 1 ≤ 460; (first | lia | omega)) (by show A.units + 3 ≤ 250; (first | lia | omega))) rfl (by kernel_rfl)) (.inl (by kernel_rfl)) (by rfl))
                  (Nx.cons (Sx.aug (a := .int (τ.want : Int)) (b := .int 1) (d := .int ((τ.want + 1 : Nat) : Int)) (by kernel_rfl) (Look.eq (by got_up; done)) Ev.int (by have := IopV.add (k := true) (c := fc w A 153 L) (a := (τ.want : Int)) (b := 1); exact this)) Nx.nil)))) ?_
                case args => (exact EvL.cons rfl (by rw [← hB]; one_item) (EvL.cons rfl (Ev.to (Ev.call_f (fa := 139) (by kernel_rfl) (by kernel_rfl) (show (KF w).lookup 139 = some (OB w 139) by kernel_rfl) (show (OB w 139).data = .func (FD w 139) by kernel_rfl) (EvL.cons rfl (d := .str (S (46 :: markL P.m p))) (Ev.sub (o := sL R) (i := .int (0 : Nat)) (by one_item) Ev.int (GetV.list (by first | decide | lia | omega) (by first | decide | lia | omega) (sL_at hR0)) rfl (by intro _ _; first | exact .inl rfl | exact .inr rfl)) EvL.nil) (f_bare (hm46.le (by first | decide | lia | omega)) hroom' (by show A.units + 3 ≤ 280; (first | lia | omega))) rfl (by kernel_rfl)) (by rw [hbare0])) (EvL.cons rfl (Ev.to (Ev.call_f (fa := 139) (by kernel_rfl) (by kernel_rfl) (show (KF w).lookup 139 = some (OB w 139) by kernel_rfl) (show (OB w 139).data = .func (FD w 139) by kernel_rfl) (EvL.cons rfl (d := .str (S (dotted (P.piece p)))) (Ev.sub (o := sL R) (i := .int (2 : Nat)) (by one_item) Ev.int (GetV.list (by first | decide | lia | omega) (by first | decide | lia | omega) (sL_at hR2)) rfl (by intro _ _; first | exact .inl rfl | exact .inr rfl)) EvL.nil) (f_bare (hdot.le (by first | decide | lia | omega)) hroom' (by show A.units + 3 ≤ 280; (first | lia | omega))) rfl (by kernel_rfl)) (by rw [bare_dotted])) (EvL.cons rfl (Ev.markE (by one_item) (by one_item) (by first | decide | lia | omega) hm1) EvL.nil))))
                one_place
              · have hw : w' = τ.want := by rw [← hw', if_neg hpw]
                have htake : bookOf P (τ.log ++ [(p, τ.want)]) = takeNo P B p τ.want := by rw [hB']; exact if_neg hpw
                rw [htake, hw]
                have hne : markL P.m p ≠ markL P.m τ.want := fun q => hpw (hiff.mp (mark_inj.mp q))
                refine SxF.try_no (code := strB (S (markL P.m p)) (S (markL P.m τ.want))) (msg := S (markL P.m p)) (ρ' := ("book", (takeNo P B p τ.want).pv) :: ("fine", .bool true) :: ("refused", .exc (strB (S (markL P.m p)) (S (markL P.m τ.want))) (S (markL P.m p))) :: ("elder", .dict B.lt) :: ("kept", .list (pairs B.lt)) :: ("log", logL (τ.log ++ [(p, τ.want)])) :: ("rows", sL R) :: stepE P τ turn deed)
                  hfr rfl rfl (fun g s Q E F fr hE => ?body) (by kernel_rfl) (by kernel_rfl) (by kernel_rfl) (by kernel_rfl) (fun e g' s' Q E HV F h => ?suite) ?sub ?look
                case body =>
                  refine assign_raise (ρ := ("elder", .dict B.lt) :: ("kept", .list (pairs B.lt)) :: ("log", logL (τ.log ++ [(p, τ.want)])) :: ("rows", sL R) :: stepE P τ turn deed) (fa := 146) (by kernel_rfl) (by kernel_rfl) (show (KF w).lookup 146 = some (OB w 146) by kernel_rfl) (show (OB w 146).data = .func (FD w 146) by kernel_rfl) (ds := [B.pv, .str (S (markL P.m p)), .str (S (P.piece p)), .str (S (markL P.m τ.want))]) ?args
                    (f_take_no hh' hne (by show A.depth + 1 ≤ 460; (first | lia | omega)) (by show A.units + 3 ≤ 250; (first | lia | omega))) rfl (by kernel_rfl) (by rfl) hfr F fr hE
                  case args => (exact EvL.cons rfl (by rw [← hB]; one_item) (EvL.cons rfl (Ev.to (Ev.call_f (fa := 139) (by kernel_rfl) (by kernel_rfl) (show (KF w).lookup 139 = some (OB w 139) by kernel_rfl) (show (OB w 139).data = .func (FD w 139) by kernel_rfl) (EvL.cons rfl (d := .str (S (46 :: markL P.m p))) (Ev.sub (o := sL R) (i := .int (0 : Nat)) (by one_item) Ev.int (GetV.list (by first | decide | lia | omega) (by first | decide | lia | omega) (sL_at hR0)) rfl (by intro _ _; first | exact .inl rfl | exact .inr rfl)) EvL.nil) (f_bare (hm46.le (by first | decide | lia | omega)) hroom' (by show A.units + 3 ≤ 280; (first | lia | omega))) rfl (by kernel_rfl)) (by rw [hbare0])) (EvL.cons rfl (Ev.to (Ev.call_f (fa := 139) (by kernel_rfl) (by kernel_rfl) (show (KF w).lookup 139 = some (OB w 139) by kernel_rfl) (show (OB w 139).data = .func (FD w 139) by kernel_rfl) (EvL.cons rfl (d := .str (S (dotted (P.piece p)))) (Ev.sub (o := sL R) (i := .int (2 : Nat)) (by one_item) Ev.int (GetV.list (by first | decide | lia | omega) (by first | decide | lia | omega) (sL_at hR2)) rfl (by intro _ _; first | exact .inl rfl | exact .inr rfl)) EvL.nil) (f_bare (hdot.le (by first | decide | lia | omega)) hroom' (by show A.units + 3 ≤ 280; (first | lia | omega))) rfl (by kernel_rfl)) (by rw [bare_dotted])) (EvL.cons rfl (Ev.markE (by one_item) (by one_item) (by first | decide | lia | omega) hm1) EvL.nil))))
                case suite =>
                  refine wpAny_execs_cons ((Sx.assign (k := true) (c := ⟨w, (fc w A 153 L).A.mark (some (.ref e)), (fc w A 153 L).env⟩) (ρ := ("refused", .exc (strB (S (markL P.m p)) (S (markL P.m τ.want))) (S (markL P.m p))) :: ("elder", .dict B.lt) :: ("kept", .list (pairs B.lt)) :: ("log", logL (τ.log ++ [(p, τ.want)])) :: ("rows", sL R) :: stepE P τ turn deed) (d := .bool true)
                    (Ev.and_t (by one_item) (Ev.bool_one (Ev.to (Ev.not (Ev.call_b (id := "isinstance") (ds := [.int (strB (S (markL P.m p)) (S (markL P.m τ.want))), .ty "bool"]) (by kernel_rfl) (by kernel_rfl) (by kernel_rfl) (EvL.cons rfl (Ev.exc_code (by one_item)) (EvL.cons rfl (by one_item) EvL.nil)) (CallV.isi_bool (by show A.depth + 1 ≤ 500; (first | lia | omega)) (by show A.units + 3 ≤ 400; (first | lia | omega))) rfl (by rfl) (by decide +kernel) (by kernel_rfl))) (by rfl)))) (.inl (by kernel_rfl)) (by rfl)) g' s' _ _ F fun g2 s2 st2 F2 => ?_)
                  refine assign_G (k := true) (c := ⟨w, (fc w A 153 L).A.mark (some (.ref e)), (fc w A 153 L).env⟩) (ρ := ("fine", .bool true) :: ("refused", .exc (strB (S (markL P.m p)) (S (markL P.m τ.want))) (S (markL P.m p))) :: ("elder", .dict B.lt) :: ("kept", .list (pairs B.lt)) :: ("log", logL (τ.log ++ [(p, τ.want)])) :: ("rows", sL R) :: stepE P τ turn deed) (d := (takeNo P B p τ.want).pv)
                    (EvG.call_f (p := HandV ((fc w A 153 L).A.mark (some (.ref e)))) (fa := 113) (by kernel_rfl) (by kernel_rfl) (show (KF w).lookup 113 = some (OB w 113) by kernel_rfl) (show (OB w 113).data = .func (FD w 113) by kernel_rfl) (fun g hg => (HV.mono st2.up).mono hg)
                      (EvL.cons rfl (d := B.pv) (by rw [← hB]; one_item) (EvL.cons rfl (d := bookV 0 1 0 (strB (S (markL P.m p)) (S (markL P.m τ.want))) [(S (markL P.m p), .int 1)]) (Ev.tuple (EvL.cons rfl Ev.int (EvL.cons rfl Ev.int (EvL.cons rfl Ev.int (EvL.cons rfl (Ev.exc_code (by one_item)) (EvL.cons rfl (Ev.dict1 (Ev.exc_msg (by one_item)) Ev.int) EvL.nil))))) (szL 5 (by first | decide | lia | omega))) EvL.nil))
                      (f_add_stats HB.nodup (by have := HB.len; (first | lia | omega)) trivial (HB.can_num (mark_ne _ _) 1) (by show A.depth + 1 ≤ 470; (first | lia | omega)) (by show A.units + 3 ≤ 280; (first | lia | omega))) rfl (by kernel_rfl)) (.inl (by kernel_rfl)) (by rfl) F2 fun g3 s3 st3 F3 => wpAny_execs_nil (h g3 s3 (st2.trans st3) F3)
                case sub => one_place
                case look => kernel_rfl
          · have h4 : deed = 4 := Classical.byContradiction fun q => of_decide_eq_false h q
            rw [if_pos h4]
            exact NxF.nil
        case jb =>
          refine Sx.if_dec (b := decide (deed ≠ 5)) (Tr.to (Tr.cmp (a := .int (deed : Int)) (b := .int (5 : Nat)) (by one_item) Ev.int (CmpV.ne 0 0 rfl rfl (by first | decide | lia | omega) (by first | decide | lia | omega) hcu) (by kernel_rfl)) (by rw [eqv_ints, ← decide_not]; exact decide_eq_decide.mpr (by first | decide | lia | omega))) (fun h => ?_) (fun h => ?_)
          · have h8 : deed ≠ 5 := of_decide_eq_true h
            have es : s2 deed τ = { (if deed = 4 then τ else come τ p) with letters := ls } := by
              unfold s2
              rw [ha]
              dsimp only
              by_cases h6 : deed = 3
              · rw [if_pos h6, if_neg (by first | decide | lia | omega)]
              · rw [if_neg h6, if_pos (by first | decide | lia | omega), if_pos (by first | decide | lia | omega)]
            have hτl : (if deed = 4 then τ else come τ p).letters = p :: ls := by split <;> exact ha
            rw [es]
            generalize (if deed = 4 then τ else come τ p) = τ' at *
            have hX : ∀ r ∈ lettersR P ls ++ [[]], r.length ≤ 10 := fun r hr => by
              rcases List.mem_append.mp hr with q | q
              · exact (lettersR_row O r q).2
              · rw [List.mem_singleton] at q; subst q; exact Nat.zero_le _
            have hXl : (lettersR P ls ++ [[]]).length ≤ 2701 := by rw [List.length_append, hll]; simp; (first | lia | omega)
            refine Nx.cons (Sx.two (d1 := .str (S (thereL P ls))) (d2 := nL ls) hh' (EvL.cons rfl (Ev.to (Ev.meth (T := "str") (id := "str.join") rfl (by rfl) (by rfl) (fun _ _ _ _ h => evalArgs_one h) (by rfl) PySem.F.plainAttrs_str PySem.F.slot_str_join PySem.F.type_str_join (a := .str (S [13, 10])) (Ev.str' (by kernel_rfl))
              (EvL.cons rfl (Ev.to (Ev.sub (o := sL R) (i := .slice (some 3) Option.none Option.none) (by one_item) (Ev.slice (PartIs.some Ev.int) PartIs.none PartIs.none) (GetV.slice_list (by simp) (szL _ (by rw [List.length_map, ← hR]; simp only [List.length_cons]; (first | lia | omega)))) rfl (by intro _ _; first | exact .inl rfl | exact .inr rfl)) (d' := .list (pS ((lettersR P ls ++ [[]]).map S))) (by rw [← hR, pS_map]; exact congrArg PV.list (pick_from _ 3))) EvL.nil) OfT.str (CallV.join (by
                have h1 := join_ok hX
                have h2 : (S [13, 10]).length = 2 := rfl
                rw [List.length_map, h2]
                (first | lia | omega)))) (by rw [join_there]))
              (EvL.cons rfl (Ev.to (Ev.sub (o := nL (p :: ls)) (i := .slice (some 1) Option.none Option.none) (by rw [← hτl]; one_item) (Ev.slice (PartIs.some Ev.int) PartIs.none PartIs.none) (GetV.slice_list (by simp) (szL _ (by rw [List.length_map, List.length_cons]; (first | lia | omega)))) rfl (by intro _ _; first | exact .inl rfl | exact .inr rfl)) (by rw [List.map_cons, pick_tail])) EvL.nil)) (.inl (by kernel_rfl)) (.inl (by kernel_rfl)) rfl rfl) ?_
            refine Nx.less Nx.nil ?_
            one_place
          · have h8 : deed = 5 := Classical.byContradiction fun q => of_decide_eq_false h q
            have es : s2 deed τ = if deed = 4 then τ else come τ p := by
              unfold s2
              rw [ha]
              dsimp only
              rw [if_neg (by first | decide | lia | omega), if_neg (by first | decide | lia | omega), if_pos h8, if_neg (by first | decide | lia | omega)]
            rw [es]
            refine Nx.less Nx.nil ?_
            one_place
    · have e4 : s2 deed τ = τ := by
        simp only [Bool.and_true, Bool.and_eq_false_iff, decide_eq_false_iff_not] at h
        unfold s2
        rcases h with h | h
        · split
          · rfl
          · rw [if_neg (by first | decide | lia | omega), if_neg (by first | decide | lia | omega), if_neg (by first | decide | lia | omega)]
        · split
          · rfl
          · rename_i q; exact absurd (by rw [q]; simp) h
      rw [e4]
      exact NxF.nil
  case i1 =>
    have hm1 := O.m1
    have hm0' := O.m0
    by_cases hc : deed < 3 ∧ deed + 1 < P.m ∧ σ.base + deed < P.pieces.length
    · have es : s1 P deed σ = { σ with letters := σ.letters ++ [σ.base + deed] } := if_pos hc
      rw [es]
      obtain ⟨c1, c2, c3⟩ := hc
      have hpl := O.pl (σ.base + deed)
      have hpo := O.ok (σ.base + deed)
      have hat : P.pieces[σ.base + deed]? = some (P.piece (σ.base + deed)) := by
        unfold Cst.piece
        rw [List.getD_eq_getElem?_getD, List.getElem?_eq_getElem c3]; rfl
      refine Sx.if_t (Tr.to (Tr.and_cons (b := decide ((deed : Int) < 3)) (Tr.cmp (by one_item) Ev.int CmpV.lt (by kernel_rfl)) (Tr.and_cons (b := decide ((deed : Int) < (P.m : Int) - 1)) (Tr.cmp (by one_item) (Ev.bin (by one_item) Ev.int BinV.sub) CmpV.lt (by kernel_rfl)) (Tr.and_cons (b := decide ((σ.base : Int) + deed < P.pieces.length)) (Tr.cmp (Ev.bin (by one_item) (by one_item) BinV.add) ?len CmpV.lt (by kernel_rfl)) Tr.and_nil))) ?_) ?_
      case len =>
        have e : (.int (P.pieces.length : Int) : PV) = .int (((P.pieces.map fun x => PV.str (S x)).length : Nat) : Int) := by rw [List.length_map]
        rw [e]
        (refine Ev.call_b (id := "len") (by kernel_rfl) (by kernel_rfl) (by kernel_rfl) (EvL.cons rfl ?_ EvL.nil) (CallV.len_list ?_) rfl (by rfl) (by decide +kernel) (by kernel_rfl))
        · one_item
        · rw [List.length_map]; have := O.n; (first | lia | omega)
      · simp; (first | lia | omega)
      · generalize hp : σ.base + deed = p at *
        have hti := fm3 turn (n := 3) (by first | decide | lia | omega)
        have htj := fm3 (turn.fdiv 3) (n := 2) (by first | decide | lia | omega)
        have ht := there_ok O (ls := σ.letters) (by have := H.l1; (first | lia | omega))
        have hso : Ok 30 (sentL P p) := by
          have h1 := O.mark p
          have h2 := dotted_len (P.piece p)
          have h3 := O.ln p
          exact ((((Plain.dots 1).ok (n := 1) (by simp [dots])).app h1).app (m := 4) (b := [13, 10, 13, 10]) ⟨by simp, by simp⟩).app ((dotted_plain hpl).ok (n := 10) (by first | decide | lia | omega)) |>.le (by first | decide | lia | omega)
        refine Nx.cons (Sx.assign (d := .int (p : Int)) (Ev.to (Ev.bin (a := .int (σ.base : Int)) (b := .int (deed : Int)) (by one_item) (by one_item) BinV.add) (by rw [← hp]; push_cast; rfl)) (.inl (by kernel_rfl)) (by rfl)) ?_
        refine Nx.cons (Sx.two (d1 := .str (S (markL P.m p))) (d2 := .str (S (P.piece p))) hh' (EvL.cons rfl (Ev.markE (by one_item) (by one_item) (by first | decide | lia | omega) hm1) (EvL.cons rfl (Ev.sub (o := sL P.pieces) (i := .int (p : Int)) (by one_item) (by one_item) (GetV.list (by first | decide | lia | omega) (by have := O.n; (first | lia | omega)) (sL_at hat)) rfl (by intro _ _; first | exact .inl rfl | exact .inr rfl)) EvL.nil)) (.inl (by kernel_rfl)) (.inl (by kernel_rfl)) rfl rfl) ?_
        refine Nx.cons (Sx.assign (d := .str (S (sentL P p))) (Ev.to (Ev.call_f (fa := 92) (by kernel_rfl) (by kernel_rfl) (show (KF w).lookup 92 = some (OB w 92) by kernel_rfl) (show (OB w 92).data = .func (FD w 92) by kernel_rfl)
          (EvL.cons rfl (d := .str (S (markL P.m p ++ endA (turn.fmod 3).toNat ++ endB ((turn.fdiv 3).fmod 2).toNat ++ P.piece p))) (Ev.addS (n := 9) (m := 9) (Ev.addS (n := 7) (m := 2) (Ev.addS (n := 5) (m := 2) (by one_item) (Ev.sub (o := sL [[10], [13], [13, 10]]) (by one_item) (Ev.bin (by one_item) Ev.int (BinV.mod (by first | decide | lia | omega))) (GetV.list hti.1 (by first | decide | lia | omega) (sL_at (endA_at hti.1 hti.2))) rfl (by intro _ _; first | exact .inl rfl | exact .inr rfl)) (O.mark p) (endA_ok _) (by first | decide | lia | omega))
              (Ev.sub (o := sL [[13], [13, 10]]) (Ev.list (EvL.cons rfl (Ev.str' (by kernel_rfl)) (EvL.cons rfl (Ev.str' (by kernel_rfl)) EvL.nil)) (szL 2 (by first | decide | lia | omega))) (Ev.bin (Ev.bin (by one_item) Ev.int (BinV.floordiv (by first | decide | lia | omega) (by decide))) Ev.int (BinV.mod (by first | decide | lia | omega))) (GetV.list htj.1 (by first | decide | lia | omega) (sL_at (endB_at htj.1 htj.2))) rfl (by intro _ _; first | exact .inl rfl | exact .inr rfl)) ((O.mark p).app (endA_ok _)) (endB_ok _) (by first | decide | lia | omega))
              (by one_item) (((O.mark p).app (endA_ok _)).app (endB_ok _)) hpo (by first | decide | lia | omega)) EvL.nil) (f_quote (by have := ((((O.mark p).app (endA_ok (turn.fmod 3).toNat)).app (endB_ok ((turn.fdiv 3).fmod 2).toNat)).app hpo).1; (first | lia | omega)) hroom') rfl (by kernel_rfl)) (by rw [quoted_send hpl]; rfl)) (.inl (by kernel_rfl)) (by rfl)) ?_
        have hd : Ok 1 (if (P.piece p).take 1 = [46] then [46] else []) := by split <;> exact ⟨by simp, by simp⟩
        have eqs : sentL P p = [46] ++ markL P.m p ++ [13, 10, 13, 10] ++ (if (P.piece p).take 1 = [46] then [46] else []) ++ P.piece p := by
          unfold sentL dotted
          simp
        refine Nx.cons (Sx.assign (d := .bool true) (Ev.and_t (by one_item) (Ev.bool_one (Ev.to (Ev.cmp (a := .str (S (sentL P p))) (b := .str (S (sentL P p))) (by one_item) (Ev.to (Ev.addS (n := 11) (m := 9) (Ev.addS (n := 10) (m := 1) (Ev.addS (n := 6) (m := 4) (Ev.addS (n := 1) (m := 5) (Ev.str' (by kernel_rfl)) (by one_item) ok46 (O.mark p) (by first | decide | lia | omega)) (Ev.str' (by kernel_rfl)) (Ok.app (n := 1) (m := 5) ok46 (O.mark p)) ok4 (by first | decide | lia | omega)) ?ite
            (Ok.app (n := 6) (m := 4) (Ok.app (n := 1) (m := 5) ok46 (O.mark p)) ok4) hd (by first | decide | lia | omega)) (by one_item) (Ok.app (n := 10) (m := 1) (Ok.app (n := 6) (m := 4) (Ok.app (n := 1) (m := 5) ok46 (O.mark p)) ok4) hd) hpo (by first | decide | lia | omega)) (by rw [eqs])) (CmpV.eq 0 0 hso.pv hso.pv (by first | decide | lia | omega) (by first | decide | lia | omega) hcu) (by kernel_rfl)) (by rw [eqv_S]; simp)))) (.inl (by kernel_rfl)) (by rfl)) ?_
        case ite =>
          refine Ev.ite (decide ((P.piece p).take 1 = [46])) ?itc (fun h => ?itx) fun h => ?ity
          case itc =>
            rw [← eqv_S]
            exact Tr.cmp (Ev.to (Ev.sub (o := .str (S (P.piece p))) (i := .slice Option.none (some 1) Option.none) (by one_item) (Ev.slice PartIs.none (PartIs.some Ev.int) PartIs.none) (GetV.slice_str (hpo.size (by first | decide | lia | omega))) rfl (by intro _ _; first | exact .inl rfl | exact .inr rfl)) (congrArg PV.str (slice_to (P.piece p) 1))) (Ev.str' (by kernel_rfl)) (CmpV.eq 0 0 (hpo.take 1).pv ok46.pv (by first | decide | lia | omega) (by first | decide | lia | omega) hcu) (by kernel_rfl)
          case itx => rw [if_pos (of_decide_eq_true h)]; exact Ev.str' (by kernel_rfl)
          case ity => rw [if_neg (of_decide_eq_false h)]; exact Ev.str' (by kernel_rfl)
        refine Nx.cons (Sx.two (d1 := .str (S (thereL P (σ.letters ++ [p])))) (d2 := nL (σ.letters ++ [p])) hh' (EvL.cons rfl (Ev.to (Ev.addS (n := 2 ^ 16 + 30) (m := 2) (Ev.addS (n := 2 ^ 16) (m := 30) (by one_item) (by one_item) ht hso (by first | decide | lia | omega)) (Ev.str' (by kernel_rfl)) (ht.app hso) ok2 (by first | decide | lia | omega)) (by rw [there_app])) (EvL.cons rfl (Ev.to (Ev.bin (a := nL σ.letters) (b := nL [p]) (by one_item) (Ev.list (EvL.cons rfl (by one_item) EvL.nil) (szL 1 (by first | decide | lia | omega))) (BinV.add_list (by rw [List.length_map]; have := H.l1; exact szL _ (by simp; (first | lia | omega))))) (by rw [← List.map_append])) EvL.nil)) (.inl (by kernel_rfl)) (.inl (by kernel_rfl)) rfl rfl) ?_
        refine Nx.less Nx.nil ?_
        one_place
    · have es : s1 P deed σ = σ := if_neg hc
      rw [es]
      refine Sx.if_f (Tr.to (Tr.and_cons (b := decide ((deed : Int) < 3)) (Tr.cmp (by one_item) Ev.int CmpV.lt (by kernel_rfl)) (Tr.and_cons (b := decide ((deed : Int) < (P.m : Int) - 1)) (Tr.cmp (by one_item) (Ev.bin (by one_item) Ev.int BinV.sub) CmpV.lt (by kernel_rfl)) (Tr.and_cons (b := decide ((σ.base : Int) + deed < P.pieces.length)) (Tr.cmp (Ev.bin (by one_item) (by one_item) BinV.add) ?len CmpV.lt (by kernel_rfl)) Tr.and_nil))) ?_) Nx.nil
      case len =>
        have e : (.int (P.pieces.length : Int) : PV) = .int (((P.pieces.map fun x => PV.str (S x)).length : Nat) : Int) := by rw [List.length_map]
        rw [e]
        (refine Ev.call_b (id := "len") (by kernel_rfl) (by kernel_rfl) (by kernel_rfl) (EvL.cons rfl ?_ EvL.nil) (CallV.len_list ?_) rfl (by rfl) (by decide +kernel) (by kernel_rfl))
        · one_item
        · rw [List.length_map]; have := O.n; (first | lia | omega)
      · refine Bool.eq_false_iff.mpr fun q => hc ?_
        simp at q
        (first | lia | omega)
  case i3 =>
    have hm1 := O.m1
    have hm0' := O.m0
    generalize hτ : s2 deed (s1 P deed σ) = τ
    have hfin : stepS P deed σ = s3 deed τ := by unfold stepS; rw [hτ]
    rw [hfin]
    refine Sx.if_dec (b := decide (deed = 6 ∨ deed = 7 ∨ deed = 8) && (decide (τ.answers ≠ []) && true))
      (Tr.and_cons (Tr.to (Tr.cmp (a := .int (deed : Int)) (b := .list [PV.int (6 : Nat), .int (7 : Nat), .int (8 : Nat)]) (by one_item) (Ev.list (EvL.cons rfl Ev.int (EvL.cons rfl Ev.int (EvL.cons rfl Ev.int EvL.nil))) (szL 3 (by first | decide | lia | omega))) (CmpV.mem 0 0 rfl rfl (by first | decide | lia | omega) (by first | decide | lia | omega) hcu2) (by kernel_rfl)) (in3 deed 6 7 8))
        (Tr.and_cons (Tr.to (Tr.cmp (a := nL τ.answers) (b := .list []) (by one_item) (Ev.list EvL.nil (szL 0 (by first | decide | lia | omega))) (CmpV.ne 1 1 (oks_ints 0 _) rfl (by first | decide | lia | omega) (by first | decide | lia | omega) hcu) (by kernel_rfl)) (ne_nil _)) Tr.and_nil)) (fun h => ?_) (fun h => ?_)
    · simp only [Bool.and_true, Bool.and_eq_true, decide_eq_true_eq] at h
      obtain ⟨hd6, hans⟩ := h
      have e1 : s1 P deed σ = σ := if_neg (by first | decide | lia | omega)
      have e2 : s2 deed σ = σ := by
        unfold s2
        split
        · rfl
        · rw [if_neg (by first | decide | lia | omega), if_neg (by first | decide | lia | omega), if_neg (by first | decide | lia | omega)]
      have hτσ : τ = σ := by rw [← hτ, e1, e2]
      cases ha : τ.answers with
      | nil => exact absurd ha hans
      | cons a as =>
        subst hτσ
        obtain ⟨hb1, hb2⟩ := H.answer a as ha
        have hrow := answersR_row O (as := a :: as)
        have hb := back_ok O (as := a :: as) (by rw [← ha]; have := H.l2; (first | lia | omega))
        have hb' := back_ok O (as := as) (by have := H.l2; rw [ha] at this; simp at this; (first | lia | omega))
        have hlen : as.length ≤ 900 := by have := H.l2; rw [ha] at this; simp at this; (first | lia | omega)
        have hd1 : Ok 10 (46 :: dots (1 + a % P.m)) := ((hrow _ (List.mem_cons_self)).1).ok (hrow _ (List.mem_cons_self)).2
        have hbare : bareL (46 :: dots (1 + a % P.m)) = dots (1 + a % P.m) := bare_dot _
        refine Nx.cons (Sx.assign (d := sL ((46 :: dots (1 + a % P.m)) :: (answersR P as ++ [[]]))) (Ev.to (Ev.meth (T := "str") (id := "str.split") rfl (by rfl) (by rfl) (fun _ _ _ _ h => evalArgs_one h) (by rfl) PySem.F.plainAttrs_str PySem.F.slot_str_split PySem.F.type_str_split (a := .str (S (backL P (a :: as)))) (by rw [← ha]; one_item) (EvL.cons rfl (Ev.str' (y := S [13, 10]) (by kernel_rfl)) EvL.nil) OfT.str (CallV.split (by rfl) (hb.size (by first | decide | lia | omega)) (parts_len hb (by first | decide | lia | omega) _))) (by rw [split_back O, pS_map])) (.inl (by kernel_rfl)) (by rfl)) ?_
        have hrows : ∀ {i : Nat} {x : List Nat}, ((46 :: dots (1 + a % P.m)) :: (answersR P as ++ [[]]))[i]? = some x → (((46 :: dots (1 + a % P.m)) :: (answersR P as ++ [[]])).map fun x => PV.str (S x))[i]? = some (.str (S x)) := fun h => sL_at h
        refine Nx.cons (ρ₁ := ("rows", sL ((46 :: dots (1 + a % P.m)) :: (answersR P as ++ [[]]))) :: stepE P { τ with base := if deed = 7 then τ.base else a } turn deed) ?ja (Nx.cons (ρ₁ := stepE P (s3 deed τ) turn deed) ?jb Nx.nil)
        case ja =>
          refine Sx.if_dec (b := decide (deed ≠ 7)) (Tr.to (Tr.cmp (a := .int (deed : Int)) (b := .int (7 : Nat)) (by one_item) Ev.int (CmpV.ne 0 0 rfl rfl (by first | decide | lia | omega) (by first | decide | lia | omega) hcu) (by kernel_rfl)) (by rw [eqv_ints, ← decide_not]; exact decide_eq_decide.mpr (by first | decide | lia | omega))) (fun h => ?_) (fun h => ?_)
          · have h7 : deed ≠ 7 := of_decide_eq_true h
            rw [if_neg h7]
            have hmark : ((S (dots (1 + a % P.m))).length : Int) = ((1 + a % P.m : Nat) : Int) := by simp [Str.length, dots]
            refine Nx.cons (Sx.aug (a := .int (τ.base : Int)) (d := .int (a : Int)) (by kernel_rfl) (Look.eq (by got_up; done))
              (Ev.bin (Ev.bin (Ev.bin (a := .int ((1 + a % P.m : Nat) : Int)) (Ev.to (Ev.call_b (id := "len") (ds := [.str (S (dots (1 + a % P.m)))]) (by kernel_rfl) (by kernel_rfl) (by kernel_rfl) (EvL.cons rfl (Ev.to (Ev.call_f (fa := 139) (by kernel_rfl) (by kernel_rfl) (show (KF w).lookup 139 = some (OB w 139) by kernel_rfl) (show (OB w 139).data = .func (FD w 139) by kernel_rfl)
                (EvL.cons rfl (d := .str (S (46 :: dots (1 + a % P.m)))) (Ev.sub (o := sL ((46 :: dots (1 + a % P.m)) :: (answersR P as ++ [[]]))) (i := .int (0 : Nat)) (by one_item) Ev.int (GetV.list (by first | decide | lia | omega) (by first | decide | lia | omega) (hrows rfl)) rfl (by intro _ _; first | exact .inl rfl | exact .inr rfl)) EvL.nil) (f_bare (hd1.le (by first | decide | lia | omega)) hroom' (by show A.units + 3 ≤ 280; (first | lia | omega))) rfl (by kernel_rfl)) (by rw [hbare])) EvL.nil) (CallV.len_str (by rw [hmark]; have := Nat.mod_lt a (show 0 < P.m by (first | lia | omega)); (first | lia | omega))) rfl (by rfl) (by decide +kernel) (by kernel_rfl)) (by rw [hmark])) Ev.int BinV.sub) (by one_item) BinV.sub) (by one_item) (BinV.mod hm0))
              (by have := IopV.add (k := true) (c := fc w A 153 L) (a := (τ.base : Int)) (b := (((1 + a % P.m : Nat) : Int) - 1 - (τ.base : Int)).fmod (P.m : Int)); rwa [back_mod hm0' hm1 hb1 hb2] at this)) ?_
            refine Nx.cons (Sx.assign (d := .bool true) (Ev.and_t (by one_item) (Ev.bool_one (Ev.to (Ev.cmp (a := .int (a : Int)) (b := .int (a : Int)) (by one_item) (Ev.sub (o := nL (a :: as)) (i := .int (0 : Nat)) (by rw [← ha]; one_item) Ev.int (GetV.list (by first | decide | lia | omega) (by first | decide | lia | omega) rfl) rfl (by intro _ _; first | exact .inl rfl | exact .inr rfl)) (CmpV.eq 0 0 rfl rfl (by first | decide | lia | omega) (by first | decide | lia | omega) hcu) (by kernel_rfl)) (by rw [eqv_ints]; simp)))) (.inl (by kernel_rfl)) (by rfl)) ?_
            refine Nx.less Nx.nil ?_
            one_place
          · have h7 : deed = 7 := Classical.byContradiction fun q => of_decide_eq_false h q
            rw [if_pos h7]
            exact Nx.nil
        case jb =>
          refine Sx.if_dec (b := decide (deed ≠ 8)) (Tr.to (Tr.cmp (a := .int (deed : Int)) (b := .int (8 : Nat)) (by one_item) Ev.int (CmpV.ne 0 0 rfl rfl (by first | decide | lia | omega) (by first | decide | lia | omega) hcu) (by kernel_rfl)) (by rw [eqv_ints, ← decide_not]; exact decide_eq_decide.mpr (by first | decide | lia | omega))) (fun h => ?_) (fun h => ?_)
          · have h8 : deed ≠ 8 := of_decide_eq_true h
            have es : s3 deed τ = { τ with base := if deed = 7 then τ.base else a, answers := as } := by
              unfold s3
              rw [ha]
              dsimp only
              by_cases h6 : deed = 6
              · rw [if_pos h6, if_neg (by first | decide | lia | omega)]
              · rw [if_neg h6, if_pos (by first | decide | lia | omega), if_pos (by first | decide | lia | omega)]
            rw [es]
            have hX : ∀ r ∈ answersR P as ++ [[]], r.length ≤ 10 := fun r hr => by
              rcases List.mem_append.mp hr with q | q
              · exact (answersR_row O r q).2
              · rw [List.mem_singleton] at q; subst q; exact Nat.zero_le _
            have hXl : (answersR P as ++ [[]]).length ≤ 1001 := by simp [answersR]; (first | lia | omega)
            refine Nx.cons (Sx.two (d1 := .str (S (backL P as))) (d2 := nL as) hh' (EvL.cons rfl (Ev.to (Ev.meth (T := "str") (id := "str.join") rfl (by rfl) (by rfl) (fun _ _ _ _ h => evalArgs_one h) (by rfl) PySem.F.plainAttrs_str PySem.F.slot_str_join PySem.F.type_str_join (a := .str (S [13, 10])) (Ev.str' (by kernel_rfl))
              (EvL.cons rfl (Ev.to (Ev.sub (o := sL ((46 :: dots (1 + a % P.m)) :: (answersR P as ++ [[]]))) (i := .slice (some 1) Option.none Option.none) (by one_item) (Ev.slice (PartIs.some Ev.int) PartIs.none PartIs.none) (GetV.slice_list (by simp) (szL _ (by rw [List.length_map, List.length_cons]; (first | lia | omega)))) rfl (by intro _ _; first | exact .inl rfl | exact .inr rfl)) (d' := .list (pS ((answersR P as ++ [[]]).map S))) (by rw [List.map_cons, pick_tail, pS_map])) EvL.nil) OfT.str (CallV.join (by
                have h1 := join_ok hX
                have h2 : (S [13, 10]).length = 2 := rfl
                rw [List.length_map, h2]
                (first | lia | omega)))) (by rw [join_back]))
              (EvL.cons rfl (Ev.to (Ev.sub (o := nL (a :: as)) (i := .slice (some 1) Option.none Option.none) (by rw [← ha]; one_item) (Ev.slice (PartIs.some Ev.int) PartIs.none PartIs.none) (GetV.slice_list (by simp) (szL _ (by rw [List.length_map, List.length_cons]; (first | lia | omega)))) rfl (by intro _ _; first | exact .inl rfl | exact .inr rfl)) (by rw [List.map_cons, pick_tail])) EvL.nil)) (.inl (by kernel_rfl)) (.inl (by kernel_rfl)) rfl rfl) ?_
            refine Nx.less Nx.nil ?_
            one_place
          · have h8 : deed = 8 := Classical.byContradiction fun q => of_decide_eq_false h q
            have es : s3 deed τ = { τ with base := if deed = 7 then τ.base else a } := by
              unfold s3
              rw [ha]
              dsimp only
              rw [if_neg (by first | decide | lia | omega), if_neg (by first | decide | lia | omega), if_pos h8, if_neg (by first | decide | lia | omega)]
            rw [es]
            refine Nx.less Nx.nil ?_
            one_place
    · have e4 : s3 deed τ = τ := by
        simp only [Bool.and_true, Bool.and_eq_false_iff, decide_eq_false_iff_not] at h
        unfold s3
        rcases h with h | h
        · split
          · rfl
          · rw [if_neg (by first | decide | lia | omega), if_neg (by first | decide | lia | omega), if_neg (by first | decide | lia | omega)]
        · split
          · rfl
          · rename_i q; exact absurd (by rw [q]; simp) h
      rw [e4]
      exact Nx.nil
end
end Mine
end

end
section
set_option hygiene false in
local macro_rules | `(tactic| got_up) => `(tactic| repeat (first | with_reducible exact Look.here | refine Look.there (by kernel_rfl!) ?_))
set_option hygiene false in
local macro_rules | `(tactic| one_place) => `(tactic| repeat (first | exact Sub.nil | refine Sub.cons (by got_up; done) ?_))
set_option hygiene false in
local macro_rules | `(tactic| one_item) => `(tactic| first
  | exact Ev.int | exact Ev.str | exact Ev.bool | exact Ev.none
  | (refine Ev.loc' (by kernel_rfl!) ?_ (by kernel_rfl!); got_up; done)
  | (refine Ev.cell' (by kernel_rfl!) ?_ (by kernel_rfl!); got_up; done)
  | (refine Ev.free' (by kernel_rfl!) ?_ (by kernel_rfl!) (by kernel_rfl!); got_up; done)
  | (refine Ev.ty (by kernel_rfl!) (by kernel_rfl!) (by kernel_rfl!) (by decide +kernel) (by kernel_rfl!); done)
  | exact EvI.int | exact EvI.bool
  | (refine EvI.loc (by kernel_rfl!) ?_ (by kernel_rfl!); got_up; done)
  | (refine EvI.cell (by kernel_rfl!) ?_ (by kernel_rfl!); got_up; done)
  | (refine EvI.free (by kernel_rfl!) ?_ (by kernel_rfl!) (by kernel_rfl!); got_up; done))

section
open PySem PySem.W PyProof.Rows PySem.Builtin
set_option Elab.async false
set_option maxRecDepth 100000
set_option linter.all false
namespace Mine
section
variable {w : World} {A : Around} {R : GenEnd} {Y : Protocol} {n : Nat} {s₀ : Shared} {c : Code} {fs : List Frame} {s : Shared} {env : Env}
  {K : Flow → Sem Fin} {H : Value → Sem Fin} {gd : Bool → Bool} {lv : List Value → List Value}

/-- what stands behind a loop's frame -/
noncomputable def backK (env : Env) (K : Flow → Sem Fin) (H : Value → Sem Fin) (gd : Bool → Bool) (lv : List Value → List Value) (r : Result) : Sem Fin :=
  ((match r with | .ok f => (.pure f : Sem Flow) | .error e => .raise e).onRaise fun (x : Value) => do
    if (← field x 1) == Value.none then unsupported "frame.own-activation:exception-without-traceback"
    setFlight x env.frame).wrap K H gd lv
theorem backK_error {e : Value} : backK env K H gd lv (.error e) = (do
    if (← field e 1) == Value.none then unsupported "frame.own-activation:exception-without-traceback"
    setFlight e env.frame : Sem Unit).wrap (fun _ => H e) H gd lv := by
  show Sem.wrap K H gd lv (Sem.onRaise (.raise e) _) = _
  show Sem.wrap K H gd lv (Sem.bind _ fun _ => Sem.raise e) = _
  rw [Sem.bind_eq_wrap, Sem.wrap_wrap]
  rfl

theorem seg_For {target iter : Expr} {body : List Stmt} {pos : Pos} (hs : ∀ x, foldedSetIterable iter env x = pure x)
    (h : wpAny (model PW w) (A.over c fs) (eval iter env) (fun x s1 => wpAny (model PW w) (A.over c fs) (pyIter x) (fun it s2 => ∀ p, Seg (model PW w) A R Y n s₀ (.forLoop target it body [] env) ((model PW w).den (.forLoop target it body [] env)) (.ret (backK env K H gd lv) none (gd false) (lv []) c p [] :: fs) s2)
      (fun x s' => Seg (model PW w) A R Y n s₀ c (H x) fs s') s1) (fun x s' => Seg (model PW w) A R Y n s₀ c (H x) fs s') s) :
    Seg (model PW w) A R Y n s₀ c ((exec (.For target iter body [] pos) env).wrap K H gd lv) fs s := by
  rw [arm_exec_For]
  show Seg _ A R Y n s₀ c (.at pos fun _ => (eval iter env >>= fun x => foldedSetIterable iter env x >>= fun x => standAt iter.pos >>= fun _ => holding [x] (pyIter x) >>= fun it => runOwn (.forLoop target it body [] env) env).wrap K H gd lv) fs s
  refine seg_at ?_
  simp only [hs]
  rw [Sem.bind_eq_wrap', Sem.wrap_wrap]
  refine seg_wrap (wpAny_mono h (fun x s' h' => ?_) fun _ _ x => x)
  show Seg _ A R Y n s₀ c (.at iter.pos fun _ => (holding [x] (pyIter x) >>= fun it => runOwn (.forLoop target it body [] env) env).wrap K H gd lv) fs s'
  refine seg_at ?_
  rw [Sem.bind_eq_wrap', Sem.wrap_wrap]
  refine seg_wrap (wpAny_holding (wpAny_mono h' (fun it s2 h2 => ?_) fun _ _ x => x))
  exact seg_call h2

theorem noted_eq {e : Value} : ((do noteFrame e env; theTreesLotGoes e : Sem Unit).bind fun _ => (.raise e : Sem Fin)) = (do noteFrame e env; theTreesLotGoes e : Sem Unit).wrap (fun _ => .raise e) .raise id id := Sem.bind_eq_wrap _ _

theorem seg_forLoop {target : Expr} {it : Value} {body : List Stmt}
    (h : wpAny (model PW w) (A.over (.forLoop target it body [] env) fs) (pyNext it) (fun r s' => match r with
        | none => Seg (model PW w) A R Y n s₀ (.block [] env) (.pure (.done .next)) fs s'
        | some v => wpAny (model PW w) (A.over (.forLoop target it body [] env) fs) (letOwnedTupleGo target it v) (fun _ s1 => wpAny (model PW w) (A.over (.forLoop target it body [] env) fs) (assign target env v) (fun _ s2 =>
            Seg (model PW w) A R Y n s₀ (.forLoop target it body [] env) ((execs body env).wrap (fun f => match f with
              | .next | .cont => .pure (.again (.forLoop target it body [] env))
              | .brk => .pure (.done .next)
              | .ret v => .pure (.done (.ret v))) (fun e => (do noteFrame e env; theTreesLotGoes e : Sem Unit).wrap (fun _ => .raise e) .raise id id) id id) fs s2) (fun _ _ => False) s1) (fun _ _ => False) s')
      (fun _ _ => False) s) :
    Seg (model PW w) A R Y n s₀ (.forLoop target it body [] env) ((model PW w).den (.forLoop target it body [] env)) fs s := by
  show Seg _ A R Y n s₀ _ ((forTurn target it body [] env).onRaise (fun x => do noteFrame x env; theTreesLotGoes x)) fs s
  unfold forTurn
  rw [Sem.onRaise_eq_wrap]
  show Seg _ A R Y n s₀ _ (.at _ fun _ => Sem.wrap _ _ _ _ _) fs s
  refine seg_at ?_
  show Seg (model PW w) A R Y n s₀ _ (Sem.wrap Sem.pure _ _root_.id _root_.id (Sem.bind (Sem.onRaise (pyNext it) _) _)) fs s
  rw [Sem.onRaise_eq_wrap, Sem.bind_eq_wrap, Sem.wrap_wrap, Sem.wrap_wrap]
  refine seg_wrap (wpAny_mono h (fun r s' h' => ?_) fun _ _ x => x.elim)
  cases r with
  | none =>
    show Seg _ A R Y n s₀ _ (.pure (.again (.block [] env))) fs s'
    exact seg_again rfl h'
  | some v =>
    show Seg _ A R Y n s₀ _ (Sem.wrap _ _ _ _ (letOwnedTupleGo target it v >>= fun _ => assign target env v >>= fun _ => execs body env >>= _)) fs s'
    rw [Sem.bind_eq_wrap', Sem.wrap_wrap]
    refine seg_wrap (wpAny_mono h' (fun _ s1 h1 => ?_) fun _ _ x => x.elim)
    rw [Sem.bind_eq_wrap', Sem.wrap_wrap]
    refine seg_wrap (wpAny_mono h1 (fun _ s2 h2 => ?_) fun _ _ x => x.elim)
    rw [Sem.bind_eq_wrap', Sem.wrap_wrap]
    have key : ∀ t t' : Sem Fin, t = t' → Seg (model PW w) A R Y n s₀ (.forLoop target it body [] env) t' fs s2 → Seg (model PW w) A R Y n s₀ (.forLoop target it body [] env) t fs s2 := fun t t' e x => e ▸ x
    refine key _ _ (Sem.wrap_congr (execs body env) _ _ (fun f => ?_) (fun e => noted_eq)) h2
    cases f <;> rfl
end
end Mine
end

section
open PySem PySem.W PyProof.Rows PySem.Builtin
set_option Elab.async false
set_option maxRecDepth 100000
set_option linter.all false
namespace Mine
section
variable {w : World} {A : Around} {s : Shared} {E : Value → Shared → Prop}

/-- an exception of a builtin class on its way; with T a traceback whose flight is v -/
structure FlyB (s₀ : Shared) (fs : List Addr) (tb : Bool) (v : Value) (e : Addr) (s : Shared) : Prop where
  keep : ∀ b o, b ∉ fs → s₀.heap.get? b = some o → s.heap.get? b = some o
  slots : ∀ b, b ∈ fs → ∀ o, s₀.heap.get? b = some o → ∃ sl, s.heap.get? b = some { o with slots := sl }
  fresh : s₀.heap.get? e = none
  exc : ∃ vs, s.heap.get? e = some { cls := .type "ValueError", data := .fields vs } ∧ 3 ≤ vs.size ∧ vs[2]? = some .none ∧
    ((tb = false ∧ vs[1]? = some .none) ∨ (tb = true ∧ ∃ T oT ts, vs[1]? = some (.ref T) ∧ s₀.heap.get? T = none ∧ T ≠ e ∧ s.heap.get? T = some oT ∧ oT.data = .fields ts ∧ 4 ≤ ts.size ∧ ts[3]? = some v))
  rest : Rest true s₀ s

theorem entry_setB {M : Model} {s₀ : Shared} {fs : List Addr} {env : Env} {outer : List Env} {L : Addr} {tb : Bool} {v : Value} {e : Addr} {head : Value} {hn : Bool} {Q : Unit → Shared → Prop} (hfr : A.frames = some (env :: outer)) (F : FramesOK s₀ fs (env :: outer)) (hf : env.frame = some L)
    (f : FlyB s₀ fs tb v e s) (h : ∀ s', FlyB s₀ fs true (rawInt L) e s' → Q () s') :
    wpAny M A (do let a ← frameOf env; let pl ← entryPlaceOf L hn; let b ← EntryCells.newEntry head a .none (rawInt L) .none pl; setField (.ref e) 1 b) Q E s := by
  obtain ⟨vs, he, hz, h2, _⟩ := f.exc
  refine wpAny_bind (wpAny_frameOf_fun hfr (F.fun f.slots) hf fun h₁ hs₁ => ?_)
  refine wpAny_bind (wpAny_entryPlaceOf fun pl hpl => ?_)
  unfold EntryCells.newEntry newFields
  refine wpAny_bind (wpAny_newObj_type ?_ (hpl.sizeOk5 _ _ _ _ _))
  have hS : ∀ b o, b ∉ fs → s.heap.get? b = some o → h₁.get? b = some o := fun b o hb e => (hs₁.2.1 b fun q => hb (F.mem b q)).trans e
  have hframe : ∀ b, b ∈ (env :: outer).filterMap (·.frame) → ∃ o, s₀.heap.get? b = some o ∧ ∀ vs, o.data ≠ .fields vs := fun b hb => by
    obtain ⟨env', h1, h2⟩ := List.mem_filterMap.mp hb
    obtain ⟨_, L', o, h3, _, h5, h6⟩ := F.all env' h1
    rw [h3] at h2
    cases h2
    exact ⟨o, h5, h6⟩
  have he₁ : h₁.get? e = some _ := (hs₁.2.1 e fun q => by obtain ⟨o, h5, _⟩ := hframe e q; rw [f.fresh] at h5; cases h5).trans he
  have hTe : h₁.objs.size ≠ e := Nat.ne_of_gt (Heap.lt_size he₁)
  have he₂ := Heap.get?_push_of_some (h := h₁) { cls := .type "traceback", dict := none, data := .fields ([head, .ref L, .none, rawInt L, .none] ++ (if pl.isEmpty then List.replicate 6 Value.none else pl)).toArray } he₁
  have hz1 : 1 < vs.size := by omega
  refine wpAny_setField he₂ rfl hz1 ?_
  have he₃ := Heap.get?_update_self (Obj.mapFields (·.setIfInBounds 1 (Value.ref h₁.objs.size))) he₂ (Obj.isFreed_of_fields (Obj.data_mapFields rfl _))
  have hT₃ := (Heap.get?_update_other (h₁.push { cls := .type "traceback", dict := none, data := .fields ([head, .ref L, .none, rawInt L, .none] ++ (if pl.isEmpty then List.replicate 6 Value.none else pl)).toArray })
    (Obj.mapFields (·.setIfInBounds 1 (Value.ref h₁.objs.size))) (Ne.symm hTe)).trans (Heap.get?_push_size h₁ rfl)
  have up : ∀ b o, b ≠ e → h₁.get? b = some o →
      ((h₁.push { cls := .type "traceback", dict := none, data := .fields ([head, .ref L, .none, rawInt L, .none] ++ (if pl.isEmpty then List.replicate 6 Value.none else pl)).toArray }).update e (Obj.mapFields (·.setIfInBounds 1 (Value.ref h₁.objs.size)))).get? b = some o := fun b o hbe hb => by
    rw [Heap.get?_update_other _ _ (Ne.symm hbe)]
    exact Heap.get?_push_of_some _ hb
  have hT0 : s₀.heap.get? h₁.objs.size = none := by
    cases q : s₀.heap.get? h₁.objs.size with
    | none => rfl
    | some o =>
      exfalso
      have : ∃ o', h₁.get? h₁.objs.size = some o' := by
        by_cases hb : h₁.objs.size ∈ fs
        · obtain ⟨sl, h5⟩ := f.slots _ hb o q
          obtain ⟨sl', h6⟩ := hs₁.2.2 _ _ h5
          exact ⟨_, h6⟩
        · exact ⟨o, hS _ o hb (f.keep _ o hb q)⟩
      obtain ⟨o', h7⟩ := this
      exact absurd (Heap.lt_size h7) (Nat.lt_irrefl _)
  refine h _ ⟨fun b o hb hb0 => up b o (fun q => by rw [q, f.fresh] at hb0; cases hb0) (hS b o hb (f.keep b o hb hb0)), fun b hb o hb0 => ?_, f.fresh, ?_, f.rest.trans (Rest.same true s _ s.toks)⟩
  · obtain ⟨sl, h5⟩ := f.slots b hb o hb0
    obtain ⟨sl', h6⟩ := hs₁.2.2 _ _ h5
    exact ⟨sl', up b _ (fun q => by rw [q, f.fresh] at hb0; cases hb0) h6⟩
  · refine ⟨_, he₃, ?_, ?_, .inr ⟨rfl, h₁.objs.size, _, _, ?_, hT0, hTe, hT₃, rfl, ?_, ?_⟩⟩
    · simp; omega
    · simp [h2]
    · simp [hz1]
    · simp
    · simp

/-- a frame is left, or a loop: the entry is made -/
theorem FlyB.note {M : Model} {s₀ : Shared} {fs : List Addr} {env : Env} {outer : List Env} {tb : Bool} {L e : Addr} {Q : Unit → Shared → Prop} (f : FlyB s₀ fs tb .none e s) (hfr : A.frames = some (env :: outer)) (F : FramesOK s₀ fs (env :: outer)) (hf : env.frame = some L)
    (h : ∀ s', FlyB s₀ fs true (rawInt L) e s' → Q () s') : wpAny M A (noteFrame (.ref e) env) Q E s := by
  obtain ⟨vs, he, hz, h2, h6⟩ := id f.exc
  unfold noteFrame
  simp only [hf]
  rcases h6 with ⟨_, h6⟩ | ⟨_, T, oT, ts, a1, a2, a3, a4, a5, a6, a7⟩
  · refine wpAny_bind (wpAny_field he rfl h6 ?_)
    rw [if_neg (by decide)]
    exact entry_setB hfr F hf f h
  · refine wpAny_bind (wpAny_field he rfl a1 ?_)
    rw [if_pos (show (Value.ref T != Value.none) = true from by simp)]
    refine wpAny_bind (wpAny_field a4 a5 a7 ?_)
    rw [if_neg (show ¬ ((Value.none == rawInt L) = true) from by simp [rawInt])]
    refine wpAny_bind (wpAny_setField a4 a5 (by omega) ?_)
    have other : ∀ b, b ≠ T → (s.heap.update T (Obj.mapFields (·.setIfInBounds 3 Value.none))).get? b = s.heap.get? b := fun b hb => Heap.get?_update_other _ _ (Ne.symm hb)
    refine entry_setB (s₀ := s₀) (fs := fs) (tb := true) (v := .none) hfr F hf ⟨fun b o hb hb0 => (other b fun q => by rw [q, a2] at hb0; cases hb0).trans (f.keep b o hb hb0), fun b hb o hb0 => ?_, f.fresh, ?_, f.rest.trans (Rest.same true s _ s.toks)⟩ h
    · obtain ⟨sl, h5⟩ := f.slots b hb o hb0
      exact ⟨sl, (other b fun q => by rw [q, a2] at hb0; cases hb0).trans h5⟩
    · exact ⟨vs, (other e (Ne.symm a3)).trans he, hz, h2, .inr ⟨rfl, T, _, _, a1, a2, a3, Heap.get?_update_self _ a4 (Obj.isFreed_of_fields (Obj.data_mapFields a5 _)), Obj.data_mapFields a5 _, by rw [Array.size_setIfInBounds]; exact a6, by have h3 : 3 < ts.size := a6; simp [h3]⟩⟩
/-- the entry is made already -/
theorem FlyB.same {M : Model} {s₀ : Shared} {fs : List Addr} {env : Env} {L e : Addr} {Q : Unit → Shared → Prop} (f : FlyB s₀ fs true (rawInt L) e s) (hf : env.frame = some L) (h : Q () s) : wpAny M A (noteFrame (.ref e) env) Q E s := by
  obtain ⟨vs, he, hz, h2, h6⟩ := id f.exc
  rcases h6 with ⟨h5, _⟩ | ⟨_, T, oT, ts, a1, a2, a3, a4, a5, a6, a7⟩
  · cases h5
  unfold noteFrame
  simp only [hf]
  refine wpAny_bind (wpAny_field he rfl a1 ?_)
  rw [if_pos (show (Value.ref T != Value.none) = true from by simp)]
  refine wpAny_bind (wpAny_field a4 a5 a7 ?_)
  rw [if_pos (show ((rawInt L == rawInt L) = true) from by simp)]
  exact wpAny_pure h
/-- the flight is set -/
theorem FlyB.flight {M : Model} {s₀ : Shared} {fs : List Addr} {tb : Bool} {v : Value} {fr : Option Addr} {e : Addr} {Q : Unit → Shared → Prop} (f : FlyB s₀ fs tb v e s) (hf : ∀ b ∈ fs, s₀.heap.get? b ≠ none) (h : ∀ s', FlyB s₀ fs tb (fr.elim .none fun f => rawInt f) e s' → Q () s') : wpAny M A (setFlight (.ref e) fr) Q E s := by
  obtain ⟨vs, he, hz, h2, h6⟩ := id f.exc
  unfold setFlight
  rcases h6 with ⟨h5, h6⟩ | ⟨h5, T, oT, ts, a1, a2, a3, a4, a5, a6, a7⟩
  · refine wpAny_bind (wpAny_field he rfl h6 ?_)
    rw [if_neg (by decide)]
    exact wpAny_pure (h s ⟨f.keep, f.slots, f.fresh, ⟨vs, he, hz, h2, .inl ⟨h5, h6⟩⟩, f.rest⟩)
  · refine wpAny_bind (wpAny_field he rfl a1 ?_)
    rw [if_pos (show (Value.ref T != Value.none) = true from by simp)]
    refine wpAny_setField a4 a5 (by omega) (h _ ?_)
    have other : ∀ b, b ≠ T → (s.heap.update T (Obj.mapFields (·.setIfInBounds 3 (fr.elim Value.none fun f => rawInt f)))).get? b = s.heap.get? b := fun b hb => Heap.get?_update_other _ _ (Ne.symm hb)
    refine ⟨fun b o hb hb0 => (other b fun q => by rw [q, a2] at hb0; cases hb0).trans (f.keep b o hb hb0), fun b hb o hb0 => ?_, f.fresh, ?_, f.rest.trans (Rest.same true s _ s.toks)⟩
    · obtain ⟨sl, h5⟩ := f.slots b hb o hb0
      exact ⟨sl, (other b fun q => by rw [q, a2] at hb0; cases hb0).trans h5⟩
    · exact ⟨vs, (other e (Ne.symm a3)).trans he, hz, h2, .inr ⟨h5, T, _, _, a1, a2, a3, Heap.get?_update_self _ a4 (Obj.isFreed_of_fields (Obj.data_mapFields a5 _)), Obj.data_mapFields a5 _, by rw [Array.size_setIfInBounds]; exact a6, by have h3 : 3 < ts.size := a6; simp [h3]⟩⟩
/-- it has a traceback -/
theorem FlyB.has {M : Model} {s₀ : Shared} {fs : List Addr} {v : Value} {e : Addr} {Q : Value → Shared → Prop} (f : FlyB s₀ fs true v e s) (h : ∀ T, Q (.ref T) s) : wpAny M A (field (.ref e) 1) Q E s := by
  obtain ⟨vs, he, hz, h2, h6⟩ := id f.exc
  rcases h6 with ⟨h5, _⟩ | ⟨_, T, oT, ts, a1, a2, a3, a4, a5, a6, a7⟩
  · cases h5
  exact wpAny_field he rfl a1 (h T)
/-- it is made -/
theorem FlyB.made {s₀ : Shared} {fs : List Addr} {e : Addr} {vs : List Value} {h' : Heap} (m : Heap.MadeExc s₀.heap h' e "ValueError" vs) : FlyB s₀ fs false .none e { s₀ with heap := h' } where
  keep := fun b o _ h => m.keeps b o h
  slots := fun b _ o h => ⟨o.slots, m.keeps b o h⟩
  fresh := m.new
  exc := by
    obtain ⟨t, h1, h2, h3⟩ := m.there
    exact ⟨_, h1, by simp, by rfl, .inl ⟨rfl, by rfl⟩⟩
  rest := Rest.same true s₀ _ s₀.toks
end
end Mine
end

section
open PySem PySem.W PyProof.Rows PySem.Builtin
set_option Elab.async false
set_option maxRecDepth 100000
set_option linter.all false
namespace Mine

/-- how the telling goes on behind the last number -/
inductive Fin3 where | stop | refuse | more
deriving DecidableEq
/-- n more numbers are told; the m-th from the end is rv m -/
inductive Told (rv : Nat → Int) (fin : Fin3) : Nat → Option Int → List Int → Prop
  | stop {last : Option Int} : fin = .stop → Told rv fin 0 last []
  | char {last : Option Int} {l : List Int} : fin = .stop → Told rv fin 0 last (127 :: l)
  | refuse {l : List Int} : fin = .refuse → Told rv fin 0 none (0 :: l)
  | again {v : Int} {l : List Int} {n : Nat} : fin = .more → (∀ j, j ≤ n → rv j = v) → Told rv fin (n + 1) (some v) (0 :: l)
  | next {last : Option Int} {i : Int} {l : List Int} {n : Nat} : i ≠ 127 → i ≠ 0 → rv n = i → Told rv fin n (some i) l → Told rv fin (n + 1) last (i :: l)
noncomputable def lastV : Option Int → PV
  | none => .none
  | some i => .int i

section
variable {w : World} {A A' : Around} {n : Nat} {s₀ s s' sc : Shared} {c : Code} {fs : List Frame} {env : Env} {L : Addr} {fl : List Addr} {envs : List Env} {Z : Addr → Prop} {rv : Nat → Int} {fin : Fin3}
  {K : Flow → Sem Fin} {H : Value → Sem Fin} {gd : Bool → Bool} {lv : List Value → List Value} {R : GenEnd} {Y : Protocol}

noncomputable def Kept (Z : Addr → Prop) (s s' : Shared) : Prop := (∀ b o, ¬ Z b → s.heap.get? b = some o → s'.heap.get? b = some o) ∧ ∀ b, s.heap.get? b ≠ none → s'.heap.get? b ≠ none
noncomputable def SSx (sc : Shared) (L : Addr) (s s' : Shared) : Prop := (∀ b o, b ≠ L → sc.heap.get? b ≠ none → s.heap.get? b = some o → s'.heap.get? b = some o) ∧ Rest true s s'
theorem SSx.refl : SSx sc L s s := ⟨fun _ _ _ _ h => h, Rest.refl _ _⟩
theorem SSx.trans {s'' : Shared} (h : SSx sc L s s') (h' : SSx sc L s' s'') : SSx sc L s s'' := ⟨fun b o h1 h2 h3 => h'.1 b o h1 h2 (h.1 b o h1 h2 h3), h.2.trans h'.2⟩

noncomputable def YG (rv : Nat → Int) (fin : Fin3) (Z : Addr → Prop) (sc : Shared) (L : Addr) (fl : List Addr) (envs : List Env) : Protocol := fun n s₀ v s' kap =>
  (∃ t, v = .int (rv n) t) ∧ SSx sc L s₀ s' ∧ ((n = 0 → fin ≠ .more) → ∀ s'', Kept Z s' s'' → FramesOK s'' fl envs → kap (.send .none) s'')
noncomputable def RG (fin : Fin3) (sc : Shared) (L : Addr) (fl : List Addr) : GenEnd := fun n s₀ r s₁ =>
  n = 0 ∧ ((fin = .stop ∧ r = .ok (.ret .none) ∧ SSx sc L s₀ s₁) ∨ (fin = .refuse ∧ ∃ e sm, r = .error (.ref e) ∧ SSx sc L s₀ sm ∧ sm.heap.get? L ≠ Option.none ∧ FlyB sm (L :: fl) true .none e s₁))

theorem seg_Sx {k : Bool} {ρ ρ' : REnv} {st : Stmt} {g : Vw} (h : Sx k ⟨w, A.over c fs, env⟩ ρ st ρ') (F : FrOK ⟨w, A.over c fs, env⟩ ρ g s)
    (hQ : ∀ g' s', SS (Own ⟨w, A.over c fs, env⟩) k g s g' s' → FrOK ⟨w, A.over c fs, env⟩ ρ' g' s' → Seg (model PW w) A R Y n s₀ c (K .next) fs s') :
    Seg (model PW w) A R Y n s₀ c ((exec st env).wrap K H gd lv) fs s := seg_wrap (h g s _ _ F hQ)
theorem seg_If {k : Bool} {ρ : REnv} {test : Expr} {body orelse : List Stmt} {pos : Pos} {g : Vw} {b : Bool} (h : Tr k ⟨w, A.over c fs, env⟩ ρ test b) (F : FrOK ⟨w, A.over c fs, env⟩ ρ g s)
    (hQ : ∀ g' s', Step k g s g' s' → FrOK ⟨w, A.over c fs, env⟩ ρ g' s' → Seg (model PW w) A R Y n s₀ c ((execs (if b then body else orelse) env).wrap K H gd lv) fs s') :
    Seg (model PW w) A R Y n s₀ c ((exec (.If test body orelse pos) env).wrap K H gd lv) fs s := by
  show Seg _ A R Y n s₀ c (.at pos fun _ => (isTrue test env (eval test env) >>= fun b => if b = true then execs body env else execs orelse env).wrap K H gd lv) fs s
  refine seg_at ?_
  rw [Sem.bind_eq_wrap', Sem.wrap_wrap]
  refine seg_wrap (h g s _ _ F.env F.le fun g' s' st => ?_)
  have := hQ g' s' st (F.step st)
  cases b with
  | true => exact this
  | false => exact this
theorem seg_If_t {k : Bool} {ρ : REnv} {test : Expr} {body orelse : List Stmt} {pos : Pos} {g : Vw} (h : Tr k ⟨w, A.over c fs, env⟩ ρ test true) (F : FrOK ⟨w, A.over c fs, env⟩ ρ g s)
    (hQ : ∀ g' s', Step k g s g' s' → Seg (model PW w) A R Y n s₀ c ((execs body env).wrap K H gd lv) fs s') :
    Seg (model PW w) A R Y n s₀ c ((exec (.If test body orelse pos) env).wrap K H gd lv) fs s := seg_If h F fun g' s' st _ => hQ g' s' st
theorem seg_If_f {k : Bool} {ρ : REnv} {test : Expr} {body : List Stmt} {pos : Pos} {g : Vw} (h : Tr k ⟨w, A.over c fs, env⟩ ρ test false) (F : FrOK ⟨w, A.over c fs, env⟩ ρ g s)
    (hQ : ∀ g' s', Step k g s g' s' → Seg (model PW w) A R Y n s₀ c (K .next) fs s') :
    Seg (model PW w) A R Y n s₀ c ((exec (.If test body [] pos) env).wrap K H gd lv) fs s := seg_If h F fun g' s' st _ => hQ g' s' st
theorem seg_Return_none {pos : Pos} (h : Seg (model PW w) A R Y n s₀ c (K (.ret .none)) fs s) : Seg (model PW w) A R Y n s₀ c ((exec (.Return Option.none pos) env).wrap K H gd lv) fs s := by
  show Seg _ A R Y n s₀ c (.at pos fun _ => K (.ret .none)) fs s
  exact seg_at h
theorem seg_Raise {x : Str} {np cpos pos : Pos} {e₀ : Expr} {rest : List Expr} {k : Bool} {ρ : REnv} {ds : List PV} {g : Vw} (hh : (A.over c fs).handled = Option.none) (h1 : Ev k ⟨w, A.over c fs, env⟩ ρ (.Name x np) (.ty "ValueError")) (h2 : EvL k ⟨w, A.over c fs, env⟩ ρ (e₀ :: rest) ds)
    (F : FrOK ⟨w, A.over c fs, env⟩ ρ g s) (hsz : ds.length ≤ sizeLine) (he : starEach (e₀ :: rest) env = (false, eval e₀ env) :: starEach rest env) (hplain : (backTo cpos (starEach rest env)).any (·.1) = false)
    (hQ : ∀ g' s' h' e vs, Step k g s g' s' → FrOK ⟨w, A.over c fs, env⟩ ρ g' s' → Heap.MadeExc s'.heap h' e "ValueError" vs → Seg (model PW w) A R Y n s₀ c (H (.ref e)) fs { s' with heap := h' }) :
    Seg (model PW w) A R Y n s₀ c ((exec (.Raise (some (.Call (.Name x np) (e₀ :: rest) [] cpos)) Option.none pos) env).wrap K H gd lv) fs s := by
  refine seg_wrap (Raise_madeB PySem.F.excCall_ValueError PySem.F.excRaise_ValueError hh (h1 g s _ _ F.env F.le fun v g1 s1 st1 r1 => ?_) he hplain)
  replace r1 := r1.inv
  cases r1
  refine ⟨rfl, h2 cpos g1 s1 _ _ (F.step st1).env (F.step st1).le fun vs g2 s2 st2 r2 => ⟨by rw [r2.length]; exact hsz, fun h' e m => ?_⟩⟩
  exact hQ g2 s2 h' e vs (st1.trans st2) ((F.step st1).step st2) m

/-! the places of a generator's code -/
structure AtG (A' : Around) (env : Env) (envs : List Env) : Prop where
  hand : A'.handled = Option.none
  frames : A'.frames = some (env :: envs)
  units : A'.units ≤ 400
theorem at_for {body body' : List Stmt} {tgt : Expr} {it : Value} {kf : Result → Sem Fin} {l : List Value} {p : Pos} (hh : A.handled = Option.none) (hf : A.frames = some envs) (hu : A.units ≤ 300) :
    AtG (A.over (.forLoop tgt it body' [] env) [.ret kf Option.none false l (.func body env) p []]) env envs where
  hand := hh
  frames := by
    show pushEnvs [] (pushEnvs [env] A.frames) = _
    rw [hf]; rfl
  units := by
    have h1 : (Code.func body env).cUnits ≤ 50 := by have e : (Code.func body env).cUnits = 3 := rfl; (first | lia | omega)
    have h2 : (Code.forLoop tgt it body' [] env).cUnits ≤ 10 := by have e : (Code.forLoop tgt it body' [] env).cUnits = 0 := rfl; (first | lia | omega)
    show A.units + ((Code.func body env).cUnits + 0) + (Code.forLoop tgt it body' [] env).cUnits ≤ 400
    (first | lia | omega)
end
end Mine
end

section
open PySem PySem.W PyProof.Rows PySem.Builtin
set_option Elab.async false
set_option maxRecDepth 100000
set_option linter.all false
namespace Mine
section
variable {w : World} {A A' : Around} {n : Nat} {s₀ s s' sc : Shared} {c c' : Cx} {fs : List Frame} {env : Env} {L I la : Addr} {fl : List Addr} {envs : List Env} {Z : Addr → Prop} {rv : Nat → Int} {fin : Fin3} {g g' : Vw} {ρ ρ' : REnv}

theorem CmpV.is_none {k : Bool} : CmpV k c .Is .none .none true := fun g s va vb Q E B L r1 r2 h => by
  cases r1.inv; cases r2.inv
  exact wpAny_of_eq (a := Value.bool true) rfl (h g s (Step.refl L))
theorem CmpV.is_int {k : Bool} {i : Int} : CmpV k c .Is (.int i) .none false := fun g s va vb Q E B L r1 r2 h => by
  cases r1.inv; cases r2.inv
  exact wpAny_of_eq (a := Value.bool false) rfl (h g s (Step.refl L))

/-- what holds of the generator while it runs -/
structure GInv (c : Cx) (ρ : REnv) (sc : Shared) (L : Addr) (Z : Addr → Prop) (fl : List Addr) (envs : List Env) (g : Vw) (s : Shared) : Prop where
  fr : FrOK c ρ g s
  z : ∀ b, Z b → g b = none ∧ b ≠ L ∧ sc.heap.get? b ≠ none
  old : ∀ b, sc.heap.get? b ≠ none → s.heap.get? b ≠ none
  out : FramesOK s fl envs
  fl : ∀ b ∈ fl, b ≠ L ∧ sc.heap.get? b ≠ none
  me : c.env.locals = L ∧ c.env.cells = []
theorem GInv.own (G : GInv c ρ sc L Z fl envs g s) (b : Addr) : Own c b ↔ b = L := by
  constructor
  · rintro (h | ⟨x, h⟩)
    · exact h.trans G.me.1
    · rw [G.me.2] at h; cases h
  · rintro rfl; exact .inl G.me.1.symm
theorem GInv.ss (G : GInv c ρ sc L Z fl envs g s) (st : SS (Own c) true g s g' s') (F : FrOK c ρ' g' s') : GInv c ρ' sc L Z fl envs g' s' ∧ SSx sc L s s' := by
  have hk : ∀ b o, b ≠ L → s.heap.get? b = some o → s'.heap.get? b = some o := fun b o hb h => st.heap b o (fun q => hb ((G.own b).mp q)) h
  refine ⟨⟨F, fun b hb => ⟨st.hides (G.z b hb).1 (G.old b (G.z b hb).2.2), (G.z b hb).2⟩, fun b hb q => ?_, ⟨fun env he => ?_⟩, G.fl, G.me⟩, ⟨fun b o h1 _ h => hk b o h1 h, st.rest⟩⟩
  · by_cases e : b = L
    · exact F.has b ((G.own b).mpr e) q
    · obtain ⟨o, ho⟩ := Option.ne_none_iff_exists'.mp (G.old b hb)
      rw [hk b o e ho] at q; cases q
  · obtain ⟨h1, L', o, h2, h3, h4, h5⟩ := G.out.all env he
    exact ⟨h1, L', o, h2, h3, hk L' o (G.fl L' h3).1 h4, h5⟩
theorem GInv.step (G : GInv c ρ sc L Z fl envs g s) (st : Step true g s g' s') : GInv c ρ sc L Z fl envs g' s' ∧ SSx sc L s s' := G.ss (G.fr.ss st) (G.fr.step st)
theorem GInv.kept (G : GInv c ρ sc L Z fl envs g s) (k : Kept Z s s') (fr : FramesOK s' fl envs) : GInv c ρ sc L Z fl envs g s' :=
  ⟨G.fr.keep k.1 fun b hb => ⟨(G.z b hb).1, fun q => (G.z b hb).2.1 ((G.own b).mp q)⟩, G.z, fun b hb => k.2 b (G.old b hb), fr, G.fl, G.me⟩
theorem GInv.at (G : GInv c ρ sc L Z fl envs g s) {A' : Around} : GInv ⟨c.w, A', c.env⟩ ρ sc L Z fl envs g s := ⟨G.fr.at, G.z, G.old, G.out, G.fl, G.me⟩
theorem GInv.less (G : GInv c ρ sc L Z fl envs g s) (h : Sub ρ' ρ) : GInv c ρ' sc L Z fl envs g s := ⟨G.fr.less h, G.z, G.old, G.out, G.fl, G.me⟩
/-- an object of the generator alone is turned -/
theorem GInv.touch (G : GInv c ρ sc L Z fl envs g s) (hI : g I = none) (hIL : I ≠ L) (hIs : sc.heap.get? I = none) (k : ∀ b o, b ≠ I → s.heap.get? b = some o → s'.heap.get? b = some o) (hr : Rest true s s') : GInv c ρ sc L Z fl envs g s' ∧ SSx sc L s s' := by
  have hne : ∀ b, sc.heap.get? b ≠ none → b ≠ I := fun b hb q => hb (q ▸ hIs)
  refine ⟨⟨G.fr.keep (Z := fun b => b = I) k fun b hb => ?_, G.z, fun b hb q => ?_, ⟨fun env he => ?_⟩, G.fl, G.me⟩, ⟨fun b o _ h2 h => k b o (hne b h2) h, hr⟩⟩
  · subst hb; exact ⟨hI, fun q => hIL ((G.own b).mp q)⟩
  · obtain ⟨o, ho⟩ := Option.ne_none_iff_exists'.mp (G.old b hb)
    rw [k b o (hne b hb) ho] at q; cases q
  · obtain ⟨h1, L', o, h2, h3, h4, h5⟩ := G.out.all env he
    exact ⟨h1, L', o, h2, h3, k L' o (hne L' (G.fl L' h3).2) h4, h5⟩
/-- the frames on the stack, as the generator raises -/
theorem GInv.frames (G : GInv c ρ sc L Z fl envs g s) (hf : c.env.frame = some L) : FramesOK s (L :: fl) (c.env :: envs) := by
  obtain ⟨m, hn, _⟩ := G.fr.env.loc
  rw [G.me.1] at hn
  exact G.out.inner (fun _ _ h => h) (by rw [G.fr.env.fn]; decide) hf hn

/-- the iterator over the ruler -/
structure ItAt (sc : Shared) (L : Addr) (Z : Addr → Prop) (P : Params) (l : List Int) (I la : Addr) (vs : Array Value) (g : Vw) (j : Nat) (s : Shared) : Prop where
  it : s.heap.IsListIter I la j
  ls : ∃ o m, g la = some o ∧ o.cls = .type "list" ∧ o.data = .seq vs m
  rep : RepL P g vs.toList (l.map PV.int)
  hid : g I = none
  ne : I ≠ L
  z : ¬ Z I
  new : sc.heap.get? I = none
theorem ItAt.keep {P : Params} {l : List Int} {vs : Array Value} {j : Nat} (T : ItAt sc L Z P l I la vs g j s) (hg : Le g g') (hn : ∀ b o, g' b = some o → g b = some o ∨ s.heap.get? b = none) (hI : ∀ o, s.heap.get? I = some o → s'.heap.get? I = some o) : ItAt sc L Z P l I la vs g' j s' where
  it := let ⟨o, h1, h2⟩ := T.it; ⟨o, hI o h1, h2⟩
  ls := let ⟨o, m, h1, h2⟩ := T.ls; ⟨o, m, hg _ _ h1, h2⟩
  rep := T.rep.mono hg
  hid := by
    cases q : g' I with
    | none => rfl
    | some o =>
      obtain ⟨o', h1, _⟩ := T.it
      rcases hn I o q with h | h
      · rw [T.hid] at h; cases h
      · rw [h1] at h; cases h
  ne := T.ne
  z := T.z
  new := T.new

theorem repl_int {P : Params} {vs : List Value} {l : List Int} {j : Nat} (r : RepL P g vs (l.map PV.int)) (v : Value) (h : vs[j]? = some v) : ∃ i t, l[j]? = some i ∧ v = .int i t := by
  rcases r.get j with ⟨v', d, h1, h2, q⟩ | ⟨h1, _⟩
  · rw [h] at h1; cases h1
    rw [List.getElem?_map] at h2
    cases hl : l[j]? with
    | none => rw [hl] at h2; cases h2
    | some i =>
      rw [hl] at h2; cases h2
      cases q.inv with
      | mk t => exact ⟨i, t, rfl, rfl⟩
  · rw [h] at h1; cases h1

/-- the loop of the generator -/
theorem gen_loop {x : Str} {px : Pos} {body : List Stmt} {l : List Int} {vs : Array Value} (hh : (A.over (.forLoop (.Name x px) (.ref I) body [] env) fs).handled = none)
    (hkx : env.kindOf x = some .local) (hp : (env.scope.kind == .class || (env.scope.kind == .module && env.locals != env.globals)) = false) (hne : x ≠ "last_interval")
    (hnext : ∀ s₀ s, fin = .stop → SSx sc L s₀ s → Seg (model PW w) A (RG fin sc L fl) (YG rv fin Z sc L fl envs) 0 s₀ (.block [] env) (.pure (.done .next)) fs s)
    (hturn : ∀ i n last rest s₀ g s, Told rv fin n last (i :: rest) → GInv ⟨w, A.over (.forLoop (.Name x px) (.ref I) body [] env) fs, env⟩ [(x, .int i), ("last_interval", lastV last)] sc L Z fl envs g s → SSx sc L s₀ s → I ≠ L → ¬ Z I →
      (∀ m s₀' g' s', Told rv fin m (some i) rest → GInv ⟨w, A.over (.forLoop (.Name x px) (.ref I) body [] env) fs, env⟩ [("last_interval", .int i)] sc L Z fl envs g' s' → SSx sc L s₀' s' → Le g g' → (∀ b o, g' b = some o → g b = some o ∨ s.heap.get? b = none) → (∀ o, s.heap.get? I = some o → s'.heap.get? I = some o) →
        Seg (model PW w) A (RG fin sc L fl) (YG rv fin Z sc L fl envs) m s₀' (.forLoop (.Name x px) (.ref I) body [] env) (.pure (.again (.forLoop (.Name x px) (.ref I) body [] env))) fs s') →
      Seg (model PW w) A (RG fin sc L fl) (YG rv fin Z sc L fl envs) n s₀ (.forLoop (.Name x px) (.ref I) body [] env) ((execs body env).wrap (fun f => match f with
              | .next | .cont => .pure (.again (.forLoop (.Name x px) (.ref I) body [] env))
              | .brk => .pure (.done .next)
              | .ret v => .pure (.done (.ret v))) (fun e => (do noteFrame e env; theTreesLotGoes e : Sem Unit).wrap (fun _ => .raise e) .raise id id) id id) fs s) :
    ∀ (rem : List Int) (j n : Nat) (last : Option Int) (s₀ : Shared) (g : Vw) (s : Shared), l.drop j = rem → Told rv fin n last rem → GInv ⟨w, A.over (.forLoop (.Name x px) (.ref I) body [] env) fs, env⟩ [("last_interval", lastV last)] sc L Z fl envs g s → ItAt sc L Z w.params l I la vs g j s → SSx sc L s₀ s →
      Seg (model PW w) A (RG fin sc L fl) (YG rv fin Z sc L fl envs) n s₀ (.forLoop (.Name x px) (.ref I) body [] env) ((model PW w).den (.forLoop (.Name x px) (.ref I) body [] env)) fs s := by
  intro rem
  induction rem with
  | nil =>
    intro j n last s₀ g s hrem hT G T hs
    cases hT with
    | stop hfin =>
    obtain ⟨o, m, h1, h2, h3⟩ := T.ls
    have hla : g la ≠ none := fun q => by rw [h1] at q; cases q
    have hIla : la ≠ I := fun q => hla (q ▸ T.hid)
    have hil : s.heap.IsList la vs := ⟨o, G.fr.le _ _ h1, h2, _, h3⟩
    have hsz : vs.size = l.length := by rw [← Array.length_toList, T.rep.length]; simp
    have hj : l.length ≤ j := List.drop_eq_nil_iff.mp hrem
    have hx : vs[j]? = none := Array.getElem?_eq_none (by omega)
    refine seg_forLoop (wpAny_pyNext_list_end (by first | exact hh | exact G.fr.env.base.nolimit G.fr.le) T.it hil hx fun h' hs' => ?_)
    exact hnext s₀ _ hfin (hs.trans (G.touch T.hid T.ne T.new (fun b o hb e => hs' b o hb e) (Rest.own _ _ _)).2)
  | cons i rest ih =>
    intro j n last s₀ g s hrem hT G T hs
    obtain ⟨o, m, h1, h2, h3⟩ := T.ls
    have hla : g la ≠ none := fun q => by rw [h1] at q; cases q
    have hIla : la ≠ I := fun q => hla (q ▸ T.hid)
    have hil : s.heap.IsList la vs := ⟨o, G.fr.le _ _ h1, h2, _, h3⟩
    have hsz : vs.size = l.length := by rw [← Array.length_toList, T.rep.length]; simp
    have hj : j < l.length := by
      rcases Nat.lt_or_ge j l.length with h | h
      · exact h
      · rw [List.drop_eq_nil_of_le h] at hrem; cases hrem
    have hjs : j < vs.size := by omega
    obtain ⟨i', t, hi', hv⟩ := repl_int (j := j) T.rep vs[j] (by rw [Array.getElem?_toList]; simp [hjs])
    have hd := List.drop_eq_getElem_cons hj
    rw [hrem] at hd
    have hii : i' = i := by
      rw [List.getElem?_eq_getElem hj] at hi'
      injection hd with hd1 _
      rw [hd1]; exact (Option.some.inj hi').symm
    subst hii
    have hrest : l.drop (j + 1) = rest := by injection hd with _ hd2; exact hd2.symm
    refine seg_forLoop (wpAny_pyNext_list_item T.it hil (x := vs[j]) (by simp [hjs]) fun h' hit' hs' => ?_)
    obtain ⟨G1, hs1⟩ := G.touch (s' := { s with heap := h' }) T.hid T.ne T.new (fun b o hb e => hs'.extBut b o hb e) (Rest.own _ _ _)
    have T1 : ItAt sc L Z w.params l I la vs g (j + 1) { s with heap := h' } := ⟨hit', T.ls, T.rep, T.hid, T.ne, T.z, T.new⟩
    refine wpAny_of_eq (a := ()) rfl (wpAny_assign_Name ?_)
    rw [hv]
    refine store_V (k := true) (c := ⟨w, A.over (.forLoop (.Name x px) (.ref I) body [] env) fs, env⟩) G1.fr (.int i' t) (.inl hkx) fun s2 st2 F2 => ?_
    obtain ⟨G2, hs2⟩ := G1.ss st2 F2
    have T2 := T1.keep (s' := s2) (Le.refl g) (fun b o h => .inl h) fun o ho => st2.heap I o (fun q => T.ne ((G1.own I).mp q)) ho
    refine hturn i' n last rest s₀ g s2 hT G2 ((hs.trans hs1).trans hs2) T.ne T.z fun m s₀' g' s' hT' G' hs' hg hn hI => ?_
    exact seg_again rfl (ih (j + 1) m (some i') s₀' g' s' hrest hT' G' (T2.keep hg hn hI) hs')
end
end Mine
end

section
open PySem PySem.W PyProof.Rows PySem.Builtin
set_option Elab.async false
set_option maxRecDepth 100000
set_option linter.all false
namespace Mine
section
variable {w : World} {A A' : Around} {n : Nat} {s₀ s s' sc : Shared} {c c' : Cx} {fs : List Frame} {env : Env} {L I la : Addr} {fl : List Addr} {envs : List Env} {Z : Addr → Prop} {rv : Nat → Int} {fin : Fin3} {g g' : Vw} {ρ ρ' : REnv}
/-- a number is told -/
theorem seg_tell {e : Expr} {ypos pos : Pos} {K : Flow → Sem PySem.Fin} {H : Value → Sem PySem.Fin} {gd : Bool → Bool} {lv : List Value → List Value} {c : Code} {i : Int} (hfs : splitAtGen fs = none) (hgd : gd false = false) (hfg : fs.any Frame.guarded = false)
    (G : GInv ⟨w, A.over c fs, env⟩ ρ sc L Z fl envs g s) (hs : SSx sc L s₀ s) (he : Ev true ⟨w, A.over c fs, env⟩ ρ e (.int i)) (hi : rv n = i)
    (hk : ∀ g' s' s'', (n = 0 → fin ≠ .more) → Step true g s g' s' → Kept Z s' s'' → GInv ⟨w, A.over c fs, env⟩ ρ sc L Z fl envs g' s'' → Seg (model PW w) A (RG fin sc L fl) (YG rv fin Z sc L fl envs) n s'' c (K .next) fs s'')
    (hco : env.scope.isCoroutine = false := by rfl) (hin : interactive env = false := by rfl) :
    Seg (model PW w) A (RG fin sc L fl) (YG rv fin Z sc L fl envs) (n + 1) s₀ c ((exec (.Expr (.Yield (some e) ypos) pos) env).wrap K H gd lv) fs s := by
  refine seg_Expr_Yield hfs hgd hfg (he g s _ _ G.fr.env G.fr.le fun v g' s' st r kap hkap => ?_) hco hin
  obtain ⟨G', hs'⟩ := G.step st
  replace r := r.inv
  cases r with
  | mk t =>
    refine ⟨⟨t, by rw [hi]⟩, hs.trans hs', fun hn s'' hK hF => hkap .none s'' ?_⟩
    exact hk g' s' s'' hn st hK (G'.kept hK hF)

theorem gen_while {kd : Nat} {tp np yp ep : Pos} {v : Int} (hfs : splitAtGen fs = none) (hfg : fs.any Frame.guarded = false) (hm : fin = .more) (hl : env.kindOf "last_interval" = some .local)
    (hco : env.scope.isCoroutine = false) (hin : interactive env = false) :
    ∀ (n : Nat) (s₀ : Shared) (g : Vw) (s : Shared), (∀ j, j ≤ n → rv j = v) → GInv ⟨w, A.over (.whileLoop (.Constant (.bool true) kd tp) [.Expr (.Yield (some (.Name "last_interval" np)) yp) ep] [] env) fs, env⟩ [("last_interval", .int v)] sc L Z fl envs g s → SSx sc L s₀ s →
      Seg (model PW w) A (RG fin sc L fl) (YG rv fin Z sc L fl envs) (n + 1) s₀ (.whileLoop (.Constant (.bool true) kd tp) [.Expr (.Yield (some (.Name "last_interval" np)) yp) ep] [] env) ((model PW w).den (.whileLoop (.Constant (.bool true) kd tp) [.Expr (.Yield (some (.Name "last_interval" np)) yp) ep] [] env)) fs s := by
  intro n
  induction n with
  | zero =>
    intro s₀ g s hv G hs
    refine seg_whileLoop (Tr.plain (k := true) (b := true) Ev.bool rfl g s _ _ G.fr.env G.fr.le fun g1 s1 st1 => ?_)
    obtain ⟨G1, hs1⟩ := G.step st1
    rw [if_pos rfl]
    refine seg_execs_cons (seg_tell hfs rfl hfg G1 (hs.trans hs1) (Ev.loc hl (by rfl)) (hv 0 (Nat.le_refl _)) (fun g' s' s'' hn => absurd hm (hn rfl)) hco hin)
  | succ n ih =>
    intro s₀ g s hv G hs
    refine seg_whileLoop (Tr.plain (k := true) (b := true) Ev.bool rfl g s _ _ G.fr.env G.fr.le fun g1 s1 st1 => ?_)
    obtain ⟨G1, hs1⟩ := G.step st1
    rw [if_pos rfl]
    refine seg_execs_cons (seg_tell hfs rfl hfg G1 (hs.trans hs1) (Ev.loc hl (by rfl)) (hv (n + 1) (Nat.le_refl _)) (fun g' s' s'' hn st hK G2 => ?_) hco hin)
    refine seg_again rfl (ih s'' g' s'' (fun j hj => hv j (by omega)) G2 SSx.refl)

/-- a loop's code is left by the exception -/
theorem seg_noted {c : Code} {R : GenEnd} {Y : Protocol} {e : Addr} {sm : Shared} {fs' : List Addr} (f : FlyB sm fs' false .none e s) (hfr : (A.over c fs).frames = some (env :: envs)) (F : FramesOK sm fs' (env :: envs)) (hf : env.frame = some L)
    (h : ∀ s', FlyB sm fs' true (rawInt L) e s' → Seg (model PW w) A R Y n s₀ c (.raise (.ref e)) fs s') :
    Seg (model PW w) A R Y n s₀ c ((do noteFrame (.ref e) env; theTreesLotGoes (.ref e) : Sem Unit).wrap (fun _ => .raise (.ref e)) .raise id id) fs s :=
  seg_wrap (wpAny_bind (f.note hfr F hf fun s1 f1 => wpAny_theTreesLotGoes (h s1 f1)))
theorem seg_back {c : Code} {R : GenEnd} {Y : Protocol} {e : Addr} {sm : Shared} {fs' : List Addr} {K : Flow → Sem PySem.Fin} {H : Value → Sem PySem.Fin} {gd : Bool → Bool} {lv : List Value → List Value} (f : FlyB sm fs' true (rawInt L) e s) (hfs : ∀ b ∈ fs', sm.heap.get? b ≠ none) (hf : env.frame = some L)
    (h : ∀ s', FlyB sm fs' true (rawInt L) e s' → Seg (model PW w) A R Y n s₀ c (H (.ref e)) fs s') :
    Seg (model PW w) A R Y n s₀ c (backK env K H gd lv (.error (.ref e))) fs s := by
  rw [backK_error]
  refine seg_wrap (wpAny_bind (f.has fun T => ?_))
  rw [if_neg (show ¬ ((Value.ref T == Value.none) = true) from Bool.false_ne_true)]
  refine f.flight hfs fun s' f' => ?_
  rw [hf] at f'
  exact h s' f'
theorem seg_left {c : Code} {R : GenEnd} {Y : Protocol} {e : Addr} {sm : Shared} {fs' : List Addr} (f : FlyB sm fs' true (rawInt L) e s) (hfs : ∀ b ∈ fs', sm.heap.get? b ≠ none) (hf : env.frame = some L)
    (h : ∀ s', FlyB sm fs' true .none e s' → Seg (model PW w) A R Y n s₀ c (.raise (.ref e)) fs s') :
    Seg (model PW w) A R Y n s₀ c ((leaving env (.ref e)).wrap (fun _ => .raise (.ref e)) .raise id id) fs s := by
  refine seg_wrap ?_
  unfold leaving
  exact wpAny_bind (f.same hf (f.flight hfs fun s' f' => h s' f'))

theorem Ev.gint {k : Bool} {x : Str} {i : Int} {pos : Pos} {t : Tok} (hk : c.env.kindOf x = some .globalImplicit) (hv : nsIn (KF c.w) mainGlobals x = some (some (.int i t))) (hd : (x == ("__debug__" : Str)) = false) : Ev k c ρ (.Name x pos) (.int i) := fun g s Q E F L h =>
  ld_glob F L hk hv (h _ g s (Step.refl L) (.int i t)) hd
theorem AtG.room (h : AtG A' env envs) : A'.units + 64 < cLine := by
  have e : cLine = 9900 := by rfl
  have := h.units
  omega
theorem eqv_ne {i j : Int} (h : i ≠ j) : PV.eqv (.int i) (.int j) = false := by
  show (i == j) = false
  simpa using h

theorem Tr.eq_int {k : Bool} {x y : Expr} {pos : Pos} (i j : Int) {b : Bool} (h1 : Ev k c ρ x (.int i)) (h2 : Ev k c ρ y (.int j)) (hb : PV.eqv (.int i) (.int j) = b) (hu : c.A.units + 64 < cLine) (hm : behindInMarks .Eq y = false) : Tr k c ρ (.Compare x [.Eq] [y] pos) b :=
  hb ▸ Tr.cmp h1 h2 (CmpV.eq 0 0 rfl rfl (by omega) (by omega) hu) hm
/-- what the iterator needs of a stretch -/
structure New (I : Addr) (g : Vw) (s : Shared) (g' : Vw) (s' : Shared) : Prop where
  up : Le g g'
  new : ∀ b o, g' b = some o → g b = some o ∨ s.heap.get? b = none
  ex : ∀ b, s.heap.get? b ≠ none → s'.heap.get? b ≠ none
  it : ∀ o, s.heap.get? I = some o → s'.heap.get? I = some o
theorem New.trans {g1 g2 : Vw} {s1 s2 : Shared} (h : New I g s g1 s1) (h' : New I g1 s1 g2 s2) : New I g s g2 s2 where
  up := h.up.trans h'.up
  new := fun b o e => by
    rcases h'.new b o e with q | q
    · exact h.new b o q
    · right
      cases z : s.heap.get? b with
      | none => rfl
      | some o => exact absurd q (h.ex b (by rw [z]; exact fun z => nomatch z))
  ex := fun b e => h'.ex b (h.ex b e)
  it := fun o e => h'.it o (h.it o e)
theorem New.step {k : Bool} (st : Step k g s g' s') : New I g s g' s' := ⟨st.up, st.new, fun b e q => (by
  obtain ⟨o, ho⟩ := Option.ne_none_iff_exists'.mp e
  rw [st.heap b o ho] at q; cases q), fun o e => st.heap I o e⟩
theorem New.ss (G : GInv c ρ sc L Z fl envs g s) (st : SS (Own c) true g s g' s') (F : FrOK c ρ' g' s') (hI : I ≠ L) : New I g s g' s' := ⟨st.up, fun b o e => (st.new b o e).imp id (·.1), fun b e q => (by
  by_cases hb : b = L
  · exact F.has b ((G.own b).mpr hb) q
  · obtain ⟨o, ho⟩ := Option.ne_none_iff_exists'.mp e
    rw [st.heap b o (fun z => hb ((G.own b).mp z)) ho] at q; cases q), fun o e => st.heap I o (fun z => hI ((G.own I).mp z)) e⟩
theorem New.kept (k : Kept Z s s') (hI : ¬ Z I) : New I g s g s' := ⟨Le.refl g, fun b o e => .inl e, k.2, fun o e => k.1 I o hI e⟩

noncomputable abbrev gE (w : World) (L : Addr) : Env := callEnv (FD w 106) L 106
set_option maxHeartbeats 0 in
theorem gen_main : ∃ B, (FD w 106).body = .stmts B ∧ ∀ (A : Around) (envs : List Env) (rv : Nat → Int) (fin : Fin3) (n : Nat) (l : List Int) (sc s : Shared) (g : Vw) (L : Addr) (Z : Addr → Prop) (fl : List Addr), A.handled = none → A.frames = some envs → A.units ≤ 300 → Told rv fin n none l →
    GInv ⟨w, A.over (.func B (gE w L)) [], gE w L⟩ [("grouping", .list (l.map .int))] sc L Z fl envs g s →
    Seg (model PW w) A (RG fin sc L fl) (YG rv fin Z sc L fl envs) n s (.func B (gE w L)) ((model PW w).den (.func B (gE w L))) [] s := by
  refine ⟨_, rfl, fun A envs rv fin n l sc s g L Z fl hh hf hu hT G => ?_⟩
  refine seg_func ?_
  refine seg_execs_cons ?_
  refine seg_Sx (k := true) (Sx.assign Ev.none (.inl (by kernel_rfl)) (by rfl)) G.fr fun g1 s1 st1 F1 => ?_
  obtain ⟨G1, hs1⟩ := G.ss st1 F1
  refine seg_execs_cons ?_
  refine seg_For (by intro _; rfl) (Ev.loc' (k := true) (d := .list (l.map .int)) (by kernel_rfl) (by got_up) (by kernel_rfl) g1 s1 _ _ G1.fr.env G1.fr.le fun v g2 s2 st2 r2 => ?_)
  replace r2 := r2.inv
  cases r2 with
  | @mk a o vs m e1 c1 d1 q =>
  obtain ⟨G2, hs2⟩ := G1.step st2
  have hil : s2.heap.IsList a vs := ⟨o, G2.fr.le _ _ e1, c1, _, d1⟩
  refine wpAny_pyIter_list hil fun p => ?_
  have hI : s2.heap.get? s2.heap.objs.size = none := get_size_none _
  have hIg : g2 s2.heap.objs.size = none := G2.fr.le.none hI
  have hIs : sc.heap.get? s2.heap.objs.size = none := by
    cases z : sc.heap.get? s2.heap.objs.size with
    | none => rfl
    | some o' => exact absurd hI (G2.old _ (by rw [z]; exact fun z => nomatch z))
  have hIL : s2.heap.objs.size ≠ L := fun z => G2.fr.has _ ((G2.own _).mpr z) hI
  have hIZ : ¬ Z s2.heap.objs.size := fun z => (G2.z _ z).2.2 hIs
  obtain ⟨G3, hs3⟩ := G2.step (s' := { s2 with heap := s2.heap.push { cls := .type "list_iterator", data := .fields #[.ref a, .int 0 0] } }) (Step.grow G2.fr.le (push_le _ _) (Rest.own _ _ _))
  have G3' := G3.less (ρ' := [("last_interval", PV.none)]) (by one_place)
  clear G G1 G2 G3
  refine gen_loop (rv := rv) (envs := envs) (Z := Z) (L := L) (sc := sc) (fl := fl) (fin := fin) (l := l) (vs := vs) (la := a) ?h1 (by kernel_rfl) (by kernel_rfl) (by decide +kernel) ?hnext ?hturn l 0 n none s g2 _ rfl hT G3'.at ⟨⟨_, Heap.get?_push_size _ rfl, rfl, rfl⟩, ⟨o, m, e1, c1, d1⟩, q, hIg, hIL, hIZ, hIs⟩ ((hs1.trans hs2).trans hs3)
  case h1 => exact hh
  case hnext =>
    intro s₀ s4 hfin hs4
    refine seg_leaf (.ok .next) ?_
    exact seg_end (.ok (.ret .none)) ⟨rfl, .inl ⟨hfin, rfl, hs4⟩⟩
  case hturn =>
    intro i n last rest s₀ g s hT G hs hIL' hIZ' again
    have hfr : (gE w L).frame = some L := by rfl
    cases hT with
    | char hfin =>
      refine seg_execs_cons (seg_If_t (k := true) (Tr.eq_int 127 127 (by one_item) (Ev.gint (by kernel_rfl) rfl (by kernel_rfl)) (by rfl) (at_for hh hf hu).room (by kernel_rfl)) G.fr fun g1 s1 st1 => ?_)
      obtain ⟨G1, hs1⟩ := G.step st1
      refine seg_execs_cons (seg_Return_none ?_)
      refine seg_leaf (.ok (.ret .none)) ?_
      exact seg_end (.ok (.ret .none)) ⟨rfl, .inl ⟨hfin, rfl, hs.trans hs1⟩⟩
    | refuse hfin =>
      refine seg_execs_cons (seg_If_f (k := true) (Tr.eq_int 0 127 (by one_item) (Ev.gint (by kernel_rfl) rfl (by kernel_rfl)) (by rfl) (at_for hh hf hu).room (by kernel_rfl)) G.fr fun g1 s1 st1 => ?_)
      obtain ⟨G1, hs1⟩ := G.step st1
      refine seg_execs_cons (seg_If_t (k := true) (Tr.eq_int 0 0 (by one_item) Ev.int (by rfl) (at_for hh hf hu).room (by kernel_rfl)) G1.fr fun g2 s2 st2 => ?_)
      obtain ⟨G2, hs2⟩ := G1.step st2
      have G2 : GInv _ [("interval", PV.int 0), ("last_interval", PV.none)] sc L Z fl envs g2 s2 := G2
      have G2' := G2.less (ρ' := [("last_interval", PV.none)]) (by one_place)
      refine seg_execs_cons (seg_If_t (k := true) (Tr.cmp (by one_item) Ev.none CmpV.is_none (by kernel_rfl)) G2'.fr fun g3 s3 st3 => ?_)
      obtain ⟨G3, hs3⟩ := G2'.step st3
      refine seg_execs_cons (seg_Raise (k := true) hh (by one_item) (EvL.cons rfl Ev.str EvL.nil) G3.fr (by decide +kernel) rfl (by rfl) fun g4 s4 h' e vs st4 F4 m => ?_)
      obtain ⟨G4, hs4⟩ := G3.step st4
      have hfl : ∀ b ∈ L :: fl, s4.heap.get? b ≠ Option.none := fun b hb => by
        rcases List.mem_cons.mp hb with rfl | hb
        · exact G4.fr.has _ ((G4.own _).mpr rfl)
        · exact G4.old b (G4.fl b hb).2
      refine seg_noted (L := L) (FlyB.made (fs := L :: fl) m) (at_for hh hf hu).frames (G4.frames hfr) hfr fun s5 f5 => ?_
      refine seg_leaf (.error (.ref e)) ?_
      refine seg_back f5 hfl hfr fun s6 f6 => ?_
      refine seg_left f6 hfl hfr fun s7 f7 => ?_
      refine seg_end (.error (.ref e)) ⟨rfl, .inr ⟨hfin, e, s4, rfl, (((hs.trans hs1).trans hs2).trans hs3).trans hs4, hfl L List.mem_cons_self, f7⟩⟩
    | @again v _ n hfin hrv =>
      refine seg_execs_cons (seg_If_f (k := true) (Tr.eq_int 0 127 (by one_item) (Ev.gint (by kernel_rfl) rfl (by kernel_rfl)) (by rfl) (at_for hh hf hu).room (by kernel_rfl)) G.fr fun g1 s1 st1 => ?_)
      obtain ⟨G1, hs1⟩ := G.step st1
      refine seg_execs_cons (seg_If_t (k := true) (Tr.eq_int 0 0 (by one_item) Ev.int (by rfl) (at_for hh hf hu).room (by kernel_rfl)) G1.fr fun g2 s2 st2 => ?_)
      obtain ⟨G2, hs2⟩ := G1.step st2
      have G2 : GInv _ [("interval", PV.int 0), ("last_interval", PV.int v)] sc L Z fl envs g2 s2 := G2
      have G2' := G2.less (ρ' := [("last_interval", PV.int v)]) (by one_place)
      refine seg_execs_cons (seg_If_f (k := true) (Tr.cmp (by one_item) Ev.none CmpV.is_int (by kernel_rfl)) G2'.fr fun g3 s3 st3 => ?_)
      obtain ⟨G3, hs3⟩ := G2'.step st3
      refine seg_execs_cons (seg_While fun p => ?_)
      exact gen_while (by rfl) (by rfl) hfin (by kernel_rfl) (by kernel_rfl) (by kernel_rfl) n _ g3 s3 hrv G3.at (((hs.trans hs1).trans hs2).trans hs3)
    | @next _ _ _ n h127 h0 hrv hT =>
      refine seg_execs_cons (seg_If_f (k := true) (Tr.eq_int i 127 (by one_item) (Ev.gint (by kernel_rfl) rfl (by kernel_rfl)) (eqv_ne h127) (at_for hh hf hu).room (by kernel_rfl)) G.fr fun g1 s1 st1 => ?_)
      obtain ⟨G1, hs1⟩ := G.step st1
      refine seg_execs_cons (seg_If_f (k := true) (Tr.eq_int i 0 (by one_item) Ev.int (eqv_ne h0) (at_for hh hf hu).room (by kernel_rfl)) G1.fr fun g2 s2 st2 => ?_)
      obtain ⟨G2, hs2⟩ := G1.step st2
      refine seg_execs_cons (seg_tell (i := i) (by rfl) (by rfl) (by rfl) G2 ((hs.trans hs1).trans hs2) (by one_item) hrv (fun g3 s3 s4 _ st3 hK G3 => ?_) (by kernel_rfl) (by kernel_rfl))
      refine seg_execs_cons (seg_Sx (k := true) (Sx.assign (d := .int i) (by one_item) (.inl (by kernel_rfl)) (by rfl)) G3.fr fun g5 s5 st5 F5 => ?_)
      obtain ⟨G5, hs5⟩ := G3.ss st5 F5
      have N := (((New.step st1).trans (New.step st2)).trans (New.step st3)).trans ((New.kept hK hIZ').trans (New.ss G3 st5 F5 hIL'))
      exact again n s4 g5 s5 hT (G5.less (by one_place)) hs5 N.up N.new N.it
end
end Mine
end

section
open PySem PySem.W PyProof.Rows PySem.Builtin
set_option Elab.async false
set_option maxRecDepth 100000
set_option linter.all false
namespace Mine
section
variable {w : World} {A : Around} {E : Value → Shared → Prop} {s sc : Shared} {L : Addr} {fl : List Addr} {fin : Fin3}
theorem ve_not_stop : isSubtype (.type "ValueError") (.type "StopIteration") = pure false := by kernel_rfl
/-- a generator is asked for the next -/
theorem next_gen {a : Addr} {gi n : Nat} {gs : GenState} {Y : Protocol} {Q : Option Value → Shared → Prop} (hh : A.handled = none) (hl : s.heap.NoLimit) (hroom : A.depth < recursionLimit)
    (hg : s.heap.IsGen a gi) (ha : a ≠ L ∧ a ∉ fl ∧ sc.heap.get? a ≠ none) (hgs : s.gens[gi]? = some gs)
    (hgo : gs.Goes (model PW w) A.in1 (RG fin sc L fl) Y n (.send .none) (s.setGen gi .running))
    (hY : ∀ v s₁ gs', gs'.bare = true → Y (n - 1) (s.setGen gi .running) v s₁ (fun r' s'' => match n with
        | 0 => False
        | m + 1 => gs'.Goes (model PW w) A.in1 (RG fin sc L fl) Y m r' s'') → Q (some v) (s₁.setGen gi gs'))
    (hstop : ∀ s₁ h', n = 0 → fin = .stop → SSx sc L (s.setGen gi .running) s₁ → (∀ b o, s₁.heap.get? b = some o → h'.get? b = some o) → Q none { s₁.setGen gi .finished with heap := h' })
    (hraise : ∀ e sm s₁, n = 0 → fin = .refuse → SSx sc L (s.setGen gi .running) sm → sm.heap.get? L ≠ Option.none → FlyB sm (L :: fl) true .none e s₁ → E (.ref e) (s₁.setGen gi .finished)) :
    wpAny (model PW w) A (pyNext (.ref a)) Q E s := by
  unfold pyNext
  refine wpAny_bind (wpAny_attempt (wpAny_callSpecial?_slot (name := Str.ofString "__next__") hg.typeIs slot_gen_next
    (wpAny_call_entry slot_gen_next hg.typeIs entry_gen_next ?_ (args_gen_next _))))
  show wpAny _ A.in1 (Builtin.Generator.genWake (.ref a) (.send .none)) _ _ s
  unfold Builtin.Generator.genWake
  refine wpAny_bind (wpAny_holding (wpAny_genNumber hg (wpAny_bind (wpAny_genState hgs ?_))))
  cases gs with
  | running => exact hgo.elim
  | finished => exact hgo.elim
  | _ =>
    refine wpAny_bind (wpAny_roomToWake hl hroom ?_)
    show wpAny _ A.in1 (.resume gi (.send .none) [] _) _ _ s
    refine wpAny_resumeQ hgs hgo (fun x s₁ hx => ?_) (fun v s₁ gs' hb hv => wpAny_pure ⟨v, rfl, wpAny_pure (hY v s₁ gs' hb hv)⟩)
    rcases hx with ⟨hn, ⟨hfin, rfl, hp⟩ | ⟨hfin, e, sm, rfl, hp, hL, f⟩⟩
    · show wpAny _ A.in1 (newExc (.type "StopIteration") [] >>= _) _ _ _
      refine wpAny_bind ?_
      simp only [newExc, newTuple]
      refine wpAny_bind (wpAny_newObj_type ?_ (by size_fits))
      refine wpAny_bind (m := firstArgMember _ _) (wpAny_of_eq (a := Value.none) (by first | rfl | (simp only [firstArgMember]; rfl)) ?_)
      refine wpAny_newObj_type ?_ (by size_fits)
      simp only [raiseNew]
      refine wpAny_bind (wpAny_bind (wpAny_handled ?_))
      first | rw [show A.in1.handled = none from hh] | rw [hh]
      refine wpAny_throw ?_
      refine wpAny_bind (wpAny_isInstance (T := "StopIteration") (b := true) ⟨_, Heap.get?_push_size _ rfl, rfl⟩ isSubtype_stop ?_)
      exact wpAny_pure (hstop s₁ _ hn hfin hp fun b o hb => Heap.get?_push_of_some _ (Heap.get?_push_of_some _ hb))
    · obtain ⟨vs, he, _⟩ := f.exc
      have hT : (s₁.setGen gi .finished).TypeIs (.ref e) "ValueError" := ⟨_, he, rfl⟩
      show wpAny _ A.in1 (Builtin.Generator.genLeft (.ref a) (.ref e)) _ _ _
      unfold Builtin.Generator.genLeft
      have hno : ∀ {Q' : Bool → Shared → Prop} {E' : Value → Shared → Prop} {A' : Around}, Q' false (s₁.setGen gi .finished) → wpAny (model PW w) A' (isInstance (.ref e) (.type "StopIteration")) Q' E' (s₁.setGen gi .finished) := fun h => wpAny_isInstance (T := "ValueError") (b := false) hT ve_not_stop h
      obtain ⟨o, nm, qn, h1, h2, h3, h4⟩ := id hg
      have ho : (s₁.setGen gi .finished).heap.get? a = some o := f.keep a o (fun q => by
        rcases List.mem_cons.mp q with q | q
        · exact ha.1 q
        · exact ha.2.1 q) (hp.1 a o ha.1 ha.2.2 h1)
      refine wpAny_bind (m := Builtin.Generator.madeByALambda (.ref a)) ?_
      unfold Builtin.Generator.madeByALambda
      refine wpAny_bind (wpAny_load ho (wpAny_pure ?_))
      refine wpAny_bind (m := isInstance _ _) (hno ?_)
      rw [if_neg (by rw [Bool.and_false]; exact Bool.false_ne_true)]
      show wpAny _ A.in1 (Builtin.Generator.genEscaped (.ref e)) _ _ _
      unfold Builtin.Generator.genEscaped
      refine wpAny_bind (m := isInstance _ _) (hno ?_)
      rw [if_pos (by rfl)]
      refine wpAny_bind (wpAny_throw ?_)
      dsimp only
      refine wpAny_bind (m := isInstance _ _) (hno ?_)
      rw [if_neg Bool.false_ne_true]
      exact wpAny_throw (hraise e sm s₁ hn hfin hp hL f)
end
end Mine
end

section
open PySem PySem.W PyProof.Rows PySem.Builtin
set_option Elab.async false
set_option maxRecDepth 100000
set_option linter.all false
namespace Mine
section
variable {w : World} {A : Around} {s sc : Shared} {L : Addr} {fl : List Addr} {fin : Fin3} {g : Vw}
/-- what a call of the generator function leaves -/
structure GenMade (w : World) (B : List Stmt) (g : Vw) (l : List Int) (s : Shared) (L G : Addr) (s' : Shared) : Prop where
  le : Le s.heap.get? s'.heap.get?
  gens : s'.gens = s.gens.push (.fresh (.func B (gE w L)))
  os : s'.os = s.os
  gen : s'.heap.IsGen G s.gens.size
  newL : s.heap.get? L = none
  newG : s.heap.get? G = none
  ne : G ≠ L
  fr : ∀ A', FrOK ⟨w, A', gE w L⟩ [("grouping", .list (l.map .int))] g s'
set_option maxHeartbeats 0 in
theorem call_gen {l : List Int} {v : Value} {Q : Value → Shared → Prop} {E : Value → Shared → Prop} {B : List Stmt} (hB : (FD w 106).body = .stmts B) (hroom : A.depth < recursionLimit) (Bs : Base w g) (Lg : Le g s.heap.get?) (r : Rep w.params g v (.list (l.map .int)))
    (h : ∀ L G s', GenMade w B g l s L G s' → Q (.ref G) s') : wpAny (model PW w) A (call (.ref 106) [v]) Q E s := by
  have hob : (KF w).lookup 106 = some (OB w 106) := by kernel_rfl
  have hfd : (OB w 106).data = .func (FD w 106) := by kernel_rfl
  have hlim : s.heap.NoLimit := Bs.nolimit Lg
  have hcd : s.heap.CodeRec (FD w 106).code (FD w 106).qualname := by
    have hc : (FD w 106).code = .ref 105 := by kernel_rfl
    have hcob : (KF w).lookup 105 = some (OB w 105) := by kernel_rfl
    have hn : ∃ vs t, (OB w 105).data = .fields vs ∧ vs[1]? = some (.str (FD w 106).qualname t) := ⟨_, _, rfl, rfl⟩
    obtain ⟨vs', t, h1, h2⟩ := hn
    exact ⟨105, OB w 105, vs', t, hc, Bs.kin Lg _ _ hcob, h1, h2⟩
  have hclo : (FD w 106).closure = [] := by kernel_rfl
  have hkind : (FD w 106).scope.kind = .function := by kernel_rfl
  have hcell : ∀ x ∈ (FD w 106).scope.names, x.2 ≠ .cell := by
    have : ((FD w 106).scope.names.all fun x => decide (x.2 ≠ .cell)) = true := by kernel_rfl
    intro x hx
    exact of_decide_eq_true (List.all_eq_true.mp this x hx)
  have hbind : bindArgs (FD w 106) ⟨[v], []⟩ = pure [(("grouping" : Str), v)] := by kernel_rfl
  have hco : (FD w 106).scope.isCoroutine = false := by kernel_rfl
  have hgn : (FD w 106).scope.isGenerator = true := by kernel_rfl
  refine wpAny_call (codeAny_call_generator hroom (Bs.kin Lg _ _ hob) hfd hco hgn hB hcd ?_)
  refine wpAny_of_eq hbind ?_
  refine wpAny_newFunctionEnv hcell (fun x hx => by rw [List.mem_singleton] at hx; subst hx; kernel_rfl) (fun h' hn hsb => ?_) hkind
  have keep : Le s.heap.get? h'.get? := fun b o e => hsb.extBut b o (Nat.ne_of_lt (Heap.lt_size e)) (Heap.get?_push_of_some _ e)
  have hL : s.heap.get? s.heap.objs.size = none := get_size_none _
  have hLh : ∃ o, h'.get? s.heap.objs.size = some o := let ⟨o, _, _, ho, _⟩ := hn; ⟨o, ho⟩
  have hG : h'.get? h'.objs.size = none := get_size_none _
  refine ⟨hlim.keeps keep, ?_⟩
  refine h s.heap.objs.size h'.objs.size _ ⟨fun b o e => Heap.get?_push_of_some _ (keep b o e), rfl, rfl, ⟨_, _, _, Heap.get?_push_size _ rfl, rfl, rfl, rfl⟩, hL, ?_, fun q => ?_, fun A' => ?_⟩
  · cases q : s.heap.get? h'.objs.size with
    | none => rfl
    | some o => have := keep _ _ q; rw [hG] at this; cases this
  · obtain ⟨o, ho⟩ := hLh
    rw [← q, hG] at ho; cases ho
  · refine ⟨⟨Bs, hkind, by kernel_rfl, by kernel_rfl, ⟨_, hn.push _, fun x d hx hd => ?_⟩, fun x d hx hd => ?_⟩, fun b o e => Heap.get?_push_of_some _ (keep b o (Lg b o e)), fun b hb => ?_, fun x a hx => ?_, ?_⟩
    · have hx' : x = "grouping" ∧ d = .list (l.map .int) := by
        rw [List.lookup_cons] at hd
        cases q : x == ("grouping" : Str) with
        | true => rw [q] at hd; cases hd; exact ⟨eq_of_beq q, rfl⟩
        | false => rw [q] at hd; cases hd
      obtain ⟨rfl, rfl⟩ := hx'
      exact ⟨v, by rfl, r⟩
    · exfalso
      have hc : (gE w s.heap.objs.size).cells = [] := hclo
      have hx2 : x = "grouping" := by
        rw [List.lookup_cons] at hd
        cases q : x == ("grouping" : Str) with
        | true => exact eq_of_beq q
        | false => rw [q] at hd; cases hd
      subst hx2
      have : (gE w s.heap.objs.size).kindOf "grouping" = some .local := by kernel_rfl
      have hx : (gE w s.heap.objs.size).kindOf "grouping" = some .cell ∨ (gE w s.heap.objs.size).kindOf "grouping" = some .free := hx
      rw [this] at hx
      rcases hx with hx | hx <;> cases hx
    · rcases hb with rfl | ⟨x, hx⟩
      · exact Lg.none hL
      · have hc : (gE w s.heap.objs.size).cells = [] := hclo
        have hx : (gE w s.heap.objs.size).cells.lookup x = some b := hx
        rw [hc] at hx; cases hx
    · have hc : (gE w s.heap.objs.size).cells = [] := hclo
      have hx : (gE w s.heap.objs.size).cells.lookup x = some a := hx
      rw [hc] at hx; cases hx
    · have hc : (gE w s.heap.objs.size).cells = [] := hclo
      show (gE w s.heap.objs.size).cells.Pairwise _
      rw [hc]; exact List.Pairwise.nil
end
end Mine
end

section
open PySem PySem.W PyProof.Rows PySem.Builtin
set_option Elab.async false
set_option maxRecDepth 100000
set_option linter.all false
namespace Mine
/-- a list in the making -/
noncomputable def LRep (w : World) (g : Vw) (h : Heap) (D : Addr) (ds : List PV) : Prop := ∃ ys, h.PlainList D ys ∧ RepL w.params g ys.toList ds
section
variable {k : Bool} {w : World} {c : Cx} {ρ ρ' : REnv} {g g' : Vw} {s s' : Shared} {D : Addr} {ds : List PV} {d : PV}
theorem LRep.has {h : Heap} (x : LRep w g h D ds) : h.get? D ≠ none := by
  obtain ⟨ys, ⟨n, hy⟩, _⟩ := x
  rw [hy]; exact fun q => nomatch q
theorem LRep.keep {h h' : Heap} (x : LRep w g h D ds) (up : Le g g') (k : ∀ o, h.get? D = some o → h'.get? D = some o) : LRep w g' h' D ds :=
  let ⟨ys, hy, r⟩ := x; ⟨ys, hy.at k, r.mono up⟩
theorem LRep.step (x : LRep w g s.heap D ds) (st : Step k g s g' s') : LRep w g' s'.heap D ds := x.keep st.up fun o e => st.heap D o e

theorem new_list {x : Str} {px lp pos : Pos} {Q : Flow → Shared → Prop} {E : Value → Shared → Prop} (F : FrOK c ρ g s) (hk : CanStore c x) (hs : swapsWith (.List [] lp) (some (.Name x px)) pos.line c.env = pure false)
    (h : ∀ D s', SS (Own c) k g s g s' → s.heap.get? D = none → ¬ Own c D → g D = none → FrOK c ((x, .hid D) :: ρ) g s' → LRep c.w g s'.heap D [] → Q .next s') : Wp c (exec (.Assign [.Name x px] (.List [] lp) pos) c.env) Q E s := by
  refine wpAny_Assign_Name (List_ (args_nil ?_)) hs
  refine wpAny_newObj_type ?_ (by size_fits)
  have hD : s.heap.get? s.heap.objs.size = none := get_size_none _
  have st : Step k g s g { s with heap := s.heap.push { cls := .type "list", data := .seq ([] : List Value).toArray } } := Step.grow F.le (push_le _ _) (Rest.same _ _ _ s.toks)
  have hO : ¬ Own c s.heap.objs.size := fun q => F.has _ q hD
  refine store_V (k := k) (F.step st) (.hid s.heap.objs.size) hk fun s2 st2 F2 => ?_
  refine h s.heap.objs.size s2 ((F.ss st).trans st2) hD hO (F.le.none hD) F2 ⟨#[], ⟨_, st2.heap _ _ hO (Heap.get?_push_size _ rfl)⟩, .nil⟩

theorem append_stmt {o e : Expr} {apos cpos pos : Pos} {Q : Flow → Shared → Prop} {E : Value → Shared → Prop} (ho : Ev k c ρ o (.hid D)) (he : Ev k c ρ e d) (F : FrOK c ρ g s) (hd : LRep c.w g s.heap D ds) (hD : ¬ Own c D) (hg : g D = none) (hsz : ds.length ≤ sizeLine)
    (hbase : attributeBase o "append" c.env (eval o c.env) = eval o c.env)
    (hfew : ((backTo cpos (starEach [e] c.env)).all (fun x => !x.1) && (backToKw cpos (keywordEach [] c.env)).all (fun x => x.1.isSome)
      && decide (([e] : List Expr).length + ([] : List Keyword).length + (if ([] : List Keyword).isEmpty then 0 else 1) < 30)) = true)
    (hline : (apos.endLine == cpos.line) = true) (htrees : backTo cpos (starEach [e] c.env) = [(false, eval e c.env)]) (hi : interactive c.env = false) (hs : swapsWith (.Call (.Attribute o "append" apos) [e] [] cpos) Option.none pos.line c.env = pure false)
    (h : ∀ g' s', SS (fun b => Own c b ∨ b = D) k g s g' s' → FrOK c ρ g' s' → LRep c.w g' s'.heap D (ds ++ [d]) → g' D = none → Q .next s') :
    Wp c (exec (.Expr (.Call (.Attribute o "append" apos) [e] [] cpos) pos) c.env) Q E s := by
  refine wpAny_Expr (wpAny_Call_append hbase hfew hline htrees (ho g s _ E F.env F.le fun v g1 s1 st1 r1 => ?_)) hi hs
  replace r1 := r1.inv
  cases r1
  have hd1 := hd.step st1
  obtain ⟨ys, ⟨n, hy⟩, ry⟩ := hd1
  refine ⟨D, ys, rfl, ⟨_, n, hy, rfl, rfl, rfl⟩, he g1 s1 _ E (F.step st1).env (F.step st1).le fun y g2 s2 st2 r2 => ?_⟩
  have st := st1.trans st2
  have hy2 : s2.heap.PlainList D ys := ⟨n, st2.heap _ _ hy⟩
  have hg2 : g2 D = none := st.hides hg hd.has
  have hsz' : ys.size ≤ sizeLine := by rw [ry.size]; exact hsz
  refine wpAny_list_append_plain (hsz := hsz') hy2 fun h' hl' hs' => ?_
  · refine h g2 _ ((F.ssD st hd.has).trans (SS.dset st.sub hs' hg2)) ((F.step st).dset hs' hD hg2) ⟨ys.push y, hl', ?_⟩ hg2
    have := (ry.mono st2.up).append (RepL.cons r2 .nil)
    simpa using this
/-- the list is handed out -/
theorem LRep.out {X : Addr → Prop} (x : LRep w g s.heap D ds) (hg : g D = none) : ∃ o, s.heap.get? D = some o ∧ Rep w.params (put g D o) (.ref D) (.list ds) := by
  obtain ⟨ys, ⟨n, hy⟩, ry⟩ := x
  exact ⟨_, hy, .list (put_self _ _ _) rfl rfl (ry.mono (put_le hg))⟩

/-- values without things on the heap -/
noncomputable def Flat (d : PV) : Prop :=
  PV.rec (motive_1 := fun _ => Prop) (motive_2 := fun _ => Unit) (motive_3 := fun _ => Unit) (motive_4 := fun _ => Unit) True (fun _ => True) (fun _ => True) (fun _ => True) (fun _ _ => False) (fun _ _ => False) (fun _ _ => False) (fun _ _ _ => False) (fun _ _ => False) (fun _ _ => False) (fun _ => True) (fun _ _ => False) (fun _ => True)
    () (fun _ _ _ _ => ()) () (fun _ _ _ _ => ()) (fun _ _ _ => ()) d
theorem Rep.flat {P : Params} {g g' : Vw} {v : Value} {d : PV} (r : Rep P g v d) (h : Flat d) : Rep P g' v d :=
  Rep.casesOn (motive_1 := fun v d _ => Flat d → Rep P g' v d) r (fun _ => .none) (fun b _ => .bool b) (fun i t _ => .int i t) (fun s t _ => .str s t) (fun _ _ _ _ h => False.elim h) (fun _ _ _ _ h => False.elim h) (fun _ _ _ h => False.elim h) (fun _ _ _ _ h => False.elim h) (fun _ h => False.elim h) (fun _ _ _ _ h => False.elim h)
    (fun T _ => .ty T) (fun _ _ _ h => False.elim h) (fun a _ => .hid a) h
theorem FrOK.back (F : FrOK c ρ g' s) (up : Le g g') (B : Base c.w g) (h : ∀ x d, ρ.lookup x = some d → Flat d) : FrOK c ρ g s where
  env := { base := B, fn := F.env.fn, gl := F.env.gl, bn := F.env.bn,
           loc := let ⟨m, n, f⟩ := F.env.loc; ⟨m, n, fun x d hx hd => let ⟨v, hv, r⟩ := f x d hx hd; ⟨v, hv, r.flat (h x d hd)⟩⟩,
           cel := fun x d hx hd => let ⟨a, v, h1, h2, r⟩ := F.env.cel x d hx hd; ⟨a, v, h1, h2, r.flat (h x d hd)⟩ }
  le := up.trans F.le
  hid := fun b hb => by
    cases q : g b with
    | none => rfl
    | some o => have := up b o q; rw [F.hid b hb] at this; cases this
  cell := F.cell
  apart := F.apart
theorem LRep.back {h : Heap} (x : LRep w g' h D ds) (hf : ∀ d ∈ ds, Flat d) : LRep w g h D ds := by
  obtain ⟨ys, hy, r⟩ := x
  refine ⟨ys, hy, ?_⟩
  generalize ys.toList = vs at r
  induction r using RepL.rec (motive_1 := fun _ _ _ => True) (motive_3 := fun _ _ _ => True) with
  | nil => exact .nil
  | cons r rs _ ih => exact .cons (r.flat (hf _ List.mem_cons_self)) (ih fun d hd => hf d (List.mem_cons_of_mem _ hd))
  | _ => trivial
end
end Mine
end

section
open PySem PySem.W PyProof.Rows PySem.Builtin
set_option Elab.async false
set_option maxRecDepth 100000
set_option linter.all false
namespace Mine
theorem bare_set {gens : Array GenState} {gi : Nat} {gs : GenState} (h : AllBare gens) (hg : gs.bare = true) : AllBare (gens.setIfInBounds gi gs) := fun y hy => by
  obtain ⟨i, hi, rfl⟩ := Array.mem_iff_getElem.mp hy
  rw [Array.getElem_setIfInBounds] 
  · split
    · exact hg
    · exact h _ (Array.getElem_mem _)
  · simpa using hi
section
variable {w : World} {c : Cx} {ρ ρ' : REnv} {g gb g' g2 : Vw} {s t t2 sc : Shared} {D L G : Addr} {gi n : Nat} {ds ds' : List PV} {fs : List Addr} {outer : List Env} {rv : Nat → Int} {fin : Fin3} {X : Addr → Prop} {k : Bool}
theorem SS.more (T : SS X k g s gb t) (hk : ∀ b o, ¬ X b → s.heap.get? b ≠ none → t.heap.get? b = some o → t2.heap.get? b = some o) (up : Le gb g') (sub : Le g' t2.heap.get?) (new : ∀ b o, g' b = some o → gb b = some o ∨ (s.heap.get? b = none ∧ ¬ X b)) (r : Rest k t t2) : SS X k g s g' t2 where
  heap := fun b o hb e => hk b o hb (by rw [e]; exact fun q => nomatch q) (T.heap b o hb e)
  up := T.up.trans up
  sub := sub
  new := fun b o e => by
    rcases new b o e with q | q
    · exact T.new b o q
    · exact .inr q
  rest := T.rest.trans r

theorem gen_at {h h' : Heap} {a : Addr} {i : Nat} (x : h.IsGen a i) (k : ∀ o, h.get? a = some o → h'.get? a = some o) : h'.IsGen a i := let ⟨o, p, q, e, r⟩ := x; ⟨o, p, q, k o e, r⟩
/-- what stays so while the sizes are told -/
structure CC (c : Cx) (fs : List Addr) (g : Vw) (s : Shared) (gb : Vw) (sc : Shared) (D L G : Addr) : Prop where
  own : ∀ b, Own c b → sc.heap.get? b ≠ none
  old : ∀ b, s.heap.get? b ≠ none → sc.heap.get? b ≠ none
  base : Base c.w gb
  vis : ∀ b o, gb b = some o → sc.heap.get? b ≠ none
  Ls : s.heap.get? L = none
  Ln : gb L = none
  Lo : ¬ Own c L
  Ds : s.heap.get? D = none
  Dn : gb D = none
  Do : ¬ Own c D
  Dc : sc.heap.get? D ≠ none
  DL : D ≠ L
  Gc : sc.heap.get? G ≠ none
  GL : G ≠ L
  Go : ¬ Own c G
  GD : G ≠ D
  Gs : s.heap.get? G = none
  fl : ∀ b ∈ fs, s.heap.get? b ≠ none ∧ gb b = none ∧ ¬ Own c b
noncomputable abbrev ZZ (c : Cx) (D : Addr) (b : Addr) : Prop := Own c b ∨ b = D
structure CI (c : Cx) (fs : List Addr) (outer : List Env) (g : Vw) (s : Shared) (gb : Vw) (sc : Shared) (D L G : Addr) (gi : Nat) (rv : Nat → Int) (fin : Fin3) (ρ : REnv) (ds : List PV) (n : Nat) (t : Shared) : Prop where
  T : SS (XF c fs) false g s gb t
  tur : Turned fs s t
  F : FrOK c ρ gb t
  dl : LRep c.w gb t.heap D ds
  gen : t.heap.IsGen G gi
  go : ∃ gs, t.gens[gi]? = some gs ∧ ((n = 0 → fin ≠ .more) → ∀ t', Kept (ZZ c D) t t' → FramesOK t' (c.env.locals :: fs) (c.env :: outer) →
    gs.Goes (model PW c.w) c.A.in1 (RG fin sc L (c.env.locals :: fs)) (YG rv fin (ZZ c D) sc L (c.env.locals :: fs) (c.env :: outer)) n (.send .none) t')
variable (C : CC c fs g s gb sc D L G) (I : CI c fs outer g s gb sc D L G gi rv fin ρ ds n t)
theorem Kept.trans {Z : Addr → Prop} {a b d : Shared} (h : Kept Z a b) (h' : Kept Z b d) : Kept Z a d := ⟨fun x o hx e => h'.1 x o hx (h.1 x o hx e), fun x e => h'.2 x (h.2 x e)⟩
theorem Kept.refl {Z : Addr → Prop} {a : Shared} : Kept Z a a := ⟨fun _ _ _ e => e, fun _ e => e⟩
include C I in
theorem CI.has (b : Addr) (h : s.heap.get? b ≠ none) : t.heap.get? b ≠ none := by
  obtain ⟨o, ho⟩ := Option.ne_none_iff_exists'.mp h
  by_cases hb : XF c fs b
  · rcases hb with hb | hb
    · exact I.F.has b hb
    · obtain ⟨sl, h1⟩ := I.tur b hb o ho
      rw [h1]; exact fun q => nomatch q
  · rw [I.T.heap b o hb ho]; exact fun q => nomatch q
/-- the consumer's own stretch -/
theorem CI.own (C : CC c fs g s gb sc D L G) (I : CI c fs outer g s gb sc D L G gi rv fin ρ ds n t) (st : SS (ZZ c D) true gb t g2 t2) (F : FrOK c ρ' g2 t2) (hD : LRep c.w g2 t2.heap D ds') (hf : ∀ x d, ρ'.lookup x = some d → Flat d) (hd : ∀ d ∈ ds', Flat d) :
    CI c fs outer g s gb sc D L G gi rv fin ρ' ds' n t2 := by
  have hns : ∀ b, s.heap.get? b ≠ none → b ≠ D := fun b hb q => hb (q ▸ C.Ds)
  have sub : Le gb t2.heap.get? := st.up.trans st.sub
  have hr : Rest false t t2 := st.rest.any
  have hK : Kept (ZZ c D) t t2 := ⟨fun b o hb e => st.heap b o hb e, fun b hb q => by
    by_cases hz : ZZ c D b
    · rcases hz with hz | hz
      · exact F.has b hz q
      · subst hz; exact hD.has q
    · obtain ⟨o, ho⟩ := Option.ne_none_iff_exists'.mp hb
      rw [st.heap b o hz ho] at q; cases q⟩
  refine ⟨I.T.more (fun b o hb hs e => st.heap b o (fun q => ?_) e) (Le.refl _) sub (fun b o e => .inl e) hr, I.tur.trans (Turned.of st fun b hb q => ?_), F.back st.up C.base hf, hD.back hd, ?_, ?_⟩
  · rcases q with q | q
    · exact hb (.inl q)
    · exact hns b hs q
  · rcases q with q | q
    · exact (C.fl b hb).2.2 q
    · exact hns b (C.fl b hb).1 q
  · exact gen_at I.gen fun o e => st.heap G o (fun q => by
      rcases q with q | q
      · exact C.Go q
      · exact C.GD q) e
  · obtain ⟨gs, h1, h2⟩ := I.go
    have hgens : t2.gens = t.gens := by
      have := st.rest.2
      rw [if_pos rfl] at this
      exact this.1
    exact ⟨gs, by rw [hgens]; exact h1, fun hn t' hK' hF => h2 hn t' (hK.trans hK') hF⟩
/-- the generator's stretch -/
theorem CI.told (C : CC c fs g s gb sc D L G) (I : CI c fs outer g s gb sc D L G gi rv fin ρ ds (n + 1) t) {v : Value} {s1 : Shared} {gs' : GenState} (hb : gs'.bare = true)
    (hY : YG rv fin (ZZ c D) sc L (c.env.locals :: fs) (c.env :: outer) n (t.setGen gi .running) v s1 (fun r' s'' => gs'.Goes (model PW c.w) c.A.in1 (RG fin sc L (c.env.locals :: fs)) (YG rv fin (ZZ c D) sc L (c.env.locals :: fs) (c.env :: outer)) n r' s'')) :
    CI c fs outer g s gb sc D L G gi rv fin ρ ds n (s1.setGen gi gs') := by
  obtain ⟨_, hS, hk⟩ := hY
  have hkeep : ∀ b o, b ≠ L → sc.heap.get? b ≠ none → t.heap.get? b = some o → s1.heap.get? b = some o := fun b o h1 h2 e => hS.1 b o h1 h2 e
  have hr : Rest false t (s1.setGen gi gs') := by
    refine ⟨hS.2.1, ?_⟩
    rw [if_neg (by simp)]
    intro hA
    have h2 := hS.2.2
    rw [if_pos rfl] at h2
    show AllBare (s1.gens.setIfInBounds gi gs')
    rw [h2.1]
    exact bare_set (bare_set hA (by rfl)) hb
  have sub : Le gb (s1.setGen gi gs').heap.get? := fun b o e => hkeep b o (fun q => by rw [q, C.Ln] at e; cases e) (C.vis b o e) (I.F.le b o e)
  refine ⟨I.T.more (fun b o hb hs e => hkeep b o (fun q => hs (q ▸ C.Ls)) (C.old b hs) e) (Le.refl _) sub (fun b o e => .inl e) hr, I.tur.trans fun b hb o e => ⟨o.slots, hkeep b o (fun q => (C.fl b hb).1 (q ▸ C.Ls)) (C.old b (C.fl b hb).1) e⟩, ?_, ?_, ?_, ?_⟩
  · refine I.F.keep (Z := fun b => b = L ∨ sc.heap.get? b = none) (fun b o hz e => hkeep b o (fun q => hz (.inl q)) (fun q => hz (.inr q)) e) fun b hb => ?_
    rcases hb with hb | hb
    · exact hb ▸ ⟨C.Ln, C.Lo⟩
    · refine ⟨?_, fun q => C.own b q hb⟩
      cases q : gb b with
      | none => rfl
      | some o => exact absurd hb (C.vis b o q)
  · exact I.dl.keep (Le.refl _) fun o e => hkeep D o C.DL C.Dc e
  · exact gen_at I.gen fun o e => hkeep G o C.GL C.Gc e
  · obtain ⟨gs, h1, _⟩ := I.go
    have h2 := hS.2.2
    rw [if_pos rfl] at h2
    refine ⟨gs', ?_, fun hn t' hK hF => hk hn t' hK hF⟩
    refine setGen_self (gs := .running) ?_
    rw [h2.1]
    exact setGen_self h1
/-- the generator's end -/
theorem CI.stop (C : CC c fs g s gb sc D L G) (I : CI c fs outer g s gb sc D L G gi rv fin ρ ds n t) {s1 : Shared} {h' : Heap} (hS : SSx sc L (t.setGen gi .running) s1) (hh : ∀ b o, s1.heap.get? b = some o → h'.get? b = some o) :
    SS (XF c fs) false g s gb { s1.setGen gi .finished with heap := h' } ∧ Turned fs s { s1.setGen gi .finished with heap := h' } ∧ FrOK c ρ gb { s1.setGen gi .finished with heap := h' } ∧ LRep c.w gb h' D ds := by
  have hkeep : ∀ b o, b ≠ L → sc.heap.get? b ≠ none → t.heap.get? b = some o → h'.get? b = some o := fun b o h1 h2 e => hh b o (hS.1 b o h1 h2 e)
  have hr : Rest false t { s1.setGen gi .finished with heap := h' } := by
    refine ⟨hS.2.1, ?_⟩
    rw [if_neg (by simp)]
    intro hA
    have h2 := hS.2.2
    rw [if_pos rfl] at h2
    show AllBare (s1.gens.setIfInBounds gi .finished)
    rw [h2.1]
    exact bare_set (bare_set hA (by rfl)) (by rfl)
  have sub : Le gb h'.get? := fun b o e => hkeep b o (fun q => by rw [q, C.Ln] at e; cases e) (C.vis b o e) (I.F.le b o e)
  refine ⟨I.T.more (fun b o hb hs e => hkeep b o (fun q => hs (q ▸ C.Ls)) (C.old b hs) e) (Le.refl _) sub (fun b o e => .inl e) hr, I.tur.trans fun b hb o e => ⟨o.slots, hkeep b o (fun q => (C.fl b hb).1 (q ▸ C.Ls)) (C.old b (C.fl b hb).1) e⟩, ?_, ?_⟩
  · refine I.F.keep (Z := fun b => b = L ∨ sc.heap.get? b = none) (fun b o hz e => hkeep b o (fun q => hz (.inl q)) (fun q => hz (.inr q)) e) fun b hb => ?_
    rcases hb with hb | hb
    · exact hb ▸ ⟨C.Ln, C.Lo⟩
    · refine ⟨?_, fun q => C.own b q hb⟩
      cases q : gb b with
      | none => rfl
      | some o => exact absurd hb (C.vis b o q)
  · exact I.dl.keep (Le.refl _) fun o e => hkeep D o C.DL C.Dc e
theorem FlyB.setGen {sm s1 : Shared} {fs' : List Addr} {tb : Bool} {v : Value} {e : Addr} {x : GenState} (f : FlyB sm fs' tb v e s1) : FlyB (sm.setGen gi x) fs' tb v e (s1.setGen gi x) := ⟨f.keep, f.slots, f.fresh, f.exc, by
  refine ⟨f.rest.1, ?_⟩
  have h := f.rest.2
  rw [if_pos rfl] at h ⊢
  exact ⟨by show s1.gens.setIfInBounds gi x = sm.gens.setIfInBounds gi x; rw [h.1], h.2⟩⟩
/-- the generator raises -/
theorem CI.raise (C : CC c fs g s gb sc D L G) (I : CI c fs outer g s gb sc D L G gi rv fin ρ ds n t) (hc : c.env.cells = []) (O : FramesOK t (c.env.locals :: fs) (c.env :: outer)) {s1 sm : Shared} {tb : Bool} {v : Value} {e : Addr} (hS : SSx sc L (t.setGen gi .running) sm) (f : FlyB (sm.setGen gi .finished) (L :: c.env.locals :: fs) tb v e s1) :
    SS (XF c fs) false g s gb s1 ∧ Turned fs s s1 ∧ FrOK c ρ gb s1 ∧ LRep c.w gb s1.heap D ds := by
  have hk1 : ∀ b o, b ≠ L → sc.heap.get? b ≠ none → t.heap.get? b = some o → sm.heap.get? b = some o := fun b o h1 h2 e => hS.1 b o h1 h2 e
  have hkeep : ∀ b o, b ≠ L → ¬ XF c fs b → sc.heap.get? b ≠ none → t.heap.get? b = some o → s1.heap.get? b = some o := fun b o h1 h0 h2 e => f.keep b o (fun q => by
    rcases List.mem_cons.mp q with q | q
    · exact h1 q
    · rcases List.mem_cons.mp q with q | q
      · exact h0 (.inl (.inl q))
      · exact h0 (.inr q)) (hk1 b o h1 h2 e)
  have hr : Rest false t s1 := by
    refine ⟨f.rest.1.trans (show sm.os = t.os from hS.2.1), ?_⟩
    rw [if_neg (by simp)]
    intro hA
    have h2 := hS.2.2
    have h3 := f.rest.2
    rw [if_pos rfl] at h2 h3
    rw [h3.1]
    show AllBare (sm.gens.setIfInBounds gi .finished)
    rw [h2.1]
    exact bare_set (bare_set hA (by rfl)) (by rfl)
  have visX : ∀ b o, gb b = some o → ¬ XF c fs b := fun b o e q => by
    rcases q with q | q
    · rw [I.F.hid b q] at e; cases e
    · rw [(C.fl b q).2.1] at e; cases e
  have sub : Le gb s1.heap.get? := fun b o e => hkeep b o (fun q => by rw [q, C.Ln] at e; cases e) (visX b o e) (C.vis b o e) (I.F.le b o e)
  have hsl : ∀ b, b = c.env.locals ∨ b ∈ fs → ∀ o, t.heap.get? b = some o → ∃ sl, s1.heap.get? b = some { o with slots := sl } := fun b hb o e => by
    have hbL : b ≠ L := fun q => by
      rcases hb with hb | hb
      · exact C.Lo (q ▸ .inl hb)
      · exact (C.fl b hb).1 (q ▸ C.Ls)
    have hbs : sc.heap.get? b ≠ none := by
      rcases hb with hb | hb
      · exact C.own b (.inl hb)
      · exact C.old b (C.fl b hb).1
    exact f.slots b (List.mem_cons_of_mem _ (by rcases hb with hb | hb; exact hb ▸ List.mem_cons_self; exact List.mem_cons_of_mem _ hb)) o (hk1 b o hbL hbs e)
  refine ⟨I.T.more (fun b o hb hs e => hkeep b o (fun q => hs (q ▸ C.Ls)) hb (C.old b hs) e) (Le.refl _) sub (fun b o e => .inl e) hr, I.tur.trans fun b hb o e => hsl b (.inr hb) o e, ?_, ?_⟩
  · refine ⟨{ base := I.F.env.base, fn := I.F.env.fn, gl := I.F.env.gl, bn := I.F.env.bn, loc := ?_, cel := fun x d hx hd => ?_ }, sub, I.F.hid, fun x a hx => (by rw [hc] at hx; cases hx), I.F.apart⟩
    · obtain ⟨m, ⟨o, es, ep, ho, hd, r⟩, hm⟩ := I.F.env.loc
      obtain ⟨sl, h1⟩ := hsl _ (.inl rfl) o ho
      exact ⟨m, ⟨_, es, ep, h1, hd, r⟩, hm⟩
    · obtain ⟨a, v', h1, _⟩ := I.F.env.cel x d hx hd
      rw [hc] at h1; cases h1
  · exact I.dl.keep (Le.refl _) fun o e => hkeep D o C.DL (fun q => by
      rcases q with q | q
      · exact C.Do q
      · exact (C.fl D q).1 C.Ds) C.Dc e
end
end Mine
end

section
open PySem PySem.W PyProof.Rows PySem.Builtin
set_option Elab.async false
set_option maxRecDepth 100000
set_option linter.all false
namespace Mine
noncomputable abbrev refusedL : List Nat := [114, 101, 102, 117, 115, 101, 100]
/-- what _law_cut makes of the numbers told -/
inductive CutTo (rv : Nat → Int) (fin : Fin3) : Nat → List Nat → List (List Nat) → List (List Nat) → Prop
  | stop {x : List Nat} {ps : List (List Nat)} : fin = .stop → CutTo rv fin 0 x ps (ps ++ [x])
  | refuse {x : List Nat} {ps : List (List Nat)} : fin = .refuse → CutTo rv fin 0 x ps (ps ++ [x, refusedL])
  | last {n : Nat} {x : List Nat} {ps : List (List Nat)} {z : Nat} : rv n = (z : Int) → (z = 2 ∨ z = 3 ∨ z = 4) → x.drop z = [] → CutTo rv fin (n + 1) x ps (ps ++ [x.take z])
  | more {n : Nat} {x : List Nat} {ps res : List (List Nat)} {z : Nat} : rv n = (z : Int) → (z = 2 ∨ z = 3 ∨ z = 4) → x.drop z ≠ [] → CutTo rv fin n (x.drop z) (ps ++ [x.take z]) res → CutTo rv fin (n + 1) x ps res
section
variable {w : World} {c : Cx} {ρ ρ' : REnv} {g gb g' g2 : Vw} {s t t2 sc : Shared} {D L G : Addr} {gi n : Nat} {ds ds' : List PV} {fs : List Addr} {outer : List Env} {rv : Nat → Int} {fin : Fin3} {X : Addr → Prop} {k : Bool} {A' : Around}

/-- the end of the loop -/
structure CE (c : Cx) (fs : List Addr) (g : Vw) (s : Shared) (gb : Vw) (D : Addr) (ρ : REnv) (ds : List PV) (t : Shared) : Prop where
  T : SS (XF c fs) false g s gb t
  tur : Turned fs s t
  F : FrOK c ρ gb t
  dl : LRep c.w gb t.heap D ds
theorem CI.ce (I : CI c fs outer g s gb sc D L G gi rv fin ρ ds n t) : CE c fs g s gb D ρ ds t := ⟨I.T, I.tur, I.F, I.dl⟩
theorem CE.has (I : CE c fs g s gb D ρ ds t) (b : Addr) (h : s.heap.get? b ≠ none) : t.heap.get? b ≠ none := by
  obtain ⟨o, ho⟩ := Option.ne_none_iff_exists'.mp h
  by_cases hb : XF c fs b
  · rcases hb with hb | hb
    · exact I.F.has b hb
    · obtain ⟨sl, h1⟩ := I.tur b hb o ho
      rw [h1]; exact fun q => nomatch q
  · rw [I.T.heap b o hb ho]; exact fun q => nomatch q
theorem FrOK.swap {x : Str} {d : PV} (F : FrOK c ρ g s) (hx : ρ.lookup x = some (.hid D)) (r : Rep c.w.params g (.ref D) d) : FrOK c ((x, d) :: ρ) g s where
  env := { base := F.env.base, fn := F.env.fn, gl := F.env.gl, bn := F.env.bn,
           loc := by
             obtain ⟨m, hn, hm⟩ := F.env.loc
             refine ⟨m, hn, fun y e hy he => ?_⟩
             rw [List.lookup_cons] at he
             cases q : y == x with
             | true =>
               rw [q] at he; cases he
               have q := eq_of_beq q
               subst q
               obtain ⟨v, hv, rv⟩ := hm y _ hy hx
               replace rv := rv.inv
               cases rv
               exact ⟨_, hv, r⟩
             | false => rw [q] at he; exact hm y e hy he
           cel := fun y e hy he => by
             rw [List.lookup_cons] at he
             cases q : y == x with
             | true =>
               rw [q] at he; cases he
               have q := eq_of_beq q
               subst q
               obtain ⟨a, v, h1, h2, rv⟩ := F.env.cel y _ hy hx
               replace rv := rv.inv
               cases rv
               exact ⟨a, _, h1, h2, r⟩
             | false => rw [q] at he; exact F.env.cel y e hy he }
  le := F.le
  hid := F.hid
  cell := F.cell
  apart := F.apart
/-- the list of the pieces is shown -/
theorem CE.show {x : Str} (I : CE c fs g s gb D ρ ds t) (hx : ρ.lookup x = some (.hid D)) (hD : gb D = none) (hDo : ¬ Own c D) (hDs : s.heap.get? D = none) (hfs : ∀ b ∈ fs, s.heap.get? b ≠ none) :
    ∃ gd, SS (XF c fs) false g s gd t ∧ FrOK c ((x, .list ds) :: ρ) gd t ∧ Rep c.w.params gd (.ref D) (.list ds) := by
  obtain ⟨o, ho, r⟩ := I.dl.out (X := fun _ => False) hD
  have hDX : ¬ XF c fs D := fun q => by
    rcases q with q | q
    · exact hDo q
    · exact hfs D q hDs
  have sub : Le (put gb D o) t.heap.get? := fun b o' e => by
    unfold put at e
    by_cases q : b = D
    · subst q; rw [if_pos rfl] at e; cases e; exact ho
    · rw [if_neg q] at e; exact I.F.le b o' e
  have new : ∀ b o', put gb D o b = some o' → gb b = some o' ∨ (s.heap.get? b = none ∧ ¬ XF c fs b) := fun b o' e => by
    unfold put at e
    by_cases q : b = D
    · subst q; exact .inr ⟨hDs, hDX⟩
    · rw [if_neg q] at e; exact .inl e
  have st := I.T.more (t2 := t) (fun b o _ _ e => e) (put_le hD) sub new (Rest.refl _ _)
  have hF := I.F.seen (put_le hD) sub fun b hb => by
    unfold put
    rw [if_neg (fun q : b = D => hDo (q ▸ hb))]
    exact I.F.hid b hb
  exact ⟨put gb D o, st, hF.swap hx r, r⟩
/-- an expression is handed back at the end -/
theorem CE.ret {x : Str} {e : Expr} {pos : Pos} {d : PV} {Q : Flow → Shared → Prop} {E : Value → Shared → Prop} (I : CE c fs g s gb D ρ ds t) (hx : ρ.lookup x = some (.hid D)) (hD : gb D = none) (hDo : ¬ Own c D) (hDs : s.heap.get? D = none) (hfs : ∀ b ∈ fs, s.heap.get? b ≠ none)
    (h1 : Ev true ⟨c.w, A', c.env⟩ ((x, .list ds) :: ρ) e d) (hQ : ∀ v g' s', SS (XF c fs) false g s g' s' → Turned fs s s' → Rep c.w.params g' v d → Q (.ret v) s') : wpAny (model PW c.w) A' (exec (.Return (some e) pos) c.env) Q E t := by
  obtain ⟨gd, st, F, _⟩ := I.show hx hD hDo hDs hfs
  refine wpAny_Return_some (h1 gd t _ _ (FrOK.at F).env F.le fun v g' s' st' r => hQ v g' s' (st.more (fun b o _ _ e => st'.heap b o e) st'.up st'.sub (fun b o e => ?_) st'.rest.any) (I.tur.trans (Turned.step st')) r)
  rcases st'.new b o e with q | q
  · exact .inl q
  · refine .inr ⟨?_, fun z => ?_⟩
    · cases z : s.heap.get? b with
      | none => rfl
      | some o' => exact absurd q (I.has b (by rw [z]; exact fun z => nomatch z))
    · rcases z with z | z
      · exact I.F.has b z q
      · exact I.has b (hfs b z) q

/-! statements of the consumer -/
theorem SS.zz (st : SS (Own c) k g s g' s') (h : s.heap.get? D ≠ none) : SS (ZZ c D) k g s g' s' where
  heap := fun b o hb e => st.heap b o (fun q => hb (.inl q)) e
  up := st.up
  sub := st.sub
  new := fun b o e => (st.new b o e).imp id fun q => ⟨q.1, fun y => by
    rcases y with y | y
    · exact q.2 y
    · exact h (y ▸ q.1)⟩
  rest := st.rest
noncomputable def FlatE (ρ : REnv) : Prop := ∀ x d, ρ.lookup x = some d → Flat d
theorem FlatE.nil : FlatE [] := fun x d h => by cases h
theorem FlatE.cons {x : Str} {d : PV} (h : Flat d) (h' : FlatE ρ) : FlatE ((x, d) :: ρ) := fun y e he => by
  rw [List.lookup_cons] at he
  cases q : y == x with
  | true => rw [q] at he; cases he; exact h
  | false => rw [q] at he; exact h' y e he
variable (C : CC c fs g s gb sc D L G)
include C
theorem CI.sx {st : Stmt} {Q : Flow → Shared → Prop} {E : Value → Shared → Prop} (I : CI c fs outer g s gb sc D L G gi rv fin ρ ds n t) (h : Sx true c ρ st ρ') (hf : FlatE ρ') (hd : ∀ d ∈ ds, Flat d)
    (hQ : ∀ t2, CI c fs outer g s gb sc D L G gi rv fin ρ' ds n t2 → Q .next t2) : Wp c (exec st c.env) Q E t :=
  h gb t Q E I.F fun g2 t2 st F2 => hQ t2 (I.own C (st.zz I.dl.has) F2 (I.dl.keep st.up fun o e => st.heap D o C.Do e) hf hd)
theorem CI.tr {e : Expr} {b : Bool} {Q : Bool → Shared → Prop} {E : Value → Shared → Prop} (I : CI c fs outer g s gb sc D L G gi rv fin ρ ds n t) (h : Tr true c ρ e b) (hf : FlatE ρ) (hd : ∀ d ∈ ds, Flat d)
    (hQ : ∀ t2, CI c fs outer g s gb sc D L G gi rv fin ρ ds n t2 → Q b t2) : Wp c (isTrue e c.env (eval e c.env)) Q E t :=
  h gb t Q E I.F.env I.F.le fun g2 t2 st => hQ t2 (I.own C ((I.F.ss st).zz I.dl.has) (I.F.step st) (I.dl.step st) hf hd)
theorem CI.app {o e : Expr} {apos cpos pos : Pos} {d : PV} {Q : Flow → Shared → Prop} {E : Value → Shared → Prop} (I : CI c fs outer g s gb sc D L G gi rv fin ρ ds n t) (ho : Ev true c ρ o (.hid D)) (he : Ev true c ρ e d) (hsz : ds.length ≤ sizeLine)
    (hbase : attributeBase o "append" c.env (eval o c.env) = eval o c.env)
    (hfew : ((backTo cpos (starEach [e] c.env)).all (fun x => !x.1) && (backToKw cpos (keywordEach [] c.env)).all (fun x => x.1.isSome)
      && decide (([e] : List Expr).length + ([] : List Keyword).length + (if ([] : List Keyword).isEmpty then 0 else 1) < 30)) = true)
    (hline : (apos.endLine == cpos.line) = true) (htrees : backTo cpos (starEach [e] c.env) = [(false, eval e c.env)]) (hi : interactive c.env = false) (hs : swapsWith (.Call (.Attribute o "append" apos) [e] [] cpos) Option.none pos.line c.env = pure false)
    (hf : FlatE ρ) (hd : ∀ d' ∈ ds ++ [d], Flat d') (hQ : ∀ t2, CI c fs outer g s gb sc D L G gi rv fin ρ (ds ++ [d]) n t2 → Q .next t2) :
    Wp c (exec (.Expr (.Call (.Attribute o "append" apos) [e] [] cpos) pos) c.env) Q E t :=
  append_stmt ho he I.F I.dl C.Do C.Dn hsz hbase hfew hline htrees hi hs fun g2 t2 st F2 l2 _ => hQ t2 (I.own C st F2 l2 hf hd)
end
end Mine
end

section
open PySem PySem.W PyProof.Rows PySem.Builtin
set_option Elab.async false
set_option maxRecDepth 100000
set_option linter.all false
namespace Mine
section
variable {k : Bool} {w : World} {A : Around} {c : Cx} {ρ ρ' : REnv} {g gb g' g2 : Vw} {s t t2 sc : Shared}
set_option maxHeartbeats 0 in
theorem f_cut {x : List Nat} {l : List Int} {res : List (List Nat)} {rv : Nat → Int} {fin : Fin3} {n : Nat} (hh : A.handled = none) (hroom : A.depth ≤ 460) (hu : A.units ≤ 200) (hx : Ok 20 x) (hn : n ≤ 20) (hT : Told rv fin n none l) (hC : CutTo rv fin n x [] res) :
    CallF false w A (.ref 127) [.str (S x), .list (l.map .int)] (sL res) := by
  obtain ⟨GBody, hGB, hseg⟩ := gen_main (w := w)
  refine CallF.fn (cc := 126) (xs := ["writing", "ruler"]) [("ruler", .list (l.map .int)), ("writing", .str (S x))] ⟨by kernel_rfl, by kernel_rfl, by kernel_rfl, by kernel_rfl, ⟨_, _, rfl, rfl⟩, rfl, by kernel_rfl, by kernel_rfl, by kernel_rfl, by kernel_rfl, by kernel_rfl⟩ (by kernel_rfl)
    (bind2 rfl fun _ _ => by kernel_rfl) rfl (fun n => mem2 (.inl (by kernel_rfl)) (mem1 (.inl (by kernel_rfl)))) (by have e : recursionLimit = 1000 := rfl; (first | lia | omega)) rfl fun Lc fs outer hfr => ?_
  have hcu : (fc w A 127 Lc).A.units + 70 < cLine := by
    show A.units + 3 + 70 < cLine
    have e : cLine = 9900 := by rfl
    (first | lia | omega)
  have szL : ∀ n, n ≤ 2 ^ 20 → n ≤ sizeLine := fun n h => by rw [sizeLine_eq]; (first | lia | omega)
  have oknil : Ok 0 [] := ⟨by simp, by simp⟩
  intro g s Q E O F hQ
  refine wpAny_execs_cons (new_list (k := true) F (.inl (by kernel_rfl)) (by rfl) fun D s1 st1 hD hDo hDg F1 D1 => ?_)
  refine wpAny_execs_cons (wpAny_Try_except ?_)
  refine wpAny_execs_cons (wpAny_For ?_ (by intro _; rfl))
  refine Call_ (ld_glob (v := .ref 106) F1.env F1.le (by kernel_rfl) (by kernel_rfl) (callWith_def (show (OB w 106).data = .func (FD w 106) by kernel_rfl) (EvL.cons rfl (Ev.loc' (k := true) (d := .list (l.map .int)) (by kernel_rfl) (by got_up) (by kernel_rfl)) EvL.nil _ g s1 _ _ F1.env F1.le fun vs g2 s2 st2 r2 => ⟨(F1.env.base.mono st2.up).kin st2.sub _ _ (show (KF w).lookup 106 = some (OB w 106) by kernel_rfl), ?_⟩) (by rfl)) (by kernel_rfl))
  replace r2 := r2.inv
  cases r2 with
  | @mk v vs r2 r3 =>
  replace r3 := r3.inv
  cases r3
  have F2 := F1.step st2
  have hDh : s1.heap.get? D ≠ none := D1.has
  have hDg2 : g2 D = none := st2.hides hDg hDh
  refine call_gen hGB (by have e : recursionLimit = 1000 := rfl; show A.depth + 1 < _; (first | lia | omega)) F2.env.base F2.le r2 fun Lg G s3 M => ?_
  refine wpAny_pyIter_gen M.gen ?_
  have hs13 : ∀ b, s1.heap.get? b ≠ none → s2.heap.get? b ≠ none := fun b hb q => by
    obtain ⟨o, ho⟩ := Option.ne_none_iff_exists'.mp hb
    rw [st2.heap b o ho] at q; cases q
  have hs23 : ∀ b, s2.heap.get? b ≠ none → s3.heap.get? b ≠ none := fun b hb q => by
    obtain ⟨o, ho⟩ := Option.ne_none_iff_exists'.mp hb
    rw [M.le b o ho] at q; cases q
  have hs01 : ∀ b, s.heap.get? b ≠ none → s1.heap.get? b ≠ none := fun b hb q => by
    by_cases hb' : Own (fc w A 127 Lc) b
    · exact F1.has b hb' q
    · obtain ⟨o, ho⟩ := Option.ne_none_iff_exists'.mp hb
      rw [st1.heap b o hb' ho] at q; cases q
  have hLs2 : ∀ b, s2.heap.get? b ≠ none → b ≠ Lg := fun b hb q => hb (q ▸ M.newL)
  have hGs2 : ∀ b, s2.heap.get? b ≠ none → b ≠ G := fun b hb q => hb (q ▸ M.newG)
  have C : CC (fc w A 127 Lc) fs g s g2 s3 D Lg G :=
    { own := fun b hb => hs23 b (F2.has b hb), old := fun b hb => hs23 b (hs13 b (hs01 b hb)), base := F2.env.base, vis := fun b o e => hs23 b (by rw [F2.le b o e]; exact fun q => nomatch q)
      Ls := by
        cases q : s.heap.get? Lg with
        | none => rfl
        | some o => exact absurd M.newL (hs13 _ (hs01 _ (by rw [q]; exact fun q => nomatch q)))
      Ln := F2.le.none M.newL, Lo := fun q => F2.has _ q M.newL, Ds := hD, Dn := hDg2, Do := hDo, Dc := hs23 _ (hs13 _ hDh), DL := hLs2 _ (hs13 _ hDh)
      Gc := by obtain ⟨o, _, _, h, _⟩ := M.gen; rw [h]; exact fun q => nomatch q
      GL := M.ne, Go := fun q => F2.has _ q M.newG, GD := fun q => hGs2 D (hs13 _ hDh) q.symm
      Gs := by
        cases q : s.heap.get? G with
        | none => rfl
        | some o => exact absurd M.newG (hs13 _ (hs01 _ (by rw [q]; exact fun q => nomatch q)))
      fl := fun b hb => ⟨O.has b hb, st2.hides (st1.hides (O.none b hb) (O.has b hb)) (hs01 b (O.has b hb)), O.own b hb⟩ }
  have hcells : (gE w Lg).cells = [] := by kernel_rfl
  have hown : ∀ A' b, Own ⟨w, A', gE w Lg⟩ b → b = Lg := fun A' b hb => by
    rcases hb with hb | ⟨x, hb⟩
    · exact hb
    · have hb : (gE w Lg).cells.lookup x = some b := hb
      rw [hcells] at hb; cases hb
  have hZ2 : ∀ b, ZZ (fc w A 127 Lc) D b → g2 b = Option.none ∧ s2.heap.get? b ≠ Option.none := fun b hb => by
    rcases hb with hb | hb
    · exact ⟨F2.hid b hb, F2.has b hb⟩
    · exact hb ▸ ⟨hDg2, hs13 _ hDh⟩
  have hu1 : (fc w A 127 Lc).A.in1.units ≤ 300 := by
    show A.units + 3 + 1 ≤ 300
    (first | lia | omega)
  have st12 := st1.trans (F1.ss st2)
  have I0 : CI (fc w A 127 Lc) fs outer g s g2 s3 D Lg G s2.gens.size rv fin [("writing", .str (S x)), ("pieces", .hid D)] [] n s3 := by
    have hr : Rest false s2 s3 := ⟨M.os, by
      rw [if_neg (by simp), M.gens]
      exact fun h => h.push rfl⟩
    have stx : SS (XF (fc w A 127 Lc) fs) false g s g2 s2 := let y := st12.xf O; ⟨y.heap, y.up, y.sub, y.new, y.rest.any⟩
    refine ⟨stx.more (fun b o _ _ e => M.le b o e) (Le.refl _) (F2.le.trans M.le) (fun b o e => .inl e) hr, (Turned.of st12 O.own).trans (Turned.le M.le), ?_, (D1.step st2).keep (Le.refl _) fun o e => M.le D o e, M.gen, ?_⟩
    · exact (F2.step (Step.grow F2.le M.le hr)).less (by one_place)
    · refine ⟨.fresh (.func GBody (gE w Lg)), by rw [M.gens]; exact Array.getElem?_push_size, fun _ t' hK hFO => ⟨rfl, ?_⟩⟩
      refine hseg _ _ rv fin n l s3 t' g2 Lg (ZZ (fc w A 127 Lc) D) (Lc :: fs) hh hfr hu1 hT ⟨(M.fr _).keep hK.1 fun b hb => ⟨(hZ2 b hb).1, fun q => hLs2 b (hZ2 b hb).2 (hown _ b q)⟩, fun b hb => ⟨(hZ2 b hb).1, hLs2 b (hZ2 b hb).2, hs23 b (hZ2 b hb).2⟩, fun b hb => hK.2 b hb, hFO, fun b hb => ?_, ⟨rfl, hcells⟩⟩
      rcases List.mem_cons.mp hb with rfl | hb
      · exact ⟨hLs2 _ (F2.has _ (.inl rfl)), hs23 _ (F2.has _ (.inl rfl))⟩
      · exact ⟨hLs2 b (hs13 b (hs01 b (O.has b hb))), hs23 b (hs13 b (hs01 b (O.has b hb)))⟩
  have flt : ∀ (y : List Nat), FlatE [("writing", .str (S y)), ("pieces", .hid D)] := fun y => FlatE.cons trivial (FlatE.cons trivial FlatE.nil)
  have flt' : ∀ (y : List Nat) (i : Int), FlatE [("size", .int i), ("writing", .str (S y)), ("pieces", .hid D)] := fun y i => FlatE.cons trivial (FlatE.cons trivial (FlatE.cons trivial FlatE.nil))
  have fld : ∀ (ps : List (List Nat)), ∀ d ∈ ps.map (fun y => PV.str (S y)), Flat d := fun ps d hd => by
    obtain ⟨y, _, rfl⟩ := List.mem_map.mp hd
    trivial
  have hOut : ∀ {ρ ds m t}, CI (fc w A 127 Lc) fs outer g s g2 s3 D Lg G s2.gens.size rv fin ρ ds m t → FramesOK t (Lc :: fs) ((fc w A 127 Lc).env :: outer) := fun {ρ ds m t} I => by
    obtain ⟨mm, hns, _⟩ := I.F.env.loc
    exact FramesOK.inner (s := t) (O.turned (g' := g) O.none I.tur).fr (fun _ _ q => q) (by rw [I.F.env.fn]; decide) rfl hns
  refine for_loop (fun m t => ∃ x ps, CutTo rv fin m x ps res ∧ Ok 20 x ∧ (∀ p ∈ ps, Ok 20 p) ∧ ps.length + m ≤ 20 ∧ CI (fc w A 127 Lc) fs outer g s g2 s3 D Lg G s2.gens.size rv fin [("writing", .str (S x)), ("pieces", .hid D)] (ps.map fun y => PV.str (S y)) m t) ?_ n ⟨x, [], hC, hx, by simp, by simpa using hn, I0⟩
  rintro m t ⟨x, ps, hC, hx, hps, hlen, I⟩
  obtain ⟨gs, hgs, hgo⟩ := id I.go
  have hmore : m = 0 → fin ≠ .more := fun h0 => by
    subst h0
    cases hC with
    | stop h => rw [h]; exact fun q => nomatch q
    | refuse h => rw [h]; exact fun q => nomatch q
  refine next_gen (sc := s3) (L := Lg) (fl := Lc :: fs) (fin := fin) (n := m) (gs := gs) hh (I.F.env.base.nolimit I.F.le) (by have e : recursionLimit = 1000 := rfl; show A.depth + 1 < _; (first | lia | omega)) I.gen ⟨M.ne, fun q => ?_, C.Gc⟩ hgs (hgo hmore _ ⟨fun _ _ _ e => e, fun _ e => e⟩ ⟨(hOut I).all⟩) (fun v s4 gs' hb hY => ?_) (fun s4 h' h0 hfin hS hh' => ?_) (fun e sm s4 h0 hfin hS hLsm f => ?_)
  · rcases List.mem_cons.mp q with q | q
    · exact C.Go (.inl q)
    · exact (C.fl G q).1 C.Gs
  · cases m with
    | zero =>
      exfalso
      obtain ⟨_, hS, hk⟩ := hY
      refine hk hmore s4 Kept.refl ⟨fun env he => ?_⟩
      obtain ⟨h1, L', o, h2, h3, h4, h5⟩ := (hOut I).all env he
      refine ⟨h1, L', o, h2, h3, hS.1 L' o ?_ ?_ h4, h5⟩
      · rcases List.mem_cons.mp h3 with rfl | h3
        · exact fun q => C.Lo (.inl q.symm)
        · exact fun q => (C.fl L' h3).1 (q ▸ C.Ls)
      · rcases List.mem_cons.mp h3 with rfl | h3
        · exact C.own _ (.inl rfl)
        · exact C.old L' (C.fl L' h3).1
    | succ m =>
      have I1 := CI.told C I hb hY
      obtain ⟨⟨tt, rfl⟩, _, _⟩ := hY
      refine wpAny_of_eq (a := ()) rfl (wpAny_assign_Name (store_V (k := true) I1.F (.int _ tt) (.inl (by kernel_rfl)) fun s5 st5 F5 => ?_))
      have I2 := CI.own C I1 (st5.zz I1.dl.has) F5 (I1.dl.keep (Le.refl _) fun o e => st5.heap D o C.Do e) (flt' x (rv m)) (fld ps)
      obtain ⟨z, hz, hz', hrest⟩ : ∃ z : Nat, rv m = (z : Int) ∧ (z = 2 ∨ z = 3 ∨ z = 4) ∧ ((x.drop z = [] ∧ res = ps ++ [x.take z]) ∨ (x.drop z ≠ [] ∧ CutTo rv fin m (x.drop z) (ps ++ [x.take z]) res)) := by
        cases hC with
        | last h1 h2 h3 => exact ⟨_, h1, h2, .inl ⟨h3, rfl⟩⟩
        | more h1 h2 h3 h4 => exact ⟨_, h1, h2, .inr ⟨h3, h4⟩⟩
      have hz0 : rv (m + 1 - 1) = (z : Int) := hz
      rw [hz0] at I2
      have hsz : (S x).length ≤ sizeLine := hx.size (by decide)
      refine wpAny_execs_cons (CI.sx C I2 (Sx.if_f (Tr.to (Tr.cmp (a := .int (z : Int)) (b := .list [PV.int (2 : Nat), .int (3 : Nat), .int (4 : Nat)]) (by one_item) (Ev.list (EvL.cons rfl Ev.int (EvL.cons rfl Ev.int (EvL.cons rfl Ev.int EvL.nil))) (szL 3 (by first | decide | lia | omega))) (CmpV.notMem 0 0 rfl rfl (by first | decide | lia | omega) (by first | decide | lia | omega) hcu) (by kernel_rfl)) ?hin) Nx.nil) (flt' x z) (fld ps) fun t3 I3 => ?_)
      case hin => rw [in3, decide_eq_true hz']; rfl
      have hps' : ∀ p ∈ ps ++ [x.take z], Ok 20 p := fun p hp => by
        rcases List.mem_append.mp hp with hp | hp
        · exact hps p hp
        · rw [List.mem_singleton.mp hp]; exact hx.take z
      have emap : (ps.map fun y => PV.str (S y)) ++ [PV.str (S (x.take z))] = (ps ++ [x.take z]).map fun y => PV.str (S y) := by simp
      refine wpAny_execs_cons (CI.app C I3 (d := .str (S (x.take z))) (by one_item) (Ev.str_to (Ev.sub (o := .str (S x)) (i := .slice Option.none (some (z : Int)) Option.none) (by one_item) (Ev.slice PartIs.none (PartIs.some (by one_item)) PartIs.none) (GetV.slice_str hsz) rfl (by intro _ _; first | exact .inl rfl | exact .inr rfl)) (congrArg PV.str (slice_to x z))) ?hl (by rfl) (by rfl) (by rfl) (by rfl) (by rfl) (by rfl) (flt' x z) ?hfl fun t4 I4 => ?_)
      case hl => rw [List.length_map]; exact szL _ (by first | decide | lia | omega)
      case hfl => rw [emap]; exact fld _
      rw [emap] at I4
      refine wpAny_execs_cons (CI.sx C I4 (ρ' := [("writing", .str (S (x.drop z))), ("pieces", .hid D)]) (Sx.less (Sx.assign (d := .str (S (x.drop z))) (Ev.str_to (Ev.sub (o := .str (S x)) (i := .slice (some (z : Int)) Option.none Option.none) (by one_item) (Ev.slice (PartIs.some (by one_item)) PartIs.none PartIs.none) (GetV.slice_str hsz) rfl (by intro _ _; first | exact .inl rfl | exact .inr rfl)) (congrArg PV.str (slice_from x z))) (.inl (by kernel_rfl)) (by rfl)) (by one_place)) (flt _) (fld _) fun t5 I5 => ?_)
      rcases hrest with ⟨hnil, hres⟩ | ⟨hne, hC'⟩
      · refine wpAny_execs_cons (wpAny_If (CI.tr C I5 (b := true) (Tr.to (Tr.cmp (a := .str (S (x.drop z))) (b := .str (S [])) (by one_item) (Ev.str' (by kernel_rfl)) (CmpV.eq 0 0 (hx.drop z).pv oknil.pv (by first | decide | lia | omega) (by first | decide | lia | omega) (by first | decide | lia | omega)) (by kernel_rfl)) ((eqv_S _ _).trans (decide_eq_true hnil))) (flt _) (fld _) fun t6 I6 => ?_))
        refine wpAny_execs_cons (CE.ret (x := "pieces") (d := .list ((ps ++ [x.take z]).map fun y => PV.str (S y))) (A' := (fc w A 127 Lc).A) I6.ce (by rfl) C.Dn C.Do C.Ds (fun b hb => O.has b hb) (by one_item) fun v g' s' st tur r => ?_)
        rw [hres] at hQ
        exact hQ v g' s' st tur r
      · refine wpAny_execs_cons (wpAny_If (CI.tr C I5 (b := false) (Tr.to (Tr.cmp (a := .str (S (x.drop z))) (b := .str (S [])) (by one_item) (Ev.str' (by kernel_rfl)) (CmpV.eq 0 0 (hx.drop z).pv oknil.pv (by first | decide | lia | omega) (by first | decide | lia | omega) (by first | decide | lia | omega)) (by kernel_rfl)) ((eqv_S _ _).trans (decide_eq_false hne))) (flt _) (fld _) fun t6 I6 => ?_))
        refine wpAny_execs_nil (wpAny_execs_nil ?_)
        exact ⟨m, Nat.lt_succ_self m, x.drop z, ps ++ [x.take z], hC', hx.drop z, hps', by simp; (first | lia | omega), I6⟩
  · subst h0
    obtain ⟨hst, htur, hF, hdl⟩ := CI.stop C I hS hh'
    have hres : res = ps ++ [x] := by
      cases hC with
      | stop _ => rfl
      | refuse h => rw [hfin] at h; cases h
    have ce : CE (fc w A 127 Lc) fs g s g2 D _ _ _ := ⟨hst, htur, hF, hdl⟩
    refine wpAny_execs_nil (wpAny_execs_nil ?_)
    refine wpAny_execs_cons (CE.ret (x := "pieces") (d := .list ((ps ++ [x]).map fun y => PV.str (S y))) (A' := (fc w A 127 Lc).A) ce (by rfl) C.Dn C.Do C.Ds (fun b hb => O.has b hb) (Ev.to (Ev.bin (a := .list (ps.map fun y => PV.str (S y))) (by one_item) (Ev.list (EvL.cons rfl (d := .str (S x)) (by one_item) EvL.nil) (szL 1 (by first | decide | lia | omega))) (BinV.add_list ?hsz)) ?heq) fun v g' s' st tur r => ?_)
    case hsz => rw [List.length_map]; exact szL _ (by simp; (first | lia | omega))
    case heq => simp
    rw [hres] at hQ
    exact hQ v g' s' st tur r
  · subst h0
    have hres : res = ps ++ [x, refusedL] := by
      cases hC with
      | stop h => rw [hfin] at h; cases h
      | refuse _ => rfl
    have hflr : (fc w A 127 Lc).env.frame = some Lc := by rfl
    have hne : ∀ b ∈ Lc :: fs, b ≠ Lg ∧ s3.heap.get? b ≠ Option.none := fun b hb => by
      rcases List.mem_cons.mp hb with rfl | hb
      · exact ⟨fun q => C.Lo (.inl q.symm), C.own _ (.inl rfl)⟩
      · exact ⟨fun q => (C.fl b hb).1 (q ▸ C.Ls), C.old b (C.fl b hb).1⟩
    have hkm : ∀ b ∈ Lc :: fs, ∀ o, t.heap.get? b = some o → sm.heap.get? b = some o := fun b hb o ho => hS.1 b o (hne b hb).1 (hne b hb).2 ho
    have hFm : FramesOK (sm.setGen s2.gens.size .finished) (Lg :: Lc :: fs) ((fc w A 127 Lc).env :: outer) := ⟨fun env he => by
      obtain ⟨h1, L', o, h2, h3, h4, h5⟩ := (hOut I).all env he
      exact ⟨h1, L', o, h2, List.mem_cons_of_mem _ h3, hkm L' h3 o h4, h5⟩⟩
    have hfs : ∀ b ∈ Lg :: Lc :: fs, (sm.setGen s2.gens.size .finished).heap.get? b ≠ Option.none := fun b hb => by
      rcases List.mem_cons.mp hb with rfl | hb
      · exact hLsm
      · have : t.heap.get? b ≠ Option.none := by
          rcases List.mem_cons.mp hb with rfl | hb
          · exact I.F.has _ (.inl rfl)
          · exact CI.has C I b (C.fl b hb).1
        obtain ⟨o, ho⟩ := Option.ne_none_iff_exists'.mp this
        show sm.heap.get? b ≠ Option.none
        rw [hkm b hb o ho]; exact fun q => nomatch q
    have hcl : (fc w A 127 Lc).env.cells = [] := by kernel_rfl
    refine FlyB.note (L := Lc) (FlyB.setGen f) hfr hFm hflr fun s5 f5 => ?_
    refine wpAny_bind (f5.has fun T => ?_)
    rw [if_neg (show ¬ ((Value.ref T == Value.none) = true) from Bool.false_ne_true)]
    refine f5.flight hfs fun s6 f6 => ?_
    refine FlyB.same (L := Lc) f6 hflr ?_
    refine f6.flight hfs fun s7 f7 => ?_
    obtain ⟨_, _, F7, _⟩ := CI.raise C I hcl (hOut I) hS f7
    refine wpAny_handleBy_builtin (X := "ValueError") (T := "ValueError") (b := true) (by kernel_rfl) (by kernel_rfl) (by kernel_rfl) ?_
    refine ld_blt (c := ⟨(fc w A 127 Lc).w, (fc w A 127 Lc).A.mark (some (.ref e)), (fc w A 127 Lc).env⟩) (v := .type "ValueError") (FrOK.at F7).env F7.le (by kernel_rfl) (by kernel_rfl) (by rfl) ?_
    obtain ⟨vs, hvs, _⟩ := f7.exc
    refine ⟨rfl, ⟨_, hvs, rfl⟩, ?_⟩
    rw [if_pos rfl]
    refine f7.flight hfs fun s8 f8 => ?_
    obtain ⟨st8, tur8, F8, dl8⟩ := CI.raise C I hcl (hOut I) hS f8
    have ce : CE (fc w A 127 Lc) fs g s g2 D _ _ _ := ⟨st8, tur8, F8, dl8⟩
    refine wpAny_execs_cons (CE.ret (x := "pieces") (d := .list ((ps ++ [x, refusedL]).map fun y => PV.str (S y))) (A' := (fc w A 127 Lc).A.mark (some (.ref e))) ce (by rfl) C.Dn C.Do C.Ds (fun b hb => O.has b hb) (Ev.to (Ev.bin (a := .list (ps.map fun y => PV.str (S y))) (by one_item) (Ev.list (EvL.cons rfl (d := .str (S x)) (by one_item) (EvL.cons rfl (d := .str (S refusedL)) (Ev.str' (by kernel_rfl)) EvL.nil)) (szL 2 (by first | decide | lia | omega))) (BinV.add_list ?hsz)) ?heq) fun v g' s' st tur r => ?_)
    case hsz => rw [List.length_map]; exact szL _ (by simp; (first | lia | omega))
    case heq => simp
    rw [hres] at hQ
    exact hQ v g' s' st tur r
end
end Mine
end

section
open PySem PySem.W PyProof.Rows PySem.Builtin
set_option Elab.async false
set_option maxRecDepth 100000
set_option linter.all false
namespace Mine
section
variable {k : Bool} {w : World} {A : Around} {c : Cx} {ρ ρ' : REnv} {g gb g' g2 : Vw} {s t t2 sc : Shared}
theorem Seen.nil {scope : Scope} {cl : List (Str × Addr)} : Seen c ρ scope cl [] := fun y d h => by cases h
theorem Seen.cons {scope : Scope} {cl : List (Str × Addr)} {x : Str} {d : PV} (h1 : Look ρ x d) (h2 : cl.lookup x = c.env.cells.lookup x) (h3 : decide (c.env.kindOf x = some .cell ∨ c.env.kindOf x = some .free) = true) (h4 : decide ((relabel scope c.env).names.lookup x = some .local) = false) (h : Seen c ρ scope cl ρ') : Seen c ρ scope cl ((x, d) :: ρ') := fun y e he => by
  rw [List.lookup_cons] at he
  cases q : y == x with
  | true =>
    rw [q] at he; cases he
    have q := eq_of_beq q
    subst q
    exact ⟨h1.eq, h2, of_decide_eq_true h3, of_decide_eq_false h4⟩
  | false => rw [q] at he; exact h y e he
theorem lookup_one {x : Str} {d : PV} {P : Str → Prop} (h : P x) : ∀ y e, ([(x, d)] : REnv).lookup y = some e → P y := fun y e he => by
  rw [List.lookup_cons] at he
  cases q : y == x with
  | true => exact (eq_of_beq q) ▸ h
  | false => rw [q] at he; cases he
/-- a comprehension with one name -/
theorem Ev.comp1 {elt iter : Expr} {x : Str} {px : Pos} {isl : Bool} {ifs : List Expr} {scope : Scope} {cl : List (Str × Addr)} {pos : Pos} {src : PV} {ds : List PV} {ρ' : REnv} (f : PV → Option PV)
    (h1 : Ev k c ρ iter src) (hI : IterV c.w c.A isl src ds) (hclos : closureFor scope c.env = pure cl) (hcell : (scope.names.all fun y => decide (y.2 ≠ .cell)) = true) (hk : scope.kind = .function)
    (hnames : (scope.names.all fun y => decide (y.2 = .local → scope.names.lookup y.1 = some .local)) = true)
    (hkx : ∀ C, (inC c scope cl C).env.kindOf x = some .local) (hp : ∀ C, ((inC c scope cl C).env.scope.kind == .class || ((inC c scope cl C).env.scope.kind == .module && (inC c scope cl C).env.locals != (inC c scope cl C).env.globals)) = false)
    (hx : (relabel scope c.env).names.lookup x = some .local) (hS : Seen c ρ scope cl ρ')
    (hbody : ∀ C d, d ∈ ds → Tests k (inC c scope cl C) ((x, d) :: ρ') ifs (f d).isSome ∧ ∀ o, f d = some o → Ev k (inC c scope cl C) ((x, d) :: ρ') elt o)
    (hsz : ds.length ≤ sizeLine) (hs : ∀ x, foldedSetIterable iter c.env x = pure x) : Ev k c ρ (.ListComp elt [⟨.Name x px, iter, ifs, 0⟩] scope pos) (.list (ds.filterMap f)) :=
  Ev.listcomp f (fun d => [(x, d)]) h1 hI hclos (fun y hy => of_decide_eq_true (List.all_eq_true.mp hcell y hy)) hk (fun y hy => of_decide_eq_true (List.all_eq_true.mp hnames y hy))
    (fun C d _ => TgtV.name (hkx C) (hp C)) (fun d _ => lookup_one hx) hS hbody hsz hs
theorem ups_zero (n : Nat) : ups 0 n = (List.range n).map fun i : Nat => PV.int (i : Int) := by
  unfold ups
  simp
/-- over a range from 0 on -/
theorem Ev.comp_range {elt iter : Expr} {x : Str} {px : Pos} {ifs : List Expr} {scope : Scope} {cl : List (Str × Addr)} {pos : Pos} {n : Nat} {ρ' : REnv} (F : Nat → Option PV) (hh : c.A.handled = Option.none)
    (h1 : Ev k c ρ iter (.range 0 (n : Int))) (hn : n ≤ 2 ^ 20) (hclos : closureFor scope c.env = pure cl) (hcell : (scope.names.all fun y => decide (y.2 ≠ .cell)) = true) (hk : scope.kind = .function)
    (hnames : (scope.names.all fun y => decide (y.2 = .local → scope.names.lookup y.1 = some .local)) = true)
    (hkx : ∀ C, (inC c scope cl C).env.kindOf x = some .local) (hp : ∀ C, ((inC c scope cl C).env.scope.kind == .class || ((inC c scope cl C).env.scope.kind == .module && (inC c scope cl C).env.locals != (inC c scope cl C).env.globals)) = false)
    (hx : (relabel scope c.env).names.lookup x = some .local) (hS : Seen c ρ scope cl ρ')
    (hbody : ∀ C (i : Nat), i < n → Tests k (inC c scope cl C) ((x, .int (i : Int)) :: ρ') ifs (F i).isSome ∧ ∀ o, F i = some o → Ev k (inC c scope cl C) ((x, .int (i : Int)) :: ρ') elt o)
    (hs : ∀ x, foldedSetIterable iter c.env x = pure x) : Ev k c ρ (.ListComp elt [⟨.Name x px, iter, ifs, 0⟩] scope pos) (.list ((List.range n).filterMap F)) := by
  have hsm : Builtin.Range.small 0 (n : Int) 1 = true := by
    unfold Builtin.Range.small
    have hf : ∀ i : Int, -1 ≤ i → i ≤ 2 ^ 21 → Builtin.Range.rangeFitsLong i = true := fun i h1 h2 => by
      unfold Builtin.Range.rangeFitsLong
      simp
      (first | lia | omega)
    have hz : Builtin.Range.rangeSize 0 (n : Int) 1 = (n : Int) := by
      unfold Builtin.Range.rangeSize
      simp
      (first | lia | omega)
    rw [hz, hf 0 (by first | decide | lia | omega) (by first | decide | lia | omega), hf n (by first | decide | lia | omega) (by first | decide | lia | omega), hf 1 (by first | decide | lia | omega) (by first | decide | lia | omega)]
    simp
    exact .inr (hf n (by first | decide | lia | omega) (by first | decide | lia | omega))
  have hI : IterV c.w c.A false (.range 0 (n : Int)) (ups 0 n) := by
    have := IterV.range (w := c.w) (A := c.A) hh hsm
    simpa using this
  have e : (ups 0 n).filterMap (fun d => match d with | .int i => F i.toNat | _ => Option.none) = (List.range n).filterMap F := by
    rw [ups_zero, List.filterMap_map]
    congr 1
  have key := Ev.comp1 (k := k) (c := c) (ρ := ρ) (elt := elt) (px := px) (ifs := ifs) (pos := pos) (ρ' := ρ') (fun d => match d with | .int i => F i.toNat | _ => Option.none) h1 hI hclos hcell hk hnames hkx hp hx hS (fun C d hd => ?_) (by rw [sizeLine_eq]; unfold ups; simp; (first | lia | omega)) hs
  · rw [e] at key; exact key
  · rw [ups_zero] at hd
    obtain ⟨i, hi, rfl⟩ := List.mem_map.mp hd
    have := hbody C i (List.mem_range.mp hi)
    simpa using this
end
end Mine
end

section
open PySem PySem.W PyProof.Rows PySem.Builtin
set_option Elab.async false
set_option maxRecDepth 100000
set_option linter.all false
namespace Mine
/-- the ruler's figures that count -/
noncomputable def endsR (r : List Nat) (i : Nat) : Bool := decide (r.getD i 0 = 0 ∨ r.getD i 0 = 127)
noncomputable def stopN (r : List Nat) : Nat := if endsR r 0 then 0 else if endsR r 1 then 1 else if endsR r 2 then 2 else 3
noncomputable def sizesN (r : List Nat) : List Nat := if stopN r < 3 ∧ r.getD (stopN r) 0 = 0 then r.take (stopN r) ++ List.replicate 9 ((r.take (stopN r)).getLastD 0) else r.take (stopN r)
noncomputable def sumsN (r : List Nat) : List Nat := (List.range ((sizesN r).length + 1)).map fun i => ((sizesN r).take i).sum
noncomputable def cutsN (r : List Nat) : List Nat := (sumsN r).filter (fun c => decide (c < 9)) ++ [9]
noncomputable def dueL (x : List Nat) (r : List Nat) : List (List Nat) := (List.range ((cutsN r).length - 1)).map fun i => (x.drop ((cutsN r).getD i 0)).take ((cutsN r).getD (i + 1) 0 - (cutsN r).getD i 0)
section
variable {k : Bool} {w : World} {A : Around} {c : Cx} {ρ ρ' : REnv} {g gb g' g2 : Vw} {s t t2 sc : Shared}
theorem nL_getD {l : List Nat} {i : Nat} (h : i < l.length) : (l.map fun n : Nat => PV.int (n : Int))[i]? = some (.int (l.getD i 0 : Nat)) := by
  rw [List.getElem?_map, List.getElem?_eq_getElem h]
  simp [List.getD, h]
theorem in2 (d a b : Nat) : ([PV.int (a : Int), .int (b : Int)].any fun y => PV.eqv y (.int (d : Int))) = decide (d = a ∨ d = b) := by
  show (((a : Int) == (d : Int)) || (((b : Int) == (d : Int)) || false)) = _
  rw [Bool.or_false, Bool.decide_or]
  congr 1
  · rw [Bool.eq_iff_iff]; simp; (first | lia | omega)
  · rw [Bool.eq_iff_iff]; simp; (first | lia | omega)
theorem pick_nL (l : List Nat) (i : Nat) : pick (l.map fun n : Nat => PV.int (n : Int)) Option.none (some (i : Int)) Option.none = (l.take i).map fun n : Nat => PV.int (n : Int) := by
  rw [pick_to, List.map_take]
theorem last_nL {l : List Nat} (h : 0 < l.length) : (l.map fun n : Nat => PV.int (n : Int))[l.length - 1]? = some (.int (l.getLastD 0 : Nat)) := by
  rw [List.getElem?_map, List.getElem?_eq_getElem (by first | decide | lia | omega)]
  rw [List.getLastD_eq_getLast?, List.getLast?_eq_getElem?, List.getElem?_eq_getElem (by first | decide | lia | omega)]
  simp
theorem sum_cast (l : List Nat) : (l.map fun n : Nat => (n : Int)).sum = ((l.sum : Nat) : Int) := by
  induction l with
  | nil => rfl
  | cons a l ih => simp [ih]
theorem stopN_le (r : List Nat) : stopN r ≤ 3 := by
  unfold stopN
  split
  · (first | lia | omega)
  · split
    · (first | lia | omega)
    · split <;> (first | lia | omega)
set_option maxHeartbeats 0 in
theorem f_due {x : List Nat} {a b c' : Nat} (hh : A.handled = none) (ha : a ≠ 0 ∧ a ≠ 127) (hx : Ok 20 x) (hroom : A.depth ≤ 460) (hu : A.units ≤ 200) : CallV k w A (.ref 132) [.str (S x), nL [a, b, c']] (sL (dueL x [a, b, c'])) := by
  refine CallV.fn (cc := 131) (xs := ["writing", "ruler"]) [("ruler", nL [a, b, c']), ("writing", .str (S x))] ⟨by kernel_rfl, by kernel_rfl, by kernel_rfl, by kernel_rfl, ⟨_, _, rfl, rfl⟩, rfl, by kernel_rfl, by kernel_rfl, by kernel_rfl, by kernel_rfl, by kernel_rfl⟩ (by kernel_rfl)
    (bind2 rfl fun _ _ => by kernel_rfl) rfl (fun n => mem2 (.inr ⟨by kernel_rfl, by rfl⟩) (mem1 (.inr ⟨by kernel_rfl, by rfl⟩))) (by have e : recursionLimit = 1000 := rfl; (first | lia | omega)) rfl fun L => ?_
  have hcu : (fc w A 132 L).A.units + 70 < cLine := by
    show A.units + 3 + 70 < cLine
    have e : cLine = 9900 := by rfl
    (first | lia | omega)
  have szL : ∀ n, n ≤ 2 ^ 20 → n ≤ sizeLine := fun n h => by rw [sizeLine_eq]; (first | lia | omega)
  have hsz : (S x).length ≤ sizeLine := hx.size (by decide)
  have hhL : (fc w A 132 L).A.handled = none := hh
  refine Fx.cons (Sx.assign (d := .int (stopN [a, b, c'] : Nat)) (Ev.sub (o := .list (((List.range 3).filterMap fun i => if endsR [a, b, c'] i then some (PV.int (i : Nat)) else Option.none) ++ [PV.int (3 : Nat)])) (i := .int (0 : Nat)) (Ev.bin (Ev.comp_range (n := 3) (ρ' := [("ruler", nL [a, b, c'])]) (fun i => if endsR [a, b, c'] i then some (PV.int (i : Nat)) else Option.none) hhL ?c1 (by decide) rfl (by kernel_rfl) (by kernel_rfl) (by kernel_rfl) (fun _ => by kernel_rfl) (fun _ => by kernel_rfl) (by kernel_rfl) ?c2 ?c3 (by intro _; rfl)) (Ev.list (EvL.cons rfl Ev.int EvL.nil) (szL 1 (by first | decide | lia | omega))) (BinV.add_list ?c4)) Ev.int (GetV.list (by first | decide | lia | omega) (by first | decide | lia | omega) ?c5) rfl (by intro _ _; first | exact .inl rfl | exact .inr rfl)) (.inl (by kernel_rfl)) (by rfl)) ?_
  case c1 => exact Ev.call_t (T := "range") (by kernel_rfl) (by kernel_rfl) (by kernel_rfl) (EvL.cons rfl Ev.int EvL.nil) CallV.range1 rfl (by rfl) (by decide +kernel) (by kernel_rfl)
  case c2 => exact Seen.cons (by got_up) (by kernel_rfl) (by kernel_rfl) (by kernel_rfl) Seen.nil
  case c3 =>
    intro C i hi
    refine ⟨Tests.one (Tr.to (Tr.cmp (a := .int (([a, b, c'] : List Nat).getD i 0 : Nat)) (b := .list [PV.int (0 : Nat), .int (127 : Nat)]) (Ev.sub (o := nL [a, b, c']) (i := .int (i : Nat)) (by one_item) (by one_item) (GetV.list (by first | decide | lia | omega) (by first | decide | lia | omega) (nL_getD (by simpa using hi))) rfl (by intro _ _; first | exact .inl rfl | exact .inr rfl)) (Ev.list (EvL.cons rfl Ev.int (EvL.cons rfl Ev.int EvL.nil)) (szL 2 (by first | decide | lia | omega))) (CmpV.mem 0 0 rfl rfl (by first | decide | lia | omega) (by first | decide | lia | omega) hcu) (by kernel_rfl)) ?_), fun o ho => ?_⟩
    · rw [in2]
      show endsR [a, b, c'] i = _
      cases endsR [a, b, c'] i <;> rfl
    · cases h : endsR [a, b, c'] i with
      | false => rw [h] at ho; cases ho
      | true =>
        rw [h] at ho; cases ho
        one_item
  case c4 => exact szL _ (by have := List.length_filterMap_le (fun i => if endsR [a, b, c'] i then some (PV.int (i : Nat)) else Option.none) (List.range 3); simp at this ⊢; (first | lia | omega))
  case c5 =>
    show (_ : List PV)[0]? = _
    have e3 : List.range 3 = [0, 1, 2] := by decide
    rw [e3]
    unfold stopN
    cases h0 : endsR [a, b, c'] 0 <;> cases h1 : endsR [a, b, c'] 1 <;> cases h2 : endsR [a, b, c'] 2 <;> simp [h0, h1, h2]
  have h0 : endsR [a, b, c'] 0 = false := by
    unfold endsR
    simpa using ha
  have hst1 : 1 ≤ stopN [a, b, c'] := by
    unfold stopN
    rw [h0]
    simp
    split
    · (first | lia | omega)
    · split <;> (first | lia | omega)
  have hst3 := stopN_le [a, b, c']
  have hlen : (([a, b, c'] : List Nat).take (stopN [a, b, c'])).length = stopN [a, b, c'] := by rw [List.length_take]; simp; (first | lia | omega)
  generalize hst : stopN [a, b, c'] = st at *
  have hsz12 : (sizesN [a, b, c']).length ≤ 12 := by
    unfold sizesN
    rw [hst]
    split
    · rw [List.length_append, hlen, List.length_replicate]; (first | lia | omega)
    · rw [hlen]; (first | lia | omega)
  refine Fx.cons (ρ₁ := [("sizes", nL (([a, b, c'] : List Nat).take st)), ("stop", .int (st : Nat)), ("ruler", nL [a, b, c']), ("writing", .str (S x))]) (Sx.assign (d := nL (([a, b, c'] : List Nat).take st)) (Ev.to (Ev.sub (o := nL [a, b, c']) (i := .slice Option.none (some (st : Nat)) Option.none) (by one_item) (Ev.slice PartIs.none (PartIs.some (by one_item)) PartIs.none) (GetV.slice_list (by simp) (szL 3 (by first | decide | lia | omega))) rfl (by intro _ _; first | exact .inl rfl | exact .inr rfl)) (congrArg PV.list (pick_nL _ _))) (.inr ⟨by kernel_rfl, ⟨_, rfl⟩⟩) (by rfl)) ?_
  refine Fx.cons (ρ₁ := [("sizes", nL (sizesN [a, b, c'])), ("stop", .int (st : Nat)), ("ruler", nL [a, b, c']), ("writing", .str (S x))]) (Sx.if_dec (b := decide (st < 3 ∧ ([a, b, c'] : List Nat).getD st 0 = 0)) ?ht (fun h => ?bt) fun h => ?bf) ?_
  case ht =>
    by_cases h3 : st < 3
    · refine Tr.to (Tr.and_t (Tr.to (Tr.cmp (a := .int (st : Nat)) (b := .int (3 : Nat)) (by one_item) Ev.int CmpV.lt (by kernel_rfl)) (by simp; (first | lia | omega))) (Tr.and_cons (Tr.cmp (a := .int (([a, b, c'] : List Nat).getD st 0 : Nat)) (b := .int (0 : Nat)) (Ev.sub (o := nL [a, b, c']) (i := .int (st : Nat)) (by one_item) (by one_item) (GetV.list (by first | decide | lia | omega) (by first | decide | lia | omega) (nL_getD (by simpa using h3))) rfl (by intro _ _; first | exact .inl rfl | exact .inr rfl)) Ev.int (CmpV.eq 0 0 rfl rfl (by first | decide | lia | omega) (by first | decide | lia | omega) (by first | decide | lia | omega)) (by kernel_rfl)) Tr.and_nil)) ?_
      rw [eqv_ints, Bool.and_true, Bool.eq_iff_iff]
      simp only [decide_eq_true_eq]
      (first | lia | omega)
    · refine Tr.to (Tr.and_f (Tr.to (Tr.cmp (a := .int (st : Nat)) (b := .int (3 : Nat)) (by one_item) Ev.int CmpV.lt (by kernel_rfl)) (by simp; (first | lia | omega)))) ?_
      rw [eq_comm, decide_eq_false_iff_not]
      exact fun h => h3 h.1
  case bt =>
    have h := of_decide_eq_true h
    have hnz : 0 < (([a, b, c'] : List Nat).take st).length := by rw [hlen]; (first | lia | omega)
    have e : sizesN [a, b, c'] = ([a, b, c'] : List Nat).take st ++ List.replicate 9 ((([a, b, c'] : List Nat).take st).getLastD 0) := by
      unfold sizesN
      rw [hst, if_pos h]
    rw [e]
    refine Nx.less (Nx.cons (Sx.assign (d := nL (([a, b, c'] : List Nat).take st ++ List.replicate 9 ((([a, b, c'] : List Nat).take st).getLastD 0))) (Ev.to (Ev.bin (a := nL (([a, b, c'] : List Nat).take st)) (by one_item) (Ev.bin (Ev.list (EvL.cons rfl (Ev.sub (o := nL (([a, b, c'] : List Nat).take st)) (i := .int (-1)) (d := .int ((([a, b, c'] : List Nat).take st).getLastD 0 : Nat)) (by one_item) Ev.neg (GetV.list_neg (by first | decide | lia | omega) (by rw [List.length_map]; (first | lia | omega)) (by first | decide | lia | omega) ?hl) rfl (by intro _ _; first | exact .inl rfl | exact .inr rfl)) EvL.nil) (szL 1 (by first | decide | lia | omega))) Ev.int (BinV.mul_list (by first | decide | lia | omega) (by first | decide | lia | omega) (by decide))) (BinV.add_list ?hz)) ?he) (.inr ⟨by kernel_rfl, ⟨_, rfl⟩⟩) (by rfl)) Nx.nil) (by one_place)
    case hl =>
      rw [List.length_map, show ((-1 : Int) + ((([a, b, c'] : List Nat).take st).length : Nat)).toNat = (([a, b, c'] : List Nat).take st).length - 1 by (first | lia | omega)]
      exact last_nL hnz
    case hz => rw [List.length_map, hlen, List.length_replicate]; exact szL _ (by simp; (first | lia | omega))
    case he =>
      show PV.list _ = PV.list (List.map _ (_ ++ _))
      rw [List.map_append, List.map_replicate]
      rfl
  case bf =>
    have e : sizesN [a, b, c'] = ([a, b, c'] : List Nat).take st := by
      unfold sizesN
      rw [hst, if_neg (of_decide_eq_false h)]
    rw [e]
    exact Nx.nil
  generalize hsizes : sizesN [a, b, c'] = sz at *
  have hcl : cutsN [a, b, c'] = (((List.range (sz.length + 1)).map fun i => (sz.take i).sum).filter fun c => decide (c < 9)) ++ [9] := by
    unfold cutsN sumsN
    rw [hsizes]
  refine Fx.cons (ρ₁ := [("cuts", nL ((List.range (sz.length + 1)).map fun i => (sz.take i).sum)), ("writing", .str (S x))]) (Sx.less (Sx.assign (d := nL ((List.range (sz.length + 1)).map fun i => (sz.take i).sum)) (Ev.to (Ev.comp_range (n := sz.length + 1) (ρ' := [("sizes", nL sz)]) (fun i => some (PV.int ((sz.take i).sum : Nat))) hhL ?d1 (by first | decide | lia | omega) rfl (by kernel_rfl) (by kernel_rfl) (by kernel_rfl) (fun _ => by kernel_rfl) (fun _ => by kernel_rfl) (by kernel_rfl) ?d2 ?d3 (by intro _; rfl)) ?d4) (.inr ⟨by kernel_rfl, ⟨_, rfl⟩⟩) (by rfl)) (by one_place)) ?_
  case d1 =>
    refine Ev.call_t (T := "range") (by kernel_rfl) (by kernel_rfl) (by kernel_rfl) (EvL.cons rfl (Ev.to (Ev.bin (a := .int (sz.length : Nat)) (b := .int (1 : Nat)) (Ev.to (Ev.call_b (id := "len") (by kernel_rfl) (by kernel_rfl) (by kernel_rfl) (EvL.cons rfl (d := nL sz) (by one_item) EvL.nil) (CallV.len_list (by rw [List.length_map]; (first | lia | omega))) rfl (by rfl) (by decide +kernel) (by kernel_rfl)) (by rw [List.length_map])) Ev.int BinV.add) (d' := .int ((sz.length + 1 : Nat) : Int)) (by rfl)) EvL.nil) CallV.range1 rfl (by rfl) (by decide +kernel) (by kernel_rfl)
  case d2 => exact Seen.cons (by got_up) (by kernel_rfl) (by kernel_rfl) (by kernel_rfl) Seen.nil
  case d3 =>
    intro C i hi
    refine ⟨Tests.nil, fun o ho => ?_⟩
    cases ho
    refine Ev.to (Ev.call_b (id := "sum") (by kernel_rfl) (by kernel_rfl) (by kernel_rfl) (EvL.cons rfl (d := .list (pI ((sz.take i).map fun n : Nat => (n : Int)))) (Ev.to (Ev.sub (o := nL sz) (i := .slice Option.none (some (i : Nat)) Option.none) (by one_item) (Ev.slice PartIs.none (PartIs.some (by one_item)) PartIs.none) (GetV.slice_list (by simp) (by rw [List.length_map]; exact szL _ (by first | decide | lia | omega))) rfl (by intro _ _; first | exact .inl rfl | exact .inr rfl)) ?s1) EvL.nil) (CallV.sum hh) rfl (by rfl) (by decide +kernel) (by kernel_rfl)) (by rw [sum_cast])
    case s1 =>
      rw [pick_nL]
      unfold pI
      rw [List.map_map]
      rfl
  case d4 =>
    show PV.list _ = PV.list _
    rw [List.filterMap_eq_map', List.map_map]
    rfl
  have hc2 : ((List.range (sz.length + 1)).map fun i => (sz.take i).sum).length ≤ 13 := by rw [List.length_map, List.length_range]; (first | lia | omega)
  generalize hsums : ((List.range (sz.length + 1)).map fun i => (sz.take i).sum) = sums at *
  refine Fx.cons (ρ₁ := [("cuts", nL (sums.filter (fun c => decide (c < 9)) ++ [9])), ("writing", .str (S x))]) (Sx.less (Sx.assign (d := nL (sums.filter (fun c => decide (c < 9)) ++ [9])) (Ev.to (Ev.bin (a := .list ((sums.map fun n : Nat => PV.int (n : Int)).filterMap fun d => match d with | .int i => if i < 9 then some (.int i) else Option.none | _ => Option.none)) (Ev.comp1 (isl := true) (src := nL sums) (ρ' := []) (fun d => match d with | .int i => if i < 9 then some (.int i) else Option.none | _ => Option.none) (by one_item) (IterV.list hhL) rfl (by kernel_rfl) (by kernel_rfl) (by kernel_rfl) (fun _ => by kernel_rfl) (fun _ => by kernel_rfl) (by kernel_rfl) Seen.nil ?e1 ?e2 (by intro _; rfl)) (Ev.list (EvL.cons rfl (d := .int (9 : Nat)) Ev.int EvL.nil) (szL 1 (by first | decide | lia | omega))) (BinV.add_list ?e3)) ?e4) (.inr ⟨by kernel_rfl, ⟨_, rfl⟩⟩) (by rfl)) (by one_place)) ?_
  case e1 =>
    intro C d hd
    obtain ⟨n, _, rfl⟩ := List.mem_map.mp hd
    refine ⟨Tests.one (Tr.to (Tr.cmp (a := .int (n : Nat)) (b := .int (9 : Nat)) (by one_item) Ev.int CmpV.lt (by kernel_rfl)) ?_), fun o ho => ?_⟩
    · show decide ((n : Int) < 9) = Option.isSome (if (n : Int) < 9 then some (PV.int n) else Option.none)
      by_cases h : (n : Int) < 9 <;> simp [h]
    · by_cases h : (n : Int) < 9
      · have ho : (if (n : Int) < 9 then some (PV.int n) else Option.none) = some o := ho
        rw [if_pos h] at ho; cases ho
        one_item
      · have ho : (if (n : Int) < 9 then some (PV.int n) else Option.none) = some o := ho
        rw [if_neg h] at ho; cases ho
  case e2 => rw [List.length_map]; exact szL _ (by first | decide | lia | omega)
  case e3 => have := List.length_filterMap_le (fun d => match d with | PV.int i => if i < 9 then some (PV.int i) else Option.none | _ => Option.none) (sums.map fun n : Nat => PV.int (n : Int)); exact szL _ (by simp at this ⊢; (first | lia | omega))
  case e4 =>
    show PV.list _ = PV.list (List.map _ (_ ++ _))
    rw [List.map_append, List.filterMap_map]
    congr 2
    clear hsums hcl hc2
    induction sums with
    | nil => rfl
    | cons a l ih =>
      rw [List.filterMap_cons, List.filter_cons]
      by_cases h : a < 9
      · have h' : (a : Int) < 9 := by (first | lia | omega)
        simp [h, h'] at ih ⊢
        exact ih
      · have h' : ¬ (a : Int) < 9 := by (first | lia | omega)
        simp [h, h'] at ih ⊢
        exact ih
  have hdue : dueL x [a, b, c'] = (List.range ((sums.filter (fun c => decide (c < 9)) ++ [9]).length - 1)).map fun i => (x.drop ((sums.filter (fun c => decide (c < 9)) ++ [9]).getD i 0)).take ((sums.filter (fun c => decide (c < 9)) ++ [9]).getD (i + 1) 0 - (sums.filter (fun c => decide (c < 9)) ++ [9]).getD i 0) := by
    unfold dueL
    rw [hcl]
  rw [hdue]
  have hc3 : (sums.filter (fun c => decide (c < 9)) ++ [9]).length ≤ 14 := by
    have := List.length_filter_le (fun c => decide (c < 9)) sums
    simp; (first | lia | omega)
  have hc4 : 1 ≤ (sums.filter (fun c => decide (c < 9)) ++ [9]).length := by simp
  generalize hcuts : sums.filter (fun c => decide (c < 9)) ++ [9] = cuts at *
  refine Fx.ret (Ev.to (Ev.comp_range (n := cuts.length - 1) (ρ' := [("cuts", nL cuts), ("writing", .str (S x))]) (fun i => some (PV.str (S ((x.drop (cuts.getD i 0)).take (cuts.getD (i + 1) 0 - cuts.getD i 0))))) hhL ?f1 (by first | decide | lia | omega) rfl (by kernel_rfl) (by kernel_rfl) (by kernel_rfl) (fun _ => by kernel_rfl) (fun _ => by kernel_rfl) (by kernel_rfl) ?f2 ?f3 (by intro _; rfl)) ?f4)
  case f1 =>
    refine Ev.call_t (T := "range") (by kernel_rfl) (by kernel_rfl) (by kernel_rfl) (EvL.cons rfl (Ev.to (Ev.bin (a := .int (cuts.length : Nat)) (b := .int (1 : Nat)) (Ev.to (Ev.call_b (id := "len") (by kernel_rfl) (by kernel_rfl) (by kernel_rfl) (EvL.cons rfl (d := nL cuts) (by one_item) EvL.nil) (CallV.len_list (by rw [List.length_map]; (first | lia | omega))) rfl (by rfl) (by decide +kernel) (by kernel_rfl)) (by rw [List.length_map])) Ev.int BinV.sub) (d' := .int ((cuts.length - 1 : Nat) : Int)) (by congr 1; (first | lia | omega))) EvL.nil) CallV.range1 rfl (by rfl) (by decide +kernel) (by kernel_rfl)
  case f2 => exact Seen.cons (by got_up) (by kernel_rfl) (by kernel_rfl) (by kernel_rfl) (Seen.cons (by got_up) (by kernel_rfl) (by kernel_rfl) (by kernel_rfl) Seen.nil)
  case f3 =>
    intro C i hi
    refine ⟨Tests.nil, fun o ho => ?_⟩
    cases ho
    refine Ev.to (Ev.sub (o := .str (S x)) (i := .slice (some (cuts.getD i 0 : Nat)) (some (cuts.getD (i + 1) 0 : Nat)) Option.none) (by one_item) (Ev.slice (PartIs.some (Ev.sub (o := nL cuts) (i := .int (i : Nat)) (by one_item) (by one_item) (GetV.list (by first | decide | lia | omega) (by first | decide | lia | omega) (nL_getD (by first | decide | lia | omega))) rfl (by intro _ _; first | exact .inl rfl | exact .inr rfl)))
      (PartIs.some (Ev.sub (o := nL cuts) (i := .int ((i + 1 : Nat) : Int)) (by one_item) (Ev.to (Ev.bin (a := .int (i : Nat)) (b := .int (1 : Nat)) (by one_item) Ev.int BinV.add) (by rfl)) (GetV.list (by first | decide | lia | omega) (by first | decide | lia | omega) (nL_getD (by first | decide | lia | omega))) rfl (by intro _ _; first | exact .inl rfl | exact .inr rfl))) PartIs.none) (GetV.slice_str hsz) rfl (by intro _ _; first | exact .inl rfl | exact .inr rfl)) (congrArg PV.str (slice_mid _ _ _))
  case f4 =>
    show PV.list _ = PV.list _
    rw [List.filterMap_eq_map', List.map_map]
    rfl
end
end Mine
end

section
open PySem PySem.W PyProof.Rows PySem.Builtin
set_option Elab.async false
set_option maxRecDepth 100000
set_option linter.all false
namespace Mine
section
variable {k : Bool} {w : World} {A : Around} {c : Cx} {ρ ρ' : REnv} {g g' : Vw} {s s' : Shared}
/-- a for loop: ρs: the environments; X, H: further hidden things and what is known of them -/
theorem forN_V {x : Str} {px : Pos} {iter : Expr} {isl : Bool} {body : List Stmt} {pos : Pos} {src : PV} {ds : List PV} (ρs : Nat → REnv) (X : Addr → Prop) (H : Nat → Vw → Heap → Prop)
    (h1 : Ev k c (ρs 0) iter src) (hI : IterV c.w c.A isl src ds)
    (hk : CanStore c x)
    (hX : ∀ i g h, H i g h → ∀ b, X b → h.get? b ≠ none ∧ ¬ Own c b) (hH : ∀ i g g' h h', H i g h → Le g g' → (∀ b o, X b → h.get? b = some o → h'.get? b = some o) → Le g' h'.get? → H i g' h')
    (hbody : ∀ i d, ds[i]? = some d → ∀ (g : Vw) (s : Shared) (Q : Flow → Shared → Prop) (E : Value → Shared → Prop), FrOK c ((x, d) :: ρs i) g s → H i g s.heap → (∀ b, X b → g b = none) →
      (∀ g' s', SS (fun b => Own c b ∨ X b) k g s g' s' → FrOK c (ρs (i + 1)) g' s' → H (i + 1) g' s'.heap → Q .next s') → Wp c (execs body c.env) Q E s)
    {Q : Flow → Shared → Prop} {E : Value → Shared → Prop} (F : FrOK c (ρs 0) g s) (hh : H 0 g s.heap) (hid : ∀ b, X b → g b = none)
    (hQ : ∀ g' s', SS (fun b => Own c b ∨ X b) k g s g' s' → FrOK c (ρs ds.length) g' s' → H ds.length g' s'.heap → Q .next s')
    (hs : ∀ x, foldedSetIterable iter c.env x = pure x := by intro _; rfl) : Wp c (exec (.For (.Name x px) iter body [] pos) c.env) Q E s := by
  refine wpAny_For (h1 g s _ E F.env F.le fun v g₀ s₀ st₀ r₀ => hI g₀ s₀ v _ E (F.env.base.mono st₀.up) st₀.sub r₀ fun it s₃ W => ?_) hs
  obtain ⟨⟨I, fp, wr, P, St, rfl, W, hst, hfp, hwr, hSt, hisl, hfg, hP⟩, hle, hrest⟩ := W
  have F₀ := F.step st₀
  have X₀ := fun b hb => (hX 0 _ _ hh b hb)
  have hid₀ : ∀ b, X b → g₀ b = none := fun b hb => st₀.hides (hid b hb) (X₀ b hb).1
  have hh₀ : H 0 g₀ s₀.heap := hH 0 _ _ _ _ hh st₀.up (fun b o _ e => st₀.heap b o e) st₀.sub
  have hg : ∀ b ∈ wr, g₀ b = none := fun b hb => st₀.sub.none (hwr b hb)
  have wrOwn : ∀ b ∈ wr, ¬ Own c b := fun b hb ho => F₀.has b ho (hwr b hb)
  have wrX : ∀ b ∈ wr, ¬ X b := fun b hb hx => (hX 0 _ _ hh₀ b hx).1 (hwr b hb)
  have wrs : ∀ b ∈ wr, s.heap.get? b = none := fun b hb => by
    cases q : s.heap.get? b with
    | none => rfl
    | some o => have := st₀.heap b o q; rw [hwr b hb] at this; cases this
  have fpO : ∀ b, b ∈ fp → b ∉ wr → g₀ b ≠ none := fun b hb hw => (hfg b hb).resolve_left hw
  have fpOwn : ∀ b, b ∈ fp → ¬ Own c b := fun b hb ho => by
    rcases hfg b hb with h | h
    · exact wrOwn b h ho
    · exact h (F₀.hid b ho)
  have fpX : ∀ b, b ∈ fp → ¬ X b := fun b hb ho => by
    rcases hfg b hb with h | h
    · exact wrX b h ho
    · exact h (hid₀ b ho)
  have ss₀ : SS (fun b => Own c b ∨ X b) k g s g₀ s₀ := SS.of st₀ fun b hb => by rcases hb with hb | hb; exact F.has b hb; exact (X₀ b hb).1
  have ss₃ : SS (fun b => Own c b ∨ X b) k g s g₀ s₃ := ss₀.touch (Z := fun _ => False) (fun b o _ e => hle b o e) (fun _ h => h.elim) (fun _ h => h.elim) hrest.any
  have F₃ : FrOK c (ρs 0) g₀ s₃ := F₀.keep (Z := fun _ => False) (fun b o _ e => hle b o e) (fun _ h => h.elim)
  have hh₃ : H 0 g₀ s₃.heap := hH 0 _ _ _ _ hh₀ (Le.refl _) (fun b o _ e => hle b o e) F₃.le
  refine for_loop (fun n s₁ => ∃ i g₁, n = ds.length + 1 - i ∧ i ≤ ds.length ∧ SS (fun b => Own c b ∨ X b) k g s g₁ s₁ ∧ Le g₀ g₁ ∧ FrOK c (ρs i) g₁ s₁ ∧ H i g₁ s₁.heap ∧ (∀ b, X b → g₁ b = none) ∧ (∀ b ∈ wr, g₁ b = none) ∧ St i s₁.heap) ?_ (ds.length + 1)
    ⟨0, g₀, rfl, Nat.zero_le _, ss₃, Le.refl _, F₃, hh₃, hid₀, hg, hst⟩
  rintro n s₁ ⟨i, g₁, rfl, hi, ss₁, hgg, F₁, hh₁, hid₁, hwr₁, hst₁⟩
  by_cases hlt : i < ds.length
  · refine W.item i _ _ _ hlt hst₁ fun v h₂ tk₂ hPv hst₂ hk₂ => ?_
    have hk₂' : ∀ b o, ¬ (b ∈ wr) → s₁.heap.get? b = some o → h₂.get? b = some o := hk₂
    have ss₂ : SS (fun b => Own c b ∨ X b) k g s g₁ { s₁ with heap := h₂, toks := tk₂ } := ss₁.touch (Z := fun b => b ∈ wr) hk₂' (fun b hb => .inr (wrs b hb)) hwr₁ (Rest.same _ _ _ _)
    have F₂ : FrOK c (ρs i) g₁ { s₁ with heap := h₂, toks := tk₂ } := F₁.keep (Z := fun b => b ∈ wr) hk₂' fun b hb => ⟨hwr₁ b hb, wrOwn b hb⟩
    have hh₂ : H i g₁ h₂ := hH i _ _ _ _ hh₁ (Le.refl _) (fun b o hb e => hk₂' b o (fun h => wrX b h hb) e) F₂.le
    obtain ⟨d, hd, rd⟩ := hP i v hlt hPv
    have hmem : d ∈ ds := List.mem_of_getElem? hd
    refine wpAny_of_eq (a := ()) rfl (wpAny_assign_Name (store_V (k := k) F₂ (rd.mono hgg) hk fun s₄ st₄ F₄ => ?_))
    have ss₄ : SS (fun b => Own c b ∨ X b) k g s g₁ s₄ := ss₂.trans ⟨fun b o hb e => st₄.heap b o (fun q => hb (.inl q)) e, st₄.up, st₄.sub, fun b o e => .inl e, st₄.rest⟩
    have hh₄ : H i g₁ s₄.heap := hH i _ _ _ _ hh₂ (Le.refl _) (fun b o hb e => st₄.heap b o (fun h => (hX i _ _ hh₂ b hb).2 h) e) F₄.le
    have hst₄ : St (i + 1) s₄.heap := W.frame _ _ _ hst₂ fun b hb o e => st₄.heap b o (fpOwn b hb) e
    have wrh₄ : ∀ b ∈ wr, s₄.heap.get? b ≠ none := fun b hb => hSt _ _ hst₄ b hb
    refine hbody i d hd g₁ _ _ _ F₄ hh₄ hid₁ fun g₅ s₅ ss₅ F₅ hh₅ => ?_
    refine ⟨ds.length + 1 - (i + 1), by omega, i + 1, g₅, rfl, hlt, ss₄.trans ss₅, hgg.trans ss₅.up, F₅, hh₅, fun b hb => ss₅.hides (hid₁ b hb) (hX i _ _ hh₄ b hb).1, fun b hb => ss₅.hides (hwr₁ b hb) (wrh₄ b hb), ?_⟩
    exact W.frame _ _ _ hst₄ fun b hb o e => ss₅.heap b o (fun h => by rcases h with h | h; exact fpOwn b hb h; exact fpX b hb h) e
  · have hin : i = ds.length := by omega
    subst hin
    refine W.done _ _ _ hst₁ fun h₂ tk₂ hk₂ => ?_
    have hk₂' : ∀ b o, ¬ (b ∈ wr) → s₁.heap.get? b = some o → h₂.get? b = some o := hk₂
    have F₂ : FrOK c (ρs ds.length) g₁ { s₁ with heap := h₂, toks := tk₂ } := F₁.keep (Z := fun b => b ∈ wr) hk₂' fun b hb => ⟨hwr₁ b hb, wrOwn b hb⟩
    exact hQ g₁ _ (ss₁.touch (Z := fun b => b ∈ wr) hk₂' (fun b hb => .inr (wrs b hb)) hwr₁ (Rest.same _ _ _ _)) F₂ (hH _ _ _ _ _ hh₁ (Le.refl _) (fun b o hb e => hk₂' b o (fun h => wrX b h hb) e) F₂.le)

theorem Sx.forN {x : Str} {px : Pos} {iter : Expr} {isl : Bool} {body : List Stmt} {pos : Pos} {src : PV} {ds : List PV} (ρs : Nat → REnv)
    (h1 : Ev k c (ρs 0) iter src) (hI : IterV c.w c.A isl src ds) (hk : CanStore c x)
    (hbody : ∀ i d, ds[i]? = some d → Nx k c ((x, d) :: ρs i) body (ρs (i + 1)))
    (hs : ∀ x, foldedSetIterable iter c.env x = pure x := by intro _; rfl) : Sx k c (ρs 0) (.For (.Name x px) iter body [] pos) (ρs ds.length) := fun g s Q E F h => by
  have e : (fun b => Own c b ∨ (fun _ : Addr => False) b) = Own c := by funext b; simp
  refine forN_V ρs (fun _ => False) (fun _ _ _ => True) h1 hI hk (fun _ _ _ _ b hb => hb.elim) (fun _ _ _ _ _ _ _ _ _ => trivial) (fun i d hd g s Q E F _ _ h => hbody i d hd g s Q E F fun g' s' st F' => h g' s' ?_ F' trivial) F trivial (fun _ h => h.elim) (fun g' s' st F' _ => h g' s' ?_ F') hs
  · rw [e]; exact st
  · rw [e] at st; exact st
end
end Mine
end

section
open PySem PySem.W PyProof.Rows PySem.Builtin
set_option Elab.async false
set_option maxRecDepth 100000
set_option linter.all false
namespace Mine
section
variable {k : Bool} {w : World} {A : Around} {c : Cx} {ρ ρ₁ ρ' : REnv} {g g' : Vw} {s s' : Shared}
/-- a test during which the frame itself may turn -/
noncomputable def TrO (k : Bool) (c : Cx) (ρ : REnv) (e : Expr) (b : Bool) : Prop :=
  ∀ (g : Vw) (s : Shared) (Q : Bool → Shared → Prop) (E : Value → Shared → Prop), FrOK c ρ g s → (∀ g' s', SS (Own c) k g s g' s' → FrOK c ρ g' s' → Q b s') → Wp c (isTrue e c.env (eval e c.env)) Q E s
noncomputable def EvO (k : Bool) (c : Cx) (ρ : REnv) (e : Expr) (d : PV) : Prop :=
  ∀ (g : Vw) (s : Shared) (Q : Value → Shared → Prop) (E : Value → Shared → Prop), FrOK c ρ g s → (∀ v g' s', SS (Own c) k g s g' s' → FrOK c ρ g' s' → Rep c.w.params g' v d → Q v s') → Wp c (eval e c.env) Q E s
theorem TrO.of {e : Expr} {b : Bool} (h : Tr k c ρ e b) : TrO k c ρ e b := fun g s Q E F hQ => h g s Q E F.env F.le fun g' s' st => hQ g' s' (F.ss st) (F.step st)
theorem TrO.or_f {x : Expr} {rest : List Expr} {pos : Pos} {b : Bool} (h1 : TrO k c ρ x false) (h2 : TrO k c ρ (.BoolOp .Or rest pos) b) : TrO k c ρ (.BoolOp .Or (x :: rest) pos) b := fun g s Q E F h =>
  isTrue_or (h1 g s _ E F fun g' s' st F' => h2 g' s' Q E F' fun g'' s'' st' F'' => h g'' s'' (st.trans st') F'')
theorem TrO.or_nil {pos : Pos} : TrO k c ρ (.BoolOp .Or [] pos) false := TrO.of Tr.or_nil
theorem TrO.cmp {l r : Expr} {op : CmpOp} {pos : Pos} {a b : PV} {d : Bool} (h1 : EvO k c ρ l a) (h2 : Ev k c ρ r b) (h3 : CmpV k c op a b d) (hm : behindInMarks op r = false) : TrO k c ρ (.Compare l [op] [r] pos) d := fun g s Q E F h =>
  wpAny_isTrue_Compare1 (h1 g s _ E F fun va g' s' st F' ra => h2 g' s' _ E F'.env F'.le fun vb g'' s'' st' rb => h3 g'' s'' va vb _ E (F'.env.base.mono st'.up) st'.sub (ra.mono st'.up) rb fun g3 s3 st3 => wpAny_truthy_bool (h g3 s3 (st.trans (F'.ss (st'.trans st3))) (F'.step (st'.trans st3)))) hm
theorem Sx.if_fO {test : Expr} {body : List Stmt} {pos : Pos} (h1 : TrO k c ρ test false) : Sx k c ρ (.If test body [] pos) ρ := fun g s Q E F h =>
  wpAny_If (h1 g s _ E F fun g' s' st F' => wpAny_execs_nil (h g' s' st F'))
theorem EvO.call {f : Str} {np cpos : Pos} {fa : Addr} {o : Obj} {fd : FuncData} {e : Expr} {rest : List Expr} {ds : List PV} {d : PV} (hfr : c.A.frames = some [c.env]) (hfl : c.env.frame = some c.env.locals)
    (hk : c.env.kindOf f = some .globalImplicit) (hv : nsIn (KF c.w) mainGlobals f = some (some (.ref fa))) (ho : (KF c.w).lookup fa = some o) (hf : o.data = .func fd)
    (h1 : EvL k c ρ (e :: rest) ds) (h2 : CallF k c.w c.A (.ref fa) ds d) (he : starEach (e :: rest) c.env = (false, eval e c.env) :: starEach rest c.env)
    (hd : (f == ("__debug__" : Str)) = false) : EvO k c ρ (.Call (.Name f np) (e :: rest) [] cpos) d := fun g s Q E F h => by
  refine Call_ (ld_glob F.env F.le hk hv (callWith_def hf (h1 cpos g s _ E F.env F.le fun vs g' s' st r => ⟨(F.env.base.mono st.up).kin st.sub _ _ ho, ?_⟩) he) hd)
  have F' := F.step st
  obtain ⟨m, hns, _⟩ := F'.env.loc
  have fr : FramesOK s' [c.env.locals] [c.env] := FramesOK.inner (fs := []) (envs := []) (s := s') ⟨fun _ h => by cases h⟩ (fun _ _ q => q) (by rw [F.env.fn]; decide) hfl hns
  have hown : Own c c.env.locals := .inl rfl
  refine h2 g' s' [c.env.locals] [c.env] vs _ E hfr fr (fun b hb => List.mem_singleton.mp hb ▸ F'.hid _ hown) (fun b hb => List.mem_singleton.mp hb ▸ F'.has _ hown) F'.env.base F'.le r fun v g2 s2 st2 t2 r2 => ?_
  have F2 := F'.turn st2 t2
  have ss2 : SS (Own c) k g' s' g2 s2 := ⟨fun b o hb q => st2.heap b o (fun z => hb (List.mem_singleton.mp z ▸ hown)) q, st2.up, st2.sub, fun b o q => (st2.new b o q).imp id fun z => ⟨z.1, fun y => F'.has b y z.1⟩, st2.rest⟩
  exact h v g2 s2 ((F.ss st).trans ss2) F2 r2

/-- the frame of law -/
@[irreducible] noncomputable def lc (w : World) (A : Around) (L : Addr) : Cx := fc w A 158 L
theorem lc_eq (w : World) (A : Around) (L : Addr) : lc w A L = fc w A 158 L := by unfold lc; rfl
noncomputable abbrev cellOf (c : Cx) (x : Str) : Str × Addr := (x, (c.env.cells.lookup x).getD 0)
theorem CanStore.cellIn {x : Str} (h1 : c.env.kindOf x = some .cell) (h2 : c.env.cells.lookup x = some ((c.env.cells.lookup x).getD 0)) : CanStore c x := .inr ⟨h1, _, h2⟩
/-- Fx, not to be unfolded -/
@[irreducible] def FxI (k : Bool) (c : Cx) (ρ : REnv) (r : List Stmt) (d : PV) : Prop := Fx k c ρ r d
theorem FxI.of {r : List Stmt} {d : PV} (h : Fx k c ρ r d) : FxI k c ρ r d := by unfold FxI; exact h
theorem FxI.out {r : List Stmt} {d : PV} (h : FxI k c ρ r d) : Fx k c ρ r d := by unfold FxI at h; exact h
@[irreducible] def SxI (k : Bool) (c : Cx) (ρ : REnv) (t : Stmt) (ρ' : REnv) : Prop := Sx k c ρ t ρ'
theorem SxI.of {t : Stmt} (h : Sx k c ρ t ρ') : SxI k c ρ t ρ' := by unfold SxI; exact h
theorem SxI.out {t : Stmt} (h : SxI k c ρ t ρ') : Sx k c ρ t ρ' := by unfold SxI at h; exact h
theorem FxI.cons {t : Stmt} {r : List Stmt} {d : PV} (ρ₂ : REnv) (h1 : SxI k c ρ t ρ₁) (hsub : Sub ρ₂ ρ₁) (h2 : FxI k c ρ₂ r d) : FxI k c ρ (t :: r) d := FxI.of (Fx.cons (Sx.less h1.out hsub) h2.out)
@[irreducible] def EvI (k : Bool) (c : Cx) (ρ : REnv) (e : Expr) (d : PV) : Prop := Ev k c ρ e d
theorem EvI.of {e : Expr} {d : PV} (h : Ev k c ρ e d) : EvI k c ρ e d := by unfold EvI; exact h
theorem EvI.out {e : Expr} {d : PV} (h : EvI k c ρ e d) : Ev k c ρ e d := by unfold EvI at h; exact h
theorem FxI.assign {x : Str} {px pos : Pos} {value : Expr} {d d' : PV} {r : List Stmt} (ρ₂ : REnv) (h1 : EvI k c ρ value d) (hk : CanStore c x) (hs : swapsWith value (some (.Name x px)) pos.line c.env = pure false) (hsub : Sub ρ₂ ((x, d) :: ρ)) (h2 : FxI k c ρ₂ r d') :
    FxI k c ρ (.Assign [.Name x px] value pos :: r) d' := FxI.of (Fx.cons (Sx.less (Sx.assign h1.out hk hs) hsub) h2.out)
theorem pick_map {α β : Type} (f : α → β) (l : List α) (lo hi st : Option Int) : pick (l.map f) lo hi st = (pick l lo hi st).map f := by
  unfold pick
  rw [List.length_map, List.map_filterMap]
  congr 1
  funext i
  rw [List.getElem?_map]
/-- the numbers of the script from place i on, every fourth -/
noncomputable def cellZ (l : List Int) (i : Nat) : Int := ([122718527721, 160, 14596, 41] : List Int).getD i 0 + (pick l (some (i : Int)) Option.none (some 4)).sum
noncomputable def figN (t : List Nat) (z : Int) : Nat := t.getD (z.fmod (t.length : Int)).toNat 0
noncomputable def rulerN (c1 : Int) : List Nat := [figN [2, 3, 4, 2, 3] c1, figN [2, 3, 0, 127, 4] (c1.fdiv 5), figN [2, 3, 0, 127, 4] (c1.fdiv 25)]
noncomputable def signsN (c3 : Int) : List Nat := [46, 97, 11, (47 + c3.fmod 55000).toNat]
noncomputable def writeN (c2 c3 : Int) : List Nat := (List.range 9).map fun i => figN (signsN c3) (c2.fdiv (4 ^ i))
noncomputable def marksN (c1 : Int) : Nat := (2 + (c1.fdiv 125).fmod 3).toNat
end
end Mine
end

section
open PySem PySem.W PyProof.Rows PySem.Builtin
set_option Elab.async false
set_option maxRecDepth 100000
set_option linter.all false
namespace Mine
@[irreducible] def EvLI (k : Bool) (c : Cx) (ρ : REnv) (es : List Expr) (ds : List PV) : Prop := EvL k c ρ es ds
@[irreducible] def TrI (k : Bool) (c : Cx) (ρ : REnv) (e : Expr) (b : Bool) : Prop := Tr k c ρ e b
@[irreducible] def PartI (k : Bool) (c : Cx) (ρ : REnv) (x : Option Expr) (lo : Option Int) : Prop := PartIs k c ρ x lo
@[irreducible] def BinI (k : Bool) (c : Cx) (op : Operator) (a b d : PV) : Prop := BinV k c op a b d
@[irreducible] def CmpI (k : Bool) (c : Cx) (op : CmpOp) (a b : PV) (d : Bool) : Prop := CmpV k c op a b d
@[irreducible] def GetI (k : Bool) (c : Cx) (o i d : PV) : Prop := GetV k c o i d
@[irreducible] def CallI (k : Bool) (w : World) (A : Around) (f : Value) (args : List PV) (d : PV) : Prop := CallV k w A f args d
section
variable {k : Bool} {w : World} {A : Around} {c : Cx} {ρ ρ₁ ρ' : REnv}
theorem EvLI.of {e : List Expr} {d : List PV} (h : EvL k c ρ e d) : EvLI k c ρ e d := by unfold EvLI; exact h
theorem EvLI.out {e : List Expr} {d : List PV} (h : EvLI k c ρ e d) : EvL k c ρ e d := by unfold EvLI at h; exact h
theorem TrI.of {e : Expr} {d : Bool} (h : Tr k c ρ e d) : TrI k c ρ e d := by unfold TrI; exact h
theorem TrI.out {e : Expr} {d : Bool} (h : TrI k c ρ e d) : Tr k c ρ e d := by unfold TrI at h; exact h
theorem PartI.of {e : Option Expr} {d : Option Int} (h : PartIs k c ρ e d) : PartI k c ρ e d := by unfold PartI; exact h
theorem PartI.out {e : Option Expr} {d : Option Int} (h : PartI k c ρ e d) : PartIs k c ρ e d := by unfold PartI at h; exact h
theorem BinI.of {op : Operator} {a b d : PV} (h : BinV k c op a b d) : BinI k c op a b d := by unfold BinI; exact h
theorem BinI.out {op : Operator} {a b d : PV} (h : BinI k c op a b d) : BinV k c op a b d := by unfold BinI at h; exact h
theorem CmpI.of {op : CmpOp} {a b : PV} {d : Bool} (h : CmpV k c op a b d) : CmpI k c op a b d := by unfold CmpI; exact h
theorem CmpI.out {op : CmpOp} {a b : PV} {d : Bool} (h : CmpI k c op a b d) : CmpV k c op a b d := by unfold CmpI at h; exact h
theorem GetI.of {a b d : PV} (h : GetV k c a b d) : GetI k c a b d := by unfold GetI; exact h
theorem GetI.out {a b d : PV} (h : GetI k c a b d) : GetV k c a b d := by unfold GetI at h; exact h
theorem CallI.of {f : Value} {a : List PV} {d : PV} (h : CallV k w A f a d) : CallI k w A f a d := by unfold CallI; exact h
theorem CallI.out {f : Value} {a : List PV} {d : PV} (h : CallI k w A f a d) : CallV k w A f a d := by unfold CallI at h; exact h

theorem EvI.int {i : Int} {kd : Nat} {pos : Pos} : EvI k c ρ (.Constant (.int i) kd pos) (.int i) := .of Ev.int
theorem EvI.str {x y : Str} {kd : Nat} {pos : Pos} (h : x = y) : EvI k c ρ (.Constant (.str x) kd pos) (.str y) := .of (Ev.str' h)
theorem EvI.bool {b : Bool} {kd : Nat} {pos : Pos} : EvI k c ρ (.Constant (.bool b) kd pos) (.bool b) := .of Ev.bool
theorem EvI.to {e : Expr} {d d' : PV} (h : EvI k c ρ e d) (he : d = d') : EvI k c ρ e d' := he ▸ h
theorem TrI.to {e : Expr} {b b' : Bool} (h : TrI k c ρ e b) (he : b = b') : TrI k c ρ e b' := he ▸ h
theorem EvI.loc {x : Str} {pos : Pos} {d : PV} (hk : c.env.kindOf x = some .local) (hd : Look ρ x d) (hn : (x == ("__debug__" : Str)) = false) : EvI k c ρ (.Name x pos) d := .of (Ev.loc' hk hd hn)
theorem EvI.cell {x : Str} {pos : Pos} {d : PV} (hk : c.env.kindOf x = some .cell) (hd : Look ρ x d) (hn : (x == ("__debug__" : Str)) = false) : EvI k c ρ (.Name x pos) d := .of (Ev.cell' hk hd hn)
theorem EvI.free {x : Str} {pos : Pos} {d : PV} (hk : c.env.kindOf x = some .free) (hd : Look ρ x d) (hn : (x == ("__debug__" : Str)) = false) (hc : (x == ("__classdict__" : Str)) = false) : EvI k c ρ (.Name x pos) d := .of (Ev.free' hk hd hn hc)
theorem EvI.bin {l r : Expr} {op : Operator} {pos : Pos} {a b d : PV} (h1 : EvI k c ρ l a) (h2 : EvI k c ρ r b) (h3 : BinI k c op a b d) : EvI k c ρ (.BinOp l op r pos) d := .of (Ev.bin h1.out h2.out h3.out)
theorem EvI.cmp {l r : Expr} {op : CmpOp} {pos : Pos} {a b : PV} {d : Bool} (h1 : EvI k c ρ l a) (h2 : EvI k c ρ r b) (h3 : CmpI k c op a b d) (hm : behindInMarks op r = false) : EvI k c ρ (.Compare l [op] [r] pos) (.bool d) := .of (Ev.cmp h1.out h2.out h3.out hm)
theorem TrI.cmp {l r : Expr} {op : CmpOp} {pos : Pos} {a b : PV} {d : Bool} (h1 : EvI k c ρ l a) (h2 : EvI k c ρ r b) (h3 : CmpI k c op a b d) (hm : behindInMarks op r = false) : TrI k c ρ (.Compare l [op] [r] pos) d := .of (Tr.cmp h1.out h2.out h3.out hm)
theorem EvLI.nil : EvLI k c ρ [] [] := .of EvL.nil
theorem EvLI.cons {e : Expr} {rest : List Expr} {d : PV} {ds : List PV} (he : starEach (e :: rest) c.env = (false, eval e c.env) :: starEach rest c.env) (h1 : EvI k c ρ e d) (h2 : EvLI k c ρ rest ds) : EvLI k c ρ (e :: rest) (d :: ds) := .of (EvL.cons he h1.out h2.out)
theorem EvI.list {es : List Expr} {ds : List PV} {pos : Pos} (h1 : EvLI k c ρ es ds) (hsz : ds.length ≤ sizeLine) : EvI k c ρ (.List es pos) (.list ds) := .of (Ev.list h1.out hsz)
theorem EvI.tuple {es : List Expr} {ds : List PV} {kd : Nat} {pos : Pos} (h1 : EvLI k c ρ es ds) (hsz : ds.length ≤ sizeLine) : EvI k c ρ (.Tuple es kd pos) (.tuple ds) := .of (Ev.tuple h1.out hsz)
theorem EvI.sub {value sl : Expr} {pos : Pos} {o i d : PV} (h1 : EvI k c ρ value o) (h2 : EvI k c ρ sl i) (h3 : GetI k c o i d) (hq : o.seq = true)
    (hs : ∀ vo vi, subscripted sl false vo vi = operate [vo, vi] (getItem vo vi) ∨ subscripted sl false vo vi = operate [vi, vo] (getItem vo vi)) : EvI k c ρ (.Subscript value sl pos) d := .of (Ev.sub h1.out h2.out h3.out hq hs)
theorem PartI.none : PartI k c ρ Option.none Option.none := .of PartIs.none
theorem PartI.some {e : Expr} {i : Int} (h : EvI k c ρ e (.int i)) : PartI k c ρ (Option.some e) (Option.some i) := .of (PartIs.some h.out)
theorem EvI.slice {l u st : Option Expr} {pos : Pos} {lo hi sp : Option Int} (h1 : PartI k c ρ l lo) (h2 : PartI k c ρ u hi) (h3 : PartI k c ρ st sp) : EvI k c ρ (.Slice l u st pos) (.slice lo hi sp) := .of (Ev.slice h1.out h2.out h3.out)
theorem EvI.ite {t x y : Expr} {pos : Pos} {d : PV} (b : Bool) (h1 : TrI k c ρ t b) (h2 : b = true → EvI k c ρ x d) (h3 : b = false → EvI k c ρ y d) : EvI k c ρ (.IfExp t x y pos) d := .of (Ev.ite b h1.out (fun h => (h2 h).out) fun h => (h3 h).out)
theorem EvI.call_b {x : Str} {np pos : Pos} {id : String} {e : Expr} {rest : List Expr} {ds : List PV} {d : PV} (hk : c.env.kindOf x = some .globalImplicit) (hv : nsIn (KF c.w) mainGlobals x = some Option.none) (hb : bootBuiltins x = some (.builtin id))
    (h1 : EvLI k c ρ (e :: rest) ds) (h2 : CallI k c.w c.A (.builtin id) ds d) (he : starEach (e :: rest) c.env = (false, eval e c.env) :: starEach rest c.env) (hplain : (backTo pos (starEach rest c.env)).any (·.1) = false)
    (hn : x ≠ "__name__") (hd : (x == ("__debug__" : Str)) = false) : EvI k c ρ (.Call (.Name x np) (e :: rest) [] pos) d := .of (Ev.call_b hk hv hb h1.out h2.out he hplain hn hd)
theorem EvI.call_t {x : Str} {np pos : Pos} {T : String} {e : Expr} {rest : List Expr} {ds : List PV} {d : PV} (hk : c.env.kindOf x = some .globalImplicit) (hv : nsIn (KF c.w) mainGlobals x = some Option.none) (hb : bootBuiltins x = some (.type T))
    (h1 : EvLI k c ρ (e :: rest) ds) (h2 : CallI k c.w c.A (.type T) ds d) (he : starEach (e :: rest) c.env = (false, eval e c.env) :: starEach rest c.env) (hplain : (backTo pos (starEach rest c.env)).any (·.1) = false)
    (hn : x ≠ "__name__") (hd : (x == ("__debug__" : Str)) = false) : EvI k c ρ (.Call (.Name x np) (e :: rest) [] pos) d := .of (Ev.call_t hk hv hb h1.out h2.out he hplain hn hd)
theorem EvI.map_range {elt iter : Expr} {x : Str} {px : Pos} {scope : Scope} {cl : List (Str × Addr)} {pos : Pos} {n : Nat} {ρ' : REnv} (F : Nat → PV) (hh : c.A.handled = Option.none)
    (h1 : EvI k c ρ iter (.range 0 (n : Int))) (hn : n ≤ 2 ^ 20) (hclos : closureFor scope c.env = pure cl) (hcell : (scope.names.all fun y => decide (y.2 ≠ .cell)) = true) (hk : scope.kind = .function)
    (hnames : (scope.names.all fun y => decide (y.2 = .local → scope.names.lookup y.1 = some .local)) = true)
    (hkx : ∀ C, (inC c scope cl C).env.kindOf x = some .local) (hp : ∀ C, ((inC c scope cl C).env.scope.kind == .class || ((inC c scope cl C).env.scope.kind == .module && (inC c scope cl C).env.locals != (inC c scope cl C).env.globals)) = false)
    (hx : (relabel scope c.env).names.lookup x = some .local) (hS : Seen c ρ scope cl ρ')
    (hbody : ∀ C (i : Nat), i < n → EvI k (inC c scope cl C) ((x, .int (i : Int)) :: ρ') elt (F i))
    (hs : ∀ x, foldedSetIterable iter c.env x = pure x) : EvI k c ρ (.ListComp elt [⟨.Name x px, iter, [], 0⟩] scope pos) (.list ((List.range n).map F)) :=
  .of (Ev.to (Ev.comp_range (fun i => some (F i)) hh h1.out hn hclos hcell hk hnames hkx hp hx hS (fun C i hi => ⟨Tests.nil, fun o ho => by cases ho; exact (hbody C i hi).out⟩) hs) (by rw [List.filterMap_eq_map']))
/-- a comprehension over a list, by one name, with a test or none -/
theorem EvI.map_of {elt iter : Expr} {x : Str} {px : Pos} {isl : Bool} {scope : Scope} {cl : List (Str × Addr)} {pos : Pos} {src : PV} {ds : List PV} {ρ' : REnv} (f : PV → PV)
    (h1 : EvI k c ρ iter src) (hI : IterV c.w c.A isl src ds) (hclos : closureFor scope c.env = pure cl) (hcell : (scope.names.all fun y => decide (y.2 ≠ .cell)) = true) (hk : scope.kind = .function)
    (hnames : (scope.names.all fun y => decide (y.2 = .local → scope.names.lookup y.1 = some .local)) = true)
    (hkx : ∀ C, (inC c scope cl C).env.kindOf x = some .local) (hp : ∀ C, ((inC c scope cl C).env.scope.kind == .class || ((inC c scope cl C).env.scope.kind == .module && (inC c scope cl C).env.locals != (inC c scope cl C).env.globals)) = false)
    (hx : (relabel scope c.env).names.lookup x = some .local) (hS : Seen c ρ scope cl ρ')
    (hbody : ∀ C d, d ∈ ds → EvI k (inC c scope cl C) ((x, d) :: ρ') elt (f d))
    (hsz : ds.length ≤ sizeLine) (hs : ∀ x, foldedSetIterable iter c.env x = pure x) : EvI k c ρ (.ListComp elt [⟨.Name x px, iter, [], 0⟩] scope pos) (.list (ds.map f)) :=
  .of (Ev.to (Ev.comp1 (fun d => some (f d)) h1.out hI hclos hcell hk hnames hkx hp hx hS (fun C d hd => ⟨Tests.nil, fun o ho => by cases ho; exact (hbody C d hd).out⟩) hsz hs) (by rw [List.filterMap_eq_map']))
theorem EvI.pick_of {elt iter test : Expr} {x : Str} {px : Pos} {isl : Bool} {scope : Scope} {cl : List (Str × Addr)} {pos : Pos} {src : PV} {ds : List PV} {ρ' : REnv} (f : PV → Bool)
    (h1 : EvI k c ρ iter src) (hI : IterV c.w c.A isl src ds) (hclos : closureFor scope c.env = pure cl) (hcell : (scope.names.all fun y => decide (y.2 ≠ .cell)) = true) (hk : scope.kind = .function)
    (hnames : (scope.names.all fun y => decide (y.2 = .local → scope.names.lookup y.1 = some .local)) = true)
    (hkx : ∀ C, (inC c scope cl C).env.kindOf x = some .local) (hp : ∀ C, ((inC c scope cl C).env.scope.kind == .class || ((inC c scope cl C).env.scope.kind == .module && (inC c scope cl C).env.locals != (inC c scope cl C).env.globals)) = false)
    (hx : (relabel scope c.env).names.lookup x = some .local) (hS : Seen c ρ scope cl ρ')
    (hbody : ∀ C d, d ∈ ds → TrI k (inC c scope cl C) ((x, d) :: ρ') test (f d) ∧ EvI k (inC c scope cl C) ((x, d) :: ρ') elt d)
    (hsz : ds.length ≤ sizeLine) (hs : ∀ x, foldedSetIterable iter c.env x = pure x) : EvI k c ρ (.ListComp elt [⟨.Name x px, iter, [test], 0⟩] scope pos) (.list (ds.filter f)) :=
  .of (Ev.to (Ev.comp1 (fun d => if f d then some d else Option.none) h1.out hI hclos hcell hk hnames hkx hp hx hS (fun C d hd => by
    obtain ⟨h2, h3⟩ := hbody C d hd
    cases h : f d with
    | true => rw [h] at h2; exact ⟨Tests.one h2.out, fun o ho => by cases ho; exact h3.out⟩
    | false => rw [h] at h2; exact ⟨Tests.one h2.out, fun o ho => by cases ho⟩) hsz hs) (by
      congr 1
      clear h1 hI hbody hsz
      induction ds with
      | nil => rfl
      | cons a l ih =>
        rw [List.filterMap_cons, List.filter_cons]
        cases h : f a with
        | true => simp [h] at ih ⊢; exact ih
        | false => simp [h] at ih ⊢; exact ih))
theorem EvI.meth {o e : Expr} {name : Str} {apos pos : Pos} {es : List Expr} {a d : PV} {ds : List PV} {T id : String} (hbase : attributeBase o name c.env (eval o c.env) = eval o c.env)
    (hfew : ((backTo pos (starEach (e :: es) c.env)).all (fun x => !x.1) && (backToKw pos (keywordEach [] c.env)).all (fun x => x.1.isSome)
      && decide ((e :: es).length + ([] : List Keyword).length + (if ([] : List Keyword).isEmpty then 0 else 1) < 30)) = true) (hline : (apos.endLine == pos.line) = true)
    (htree : ∃ x r, backTo pos (starEach (e :: es) c.env) = (false, x) :: r)
    (hplain : (backTo pos (starEach (e :: es) c.env)).any (·.1) = false)
    (pa : PlainAttrs T) (slot : Slot T name id) (ty : typeOf (.builtin id) = pure (.type "method_descriptor"))
    (h0 : EvI k c ρ o a) (h1 : EvLI k c ρ (e :: es) ds) (hT : OfT k T a) (h2 : CallI k c.w c.A (.builtin id) (a :: ds) d) : EvI k c ρ (.Call (.Attribute o name apos) (e :: es) [] pos) d :=
  .of (Ev.meth hbase hfew hline (fun A s Q E h => by obtain ⟨x, r, e⟩ := htree; rw [e] at h ⊢; exact evalArgs_one h) hplain pa slot ty h0.out h1.out hT h2.out)
end
end Mine
end

section
open PySem PySem.W PyProof.Rows PySem.Builtin
set_option Elab.async false
set_option maxRecDepth 100000
set_option linter.all false
namespace Mine
section
variable {k : Bool} {w : World} {A : Around} {c : Cx} {ρ ρ₁ ρ' : REnv} {g g' : Vw} {s s' : Shared}
theorem pI_at {l : List Int} {i : Nat} (h : i < l.length) : (pI l)[i]? = some (.int (l.getD i 0)) := by
  unfold pI
  rw [List.getElem?_map, List.getElem?_eq_getElem h]
  simp [List.getD, h]
theorem szL {n : Nat} (h : n ≤ 2 ^ 20) : n ≤ sizeLine := by rw [sizeLine_eq]; (first | lia | omega)
theorem fig_le (t : List Nat) (z : Int) (h : 0 < t.length) : 0 ≤ z.fmod (t.length : Int) ∧ z.fmod (t.length : Int) < (t.length : Int) := fm3 z (by first | decide | lia | omega)
theorem fig_at (t : List Nat) (z : Int) (h : 0 < t.length) : (t.map fun n : Nat => PV.int (n : Int))[(z.fmod (t.length : Int)).toNat]? = some (.int (figN t z : Nat)) := by
  obtain ⟨h1, h2⟩ := fig_le t z h
  exact nL_getD (by first | decide | lia | omega)
theorem fig_sat (t : List Nat) (z : Int) (h : 0 < t.length) : (t.map fun n : Nat => PV.str (S [n]))[(z.fmod (t.length : Int)).toNat]? = some (.str (S [figN t z])) := by
  obtain ⟨h1, h2⟩ := fig_le t z h
  have h3 : (z.fmod (t.length : Int)).toNat < t.length := by (first | lia | omega)
  rw [List.getElem?_map, List.getElem?_eq_getElem h3]
  simp [figN, List.getD, h3]
theorem join_one : ∀ (l : List Nat), Txt.join (S []) (l.map fun a => S [a]) = S l
  | [] => rfl
  | [r] => by
    show Builtin.Str.glued _ _ = _
    rw [StrLaws.glued_eq_join]
    rfl
  | r :: q :: rs => by
    have ih : Builtin.Str.glued (S []) ((q :: rs).map fun a => S [a]) = _ := join_one (q :: rs)
    rw [StrLaws.glued_eq_join] at ih
    show Builtin.Str.glued _ _ = _
    rw [StrLaws.glued_eq_join]
    show S [r] ++ S [] ++ Str.join (S []) ((q :: rs).map fun a => S [a]) = _
    rw [ih, S_app, S_app]
    rfl
theorem pow4 : ∀ i : Nat, i < 9 → ((4 : Int) ^ i ≠ 0 ∧ ((4 : Int) ^ i).natAbs.log2 < 9000 ∧ (Builtin.Int.intBits 4 : Int) * (i : Int) ≤ 2 ^ 27) := by decide +kernel
theorem pow5 : ∀ i : Nat, i < 3 → ((5 : Int) ^ i ≠ 0 ∧ ((5 : Int) ^ i).natAbs.log2 < 9000 ∧ (Builtin.Int.intBits 5 : Int) * (i : Int) ≤ 2 ^ 27) := by decide +kernel
theorem pow9 : ∀ i : Nat, i < 12 → ((9 : Int) ^ i ≠ 0 ∧ ((9 : Int) ^ i).natAbs.log2 < 9000 ∧ (Builtin.Int.intBits 9 : Int) * (i : Int) ≤ 2 ^ 27) := by decide +kernel
theorem ruler_ok (c1 : Int) : figN [2, 3, 4, 2, 3] c1 ≠ 0 ∧ figN [2, 3, 4, 2, 3] c1 ≠ 127 := by
  obtain ⟨h1, h2⟩ := fig_le [2, 3, 4, 2, 3] c1 (by decide)
  unfold figN
  have h3 : (c1.fmod (([2, 3, 4, 2, 3] : List Nat).length : Int)).toNat < 5 := by simp at h2 ⊢; (first | lia | omega)
  generalize (c1.fmod (([2, 3, 4, 2, 3] : List Nat).length : Int)).toNat = i at h3
  revert h3
  revert i
  decide
theorem write_ok (c2 c3 : Int) : Ok 20 (writeN c2 c3) := by
  unfold writeN
  refine ⟨by simp, fun a ha => ?_⟩
  obtain ⟨i, _, rfl⟩ := List.mem_map.mp ha
  unfold figN
  rw [List.getD_eq_getElem?_getD]
  cases h : (signsN c3)[((c2.fdiv (4 ^ i)).fmod ((signsN c3).length : Int)).toNat]? with
  | none => simp
  | some x =>
    have hx := List.mem_of_getElem? h
    obtain ⟨h1, h2⟩ := fm3 c3 (n := 55000) (by first | decide | lia | omega)
    simp only [signsN, List.mem_cons, List.not_mem_nil, or_false] at hx
    simp only [Option.getD_some]
    (first | lia | omega)
theorem ruler_list (c1 : Int) : PV.list ([PV.int (figN [2, 3, 4, 2, 3] c1 : Nat)] ++ (ups 1 2).map fun d => match d with | .int i => .int (figN [2, 3, 0, 127, 4] (c1.fdiv (5 ^ i.toNat)) : Nat) | _ => .none) = nL (rulerN c1) := by
  have e : ups 1 2 = [PV.int 1, PV.int 2] := by rfl
  rw [e]
  have e1 : (5 : Int) ^ (1 : Int).toNat = 5 := by decide
  have e2 : (5 : Int) ^ (2 : Int).toNat = 25 := by decide
  simp only [List.map_cons, List.map_nil, e1, e2]
  rfl
set_option maxHeartbeats 0 in
theorem law_a (w : World) : ∃ B, (FD w 158).body = .stmts B ∧ ∀ (k : Bool) (A : Around) (L : Addr) (l : List Int) (d : PV), A.handled = none → l.length ≤ 2 ^ 20 →
    FxI k (lc w A L) [("cells", .list (pI [cellZ l 0, cellZ l 1, cellZ l 2, cellZ l 3]))] (B.drop 1) d → FxI k (lc w A L) [("script", .list (pI l))] B d := by
  refine ⟨_, rfl, fun k A L l d hh hl hrest => ?_⟩
  simp only [List.drop_succ_cons, List.drop_zero] at hrest
  have hhL : (lc w A L).A.handled = none := by rw [lc_eq]; exact hh
  refine FxI.assign [("cells", .list (pI [cellZ l 0, cellZ l 1, cellZ l 2, cellZ l 3]))] (d := .list (pI [cellZ l 0, cellZ l 1, cellZ l 2, cellZ l 3])) ?v (CanStore.cellIn (by kernel_rfl) (by kernel_rfl)) (by kernel_rfl) (by one_place) hrest
  refine EvI.to (EvI.map_range (n := 4) (ρ' := [("script", .list (pI l))]) (cl := [cellOf (lc w A L) "script"]) (fun i => PV.int (cellZ l i)) hhL ?d1 (by first | decide | lia | omega) (by kernel_rfl) (by kernel_rfl) (by kernel_rfl) (by kernel_rfl) (fun _ => by kernel_rfl) (fun _ => by kernel_rfl) (by kernel_rfl) ?d2 ?d3 (by intro _; rfl)) (by rfl)
  case d1 => exact EvI.call_t (T := "range") (by kernel_rfl) (by kernel_rfl) (by kernel_rfl) (EvLI.cons rfl EvI.int EvLI.nil) (.of CallV.range1) rfl (by rfl) (by decide +kernel) (by kernel_rfl)
  case d2 => exact Seen.cons (by got_up) (by kernel_rfl) (by kernel_rfl) (by kernel_rfl) Seen.nil
  case d3 =>
    intro C i hi
    refine EvI.bin (a := .int (([122718527721, 160, 14596, 41] : List Int).getD i 0)) (b := .int (pick l (some (i : Int)) Option.none (some 4)).sum) ?e1 ?e2 (.of BinV.add)
    case e1 => exact EvI.sub (o := .list (pI [122718527721, 160, 14596, 41])) (i := .int (i : Nat)) (EvI.list (EvLI.cons rfl EvI.int (EvLI.cons rfl EvI.int (EvLI.cons rfl EvI.int (EvLI.cons rfl EvI.int EvLI.nil)))) (szL (by decide))) (by one_item) (.of (GetV.list (by first | decide | lia | omega) (by first | decide | lia | omega) (pI_at (by simpa using hi)))) rfl (by intro _ _; first | exact .inl rfl | exact .inr rfl)
    case e2 =>
      refine EvI.call_b (id := "sum") (by kernel_rfl) (by kernel_rfl) (by kernel_rfl) (EvLI.cons rfl (d := .list (pI (pick l (some (i : Int)) Option.none (some 4)))) ?e3 EvLI.nil) (.of (CallV.sum hhL)) rfl (by rfl) (by decide +kernel) (by kernel_rfl)
      exact EvI.to (EvI.sub (o := .list (pI l)) (i := .slice (some (i : Nat)) Option.none (some 4)) (by one_item) (EvI.slice (PartI.some (by one_item)) PartI.none (PartI.some EvI.int)) (.of (GetV.slice_list (by simp) (by unfold pI; rw [List.length_map]; exact szL hl))) rfl (by intro _ _; first | exact .inl rfl | exact .inr rfl)) (congrArg PV.list (pick_map PV.int l _ _ _))
set_option maxHeartbeats 0 in
theorem law_b (w : World) : ∃ B, (FD w 158).body = .stmts B ∧ ∀ (k : Bool) (A : Around) (L : Addr) (c0 c1 c2 c3 : Int) (d : PV), A.handled = none → A.depth ≤ 420 → A.units ≤ 100 →
    FxI k (lc w A L) [("writing", .str (S (writeN c2 c3))), ("ruler", nL (rulerN c1)), ("cells", .list (pI [c0, c1, c2, c3]))] (B.drop 4) d → FxI k (lc w A L) [("cells", .list (pI [c0, c1, c2, c3]))] (B.drop 1) d := by
  refine ⟨_, rfl, fun k A L c0 c1 c2 c3 d hh hroom hu hrest => ?_⟩
  simp only [List.drop_succ_cons, List.drop_zero] at hrest ⊢
  have hhL : (lc w A L).A.handled = none := by rw [lc_eq]; exact hh
  have hiter : IterV (lc w A L).w (lc w A L).A false (.range 1 3) (ups 1 2) := IterV.range hhL (by decide +kernel)
  have hf0 : 0 ≤ c1.fmod 5 := (fig_le [2, 3, 4, 2, 3] c1 (by decide)).1
  have hf1 : c1.fmod 5 < 2 ^ 63 := by have := (fig_le [2, 3, 4, 2, 3] c1 (by decide)).2; simp at this; (first | lia | omega)
  have hf2 : (([2, 3, 4, 2, 3] : List Nat).map fun n : Nat => PV.int (n : Int))[(c1.fmod 5).toNat]? = some (.int (figN [2, 3, 4, 2, 3] c1 : Nat)) := fig_at [2, 3, 4, 2, 3] c1 (by decide)
  have hcell : ∀ (i : Nat) (z : Int), (pI [c0, c1, c2, c3])[i]? = some (.int z) → ∀ c : Cx, GetI k c (.list (pI [c0, c1, c2, c3])) (.int (i : Int)) (.int z) := fun i z h c => .of (GetV.list (by first | decide | lia | omega) (by have := (List.getElem?_eq_some_iff.mp h).1; simp [pI] at this; (first | lia | omega)) h)
  -- ruler
  refine FxI.assign [("ruler", nL (rulerN c1)), ("cells", .list (pI [c0, c1, c2, c3]))] (d := nL (rulerN c1)) ?v1 (.inl (by kernel_rfl)) (by kernel_rfl) (by one_place) ?_
  case v1 =>
    refine EvI.to (EvI.bin (a := .list [PV.int (figN [2, 3, 4, 2, 3] c1 : Nat)]) ?p1 (EvI.map_of (isl := false) (src := .range 1 3) (ds := ups 1 2) (ρ' := [("cells", .list (pI [c0, c1, c2, c3]))]) (cl := [cellOf (lc w A L) "cells"]) (fun d => match d with | .int i => .int (figN [2, 3, 0, 127, 4] (c1.fdiv (5 ^ i.toNat)) : Nat) | _ => .none) ?a1 hiter (by kernel_rfl) (by kernel_rfl) (by kernel_rfl) (by kernel_rfl) (fun _ => by kernel_rfl) (fun _ => by kernel_rfl) (by kernel_rfl) (Seen.cons (by got_up) (by kernel_rfl) (by kernel_rfl) (by kernel_rfl) Seen.nil) ?a2 ?a5 (by intro _; rfl)) (.of (BinV.add_list ?a4))) (ruler_list c1)
    case a5 => exact szL (by unfold ups; simp)
    case a4 => exact szL (by unfold ups; simp)
    case p1 => exact (EvI.list (EvLI.cons rfl (EvI.sub (o := nL [2, 3, 4, 2, 3]) (i := .int (c1.fmod 5)) (EvI.list (EvLI.cons rfl EvI.int (EvLI.cons rfl EvI.int (EvLI.cons rfl EvI.int (EvLI.cons rfl EvI.int (EvLI.cons rfl EvI.int EvLI.nil))))) (szL (by decide)))
      (EvI.bin (a := .int c1) (b := .int 5) (EvI.sub (o := .list (pI [c0, c1, c2, c3])) (i := .int (1 : Nat)) (by one_item) EvI.int (hcell 1 c1 rfl _) rfl (by intro _ _; first | exact .inl rfl | exact .inr rfl)) EvI.int (.of (BinV.mod (by first | decide | lia | omega)))) (.of (GetV.list hf0 hf1 hf2)) rfl (by intro _ _; first | exact .inl rfl | exact .inr rfl)) EvLI.nil) (szL (by simp)))
    case a1 => exact EvI.call_t (T := "range") (by kernel_rfl) (by kernel_rfl) (by kernel_rfl) (EvLI.cons rfl EvI.int (EvLI.cons rfl EvI.int EvLI.nil)) (.of CallV.range2) rfl (by rfl) (by decide +kernel) (by kernel_rfl)
    case a2 =>
      intro C d hd
      obtain ⟨j, hj, rfl⟩ := List.mem_map.mp hd
      have hj2 := List.mem_range.mp hj
      obtain ⟨p1, p2, p3⟩ := pow5 (1 + j) (by first | decide | lia | omega)
      have ej : ((1 : Int) + (j : Int)) = ((1 + j : Nat) : Int) := by (first | lia | omega)
      have ej2 : ((1 : Int) + (j : Int)).toNat = 1 + j := by (first | lia | omega)
      show EvI _ _ _ _ (.int (figN [2, 3, 0, 127, 4] (c1.fdiv (5 ^ ((1 : Int) + (j : Int)).toNat)) : Nat))
      rw [ej2]
      have g1 : 0 ≤ (c1.fdiv (5 ^ (1 + j))).fmod 5 := (fig_le [2, 3, 0, 127, 4] _ (by decide)).1
      have g2 : (c1.fdiv (5 ^ (1 + j))).fmod 5 < 2 ^ 63 := by have := (fig_le [2, 3, 0, 127, 4] (c1.fdiv (5 ^ (1 + j))) (by decide)).2; simp at this; (first | lia | omega)
      have g3 : (([2, 3, 0, 127, 4] : List Nat).map fun n : Nat => PV.int (n : Int))[((c1.fdiv (5 ^ (1 + j))).fmod 5).toNat]? = some (.int (figN [2, 3, 0, 127, 4] (c1.fdiv (5 ^ (1 + j))) : Nat)) := fig_at [2, 3, 0, 127, 4] _ (by decide)
      refine EvI.sub (o := nL [2, 3, 0, 127, 4]) (i := .int ((c1.fdiv (5 ^ (1 + j))).fmod 5)) (EvI.list (EvLI.cons rfl EvI.int (EvLI.cons rfl EvI.int (EvLI.cons rfl EvI.int (EvLI.cons rfl EvI.int (EvLI.cons rfl EvI.int EvLI.nil))))) (szL (by decide))) ?b1 (.of (GetV.list g1 g2 g3)) rfl (by intro _ _; first | exact .inl rfl | exact .inr rfl)
      refine EvI.bin (a := .int (c1.fdiv (5 ^ (1 + j)))) (b := .int 5) ?b2 EvI.int (.of (BinV.mod (by first | decide | lia | omega)))
      refine EvI.bin (a := .int c1) (b := .int (5 ^ (1 + j))) (EvI.sub (o := .list (pI [c0, c1, c2, c3])) (i := .int (1 : Nat)) (by one_item) EvI.int (hcell 1 c1 rfl _) rfl (by intro _ _; first | exact .inl rfl | exact .inr rfl)) ?b3 (.of (BinV.floordiv p1 p2))
      refine EvI.to (EvI.bin (a := .int 5) (b := .int ((1 + j : Nat) : Int)) EvI.int (EvI.to (d := .int ((1 : Int) + (j : Int))) (by one_item) (by rw [ej])) (.of (BinV.pow (by first | decide | lia | omega) p3))) (by rfl)
  -- signs
  have hx0 := fm3 c3 (n := 55000) (by first | decide | lia | omega)
  refine FxI.assign [("signs", .list ((signsN c3).map fun n : Nat => PV.str (S [n]))), ("ruler", nL (rulerN c1)), ("cells", .list (pI [c0, c1, c2, c3]))] (d := .list ((signsN c3).map fun n : Nat => PV.str (S [n]))) ?v2 (CanStore.cellIn (by kernel_rfl) (by kernel_rfl)) (by kernel_rfl) (by one_place) ?_
  case v2 =>
    refine EvI.list (EvLI.cons rfl (EvI.str (by kernel_rfl)) (EvLI.cons rfl (EvI.str (by kernel_rfl)) (EvLI.cons rfl (EvI.str (by kernel_rfl)) (EvLI.cons rfl (d := .str (S [(47 + c3.fmod 55000).toNat])) ?ch EvLI.nil)))) (szL (by simp [signsN]))
    refine EvI.call_b (id := "chr") (by kernel_rfl) (by kernel_rfl) (by kernel_rfl) (EvLI.cons rfl (d := .int (47 + c3.fmod 55000)) ?cv EvLI.nil) (.of (CallV.chr (by simp; (first | lia | omega)))) rfl (by rfl) (by decide +kernel) (by kernel_rfl)
    exact EvI.bin (a := .int 47) (b := .int (c3.fmod 55000)) EvI.int (EvI.bin (a := .int c3) (b := .int 55000) (EvI.sub (o := .list (pI [c0, c1, c2, c3])) (i := .int (3 : Nat)) (by one_item) EvI.int (hcell 3 c3 rfl _) rfl (by intro _ _; first | exact .inl rfl | exact .inr rfl)) EvI.int (.of (BinV.mod (by first | decide | lia | omega)))) (.of BinV.add)
  -- writing
  refine FxI.assign [("writing", .str (S (writeN c2 c3))), ("ruler", nL (rulerN c1)), ("cells", .list (pI [c0, c1, c2, c3]))] (d := .str (S (writeN c2 c3))) ?v3 (.inl (by kernel_rfl)) (by kernel_rfl) (by one_place) hrest
  case v3 =>
    have hjoin : Txt.join (S []) ((writeN c2 c3).map fun a => S [a]) = S (writeN c2 c3) := join_one _
    refine EvI.to (EvI.meth (T := "str") (id := "str.join") rfl (by kernel_rfl) (by kernel_rfl) ⟨_, _, rfl⟩ (by kernel_rfl) PySem.F.plainAttrs_str PySem.F.slot_str_join PySem.F.type_str_join (a := .str (S [])) (EvI.str (by kernel_rfl)) (EvLI.cons rfl (d := .list (pS ((writeN c2 c3).map fun a => S [a]))) ?w1 EvLI.nil) OfT.str (.of (CallV.join ?w2))) (by rw [hjoin])
    case w2 =>
      have hl : (writeN c2 c3).length = 9 := by simp [writeN]
      have hs : (((writeN c2 c3).map fun a => S [a]).map (·.length)).sum = (writeN c2 c3).length := by
        generalize writeN c2 c3 = q
        induction q with
        | nil => rfl
        | cons a q ih =>
          simp only [List.map_cons, List.sum_cons, List.length_cons] at ih ⊢
          rw [ih]
          show 1 + _ = _
          (first | lia | omega)
      rw [hs, hl]
      show 9 + _ * 0 ≤ _
      (first | lia | omega)
    case w1 =>
      refine EvI.to (EvI.map_range (n := 9) (ρ' := [("cells", .list (pI [c0, c1, c2, c3])), ("signs", .list ((signsN c3).map fun n : Nat => PV.str (S [n])))]) (cl := [cellOf (lc w A L) "signs", cellOf (lc w A L) "cells"]) (fun i => PV.str (S [figN (signsN c3) (c2.fdiv (4 ^ i))])) hhL ?e1 (by first | decide | lia | omega) (by kernel_rfl) (by kernel_rfl) (by kernel_rfl) (by kernel_rfl) (fun _ => by kernel_rfl) (fun _ => by kernel_rfl) (by kernel_rfl) (Seen.cons (by got_up) (by kernel_rfl) (by kernel_rfl) (by kernel_rfl) (Seen.cons (by got_up) (by kernel_rfl) (by kernel_rfl) (by kernel_rfl) Seen.nil)) ?e2 (by intro _; rfl)) ?e3
      case e3 =>
        unfold writeN pS
        rw [List.map_map, List.map_map]
        rfl
      case e1 => exact EvI.call_t (T := "range") (by kernel_rfl) (by kernel_rfl) (by kernel_rfl) (EvLI.cons rfl EvI.int EvLI.nil) (.of CallV.range1) rfl (by rfl) (by decide +kernel) (by kernel_rfl)
      case e2 =>
        intro C i hi
        obtain ⟨p1, p2, p3⟩ := pow4 i hi
        have g1 : 0 ≤ (c2.fdiv (4 ^ i)).fmod 4 := (fig_le (signsN c3) _ (by simp [signsN])).1
        have g2 : (c2.fdiv (4 ^ i)).fmod 4 < 2 ^ 63 := by have := (fig_le (signsN c3) (c2.fdiv (4 ^ i)) (by simp [signsN])).2; simp [signsN] at this; (first | lia | omega)
        have g3 : ((signsN c3).map fun n : Nat => PV.str (S [n]))[((c2.fdiv (4 ^ i)).fmod 4).toNat]? = some (.str (S [figN (signsN c3) (c2.fdiv (4 ^ i))])) := fig_sat (signsN c3) _ (by simp [signsN])
        refine EvI.sub (o := .list ((signsN c3).map fun n : Nat => PV.str (S [n]))) (i := .int ((c2.fdiv (4 ^ i)).fmod 4)) (by one_item) ?n1 (.of (GetV.list g1 g2 g3)) rfl (by intro _ _; first | exact .inl rfl | exact .inr rfl)
        refine EvI.bin (a := .int (c2.fdiv (4 ^ i))) (b := .int 4) ?n2 EvI.int (.of (BinV.mod (by first | decide | lia | omega)))
        refine EvI.bin (a := .int c2) (b := .int (4 ^ i)) (EvI.sub (o := .list (pI [c0, c1, c2, c3])) (i := .int (2 : Nat)) (by one_item) EvI.int (hcell 2 c2 rfl _) rfl (by intro _ _; first | exact .inl rfl | exact .inr rfl)) ?n3 (.of (BinV.floordiv p1 p2))
        refine EvI.to (EvI.bin (a := .int 4) (b := .int (i : Int)) EvI.int (by one_item) (.of (BinV.pow (by first | decide | lia | omega) p3))) (by rfl)
end
end Mine
end

section
open PySem PySem.W PyProof.Rows PySem.Builtin
set_option Elab.async false
set_option maxRecDepth 100000
set_option linter.all false
namespace Mine
section
variable {k : Bool} {w : World} {A : Around} {c : Cx} {ρ ρ₁ ρ' : REnv} {g g' : Vw} {s s' : Shared}
@[irreducible] def TrOI (k : Bool) (c : Cx) (ρ : REnv) (e : Expr) (b : Bool) : Prop := TrO k c ρ e b
theorem TrOI.of {e : Expr} {d : Bool} (h : TrO k c ρ e d) : TrOI k c ρ e d := by unfold TrOI; exact h
theorem TrOI.out {e : Expr} {d : Bool} (h : TrOI k c ρ e d) : TrO k c ρ e d := by unfold TrOI at h; exact h
@[irreducible] def CallFI (k : Bool) (w : World) (A : Around) (f : Value) (args : List PV) (d : PV) : Prop := CallF k w A f args d
theorem CallFI.of {f : Value} {a : List PV} {d : PV} (h : CallF k w A f a d) : CallFI k w A f a d := by unfold CallFI; exact h
theorem CallFI.out {f : Value} {a : List PV} {d : PV} (h : CallFI k w A f a d) : CallF k w A f a d := by unfold CallFI at h; exact h
theorem TrOI.or_f {x : Expr} {rest : List Expr} {pos : Pos} {b : Bool} (h1 : TrOI k c ρ x false) (h2 : TrOI k c ρ (.BoolOp .Or rest pos) b) : TrOI k c ρ (.BoolOp .Or (x :: rest) pos) b := .of (TrO.or_f h1.out h2.out)
theorem TrOI.or_nil {pos : Pos} : TrOI k c ρ (.BoolOp .Or [] pos) false := .of TrO.or_nil
/-- a call compared -/
theorem TrOI.call {f : Str} {np cpos pos : Pos} {fa : Addr} {o : Obj} {fd : FuncData} {e r : Expr} {rest : List Expr} {ds : List PV} {d b : PV} {op : CmpOp} {z : Bool} (hfr : c.A.frames = some [c.env]) (hfl : c.env.frame = some c.env.locals)
    (hk : c.env.kindOf f = some .globalImplicit) (hv : nsIn (KF c.w) mainGlobals f = some (some (.ref fa))) (ho : (KF c.w).lookup fa = some o) (hf : o.data = .func fd)
    (h1 : EvLI k c ρ (e :: rest) ds) (h2 : CallFI k c.w c.A (.ref fa) ds d) (he : starEach (e :: rest) c.env = (false, eval e c.env) :: starEach rest c.env)
    (hd : (f == ("__debug__" : Str)) = false) (h3 : EvI k c ρ r b) (h4 : CmpI k c op d b z) (hm : behindInMarks op r = false) : TrOI k c ρ (.Compare (.Call (.Name f np) (e :: rest) [] cpos) [op] [r] pos) z :=
  .of (TrO.cmp (EvO.call hfr hfl hk hv ho hf h1.out h2.out he hd) h3.out h4.out hm)
theorem FxI.if_fO {test : Expr} {body r : List Stmt} {pos : Pos} {d : PV} (h1 : TrOI k c ρ test false) (h2 : FxI k c ρ r d) : FxI k c ρ (.If test body [] pos :: r) d := FxI.of (Fx.cons (Sx.if_fO h1.out) h2.out)
theorem FxI.two {a b : Str} {pa pb tp vp pos : Pos} {tk vk : Nat} {e1 e2 : Expr} {d1 d2 d : PV} {r : List Stmt} (ρ₂ : REnv) (hh : c.A.handled = none) (h1 : EvLI k c ρ [e1, e2] [d1, d2]) (ha : CanStore c a) (hb : CanStore c b)
    (hs : swapsWithSole [.Tuple [.Name a pa, .Name b pb] tk tp] (.Tuple [e1, e2] vk vp) pos.line c.env = pure false) (hw : swappedStores [.Tuple [.Name a pa, .Name b pb] tk tp] (.Tuple [e1, e2] vk vp) c.env = pure (some [a, b]))
    (hsub : Sub ρ₂ ((a, d1) :: (b, d2) :: ρ)) (h2 : FxI k c ρ₂ r d) :
    FxI k c ρ (.Assign [.Tuple [.Name a pa, .Name b pb] tk tp] (.Tuple [e1, e2] vk vp) pos :: r) d := FxI.of (Fx.cons (Sx.less (Sx.two hh h1.out ha hb hs hw) hsub) h2.out)
theorem FxI.two' {a b : Str} {pa pb tp vp pos : Pos} {tk vk : Nat} {e1 e2 : Expr} {d1 d2 d : PV} {r : List Stmt} (ρ₂ : REnv) (hh : c.A.handled = none) (h1 : EvLI k c ρ [e1, e2] [d1, d2]) (ha : CanStore c a) (hb : CanStore c b)
    (hs : swapsWithSole [.Tuple [.Name a pa, .Name b pb] tk tp] (.Tuple [e1, e2] vk vp) pos.line c.env = pure false) (hw : swappedStores [.Tuple [.Name a pa, .Name b pb] tk tp] (.Tuple [e1, e2] vk vp) c.env = pure Option.none)
    (hsub : Sub ρ₂ ((b, d2) :: (a, d1) :: ρ)) (h2 : FxI k c ρ₂ r d) :
    FxI k c ρ (.Assign [.Tuple [.Name a pa, .Name b pb] tk tp] (.Tuple [e1, e2] vk vp) pos :: r) d :=
  FxI.of (Fx.cons (Sx.less (Sx.unpack (xs := [a, b]) (ds := [d1, d2]) (Ev.tuple h1.out (by rw [sizeLine_eq]; simp)) rfl (UnpackV.free hh) (.cons (Sto.name ha) (.cons (Sto.name hb) .nil)) rfl rfl hs hw) hsub) h2.out)
theorem EvI.call_f {x : Str} {np pos : Pos} {fa : Addr} {o : Obj} {fd : FuncData} {e : Expr} {rest : List Expr} {ds : List PV} {d : PV} (hk : c.env.kindOf x = some .globalImplicit) (hv : nsIn (KF c.w) mainGlobals x = some (some (.ref fa)))
    (ho : (KF c.w).lookup fa = some o) (hf : o.data = .func fd)
    (h1 : EvLI k c ρ (e :: rest) ds) (h2 : CallI k c.w c.A (.ref fa) ds d) (he : starEach (e :: rest) c.env = (false, eval e c.env) :: starEach rest c.env)
    (hd : (x == ("__debug__" : Str)) = false) : EvI k c ρ (.Call (.Name x np) (e :: rest) [] pos) d := .of (Ev.call_f hk hv ho hf h1.out h2.out he hd)
theorem ok_sL {n : Nat} : ∀ {l : List (List Nat)}, (∀ p ∈ l, Ok n p) → PV.oks 0 (l.map fun x => PV.str (S x)) = true
  | [], _ => rfl
  | p :: l, h => by
    rw [List.map_cons, PV.oks_cons, Bool.and_eq_true]
    exact ⟨(h p List.mem_cons_self).pv, ok_sL fun q hq => h q (List.mem_cons_of_mem _ hq)⟩
theorem due_ok {x : List Nat} {r : List Nat} (hx : Ok 20 x) : ∀ p ∈ dueL x r, Ok 20 p := fun p hp => by
  obtain ⟨i, _, rfl⟩ := List.mem_map.mp hp
  exact (hx.drop _).take _
theorem Ev.dict0 {pos : Pos} : Ev k c ρ (.Dict [] [] pos) (.dict []) := fun g s Q E F L h => by
  have hsys := sysM_fresh F.base L
  refine wpAny_Dict_empty ?_
  have st : Step k g s _ _ := Step.push (o := { cls := .type "dict", data := .dict #[] }) L rfl s.toks
  exact h _ _ _ st (.dict hsys (put_self _ _ _) .nil)
theorem CmpI.ne_self {a : PV} (n : Nat) (h : PV.ok n a = true) (hn : n ≤ 64) (hu : c.A.units + 64 < cLine) : CmpI k c .NotEq a a false := .of (by
  have := CmpV.ne (k := k) (c := c) n n h h hn hn hu
  rw [eqv_self h] at this
  exact this)
theorem cut_list (r : List Nat) : PV.list ((r.map fun n : Nat => (n : Int)).map .int) = nL r := by rw [List.map_map]; rfl
set_option maxHeartbeats 0 in
theorem law_c (w : World) : ∃ B, (FD w 158).body = .stmts B ∧ ∀ (k : Bool) (A : Around) (L : Addr) (c0 c1 c2 c3 : Int) (d : PV), A.handled = none → A.depth ≤ 420 → A.units ≤ 100 → A.frames = some [] →
    (∃ rv fin n, n ≤ 20 ∧ Told rv fin n none ((rulerN c1).map fun n : Nat => (n : Int)) ∧ CutTo rv fin n (writeN c2 c3) [] (dueL (writeN c2 c3) (rulerN c1))) →
    FxI false (lc w A L) [("state", St.pv ⟨dueL (writeN c2 c3) (rulerN c1), marksN c1, c3⟩ ⟨[], [], 0, 0, []⟩), ("pieces", sL (dueL (writeN c2 c3) (rulerN c1))), ("marks", .int (marksN c1 : Nat)), ("writing", .str (S (writeN c2 c3))), ("cells", .list (pI [c0, c1, c2, c3]))] (B.drop 8) d →
    FxI false (lc w A L) [("writing", .str (S (writeN c2 c3))), ("ruler", nL (rulerN c1)), ("cells", .list (pI [c0, c1, c2, c3]))] (B.drop 4) d := by
  refine ⟨_, rfl, fun k A L c0 c1 c2 c3 d hh hroom hu hfr hcut hrest => ?_⟩
  simp only [List.drop_succ_cons, List.drop_zero] at hrest ⊢
  have hhL : (lc w A L).A.handled = none := by rw [lc_eq]; exact hh
  have hdep : (lc w A L).A.depth ≤ 460 := by rw [lc_eq]; show A.depth + 1 ≤ 460; (first | lia | omega)
  have hun : (lc w A L).A.units ≤ 200 := by rw [lc_eq]; show A.units + 3 ≤ 200; (first | lia | omega)
  have hcu : (lc w A L).A.units + 70 < cLine := by have e : cLine = 9900 := by rfl
                                                   (first | lia | omega)
  have hfrL : (lc w A L).A.frames = some [(lc w A L).env] := by
    rw [lc_eq]
    show A.frames.map _ = _
    rw [hfr]; rfl
  have hflL : (lc w A L).env.frame = some (lc w A L).env.locals := by kernel_rfl
  have hwL : (lc w A L).w = w := by kernel_rfl
  have hcell : ∀ (i : Nat) (z : Int), (pI [c0, c1, c2, c3])[i]? = some (.int z) → ∀ c : Cx, GetI false c (.list (pI [c0, c1, c2, c3])) (.int (i : Int)) (.int z) := fun i z h c => .of (GetV.list (by first | decide | lia | omega) (by have := (List.getElem?_eq_some_iff.mp h).1; simp [pI] at this; (first | lia | omega)) h)
  have hx := write_ok c2 c3
  have hdue := due_ok (r := rulerN c1) hx
  have f1 := fm3 (c1.fdiv 125) (n := 3) (by first | decide | lia | omega)
  refine FxI.two' [("pieces", sL (dueL (writeN c2 c3) (rulerN c1))), ("marks", .int (marksN c1 : Nat)), ("writing", .str (S (writeN c2 c3))), ("ruler", nL (rulerN c1)), ("cells", .list (pI [c0, c1, c2, c3]))] (d1 := sL (dueL (writeN c2 c3) (rulerN c1))) (d2 := .int (marksN c1 : Nat)) hhL ?v1 (.inl (by kernel_rfl)) (CanStore.cellIn (by kernel_rfl) (by kernel_rfl)) (by kernel_rfl) (by kernel_rfl) (by one_place) ?_
  case v1 =>
    refine EvLI.cons rfl ?a1 (EvLI.cons rfl ?a2 EvLI.nil)
    case a1 => exact EvI.call_f (fa := 132) (by kernel_rfl) (by kernel_rfl) (show (KF w).lookup 132 = some (OB w 132) by kernel_rfl) (show (OB w 132).data = .func (FD w 132) by kernel_rfl) (EvLI.cons rfl (d := .str (S (writeN c2 c3))) (by one_item) (EvLI.cons rfl (d := nL (rulerN c1)) (by one_item) EvLI.nil)) (.of (f_due hhL (ruler_ok c1) hx hdep hun)) rfl (by kernel_rfl)
    case a2 =>
      refine EvI.to (EvI.bin (a := .int 2) (b := .int ((c1.fdiv 125).fmod 3)) EvI.int (EvI.bin (a := .int (c1.fdiv 125)) (b := .int 3) (EvI.bin (a := .int c1) (b := .int 125) (EvI.sub (o := .list (pI [c0, c1, c2, c3])) (i := .int (1 : Nat)) (by one_item) EvI.int (hcell 1 c1 rfl _) rfl (by intro _ _; first | exact .inl rfl | exact .inr rfl)) EvI.int (.of (BinV.floordiv (by first | decide | lia | omega) (by decide +kernel)))) EvI.int (.of (BinV.mod (by first | decide | lia | omega)))) (.of BinV.add)) ?_
      unfold marksN
      congr 1
      (first | lia | omega)
  have hok1 : PV.ok 1 (sL (dueL (writeN c2 c3) (rulerN c1))) = true := ok_sL hdue
  have hok2 : PV.ok 1 (sL [writeN c2 c3]) = true := ok_sL (l := [writeN c2 c3]) fun p hp => List.mem_singleton.mp hp ▸ hx
  have hok3 : PV.ok 1 (sL [writeN c2 c3, refusedL]) = true := ok_sL (n := 20) (l := [writeN c2 c3, refusedL]) fun p hp => by
    rcases List.mem_cons.mp hp with rfl | hp
    · exact hx
    · rw [List.mem_singleton.mp hp]; exact ⟨by decide, by decide⟩
  refine FxI.if_fO (TrOI.or_f ?t1 (TrOI.or_f ?t2 TrOI.or_nil)) ?_
  case t1 =>
    obtain ⟨rv, fin, n, hn, hT, hC⟩ := hcut
    exact TrOI.call (fa := 127) hfrL hflL (by kernel_rfl) (by kernel_rfl) (show (KF w).lookup 127 = some (OB w 127) by kernel_rfl) (show (OB w 127).data = .func (FD w 127) by kernel_rfl) (EvLI.cons rfl (d := .str (S (writeN c2 c3))) (by one_item) (EvLI.cons rfl (d := .list (((rulerN c1).map fun n : Nat => (n : Int)).map .int)) (EvI.to (d := nL (rulerN c1)) (by one_item) (cut_list _).symm) EvLI.nil)) (.of (f_cut hhL hdep hun hx hn hT hC)) rfl (by kernel_rfl) (by one_item) (CmpI.ne_self 1 hok1 (by first | decide | lia | omega) (by first | decide | lia | omega)) (by kernel_rfl)
  case t2 =>
    exact TrOI.call (fa := 127) (d := sL [writeN c2 c3]) hfrL hflL (by kernel_rfl) (by kernel_rfl) (show (KF w).lookup 127 = some (OB w 127) by kernel_rfl) (show (OB w 127).data = .func (FD w 127) by kernel_rfl) (EvLI.cons rfl (d := .str (S (writeN c2 c3))) (by one_item) (EvLI.cons rfl (d := .list ((127 :: (rulerN c1).map fun n : Nat => (n : Int)).map .int)) (EvI.to (EvI.bin (a := .list [PV.int 127]) (b := nL (rulerN c1)) (EvI.list (EvLI.cons rfl EvI.int EvLI.nil) (szL (by simp))) (by one_item) (.of (BinV.add_list (szL (by simp [rulerN]))))) (by rw [List.map_cons, List.map_map]; rfl)) EvLI.nil)) (.of (f_cut (rv := fun _ => 0) (fin := .stop) (n := 0) hhL hdep hun hx (by first | decide | lia | omega) (Told.char rfl) (CutTo.stop (ps := []) rfl))) rfl (by kernel_rfl) (EvI.list (EvLI.cons rfl (by one_item) EvLI.nil) (szL (by simp))) (CmpI.ne_self 1 hok2 (by first | decide | lia | omega) (by first | decide | lia | omega)) (by kernel_rfl)
  refine FxI.if_fO ?t3 ?_
  case t3 =>
    exact TrOI.call (fa := 127) (d := sL [writeN c2 c3, refusedL]) hfrL hflL (by kernel_rfl) (by kernel_rfl) (show (KF w).lookup 127 = some (OB w 127) by kernel_rfl) (show (OB w 127).data = .func (FD w 127) by kernel_rfl) (EvLI.cons rfl (d := .str (S (writeN c2 c3))) (by one_item) (EvLI.cons rfl (d := .list ((0 :: (rulerN c1).map fun n : Nat => (n : Int)).map .int)) (EvI.to (EvI.bin (a := .list [PV.int 0]) (b := nL (rulerN c1)) (EvI.list (EvLI.cons rfl EvI.int EvLI.nil) (szL (by simp))) (by one_item) (.of (BinV.add_list (szL (by simp [rulerN]))))) (by rw [List.map_cons, List.map_map]; rfl)) EvLI.nil)) (.of (f_cut (rv := fun _ => 0) (fin := .refuse) (n := 0) hhL hdep hun hx (by first | decide | lia | omega) (Told.refuse rfl) (CutTo.refuse (ps := []) rfl))) rfl (by kernel_rfl) (EvI.list (EvLI.cons rfl (by one_item) (EvLI.cons rfl (d := .str (S refusedL)) (EvI.str (by kernel_rfl)) EvLI.nil)) (szL (by simp))) (CmpI.ne_self 1 hok3 (by first | decide | lia | omega) (by first | decide | lia | omega)) (by kernel_rfl)
  refine FxI.assign _ (d := St.pv ⟨dueL (writeN c2 c3) (rulerN c1), marksN c1, c3⟩ ⟨[], [], 0, 0, []⟩) ?v8 (.inl (by kernel_rfl)) (by kernel_rfl) ?s8 hrest
  case s8 => one_place
  case v8 =>
    refine EvI.tuple (ds := St.pvs ⟨dueL (writeN c2 c3) (rulerN c1), marksN c1, c3⟩ ⟨[], [], 0, 0, []⟩) ?w8 (szL (by simp [St.pvs]))
    refine EvLI.cons rfl (EvI.str (by kernel_rfl)) (EvLI.cons rfl (EvI.str (by kernel_rfl)) (EvLI.cons rfl (d := .list []) (EvI.list EvLI.nil (szL (by simp))) (EvLI.cons rfl (d := .list []) (EvI.list EvLI.nil (szL (by simp))) (EvLI.cons rfl EvI.int (EvLI.cons rfl EvI.int (EvLI.cons rfl ?bk (EvLI.cons rfl (d := .list []) (EvI.list EvLI.nil (szL (by simp))) (EvLI.cons rfl EvI.bool EvLI.nil))))))))
    refine EvI.tuple (ds := [.int 0, .int 0, .int 0, .int 0, .dict []]) (EvLI.cons rfl EvI.int (EvLI.cons rfl EvI.int (EvLI.cons rfl EvI.int (EvLI.cons rfl EvI.int (EvLI.cons rfl (.of Ev.dict0) EvLI.nil))))) (szL (by simp))
end
end Mine
end

section
open PySem PySem.W PyProof.Rows PySem.Builtin
set_option Elab.async false
set_option maxRecDepth 100000
set_option linter.all false
namespace Mine
noncomputable def deedN (c0 : Int) (i : Nat) : Nat := ((c0.fdiv (9 ^ i)).fmod 9).toNat
noncomputable def runS (P : Cst) (c0 : Int) : Nat → St
  | 0 => ⟨[], [], 0, 0, []⟩
  | i + 1 => stepS P (deedN c0 i) (runS P c0 i)
noncomputable def sendS (P : Cst) (σ : St) : Nat → St
  | 0 => σ
  | i + 1 => stepS P i (sendS P σ i)
noncomputable def repS (P : Cst) (deed : Nat) (σ : St) : Nat → St
  | 0 => σ
  | i + 1 => stepS P deed (repS P deed σ i)
noncomputable def rndA (P : Cst) (σ : St) : St := sendS P σ (P.m - 1)
noncomputable def rndB (P : Cst) (σ : St) : St := repS P 3 (rndA P σ) (rndA P σ).letters.length
noncomputable def rndC (P : Cst) (σ : St) : St := repS P 6 (rndB P σ) (rndB P σ).answers.length
noncomputable def rndsS (P : Cst) (σ : St) : Nat → St
  | 0 => σ
  | i + 1 => rndC P (rndsS P σ i)
structure RndOK (P : Cst) (σ : St) : Prop where
  a : ∀ i, i ≤ P.m - 1 → StOK P (sendS P σ i)
  b : ∀ i, i ≤ (rndA P σ).letters.length → StOK P (repS P 3 (rndA P σ) i)
  c : ∀ i, i ≤ (rndB P σ).answers.length → StOK P (repS P 6 (rndB P σ) i)
section
variable {k : Bool} {w : World} {A : Around} {c : Cx} {ρ ρ₁ ρ' : REnv} {g g' : Vw} {s s' : Shared}
theorem CallF.any {f : Value} {a : List PV} {d : PV} (h : CallF true w A f a d) : CallF k w A f a d := fun g s fs outer vs Q E h1 h2 h3 h4 h5 h6 h7 hQ =>
  h g s fs outer vs Q E h1 h2 h3 h4 h5 h6 h7 fun v g' s' st t r => hQ v g' s' ⟨st.heap, st.up, st.sub, st.new, st.rest.any⟩ t r
@[irreducible] def NxI (k : Bool) (c : Cx) (ρ : REnv) (r : List Stmt) (ρ' : REnv) : Prop := Nx k c ρ r ρ'
theorem NxI.of {r : List Stmt} (h : Nx k c ρ r ρ') : NxI k c ρ r ρ' := by unfold NxI; exact h
theorem NxI.out {r : List Stmt} (h : NxI k c ρ r ρ') : Nx k c ρ r ρ' := by unfold NxI at h; exact h
theorem NxI.nil (h : Sub ρ' ρ) : NxI k c ρ [] ρ' := .of (Nx.less Nx.nil h)
theorem NxI.cons {t : Stmt} {r : List Stmt} (ρ₂ : REnv) (h1 : SxI k c ρ t ρ₁) (hsub : Sub ρ₂ ρ₁) (h2 : NxI k c ρ₂ r ρ') : NxI k c ρ (t :: r) ρ' := .of (Nx.cons (Sx.less h1.out hsub) h2.out)
theorem NxI.one {t : Stmt} (h1 : SxI k c ρ t ρ₁) (hsub : Sub ρ' ρ₁) : NxI k c ρ [t] ρ' := .of (Nx.cons (Sx.less h1.out hsub) Nx.nil)
theorem SxI.forN {x : Str} {px : Pos} {iter : Expr} {isl : Bool} {body : List Stmt} {pos : Pos} {src : PV} {ds : List PV} (ρs : Nat → REnv)
    (h1 : EvI k c (ρs 0) iter src) (hI : IterV c.w c.A isl src ds) (hk : CanStore c x)
    (hbody : ∀ i d, ds[i]? = some d → NxI k c ((x, d) :: ρs i) body (ρs (i + 1)))
    (hs : ∀ x, foldedSetIterable iter c.env x = pure x) : SxI k c (ρs 0) (.For (.Name x px) iter body [] pos) (ρs ds.length) := .of (Sx.forN ρs h1.out hI hk (fun i d h => (hbody i d h).out) hs)
/-- the statement that takes a step -/
theorem SxI.step {P : Cst} {σ : St} {px np cpos pos p1 p2 p3 p4 p5 p6 : Pos} {kd deed : Nat} {de : Expr} {cs : List Int} (O : CstOK P) (H : StOK P σ) (hd9 : deed < 9) (hh : c.A.handled = none) (hroom : c.A.depth ≤ 440) (hu : c.A.units ≤ 200)
    (hfr : c.A.frames = some [c.env]) (hfl : c.env.frame = some c.env.locals) (hk : c.env.kindOf "_law_step" = some .globalImplicit) (hv : nsIn (KF c.w) mainGlobals "_law_step" = some (some (.ref 153))) (ho : (KF c.w).lookup 153 = some (OB c.w 153)) (hf : (OB c.w 153).data = .func (FD c.w 153))
    (hs : EvI k c ρ (.Name "state" p1) (σ.pv P)) (hde : EvI k c ρ de (.int (deed : Int))) (hp : EvI k c ρ (.Name "pieces" p2) (sL P.pieces)) (hm : EvI k c ρ (.Name "marks" p3) (.int (P.m : Int))) (hc : EvI k c ρ (.Name "cells" p4) (.list (pI cs))) (hc3 : cs[3]? = some P.shift)
    (he : starEach [.Name "state" p1, de, .Name "pieces" p2, .Name "marks" p3, .Subscript (.Name "cells" p4) (.Constant (.int 3) kd p5) p6] c.env = (false, eval (.Name "state" p1) c.env) :: starEach [de, .Name "pieces" p2, .Name "marks" p3, .Subscript (.Name "cells" p4) (.Constant (.int 3) kd p5) p6] c.env)
    (he2 : starEach [de, .Name "pieces" p2, .Name "marks" p3, .Subscript (.Name "cells" p4) (.Constant (.int 3) kd p5) p6] c.env = (false, eval de c.env) :: starEach [.Name "pieces" p2, .Name "marks" p3, .Subscript (.Name "cells" p4) (.Constant (.int 3) kd p5) p6] c.env)
    (hx : c.env.kindOf "state" = some .local) (hsw : swapsWith (.Call (.Name "_law_step" np) [.Name "state" p1, de, .Name "pieces" p2, .Name "marks" p3, .Subscript (.Name "cells" p4) (.Constant (.int 3) kd p5) p6] [] cpos) (some (.Name "state" px)) pos.line c.env = pure false) :
    SxI k c ρ (.Assign [.Name "state" px] (.Call (.Name "_law_step" np) [.Name "state" p1, de, .Name "pieces" p2, .Name "marks" p3, .Subscript (.Name "cells" p4) (.Constant (.int 3) kd p5) p6] [] cpos) pos) (("state", (stepS P deed σ).pv P) :: ρ) := by
  refine .of (Sx.assign_callF (fa := 153) (ds := [σ.pv P, .int (deed : Int), sL P.pieces, .int (P.m : Int), .int P.shift]) hfr hfl hk hv ho hf (EvLI.out (EvLI.cons he hs (EvLI.cons he2 hde (EvLI.cons rfl hp (EvLI.cons rfl hm (EvLI.cons rfl ?c EvLI.nil)))))) (CallF.any (f_step O H hd9 hh hroom hu)) he (by decide) (.inl hx) hsw)
  refine EvI.sub (o := .list (pI cs)) (i := .int (3 : Nat)) hc EvI.int (.of (GetV.list (by first | decide | lia | omega) (by first | decide | lia | omega) ?g)) rfl (by intro _ _; first | exact .inl rfl | exact .inr rfl)
  show (pI cs)[3]? = _
  unfold pI
  rw [List.getElem?_map, hc3]
  rfl
theorem deed_lt (c0 : Int) (i : Nat) : deedN c0 i < 9 ∧ ((c0.fdiv (9 ^ i)).fmod 9) = (deedN c0 i : Int) := by
  have h := fm3 (c0.fdiv (9 ^ i)) (n := 9) (by first | decide | lia | omega)
  unfold deedN
  (first | lia | omega)
set_option maxHeartbeats 0 in
theorem law_d (w : World) : ∃ B, (FD w 158).body = .stmts B ∧ ∀ (A : Around) (L : Addr) (P : Cst) (c0 c1 c2 : Int) (x : List Nat) (d : PV), A.handled = none → A.depth ≤ 420 → A.units ≤ 100 → A.frames = some [] → CstOK P →
    (∀ i, i < 12 → StOK P (runS P c0 i)) → (∀ j, j < P.pieces.length → RndOK P (rndsS P (runS P c0 12) j)) →
    FxI false (lc w A L) [("state", (rndsS P (runS P c0 12) P.pieces.length).pv P), ("pieces", sL P.pieces), ("marks", .int (P.m : Nat)), ("writing", .str (S x))] (B.drop 10) d →
    FxI false (lc w A L) [("state", (runS P c0 0).pv P), ("pieces", sL P.pieces), ("marks", .int (P.m : Nat)), ("writing", .str (S x)), ("cells", .list (pI [c0, c1, c2, P.shift]))] (B.drop 8) d := by
  refine ⟨_, rfl, fun A L P c0 c1 c2 x d hh hroom hu hfr O hA hR hrest => ?_⟩
  simp only [List.drop_succ_cons, List.drop_zero] at hrest ⊢
  have hhL : (lc w A L).A.handled = none := by rw [lc_eq]; exact hh
  have hdep : (lc w A L).A.depth ≤ 440 := by rw [lc_eq]; show A.depth + 1 ≤ 440; (first | lia | omega)
  have hun : (lc w A L).A.units ≤ 200 := by rw [lc_eq]; show A.units + 3 ≤ 200; (first | lia | omega)
  have hfrL : (lc w A L).A.frames = some [(lc w A L).env] := by
    rw [lc_eq]
    show A.frames.map _ = _
    rw [hfr]; rfl
  have hflL : (lc w A L).env.frame = some (lc w A L).env.locals := by kernel_rfl
  have hcell : ∀ (i : Nat) (z : Int), (pI [c0, c1, c2, P.shift])[i]? = some (.int z) → ∀ c : Cx, GetI false c (.list (pI [c0, c1, c2, P.shift])) (.int (i : Int)) (.int z) := fun i z h c => .of (GetV.list (by first | decide | lia | omega) (by have := (List.getElem?_eq_some_iff.mp h).1; simp [pI] at this; (first | lia | omega)) h)
  have hk1 : (lc w A L).env.kindOf "_law_step" = some .globalImplicit := by kernel_rfl
  have hk2 : nsIn (KF (lc w A L).w) mainGlobals "_law_step" = some (some (.ref 153)) := by kernel_rfl
  have hk3 : (KF (lc w A L).w).lookup 153 = some (OB (lc w A L).w 153) := by kernel_rfl
  have hk4 : (OB (lc w A L).w 153).data = .func (FD (lc w A L).w 153) := by kernel_rfl
  have hk5 : (lc w A L).env.kindOf "state" = some .local := by kernel_rfl
  have hit : IterV (lc w A L).w (lc w A L).A false (.range 0 12) (ups 0 12) := IterV.range hhL (by decide +kernel)
  refine FxI.cons [("state", (runS P c0 12).pv P), ("pieces", sL P.pieces), ("marks", .int (P.m : Nat)), ("writing", .str (S x)), ("cells", .list (pI [c0, c1, c2, P.shift]))] (SxI.forN (isl := false) (src := .range 0 12) (ds := ups 0 12) (fun i => [("state", (runS P c0 i).pv P), ("pieces", sL P.pieces), ("marks", .int (P.m : Nat)), ("writing", .str (S x)), ("cells", .list (pI [c0, c1, c2, P.shift]))]) ?a1 hit (CanStore.cellIn (by kernel_rfl) (by kernel_rfl)) ?a2 (by intro _; rfl)) ?a3 ?_
  case a3 =>
    rw [show (ups 0 12).length = 12 from by unfold ups; simp]
    one_place
  case a1 => exact EvI.call_t (T := "range") (by kernel_rfl) (by kernel_rfl) (by kernel_rfl) (EvLI.cons rfl EvI.int EvLI.nil) (.of CallV.range1) rfl (by rfl) (by decide +kernel) (by kernel_rfl)
  case a2 =>
    intro i v hv
    rw [ups_zero, List.getElem?_map] at hv
    obtain ⟨j, hj, rfl⟩ := Option.map_eq_some_iff.mp hv
    obtain ⟨hj1, hj2⟩ := List.getElem?_eq_some_iff.mp hj
    rw [List.getElem_range] at hj2
    subst hj2
    have hi : i < 12 := by simpa using hj1
    obtain ⟨hd1, hd2⟩ := deed_lt c0 i
    obtain ⟨p1, p2, p3⟩ := pow9 i hi
    refine NxI.one (SxI.step (deed := deedN c0 i) O (hA i hi) hd1 hhL hdep hun hfrL hflL hk1 hk2 hk3 hk4 (by one_item) ?de (by one_item) (by one_item) (cs := [c0, c1, c2, P.shift]) (by one_item) rfl rfl rfl hk5 (by kernel_rfl)) ?sb
    case sb => show Sub [("state", (stepS P (deedN c0 i) (runS P c0 i)).pv P), ("pieces", sL P.pieces), ("marks", .int (P.m : Nat)), ("writing", .str (S x)), ("cells", .list (pI [c0, c1, c2, P.shift]))] _; one_place
    case de =>
      rw [← hd2]
      refine EvI.bin (a := .int (c0.fdiv (9 ^ i))) (b := .int 9) ?n2 EvI.int (.of (BinV.mod (by first | decide | lia | omega)))
      refine EvI.bin (a := .int c0) (b := .int (9 ^ i)) (EvI.sub (o := .list (pI [c0, c1, c2, P.shift])) (i := .int (0 : Nat)) (by one_item) EvI.int (hcell 0 c0 rfl _) rfl (by intro _ _; first | exact .inl rfl | exact .inr rfl)) ?n3 (.of (BinV.floordiv p1 p2))
      refine EvI.to (EvI.bin (a := .int 9) (b := .int (i : Int)) EvI.int (by one_item) (.of (BinV.pow (by first | decide | lia | omega) p3))) (by rfl)
  have hlen : (P.pieces.map fun x => PV.str (S x)).length = P.pieces.length := List.length_map _
  refine FxI.cons [("state", (rndsS P (runS P c0 12) P.pieces.length).pv P), ("pieces", sL P.pieces), ("marks", .int (P.m : Nat)), ("writing", .str (S x))] (SxI.forN (isl := true) (src := sL P.pieces) (ds := P.pieces.map fun x => PV.str (S x)) (fun j => [("state", (rndsS P (runS P c0 12) j).pv P), ("pieces", sL P.pieces), ("marks", .int (P.m : Nat)), ("writing", .str (S x)), ("cells", .list (pI [c0, c1, c2, P.shift]))]) (by one_item) (IterV.list hhL) (.inl (by kernel_rfl)) ?b2 (by intro _; rfl)) ?b3 hrest
  case b3 =>
    rw [hlen]
    one_place
  case b2 =>
    intro j v hv
    have hj : j < P.pieces.length := by
      have := (List.getElem?_eq_some_iff.mp hv).1
      (first | lia | omega)
    obtain ⟨Ra, Rb, Rc⟩ := hR j hj
    show NxI _ _ (("turn", v) :: [("state", (rndsS P (runS P c0 12) j).pv P), ("pieces", sL P.pieces), ("marks", .int (P.m : Nat)), ("writing", .str (S x)), ("cells", .list (pI [c0, c1, c2, P.shift]))]) _ [("state", (rndC P (rndsS P (runS P c0 12) j)).pv P), ("pieces", sL P.pieces), ("marks", .int (P.m : Nat)), ("writing", .str (S x)), ("cells", .list (pI [c0, c1, c2, P.shift]))]
    generalize rndsS P (runS P c0 12) j = σ at Ra Rb Rc ⊢
    have m0 := O.m0
    have m1 := O.m1
    -- the pieces are sent
    have hit3 : IterV (lc w A L).w (lc w A L).A false (.range 0 ((P.m - 1 : Nat) : Int)) (ups 0 (P.m - 1)) := by
      have hs : Builtin.Range.small 0 ((P.m - 1 : Nat) : Int) 1 = true := by
        have : P.m = 2 ∨ P.m = 3 ∨ P.m = 4 := by (first | lia | omega)
        rcases this with h | h | h <;> rw [h] <;> decide +kernel
      have := IterV.range (w := (lc w A L).w) hhL hs
      simpa using this
    have hl3 : (ups 0 (P.m - 1)).length = P.m - 1 := by unfold ups; simp
    refine NxI.cons [("state", (rndA P σ).pv P), ("pieces", sL P.pieces), ("marks", .int (P.m : Nat)), ("cells", .list (pI [c0, c1, c2, P.shift])), ("writing", .str (S x))] (SxI.forN (isl := false) (src := .range 0 ((P.m - 1 : Nat) : Int)) (ds := ups 0 (P.m - 1)) (fun i => ("turn", v) :: [("state", (sendS P σ i).pv P), ("pieces", sL P.pieces), ("marks", .int (P.m : Nat)), ("writing", .str (S x)), ("cells", .list (pI [c0, c1, c2, P.shift]))]) ?d1 hit3 (.inl (by kernel_rfl)) ?d2 (by intro _; rfl)) ?d3 ?_
    case d3 =>
      rw [hl3]
      show Sub [("state", (sendS P σ (P.m - 1)).pv P), ("pieces", sL P.pieces), ("marks", .int (P.m : Nat)), ("cells", .list (pI [c0, c1, c2, P.shift])), ("writing", .str (S x))] _
      one_place
    case d1 =>
      refine EvI.call_t (T := "range") (by kernel_rfl) (by kernel_rfl) (by kernel_rfl) (EvLI.cons rfl (d := .int ((P.m - 1 : Nat) : Int)) ?dd EvLI.nil) (.of CallV.range1) rfl (by rfl) (by decide +kernel) (by kernel_rfl)
      refine EvI.to (EvI.bin (a := .int (P.m : Int)) (b := .int 1) (by one_item) EvI.int (.of BinV.sub)) (by congr 1; (first | lia | omega))
    case d2 =>
      intro i v' hv'
      rw [ups_zero, List.getElem?_map] at hv'
      obtain ⟨i', hi', rfl⟩ := Option.map_eq_some_iff.mp hv'
      obtain ⟨hi1, hi2⟩ := List.getElem?_eq_some_iff.mp hi'
      rw [List.getElem_range] at hi2
      subst hi2
      have hi : i < P.m - 1 := by simpa using hi1
      refine NxI.one (SxI.step (deed := i) (σ := sendS P σ i) O (Ra i (by first | decide | lia | omega)) (by first | decide | lia | omega) hhL hdep hun hfrL hflL hk1 hk2 hk3 hk4 (by one_item) (by one_item) (by one_item) (by one_item) (cs := [c0, c1, c2, P.shift]) (by one_item) rfl rfl rfl hk5 (by kernel_rfl)) ?sb2
      case sb2 => show Sub [("turn", v), ("state", (stepS P i (sendS P σ i)).pv P), ("pieces", sL P.pieces), ("marks", .int (P.m : Nat)), ("writing", .str (S x)), ("cells", .list (pI [c0, c1, c2, P.shift]))] _; one_place
    -- the letters come
    have hl2 : ∀ τ : St, τ.letters.length ≤ 900 → IterV (lc w A L).w (lc w A L).A true (.list (List.replicate τ.letters.length (.int 3))) (List.replicate τ.letters.length (.int 3)) := fun τ _ => IterV.list hhL
    have hla : (rndA P σ).letters.length ≤ 900 := (Ra (P.m - 1) (Nat.le_refl _)).l1
    refine NxI.cons [("state", (rndB P σ).pv P), ("pieces", sL P.pieces), ("marks", .int (P.m : Nat)), ("cells", .list (pI [c0, c1, c2, P.shift])), ("writing", .str (S x))] (SxI.forN (isl := true) (src := .list (List.replicate (rndA P σ).letters.length (.int 3))) (ds := List.replicate (rndA P σ).letters.length (.int 3)) (fun i => [("state", (repS P 3 (rndA P σ) i).pv P), ("pieces", sL P.pieces), ("marks", .int (P.m : Nat)), ("cells", .list (pI [c0, c1, c2, P.shift])), ("writing", .str (S x))]) ?e1 (IterV.list hhL) (.inl (by kernel_rfl)) ?e2 (by intro _; rfl)) ?e3 ?_
    case e3 =>
      rw [List.length_replicate]
      show Sub [("state", (repS P 3 (rndA P σ) (rndA P σ).letters.length).pv P), ("pieces", sL P.pieces), ("marks", .int (P.m : Nat)), ("cells", .list (pI [c0, c1, c2, P.shift])), ("writing", .str (S x))] _
      one_place
    case e1 =>
      refine EvI.to (EvI.bin (a := .list [PV.int 3]) (b := .int ((rndA P σ).letters.length : Int)) (EvI.list (EvLI.cons rfl EvI.int EvLI.nil) (szL (by simp))) ?len (.of (BinV.mul_list (by first | decide | lia | omega) (by first | decide | lia | omega) (by first | decide | lia | omega)))) (by simp)
      refine EvI.to (EvI.call_b (id := "len") (by kernel_rfl) (by kernel_rfl) (by kernel_rfl) (EvLI.cons rfl (d := nL (rndA P σ).letters) (EvI.sub (o := (repS P 3 (rndA P σ) 0).pv P) (i := .int (2 : Nat)) (by one_item) EvI.int (.of (GetV.tuple (by first | decide | lia | omega) (by first | decide | lia | omega) rfl)) rfl (by intro _ _; first | exact .inl rfl | exact .inr rfl)) EvLI.nil) (.of (CallV.len_list (by rw [List.length_map]; (first | lia | omega)))) rfl (by rfl) (by decide +kernel) (by kernel_rfl)) (by rw [List.length_map])
    case e2 =>
      intro i v' hv'
      obtain ⟨hi1, hi2⟩ := List.getElem?_eq_some_iff.mp hv'
      have hi : i < (rndA P σ).letters.length := by simpa using hi1
      rw [List.getElem_replicate] at hi2
      subst hi2
      refine NxI.one (SxI.step (deed := 3) (σ := repS P 3 (rndA P σ) i) O (Rb i (by first | decide | lia | omega)) (by first | decide | lia | omega) hhL hdep hun hfrL hflL hk1 hk2 hk3 hk4 (by one_item) (EvI.to (d := .int 3) (by one_item) rfl) (by one_item) (by one_item) (cs := [c0, c1, c2, P.shift]) (by one_item) rfl rfl rfl hk5 (by kernel_rfl)) ?sb3
      case sb3 => show Sub [("state", (stepS P 3 (repS P 3 (rndA P σ) i)).pv P), ("pieces", sL P.pieces), ("marks", .int (P.m : Nat)), ("cells", .list (pI [c0, c1, c2, P.shift])), ("writing", .str (S x))] _; one_place
    -- the answers come
    have hlb : (rndB P σ).answers.length ≤ 900 := (Rb (rndA P σ).letters.length (Nat.le_refl _)).l2
    refine NxI.cons [("state", (rndC P σ).pv P), ("pieces", sL P.pieces), ("marks", .int (P.m : Nat)), ("cells", .list (pI [c0, c1, c2, P.shift])), ("writing", .str (S x))] (SxI.forN (isl := true) (src := .list (List.replicate (rndB P σ).answers.length (.int 6))) (ds := List.replicate (rndB P σ).answers.length (.int 6)) (fun i => [("state", (repS P 6 (rndB P σ) i).pv P), ("pieces", sL P.pieces), ("marks", .int (P.m : Nat)), ("cells", .list (pI [c0, c1, c2, P.shift])), ("writing", .str (S x))]) ?f1 (IterV.list hhL) (.inl (by kernel_rfl)) ?f2 (by intro _; rfl)) ?f3 (NxI.nil (by one_place))
    case f3 =>
      rw [List.length_replicate]
      show Sub [("state", (repS P 6 (rndB P σ) (rndB P σ).answers.length).pv P), ("pieces", sL P.pieces), ("marks", .int (P.m : Nat)), ("cells", .list (pI [c0, c1, c2, P.shift])), ("writing", .str (S x))] _
      one_place
    case f1 =>
      refine EvI.to (EvI.bin (a := .list [PV.int 6]) (b := .int ((rndB P σ).answers.length : Int)) (EvI.list (EvLI.cons rfl EvI.int EvLI.nil) (szL (by simp))) ?len2 (.of (BinV.mul_list (by first | decide | lia | omega) (by first | decide | lia | omega) (by first | decide | lia | omega)))) (by simp)
      refine EvI.to (EvI.call_b (id := "len") (by kernel_rfl) (by kernel_rfl) (by kernel_rfl) (EvLI.cons rfl (d := nL (rndB P σ).answers) (EvI.sub (o := (repS P 6 (rndB P σ) 0).pv P) (i := .int (3 : Nat)) (by one_item) EvI.int (.of (GetV.tuple (by first | decide | lia | omega) (by first | decide | lia | omega) rfl)) rfl (by intro _ _; first | exact .inl rfl | exact .inr rfl)) EvLI.nil) (.of (CallV.len_list (by rw [List.length_map]; (first | lia | omega)))) rfl (by rfl) (by decide +kernel) (by kernel_rfl)) (by rw [List.length_map])
    case f2 =>
      intro i v' hv'
      obtain ⟨hi1, hi2⟩ := List.getElem?_eq_some_iff.mp hv'
      have hi : i < (rndB P σ).answers.length := by simpa using hi1
      rw [List.getElem_replicate] at hi2
      subst hi2
      refine NxI.one (SxI.step (deed := 6) (σ := repS P 6 (rndB P σ) i) O (Rc i (by first | decide | lia | omega)) (by first | decide | lia | omega) hhL hdep hun hfrL hflL hk1 hk2 hk3 hk4 (by one_item) (EvI.to (d := .int 6) (by one_item) rfl) (by one_item) (by one_item) (cs := [c0, c1, c2, P.shift]) (by one_item) rfl rfl rfl hk5 (by kernel_rfl)) ?sb4
      case sb4 => show Sub [("state", (stepS P 6 (repS P 6 (rndB P σ) i)).pv P), ("pieces", sL P.pieces), ("marks", .int (P.m : Nat)), ("cells", .list (pI [c0, c1, c2, P.shift])), ("writing", .str (S x))] _; one_place
end
end Mine
end

section
open PySem PySem.W PyProof.Rows PySem.Builtin
set_option Elab.async false
set_option maxRecDepth 100000
set_option linter.all false
namespace Mine
noncomputable def sideZ (a b : Nat) : Int := if a = b then 0 else if a < b then 1 else -1
noncomputable def nameS (m : Nat) (e : Nat × Nat) : Str := if e.1 = e.2 then "writing" else S (markL m e.1)
noncomputable abbrev tuN (l : List (Nat × Nat)) : List PV := l.map fun e => PV.tuple [.int (e.1 : Int), .int (e.2 : Int)]
section
variable {k : Bool} {w : World} {A : Around} {c : Cx} {ρ ρ₁ ρ' : REnv} {g g' : Vw} {s s' : Shared}
noncomputable def bndP (x y : Str) : PV → REnv
  | .tuple [a, b] => [(y, b), (x, a)]
  | _ => []
noncomputable def asN : PV → Nat × Nat
  | .tuple [.int a, .int b] => (a.toNat, b.toNat)
  | _ => (0, 0)
theorem asN_map {α : Type} (f : Nat × Nat → PV) (l : List (Nat × Nat)) : (tuN l).filterMap (fun d => some (f (asN d))) = l.map f := by
  rw [List.filterMap_map]
  show List.filterMap (fun e => some (f (e.1, e.2))) l = _
  rw [List.filterMap_eq_map']
/-- a comprehension over pairs of numbers -/
theorem EvI.pairs {elt iter : Expr} {x y : Str} {px py tp : Pos} {tk : Nat} {scope : Scope} {cl : List (Str × Addr)} {pos : Pos} {l : List (Nat × Nat)} {ρ' : REnv} (f : Nat × Nat → PV) (hh : c.A.handled = Option.none)
    (h1 : EvI k c ρ iter (.list (tuN l))) (hclos : closureFor scope c.env = pure cl) (hcell : (scope.names.all fun y => decide (y.2 ≠ .cell)) = true) (hk : scope.kind = .function)
    (hnames : (scope.names.all fun y => decide (y.2 = .local → scope.names.lookup y.1 = some .local)) = true)
    (hkx : ∀ C, (inC c scope cl C).env.kindOf x = some .local) (hky : ∀ C, (inC c scope cl C).env.kindOf y = some .local) (hp : ∀ C, ((inC c scope cl C).env.scope.kind == .class || ((inC c scope cl C).env.scope.kind == .module && (inC c scope cl C).env.locals != (inC c scope cl C).env.globals)) = false)
    (hx : (relabel scope c.env).names.lookup x = some .local) (hy : (relabel scope c.env).names.lookup y = some .local) (hS : Seen c ρ scope cl ρ')
    (hbody : ∀ C (e : Nat × Nat), e ∈ l → EvI k (inC c scope cl C) ((y, .int (e.2 : Int)) :: (x, .int (e.1 : Int)) :: ρ') elt (f e))
    (hsz : l.length ≤ 2 ^ 20) (hs : ∀ x, foldedSetIterable iter c.env x = pure x) : EvI k c ρ (.ListComp elt [⟨.Tuple [.Name x px, .Name y py] tk tp, iter, [], 0⟩] scope pos) (.list (l.map f)) := by
  refine .of (Ev.to (Ev.listcomp (isl := true) (fun d => some (f (asN d))) (bndP x y) h1.out (IterV.list hh) hclos (fun y hy => of_decide_eq_true (List.all_eq_true.mp hcell y hy)) hk (fun y hy => of_decide_eq_true (List.all_eq_true.mp hnames y hy)) (fun C d hd => ?_) (fun d hd => ?_) hS (fun C d hd => ?_) (by rw [List.length_map]; exact szL hsz) hs) (by rw [asN_map (α := Nat)]))
  · obtain ⟨e, he, rfl⟩ := List.mem_map.mp hd
    exact TgtV.pair hh (hkx C) (hky C) (hp C)
  · obtain ⟨e, he, rfl⟩ := List.mem_map.mp hd
    intro z v hz
    show (relabel scope c.env).names.lookup z = some .local
    have hz : ([(y, PV.int (e.2 : Int)), (x, PV.int (e.1 : Int))] : REnv).lookup z = some v := hz
    rw [List.lookup_cons] at hz
    cases q : z == y with
    | true => exact (eq_of_beq q) ▸ hy
    | false =>
      rw [q] at hz
      exact lookup_one (P := fun z => (relabel scope c.env).names.lookup z = some .local) hx z v hz
  · obtain ⟨e, he, rfl⟩ := List.mem_map.mp hd
    refine ⟨Tests.nil, fun o ho => ?_⟩
    cases ho
    exact (hbody C e he).out
theorem SxI.pairs {elt iter : Expr} {x y z : Str} {px py pz tp : Pos} {tk : Nat} {scope : Scope} {cl : List (Str × Addr)} {pos spos : Pos} {l : List (Nat × Nat)} {ρ' : REnv} (f : Nat × Nat → PV) (hh : c.A.handled = Option.none)
    (hsw : swapsWith (.ListComp elt [⟨.Tuple [.Name x px, .Name y py] tk tp, iter, [], 0⟩] scope pos) (some (.Name z pz)) spos.line c.env = pure true) (hz : CanStore c z)
    (h1 : EvI k c ρ iter (.list (tuN l))) (hclos : closureFor scope c.env = pure cl) (hcell : (scope.names.all fun y => decide (y.2 ≠ .cell)) = true) (hk : scope.kind = .function)
    (hnames : (scope.names.all fun y => decide (y.2 = .local → scope.names.lookup y.1 = some .local)) = true)
    (hkx : ∀ C, (inC c scope cl C).env.kindOf x = some .local) (hky : ∀ C, (inC c scope cl C).env.kindOf y = some .local) (hp : ∀ C, ((inC c scope cl C).env.scope.kind == .class || ((inC c scope cl C).env.scope.kind == .module && (inC c scope cl C).env.locals != (inC c scope cl C).env.globals)) = false)
    (hx : (relabel scope c.env).names.lookup x = some .local) (hy : (relabel scope c.env).names.lookup y = some .local) (hS : Seen c ρ scope cl ρ')
    (hbody : ∀ C (e : Nat × Nat), e ∈ l → EvI k (inC c scope cl C) ((y, .int (e.2 : Int)) :: (x, .int (e.1 : Int)) :: ρ') elt (f e))
    (hsz : l.length ≤ 2 ^ 20) (hs : ∀ x, foldedSetIterable iter c.env x = pure x) : SxI k c ρ (.Assign [.Name z pz] (.ListComp elt [⟨.Tuple [.Name x px, .Name y py] tk tp, iter, [], 0⟩] scope pos) spos) ((z, .list (l.map f)) :: ρ) := by
  have key := Sx.assign_comp (k := k) (c := c) (ρ := ρ) (isl := true) (ρ' := ρ') (fun d => some (f (asN d))) (bndP x y) hsw hz h1.out (IterV.list hh) hclos (fun y hy => of_decide_eq_true (List.all_eq_true.mp hcell y hy)) hk (fun y hy => of_decide_eq_true (List.all_eq_true.mp hnames y hy)) (fun C d hd => ?_) (fun d hd => ?_) hS (fun C d hd => ?_) (by rw [List.length_map]; exact szL hsz) hs
  · rw [asN_map (α := Nat)] at key
    exact .of key
  · obtain ⟨e, he, rfl⟩ := List.mem_map.mp hd
    exact TgtV.pair hh (hkx C) (hky C) (hp C)
  · obtain ⟨e, he, rfl⟩ := List.mem_map.mp hd
    intro z v hz
    show (relabel scope c.env).names.lookup z = some .local
    have hz : ([(y, PV.int (e.2 : Int)), (x, PV.int (e.1 : Int))] : REnv).lookup z = some v := hz
    rw [List.lookup_cons] at hz
    cases q : z == y with
    | true => exact (eq_of_beq q) ▸ hy
    | false =>
      rw [q] at hz
      exact lookup_one (P := fun z => (relabel scope c.env).names.lookup z = some .local) hx z v hz
  · obtain ⟨e, he, rfl⟩ := List.mem_map.mp hd
    refine ⟨Tests.nil, fun o ho => ?_⟩
    cases ho
    exact (hbody C e he).out
theorem TrI.not {x : Expr} {pos : Pos} {b : Bool} (h1 : TrI k c ρ x b) : TrI k c ρ (.UnaryOp .Not x pos) (!b) := .of (Tr.not h1.out)
theorem TrI.plain {e : Expr} {b : Bool} (h1 : EvI k c ρ e (.bool b)) (he : isTrue e c.env (eval e c.env) = (do let v ← eval e c.env; standAt e.pos; holding [v] (truthy v))) : TrI k c ρ e b := .of (Tr.plain h1.out he)
theorem TrI.or_f {x : Expr} {rest : List Expr} {pos : Pos} {b : Bool} (h1 : TrI k c ρ x false) (h2 : TrI k c ρ (.BoolOp .Or rest pos) b) : TrI k c ρ (.BoolOp .Or (x :: rest) pos) b := .of (Tr.or_f h1.out h2.out)
theorem TrI.or_nil {pos : Pos} : TrI k c ρ (.BoolOp .Or [] pos) false := .of Tr.or_nil
theorem FxI.if_f {test : Expr} {body r : List Stmt} {pos : Pos} {d : PV} (h1 : TrI k c ρ test false) (h2 : FxI k c ρ r d) : FxI k c ρ (.If test body [] pos :: r) d := FxI.of (Fx.cons (Sx.if_f h1.out Nx.nil) h2.out)
theorem EvI.markE {e em : Expr} {kd ki kd' : Nat} {p1 p2 p3 p4 p5 p6 p7 : Pos} {p m : Nat} (h : EvI k c ρ e (.int (p : Int))) (hm : EvI k c ρ em (.int (m : Int))) (m0 : 0 < m) (m1 : m ≤ 4) :
    EvI k c ρ (.BinOp (.BinOp (.Constant (.str ".") kd p1) .Mult (.BinOp (.Constant (.int 1) ki p2) .Add (.BinOp e .Mod em p3) p4) p5) .Add (.Constant (.str "/") kd' p6) p7) (.str (S (markL m p))) := .of (Ev.markE h.out hm.out m0 m1)
theorem nat_mod (p : Nat) {m : Nat} (h : 0 < m) : ((p : Int).fmod (m : Int)) = ((p % m : Nat) : Int) := by
  rw [Int.fmod_eq_emod_of_nonneg _ (by first | decide | lia | omega)]; rfl
set_option maxHeartbeats 0 in
theorem law_e (w : World) : ∃ B, (FD w 158).body = .stmts B ∧ ∀ (A : Around) (L : Addr) (P : Cst) (n : Nat) (log : List (Nat × Nat)) (x : List Nat) (d : PV), A.handled = none → A.depth ≤ 420 → A.units ≤ 100 → CstOK P → P.pieces.length = n → log.length ≤ 900 →
    FxI false (lc w A L) [("names", .list (log.map fun e => PV.str (nameS P.m e))), ("sides", .list (log.map fun e => PV.int (sideZ (e.1 % P.m) (e.2 % P.m)))), ("book", (bookOf P log).pv), ("log", logL log), ("pieces", sL P.pieces), ("writing", .str (S x))] (B.drop 15) d →
    FxI false (lc w A L) [("state", St.pv P ⟨[], [], n, n, log⟩), ("pieces", sL P.pieces), ("marks", .int (P.m : Nat)), ("writing", .str (S x))] (B.drop 10) d := by
  refine ⟨_, rfl, fun A L P n log x d hh hroom hu O hn hlog hrest => ?_⟩
  simp only [List.drop_succ_cons, List.drop_zero] at hrest ⊢
  have hhL : (lc w A L).A.handled = none := by rw [lc_eq]; exact hh
  have hun : (lc w A L).A.units ≤ 200 := by rw [lc_eq]; show A.units + 3 ≤ 200; (first | lia | omega)
  have hcu : (lc w A L).A.units + 70 < cLine := by have e : cLine = 9900 := by rfl
                                                   (first | lia | omega)
  have m0 := O.m0
  have m1 := O.m1
  have hpl := O.n
  refine FxI.two [("state", St.pv P ⟨[], [], n, n, log⟩), ("book", (bookOf P log).pv), ("log", logL log), ("pieces", sL P.pieces), ("marks", .int (P.m : Nat)), ("writing", .str (S x))] (d1 := (bookOf P log).pv) (d2 := logL log) hhL ?a1 (.inl (by kernel_rfl)) (.inl (by kernel_rfl)) (by kernel_rfl) (by kernel_rfl) (by one_place) ?_
  case a1 => exact EvLI.cons rfl (EvI.sub (o := St.pv P ⟨[], [], n, n, log⟩) (i := .int (6 : Nat)) (by one_item) EvI.int (.of (GetV.tuple (by first | decide | lia | omega) (by first | decide | lia | omega) rfl)) rfl (by intro _ _; first | exact .inl rfl | exact .inr rfl)) (EvLI.cons rfl (EvI.sub (o := St.pv P ⟨[], [], n, n, log⟩) (i := .int (7 : Nat)) (by one_item) EvI.int (.of (GetV.tuple (by first | decide | lia | omega) (by first | decide | lia | omega) rfl)) rfl (by intro _ _; first | exact .inl rfl | exact .inr rfl)) EvLI.nil)
  have ht2 : tpick (St.pvs P ⟨[], [], n, n, log⟩) Option.none (some 2) = [.str (S []), .str (S [])] := by kernel_rfl
  have ht4 : tpick (St.pvs P ⟨[], [], n, n, log⟩) (some 4) (some 6) = [.int (n : Int), .int (n : Int)] := by kernel_rfl
  refine FxI.if_f (TrI.or_f ?b1 (TrI.or_f ?b2 (TrI.or_f ?b3 TrI.or_nil))) ?_
  case b1 => exact TrI.not (b := true) (TrI.plain (EvI.sub (o := St.pv P ⟨[], [], n, n, log⟩) (i := .int (8 : Nat)) (by one_item) EvI.int (.of (GetV.tuple (by first | decide | lia | omega) (by first | decide | lia | omega) rfl)) rfl (by intro _ _; first | exact .inl rfl | exact .inr rfl)) (by rfl))
  case b2 =>
    refine TrI.cmp (a := .tuple [.str (S []), .str (S [])]) (b := .tuple [.str (S []), .str (S [])]) ?c1 ?c2 (CmpI.ne_self 1 (by decide +kernel) (by first | decide | lia | omega) (by first | decide | lia | omega)) (by kernel_rfl)
    case c1 => exact EvI.to (EvI.sub (o := St.pv P ⟨[], [], n, n, log⟩) (i := .slice Option.none (some 2) Option.none) (by one_item) (EvI.slice PartI.none (PartI.some EvI.int) PartI.none) (.of (GetV.slice_tuple (by kernel_rfl) (by rw [ht2]; exact szL (by simp)))) rfl (by intro _ _; first | exact .inl rfl | exact .inr rfl)) (congrArg PV.tuple ht2)
    case c2 => exact EvI.tuple (EvLI.cons rfl (EvI.str (by kernel_rfl)) (EvLI.cons rfl (EvI.str (by kernel_rfl)) EvLI.nil)) (szL (by simp))
  case b3 =>
    refine TrI.cmp (a := .tuple [.int (n : Int), .int (n : Int)]) (b := .tuple [.int (n : Int), .int (n : Int)]) ?d1 ?d2 (CmpI.ne_self 1 (by rfl) (by first | decide | lia | omega) (by first | decide | lia | omega)) (by kernel_rfl)
    case d1 => exact EvI.to (EvI.sub (o := St.pv P ⟨[], [], n, n, log⟩) (i := .slice (some 4) (some 6) Option.none) (by one_item) (EvI.slice (PartI.some EvI.int) (PartI.some EvI.int) PartI.none) (.of (GetV.slice_tuple (by kernel_rfl) (by rw [ht4]; exact szL (by simp)))) rfl (by intro _ _; first | exact .inl rfl | exact .inr rfl)) (congrArg PV.tuple ht4)
    case d2 =>
      refine EvI.tuple (EvLI.cons rfl (EvI.to (EvI.call_b (id := "len") (by kernel_rfl) (by kernel_rfl) (by kernel_rfl) (EvLI.cons rfl (d := sL P.pieces) (by one_item) EvLI.nil) (.of (CallV.len_list (by rw [List.length_map]; (first | lia | omega)))) rfl (by rfl) (by decide +kernel) (by kernel_rfl)) (by rw [List.length_map, hn]))
        (EvLI.cons rfl (EvI.to (EvI.call_b (id := "len") (by kernel_rfl) (by kernel_rfl) (by kernel_rfl) (EvLI.cons rfl (d := sL P.pieces) (by one_item) EvLI.nil) (.of (CallV.len_list (by rw [List.length_map]; (first | lia | omega)))) rfl (by rfl) (by decide +kernel) (by kernel_rfl)) (by rw [List.length_map, hn])) EvLI.nil)) (szL (by simp))
  -- ranks
  refine FxI.cons [("ranks", .list (tuN (log.map fun e => (e.1 % P.m, e.2 % P.m)))), ("book", (bookOf P log).pv), ("log", logL log), ("pieces", sL P.pieces), ("marks", .int (P.m : Nat)), ("writing", .str (S x))] (SxI.pairs (l := log) (ρ' := [("marks", .int (P.m : Nat))]) (cl := [cellOf (lc w A L) "marks"]) (fun e => .tuple [.int ((e.1 % P.m : Nat) : Int), .int ((e.2 % P.m : Nat) : Int)]) hhL (by kernel_rfl) (.inl (by kernel_rfl)) (by one_item) (by kernel_rfl) (by kernel_rfl) (by kernel_rfl) (by kernel_rfl) (fun _ => by kernel_rfl) (fun _ => by kernel_rfl) (fun _ => by kernel_rfl) (by kernel_rfl) (by kernel_rfl) (Seen.cons (by got_up) (by kernel_rfl) (by kernel_rfl) (by kernel_rfl) Seen.nil) ?r1 (by first | decide | lia | omega) (by intro _; rfl)) ?r2 ?_
  case r2 =>
    rw [show (tuN (log.map fun e => (e.1 % P.m, e.2 % P.m))) = log.map (fun e => PV.tuple [.int ((e.1 % P.m : Nat) : Int), .int ((e.2 % P.m : Nat) : Int)]) from by unfold tuN; rw [List.map_map]; rfl]
    one_place
  case r1 =>
    intro C e he
    refine EvI.tuple (EvLI.cons rfl (EvI.to (EvI.bin (a := .int (e.1 : Int)) (b := .int (P.m : Int)) (by one_item) (by one_item) (.of (BinV.mod (by first | decide | lia | omega)))) (by rw [nat_mod _ (by first | decide | lia | omega)])) (EvLI.cons rfl (EvI.to (EvI.bin (a := .int (e.2 : Int)) (b := .int (P.m : Int)) (by one_item) (by one_item) (.of (BinV.mod (by first | decide | lia | omega)))) (by rw [nat_mod _ (by first | decide | lia | omega)])) EvLI.nil)) (szL (by simp))
  -- sides
  refine FxI.cons [("sides", .list (log.map fun e => PV.int (sideZ (e.1 % P.m) (e.2 % P.m)))), ("book", (bookOf P log).pv), ("log", logL log), ("pieces", sL P.pieces), ("marks", .int (P.m : Nat)), ("writing", .str (S x))] (SxI.pairs (l := log.map fun e => (e.1 % P.m, e.2 % P.m)) (ρ' := []) (cl := []) (fun e => .int (sideZ e.1 e.2)) hhL (by kernel_rfl) (.inl (by kernel_rfl)) (by one_item) (by kernel_rfl) (by kernel_rfl) (by kernel_rfl) (by kernel_rfl) (fun _ => by kernel_rfl) (fun _ => by kernel_rfl) (fun _ => by kernel_rfl) (by kernel_rfl) (by kernel_rfl) Seen.nil ?s1 (by rw [List.length_map]; (first | lia | omega)) (by intro _; rfl)) ?s2 ?_
  case s2 =>
    rw [List.map_map]
    show Sub _ (("sides", .list (log.map fun e => PV.int (sideZ (e.1 % P.m) (e.2 % P.m)))) :: _)
    one_place
  case s1 =>
    intro C e he
    refine EvI.ite (decide (e.1 = e.2)) ?t1 (fun h => ?t2) fun h => ?t3
    case t1 =>
      refine TrI.to (TrI.cmp (a := .int (e.1 : Int)) (b := .int (e.2 : Int)) (by one_item) (by one_item) (.of (CmpV.eq 0 0 rfl rfl (by first | decide | lia | omega) (by first | decide | lia | omega) (show (lc w A L).A.units + 64 < cLine by (first | lia | omega)))) (by kernel_rfl)) ?_
      rw [eqv_ints, Bool.eq_iff_iff]
      simp only [decide_eq_true_eq]
      (first | lia | omega)
    case t2 =>
      have h := of_decide_eq_true h
      unfold sideZ
      rw [if_pos h]
      one_item
    case t3 =>
      have h := of_decide_eq_false h
      unfold sideZ
      rw [if_neg h]
      refine EvI.ite (decide (e.1 < e.2)) ?t4 (fun h => ?t5) fun h => ?t6
      case t4 =>
        refine TrI.to (TrI.cmp (a := .int (e.1 : Int)) (b := .int (e.2 : Int)) (by one_item) (by one_item) (.of CmpV.lt) (by kernel_rfl)) ?_
        rw [Bool.eq_iff_iff]
        simp only [decide_eq_true_eq]
        (first | lia | omega)
      case t5 =>
        rw [if_pos (of_decide_eq_true h)]
        one_item
      case t6 =>
        rw [if_neg (of_decide_eq_false h)]
        exact .of Ev.neg
  -- names
  refine FxI.assign [("names", .list (log.map fun e => PV.str (nameS P.m e))), ("sides", .list (log.map fun e => PV.int (sideZ (e.1 % P.m) (e.2 % P.m)))), ("book", (bookOf P log).pv), ("log", logL log), ("pieces", sL P.pieces), ("writing", .str (S x))] (d := .list (log.map fun e => PV.str (nameS P.m e))) (EvI.pairs (l := log) (ρ' := [("marks", .int (P.m : Nat))]) (cl := [cellOf (lc w A L) "marks"]) (fun e => PV.str (nameS P.m e)) hhL (by one_item) (by kernel_rfl) (by kernel_rfl) (by kernel_rfl) (by kernel_rfl) (fun _ => by kernel_rfl) (fun _ => by kernel_rfl) (fun _ => by kernel_rfl) (by kernel_rfl) (by kernel_rfl) (Seen.cons (by got_up) (by kernel_rfl) (by kernel_rfl) (by kernel_rfl) Seen.nil) ?n1 (by first | decide | lia | omega) (by intro _; rfl)) (CanStore.cellIn (by kernel_rfl) (by kernel_rfl)) (by kernel_rfl) (by one_place) hrest
  case n1 =>
    intro C e he
    refine EvI.ite (decide (e.1 = e.2)) ?u1 (fun h => ?u2) fun h => ?u3
    case u1 =>
      refine TrI.to (TrI.cmp (a := .int (e.1 : Int)) (b := .int (e.2 : Int)) (by one_item) (by one_item) (.of (CmpV.eq 0 0 rfl rfl (by first | decide | lia | omega) (by first | decide | lia | omega) (show (lc w A L).A.units + 64 < cLine by (first | lia | omega)))) (by kernel_rfl)) ?_
      rw [eqv_ints, Bool.eq_iff_iff]
      simp only [decide_eq_true_eq]
      (first | lia | omega)
    case u2 =>
      unfold nameS
      rw [if_pos (of_decide_eq_true h)]
      exact EvI.str rfl
    case u3 =>
      unfold nameS
      rw [if_neg (of_decide_eq_false h)]
      exact EvI.markE (by one_item) (by one_item) (by first | decide | lia | omega) m1
end
end Mine
end

section
open PySem PySem.W PyProof.Rows PySem.Builtin
set_option Elab.async false
set_option maxRecDepth 100000
set_option linter.all false
namespace Mine
noncomputable def tabN (N : List Str) (v : Str → PV) : Nat → List PV
  | 0 => []
  | i + 1 => if N.getD i "" ∈ N.take i then tabN N v i else tabN N v i ++ [.tuple [.str (N.getD i ""), v (N.getD i "")]]
noncomputable def valN (N : List Str) (x : List Nat) (s : Str) : PV := if s = "writing" then .str (S x) else .int ((N.filter fun t => decide (t = s)).length : Nat)
section
variable {k : Bool} {w : World} {A : Around} {c : Cx} {ρ ρ₁ ρ' : REnv} {g g' : Vw} {s s' : Shared}
theorem eqv_strs (a b : Str) : PV.eqv (.str a) (.str b) = decide (a = b) := by
  show PyData.eqv (.str a) (.str b) = _
  unfold PyData.eqv
  rw [Bool.eq_iff_iff]; simp
theorem any_strs (l : List Str) (s : Str) : ((l.map PV.str).any fun y => PV.eqv y (.str s)) = decide (s ∈ l) := by
  induction l with
  | nil => simp
  | cons a l ih =>
    rw [List.map_cons, List.any_cons, ih, eqv_strs, Bool.eq_iff_iff]
    simp only [Bool.or_eq_true, decide_eq_true_eq, List.mem_cons]
    exact ⟨fun h => h.imp Eq.symm id, fun h => h.imp Eq.symm id⟩
theorem filter_strs (l : List Str) (s : Str) : (l.map PV.str).filter (fun y => PV.eqv y (.str s)) = (l.filter fun t => decide (t = s)).map PV.str := by
  rw [List.filter_map]
  congr 1
theorem oks_strs {l : List Str} (h : ∀ s ∈ l, PV.ok 0 (.str s) = true) : PV.oks 0 (l.map PV.str) = true := by
  induction l with
  | nil => rfl
  | cons a l ih =>
    rw [List.map_cons, PV.oks_cons, Bool.and_eq_true]
    exact ⟨h a List.mem_cons_self, ih fun s hs => h s (List.mem_cons_of_mem _ hs)⟩
theorem str_at {l : List Str} {i : Nat} (h : i < l.length) : (l.map PV.str)[i]? = some (.str (l.getD i "")) := by
  rw [List.getElem?_map, List.getElem?_eq_getElem h]
  simp [List.getD, h]
theorem TrI.if_ {test : Expr} {body orelse : List Stmt} {pos : Pos} {b : Bool} {Q : Flow → Shared → Prop} {E : Value → Shared → Prop} (h1 : TrI k c ρ test b) (F : FrOK c ρ g s) (h2 : ∀ g' s', Step k g s g' s' → FrOK c ρ g' s' → Wp c (execs (if b then body else orelse) c.env) Q E s') :
    Wp c (exec (.If test body orelse pos) c.env) Q E s := wpAny_If (h1.out g s _ E F.env F.le fun g' s' st => by
  have := h2 g' s' st (F.step st)
  cases b with
  | true => exact this
  | false => exact this)
theorem small_n (n : Nat) (hn : n ≤ 2 ^ 20) : Builtin.Range.small 0 (n : Int) 1 = true := by
  unfold Builtin.Range.small
  have hf : ∀ i : Int, -1 ≤ i → i ≤ 2 ^ 21 → Builtin.Range.rangeFitsLong i = true := fun i h1 h2 => by
    unfold Builtin.Range.rangeFitsLong
    simp
    (first | lia | omega)
  have hz : Builtin.Range.rangeSize 0 (n : Int) 1 = (n : Int) := by
    unfold Builtin.Range.rangeSize
    simp
    (first | lia | omega)
  rw [hz, hf 0 (by first | decide | lia | omega) (by first | decide | lia | omega), hf n (by first | decide | lia | omega) (by first | decide | lia | omega), hf 1 (by first | decide | lia | omega) (by first | decide | lia | omega)]
  simp
  exact .inr (hf n (by first | decide | lia | omega) (by first | decide | lia | omega))
set_option maxHeartbeats 0 in
theorem law_f (w : World) : ∃ B, (FD w 158).body = .stmts B ∧ ∀ (A : Around) (L : Addr) (N : List Str) (x : List Nat) (d bk lg pc sd : PV), A.handled = none → A.depth ≤ 420 → A.units ≤ 100 → N.length ≤ 900 → (∀ s ∈ N, PV.ok 0 (.str s) = true) →
    FxI false (lc w A L) [("table", .list (tabN N (valN N x) N.length)), ("sides", sd), ("book", bk), ("log", lg), ("pieces", pc)] (B.drop 17) d →
    Fx false (lc w A L) [("names", .list (N.map PV.str)), ("sides", sd), ("book", bk), ("log", lg), ("pieces", pc), ("writing", .str (S x))] (B.drop 15) d := by
  refine ⟨_, rfl, fun A L N x d bk lg pc sd hh hroom hu hN hok hrest => ?_⟩
  simp only [List.drop_succ_cons, List.drop_zero] at hrest ⊢
  have hhL : (lc w A L).A.handled = none := by rw [lc_eq]; exact hh
  have hun : (lc w A L).A.units ≤ 200 := by rw [lc_eq]; show A.units + 3 ≤ 200; (first | lia | omega)
  have hcu : (lc w A L).A.units + 70 < cLine := by have e : cLine = 9900 := by rfl
                                                   (first | lia | omega)
  intro g s Q E F hQ
  refine wpAny_execs_cons (new_list (k := false) F (.inl (by kernel_rfl)) (by kernel_rfl) fun D s1 st1 hD hDo hDg F1 D1 => ?_)
  have hit : IterV (lc w A L).w (lc w A L).A false (.range 0 (N.length : Int)) (ups 0 N.length) := by
    have hs := small_n N.length (by first | decide | lia | omega)
    have := IterV.range (w := (lc w A L).w) hhL hs
    simpa using this
  refine wpAny_execs_cons (forN_V (k := false) (isl := false) (src := .range 0 (N.length : Int)) (ds := ups 0 N.length) (fun i => [("table", .hid D), ("names", .list (N.map PV.str)), ("sides", sd), ("book", bk), ("log", lg), ("pieces", pc), ("writing", .str (S x))]) (fun b => b = D) (fun i g h => LRep (lc w A L).w g h D (tabN N (valN N x) i)) (EvI.out ?i1) hit (CanStore.cellIn (by kernel_rfl) (by kernel_rfl)) (fun i g h H b hb => hb ▸ ⟨H.has, hDo⟩) (fun i g g' h h' H up hk _ => H.keep up fun o e => hk D o rfl e) ?i2 F1 D1 (fun b hb => hb ▸ hDg) ?i3 (by intro _; rfl))
  case i1 =>
    refine EvI.call_t (T := "range") (by kernel_rfl) (by kernel_rfl) (by kernel_rfl) (EvLI.cons rfl (d := .int (N.length : Int)) ?l1 EvLI.nil) (.of CallV.range1) rfl (by rfl) (by decide +kernel) (by kernel_rfl)
    exact EvI.to (EvI.call_b (id := "len") (by kernel_rfl) (by kernel_rfl) (by kernel_rfl) (EvLI.cons rfl (d := .list (N.map PV.str)) (by one_item) EvLI.nil) (.of (CallV.len_list (by rw [List.length_map]; (first | lia | omega)))) rfl (by rfl) (by decide +kernel) (by kernel_rfl)) (by rw [List.length_map])
  case i3 =>
    intro g2 s2 st2 F2 H2
    have hl : (ups 0 N.length).length = N.length := by unfold ups; simp
    rw [hl] at H2
    have hDg2 : g2 D = none := st2.hides hDg D1.has
    obtain ⟨o, ho, r⟩ := H2.out (X := fun _ => False) hDg2
    have st12 : SS (Own (lc w A L)) false g s g2 s2 := SS.wide st1 st2 (fun b hb => .inl hb) fun b hb hn => by
      rcases hb with hb | hb
      · exact absurd hb hn
      · exact hb ▸ hD
    have st3 := st12.reveal hD hDo ho
    have F3 : FrOK (lc w A L) [("table", .hid D), ("names", .list (N.map PV.str)), ("sides", sd), ("book", bk), ("log", lg), ("pieces", pc), ("writing", .str (S x))] (put g2 D o) s2 := F2.seen (put_le hDg2) st3.sub fun b hb => by
      unfold put
      rw [if_neg (fun q : b = D => hDo (q ▸ hb))]
      exact F2.hid b hb
    have F4 := (F3.swap (x := "table") (by rfl) r).less (ρ₁ := [("table", .list (tabN N (valN N x) N.length)), ("sides", sd), ("book", bk), ("log", lg), ("pieces", pc)]) (by one_place)
    refine hrest.out (put g2 D o) s2 Q E F4 fun v g' s' st r => hQ v g' s' (st3.trans st) r
  case i2 =>
    intro i v hv g s Q E F H hid h
    rw [ups_zero, List.getElem?_map] at hv
    obtain ⟨j, hj, rfl⟩ := Option.map_eq_some_iff.mp hv
    obtain ⟨hj1, hj2⟩ := List.getElem?_eq_some_iff.mp hj
    rw [List.getElem_range] at hj2
    subst hj2
    have hi : i < N.length := by simpa using hj1
    have hDg' : g D = none := hid D rfl
    have hNm : PV.ok 0 (.str (N.getD i "")) = true := hok _ (by rw [List.getD_eq_getElem?_getD, List.getElem?_eq_getElem hi]; exact List.getElem_mem hi)
    have hEnv : ∀ b : Addr, Own (lc w A L) b → b ≠ D := fun b hb q => hDo (q ▸ hb)
    have hnm : ∀ (c : Cx) (p1 p2 p3 : Pos) (ρ : REnv), EvI false c ρ (.Name "names" p1) (.list (N.map PV.str)) → EvI false c ρ (.Name "k" p2) (.int (i : Int)) → EvI false c ρ (.Subscript (.Name "names" p1) (.Name "k" p2) p3) (.str (N.getD i "")) := fun c p1 p2 p3 ρ h1 h2 =>
      EvI.sub (o := .list (N.map PV.str)) (i := .int (i : Nat)) h1 h2 (.of (GetV.list (by first | decide | lia | omega) (by first | decide | lia | omega) (str_at hi))) rfl (by intro _ _; first | exact .inl rfl | exact .inr rfl)
    refine wpAny_execs_cons (TrI.if_ (k := false) (b := !decide (N.getD i "" ∈ N.take i)) ?t1 F fun g1 s1 st1 F1 => ?_)
    case t1 =>
      refine TrI.to (TrI.cmp (a := .str (N.getD i "")) (b := .list ((N.take i).map PV.str)) (hnm _ _ _ _ _ (by one_item) (by one_item)) ?sl (.of (CmpV.notMem 0 0 hNm (oks_strs fun s hs => hok s (List.mem_of_mem_take hs)) (by first | decide | lia | omega) (by first | decide | lia | omega) hcu)) (by kernel_rfl)) (by rw [any_strs])
      exact EvI.to (EvI.sub (o := .list (N.map PV.str)) (i := .slice Option.none (some (i : Nat)) Option.none) (by one_item) (EvI.slice PartI.none (PartI.some (by one_item)) PartI.none) (.of (GetV.slice_list (by simp) (by rw [List.length_map]; exact szL (by first | decide | lia | omega)))) rfl (by intro _ _; first | exact .inl rfl | exact .inr rfl)) (by rw [pick_to, List.map_take])
    have H1 : LRep (lc w A L).w g1 s1.heap D (tabN N (valN N x) i) := H.step st1
    have hDg1 : g1 D = none := st1.hides hDg' H.has
    have e0 : ∀ (g2 : Vw) (s2 : Shared), SS (fun b => Own (lc w A L) b ∨ b = D) false g1 s1 g2 s2 → SS (fun b => Own (lc w A L) b ∨ b = D) false g s g2 s2 := fun g2 s2 st => (F.ssD st1 H.has).trans st
    by_cases hm : N.getD i "" ∈ N.take i
    · have e1 : tabN N (valN N x) (i + 1) = tabN N (valN N x) i := by
        rw [tabN, if_pos hm]
      rw [decide_eq_true hm]
      refine wpAny_execs_nil (wpAny_execs_nil (h g1 s1 (e0 _ _ (SS.refl F1.le)) (F1.less (by one_place)) ?_))
      show LRep (lc w A L).w g1 s1.heap D (tabN N (valN N x) (i + 1))
      rw [e1]; exact H1
    · have e1 : tabN N (valN N x) (i + 1) = tabN N (valN N x) i ++ [.tuple [.str (N.getD i ""), valN N x (N.getD i "")]] := by
        rw [tabN, if_neg hm]
      rw [decide_eq_false hm]
      have hcount : (((N.map PV.str).filter fun y => PV.eqv y (.str (N.getD i ""))).length : Int) = ((N.filter fun t => decide (t = N.getD i "")).length : Nat) := by
        rw [filter_strs, List.length_map]
      refine wpAny_execs_cons ((Sx.assign (k := false) (d := .int ((N.filter fun t => decide (t = N.getD i "")).length : Nat)) (EvI.out ?m1) (.inl (by kernel_rfl)) (by kernel_rfl)) g1 s1 _ _ F1 fun g2 s2 st2 F2 => ?_)
      case m1 =>
        refine EvI.to (EvI.call_b (id := "len") (by kernel_rfl) (by kernel_rfl) (by kernel_rfl) (EvLI.cons rfl (d := .list ((N.map PV.str).filter fun y => PV.eqv y (.str (N.getD i "")))) ?m2 EvLI.nil) (.of (CallV.len_list ?m3)) rfl (by rfl) (by decide +kernel) (by kernel_rfl)) (by rw [hcount])
        case m3 =>
          have := List.length_filter_le (fun y => PV.eqv y (.str (N.getD i ""))) (N.map PV.str)
          rw [List.length_map] at this
          (first | lia | omega)
        case m2 =>
          refine EvI.pick_of (isl := true) (src := .list (N.map PV.str)) (ρ' := [("k", .int (i : Int)), ("names", .list (N.map PV.str))]) (cl := [cellOf (lc w A L) "names", cellOf (lc w A L) "k"]) (fun y => PV.eqv y (.str (N.getD i ""))) (by one_item) (IterV.list hhL) (by kernel_rfl) (by kernel_rfl) (by kernel_rfl) (by kernel_rfl) (fun _ => by kernel_rfl) (fun _ => by kernel_rfl) (by kernel_rfl) (Seen.cons (by got_up) (by kernel_rfl) (by kernel_rfl) (by kernel_rfl) (Seen.cons (by got_up) (by kernel_rfl) (by kernel_rfl) (by kernel_rfl) Seen.nil)) ?m4 (by rw [List.length_map]; exact szL (by first | decide | lia | omega)) (by intro _; rfl)
          intro C d hd
          obtain ⟨u, hu, rfl⟩ := List.mem_map.mp hd
          refine ⟨TrI.cmp (a := .str u) (b := .str (N.getD i "")) (by one_item) (hnm _ _ _ _ _ (by one_item) (by one_item)) (.of (CmpV.eq 0 0 (hok u hu) hNm (by first | decide | lia | omega) (by first | decide | lia | omega) (show (lc w A L).A.units + 64 < cLine by (first | lia | omega)))) (by kernel_rfl), by one_item⟩
      have H2 : LRep (lc w A L).w g2 s2.heap D (tabN N (valN N x) i) := H1.keep st2.up fun o e => st2.heap D o hDo e
      have hDg2 : g2 D = none := st2.hides hDg1 H1.has
      refine wpAny_execs_cons (append_stmt (k := false) (d := .tuple [.str (N.getD i ""), valN N x (N.getD i "")]) (EvI.out (by one_item)) (EvI.out ?q1) F2 H2 hDo hDg2 ?q2 rfl (by kernel_rfl) (by kernel_rfl) (by rfl) (by kernel_rfl) (by kernel_rfl) fun g3 s3 st3 F3 H3 _ => ?_)
      case q2 =>
        have : ∀ j, (tabN N (valN N x) j).length ≤ j := fun j => by
          induction j with
          | zero => simp [tabN]
          | succ j ih =>
            rw [tabN]
            split
            · (first | lia | omega)
            · rw [List.length_append]; simp; (first | lia | omega)
        exact szL (Nat.le_trans (this i) (by first | decide | lia | omega))
      case q1 =>
        refine EvI.tuple (EvLI.cons rfl (hnm _ _ _ _ _ (by one_item) (by one_item)) (EvLI.cons rfl ?q3 EvLI.nil)) (szL (by simp))
        refine EvI.ite (decide (N.getD i "" = "writing")) ?q4 (fun h => ?q5) fun h => ?q6
        case q4 => exact TrI.to (TrI.cmp (a := .str (N.getD i "")) (b := .str "writing") (hnm _ _ _ _ _ (by one_item) (by one_item)) (EvI.str rfl) (.of (CmpV.eq 0 0 hNm (by decide +kernel) (by first | decide | lia | omega) (by first | decide | lia | omega) (show (lc w A L).A.units + 64 < cLine by (first | lia | omega)))) (by kernel_rfl)) (eqv_strs _ _)
        case q5 =>
          unfold valN
          rw [if_pos (of_decide_eq_true h)]
          one_item
        case q6 =>
          unfold valN
          rw [if_neg (of_decide_eq_false h)]
          one_item
      refine wpAny_execs_nil (wpAny_execs_nil (h g3 s3 (e0 _ _ (SS.trans ⟨fun b o hb e => st2.heap b o (fun q => hb (.inl q)) e, st2.up, st2.sub, fun b o e => (st2.new b o e).imp id fun q => ⟨q.1, fun y => by
        rcases y with y | y
        · exact q.2 y
        · exact H1.has (y ▸ q.1)⟩, st2.rest⟩ st3)) (F3.less (by one_place)) ?_))
      show LRep (lc w A L).w g3 s3.heap D (tabN N (valN N x) (i + 1))
      rw [e1]; exact H3
end
end Mine
end

section
open PySem PySem.W PyProof.Rows PySem.Builtin
set_option Elab.async false
set_option maxRecDepth 100000
set_option linter.all false
namespace Mine
section
variable {k : Bool} {w : World} {A : Around} {c : Cx} {ρ ρ₁ ρ' : REnv} {g g' : Vw} {s s' : Shared}
theorem sum_map {α : Type} (f : α → Int) (l : List α) : PV.list (l.map fun e => PV.int (f e)) = .list (pI (l.map f)) := by
  unfold pI
  rw [List.map_map]
  rfl
set_option maxHeartbeats 0 in
theorem law_g (w : World) : ∃ B, (FD w 158).body = .stmts B ∧ ∀ (A : Around) (L : Addr) (B4 : BK) (T : List PV) (log : List (Nat × Nat)) (ps : List (List Nat)) (sd : List Int), A.handled = none → A.depth ≤ 420 → A.units ≤ 100 → ps.length ≤ 900 → log.length ≤ 900 →
    LtOK B4.lt → pairs B4.lt = T → B4.b1 = (ps.length : Int) → B4.b2 = (log.length : Int) → B4.b3 = 9 → B4.b4 = sd.sum →
    FxI false (lc w A L) [("table", .list T), ("sides", .list (pI sd)), ("book", B4.pv), ("log", logL log), ("pieces", sL ps)] (B.drop 17) (.bool true) := by
  refine ⟨_, rfl, fun A L B4 T log ps sd hh hroom hu hps hlog HB hT h1 h2 h3 h4 => ?_⟩
  simp only [List.drop_succ_cons, List.drop_zero]
  have hhL : (lc w A L).A.handled = none := by rw [lc_eq]; exact hh
  have hdep : (lc w A L).A.depth ≤ 460 := by rw [lc_eq]; show A.depth + 1 ≤ 460; (first | lia | omega)
  have hun : (lc w A L).A.units ≤ 200 := by rw [lc_eq]; show A.units + 3 ≤ 200; (first | lia | omega)
  have hcu : (lc w A L).A.units + 70 < cLine := by have e : cLine = 9900 := by rfl
                                                   (first | lia | omega)
  obtain ⟨b1, b2, b3, b4, lt⟩ := B4
  subst hT
  simp only at h1 h2 h3 h4 HB
  have ht : tpick [PV.int b1, .int b2, .int b3, .int b4, .dict lt] Option.none (some 4) = [.int b1, .int b2, .int b3, .int b4] := by kernel_rfl
  have hb4 : ∀ (c : Cx) (p1 p2 p3 p4 : Pos) (kd : Nat) (ρ : REnv), EvI false c ρ (.Name "book" p1) (.tuple [PV.int b1, .int b2, .int b3, .int b4, .dict lt]) → EvI false c ρ (.Subscript (.Name "book" p1) (.Slice Option.none (some (.Constant (.int 4) kd p2)) Option.none p3) p4) (.tuple [.int b1, .int b2, .int b3, .int b4]) := fun c p1 p2 p3 p4 kd ρ h =>
    EvI.to (EvI.sub (o := .tuple [PV.int b1, .int b2, .int b3, .int b4, .dict lt]) (i := .slice Option.none (some 4) Option.none) h (EvI.slice PartI.none (PartI.some EvI.int) PartI.none) (.of (GetV.slice_tuple (by kernel_rfl) (by rw [ht]; exact szL (by simp)))) rfl (by intro _ _; first | exact .inl rfl | exact .inr rfl)) (congrArg PV.tuple ht)
  show FxI false (lc w A L) [("table", .list (pairs lt)), ("sides", .list (pI sd)), ("book", .tuple [PV.int b1, .int b2, .int b3, .int b4, .dict lt]), ("log", logL log), ("pieces", sL ps)] _ _
  refine FxI.if_f ?t1 ?_
  case t1 =>
    refine TrI.to (TrI.cmp (a := .bool false) (b := .list [.bool true, .bool true, .bool true, .bool true]) (by one_item) ?c1 (.of (CmpV.mem 0 0 rfl (by decide +kernel) (by first | decide | lia | omega) (by first | decide | lia | omega) hcu)) (by kernel_rfl)) (by decide +kernel)
    refine EvI.to (EvI.map_of (isl := false) (src := .tuple [.int b1, .int b2, .int b3, .int b4]) (ds := [.int b1, .int b2, .int b3, .int b4]) (ρ' := []) (cl := []) (fun _ => .bool true) (hb4 _ _ _ _ _ _ _ (by one_item)) (IterV.tuple hhL) (by kernel_rfl) (by kernel_rfl) (by kernel_rfl) (by kernel_rfl) (fun _ => by kernel_rfl) (fun _ => by kernel_rfl) (by kernel_rfl) Seen.nil ?c2 (szL (by simp)) (by intro _; rfl)) rfl
    intro C d hd
    obtain ⟨i, rfl⟩ : ∃ i, d = .int i := by
      simp only [List.mem_cons, List.not_mem_nil, or_false] at hd
      rcases hd with h | h | h | h <;> exact ⟨_, h⟩
    exact EvI.call_b (id := "isinstance") (by kernel_rfl) (by kernel_rfl) (by kernel_rfl) (EvLI.cons rfl (d := .int i) (by one_item) (EvLI.cons rfl (d := .ty "int") (.of (Ev.ty (by kernel_rfl) (by kernel_rfl) (by kernel_rfl) (by decide +kernel) (by kernel_rfl))) EvLI.nil)) (.of (CallV.isi_int (show (lc w A L).A.depth ≤ 500 by (first | lia | omega)) (show (lc w A L).A.units ≤ 400 by (first | lia | omega)))) rfl (by rfl) (by decide +kernel) (by kernel_rfl)
  refine FxI.of (Fx.ret (Ev.and_t ?r1 (Ev.bool_one ?r2)))
  case r1 =>
    refine EvI.out (EvI.to (EvI.cmp (a := .tuple [.int b1, .int b2, .int b3, .int b4]) (b := .tuple [.int (ps.length : Int), .int (log.length : Int), .int 9, .int sd.sum]) (hb4 _ _ _ _ _ _ _ (by one_item)) ?e1 (.of (CmpV.eq 1 1 rfl rfl (by first | decide | lia | omega) (by first | decide | lia | omega) (by first | decide | lia | omega))) (by kernel_rfl)) ?e2)
    case e1 =>
      exact EvI.tuple (EvLI.cons rfl (EvI.to (EvI.call_b (id := "len") (by kernel_rfl) (by kernel_rfl) (by kernel_rfl) (EvLI.cons rfl (d := sL ps) (by one_item) EvLI.nil) (.of (CallV.len_list (by rw [List.length_map]; (first | lia | omega)))) rfl (by rfl) (by decide +kernel) (by kernel_rfl)) (by rw [List.length_map]))
        (EvLI.cons rfl (EvI.to (EvI.call_b (id := "len") (by kernel_rfl) (by kernel_rfl) (by kernel_rfl) (EvLI.cons rfl (d := logL log) (by one_item) EvLI.nil) (.of (CallV.len_list (by rw [List.length_map]; (first | lia | omega)))) rfl (by rfl) (by decide +kernel) (by kernel_rfl)) (by rw [List.length_map]))
        (EvLI.cons rfl EvI.int (EvLI.cons rfl (EvI.call_b (id := "sum") (by kernel_rfl) (by kernel_rfl) (by kernel_rfl) (EvLI.cons rfl (d := .list (pI sd)) (by one_item) EvLI.nil) (.of (CallV.sum hhL)) rfl (by rfl) (by decide +kernel) (by kernel_rfl)) EvLI.nil)))) (szL (by simp))
    case e2 =>
      rw [h1, h2, h3, h4, eqv_self (n := 1) rfl]
  case r2 =>
    refine EvI.out (EvI.to (EvI.cmp (a := .list (pairs lt)) (b := .list (pairs lt)) ?e3 (by one_item) (.of (CmpV.eq 2 2 (pairs_ok HB.key) (pairs_ok HB.key) (by first | decide | lia | omega) (by first | decide | lia | omega) (by first | decide | lia | omega))) (by kernel_rfl)) (by rw [eqv_self (pairs_ok HB.key)]))
    refine EvI.call_t (T := "list") (by kernel_rfl) (by kernel_rfl) (by kernel_rfl) (EvLI.cons rfl (d := .view lt) (.of (Ev.meth0 (T := "dict") (id := "dict.items") rfl (by kernel_rfl) PySem.F.plainAttrs_dict PySem.F.slot_dict_items PySem.F.type_dict_items (EvI.out ?e4) OfT.dict (CallV.items HB.nodup))) EvLI.nil) (.of (CallV.list_view hhL HB.nodup (szL (by have := HB.len; (first | lia | omega))))) rfl (by rfl) (by decide +kernel) (by kernel_rfl)
    exact EvI.sub (o := .tuple [PV.int b1, .int b2, .int b3, .int b4, .dict lt]) (i := .int (4 : Nat)) (by one_item) EvI.int (.of (GetV.tuple (by first | decide | lia | omega) (by first | decide | lia | omega) rfl)) rfl (by intro _ _; first | exact .inl rfl | exact .inr rfl)
end
end Mine
end

section
open PySem PySem.W PyProof.Rows PySem.Builtin
set_option Elab.async false
set_option maxRecDepth 100000
set_option linter.all false
namespace Mine
/-- what holds between the steps -/
structure PInv (P : Cst) (σ : St) : Prop where
  bq : σ.base ≤ σ.want
  qb : σ.want ≤ σ.base + (P.m - 1)
  qn : σ.want ≤ P.pieces.length
  lt : ∀ p ∈ σ.letters, p < P.pieces.length ∧ p < σ.base + (P.m - 1) ∧ σ.want ≤ p + (P.m - 1)
  pw : σ.letters.Pairwise fun p q => p < q + (P.m - 1)
  srt : σ.answers.Pairwise (· ≤ ·)
  an : ∀ a ∈ σ.answers, σ.base ≤ a ∧ a ≤ σ.want
  eqs : (σ.log.filter fun e => decide (e.1 = e.2)).map (·.1) = List.range σ.want
  nes : ∀ e ∈ σ.log, e.1 = e.2 ∨ e.1 % P.m ≠ e.2 % P.m
section
variable {P : Cst} {σ : St}
theorem PInv.start : PInv P ⟨[], [], 0, 0, []⟩ := ⟨by simp, by simp, by simp, by simp, by simp, by simp, by simp, by simp, by simp⟩
theorem near {p q m : Nat} (h1 : p < q + m) (h2 : q < p + m) (h : p % m = q % m) : p = q := by
  have hm : 0 < m := by (first | lia | omega)
  have e1 := Nat.div_add_mod p m
  have e2 := Nat.div_add_mod q m
  rw [h] at e1
  generalize p / m = x at e1
  generalize q / m = y at e2
  generalize q % m = z at *
  rcases Nat.lt_trichotomy x y with hxy | hxy | hxy
  · have : m * x + m ≤ m * y := by
      have := Nat.mul_le_mul_left m hxy
      rw [Nat.mul_succ] at this; exact this
    (first | lia | omega)
  · subst hxy; (first | lia | omega)
  · have : m * y + m ≤ m * x := by
      have := Nat.mul_le_mul_left m hxy
      rw [Nat.mul_succ] at this; exact this
    (first | lia | omega)
theorem PInv.head (O : CstOK P) (I : PInv P σ) {p : Nat} (hp : p ∈ σ.letters) : p % P.m = σ.want % P.m ↔ p = σ.want := by
  have m0 := O.m0
  obtain ⟨h1, h2, h3⟩ := I.lt p hp
  have := I.bq
  exact ⟨fun h => near (by first | decide | lia | omega) (by first | decide | lia | omega) h, fun h => by rw [h]⟩
theorem PInv.send (O : CstOK P) (I : PInv P σ) (deed : Nat) : PInv P (s1 P deed σ) := by
  have m0 := O.m0
  unfold s1
  split
  · rename_i h
    obtain ⟨h1, h2, h3⟩ := h
    refine ⟨I.bq, I.qb, I.qn, fun p hp => ?_, ?_, I.srt, I.an, I.eqs, I.nes⟩
    · rcases List.mem_append.mp hp with hp | hp
      · exact I.lt p hp
      · rw [List.mem_singleton.mp hp]
        have := I.qb
        exact ⟨h3, by show σ.base + deed < σ.base + (P.m - 1); (first | lia | omega), by show σ.want ≤ σ.base + deed + (P.m - 1); (first | lia | omega)⟩
    · show (σ.letters ++ [σ.base + deed]).Pairwise _
      rw [List.pairwise_append]
      refine ⟨I.pw, by simp, fun p hp q hq => ?_⟩
      rw [List.mem_singleton.mp hq]
      have := (I.lt p hp).2.1
      (first | lia | omega)
  · exact I
theorem PInv.come (O : CstOK P) (I : PInv P σ) {p : Nat} {ls : List Nat} (h : σ.letters = p :: ls) : PInv P (come σ p) := by
  have m0 := O.m0
  have hp : p ∈ σ.letters := by rw [h]; exact List.mem_cons_self
  obtain ⟨h1, h2, h3⟩ := I.lt p hp
  have hpw := I.pw
  rw [h, List.pairwise_cons] at hpw
  have := I.bq
  have := I.qb
  have := I.qn
  have hfil : ((σ.log ++ [(p, σ.want)]).filter fun e => decide (e.1 = e.2)).map (·.1) = List.range (if p = σ.want then σ.want + 1 else σ.want) := by
    rw [List.filter_append, List.map_append, I.eqs]
    by_cases e : p = σ.want
    · rw [if_pos e, List.range_succ]
      simp [e]
    · rw [if_neg e]
      simp [e]
  have hw : σ.want ≤ (if p = σ.want then σ.want + 1 else σ.want) := by split <;> (first | lia | omega)
  refine ⟨?_, ?_, ?_, fun q hq => ?_, I.pw, ?_, fun a ha => ?_, hfil, fun e he => ?_⟩
  · show σ.base ≤ if p = σ.want then σ.want + 1 else σ.want
    (first | lia | omega)
  · show (if p = σ.want then σ.want + 1 else σ.want) ≤ σ.base + (P.m - 1)
    split <;> (first | lia | omega)
  · show (if p = σ.want then σ.want + 1 else σ.want) ≤ P.pieces.length
    split <;> (first | lia | omega)
  · obtain ⟨a1, a2, a3⟩ := I.lt q hq
    refine ⟨a1, a2, ?_⟩
    show (if p = σ.want then σ.want + 1 else σ.want) ≤ q + (P.m - 1)
    split
    · rename_i e
      have hq : q ∈ σ.letters := hq
      rw [h] at hq
      rcases List.mem_cons.mp hq with rfl | hq
      · (first | lia | omega)
      · have := hpw.1 q hq
        (first | lia | omega)
    · exact a3
  · show (σ.answers ++ [_]).Pairwise _
    rw [List.pairwise_append]
    refine ⟨I.srt, by simp, fun a ha b hb => ?_⟩
    rw [List.mem_singleton.mp hb]
    have := (I.an a ha).2
    (first | lia | omega)
  · have ha : a ∈ σ.answers ++ [if p = σ.want then σ.want + 1 else σ.want] := ha
    show σ.base ≤ a ∧ a ≤ if p = σ.want then σ.want + 1 else σ.want
    rcases List.mem_append.mp ha with ha | ha
    · have := I.an a ha
      (first | lia | omega)
    · rw [List.mem_singleton.mp ha]
      (first | lia | omega)
  · have he : e ∈ σ.log ++ [(p, σ.want)] := he
    rcases List.mem_append.mp he with he | he
    · exact I.nes e he
    · rw [List.mem_singleton.mp he]
      by_cases e : p = σ.want
      · exact .inl e
      · exact .inr fun q => e ((I.head O hp).mp q)
theorem PInv.tail {ls : List Nat} (I : PInv P σ) (h : ∀ p ∈ ls, p ∈ σ.letters) (hp : ls.Sublist σ.letters) : PInv P { σ with letters := ls } :=
  ⟨I.bq, I.qb, I.qn, fun p hp => I.lt p (h p hp), I.pw.sublist hp, I.srt, I.an, I.eqs, I.nes⟩
theorem PInv.s2 (O : CstOK P) (I : PInv P σ) (deed : Nat) : PInv P (s2 deed σ) := by
  unfold Mine.s2
  cases h : σ.letters with
  | nil => exact I
  | cons p ls =>
    dsimp only
    have hc := I.come O h
    have hl : (Mine.come σ p).letters = p :: ls := h
    split
    · exact hc.tail (fun q hq => by rw [hl]; exact List.mem_cons_of_mem _ hq) (by rw [hl]; exact List.sublist_cons_self _ _)
    · split
      · exact I.tail (fun q hq => by rw [h]; exact List.mem_cons_of_mem _ hq) (by rw [h]; exact List.sublist_cons_self _ _)
      · split
        · exact hc
        · exact I
theorem PInv.up {a : Nat} {as : List Nat} (I : PInv P σ) (h : a ∈ σ.answers) (h1 : as.Sublist σ.answers) (h2 : ∀ b ∈ as, a ≤ b) : PInv P { σ with base := a, answers := as } := by
  obtain ⟨a1, a2⟩ := I.an a h
  have := I.qb
  exact ⟨a2, by show σ.want ≤ a + (P.m - 1); (first | lia | omega), I.qn, fun p hp => by
    obtain ⟨b1, b2, b3⟩ := I.lt p hp
    exact ⟨b1, by show p < a + (P.m - 1); (first | lia | omega), b3⟩, I.pw, I.srt.sublist h1, fun b hb => ⟨h2 b hb, (I.an b (h1.subset hb)).2⟩, I.eqs, I.nes⟩
theorem PInv.s3 (I : PInv P σ) (deed : Nat) : PInv P (s3 deed σ) := by
  unfold Mine.s3
  cases h : σ.answers with
  | nil => exact I
  | cons a as =>
    dsimp only
    have hs := I.srt
    rw [h, List.pairwise_cons] at hs
    have ha : a ∈ σ.answers := by rw [h]; exact List.mem_cons_self
    split
    · exact I.up ha (by rw [h]; exact List.sublist_cons_self _ _) hs.1
    · split
      · exact ⟨I.bq, I.qb, I.qn, I.lt, I.pw, hs.2, fun b hb => I.an b (by rw [h]; exact List.mem_cons_of_mem _ hb), I.eqs, I.nes⟩
      · split
        · have := I.up (a := a) (as := σ.answers) ha (List.Sublist.refl _) (fun b hb => by
            rw [h] at hb
            rcases List.mem_cons.mp hb with rfl | hb
            · exact Nat.le_refl _
            · exact hs.1 b hb)
          rw [h] at this
          exact this
        · exact I
theorem PInv.step (O : CstOK P) (I : PInv P σ) (deed : Nat) : PInv P (stepS P deed σ) := ((I.send O deed).s2 O deed).s3 deed
theorem len1 (deed : Nat) (σ : St) : (s1 P deed σ).letters.length ≤ σ.letters.length + 1 ∧ (s1 P deed σ).answers = σ.answers ∧ (s1 P deed σ).log = σ.log := by
  unfold s1
  split
  · exact ⟨by simp, rfl, rfl⟩
  · exact ⟨by (first | lia | omega), rfl, rfl⟩
theorem len2 (deed : Nat) (τ : St) : (s2 deed τ).letters.length ≤ τ.letters.length ∧ (s2 deed τ).answers.length ≤ τ.answers.length + 1 ∧ (s2 deed τ).log.length ≤ τ.log.length + 1 := by
  unfold s2
  cases h : τ.letters with
  | nil => simp [h]
  | cons p ls =>
    dsimp only
    split
    · simp [come]
    · split
      · simp
      · split
        · simp [come, h]
        · simp [h]
theorem len3 (deed : Nat) (τ : St) : (s3 deed τ).letters = τ.letters ∧ (s3 deed τ).answers.length ≤ τ.answers.length ∧ (s3 deed τ).log = τ.log := by
  unfold s3
  cases h : τ.answers with
  | nil => simp [h]
  | cons p ls =>
    dsimp only
    split
    · simp
    · split
      · simp
      · split
        · simp [h]
        · simp [h]
theorem step_len (deed : Nat) : (stepS P deed σ).letters.length ≤ σ.letters.length + 1 ∧ (stepS P deed σ).answers.length ≤ σ.answers.length + 1 ∧ (stepS P deed σ).log.length ≤ σ.log.length + 1 := by
  unfold stepS
  obtain ⟨a1, a2, a3⟩ := len1 (P := P) deed σ
  obtain ⟨b1, b2, b3⟩ := len2 deed (s1 P deed σ)
  obtain ⟨c1, c2, c3⟩ := len3 deed (s2 deed (s1 P deed σ))
  rw [c1, c3]
  rw [a2] at b2
  rw [a3] at b3
  exact ⟨by (first | lia | omega), by (first | lia | omega), by (first | lia | omega)⟩
/-! the deeds of the rounds -/
theorem step3 {p : Nat} {ls : List Nat} (h : σ.letters = p :: ls) : stepS P 3 σ = { come σ p with letters := ls } := by
  unfold stepS
  have e1 : s1 P 3 σ = σ := by unfold s1; rw [if_neg (by first | decide | lia | omega)]
  have e2 : s2 3 σ = { come σ p with letters := ls } := by
    unfold s2
    rw [h]
    simp
  rw [e1, e2]
  unfold s3
  split
  · rfl
  · simp
theorem step6 {a : Nat} {as : List Nat} (h : σ.answers = a :: as) : stepS P 6 σ = { σ with base := a, answers := as } := by
  unfold stepS
  have e1 : s1 P 6 σ = σ := by unfold s1; rw [if_neg (by first | decide | lia | omega)]
  have e2 : s2 6 σ = σ := by
    unfold s2
    split
    · rfl
    · simp
  rw [e1, e2]
  unfold s3
  rw [h]
  simp
theorem step_send (i : Nat) (hi : i < P.m - 1) (h3 : i < 3) : stepS P i σ = if σ.base + i < P.pieces.length then { σ with letters := σ.letters ++ [σ.base + i] } else σ := by
  have e2 : ∀ τ : St, s2 i τ = τ := fun τ => by
    unfold s2
    split
    · rfl
    · rw [if_neg (by first | decide | lia | omega), if_neg (by first | decide | lia | omega), if_neg (by first | decide | lia | omega)]
  have e3 : ∀ τ : St, s3 i τ = τ := fun τ => by
    unfold s3
    split
    · rfl
    · rw [if_neg (by first | decide | lia | omega), if_neg (by first | decide | lia | omega), if_neg (by first | decide | lia | omega)]
  unfold stepS
  rw [e2, e3]
  unfold s1
  by_cases h : σ.base + i < P.pieces.length
  · rw [if_pos ⟨h3, by (first | lia | omega), h⟩, if_pos h]
  · rw [if_neg (fun q => h q.2.2), if_neg h]
/-- the sending -/
theorem send_inv (O : CstOK P) (I : PInv P σ) : ∀ i, i ≤ P.m - 1 → PInv P (sendS P σ i) ∧ (sendS P σ i).base = σ.base ∧ (sendS P σ i).want = σ.want ∧ (sendS P σ i).answers = σ.answers ∧ (sendS P σ i).log = σ.log ∧ (sendS P σ i).letters.length ≤ σ.letters.length + i ∧ (1 ≤ i → σ.base < P.pieces.length → σ.base ∈ (sendS P σ i).letters)
  | 0, _ => ⟨I, rfl, rfl, rfl, rfl, Nat.le_refl _, fun h => absurd h (by first | decide | lia | omega)⟩
  | i + 1, hi => by
    have m1 := O.m1
    obtain ⟨h1, h2, h3, h4, h5, h6, h7⟩ := send_inv O I i (by first | decide | lia | omega)
    have hs := step_send (P := P) (σ := sendS P σ i) i (by first | decide | lia | omega) (by first | decide | lia | omega)
    refine ⟨h1.step O i, ?_⟩
    show (stepS P i (sendS P σ i)).base = _ ∧ (stepS P i (sendS P σ i)).want = _ ∧ (stepS P i (sendS P σ i)).answers = _ ∧ (stepS P i (sendS P σ i)).log = _ ∧ (stepS P i (sendS P σ i)).letters.length ≤ _ ∧ (1 ≤ i + 1 → _ → _ ∈ (stepS P i (sendS P σ i)).letters)
    rw [hs]
    split
    · refine ⟨h2, h3, h4, h5, by simp; (first | lia | omega), fun _ hb => ?_⟩
      show σ.base ∈ (sendS P σ i).letters ++ [(sendS P σ i).base + i]
      rw [List.mem_append]
      cases i with
      | zero => right; rw [h2]; simp
      | succ i => exact .inl (h7 (by first | decide | lia | omega) hb)
    · rename_i hn
      refine ⟨h2, h3, h4, h5, by (first | lia | omega), fun _ hb => ?_⟩
      cases i with
      | zero => rw [h2] at hn; (first | lia | omega)
      | succ i => exact h7 (by first | decide | lia | omega) hb
/-- the letters come -/
theorem come_inv (O : CstOK P) (I : PInv P σ) : ∀ i, i ≤ σ.letters.length → PInv P (repS P 3 σ i) ∧ (repS P 3 σ i).base = σ.base ∧ (repS P 3 σ i).letters = σ.letters.drop i ∧ σ.want ≤ (repS P 3 σ i).want ∧ (repS P 3 σ i).answers.length = σ.answers.length + i ∧ (repS P 3 σ i).log.length = σ.log.length + i ∧
    (σ.base ∈ σ.letters.take i → σ.base + 1 ≤ (repS P 3 σ i).want) ∧ (1 ≤ i → (repS P 3 σ i).answers.getLast? = some (repS P 3 σ i).want)
  | 0, _ => ⟨I, rfl, rfl, Nat.le_refl _, rfl, rfl, by simp, fun h => absurd h (by first | decide | lia | omega)⟩
  | i + 1, hi => by
    obtain ⟨h1, h2, h3, h4, h5, h6, h7, h8⟩ := come_inv O I i (by first | decide | lia | omega)
    have hd := List.drop_eq_getElem_cons (l := σ.letters) (i := i) (by first | decide | lia | omega)
    rw [hd] at h3
    have hs := step3 (P := P) h3
    have hI := h1.step O 3
    refine ⟨hI, ?_⟩
    show (stepS P 3 (repS P 3 σ i)).base = _ ∧ (stepS P 3 (repS P 3 σ i)).letters = _ ∧ _ ≤ (stepS P 3 (repS P 3 σ i)).want ∧ (stepS P 3 (repS P 3 σ i)).answers.length = _ ∧ (stepS P 3 (repS P 3 σ i)).log.length = _ ∧ (_ → _ ≤ (stepS P 3 (repS P 3 σ i)).want) ∧ (_ → (stepS P 3 (repS P 3 σ i)).answers.getLast? = some (stepS P 3 (repS P 3 σ i)).want)
    rw [hs]
    have hbq := h1.bq
    have hw : (repS P 3 σ i).want ≤ (if σ.letters[i] = (repS P 3 σ i).want then (repS P 3 σ i).want + 1 else (repS P 3 σ i).want) := by split <;> (first | lia | omega)
    refine ⟨h2, rfl, Nat.le_trans h4 hw, ?_, ?_, fun hm => ?_, fun _ => ?_⟩
    · show ((repS P 3 σ i).answers ++ [_]).length = _
      simp; (first | lia | omega)
    · show ((repS P 3 σ i).log ++ [_]).length = _
      simp; (first | lia | omega)
    · show σ.base + 1 ≤ if σ.letters[i] = (repS P 3 σ i).want then (repS P 3 σ i).want + 1 else (repS P 3 σ i).want
      rw [List.take_succ_eq_append_getElem (by first | decide | lia | omega), List.mem_append] at hm
      rcases hm with hm | hm
      · have := h7 hm; (first | lia | omega)
      · rw [List.mem_singleton] at hm
        rw [← hm]
        split <;> (first | lia | omega)
    · show ((repS P 3 σ i).answers ++ [_]).getLast? = _
      rw [List.getLast?_append]
      rfl
/-- the answers come -/
theorem answer_inv (O : CstOK P) (I : PInv P σ) : ∀ i, i ≤ σ.answers.length → PInv P (repS P 6 σ i) ∧ (repS P 6 σ i).want = σ.want ∧ (repS P 6 σ i).letters = σ.letters ∧ (repS P 6 σ i).answers = σ.answers.drop i ∧ (repS P 6 σ i).log = σ.log ∧ σ.base ≤ (repS P 6 σ i).base ∧ (1 ≤ i → σ.answers[i - 1]? = some (repS P 6 σ i).base)
  | 0, _ => ⟨I, rfl, rfl, rfl, rfl, Nat.le_refl _, fun h => absurd h (by first | decide | lia | omega)⟩
  | i + 1, hi => by
    obtain ⟨h1, h2, h3, h4, h5, h6, h7⟩ := answer_inv O I i (by first | decide | lia | omega)
    have hd := List.drop_eq_getElem_cons (l := σ.answers) (i := i) (by first | decide | lia | omega)
    rw [hd] at h4
    have hs := step6 (P := P) h4
    have hI := h1.step O 6
    have ha := h1.an σ.answers[i] (by rw [h4]; exact List.mem_cons_self)
    refine ⟨hI, ?_⟩
    show (stepS P 6 (repS P 6 σ i)).want = _ ∧ (stepS P 6 (repS P 6 σ i)).letters = _ ∧ (stepS P 6 (repS P 6 σ i)).answers = _ ∧ (stepS P 6 (repS P 6 σ i)).log = _ ∧ _ ≤ (stepS P 6 (repS P 6 σ i)).base ∧ (_ → _ = some (stepS P 6 (repS P 6 σ i)).base)
    rw [hs]
    exact ⟨h2, h3, rfl, h5, by show σ.base ≤ σ.answers[i]; (first | lia | omega), fun _ => List.getElem?_eq_getElem (by first | decide | lia | omega)⟩
/-- a whole round -/
theorem round_inv (O : CstOK P) (I : PInv P σ) : PInv P (rndC P σ) ∧ (rndC P σ).letters = [] ∧ (rndC P σ).answers = [] ∧ (rndC P σ).base = (rndC P σ).want ∧ min P.pieces.length (σ.base + 1) ≤ (rndC P σ).base ∧ (rndC P σ).log.length ≤ σ.log.length + σ.letters.length + (P.m - 1) := by
  have m0 := O.m0
  obtain ⟨a1, a2, a3, a4, a5, a6, a7⟩ := send_inv O I (P.m - 1) (Nat.le_refl _)
  obtain ⟨b1, b2, b3, b4, b5, b6, b7, b8⟩ := come_inv O a1 _ (Nat.le_refl _)
  have hBI : PInv P (rndB P σ) := b1
  have b3' : (rndB P σ).letters = (sendS P σ (P.m - 1)).letters.drop (sendS P σ (P.m - 1)).letters.length := b3
  have b5' : (rndB P σ).answers.length = (sendS P σ (P.m - 1)).answers.length + (sendS P σ (P.m - 1)).letters.length := b5
  have b6' : (rndB P σ).log.length = (sendS P σ (P.m - 1)).log.length + (sendS P σ (P.m - 1)).letters.length := b6
  obtain ⟨c1, c2, c3, c4, c5, c6, c7⟩ := answer_inv O hBI _ (Nat.le_refl _)
  have hC : PInv P (rndC P σ) := c1
  have eC1 : (rndC P σ).letters = [] := by
    show (repS P 6 (rndB P σ) _).letters = []
    rw [c3]
    rw [b3']; exact List.drop_length
  have eC2 : (rndC P σ).answers = [] := by
    show (repS P 6 (rndB P σ) _).answers = []
    rw [c4]; exact List.drop_length
  have hlog : (rndC P σ).log.length ≤ σ.log.length + σ.letters.length + (P.m - 1) := by
    show (repS P 6 (rndB P σ) _).log.length ≤ _
    rw [c5]
    rw [b6', a5]
    (first | lia | omega)
  have hwC : (rndC P σ).want = (rndB P σ).want := c2
  have hbase : σ.base ≤ (rndC P σ).base := by
    have : (rndB P σ).base ≤ (rndC P σ).base := c6
    have e : (rndB P σ).base = σ.base := b2.trans a2
    (first | lia | omega)
  have hn := hC.qn
  have hbq := hC.bq
  refine ⟨hC, eC1, eC2, ?_, ?_, hlog⟩
  · by_cases hl : (sendS P σ (P.m - 1)).letters.length = 0
    · have hb : ¬ σ.base < P.pieces.length := fun q => by
        have := a7 (by first | decide | lia | omega) q
        rw [List.length_eq_zero_iff.mp hl] at this
        cases this
      (first | lia | omega)
    · have h1 := b8 (by first | decide | lia | omega)
      have hpos : 1 ≤ (rndB P σ).answers.length := by
        rw [b5']; (first | lia | omega)
      have h2 := c7 hpos
      have h1 : (rndB P σ).answers.getLast? = some (rndB P σ).want := h1
      rw [List.getLast?_eq_getElem?] at h1
      rw [h1] at h2
      have h2 := Option.some.inj h2
      rw [hwC]
      exact h2.symm
  · by_cases hb : σ.base < P.pieces.length
    · have h1 := a7 (by first | decide | lia | omega) hb
      have hl : 1 ≤ (sendS P σ (P.m - 1)).letters.length := by
        rcases Nat.eq_zero_or_pos (sendS P σ (P.m - 1)).letters.length with h | h
        · rw [List.length_eq_zero_iff.mp h] at h1; cases h1
        · exact h
      have h2 := b7 (by rw [List.take_length, a2]; exact h1)
      rw [a2] at h2
      have h2 : σ.base + 1 ≤ (rndB P σ).want := h2
      have h3 := b8 hl
      have hpos : 1 ≤ (rndB P σ).answers.length := by
        rw [b5']; (first | lia | omega)
      have h4 := c7 hpos
      have h3 : (rndB P σ).answers.getLast? = some (rndB P σ).want := h3
      rw [List.getLast?_eq_getElem?] at h3
      rw [h3] at h4
      have h4 : (rndB P σ).want = (rndC P σ).base := Option.some.inj h4
      (first | lia | omega)
    · (first | lia | omega)
end
end Mine
end

section
open PySem PySem.W PyProof.Rows PySem.Builtin
set_option Elab.async false
set_option maxRecDepth 100000
set_option linter.all false
namespace Mine
/-! names in the order in which they first came -/
noncomputable def ddF (acc : List Str) (s : Str) : List Str := if s ∈ acc then acc else acc ++ [s]
noncomputable def dd (l : List Str) : List Str := l.foldl ddF []
theorem dd_snoc (l : List Str) (s : Str) : dd (l ++ [s]) = if s ∈ dd l then dd l else dd l ++ [s] := by
  unfold dd
  rw [List.foldl_append]
  rfl
theorem mem_ddF (s : Str) : ∀ (l acc : List Str), s ∈ l.foldl ddF acc ↔ s ∈ acc ∨ s ∈ l
  | [], acc => by simp
  | a :: l, acc => by
    rw [List.foldl_cons, mem_ddF s l]
    unfold ddF
    split
    · rename_i h
      simp only [List.mem_cons]
      constructor
      · rintro (h1 | h1)
        · exact .inl h1
        · exact .inr (.inr h1)
      · rintro (h1 | h1 | h1)
        · exact .inl h1
        · exact .inl (h1 ▸ h)
        · exact .inr h1
    · simp only [List.mem_append, List.mem_cons, List.not_mem_nil, or_false]
      exact or_assoc
theorem mem_dd (s : Str) (l : List Str) : s ∈ dd l ↔ s ∈ l := by
  unfold dd
  rw [mem_ddF]
  simp
theorem nodup_ddF : ∀ (l acc : List Str), acc.Nodup → (l.foldl ddF acc).Nodup
  | [], acc, h => h
  | a :: l, acc, h => by
    rw [List.foldl_cons]
    refine nodup_ddF l _ ?_
    unfold ddF
    split
    · exact h
    · rename_i hn
      rw [List.nodup_append]
      exact ⟨h, by simp, fun x hx y hy => by rw [List.mem_singleton.mp hy]; exact fun e => hn (e ▸ hx)⟩
theorem nodup_dd (l : List Str) : (dd l).Nodup := nodup_ddF l [] List.nodup_nil
theorem len_ddF : ∀ (l acc : List Str), (l.foldl ddF acc).length ≤ acc.length + l.length
  | [], acc => by simp
  | a :: l, acc => by
    rw [List.foldl_cons]
    have := len_ddF l (ddF acc a)
    have h2 : (ddF acc a).length ≤ acc.length + 1 := by
      unfold ddF
      split
      · (first | lia | omega)
      · simp
    rw [List.length_cons]
    (first | lia | omega)
theorem len_dd (l : List Str) : (dd l).length ≤ l.length := by
  have := len_ddF l []
  unfold dd
  simpa using this
theorem tab_dd (N : List Str) (v : Str → PV) : ∀ i, i ≤ N.length → tabN N v i = (dd (N.take i)).map fun s => PV.tuple [.str s, v s]
  | 0, _ => rfl
  | i + 1, h => by
    have hi : i < N.length := h
    have e : N.take (i + 1) = N.take i ++ [N.getD i ""] := by
      rw [List.take_succ_eq_append_getElem hi]
      simp [List.getD, hi]
    rw [tabN, e, dd_snoc, tab_dd N v i (by first | decide | lia | omega)]
    by_cases hm : N.getD i "" ∈ N.take i
    · rw [if_pos hm, if_pos ((mem_dd _ _).mpr hm)]
    · rw [if_neg hm, if_neg (fun q => hm ((mem_dd _ _).mp q)), List.map_append]
      rfl

/-! the order of the marks -/
theorem mark_lt : ∀ i j : Nat, (dots i ++ [47] : List Nat) < dots j ++ [47] ↔ j < i
  | 0, 0 => by simp [dots]
  | 0, j + 1 => by
    have e : dots (j + 1) = 46 :: dots j := List.replicate_succ
    rw [e]
    show ([47] : List Nat) < 46 :: (dots j ++ [47]) ↔ _
    rw [List.cons_lt_cons_iff]
    (first | lia | omega)
  | i + 1, 0 => by
    have e : dots (i + 1) = 46 :: dots i := List.replicate_succ
    rw [e]
    show (46 :: (dots i ++ [47]) : List Nat) < [47] ↔ _
    rw [List.cons_lt_cons_iff]
    (first | lia | omega)
  | i + 1, j + 1 => by
    have e : ∀ n, dots (n + 1) = 46 :: dots n := fun n => List.replicate_succ
    rw [e, e]
    show (46 :: (dots i ++ [47]) : List Nat) < 46 :: (dots j ++ [47]) ↔ _
    rw [List.cons_lt_cons_iff, mark_lt i j]
    (first | lia | omega)
theorem side_of (m p q : Nat) : strB (S (markL m p)) (S (markL m q)) = sideZ (p % m) (q % m) := by
  rw [strB_of]
  unfold sideZ
  by_cases h : p % m = q % m
  · rw [if_pos (mark_inj.mpr h), if_pos h]
  · rw [if_neg (fun e => h (mark_inj.mp e)), if_neg h]
    have hl := mark_lt (1 + p % m) (1 + q % m)
    unfold markL
    by_cases h2 : p % m < q % m
    · rw [if_pos h2, if_neg (fun e => by have := hl.mp e; (first | lia | omega))]
    · rw [if_neg h2, if_pos (hl.mpr (by first | decide | lia | omega))]

/-! the book -/
noncomputable def textP (P : Cst) (q : Nat) : List Nat := ((List.range q).map P.piece).flatten
theorem textP_succ (P : Cst) (q : Nat) : textP P (q + 1) = textP P q ++ P.piece q := by
  unfold textP
  rw [List.range_succ, List.map_append, List.flatten_append]
  simp
noncomputable def cntS (N : List Str) (s : Str) : Nat := (N.filter fun t => decide (t = s)).length
noncomputable def valL (P : Cst) (q : Nat) (N : List Str) (s : Str) : PV := if s = "writing" then .str (S (textP P q)) else .int (cntS N s : Nat)
theorem cnt_snoc (N : List Str) (s t : Str) : cntS (N ++ [t]) s = cntS N s + if t = s then 1 else 0 := by
  unfold cntS
  rw [List.filter_append, List.length_append]
  congr 1
  by_cases h : t = s <;> simp [h]
theorem lookup_keys {D : List Str} {f : Str → PV} {s : Str} : (D.map fun t => (t, f t)).lookup s = if s ∈ D then some (f s) else none := by
  induction D with
  | nil => rfl
  | cons a D ih =>
    rw [List.map_cons, List.lookup_cons]
    cases q : s == a with
    | true =>
      have q := eq_of_beq q
      subst q
      simp
    | false =>
      have q : s ≠ a := by simpa using q
      rw [ih]
      simp [q]
theorem setL_keys {D : List Str} {f : Str → PV} {s : Str} {d : PV} (h : s ∈ D) : setL (D.map fun t => (t, f t)) s d = D.map fun t => (t, if t = s then d else f t) := by
  unfold setL
  rw [if_pos, List.map_map]
  · apply List.map_congr_left
    intro t ht
    show (if t = s then (t, d) else (t, f t)) = _
    split <;> rfl
  · rw [List.any_eq_true]
    exact ⟨(s, f s), List.mem_map.mpr ⟨s, h, rfl⟩, by simp⟩
theorem addC_keys {D : List Str} {f f' : Str → PV} {s : Str} {v : PV} (h1 : s ∈ D → f' s = plusV (f s) v) (h2 : s ∉ D → f' s = v) (h3 : ∀ t, t ≠ s → f' t = f t) :
    addC (D.map fun t => (t, f t)) s v = (if s ∈ D then D else D ++ [s]).map fun t => (t, f' t) := by
  unfold addC
  rw [lookup_keys]
  by_cases h : s ∈ D
  · rw [if_pos h, if_pos h]
    show setL _ s (plusV (f s) v) = _
    rw [setL_keys h]
    apply List.map_congr_left
    intro t ht
    by_cases e : t = s
    · rw [if_pos e, e, h1 h]
    · rw [if_neg e, h3 t e]
  · rw [if_neg h, if_neg h]
    show setL _ s v = _
    have hn : s ∉ (D.map fun t => (t, f t)).map (·.1) := by
      rw [List.map_map]
      intro q
      obtain ⟨t, ht, e⟩ := List.mem_map.mp q
      exact h (e ▸ ht)
    rw [setL_new hn, List.map_append]
    congr 1
    · apply List.map_congr_left
      intro t ht
      rw [h3 t (fun e => h (e ▸ ht))]
    · rw [List.map_cons, h2 h]
      rfl
structure BookIs (P : Cst) (log : List (Nat × Nat)) (q : Nat) : Prop where
  b1 : (bookOf P log).b1 = (q : Int)
  b2 : (bookOf P log).b2 = (log.length : Int)
  b3 : (bookOf P log).b3 = ((textP P q).length : Int)
  b4 : (bookOf P log).b4 = (log.map fun e => sideZ (e.1 % P.m) (e.2 % P.m)).sum
  lt : (bookOf P log).lt = (dd (log.map (nameS P.m))).map fun s => (s, valL P q (log.map (nameS P.m)) s)
theorem book_is (P : Cst) : ∀ (n : Nat) (log : List (Nat × Nat)) (q : Nat), log.length = n → (log.filter fun e => decide (e.1 = e.2)).map (·.1) = List.range q → BookIs P log q
  | 0, log, q, hn, hq => by
    have e : log = [] := List.length_eq_zero_iff.mp hn
    subst e
    have : q = 0 := by
      have := congrArg List.length hq
      simpa using this.symm
    subst this
    exact ⟨rfl, rfl, rfl, rfl, rfl⟩
  | n + 1, log, q, hn, hq => by
    obtain ⟨l, e, rfl⟩ : ∃ l e, log = l ++ [e] := by
      rcases List.eq_nil_or_concat log with h | ⟨l, e, h⟩
      · rw [h] at hn; cases hn
      · exact ⟨l, e, by simpa using h⟩
    have hl : l.length = n := by simpa using hn
    rw [List.filter_append, List.map_append] at hq
    have hside : ((l ++ [e]).map fun e => sideZ (e.1 % P.m) (e.2 % P.m)).sum = (l.map fun e => sideZ (e.1 % P.m) (e.2 % P.m)).sum + sideZ (e.1 % P.m) (e.2 % P.m) := by
      rw [List.map_append, List.sum_append]; simp
    have hlen : ((l ++ [e]).length : Int) = 1 + (l.length : Int) := by rw [List.length_append]; simp; (first | lia | omega)
    by_cases he : e.1 = e.2
    · have hq1 : (l.filter fun e => decide (e.1 = e.2)).map (·.1) ++ [e.1] = List.range q := by
        rw [← hq]; simp [he]
      obtain ⟨q', rfl⟩ : ∃ q', q = q' + 1 := by
        have := congrArg List.length hq1
        simp at this
        exact ⟨_, this.symm⟩
      rw [List.range_succ] at hq1
      obtain ⟨hq2, hq3⟩ := List.append_inj' hq1 rfl
      have hq3 : e.1 = q' := by simpa using hq3
      have B := book_is P n l q' hl hq2
      have hnm : nameS P.m e = "writing" := by unfold nameS; rw [if_pos he]
      have hb : bookOf P (l ++ [e]) = takeOk P (bookOf P l) q' := by
        rw [bookOf_snoc, takeB, if_pos he, hq3]
      refine ⟨?_, ?_, ?_, ?_, ?_⟩
      · rw [hb]; show 1 + (bookOf P l).b1 = _; rw [B.b1]; (first | lia | omega)
      · rw [hb, hlen]; show 1 + (bookOf P l).b2 = _; rw [B.b2]
      · rw [hb, textP_succ, List.length_append]; show ((P.piece q').length : Int) + (bookOf P l).b3 = _; rw [B.b3]; (first | lia | omega)
      · rw [hb, hside]; show 0 + (bookOf P l).b4 = _; rw [B.b4]
        have : sideZ (e.1 % P.m) (e.2 % P.m) = 0 := by unfold sideZ; rw [he, if_pos rfl]
        (first | lia | omega)
      · rw [hb]
        show addC (bookOf P l).lt "writing" (.str (S (P.piece q'))) = _
        rw [B.lt, List.map_append, List.map_cons, List.map_nil, hnm, dd_snoc]
        have htx : textP P (q' + 1) = textP P q' ++ P.piece q' := textP_succ P q'
        refine addC_keys (fun h => ?_) (fun h => ?_) (fun t ht => ?_)
        · unfold valL
          rw [if_pos rfl, if_pos rfl, htx]
          show _ = PV.str (S (textP P q') ++ S (P.piece q'))
          rw [S_app]
        · unfold valL
          rw [if_pos rfl, htx]
          have h0 : q' = 0 := by
            rcases Nat.eq_zero_or_pos q' with h0 | h0
            · exact h0
            · exfalso
              have h0m : 0 ∈ (l.filter fun e => decide (e.1 = e.2)).map (·.1) := by rw [hq2]; exact List.mem_range.mpr h0
              obtain ⟨e', he', _⟩ := List.mem_map.mp h0m
              obtain ⟨h1, h2⟩ := List.mem_filter.mp he'
              exact h ((mem_dd _ _).mpr (List.mem_map.mpr ⟨e', h1, by unfold nameS; rw [if_pos (of_decide_eq_true h2)]⟩))
          rw [h0]
          rfl
        · unfold valL
          rw [if_neg ht, if_neg ht, cnt_snoc, if_neg (fun q => ht q.symm)]
          rfl
    · have hq1 : (l.filter fun e => decide (e.1 = e.2)).map (·.1) = List.range q := by
        rw [← hq]; simp [he]
      have B := book_is P n l q hl hq1
      have hnm : nameS P.m e = S (markL P.m e.1) := by unfold nameS; rw [if_neg he]
      have hw : S (markL P.m e.1) ≠ ("writing" : Str) := mark_ne _ _
      have hb : bookOf P (l ++ [e]) = takeNo P (bookOf P l) e.1 e.2 := by
        rw [bookOf_snoc, takeB, if_neg he]
      refine ⟨?_, ?_, ?_, ?_, ?_⟩
      · rw [hb]; show 0 + (bookOf P l).b1 = _; rw [B.b1]; (first | lia | omega)
      · rw [hb, hlen]; show 1 + (bookOf P l).b2 = _; rw [B.b2]
      · rw [hb]; show 0 + (bookOf P l).b3 = _; rw [B.b3]; (first | lia | omega)
      · rw [hb, hside]; show strB (S (markL P.m e.1)) (S (markL P.m e.2)) + (bookOf P l).b4 = _; rw [B.b4, side_of]; (first | lia | omega)
      · rw [hb]
        show addC (bookOf P l).lt (S (markL P.m e.1)) (.int 1) = _
        rw [B.lt, List.map_append, List.map_cons, List.map_nil, hnm, dd_snoc]
        refine addC_keys (fun h => ?_) (fun h => ?_) (fun t ht => ?_)
        · unfold valL
          rw [if_neg hw, if_neg hw, cnt_snoc, if_pos rfl]
          rfl
        · unfold valL
          rw [if_neg hw, cnt_snoc, if_pos rfl]
          have : cntS (l.map (nameS P.m)) (S (markL P.m e.1)) = 0 := by
            unfold cntS
            rw [List.length_eq_zero_iff, List.filter_eq_nil_iff]
            intro t ht
            simp only [decide_eq_true_eq]
            exact fun q => h ((mem_dd _ _).mpr (q ▸ ht))
          rw [this]
          rfl
        · have hc : cntS (l.map (nameS P.m) ++ [S (markL P.m e.1)]) t = cntS (l.map (nameS P.m)) t := by
            rw [cnt_snoc, if_neg (fun q => ht q.symm)]
            rfl
          unfold valL
          rw [hc]
end Mine
end

section
open PySem PySem.W PyProof.Rows PySem.Builtin
set_option Elab.async false
set_option maxRecDepth 100000
set_option linter.all false
namespace Mine
section
variable {P : Cst} {σ : St}
theorem piece_len (O : CstOK P) (i : Nat) : (P.piece i).length ≤ 9 := by
  unfold Cst.piece
  rw [List.getD_eq_getElem?_getD]
  cases h : P.pieces[i]? with
  | none => simp
  | some x => exact O.len x (List.mem_of_getElem? h)
theorem text_ok (O : CstOK P) : ∀ q, Ok (9 * q) (textP P q)
  | 0 => ⟨by simp [textP], by simp [textP]⟩
  | q + 1 => by
    rw [textP_succ]
    have h1 := text_ok O q
    have h2 : Ok 9 (P.piece q) := ⟨piece_len O q, fun c hc => (O.pl q c hc).2.2⟩
    exact (h1.app h2).le (by first | decide | lia | omega)
theorem name_ok (O : CstOK P) (e : Nat × Nat) : PV.ok 0 (.str (nameS P.m e)) = true := by
  have m0 := O.m0
  unfold nameS
  split
  · decide +kernel
  · exact (mark_ok (n := P.m + 1) (by first | decide | lia | omega) (Nat.le_refl _)).pv
theorem lt_ok (O : CstOK P) (I : PInv P σ) (hl : σ.log.length ≤ 900) : LtOK (bookOf P σ.log).lt := by
  have B := book_is P _ σ.log σ.want rfl I.eqs
  have hw : σ.want ≤ 20 := Nat.le_trans I.qn O.n
  have hk : (bookOf P σ.log).lt.map (·.1) = dd (σ.log.map (nameS P.m)) := by
    rw [B.lt, List.map_map]
    show List.map (fun s => s) _ = _
    simp
  have ht := text_ok O σ.want
  refine ⟨by rw [hk]; exact nodup_dd _, ?_, fun x v hx => ?_, fun v hv => ?_, fun x v hx hn => ?_⟩
  · rw [B.lt, List.length_map]
    have := len_dd (σ.log.map (nameS P.m))
    rw [List.length_map] at this
    (first | lia | omega)
  · rw [B.lt] at hx
    obtain ⟨s, hs, e⟩ := List.mem_map.mp hx
    cases e
    obtain ⟨e, _, he⟩ := List.mem_map.mp ((mem_dd _ _).mp hs)
    refine ⟨he ▸ name_ok O e, ?_⟩
    unfold valL
    split
    · exact ht.pv
    · rfl
  · rw [B.lt] at hv
    obtain ⟨s, hs, e⟩ := List.mem_map.mp hv
    have e1 : s = "writing" := congrArg Prod.fst e
    have e2 : valL P σ.want (σ.log.map (nameS P.m)) s = v := congrArg Prod.snd e
    refine ⟨textP P σ.want, ?_, by have := ht.1; (first | lia | omega)⟩
    rw [← e2]
    unfold valL
    rw [if_pos e1]
  · rw [B.lt] at hx
    obtain ⟨s, hs, e⟩ := List.mem_map.mp hx
    have e1 : s = x := congrArg Prod.fst e
    have e2 : valL P σ.want (σ.log.map (nameS P.m)) s = v := congrArg Prod.snd e
    refine ⟨(cntS (σ.log.map (nameS P.m)) s : Nat), ?_⟩
    rw [← e2]
    unfold valL
    rw [if_neg (e1 ▸ hn)]
theorem PInv.ok (O : CstOK P) (I : PInv P σ) (h1 : σ.letters.length ≤ 900) (h2 : σ.answers.length ≤ 900) (h3 : σ.log.length ≤ 900) : StOK P σ := by
  have hn := O.n
  have := I.bq
  have := I.qn
  have := I.qb
  have m0 := O.m0
  exact ⟨h1, h2, h3, by (first | lia | omega), by (first | lia | omega), fun p ls h => I.head O (by rw [h]; exact List.mem_cons_self), fun a as h => by
    have := I.an a (by rw [h]; exact List.mem_cons_self)
    (first | lia | omega), lt_ok O I h3⟩
theorem run_inv (O : CstOK P) (c0 : Int) : ∀ k, PInv P (runS P c0 k) ∧ (runS P c0 k).letters.length ≤ k ∧ (runS P c0 k).answers.length ≤ k ∧ (runS P c0 k).log.length ≤ k
  | 0 => ⟨PInv.start, Nat.le_refl _, Nat.le_refl _, Nat.le_refl _⟩
  | k + 1 => by
    obtain ⟨h1, h2, h3, h4⟩ := run_inv O c0 k
    obtain ⟨a1, a2, a3⟩ := step_len (P := P) (σ := runS P c0 k) (deedN c0 k)
    exact ⟨h1.step O _, by show (stepS P _ _).letters.length ≤ _; (first | lia | omega), by show (stepS P _ _).answers.length ≤ _; (first | lia | omega), by show (stepS P _ _).log.length ≤ _; (first | lia | omega)⟩
theorem rnd_ok (O : CstOK P) (I : PInv P σ) (h1 : σ.letters.length ≤ 12) (h2 : σ.answers.length ≤ 12) (h3 : σ.log.length ≤ 400) : RndOK P σ := by
  have hm3 : P.m - 1 ≤ 3 := Nat.sub_le_sub_right O.m1 1
  have hA := send_inv O I
  obtain ⟨a1, a2, a3, a4, a5, a6, a7⟩ := hA (P.m - 1) (Nat.le_refl _)
  have hl0 : (sendS P σ (P.m - 1)).letters.length ≤ 12 + 3 := Nat.le_trans a6 (Nat.add_le_add h1 hm3)
  have hB := come_inv O a1
  obtain ⟨b1, b2, b3, b4, b5, b6, b7, b8⟩ := hB _ (Nat.le_refl _)
  have hBI : PInv P (rndB P σ) := b1
  have hC := answer_inv O hBI
  have b3' : (rndB P σ).letters = (sendS P σ (P.m - 1)).letters.drop (sendS P σ (P.m - 1)).letters.length := b3
  have b5' : (rndB P σ).answers.length = (sendS P σ (P.m - 1)).answers.length + (sendS P σ (P.m - 1)).letters.length := b5
  have b6' : (rndB P σ).log.length = (sendS P σ (P.m - 1)).log.length + (sendS P σ (P.m - 1)).letters.length := b6
  refine ⟨fun i hi => ?_, fun i hi => ?_, fun i hi => ?_⟩
  · obtain ⟨c1, c2, c3, c4, c5, c6, c7⟩ := hA i hi
    exact c1.ok O (Nat.le_trans c6 (Nat.le_trans (Nat.add_le_add h1 (Nat.le_trans hi hm3)) (by decide))) (by rw [c4]; exact Nat.le_trans h2 (by decide)) (by rw [c5]; exact Nat.le_trans h3 (by decide))
  · obtain ⟨c1, c2, c3, c4, c5, c6, c7, c8⟩ := hB i hi
    have hi' : i ≤ (sendS P σ (P.m - 1)).letters.length := hi
    have e1 : (repS P 3 (rndA P σ) i).letters.length ≤ (sendS P σ (P.m - 1)).letters.length := by
      show (repS P 3 (sendS P σ (P.m - 1)) i).letters.length ≤ _
      rw [c3, List.length_drop]
      exact Nat.sub_le _ _
    have e2 : (repS P 3 (rndA P σ) i).answers.length ≤ 900 := by
      show (repS P 3 (sendS P σ (P.m - 1)) i).answers.length ≤ _
      rw [c5, a4]
      exact Nat.le_trans (Nat.add_le_add h2 (Nat.le_trans hi' hl0)) (by decide)
    have e3 : (repS P 3 (rndA P σ) i).log.length ≤ 900 := by
      show (repS P 3 (sendS P σ (P.m - 1)) i).log.length ≤ _
      rw [c6, a5]
      exact Nat.le_trans (Nat.add_le_add h3 (Nat.le_trans hi' hl0)) (by decide)
    exact c1.ok O (Nat.le_trans e1 (Nat.le_trans hl0 (by decide))) e2 e3
  · obtain ⟨c1, c2, c3, c4, c5, c6, c7⟩ := hC i hi
    have e3 : (rndB P σ).letters = [] := by rw [b3']; exact List.drop_length
    refine c1.ok O (by rw [c3, e3]; exact Nat.zero_le _) ?_ ?_
    · rw [c4, List.length_drop, b5', a4]
      exact Nat.le_trans (Nat.sub_le _ _) (Nat.le_trans (Nat.add_le_add h2 hl0) (by decide))
    · rw [c5, b6', a5]
      exact Nat.le_trans (Nat.add_le_add h3 hl0) (by decide)
theorem rnds_inv (O : CstOK P) (I : PInv P σ) (h1 : σ.letters.length ≤ 12) (h2 : σ.answers.length ≤ 12) (h3 : σ.log.length ≤ 12) : ∀ j, PInv P (rndsS P σ j) ∧ (rndsS P σ j).letters.length ≤ 12 ∧ (rndsS P σ j).answers.length ≤ 12 ∧ (rndsS P σ j).log.length ≤ 12 + 15 * j ∧ min P.pieces.length j ≤ (rndsS P σ j).base ∧
    (1 ≤ j → (rndsS P σ j).letters = [] ∧ (rndsS P σ j).answers = [] ∧ (rndsS P σ j).base = (rndsS P σ j).want)
  | 0 => ⟨I, h1, h2, by show σ.log.length ≤ _; (first | lia | omega), by simp, fun h => absurd h (by first | decide | lia | omega)⟩
  | j + 1 => by
    have m1 := O.m1
    obtain ⟨a1, a2, a3, a4, a5, a6⟩ := rnds_inv O I h1 h2 h3 j
    obtain ⟨b1, b2, b3, b4, b5, b6⟩ := round_inv O a1
    show PInv P (rndC P (rndsS P σ j)) ∧ (rndC P (rndsS P σ j)).letters.length ≤ 12 ∧ (rndC P (rndsS P σ j)).answers.length ≤ 12 ∧ (rndC P (rndsS P σ j)).log.length ≤ 12 + 15 * (j + 1) ∧ min P.pieces.length (j + 1) ≤ (rndC P (rndsS P σ j)).base ∧ (1 ≤ j + 1 → (rndC P (rndsS P σ j)).letters = [] ∧ (rndC P (rndsS P σ j)).answers = [] ∧ (rndC P (rndsS P σ j)).base = (rndC P (rndsS P σ j)).want)
    exact ⟨b1, by rw [b2]; simp, by rw [b3]; simp, by (first | lia | omega), by (first | lia | omega), fun _ => ⟨b2, b3, b4⟩⟩
theorem range_getD {α : Type} (l : List α) (d : α) : (List.range l.length).map (fun i => l.getD i d) = l := by
  apply List.ext_getElem
  · simp
  · intro i h1 h2
    simp [List.getD, h2]
theorem text_all : textP P P.pieces.length = P.pieces.flatten := by
  unfold textP
  congr 1
  exact range_getD P.pieces []
/-- what the law needs of its run -/
theorem all_facts (O : CstOK P) (c0 : Int) (x : List Nat) (hn : 1 ≤ P.pieces.length) (hx : P.pieces.flatten = x) (hx9 : x.length = 9) :
    (∀ i, i < 12 → StOK P (runS P c0 i)) ∧ (∀ j, j < P.pieces.length → RndOK P (rndsS P (runS P c0 12) j)) ∧
    ∃ log : List (Nat × Nat), rndsS P (runS P c0 12) P.pieces.length = ⟨[], [], P.pieces.length, P.pieces.length, log⟩ ∧ log.length ≤ 900 ∧ LtOK (bookOf P log).lt ∧ (bookOf P log).b1 = (P.pieces.length : Int) ∧ (bookOf P log).b2 = (log.length : Int) ∧ (bookOf P log).b3 = 9 ∧
      (bookOf P log).b4 = (log.map fun e => sideZ (e.1 % P.m) (e.2 % P.m)).sum ∧ pairs (bookOf P log).lt = tabN (log.map (nameS P.m)) (valN (log.map (nameS P.m)) x) (log.map (nameS P.m)).length := by
  have hn20 := O.n
  obtain ⟨r1, r2, r3, r4⟩ := run_inv O c0 12
  have hr := rnds_inv O r1 r2 r3 r4
  refine ⟨fun i hi => ?_, fun j hj => ?_, ?_⟩
  · obtain ⟨a1, a2, a3, a4⟩ := run_inv O c0 i
    exact a1.ok O (by first | decide | lia | omega) (by first | decide | lia | omega) (by first | decide | lia | omega)
  · obtain ⟨a1, a2, a3, a4, a5, a6⟩ := hr j
    exact rnd_ok O a1 a2 a3 (by first | decide | lia | omega)
  · obtain ⟨a1, a2, a3, a4, a5, a6⟩ := hr P.pieces.length
    obtain ⟨b1, b2, b3⟩ := a6 hn
    have hq := a1.qn
    have hbn : (rndsS P (runS P c0 12) P.pieces.length).base = P.pieces.length := by (first | lia | omega)
    have hwn : (rndsS P (runS P c0 12) P.pieces.length).want = P.pieces.length := by (first | lia | omega)
    generalize hσ : rndsS P (runS P c0 12) P.pieces.length = τ at *
    obtain ⟨ls, as, b, q, log⟩ := τ
    simp only at b1 b2 b3 hbn hwn a4
    subst b1 b2
    have hb := hbn
    have hl9 : log.length ≤ 900 := by (first | lia | omega)
    have LK := lt_ok O a1 hl9
    have B := book_is P _ log q rfl a1.eqs
    subst hwn
    refine ⟨log, by rw [hbn], hl9, LK, B.b1, B.b2, ?_, B.b4, ?_⟩
    · rw [B.b3, text_all, hx, hx9]; rfl
    · rw [tab_dd _ _ _ (Nat.le_refl _), List.take_length, B.lt]
      unfold pairs
      rw [List.map_map]
      apply List.map_congr_left
      intro s hs
      show PV.tuple [.str s, valL P P.pieces.length _ s] = _
      unfold valL valN
      rw [text_all, hx]
      rfl
end
end Mine
end

section
open PySem PySem.W PyProof.Rows PySem.Builtin
set_option Elab.async false
set_option maxRecDepth 100000
set_option linter.all false
namespace Mine
/-- the numbers told, and how it goes on behind them -/
noncomputable def tellV : Option Nat → List Nat → List Nat × Fin3
  | _, [] => ([], .stop)
  | last, i :: l =>
    if i = 127 then ([], .stop) else
    if i = 0 then (match last with | none => ([], .refuse) | some v => (List.replicate 9 v, .more)) else
    (i :: (tellV (some i) l).1, (tellV (some i) l).2)
noncomputable def cutF : List Nat → Fin3 → List Nat → List (List Nat) → Option (List (List Nat))
  | [], fin, x, ps => if fin = .stop then some (ps ++ [x]) else none
  | z :: V, fin, x, ps => if z = 2 ∨ z = 3 ∨ z = 4 then (if x.drop z = [] then some (ps ++ [x.take z]) else cutF V fin (x.drop z) (ps ++ [x.take z])) else none
theorem rv_head {V : List Nat} {z : Nat} {rv : Nat → Int} (h : ∀ m, m < (z :: V).length → rv m = ((z :: V).reverse.getD m 0 : Nat)) : rv V.length = (z : Int) ∧ ∀ m, m < V.length → rv m = (V.reverse.getD m 0 : Nat) := by
  constructor
  · have := h V.length (by simp)
    rw [this, List.reverse_cons, List.getD_eq_getElem?_getD, List.getElem?_append_right (by simp)]
    simp
  · intro m hm
    have := h m (by simp; (first | lia | omega))
    rw [this, List.reverse_cons, List.getD_eq_getElem?_getD, List.getD_eq_getElem?_getD, List.getElem?_append_left (by simpa using hm)]
theorem told_of (rv : Nat → Int) : ∀ (l : List Nat) (last : Option Nat), (∀ m, m < (tellV last l).1.length → rv m = ((tellV last l).1.reverse.getD m 0 : Nat)) → Told rv (tellV last l).2 (tellV last l).1.length (last.map fun n : Nat => (n : Int)) (l.map fun n : Nat => (n : Int))
  | [], last, _ => .stop rfl
  | i :: l, last, h => by
    rw [List.map_cons]
    unfold tellV at h ⊢
    by_cases h1 : i = 127
    · subst h1
      simp only [if_true]
      exact .char rfl
    · rw [if_neg h1] at h ⊢
      by_cases h2 : i = 0
      · subst h2
        simp only [if_true] at h ⊢
        cases last with
        | none => exact .refuse rfl
        | some v =>
          simp only at h ⊢
          rw [List.length_replicate]
          refine Told.again (n := 8) rfl fun j hj => ?_
          rw [h j (by rw [List.length_replicate]; (first | lia | omega)), List.reverse_replicate, List.getD_eq_getElem?_getD, List.getElem?_replicate, if_pos (by first | decide | lia | omega)]
          rfl
      · rw [if_neg h2] at h ⊢
        obtain ⟨h3, h4⟩ := rv_head h
        rw [List.length_cons]
        exact Told.next (by first | decide | lia | omega) (by first | decide | lia | omega) h3 (told_of rv l (some i) h4)
theorem cut_of (rv : Nat → Int) (fin : Fin3) : ∀ (V : List Nat) (x : List Nat) (ps res : List (List Nat)), (∀ m, m < V.length → rv m = (V.reverse.getD m 0 : Nat)) → cutF V fin x ps = some res → CutTo rv fin V.length x ps res
  | [], x, ps, res, _, h => by
    unfold cutF at h
    split at h
    · rename_i hf
      cases h
      exact .stop hf
    · cases h
  | z :: V, x, ps, res, hr, h => by
    obtain ⟨h3, h4⟩ := rv_head hr
    unfold cutF at h
    split at h
    · rename_i hz
      split at h
      · rename_i hx
        cases h
        exact .last h3 hz hx
      · rename_i hx
        exact .more h3 hz hx (cut_of rv fin V _ _ _ h4 h)
    · cases h
theorem cut_map {rv : Nat → Int} {fin : Fin3} (f : Nat → Nat) (hf : fin ≠ .refuse) {n : Nat} {x : List Nat} {ps res : List (List Nat)} (h : CutTo rv fin n x ps res) : CutTo rv fin n (x.map f) (ps.map fun p => p.map f) (res.map fun p => p.map f) := by
  induction h with
  | stop h =>
    rw [List.map_append]
    exact .stop h
  | refuse h => exact absurd h hf
  | last h1 h2 h3 =>
    rw [List.map_append, List.map_cons, List.map_nil, List.map_take]
    exact .last h1 h2 (by rw [← List.map_drop, h3]; rfl)
  | more h1 h2 h3 h4 ih =>
    rw [List.map_append, List.map_cons, List.map_nil, List.map_take, List.map_drop] at ih
    exact .more h1 h2 (by rw [← List.map_drop]; exact fun q => h3 (List.map_eq_nil_iff.mp q)) ih
theorem due_map (f : Nat → Nat) (x : List Nat) (r : List Nat) : dueL (x.map f) r = (dueL x r).map fun p => p.map f := by
  unfold dueL
  rw [List.map_map]
  apply List.map_congr_left
  intro i _
  show _ = List.map f _
  rw [List.map_take, List.map_drop]
noncomputable def chk (r : List Nat) : Bool :=
  decide ((tellV none r).2 ≠ .refuse) && decide (cutF (tellV none r).1 (tellV none r).2 (List.range 9) [] = some (dueL (List.range 9) r)) && decide ((dueL (List.range 9) r).flatten = List.range 9) && decide (1 ≤ (dueL (List.range 9) r).length) && decide ((dueL (List.range 9) r).length ≤ 20) && decide ((tellV none r).1.length ≤ 20)
theorem chk_all : (([2, 3, 4] : List Nat).all fun a => ([2, 3, 0, 127, 4] : List Nat).all fun b => ([2, 3, 0, 127, 4] : List Nat).all fun c => chk [a, b, c]) = true := by decide +kernel
theorem fig_mem {t : List Nat} {z : Int} (h : 0 < t.length) : figN t z ∈ t := by
  obtain ⟨h1, h2⟩ := fig_le t z h
  unfold figN
  rw [List.getD_eq_getElem?_getD, List.getElem?_eq_getElem (by first | decide | lia | omega)]
  exact List.getElem_mem _
theorem ruler_chk (c1 : Int) : chk (rulerN c1) = true := by
  have h1 : figN [2, 3, 4, 2, 3] c1 ∈ ([2, 3, 4] : List Nat) := by
    have := fig_mem (t := [2, 3, 4, 2, 3]) (z := c1) (by decide)
    simp only [List.mem_cons, List.not_mem_nil, or_false] at this ⊢
    (first | lia | omega)
  have h := List.all_eq_true.mp chk_all _ h1
  have h := List.all_eq_true.mp h _ (fig_mem (t := [2, 3, 0, 127, 4]) (z := c1.fdiv 5) (by decide))
  exact List.all_eq_true.mp h _ (fig_mem (t := [2, 3, 0, 127, 4]) (z := c1.fdiv 25) (by decide))
theorem write_plain (c2 c3 : Int) : Plain (writeN c2 c3) := fun a ha => by
  obtain ⟨i, _, rfl⟩ := List.mem_map.mp ha
  obtain ⟨h1, h2⟩ := fm3 c3 (n := 55000) (by first | decide | lia | omega)
  have hx := fig_mem (t := signsN c3) (z := c2.fdiv (4 ^ i)) (by simp [signsN])
  generalize figN (signsN c3) (c2.fdiv (4 ^ i)) = y at hx
  simp only [signsN, List.mem_cons, List.not_mem_nil, or_false] at hx
  (first | lia | omega)
theorem flat_map (f : Nat → Nat) (l : List (List Nat)) : (l.map fun p => p.map f).flatten = l.flatten.map f := by
  rw [List.map_flatten]
/-- what the law needs of its cells -/
theorem cell_facts (c1 c2 c3 : Int) :
    (∃ rv fin n, n ≤ 20 ∧ Told rv fin n none ((rulerN c1).map fun n : Nat => (n : Int)) ∧ CutTo rv fin n (writeN c2 c3) [] (dueL (writeN c2 c3) (rulerN c1))) ∧
    CstOK ⟨dueL (writeN c2 c3) (rulerN c1), marksN c1, c3⟩ ∧ 1 ≤ (dueL (writeN c2 c3) (rulerN c1)).length ∧ (dueL (writeN c2 c3) (rulerN c1)).flatten = writeN c2 c3 ∧ (writeN c2 c3).length = 9 := by
  have hc := ruler_chk c1
  unfold chk at hc
  simp only [Bool.and_eq_true, decide_eq_true_eq] at hc
  obtain ⟨⟨⟨⟨⟨k1, k2⟩, k3⟩, k4⟩, k5⟩, k6⟩ := hc
  have hw : writeN c2 c3 = (List.range 9).map fun i => figN (signsN c3) (c2.fdiv (4 ^ i)) := rfl
  have hl : (writeN c2 c3).length = 9 := by rw [hw]; simp
  have hd : dueL (writeN c2 c3) (rulerN c1) = (dueL (List.range 9) (rulerN c1)).map fun p => p.map fun i => figN (signsN c3) (c2.fdiv (4 ^ i)) := due_map _ _ _
  refine ⟨?_, ?_, ?_, ?_, hl⟩
  · refine ⟨fun m => ((tellV none (rulerN c1)).1.reverse.getD m 0 : Nat), (tellV none (rulerN c1)).2, (tellV none (rulerN c1)).1.length, k6, told_of _ _ none fun m _ => rfl, ?_⟩
    have := cut_map (fun i => figN (signsN c3) (c2.fdiv (4 ^ i))) k1 (cut_of (fun m => ((tellV none (rulerN c1)).1.reverse.getD m 0 : Nat)) _ _ _ _ _ (fun m _ => rfl) k2)
    rw [← hd] at this
    exact this
  · obtain ⟨h1, h2⟩ := fm3 (c1.fdiv 125) (n := 3) (by first | decide | lia | omega)
    have hp : ∀ p ∈ dueL (writeN c2 c3) (rulerN c1), ∃ i j, p = ((writeN c2 c3).drop i).take j := fun p hp => by
      obtain ⟨i, _, rfl⟩ := List.mem_map.mp hp
      exact ⟨_, _, rfl⟩
    refine ⟨fun p h => ?_, fun p h => ?_, ?_, ?_, ?_⟩
    · obtain ⟨i, j, rfl⟩ := hp p h
      exact fun a ha => write_plain c2 c3 a (List.mem_of_mem_drop (List.mem_of_mem_take ha))
    · obtain ⟨i, j, rfl⟩ := hp p h
      rw [List.length_take, List.length_drop]; (first | lia | omega)
    · show (dueL _ _).length ≤ 20
      rw [hd, List.length_map]; exact k5
    · show 2 ≤ marksN c1
      unfold marksN; (first | lia | omega)
    · show marksN c1 ≤ 4
      unfold marksN; (first | lia | omega)
  · rw [hd, List.length_map]; exact k4
  · rw [hd, flat_map, k3]; rfl
end Mine
end

section
open PySem PySem.W PySem.W.X PyProof.Rows PySem.Builtin
set_option Elab.async false
set_option maxRecDepth 100000
set_option linter.all false
namespace Mine
theorem law_all (w : World) : ∃ B, (FD w 158).body = .stmts B ∧ ∀ (A : Around) (L : Addr) (l : List Int), A.handled = none → A.depth ≤ 420 → A.units ≤ 100 → A.frames = some [] → l.length ≤ 2 ^ 20 → Fx false (fc w A 158 L) [("script", .list (pI l))] B (.bool true) := by
  obtain ⟨B, hB, ha⟩ := law_a w
  obtain ⟨B2, hB2, hb⟩ := law_b w
  obtain ⟨B3, hB3, hc⟩ := law_c w
  obtain ⟨B4, hB4, hd⟩ := law_d w
  obtain ⟨B5, hB5, he⟩ := law_e w
  obtain ⟨B6, hB6, hf⟩ := law_f w
  obtain ⟨B7, hB7, hg⟩ := law_g w
  have e2 : B2 = B := by injection hB2.symm.trans hB
  have e3 : B3 = B := by injection hB3.symm.trans hB
  have e4 : B4 = B := by injection hB4.symm.trans hB
  have e5 : B5 = B := by injection hB5.symm.trans hB
  have e6 : B6 = B := by injection hB6.symm.trans hB
  have e7 : B7 = B := by injection hB7.symm.trans hB
  subst e2 e3 e4 e5 e6 e7
  clear hB2 hB3 hB4 hB5 hB6 hB7
  refine ⟨_, hB, fun A L l hh hroom hu hfr hl => ?_⟩
  rw [← lc_eq]
  refine (ha false A L l _ hh hl (hb false A L _ _ _ _ _ hh hroom hu ?_)).out
  generalize cellZ l 0 = c0
  generalize cellZ l 1 = c1
  generalize cellZ l 2 = c2
  generalize cellZ l 3 = c3
  obtain ⟨f1, f2, f3, f4, f5⟩ := cell_facts c1 c2 c3
  refine hc false A L c0 c1 c2 c3 _ hh hroom hu hfr f1 ?_
  obtain ⟨g1, g2, log, g3, g4, g5, g6, g7, g8, g9, g10⟩ := all_facts f2 c0 (writeN c2 c3) f3 f4 f5
  refine hd A L ⟨dueL (writeN c2 c3) (rulerN c1), marksN c1, c3⟩ c0 c1 c2 (writeN c2 c3) _ hh hroom hu hfr f2 g1 g2 ?_
  rw [g3]
  refine he A L ⟨dueL (writeN c2 c3) (rulerN c1), marksN c1, c3⟩ _ log (writeN c2 c3) _ hh hroom hu f2 rfl g4 (.of ?_)
  generalize hP : (⟨dueL (writeN c2 c3) (rulerN c1), marksN c1, c3⟩ : Cst) = P at *
  have e1 : (log.map fun e => PV.str (nameS P.m e)) = (log.map (nameS P.m)).map PV.str := by rw [List.map_map]; rfl
  rw [e1, sum_map]
  refine hf A L (log.map (nameS P.m)) (writeN c2 c3) _ _ _ _ _ hh hroom hu (by rw [List.length_map]; exact g4) (fun s hs => ?_) ?_
  · obtain ⟨e, _, rfl⟩ := List.mem_map.mp hs
    exact name_ok f2 e
  · exact hg A L (bookOf P log) _ log P.pieces _ hh hroom hu (by have := f2.n; (first | lia | omega)) g4 g5 g10 g6 g7 g8 g9
/-- the call of law -/
theorem law_call {w : World} {l : List Int} (hl : l.length ≤ 2 ^ 20) : CallV false w callerA (.ref 158) [.list (pI l)] (.bool true) := by
  obtain ⟨B, hB, h⟩ := law_all w
  have hm : callerA.depth = 301 := by rfl
  refine CallV.fn (cc := 157) (xs := ["script"]) [("script", .list (pI l))] ⟨by kernel_rfl, by kernel_rfl, by kernel_rfl, by kernel_rfl, ⟨_, _, rfl, rfl⟩, hB, by kernel_rfl, by kernel_rfl, by kernel_rfl, by kernel_rfl, by kernel_rfl⟩ (by kernel_rfl)
    (bind1 rfl fun _ => by kernel_rfl) rfl (fun n => mem1 (.inr ⟨by kernel_rfl, by rfl⟩)) (by rw [hm]; decide) rfl fun L => ?_
  exact h callerA L l rfl (by rw [hm]; decide) (by decide) rfl hl
theorem rep_ints {P : Params} {g : Vw} : ∀ {vs : List Value} {ns : List Int}, IntsAre vs ns → RepL P g vs (pI ns)
  | _, _, .nil => .nil
  | _, _, .cons i t h => .cons (.int i t) (rep_ints h)
end Mine

set_option maxHeartbeats 0 in
theorem PySem.Challenge.cw_jc0005_01_holds : PySem.Challenge.rw_jc0005_01.Holds := by
  refine Mine.hd ?_
  intro w s₀ s₁ mg mb G Y fa o pm cd doc dV kV ho hd hcd hD hmg hg args vals as hpre hlay hrd hwl hlo
  have KX := kIn_of Y
  refine Ground.open G ?_
  intro T B D TE TW
  clear ho hd hcd hD
  have hfa : mg "law" = some (.ref 158) := mg_of KX T.g (by kernel_rfl)
  have hmg' : mg "law" = some (.ref fa) := hmg
  rw [hfa] at hmg'
  cases hmg'
  clear hmg
  wrow_args hpre hlay hrd hwl hlo
  rename_i ns hs hlay0 hL1 hr1 hl2 a4 a3 l vs a0 hL ra w1 r0 hI hr c1 c2
  have hlen : ns.length ≤ 2 ^ 20 := by (first | lia | omega)
  have BB : Mine.Base w s₁.heap.get? := ⟨fun a o e => KX a o e, ⟨s₁.heap, mb, Mine.Le.refl _, T.b, T.builtins, T.nolimit⟩⟩
  obtain ⟨ol, hl1, hl3, n, hl4⟩ := hL
  refine Mine.law_call hlen s₁.heap.get? s₁ [.ref l] _ _ BB (Mine.Le.refl _) (.cons (.list hl1 hl3 hl4 (Mine.rep_ints hI)) .nil) fun v g' s' st r => ?_
  replace r := r.inv
  cases r
  have hb := st.rest.2
  rw [if_neg (by simp)] at hb
  refine ⟨.inl ⟨.bool true, .bool true, [], rfl, ?_, .bool true, ?_, fun _ => ⟨List.nodup_nil, fun a ha => by cases ha⟩⟩, .of_keep st.heap, st.rest.1, hb (.of_eq hg)⟩
  · intro cls; rfl
  · simp only [RowW.claim, Bool.and_eq_true]
    exact ⟨by kernel_rfl!, by kernel_rfl!⟩
end

end
