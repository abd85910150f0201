import PyProof.Rows.All
import Wide.All
import OpenK.AllK
import Wide.FinOn
import PySem.Challenge.RW_xg0005_01
set_option Elab.async false
set_option maxRecDepth 100000
namespace Mine
section
open PySem PySem.W PyProof.Rows
set_option maxHeartbeats 8000000
open_top hd for PySem.Challenge.rw_xg0005_01
end
end Mine

namespace Mine

/-- behind an opening mark at p-1: the place behind the closing one -/
noncomputable def closeAt (t : List Nat) (p : Nat) : Option Nat :=
  if _h : p < t.length then
    if t.getD p 0 = 34 then some (p + 1)
    else if t.getD p 0 = 92 then
      (if p + 1 < t.length ∧ t.getD (p + 1) 0 ≠ 10 then closeAt t (p + 2) else none)
    else closeAt t (p + 1)
  else none
termination_by t.length - p

theorem closeAt_bounds (t : List Nat) (p : Nat) : ∀ e, closeAt t p = some e → p < e ∧ e ≤ t.length := by
  induction p using closeAt.induct t with
  | case1 p h h1 => intro e he; rw [closeAt, dif_pos h, if_pos h1] at he; cases he; omega
  | case2 p h h1 h2 h3 ih => intro e he; rw [closeAt, dif_pos h, if_neg h1, if_pos h2, if_pos h3] at he; have := ih e he; omega
  | case3 p h h1 h2 h3 => intro e he; rw [closeAt, dif_pos h, if_neg h1, if_pos h2, if_neg h3] at he; cases he
  | case4 p h h1 h2 ih => intro e he; rw [closeAt, dif_pos h, if_neg h1, if_neg h2] at he; have := ih e he; omega
  | case5 p h => intro e he; rw [closeAt, dif_neg h] at he; cases he

/-- one stretch at p: what it leaves, and the next place -/
noncomputable def nextEnd (t : List Nat) (p : Nat) : Nat := if t.getD p 0 = 34 then (closeAt t (p + 1)).getD 0 else 0
theorem nextEnd_gt {t : List Nat} {p : Nat} (h : nextEnd t p ≠ 0) : p < nextEnd t p ∧ nextEnd t p ≤ t.length := by
  unfold nextEnd at h ⊢
  split at h <;> rename_i h1
  · rw [if_pos h1]
    cases hc : closeAt t (p + 1) with
    | none => rw [hc] at h; simp at h
    | some e => have := closeAt_bounds t (p + 1) e hc; simp only [Option.getD_some]; omega
  · simp at h

/-- what stays of the text from p on -/
noncomputable def bareFrom (t : List Nat) (p : Nat) : List Nat :=
  if _h : p < t.length then
    if _h0 : nextEnd t p = 0 then t.getD p 0 :: bareFrom t (p + 1)
    else bareFrom t (nextEnd t p)
  else []
termination_by t.length - p
decreasing_by
  · omega
  · have := nextEnd_gt _h0; omega

theorem bareFrom_end {t : List Nat} {p : Nat} (h : ¬ p < t.length) : bareFrom t p = [] := by rw [bareFrom, dif_neg h]
theorem bareFrom_keep {t : List Nat} {p : Nat} (h : p < t.length) (h0 : nextEnd t p = 0) : bareFrom t p = t.getD p 0 :: bareFrom t (p + 1) := by rw [bareFrom, dif_pos h, dif_pos h0]
theorem bareFrom_skip {t : List Nat} {p : Nat} (h : p < t.length) (h0 : nextEnd t p ≠ 0) : bareFrom t p = bareFrom t (nextEnd t p) := by
  conv => lhs; rw [bareFrom]
  rw [dif_pos h, dif_neg h0]

theorem bareFrom_length (t : List Nat) (p : Nat) : (bareFrom t p).length ≤ t.length - p := by
  induction p using bareFrom.induct t with
  | case1 p h h0 ih => rw [bareFrom_keep h h0, List.length_cons]; omega
  | case2 p h h0 ih => rw [bareFrom_skip h h0]; have := nextEnd_gt h0; omega
  | case3 p h => rw [bareFrom_end h]; simp
theorem bareFrom_mem (t : List Nat) (p : Nat) : ∀ c ∈ bareFrom t p, c ∈ t := by
  induction p using bareFrom.induct t with
  | case1 p h h0 ih =>
    rw [bareFrom_keep h h0]
    intro c hc
    rcases List.mem_cons.mp hc with rfl | hc
    · rw [List.getD_eq_getElem?_getD, List.getElem?_eq_getElem h]; exact List.getElem_mem h
    · exact ih c hc
  | case2 p h h0 ih => rw [bareFrom_skip h h0]; exact ih
  | case3 p h => rw [bareFrom_end h]; intro c hc; cases hc

/-- the first quoted stretch at or behind p -/
noncomputable def findQ (t : List Nat) (p : Nat) : Option (Nat × Nat) :=
  if _h : p < t.length then
    if nextEnd t p = 0 then findQ t (p + 1) else some (p, nextEnd t p)
  else none
termination_by t.length - p
theorem findQ_end {t : List Nat} {p : Nat} (h : ¬ p < t.length) : findQ t p = none := by rw [findQ, dif_neg h]
theorem findQ_keep {t : List Nat} {p : Nat} (h : p < t.length) (h0 : nextEnd t p = 0) : findQ t p = findQ t (p + 1) := by
  conv => lhs; rw [findQ]
  rw [dif_pos h, if_pos h0]
theorem findQ_here {t : List Nat} {p : Nat} (h : p < t.length) (h0 : nextEnd t p ≠ 0) : findQ t p = some (p, nextEnd t p) := by rw [findQ, dif_pos h, if_neg h0]

theorem drop_cons_getD {t : List Nat} {p : Nat} (h : p < t.length) : t.drop p = t.getD p 0 :: t.drop (p + 1) := by
  rw [List.drop_eq_getElem_cons h, List.getD_eq_getElem?_getD, List.getElem?_eq_getElem h]; rfl

theorem findQ_none (t : List Nat) (p : Nat) : findQ t p = none → bareFrom t p = t.drop p := by
  induction p using findQ.induct t with
  | case1 p h h0 ih => intro e; rw [findQ_keep h h0] at e; rw [bareFrom_keep h h0, ih e, drop_cons_getD h]
  | case2 p h h0 => intro e; rw [findQ_here h h0] at e; cases e
  | case3 p h => intro _; rw [bareFrom_end h, List.drop_eq_nil_of_le (by omega)]
theorem findQ_some (t : List Nat) (p : Nat) : ∀ b e, findQ t p = some (b, e) → p ≤ b ∧ b < e ∧ e ≤ t.length ∧ bareFrom t p = (t.take b).drop p ++ bareFrom t e := by
  induction p using findQ.induct t with
  | case1 p h h0 ih =>
    intro b e he
    rw [findQ_keep h h0] at he
    obtain ⟨h1, h2, h3, h4⟩ := ih b e he
    refine ⟨by omega, h2, h3, ?_⟩
    rw [bareFrom_keep h h0, h4]
    have hp : p < (t.take b).length := by rw [List.length_take]; omega
    rw [drop_cons_getD hp, List.cons_append]
    congr 1
    simp only [List.getD_eq_getElem?_getD, List.getElem?_take]
    rw [if_pos (by omega)]
  | case2 p h h0 =>
    intro b e he
    rw [findQ_here h h0] at he
    cases he
    have := nextEnd_gt h0
    refine ⟨Nat.le_refl _, this.1, this.2, ?_⟩
    rw [bareFrom_skip h h0, List.drop_eq_nil_of_le (by rw [List.length_take]; omega), List.nil_append]
  | case3 p h => intro b e he; rw [findQ_end h] at he; cases he

/-- no mark: nothing goes -/
theorem bareFrom_free {t : List Nat} (hf : 34 ∉ t) (p : Nat) : bareFrom t p = t.drop p := by
  induction p using bareFrom.induct t with
  | case1 p h h0 ih => rw [bareFrom_keep h h0, ih, drop_cons_getD h]
  | case2 p h h0 ih =>
    exfalso
    unfold nextEnd at h0
    have hm : t.getD p 0 ∈ t := by rw [List.getD_eq_getElem?_getD, List.getElem?_eq_getElem h]; exact List.getElem_mem h
    split at h0
    · rename_i h1; rw [h1] at hm; exact hf hm
    · exact h0 rfl
  | case3 p h => rw [bareFrom_end h, List.drop_eq_nil_of_le (by omega)]

theorem getD_append_ge (a t : List Nat) (p : Nat) : (a ++ t).getD (a.length + p) 0 = t.getD p 0 := by
  simp only [List.getD_eq_getElem?_getD, List.getElem?_append_right (Nat.le_add_right _ _), Nat.add_sub_cancel_left]
theorem closeAt_shift (a t : List Nat) (p : Nat) : closeAt (a ++ t) (a.length + p) = (closeAt t p).map (a.length + ·) := by
  induction p using closeAt.induct t with
  | case1 p h h1 => rw [closeAt, dif_pos (by rw [List.length_append]; omega), getD_append_ge, if_pos h1, closeAt, dif_pos h, if_pos h1]; simp; omega
  | case2 p h h1 h2 h3 ih =>
    rw [closeAt, dif_pos (by rw [List.length_append]; omega), getD_append_ge, if_neg h1, if_pos h2, Nat.add_assoc, getD_append_ge, if_pos ⟨by rw [List.length_append]; omega, h3.2⟩]
    conv => rhs; rw [closeAt]
    rw [dif_pos h, if_neg h1, if_pos h2, if_pos h3, ← ih]; rfl
  | case3 p h h1 h2 h3 =>
    rw [closeAt, dif_pos (by rw [List.length_append]; omega), getD_append_ge, if_neg h1, if_pos h2, Nat.add_assoc, getD_append_ge, if_neg (fun q => h3 ⟨by have := q.1; rw [List.length_append] at this; omega, q.2⟩)]
    rw [closeAt, dif_pos h, if_neg h1, if_pos h2, if_neg h3]; rfl
  | case4 p h h1 h2 ih =>
    rw [closeAt, dif_pos (by rw [List.length_append]; omega), getD_append_ge, if_neg h1, if_neg h2]
    conv => rhs; rw [closeAt]
    rw [dif_pos h, if_neg h1, if_neg h2, ← ih]; rfl
  | case5 p h => rw [closeAt, dif_neg (by rw [List.length_append]; omega), closeAt, dif_neg h]; rfl
theorem nextEnd_shift (a t : List Nat) (p : Nat) : nextEnd (a ++ t) (a.length + p) = if nextEnd t p = 0 then 0 else a.length + nextEnd t p := by
  unfold nextEnd
  rw [getD_append_ge, Nat.add_assoc, closeAt_shift]
  split
  · cases hc : closeAt t (p + 1) with
    | none => simp
    | some e =>
      have := closeAt_bounds t (p + 1) e hc
      simp only [Option.map_some, Option.getD_some]
      rw [if_neg (by omega)]
  · simp
theorem bareFrom_shift (a t : List Nat) (p : Nat) : bareFrom (a ++ t) (a.length + p) = bareFrom t p := by
  induction p using bareFrom.induct t with
  | case1 p h h0 ih => rw [bareFrom_keep (by rw [List.length_append]; omega) (by rw [nextEnd_shift, if_pos h0]), getD_append_ge, Nat.add_assoc, ih, bareFrom_keep h h0]
  | case2 p h h0 ih =>
    have e : nextEnd (a ++ t) (a.length + p) = a.length + nextEnd t p := by rw [nextEnd_shift, if_neg h0]
    have := nextEnd_gt h0
    rw [bareFrom_skip (by rw [List.length_append]; omega) (by rw [e]; omega), e, ih, bareFrom_skip h h0]
  | case3 p h => rw [bareFrom_end (by rw [List.length_append]; omega), bareFrom_end h]
theorem bareFrom_append {a t : List Nat} (hf : 34 ∉ a) : ∀ (k p : Nat), a.length - p = k → p ≤ a.length → bareFrom (a ++ t) p = a.drop p ++ bareFrom t 0 := by
  intro k
  induction k with
  | zero =>
    intro p hk hp
    have : p = a.length := by omega
    subst this
    have := bareFrom_shift a t 0
    rw [Nat.add_zero] at this
    rw [this, List.drop_length, List.nil_append]
  | succ k ih =>
    intro p hk hp
    have h : p < a.length := by omega
    have hg : (a ++ t).getD p 0 = a.getD p 0 := by simp only [List.getD_eq_getElem?_getD, List.getElem?_append_left h]
    have hm : a.getD p 0 ∈ a := by rw [List.getD_eq_getElem?_getD, List.getElem?_eq_getElem h]; exact List.getElem_mem h
    have hn : nextEnd (a ++ t) p = 0 := by
      unfold nextEnd
      rw [hg, if_neg (fun q : a.getD p 0 = 34 => hf (by rw [← q]; exact hm))]
    rw [bareFrom_keep (by rw [List.length_append]; omega) hn, hg, ih (p + 1) (by omega) (by omega), drop_cons_getD h, List.cons_append]
theorem bareFrom_two {a t : List Nat} (hf : 34 ∉ a) : bareFrom (a ++ t) 0 = a ++ bareFrom t 0 := by
  rw [bareFrom_append hf _ 0 rfl (Nat.zero_le _), List.drop_zero]
end Mine

namespace Mine
open PySem.Sre

def qcode : Array Nat := #[14, 8, 1, 2, 4294967295, 1, 1, 34, 0, 16, 34, 28, 22, 0, 4294967295, 7, 11, 13, 7, 21, 16, 34, 16, 92, 0, 15, 8, 6, 16, 92, 2, 15, 2, 0, 1, 16, 34, 1]

/-- the machine on this code, its parts that turn -/
abbrev mq (t : List Nat) (start pc pos handed : Nat) (om : Bool) (loops : Array Loop) (inner : Option Nat) (frames : List Frame) (weight : Nat) (answer : Option Bool) (seen : Seen) (outcome : Option Outcome) : M :=
  { code := qcode, text := t.toArray, lim := t.length, start := start, lastStart := t.length, wholeText := false, mustAdvance := false, pc := pc, pos := pos, handed := handed, outermost := om,
    marks := #[], lastmark := -1, lastindex := -1, loops := loops, inner := inner, frames := frames, weight := weight, answer := answer, seen := seen, outcome := outcome }

def Go (n : Nat) (m m' : M) : Prop := ∀ k, M.runFor (n + k) m = M.runFor k m'
theorem Go.refl (m : M) : Go 0 m m := fun k => by rw [Nat.zero_add]
theorem Go.step {m m' : M} (h : m.outcome = none) (e : m.step = m') : Go 1 m m' := fun k => by
  rw [Nat.add_comm, M.runFor, h]
  simp only [Option.isSome_none, Bool.false_eq_true, if_false]
  rw [e]
theorem Go.trans {a b : Nat} {m m' m'' : M} (h : Go a m m') (h' : Go b m' m'') : Go (a + b) m m'' := fun k => by
  rw [Nat.add_assoc, h, h']

variable {t : List Nat} {start pc pos handed : Nat} {om : Bool} {loops : Array Loop} {inner : Option Nat} {frames : List Frame} {weight : Nat} {seen : Seen}

/-- a literal: at 9, 28, 35 -/
theorem lit_ok {w : Nat} (hpc : (pc = 9 ∧ w = 34) ∨ (pc = 28 ∧ w = 92) ∨ (pc = 35 ∧ w = 34)) (h : pos < t.length) (hc : t.getD pos 0 = w) :
    (mq t start pc pos handed om loops inner frames weight none seen none).step = mq t start (pc + 2) (pos + 1) handed om loops inner frames weight none (seen.add 16) none := by
  have h' : ¬ (t.length ≤ pos) := by omega
  rw [List.getD_eq_getElem?_getD] at hc
  rcases hpc with ⟨rfl, rfl⟩ | ⟨rfl, rfl⟩ | ⟨rfl, rfl⟩ <;>
    simp [M.step, M.exec, M.word, qcode, ops, accepts, itemWidth, h', hc]
theorem lit_no {w : Nat} (hpc : (pc = 9 ∧ w = 34) ∨ (pc = 28 ∧ w = 92) ∨ (pc = 35 ∧ w = 34)) (hc : ¬ (pos < t.length ∧ t.getD pos 0 = w)) :
    (mq t start pc pos handed om loops inner frames weight none seen none).step = mq t start pc pos handed om loops inner frames weight (some false) (seen.add 16) none := by
  rw [List.getD_eq_getElem?_getD] at hc
  by_cases h : pos < t.length
  · have h' : ¬ (t.length ≤ pos) := by omega
    have hc' : ((t[pos]?.getD 0) == w) = false := beq_eq_false_iff_ne.mpr fun q => hc ⟨h, q⟩
    rcases hpc with ⟨rfl, rfl⟩ | ⟨rfl, rfl⟩ | ⟨rfl, rfl⟩ <;>
      simp only [M.step, M.exec, M.word, qcode, ops, accepts, itemWidth] <;> simp [h', hc', M.say, qcode]
  · have h' : t.length ≤ pos := by omega
    rcases hpc with ⟨rfl, rfl⟩ | ⟨rfl, rfl⟩ | ⟨rfl, rfl⟩ <;>
      simp [M.step, M.exec, M.word, qcode, ops, accepts, itemWidth, h', M.say]

theorem any_ok (h : pos < t.length) (hc : t.getD pos 0 ≠ 10) :
    (mq t start 30 pos handed om loops inner frames weight none seen none).step = mq t start 31 (pos + 1) handed om loops inner frames weight none (seen.add 2) none := by
  have h' : ¬ (t.length ≤ pos) := by omega
  rw [List.getD_eq_getElem?_getD] at hc
  have hc' : ((t[pos]?.getD 0) != 10) = true := by simpa using hc
  simp only [M.step, M.exec, M.word, qcode, ops, accepts, itemWidth]
  simp [h', hc', qcode]
theorem any_no (hc : ¬ (pos < t.length ∧ t.getD pos 0 ≠ 10)) :
    (mq t start 30 pos handed om loops inner frames weight none seen none).step = mq t start 30 pos handed om loops inner frames weight (some false) (seen.add 2) none := by
  rw [List.getD_eq_getElem?_getD] at hc
  by_cases h : pos < t.length
  · have h' : ¬ (t.length ≤ pos) := by omega
    have hc' : ((t[pos]?.getD 0) != 10) = false := by
      have : t[pos]?.getD 0 = 10 := Decidable.byContradiction fun q => hc ⟨h, q⟩
      simp [this]
    simp only [M.step, M.exec, M.word, qcode, ops, accepts, itemWidth]
    simp [h', hc', M.say, qcode]
  · have h' : t.length ≤ pos := by omega
    simp [M.step, M.exec, M.word, qcode, ops, accepts, itemWidth, h', M.say]
theorem in_ok (h : pos < t.length) (h1 : t.getD pos 0 ≠ 34) (h2 : t.getD pos 0 ≠ 92) :
    ∃ seen', (mq t start 17 pos handed om loops inner frames weight none seen none).step = mq t start 25 (pos + 1) handed om loops inner frames weight none seen' none := by
  have h' : ¬ (t.length ≤ pos) := by omega
  rw [List.getD_eq_getElem?_getD] at h1 h2
  have h1' : ((t[pos]?.getD 0) == 34) = false := beq_eq_false_iff_ne.mpr h1
  have h2' : ((t[pos]?.getD 0) == 92) = false := beq_eq_false_iff_ne.mpr h2
  refine ⟨?w1, ?g1⟩
  case g1 =>
    simp only [M.step, M.exec, M.word, qcode, ops, accepts, itemWidth]
    simp [h', inSet, ops, h1', h2', qcode]
    exact rfl
theorem in_no (hc : ¬ (pos < t.length ∧ t.getD pos 0 ≠ 34 ∧ t.getD pos 0 ≠ 92)) :
    ∃ seen', (mq t start 17 pos handed om loops inner frames weight none seen none).step = mq t start 17 pos handed om loops inner frames weight (some false) seen' none := by
  rw [List.getD_eq_getElem?_getD] at hc
  by_cases h : pos < t.length
  · have h' : ¬ (t.length ≤ pos) := by omega
    by_cases h1 : t[pos]?.getD 0 = 34
    · refine ⟨?w2, ?g2⟩
      case g2 =>
        simp only [M.step, M.exec, M.word, qcode, ops, accepts, itemWidth]
        simp [h', inSet, ops, h1, qcode, M.say]
        exact rfl
    · have h1' : ((t[pos]?.getD 0) == 34) = false := beq_eq_false_iff_ne.mpr h1
      have h2 : t[pos]?.getD 0 = 92 := Decidable.byContradiction fun q => hc ⟨h, h1, q⟩
      refine ⟨?w3, ?g3⟩
      case g3 =>
        simp only [M.step, M.exec, M.word, qcode, ops, accepts, itemWidth]
        simp [h', inSet, ops, h2, qcode, M.say]
        exact rfl
  · have h' : t.length ≤ pos := by omega
    refine ⟨?w4, ?g4⟩
    case g4 =>
      simp only [M.step, M.exec, M.word, qcode, ops, accepts, itemWidth]
      simp [h', M.say, qcode]
      exact rfl
theorem jump_25 : (mq t start 25 pos handed om loops inner frames weight none seen none).step = mq t start 34 pos handed om loops inner frames weight none (seen.add 15) none := by
  simp [M.step, M.exec, M.word, qcode, ops]
theorem jump_31 : (mq t start 31 pos handed om loops inner frames weight none seen none).step = mq t start 34 pos handed om loops inner frames weight none (seen.add 15) none := by
  simp [M.step, M.exec, M.word, qcode, ops]
theorem succ_at (hpc : pc = 34 ∨ pc = 37) : (mq t start pc pos handed om loops inner frames weight none seen none).step = mq t start pc pos pos om loops inner frames weight (some true) (seen.add 1) none := by
  rcases hpc with rfl | rfl <;> simp [M.step, M.exec, M.word, qcode, ops, M.say]

/-- what the machine keeps within the loop -/
abbrev kq : Kept := { lastmark := -1, lastindex := -1, whole := true, marks := #[] }
abbrev branchF (pc pos : Nat) (om : Bool) : Frame := { wait := .nextBranch, pc := pc, pos := pos, outermost := om, kept := kq }
abbrev loopF (pos : Nat) (om : Bool) (count : Int) : Frame := { wait := .possMore, pc := 11, pos := pos, outermost := om, count := count, kept := kq, loop := 0 }
abbrev startF (s : Nat) (first : Bool) : Frame := { wait := .nextStart, pc := 9, pos := s, outermost := first }
abbrev loop0 : Array Loop := #[{ pc := 0, outer := none }]

theorem branch_at (hw : weight ≤ 100) : (mq t start 15 pos handed om loop0 (some 0) frames weight none seen none).step
    = mq t start 17 pos pos om loop0 (some 0) (branchF 16 pos om :: frames) (weight + 1) none (seen.add 7) none := by
  have h' : ¬ (16777216 < weight + 1) := by omega
  simp [M.step, M.exec, M.word, qcode, ops, M.alternative, M.attempt, M.keep, M.frame, h']
theorem rep_at (hw : weight ≤ 100) : (mq t start 11 pos handed om #[] none frames weight none seen none).step
    = mq t start 15 pos pos false loop0 (some 0) (loopF pos om 0 :: frames) (weight + 1) none (seen.add 28) none := by
  have h' : ¬ (16777216 < weight + 1) := by omega
  simp [M.step, M.exec, M.word, qcode, ops, M.possessive, M.attempt, M.keep, M.frame, h']
theorem back_branch_yes {p : Nat} {om' : Bool} : (mq t start pc pos handed om loop0 (some 0) (branchF 16 p om' :: frames) (weight + 1) (some true) seen none).step
    = mq t start 16 p handed om' loop0 (some 0) frames weight (some true) seen none := by
  simp [M.step, M.resume, M.say, M.putBack]
theorem back_branch_yes2 {p : Nat} {om' : Bool} : (mq t start pc pos handed om loop0 (some 0) (branchF 27 p om' :: frames) (weight + 1) (some true) seen none).step
    = mq t start 27 p handed om' loop0 (some 0) frames weight (some true) seen none := by
  simp [M.step, M.resume, M.say, M.putBack]
theorem back_branch_no {p : Nat} {om' : Bool} (hw : weight ≤ 100) : (mq t start pc pos handed om loop0 (some 0) (branchF 16 p om' :: frames) (weight + 1) (some false) seen none).step
    = mq t start 28 p p om' loop0 (some 0) (branchF 27 p om' :: frames) (weight + 1) none seen none := by
  have h' : ¬ (16777216 < weight + 1) := by omega
  simp [M.step, M.resume, M.say, M.putBack, M.alternative, M.attempt, M.frame, qcode, h']
theorem back_branch_no2 {p : Nat} {om' : Bool} : (mq t start pc pos handed om loop0 (some 0) (branchF 27 p om' :: frames) (weight + 1) (some false) seen none).step
    = mq t start 27 p handed om' loop0 (some 0) frames weight (some false) seen none := by
  simp [M.step, M.resume, M.say, M.putBack, M.alternative, qcode]
theorem back_loop_yes {p : Nat} {om' : Bool} {count : Int} (hc : 0 ≤ count) (hw : weight ≤ 100) (hp : p ≠ handed) : (mq t start pc pos handed om loop0 (some 0) (loopF p om' count :: frames) (weight + 1) (some true) seen none).step
    = mq t start 15 handed handed false loop0 (some 0) (loopF handed om' (count + 1) :: frames) (weight + 1) none seen none := by
  have h' : ¬ (16777216 < weight + 1) := by omega
  have h2 : ¬ (count + 1 < 0) := by omega
  simp [M.step, M.resume, M.say, M.possessive, M.word, qcode, M.attempt, M.frame, M.keep, maxRepeat, h', h2, hp]
theorem back_loop_no {p : Nat} {om' : Bool} {count : Int} (hc : 0 ≤ count) : (mq t start pc pos handed om loop0 (some 0) (loopF p om' count :: frames) (weight + 1) (some false) seen none).step
    = mq t start 35 p p om' #[] none frames weight none seen none := by
  have h2 : ¬ (count < 0) := by omega
  simp [M.step, M.resume, M.say, M.possessive, M.word, qcode, M.putBack, M.loopAt, maxRepeat, h2]
theorem back_start_yes {s : Nat} {first : Bool} : (mq t start pc pos handed om loops inner [startF s first] 1 (some true) seen none).step
    = mq t start 9 s handed first loops inner [] 0 (some true) seen none := by
  simp [M.step, M.resume, M.say]
theorem back_start_no {s : Nat} {first : Bool} (h : s < t.length) : (mq t start pc pos handed om loops inner [startF s first] 1 (some false) seen none).step
    = mq t (s + 1) 9 (s + 1) (s + 1) false loops inner [startF (s + 1) false] 1 none seen none := by
  simp [M.step, M.resume, M.say, M.attemptFrom, M.hasFirstSet, qcode, ops, M.attemptAt, M.attempt, h]
theorem back_start_end {s : Nat} {first : Bool} (h : ¬ s < t.length) : (mq t start pc pos handed om loops inner [startF s first] 1 (some false) seen none).step
    = mq t start 9 s handed first loops inner [] 0 (some false) seen none := by
  simp [M.step, M.resume, M.say, h]
theorem done_yes : (mq t start pc pos handed om loops inner [] weight (some true) seen none).step = mq t start pc pos handed om loops inner [] weight (some true) seen (some .matched) := by
  simp [M.step]
theorem done_no : (mq t start pc pos handed om loops inner [] weight (some false) seen none).step = mq t start pc pos handed om loops inner [] weight (some false) seen (some .failed) := by
  simp [M.step]
end Mine

namespace Mine
open PySem.Sre

theorem Go.one {m m' m'' : M} {n : Nat} (h : m.outcome = none) (e : m.step = m') (g : Go n m' m'') : Go (n + 1) m m'' := by
  have := (Go.step h e).trans g
  rw [Nat.add_comm] at this; exact this

theorem loop_go {t : List Nat} {start : Nat} {om : Bool} {fs : List Frame} {w : Nat} (hw : w ≤ 50) (p : Nat) : ∀ (k : Int) (seen : Seen), 0 ≤ k →
    ∃ n q seen', Go n (mq t start 15 p p false loop0 (some 0) (loopF p om k :: fs) (w + 1) none seen none) (mq t start 35 q q om #[] none fs w none seen' none) ∧ n ≤ 20 * (t.length + 1 - p) + 10 ∧
      ((q < t.length ∧ t.getD q 0 = 34) → closeAt t p = some (q + 1)) ∧ (¬ (q < t.length ∧ t.getD q 0 = 34) → closeAt t p = none) := by
  induction p using closeAt.induct t with
  | case1 p h h1 =>
    intro k seen hk
    obtain ⟨s1, e1⟩ := in_no (t := t) (start := start) (pos := p) (handed := p) (om := false) (loops := loop0) (inner := some 0) (frames := branchF 16 p false :: loopF p om k :: fs) (weight := w + 1 + 1) (seen := seen.add 7) (fun q => q.2.1 h1)
    refine ⟨6, p, s1.add 16, ?_, by omega, fun _ => by rw [closeAt, dif_pos h, if_pos h1], fun q => absurd ⟨h, h1⟩ q⟩
    refine Go.one rfl (branch_at (by omega)) ?_
    refine Go.one rfl e1 ?_
    refine Go.one rfl (back_branch_no (by omega)) ?_
    refine Go.one rfl (lit_no (w := 92) (by simp) (fun q => by rw [h1] at q; exact absurd q.2 (by decide))) ?_
    refine Go.one rfl back_branch_no2 ?_
    refine Go.one rfl (back_loop_no hk) ?_
    exact Go.refl _
  | case2 p h h1 h2 h3 ih =>
    intro k seen hk
    obtain ⟨s1, e1⟩ := in_no (t := t) (start := start) (pos := p) (handed := p) (om := false) (loops := loop0) (inner := some 0) (frames := branchF 16 p false :: loopF p om k :: fs) (weight := w + 1 + 1) (seen := seen.add 7) (fun q => q.2.2 h2)
    obtain ⟨n, q, s', g, hn, a, b⟩ := ih (k + 1) ((((s1.add 16).add 2).add 15).add 1) (by omega)
    refine ⟨n + 9, q, s', ?_, by omega, fun x => by rw [closeAt, dif_pos h, if_neg h1, if_pos h2, if_pos h3]; exact a x, fun x => by rw [closeAt, dif_pos h, if_neg h1, if_pos h2, if_pos h3]; exact b x⟩
    refine Go.one rfl (branch_at (by omega)) ?_
    refine Go.one rfl e1 ?_
    refine Go.one rfl (back_branch_no (by omega)) ?_
    refine Go.one rfl (lit_ok (w := 92) (by simp) h h2) ?_
    refine Go.one rfl (any_ok h3.1 h3.2) ?_
    refine Go.one rfl jump_31 ?_
    refine Go.one rfl (succ_at (by simp)) ?_
    refine Go.one rfl back_branch_yes2 ?_
    refine Go.one rfl (back_loop_yes hk (by omega) (by omega)) ?_
    exact g
  | case3 p h h1 h2 h3 =>
    intro k seen hk
    obtain ⟨s1, e1⟩ := in_no (t := t) (start := start) (pos := p) (handed := p) (om := false) (loops := loop0) (inner := some 0) (frames := branchF 16 p false :: loopF p om k :: fs) (weight := w + 1 + 1) (seen := seen.add 7) (fun q => q.2.2 h2)
    refine ⟨7, p, (s1.add 16).add 2, ?_, by omega, fun x => absurd x.2 h1, fun _ => by rw [closeAt, dif_pos h, if_neg h1, if_pos h2, if_neg h3]⟩
    refine Go.one rfl (branch_at (by omega)) ?_
    refine Go.one rfl e1 ?_
    refine Go.one rfl (back_branch_no (by omega)) ?_
    refine Go.one rfl (lit_ok (w := 92) (by simp) h h2) ?_
    refine Go.one rfl (any_no h3) ?_
    refine Go.one rfl back_branch_no2 ?_
    refine Go.one rfl (back_loop_no hk) ?_
    exact Go.refl _
  | case4 p h h1 h2 ih =>
    intro k seen hk
    obtain ⟨s1, e1⟩ := in_ok (t := t) (start := start) (pos := p) (handed := p) (om := false) (loops := loop0) (inner := some 0) (frames := branchF 16 p false :: loopF p om k :: fs) (weight := w + 1 + 1) (seen := seen.add 7) h h1 h2
    obtain ⟨n, q, s', g, hn, a, b⟩ := ih (k + 1) ((s1.add 15).add 1) (by omega)
    refine ⟨n + 6, q, s', ?_, by omega, fun x => by rw [closeAt, dif_pos h, if_neg h1, if_neg h2]; exact a x, fun x => by rw [closeAt, dif_pos h, if_neg h1, if_neg h2]; exact b x⟩
    refine Go.one rfl (branch_at (by omega)) ?_
    refine Go.one rfl e1 ?_
    refine Go.one rfl jump_25 ?_
    refine Go.one rfl (succ_at (by simp)) ?_
    refine Go.one rfl back_branch_yes ?_
    refine Go.one rfl (back_loop_yes hk (by omega) (by omega)) ?_
    exact g
  | case5 p h =>
    intro k seen hk
    obtain ⟨s1, e1⟩ := in_no (t := t) (start := start) (pos := p) (handed := p) (om := false) (loops := loop0) (inner := some 0) (frames := branchF 16 p false :: loopF p om k :: fs) (weight := w + 1 + 1) (seen := seen.add 7) (fun q => h q.1)
    refine ⟨6, p, s1.add 16, ?_, by omega, fun q => absurd q.1 h, fun _ => by rw [closeAt, dif_neg h]⟩
    refine Go.one rfl (branch_at (by omega)) ?_
    refine Go.one rfl e1 ?_
    refine Go.one rfl (back_branch_no (by omega)) ?_
    refine Go.one rfl (lit_no (w := 92) (by simp) (fun q => h q.1)) ?_
    refine Go.one rfl back_branch_no2 ?_
    refine Go.one rfl (back_loop_no hk) ?_
    exact Go.refl _

def Ends (t : List Nat) (p : Nat) (m : M) : Prop := match findQ t p with
  | some (b, e) => (∃ s, m = mq t b 9 b e m.outermost #[] none [] 0 (some true) s (some .matched))
  | none => m.outcome = some .failed

theorem search_go (t : List Nat) (p : Nat) : ∀ (first : Bool) (seen : Seen), p ≤ t.length →
    ∃ n m, Go n (mq t p 9 p p first #[] none [startF p first] 1 none seen none) m ∧ n ≤ (t.length + 1 - p) * (20 * t.length + 100) ∧ Ends t p m := by
  have hb : ∀ q, q ≤ t.length → (t.length + 1 - q) * (20 * t.length + 100) = (t.length - q) * (20 * t.length + 100) + (20 * t.length + 100) := fun q hq => by
    rw [show t.length + 1 - q = t.length - q + 1 by omega, Nat.add_mul, Nat.one_mul]
  induction p using findQ.induct t with
  | case1 p h h0 ih =>
    intro first seen hp
    by_cases h34 : t.getD p 0 = 34
    · obtain ⟨n, q, s', g, hn, a, b⟩ := loop_go (t := t) (start := p) (om := first) (fs := [startF p first]) (w := 1) (by omega) (p + 1) 0 ((seen.add 16).add 28) (by omega)
      have hno : ¬ (q < t.length ∧ t.getD q 0 = 34) := fun x => by
        have := a x
        unfold nextEnd at h0
        rw [if_pos h34, this, Option.getD_some] at h0
        omega
      obtain ⟨n2, m2, g2, hn2, hE⟩ := ih false (s'.add 16) (by omega)
      refine ⟨((n2 + 1 + 1) + n) + 1 + 1, m2, ?_, ?_, ?_⟩
      · refine Go.one rfl (lit_ok (w := 34) (by simp) h h34) ?_
        refine Go.one rfl (rep_at (by omega)) ?_
        rw [Nat.add_comm (n2 + 1 + 1) n]
        refine g.trans ?_
        refine Go.one rfl (lit_no (w := 34) (by simp) hno) ?_
        refine Go.one rfl (back_start_no h) ?_
        exact g2
      · rw [hb p hp]
        rw [show t.length + 1 - (p + 1) = t.length - p by omega] at hn2
        omega
      · unfold Ends; rw [findQ_keep h h0]; exact hE
    · obtain ⟨n2, m2, g2, hn2, hE⟩ := ih false (seen.add 16) (by omega)
      refine ⟨n2 + 1 + 1, m2, ?_, ?_, ?_⟩
      · refine Go.one rfl (lit_no (w := 34) (by simp) (fun q => h34 q.2)) ?_
        refine Go.one rfl (back_start_no h) ?_
        exact g2
      · rw [hb p hp]
        rw [show t.length + 1 - (p + 1) = t.length - p by omega] at hn2
        omega
      · unfold Ends; rw [findQ_keep h h0]; exact hE
  | case2 p h h0 =>
    intro first seen hp
    have h34 : t.getD p 0 = 34 := Decidable.byContradiction fun q => h0 (by unfold nextEnd; rw [if_neg q])
    obtain ⟨n, q, s', g, hn, a, b⟩ := loop_go (t := t) (start := p) (om := first) (fs := [startF p first]) (w := 1) (by omega) (p + 1) 0 ((seen.add 16).add 28) (by omega)
    have hyes : q < t.length ∧ t.getD q 0 = 34 := Decidable.byContradiction fun x => by
      have := b x
      apply h0
      unfold nextEnd
      rw [if_pos h34, this, Option.getD_none]
    have hq := a hyes
    have hne : nextEnd t p = q + 1 := by unfold nextEnd; rw [if_pos h34, hq, Option.getD_some]
    refine ⟨(4 + n) + 1 + 1, mq t p 9 p (q + 1) first #[] none [] 0 (some true) ((s'.add 16).add 1) (some .matched), ?_, ?_, ?_⟩
    · refine Go.one rfl (lit_ok (w := 34) (by simp) h h34) ?_
      refine Go.one rfl (rep_at (by omega)) ?_
      rw [Nat.add_comm 4 n]
      refine g.trans ?_
      refine Go.one rfl (lit_ok (w := 34) (by simp) hyes.1 hyes.2) ?_
      refine Go.one rfl (succ_at (by simp)) ?_
      refine Go.one rfl back_start_yes ?_
      refine Go.one rfl done_yes ?_
      exact Go.refl _
    · rw [hb p hp]
      omega
    · unfold Ends
      rw [findQ_here h h0, hne]
      exact ⟨_, rfl⟩
  | case3 p h =>
    intro first seen hp
    refine ⟨3, mq t p 9 p p first #[] none [] 0 (some false) (seen.add 16) (some .failed), ?_, ?_, ?_⟩
    · refine Go.one rfl (lit_no (w := 34) (by simp) (fun q => h q.1)) ?_
      refine Go.one rfl (back_start_end h) ?_
      refine Go.one rfl done_no ?_
      exact Go.refl _
    · rw [hb p hp]; omega
    · unfold Ends; rw [findQ_end h]

theorem forSearch_eq (t : List Nat) (p : Nat) : forSearch qcode t.toArray 0 p t.length false = if (decide (p > t.length) || decide (t.length - p < 2)) = true then { mq t p 9 p p true #[] none [] 0 (some false) (({} : Seen).add 14) none with lastStart := 0 }
    else mq t p 9 p p true #[] none [startF p true] 1 none (({} : Seen).add 14) none := by
  kernel_rfl

end Mine

namespace Mine
open PySem PySem.Calls PyProof.Rows PySem.W PySem.Builtin PySem.Builtin.Re

theorem runFor_done {m : Sre.M} (h : m.outcome.isSome = true) : ∀ k, Sre.M.runFor k m = m
  | 0 => rfl
  | k + 1 => by rw [Sre.M.runFor, if_pos h]
theorem runFor_add : ∀ (a b : Nat) (m : Sre.M), Sre.M.runFor (a + b) m = Sre.M.runFor b (Sre.M.runFor a m)
  | 0, b, m => by rw [Nat.zero_add]; rfl
  | a + 1, b, m => by
    rw [show a + 1 + b = (a + b) + 1 by omega, Sre.M.runFor, Sre.M.runFor]
    by_cases h : m.outcome.isSome = true
    · rw [if_pos h, if_pos h, runFor_done h]
    · rw [if_neg h, if_neg h, runFor_add a b]

section
variable {M : Model} {A : Around} {E : Value → Shared → Prop} {s : Shared}
theorem drive_ok {Q : Sre.M → Shared → Prop} : ∀ (turns n : Nat) (m : Sre.M), n + 4 ≤ 4 * turns → (Sre.M.runFor n m).outcome.isSome = true → Q (Sre.M.runFor n m) s → wpAny M A (reDrive turns m) Q E s
  | 0, n, m, hn, _, _ => absurd hn (by omega)
  | turns + 1, n, m, hn, ho, hQ => by
    unfold reDrive
    dsimp only [reTurnSteps]
    by_cases h : (Sre.M.runFor 4 m).outcome.isSome = true
    · rw [if_pos h]
      have e1 : Sre.M.runFor (4 + n) m = Sre.M.runFor 4 m := by rw [runFor_add, runFor_done h]
      have e2 : Sre.M.runFor (n + 4) m = Sre.M.runFor n m := by rw [runFor_add, runFor_done ho]
      rw [Nat.add_comm] at e1
      rw [← e1, e2]
      exact wpAny_pure hQ
    · rw [if_neg h]
      refine wpAny_bind (wpAny_rule ?_)
      have h4 : 4 < n := Decidable.byContradiction fun q => h (by
        have : Sre.M.runFor 4 m = Sre.M.runFor n m := by
          rw [show (4 : Nat) = n + (4 - n) by omega, runFor_add, runFor_done ho]
        rw [this]; exact ho)
      have e : Sre.M.runFor n m = Sre.M.runFor (n - 4) (Sre.M.runFor 4 m) := by
        rw [← runFor_add, show 4 + (n - 4) = n by omega]
      refine drive_ok turns (n - 4) _ (by omega) (by rw [← e]; exact ho) (by rw [← e]; exact hQ)
theorem toEnd_ok {Q : Option Sre.M → Shared → Prop} (n : Nat) {m m' : Sre.M} (g : Go n m m') (hn : n ≤ 2 ^ 65) (h : (m'.outcome = some .matched ∧ Q (some m') s) ∨ (m'.outcome = some .failed ∧ Q none s)) : wpAny M A (reRunToEnd m) Q E s := by
  have hr : Sre.M.runFor n m = m' := by have := g 0; rw [Nat.add_zero] at this; exact this
  unfold reRunToEnd
  have ho : m'.outcome.isSome = true := by rcases h with ⟨h, _⟩ | ⟨h, _⟩ <;> rw [h] <;> rfl
  refine wpAny_bind (drive_ok (2 ^ 64) n m (by omega) (by rw [hr]; exact ho) ?_)
  rw [hr]
  refine wpAny_bind (wpAny_forIn_list _ (fun _ _ s' => s' = s) _ (fun i rest b s' hs => ?_) (fun b s' hs => ?_) _ _ rfl)
  · subst hs
    refine wpAny_ite ?_
    split
    · exact wpAny_bind (wpAny_rule (wpAny_pure rfl))
    · exact wpAny_pure rfl
  · subst hs
    rcases h with ⟨h, hq⟩ | ⟨h, hq⟩ <;> rw [h] <;> exact wpAny_pure hq

/-- what a search from p finds -/
theorem search_ok (t : List Nat) (hz : t.length ≤ 1000) (p : Nat) (hp : p ≤ t.length) {Q : Option Sre.M → Shared → Prop}
    (hn : findQ t p = none → Q none s) (hs : ∀ b e m, findQ t p = some (b, e) → m.start = b → m.handed = e → Q (some m) s) :
    wpAny M A (reRunToEnd (Sre.forSearch qcode t.toArray 0 p t.length false)) Q E s := by
  rw [forSearch_eq]
  by_cases h : (decide (p > t.length) || decide (t.length - p < 2)) = true
  · rw [if_pos h]
    refine toEnd_ok 1 (Go.step rfl rfl) (by decide) (.inr ⟨rfl, hn ?_⟩)
    simp only [Bool.or_eq_true, decide_eq_true_eq] at h
    have hc : closeAt t (p + 1) = none := by rw [closeAt, dif_neg (by omega)]
    by_cases hl : p < t.length
    · rw [findQ_keep hl (by unfold nextEnd; rw [hc]; split <;> rfl), findQ_end (by omega)]
    · rw [findQ_end hl]
  · rw [if_neg h]
    obtain ⟨n, m, g, hb, hE⟩ := search_go t p true (({} : Sre.Seen).add 14) hp
    refine toEnd_ok n g ?_ ?_
    · refine Nat.le_trans hb (Nat.le_trans (Nat.mul_le_mul (show t.length + 1 - p ≤ 1001 by omega) (show 20 * t.length + 100 ≤ 20100 by omega)) (by decide))
    · unfold Ends at hE
      cases hf : findQ t p with
      | none => rw [hf] at hE; exact .inr ⟨hE, hn hf⟩
      | some be =>
        obtain ⟨b, e⟩ := be
        rw [hf] at hE
        obtain ⟨sn, hm⟩ := hE
        refine .inl ⟨by rw [hm], hs b e m hf (by rw [hm]) (by rw [hm])⟩

def bys (l : List Nat) : Array UInt8 := (l.map (·.toUInt8)).toArray
theorem bys_size (l : List Nat) : (bys l).size = l.length := by simp [bys]
theorem bys_nat {l : List Nat} (h : ∀ c ∈ l, c < 256) : (bys l).map (·.toNat) = l.toArray := by
  unfold bys
  simp only [List.map_toArray, List.map_map]
  congr 1
  conv => rhs; rw [← List.map_id l]
  refine List.map_congr_left fun c hc => ?_
  show c % 256 = c
  have := h c hc
  omega
theorem bys_append (a b : List Nat) : bys (a ++ b) = bys a ++ bys b := by simp [bys]

/-- the compiled pattern and its code -/
abbrev patO (pb : Value) (f : Tok) (C : Addr) : Obj := { cls := .type "re.Pattern", data := .fields #[pb, .int 0 f, .int 0 0, .none, .none, .ref C, .int 1 0] }
abbrev codeO : Obj := { cls := .type "tuple", data := .seq #[.int 14 0, .int 8 0, .int 1 0, .int 2 0, .int 4294967295 0, .int 1 0, .int 1 0, .int 34 0, .int 0 0, .int 16 0, .int 34 0, .int 28 0, .int 22 0, .int 0 0, .int 4294967295 0, .int 7 0, .int 11 0, .int 13 0, .int 7 0, .int 21 0, .int 16 0, .int 34 0, .int 16 0, .int 92 0, .int 0 0, .int 15 0, .int 8 0, .int 6 0, .int 16 0, .int 92 0, .int 2 0, .int 15 0, .int 2 0, .int 0 0, .int 1 0, .int 16 0, .int 34 0, .int 1 0] }
def icode : Array Int := #[14, 8, 1, 2, 4294967295, 1, 1, 34, 0, 16, 34, 28, 22, 0, 4294967295, 7, 11, 13, 7, 21, 16, 34, 16, 92, 0, 15, 8, 6, 16, 92, 2, 15, 2, 0, 1, 16, 34, 1]

theorem text_ok {b : Array UInt8} {u : Tok} {Q : Array Nat × Nat → Shared → Prop} (h : Q (b.map (·.toNat), 1) s) : wpAny M A (reTextOf (.bytes b u)) Q E s := by
  unfold reTextOf
  refine wpAny_bind (wpAny_of_eq (a := none) rfl ?_)
  refine wpAny_bind (wpAny_of_eq KBy.quiet_eq ?_)
  exact wpAny_pure h
theorem items_ok {C : Addr} {Q : Array Int → Shared → Prop} (hC : s.heap.get? C = some codeO)
    (h : Q icode s) : wpAny M A (reRawItems (.ref C)) Q E s := by
  unfold reRawItems
  refine wpAny_bind (wpAny_seqItems hC rfl ?_)
  refine wpAny_pure ?_
  simpa [reRawOf, icode] using h
theorem quietCol_ok {b : Array UInt8} {u : Tok} {Q : Unit → Shared → Prop} (h : Q () s) : wpAny M A (reNoCollectionInside (.bytes b u) 1) Q E s := by
  unfold reNoCollectionInside
  refine wpAny_ite ?_
  rw [if_pos (by decide)]
  refine wpAny_bind (wpAny_of_eq KBy.isInstance_eq ?_)
  refine wpAny_ite ?_
  rw [if_neg (by decide)]
  exact wpAny_pure h

abbrev targetOf (P : Addr) (t : List Nat) (u : Tok) : ReTarget := { pattern := .ref P, string := .bytes (bys t) u, code := qcode, text := t.toArray, kind := 1, groups := 0, pos := 0, lim := t.length }
theorem whole_ok {P C : Addr} {pb : Value} {f u : Tok} {t : List Nat} {Q : ReTarget → Shared → Prop} (ht : ∀ c ∈ t, c < 256) (hP : s.heap.get? P = some (patO pb f C)) (hC : s.heap.get? C = some codeO)
    (h : Q (targetOf P t u) s) : wpAny M A (reWholeTarget (.ref P) (.bytes (bys t) u)) Q E s := by
  unfold reWholeTarget
  refine wpAny_bind (wpAny_fieldsOf hP rfl ?_)
  refine wpAny_bind (text_ok ?_)
  dsimp only
  refine wpAny_bind (quietCol_ok ?_)
  refine wpAny_bind (items_ok hC ?_)
  refine wpAny_pure ?_
  rw [bys_nat ht]
  have e1 : Array.map (fun x => x.toNat) icode = qcode := by decide +kernel
  rw [e1, List.size_toArray]
  exact h
end
end Mine

namespace Mine
open PySem PySem.Calls PyProof.Rows PySem.W
theorem slot_count : Slot "bytes" "count" "bytes.count" :=
  .of (owner := "bytes") (n := "count") (by rw [typeLookup_type, builtinLookup_eq_fast]; kernel_rfl) (by decide +kernel) (by decide +kernel) (by decide +kernel)
    (by first | exact .inl (by decide +kernel) | exact .inr (by decide +kernel)) (by rw [isSubtype_type]; kernel_rfl)
theorem type_count : typeOf (.builtin "bytes.count") = pure (.type "method_descriptor") := by show builtinType _ = _; rw [builtinType_eq_fast]; kernel_rfl
theorem entry_count : entryFor table "bytes.count" = some Builtin.«bytes.count» := by first | exact entryFor_of_tree (by kernel_rfl) | exact entryFor_of_fast (by kernel_rfl)
theorem args_count (a b : Value) : argsOk "bytes.count" ⟨[a, b], []⟩ := by
  unfold argsOk; rw [signature?_of (id := "bytes.count") (n := "count".toList.reverse) (o := "bytes".toList.reverse) (by kernel_rfl) FB.owner_bytes]; kernel_rfl
theorem slot_join : Slot "bytes" "join" "bytes.join" :=
  .of (owner := "bytes") (n := "join") (by rw [typeLookup_type, builtinLookup_eq_fast]; kernel_rfl) (by decide +kernel) (by decide +kernel) (by decide +kernel)
    (by first | exact .inl (by decide +kernel) | exact .inr (by decide +kernel)) (by rw [isSubtype_type]; kernel_rfl)
theorem entry_join : entryFor table "bytes.join" = some Builtin.«bytes.join» := by first | exact entryFor_of_tree (by kernel_rfl) | exact entryFor_of_fast (by kernel_rfl)
theorem args_join (a b : Value) : argsOk "bytes.join" ⟨[a, b], []⟩ := by
  unfold argsOk; rw [signature?_of (id := "bytes.join") (n := "join".toList.reverse) (o := "bytes".toList.reverse) (by kernel_rfl) FB.owner_bytes]; kernel_rfl
theorem plain_pat : PlainAttrs "re.Pattern" :=
  ⟨⟨"object.__getattribute__", by rw [typeLookup_type, builtinLookup_eq_fast]; kernel_rfl, by decide +kernel⟩, by rw [typeLookup_type, builtinLookup_eq_fast]; kernel_rfl⟩
theorem slot_sub : Slot "re.Pattern" "sub" "re.Pattern.sub" :=
  .of (owner := "re.Pattern") (n := "sub") (by rw [typeLookup_type, builtinLookup_eq_fast]; kernel_rfl) (by decide +kernel) (by decide +kernel) (by decide +kernel)
    (by first | exact .inl (by decide +kernel) | exact .inr (by decide +kernel)) (by rw [isSubtype_type]; kernel_rfl)
theorem type_sub : typeOf (.builtin "re.Pattern.sub") = pure (.type "method_descriptor") := by show builtinType _ = _; rw [builtinType_eq_fast]; kernel_rfl
theorem entry_sub : entryFor table "re.Pattern.sub" = some Builtin.«re.Pattern.sub» := by first | exact entryFor_of_tree (by kernel_rfl) | exact entryFor_of_fast (by kernel_rfl)
theorem args_sub (a b c : Value) : argsOk "re.Pattern.sub" ⟨[a, b, c], []⟩ := by
  unfold argsOk; kernel_rfl
theorem entry_loop : entryFor table "re.Pattern.sub.loop" = some Builtin.«re.Pattern.sub.loop» := by first | exact entryFor_of_tree (by kernel_rfl) | exact entryFor_of_fast (by kernel_rfl)
theorem plain_loop : plainId "re.Pattern.sub.loop" = true := by decide +kernel
end Mine

namespace Mine
open PySem PySem.Calls PyProof.Rows PySem.W PySem.Builtin PySem.Builtin.Bytes

/-- values that are bytes of these lists -/
inductive BysAre : List Value → List (List Nat) → Prop
  | nil : BysAre [] []
  | cons {l : List Nat} {u : Tok} {vs : List Value} {ls : List (List Nat)} : BysAre vs ls → BysAre (.bytes (bys l) u :: vs) (l :: ls)
theorem BysAre.length : ∀ {vs ls}, BysAre vs ls → vs.length = ls.length
  | _, _, .nil => rfl
  | _, _, .cons r => by rw [List.length_cons, List.length_cons, r.length]
theorem BysAre.at : ∀ {vs : List Value} {ls : List (List Nat)}, BysAre vs ls → ∀ (i : Nat) (l : List Nat), ls[i]? = some l → ∃ u, vs[i]? = some (.bytes (bys l) u)
  | _, _, .nil, i, l, h => by simp at h
  | _, _, .cons (u := u) r, 0, l, h => by simp at h; exact ⟨u, by rw [← h]; rfl⟩
  | _, _, .cons r, i + 1, l, h => by simp at h; obtain ⟨u, e⟩ := r.at i l h; exact ⟨u, by simpa using e⟩
theorem BysAre.snoc {l : List Nat} {u : Tok} : ∀ {vs : List Value} {ls : List (List Nat)}, BysAre vs ls → BysAre (vs ++ [.bytes (bys l) u]) (ls ++ [l])
  | _, _, .nil => .cons .nil
  | _, _, .cons r => .cons r.snoc

theorem take_eq {id : String} {b : Array UInt8} {u : Tok} : takeBuffer? id (.bytes b u) 0 = pure (some (b, none)) := by
  unfold takeBuffer?
  rw [KBy.special_eq KBy.look_buffer, KBy.own_buffer]
  have e : buffer? id (.bytes b u) (full := (0 : Int) == fullReadOnly) = pure (some b) := KBy.buffer_eq
  rw [e]
  kernel_rfl
theorem takeq_eq {id : String} {b : Array UInt8} {u : Tok} : takeBufferQuiet? id (.bytes b u) 0 = pure (some (b, none)) := by
  unfold takeBufferQuiet?
  rw [take_eq]
  rfl

section
variable {M : Model} {A : Around} {E : Value → Shared → Prop} {s : Shared}
theorem letGo_ok {Q : Unit → Shared → Prop} (h : Q () s) : ∀ (taken : List (Value × Option Value)) (keep : List Value), (∀ x ∈ taken, x.2 = none) → wpAny M A (joinLetGo taken keep) Q E s
  | [], _, _ => by unfold joinLetGo; exact wpAny_pure h
  | (x, w) :: rest, keep, hn => by
    have e : w = none := hn _ (.head _)
    subst e
    unfold joinLetGo
    dsimp only
    refine wpAny_bind (wpAny_letGo ?_)
    exact letGo_ok h rest keep fun y hy => hn y (.tail _ hy)
end
theorem sum_bys (ls : List (List Nat)) : ∀ k : Nat, (ls.map bys).foldl (fun a p => a + p.size) k = k + ls.flatten.length := by
  induction ls with
  | nil => intro k; simp
  | cons l r ih => intro k; rw [List.map_cons, List.foldl_cons, ih, bys_size, List.flatten_cons, List.length_append]; omega
theorem jm {α : Type} (arr : Array Value) (h : arr.size ≠ 1) (f : Value → α) (g : Array Value → α) : joinM.match_1 (fun _ => α) arr f g = g arr := by
  unfold joinM.match_1
  simp [h]
theorem joined_nil (parts : List (Array UInt8)) : joined #[] parts = parts.foldl (· ++ ·) #[] := by
  unfold joined
  have key : ∀ (ps : List (Array UInt8)) (k : Nat) (a : Array UInt8), (ps.zipIdx k).foldl (fun out (p, i) => (if i > 0 then out ++ #[] else out) ++ p) a = ps.foldl (· ++ ·) a := by
    intro ps
    induction ps with
    | nil => intro k a; rfl
    | cons p r ih =>
      intro k a
      simp only [List.zipIdx_cons, List.foldl_cons]
      rw [ih]
      congr 2
      split <;> simp
  exact key parts 0 #[]
theorem fold_bys (ls : List (List Nat)) : ∀ a : List Nat, (ls.map bys).foldl (· ++ ·) (bys a) = bys (a ++ ls.flatten) := by
  induction ls with
  | nil => intro a; simp
  | cons l r ih => intro a; rw [List.map_cons, List.foldl_cons, ← bys_append, ih, List.flatten_cons, List.append_assoc]
theorem joined_bys (ls : List (List Nat)) : joined #[] (ls.map bys) = bys ls.flatten := by
  rw [joined_nil]
  have := fold_bys ls []
  rw [List.nil_append] at this
  exact this

section
variable {prog : Program} {w : World} {A : Around} {E : Value → Shared → Prop} {s : Shared}
theorem wpAny_of_match1 {M : Model} {x : Value} {f : Value → Sem Fin} {g : Array Value → Sem Fin} {Q : Fin → Shared → Prop} (h : wpAny M A (f x) Q E s) : wpAny M A (joinM.match_1 (fun _ => Sem Fin) [x].toArray f g) Q E s := h
theorem join_ok {L : Addr} {vs : List Value} {ls : List (List Nat)} {u : Tok} {Q : Value → Shared → Prop} (hL : s.heap.IsList L vs.toArray) (hb : BysAre vs ls) (hz : ls.length ≤ 1000) (hz2 : ls.flatten.length ≤ 1000)
    (h : ∀ t k, Q (.bytes (bys ls.flatten) t) { s with toks := k }) : wpAny (model prog w) A (call (.builtin "bytes.join") [.bytes #[] u, .ref L]) Q E s := by
  refine wpAny_call (codeAny_call_builtin slot_join.plain entry_join (slot_join.check _ _ _ _ _ _ _ _ (PySem.W.typeIs_bytes _ _ _) (args_join _ _) ?_))
  obtain ⟨oL, hoL, hcL, nL, hdL⟩ := id hL
  have hlen := hb.length
  unfold Builtin.«bytes.join» joinM
  dsimp only
  refine wpAny_bind (wpAny_of_eq (a := (.bytes #[] u, .ref L)) rfl ?_)
  dsimp only
  refine wpAny_bind ?_
  unfold joinItems
  refine wpAny_bind (wpAny_typeOf hL.typeIs ?_)
  refine bm_if_true (by decide) ?_
  refine wpAny_pure ?_
  refine wpAny_bind (wpAny_seqItems hoL hdL ?_)
  dsimp only
  refine bm_if_true (by decide) ?_
  by_cases hn : vs.length = 1
  · obtain ⟨x, hv⟩ := List.length_eq_one_iff.mp hn
    subst hv
    show wpAny _ _ (typeOf x >>= _) _ _ _
    cases hb with
    | cons r =>
      cases r
      refine wpAny_bind (wpAny_typeOf (PySem.W.typeIs_bytes _ _ _) ?_)
      refine bm_if_true (by decide) ?_
      refine wpAny_bind (wpAny_rule ?_)
      refine wpAny_pure ?_
      rename_i l u'
      show Q (Value.bytes (bys l) u') s
      have h' := h u' s.toks
      rw [List.flatten_cons, List.flatten_nil, List.append_nil] at h'
      exact h'
  · rw [jm _ (by rw [List.size_toArray]; exact hn)]
    rw [Std.Legacy.Range.forIn_eq_forIn_range']
    refine wpAny_bind (wpAny_forIn_list _ (fun rest b s' => s' = s ∧ ∃ i, i ≤ ls.length ∧ rest = List.range' i (ls.length - i) ∧ b.1 = ((ls.take i).map bys).toArray ∧ (∀ x ∈ b.2, x.2 = none ∧ x.1.onHeap = false)) _ ?_ ?_ _ _ ?_)
    · rintro x rest b s' ⟨rfl, i, hi, hr, hp, ht⟩
      have hil : i < ls.length := by
        rcases Nat.lt_or_ge i ls.length with q | q
        · exact q
        · rw [show ls.length - i = 0 by omega] at hr; cases hr
      rw [show ls.length - i = (ls.length - (i + 1)) + 1 by omega, List.range'_succ] at hr
      obtain ⟨rfl, rfl⟩ := List.cons.inj hr
      obtain ⟨u', hu'⟩ := hb.at x ls[x] (List.getElem?_eq_getElem hil)
      have hx : vs.toArray.getD x Value.none = .bytes (bys ls[x]) u' := by
        rw [Array.getD_eq_getD_getElem?, List.getElem?_toArray, hu']; rfl
      refine wpAny_bind (wpAny_seqItems hoL hdL ?_)
      dsimp only
      rw [hx]
      refine bm_if_false ?_ ?_
      · rw [Bool.or_eq_false_iff]
        refine ⟨by decide, ?_⟩
        rw [List.any_eq_false]
        intro y hy
        rw [(ht y hy).2]
        exact Bool.false_ne_true
      refine wpAny_bind (wpAny_holding (wpAny_of_eq takeq_eq ?_))
      dsimp only
      refine wpAny_bind (wpAny_seqItems hoL hdL ?_)
      dsimp only
      refine bm_if_false (by simp) ?_
      refine wpAny_pure ?_
      refine ⟨rfl, x + 1, hil, rfl, ?_, ?_⟩
      · have e : ls.take (x + 1) = ls.take x ++ [ls[x]] := by rw [List.take_add_one, List.getElem?_eq_getElem hil]; rfl
        rw [hp, e, List.map_append, List.push_toArray]
        rfl
      · intro y hy
        rcases List.mem_append.mp hy with q | q
        · exact ht y q
        · rw [List.mem_singleton] at q
          subst q
          exact ⟨rfl, rfl⟩
    · rintro b s' ⟨rfl, i, hi, hr, hp, ht⟩
      have hi' : i = ls.length := by
        rcases Nat.lt_or_ge i ls.length with q | q
        · rw [show ls.length - i = (ls.length - (i + 1)) + 1 by omega, List.range'_succ] at hr; cases hr
        · omega
      subst hi'
      rw [List.take_length] at hp
      refine wpAny_bind (wpAny_of_eq (a := #[]) rfl ?_)
      refine bm_if_false ?_ ?_
      · rw [hp]
        refine KBy.tooLong_not ?_
        have e0 : ((#[] : Array UInt8).size * ((ls.map bys).toArray.size - 1)) = 0 := by rw [Array.size_empty, Nat.zero_mul]
        rw [e0, List.foldl_toArray, sum_bys, Nat.zero_add]
        omega
      · rw [hp]
        dsimp only
        rw [joined_bys]
        refine wpAny_bind ?_
        show wpAny _ _ (mkBytes (bys ls.flatten)) _ _ _
        refine wpAny_mkBytes ?_ (by rw [bys_size, sizeLine_eq]; omega)
        refine wpAny_bind (wpAny_holding (wpAny_point ?_))
        refine wpAny_bind (letGo_ok ?_ _ _ fun y hy => (ht y hy).1)
        exact wpAny_pure (h _ _)
    · refine ⟨rfl, 0, Nat.zero_le _, ?_, by simp, by simp⟩
      simp [hlen]
end
end Mine

namespace Mine
open PySem PySem.Calls PyProof.Rows PySem.W PySem.Builtin PySem.Builtin.Re

section
variable {M : Model} {A : Around} {E : Value → Shared → Prop} {s : Shared}
theorem literal_ok {b : Array UInt8} {u : Tok} {Q : Unit → Shared → Prop} (h : Q () s) : wpAny M A (reLiteralCannotBeTurned (.bytes b u)) Q E s := by
  unfold reLiteralCannotBeTurned
  refine wpAny_bind (wpAny_of_eq (a := none) rfl ?_)
  refine bm_if_true rfl ?_
  refine wpAny_bind (wpAny_of_eq KBy.isInstance_eq ?_)
  refine bm_if_false rfl ?_
  exact wpAny_pure h
theorem slice_ok {t : List Nat} {b e : Nat} {Q : Value → Shared → Prop} (hz : t.length ≤ 1000) (h : Q (.bytes (bys ((t.take e).drop b)) s.toks) { s with toks := s.toks + 1 }) : wpAny M A (reSlice t.toArray 1 b e) Q E s := by
  unfold reSlice
  refine bm_if_false (by decide) ?_
  have e1 : (t.toArray.extract b e).map (·.toUInt8) = bys ((t.take e).drop b) := by
    unfold bys
    rw [List.extract_toArray, List.map_toArray, List.extract_eq_take_drop, List.drop_take]
  rw [e1]
  refine wpAny_mkBytes h ?_
  rw [bys_size, List.length_drop, List.length_take, sizeLine_eq]
  omega
end

section
variable {prog : Program} {w : World} {A : Around} {s : Shared}
theorem loop_ok {P C Lp : Addr} {pb : Value} {f u ru : Tok} {t : List Nat} {R : Result → Shared → Prop} (ht : ∀ c ∈ t, c < 256) (hz : t.length ≤ 500) (hPL : P ≠ Lp) (hCL : C ≠ Lp) :
    ∀ (k done : Nat) (n : Int) (s : Shared) (vs : List Value) (ls : List (List Nat)) (ep : Nat), t.length - done = k → done ≤ t.length → s.heap.get? P = some (patO pb f C) → s.heap.get? C = some codeO →
      s.heap.get? Lp = some { cls := .type "list", data := .seq vs.toArray ep } → BysAre vs ls → ls.flatten ++ bareFrom t done = bareFrom t 0 → ls.length ≤ done →
      (∀ h' tk tok, (∀ b o, b ≠ Lp → s.heap.get? b = some o → h'.get? b = some o) → R (.ok (.ret (.bytes (bys (bareFrom t 0)) tok))) { s with heap := h', toks := tk }) →
      codeAny (model prog w) A (.builtin "re.Pattern.sub.loop" ⟨[.ref P, .bytes (bys t) u, .bytes #[] ru, rawInt 0, rawInt 0, rawInt n, rawInt done, rawInt done, .bool false, .ref Lp, .bool false], []⟩) R s := by
  intro k
  induction k using Nat.strongRecOn with
  | ind k ih =>
  intro done n s vs ls ep hk hd hP hC hL hb hfl hlen hR
  refine codeAny_builtin entry_loop ?_
  rw [Around.under_plainId plain_loop _]
  unfold Builtin.«re.Pattern.sub.loop»
  dsimp only [rawInt]
  refine wpAny_bind (whole_ok ht hP hC ?_)
  dsimp only
  refine bm_if_true rfl ?_
  refine wpAny_bind (literal_ok ?_)
  refine wpAny_bind ?_
  refine bm_if_false rfl ?_
  unfold reNextFound
  dsimp only
  rw [Int.toNat_natCast]
  refine search_ok t (by omega) done hd (fun hf => ?_) (fun b e m hf hb' he' => ?_)
  · -- nothing more
    dsimp only
    have hbare := findQ_none t done hf
    refine (fun (tail : ∀ (h' : Heap) (tk' : Nat) (vs' : List Value) (ls' : List (List Nat)), (∃ ep', h'.get? Lp = some { cls := .type "list", data := .seq vs'.toArray ep' }) → BysAre vs' ls' → ls'.flatten = bareFrom t 0 → ls'.length ≤ done + 1 →
      (∀ b o, b ≠ Lp → s.heap.get? b = some o → h'.get? b = some o) → wpAny (α := PySem.Fin) (model prog w) A.in1 ?tree ?QQ ?EE { s with heap := h', toks := tk' }) => ?g1) ?g2
    case g1 =>
      refine wpAny_ite ?_
      split
      · refine wpAny_bind (slice_ok (by omega) ?_)
        refine wpAny_bind (wpAny_updateSeq hL rfl ?_ (by rw [List.size_toArray, hb.length, sizeLine_eq]; omega) (by rw [Array.size_push, List.size_toArray, hb.length, sizeLine_eq]; omega))
        refine tail _ _ (vs ++ [.bytes (bys ((t.take t.length).drop done)) s.toks]) (ls ++ [(t.take t.length).drop done]) ?_ hb.snoc ?_ ?_ ?_
        · refine ⟨?ep3, (Heap.get?_update_self _ hL rfl).trans ?e3⟩
          case e3 =>
            simp only [Obj.mapSeq, List.push_toArray]
            exact rfl
        · rw [List.flatten_append, List.flatten_cons, List.flatten_nil, List.append_nil, List.take_length, ← hbare, hfl]
        · rw [List.length_append, List.length_cons, List.length_nil]; omega
        · intro b o hb ho
          exact (Heap.get?_update_other _ _ (Ne.symm hb)).trans ho
      · rename_i hds
        refine tail s.heap s.toks vs ls ⟨ep, hL⟩ hb ?_ (by omega) (fun _ _ _ ho => ho)
        rw [← hfl, hbare, List.drop_eq_nil_of_le (by omega), List.append_nil]
    case g2 =>
      rintro h' tk' vs' ls' ⟨ep', hL'⟩ hb' hfl' hlen' hk'
      refine wpAny_bind (slice_ok (by omega) ?_)
      dsimp only
      refine wpAny_bind (wpAny_seqItems hL' rfl ?_)
      refine wpAny_ite ?_
      split
      · rename_i he
        have hv : vs' = [] := by simpa using he
        subst hv
        cases hb'
        refine wpAny_bind (wpAny_pure ?_)
        refine bm_if_false rfl ?_
        refine wpAny_pure ?_
        have e : bareFrom t 0 = (t.take 0).drop 0 := by rw [← hfl']; simp
        rw [← e]
        exact hR _ _ _ hk'
      · refine wpAny_bind ?_
        refine join_ok ⟨_, hL', rfl, _, rfl⟩ hb' (by omega) (by rw [hfl']; have := bareFrom_length t 0; omega) (fun tok tk => ?_)
        refine bm_if_false rfl ?_
        refine wpAny_pure ?_
        rw [hfl']
        exact hR _ _ _ hk'
  · dsimp only
    obtain ⟨h1, h2, h3, h4⟩ := findQ_some t done b e hf
    subst hb' he'
    refine (fun (tail : ∀ (h' : Heap) (tk' : Nat) (vs' : List Value) (ls' : List (List Nat)), (∃ ep', h'.get? Lp = some { cls := .type "list", data := .seq vs'.toArray ep' }) → BysAre vs' ls' → ls'.flatten ++ bareFrom t m.handed = bareFrom t 0 → ls'.length ≤ m.start →
      (∀ b o, b ≠ Lp → s.heap.get? b = some o → h'.get? b = some o) → wpAny (α := PySem.Fin) (model prog w) A.in1 ?tree2 ?QQ2 ?EE2 { s with heap := h', toks := tk' }) => ?g3) ?g4
    case g3 =>
      refine wpAny_ite ?_
      split
      · refine wpAny_bind (slice_ok (by omega) ?_)
        refine wpAny_bind (wpAny_updateSeq hL rfl ?_ (by rw [List.size_toArray, hb.length, sizeLine_eq]; omega) (by rw [Array.size_push, List.size_toArray, hb.length, sizeLine_eq]; omega))
        refine tail _ _ (vs ++ [.bytes (bys ((t.take m.start).drop done)) s.toks]) (ls ++ [(t.take m.start).drop done]) ?_ hb.snoc ?_ ?_ ?_
        · refine ⟨?ep1, (Heap.get?_update_self _ hL rfl).trans ?e1⟩
          case e1 =>
            simp only [Obj.mapSeq, List.push_toArray]
            exact rfl
        · rw [List.flatten_append, List.flatten_cons, List.flatten_nil, List.append_nil, List.append_assoc, ← h4, hfl]
        · rw [List.length_append, List.length_cons, List.length_nil]; omega
        · intro b o hb ho
          exact (Heap.get?_update_other _ _ (Ne.symm hb)).trans ho
      · rename_i hds
        refine tail s.heap s.toks vs ls ⟨ep, hL⟩ hb ?_ (by omega) (fun _ _ _ ho => ho)
        rw [← hfl, h4, List.drop_eq_nil_of_le (by rw [List.length_take]; omega), List.nil_append]
    case g4 =>
      rintro h' tk' vs' ls' ⟨ep', hL'⟩ hb' hfl' hlen' hk'
      refine bm_if_true rfl ?_
      refine wpAny_bind (wpAny_pure ?_)
      refine bm_if_true rfl ?_
      refine wpAny_bind (wpAny_updateSeq hL' rfl ?_ (by rw [List.size_toArray, hb'.length, sizeLine_eq]; omega) (by rw [Array.size_push, List.size_toArray, hb'.length, sizeLine_eq]; omega))
      refine wpAny_pure ⟨plainId_quiet plain_loop _, ?_⟩
      have hne : (m.handed == m.start) = false := beq_eq_false_iff_ne.mpr (by omega)
      rw [hne]
      refine ih (t.length - m.handed) (by omega) m.handed (n + 1) _ (vs' ++ [.bytes (bys []) ru]) (ls' ++ [[]]) ?ep2 rfl h3 ?_ ?_ ((Heap.get?_update_self _ hL' rfl).trans ?e2) hb'.snoc ?_ ?_ ?_
      case e2 =>
        simp only [Obj.mapSeq, List.push_toArray]
        exact rfl
      · exact (Heap.get?_update_other _ _ (Ne.symm hPL)).trans (hk' _ _ hPL hP)
      · exact (Heap.get?_update_other _ _ (Ne.symm hCL)).trans (hk' _ _ hCL hC)
      · rw [List.flatten_append, List.flatten_cons, List.flatten_nil, List.append_nil, List.append_nil]; exact hfl'
      · rw [List.length_append, List.length_cons, List.length_nil]; omega
      · intro h3 tk3 tok3 hk3
        exact hR h3 tk3 tok3 fun b o hb ho => hk3 b o hb ((Heap.get?_update_other _ _ (Ne.symm hb)).trans (hk' b o hb ho))
end
end Mine

namespace Mine
open PySem PySem.Calls PyProof.Rows PySem.W PySem.Builtin PySem.Builtin.Re

theorem no_call : typeLookup (.type "bytes") "__call__" = pure none := by rw [typeLookup_type, builtinLookup_eq_fast]; kernel_rfl
section
variable {prog : Program} {w : World} {A : Around} {E : Value → Shared → Prop} {s : Shared}
theorem sub_ok {P C : Addr} {pb : Value} {f u ru : Tok} {t : List Nat} {Q : Value → Shared → Prop} (ht : ∀ c ∈ t, c < 256) (hz : t.length ≤ 500) (hP : s.heap.get? P = some (patO pb f C)) (hC : s.heap.get? C = some codeO)
    (h : ∀ h' tk tok, (∀ b o, s.heap.get? b = some o → h'.get? b = some o) → Q (.bytes (bys (bareFrom t 0)) tok) { s with heap := h', toks := tk }) :
    wpAny (model prog w) A (call (.builtin "re.Pattern.sub") [.ref P, .bytes #[] ru, .bytes (bys t) u]) Q E s := by
  refine wpAny_call (codeAny_call_builtin slot_sub.plain entry_sub (slot_sub.check _ _ _ _ _ _ _ _ ⟨_, hP, rfl⟩ (args_sub _ _ _) ?_))
  unfold Builtin.«re.Pattern.sub» reSubstitute
  dsimp only
  refine wpAny_bind (wpAny_of_eq (a := [some (.bytes #[] ru), some (.bytes (bys t) u), none]) rfl ?_)
  dsimp only
  refine wpAny_bind (wpAny_pure ?_)
  refine wpAny_bind (wpAny_of_eq (KBy.special_eq no_call) ?_)
  refine bm_if_false rfl ?_
  refine wpAny_bind (wpAny_of_eq (a := none) rfl ?_)
  refine wpAny_bind (wpAny_of_eq KBy.quiet_eq ?_)
  refine wpAny_bind (wpAny_pure ?_)
  refine bm_if_false rfl ?_
  refine bm_if_true (by simp) ?_
  refine wpAny_bind (wpAny_pure ?_)
  dsimp only
  refine wpAny_bind (wpAny_holding (whole_ok ht hP hC ?_))
  refine bm_if_false rfl ?_
  unfold newList
  refine wpAny_bind (wpAny_newObj_type ?_ (Nat.zero_le _))
  have hPs := Heap.lt_size hP
  have hCs := Heap.lt_size hC
  refine wpAny_pure ⟨plainId_quiet plain_loop _, ?_⟩
  refine loop_ok (P := P) (C := C) (Lp := s.heap.objs.size) ht hz (Nat.ne_of_lt hPs) (Nat.ne_of_lt hCs) _ 0 0 _ [] [] 0 rfl (Nat.zero_le _) (Heap.get?_push_of_some _ hP) (Heap.get?_push_of_some _ hC) (Heap.get?_push_size _ rfl) BysAre.nil rfl (Nat.zero_le _) ?_
  intro h' tk tok hk
  exact h h' tk tok fun b o ho => hk b o (Nat.ne_of_lt (Heap.lt_size ho)) (Heap.get?_push_of_some _ ho)
end
end Mine

namespace Mine
open PySem PySem.Calls PyProof.Rows PySem.W PySem.Builtin PySem.Builtin.Bytes

theorem ext_bys {l : List Nat} {i c : Nat} (h : i < l.length) (hl : ∀ x ∈ l, x < 256) (hc : c < 256) : ((bys l).extract i (i + 1) == #[c.toUInt8]) = decide (l.getD i 0 = c) := by
  have hm : l.getD i 0 ∈ l := by rw [List.getD_eq_getElem?_getD, List.getElem?_eq_getElem h]; exact List.getElem_mem h
  have hb := hl _ hm
  have e : (bys l).extract i (i + 1) = #[(l.getD i 0).toUInt8] := by
    unfold bys
    rw [List.extract_toArray, List.extract_eq_take_drop, ← List.map_drop, drop_cons_getD h, Nat.add_sub_cancel_left]
    rfl
  rw [e]
  by_cases hq : l.getD i 0 = c
  · rw [hq]; simp
  · rw [decide_eq_false hq]
    refine beq_eq_false_iff_ne.mpr fun q => hq ?_
    have q1 : (l.getD i 0).toUInt8 = c.toUInt8 := by simpa using q
    have q2 := congrArg UInt8.toNat q1
    have t1 : (l.getD i 0).toUInt8.toNat = l.getD i 0 := by show l.getD i 0 % 256 = _; omega
    have t2 : c.toUInt8.toNat = c := by show c % 256 = _; omega
    rw [t1, t2] at q2
    exact q2

theorem occ_bys {l : List Nat} {c : Nat} (hl : ∀ x ∈ l, x < 256) (hc : c < 256) : ((occurrences (bys l) #[c.toUInt8] 0 l.length).length : Int) = cnt c l := by
  unfold occurrences
  dsimp only
  have key : ∀ n, n ≤ l.length → ∀ r, r = ((List.range n).map (· + 0)).foldl (fun (acc : List Nat × Nat) (i : Nat) => if (decide (i ≥ acc.2) && (bys l).extract i (i + (#[c.toUInt8] : Array UInt8).size) == #[c.toUInt8]) = true then (i :: acc.1, i + (#[c.toUInt8] : Array UInt8).size) else acc) ([], 0) →
      (r.1.length : Int) = cnt c (l.take n) ∧ r.2 ≤ n := by
    intro n
    induction n with
    | zero => intro _ r hr; subst hr; simp [cnt_nil]
    | succ n ih =>
      intro hn r hr
      obtain ⟨h1, h2⟩ := ih (by omega) _ rfl
      rw [List.range_succ, List.map_append, List.foldl_append] at hr
      generalize hg : ((List.range n).map (· + 0)).foldl (fun (acc : List Nat × Nat) (i : Nat) => if (decide (i ≥ acc.2) && (bys l).extract i (i + (#[c.toUInt8] : Array UInt8).size) == #[c.toUInt8]) = true then (i :: acc.1, i + (#[c.toUInt8] : Array UInt8).size) else acc) ([], 0) = q at hr h1 h2
      have e : l.take (n + 1) = l.take n ++ [l.getD n 0] := by
        rw [List.take_add_one, List.getElem?_eq_getElem (by omega), List.getD_eq_getElem?_getD, List.getElem?_eq_getElem (by omega)]; rfl
      rw [e, cnt_append, cnt_cons, cnt_nil]
      simp only [List.map_cons, List.map_nil, List.foldl_cons, List.foldl_nil, Nat.add_zero, List.size_toArray, List.length_cons, List.length_nil, Nat.zero_add] at hr
      rw [ext_bys (by omega) hl hc, decide_eq_true (show n ≥ q.2 from h2), Bool.true_and] at hr
      by_cases hq : l.getD n 0 = c
      · rw [if_pos hq]
        rw [if_pos (decide_eq_true hq)] at hr
        subst hr
        simp only [List.length_cons]
        omega
      · rw [if_neg hq]
        rw [if_neg (by rw [decide_eq_false hq]; exact Bool.false_ne_true)] at hr
        subst hr
        omega
  have := (key l.length (Nat.le_refl _) _ rfl).1
  rw [List.take_length] at this
  rw [List.length_reverse]
  exact this
section
variable {prog : Program} {w : World} {A : Around} {E : Value → Shared → Prop} {s : Shared}
theorem count_ok {l : List Nat} {c : Nat} {u v : Tok} {Q : Value → Shared → Prop} (hl : ∀ x ∈ l, x < 256) (hc : c < 256) (h : ∀ tk tok, Q (.int (cnt c l) tok) { s with toks := tk }) :
    wpAny (model prog w) A (call (.builtin "bytes.count") [.bytes (bys l) u, .bytes #[c.toUInt8] v]) Q E s := by
  refine wpAny_call (codeAny_call_builtin slot_count.plain entry_count (slot_count.check _ _ _ _ _ _ _ _ (PySem.W.typeIs_bytes _ _ _) (args_count _ _) ?_))
  unfold Builtin.«bytes.count» countM searchArgs
  dsimp only
  refine wpAny_bind (wpAny_bind (wpAny_of_eq (a := (.bytes (bys l) u, [.bytes #[c.toUInt8] v])) rfl ?_))
  dsimp only
  refine wpAny_bind (wpAny_of_eq (a := none) rfl ?_)
  refine wpAny_bind (wpAny_of_eq (a := none) rfl ?_)
  refine wpAny_bind (wpAny_of_eq KBy.buffer_eq ?_)
  dsimp only
  refine wpAny_bind (wpAny_pure ?_)
  refine wpAny_bind (wpAny_of_eq (a := bys l) rfl ?_)
  have hw : window (bys l).size none none = (0, (l.length : Int)) := by
    unfold window
    rw [bys_size]
    simp
    omega
  rw [hw]
  refine wpAny_pure ?_
  dsimp only
  by_cases hz : l = []
  · subst hz
    rw [if_pos (by simp)]
    dsimp only
    exact fun _ _ _ => h _ _
  · have hp : 0 < l.length := List.length_pos_iff.mpr hz
    rw [if_neg (by simp only [List.size_toArray, List.length_cons, List.length_nil]; omega)]
    dsimp only
    refine bm_if_false rfl ?_
    rw [Int.toNat_natCast, Int.toNat_zero, ← show ((occurrences (bys l) #[c.toUInt8] 0 l.length).length : Int) = cnt c l from occ_bys hl hc] at *
    exact fun _ _ _ => h _ _
end
end Mine

namespace Mine
open PySem PySem.Calls PyProof.Rows PySem.W

theorem call_fn {prog : Program} {w : World} {A : Around} {s : Shared} {K : Frag} {R : Result → Shared → Prop} {name qual : PySem.Str} {params : Arguments} {body : List Stmt} {scope : Scope} {dV kV doc pm cdv ct oc : Value} {an od : Option Addr} {osl : Array (Option Value)} {f : Addr} {args : Args} {binds : List (PySem.Str × Value)}
    (X : K.In s.heap) (hlim : s.heap.NoLimit)
    (ho : K.lookup f = some ⟨oc, od, .func (fnOf name qual params body scope dV kV doc pm an cdv ct), osl⟩) (hcd : codeIn K cdv qual = true) (hroom : A.depth < recursionLimit)
    (hbind : BindsTo s (fnOf name qual params body scope dV kV doc pm an cdv ct) args binds) (hloc : ∀ y ∈ binds, scope.names.lookup y.1 = some .local)
    (hcell : ∀ x ∈ scope.names, x.2 ≠ .cell) (hco : scope.isCoroutine = false) (hgen : scope.isGenerator = false) (hk : scope.kind = .function)
    (h : ∀ h₁, Fr s.heap s.heap.objs.size h₁ (fun y => binds.reverse.lookup y) → News s.heap s.heap.objs.size h₁ [] →
      wpAny (model prog w) (A.deeper (envOf qual scope s.heap.objs.size f cdv)) (execs body (envOf qual scope s.heap.objs.size f cdv))
        (fun fl s' => R (.ok (.ret (match fl with | .ret v => v | _ => .none))) s') (fun _ _ => False)
        { s with heap := h₁, toks := s.toks + binds.length }) : codeAny (model prog w) A (.call (.ref f) args) R s := by
  refine codeAny_call_def (fd := fnOf name qual params body scope dV kV doc pm an cdv ct) (body := body) (binds := binds) hroom (X _ _ ho) rfl hlim (codeRec_of X hcd) rfl hbind hcell hloc (fun h₁ hns hk₁ => ?_) hco hgen hk
  exact wpAny_mono (h h₁ ⟨hns, hk₁, Nat.le_refl _⟩ News.nil) (fun _ _ x => x) (fun _ _ x => x.elim)

/-- what a call leaves: a value, every old object as it was -/
def Kept (s : Shared) (P : Value → Prop) (v : Value) (s' : Shared) : Prop := P v ∧ ∃ h' tk, s' = { s with heap := h', toks := tk } ∧ ∀ b o, s.heap.get? b = some o → h'.get? b = some o
theorem kept_of {s : Shared} {h' : Heap} {tk : Nat} {P : Value → Prop} {v : Value} {L : Addr} {m : PySem.Str → Option Value} (F : Fr s.heap L h' m) (h : P v) : Kept s P v { s with heap := h', toks := tk } := ⟨h, h', tk, rfl, F.keep⟩

abbrev Lx : List PySem.Str := [PySem.Str.ofString "_quoted", PySem.Str.ofString "_paren_depth"]

theorem sub_K {prog : Program} {w : World} {A : Around} {E : Value → Shared → Prop} {s : Shared} {h₀ : Heap} {L : Addr} {m : PySem.Str → Option Value} {news : List (Addr × Obj)} {P C : Addr} {pb : Value} {f u ru : Tok} {t : List Nat} {K : Frag} {Q : Value → Shared → Prop}
    (F : Fr h₀ L s.heap m) (N : News h₀ L s.heap news) (X : K.In h₀) (hP : K.lookup P = some (patO pb f C)) (hC : K.lookup C = some codeO) (ht : ∀ c ∈ t, c < 256) (hz : t.length ≤ 500)
    (h : ∀ h' tok tk, Fr h₀ L h' m → News h₀ L h' news → Q (.bytes (bys (bareFrom t 0)) tok) { s with heap := h', toks := tk }) :
    wpAny (model prog w) A (call (.builtin "re.Pattern.sub") [.ref P, .bytes #[] ru, .bytes (bys t) u]) Q E s :=
  sub_ok ht hz (F.keep _ _ (X _ _ hP)) (F.keep _ _ (X _ _ hC)) fun h' tk tok hk => h h' tok tk (F.keeps hk) fun q hq => ⟨hk _ _ (N q hq).1, (N q hq).2⟩

theorem getMethod_pat {M : Model} {A : Around} {E : Value → Shared → Prop} {s : Shared} {h₀ : Heap} {L : Addr} {m : PySem.Str → Option Value} {P C : Addr} {pb : Value} {f : Tok} {K : Frag} {pl : Sem Bool} {Q : Value × List Value → Shared → Prop}
    (F : Fr h₀ L s.heap m) (X : K.In h₀) (hP : K.lookup P = some (patO pb f C)) (h : Q (.builtin "re.Pattern.sub", [.ref P]) s) : wpAny M A (getMethod (.ref P) (PySem.Str.ofString "sub") pl) Q E s :=
  getMethod_builtin ⟨_, F.keep _ _ (X _ _ hP), rfl⟩ plain_pat slot_sub type_sub (fun a ha => by cases ha; exact ⟨_, F.keep _ _ (X _ _ hP), rfl⟩) h

theorem getMethod_count {M : Model} {A : Around} {E : Value → Shared → Prop} {s : Shared} {b : Array UInt8} {u : Tok} {pl : Sem Bool} {Q : Value × List Value → Shared → Prop}
    (h : Q (.builtin "bytes.count", [.bytes b u]) s) : wpAny M A (getMethod (.bytes b u) (PySem.Str.ofString "count") pl) Q E s :=
  getMethod_builtin (PySem.W.typeIs_bytes _ _ _) FB.plainAttrs_bytes slot_count type_count (fun a ha => by cases ha) h
theorem bare_small {t : List Nat} (ht : ∀ c ∈ t, c < 256) : ∀ c ∈ bareFrom t 0, c < 256 := fun c hc => ht c (bareFrom_mem t 0 c hc)

local macro_rules | `(tactic| walk_at "getMethod ref") => `(tactic| (k_here; (with_reducible show wpAny _ _ (getMethod (Value.ref 36) _ _) _ _ _); (refine' getMethod_pat ?F ?X ?P ?_; (case F => k_asm); (case X => k_asm); (case P => k_is); k_whole)))
local macro_rules | `(tactic| walk_at "call builtin:re.Pattern.sub") => `(tactic| (k_here; (refine' sub_K ?F ?N ?X ?P ?C ?t ?z ?_; (case F => k_asm); (case N => k_asm); (case X => k_asm); (case P => k_is); (case C => k_is); (case t => assumption); (case z => assumption); k_whole); intro h' tok' tk' F' N'))
local macro_rules | `(tactic| walk_at "getMethod bytes") => `(tactic| (k_here; (with_reducible show wpAny _ _ (getMethod (Value.bytes _ _) _ _) _ _ _); refine getMethod_count ?_))
local macro_rules | `(tactic| walk_at "call builtin:bytes.count") => `(tactic| (k_here; (first | refine count_ok (c := 40) (bare_small (by assumption)) (by decide) ?_ | refine count_ok (c := 41) (bare_small (by assumption)) (by decide) ?_); intro tk' tok'))

set_option maxHeartbeats 8000000 in
theorem paren2 : ∀ {w : World} {A : Around} {mg mb : PySem.Str → Option Value} {lo : List PySem.Str} {s : Shared} {t : List Nat} {u v : Tok} {d : Int}, (hd.heap_39 w.params).In s.heap → TopRead hd.view_39 lo mg mb s.heap →
    A.depth < 900 → (∀ c ∈ t, c < 256) → t.length ≤ 500 →
    wpAny (model PySem.Challenge.rw_xg0005_01.row.prog w) A (call (.ref 44) [.bytes (bys t) u, .int d v]) (Kept s fun r => ∃ tok, r = .int (d + cnt 40 (bareFrom t 0) - cnt 41 (bareFrom t 0)) tok) (fun _ _ => False) s := by
  w_on
  k_fill
  intro w A mg mb lo s t u v d X T hA ht hz
  refine wpAny_call ?_
  refine' call_fn X T.nolimit ?k1 ?k2 ?k3 ?k4 ?k5 ?k6 ?k7 ?k8 ?k9 ?_
  case k1 => k_is
  case k2 => k_is
  case k3 => unfold recursionLimit; omega
  case k4 => exact binds_K X rfl (by k_is) rfl rfl rfl
  case k5 => exact locs rfl
  case k6 => decide
  case k7 => exact rfl
  case k8 => exact rfl
  case k9 => exact rfl
  intro h₁ F N
  (try k_fold)
  k_steps
  all_goals exact kept_of (by assumption) ⟨_, rfl⟩

set_option maxHeartbeats 8000000 in
theorem paren1 : ∀ {w : World} {A : Around} {mg mb : PySem.Str → Option Value} {lo : List PySem.Str} {s : Shared} {t : List Nat} {u : Tok}, (hd.heap_39 w.params).In s.heap → TopRead hd.view_39 lo mg mb s.heap →
    A.depth < 900 → (∀ c ∈ t, c < 256) → t.length ≤ 500 →
    wpAny (model PySem.Challenge.rw_xg0005_01.row.prog w) A (call (.ref 44) [.bytes (bys t) u]) (Kept s fun r => ∃ tok, r = .int (cnt 40 (bareFrom t 0) - cnt 41 (bareFrom t 0)) tok) (fun _ _ => False) s := by
  w_on
  k_fill
  intro w A mg mb lo s t u X T hA ht hz
  refine wpAny_call ?_
  refine' call_fn X T.nolimit ?k1 ?k2 ?k3 ?k4 ?k5 ?k6 ?k7 ?k8 ?k9 ?_
  case k1 => k_is
  case k2 => k_is
  case k3 => unfold recursionLimit; omega
  case k4 => exact binds_K X rfl (by k_is) rfl rfl rfl
  case k5 => exact locs rfl
  case k6 => decide
  case k7 => exact rfl
  case k8 => exact rfl
  case k9 => exact rfl
  intro h₁ F N
  (try k_fold)
  k_steps
  all_goals exact kept_of (by assumption) ⟨_, by rw [Int.zero_add]⟩

end Mine

namespace Mine
open PySem PySem.Calls PyProof.Rows PySem.W

theorem keeps_refl (s : Shared) : Keeps s s := ⟨s.heap, s.toks, rfl, fun _ _ e => e⟩
/-- pairs of signs and their numbers -/
theorem pairs_ints : ∀ (vs ys : List Value) (cs : List Nat), Paired (fun v r => ∀ c u, v = Value.str ⟨#[c]⟩ u → ∃ k, r = Value.int (c : Int) k) vs ys → vs.length = cs.length →
    (∀ (j : Nat) (v : Value), vs[j]? = some v → ∃ c u, cs[j]? = some c ∧ v = Value.str ⟨#[c]⟩ u) → IntsAre ys (cs.map fun c : Nat => (c : Int))
  | _, _, [], .nil, _, _ => .nil
  | _, _, _ :: _, .nil, h, _ => by cases h
  | _, _, [], .cons _ _, h, _ => by cases h
  | v :: vs, y :: ys, c :: cs, .cons h1 h2, hl, hg => by
    obtain ⟨c', u, hc, rfl⟩ := hg 0 v (by simp)
    simp only [List.getElem?_cons_zero, Option.some.injEq] at hc
    subst hc
    obtain ⟨k, rfl⟩ := h1 c u rfl
    exact .cons _ _ (pairs_ints vs ys cs h2 (by simpa using hl) fun j v hv => by simpa using hg (j + 1) v (by simpa using hv))

section
variable {prog : Program} {w : World} {A : Around} {E : Value → Shared → Prop} {s₁ : Shared}
/-- a comprehension over a text's signs, a number for each -/
theorem signs_ints {env : Env} {elt : Expr} {x : PySem.Str} {scope : Scope} {Q : Value → Shared → Prop} {y : PySem.Str} {t : Tok} (hh : A.handled = none) (hz : y.length ≤ sizeLine)
    (g : ∀ C c u s₃ m₃ E', s₃.heap.Ns C m₃ → m₃ x = some (Value.str ⟨#[c]⟩ u) → (∀ b o, s₁.heap.get? b = some o → s₃.heap.get? b = some o) →
      wpAny (model prog w) A (eval elt (compEnv scope C env)) (fun r s₄ => (∃ k, r = Value.int (c : Int) k) ∧ Keeps s₃ s₄) E' s₃)
    (fin : ∀ D (vs : List Value) h' tk, h'.IsList D vs.toArray → IntsAre vs (y.cps.toList.map fun c : Nat => (c : Int)) → (∀ b o, s₁.heap.get? b = some o → h'.get? b = some o) → Q (.ref D) { s₁ with heap := h', toks := tk }) :
    wpAny (model prog w) A (pyIter (.str y t)) (CompPost prog w A env scope x [] elt Q) E s₁ := by
  refine wpAny_pyIter_str fun o St W hst => ?_
  have old : ∀ b o', s₁.heap.get? b = some o' → b ∉ [s₁.heap.objs.size] ∧ (s₁.heap.push o).get? b = some o' := fun b o' e => ⟨old_not_new e, Heap.get?_push_of_some _ e⟩
  refine ⟨fun _ => true, fun v r => ∀ c u, v = Value.str ⟨#[c]⟩ u → ∃ k, r = Value.int (c : Int) k, s₁.heap.objs.size, [s₁.heap.objs.size], [s₁.heap.objs.size], y.cps.size, SignAt y, St, rfl, W A hh, hz, hst, ?_, ⟨?_, ?_⟩, ?_⟩
  · intro b hb
    rw [List.mem_singleton.mp hb]
    show s₁.heap.objs.size < (s₁.heap.push o).objs.size
    rw [Heap.size_push]
    exact Nat.lt_succ_self _
  · intro C i v s₃ m₃ E' _ _ _ _ _
    exact wpAny_pure ⟨rfl, keeps_refl _⟩
  · intro C i v s₃ m₃ E' hP _ hn hm hk _
    obtain ⟨c, u, _, rfl⟩ := hP
    refine wpAny_mono (g C c u s₃ m₃ E' hn hm fun b o' e => hk b o' (old b o' e).1 (old b o' e).2) (fun r s₄ h₄ => ⟨fun c' u' q => ?_, h₄.2⟩) fun _ _ e => e
    obtain ⟨k, hk⟩ := h₄.1
    injection q with q1 q2
    injection q1 with q3
    have : c = c' := by simpa using q3
    subst this
    exact ⟨k, hk⟩
  · intro D h' tk ys vs hD hl _ hlen hP hF hk
    have e : (ys.toList).toArray = ys := Array.toArray_toList ..
    refine fin D ys.toList h' tk (by rw [e]; exact hl) (pairs_ints vs ys.toList y.cps.toList ?_ (by rw [hlen, Array.length_toList]) fun j v hv => ?_) fun b o' q => hk b o' (old b o' q).1 (old b o' q).2
    · have : vs.filter (fun _ => true) = vs := List.filter_eq_self.mpr fun _ _ => rfl
      rw [this] at hF
      exact hF
    · obtain ⟨c, u, hc, hv'⟩ := hP j v hv
      exact ⟨c, u, by rw [Array.getElem?_toList]; exact hc, hv'⟩
end

/-- the name of a built-in, read in a comprehension -/
theorem name_B_comp {M : Model} {A : Around} {E : Value → Shared → Prop} {s : Shared} {K : Frag} {h₀ : Heap} {C : Addr} {scope : Scope} {env : Env} {p : Program} {loose : List PySem.Str} {mg mb : PySem.Str → Option Value}
    {x : PySem.Str} {pos : Pos} {v : Value} {Q : Value → Shared → Prop} (hk : ∀ b o, h₀.get? b = some o → s.heap.get? b = some o) (X : K.In h₀) (T : TopRead p loose mg mb h₀) (e : nsIn K mainGlobals x = some none) (hv : bootBuiltins x = some v) (hn : x ≠ "__name__")
    (hg : env.globals = mainGlobals) (hb : env.builtins = builtinsNs) (hf : scope.kind = .function) (hx : (compEnv scope C env).kindOf x = some .globalImplicit) (h : Q v s) (hd : (x == ("__debug__" : PySem.Str)) = false := by decide) :
    wpAny M A (eval (.Name x pos) (compEnv scope C env)) Q E s := by
  refine Calls.Name_function_global hf hx (Calls.loadGlobal_builtin (mg := mg) (mb := mb) ?_ (mg_none_of X T.g e) ?_ ((T.builtins x hn).trans hv) h) hd
  · show s.heap.Ns env.globals mg
    rw [hg]; exact T.g.keeps hk
  · show s.heap.Ns env.builtins mb
    rw [hb]; exact T.b.keeps hk
end Mine

namespace Mine
open PySem PySem.Calls PyProof.Rows PySem.W

theorem byteArr_bys (l : List Nat) : byteArr (l.map fun c : Nat => (c : Int)) = bys l := by
  unfold byteArr bys
  rw [List.map_map]
  congr 1

set_option maxHeartbeats 8000000 in
theorem octets : ∀ {w : World} {A : Around} {mg mb : PySem.Str → Option Value} {lo : List PySem.Str} {s : Shared} {x : PySem.Str} {u : Tok}, (hd.heap_39 w.params).In s.heap → TopRead hd.view_39 lo mg mb s.heap →
    A.depth < 900 → A.handled = none → (∀ c ∈ x.cps.toList, c < 256) → x.cps.toList.length ≤ 500 →
    wpAny (model PySem.Challenge.rw_xg0005_01.row.prog w) A (call (.ref 56) [.str x u]) (Kept s fun r => ∃ tok, r = .bytes (bys x.cps.toList) tok) (fun _ _ => False) s := by
  w_on
  k_fill
  intro w A mg mb lo s x u X T hA hH ht hz
  refine wpAny_call ?_
  refine' call_fn X T.nolimit ?k1 ?k2 ?k3 ?k4 ?k5 ?k6 ?k7 ?k8 ?k9 ?_
  case k1 => k_is
  case k2 => k_is
  case k3 => unfold recursionLimit; omega
  case k4 => exact BindsTo.of_eq rfl
  case k5 => exact locs rfl
  case k6 => decide
  case k7 => exact rfl
  case k8 => exact rfl
  case k9 => exact rfl
  intro h₁ F N
  (try k_fold)
  k_steps
  (rename Fr _ _ _ _ => F')
  (rename News _ _ _ _ => N')
  refine signs_ints hH ?hz ?g ?fin
  case hz => rw [sizeLine_eq]; show x.cps.size ≤ _; rw [Array.length_toList] at hz; omega
  case g =>
    intro C c u' s₃ m₃ E' hn hm hk
    k_steps
    refine name_B_comp (K := hd.heap_39 w.params) (h₀ := s.heap) (v := .builtin "ord") (fun b o e => hk b o (F'.keep b o e)) X T (by k_is) (by boot_by_name) (by decide) rfl rfl rfl rfl ?_
    k_steps
    exact ⟨s₃.heap, s₃.toks + 1, rfl, fun _ _ e => e⟩
  case fin =>
    intro D vs h' tk hl hi hk
    k_steps
    refine call_bytes_ints hl hi ?_ ?_ hH ?_
    · intro n hn
      obtain ⟨c, hc, rfl⟩ := List.mem_map.mp hn
      have := ht c hc
      omega
    · rw [hi.length, List.length_map, sizeLine_eq]; omega
    · intro h2 t2 k2 hk2
      rw [byteArr_bys]
      exact ⟨⟨_, rfl⟩, h2, k2, rfl, fun b o e => hk2 b o (hk b o (F'.keep b o e))⟩
end Mine

namespace Mine
open PySem PySem.Calls PyProof.Rows PySem.W

section
variable {prog : Program} {w : World} {A : Around} {E : Value → Shared → Prop} {s : Shared} {t : List Nat} {k u : Tok} {Q : Value → Shared → Prop}
theorem len_txt (hz : t.length ≤ 1000) (h : ∀ t' k', Q (.int (t.length : Int) t') { s with toks := k' }) : wpAny (model prog w) A (call (.builtin "len") [.str ⟨t.toArray⟩ k]) Q E s := by
  refine P.len_str ?_ ?_
  · show ¬ ((t.toArray.size : Nat) : Int) ≥ _
    rw [List.size_toArray]; omega
  · have := h (s.toks + 1) (s.toks + 1 + 1)
    exact this
theorem item_txt {i : Int} {value slice : Expr} (h0 : 0 ≤ i) (h1 : i < (t.length : Int)) (hz : t.length ≤ 1000) (h : ∀ t' k', Q (.str ⟨#[t.getD i.toNat 0]⟩ t') { s with toks := k' })
    (hs : subscripted slice false (.str ⟨t.toArray⟩ k) (.int i u) = operate [.str ⟨t.toArray⟩ k, .int i u] (getItem (.str ⟨t.toArray⟩ k) (.int i u)) := by with_unfolding_all rfl)
    (ht : ∀ r, letTemporaryGo value (.str ⟨t.toArray⟩ k) r = pure () := by intro _; with_unfolding_all rfl) :
    wpAny (model prog w) A (subscriptTail value slice (.str ⟨t.toArray⟩ k) (.int i u)) Q E s := by
  have hn : i.toNat < t.length := by omega
  refine tail_of_ItemOn ⟨"str", _, F.slot_str_getitem.lookup, typeIs_str _ _ _, P.getItem_str (c := t.getD i.toNat 0) ?_ ?_ (h _ _)⟩ hs ht
  · rw [Bool.or_eq_false_iff, decide_eq_false_iff_not, decide_eq_false_iff_not]; omega
  · have e : seqIndex? i (PySem.Str.length ⟨t.toArray⟩) = some i.toNat := by
      show seqIndex? i t.toArray.size = _
      rw [List.size_toArray]
      unfold seqIndex?
      simp [show ¬ i < 0 by omega, h0, h1]
    rw [e, Option.bind_some]
    show t.toArray[i.toNat]? = _
    rw [List.getElem?_toArray, List.getElem?_eq_getElem hn, List.getD_eq_getElem?_getD, List.getElem?_eq_getElem hn]
    rfl
theorem eq_txt {c d : Nat} {y : PySem.Str} (hy : y = ⟨#[d]⟩) (h : Q (.bool (decide (c = d))) s) : wpAny (model prog w) A (compareOp .Eq (.str ⟨#[c]⟩ k) (.str y u)) Q E s := by
  subst hy
  refine P.eq_str ?_
  have e : ((⟨#[c]⟩ : PySem.Str).cps.toList == (⟨#[d]⟩ : PySem.Str).cps.toList) = decide (c = d) := by
    show ([c] == [d]) = _
    by_cases q : c = d <;> simp [q]
  rw [e]
  exact h
theorem add_txt {a b : List Nat} {y : PySem.Str} (hy : y = ⟨b.toArray⟩) (hz : a.length + b.length ≤ 2000) (h : ∀ t' k', Q (.str ⟨(a ++ b).toArray⟩ t') { s with toks := k' }) : wpAny (model prog w) A (binaryOp .Add (.str ⟨a.toArray⟩ k) (.str y u)) Q E s := by
  subst hy
  refine SBL.add (fun t' k' _ => ?_) ?_
  · have e : ((⟨a.toArray⟩ : PySem.Str) ++ ⟨b.toArray⟩) = ⟨(a ++ b).toArray⟩ := by
      show PySem.Str.mk (a.toArray ++ b.toArray) = _
      rw [List.append_toArray]
    rw [e]
    exact h t' k'
  · show a.toArray.size + b.toArray.size ≤ _
    rw [List.size_toArray, List.size_toArray, sizeLine_eq]
    omega
end

/-- a turn of a while that goes on: its end -/
def Turn {σ : Type} (h₀ : Heap) (L : Addr) (s : Shared) (ps : σ → List (PySem.Str × Value)) (stored : List PySem.Str) (m₀ : PySem.Str → Option Value) (P : σ → Prop) (μ : σ → Nat) (c : σ) (f : Flow) (s₂ : Shared) : Prop :=
  f = .next ∧ KswEnd h₀ L s (fun _ => []) ps (fun _ => True) stored m₀ P μ c s₂
theorem my_while {prog : Program} {w : World} {A : Around} {E : Value → Shared → Prop} {Q : Flow → Shared → Prop} {s : Shared} {env : Env} {h₀ : Heap} {L : Addr} {σ : Type} {test : Expr} {body : List Stmt} {pos : Pos} {m₀ : PySem.Str → Option Value}
    (ps : σ → List (PySem.Str × Value)) (stored : List PySem.Str) (P : σ → Prop) (μ : σ → Nat) (c₀ : σ) (F : Fr h₀ L s.heap m₀) (N : News h₀ L s.heap []) (hk : ∀ p ∈ ps c₀, m₀ p.1 = some p.2) (hp : P c₀)
    (turn : ∀ (c : σ) (u : PySem.Str → Option Value) h tk, P c → Fr h₀ L h (kstB (fun z => if stored.contains z then u z else m₀ z) (ps c)) → News h₀ L h [] →
      wpAny (model prog w) A (isTrue test env (eval test env)) (fun b s₂ =>
        if b = true then wpAny (model prog w) A (execs body env) (Turn h₀ L s ps stored m₀ P μ c) E s₂ else Q .next s₂) E { s with heap := h, toks := tk })
    (hE : PassesOwn (model prog w) A env E) :
    wpAny (model prog w) A (exec (.While test body [] pos) env) Q E s := by
  refine ksw_while (fun _ => []) ps (fun _ => True) stored P μ c₀ F N trivial hk hp (fun c u h tk _ hP F' N' => ?_) hE
  refine wpAny_mono (turn c u h tk hP F' N') (fun b s₂ q => ?_) fun _ _ x => x
  split at q
  · rename_i hb
    rw [if_pos hb]
    refine wpAny_mono q (fun f s₃ r => ?_) fun _ _ x => x
    obtain ⟨rfl, r⟩ := r
    exact r
  · rename_i hb
    rw [if_neg hb]
    exact q
end Mine

namespace Mine
open PySem PySem.Calls PyProof.Rows PySem.W

/-- the outer loop's letters: what is found, its token, the place, its token -/
abbrev Outer := List Nat × Tok × Nat × Tok
/-- the inner loop's letters: the end, its token, the place, its token -/
abbrev Inner := Nat × Tok × Nat × Tok
def OuterP (t : List Nat) (c : Outer) : Prop := c.2.2.1 ≤ t.length ∧ c.1 ++ bareFrom t c.2.2.1 = bareFrom t 0
def InnerP (t : List Nat) (p : Nat) (c : Inner) : Prop := c.2.2.1 ≤ t.length ∧ p < c.2.2.1 ∧ ((c.1 = 0 ∧ (t.getD p 0 = 34 → closeAt t (p + 1) = closeAt t c.2.2.1)) ∨ (c.1 ≠ 0 ∧ t.getD p 0 = 34 ∧ closeAt t (p + 1) = some c.1))

theorem turn_end {σ : Type} {h₀ : Heap} {L : Addr} {s : Shared} {ps : σ → List (PySem.Str × Value)} {stored : List PySem.Str} {m₀ m' : PySem.Str → Option Value} {P : σ → Prop} {μ : σ → Nat} {c : σ} {h' : Heap} {tk : Nat} (c' : σ) {x1 x2 : PySem.Str} {v1 v2 : Value}
    (F : Fr h₀ L h' m') (N : News h₀ L h' []) (e : ps c' = [(x1, v1), (x2, v2)]) (h1 : m' x1 = some v1) (h2 : m' x2 = some v2) (hr : ∀ z, z ≠ x1 → z ≠ x2 → stored.contains z = false → m' z = m₀ z) (hp : P c') (hm : μ c' < μ c) :
    Turn h₀ L s ps stored m₀ P μ c .next { s with heap := h', toks := tk } := by
  refine ⟨rfl, ksw_end c' F N (fun p hp => nomatch hp) trivial ?_ ?_ hp hm⟩
  · rw [e]
    intro p hp
    rcases List.mem_cons.mp hp with rfl | hp
    · exact h1
    · rcases List.mem_cons.mp hp with rfl | hp
      · exact h2
      · cases hp
  · rw [e]
    intro z hz hs
    exact hr z (hz _ (.head _)) (hz _ (.tail _ (.head _))) hs

section
variable {t fl : List Nat} {p a e : Nat} {k k' : Tok}
theorem in1 (hI : (e = 0 ∧ (t.getD p 0 = 34 → closeAt t (p + 1) = closeAt t a)) ∨ (e ≠ 0 ∧ t.getD p 0 = 34 ∧ closeAt t (p + 1) = some e)) (h34 : t.getD p 0 = 34) (he : e = 0) (hpa : p < a) (hl : a < t.length) (hq : t.getD a 0 = 34) : InnerP t p ⟨a + 1, k, a, k'⟩ := by
  refine ⟨Nat.le_of_lt hl, hpa, .inr ⟨Nat.succ_ne_zero _, h34, ?_⟩⟩
  rcases hI with ⟨_, h⟩ | ⟨h, _⟩
  · rw [h h34, closeAt, dif_pos hl, if_pos hq]
  · exact absurd he h
theorem in2 (hI : (e = 0 ∧ (t.getD p 0 = 34 → closeAt t (p + 1) = closeAt t a)) ∨ (e ≠ 0 ∧ t.getD p 0 = 34 ∧ closeAt t (p + 1) = some e)) (he : e = 0) (hpa : p < a) (hl : a < t.length) (hn : ¬ t.getD a 0 = 34) (hq : t.getD a 0 = 92) (hx : ¬ (a + 1 < t.length ∧ t.getD (a + 1) 0 ≠ 10)) :
    InnerP t p ⟨0, k, t.length, k'⟩ := by
  refine ⟨Nat.le_refl _, Nat.lt_trans hpa hl, .inl ⟨rfl, fun h34 => ?_⟩⟩
  rcases hI with ⟨_, h⟩ | ⟨h, _⟩
  · rw [h h34, closeAt, dif_pos hl, if_neg hn, if_pos hq, if_neg hx, closeAt, dif_neg (Nat.lt_irrefl _)]
  · exact absurd he h
theorem in3 (hI : (e = 0 ∧ (t.getD p 0 = 34 → closeAt t (p + 1) = closeAt t a)) ∨ (e ≠ 0 ∧ t.getD p 0 = 34 ∧ closeAt t (p + 1) = some e)) (he : e = 0) (hpa : p < a) (hl : a < t.length) (hn : ¬ t.getD a 0 = 34) (hq : t.getD a 0 = 92) (hx : a + 1 < t.length ∧ t.getD (a + 1) 0 ≠ 10) :
    InnerP t p ⟨0, k, a + 2, k'⟩ := by
  refine ⟨hx.1, by show p < a + 2; omega, .inl ⟨rfl, fun h34 => ?_⟩⟩
  rcases hI with ⟨_, h⟩ | ⟨h, _⟩
  · rw [h h34]
    conv => lhs; rw [closeAt]
    rw [dif_pos hl, if_neg hn, if_pos hq, if_pos hx]
  · exact absurd he h
theorem in4 (hI : (e = 0 ∧ (t.getD p 0 = 34 → closeAt t (p + 1) = closeAt t a)) ∨ (e ≠ 0 ∧ t.getD p 0 = 34 ∧ closeAt t (p + 1) = some e)) (he : e = 0) (hpa : p < a) (hl : a < t.length) (hn : ¬ t.getD a 0 = 34) (hq : ¬ t.getD a 0 = 92) :
    InnerP t p ⟨0, k, a + 1, k'⟩ := by
  refine ⟨hl, by show p < a + 1; omega, .inl ⟨rfl, fun h34 => ?_⟩⟩
  rcases hI with ⟨_, h⟩ | ⟨h, _⟩
  · rw [h h34]
    conv => lhs; rw [closeAt]
    rw [dif_pos hl, if_neg hn, if_neg hq]
  · exact absurd he h
theorem out0 (hI : (e = 0 ∧ (t.getD p 0 = 34 → closeAt t (p + 1) = closeAt t a)) ∨ (e ≠ 0 ∧ t.getD p 0 = 34 ∧ closeAt t (p + 1) = some e)) (he : e = 0) (hx : ¬ t.getD p 0 = 34 ∨ ¬ a < t.length) (hl : p < t.length) (hp2 : fl ++ bareFrom t p = bareFrom t 0) : OuterP t ⟨fl ++ [t.getD p 0], k, p + 1, k'⟩ := by
  refine ⟨hl, ?_⟩
  have hn : nextEnd t p = 0 := by
    unfold nextEnd
    split
    · rename_i h34
      rcases hI with ⟨_, h⟩ | ⟨h, _⟩
      · rcases hx with hx | hx
        · exact absurd h34 hx
        · rw [h h34, closeAt, dif_neg hx]; rfl
      · exact absurd he h
    · rfl
  rw [← hp2, bareFrom_keep hl hn, List.append_assoc]
  rfl
theorem out1 (hI : (e = 0 ∧ (t.getD p 0 = 34 → closeAt t (p + 1) = closeAt t a)) ∨ (e ≠ 0 ∧ t.getD p 0 = 34 ∧ closeAt t (p + 1) = some e)) (he : e ≠ 0) (hl : p < t.length) (hp2 : fl ++ bareFrom t p = bareFrom t 0) : OuterP t ⟨fl ++ [], k, e, k'⟩ ∧ p < e := by
  rcases hI with ⟨h, _⟩ | ⟨_, h34, h⟩
  · exact absurd h he
  · have hn : nextEnd t p = e := by unfold nextEnd; rw [if_pos h34, h]; rfl
    have hne : nextEnd t p ≠ 0 := by rw [hn]; exact he
    have hb := closeAt_bounds t (p + 1) e h
    refine ⟨⟨hb.2, ?_⟩, by omega⟩
    show (fl ++ []) ++ bareFrom t e = _
    rw [List.append_nil, ← hp2, bareFrom_skip hl hne, hn]
end

local macro_rules | `(tactic| walk_at "call builtin:len") => `(tactic| ((with_reducible show wpAny _ _ (call (Value.builtin "len") [Value.str ⟨List.toArray _⟩ _]) _ _ _); refine len_txt (by omega) ?_; intro _ _))
local macro_rules | `(tactic| walk_at "subscriptTail") => `(tactic| ((with_reducible show wpAny _ _ (subscriptTail _ _ (Value.str ⟨List.toArray _⟩ _) (Value.int _ _)) _ _ _); refine item_txt (by omega) (by omega) (by omega) ?_; intro _ _))
local macro_rules | `(tactic| walk_at "compareOp Eq str str") => `(tactic| ((with_reducible show wpAny _ _ (compareOp CmpOp.Eq (Value.str _ _) (Value.str _ _)) _ _ _); first | refine eq_txt (d := 34) (by decide +kernel) ?_ | refine eq_txt (d := 92) (by decide +kernel) ?_ | refine eq_txt (d := 10) (by decide +kernel) ?_))
local macro_rules | `(tactic| walk_at "binaryOp Add str str") => `(tactic| ((with_reducible show wpAny _ _ (binaryOp Operator.Add (Value.str _ _) (Value.str _ _)) _ _ _); first | (refine add_txt (b := [_]) rfl (by simp only [List.length_cons, List.length_nil]; omega) ?_; intro _ _) | (refine add_txt (b := []) (by decide +kernel) (by simp only [List.length_nil]; omega) ?_; intro _ _)))

set_option maxHeartbeats 8000000 in
theorem bare : ∀ {w : World} {A : Around} {mg mb : PySem.Str → Option Value} {lo : List PySem.Str} {s : Shared} {t : List Nat} {u : Tok}, (hd.heap_39 w.params).In s.heap → TopRead hd.view_39 lo mg mb s.heap →
    A.depth < 900 → t.length ≤ 500 →
    wpAny (model PySem.Challenge.rw_xg0005_01.row.prog w) A (call (.ref 51) [.str ⟨t.toArray⟩ u]) (Kept s fun r => ∃ tok, r = .str ⟨(bareFrom t 0).toArray⟩ tok) (fun _ _ => False) s := by
  w_on
  k_fill
  intro w A mg mb lo s t u X T hA hz
  refine wpAny_call ?_
  refine' call_fn X T.nolimit ?k1 ?k2 ?k3 ?k4 ?k5 ?k6 ?k7 ?k8 ?k9 ?_
  case k1 => k_is
  case k2 => k_is
  case k3 => unfold recursionLimit; omega
  case k4 => exact BindsTo.of_eq rfl
  case k5 => exact locs rfl
  case k6 => decide
  case k7 => exact rfl
  case k8 => exact rfl
  case k9 => exact rfl
  intro h₁ F N
  (try k_fold)
  repeat' (first | (k_unfold; (try dsimp only)) | ((fail_if_success (with_reducible show wpAny _ _ (exec (Stmt.While _ _ _ _) _) _ _ _)); walk1) | (dsimp only; (fail_if_success (with_reducible show wpAny _ _ (exec (Stmt.While _ _ _ _) _) _ _ _)); walk1) | fail "no step")
  (rename Fr _ _ _ _ => lF')
  (rename News _ _ _ _ => lN')
  refine' my_while (fun c : Outer => [(PySem.Str.ofString "found", Value.str ⟨c.1.toArray⟩ c.2.1), (PySem.Str.ofString "place", Value.int (c.2.2.1 : Int) c.2.2.2)]) [PySem.Str.ofString "end", PySem.Str.ofString "at"]
    (OuterP t) (fun c => t.length - c.2.2.1) ⟨[], _, 0, _⟩ lF' lN' ?hk ?hp ?turn (by passes_own)
  case hk =>
    intro q hq
    rcases List.mem_cons.mp hq with rfl | hq
    · exact rfl
    · rcases List.mem_cons.mp hq with rfl | hq
      · exact rfl
      · cases hq
  case hp => exact ⟨Nat.zero_le _, rfl⟩
  case turn =>
    clear lF' lN'
    rintro ⟨fl, kf, p, kp⟩ uu h2 tk2 ⟨hp1, hp2⟩ F2 N2
    dsimp only at hp1 hp2 F2 N2 ⊢
    have hfl : fl.length ≤ 500 := by
      have := bareFrom_length t 0
      rw [← hp2, List.length_append] at this
      omega
    (try k_fold)
    repeat' (first | (k_unfold; (try dsimp only)) | ((fail_if_success (with_reducible show wpAny _ _ (exec (Stmt.While _ _ _ _) _) _ _ _)); walk1) | (dsimp only; (fail_if_success (with_reducible show wpAny _ _ (exec (Stmt.While _ _ _ _) _) _ _ _)); walk1) | fail "no step")
    · (rename Fr _ _ _ _ => lF')
      (rename News _ _ _ _ => lN')
      have hpl : p < t.length := by omega
      refine' my_while (fun c : Inner => [(PySem.Str.ofString "end", Value.int (c.1 : Int) c.2.1), (PySem.Str.ofString "at", Value.int (c.2.2.1 : Int) c.2.2.2)]) [] (InnerP t p) (fun c => if c.1 = 0 then t.length + 1 - c.2.2.1 else 0) ⟨0, _, p + 1, _⟩ lF' lN' ?hk2 ?hp2 ?turn2 (by passes_own)
      case hk2 =>
        intro q hq
        rcases List.mem_cons.mp hq with rfl | hq
        · exact rfl
        · rcases List.mem_cons.mp hq with rfl | hq
          · exact rfl
          · cases hq
      case hp2 => exact ⟨hpl, Nat.lt_succ_self _, .inl ⟨rfl, fun _ => rfl⟩⟩
      case turn2 =>
        clear lF' lN'
        rintro ⟨e, ke, a, ka⟩ uu3 h3 tk3 ⟨ha1, ha2, ha3⟩ F3 N3
        dsimp only at ha1 ha2 ha3 F3 N3 ⊢
        (try k_fold)
        k_steps
        all_goals first
          | (exfalso; omega)
          | exact turn_end ⟨a + 1, _, a, _⟩ (by assumption) (by assumption) rfl rfl rfl (by intro z z1 z2 z3; simp [kstB, z1, z2]) (in1 ha3 (by assumption) (by omega) ha2 (by omega) (by assumption)) (by dsimp only; rw [if_neg (Nat.succ_ne_zero _), if_pos (by omega)]; omega)
          | exact turn_end ⟨0, _, t.length, _⟩ (by assumption) (by assumption) rfl (by first | exact rfl | (rw [← show e = 0 by omega]; exact rfl)) rfl (by intro z z1 z2 z3; simp [kstB, z1, z2]) (in2 ha3 (by omega) ha2 (by omega) (by assumption) (by assumption) (fun q => absurd q.1 (by omega))) (by dsimp only; rw [if_pos rfl, if_pos (by omega)]; omega)
          | exact turn_end ⟨0, _, t.length, _⟩ (by assumption) (by assumption) rfl (by first | exact rfl | (rw [← show e = 0 by omega]; exact rfl)) rfl (by intro z z1 z2 z3; simp [kstB, z1, z2]) (in2 ha3 (by omega) ha2 (by omega) (by assumption) (by assumption) (fun q => q.2 (by assumption))) (by dsimp only; rw [if_pos rfl, if_pos (by omega)]; omega)
          | exact turn_end ⟨0, _, a + 2, _⟩ (by assumption) (by assumption) rfl (by first | exact rfl | (rw [← show e = 0 by omega]; exact rfl)) rfl (by intro z z1 z2 z3; simp [kstB, z1, z2]) (in3 ha3 (by omega) ha2 (by omega) (by assumption) (by assumption) ⟨by omega, by assumption⟩) (by dsimp only; rw [if_pos rfl, if_pos (by omega)]; omega)
          | exact turn_end ⟨0, _, a + 1, _⟩ (by assumption) (by assumption) rfl (by first | exact rfl | (rw [← show e = 0 by omega]; exact rfl)) rfl (by intro z z1 z2 z3; simp [kstB, z1, z2]) (in4 ha3 (by omega) ha2 (by omega) (by assumption) (by assumption)) (by dsimp only; rw [if_pos rfl, if_pos (by omega)]; omega)
          | exact turn_end ⟨fl ++ [t.getD p 0], _, p + 1, _⟩ (by assumption) (by assumption) rfl rfl rfl (by intro z z1 z2 z3; simp only [List.contains_cons, List.contains_nil, Bool.or_false, Bool.or_eq_false_iff, beq_eq_false_iff_ne, ne_eq] at z3; simp [kstB, z1, z2, z3]) (out0 ha3 (by omega) (by first | exact .inl (by assumption) | exact .inr (by omega)) hpl hp2) (by dsimp only; omega)
          | exact turn_end ⟨fl ++ [], _, e, _⟩ (by assumption) (by assumption) rfl rfl rfl (by intro z z1 z2 z3; simp only [List.contains_cons, List.contains_nil, Bool.or_false, Bool.or_eq_false_iff, beq_eq_false_iff_ne, ne_eq] at z3; simp [kstB, z1, z2, z3]) (out1 ha3 (by omega) hpl hp2).1 (by dsimp only; have := (out1 (k := 0) (k' := 0) ha3 (by omega) hpl hp2).2; omega)
    · have : bareFrom t p = [] := bareFrom_end (by omega)
      rw [this, List.append_nil] at hp2
      exact kept_of (by assumption) ⟨kf, by rw [hp2]⟩
end Mine

namespace Mine
open PySem PySem.Calls PyProof.Rows PySem.W

/-- numbers and one sign for each -/
theorem pairs_texts (g : Int → Nat) {vs : List Value} {ns : List Int} (hi : IntsAre vs ns) : ∀ {ys : List Value}, Paired (fun v r => ∀ n u, v = Value.int n u → ∃ k, r = Value.str ⟨#[g n]⟩ k) vs ys → CarriedAll ys (ns.map fun n => PyData.str ⟨#[g n]⟩) := by
  induction hi with
  | nil => intro ys h; cases h; exact .nil
  | cons n t _ ih =>
    intro ys h
    cases h with
    | cons h1 h2 =>
      obtain ⟨k, rfl⟩ := h1 n t rfl
      exact .cons (.str _ _) (ih h2)

section
variable {prog : Program} {w : World} {A : Around} {E : Value → Shared → Prop} {s₁ : Shared}
/-- a comprehension over a list of numbers, a sign for each -/
theorem ints_texts {env : Env} {elt : Expr} {x : PySem.Str} {scope : Scope} {Q : Value → Shared → Prop} {l : Addr} {vs : List Value} {ns : List Int} (g : Int → Nat) (hh : A.handled = none) (hl : s₁.heap.IsList l vs.toArray) (hi : IntsAre vs ns) (hz : ns.length ≤ sizeLine)
    (step : ∀ C n u s₃ m₃ E', s₃.heap.Ns C m₃ → m₃ x = some (Value.int n u) → wpAny (model prog w) A (eval elt (compEnv scope C env)) (fun r s₄ => (∃ k, r = Value.str ⟨#[g n]⟩ k) ∧ Keeps s₃ s₄) E' s₃)
    (fin : ∀ D (ys : List Value) h' tk, h'.IsList D ys.toArray → CarriedAll ys (ns.map fun n => PyData.str ⟨#[g n]⟩) → (∀ b o, s₁.heap.get? b = some o → h'.get? b = some o) → Q (.ref D) { s₁ with heap := h', toks := tk }) :
    wpAny (model prog w) A (pyIter (.ref l)) (CompPost prog w A env scope x [] elt Q) E s₁ := by
  have hlt : l < s₁.heap.objs.size := by
    obtain ⟨o, ho, _⟩ := hl
    exact Heap.lt_size ho
  refine wpAny_pyIter_list hl ?_
  generalize hit : ({ cls := .type "list_iterator", data := .fields #[.ref l, .int 0 0] } : Obj) = io
  have old : ∀ b o', s₁.heap.get? b = some o' → b ∉ [s₁.heap.objs.size] ∧ (s₁.heap.push io).get? b = some o' := fun b o' e => ⟨old_not_new e, Heap.get?_push_of_some _ e⟩
  have hsz : vs.toArray.size ≤ sizeLine := by rw [List.size_toArray, hi.length]; exact hz
  refine ⟨fun _ => true, fun v r => ∀ n u, v = Value.int n u → ∃ k, r = Value.str ⟨#[g n]⟩ k, s₁.heap.objs.size, [s₁.heap.objs.size, l], [s₁.heap.objs.size], vs.toArray.size, (fun i v => vs.toArray[i]? = some v), _, rfl,
    Walks.list hh s₁.heap.objs.size l (Nat.ne_of_lt hlt) vs.toArray, hsz, ⟨?_, ?_⟩, ?_, ⟨?_, ?_⟩, ?_⟩
  · subst hit
    exact ⟨_, Heap.get?_push_size _ rfl, rfl, rfl⟩
  · exact hl.push _
  · intro b hb
    show b < (s₁.heap.push io).objs.size
    rw [Heap.size_push]
    rcases List.mem_cons.mp hb with rfl | hb
    · exact Nat.lt_succ_self _
    · rw [List.mem_singleton.mp hb]; exact Nat.lt_succ_of_lt hlt
  · intro C i v s₃ m₃ E' _ _ _ _ _
    exact wpAny_pure ⟨rfl, keeps_refl _⟩
  · intro C i v s₃ m₃ E' hP _ hn hm _ _
    obtain ⟨n, u, rfl, _⟩ := IntsAre.at hi i v (by simpa using hP)
    refine wpAny_mono (step C n u s₃ m₃ E' hn hm) (fun r s₄ h₄ => ⟨fun n' u' q => ?_, h₄.2⟩) fun _ _ e => e
    obtain ⟨k, hk⟩ := h₄.1
    injection q with q1 q2
    subst q1
    exact ⟨k, hk⟩
  · intro D h' tk ys vs' hD hl' _ hlen hP hF hk
    have e : (ys.toList).toArray = ys := Array.toArray_toList ..
    have ev : vs' = vs := by
      have := walked_is hlen hP
      simpa using this
    subst ev
    refine fin D ys.toList h' tk (by rw [e]; exact hl') (pairs_texts g hi ?_) fun b o' q => hk b o' (old b o' q).1 (old b o' q).2
    have : vs'.filter (fun _ => true) = vs' := List.filter_eq_self.mpr fun _ _ => rfl
    rw [this] at hF
    exact hF
end
theorem join_signs_is : ∀ (cs : List Nat), PySem.Str.join (PySem.Str.ofString "") (cs.map fun c => (⟨#[c]⟩ : PySem.Str)) = ⟨cs.toArray⟩
  | [] => rfl
  | [c] => rfl
  | c :: d :: r => by
    have ih := join_signs_is (d :: r)
    simp only [List.map_cons] at ih ⊢
    rw [PySem.Str.join, ih]
    · have e : PySem.Str.ofString "" = ⟨#[]⟩ := by decide +kernel
      rw [e]
      show PySem.Str.mk ((#[c] ++ #[]) ++ (d :: r).toArray) = _
      congr 1
      simp
    · intro h; cases h
theorem join_txt {prog : Program} {w : World} {A : Around} {E : Value → Shared → Prop} {s : Shared} {t : Tok} {D : Addr} {ys : List Value} {ns : List Int} (g : Int → Nat) {Q : Value → Shared → Prop} (hl : s.heap.IsList D ys.toArray) (hc : CarriedAll ys (ns.map fun n => PyData.str ⟨#[g n]⟩)) (hn : ns.length ≤ 1000)
    (h : ∀ (l : List Nat) t' k, l.length = ns.length → (∀ c ∈ l, ∃ n, c = g n) → Q (.str ⟨l.toArray⟩ t') { s with toks := k }) : wpAny (model prog w) A (call (.builtin "str.join") [.str (PySem.Str.ofString "") t, .ref D]) Q E s := by
  refine KT.join_1 (l := ns) (g := fun n => ⟨#[g n]⟩) hl hc (fun _ _ => rfl) (by omega) fun t' k _ => ?_
  have e : PySem.Txt.join (PySem.Str.ofString "") (ns.map fun n => (⟨#[g n]⟩ : PySem.Str)) = ⟨(ns.map g).toArray⟩ := by
    show Builtin.Str.glued (PySem.Str.ofString "") _ = _
    rw [StrLaws.glued_eq_join, ← join_signs_is (ns.map g), List.map_map]
    rfl
  rw [e]
  refine h _ t' k (List.length_map ..) fun c hc => ?_
  obtain ⟨n, _, q⟩ := List.mem_map.mp hc
  exact ⟨n, q.symm⟩
end Mine

namespace Mine
open PySem PySem.Calls PyProof.Rows PySem.W

def sw (c d k : Nat) : Nat := if k = c then d else k
theorem sw_free (c d : Nat) : ∀ l : List Nat, c ∉ l → l.map (sw c d) = l
  | [], _ => rfl
  | k :: r, h => by
    have h1 : ¬ k = c := fun e => h (by rw [e]; exact .head _)
    rw [List.map_cons, sw_free c d r fun m => h (.tail _ m)]
    unfold sw
    rw [if_neg h1]
theorem sw_join (c d : Nat) : ∀ parts : List PySem.Str, (∀ p ∈ parts, c ∉ p.cps.toList) → (PySem.Str.join ⟨#[c]⟩ parts).cps.toList.map (sw c d) = (PySem.Str.join ⟨#[d]⟩ parts).cps.toList
  | [], _ => rfl
  | [p], h => sw_free c d _ (h p (.head _))
  | p :: q :: r, h => by
    have ih := sw_join c d (q :: r) fun a ha => h a (.tail _ ha)
    have hp := sw_free c d _ (h p (.head _))
    have e : ∀ y : PySem.Str, PySem.Str.join y (p :: q :: r) = p ++ y ++ PySem.Str.join y (q :: r) := fun y => by
      rw [PySem.Str.join]
      intro x; cases x
    rw [e, e]
    simp only [PySem.Str.cps_append, Array.toList_append, List.map_append]
    rw [ih, hp]
    congr 2
    show [sw c d c] = [d]
    unfold sw
    rw [if_pos rfl]
theorem replace_sw (x : PySem.Str) (c d : Nat) : (PySem.Txt.replace x ⟨#[c]⟩ ⟨#[d]⟩).cps.toList = x.cps.toList.map (sw c d) := by
  rw [StrLaws.replace_one, ← sw_join c d _ (StrLaws.split_free x c), StrLaws.join_split]
theorem sw_mem {c d : Nat} (h : c ≠ d) (l : List Nat) : c ∉ l.map (sw c d) := by
  intro hm
  obtain ⟨k, _, e⟩ := List.mem_map.mp hm
  unfold sw at e
  split at e
  · exact h e.symm
  · contradiction
theorem sw_lt {c d b : Nat} (hd : d < b) {l : List Nat} (hl : ∀ k ∈ l, k < b) : ∀ k ∈ l.map (sw c d), k < b := by
  intro k hk
  obtain ⟨j, hj, rfl⟩ := List.mem_map.mp hk
  unfold sw
  split
  · exact hd
  · exact hl j hj
section
variable {prog : Program} {w : World} {A : Around} {E : Value → Shared → Prop} {s : Shared} {t : List Nat} {k u v : Tok} {Q : Value → Shared → Prop}
theorem replace_txt (hu : u ≠ 0) (hv : v ≠ 0) (huv : u ≠ v) (hz : t.length ≤ 1000) (h : ∀ t' k', Q (.str ⟨(t.map (sw 34 40)).toArray⟩ t') { s with toks := k' }) :
    wpAny (model prog w) A (call (.builtin "str.replace") [.str ⟨t.toArray⟩ k, .str (PySem.Str.ofString "\"") u, .str (PySem.Str.ofString "(") v]) Q E s := by
  have e1 : PySem.Str.ofString "\"" = ⟨#[34]⟩ := by decide +kernel
  have e2 : PySem.Str.ofString "(" = ⟨#[40]⟩ := by decide +kernel
  rw [e1, e2]
  refine SC.replaceW hu hv huv (by decide) ?_ ?_ (fun t' k' => ?_)
  · show t.toArray.size ≤ _; rw [List.size_toArray]; omega
  · show 1 ≤ 14; omega
  · have e : PySem.Txt.replace ⟨t.toArray⟩ ⟨#[34]⟩ ⟨#[40]⟩ = ⟨(t.map (sw 34 40)).toArray⟩ := by
      have := replace_sw ⟨t.toArray⟩ 34 40
      refine PySem.Str.ext' ?_
      rw [← this, Array.toArray_toList]
    rw [e]
    exact h t' k'
theorem scount_txt {c : Nat} {y : PySem.Str} (hy : y = ⟨#[c]⟩) (h : Q (.int (cnt c t) s.toks) { s with toks := s.toks + 1 }) : wpAny (model prog w) A (call (.builtin "str.count") [.str ⟨t.toArray⟩ k, .str y u]) Q E s := by
  subst hy
  refine SC.count ?_
  rw [count_is]
  exact h
end
end Mine

namespace Mine
open PySem PySem.Calls PyProof.Rows PySem.W

section
variable {w : World} {A : Around} {E : Value → Shared → Prop} {s : Shared} {h₀ : Heap} {L : Addr} {m : PySem.Str → Option Value} {news : List (Addr × Obj)} {mg mb : PySem.Str → Option Value} {lo : List PySem.Str} {t : List Nat} {u v : Tok} {d : Int} {Q : Value → Shared → Prop}
theorem kept_use {P : Value → Prop} {T : Sem Value} {M : Model} (F : Fr h₀ L s.heap m) (N : News h₀ L s.heap news) (c : wpAny M A T (Kept s P) (fun _ _ => False) s) (h : ∀ r h' tk, P r → Fr h₀ L h' m → News h₀ L h' news → Q r { s with heap := h', toks := tk }) : wpAny M A T Q E s :=
  wpAny_mono c (fun r s' ⟨hr, h', tk, e, hk⟩ => by rw [e]; exact h r h' tk hr (F.keeps hk) fun q hq => ⟨hk _ _ (N q hq).1, (N q hq).2⟩) fun _ _ x => x.elim
theorem bare_K (F : Fr h₀ L s.heap m) (N : News h₀ L s.heap news) (X : (hd.heap_39 w.params).In h₀) (T : TopRead hd.view_39 lo mg mb h₀) (hA : A.depth < 900) (hz : t.length ≤ 500)
    (h : ∀ tok h' tk, Fr h₀ L h' m → News h₀ L h' news → Q (.str ⟨(bareFrom t 0).toArray⟩ tok) { s with heap := h', toks := tk }) : wpAny (model PySem.Challenge.rw_xg0005_01.row.prog w) A (call (.ref 51) [.str ⟨t.toArray⟩ u]) Q E s :=
  kept_use F N (bare (X.keeps F.keep) (T.keeps F.keep) hA hz) fun r h' tk ⟨tok, e⟩ F' N' => by rw [e]; exact h tok h' tk F' N'
theorem octets_K (F : Fr h₀ L s.heap m) (N : News h₀ L s.heap news) (X : (hd.heap_39 w.params).In h₀) (T : TopRead hd.view_39 lo mg mb h₀) (hA : A.depth < 900) (hH : A.handled = none) (ht : ∀ c ∈ t, c < 256) (hz : t.length ≤ 500)
    (h : ∀ tok h' tk, Fr h₀ L h' m → News h₀ L h' news → Q (.bytes (bys t) tok) { s with heap := h', toks := tk }) : wpAny (model PySem.Challenge.rw_xg0005_01.row.prog w) A (call (.ref 56) [.str ⟨t.toArray⟩ u]) Q E s :=
  kept_use F N (octets (x := ⟨t.toArray⟩) (X.keeps F.keep) (T.keeps F.keep) hA hH ht hz) fun r h' tk ⟨tok, e⟩ F' N' => by rw [e]; exact h tok h' tk F' N'
theorem paren2_K (F : Fr h₀ L s.heap m) (N : News h₀ L s.heap news) (X : (hd.heap_39 w.params).In h₀) (T : TopRead hd.view_39 lo mg mb h₀) (hA : A.depth < 900) (ht : ∀ c ∈ t, c < 256) (hz : t.length ≤ 500)
    (h : ∀ tok h' tk, Fr h₀ L h' m → News h₀ L h' news → Q (.int (d + cnt 40 (bareFrom t 0) - cnt 41 (bareFrom t 0)) tok) { s with heap := h', toks := tk }) : wpAny (model PySem.Challenge.rw_xg0005_01.row.prog w) A (call (.ref 44) [.bytes (bys t) u, .int d v]) Q E s :=
  kept_use F N (paren2 (X.keeps F.keep) (T.keeps F.keep) hA ht hz) fun r h' tk ⟨tok, e⟩ F' N' => by rw [e]; exact h tok h' tk F' N'
theorem paren1_K (F : Fr h₀ L s.heap m) (N : News h₀ L s.heap news) (X : (hd.heap_39 w.params).In h₀) (T : TopRead hd.view_39 lo mg mb h₀) (hA : A.depth < 900) (ht : ∀ c ∈ t, c < 256) (hz : t.length ≤ 500)
    (h : ∀ tok h' tk, Fr h₀ L h' m → News h₀ L h' news → Q (.int (cnt 40 (bareFrom t 0) - cnt 41 (bareFrom t 0)) tok) { s with heap := h', toks := tk }) : wpAny (model PySem.Challenge.rw_xg0005_01.row.prog w) A (call (.ref 44) [.bytes (bys t) u]) Q E s :=
  kept_use F N (paren1 (X.keeps F.keep) (T.keeps F.keep) hA ht hz) fun r h' tk ⟨tok, e⟩ F' N' => by rw [e]; exact h tok h' tk F' N'
theorem paren1_free (F : Fr h₀ L s.heap m) (N : News h₀ L s.heap news) (X : (hd.heap_39 w.params).In h₀) (T : TopRead hd.view_39 lo mg mb h₀) (hA : A.depth < 900) (ht : ∀ c ∈ t, c < 256) (hz : t.length ≤ 500) (hf : 34 ∉ t)
    (h : ∀ tok h' tk, Fr h₀ L h' m → News h₀ L h' news → Q (.int (cnt 40 t - cnt 41 t) tok) { s with heap := h', toks := tk }) : wpAny (model PySem.Challenge.rw_xg0005_01.row.prog w) A (call (.ref 44) [.bytes (bys t) u]) Q E s := by
  refine paren1_K F N X T hA ht hz ?_
  rw [bareFrom_free hf 0, List.drop_zero]
  exact h
theorem paren1_two {a : List Nat} (F : Fr h₀ L s.heap m) (N : News h₀ L s.heap news) (X : (hd.heap_39 w.params).In h₀) (T : TopRead hd.view_39 lo mg mb h₀) (hA : A.depth < 900) (ht : ∀ c ∈ a ++ t, c < 256) (hz : (a ++ t).length ≤ 500) (hf : 34 ∉ a)
    (h : ∀ tok h' tk, Fr h₀ L h' m → News h₀ L h' news → Q (.int (cnt 40 a - cnt 41 a + cnt 40 (bareFrom t 0) - cnt 41 (bareFrom t 0)) tok) { s with heap := h', toks := tk }) : wpAny (model PySem.Challenge.rw_xg0005_01.row.prog w) A (call (.ref 44) [.bytes (bys (a ++ t)) u]) Q E s := by
  refine paren1_K F N X T hA ht hz ?_
  have e : cnt 40 (bareFrom (a ++ t) 0) - cnt 41 (bareFrom (a ++ t) 0) = cnt 40 a - cnt 41 a + cnt 40 (bareFrom t 0) - cnt 41 (bareFrom t 0) := by
    rw [bareFrom_two hf, cnt_append, cnt_append]
    omega
  rw [e]
  exact h
end
def tbl : List Nat := [40, 41, 34, 92, 97, 98, 32, 10]
def gx (n : Int) : Nat := tbl.getD (n.fmod 8).toNat 0
theorem item_gx (n : Int) : PySem.Txt.item (PySem.Str.ofString "()\"\\ab \n") (n.fmod 8) = ⟨#[gx n]⟩ := by
  have e : PySem.Str.ofString "()\"\\ab \n" = ⟨tbl.toArray⟩ := by decide +kernel
  have h := Int.fmod_eq_emod_of_nonneg n (by decide : (0 : Int) ≤ 8)
  rw [e, PySem.W.item_meets ⟨by omega, ?_⟩]
  · show (⟨#[tbl.toArray.getD (n.fmod 8).toNat 0]⟩ : PySem.Str) = _
    unfold gx
    simp [Array.getD_eq_getD_getElem?]
  · show n.fmod 8 < ((tbl.toArray.size : Nat) : Int)
    have : tbl.toArray.size = 8 := rfl
    rw [this]
    omega
theorem gx_lt (n : Int) : gx n < 256 := by
  unfold gx
  have key : ∀ i : Nat, tbl.getD i 0 < 256 := by
    intro i
    rw [List.getD_eq_getElem?_getD]
    cases h : tbl[i]? with
    | none => decide
    | some c =>
      have hm := List.mem_of_getElem? h
      have ha : ∀ c ∈ tbl, c < 256 := by decide
      exact ha c hm
  exact key _
theorem gen_toks {M : Model} {A : Around} {E : Value → Shared → Prop} {T : Sem Flow} {Q : Flow → Shared → Prop} {h : Heap} {gs : Array GenState} {dr : Drawn} {k : Nat} {os : OsState} (c : ∀ k', 1 ≤ k' → wpAny M A T Q E ⟨h, gs, dr, k', os⟩) : wpAny M A T Q E ⟨h, gs, dr, k + 1, os⟩ := c (k + 1) (Nat.succ_le_succ (Nat.zero_le k))
theorem deep (env : Env) : (callerA.deeper env).depth < 900 := by show 1 + claimMargin + 1 < 900; decide
end Mine
open PySem PySem.W PyProof.Rows
local macro_rules | `(tactic| walk_at "call ref") => `(tactic| (k_here; k_dflt (first
  | (refine' Mine.bare_K ?F ?N ?X ?T ?A ?z ?_; (case F => k_asm); (case N => k_asm); (case X => k_asm); (case T => k_asm); (case A => exact Mine.deep _); (case z => assumption); k_whole; intro tok' h' tk' F' N')
  | (refine' Mine.octets_K ?F ?N ?X ?T ?A ?H ?t ?z ?_; (case F => k_asm); (case N => k_asm); (case X => k_asm); (case T => k_asm); (case A => exact Mine.deep _); (case H => exact rfl); (case t => assumption); (case z => assumption); k_whole; intro tok' h' tk' F' N')
  | (refine' Mine.paren2_K ?F ?N ?X ?T ?A ?t ?z ?_; (case F => k_asm); (case N => k_asm); (case X => k_asm); (case T => k_asm); (case A => exact Mine.deep _); (case t => assumption); (case z => assumption); k_whole; intro tok' h' tk' F' N')
  | (refine' Mine.paren1_two ?F ?N ?X ?T ?A ?t ?z ?f ?_; (case F => k_asm); (case N => k_asm); (case X => k_asm); (case T => k_asm); (case A => exact Mine.deep _); (case t => assumption); (case z => assumption); (case f => exact Mine.sw_mem (by decide) _); k_whole; intro tok' h' tk' F' N')
  | (refine' Mine.paren1_free ?F ?N ?X ?T ?A ?t ?z ?f ?_; (case F => k_asm); (case N => k_asm); (case X => k_asm); (case T => k_asm); (case A => exact Mine.deep _); (case t => assumption); (case z => assumption); (case f => exact Mine.sw_mem (by decide) _); k_whole; intro tok' h' tk' F' N'))))
local macro_rules | `(tactic| walk_at "call builtin:str.count") => `(tactic| (k_here; first | refine Mine.scount_txt (c := 40) (by decide +kernel) ?_ | refine Mine.scount_txt (c := 41) (by decide +kernel) ?_))
local macro_rules | `(tactic| walk_at "call builtin:str.replace") => `(tactic| (k_here; (refine Mine.replace_txt (Nat.ne_of_gt (by assumption)) (Nat.succ_ne_zero _) (Nat.ne_of_lt (Nat.lt_succ_self _)) (by omega) ?_); intro _ _))
local macro_rules | `(tactic| walk_at "binaryOp Add str str") => `(tactic| (k_here; (refine Mine.add_txt (b := _) rfl (by simp only [List.length_map]; omega) ?_); intro _ _))
local macro_rules | `(tactic| walk_at "execs nil") => `(tactic| (k_here; (with_reducible refine Mine.gen_toks ?_); intro gtk' gtkPos'))
local macro_rules | `(tactic| walk_at "execs cons") => `(tactic| (k_here; (with_reducible refine Mine.gen_toks ?_); intro gtk' gtkPos'))
set_option maxHeartbeats 8000000 in
theorem PySem.Challenge.cw_xg0005_01_holds : PySem.Challenge.rw_xg0005_01.Holds :=
  Mine.hd (by
    w_on
    k_go0
    (all_goals try k_fold)
    repeat' (first | (k_unfold; (try dsimp only)) | ((fail_if_success (with_reducible show wpAny _ _ (eval (Expr.ListComp _ _ _ _) _) _ _ _)); walk1) | (dsimp only; (fail_if_success (with_reducible show wpAny _ _ (eval (Expr.ListComp _ _ _ _) _) _ _ _)); walk1) | fail "no step")
    refine ListComp_rowsP ?hfree ?hcell ?hkind ?hnames ?hx ?_
    case hfree => decide
    case hcell => decide
    case hkind => exact rfl
    case hnames => decide
    case hx => exact rfl
    repeat' (first | (k_unfold; (try dsimp only)) | ((fail_if_success (with_reducible show wpAny _ _ (pyIter _) _ _ _)); walk1) | (dsimp only; (fail_if_success (with_reducible show wpAny _ _ (pyIter _) _ _ _)); walk1) | fail "no step")
    (rename Fr _ _ _ _ => F1)
    (rename News _ _ _ _ => N1)
    (rename IntsAre _ (List.take _ _) => hI1)
    refine Mine.ints_texts Mine.gx rfl ⟨_, (N1 _ (.head _)).1, rfl, _, rfl⟩ hI1 ?hz ?step ?fin
    case hz => rw [List.length_take, sizeLine_eq]; omega
    case step =>
      intro C n u s₃ m₃ E' hn hm
      k_steps
      all_goals first
        | exact congrArg (fun z => Value.str z _) (Mine.item_gx n)
        | exact ⟨_, _, rfl, fun _ _ e => e⟩
    case fin =>
      intro D ys h' tk hl hc hk
      have F2 := Fr.keeps F1 hk
      have N2 := fun q hq => (⟨hk _ _ (N1 q hq).1, (N1 q hq).2⟩ : _ ∧ _)
      clear F1 N1
      repeat' (first | (k_unfold; (try dsimp only)) | ((fail_if_success (with_reducible show wpAny _ _ (call (Value.builtin "str.join") _) _ _ _)); walk1) | (dsimp only; (fail_if_success (with_reducible show wpAny _ _ (call (Value.builtin "str.join") _) _ _ _)); walk1) | fail "no step")
      refine Mine.join_txt Mine.gx hl hc (by rw [List.length_take]; omega) ?_
      intro t t' k' hlen hg
      rw [List.length_take] at hlen
      have hz : t.length ≤ 500 := by omega
      have hz1 : t.length ≤ 80 := by omega
      have hza : (t.map (Mine.sw 34 40)).length ≤ 500 := by rw [List.length_map]; omega
      have hzat : (t.map (Mine.sw 34 40) ++ t).length ≤ 500 := by rw [List.length_append, List.length_map]; omega
      have ht : ∀ c ∈ t, c < 256 := fun c hc => by
        obtain ⟨n, rfl⟩ := hg c hc
        exact Mine.gx_lt n
      have hta : ∀ c ∈ t.map (Mine.sw 34 40), c < 256 := Mine.sw_lt (by decide) ht
      have htat : ∀ c ∈ t.map (Mine.sw 34 40) ++ t, c < 256 := fun c hc => (List.mem_append.mp hc).elim (hta c) (ht c)
      clear hl hc hk hg hlen
      k_steps)
