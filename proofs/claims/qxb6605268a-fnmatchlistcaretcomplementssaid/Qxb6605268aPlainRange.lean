/-
  DERIVED. The plain law of FnMatchListRangeIsInterval, and of FnMatchListCaretComplements.
-/
import Derived.Test.Qxb6605268aPlain
namespace Go.Proofs.Qxb6605268a

theorem mlist_range (lo hi b : Int) (l : List Int) (h1 : lo ≠ 94) (h2 : lo ≠ 93) (h3 : lo ≠ 92) : mlist ([91, lo, 45, hi, 93] ++ l) b = (5, inRange lo hi b) := by
  have e : scan b (lo :: 45 :: hi :: 93 :: l) false = (3, inRange lo hi b) := by
    rw [scan, if_neg h2, if_neg h3, if_pos rfl]
    match l with
    | [] => simp [scan, bump]
    | [x] => simp [scan, bump]
    | x :: y :: t => simp [scan, bump]
  unfold mlist
  simp only [List.cons_append, List.nil_append, List.getD_cons_succ, List.getD_cons_zero, List.drop_succ_cons, List.drop_zero, if_neg h1, e, List.length_cons]
  simp

theorem mlist_range_neg (lo hi b : Int) (l : List Int) (h2 : lo ≠ 93) (h3 : lo ≠ 92) : mlist ([91, 94, lo, 45, hi, 93] ++ l) b = (6, !inRange lo hi b) := by
  have e : scan b (lo :: 45 :: hi :: 93 :: l) false = (3, inRange lo hi b) := by
    rw [scan, if_neg h2, if_neg h3, if_pos rfl]
    match l with
    | [] => simp [scan, bump]
    | [x] => simp [scan, bump]
    | x :: y :: t => simp [scan, bump]
  unfold mlist
  simp only [List.cons_append, List.nil_append, List.getD_cons_succ, List.getD_cons_zero, List.drop_succ_cons, List.drop_zero, if_true, e, List.length_cons]
  simp

/-- a caret ahead of a body that does not open with one: one byte more, the answer turned. -/
theorem mlist_caret (l : List Int) (b : Int) (h : l.getD 0 0 ≠ 94) :
    (mlist (91 :: 94 :: l) b).1 = (mlist (91 :: l) b).1 + 1 ∧ (mlist (91 :: 94 :: l) b).2 = !(mlist (91 :: l) b).2 ∧ 1 ≤ (mlist (91 :: l) b).1 ∧ (mlist (91 :: l) b).1 ≤ l.length + 1 := by
  unfold mlist
  simp only [List.getD_cons_succ, List.getD_cons_zero, List.drop_succ_cons, List.drop_zero, if_true, if_neg h, List.length_cons]
  refine ⟨by omega, by cases (scan b l false).2 <;> rfl, by omega, by omega⟩

end Go.Proofs.Qxb6605268a
