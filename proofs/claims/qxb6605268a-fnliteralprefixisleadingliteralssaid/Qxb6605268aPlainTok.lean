/-
  DERIVED. Plain: the elements as the model's table holds them, and that they are the pattern's.
-/
import Derived.Test.Qxb6605268aPlainW4
import Derived.Test.Qxb6605268aPlainGlob
import Derived.Test.Qxb6605268aPlainLp
namespace Go.Proofs.Qxb6605268a
set_option linter.unusedVariables false

structure Tk where
  star : Bool
  lit : Bool
  b : Int
  s : W4

def Tk.cells (t : Tk) : List Value := [.bool t.star, .bool t.lit, .int .u8 t.b, .int .u64 t.s.a, .int .u64 t.s.b, .int .u64 t.s.c, .int .u64 t.s.d]
def cellsOf : List Tk → List Value
  | [] => []
  | t :: ts => t.cells ++ cellsOf ts

theorem cellsOf_append (a b : List Tk) : cellsOf (a ++ b) = cellsOf a ++ cellsOf b := by
  induction a with
  | nil => rfl
  | cons t ts ih => simp [cellsOf, ih]
theorem cellsOf_snoc (a : List Tk) (t : Tk) : cellsOf (a ++ [t]) = cellsOf a ++ t.cells := by rw [cellsOf_append]; simp [cellsOf]
theorem cellsOf_length (a : List Tk) : (cellsOf a).length = a.length * 7 := by
  induction a with
  | nil => rfl
  | cons t ts ih => simp [cellsOf, ih, Tk.cells]; omega
theorem cellsOf_get (a : List Tk) (j i : Nat) (hj : j < a.length) (hi : i < 7) : (cellsOf a)[j * 7 + i]? = (a[j]).cells[i]? := by
  induction a generalizing j with
  | nil => simp at hj
  | cons t ts ih =>
    cases j with
    | zero =>
      simp only [cellsOf, Nat.zero_mul, Nat.zero_add]
      rw [List.getElem?_append_left (by simpa [Tk.cells] using hi)]
      rfl
    | succ j =>
      simp only [cellsOf]
      have e : (j + 1) * 7 + i = t.cells.length + (j * 7 + i) := by simp [Tk.cells]; omega
      rw [e, List.getElem?_append_right (by omega), Nat.add_sub_cancel_left, ih j (by simpa using hj)]
      rfl

/-- the byte that a literal element stands for -/
def litByte (l : List Int) : Int := if l.getD 0 0 = 92 ∧ 1 < l.length then l.getD 1 0 else l.getD 0 0

/-- t is the element that l opens with -/
structure Fits (t : Tk) (l : List Int) : Prop where
  star : t.star = decide (l.getD 0 0 = 42)
  ok : t.s.ok
  rng : 0 ≤ t.b ∧ t.b ≤ 255
  set : l.getD 0 0 ≠ 42 → ∀ b, 0 ≤ b → b ≤ 255 → t.s.has b = (mone l b).2
  lit : t.lit = !special (l.getD 0 0)
  byte : special (l.getD 0 0) = false → t.b = litByte l

def Reads : List Tk → List Int → Prop
  | [], l => l = []
  | t :: ts, l => 1 ≤ l.length ∧ Fits t l ∧ Reads ts (l.drop (elen l))

def Trel (l : List Int) (i : Nat) (ts : List Tk) : Prop := ∀ us, Reads us (l.drop i) → Reads (ts ++ us) l

theorem Trel.start (l : List Int) : Trel l 0 [] := fun us h => by simpa using h
theorem Trel.step {l : List Int} {i d : Nat} {ts : List Tk} {t : Tk} (h : Trel l i ts) (hi : i < l.length) (hf : Fits t (l.drop i)) (hd : elen (l.drop i) = d) : Trel l (i + d) (ts ++ [t]) := fun us hu => by
  rw [List.append_assoc]
  refine h _ ⟨by simp; omega, hf, ?_⟩
  rw [hd, List.drop_drop]
  exact hu
theorem Trel.ended {l : List Int} {i : Nat} {ts : List Tk} (h : Trel l i ts) (hi : l.length ≤ i) : Reads ts l := by
  have := h [] (by rw [List.drop_of_length_le hi]; rfl)
  rwa [List.append_nil] at this

section
variable {l : List Int} {i : Nat}
theorem elen_star (h : l.getD i 0 = 42) : elen (l.drop i) = 1 := by unfold elen; rw [getD_drop, Nat.add_zero, if_pos h]
theorem elen_any (h : l.getD i 0 = 63) : elen (l.drop i) = 1 := by
  unfold elen mone; rw [getD_drop, Nat.add_zero, if_neg (by omega), if_pos h]
theorem elen_list (h : l.getD i 0 = 91) : elen (l.drop i) = (mlist (l.drop i) 0).1 := by
  unfold elen mone; rw [getD_drop, Nat.add_zero, if_neg (by omega), if_neg (by omega), if_pos h]
theorem elen_bs (h : l.getD i 0 = 92) (h1 : i + 1 < l.length) : elen (l.drop i) = 2 := by
  unfold elen mone; rw [getD_drop, Nat.add_zero, if_neg (by omega), if_neg (by omega), if_neg (by omega), if_pos ⟨h, by simp; omega⟩]
theorem elen_plain (h : special (l.getD i 0) = false) (h1 : ¬ (l.getD i 0 = 92 ∧ i + 1 < l.length)) : elen (l.drop i) = 1 := by
  have h2 : l.getD i 0 ≠ 42 := by intro e; rw [e] at h; simp [special] at h
  have h3 : l.getD i 0 ≠ 63 := by intro e; rw [e] at h; simp [special] at h
  have h4 : l.getD i 0 ≠ 91 := by intro e; rw [e] at h; simp [special] at h
  unfold elen mone; rw [getD_drop, Nat.add_zero, if_neg h2, if_neg h3, if_neg h4, if_neg (fun e => h1 ⟨e.1, by have := e.2; simp at this; omega⟩)]

theorem fits_star (h : l.getD i 0 = 42) : Fits ⟨true, false, 0, W4.zero⟩ (l.drop i) := by
  have e : (l.drop i).getD 0 0 = 42 := by rw [getD_drop, Nat.add_zero]; exact h
  refine ⟨by rw [e]; rfl, W4.zero_ok, by decide, fun hne => absurd e hne, by rw [e]; rfl, fun hs => by rw [e] at hs; simp [special] at hs⟩
theorem fits_any (h : l.getD i 0 = 63) (s : W4) (ok : s.ok) (hs : ∀ b, 0 ≤ b → b ≤ 255 → s.has b = !(W4.zero.has b)) : Fits ⟨false, false, 0, s⟩ (l.drop i) := by
  have e : (l.drop i).getD 0 0 = 63 := by rw [getD_drop, Nat.add_zero]; exact h
  refine ⟨by rw [e]; rfl, ok, ⟨Int.le_refl _, by show (0 : Int) ≤ 255; decide⟩, fun _ b b0 b1 => ?_, by rw [e]; rfl, fun hs => by rw [e] at hs; simp [special] at hs⟩
  unfold mone
  rw [if_pos e, hs b b0 b1, W4.zero_has]; rfl
theorem fits_list (h : l.getD i 0 = 91) (s : W4) (ok : s.ok) (hs : ∀ b, 0 ≤ b → b ≤ 255 → s.has b = (mlist (l.drop i) b).2) : Fits ⟨false, false, 0, s⟩ (l.drop i) := by
  have e : (l.drop i).getD 0 0 = 91 := by rw [getD_drop, Nat.add_zero]; exact h
  refine ⟨by rw [e]; rfl, ok, ⟨Int.le_refl _, by show (0 : Int) ≤ 255; decide⟩, fun _ b b0 b1 => ?_, by rw [e]; rfl, fun hs => by rw [e] at hs; simp [special] at hs⟩
  unfold mone
  rw [if_neg (by rw [e]; decide), if_pos e]
  exact hs b b0 b1
theorem inRange_self' (y b : Int) : inRange y y b = (y == b) := by
  unfold inRange
  by_cases h : y = b
  · subst h; simp
  · have : (y == b) = false := by simpa using h
    rw [this]; exact decide_eq_false (by omega)
theorem fits_bs (h : l.getD i 0 = 92) (h1 : i + 1 < l.length) (hr : 0 ≤ l.getD (i + 1) 0 ∧ l.getD (i + 1) 0 ≤ 255) (s : W4) (ok : s.ok) (hs : ∀ b, 0 ≤ b → b ≤ 255 → s.has b = (W4.zero.has b || inRange (l.getD (i + 1) 0) (l.getD (i + 1) 0) b)) :
    Fits ⟨false, true, l.getD (i + 1) 0, s⟩ (l.drop i) := by
  have e : (l.drop i).getD 0 0 = 92 := by rw [getD_drop, Nat.add_zero]; exact h
  refine ⟨by rw [e]; rfl, ok, hr, fun _ b b0 b1 => ?_, by rw [e]; rfl, fun _ => ?_⟩
  · unfold mone
    rw [if_neg (by rw [e]; decide), if_neg (by rw [e]; decide), if_pos ⟨e, by simp; omega⟩, hs b b0 b1, W4.zero_has, Bool.false_or, inRange_self', getD_drop]
  · unfold litByte
    rw [if_pos ⟨e, by simp; omega⟩, getD_drop]
theorem fits_plain (h : special (l.getD i 0) = false) (h1 : ¬ (l.getD i 0 = 92 ∧ i + 1 < l.length)) (hr : 0 ≤ l.getD i 0 ∧ l.getD i 0 ≤ 255) (s : W4) (ok : s.ok) (hs : ∀ b, 0 ≤ b → b ≤ 255 → s.has b = (W4.zero.has b || inRange (l.getD i 0) (l.getD i 0) b)) :
    Fits ⟨false, true, l.getD i 0, s⟩ (l.drop i) := by
  have e : (l.drop i).getD 0 0 = l.getD i 0 := by rw [getD_drop, Nat.add_zero]
  have h2 : l.getD i 0 ≠ 42 := by intro e; rw [e] at h; simp [special] at h
  have h3 : l.getD i 0 ≠ 63 := by intro e; rw [e] at h; simp [special] at h
  have h4 : l.getD i 0 ≠ 91 := by intro e; rw [e] at h; simp [special] at h
  have h5 : ¬ (l.getD i 0 = 92 ∧ 1 < (l.drop i).length) := fun e => h1 ⟨e.1, by have := e.2; simp at this; omega⟩
  refine ⟨by rw [e]; exact (decide_eq_false h2).symm, ok, hr, fun _ b b0 b1 => ?_, by rw [e, h]; rfl, fun _ => ?_⟩
  · unfold mone
    rw [e, if_neg h3, if_neg h4, if_neg h5, hs b b0 b1, W4.zero_has, Bool.false_or, inRange_self']
  · unfold litByte
    rw [e, if_neg h5]
end

end Go.Proofs.Qxb6605268a
