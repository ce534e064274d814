/-
  DERIVED. Plain: a set of bytes as four words of 64 bits.
-/
import Derived.WalkKit
import Derived.Laws.BitsAllLaws
namespace Go.Proofs.Qxb6605268a
set_option linter.unusedVariables false

structure W4 where
  a : Int
  b : Int
  c : Int
  d : Int

def okW (x : Int) : Prop := 0 ≤ x ∧ x < 18446744073709551616
def W4.ok (s : W4) : Prop := okW s.a ∧ okW s.b ∧ okW s.c ∧ okW s.d
def W4.word (s : W4) (i : Int) : Int := if i = 0 then s.a else if i = 1 then s.b else if i = 2 then s.c else s.d
def W4.put (s : W4) (i x : Int) : W4 := if i = 0 then { s with a := x } else if i = 1 then { s with b := x } else if i = 2 then { s with c := x } else { s with d := x }
def W4.has (s : W4) (c : Int) : Bool := (s.word (c / 64)).toNat.testBit (c % 64).toNat
def W4.cells (s : W4) : Array Value := #[.int .u64 s.a, .int .u64 s.b, .int .u64 s.c, .int .u64 s.d]
def W4.zero : W4 := ⟨0, 0, 0, 0⟩

theorem W4.zero_ok : W4.zero.ok := by unfold W4.ok okW W4.zero; simp
theorem W4.zero_has (c : Int) : W4.zero.has c = false := by
  unfold W4.has W4.word W4.zero
  split
  · simp
  · split
    · simp
    · split <;> simp
theorem W4.word_ok {s : W4} (h : s.ok) (i : Int) : okW (s.word i) := by
  obtain ⟨h1, h2, h3, h4⟩ := h
  unfold W4.word
  split
  · exact h1
  · split
    · exact h2
    · split
      · exact h3
      · exact h4
theorem W4.put_ok {s : W4} (h : s.ok) (i x : Int) (hx : okW x) : (s.put i x).ok := by
  obtain ⟨h1, h2, h3, h4⟩ := h
  unfold W4.put
  split
  · exact ⟨hx, h2, h3, h4⟩
  · split
    · exact ⟨h1, hx, h3, h4⟩
    · split
      · exact ⟨h1, h2, hx, h4⟩
      · exact ⟨h1, h2, h3, hx⟩
theorem W4.word_put {s : W4} (i j x : Int) (hi : 0 ≤ i ∧ i ≤ 3) (hj : 0 ≤ j ∧ j ≤ 3) : (s.put i x).word j = if j = i then x else s.word j := by
  have h1 : i = 0 ∨ i = 1 ∨ i = 2 ∨ i = 3 := by omega
  have h2 : j = 0 ∨ j = 1 ∨ j = 2 ∨ j = 3 := by omega
  rcases h1 with rfl | rfl | rfl | rfl <;> rcases h2 with rfl | rfl | rfl | rfl <;> simp [W4.put, W4.word]

theorem pow_lt {n : Nat} (h : n < 64) : 2 ^ n < 18446744073709551616 := by
  have : (2 : Nat) ^ n < 2 ^ 64 := Nat.pow_lt_pow_right (by decide) h
  simpa using this

theorem wrap_pow {n : Nat} (h : n < 64) : IntKind.u64.wrap (2 ^ n) = ((2 ^ n : Nat) : Int) := by
  have h1 := pow_lt h
  have h2 : ((2 : Int) ^ n) = ((2 ^ n : Nat) : Int) := by simp
  rw [h2, IntKind.wrap_u64]
  generalize 2 ^ n = p at *
  omega

theorem and_pow_ne (x n : Nat) : (x &&& 2 ^ n != 0) = x.testBit n := by
  cases hb : x.testBit n with
  | true =>
    have : (x &&& 2 ^ n).testBit n = true := by simp [hb]
    rw [bne_iff_ne]
    intro e
    rw [e] at this
    simp at this
  | false =>
    have : x &&& 2 ^ n = 0 := by
      apply Nat.eq_of_testBit_eq
      intro i
      rw [Nat.testBit_and, Nat.testBit_two_pow, Nat.zero_testBit]
      by_cases e : n = i
      · subst e; simp [hb]
      · simp [e]
    rw [this]; rfl

theorem has_bits (x : Int) (n : Nat) (hx : okW x) (h : n < 64) : (bits .and .u64 x (IntKind.u64.wrap (2 ^ n)) != 0) = x.toNat.testBit n := by
  unfold okW at hx
  have h1 := pow_lt h
  rw [wrap_pow h, u64_and x ((2 ^ n : Nat) : Int) hx.1 hx.2 (Int.natCast_nonneg _) (Int.ofNat_lt.2 h1), Int.toNat_natCast, ← and_pow_ne]
  generalize x.toNat &&& 2 ^ n = y
  by_cases e : y = 0
  · subst e; rfl
  · have e1 : ((y : Int) != 0) = true := by rw [bne_iff_ne]; omega
    have e2 : (y != 0) = true := by rw [bne_iff_ne]; exact e
    rw [e1, e2]

/-- the word with one bit set -/
def setBit (x : Int) (n : Nat) : Int := bits .or .u64 x (IntKind.u64.wrap (2 ^ n))

theorem setBit_nat (x : Int) (n : Nat) (hx : okW x) (h : n < 64) : setBit x n = ((x.toNat ||| 2 ^ n : Nat) : Int) := by
  unfold setBit
  unfold okW at hx
  have h1 := pow_lt h
  rw [wrap_pow h, u64_or x ((2 ^ n : Nat) : Int) hx.1 hx.2 (Int.natCast_nonneg _) (Int.ofNat_lt.2 h1), Int.toNat_natCast]
theorem setBit_ok (x : Int) (n : Nat) (hx : okW x) (h : n < 64) : okW (setBit x n) := by
  rw [setBit_nat x n hx h]
  have h1 := pow_lt h
  have h2 : x.toNat < 2 ^ 64 := by unfold okW at hx; simp; omega
  have h3 : x.toNat ||| 2 ^ n < 2 ^ 64 := Nat.or_lt_two_pow h2 (by simpa using h1)
  unfold okW
  have h4 : (2 : Nat) ^ 64 = 18446744073709551616 := by decide
  omega
theorem setBit_test (x : Int) (n m : Nat) (hx : okW x) (h : n < 64) : (setBit x n).toNat.testBit m = (x.toNat.testBit m || decide (n = m)) := by
  rw [setBit_nat x n hx h, Int.toNat_natCast, Nat.testBit_or, Nat.testBit_two_pow]

/-- one byte more -/
def W4.add (s : W4) (x : Int) : W4 := s.put (x / 64) (setBit (s.word (x / 64)) (x % 64).toNat)

theorem W4.add_ok {s : W4} (h : s.ok) (x : Int) : (s.add x).ok := W4.put_ok h _ _ (setBit_ok _ _ (W4.word_ok h _) (by omega))
theorem W4.add_has {s : W4} (h : s.ok) (x c : Int) (hx : 0 ≤ x ∧ x ≤ 255) (hc : 0 ≤ c ∧ c ≤ 255) : (s.add x).has c = (s.has c || decide (x = c)) := by
  unfold W4.has W4.add
  rw [W4.word_put _ _ _ (by omega) (by omega)]
  by_cases e : c / 64 = x / 64
  · rw [if_pos e, setBit_test _ _ _ (W4.word_ok h _) (by omega), e]
    congr 1
    exact decide_eq_decide.2 (by omega)
  · rw [if_neg e]
    have : decide (x = c) = false := decide_eq_false (fun h => e (by rw [h]))
    rw [this, Bool.or_false]

end Go.Proofs.Qxb6605268a
