/-
  DERIVED. The walk of zzg1Complement (31).
-/
import Derived.Test.Qxb6605268aAdd
namespace Go.Proofs.Qxb6605268a
open Go.RowKit
set_option linter.unusedVariables false

def compW (x : Int) : Int := bits .xor .u64 IntKind.u64.max x

theorem compW_nat (x : Int) (h : okW x) : compW x = (((2 ^ 64 - 1) ^^^ x.toNat : Nat) : Int) := by
  unfold compW
  unfold okW at h
  have hm : IntKind.u64.max = 18446744073709551615 := by decide
  have e : ((18446744073709551615 : Int)).toNat = 2 ^ 64 - 1 := by decide
  rw [hm, u64_xor _ _ (by decide) (by decide) h.1 h.2, e]
theorem compW_ok (x : Int) (h : okW x) : okW (compW x) := by
  rw [compW_nat x h]
  have h4 : (2 : Nat) ^ 64 = 18446744073709551616 := by decide
  have h2 : x.toNat < 2 ^ 64 := by unfold okW at h; omega
  have h3 : (2 ^ 64 - 1) ^^^ x.toNat < 2 ^ 64 := Nat.xor_lt_two_pow (by decide) h2
  generalize (2 ^ 64 - 1) ^^^ x.toNat = y at *
  unfold okW
  omega
theorem compW_test (x : Int) (h : okW x) (n : Nat) (hn : n < 64) : (compW x).toNat.testBit n = !(x.toNat.testBit n) := by
  rw [compW_nat x h, Int.toNat_natCast, Nat.testBit_xor, Nat.testBit_two_pow_sub_one, decide_eq_true hn]
  simp

theorem comp_has {s0 s1 s2 s3 : Int} (h : (W4.mk s0 s1 s2 s3).ok) : (W4.mk (compW s0) (compW s1) (compW s2) (compW s3)).ok ∧
    ∀ b, 0 ≤ b → b ≤ 255 → (W4.mk (compW s0) (compW s1) (compW s2) (compW s3)).has b = !((W4.mk s0 s1 s2 s3).has b) := by
  refine ⟨⟨compW_ok _ h.1, compW_ok _ h.2.1, compW_ok _ h.2.2.1, compW_ok _ h.2.2.2⟩, fun b b0 b1 => ?_⟩
  unfold W4.has
  rw [← compW_test _ (W4.word_ok h _) _ (by omega)]
  congr 2
  unfold W4.word
  split
  · rfl
  · split
    · rfl
    · split <;> rfl

set_option maxHeartbeats 400000 in
set_option maxRecDepth 100000 in
theorem compl_any (s0 s1 s2 s3 : Int) (w : World) (hs : (W4.mk s0 s1 s2 s3).ok) :
    Calls Try.prog 31 #[.agg #[.int .u64 s0, .int .u64 s1, .int .u64 s2, .int .u64 s3]] w fun e w' =>
      ∃ t0 t1 t2 t3, e = .returned (.agg #[.int .u64 t0, .int .u64 t1, .int .u64 t2, .int .u64 t3]) ∧ (W4.mk t0 t1 t2 t3).ok ∧ (∀ b, 0 ≤ b → b ≤ 255 → (W4.mk t0 t1 t2 t3).has b = !((W4.mk s0 s1 s2 s3).has b)) ∧
        w' = (w.alloc (.cells #[.int .u64 t0, .int .u64 t1, .int .u64 t2, .int .u64 t3] 34)).alloc (.cells #[.int .u64 t0, .int .u64 t1, .int .u64 t2, .int .u64 t3] 34) := by
  have hsg : IntKind.u64.signed = false := rfl
  have HC := hidA (comp_has hs)
  go_enter Try.func31, Try.ntmps31
  go_wp2
  refine wp_loop_rounds 5 ?_
  rw [rounds_succ]
  go_wp2
  rw [rounds_succ]
  go_wp2
  rw [rounds_succ]
  go_wp2
  rw [rounds_succ]
  go_wp2
  rw [rounds_succ]
  go_wp2
  exact bodyPost_ret (v := .agg #[.int .u64 (compW s0), .int .u64 (compW s1), .int .u64 (compW s2), .int .u64 (compW s3)]) (by simp [results, Try.results31, go_sem, compW]) rfl ⟨_, _, _, _, rfl, (unhidA HC).1, (unhidA HC).2, rfl⟩
end Go.Proofs.Qxb6605268a
