/-
  DERIVED. The walks of zzg1Add (33), zzg1Has (27), zzg1Complement (31).
-/
import Derived.Test.Qxb6605268aBase
import Derived.Test.Qxb6605268aPlainW4
import Derived.Test.Qxb6605268aPlain
namespace Go.Proofs.Qxb6605268a
open Go.RowKit
set_option linter.unusedVariables false

theorem hidA {p : Prop} (h : p) : Hid p := h
theorem unhidA {p : Prop} (h : Hid p) : p := h

set_option maxHeartbeats 400000 in
set_option maxRecDepth 100000 in
theorem has_any (s0 s1 s2 s3 c : Int) (w : World) (hs : (W4.mk s0 s1 s2 s3).ok) (hc : 0 ≤ c ∧ c ≤ 255) :
    Calls Try.prog 27 #[.agg #[.int .u64 s0, .int .u64 s1, .int .u64 s2, .int .u64 s3], .int .u8 c] w fun e w' => e = .returned (.bool ((W4.mk s0 s1 s2 s3).has c)) ∧ w' = w.alloc (.cells #[.int .u64 s0, .int .u64 s1, .int .u64 s2, .int .u64 s3] 34) := by
  obtain ⟨h0, h1⟩ := hc
  have HB := hidA (has_bits ((W4.mk s0 s1 s2 s3).word (c / 64)) (c % 64).toNat (W4.word_ok hs _) (by omega))
  have HE : Hid ((W4.mk s0 s1 s2 s3).has c = (((W4.mk s0 s1 s2 s3).word (c / 64)).toNat.testBit (c % 64).toNat)) := rfl
  rw [← HB.out] at HE
  clear HB
  have hcase : c / 64 = 0 ∨ c / 64 = 1 ∨ c / 64 = 2 ∨ c / 64 = 3 := by omega
  rcases hcase with hd | hd | hd | hd
  all_goals
    rw [hd] at HE
    go_enter Try.func27, Try.ntmps27
    go_wp2
    go_ret
    exact ⟨by rw [unhidA HE]; rfl, rfl⟩

theorem i64_and63 (n : Int) : bits .and .i64 n 63 = n % 64 := by
  have h63 : (BitVec.ofInt 64 63).toNat = 2 ^ 6 - 1 := by decide
  have key : (BitVec.ofInt 64 n &&& BitVec.ofInt 64 63).toNat = (n % ((2 ^ 64 : Nat) : Int)).toNat % 2 ^ 6 := by
    rw [BitVec.toNat_and, BitVec.toNat_ofInt, h63, Nat.and_two_pow_sub_one_eq_mod]
  show IntKind.i64.wrap ((BitVec.ofInt 64 n &&& BitVec.ofInt 64 63).toNat : Nat) = n % 64
  rw [key, IntKind.wrap_i64]
  omega

/-- what the rounds keep: from s, all bytes from lo up to before x. -/
def Arel (s t : W4) (lo x : Int) : Prop := t.ok ∧ ∀ b, 0 ≤ b → b ≤ 255 → t.has b = (s.has b || decide (lo ≤ b ∧ b < x))

theorem Arel.start {s : W4} (h : s.ok) (lo : Int) : Arel s s lo lo := ⟨h, fun b _ _ => by rw [decide_eq_false (by omega), Bool.or_false]⟩
theorem Arel.step {s t : W4} {lo x : Int} (h : Arel s t lo x) (h0 : 0 ≤ x ∧ x ≤ 255) (hlo : lo ≤ x) : Arel s (t.add x) lo (x + 1) :=
  ⟨W4.add_ok h.1 x, fun b b0 b1 => by
    rw [W4.add_has h.1 x b h0 ⟨b0, b1⟩, h.2 b b0 b1, Bool.or_assoc, ← Bool.decide_or]
    congr 1
    exact decide_eq_decide.2 (by omega)⟩
theorem Arel.ended {s t : W4} {lo hi : Int} (h : Arel s t lo (hi + 1)) : ∀ b, 0 ≤ b → b ≤ 255 → t.has b = (s.has b || decide (lo ≤ b ∧ b ≤ hi)) := fun b b0 b1 => by
  rw [h.2 b b0 b1]
  congr 1
  exact decide_eq_decide.2 (by omega)

theorem inRange_le {a c : Int} (h : a ≤ c) (b : Int) : decide (a ≤ b ∧ b ≤ c) = inRange a c b := by unfold inRange; exact decide_eq_decide.2 (by omega)
theorem inRange_ge {a c : Int} (h : c < a) (b : Int) : decide (c ≤ b ∧ b ≤ a) = inRange a c b := by unfold inRange; exact decide_eq_decide.2 (by omega)

set_option maxHeartbeats 1000000 in
set_option maxRecDepth 100000 in
theorem add_any (s0 s1 s2 s3 a c : Int) (w : World) (hs : (W4.mk s0 s1 s2 s3).ok) (ha : 0 ≤ a ∧ a ≤ 255) (hc : 0 ≤ c ∧ c ≤ 255) :
    Calls Try.prog 33 #[.agg #[.int .u64 s0, .int .u64 s1, .int .u64 s2, .int .u64 s3], .int .u8 a, .int .u8 c] w fun e w' =>
      ∃ t0 t1 t2 t3, e = .returned (.agg #[.int .u64 t0, .int .u64 t1, .int .u64 t2, .int .u64 t3]) ∧ (W4.mk t0 t1 t2 t3).ok ∧ (∀ b, 0 ≤ b → b ≤ 255 → (W4.mk t0 t1 t2 t3).has b = ((W4.mk s0 s1 s2 s3).has b || inRange a c b)) ∧
        w' = (w.alloc (.cells #[.int .u64 t0, .int .u64 t1, .int .u64 t2, .int .u64 t3] 34)).alloc (.cells #[.int .u64 t0, .int .u64 t1, .int .u64 t2, .int .u64 t3] 34) := by
  obtain ⟨h0, h1⟩ := hc
  obtain ⟨h2, h3⟩ := ha
  by_cases hac : c < a
  case pos =>
    go_enter Try.func33, Try.ntmps33
    go_wp2
    go_loopw [9] (fun sx wr => ∃ (x t0 t1 t2 t3 : Int), c ≤ x ∧ x ≤ a + 1 ∧ sx = .int .i64 x ∧ wr = ((w.alloc (.cells #[.int .u64 t0, .int .u64 t1, .int .u64 t2, .int .u64 t3] 34)).alloc (.cells #[.int .u64 0, .int .u64 0, .int .u64 0, .int .u64 0] 34)) ∧ Arel ⟨s0, s1, s2, s3⟩ ⟨t0, t1, t2, t3⟩ c x) (fun sx _ => (a + 1 - intOf sx).toNat)
    case atStart => exact ⟨c, s0, s1, s2, s3, by omega, by omega, rfl, rfl, Arel.start hs c⟩
    case round =>
      obtain ⟨x, t0, t1, t2, t3, hx1, hx2, rfl, rfl, HA⟩ := hrel
      by_cases hxa : x ≤ a
      · have hm := i64_and63 x
        have hcase : x / 64 = 0 ∨ x / 64 = 1 ∨ x / 64 = 2 ∨ x / 64 = 3 := by omega
        have HN := hidA (HA.step (by omega) hx1)
        clear HA
        rcases hcase with hd | hd | hd | hd
        all_goals
          unfold W4.add at HN
          rw [hd] at HN
          go_wp2
          go_roundw
          case rel => exact ⟨x + 1, _, _, _, _, by omega, by omega, rfl, rfl, unhidA HN⟩
          case measure => simp [intOf]; omega
      · obtain rfl : x = a + 1 := by omega
        have HF := hidA HA.ended
        have HO := hidA HA.1
        clear HA
        go_wp2
        exact bodyPost_ret (v := .agg #[.int .u64 t0, .int .u64 t1, .int .u64 t2, .int .u64 t3]) (by simp [results, Try.results33, go_sem]) rfl ⟨t0, t1, t2, t3, rfl, unhidA HO, fun b b0 b1 => by rw [unhidA HF b b0 b1, inRange_ge hac], rfl⟩
  case neg =>
    have hac' : a ≤ c := by omega
    clear hac
    go_enter Try.func33, Try.ntmps33
    go_wp2
    go_loopw [9] (fun sx wr => ∃ (x t0 t1 t2 t3 : Int), a ≤ x ∧ x ≤ c + 1 ∧ sx = .int .i64 x ∧ wr = ((w.alloc (.cells #[.int .u64 t0, .int .u64 t1, .int .u64 t2, .int .u64 t3] 34)).alloc (.cells #[.int .u64 0, .int .u64 0, .int .u64 0, .int .u64 0] 34)) ∧ Arel ⟨s0, s1, s2, s3⟩ ⟨t0, t1, t2, t3⟩ a x) (fun sx _ => (c + 1 - intOf sx).toNat)
    case atStart => exact ⟨a, s0, s1, s2, s3, by omega, by omega, rfl, rfl, Arel.start hs a⟩
    case round =>
      obtain ⟨x, t0, t1, t2, t3, hx1, hx2, rfl, rfl, HA⟩ := hrel
      by_cases hxa : x ≤ c
      · have hm := i64_and63 x
        have hcase : x / 64 = 0 ∨ x / 64 = 1 ∨ x / 64 = 2 ∨ x / 64 = 3 := by omega
        have HN := hidA (HA.step (by omega) hx1)
        clear HA
        rcases hcase with hd | hd | hd | hd
        all_goals
          unfold W4.add at HN
          rw [hd] at HN
          go_wp2
          go_roundw
          case rel => exact ⟨x + 1, _, _, _, _, by omega, by omega, rfl, rfl, unhidA HN⟩
          case measure => simp [intOf]; omega
      · obtain rfl : x = c + 1 := by omega
        have HF := hidA HA.ended
        have HO := hidA HA.1
        clear HA
        go_wp2
        exact bodyPost_ret (v := .agg #[.int .u64 t0, .int .u64 t1, .int .u64 t2, .int .u64 t3]) (by simp [results, Try.results33, go_sem]) rfl ⟨t0, t1, t2, t3, rfl, unhidA HO, fun b b0 b1 => by rw [unhidA HF b b0 b1, inRange_le hac'], rfl⟩
end Go.Proofs.Qxb6605268a
