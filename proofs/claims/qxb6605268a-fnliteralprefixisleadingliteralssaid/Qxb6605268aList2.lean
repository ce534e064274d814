/-
  DERIVED. The contract of zzg1List (32), whatever the list's length.
-/
import Derived.Test.Qxb6605268aList
namespace Go.Proofs.Qxb6605268a
open Go.RowKit
set_option linter.unusedVariables false

set_option maxHeartbeats 400000 in
set_option maxRecDepth 100000 in
theorem list_one (b0 o0 n c : Nat) (l : List Int) (w : World) (h : Sl w (some ⟨b0, o0, none⟩) n c l) (hn1 : 1 ≤ n) (hn2 : n ≤ 1) :
    Calls Try.prog 32 #[.slice (some ⟨b0, o0, none⟩) n c] w fun e w' =>
      ∃ t0 t1 t2 t3, e = .returned (.tuple #[.agg #[.int .u64 t0, .int .u64 t1, .int .u64 t2, .int .u64 t3], .int .i64 (mlist l 0).1]) ∧ (W4.mk t0 t1 t2 t3).ok ∧ (∀ b, 0 ≤ b → b ≤ 255 → (W4.mk t0 t1 t2 t3).has b = (mlist l b).2) ∧ Below w.heap.size w w' := by
  have HE : Hid (∀ b, mlist l b = (n, false)) := hidA fun b => by
    have e : l.getD 1 0 = 0 := by simp [show l.length ≤ 1 by rw [h.len]; exact hn2]
    unfold mlist
    rw [if_neg (by rw [e]; omega), scan_end b l false 1 (by rw [h.len]; exact hn2), h.len]
    simp; omega
  go_enter Try.func32, Try.ntmps32
  go_wp2
  refine wp_loop_rounds 1 ?_
  rw [rounds_succ]
  go_wp2
  exact bodyPost_ret (v := .tuple #[.agg #[.int .u64 0, .int .u64 0, .int .u64 0, .int .u64 0], .int .i64 (mlist l 0).1]) (by rw [unhidA HE]; simp [results, Try.results32, go_sem]) rfl
    ⟨0, 0, 0, 0, rfl, W4.zero_ok, fun b b0 b1 => by rw [unhidA HE]; exact W4.zero_has b, ((Below.refl _ _).alloc (Nat.le_refl _) _).alloc (by simp) _⟩

theorem list_any (b0 o0 n c : Nat) (l : List Int) (w : World) (h : Sl w (some ⟨b0, o0, none⟩) n c l) (hn : n ≤ 65536) (hn1 : 1 ≤ n) :
    Calls Try.prog 32 #[.slice (some ⟨b0, o0, none⟩) n c] w fun e w' =>
      ∃ t0 t1 t2 t3, e = .returned (.tuple #[.agg #[.int .u64 t0, .int .u64 t1, .int .u64 t2, .int .u64 t3], .int .i64 (mlist l 0).1]) ∧ (W4.mk t0 t1 t2 t3).ok ∧ (∀ b, 0 ≤ b → b ≤ 255 → (W4.mk t0 t1 t2 t3).has b = (mlist l b).2) ∧ Below w.heap.size w w' := by
  by_cases h1 : 1 < n
  · by_cases h94 : l.getD 1 0 = 94
    · exact list_neg b0 o0 n c l w h hn h1 _ rfl (by simpa using h94) (fun b => by unfold mlist; rw [if_pos h94])
    · exact list_pos b0 o0 n c l w h hn h1 _ rfl (by simpa using h94) (fun b => by unfold mlist; rw [if_neg h94])
  · exact list_one b0 o0 n c l w h hn1 (by omega)
end Go.Proofs.Qxb6605268a
