/-
  DERIVED. The walks of zzg1Escape (14) and zzg1Cat (24).
-/
import Derived.Test.Qxb6605268aApp
import Derived.Test.Qxb6605268aPlainLp
namespace Go.Proofs.Qxb6605268a
open Go.RowKit

theorem take_snoc {l : List Int} {k : Nat} (h : k < l.length) : l.take (k + 1) = l.take k ++ [l.getD k 0] := by
  have e : l.getD k 0 = l[k] := by simp [h]
  rw [e]; exact List.take_succ_eq_append_getElem h

set_option maxHeartbeats 400000 in
set_option maxRecDepth 100000 in
/-- zzg1Escape: a new row, with room for one byte more. -/
theorem esc_any (a : Option Addr) (n c : Nat) (l : List Int) (w : World) (h : Sl w a n c l) (hn : n ≤ 4096) :
    Calls Try.prog 14 #[.slice a n c] w fun e w' => e = .returned (.slice (some ⟨w.heap.size, 0, none⟩) (2 * n) (2 * n + 1)) ∧
      w'.ownsRow w.heap.size 5 1 (.slice (some ⟨w.heap.size, 0, none⟩) (2 * n) (2 * n + 1)) (2 * n) ((esc l).map (Value.int .u8)) ∧ Below w.heap.size w w' := by
  obtain ⟨i0, hi0, hz0, hz1, hz2⟩ := info_parts Try.info5
  go_enter Try.func14, Try.ntmps14
  go_wp2_with (at_make; refine wpList_make_own _ rfl _ _ 22 rfl w.heap.size 5 i0 (.int .u8 0) 1 Try.underlying22 hi0 hz0 hz1 _ _ _ (2 * n + 1) rfl rfl (by omega) (by rw [hz2]; omega) (by unfold maxLen; omega) (Nat.le_refl _) ?_; intro w2 hown2 hgrow2)
  have hB2 : Below w.heap.size w w2 := (Below.refl _ _).grown hgrow2 (Nat.le_refl _) (fun k h => by cases h)
  clear hgrow2
  go_loopw [3, 4] (fun p i wr => ∃ k : Nat, k ≤ n ∧ i = .int .i64 k ∧ p = .slice (some ⟨w.heap.size, 0, none⟩) (2 * k) (2 * n + 1) ∧ wr.ownsRow w.heap.size 5 1 (.slice (some ⟨w.heap.size, 0, none⟩) (2 * k) (2 * n + 1)) (2 * k) ((esc (l.take k)).map (Value.int .u8)) ∧ Below w.heap.size w wr) (fun _ i _ => n - (intOf i).toNat)
  case atStart => exact ⟨0, Nat.zero_le _, rfl, rfl, by simpa [esc] using hown2, hB2⟩
  case round =>
    obtain ⟨k, hk, rfl, rfl, hown, hBr⟩ := hrel
    by_cases hkn : k < n
    · obtain ⟨bb, oo, e, hc⟩ := (h.below hBr).row (by omega)
      cases e
      obtain ⟨x, hx⟩ : ∃ x, x = l.getD k 0 := ⟨_, rfl⟩
      have hcx : wr.cell? ⟨bb, oo + k, none⟩ = some (.int .u8 x) := by rw [hx]; exact hc k hkn
      have HT : Hid (esc (l.take (k + 1)) = esc (l.take k) ++ [92, x]) := by
        rw [take_snoc (by rw [h.len]; exact hkn), esc_append, hx]; rfl
      clear hx hc
      go_wp2_with (at_builtin; refine wpList_app wr _ rfl (.tmp 16) (.tmp 21) rfl w.heap.size w.heap.size (2 * k) (2 * n + 1) (esc (l.take k)) [92, x] 2 rfl hown rfl rfl rfl (by omega) ?_; intro w5 hown5 hgrow5)
      go_roundw
      case rel => exact ⟨k + 1, by omega, by go_num, rfl, by rw [HT.out]; exact hown5, hBr.grown hgrow5 hBr.size (fun k h => by cases h; exact Nat.le_refl _)⟩
      case measure => simp [intOf]; omega
    · have hkn' : k = n := by omega
      have hL : l.take k = l := List.take_of_length_le (by rw [h.len]; omega)
      rw [hL] at hown
      clear hL
      subst hkn'
      go_wp2
      go_ret
      exact ⟨rfl, hown, hBr⟩

set_option maxHeartbeats 400000 in
set_option maxRecDepth 100000 in
theorem cat_any (a b : Option Addr) (n c m d : Nat) (l r : List Int) (w : World) (h : Sl w a n c l) (hr : Sl w b m d r) (hn : n ≤ 16384) (hm : m ≤ 16384) :
    Calls Try.prog 24 #[.slice a n c, .slice b m d] w fun e w' => ∃ a' c', e = .returned (.slice a' (n + m) c') ∧ Sl w' a' (n + m) c' (l ++ r) ∧ Below w.heap.size w w' := by
  obtain ⟨i0, hi0, hz0, hz1, hz2⟩ := info_parts Try.info5
  go_enter Try.func24, Try.ntmps24
  go_wp2_with (at_make; refine wpList_make_own _ rfl _ _ 22 rfl w.heap.size 5 i0 (.int .u8 0) 1 Try.underlying22 hi0 hz0 hz1 _ _ _ (n + m) rfl rfl (by omega) (by rw [hz2]; omega) (by unfold maxLen; omega) (Nat.le_refl _) ?_; intro w2 hown2 hgrow2)
  have hB2 : Below w.heap.size w w2 := (Below.refl _ _).grown hgrow2 (Nat.le_refl _) (fun k h => by cases h)
  clear hgrow2
  go_loopw [5, 6] (fun p i wr => ∃ k : Nat, k ≤ n ∧ i = .int .i64 k ∧ p = .slice (some ⟨w.heap.size, 0, none⟩) k (n + m) ∧ wr.ownsRow w.heap.size 5 1 (.slice (some ⟨w.heap.size, 0, none⟩) k (n + m)) k ((l.take k).map (Value.int .u8)) ∧ Below w.heap.size w wr) (fun _ i _ => n - (intOf i).toNat)
  case atStart => exact ⟨0, Nat.zero_le _, rfl, rfl, by simpa using hown2, hB2⟩
  case round =>
    obtain ⟨k, hk, rfl, rfl, hown, hBr⟩ := hrel
    by_cases hkn : k < n
    · obtain ⟨bb, oo, e, hc⟩ := (h.below hBr).row (by omega)
      cases e
      obtain ⟨x, hx⟩ : ∃ x, x = l.getD k 0 := ⟨_, rfl⟩
      have hcx : wr.cell? ⟨bb, oo + k, none⟩ = some (.int .u8 x) := by rw [hx]; exact hc k hkn
      have HT : Hid (l.take (k + 1) = l.take k ++ [x]) := by rw [hx]; exact take_snoc (by rw [h.len]; exact hkn)
      clear hx hc
      go_wp2_with (at_builtin; refine wpList_app wr _ rfl (.tmp 20) (.tmp 25) rfl w.heap.size w.heap.size k (n + m) (l.take k) [x] 1 rfl hown rfl rfl rfl (by omega) ?_; intro w5 hown5 hgrow5)
      go_roundw
      case rel => exact ⟨k + 1, by omega, by go_num, rfl, by rw [HT.out]; exact hown5, hBr.grown hgrow5 hBr.size (fun k h => by cases h; exact Nat.le_refl _)⟩
      case measure => simp [intOf]; omega
    · have hL : l.take k = l := List.take_of_length_le (by rw [h.len]; omega)
      rw [hL] at hown
      clear hL
      go_wp2
      go_loopw [5, 7] (fun p i wr => ∃ j : Nat, j ≤ m ∧ i = .int .i64 j ∧ p = .slice (some ⟨w.heap.size, 0, none⟩) (k + j) (n + m) ∧ wr.ownsRow w.heap.size 5 1 (.slice (some ⟨w.heap.size, 0, none⟩) (k + j) (n + m)) (k + j) ((l ++ r.take j).map (Value.int .u8)) ∧ Below w.heap.size w wr) (fun _ i _ => m - (intOf i).toNat)
      case atStart => exact ⟨0, Nat.zero_le _, rfl, rfl, by simpa using hown, hBr⟩
      case round =>
        clear hown hBr
        obtain ⟨j, hj, rfl, rfl, hown, hBr⟩ := hrel
        by_cases hjn : j < m
        · obtain ⟨bb, oo, e, hc⟩ := (hr.below hBr).row (by omega)
          cases e
          obtain ⟨x, hx⟩ : ∃ x, x = r.getD j 0 := ⟨_, rfl⟩
          have hcx := hc j hjn
          rw [← hx] at hcx
          have HT : Hid (r.take (j + 1) = r.take j ++ [x]) := by rw [hx]; exact take_snoc (by rw [hr.len]; exact hjn)
          clear hx hc
          go_wp2_with (at_builtin; refine wpList_app wr _ rfl (.tmp 33) (.tmp 38) rfl w.heap.size w.heap.size (k + j) (n + m) (l ++ r.take j) [x] 1 rfl hown rfl rfl rfl (by omega) ?_; intro w5 hown5 hgrow5)
          go_roundw
          case rel => exact ⟨j + 1, by omega, by go_num, rfl, by rw [HT.out, ← List.append_assoc]; exact hown5, hBr.grown hgrow5 hBr.size (fun k h => by cases h; exact Nat.le_refl _)⟩
          case measure => simp [intOf]; omega
        · have hL : r.take j = r := List.take_of_length_le (by rw [hr.len]; omega)
          rw [hL] at hown
          have e1 : k = n := by omega
          have e2 : j = m := by omega
          subst e1 e2
          clear hL
          have hsl : Sl wr (some ⟨w.heap.size, 0, none⟩) (k + j) (k + j) (l ++ r) := Sl.of_owned (base := w.heap.size) hown (by
            intro x hx
            rcases List.mem_append.1 hx with h1 | h1
            · exact h.rng x h1
            · exact hr.rng x h1)
          go_wp2
          go_ret
          exact ⟨_, _, rfl, hsl, hBr⟩
end Go.Proofs.Qxb6605268a
