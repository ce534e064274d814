/-
  DERIVED. The walk of FnMatchListRangeIsInterval (function 5).
-/
import Derived.Test.Qxb6605268aClone
import Derived.Test.Qxb6605268aMlist
import Derived.Test.Qxb6605268aApp
import Derived.WalkSmall
import Derived.Test.Qxb6605268aPlainRange
namespace Go.Proofs.Qxb6605268a
open Go.RowKit

theorem ret_bool {a b : Bool} (h : a = b) : Ending.returned (.bool a) = .returned (.bool b) := by rw [h]

set_option maxHeartbeats 400000 in
set_option maxRecDepth 100000 in
theorem range_far (a0 a1 a2 : Int) (a3 : Bool) (a4 : Option Addr) (n c : Nat) (w : World) (h : 4096 < n) :
    Calls Try.prog 5 #[.int .u8 a0, .int .u8 a1, .int .u8 a2, .bool a3, .slice a4 n c] w fun e w' => e = .returned (.bool true) ∧ Below w.heap.size w w' := by
  go_enter Try.func5, Try.ntmps5
  go_wp2
  all_goals
    go_ret
    exact ⟨rfl, Below.refl _ _⟩

set_option maxHeartbeats 400000 in
set_option maxRecDepth 100000 in
theorem range_odd (a0 a1 a2 : Int) (a3 : Bool) (a4 : Option Addr) (n c : Nat) (w : World) (h : n ≤ 4096) (ho : a0 = 94 ∨ a0 = 93 ∨ a0 = 92) :
    Calls Try.prog 5 #[.int .u8 a0, .int .u8 a1, .int .u8 a2, .bool a3, .slice a4 n c] w fun e w' => e = .returned (.bool true) ∧ Below w.heap.size w w' := by
  rcases ho with rfl | rfl | rfl
  all_goals
    go_enter Try.func5, Try.ntmps5
    go_wp2
    go_ret
    exact ⟨rfl, Below.refl _ _⟩

set_option maxHeartbeats 1000000 in
set_option maxRecDepth 100000 in
theorem range_main (lo hi b : Int) (neg : Bool) (a4 : Option Addr) (n c : Nat) (l : List Int) (w : World) (h : Sl w a4 n c l) (hn : n ≤ 4096)
    (h1 : (lo == 94) = false) (h2 : (lo == 93) = false) (h3 : (lo == 92) = false) (hlo : 0 ≤ lo ∧ lo ≤ 255) (hhi : 0 ≤ hi ∧ hi ≤ 255) (hb : 0 ≤ b ∧ b ≤ 255) :
    Calls Try.prog 5 #[.int .u8 lo, .int .u8 hi, .int .u8 b, .bool neg, .slice a4 n c] w fun e w' => e = .returned (.bool true) ∧ Below w.heap.size w w' := by
  obtain ⟨i0, hi0, hz0, hz1, hz2⟩ := info_parts Try.info5
  have hd : decide ((4096 : Int) < (n : Int)) = false := by simp; omega
  cases neg
  case false =>
    go_enter Try.func5, Try.ntmps5
    go_wp2_with (first | (go_at_call 10; refine (clone_any a4 n c l w h (by omega)).mono ?_; rintro e w1 ⟨a', c', rfl, hs, hb1⟩) | (go_at_call 17; go_in) | (at_make; refine wpList_make_own _ rfl _ _ 22 rfl w.heap.size 5 i0 (.int .u8 0) 1 Try.underlying22 hi0 hz0 hz1 _ _ _ (n + 6) rfl rfl (by omega) (by rw [hz2]; omega) (by unfold maxLen; omega) hb1.size ?_; intro w2 hown2 hgrow2) | (at_builtin; refine wpList_app w2 _ rfl (.tmp 43) (.tmp 44) rfl w.heap.size w1.heap.size 0 (n + 6) [] [91] 1 rfl hown2 rfl rfl rfl (by omega) ?_; intro w3 hown3 hgrow3) | (at_builtin; refine wpList_app w3 _ rfl (.tmp 50) (.tmp 53) rfl w.heap.size w1.heap.size 1 (n + 6) [91] [lo, 45, hi, 93] 4 rfl hown3 rfl rfl rfl (by omega) ?_; intro w4 hown4 hgrow4))
    have hB2 : Below w1.heap.size w1 w2 := (Below.refl _ _).grown hgrow2 (Nat.le_refl _) (fun k h => by cases h)
    have hB3 : Below w1.heap.size w1 w3 := hB2.grown hgrow3 hB2.size (fun k h => by cases h; exact Nat.le_refl _)
    have hB4 : Below w1.heap.size w1 w4 := hB3.grown hgrow4 hB3.size (fun k h => by cases h; exact Nat.le_refl _)
    clear hown2 hgrow2 hown3 hgrow3 hgrow4 hB2 hB3
    go_loopw [11, 13] (fun p i wr => ∃ k : Nat, k ≤ n ∧ i = .int .i64 k ∧ p = .slice (some ⟨w1.heap.size, 0, none⟩) (5 + k) (n + 6) ∧ wr.ownsRow w.heap.size 5 1 (.slice (some ⟨w1.heap.size, 0, none⟩) (5 + k) (n + 6)) (5 + k) (([91, lo, 45, hi, 93] ++ l.take k).map (Value.int .u8)) ∧ Below w1.heap.size w1 wr) (fun _ i _ => n - (intOf i).toNat)
    case atStart => exact ⟨0, Nat.zero_le _, rfl, rfl, by simpa using hown4, hB4⟩
    case round =>
      obtain ⟨k, hk, rfl, rfl, hown, hBr⟩ := hrel
      by_cases hkn : k < n
      · obtain ⟨bb, oo, e, hc⟩ := (hs.below hBr).row (by omega)
        cases e
        obtain ⟨x, hx⟩ : ∃ x, x = l.getD k 0 := ⟨_, rfl⟩
        have hcx : wr.cell? ⟨bb, oo + k, none⟩ = some (.int .u8 x) := by rw [hx]; exact hc k hkn
        have HT : Hid (l.take (k + 1) = l.take k ++ [x]) := by
          have hkl : k < l.length := by rw [hs.len]; exact hkn
          have e : l.getD k 0 = l[k] := by simp [hkl]
          rw [hx, e]; exact List.take_succ_eq_append_getElem hkl
        clear hx hc
        go_wp2_with (at_builtin; refine wpList_app wr _ rfl (.tmp 61) (.tmp 66) rfl w.heap.size w1.heap.size (5 + k) (n + 6) ([91, lo, 45, hi, 93] ++ l.take k) [x] 1 rfl hown rfl rfl rfl (by omega) ?_; intro w5 hown5 hgrow5)
        go_roundw
        case rel => exact ⟨k + 1, by omega, by go_num, rfl, by rw [HT.out, ← List.append_assoc]; exact hown5, hBr.grown hgrow5 hBr.size (fun k h => by cases h; exact Nat.le_refl _)⟩
        case measure => simp [intOf]; omega
      · have hm : ∀ W, Sl W (some ⟨w1.heap.size, 0, none⟩) (5 + k) (n + 6) ([91, lo, 45, hi, 93] ++ l) → Calls Try.prog 18 #[.slice (some ⟨w1.heap.size, 0, none⟩) (5 + k) (n + 6), .int .u8 b] W fun e w' => e = .returned (.tuple #[.int .i64 5, .bool (inRange lo hi b)]) ∧ ∃ nd, w' = W.drewN nd := fun W hsl => by
          have := zzmlist_any _ _ _ _ b W hsl (by omega) (by omega) hb
          rw [mlist_range lo hi b l (by simpa using h1) (by simpa using h2) (by simpa using h3)] at this
          exact this
        have hL : l.take k = l := List.take_of_length_le (by rw [hs.len]; omega)
        have hsl : Sl wr (some ⟨w1.heap.size, 0, none⟩) (5 + k) (n + 6) ([91, lo, 45, hi, 93] ++ l) := Sl.of_owned (base := w.heap.size) (by rw [hL] at hown; exact hown) (by
          intro x hx
          have := hs.rng x
          simp at hx
          rcases hx with h | h | h | h | h | h <;> first | (subst h; omega) | exact this h)
        have hm' := hm wr hsl
        have hBw : Below w.heap.size w wr := hb1.trans (hBr.mono hb1.size)
        obtain ⟨v, hv⟩ : ∃ v, v = inRange lo hi b := ⟨_, rfl⟩
        rw [← hv] at hm'
        have HV := hide hv
        clear hv hm hsl hL hown hown4
        go_wp2_with (go_at_call 18; refine hm'.mono ?_; rintro e w' ⟨rfl, nd, rfl⟩)
        all_goals
          go_ret
          refine ⟨ret_bool ?_, below_drewN hBw _⟩
          rw [HV.out]
          simp only [inRange, beq_iff_eq, Bool.not_eq_true', ← Bool.decide_or, decide_eq_decide, decide_eq_true_eq, decide_eq_false_iff_not]
          omega
  case true =>
    go_enter Try.func5, Try.ntmps5
    go_wp2_with (first | (go_at_call 10; refine (clone_any a4 n c l w h (by omega)).mono ?_; rintro e w1 ⟨a', c', rfl, hs, hb1⟩) | (go_at_call 17; go_in) | (at_make; refine wpList_make_own _ rfl _ _ 22 rfl w.heap.size 5 i0 (.int .u8 0) 1 Try.underlying22 hi0 hz0 hz1 _ _ _ (n + 6) rfl rfl (by omega) (by rw [hz2]; omega) (by unfold maxLen; omega) hb1.size ?_; intro w2 hown2 hgrow2) | (at_builtin; refine wpList_app w2 _ rfl (.tmp 43) (.tmp 44) rfl w.heap.size w1.heap.size 0 (n + 6) [] [91] 1 rfl hown2 rfl rfl rfl (by omega) ?_; intro w3 hown3 hgrow3) | (at_builtin; refine wpList_app w3 _ rfl (.tmp 47) (.tmp 48) rfl w.heap.size w1.heap.size 1 (n + 6) [91] [94] 1 rfl hown3 rfl rfl rfl (by omega) ?_; intro w3' hown3' hgrow3') | (at_builtin; refine wpList_app w3' _ rfl (.tmp 50) (.tmp 53) rfl w.heap.size w1.heap.size 2 (n + 6) [91, 94] [lo, 45, hi, 93] 4 rfl hown3' rfl rfl rfl (by omega) ?_; intro w4 hown4 hgrow4))
    have hB2 : Below w1.heap.size w1 w2 := (Below.refl _ _).grown hgrow2 (Nat.le_refl _) (fun k h => by cases h)
    have hB3 : Below w1.heap.size w1 w3 := hB2.grown hgrow3 hB2.size (fun k h => by cases h; exact Nat.le_refl _)
    have hB3' : Below w1.heap.size w1 w3' := hB3.grown hgrow3' hB3.size (fun k h => by cases h; exact Nat.le_refl _)
    have hB4 : Below w1.heap.size w1 w4 := hB3'.grown hgrow4 hB3'.size (fun k h => by cases h; exact Nat.le_refl _)
    clear hown2 hgrow2 hown3 hgrow3 hown3' hgrow3' hgrow4 hB2 hB3 hB3'
    go_loopw [11, 13] (fun p i wr => ∃ k : Nat, k ≤ n ∧ i = .int .i64 k ∧ p = .slice (some ⟨w1.heap.size, 0, none⟩) (6 + k) (n + 6) ∧ wr.ownsRow w.heap.size 5 1 (.slice (some ⟨w1.heap.size, 0, none⟩) (6 + k) (n + 6)) (6 + k) (([91, 94, lo, 45, hi, 93] ++ l.take k).map (Value.int .u8)) ∧ Below w1.heap.size w1 wr) (fun _ i _ => n - (intOf i).toNat)
    case atStart => exact ⟨0, Nat.zero_le _, rfl, rfl, by simpa using hown4, hB4⟩
    case round =>
      obtain ⟨k, hk, rfl, rfl, hown, hBr⟩ := hrel
      by_cases hkn : k < n
      · obtain ⟨bb, oo, e, hc⟩ := (hs.below hBr).row (by omega)
        cases e
        obtain ⟨x, hx⟩ : ∃ x, x = l.getD k 0 := ⟨_, rfl⟩
        have hcx : wr.cell? ⟨bb, oo + k, none⟩ = some (.int .u8 x) := by rw [hx]; exact hc k hkn
        have HT : Hid (l.take (k + 1) = l.take k ++ [x]) := by
          have hkl : k < l.length := by rw [hs.len]; exact hkn
          have e : l.getD k 0 = l[k] := by simp [hkl]
          rw [hx, e]; exact List.take_succ_eq_append_getElem hkl
        clear hx hc
        go_wp2_with (at_builtin; refine wpList_app wr _ rfl (.tmp 61) (.tmp 66) rfl w.heap.size w1.heap.size (6 + k) (n + 6) ([91, 94, lo, 45, hi, 93] ++ l.take k) [x] 1 rfl hown rfl rfl rfl (by omega) ?_; intro w5 hown5 hgrow5)
        go_roundw
        case rel => exact ⟨k + 1, by omega, by go_num, rfl, by rw [HT.out, ← List.append_assoc]; exact hown5, hBr.grown hgrow5 hBr.size (fun k h => by cases h; exact Nat.le_refl _)⟩
        case measure => simp [intOf]; omega
      · have hm : ∀ W, Sl W (some ⟨w1.heap.size, 0, none⟩) (6 + k) (n + 6) ([91, 94, lo, 45, hi, 93] ++ l) → Calls Try.prog 18 #[.slice (some ⟨w1.heap.size, 0, none⟩) (6 + k) (n + 6), .int .u8 b] W fun e w' => e = .returned (.tuple #[.int .i64 6, .bool (!inRange lo hi b)]) ∧ ∃ nd, w' = W.drewN nd := fun W hsl => by
          have := zzmlist_any _ _ _ _ b W hsl (by omega) (by omega) hb
          rw [mlist_range_neg lo hi b l (by simpa using h2) (by simpa using h3)] at this
          exact this
        have hL : l.take k = l := List.take_of_length_le (by rw [hs.len]; omega)
        have hsl : Sl wr (some ⟨w1.heap.size, 0, none⟩) (6 + k) (n + 6) ([91, 94, lo, 45, hi, 93] ++ l) := Sl.of_owned (base := w.heap.size) (by rw [hL] at hown; exact hown) (by
          intro x hx
          have := hs.rng x
          simp at hx
          rcases hx with h | h | h | h | h | h | h <;> first | (subst h; omega) | exact this h)
        have hm' := hm wr hsl
        have hBw : Below w.heap.size w wr := hb1.trans (hBr.mono hb1.size)
        obtain ⟨v, hv⟩ : ∃ v, v = inRange lo hi b := ⟨_, rfl⟩
        rw [← hv] at hm'
        have HV := hide hv
        clear hv hm hsl hL hown hown4
        go_wp2_with (go_at_call 18; refine hm'.mono ?_; rintro e w' ⟨rfl, nd, rfl⟩)
        all_goals
          go_ret
          refine ⟨ret_bool ?_, below_drewN hBw _⟩
          rw [HV.out]
          first | (simp only [inRange, decide_eq_true_eq]; omega) | (by_cases c1 : b ≤ hi <;> by_cases c2 : b ≤ lo <;> simp [inRange, c1, c2] <;> omega)


theorem range_walk (lo hi b : Int) (neg : Bool) (a4 : Option Addr) (n c : Nat) (l : List Int) (w : World) (h : Sl w a4 n c l) (hlo : 0 ≤ lo ∧ lo ≤ 255) (hhi : 0 ≤ hi ∧ hi ≤ 255) (hb : 0 ≤ b ∧ b ≤ 255) :
    Calls Try.prog 5 #[.int .u8 lo, .int .u8 hi, .int .u8 b, .bool neg, .slice a4 n c] w fun e w' => e = .returned (.bool true) ∧ Below w.heap.size w w' := by
  by_cases h1 : 4096 < n
  · exact range_far lo hi b neg a4 n c w h1
  · by_cases h2 : lo = 94 ∨ lo = 93 ∨ lo = 92
    · exact range_odd lo hi b neg a4 n c w (by omega) h2
    · exact range_main lo hi b neg a4 n c l w h (by omega) (by simp; omega) (by simp; omega) (by simp; omega) hlo hhi hb
end Go.Proofs.Qxb6605268a
