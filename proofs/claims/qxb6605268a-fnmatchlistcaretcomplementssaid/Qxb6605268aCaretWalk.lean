/-
  DERIVED. The walk of FnMatchListCaretComplements (function 6).
-/
import Derived.Test.Qxb6605268aClone
import Derived.Test.Qxb6605268aMlist
import Derived.Test.Qxb6605268aApp
import Derived.Test.Qxb6605268aPlainRange
import Derived.WalkSmall
namespace Go.Proofs.Qxb6605268a
open Go.RowKit

theorem caret_far (a : Option Addr) (n c : Nat) (b : Int) (w : World) (h : 4096 < n) :
    Calls Try.prog 6 #[.slice a n c, .int .u8 b] w fun e w' => e = .returned (.bool true) ∧ Below w.heap.size w w' := by
  go_enter Try.func6, Try.ntmps6
  go_wp2
  all_goals
    go_ret
    exact ⟨rfl, Below.refl _ _⟩

theorem caret_odd (bb oo n c : Nat) (b x : Int) (w : World) (h : n ≤ 4096) (h0 : 0 < n) (hc : w.cell? ⟨bb, oo, none⟩ = some (.int .u8 x)) (hx : (x == 94) = true) :
    Calls Try.prog 6 #[.slice (some ⟨bb, oo, none⟩) n c, .int .u8 b] w fun e w' => e = .returned (.bool true) ∧ Below w.heap.size w w' := by
  go_enter Try.func6, Try.ntmps6
  go_wp2
  go_ret
  exact ⟨rfl, Below.refl _ _⟩

theorem ret_bool' {a b : Bool} (h : a = b) : Ending.returned (.bool a) = .returned (.bool b) := by rw [h]

set_option maxHeartbeats 1000000 in
set_option maxRecDepth 100000 in
theorem caret_main (a : Option Addr) (n c : Nat) (l : List Int) (b : Int) (w : World) (h : Sl w a n c l) (hn : n ≤ 4096) (hb : 0 ≤ b ∧ b ≤ 255) (h94 : l.getD 0 0 ≠ 94) :
    Calls Try.prog 6 #[.slice a n c, .int .u8 b] w fun e w' => e = .returned (.bool true) ∧ Below w.heap.size w w' := by
  obtain ⟨i0, hi0, hz0, hz1, hz2⟩ := info_parts Try.info5
  have hd : decide ((4096 : Int) < (n : Int)) = false := by simp; omega
  have H94 := hide h94
  clear h94
  have hcase : (n ≤ 0 ∧ decide ((0 : Int) < (n : Int)) = false) ∨ (0 < n ∧ ∃ bb oo x, a = some ⟨bb, oo, none⟩ ∧ w.cell? ⟨bb, oo, none⟩ = some (.int .u8 x) ∧ (x == 94) = false) := by
    by_cases h0 : 0 < n
    · obtain ⟨bb, oo, e, hc⟩ := h.row h0
      exact .inr ⟨h0, bb, oo, l.getD 0 0, e, by simpa using hc 0 h0, by simpa using unhide H94⟩
    · exact .inl ⟨by omega, by simp; omega⟩
  rcases hcase with ⟨h0, hd0⟩ | ⟨h0, bb, oo, x, rfl, hcx, hx⟩
  all_goals
    go_enter Try.func6, Try.ntmps6
    go_wp2_with (first | (go_at_call 10; refine (clone_any _ n c l w h (by omega)).mono ?_; rintro e w1 ⟨a', c', rfl, hs, hb1⟩) | (go_at_call 19; go_in) | (at_make; refine wpList_make_own _ rfl _ (.tmp 32) 22 rfl w.heap.size 5 i0 (.int .u8 0) 1 Try.underlying22 hi0 hz0 hz1 _ _ _ (n + 1) rfl rfl (by omega) (by rw [hz2]; omega) (by unfold maxLen; omega) hb1.size ?_; intro w2 hown2 hgrow2) | (at_builtin; refine wpList_app w2 _ rfl (.tmp 34) (.tmp 35) rfl w.heap.size w1.heap.size 0 (n + 1) [] [91] 1 rfl hown2 rfl rfl rfl (by omega) ?_; intro w3 hown3 hgrow3; have hB2 : Below w1.heap.size w1 w2 := (Below.refl _ _).grown hgrow2 (Nat.le_refl _) (fun k h => by cases h); have hB3 : Below w1.heap.size w1 w3 := hB2.grown hgrow3 hB2.size (fun k h => by cases h; exact Nat.le_refl _)) | (at_make; refine wpList_make_own _ rfl _ (.tmp 39) 22 rfl w.heap.size 5 i0 (.int .u8 0) 1 Try.underlying22 hi0 hz0 hz1 _ _ _ (n + 2) rfl rfl (by omega) (by rw [hz2]; omega) (by unfold maxLen; omega) (Nat.le_trans hb1.size hB3.size) ?_; intro w4 hown4 hgrow4) | (at_builtin; refine wpList_app w4 _ rfl (.tmp 41) (.tmp 42) rfl w.heap.size w3.heap.size 0 (n + 2) [] [91, 94] 2 rfl hown4 rfl rfl rfl (by omega) ?_; intro w5 hown5 hgrow5))
  all_goals
    have hB4 : Below w1.heap.size w1 w4 := hB3.grown hgrow4 hB3.size (fun k h => by cases h)
    have hB5 : Below w1.heap.size w1 w5 := hB4.grown hgrow5 hB4.size (fun k h => by cases h; exact hB3.size)
    have hlt : w1.heap.size < w3.heap.size := ((hown3.lt _ rfl).2)
    have hown3' := (hown3.kept hgrow4 (.inr (by simp [Value.ownBlock]))).kept hgrow5 (.inr (by simp [Value.ownBlock]; omega))
    clear hown2 hgrow2 hown3 hgrow3 hgrow4 hown4 hgrow5 hB2 hB4
    go_loopw [5, 6, 7] (fun p q i wr => ∃ k : Nat, k ≤ n ∧ i = .int .i64 k ∧ p = .slice (some ⟨w1.heap.size, 0, none⟩) (1 + k) (n + 1) ∧ q = .slice (some ⟨w3.heap.size, 0, none⟩) (2 + k) (n + 2) ∧ wr.ownsRow w.heap.size 5 1 (.slice (some ⟨w1.heap.size, 0, none⟩) (1 + k) (n + 1)) (1 + k) (([91] ++ l.take k).map (Value.int .u8)) ∧ wr.ownsRow w.heap.size 5 1 (.slice (some ⟨w3.heap.size, 0, none⟩) (2 + k) (n + 2)) (2 + k) (([91, 94] ++ l.take k).map (Value.int .u8)) ∧ Below w1.heap.size w1 wr) (fun _ _ i _ => n - (intOf i).toNat)
    case atStart => exact ⟨0, Nat.zero_le _, rfl, rfl, rfl, by simpa using hown3', by simpa using hown5, hB5⟩
    case round =>
      obtain ⟨k, hk, rfl, rfl, rfl, hp, hq, hBr⟩ := hrel
      by_cases hkn : k < n
      · first
        | (exfalso; omega)
        | (obtain ⟨bb', oo', e, hc⟩ := (hs.below hBr).row (by omega)
           cases e
           obtain ⟨y, hy⟩ : ∃ x, x = l.getD k 0 := ⟨_, rfl⟩
           have hcy : w1.cell? ⟨bb', oo' + k, none⟩ = some (.int .u8 y) := by rw [hy]; obtain ⟨_, _, e, hc⟩ := hs.row (by omega); cases e; exact hc k hkn
           have hcyr := cell_later hBr hcy
           have HT : Hid (l.take (k + 1) = l.take k ++ [y]) := by
             have hkl : k < l.length := by rw [hs.len]; exact hkn
             have e : l.getD k 0 = l[k] := by simp [hkl]
             rw [hy, e]; exact List.take_succ_eq_append_getElem hkl
           clear hy hc
           go_wp2_with (first | (at_builtin; refine wpList_app wr _ rfl (.tmp 50) (.tmp 55) rfl w.heap.size w1.heap.size (1 + k) (n + 1) ([91] ++ l.take k) [y] 1 rfl hp rfl rfl rfl (by omega) ?_; intro w6 hown6 hgrow6; have hB6 : Below w1.heap.size w1 w6 := hBr.grown hgrow6 hBr.size (fun k h => by cases h; exact Nat.le_refl _); have hcy6 := cell_later hB6 hcy; have hq6 := hq.kept hgrow6 (.inr (by simp [Value.ownBlock]; omega))) | (at_builtin; refine wpList_app w6 _ rfl (.tmp 57) (.tmp 62) rfl w.heap.size w3.heap.size (2 + k) (n + 2) ([91, 94] ++ l.take k) [y] 1 rfl hq6 rfl rfl rfl (by omega) ?_; intro w7 hown7 hgrow7))
           go_roundw
           case rel => exact ⟨k + 1, by omega, by go_num, rfl, rfl, by rw [HT.out, ← List.append_assoc]; exact hown6.kept hgrow7 (.inr (by simp [Value.ownBlock]; omega)), by rw [HT.out, ← List.append_assoc]; exact hown7, hB6.grown hgrow7 hB6.size (fun k h => by cases h; omega)⟩
           case measure => simp [intOf]; omega)
      · have hL : l.take k = l := List.take_of_length_le (by rw [hs.len]; omega)
        have r1 : ∀ x ∈ [91] ++ l, (0 : Int) ≤ x ∧ x ≤ 255 := by
          intro x hx
          have := hs.rng x
          simp at hx
          rcases hx with h | h <;> first | (subst h; omega) | exact this h
        have r2 : ∀ x ∈ [91, 94] ++ l, (0 : Int) ≤ x ∧ x ≤ 255 := by
          intro x hx
          have := hs.rng x
          simp at hx
          rcases hx with h | h | h <;> first | (subst h; omega) | exact this h
        rw [hL] at hp hq
        have s1 : Sl wr (some ⟨w1.heap.size, 0, none⟩) (1 + k) (n + 1) ([91] ++ l) := Sl.of_owned (base := w.heap.size) hp r1
        have s2 : Sl wr (some ⟨w3.heap.size, 0, none⟩) (2 + k) (n + 2) ([91, 94] ++ l) := Sl.of_owned (base := w.heap.size) hq r2
        have m1 := zzmlist_any _ _ _ _ b wr s1 (by omega) (by omega) hb
        have m2 : ∀ nd, _ := fun nd => zzmlist_any _ _ _ _ b (wr.drewN nd) (s2.drewN nd) (by omega) (by omega) hb
        obtain ⟨e1, e2, e3, e4⟩ := mlist_caret l b (unhide H94)
        simp only [List.cons_append, List.nil_append] at m1 m2
        rw [e1, e2] at m2
        obtain ⟨t, ht⟩ : ∃ t, t = mlist (91 :: l) b := ⟨_, rfl⟩
        rw [← ht] at m1 m2 e3 e4
        obtain ⟨j, v⟩ := t
        have hBw : Below w.heap.size w wr := hb1.trans (hBr.mono hb1.size)
        have hl : l.length = n := hs.len
        have e3' : 1 ≤ j := e3
        have e4' : j ≤ n + 1 := by rw [← hl]; exact e4
        clear e1 e2 e3 e4 ht s1 s2 hp hq hL r1 r2 hl
        have ej : ((j + 1 : Nat) : Int) = (j : Int) + 1 := by omega
        simp only [ej] at m2
        clear ej
        have H2 := hide m2
        clear m2
        go_wp2_with fail
        refine m1.mono ?_
        rintro e w' ⟨rfl, nd, rfl⟩
        go_wp2_with fail
        refine (unhide H2 nd).mono ?_
        rintro e w' ⟨rfl, nd2, rfl⟩
        go_wp2
        all_goals
          go_ret
          exact ⟨ret_bool' rfl, below_drewN hBw _⟩

theorem caret_walk (a : Option Addr) (n c : Nat) (l : List Int) (b : Int) (w : World) (h : Sl w a n c l) (hb : 0 ≤ b ∧ b ≤ 255) :
    Calls Try.prog 6 #[.slice a n c, .int .u8 b] w fun e w' => e = .returned (.bool true) ∧ Below w.heap.size w w' := by
  by_cases h1 : 4096 < n
  · exact caret_far a n c b w h1
  · by_cases h2 : l.getD 0 0 = 94
    · by_cases h0 : 0 < n
      · obtain ⟨bb, oo, rfl, hc⟩ := h.row h0
        exact caret_odd bb oo n c b 94 w (by omega) h0 (by have := hc 0 h0; rw [h2] at this; simpa using this) rfl
      · have : l = [] := List.eq_nil_of_length_eq_zero (by have := h.len; omega)
        rw [this] at h2; simp at h2
    · exact caret_main a n c l b w h (by omega) hb h2

end Go.Proofs.Qxb6605268a
