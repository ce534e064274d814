/-
  DERIVED. The walk of matchOne (function 30).
-/
import Derived.Test.Qxb6605268aMlist
import Derived.Test.Qxb6605268aPlainGlob
namespace Go.Proofs.Qxb6605268a
open Go.RowKit
set_option linter.unusedVariables false

set_option maxHeartbeats 400000 in
set_option maxRecDepth 100000 in
theorem mone_any (a : Option Addr) (n c : Nat) (l : List Int) (b : Int) (w : World) (h : Sl w a n c l) (hn : n ≤ 1048576) (hn1 : 1 ≤ n) (hb : 0 ≤ b ∧ b ≤ 255) :
    Calls Try.prog 30 #[.slice a n c, .int .u8 b] w fun e w' => e = .returned (.tuple #[.int .i64 (mone l b).1, .bool (mone l b).2]) ∧ ∃ nd, w' = w.drewN nd := by
  have hlen := h.len
  obtain ⟨b0, o0, rfl, hc⟩ := h.row (by omega)
  obtain ⟨x, hx⟩ : ∃ x, x = l.getD 0 0 := ⟨_, rfl⟩
  have hcx : w.cell? ⟨b0, o0, none⟩ = some (.int .u8 x) := by rw [hx]; simpa using hc 0 (by omega)
  have HX := hide hx
  clear hx
  have hn0 : (0 : Int) < (n : Int) := by omega
  by_cases h63 : (x == 63) = true
  case pos =>
    have HE : Hid (mone l b = (1, true)) := by
      show mone l b = _
      unfold mone; rw [if_pos (by rw [← HX.out]; simpa using h63)]
    clear hc
    go_enter Try.func30, Try.ntmps30
    go_wp2
    go_ret2
    exact ⟨by rw [unhide HE]; rfl, 0, rfl⟩
  have h63' : (x == 63) = false := by simpa using h63
  have N63 : Hid (¬ l.getD 0 0 = 63) := by rw [← HX.out]; show ¬ x = 63; simpa using h63'
  clear h63
  by_cases h91 : (x == 91) = true
  case pos =>
    have HE : Hid (mone l b = mlist l b) := by
      show mone l b = _
      unfold mone; rw [if_neg N63.out, if_pos (by rw [← HX.out]; simpa using h91)]
    clear hc
    have hq := mlist_any (some ⟨b0, o0, none⟩) n c l b w h hn hn1 hb
    rw [← HE.out] at hq
    go_enter Try.func30, Try.ntmps30
    go_wp2_with fail
    refine hq.mono ?_
    rintro e w' ⟨rfl, nd, rfl⟩
    go_wp2
    go_ret2
    exact ⟨rfl, _, rfl⟩
  have h91' : (x == 91) = false := by simpa using h91
  have N91 : Hid (¬ l.getD 0 0 = 91) := by rw [← HX.out]; show ¬ x = 91; simpa using h91'
  clear h91
  by_cases h92 : (x == 92) = true ∧ 1 < n
  case pos =>
    obtain ⟨h92, h1⟩ := h92
    have h1' : (1 : Int) < (n : Int) := by omega
    obtain ⟨y, hy⟩ : ∃ x, x = l.getD 1 0 := ⟨_, rfl⟩
    have hcy := hc 1 h1
    rw [← hy] at hcy
    have HE : Hid (mone l b = (2, y == b)) := by
      show mone l b = _
      unfold mone; rw [if_neg N63.out, if_neg N91.out, if_pos ⟨by rw [← HX.out]; simpa using h92, by omega⟩, ← hy]
    clear hc hy
    go_enter Try.func30, Try.ntmps30
    go_wp2
    go_quiet (fail)
    go_wp2
    go_ret2
    exact ⟨by rw [unhide HE]; rfl, _, rfl⟩
  have HE : Hid (mone l b = (1, x == b)) := by
    show mone l b = _
    unfold mone; rw [if_neg N63.out, if_neg N91.out, if_neg (fun e => h92 ⟨by rw [HX.out]; simpa using e.1, by omega⟩), ← HX.out]
  clear hc
  by_cases h92' : (x == 92) = true
  · have h1 : ¬ 1 < n := fun e => h92 ⟨h92', e⟩
    clear h92
    go_enter Try.func30, Try.ntmps30
    go_wp2
    go_quiet (fail)
    go_wp2
    go_ret2
    exact ⟨by rw [unhide HE]; rfl, _, rfl⟩
  · have h92f : (x == 92) = false := by simpa using h92'
    clear h92 h92'
    go_enter Try.func30, Try.ntmps30
    go_wp2
    go_quiet (fail)
    go_wp2
    go_ret2
    exact ⟨by rw [unhide HE]; rfl, _, rfl⟩
end Go.Proofs.Qxb6605268a
