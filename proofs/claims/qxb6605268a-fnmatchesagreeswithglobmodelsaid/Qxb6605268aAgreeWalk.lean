/-
  DERIVED. The walk of FnMatchesAgreesWithGlobModel (function 3).
-/
import Derived.Test.Qxb6605268aClone
import Derived.Test.Qxb6605268aMatches
import Derived.Test.Qxb6605268aGlob
import Derived.WalkSmall
namespace Go.Proofs.Qxb6605268a
open Go.RowKit
set_option linter.unusedVariables false

theorem agree_far (a b : Option Addr) (n c m d : Nat) (w : World) (h : 4096 < n ∨ 4096 < m) :
    Calls Try.prog 3 #[.slice a n c, .slice b m d] w fun e w' => e = .returned (.bool true) ∧ Below w.heap.size w w' := by
  rcases h with h | h
  all_goals
    go_enter Try.func3, Try.ntmps3
    go_wp2
    all_goals
      go_ret
      exact ⟨rfl, Below.refl _ _⟩

set_option maxHeartbeats 400000 in
set_option maxRecDepth 100000 in
theorem agree_main (a b : Option Addr) (n c m d : Nat) (l r : List Int) (w : World) (h : Sl w a n c l) (hr : Sl w b m d r) (hn : n ≤ 4096) (hm : m ≤ 4096) :
    Calls Try.prog 3 #[.slice a n c, .slice b m d] w fun e w' => e = .returned (.bool true) ∧ Below w.heap.size w w' := by
  go_enter Try.func3, Try.ntmps3
  go_wp2_with (go_at_call 9; go_in)
  refine (clone_any a n c l w h (by omega)).mono ?_
  rintro e w1 ⟨a1, c1, rfl, s1, b1⟩
  go_wp2_with fail
  refine (clone_any b m d r w1 (hr.below b1) (by omega)).mono ?_
  rintro e w2 ⟨a2, c2, rfl, s2, b2⟩
  go_wp2_with fail
  refine (zzmatches_any a1 a2 n c1 m c2 l r w2 (s1.below b2) s2 (by omega) (by omega)).mono ?_
  rintro e w3 ⟨rfl, nd, rfl⟩
  go_wp2_with fail
  refine (glob_any a1 a2 n c1 m c2 l r (w2.drewN nd) ((s1.below b2).drewN nd) (s2.drewN nd) (by omega) (by omega)).mono ?_
  rintro e w4 ⟨rfl, b4⟩
  obtain ⟨v, hv⟩ : ∃ v, v = At l r 0 0 := ⟨_, rfl⟩
  rw [← hv]
  clear hv
  go_wp2
  go_ret
  refine ⟨by simp, ?_⟩
  have t2 : Below w.heap.size w w2 := b1.trans (b2.mono b1.size)
  exact (below_drewN t2 nd).trans (b4.mono t2.size)

theorem agree_walk (a b : Option Addr) (n c m d : Nat) (l r : List Int) (w : World) (h : Sl w a n c l) (hr : Sl w b m d r) :
    Calls Try.prog 3 #[.slice a n c, .slice b m d] w fun e w' => e = .returned (.bool true) ∧ Below w.heap.size w w' := by
  by_cases h1 : 4096 < n ∨ 4096 < m
  · exact agree_far a b n c m d w h1
  · exact agree_main a b n c m d l r w h hr (by omega) (by omega)
end Go.Proofs.Qxb6605268a
