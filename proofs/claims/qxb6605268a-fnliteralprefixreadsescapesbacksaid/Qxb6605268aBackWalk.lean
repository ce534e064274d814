/-
  DERIVED. The walk of FnLiteralPrefixReadsEscapesBack (function 8).
-/
import Derived.Test.Qxb6605268aClone
import Derived.Test.Qxb6605268aLp
import Derived.WalkSmall
namespace Go.Proofs.Qxb6605268a
open Go.RowKit
set_option linter.unusedVariables false

theorem back_far (a b : Option Addr) (n c m d : Nat) (w : World) (h : 4096 < n ∨ 4096 < m) :
    Calls Try.prog 8 #[.slice a n c, .slice b m d] w fun e w' => e = .returned (.bool true) ∧ Below w.heap.size w w' := by
  rcases h with h | h
  all_goals
    go_enter Try.func8, Try.ntmps8
    go_wp2
    all_goals
      go_ret
      exact ⟨rfl, Below.refl _ _⟩

set_option maxHeartbeats 400000 in
set_option maxRecDepth 100000 in
theorem back_main (a b : Option Addr) (n c m d : Nat) (l r : List Int) (w : World) (h : Sl w a n c l) (hr : Sl w b m d r) (hn : n ≤ 4096) (hm : m ≤ 4096) :
    Calls Try.prog 8 #[.slice a n c, .slice b m d] w fun e w' => e = .returned (.bool true) ∧ Below w.heap.size w w' := by
  have hlr := lp_le r
  rw [hr.len] at hlr
  go_enter Try.func8, Try.ntmps8
  go_wp2_with (go_at_call 23; go_in)
  refine (clone_any a n c l w h (by omega)).mono ?_
  rintro e w1 ⟨a1, c1, rfl, s1, b1⟩
  go_wp2_with fail
  refine (clone_any b m d r w1 (hr.below b1) (by omega)).mono ?_
  rintro e w2 ⟨a2, c2, rfl, s2, b2⟩
  go_wp2_with fail
  refine (esc_any a1 n c1 l w2 (s1.below b2) hn).mono ?_
  rintro e w3 ⟨rfl, o3, b3⟩
  go_wp2_with fail
  refine (cat_any _ a2 _ _ m c2 (esc l) r w3 (Sl.of_owned o3 (esc_rng s1.rng)) (s2.below b3) (by omega) (by omega)).mono ?_
  rintro e w4 ⟨a4, c4, rfl, s4, b4⟩
  go_wp2_with fail
  refine (zzlp_any a4 _ c4 _ w4 s4 (by omega)).mono ?_
  rintro e w5 ⟨a5, c5, rfl, s5, b5⟩
  go_wp2_with fail
  have s2' := ((s2.below b3).below b4).below b5
  refine (zzlp_any a2 m c2 r w5 s2' (by omega)).mono ?_
  rintro e w6 ⟨a6, c6, rfl, s6, b6⟩
  go_wp2_with fail
  have s1' := ((((s1.below b2).below b3).below b4).below b5).below b6
  refine (cat_any a1 a6 n c1 _ c6 l (lp r) w6 s1' s6 (by omega) (by omega)).mono ?_
  rintro e w7 ⟨a7, c7, rfl, s7, b7⟩
  go_wp2_with fail
  have e1 : (lp (esc l ++ r)).length ≤ 2 * n + m := by have := lp_le (esc l ++ r); rw [s4.len] at this; exact this
  refine (equal_any a5 a7 _ c5 _ c7 _ _ w7 ((s5.below b6).below b7) s7 (by omega) (by omega)).mono ?_
  rintro e w8 ⟨rfl, nd, rfl⟩
  go_wp2
  go_ret
  refine ⟨?_, below_drewN ?_ _⟩
  · rw [lp_esc]; simp
  · have t1 := b1
    have t2 := t1.trans (b2.mono t1.size)
    have t3 := t2.trans (b3.mono t2.size)
    have t4 := t3.trans (b4.mono t3.size)
    have t5 := t4.trans (b5.mono t4.size)
    have t6 := t5.trans (b6.mono t5.size)
    exact t6.trans (b7.mono t6.size)

theorem back_walk (a b : Option Addr) (n c m d : Nat) (l r : List Int) (w : World) (h : Sl w a n c l) (hr : Sl w b m d r) :
    Calls Try.prog 8 #[.slice a n c, .slice b m d] w fun e w' => e = .returned (.bool true) ∧ Below w.heap.size w w' := by
  by_cases h1 : 4096 < n ∨ 4096 < m
  · exact back_far a b n c m d w h1
  · exact back_main a b n c m d l r w h hr (by omega) (by omega)
end Go.Proofs.Qxb6605268a
