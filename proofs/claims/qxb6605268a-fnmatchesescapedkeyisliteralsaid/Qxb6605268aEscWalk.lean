/-
  DERIVED. The walk of FnMatchesEscapedKeyIsLiteral (function 4).
-/
import Derived.Test.Qxb6605268aClone
import Derived.Test.Qxb6605268aMatches
import Derived.Test.Qxb6605268aEsc
import Derived.Test.Qxb6605268aEq
import Derived.Test.Qxb6605268aPlainEsc
import Derived.WalkSmall
namespace Go.Proofs.Qxb6605268a
open Go.RowKit
set_option linter.unusedVariables false

theorem lit_far (a b : Option Addr) (n c m d : Nat) (w : World) (h : 4096 < n ∨ 4096 < m) :
    Calls Try.prog 4 #[.slice a n c, .slice b m d] w fun e w' => e = .returned (.bool true) ∧ Below w.heap.size w w' := by
  rcases h with h | h
  all_goals
    go_enter Try.func4, Try.ntmps4
    go_wp2
    all_goals
      go_ret
      exact ⟨rfl, Below.refl _ _⟩

theorem ret_bool'' {a b : Bool} (h : a = b) : Ending.returned (.bool a) = .returned (.bool b) := by rw [h]

set_option maxHeartbeats 400000 in
set_option maxRecDepth 100000 in
theorem lit_main (a b : Option Addr) (n c m d : Nat) (l r : List Int) (w : World) (h : Sl w a n c l) (hr : Sl w b m d r) (hn : n ≤ 4096) (hm : m ≤ 4096) :
    Calls Try.prog 4 #[.slice a n c, .slice b m d] w fun e w' => e = .returned (.bool true) ∧ Below w.heap.size w w' := by
  go_enter Try.func4, Try.ntmps4
  go_wp2_with (go_at_call 13; go_in)
  refine (clone_any a n c l w h (by omega)).mono ?_
  rintro e w1 ⟨a1, c1, rfl, s1, b1⟩
  go_wp2_with fail
  refine (clone_any b m d r w1 (hr.below b1) (by omega)).mono ?_
  rintro e w2 ⟨a2, c2, rfl, s2, b2⟩
  go_wp2_with fail
  refine (esc_any a1 n c1 l w2 (s1.below b2) hn).mono ?_
  rintro e w3 ⟨rfl, o3, b3⟩
  have s3 := Sl.of_owned o3 (esc_rng s1.rng)
  clear o3
  go_wp2_with fail
  refine (esc_any a1 n c1 l w3 ((s1.below b2).below b3) hn).mono ?_
  rintro e w4 ⟨rfl, o4, b4⟩
  go_wp2_with (at_builtin; refine wpList_app w4 _ rfl (.tmp 24) (.tmp 25) rfl w3.heap.size w3.heap.size (2 * n) (2 * n + 1) (esc l) [42] 1 rfl o4 rfl rfl rfl (by omega) ?_; intro w5 o5 g5)
  have b45 : Below w3.heap.size w3 w5 := b4.grown g5 b4.size (fun k h => by cases h; exact Nat.le_refl _)
  have s5 := Sl.of_owned o5 (by
    intro x hx
    rcases List.mem_append.1 hx with h1 | h1
    · exact esc_rng s1.rng x h1
    · simp at h1; subst h1; omega)
  clear o4 o5 g5
  have s1' := ((s1.below b2).below b3).below b45
  have s2' := (s2.below b3).below b45
  have s3' := s3.below b45
  have q1 := zzmatches_any _ _ _ _ _ _ (esc l) r w5 s3' s2' (by omega) (by omega)
  rw [At_esc] at q1
  refine q1.mono ?_
  rintro e w' ⟨rfl, nd, rfl⟩
  go_wp2_with fail
  refine (equal_any a1 a2 n c1 m c2 l r (w5.drewN nd) (s1'.drewN nd) (s2'.drewN nd) (by omega) (by omega)).mono ?_
  rintro e w' ⟨rfl, nd2, rfl⟩
  obtain ⟨v, hv⟩ : ∃ v, v = decide (l = r) := ⟨_, rfl⟩
  rw [← hv]
  clear hv
  go_wp2_with fail
  have q2 := zzmatches_any _ _ _ _ _ _ (esc l ++ [42]) r (w5.drewN (nd + nd2)) (s5.drewN _) (s2'.drewN _) (by omega) (by omega)
  rw [At_open] at q2
  refine q2.mono ?_
  rintro e w' ⟨rfl, nd3, rfl⟩
  go_wp2_with fail
  have q3 := hasPrefix_any a2 a1 m c2 n c1 r l (w5.drewN (nd + nd2 + nd3)) (s2'.drewN _) (s1'.drewN _) (by omega) (by omega)
  refine q3.mono ?_
  rintro e w' ⟨rfl, nd4, rfl⟩
  go_wp2
  go_ret
  refine ⟨ret_bool'' ?_, ?_⟩
  · simp
  · refine below_drewN ?_ _
    have t1 := b1
    have t2 := t1.trans (b2.mono t1.size)
    have t3 := t2.trans (b3.mono t2.size)
    exact t3.trans (b45.mono t3.size)

theorem lit_walk (a b : Option Addr) (n c m d : Nat) (l r : List Int) (w : World) (h : Sl w a n c l) (hr : Sl w b m d r) :
    Calls Try.prog 4 #[.slice a n c, .slice b m d] w fun e w' => e = .returned (.bool true) ∧ Below w.heap.size w w' := by
  by_cases h1 : 4096 < n ∨ 4096 < m
  · exact lit_far a b n c m d w h1
  · exact lit_main a b n c m d l r w h hr (by omega) (by omega)
end Go.Proofs.Qxb6605268a
