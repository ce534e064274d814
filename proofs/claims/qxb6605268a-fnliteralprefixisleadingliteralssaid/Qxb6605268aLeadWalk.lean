/-
  DERIVED. The walk of FnLiteralPrefixIsLeadingLiterals (function 7).
-/
import Derived.Test.Qxb6605268aClone
import Derived.Test.Qxb6605268aMatches
import Derived.Test.Qxb6605268aLeads
import Derived.Test.Qxb6605268aPlainPre
import Derived.WalkSmall
namespace Go.Proofs.Qxb6605268a
open Go.RowKit
set_option linter.unusedVariables false

theorem lead_far (a b : Option Addr) (n c m d : Nat) (w : World) (h : 4096 < n ∨ 4096 < m) :
    Calls Try.prog 7 #[.slice a n c, .slice b m d] w fun e w' => e = .returned (.bool true) ∧ Below w.heap.size w w' := by
  rcases h with h | h
  all_goals
    go_enter Try.func7, Try.ntmps7
    go_wp2
    all_goals
      go_ret
      exact ⟨rfl, Below.refl _ _⟩

set_option maxHeartbeats 400000 in
set_option maxRecDepth 100000 in
theorem lead_main (a b : Option Addr) (n c m d : Nat) (l r : List Int) (w : World) (h : Sl w a n c l) (hr : Sl w b m d r) (hn : n ≤ 4096) (hm : m ≤ 4096) :
    Calls Try.prog 7 #[.slice a n c, .slice b m d] w fun e w' => e = .returned (.bool true) ∧ Below w.heap.size w w' := by
  have hll := lp_le l
  rw [h.len] at hll
  go_enter Try.func7, Try.ntmps7
  go_wp2_with (go_at_call 20; go_in)
  refine (clone_any a n c l w h (by omega)).mono ?_
  rintro e w1 ⟨a1, c1, rfl, s1, b1⟩
  go_wp2_with fail
  refine (clone_any b m d r w1 (hr.below b1) (by omega)).mono ?_
  rintro e w2 ⟨a2, c2, rfl, s2, b2⟩
  go_wp2_with fail
  refine (zzlp_any a1 n c1 l w2 (s1.below b2) (by omega)).mono ?_
  rintro e w3 ⟨a3, c3, rfl, s3, b3⟩
  go_wp2_with fail
  refine (leads_any a1 n c1 l w3 ((s1.below b2).below b3) (by omega)).mono ?_
  rintro e w4 ⟨a4, c4, rfl, s4, b4⟩
  go_wp2_with fail
  have q1 := equal_any a3 a4 _ c3 _ c4 (lp l) (lp l) w4 (s3.below b4) s4 (by omega) (by omega)
  rw [decide_eq_true (rfl : lp l = lp l)] at q1
  refine q1.mono ?_
  rintro e w' ⟨rfl, nd, rfl⟩
  go_wp2_with fail
  have t2 : Below w.heap.size w w2 := b1.trans (b2.mono b1.size)
  have t3 := t2.trans (b3.mono t2.size)
  have t4 := t3.trans (b4.mono t3.size)
  have s1' := ((s1.below b2).below b3).below b4
  have s2' := (s2.below b3).below b4
  have q2 := zzmatches_any a1 a2 n c1 m c2 l r (w4.drewN nd) (s1'.drewN nd) (s2'.drewN nd) (by omega) (by omega)
  cases hv : At l r 0 0 with
  | false =>
    rw [hv] at q2
    clear hv
    refine q2.mono ?_
    rintro e w' ⟨rfl, nd2, rfl⟩
    go_wp2
    go_ret
    exact ⟨rfl, below_drewN t4 _⟩
  | true =>
    rw [hv] at q2
    have q3 := fun nd2 => hasPrefix_any a2 a3 m c2 _ c3 r (lp l) (w4.drewN (nd + nd2)) (s2'.drewN _) ((s3.below b4).drewN _) (by omega) (by omega)
    rw [decide_eq_true (At_lp l r hv)] at q3
    have Q3 := hidA q3
    clear hv q3
    refine q2.mono ?_
    rintro e w' ⟨rfl, nd2, rfl⟩
    go_wp2_with fail
    refine (unhidA Q3 nd2).mono ?_
    rintro e w' ⟨rfl, nd3, rfl⟩
    go_wp2
    go_ret
    exact ⟨rfl, below_drewN t4 _⟩

theorem lead_walk (a b : Option Addr) (n c m d : Nat) (l r : List Int) (w : World) (h : Sl w a n c l) (hr : Sl w b m d r) :
    Calls Try.prog 7 #[.slice a n c, .slice b m d] w fun e w' => e = .returned (.bool true) ∧ Below w.heap.size w w' := by
  by_cases h1 : 4096 < n ∨ 4096 < m
  · exact lead_far a b n c m d w h1
  · exact lead_main a b n c m d l r w h hr (by omega) (by omega)
end Go.Proofs.Qxb6605268a
