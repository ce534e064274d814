/-
  DERIVED. The walks of literalPrefix (29), ZZliteralPrefix (21).
-/
import Derived.Test.Qxb6605268aEsc
import Derived.Test.Qxb6605268aEq
namespace Go.Proofs.Qxb6605268a
open Go.RowKit
set_option linter.unusedVariables false

theorem Sl.of_owned_any {w : World} {base n : Nat} {v : Value} {l : List Int} (h : w.ownsRow base 5 1 v n (l.map (Value.int .u8))) (hr : ∀ x ∈ l, 0 ≤ x ∧ x ≤ 255) : ∃ a c, v = .slice a n c ∧ Sl w a n c l := by
  rcases h.2 with ⟨rfl, rfl⟩ | ⟨g, cap, cur, rfl, hh⟩
  · have : l = [] := List.eq_nil_of_length_eq_zero (by simpa using h.1)
    subst this
    exact ⟨none, 0, rfl, rfl, Nat.le_refl _, hr, fun _ => ⟨rfl, rfl⟩, fun h => by omega⟩
  · exact ⟨_, _, rfl, Sl.of_owned (base := base) h hr⟩

theorem own_ge {w : World} {base n : Nat} {v : Value} {xs : List Value} (h : w.ownsRow base 5 1 v n xs) {B : Nat} (hB : B ≤ base) : ∀ k, v.ownBlock = some k → B ≤ k := fun k hk => Nat.le_trans hB (h.lt k hk).1

def Lrel (l : List Int) (k m : Nat) (pre : List Int) : Prop := pre.length = m ∧ m ≤ k ∧ pre ++ lp (l.drop k) = lp l

set_option maxHeartbeats 1000000 in
set_option maxRecDepth 100000 in
theorem lp_any (a : Option Addr) (n c : Nat) (l : List Int) (w : World) (h : Sl w a n c l) (hn : n ≤ 65536) :
    Calls Try.prog 29 #[.slice a n c] w fun e w' => ∃ a' c', e = .returned (.slice a' (lp l).length c') ∧ Sl w' a' (lp l).length c' (lp l) ∧ Below w.heap.size w w' := by
  have hlen := h.len
  have hlr : ∀ x ∈ lp l, 0 ≤ x ∧ x ≤ 255 := fun x hx => h.rng x (lp_mem l x hx)
  have HLR := hid hlr
  clear hlr
  go_enter Try.func29, Try.ntmps29
  go_wp2
  go_loopw [3, 4] (fun p i wr => ∃ (k m : Nat) (pre : List Int), k ≤ n ∧ i = .int .i64 k ∧ Lrel l k m pre ∧ wr.ownsRow w.heap.size 5 1 p m (pre.map (Value.int .u8)) ∧ Below w.heap.size w wr) (fun _ i _ => n - (intOf i).toNat)
  case atStart => exact ⟨0, 0, [], Nat.zero_le _, rfl, ⟨rfl, Nat.le_refl _, by simp⟩, World.ownsRow_nil _ _ _ _, Below.refl _ _⟩
  case round =>
    obtain ⟨k, m, pre, hk, rfl, HL, hown, hBr⟩ := hrel
    have hmk := HL.2.1
    have ended : Hid (lp (l.drop k) = [] → ∃ a' c', u3 = .slice a' (lp l).length c' ∧ Sl wr a' (lp l).length c' (lp l)) := hid fun e => by
      have e2 := HL.2.2
      rw [e, List.append_nil] at e2
      subst e2
      have := HL.1
      subst this
      exact Sl.of_owned_any hown (unhid HLR)
    by_cases hkn : k < n
    case neg =>
      obtain ⟨a', c', hv, hS⟩ := unhid ended (lp_end l k (by omega))
      subst hv
      clear ended
      go_wp2
      go_ret
      exact ⟨_, _, rfl, hS, hBr⟩
    obtain ⟨bb, oo, e, hc⟩ := (h.below hBr).row (by omega)
    cases e
    obtain ⟨x, hx⟩ : ∃ x, x = l.getD k 0 := ⟨_, rfl⟩
    have hcx := hc k hkn
    rw [← hx] at hcx
    have HX := hid hx
    clear hx
    by_cases hsp : special x = true
    case pos =>
      obtain ⟨a', c', hv, hS⟩ := unhid ended (lp_special l k (by omega) (by rw [← HX.out]; exact hsp))
      subst hv
      clear ended hc
      have hcase : (x == 42) = true ∨ ((x == 42) = false ∧ (x == 63) = true) ∨ ((x == 42) = false ∧ (x == 63) = false ∧ (x == 91) = true) := by
        revert hsp; unfold special
        cases x == 42 <;> cases x == 63 <;> cases x == 91 <;> simp
      clear hsp
      rcases hcase with h1 | ⟨h1, h2⟩ | ⟨h1, h2, h3⟩
      all_goals
        go_wp2
        go_ret
        exact ⟨_, _, rfl, hS, hBr⟩
    have hsp' : special x = false := by simpa using hsp
    have HNS : Hid (special (l.getD k 0) = false) := by rw [← HX.out]; exact hsp'
    have h42 : (x == 42) = false := by revert hsp'; unfold special; cases x == 42 <;> simp
    have h63 : (x == 63) = false := by revert hsp'; unfold special; cases x == 42 <;> cases x == 63 <;> simp
    have h91 : (x == 91) = false := by revert hsp'; unfold special; cases x == 42 <;> cases x == 63 <;> cases x == 91 <;> simp
    clear hsp hsp' ended
    have hge := own_ge hown (Nat.le_refl _)
    have HG := hid hge
    clear hge
    have hbase := hBr.size
    by_cases hbs : (x == 92) = true ∧ k + 1 < n
    case pos =>
      obtain ⟨h92, hk1⟩ := hbs
      obtain ⟨y, hy⟩ : ∃ x, x = l.getD (k + 1) 0 := ⟨_, rfl⟩
      have hcy := hc (k + 1) hk1
      rw [← hy] at hcy
      have HN : Hid (Lrel l (k + 2) (m + 1) (pre ++ [y])) := ⟨by simp [HL.1], by omega, by
        rw [← HL.2.2, lp_bs l k (by omega) (by rw [← HX.out]; simpa using h92), ← hy]; simp⟩
      clear hc hy HL
      go_wp2_with (at_builtin; refine wpList_appg wr _ rfl (.tmp 29) (.tmp 34) rfl w.heap.size u3 m pre [y] 1 rfl hown rfl rfl rfl hbase (by omega) ?_; intro v' w5 hown5 hgrow5)
      go_roundw
      case rel => exact ⟨k + 2, m + 1, pre ++ [y], by omega, by go_num, unhid HN, hown5, hBr.grown hgrow5 hbase (unhid HG)⟩
      case measure => simp [intOf]; omega
    have HN : Hid (Lrel l (k + 1) (m + 1) (pre ++ [x])) := ⟨by simp [HL.1], by omega, by
      rw [← HL.2.2, lp_plain l k (by omega) HNS.out (by rw [← HX.out]; intro e; exact hbs ⟨by simpa using e.1, by omega⟩), ← HX.out]; simp⟩
    clear hc HL
    by_cases h92 : (x == 92) = true
    · have hk1 : ¬ k + 1 < n := fun e => hbs ⟨h92, e⟩
      clear hbs
      go_wp2_with (at_builtin; refine wpList_appg wr _ rfl (.tmp 29) (.tmp 34) rfl w.heap.size u3 m pre [x] 1 rfl hown rfl rfl rfl hbase (by omega) ?_; intro v' w5 hown5 hgrow5)
      go_roundw
      case rel => exact ⟨k + 1, m + 1, pre ++ [x], by omega, by go_num, unhid HN, hown5, hBr.grown hgrow5 hbase (unhid HG)⟩
      case measure => simp [intOf]; omega
    · have h92' : (x == 92) = false := by simpa using h92
      clear hbs h92
      go_wp2_with (at_builtin; refine wpList_appg wr _ rfl (.tmp 29) (.tmp 34) rfl w.heap.size u3 m pre [x] 1 rfl hown rfl rfl rfl hbase (by omega) ?_; intro v' w5 hown5 hgrow5)
      go_roundw
      case rel => exact ⟨k + 1, m + 1, pre ++ [x], by omega, by go_num, unhid HN, hown5, hBr.grown hgrow5 hbase (unhid HG)⟩
      case measure => simp [intOf]; omega

set_option maxRecDepth 100000 in
theorem zzlp_any (a : Option Addr) (n c : Nat) (l : List Int) (w : World) (h : Sl w a n c l) (hn : n ≤ 65536) :
    Calls Try.prog 21 #[.slice a n c] w fun e w' => ∃ a' c', e = .returned (.slice a' (lp l).length c') ∧ Sl w' a' (lp l).length c' (lp l) ∧ Below w.heap.size w w' := by
  go_enter Try.func21, Try.ntmps21
  go_wp2_with (go_at_call 29; refine (lp_any a n c l _ h hn).mono ?_; rintro e w' ⟨a', c', rfl, hs, hb⟩)
  go_ret
  exact ⟨_, _, rfl, hs, hb⟩
end Go.Proofs.Qxb6605268a
