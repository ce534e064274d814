/-
  DERIVED. The walks of zzg1Equal (15), zzg1HasPrefix (16).
-/
import Derived.Test.Qxb6605268aBase
namespace Go.Proofs.Qxb6605268a
open Go.RowKit
set_option linter.unusedVariables false

theorem hid {p : Prop} (h : p) : Hid p := h
theorem unhid {p : Prop} (h : Hid p) : p := h

theorem drewN_add (w : World) (a b : Nat) : (w.drewN a).drewN b = w.drewN (a + b) := by simp

theorem take_eq_step {l r : List Int} {k : Nat} (h : l.take k = r.take k) (hl : k < l.length) (hr : k < r.length) (e : l.getD k 0 = r.getD k 0) : l.take (k + 1) = r.take (k + 1) := by
  have e1 : l.getD k 0 = l[k] := by simp [hl]
  have e2 : r.getD k 0 = r[k] := by simp [hr]
  rw [List.take_succ_eq_append_getElem hl, List.take_succ_eq_append_getElem hr, h, ← e1, ← e2, e]

theorem ne_of_getD {l r : List Int} {k : Nat} (e : l.getD k 0 ≠ r.getD k 0) : l ≠ r := fun h => e (by rw [h])

set_option maxHeartbeats 400000 in
set_option maxRecDepth 100000 in
theorem equal_any (a b : Option Addr) (n c m d : Nat) (l r : List Int) (w : World) (h : Sl w a n c l) (hr : Sl w b m d r) (hn : n ≤ 1048576) (hm : m ≤ 1048576) :
    Calls Try.prog 15 #[.slice a n c, .slice b m d] w fun e w' => e = .returned (.bool (decide (l = r))) ∧ ∃ nd, w' = w.drewN nd := by
  by_cases hnm : n = m
  case neg =>
    have hb : ((n : Int) != (m : Int)) = true := by simp; omega
    have HE := hid (decide_eq_false (fun e : l = r => hnm (by rw [← h.len, ← hr.len, e])))
    clear hnm
    go_enter Try.func15, Try.ntmps15
    go_wp2
    go_ret
    exact ⟨by rw [unhid HE]; rfl, 0, rfl⟩
  case pos =>
    subst hnm
    have hlen := h.len
    have hlen' := hr.len
    go_enter Try.func15, Try.ntmps15
    go_wp2
    go_loopw [5] (fun i wr => ∃ (k nd : Nat), k ≤ n ∧ i = .int .i64 k ∧ l.take k = r.take k ∧ wr = w.drewN nd) (fun i _ => n - (intOf i).toNat)
    case atStart => exact ⟨0, 0, Nat.zero_le _, rfl, by simp, rfl⟩
    case round =>
      obtain ⟨k, nd, hk, rfl, hT, rfl⟩ := hrel
      have HT := hid hT
      clear hT
      by_cases hkn : k < n
      case neg =>
        have HE : Hid (decide (l = r) = true) := by
          have e1 : l.take k = l := List.take_of_length_le (by omega)
          have e2 : r.take k = r := List.take_of_length_le (by omega)
          have := unhid HT
          rw [e1, e2] at this
          exact decide_eq_true this
        go_wp2
        go_ret
        exact ⟨by rw [unhid HE]; rfl, _, rfl⟩
      case pos =>
        obtain ⟨b1, o1, e, hc1⟩ := h.row (by omega)
        cases e
        obtain ⟨b2, o2, e, hc2⟩ := hr.row (by omega)
        cases e
        obtain ⟨x, hx⟩ : ∃ x, x = l.getD k 0 := ⟨_, rfl⟩
        obtain ⟨y, hy⟩ : ∃ x, x = r.getD k 0 := ⟨_, rfl⟩
        have g1 := hc1 k hkn
        have g2 := hc2 k hkn
        rw [← hx] at g1
        rw [← hy] at g2
        have hkn' : (k : Int) < (n : Int) := by omega
        by_cases hxy : (x == y) = true
        · have HN := hid (take_eq_step (unhid HT) (by omega) (by omega) (by rw [← hx, ← hy]; simpa using hxy))
          clear hx hy hc1 hc2 HT
          go_wp2
          go_quiet (fail)
          go_wp2
          go_roundw
          case rel => exact ⟨k + 1, _, by omega, by go_num, unhid HN, rfl⟩
          case measure => simp [intOf]; omega
        · have hxy' : (x == y) = false := by simpa using hxy
          have HE := hid (decide_eq_false (ne_of_getD (k := k) (l := l) (r := r) (by rw [← hx, ← hy]; simpa using hxy')))
          clear hx hy hc1 hc2 HT hxy
          go_wp2
          go_quiet (fail)
          go_wp2
          go_ret
          exact ⟨by rw [unhid HE]; rfl, _, drewN_add _ _ _⟩

/-- 's[:k]' of such a slice. -/
theorem Sl.front {w : World} {a : Option Addr} {n c : Nat} {l : List Int} (h : Sl w a n c l) (k : Nat) (hk : k ≤ n) : Sl w a k c (l.take k) :=
  ⟨by have := h.len; simp; omega, Nat.le_trans hk h.cap, fun x hx => h.rng x (List.mem_of_mem_take hx), fun e => ⟨by have := (h.nil e).1; omega, (h.nil e).2⟩, fun hp => by
    obtain ⟨b, off, e, hc⟩ := h.row (by omega)
    refine ⟨b, off, e, fun i hi => ?_⟩
    rw [hc i (by omega)]
    have h1 : i < l.length := by have := h.len; omega
    simp [h1, hi]⟩

theorem prefix_decide (l r : List Int) : decide (l.take r.length = r) = decide (r <+: l) :=
  decide_eq_decide.2 ⟨fun e => List.prefix_iff_eq_take.2 e.symm, fun e => (List.prefix_iff_eq_take.1 e).symm⟩

set_option maxRecDepth 100000 in
theorem hasPrefix_any (a b : Option Addr) (n c m d : Nat) (l r : List Int) (w : World) (h : Sl w a n c l) (hr : Sl w b m d r) (hn : n ≤ 1048576) (hm : m ≤ 1048576) :
    Calls Try.prog 16 #[.slice a n c, .slice b m d] w fun e w' => e = .returned (.bool (decide (r <+: l))) ∧ ∃ nd, w' = w.drewN nd := by
  by_cases hnm : n < m
  · have HE := hid (decide_eq_false (fun e : r <+: l => by have := e.length_le; rw [h.len, hr.len] at this; omega))
    go_enter Try.func16, Try.ntmps16
    go_wp2
    go_ret
    exact ⟨by rw [unhid HE]; rfl, 0, rfl⟩
  · have HE := prefix_decide l r
    rw [hr.len] at HE
    have HE' := hid HE
    have hcap := h.cap
    have hq := equal_any a b m c m d (l.take m) r w (h.front m (by omega)) hr hm hm
    rw [unhid HE'] at hq
    clear HE
    go_enter Try.func16, Try.ntmps16
    go_wp2_with fail
    refine hq.mono ?_
    rintro e w' ⟨rfl, nd, rfl⟩
    go_wp2
    go_ret
    exact ⟨rfl, _, rfl⟩
end Go.Proofs.Qxb6605268a
