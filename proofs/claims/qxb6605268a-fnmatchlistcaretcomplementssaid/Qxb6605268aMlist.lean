/-
  DERIVED. The walk of matchList (function 28).
-/
import Derived.Test.Qxb6605268aBase
import Derived.Test.Qxb6605268aPlain
namespace Go.Proofs.Qxb6605268a
open Go.RowKit

/-- what the rounds keep: the rest of the scan, from k on, comes to the whole. -/
def Mrel (l : List Int) (b : Int) (t : Nat × Bool) (k : Nat) (m : Bool) : Prop := k + (scan b (l.drop k) m).1 = t.1 ∧ (scan b (l.drop k) m).2 = t.2

theorem Mrel.step {l : List Int} {b : Int} {t : Nat × Bool} {k : Nat} {m : Bool} (h : Mrel l b t k m) {j : Nat} {m' : Bool} (e : scan b (l.drop k) m = bump j (scan b (l.drop (k + j)) m')) : Mrel l b t (k + j) m' := by
  unfold Mrel at *
  rw [e] at h
  simp only [bump] at h
  exact ⟨by omega, h.2⟩

theorem Mrel.ended {l : List Int} {b : Int} {t : Nat × Bool} {k : Nat} {m : Bool} (h : Mrel l b t k m) (e : scan b (l.drop k) m = (0, m)) : t = (k, m) := by
  unfold Mrel at h
  rw [e] at h
  exact Prod.ext (by simpa using h.1.symm) (by simpa using h.2.symm)

theorem hide {p : Prop} (h : p) : Hid p := h
theorem unhide {p : Prop} (h : Hid p) : p := h

theorem mrel_eq {l : List Int} {b : Int} {t : Nat × Bool} {k : Nat} {m m' : Bool} (h : Mrel l b t k m) (e : m' = m) : Mrel l b t k m' := by rw [e]; exact h
theorem in_lo {x z b : Int} (h : x ≤ z) (h1 : x ≤ b) : decide (b ≤ if x < z then z else x) = (false || inRange x z b) := by
  rw [Bool.false_or, inRange]; apply decide_eq_decide.2; split <;> omega
theorem in_lo_no {x z b : Int} (h : x ≤ z) (h1 : ¬ x ≤ b) : false = (false || inRange x z b) := by
  rw [Bool.false_or, inRange]; exact (decide_eq_false (by omega)).symm

theorem in_hi {x z b : Int} (h : z < x) (h1 : z ≤ b) : decide (b ≤ x) = (false || inRange x z b) := by
  rw [Bool.false_or, inRange]; apply decide_eq_decide.2; omega
theorem in_hi_no {x z b : Int} (h : z < x) (h1 : ¬ z ≤ b) : false = (false || inRange x z b) := by
  rw [Bool.false_or, inRange]; exact (decide_eq_false (by omega)).symm

set_option maxHeartbeats 1000000 in
set_option maxRecDepth 100000 in
theorem mlist_two (b0 off0 n c : Nat) (l : List Int) (b : Int) (w : World) (h : Sl w (some ⟨b0, off0, none⟩) n c l) (hn : n ≤ 1048576) (hn1 : 1 < n) (hb : 0 ≤ b ∧ b ≤ 255) :
    Calls Try.prog 28 #[.slice (some ⟨b0, off0, none⟩) n c, .int .u8 b] w fun e w' => e = .returned (.tuple #[.int .i64 (mlist l b).1, .bool (mlist l b).2]) ∧ ∃ nd, w' = w.drewN nd := by
  obtain ⟨hb0, hb1⟩ := hb
  have hlen := h.len
  obtain ⟨bb, oo, e, hc⟩ := h.row (by omega)
  cases e
  have HC : Hid (∀ i, i < n → w.cell? ⟨b0, off0 + i, none⟩ = some (.int .u8 (l.getD i 0))) := hc
  have hrng := h.rng
  clear hc h
  obtain ⟨x1, hx1⟩ : ∃ x, x = l.getD 1 0 := ⟨_, rfl⟩
  have hc1 : w.cell? ⟨b0, off0 + 1, none⟩ = some (.int .u8 x1) := by rw [hx1]; exact HC.out 1 hn1
  have HX1 : Hid (x1 = l.getD 1 0) := hx1
  clear hx1
  obtain ⟨neg, t, HN, HT, HR⟩ : ∃ (neg : Bool) (t : Nat × Bool), Hid (neg = decide (1 < n ∧ x1 = 94)) ∧ Hid (mlist l b = (min (t.1 + 1) n, t.2 != neg)) ∧ Mrel l b t (if neg then 2 else 1) false := by
    by_cases e : x1 = 94
    · refine ⟨true, (2 + (scan b (l.drop 2) false).1, (scan b (l.drop 2) false).2), by simp [Hid, e, hn1], ?_, ?_⟩
      · show mlist l b = _
        unfold mlist
        rw [if_pos (by rw [← HX1.out]; exact e), hlen]
      · simp [Mrel]
    · refine ⟨false, (1 + (scan b (l.drop 1) false).1, (scan b (l.drop 1) false).2), by simp [Hid, e], ?_, ?_⟩
      · show mlist l b = _
        unfold mlist
        rw [if_neg (by rw [← HX1.out]; exact e), hlen]
      · simp [Mrel]
  have HT2 : Hid (∀ (k : Nat) (mb : Bool), t = (k, mb) → mlist l b = (min (k + 1) n, mb != neg)) := fun k mb e => by have := HT.out; rw [e] at this; exact this
  clear HT
  have hcases : ((x1 == 94) = true ∧ neg = true) ∨ ((x1 == 94) = false ∧ neg = false) := by
    have := HN.out
    by_cases h2 : x1 = 94 <;> simp [hn1, h2] at this ⊢ <;> simp [this]
  rcases hcases with ⟨h2, rfl⟩ | ⟨h2, rfl⟩
  all_goals
    go_enter Try.func28, Try.ntmps28
    go_wp2
    go_loopw [6, 8] (fun i m wr => ∃ (k : Nat) (mb : Bool) (nd : Nat), k ≤ n ∧ i = .int .i64 k ∧ m = .bool mb ∧ wr = w.drewN nd ∧ Mrel l b t k mb) (fun i _ _ => n - (intOf i).toNat)
    case atStart =>
      refine ⟨(if _ then 2 else 1), false, 0, ?_, ?_, rfl, rfl, HR⟩
      · simp; try omega
      · rfl
    case round =>
      obtain ⟨k, mb, nd, hk, rfl, rfl, rfl, HM⟩ := hrel
      by_cases hkn : k < n
      case neg =>
        have HF := HT2.out k mb (HM.ended (scan_end b l mb k (by omega)))
        have hmin : min (k + 1) n = n := by omega
        rw [hmin] at HF
        have HF' := hide HF
        clear HF hmin HT2
        cases mb
        all_goals
          go_wp2
          go_ret2
          exact ⟨by rw [unhide HF']; rfl, _, rfl⟩
      obtain ⟨x, hx⟩ : ∃ x, x = l.getD k 0 := ⟨_, rfl⟩
      have hcx : w.cell? ⟨b0, off0 + k, none⟩ = some (.int .u8 x) := by rw [hx]; exact HC.out k hkn
      have hxr := getD_rng hrng k
      rw [← hx] at hxr
      obtain ⟨hx0, hx255⟩ := hxr
      have HX : Hid (x = l.getD k 0) := hx
      clear hx
      by_cases hx93 : (x == 93) = true
      case pos =>
        have HF := HT2.out k mb (HM.ended (scan_close b l mb k (by omega) (by rw [← HX.out]; simpa using hx93)))
        have hmin : min (k + 1) n = k + 1 := by omega
        rw [hmin] at HF
        have HF' := hide HF
        clear HF hmin HT2
        cases mb
        all_goals
          go_wp2
          go_ret2
          exact ⟨by rw [unhide HF']; rfl, _, rfl⟩
      have hx93' : (x == 93) = false := by simpa using hx93
      have N93 : Hid (l.getD k 0 ≠ 93) := hide (by rw [← HX.out]; simpa using hx93')
      clear hx93
      obtain ⟨y, hy⟩ : ∃ y, y = l.getD (k + 1) 0 := ⟨_, rfl⟩
      have HY : Hid (y = l.getD (k + 1) 0) := hy
      clear hy
      by_cases hx92 : (x == 92) = true
      case pos =>
        have E92 : Hid (l.getD k 0 = 92) := hide (by rw [← HX.out]; simpa using hx92)
        by_cases hk1 : k + 1 < n
        case pos =>
          have hcy : w.cell? ⟨b0, off0 + (k + 1), none⟩ = some (.int .u8 y) := by rw [HY.out]; exact HC.out (k + 1) hk1
          have HM' := hide (HM.step (scan_esc b l mb k (by omega) E92.out))
          rw [← HY.out] at HM'
          clear HM HR HT2
          cases mb
          all_goals
            go_wp2
            go_roundw
            case rel => exact ⟨k + 2, _, nd, by omega, by go_num, rfl, rfl, unhide HM'⟩
            case measure => simp [intOf]; omega
        case neg =>
          have HM' := hide (HM.step (scan_one b l mb k (by omega) N93.out (fun e => hk1 (by omega)) (fun e => hk1 (by omega))))
          rw [← HX.out] at HM'
          clear HM HR HT2
          cases mb
          all_goals
            go_wp2
            go_roundw
            case rel => exact ⟨k + 1, _, nd, by omega, by go_num, rfl, rfl, unhide HM'⟩
            case measure => simp [intOf]; omega
      have hx92' : (x == 92) = false := by simpa using hx92
      have N92 : Hid (l.getD k 0 ≠ 92) := hide (by rw [← HX.out]; simpa using hx92')
      clear hx92
      by_cases hk2 : k + 2 < n
      case neg =>
        have HM' := hide (HM.step (scan_one b l mb k (by omega) N93.out (fun e => N92.out e.1) (fun e => hk2 (by omega))))
        rw [← HX.out] at HM'
        clear HM HR HT2
        cases mb
        all_goals
          go_wp2
          go_roundw
          case rel => exact ⟨k + 1, _, nd, by omega, by go_num, rfl, rfl, unhide HM'⟩
          case measure => simp [intOf]; omega
      have hcy : w.cell? ⟨b0, off0 + (k + 1), none⟩ = some (.int .u8 y) := by rw [HY.out]; exact HC.out (k + 1) (by omega)
      by_cases hy45 : (y == 45) = true
      case neg =>
        have hy45' : (y == 45) = false := by simpa using hy45
        have N45 : Hid (l.getD (k + 1) 0 ≠ 45) := hide (by rw [← HY.out]; simpa using hy45')
        have HM' := hide (HM.step (scan_one b l mb k (by omega) N93.out (fun e => N92.out e.1) (fun e => N45.out e.2)))
        rw [← HX.out] at HM'
        clear HM HR HT2 hy45
        cases mb
        all_goals
          go_wp2
          go_roundw
          case rel => exact ⟨k + 1, _, nd, by omega, by go_num, rfl, rfl, unhide HM'⟩
          case measure => simp [intOf]; omega
      have E45 : Hid (l.getD (k + 1) 0 = 45) := hide (by rw [← HY.out]; simpa using hy45)
      obtain ⟨z, hz⟩ : ∃ z, z = l.getD (k + 2) 0 := ⟨_, rfl⟩
      have hcz : w.cell? ⟨b0, off0 + (k + 2), none⟩ = some (.int .u8 z) := by rw [hz]; exact HC.out (k + 2) hk2
      have hzr := getD_rng hrng (k + 2)
      rw [← hz] at hzr
      obtain ⟨hz0, hz255⟩ := hzr
      have HZ : Hid (z = l.getD (k + 2) 0) := hz
      clear hz
      have HM' := hide (HM.step (scan_range b l mb k (by omega) N93.out N92.out E45.out))
      rw [← HX.out, ← HZ.out] at HM'
      clear HM HR HT2
      by_cases hxz : x ≤ z
      case pos =>
        cases mb
        all_goals
          go_wp2
          go_quiet (fail)
          go_wp2
        all_goals
          go_roundw
          case rel =>
            refine ⟨k + 3, _, _, by omega, by go_num, rfl, rfl, ?_⟩
            refine mrel_eq (unhide HM') ?_
            first
              | rfl
              | exact in_lo (by assumption) (by assumption)
              | exact in_lo_no (by assumption) (by assumption)
          case measure => simp [intOf]; omega
      have hxz' : z < x := by omega
      clear hxz
      cases mb
      all_goals
        go_wp2
        go_quiet (fail)
        go_wp2
      all_goals
        go_roundw
        case rel =>
          refine ⟨k + 3, _, _, by omega, by go_num, rfl, rfl, ?_⟩
          refine mrel_eq (unhide HM') ?_
          first
            | rfl
            | exact in_hi (by assumption) (by assumption)
            | exact in_hi_no (by assumption) (by assumption)
        case measure => simp [intOf]; omega

set_option maxRecDepth 100000 in
theorem mlist_one (b0 off0 n c : Nat) (l : List Int) (b : Int) (w : World) (h : Sl w (some ⟨b0, off0, none⟩) n c l) (hn1 : 1 ≤ n) (hn2 : n ≤ 1) :
    Calls Try.prog 28 #[.slice (some ⟨b0, off0, none⟩) n c, .int .u8 b] w fun e w' => e = .returned (.tuple #[.int .i64 (mlist l b).1, .bool (mlist l b).2]) ∧ ∃ nd, w' = w.drewN nd := by
  have HF : Hid (mlist l b = (n, false)) := by
    have e : l.getD 1 0 = 0 := by simp [show l.length ≤ 1 by rw [h.len]; exact hn2]
    show mlist l b = _
    unfold mlist
    rw [if_neg (by rw [e]; omega), scan_end b l false 1 (by rw [h.len]; exact hn2), h.len]
    simp; omega
  go_enter Try.func28, Try.ntmps28
  go_wp2
  go_loopw [6, 8] (fun i m wr => ∃ (k : Nat), k = n ∧ i = .int .i64 k ∧ m = .bool false ∧ wr = w) (fun i _ _ => n - (intOf i).toNat)
  case atStart => exact ⟨1, by omega, rfl, rfl, rfl⟩
  case round =>
    obtain ⟨k, hk, rfl, rfl, rfl⟩ := hrel
    have hk1 : n ≤ k := by omega
    have hk2 : k ≤ 1 := by omega
    clear hk
    go_wp2
    go_ret2
    exact ⟨by rw [unhide HF]; rfl, 0, rfl⟩

theorem mlist_any (a : Option Addr) (n c : Nat) (l : List Int) (b : Int) (w : World) (h : Sl w a n c l) (hn : n ≤ 1048576) (hn1 : 1 ≤ n) (hb : 0 ≤ b ∧ b ≤ 255) :
    Calls Try.prog 28 #[.slice a n c, .int .u8 b] w fun e w' => e = .returned (.tuple #[.int .i64 (mlist l b).1, .bool (mlist l b).2]) ∧ ∃ nd, w' = w.drewN nd := by
  obtain ⟨b0, o0, rfl, _⟩ := h.row (by omega)
  by_cases h1 : 1 < n
  · exact mlist_two b0 o0 n c l b w h hn h1 hb
  · exact mlist_one b0 o0 n c l b w h hn1 (by omega)

set_option maxRecDepth 100000 in
/-- ZZmatchList (function 18). -/
theorem zzmlist_any (a : Option Addr) (n c : Nat) (l : List Int) (b : Int) (w : World) (h : Sl w a n c l) (hn : n ≤ 1048576) (hn1 : 1 ≤ n) (hb : 0 ≤ b ∧ b ≤ 255) :
    Calls Try.prog 18 #[.slice a n c, .int .u8 b] w fun e w' => e = .returned (.tuple #[.int .i64 (mlist l b).1, .bool (mlist l b).2]) ∧ ∃ nd, w' = w.drewN nd := by
  go_enter Try.func18, Try.ntmps18
  go_wp2_with (go_at_call 28; refine (mlist_any a n c l b _ h hn hn1 hb).mono ?_; rintro e w' ⟨rfl, nd, rfl⟩)
  go_ret2
  exact ⟨rfl, _, rfl⟩
end Go.Proofs.Qxb6605268a
