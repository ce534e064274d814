/-
  DERIVED. The walk of matches (function 25), ZZmatches (11).
-/
import Derived.Test.Qxb6605268aMone
namespace Go.Proofs.Qxb6605268a
open Go.RowKit
set_option linter.unusedVariables false

/-- what the scan keeps, over the slots' numbers: st < 0: no star yet. -/
def J (l r : List Int) (p k : Nat) (st fr : Int) : Prop := (st = -1 ∧ fr = 0 ∧ I0 l r p k) ∨ ∃ s f : Nat, st = s ∧ fr = f ∧ I1 l r p k s f

theorem J.start (l r : List Int) : J l r 0 0 (-1) 0 := .inl ⟨rfl, rfl, rfl⟩
theorem J.bounds {l r : List Int} {p k : Nat} {st fr : Int} (h : J l r p k st fr) : -1 ≤ st ∧ st ≤ p ∧ 0 ≤ fr ∧ fr ≤ k := by
  rcases h with ⟨rfl, rfl, _⟩ | ⟨s, f, rfl, rfl, h1, h2, _⟩ <;> omega
theorem J.star {l r : List Int} {p k : Nat} {st fr : Int} (h : J l r p k st fr) (hp : p < l.length) (hs : l.getD p 0 = 42) (hk : k ≤ r.length) : J l r (p + 1) k ((p : Int) + 1) k := by
  refine .inr ⟨p + 1, k, by omega, rfl, ?_⟩
  rcases h with ⟨_, _, h⟩ | ⟨s, f, _, _, h⟩
  · exact h.star hp hs hk
  · exact h.star hp hs hk
theorem J.one {l r : List Int} {p k : Nat} {st fr : Int} (h : J l r p k st fr) (hp : p < l.length) (hs : l.getD p 0 ≠ 42) (hk : k < r.length) (hm : (mone (l.drop p) (r.getD k 0)).2 = true) :
    J l r (p + elen (l.drop p)) (k + 1) st fr := by
  rcases h with ⟨h1, h2, h⟩ | ⟨s, f, h1, h2, h⟩
  · exact .inl ⟨h1, h2, h.one hp hs hk hm⟩
  · exact .inr ⟨s, f, h1, h2, h.one hp hs hk hm⟩
theorem J.lost {l r : List Int} {p k : Nat} {st fr : Int} (h : J l r p k st fr) (hst : st < 0) (hn : At l r p k = false) : At l r 0 0 = false := by
  rcases h with ⟨h1, h2, h⟩ | ⟨s, f, h1, h2, h⟩
  · exact h.no hn
  · omega
theorem J.again {l r : List Int} {p k : Nat} {st fr : Int} (h : J l r p k st fr) (hst : ¬ st < 0) (hk : k < r.length) (hn : At l r p k = false) : J l r st.toNat (fr + 1).toNat st (fr + 1) := by
  rcases h with ⟨h1, h2, h⟩ | ⟨s, f, rfl, rfl, h⟩
  · omega
  · refine .inr ⟨s, f + 1, rfl, by omega, ?_⟩
    have := h.no hk hn
    simpa [show ((f : Int) + 1).toNat = f + 1 by omega] using this
theorem J.dry {l r : List Int} {p k : Nat} {st fr : Int} (h : J l r p k st fr) (hk : k = r.length) : At l r 0 0 = At l r p k := by
  rcases h with ⟨h1, h2, h⟩ | ⟨s, f, rfl, rfl, h⟩
  · exact h
  · exact h.dry hk

/-- 's[k:]' of such a slice, k inside. -/
theorem Sl.back {w : World} {b o n c : Nat} {l : List Int} (h : Sl w (some ⟨b, o, none⟩) n c l) (k : Nat) (hk : k < n) : Sl w (some ⟨b, o + k, none⟩) (n - k) (c - k) (l.drop k) :=
  ⟨by have := h.len; simp; omega, by have := h.cap; omega, fun x hx => h.rng x (List.mem_of_mem_drop hx), fun e => (by cases e), fun hp => by
    obtain ⟨b', off, e, hc⟩ := h.row (by omega)
    cases e
    refine ⟨b, o + k, rfl, fun i hi => ?_⟩
    rw [Nat.add_assoc, hc (k + i) (by omega), getD_drop]⟩

theorem quiet_in {P : Program} {f : FuncId} {args : Array Value} {w : World} {nd x : Nat} {v : Value} (h : Calls P f args (w.drewN (nd + x)) fun e w' => e = .returned v ∧ ∃ m, w' = (w.drewN (nd + x)).drewN m) :
    Calls P f args (w.drewN (nd + x)) fun e w'' => e = .returned v ∧ ∃ n, w'' = w.drewN (nd + n) :=
  h.mono fun _ _ ⟨he, m, hm⟩ => ⟨he, x + m, by rw [hm, World.drewN_drewN, Nat.add_assoc]⟩

set_option maxHeartbeats 1000000 in
set_option maxRecDepth 100000 in
theorem matches_any (a b : Option Addr) (n c m d : Nat) (l r : List Int) (w : World) (h : Sl w a n c l) (hr : Sl w b m d r) (hn : n ≤ 65536) (hm : m ≤ 65536) :
    Calls Try.prog 25 #[.slice a n c, .slice b m d] w fun e w' => e = .returned (.bool (At l r 0 0)) ∧ ∃ nd, w' = w.drewN nd := by
  have hlen := h.len
  have hlen' := hr.len
  have hcap := h.cap
  have hcap' := hr.cap
  obtain ⟨res, hres⟩ : ∃ v, v = At l r 0 0 := ⟨_, rfl⟩
  have HR := hide hres
  rw [← hres]
  clear hres
  go_enter Try.func25, Try.ntmps25
  go_wp2
  go_loopw [5, 6, 7, 8] (fun sp sk st sf wr => ∃ (p k nd : Nat) (S F : Int), p ≤ n ∧ k ≤ m ∧ sp = .int .i64 p ∧ sk = .int .i64 k ∧ st = .int .i64 S ∧ sf = .int .i64 F ∧ wr = w.drewN nd ∧ J l r p k S F)
    (fun _ sk st sf _ => mu n m (intOf st) (intOf sf) (intOf sk))
  case atStart => exact ⟨0, 0, 0, -1, 0, Nat.zero_le _, Nat.zero_le _, rfl, rfl, rfl, rfl, rfl, J.start l r⟩
  case round =>
    obtain ⟨p, k, nd, S, F, hp, hk, rfl, rfl, rfl, rfl, rfl, HJ⟩ := hrel
    obtain ⟨hS0, hS1, hF0, hF1⟩ := HJ.bounds
    by_cases hkm : k < m
    case neg =>
      have HD : Hid (res = At l r p k) := by rw [HR.out]; exact HJ.dry (by omega)
      clear HJ
      go_wp2
      go_loopw [5] (fun sp wr => ∃ (q : Nat), q ≤ n ∧ sp = .int .i64 q ∧ wr = w.drewN nd ∧ Hid (res = At l r q k)) (fun sp _ => n - (intOf sp).toNat)
      case atStart => exact ⟨p, hp, rfl, rfl, HD⟩
      case round =>
        clear HD
        obtain ⟨q, hq, rfl, rfl, HD⟩ := hrel
        by_cases hqn : q < n
        case neg =>
          have e : res = true := by rw [HD.out, At_end l r q k (by omega)]; exact decide_eq_true (by omega)
          subst e
          have hb : ((q : Int) == (n : Int)) = true := by simp; omega
          go_wp2
          go_ret
          exact ⟨rfl, _, rfl⟩
        case pos =>
          obtain ⟨b0, o0, e, hc⟩ := h.row (by omega)
          cases e
          obtain ⟨x, hx⟩ : ∃ x, x = l.getD q 0 := ⟨_, rfl⟩
          have hcx := hc q hqn
          rw [← hx] at hcx
          by_cases h42 : (x == 42) = true
          · have HN : Hid (res = At l r (q + 1) k) := by rw [HD.out]; exact At_dry_star (by omega) (by rw [← hx]; simpa using h42) (by omega)
            clear hx hc HD
            go_wp2
            go_roundw
            case rel => exact ⟨q + 1, by omega, by go_num, by trivial, HN⟩
            case measure => simp [intOf]; omega
          · have h42' : (x == 42) = false := by simpa using h42
            have e : res = false := by rw [HD.out]; exact At_dry l r q k (by omega) (by rw [← hx]; simpa using h42') (by omega)
            subst e
            have hb : ((q : Int) == (n : Int)) = false := by simp; omega
            clear hx hc HD h42
            go_wp2
            go_ret
            exact ⟨rfl, _, rfl⟩
    obtain ⟨b1, o1, e, hc1⟩ := hr.row (by omega)
    cases e
    obtain ⟨y, hy⟩ : ∃ x, x = r.getD k 0 := ⟨_, rfl⟩
    have hcy := hc1 k hkm
    have hyr := getD_rng hr.rng k
    rw [← hy] at hcy hyr
    have HY := hide hy
    clear hy hc1
    have hkm' : (k : Int) < (m : Int) := by omega
    by_cases hpn : p < n
    case neg =>
      have hno : At l r p k = false := At_no (by omega) (.inl (by omega))
      by_cases hS : S < 0
      · have e : res = false := by rw [HR.out]; exact HJ.lost hS hno
        subst e
        clear HJ hno
        go_wp2
        go_ret
        exact ⟨rfl, _, rfl⟩
      · have HN := hide (HJ.again hS (by omega) hno)
        have HM := hide (mu_no (P := n) (N := m) (s := S) (f := F) (k := (k : Int)) (by omega) (by omega) (by omega))
        clear HJ hno
        go_wp2
        go_roundw
        case rel => exact ⟨S.toNat, (F + 1).toNat, nd, S, F + 1, by omega, by omega, by go_num, by go_num, rfl, rfl, rfl, unhide HN⟩
        case measure => simpa [intOf] using unhide HM
    obtain ⟨b0, o0, e, hc⟩ := h.row (by omega)
    cases e
    obtain ⟨x, hx⟩ : ∃ x, x = l.getD p 0 := ⟨_, rfl⟩
    have hcx := hc p hpn
    rw [← hx] at hcx
    have HX := hide hx
    clear hx hc
    by_cases h42 : (x == 42) = true
    case pos =>
      have HN := hide (HJ.star (by omega) (by rw [← HX.out]; simpa using h42) (by omega))
      have HM := hide (mu_star (P := n) (N := m) (s := S) (f := F) (k := (k : Int)) (p := (p : Int) + 1) (k' := (k : Int)) (by omega) (by omega) (by omega))
      clear HJ
      go_wp2
      go_roundw
      case rel => exact ⟨p + 1, k, nd, (p : Int) + 1, k, by omega, by omega, by go_num, rfl, rfl, rfl, rfl, unhide HN⟩
      case measure => simpa [intOf] using unhide HM
    have h42' : (x == 42) = false := by simpa using h42
    have N42 : Hid (l.getD p 0 ≠ 42) := by rw [← HX.out]; show ¬ x = 42; simpa using h42'
    clear h42
    have hone := fun W hW => mone_any (some ⟨b0, o0 + p, none⟩) (n - p) (c - p) (l.drop p) y W hW (by omega) (by omega) hyr
    have hfst := mone_fst (l.drop p) y (by rw [getD_drop]; exact N42.out)
    have hel := elen_pos (l.drop p) (by simp; omega)
    obtain ⟨t, ht⟩ : ∃ t, t = mone (l.drop p) y := ⟨_, rfl⟩
    rw [← ht] at hone hfst
    obtain ⟨t1, t2⟩ := t
    simp only at hone hfst
    subst hfst
    have hel2 : elen (l.drop p) ≤ n - p := by have := hel.2; simp at this; omega
    have hel1 := hel.1
    obtain ⟨q, hq⟩ : ∃ q, q = elen (l.drop p) := ⟨_, rfl⟩
    rw [← hq] at hone hel1 hel2
    have HQ := hide hq
    have HT : Hid ((mone (l.drop p) (r.getD k 0)).2 = t2) := by rw [← HY.out, ← ht]; rfl
    clear hq ht hel
    have hs2 := fun j => (h.drewN j).back p hpn
    have hone' := fun j => hone _ (hs2 j)
    have H1 := hide hone'
    have hcp : ¬ c = p := by omega
    have hpn' : (p : Int) ≤ (n : Int) := by omega
    clear hone hone' hs2
    cases t2
    case true =>
      have HN := hide (HJ.one (by omega) N42.out (by omega) HT.out)
      rw [← HQ.out] at HN
      have HM := hide (mu_one (P := n) (N := m) (s := S) (f := F) (k := (k : Int)) (by omega))
      clear HJ
      go_wp2
      go_quiet ((go_at_call 30; exact quiet_in (unhide H1 _)))
      go_wp2
      go_roundw
      case rel => exact ⟨p + q, k + 1, _, S, F, by omega, by omega, by go_num, by go_num, rfl, rfl, rfl, unhide HN⟩
      case measure => simpa [intOf] using unhide HM
    case false =>
      have hno : At l r p k = false := At_no (by omega) (.inr ⟨by omega, N42.out, HT.out⟩)
      by_cases hS : S < 0
      · have e : res = false := by rw [HR.out]; exact HJ.lost hS hno
        subst e
        clear HJ hno
        go_wp2
        go_quiet ((go_at_call 30; exact quiet_in (unhide H1 _)))
        go_wp2
        go_ret
        exact ⟨rfl, _, rfl⟩
      · have HN := hide (HJ.again hS (by omega) hno)
        have HM := hide (mu_no (P := n) (N := m) (s := S) (f := F) (k := (k : Int)) (by omega) (by omega) (by omega))
        clear HJ hno
        go_wp2
        go_quiet ((go_at_call 30; exact quiet_in (unhide H1 _)))
        go_wp2
        go_roundw
        case rel => exact ⟨S.toNat, (F + 1).toNat, _, S, F + 1, by omega, by omega, by go_num, by go_num, rfl, rfl, rfl, unhide HN⟩
        case measure => simpa [intOf] using unhide HM

set_option maxRecDepth 100000 in
theorem zzmatches_any (a b : Option Addr) (n c m d : Nat) (l r : List Int) (w : World) (h : Sl w a n c l) (hr : Sl w b m d r) (hn : n ≤ 65536) (hm : m ≤ 65536) :
    Calls Try.prog 11 #[.slice a n c, .slice b m d] w fun e w' => e = .returned (.bool (At l r 0 0)) ∧ ∃ nd, w' = w.drewN nd := by
  go_enter Try.func11, Try.ntmps11
  go_wp2_with fail
  refine (matches_any a b n c m d l r w h hr hn hm).mono ?_
  rintro e w' ⟨rfl, nd, rfl⟩
  go_wp2
  go_ret
  exact ⟨rfl, _, rfl⟩
end Go.Proofs.Qxb6605268a
