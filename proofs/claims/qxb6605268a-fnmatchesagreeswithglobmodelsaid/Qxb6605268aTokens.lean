/-
  DERIVED. The walk of zzg1Tokens (26).
-/
import Derived.Test.Qxb6605268aTokLaws
import Derived.Test.Qxb6605268aList2
import Derived.Test.Qxb6605268aMatches
import Derived.Deep.RegionWith
import Derived.Deep.DrawnRows
namespace Go.Proofs.Qxb6605268a
open Go.RowKit
set_option linter.unusedVariables false
attribute [local go_sem ↓] Go.wp_at_zero Go.wp_at_succ

theorem own_ge7 {w : World} {base n size : Nat} {e : TypeId} {v : Value} {xs : List Value} (h : w.ownsRow base e size v n xs) {B : Nat} (hB : B ≤ base) : ∀ k, v.ownBlock = some k → B ≤ k := fun k hk => Nat.le_trans hB (h.lt k hk).1

set_option maxHeartbeats 8000000 in
set_option maxRecDepth 100000 in
theorem tokens_any (a : Option Addr) (n c : Nat) (l : List Int) (w : World) (h : Sl w a n c l) (hn : n ≤ 65536) :
    Calls Try.prog 26 #[.slice a n c] w fun e w' =>
      ∃ v ts, e = .returned v ∧ w'.ownsRow w.heap.size 36 7 v ts.length (cellsOf ts) ∧ ts.length ≤ n ∧ Reads ts l ∧ Below w.heap.size w w' := by
  have hlen := h.len
  have hcap := h.cap
  go_enter Try.func26, Try.ntmps26
  go_wp2
  go_loopw [3, 4] (fun v si wr => ∃ (i k : Nat) (ts : List Tk), i ≤ n ∧ k ≤ i ∧ si = .int .i64 i ∧ ts.length = k ∧ wr.ownsRow w.heap.size 36 7 v k (cellsOf ts) ∧ Below w.heap.size w wr ∧ Trel l i ts) (fun _ si _ => n - (intOf si).toNat)
  case atStart => exact ⟨0, 0, [], Nat.zero_le _, Nat.le_refl _, rfl, rfl, World.ownsRow_nil _ _ _ _, Below.refl _ _, Trel.start l⟩
  case round =>
    obtain ⟨i, k, ts, hi, hki, rfl, hk, hown, hBr, HT⟩ := hrel
    have HK := hidA hk
    clear hk
    by_cases hin : i < n
    case neg =>
      have HR := hidA (HT.ended (by omega))
      clear HT
      go_wp2
      go_ret
      refine ⟨_, ts, rfl, ?_, ?_, unhidA HR, hBr⟩
      · rw [HK.out]; exact hown
      · rw [HK.out]; omega
    obtain ⟨b0, o0, e, hc⟩ := h.row (by omega)
    cases e
    have HC := hidA hc
    clear hc
    obtain ⟨x, hx⟩ : ∃ x, x = l.getD i 0 := ⟨_, rfl⟩
    have hcx := cell_later hBr (HC.out i hin)
    have hxr := getD_rng h.rng i
    rw [← hx] at hcx hxr
    have HX := hidA hx
    clear hx
    have hlt : b0 < wr.heap.size := World.block_lt_of_cell? _ _ hcx
    have hne : ¬ b0 = wr.heap.size := by omega
    have hbase := hBr.size
    have HG := hidA (own_ge7 hown (Nat.le_refl _))
    by_cases h42 : (x == 42) = true
    case pos =>
      have HN := hidA (HT.step (by omega) (fits_star (by rw [← HX.out]; simpa using h42)) (elen_star (by rw [← HX.out]; simpa using h42)))
      clear HT
      go_wp2_with (at_builtin; refine wpList_appT _ _ rfl (.tmp 87) (.tmp 89) rfl w.heap.size u3 k (cellsOf ts) ⟨true, false, 0, W4.zero⟩ rfl (hown.alloc _) _ rfl (by simp) rfl (by simp; omega) (by omega) ?_; intro v' w5 hown5 hgrow5)
      go_roundw
      case rel => exact ⟨i + 1, k + 1, ts ++ [⟨true, false, 0, W4.zero⟩], by omega, by omega, by go_num, by simp [HK.out], by rw [cellsOf_snoc]; exact hown5, (hBr.alloc hbase _).grown hgrow5 (by simp; omega) (unhidA HG), unhidA HN⟩
      case measure => simp [intOf]; omega
    have h42' : (x == 42) = false := by simpa using h42
    clear h42
    by_cases h63 : (x == 63) = true
    case pos =>
      go_wp2_with fail
      refine (compl_bel 0 0 0 0 _ W4.zero_ok).mono ?_
      rintro e w' ⟨r0, r1, r2, r3, rfl, ok', has', hb'⟩
      have S7 := (Seven.laid wr ⟨false, false, 0, W4.zero⟩).below hb'
      have d0 := S7.c0
      have d1 := S7.c1
      have d2 := S7.c2
      have d3 := S7.c3
      have d4 := S7.c4
      have d5 := S7.c5
      have d6 := S7.c6
      have dz := S7.z
      have hg := S7.lt
      have BW0 : Below wr.heap.size wr w' := ((Below.refl _ _).alloc (Nat.le_refl _) _).trans (hb'.mono (by simp))
      have BW := (((BW0.setCell (p := ⟨wr.heap.size, 3, none⟩) (Nat.le_refl _) (.int .u64 r0)).setCell (p := ⟨wr.heap.size, 4, none⟩) (Nat.le_refl _) (.int .u64 r1)).setCell (p := ⟨wr.heap.size, 5, none⟩) (Nat.le_refl _) (.int .u64 r2)).setCell (p := ⟨wr.heap.size, 6, none⟩) (Nat.le_refl _) (.int .u64 r3)
      have HO := own_below hown BW
      have hs0 := BW0.size
      have HN := hidA (HT.step (by omega) (fits_any (by rw [← HX.out]; simpa using h63) ⟨r0, r1, r2, r3⟩ ok' has') (elen_any (by rw [← HX.out]; simpa using h63)))
      clear HT S7 has' hown
      simp only [W4.zero] at d3 d4 d5 d6
      go_wp2_with (at_builtin; refine wpList_appT _ _ rfl (.tmp 87) (.tmp 89) rfl w.heap.size u3 k (cellsOf ts) ⟨false, false, 0, ⟨r0, r1, r2, r3⟩⟩ rfl HO _ rfl (by simp) rfl (by simp; omega) (by omega) ?_; intro v' w5 hown5 hgrow5)
      go_roundw
      case rel => exact ⟨i + 1, k + 1, ts ++ [⟨false, false, 0, ⟨r0, r1, r2, r3⟩⟩], by omega, by omega, by go_num, by simp [HK.out], by rw [cellsOf_snoc]; exact hown5, (hBr.trans (BW.mono hbase)).grown hgrow5 (by simp; omega) (unhidA HG), unhidA HN⟩
      case measure => simp [intOf]; omega
    have h63' : (x == 63) = false := by simpa using h63
    clear h63
    by_cases h91 : (x == 91) = true
    case pos =>
      have hcp : ¬ c = i := by omega
      have hin' : (i : Int) ≤ (n : Int) := by omega
      go_wp2_with fail
      refine (list_any b0 (o0 + i) (n - i) (c - i) (l.drop i) _ (((h.below hBr).below ((Below.refl _ _).alloc (Nat.le_refl _) _)).back i hin) (by omega) (by omega)).mono ?_
      rintro e w' ⟨r0, r1, r2, r3, rfl, ok', has', hb'⟩
      have hpos := mlist_pos (l.drop i) 0 (by simp; omega)
      have S7 := (Seven.laid wr ⟨false, false, 0, W4.zero⟩).below hb'
      have d0 := S7.c0
      have d1 := S7.c1
      have d2 := S7.c2
      have d3 := S7.c3
      have d4 := S7.c4
      have d5 := S7.c5
      have d6 := S7.c6
      have dz := S7.z
      have hg := S7.lt
      have BW0 : Below wr.heap.size wr w' := ((Below.refl _ _).alloc (Nat.le_refl _) _).trans (hb'.mono (by simp))
      have hs0 := BW0.size
      have HN := hidA (HT.step (by omega) (fits_list (by rw [← HX.out]; simpa using h91) ⟨r0, r1, r2, r3⟩ ok' has') (elen_list (by rw [← HX.out]; simpa using h91)))
      obtain ⟨q, hq⟩ : ∃ q, q = (mlist (l.drop i) 0).1 := ⟨_, rfl⟩
      rw [← hq] at HN hpos ⊢
      have hq1 := hpos.1
      have hq2 : q ≤ n - i := by have := hpos.2; simp at this; omega
      clear HT S7 has' hq hpos
      simp only [W4.zero] at d3 d4 d5 d6
      have hgn : ¬ wr.heap.size = w'.heap.size := by omega
      have BW := (((BW0.setCell (p := ⟨wr.heap.size, 3, none⟩) (Nat.le_refl _) (.int .u64 r0)).setCell (p := ⟨wr.heap.size, 4, none⟩) (Nat.le_refl _) (.int .u64 r1)).setCell (p := ⟨wr.heap.size, 5, none⟩) (Nat.le_refl _) (.int .u64 r2)).setCell (p := ⟨wr.heap.size, 6, none⟩) (Nat.le_refl _) (.int .u64 r3)
      have HO := (own_below hown BW).alloc (.cells #[.int .u64 r0, .int .u64 r1, .int .u64 r2, .int .u64 r3] 34)
      clear hown
      go_wp2_with (at_builtin; refine wpList_appT _ _ rfl (.tmp 87) (.tmp 89) rfl w.heap.size u3 k (cellsOf ts) ⟨false, false, 0, ⟨r0, r1, r2, r3⟩⟩ rfl HO _ rfl (by simp) rfl (by simp; omega) (by omega) ?_; intro v' w5 hown5 hgrow5)
      go_roundw
      case rel => exact ⟨i + q, k + 1, ts ++ [⟨false, false, 0, ⟨r0, r1, r2, r3⟩⟩], by omega, by omega, by go_num, by simp [HK.out], by rw [cellsOf_snoc]; exact hown5, ((hBr.trans (BW.mono hbase)).alloc (by simp; omega) _).grown hgrow5 (by simp; omega) (unhidA HG), unhidA HN⟩
      case measure => simp [intOf]; omega
    have h91' : (x == 91) = false := by simpa using h91
    clear h91
    have HSP : Hid (special (l.getD i 0) = false) := by
      rw [← HX.out]
      show special x = false
      unfold special
      rw [h42', h63', h91']; rfl
    by_cases hbs : (x == 92) = true ∧ i + 1 < n
    case pos =>
      obtain ⟨h92, hi1⟩ := hbs
      have hi1' : (i : Int) + 1 < (n : Int) := by omega
      obtain ⟨y, hy⟩ : ∃ y, y = l.getD (i + 1) 0 := ⟨_, rfl⟩
      have hcy := cell_later hBr (HC.out (i + 1) hi1)
      have hyr := getD_rng h.rng (i + 1)
      rw [← hy] at hcy hyr
      have HY := hidA hy
      clear hy
      have HA := hidA (fun W => add_bel 0 0 0 0 y y W W4.zero_ok hyr hyr)
      have hwr : IntKind.i64.wrap ((i : Int) + 1) = (i : Int) + 1 := by rw [IntKind.wrap_i64]; omega
      have HT' := hidA HT
      have HOWN := hidA hown
      clear HT hown
      go_wp2
      go_region_with (go_at_call 33; refine (unhidA HA _).mono ?_; rintro e w' ⟨r0, r1, r2, r3, rfl, ok', has', hb'⟩; have S7 : Seven w' wr.heap.size ⟨false, true, y, W4.zero⟩ := (hb'.block wr.heap.size (by simp)).trans (Seven.laid wr ⟨false, true, y, W4.zero⟩); have d0 := S7.c0; have d1 := S7.c1; have d2 := S7.c2; have d3 := S7.c3; have d4 := S7.c4; have d5 := S7.c5; have d6 := S7.c6; have dz := S7.z; have hg := S7.lt; simp only [W4.zero] at d3 d4 d5 d6)
      all_goals
        have BW0 : Below wr.heap.size wr w' := (((Below.refl _ _).alloc (Nat.le_refl _) _).drew).trans (hb'.mono (by simp))
        have BW := (((BW0.setCell (p := ⟨wr.heap.size, 3, none⟩) (Nat.le_refl _) (.int .u64 r0)).setCell (p := ⟨wr.heap.size, 4, none⟩) (Nat.le_refl _) (.int .u64 r1)).setCell (p := ⟨wr.heap.size, 5, none⟩) (Nat.le_refl _) (.int .u64 r2)).setCell (p := ⟨wr.heap.size, 6, none⟩) (Nat.le_refl _) (.int .u64 r3)
        have HO := own_below (unhidA HOWN) BW
        have hs0 := BW0.size
        have HN := hidA ((unhidA HT').step (by omega) (fits_bs (by rw [← HX.out]; simpa using h92) (by omega) (by rw [← HY.out]; exact hyr) ⟨r0, r1, r2, r3⟩ ok' (by rw [← HY.out]; exact has')) (elen_bs (by rw [← HX.out]; simpa using h92) (by omega)))
        rw [← HY.out] at HN
        clear S7 has' HA
        go_wp2_with (at_builtin; refine wpList_appT _ _ rfl (.tmp 87) (.tmp 89) rfl w.heap.size u3 k (cellsOf ts) ⟨false, true, y, ⟨r0, r1, r2, r3⟩⟩ rfl HO _ rfl (by simp) rfl (by simp; omega) (by omega) ?_; intro v' w5 hown5 hgrow5)
        go_roundw
        case rel => exact ⟨i + 2, k + 1, ts ++ [⟨false, true, y, ⟨r0, r1, r2, r3⟩⟩], by omega, by omega, by go_num, by simp [HK.out], by rw [cellsOf_snoc]; exact hown5, (hBr.trans (BW.mono hbase)).grown hgrow5 (by simp; omega) (unhidA HG), unhidA HN⟩
        case measure => simp [intOf]; omega
    have HNB : Hid (¬ (l.getD i 0 = 92 ∧ i + 1 < l.length)) := by
      rw [← HX.out]
      show ¬ _
      intro e
      exact hbs ⟨by simpa using e.1, by omega⟩
    have hcase : (x == 92) = false ∨ ((x == 92) = true ∧ n ≤ i + 1) := by
      by_cases a1 : (x == 92) = true
      · exact .inr ⟨a1, Nat.le_of_not_lt (fun e => hbs ⟨a1, e⟩)⟩
      · exact .inl (by simpa using a1)
    clear hbs
    rcases hcase with h92 | ⟨h92, hi1⟩
    all_goals
      go_wp2_with fail
      refine (add_bel 0 0 0 0 x x _ W4.zero_ok hxr hxr).mono ?_
      rintro e w' ⟨r0, r1, r2, r3, rfl, ok', has', hb'⟩
      have S7 := (Seven.laid wr ⟨false, true, x, W4.zero⟩).below hb'
      have d0 := S7.c0
      have d1 := S7.c1
      have d2 := S7.c2
      have d3 := S7.c3
      have d4 := S7.c4
      have d5 := S7.c5
      have d6 := S7.c6
      have dz := S7.z
      have hg := S7.lt
      have BW0 : Below wr.heap.size wr w' := ((Below.refl _ _).alloc (Nat.le_refl _) _).trans (hb'.mono (by simp))
      have BW := (((BW0.setCell (p := ⟨wr.heap.size, 3, none⟩) (Nat.le_refl _) (.int .u64 r0)).setCell (p := ⟨wr.heap.size, 4, none⟩) (Nat.le_refl _) (.int .u64 r1)).setCell (p := ⟨wr.heap.size, 5, none⟩) (Nat.le_refl _) (.int .u64 r2)).setCell (p := ⟨wr.heap.size, 6, none⟩) (Nat.le_refl _) (.int .u64 r3)
      have HO := own_below hown BW
      have hs0 := BW0.size
      have HN := hidA (HT.step (by omega) (fits_plain HSP.out HNB.out (by rw [← HX.out]; exact hxr) ⟨r0, r1, r2, r3⟩ ok' (by rw [← HX.out]; exact has')) (elen_plain HSP.out HNB.out))
      rw [← HX.out] at HN
      clear HT S7 has' hown
      simp only [W4.zero] at d3 d4 d5 d6
      go_wp2_with (at_builtin; refine wpList_appT _ _ rfl (.tmp 87) (.tmp 89) rfl w.heap.size u3 k (cellsOf ts) ⟨false, true, x, ⟨r0, r1, r2, r3⟩⟩ rfl HO _ rfl (by simp) rfl (by simp; omega) (by omega) ?_; intro v' w5 hown5 hgrow5)
      go_roundw
      case rel => exact ⟨i + 1, k + 1, ts ++ [⟨false, true, x, ⟨r0, r1, r2, r3⟩⟩], by omega, by omega, by go_num, by simp [HK.out], by rw [cellsOf_snoc]; exact hown5, (hBr.trans (BW.mono hbase)).grown hgrow5 (by simp; omega) (unhidA HG), unhidA HN⟩
      case measure => simp [intOf]; omega
end Go.Proofs.Qxb6605268a
