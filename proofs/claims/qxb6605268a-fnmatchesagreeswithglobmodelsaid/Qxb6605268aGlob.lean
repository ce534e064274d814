/-
  DERIVED. The walk of zzg1Glob (12).
-/
import Derived.Test.Qxb6605268aGlobLaws
import Derived.Deep.RegionHeld3
namespace Go.Proofs.Qxb6605268a
open Go.RowKit
set_option linter.unusedVariables false
attribute [local go_sem ↓] Go.wp_at_zero Go.wp_at_succ

theorem cell_set_ne {w : World} {a b : Addr} {u v : Value} (h : w.cell? b = some v) (hne : b.block ≠ a.block) : (w.setCell a u).cell? b = some v := (World.cell?_of_block (Below.heap_setCell w a u b.block hne)).trans h

set_option maxHeartbeats 8000000 in
set_option maxRecDepth 100000 in
theorem glob_any (a b : Option Addr) (n c m d : Nat) (l r : List Int) (w : World) (h : Sl w a n c l) (hr : Sl w b m d r) (hn : n ≤ 65536) (hm : m ≤ 65536) :
    Calls Try.prog 12 #[.slice a n c, .slice b m d] w fun e w' => e = .returned (.bool (At l r 0 0)) ∧ Below w.heap.size w w' := by
  obtain ⟨i0, hi0, hz0, hz1, hz2⟩ := info_parts Try.info4
  have hlen' := hr.len
  go_enter Try.func12, Try.ntmps12
  go_wp2_with fail
  refine (tokens_any a n c l w h hn).mono ?_
  rintro e w1 ⟨v, ts, rfl, hown, htn, HRD, hb1⟩
  have HT := hidA (T_all ts l r HRD hr.rng)
  have HOKS := hidA (reads_ok ts l HRD)
  obtain ⟨k, hk⟩ : ∃ k, k = ts.length := ⟨_, rfl⟩
  obtain ⟨av, cv, hv, hkc⟩ : ∃ av cv, v = .slice av k cv ∧ k ≤ cv := by
    rcases hown.2 with ⟨hv, h0⟩ | ⟨g, cap, cur, hv, _, _, hc, _⟩
    · exact ⟨none, 0, by rw [hv, hk, h0], by omega⟩
    · exact ⟨_, cap, by rw [hv, hk], by omega⟩
  subst hv
  rw [← hk] at hown htn HT
  have HK := hidA hk
  have HOWN := hidA hown
  have hr1 := hr.below hb1
  clear hk hown HRD
  go_wp2_with (first | (at_make; refine wpList_make_full _ rfl (.tmp 17) (.tmp 17) 32 rfl w1.heap.size 4 i0 (.bool false) 1 Try.underlying32 hi0 hz0 hz1 _ _ _ _ (k + 1) rfl rfl (by omega) (by omega) (by rw [hz2]; omega) (by unfold maxLen; omega) (Nat.le_refl _) ?_; intro w2 hown2 hgrow2) | (at_make; refine wpList_make_full _ rfl (.tmp 20) (.tmp 20) 32 rfl w1.heap.size 4 i0 (.bool false) 1 Try.underlying32 hi0 hz0 hz1 _ _ _ _ (k + 1) rfl rfl (by omega) (by omega) (by rw [hz2]; omega) (by unfold maxLen; omega) hgrow2.size ?_; intro w3 hown3 hgrow3; have R2 := row_made hown2; have R2' : Row w3 w1.heap.size w1.heap.size (k + 1) (List.replicate (k + 1) false) := ⟨R2.1, R2.2.kept hgrow3 (.inr (by simp [Value.ownBlock]))⟩; have hp0 := R2'.cell 0 (by omega); have hz0 := R2'.free))
  have R3 := row_made hown3
  have hB2 : Below w1.heap.size w1 w2 := (Below.refl _ _).grown hgrow2 (Nat.le_refl _) (fun k h => by cases h)
  have hB3 : Below w1.heap.size w1 w3 := hB2.grown hgrow3 hB2.size (fun k h => by cases h)
  have hpq : w1.heap.size < w2.heap.size := R2.lt.2
  have P4 := R2'.put 0 true
  have Q4 := R3.other ⟨w1.heap.size, 0, none⟩ (.bool true) (by simp; omega)
  have D4 : Done ts r 0 0 ((List.replicate (k + 1) false).set 0 true) := Done.first true (T_zero ts r).symm (by simp)
  have hB4 : Below w1.heap.size w1 (w3.setCell ⟨w1.heap.size, 0, none⟩ (.bool true)) := hB3.setCell (Nat.le_refl _) _
  have HP4 := hidA P4
  have HQ4 := hidA Q4
  have HD4 := hidA D4
  clear hown2 hgrow2 hown3 hgrow3 R2 R2' R3 hp0 hz0 P4 Q4 D4 hB2 hB3
  go_loopw [9] (fun sj wr => ∃ (j : Nat) (cs ds : List Bool), j ≤ k ∧ sj = .int .i64 ((j : Int) + 1) ∧ Row wr w1.heap.size w1.heap.size (k + 1) cs ∧ Row wr w1.heap.size w2.heap.size (k + 1) ds ∧ Below w1.heap.size w1 wr ∧ Done ts r 0 j cs) (fun sj _ => k + 1 - (intOf sj).toNat)
  case atStart => exact ⟨0, _, _, Nat.zero_le _, rfl, unhidA HP4, unhidA HQ4, hB4, unhidA HD4⟩
  case round =>
    clear hB4
    obtain ⟨j, cs, ds, hj, rfl, hP, hQ, hBr, hD⟩ := hrel
    by_cases hjk : j < k
    case pos =>
      have hx := hP.cell j (by omega)
      have hx2 := hP.cell (j + 1) (by omega)
      have hf := hP.free
      obtain ⟨g, cap, hav, hcap, hgl⟩ := toks_shape (unhidA HOWN) (by omega)
      cases hav
      have hO := own_below (unhidA HOWN) hBr
      have hjts : j < ts.length := by rw [← HK.out]; exact hjk
      have ht := toks_cell hO (HK.out).symm j hjk 0 (by omega)
      have ht' : wr.cell? ⟨g, j * 7, none⟩ = some (.bool ts[j].star) := ht
      rw [hD j (Nat.le_refl _)] at hx
      have hrow := T_row ts r j hjts
      obtain ⟨X, hX⟩ : ∃ X, X = T ts r 0 j := ⟨_, rfl⟩
      obtain ⟨S, hS⟩ : ∃ S, S = ts[j].star := ⟨_, rfl⟩
      obtain ⟨Y, hY⟩ : ∃ Y, Y = cs.getD (j + 1) false := ⟨_, rfl⟩
      rw [← hX] at hx hrow
      rw [← hS] at ht' hrow
      rw [← hY] at hx2
      have HR := hidA hrow
      have HPP := hidA hP
      have HQQ := hidA hQ
      have HDD := hidA hD
      have hcl : cs.length = k + 1 := hP.1
      have hgne : ¬ g = w1.heap.size := by omega
      clear hX hS hY hrow hP hQ hD ht hO
      cases X <;> cases S
      all_goals
        go_wp2
        go_roundw
        case rel => exact ⟨j + 1, cs.set (j + 1) _, ds, by omega, by go_num, (unhidA HPP).put (j + 1) _, (unhidA HQQ).other _ _ (by simp; omega), hBr.setCell (Nat.le_refl _) _, (unhidA HDD).put _ (by rw [unhidA HR]; rfl) (by omega)⟩
        case measure => simp [intOf]; omega
    case neg =>
      have hjk' : j = k := by omega
      have HP0 := hidA hP
      have HQ0 := hidA hQ
      have HD0 : Hid (Done ts r 0 k cs) := by rw [← hjk']; exact hD
      have hB0 := hBr
      clear hP hQ hD hjk' HP4 HQ4 HD4
      go_wp2
      go_loopw [7, 8, 10] (fun sp sq si wr => ∃ (i p q : Nat) (cs ds : List Bool), i ≤ m ∧ si = .int .i64 i ∧ sp = .slice (some ⟨p, 0, none⟩) (k + 1) (k + 1) ∧ sq = .slice (some ⟨q, 0, none⟩) (k + 1) (k + 1) ∧ p ≠ q ∧ Row wr w1.heap.size p (k + 1) cs ∧ Row wr w1.heap.size q (k + 1) ds ∧ Below w1.heap.size w1 wr ∧ Done ts r i k cs) (fun _ _ si _ => m - (intOf si).toNat)
      case atStart => exact ⟨0, w1.heap.size, w2.heap.size, cs, ds, Nat.zero_le _, rfl, rfl, rfl, by omega, unhidA HP0, unhidA HQ0, hB0, unhidA HD0⟩
      case round =>
        clear HP0 HQ0 HD0 hB0 hBr hjk hj
        obtain ⟨i, p, q, cs, ds, hi, rfl, rfl, rfl, hpq', hP, hQ, hBr, hD⟩ := hrel
        have hpl := hP.lt
        have hql := hQ.lt
        by_cases him : i < m
        case neg =>
          have hx := hP.cell k (by omega)
          rw [hD k (Nat.le_refl _)] at hx
          have e : i = r.length := by omega
          have HE : Hid (T ts r i k = At l r 0 0) := by rw [e]; exact unhidA HT
          have HX := hidA hx
          rw [HE.out] at HX
          have hx2 := unhidA HX
          clear hx hP hQ hD e
          go_wp2
          go_ret
          exact ⟨rfl, hb1.trans (hBr.mono hb1.size)⟩
        case pos =>
          have hq0 := hQ.cell 0 (by omega)
          have hqf := hQ.free
          have HQ1 := hidA (hQ.put 0 false)
          have HP1 := hidA (hP.other ⟨q, 0, none⟩ (.bool false) hpq')
          have HB1 := hidA (hBr.setCell (p := ⟨q, 0, none⟩) hql.1 (.bool false))
          have HD1 : Hid (Done ts r (i + 1) 0 (ds.set 0 false)) := Done.first false (T_none ts r i (by omega)).symm (by rw [hQ.1]; omega)
          have HDP := hidA hD
          obtain ⟨bk, ok, e, hck⟩ := hr1.row (by omega)
          cases e
          have hkey0 := hck i him
          obtain ⟨y, hy⟩ : ∃ y, y = r.getD i 0 := ⟨_, rfl⟩
          have hyr := getD_rng hr.rng i
          rw [← hy] at hkey0 hyr
          have HY := hidA hy
          have hkl : bk < w1.heap.size := World.block_lt_of_cell? _ _ hkey0
          clear hy hck hP hQ hD hBr
          go_wp2
          go_loopw [11] (fun sj wr => ∃ (j : Nat) (es : List Bool), j ≤ k ∧ sj = .int .i64 ((j : Int) + 1) ∧ Row wr w1.heap.size p (k + 1) cs ∧ Row wr w1.heap.size q (k + 1) es ∧ Below w1.heap.size w1 wr ∧ Done ts r (i + 1) j es) (fun sj _ => k + 1 - (intOf sj).toNat)
          case atStart => exact ⟨0, _, Nat.zero_le _, rfl, unhidA HP1, unhidA HQ1, unhidA HB1, unhidA HD1⟩
          case round =>
            clear HP1 HQ1 HB1 HD1 hq0 hqf
            obtain ⟨j, es, hj, rfl, hP, hQ, hBr, hD⟩ := hrel
            by_cases hjk : j < k
            case neg =>
              have hjk' : j = k := by omega
              have HP2 := hidA hP
              have HQ2 := hidA hQ
              have HD2 : Hid (Done ts r (i + 1) k es) := by rw [← hjk']; exact hD
              clear hP hQ hD hjk'
              go_wp2
              go_roundw
              case rel => exact ⟨i + 1, q, p, es, cs, by omega, by go_num, rfl, rfl, fun e => hpq' e.symm, unhidA HQ2, unhidA HP2, hBr, unhidA HD2⟩
              case measure => simp [intOf]; omega
            case pos =>
              obtain ⟨g, cap, hav, hcap, hgl⟩ := toks_shape (unhidA HOWN) (by omega)
              cases hav
              have hO := own_below (unhidA HOWN) hBr
              have hjts : j < ts.length := by rw [← HK.out]; exact hjk
              have hkey := cell_later hBr hkey0
              have hjkI : (j : Int) + 1 < (k : Int) + 1 := by omega
              have hgp : ¬ g = p := by omega
              have hgq : ¬ g = q := by omega
              obtain ⟨t, ht⟩ : ∃ t, t = ts[j] := ⟨_, rfl⟩
              have q0 : wr.cell? ⟨g, j * 7, none⟩ = some (.bool t.star) := by rw [ht]; exact toks_cell hO (HK.out).symm j hjk 0 (by omega)
              have q3 : wr.cell? ⟨g, j * 7 + 3, none⟩ = some (.int .u64 t.s.a) := by rw [ht]; exact toks_cell hO (HK.out).symm j hjk 3 (by omega)
              have q4 : wr.cell? ⟨g, j * 7 + 4, none⟩ = some (.int .u64 t.s.b) := by rw [ht]; exact toks_cell hO (HK.out).symm j hjk 4 (by omega)
              have q5 : wr.cell? ⟨g, j * 7 + 5, none⟩ = some (.int .u64 t.s.c) := by rw [ht]; exact toks_cell hO (HK.out).symm j hjk 5 (by omega)
              have q6 : wr.cell? ⟨g, j * 7 + 6, none⟩ = some (.int .u64 t.s.d) := by rw [ht]; exact toks_cell hO (HK.out).symm j hjk 6 (by omega)
              have hok : t.s.ok := by rw [ht]; exact unhidA HOKS _ (List.getElem_mem _)
              have c1 := hQ.cell j (by omega)
              have c2 := hQ.cell (j + 1) (by omega)
              have c3 := hP.cell j (by omega)
              have c4 := hP.cell (j + 1) (by omega)
              rw [hD j (Nat.le_refl _)] at c1
              rw [unhidA HDP j (by omega)] at c3
              rw [unhidA HDP (j + 1) (by omega)] at c4
              have fq := hQ.free
              have HS : Hid (t.star = true → T ts r (i + 1) (j + 1) = (T ts r (i + 1) j || T ts r i (j + 1))) := hidA fun e => T_star ts r i j (by omega) hjts (by rw [← ht]; exact e)
              have HO1 : Hid (t.star = false → T ts r (i + 1) (j + 1) = (T ts r i j && t.s.has y)) := hidA fun e => by
                have := T_one ts r i j (by omega) hjts (by rw [← ht]; exact e)
                rw [← ht, ← HY.out] at this
                exact this
              have HPP := hidA hP
              have HQQ := hidA hQ
              have HDD := hidA hD
              have hcl : es.length = k + 1 := hQ.1
              obtain ⟨st, lt, tb, s0, s1, s2, s3⟩ := t
              simp only at q0 q3 q4 q5 q6 HS HO1 hok
              clear ht hO hP hQ hD
              obtain ⟨A, hA⟩ : ∃ A, A = T ts r (i + 1) j := ⟨_, rfl⟩
              obtain ⟨B, hB⟩ : ∃ B, B = T ts r i (j + 1) := ⟨_, rfl⟩
              obtain ⟨C, hC⟩ : ∃ C, C = T ts r i j := ⟨_, rfl⟩
              obtain ⟨D, hDv⟩ : ∃ D, D = es.getD (j + 1) false := ⟨_, rfl⟩
              rw [← hA] at c1 HS
              rw [← hB] at c4 HS
              rw [← hC] at c3 HO1
              rw [← hDv] at c2
              clear hA hB hC hDv
              cases st
              case true =>
                have HF := hidA (unhidA HS rfl)
                clear HS HO1
                cases A <;> cases B
                all_goals
                  go_wp2
                  go_roundw
                  case rel => exact ⟨j + 1, es.set (j + 1) _, by omega, by go_num, (unhidA HPP).other _ _ hpq', (unhidA HQQ).put (j + 1) _, hBr.setCell hql.1 _, (unhidA HDD).put _ (by rw [unhidA HF]; rfl) (by omega)⟩
                  case measure => simp [intOf]; omega
              case false =>
                have HF := hidA (unhidA HO1 rfl)
                clear HS HO1
                have hh := hidA (fun W => has_bel s0 s1 s2 s3 y W hok hyr)
                have hwr : IntKind.i64.wrap ((j : Int) + 1 - 1) = (j : Int) := by rw [IntKind.wrap_i64]; omega
                have hwr' : IntKind.i64.wrap (j : Int) = (j : Int) := by rw [IntKind.wrap_i64]; omega
                have b1 : (j : Int) < (k : Int) := by omega
                have b2 : (j : Int) < (k : Int) + 1 := by omega
                have b3 : (i : Int) < (m : Int) := by omega
                have b4 : (j : Int) < ((k + 1 : Nat) : Int) := by omega
                have b5 : (j : Int) + 1 < ((k + 1 : Nat) : Int) := by omega
                have b6 : (0 : Int) ≤ (j : Int) + 1 := by omega
                cases C
                case false =>
                  go_wp2
                  go_region
                  all_goals
                    go_wp2
                    go_roundw
                    case rel =>
                      refine ⟨j + 1, es.set (j + 1) false, by omega, by go_num, ?_, ?_, ?_, (unhidA HDD).put _ (by rw [unhidA HF]; rfl) (by omega)⟩
                      · first | exact ((unhidA HPP).other ⟨q, j + 1, none⟩ (.bool false) hpq').drew | exact (unhidA HPP).drew.other ⟨q, j + 1, none⟩ (.bool false) hpq'
                      · first | exact ((unhidA HQQ).put (j + 1) false).drew | exact (unhidA HQQ).drew.put (j + 1) false
                      · first | exact (hBr.setCell (p := ⟨q, j + 1, none⟩) hql.1 (.bool false)).drew | exact hBr.drew.setCell (p := ⟨q, j + 1, none⟩) hql.1 (.bool false)
                    case measure => simp [intOf]; omega
                case true =>
                  go_wp2
                  have hbq : ¬ bk = q := by omega
                  clear q0 c1 c2 c4 hgp hcl hpq hkl fq
                  go_region_held3 (fun W => W.cell? ⟨p, j, none⟩ = some (.bool true) ∧ W.cell? ⟨g, j * 7 + 3, none⟩ = some (.int .u64 s0) ∧ W.cell? ⟨g, j * 7 + 4, none⟩ = some (.int .u64 s1) ∧ W.cell? ⟨g, j * 7 + 5, none⟩ = some (.int .u64 s2) ∧ W.cell? ⟨g, j * 7 + 6, none⟩ = some (.int .u64 s3) ∧ W.cell? ⟨bk, ok + i, none⟩ = some (.int .u8 y)) (first | go_keep | (refine ⟨?_, ?_, ?_, ?_, ?_, ?_⟩ <;> first | exact cell_set_ne k0 hpq' | exact cell_set_ne k3 hgq | exact cell_set_ne k4 hgq | exact cell_set_ne k5 hgq | exact cell_set_ne k6 hgq | exact cell_set_ne k7 hbq)) (first | (go_at_call 27; refine (unhidA hh _).mono ?_; rintro e w' ⟨rfl, hb'⟩; have e1 := ((unhidA HQQ).drew.below hb').cell (j + 1) (by omega); have e2 := ((unhidA HQQ).drew.below hb').free; have k0 := cell_later hb' c3; have k3 := cell_later hb' q3; have k4 := cell_later hb' q4; have k5 := cell_later hb' q5; have k6 := cell_later hb' q6; have k7 := cell_later hb' hkey))
                  all_goals
                    go_wp2
                    go_roundw
                    case rel => exact ⟨j + 1, es.set (j + 1) _, by omega, by go_num, ((unhidA HPP).drew.below hb').other ⟨q, j + 1, none⟩ _ hpq', ((unhidA HQQ).drew.below hb').put (j + 1) _, (hBr.drew.trans (hb'.mono hBr.size)).setCell (p := ⟨q, j + 1, none⟩) hql.1 _, (unhidA HDD).put _ (by rw [unhidA HF]; rfl) (by have := (unhidA HQQ).1; omega)⟩
                    case measure => simp [intOf]; omega
end Go.Proofs.Qxb6605268a
