/-
  DERIVED. The walk of zzg1List (32).
-/
import Derived.Test.Qxb6605268aSet4
import Derived.Test.Qxb6605268aPlainGlob
import Derived.Deep.RegionWith
import Derived.Deep.DrawnRows
namespace Go.Proofs.Qxb6605268a
open Go.RowKit
set_option linter.unusedVariables false
attribute [local go_sem ↓] Go.wp_at_zero Go.wp_at_succ

/-- what the rounds keep of the set: for each byte the rest of the scan comes to the whole. -/
def Srel (l : List Int) (st j : Nat) (t : W4) : Prop := t.ok ∧ ∀ b, 0 ≤ b → b ≤ 255 → j + (scan b (l.drop j) (t.has b)).1 = st + (scan b (l.drop st) false).1 ∧ (scan b (l.drop j) (t.has b)).2 = (scan b (l.drop st) false).2

theorem Srel.start (l : List Int) (st : Nat) : Srel l st st W4.zero := ⟨W4.zero_ok, fun b _ _ => by rw [W4.zero_has]; exact ⟨rfl, rfl⟩⟩
theorem Srel.step {l : List Int} {st j d : Nat} {t t' : W4} (h : Srel l st j t) (ok : t'.ok) (q : Int → Bool) (hq : ∀ b, 0 ≤ b → b ≤ 255 → t'.has b = (t.has b || q b))
    (e : ∀ b m, scan b (l.drop j) m = bump d (scan b (l.drop (j + d)) (m || q b))) : Srel l st (j + d) t' := by
  refine ⟨ok, fun b b0 b1 => ?_⟩
  have := h.2 b b0 b1
  rw [e b, ← hq b b0 b1] at this
  simp only [bump] at this
  exact ⟨by omega, this.2⟩
theorem inRange_self (y b : Int) : inRange y y b = (y == b) := by
  unfold inRange
  by_cases h : y = b
  · subst h; simp
  · have : (y == b) = false := by simpa using h
    rw [this]; exact decide_eq_false (by omega)
theorem Srel.esc {l : List Int} {st j : Nat} {t t' : W4} (h : Srel l st j t) (ok : t'.ok) (hj : j + 1 < l.length) (hx : l.getD j 0 = 92) (hq : ∀ b, 0 ≤ b → b ≤ 255 → t'.has b = (t.has b || inRange (l.getD (j + 1) 0) (l.getD (j + 1) 0) b)) : Srel l st (j + 2) t' :=
  h.step ok _ hq fun b m => by rw [inRange_self]; exact scan_esc b l m j hj hx
theorem Srel.rng {l : List Int} {st j : Nat} {t t' : W4} (h : Srel l st j t) (ok : t'.ok) (hj : j + 2 < l.length) (h1 : l.getD j 0 ≠ 93) (h2 : l.getD j 0 ≠ 92) (h3 : l.getD (j + 1) 0 = 45) (hq : ∀ b, 0 ≤ b → b ≤ 255 → t'.has b = (t.has b || inRange (l.getD j 0) (l.getD (j + 2) 0) b)) : Srel l st (j + 3) t' :=
  h.step ok _ hq fun b m => scan_range b l m j hj h1 h2 h3
theorem Srel.one {l : List Int} {st j : Nat} {t t' : W4} (h : Srel l st j t) (ok : t'.ok) (hj : j < l.length) (h1 : l.getD j 0 ≠ 93) (h2 : ¬ (l.getD j 0 = 92 ∧ j + 1 < l.length)) (h3 : ¬ (j + 2 < l.length ∧ l.getD (j + 1) 0 = 45)) (hq : ∀ b, 0 ≤ b → b ≤ 255 → t'.has b = (t.has b || inRange (l.getD j 0) (l.getD j 0) b)) : Srel l st (j + 1) t' :=
  h.step ok _ hq fun b m => by rw [inRange_self]; exact scan_one b l m j hj h1 h2 h3

/-- what the list comes to, from its body's start on -/
def Mst (l : List Int) (st : Nat) (neg : Bool) : Prop := ∀ b, mlist l b = (min (st + (scan b (l.drop st) false).1 + 1) l.length, (scan b (l.drop st) false).2 != neg)

theorem Srel.shut {l : List Int} {st j : Nat} {t : W4} {neg : Bool} (h : Srel l st j t) (hm : Mst l st neg) (hj : j < l.length) (hx : l.getD j 0 = 93) :
    (mlist l 0).1 = j + 1 ∧ ∀ b, 0 ≤ b → b ≤ 255 → (mlist l b).2 = (t.has b != neg) := by
  refine ⟨?_, fun b b0 b1 => ?_⟩
  · have := (h.2 0 (by omega) (by omega)).1
    rw [scan_close 0 l _ j hj hx] at this
    rw [hm 0]; simp only at this ⊢; omega
  · have := (h.2 b b0 b1).2
    rw [scan_close b l _ j hj hx] at this
    rw [hm b]; simp only at this ⊢; rw [this]
theorem Srel.run {l : List Int} {st j : Nat} {t : W4} {neg : Bool} (h : Srel l st j t) (hm : Mst l st neg) (hj : j = l.length) :
    (mlist l 0).1 = l.length ∧ ∀ b, 0 ≤ b → b ≤ 255 → (mlist l b).2 = (t.has b != neg) := by
  refine ⟨?_, fun b b0 b1 => ?_⟩
  · have := (h.2 0 (by omega) (by omega)).1
    rw [scan_end 0 l _ j (by omega)] at this
    rw [hm 0]; simp only at this ⊢; omega
  · have := (h.2 b b0 b1).2
    rw [scan_end b l _ j (by omega)] at this
    rw [hm b]; simp only at this ⊢; rw [this]

def unshut : Value → Nat | .bool true => 0 | _ => 1

set_option maxHeartbeats 4000000 in
set_option maxRecDepth 100000 in
theorem list_neg (b0 o0 n c : Nat) (l : List Int) (w : World) (h : Sl w (some ⟨b0, o0, none⟩) n c l) (hn : n ≤ 65536) (hn1 : 1 < n) (x1 : Int) (hx1 : Hid (x1 = l.getD 1 0)) (h94 : (x1 == 94) = true) (HM : Hid (Mst l 2 true)) :
    Calls Try.prog 32 #[.slice (some ⟨b0, o0, none⟩) n c] w fun e w' =>
      ∃ t0 t1 t2 t3, e = .returned (.tuple #[.agg #[.int .u64 t0, .int .u64 t1, .int .u64 t2, .int .u64 t3], .int .i64 (mlist l 0).1]) ∧ (W4.mk t0 t1 t2 t3).ok ∧ (∀ b, 0 ≤ b → b ≤ 255 → (W4.mk t0 t1 t2 t3).has b = (mlist l b).2) ∧ Below w.heap.size w w' := by
  have hlen := h.len
  obtain ⟨bb, oo, e, hc⟩ := h.row (by omega)
  cases e
  have hb0 : b0 < w.heap.size := World.block_lt_of_cell? _ _ (hc 0 (by omega))
  have hc1 := hc 1 hn1
  rw [← hx1.out] at hc1
  have HC := hidA hc
  clear hc
  have hn1' : (1 : Int) < (n : Int) := by omega
  go_enter Try.func32, Try.ntmps32
  go_wp2
  go_loopw [5, 7] (fun sj scl wr => ∃ (j : Nat) (t0 t1 t2 t3 : Int) (cl : Bool), j ≤ n ∧ sj = .int .i64 j ∧ scl = .bool cl ∧
      Four wr w.heap.size 0 0 0 0 ∧ Four wr (w.heap.size + 1) t0 t1 t2 t3 ∧ Below w.heap.size w wr ∧
      Srel l 2 j ⟨t0, t1, t2, t3⟩ ∧ (cl = true → j < n ∧ l.getD j 0 = 93)) (fun sj scl _ => 2 * (n - (intOf sj).toNat) + unshut scl)
  case atStart =>
    refine ⟨2, 0, 0, 0, 0, false, by omega, rfl, rfl, (Four.laid w 0 0 0 0).below ((Below.refl _ _).alloc (Nat.le_refl _) _), ?_, ((Below.refl _ _).alloc (Nat.le_refl _) _).alloc (by simp) _, Srel.start l 2, fun e => by cases e⟩
    simpa using Four.laid (w.alloc (.cells #[.int .u64 0, .int .u64 0, .int .u64 0, .int .u64 0] 34)) 0 0 0 0
  case round =>
    obtain ⟨j, t0, t1, t2, t3, cl, hj, rfl, rfl, hF0, hF1, hBr, HS, hcl⟩ := hrel
    have c0 := hF1.c0
    have c1 := hF1.c1
    have c2 := hF1.c2
    have c3 := hF1.c3
    have z := hF1.z
    have c0z := hF0.c0
    have c1z := hF0.c1
    have c2z := hF0.c2
    have c3z := hF0.c3
    have zz := hF0.z
    have hlt := hF1.lt
    have HF0 := hidA hF0
    have HF1 := hidA hF1
    clear hF0 hF1
    cases cl
    case true =>
      obtain ⟨hj', h93⟩ := hcl rfl
      obtain ⟨e1, e2⟩ := HS.shut HM.out (by omega) h93
      have HE1 := hidA e1
      have HE2 := hidA e2
      clear e1 e2 h93 hcl
      have hok := HS.1
      clear HS
      go_wp2_with fail
      refine (compl_bel t0 t1 t2 t3 _ hok).mono ?_
      rintro e w' ⟨r0, r1, r2, r3, rfl, ok', has', hb'⟩
      have G1 := (unhidA HF1).below hb'
      have G0 := (unhidA HF0).below hb'
      have d0 := G1.c0
      have d1 := G1.c1
      have d2 := G1.c2
      have d3 := G1.c3
      have dz := G1.z
      have g0 := G0.c0
      have g1 := G0.c1
      have g2 := G0.c2
      have g3 := G0.c3
      have gz := G0.z
      clear G0 G1
      go_wp2
      exact bodyPost_ret (v := .tuple #[.agg #[.int .u64 r0, .int .u64 r1, .int .u64 r2, .int .u64 r3], .int .i64 (mlist l 0).1]) (by rw [unhidA HE1]; simp [results, Try.results32, go_sem, g0, g1, g2, g3]) rfl
        ⟨r0, r1, r2, r3, rfl, ok', fun b b0 b1 => by rw [has' b b0 b1, unhidA HE2 b b0 b1]; simp, ((((((((hBr.trans (hb'.mono hBr.size)).setCell (by simp) _).setCell (by simp) _).setCell (by simp) _).setCell (by simp) _).setCell (by simp) _).setCell (by simp) _).setCell (by simp) _).setCell (by simp) _⟩
    case false =>
      clear hcl
      by_cases hjn : j < n
      case neg =>
        obtain ⟨e1, e2⟩ := HS.run HM.out (by omega)
        rw [hlen] at e1
        have HE1 := hidA e1
        have HE2 := hidA e2
        clear e1 e2
        have hok := HS.1
        clear HS
        go_wp2_with fail
        refine (compl_bel t0 t1 t2 t3 _ hok).mono ?_
        rintro e w' ⟨r0, r1, r2, r3, rfl, ok', has', hb'⟩
        have G1 := (unhidA HF1).below hb'
        have G0 := (unhidA HF0).below hb'
        have d0 := G1.c0
        have d1 := G1.c1
        have d2 := G1.c2
        have d3 := G1.c3
        have dz := G1.z
        have g0 := G0.c0
        have g1 := G0.c1
        have g2 := G0.c2
        have g3 := G0.c3
        have gz := G0.z
        clear G0 G1
        go_wp2
        exact bodyPost_ret (v := .tuple #[.agg #[.int .u64 r0, .int .u64 r1, .int .u64 r2, .int .u64 r3], .int .i64 (mlist l 0).1]) (by rw [unhidA HE1]; simp [results, Try.results32, go_sem, g0, g1, g2, g3]) rfl
          ⟨r0, r1, r2, r3, rfl, ok', fun b b0 b1 => by rw [has' b b0 b1, unhidA HE2 b b0 b1]; simp, ((((((((hBr.trans (hb'.mono hBr.size)).setCell (by simp) _).setCell (by simp) _).setCell (by simp) _).setCell (by simp) _).setCell (by simp) _).setCell (by simp) _).setCell (by simp) _).setCell (by simp) _⟩
      case pos =>
        have HS' := hidA HS
        have hok := HS.1
        clear HS
        have HS := HS'
        clear HS'
        obtain ⟨x, hx⟩ : ∃ x, x = l.getD j 0 := ⟨_, rfl⟩
        have hcx := cell_later hBr (HC.out j hjn)
        have hxr := getD_rng h.rng j
        rw [← hx] at hcx hxr
        have HX := hidA hx
        clear hx
        have hjn' : (j : Int) < (n : Int) := by omega
        by_cases h93 : (x == 93) = true
        case pos =>
          go_wp2
          go_roundw
          case rel => exact ⟨j, t0, t1, t2, t3, true, by omega, rfl, rfl, unhidA HF0, unhidA HF1, hBr, unhidA HS, fun _ => ⟨hjn, by rw [← HX.out]; simpa using h93⟩⟩
          case measure => simp [intOf, unshut]
        case neg =>
          have h93' : (x == 93) = false := by simpa using h93
          have N93 : Hid (l.getD j 0 ≠ 93) := by rw [← HX.out]; show ¬ x = 93; simpa using h93'
          clear h93
          obtain ⟨y, hy⟩ : ∃ y, y = l.getD (j + 1) 0 := ⟨_, rfl⟩
          have HY := hidA hy
          clear hy
          by_cases h92 : (x == 92) = true ∧ j + 1 < n
          case pos =>
            obtain ⟨h92, hj1⟩ := h92
            have hj1' : (j : Int) + 1 < (n : Int) := by omega
            have hcy := cell_later hBr (HC.out (j + 1) hj1)
            have hyr := getD_rng h.rng (j + 1)
            rw [← HY.out] at hcy hyr
            have HA := hidA (fun W => add_bel t0 t1 t2 t3 y y W hok hyr hyr)
            have hwr : IntKind.i64.wrap ((j : Int) + 1) = (j : Int) + 1 := by rw [IntKind.wrap_i64]; omega
            go_wp2
            go_region_with (go_at_call 33; refine (unhidA HA _).mono ?_; rintro e w' ⟨r0, r1, r2, r3, rfl, ok', has', hb'⟩; have d0 := ((unhidA HF1).drew.below hb').c0; have d1 := ((unhidA HF1).drew.below hb').c1; have d2 := ((unhidA HF1).drew.below hb').c2; have d3 := ((unhidA HF1).drew.below hb').c3; have dz := ((unhidA HF1).drew.below hb').z)
            all_goals
              have G1 := ((unhidA HF1).drew.below hb').store r0 r1 r2 r3
              have G0 := (((((unhidA HF0).drew.below hb').other ⟨w.heap.size + 1, 0, none⟩ (.int .u64 r0) (by simp)).other ⟨w.heap.size + 1, 1, none⟩ (.int .u64 r1) (by simp)).other ⟨w.heap.size + 1, 2, none⟩ (.int .u64 r2) (by simp)).other ⟨w.heap.size + 1, 3, none⟩ (.int .u64 r3) (by simp)
              have HG1 := hidA G1
              have HG0 := hidA G0
              have HBF := hidA (((((hBr.drew.trans (hb'.mono hBr.size)).setCell (p := ⟨w.heap.size + 1, 0, none⟩) (by simp) (.int .u64 r0)).setCell (p := ⟨w.heap.size + 1, 1, none⟩) (by simp) (.int .u64 r1)).setCell (p := ⟨w.heap.size + 1, 2, none⟩) (by simp) (.int .u64 r2)).setCell (p := ⟨w.heap.size + 1, 3, none⟩) (by simp) (.int .u64 r3))
              have HST2 := hidA ((unhidA HS).esc ok' (by omega) (by rw [← HX.out]; simpa using h92) (by rw [← HY.out]; exact has'))
              clear G1 G0 HS d0 d1 d2 d3 dz has' HA
              go_wp2
              go_roundw
              case rel => exact ⟨j + 2, r0, r1, r2, r3, false, by omega, by go_num, rfl, unhidA HG0, unhidA HG1, unhidA HBF, unhidA HST2, fun e => by cases e⟩
              case measure => simp [intOf, unshut]; omega
          case neg =>
            by_cases h45 : (x == 92) = false ∧ j + 2 < n ∧ (y == 45) = true
            case pos =>
              obtain ⟨h92', hj2, h45⟩ := h45
              have hj2' : (j : Int) + 2 < (n : Int) := by omega
              have hj1' : (j : Int) + 1 < (n : Int) := by omega
              have hcy := cell_later hBr (HC.out (j + 1) (by omega))
              rw [← HY.out] at hcy
              obtain ⟨v, hv⟩ : ∃ v, v = l.getD (j + 2) 0 := ⟨_, rfl⟩
              have hcv := cell_later hBr (HC.out (j + 2) hj2)
              have hvr := getD_rng h.rng (j + 2)
              rw [← hv] at hcv hvr
              have HV := hidA hv
              clear hv h92
              have HA := hidA (fun W => add_bel t0 t1 t2 t3 x v W hok hxr hvr)
              have hwr : IntKind.i64.wrap ((j : Int) + 2) = (j : Int) + 2 := by rw [IntKind.wrap_i64]; omega
              go_wp2
              go_region_with (go_at_call 33; refine (unhidA HA _).mono ?_; rintro e w' ⟨r0, r1, r2, r3, rfl, ok', has', hb'⟩; have d0 := ((unhidA HF1).drew.below hb').c0; have d1 := ((unhidA HF1).drew.below hb').c1; have d2 := ((unhidA HF1).drew.below hb').c2; have d3 := ((unhidA HF1).drew.below hb').c3; have dz := ((unhidA HF1).drew.below hb').z)
              all_goals
                have G1 := ((unhidA HF1).drew.below hb').store r0 r1 r2 r3
                have G0 := (((((unhidA HF0).drew.below hb').other ⟨w.heap.size + 1, 0, none⟩ (.int .u64 r0) (by simp)).other ⟨w.heap.size + 1, 1, none⟩ (.int .u64 r1) (by simp)).other ⟨w.heap.size + 1, 2, none⟩ (.int .u64 r2) (by simp)).other ⟨w.heap.size + 1, 3, none⟩ (.int .u64 r3) (by simp)
                have HG1 := hidA G1
                have HG0 := hidA G0
                have HBF := hidA (((((hBr.drew.trans (hb'.mono hBr.size)).setCell (p := ⟨w.heap.size + 1, 0, none⟩) (by simp) (.int .u64 r0)).setCell (p := ⟨w.heap.size + 1, 1, none⟩) (by simp) (.int .u64 r1)).setCell (p := ⟨w.heap.size + 1, 2, none⟩) (by simp) (.int .u64 r2)).setCell (p := ⟨w.heap.size + 1, 3, none⟩) (by simp) (.int .u64 r3))
                have HST2 := hidA ((unhidA HS).rng ok' (by omega) N93.out (by rw [← HX.out]; simpa using h92') (by rw [← HY.out]; simpa using h45) (by rw [← HX.out, ← HV.out]; exact has'))
                clear G1 G0 HS d0 d1 d2 d3 dz has' HA
                go_wp2
                go_roundw
                case rel => exact ⟨j + 3, r0, r1, r2, r3, false, by omega, by go_num, rfl, unhidA HG0, unhidA HG1, unhidA HBF, unhidA HST2, fun e => by cases e⟩
                case measure => simp [intOf, unshut]; omega

            case neg =>
              have HA := hidA (fun W => add_bel t0 t1 t2 t3 x x W hok hxr hxr)
              have HO2 : Hid (¬ (l.getD j 0 = 92 ∧ j + 1 < l.length)) := by rw [← HX.out]; show ¬ _; intro e; exact h92 ⟨by simpa using e.1, by omega⟩
              have HO3 : Hid (¬ (l.getD j 0 ≠ 92 ∧ j + 2 < l.length ∧ l.getD (j + 1) 0 = 45)) := by rw [← HX.out, ← HY.out]; show ¬ _; intro e; exact h45 ⟨by simpa using e.1, by omega, by simpa using e.2.2⟩
              have hcase : ((x == 92) = true ∧ n ≤ j + 1) ∨ ((x == 92) = false ∧ n ≤ j + 2) ∨ ((x == 92) = false ∧ j + 2 < n ∧ (y == 45) = false) := by
                by_cases a1 : (x == 92) = true
                · exact .inl ⟨a1, Nat.le_of_not_lt (fun e => h92 ⟨a1, e⟩)⟩
                · have a1' : (x == 92) = false := by simpa using a1
                  by_cases a2 : j + 2 < n
                  · refine .inr (.inr ⟨a1', a2, ?_⟩)
                    by_cases a3 : (y == 45) = true
                    · exact absurd ⟨a1', a2, a3⟩ h45
                    · simpa using a3
                  · exact .inr (.inl ⟨a1', by omega⟩)
              have HO4 : Hid (¬ (j + 2 < l.length ∧ l.getD (j + 1) 0 = 45)) := by
                show ¬ _
                intro e
                by_cases a : l.getD j 0 = 92
                · exact HO2.out ⟨a, by omega⟩
                · exact HO3.out ⟨a, e⟩
              clear h92 h45 HO3
              rcases hcase with ⟨h92, hj1⟩ | ⟨h92, hj2⟩ | ⟨h92, hj2, h45⟩
              · go_wp2
                go_region_with (go_at_call 33; refine (unhidA HA _).mono ?_; rintro e w' ⟨r0, r1, r2, r3, rfl, ok', has', hb'⟩; have d0 := ((unhidA HF1).drew.below hb').c0; have d1 := ((unhidA HF1).drew.below hb').c1; have d2 := ((unhidA HF1).drew.below hb').c2; have d3 := ((unhidA HF1).drew.below hb').c3; have dz := ((unhidA HF1).drew.below hb').z)
                all_goals
                  have G1 := ((unhidA HF1).drew.below hb').store r0 r1 r2 r3
                  have G0 := (((((unhidA HF0).drew.below hb').other ⟨w.heap.size + 1, 0, none⟩ (.int .u64 r0) (by simp)).other ⟨w.heap.size + 1, 1, none⟩ (.int .u64 r1) (by simp)).other ⟨w.heap.size + 1, 2, none⟩ (.int .u64 r2) (by simp)).other ⟨w.heap.size + 1, 3, none⟩ (.int .u64 r3) (by simp)
                  have HG1 := hidA G1
                  have HG0 := hidA G0
                  have HBF := hidA (((((hBr.drew.trans (hb'.mono hBr.size)).setCell (p := ⟨w.heap.size + 1, 0, none⟩) (by simp) (.int .u64 r0)).setCell (p := ⟨w.heap.size + 1, 1, none⟩) (by simp) (.int .u64 r1)).setCell (p := ⟨w.heap.size + 1, 2, none⟩) (by simp) (.int .u64 r2)).setCell (p := ⟨w.heap.size + 1, 3, none⟩) (by simp) (.int .u64 r3))
                  have HST2 := hidA ((unhidA HS).one ok' (by omega) N93.out HO2.out HO4.out (by rw [← HX.out]; exact has'))
                  clear G1 G0 HS d0 d1 d2 d3 dz has' HA
                  go_wp2
                  go_roundw
                  case rel => exact ⟨j + 1, r0, r1, r2, r3, false, by omega, by go_num, rfl, unhidA HG0, unhidA HG1, unhidA HBF, unhidA HST2, fun e => by cases e⟩
                  case measure => simp [intOf, unshut]; omega

              · go_wp2
                go_region_with (go_at_call 33; refine (unhidA HA _).mono ?_; rintro e w' ⟨r0, r1, r2, r3, rfl, ok', has', hb'⟩; have d0 := ((unhidA HF1).drew.below hb').c0; have d1 := ((unhidA HF1).drew.below hb').c1; have d2 := ((unhidA HF1).drew.below hb').c2; have d3 := ((unhidA HF1).drew.below hb').c3; have dz := ((unhidA HF1).drew.below hb').z)
                all_goals
                  have G1 := ((unhidA HF1).drew.below hb').store r0 r1 r2 r3
                  have G0 := (((((unhidA HF0).drew.below hb').other ⟨w.heap.size + 1, 0, none⟩ (.int .u64 r0) (by simp)).other ⟨w.heap.size + 1, 1, none⟩ (.int .u64 r1) (by simp)).other ⟨w.heap.size + 1, 2, none⟩ (.int .u64 r2) (by simp)).other ⟨w.heap.size + 1, 3, none⟩ (.int .u64 r3) (by simp)
                  have HG1 := hidA G1
                  have HG0 := hidA G0
                  have HBF := hidA (((((hBr.drew.trans (hb'.mono hBr.size)).setCell (p := ⟨w.heap.size + 1, 0, none⟩) (by simp) (.int .u64 r0)).setCell (p := ⟨w.heap.size + 1, 1, none⟩) (by simp) (.int .u64 r1)).setCell (p := ⟨w.heap.size + 1, 2, none⟩) (by simp) (.int .u64 r2)).setCell (p := ⟨w.heap.size + 1, 3, none⟩) (by simp) (.int .u64 r3))
                  have HST2 := hidA ((unhidA HS).one ok' (by omega) N93.out HO2.out HO4.out (by rw [← HX.out]; exact has'))
                  clear G1 G0 HS d0 d1 d2 d3 dz has' HA
                  go_wp2
                  go_roundw
                  case rel => exact ⟨j + 1, r0, r1, r2, r3, false, by omega, by go_num, rfl, unhidA HG0, unhidA HG1, unhidA HBF, unhidA HST2, fun e => by cases e⟩
                  case measure => simp [intOf, unshut]; omega

              · have hcy := cell_later hBr (HC.out (j + 1) (by omega))
                rw [← HY.out] at hcy
                have hj1' : (j : Int) + 1 < (n : Int) := by omega
                go_wp2
                go_region_with (go_at_call 33; refine (unhidA HA _).mono ?_; rintro e w' ⟨r0, r1, r2, r3, rfl, ok', has', hb'⟩; have d0 := ((unhidA HF1).drew.below hb').c0; have d1 := ((unhidA HF1).drew.below hb').c1; have d2 := ((unhidA HF1).drew.below hb').c2; have d3 := ((unhidA HF1).drew.below hb').c3; have dz := ((unhidA HF1).drew.below hb').z)
                all_goals
                  have G1 := ((unhidA HF1).drew.below hb').store r0 r1 r2 r3
                  have G0 := (((((unhidA HF0).drew.below hb').other ⟨w.heap.size + 1, 0, none⟩ (.int .u64 r0) (by simp)).other ⟨w.heap.size + 1, 1, none⟩ (.int .u64 r1) (by simp)).other ⟨w.heap.size + 1, 2, none⟩ (.int .u64 r2) (by simp)).other ⟨w.heap.size + 1, 3, none⟩ (.int .u64 r3) (by simp)
                  have HG1 := hidA G1
                  have HG0 := hidA G0
                  have HBF := hidA (((((hBr.drew.trans (hb'.mono hBr.size)).setCell (p := ⟨w.heap.size + 1, 0, none⟩) (by simp) (.int .u64 r0)).setCell (p := ⟨w.heap.size + 1, 1, none⟩) (by simp) (.int .u64 r1)).setCell (p := ⟨w.heap.size + 1, 2, none⟩) (by simp) (.int .u64 r2)).setCell (p := ⟨w.heap.size + 1, 3, none⟩) (by simp) (.int .u64 r3))
                  have HST2 := hidA ((unhidA HS).one ok' (by omega) N93.out HO2.out HO4.out (by rw [← HX.out]; exact has'))
                  clear G1 G0 HS d0 d1 d2 d3 dz has' HA
                  go_wp2
                  go_roundw
                  case rel => exact ⟨j + 1, r0, r1, r2, r3, false, by omega, by go_num, rfl, unhidA HG0, unhidA HG1, unhidA HBF, unhidA HST2, fun e => by cases e⟩
                  case measure => simp [intOf, unshut]; omega

set_option maxHeartbeats 4000000 in
set_option maxRecDepth 100000 in
theorem list_pos (b0 o0 n c : Nat) (l : List Int) (w : World) (h : Sl w (some ⟨b0, o0, none⟩) n c l) (hn : n ≤ 65536) (hn1 : 1 < n) (x1 : Int) (hx1 : Hid (x1 = l.getD 1 0)) (h94 : (x1 == 94) = false) (HM : Hid (Mst l 1 false)) :
    Calls Try.prog 32 #[.slice (some ⟨b0, o0, none⟩) n c] w fun e w' =>
      ∃ t0 t1 t2 t3, e = .returned (.tuple #[.agg #[.int .u64 t0, .int .u64 t1, .int .u64 t2, .int .u64 t3], .int .i64 (mlist l 0).1]) ∧ (W4.mk t0 t1 t2 t3).ok ∧ (∀ b, 0 ≤ b → b ≤ 255 → (W4.mk t0 t1 t2 t3).has b = (mlist l b).2) ∧ Below w.heap.size w w' := by
  have hlen := h.len
  obtain ⟨bb, oo, e, hc⟩ := h.row (by omega)
  cases e
  have hb0 : b0 < w.heap.size := World.block_lt_of_cell? _ _ (hc 0 (by omega))
  have hc1 := hc 1 hn1
  rw [← hx1.out] at hc1
  have HC := hidA hc
  clear hc
  have hn1' : (1 : Int) < (n : Int) := by omega
  go_enter Try.func32, Try.ntmps32
  go_wp2
  go_loopw [5, 7] (fun sj scl wr => ∃ (j : Nat) (t0 t1 t2 t3 : Int) (cl : Bool), j ≤ n ∧ sj = .int .i64 j ∧ scl = .bool cl ∧
      Four wr w.heap.size 0 0 0 0 ∧ Four wr (w.heap.size + 1) t0 t1 t2 t3 ∧ Below w.heap.size w wr ∧
      Srel l 1 j ⟨t0, t1, t2, t3⟩ ∧ (cl = true → j < n ∧ l.getD j 0 = 93)) (fun sj scl _ => 2 * (n - (intOf sj).toNat) + unshut scl)
  case atStart =>
    refine ⟨1, 0, 0, 0, 0, false, by omega, rfl, rfl, (Four.laid w 0 0 0 0).below ((Below.refl _ _).alloc (Nat.le_refl _) _), ?_, ((Below.refl _ _).alloc (Nat.le_refl _) _).alloc (by simp) _, Srel.start l 1, fun e => by cases e⟩
    simpa using Four.laid (w.alloc (.cells #[.int .u64 0, .int .u64 0, .int .u64 0, .int .u64 0] 34)) 0 0 0 0
  case round =>
    obtain ⟨j, t0, t1, t2, t3, cl, hj, rfl, rfl, hF0, hF1, hBr, HS, hcl⟩ := hrel
    have c0 := hF1.c0
    have c1 := hF1.c1
    have c2 := hF1.c2
    have c3 := hF1.c3
    have z := hF1.z
    have c0z := hF0.c0
    have c1z := hF0.c1
    have c2z := hF0.c2
    have c3z := hF0.c3
    have zz := hF0.z
    have hlt := hF1.lt
    have HF0 := hidA hF0
    have HF1 := hidA hF1
    clear hF0 hF1
    cases cl
    case true =>
      obtain ⟨hj', h93⟩ := hcl rfl
      obtain ⟨e1, e2⟩ := HS.shut HM.out (by omega) h93
      have HE1 := hidA e1
      have HE2 := hidA e2
      clear e1 e2 h93 hcl
      have hok := HS.1
      clear HS
      go_wp2
      exact bodyPost_ret (v := .tuple #[.agg #[.int .u64 t0, .int .u64 t1, .int .u64 t2, .int .u64 t3], .int .i64 (mlist l 0).1]) (by rw [unhidA HE1]; simp [results, Try.results32, go_sem, c0z, c1z, c2z, c3z]) rfl
        ⟨t0, t1, t2, t3, rfl, hok, fun b b0 b1 => by rw [unhidA HE2 b b0 b1]; simp, (((hBr.setCell (by simp) _).setCell (by simp) _).setCell (by simp) _).setCell (by simp) _⟩
    case false =>
      clear hcl
      by_cases hjn : j < n
      case neg =>
        obtain ⟨e1, e2⟩ := HS.run HM.out (by omega)
        rw [hlen] at e1
        have HE1 := hidA e1
        have HE2 := hidA e2
        clear e1 e2
        have hok := HS.1
        clear HS
        go_wp2
        exact bodyPost_ret (v := .tuple #[.agg #[.int .u64 t0, .int .u64 t1, .int .u64 t2, .int .u64 t3], .int .i64 (mlist l 0).1]) (by rw [unhidA HE1]; simp [results, Try.results32, go_sem, c0z, c1z, c2z, c3z]) rfl
          ⟨t0, t1, t2, t3, rfl, hok, fun b b0 b1 => by rw [unhidA HE2 b b0 b1]; simp, (((hBr.setCell (by simp) _).setCell (by simp) _).setCell (by simp) _).setCell (by simp) _⟩
      case pos =>
        have HS' := hidA HS
        have hok := HS.1
        clear HS
        have HS := HS'
        clear HS'
        obtain ⟨x, hx⟩ : ∃ x, x = l.getD j 0 := ⟨_, rfl⟩
        have hcx := cell_later hBr (HC.out j hjn)
        have hxr := getD_rng h.rng j
        rw [← hx] at hcx hxr
        have HX := hidA hx
        clear hx
        have hjn' : (j : Int) < (n : Int) := by omega
        by_cases h93 : (x == 93) = true
        case pos =>
          go_wp2
          go_roundw
          case rel => exact ⟨j, t0, t1, t2, t3, true, by omega, rfl, rfl, unhidA HF0, unhidA HF1, hBr, unhidA HS, fun _ => ⟨hjn, by rw [← HX.out]; simpa using h93⟩⟩
          case measure => simp [intOf, unshut]
        case neg =>
          have h93' : (x == 93) = false := by simpa using h93
          have N93 : Hid (l.getD j 0 ≠ 93) := by rw [← HX.out]; show ¬ x = 93; simpa using h93'
          clear h93
          obtain ⟨y, hy⟩ : ∃ y, y = l.getD (j + 1) 0 := ⟨_, rfl⟩
          have HY := hidA hy
          clear hy
          by_cases h92 : (x == 92) = true ∧ j + 1 < n
          case pos =>
            obtain ⟨h92, hj1⟩ := h92
            have hj1' : (j : Int) + 1 < (n : Int) := by omega
            have hcy := cell_later hBr (HC.out (j + 1) hj1)
            have hyr := getD_rng h.rng (j + 1)
            rw [← HY.out] at hcy hyr
            have HA := hidA (fun W => add_bel t0 t1 t2 t3 y y W hok hyr hyr)
            have hwr : IntKind.i64.wrap ((j : Int) + 1) = (j : Int) + 1 := by rw [IntKind.wrap_i64]; omega
            go_wp2
            go_region_with (go_at_call 33; refine (unhidA HA _).mono ?_; rintro e w' ⟨r0, r1, r2, r3, rfl, ok', has', hb'⟩; have d0 := ((unhidA HF1).drew.below hb').c0; have d1 := ((unhidA HF1).drew.below hb').c1; have d2 := ((unhidA HF1).drew.below hb').c2; have d3 := ((unhidA HF1).drew.below hb').c3; have dz := ((unhidA HF1).drew.below hb').z)
            all_goals
              have G1 := ((unhidA HF1).drew.below hb').store r0 r1 r2 r3
              have G0 := (((((unhidA HF0).drew.below hb').other ⟨w.heap.size + 1, 0, none⟩ (.int .u64 r0) (by simp)).other ⟨w.heap.size + 1, 1, none⟩ (.int .u64 r1) (by simp)).other ⟨w.heap.size + 1, 2, none⟩ (.int .u64 r2) (by simp)).other ⟨w.heap.size + 1, 3, none⟩ (.int .u64 r3) (by simp)
              have HG1 := hidA G1
              have HG0 := hidA G0
              have HBF := hidA (((((hBr.drew.trans (hb'.mono hBr.size)).setCell (p := ⟨w.heap.size + 1, 0, none⟩) (by simp) (.int .u64 r0)).setCell (p := ⟨w.heap.size + 1, 1, none⟩) (by simp) (.int .u64 r1)).setCell (p := ⟨w.heap.size + 1, 2, none⟩) (by simp) (.int .u64 r2)).setCell (p := ⟨w.heap.size + 1, 3, none⟩) (by simp) (.int .u64 r3))
              have HST2 := hidA ((unhidA HS).esc ok' (by omega) (by rw [← HX.out]; simpa using h92) (by rw [← HY.out]; exact has'))
              clear G1 G0 HS d0 d1 d2 d3 dz has' HA
              go_wp2
              go_roundw
              case rel => exact ⟨j + 2, r0, r1, r2, r3, false, by omega, by go_num, rfl, unhidA HG0, unhidA HG1, unhidA HBF, unhidA HST2, fun e => by cases e⟩
              case measure => simp [intOf, unshut]; omega
          case neg =>
            by_cases h45 : (x == 92) = false ∧ j + 2 < n ∧ (y == 45) = true
            case pos =>
              obtain ⟨h92', hj2, h45⟩ := h45
              have hj2' : (j : Int) + 2 < (n : Int) := by omega
              have hj1' : (j : Int) + 1 < (n : Int) := by omega
              have hcy := cell_later hBr (HC.out (j + 1) (by omega))
              rw [← HY.out] at hcy
              obtain ⟨v, hv⟩ : ∃ v, v = l.getD (j + 2) 0 := ⟨_, rfl⟩
              have hcv := cell_later hBr (HC.out (j + 2) hj2)
              have hvr := getD_rng h.rng (j + 2)
              rw [← hv] at hcv hvr
              have HV := hidA hv
              clear hv h92
              have HA := hidA (fun W => add_bel t0 t1 t2 t3 x v W hok hxr hvr)
              have hwr : IntKind.i64.wrap ((j : Int) + 2) = (j : Int) + 2 := by rw [IntKind.wrap_i64]; omega
              go_wp2
              go_region_with (go_at_call 33; refine (unhidA HA _).mono ?_; rintro e w' ⟨r0, r1, r2, r3, rfl, ok', has', hb'⟩; have d0 := ((unhidA HF1).drew.below hb').c0; have d1 := ((unhidA HF1).drew.below hb').c1; have d2 := ((unhidA HF1).drew.below hb').c2; have d3 := ((unhidA HF1).drew.below hb').c3; have dz := ((unhidA HF1).drew.below hb').z)
              all_goals
                have G1 := ((unhidA HF1).drew.below hb').store r0 r1 r2 r3
                have G0 := (((((unhidA HF0).drew.below hb').other ⟨w.heap.size + 1, 0, none⟩ (.int .u64 r0) (by simp)).other ⟨w.heap.size + 1, 1, none⟩ (.int .u64 r1) (by simp)).other ⟨w.heap.size + 1, 2, none⟩ (.int .u64 r2) (by simp)).other ⟨w.heap.size + 1, 3, none⟩ (.int .u64 r3) (by simp)
                have HG1 := hidA G1
                have HG0 := hidA G0
                have HBF := hidA (((((hBr.drew.trans (hb'.mono hBr.size)).setCell (p := ⟨w.heap.size + 1, 0, none⟩) (by simp) (.int .u64 r0)).setCell (p := ⟨w.heap.size + 1, 1, none⟩) (by simp) (.int .u64 r1)).setCell (p := ⟨w.heap.size + 1, 2, none⟩) (by simp) (.int .u64 r2)).setCell (p := ⟨w.heap.size + 1, 3, none⟩) (by simp) (.int .u64 r3))
                have HST2 := hidA ((unhidA HS).rng ok' (by omega) N93.out (by rw [← HX.out]; simpa using h92') (by rw [← HY.out]; simpa using h45) (by rw [← HX.out, ← HV.out]; exact has'))
                clear G1 G0 HS d0 d1 d2 d3 dz has' HA
                go_wp2
                go_roundw
                case rel => exact ⟨j + 3, r0, r1, r2, r3, false, by omega, by go_num, rfl, unhidA HG0, unhidA HG1, unhidA HBF, unhidA HST2, fun e => by cases e⟩
                case measure => simp [intOf, unshut]; omega

            case neg =>
              have HA := hidA (fun W => add_bel t0 t1 t2 t3 x x W hok hxr hxr)
              have HO2 : Hid (¬ (l.getD j 0 = 92 ∧ j + 1 < l.length)) := by rw [← HX.out]; show ¬ _; intro e; exact h92 ⟨by simpa using e.1, by omega⟩
              have HO3 : Hid (¬ (l.getD j 0 ≠ 92 ∧ j + 2 < l.length ∧ l.getD (j + 1) 0 = 45)) := by rw [← HX.out, ← HY.out]; show ¬ _; intro e; exact h45 ⟨by simpa using e.1, by omega, by simpa using e.2.2⟩
              have hcase : ((x == 92) = true ∧ n ≤ j + 1) ∨ ((x == 92) = false ∧ n ≤ j + 2) ∨ ((x == 92) = false ∧ j + 2 < n ∧ (y == 45) = false) := by
                by_cases a1 : (x == 92) = true
                · exact .inl ⟨a1, Nat.le_of_not_lt (fun e => h92 ⟨a1, e⟩)⟩
                · have a1' : (x == 92) = false := by simpa using a1
                  by_cases a2 : j + 2 < n
                  · refine .inr (.inr ⟨a1', a2, ?_⟩)
                    by_cases a3 : (y == 45) = true
                    · exact absurd ⟨a1', a2, a3⟩ h45
                    · simpa using a3
                  · exact .inr (.inl ⟨a1', by omega⟩)
              have HO4 : Hid (¬ (j + 2 < l.length ∧ l.getD (j + 1) 0 = 45)) := by
                show ¬ _
                intro e
                by_cases a : l.getD j 0 = 92
                · exact HO2.out ⟨a, by omega⟩
                · exact HO3.out ⟨a, e⟩
              clear h92 h45 HO3
              rcases hcase with ⟨h92, hj1⟩ | ⟨h92, hj2⟩ | ⟨h92, hj2, h45⟩
              · go_wp2
                go_region_with (go_at_call 33; refine (unhidA HA _).mono ?_; rintro e w' ⟨r0, r1, r2, r3, rfl, ok', has', hb'⟩; have d0 := ((unhidA HF1).drew.below hb').c0; have d1 := ((unhidA HF1).drew.below hb').c1; have d2 := ((unhidA HF1).drew.below hb').c2; have d3 := ((unhidA HF1).drew.below hb').c3; have dz := ((unhidA HF1).drew.below hb').z)
                all_goals
                  have G1 := ((unhidA HF1).drew.below hb').store r0 r1 r2 r3
                  have G0 := (((((unhidA HF0).drew.below hb').other ⟨w.heap.size + 1, 0, none⟩ (.int .u64 r0) (by simp)).other ⟨w.heap.size + 1, 1, none⟩ (.int .u64 r1) (by simp)).other ⟨w.heap.size + 1, 2, none⟩ (.int .u64 r2) (by simp)).other ⟨w.heap.size + 1, 3, none⟩ (.int .u64 r3) (by simp)
                  have HG1 := hidA G1
                  have HG0 := hidA G0
                  have HBF := hidA (((((hBr.drew.trans (hb'.mono hBr.size)).setCell (p := ⟨w.heap.size + 1, 0, none⟩) (by simp) (.int .u64 r0)).setCell (p := ⟨w.heap.size + 1, 1, none⟩) (by simp) (.int .u64 r1)).setCell (p := ⟨w.heap.size + 1, 2, none⟩) (by simp) (.int .u64 r2)).setCell (p := ⟨w.heap.size + 1, 3, none⟩) (by simp) (.int .u64 r3))
                  have HST2 := hidA ((unhidA HS).one ok' (by omega) N93.out HO2.out HO4.out (by rw [← HX.out]; exact has'))
                  clear G1 G0 HS d0 d1 d2 d3 dz has' HA
                  go_wp2
                  go_roundw
                  case rel => exact ⟨j + 1, r0, r1, r2, r3, false, by omega, by go_num, rfl, unhidA HG0, unhidA HG1, unhidA HBF, unhidA HST2, fun e => by cases e⟩
                  case measure => simp [intOf, unshut]; omega

              · go_wp2
                go_region_with (go_at_call 33; refine (unhidA HA _).mono ?_; rintro e w' ⟨r0, r1, r2, r3, rfl, ok', has', hb'⟩; have d0 := ((unhidA HF1).drew.below hb').c0; have d1 := ((unhidA HF1).drew.below hb').c1; have d2 := ((unhidA HF1).drew.below hb').c2; have d3 := ((unhidA HF1).drew.below hb').c3; have dz := ((unhidA HF1).drew.below hb').z)
                all_goals
                  have G1 := ((unhidA HF1).drew.below hb').store r0 r1 r2 r3
                  have G0 := (((((unhidA HF0).drew.below hb').other ⟨w.heap.size + 1, 0, none⟩ (.int .u64 r0) (by simp)).other ⟨w.heap.size + 1, 1, none⟩ (.int .u64 r1) (by simp)).other ⟨w.heap.size + 1, 2, none⟩ (.int .u64 r2) (by simp)).other ⟨w.heap.size + 1, 3, none⟩ (.int .u64 r3) (by simp)
                  have HG1 := hidA G1
                  have HG0 := hidA G0
                  have HBF := hidA (((((hBr.drew.trans (hb'.mono hBr.size)).setCell (p := ⟨w.heap.size + 1, 0, none⟩) (by simp) (.int .u64 r0)).setCell (p := ⟨w.heap.size + 1, 1, none⟩) (by simp) (.int .u64 r1)).setCell (p := ⟨w.heap.size + 1, 2, none⟩) (by simp) (.int .u64 r2)).setCell (p := ⟨w.heap.size + 1, 3, none⟩) (by simp) (.int .u64 r3))
                  have HST2 := hidA ((unhidA HS).one ok' (by omega) N93.out HO2.out HO4.out (by rw [← HX.out]; exact has'))
                  clear G1 G0 HS d0 d1 d2 d3 dz has' HA
                  go_wp2
                  go_roundw
                  case rel => exact ⟨j + 1, r0, r1, r2, r3, false, by omega, by go_num, rfl, unhidA HG0, unhidA HG1, unhidA HBF, unhidA HST2, fun e => by cases e⟩
                  case measure => simp [intOf, unshut]; omega

              · have hcy := cell_later hBr (HC.out (j + 1) (by omega))
                rw [← HY.out] at hcy
                have hj1' : (j : Int) + 1 < (n : Int) := by omega
                go_wp2
                go_region_with (go_at_call 33; refine (unhidA HA _).mono ?_; rintro e w' ⟨r0, r1, r2, r3, rfl, ok', has', hb'⟩; have d0 := ((unhidA HF1).drew.below hb').c0; have d1 := ((unhidA HF1).drew.below hb').c1; have d2 := ((unhidA HF1).drew.below hb').c2; have d3 := ((unhidA HF1).drew.below hb').c3; have dz := ((unhidA HF1).drew.below hb').z)
                all_goals
                  have G1 := ((unhidA HF1).drew.below hb').store r0 r1 r2 r3
                  have G0 := (((((unhidA HF0).drew.below hb').other ⟨w.heap.size + 1, 0, none⟩ (.int .u64 r0) (by simp)).other ⟨w.heap.size + 1, 1, none⟩ (.int .u64 r1) (by simp)).other ⟨w.heap.size + 1, 2, none⟩ (.int .u64 r2) (by simp)).other ⟨w.heap.size + 1, 3, none⟩ (.int .u64 r3) (by simp)
                  have HG1 := hidA G1
                  have HG0 := hidA G0
                  have HBF := hidA (((((hBr.drew.trans (hb'.mono hBr.size)).setCell (p := ⟨w.heap.size + 1, 0, none⟩) (by simp) (.int .u64 r0)).setCell (p := ⟨w.heap.size + 1, 1, none⟩) (by simp) (.int .u64 r1)).setCell (p := ⟨w.heap.size + 1, 2, none⟩) (by simp) (.int .u64 r2)).setCell (p := ⟨w.heap.size + 1, 3, none⟩) (by simp) (.int .u64 r3))
                  have HST2 := hidA ((unhidA HS).one ok' (by omega) N93.out HO2.out HO4.out (by rw [← HX.out]; exact has'))
                  clear G1 G0 HS d0 d1 d2 d3 dz has' HA
                  go_wp2
                  go_roundw
                  case rel => exact ⟨j + 1, r0, r1, r2, r3, false, by omega, by go_num, rfl, unhidA HG0, unhidA HG1, unhidA HBF, unhidA HST2, fun e => by cases e⟩
                  case measure => simp [intOf, unshut]; omega

end Go.Proofs.Qxb6605268a
