/-
  DERIVED. The walk of zzg1LeadingLiterals (22).
-/
import Derived.Test.Qxb6605268aGlobLaws
import Derived.Test.Qxb6605268aLp
namespace Go.Proofs.Qxb6605268a
open Go.RowKit
set_option linter.unusedVariables false

theorem leads_drop (ts : List Tk) (k : Nat) (h : k < ts.length) : leads (ts.drop k) = if ts[k].lit then ts[k].b :: leads (ts.drop (k + 1)) else [] := by
  rw [List.drop_eq_getElem_cons h, leads]
theorem leads_end (ts : List Tk) (k : Nat) (h : ts.length ≤ k) : leads (ts.drop k) = [] := by
  rw [List.drop_of_length_le h, leads]

/-- what the rounds keep -/
def Krel (ts : List Tk) (k m : Nat) (pre : List Int) : Prop := pre.length = m ∧ m ≤ k ∧ pre ++ leads (ts.drop k) = leads ts

set_option maxHeartbeats 2000000 in
set_option maxRecDepth 100000 in
theorem leads_any (a : Option Addr) (n c : Nat) (l : List Int) (w : World) (h : Sl w a n c l) (hn : n ≤ 65536) :
    Calls Try.prog 22 #[.slice a n c] w fun e w' => ∃ a' c', e = .returned (.slice a' (lp l).length c') ∧ Sl w' a' (lp l).length c' (lp l) ∧ Below w.heap.size w w' := by
  have hlr : ∀ x ∈ lp l, 0 ≤ x ∧ x ≤ 255 := fun x hx => h.rng x (lp_mem l x hx)
  have HLR := hidA hlr
  clear hlr
  go_enter Try.func22, Try.ntmps22
  go_wp2_with fail
  refine (tokens_any a n c l w h hn).mono ?_
  rintro e w1 ⟨v, ts, rfl, hown, htn, HRD, hb1⟩
  have HLP := hidA (leads_lp ts l HRD)
  obtain ⟨K, hk⟩ : ∃ k, k = ts.length := ⟨_, rfl⟩
  obtain ⟨av, cv, hv, hkc⟩ : ∃ av cv, v = .slice av K cv ∧ K ≤ cv := by
    rcases hown.2 with ⟨hv, h0⟩ | ⟨g, cap, cur, hv, _, _, hc, _⟩
    · exact ⟨none, 0, by rw [hv, hk, h0], by omega⟩
    · exact ⟨_, cap, by rw [hv, hk], by omega⟩
  subst hv
  rw [← hk] at hown htn
  have HK := hidA hk
  have HOWN := hidA hown
  clear hk hown HRD
  go_wp2
  go_loopw [4, 5] (fun p i wr => ∃ (k m : Nat) (pre : List Int), k ≤ K ∧ i = .int .i64 k ∧ Krel ts k m pre ∧ wr.ownsRow w1.heap.size 5 1 p m (pre.map (Value.int .u8)) ∧ Below w1.heap.size w1 wr) (fun _ i _ => K - (intOf i).toNat)
  case atStart => exact ⟨0, 0, [], Nat.zero_le _, rfl, ⟨rfl, Nat.le_refl _, by simp⟩, World.ownsRow_nil _ _ _ _, Below.refl _ _⟩
  case round =>
    obtain ⟨k, m, pre, hk, rfl, HL, hown, hBr⟩ := hrel
    have hmk := HL.2.1
    have ended : Hid (leads (ts.drop k) = [] → ∃ a' c', u4 = .slice a' (lp l).length c' ∧ Sl wr a' (lp l).length c' (lp l)) := hidA fun e => by
      have e2 := HL.2.2
      rw [e, List.append_nil, HLP.out] at e2
      subst e2
      have := HL.1
      subst this
      exact Sl.of_owned_any hown (unhidA HLR)
    have HBF := hidA (hb1.trans (hBr.mono hb1.size))
    by_cases hkK : k < K
    case neg =>
      obtain ⟨a', c', hv, hS⟩ := unhidA ended (leads_end ts k (by rw [← HK.out]; omega))
      subst hv
      clear ended
      go_wp2
      go_ret
      exact ⟨_, _, rfl, hS, unhidA HBF⟩
    obtain ⟨g, cap, hav, hcap, hgl⟩ := toks_shape (unhidA HOWN) (by omega)
    cases hav
    have hO := own_below (unhidA HOWN) hBr
    have hjts : k < ts.length := by rw [← HK.out]; exact hkK
    obtain ⟨t, ht⟩ : ∃ t, t = ts[k] := ⟨_, rfl⟩
    have q1 : wr.cell? ⟨g, k * 7 + 1, none⟩ = some (.bool t.lit) := by rw [ht]; exact toks_cell hO (HK.out).symm k hkK 1 (by omega)
    have q2 : wr.cell? ⟨g, k * 7 + 2, none⟩ = some (.int .u8 t.b) := by rw [ht]; exact toks_cell hO (HK.out).symm k hkK 2 (by omega)
    have hl := leads_drop ts k hjts
    rw [← ht] at hl
    have HLD := hidA hl
    obtain ⟨st, lt, tb, s0, s1, s2, s3⟩ := t
    simp only at q1 q2 HLD
    clear ht hO hl
    cases lt
    case false =>
      obtain ⟨a', c', hv, hS⟩ := unhidA ended (by rw [unhidA HLD]; rfl)
      subst hv
      clear ended
      go_wp2
      go_ret
      exact ⟨_, _, rfl, hS, unhidA HBF⟩
    case true =>
      have HN : Hid (Krel ts (k + 1) (m + 1) (pre ++ [tb])) := ⟨by simp [HL.1], by omega, by
        have e2 := HL.2.2
        rw [unhidA HLD] at e2
        rw [← e2]; simp⟩
      have HG := hidA (own_ge hown (Nat.le_refl _))
      have hbase := hBr.size
      clear ended HL
      go_wp2_with (at_builtin; refine wpList_appg wr _ rfl (.tmp 20) (.tmp 26) rfl w1.heap.size u4 m pre [tb] 1 rfl hown rfl rfl rfl hbase (by omega) ?_; intro v' w5 hown5 hgrow5)
      go_roundw
      case rel => exact ⟨k + 1, m + 1, pre ++ [tb], by omega, by go_num, unhidA HN, hown5, hBr.grown hgrow5 hbase (unhidA HG)⟩
      case measure => simp [intOf]; omega
end Go.Proofs.Qxb6605268a
