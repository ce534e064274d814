/-
  DERIVED. The walk of zzg1Clone (function 10).
-/
import Derived.Test.Qxb6605268aBase
namespace Go.Proofs.Qxb6605268a
open Go.RowKit

def cl (l : List Int) (k : Nat) : List Value := (l.take k).map (Value.int .u8) ++ List.replicate (l.length - k) (.int .u8 0)

theorem cl_zero (l : List Int) : cl l 0 = List.replicate l.length (.int .u8 0) := by simp [cl]
theorem cl_set (l : List Int) (k : Nat) (h : k < l.length) : (cl l k).set k (.int .u8 (l.getD k 0)) = cl l (k + 1) := by
  unfold cl
  have e : l.length - k = (l.length - (k + 1)) + 1 := by omega
  have e2 : ((l.take k).map (Value.int .u8)).length = k := by simp; omega
  rw [e, List.replicate_succ, List.take_succ_eq_append_getElem h, List.set_append, if_neg (by omega), e2, List.map_append, List.append_assoc]
  simp only [Nat.sub_self, List.set_cons_zero, List.map_cons, List.map_nil, List.singleton_append]
  have e3 : l.getD k 0 = l[k] := by simp [h]
  rw [e3]
theorem cl_get (l : List Int) (k : Nat) (h : k < l.length) : (cl l k)[k]? = some (.int .u8 0) := by
  unfold cl
  have e2 : ((l.take k).map (Value.int .u8)).length = k := by simp; omega
  have e : l.length - k = (l.length - (k + 1)) + 1 := by omega
  rw [List.getElem?_append_right (by omega), e2, e, List.replicate_succ]
  simp
theorem cl_all (l : List Int) : cl l l.length = l.map (Value.int .u8) := by simp [cl]

set_option maxHeartbeats 400000 in
theorem clone_some (ad : Addr) (n c : Nat) (l : List Int) (w : World) (h : Sl w (some ad) n c l) (hn : n ≤ 1048576) :
    Calls Try.prog 10 #[.slice (some ad) n c] w fun e w' => ∃ a' c', e = .returned (.slice a' n c') ∧ Sl w' a' n c' l ∧ Below w.heap.size w w' := by
  obtain ⟨i0, hi, hz0, hz1, hz2⟩ := info_parts Try.info5
  have hq : ∀ wx : World, (binOp .eql 22 (.slice (some ad) n c) (.slice none 0 0)).run Try.prog wx = .ok (.bool false) wx := fun wx => by
    simpa using Lib.run_eql_slice_nil (P := Try.prog) wx 22 5 (some ad) n c 0 0 Try.underlying22
  have hlen := h.len
  go_enter Try.func10, Try.ntmps10
  go_wp2_with (at_make; refine wpList_make_full _ rfl _ _ 22 rfl w.heap.size 5 i0 (.int .u8 0) 1 Try.underlying22 hi hz0 hz1 _ _ _ _ n rfl rfl rfl rfl ?b2 ?b3 (Nat.le_refl _) ?_)
  case b2 => rw [hz2]; omega
  case b3 => unfold maxLen; omega
  intro w0 hown0 hgrow0
  go_wp2
  go_loopw [4] (fun i wr => ∃ k : Nat, k ≤ n ∧ i = .int .i64 k ∧ wr.ownsRow w.heap.size 5 1 (.slice (some ⟨w.heap.size, 0, none⟩) n n) n (cl l k) ∧ Below w.heap.size w wr) (fun i _ => n - (intOf i).toNat)
  case atStart =>
    refine ⟨0, Nat.zero_le _, rfl, ?_, (Below.refl _ _).grown hgrow0 (Nat.le_refl _) (fun k h => by cases h)⟩
    rw [cl_zero, h.len]
    simpa [toList_madeCells_one, Value.cells] using hown0
  case round =>
    obtain ⟨k, hk, rfl, hown, hb⟩ := hrel
    by_cases hlt : k < n
    · obtain ⟨b, off, e, hc⟩ := (h.below hb).row (by omega)
      cases e
      have hck := hc k hlt
      have hkl : k < l.length := by omega
      have hcw : wr.cell? ⟨w.heap.size, k, none⟩ = some (.int .u8 0) := (hown.cellAt k (by omega)).trans (cl_get l k (by omega))
      have hst := hown.stored k (.int .u8 (l.getD k 0))
      rw [cl_set l k (by omega)] at hst
      have HS := hst.1
      have HG : Below w.heap.size w (wr.setCell ⟨w.heap.size, k, none⟩ (.int .u8 (l.getD k 0))) := hb.setCell (Nat.le_refl _) _
      clear hst
      have hfw := hown.frozenAt k
      clear hc
      go_wp2
      go_roundw
      case rel => exact ⟨k + 1, by omega, by go_num, by simpa [hkl] using HS, by simpa [hkl] using HG⟩
      case measure => simp [intOf]; omega
    · go_wp2
      go_ret
      obtain rfl : k = n := by omega
      refine ⟨_, _, rfl, Sl.of_owned (base := w.heap.size) (by rw [← h.len, cl_all] at hown; rw [← h.len]; exact hown) h.rng, hb⟩

theorem clone_any (a : Option Addr) (n c : Nat) (l : List Int) (w : World) (h : Sl w a n c l) (hn : n ≤ 1048576) :
    Calls Try.prog 10 #[.slice a n c] w fun e w' => ∃ a' c', e = .returned (.slice a' n c') ∧ Sl w' a' n c' l ∧ Below w.heap.size w w' := by
  cases a with
  | some ad => exact clone_some ad n c l w h hn
  | none =>
    obtain ⟨rfl, rfl⟩ := h.nil rfl
    have hq : ∀ wx : World, (binOp .eql 22 (.slice none 0 0) (.slice none 0 0)).run Try.prog wx = .ok (.bool true) wx := fun wx => by
      simpa using Lib.run_eql_slice_nil (P := Try.prog) wx 22 5 none 0 0 0 0 Try.underlying22
    go_enter Try.func10, Try.ntmps10
    go_wp2
    go_ret
    exact ⟨_, _, rfl, h, Below.refl _ _⟩
end Go.Proofs.Qxb6605268a
