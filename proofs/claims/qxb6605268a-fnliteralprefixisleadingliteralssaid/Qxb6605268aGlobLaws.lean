/-
  DERIVED. Laws for the walk of zzg1Glob: rows of bools; the elements' cells.
-/
import Derived.Test.Qxb6605268aTokens
import Derived.Test.Qxb6605268aPlainDp
namespace Go.Proofs.Qxb6605268a
open Go.RowKit
set_option linter.unusedVariables false

theorem Try.info4 : (Try.prog.info? 4).map (fun i => (i.zero, i.size, i.bytes)) = some (some (.bool false), 1, 1) := by kernel_rfl

/-- a row of bools that the call owns, at block g -/
def Row (w : World) (B g m : Nat) (cs : List Bool) : Prop := cs.length = m ∧ w.ownsRow B 4 1 (.slice (some ⟨g, 0, none⟩) m m) m (cs.map Value.bool)

section
variable {w w' : World} {B g m : Nat} {cs : List Bool}
theorem Row.cell (h : Row w B g m cs) (j : Nat) (hj : j < m) : w.cell? ⟨g, j, none⟩ = some (.bool (cs.getD j false)) := by
  have h1 : j < cs.length := by rw [h.1]; exact hj
  rw [h.2.cellAt j (by omega)]
  simp [h1]
theorem Row.free (h : Row w B g m cs) (j : Nat) : w.frozen? ⟨g, j, none⟩ = false := h.2.frozenAt j
theorem Row.lt (h : Row w B g m cs) : B ≤ g ∧ g < w.heap.size := h.2.lt g rfl
theorem Row.put (h : Row w B g m cs) (j : Nat) (b : Bool) : Row (w.setCell ⟨g, j, none⟩ (.bool b)) B g m (cs.set j b) := by
  refine ⟨by simpa using h.1, ?_⟩
  have := (h.2.stored j (.bool b)).1
  rwa [← List.map_set] at this
theorem Row.other (h : Row w B g m cs) (a : Addr) (u : Value) (hne : g ≠ a.block) : Row (w.setCell a u) B g m cs := by
  refine ⟨h.1, h.2.kept (row := some a.block) ⟨rfl, rfl, rfl, by simp [World.setCell], fun k hk hk' => Below.heap_setCell _ _ _ _ (fun e => hk' (by rw [e]))⟩ (.inr ?_)⟩
  simp [Value.ownBlock, hne]
theorem Row.below (h : Row w B g m cs) (hb : Below w.heap.size w w') : Row w' B g m cs := ⟨h.1, own_below h.2 hb⟩
end

theorem row_made {w : World} {B g m : Nat} (h : w.ownsRow B 4 1 (.slice (some ⟨g, 0, none⟩) m m) m (madeCells (Value.bool false).cells (m * 1)).toList) : Row w B g m (List.replicate m false) := by
  refine ⟨by simp, ?_⟩
  have e : (Value.bool false).cells = #[.bool false] := rfl
  rw [e, toList_madeCells_one, Nat.mul_one] at h
  simpa using h

/-- the first j + 1 places of a row are the table's row i -/
def Done (ts : List Tk) (r : List Int) (i j : Nat) (cs : List Bool) : Prop := ∀ x, x ≤ j → cs.getD x false = T ts r i x

theorem Done.put {ts : List Tk} {r : List Int} {i j : Nat} {cs : List Bool} (h : Done ts r i j cs) (b : Bool) (hb : b = T ts r i (j + 1)) (hl : j + 1 < cs.length) : Done ts r i (j + 1) (cs.set (j + 1) b) := by
  intro x hx
  by_cases e : x = j + 1
  · subst e
    have : (cs.set (j + 1) b).getD (j + 1) false = b := by simp [hl]
    rw [this, hb]
  · have : (cs.set (j + 1) b).getD x false = cs.getD x false := by simp [show ¬ j + 1 = x by omega]
    rw [this]; exact h x (by omega)
theorem Done.first {ts : List Tk} {r : List Int} {i : Nat} {cs : List Bool} (b : Bool) (hb : b = T ts r i 0) (hl : 0 < cs.length) : Done ts r i 0 (cs.set 0 b) := by
  intro x hx
  obtain rfl : x = 0 := by omega
  have : (cs.set 0 b).getD 0 false = b := by simp [hl]
  rw [this, hb]

theorem Row.drew {w : World} {B g m : Nat} {cs : List Bool} (h : Row w B g m cs) : Row w.drew B g m cs := h

/-- what the elements' cells hold -/
theorem toks_cell {w : World} {B : Nat} {g n cap : Nat} {ts : List Tk} (h : w.ownsRow B 36 7 (.slice (some ⟨g, 0, none⟩) n cap) n (cellsOf ts)) (hn : ts.length = n) (j : Nat) (hj : j < n) (i : Nat) (hi : i < 7) :
    w.cell? ⟨g, j * 7 + i, none⟩ = (ts[j]'(by omega)).cells[i]? := by
  rw [h.cellAt (j * 7 + i) (by omega), cellsOf_get ts j i (by omega) hi]

/-- the shape of what zzg1Tokens hands back -/
theorem toks_shape {w : World} {B n : Nat} {v : Value} {xs : List Value} (h : w.ownsRow B 36 7 v n xs) (hn : 0 < n) : ∃ g cap, v = .slice (some ⟨g, 0, none⟩) n cap ∧ n ≤ cap ∧ g < w.heap.size := by
  rcases h.2 with ⟨_, h0⟩ | ⟨g, cap, cur, hv, _, hh, hc, _⟩
  · omega
  · refine ⟨g, cap, hv, hc, ?_⟩
    by_cases hlt : g < w.heap.size
    · exact hlt
    · rw [Array.getElem?_eq_none (by omega)] at hh; cases hh

theorem reads_ok : ∀ (ts : List Tk) (l : List Int), Reads ts l → ∀ t ∈ ts, t.s.ok
  | [], l, h, t, ht => by simp at ht
  | u :: ts, l, h, t, ht => by
    rcases List.mem_cons.1 ht with rfl | ht
    · exact h.2.1.ok
    · exact reads_ok ts _ h.2.2 t ht

end Go.Proofs.Qxb6605268a
