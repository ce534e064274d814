/-
  DERIVED. An element in memory (seven cells); 'toks = append(toks, t)'.
-/
import Derived.Test.Qxb6605268aSet4
import Derived.Test.Qxb6605268aPlainTok
namespace Go.Proofs.Qxb6605268a
open Go.RowKit
set_option linter.unusedVariables false

theorem Try.info36 : (Try.prog.info? 36).map (fun i => (i.zero, i.size, i.bytes)) = some (some (.agg #[.bool false, .bool false, .int .u8 0, .int .u64 0, .int .u64 0, .int .u64 0, .int .u64 0]), 7, 40) := by kernel_rfl

def Seven (w : World) (g : Nat) (t : Tk) : Prop := w.heap[g]? = some (.cells #[.bool t.star, .bool t.lit, .int .u8 t.b, .int .u64 t.s.a, .int .u64 t.s.b, .int .u64 t.s.c, .int .u64 t.s.d] 36 (0, 0))

section
variable {w w' : World} {g : Nat} {t : Tk}
theorem Seven.c0 (h : Seven w g t) : w.cell? ⟨g, 0, none⟩ = some (.bool t.star) := by rw [cell_of_row w g 0 _ _ _ h]; rfl
theorem Seven.c1 (h : Seven w g t) : w.cell? ⟨g, 1, none⟩ = some (.bool t.lit) := by rw [cell_of_row w g 1 _ _ _ h]; rfl
theorem Seven.c2 (h : Seven w g t) : w.cell? ⟨g, 2, none⟩ = some (.int .u8 t.b) := by rw [cell_of_row w g 2 _ _ _ h]; rfl
theorem Seven.c3 (h : Seven w g t) : w.cell? ⟨g, 3, none⟩ = some (.int .u64 t.s.a) := by rw [cell_of_row w g 3 _ _ _ h]; rfl
theorem Seven.c4 (h : Seven w g t) : w.cell? ⟨g, 4, none⟩ = some (.int .u64 t.s.b) := by rw [cell_of_row w g 4 _ _ _ h]; rfl
theorem Seven.c5 (h : Seven w g t) : w.cell? ⟨g, 5, none⟩ = some (.int .u64 t.s.c) := by rw [cell_of_row w g 5 _ _ _ h]; rfl
theorem Seven.c6 (h : Seven w g t) : w.cell? ⟨g, 6, none⟩ = some (.int .u64 t.s.d) := by rw [cell_of_row w g 6 _ _ _ h]; rfl
theorem Seven.z (h : Seven w g t) (k : Nat) : w.frozen? ⟨g, k, none⟩ = false := frozen_of_row w g k _ _ h
theorem Seven.lt (h : Seven w g t) : g < w.heap.size := by
  by_cases hlt : g < w.heap.size
  · exact hlt
  · unfold Seven at h; rw [Array.getElem?_eq_none (by omega)] at h; cases h
theorem Seven.below (h : Seven w g t) (hb : Below w.heap.size w w') : Seven w' g t := (hb.block g h.lt).trans h
theorem Seven.laid (w : World) (t : Tk) : Seven (w.alloc (.cells #[.bool t.star, .bool t.lit, .int .u8 t.b, .int .u64 t.s.a, .int .u64 t.s.b, .int .u64 t.s.c, .int .u64 t.s.d] 36)) w.heap.size t := heap_alloc_new w _
end

theorem own_below {w w' : World} {base n size : Nat} {e : TypeId} {v : Value} {xs : List Value} (h : w.ownsRow base e size v n xs) (hb : Below w.heap.size w w') : w'.ownsRow base e size v n xs := by
  refine h.kept (row := none) ⟨hb.os, hb.tape, hb.output, hb.size, fun k hk _ => hb.block k hk⟩ ?_
  cases hv : v.ownBlock with
  | none => exact .inl rfl
  | some k => exact .inr (by simp)

theorem grown_alloc' {w w' : World} {o : Obj} {row : Option Nat} (h : (w.alloc o).grownBy w' row) : w.grownBy w' row := by
  refine ⟨h.os, h.tape, h.output, ?_, fun k hk hne => ?_⟩
  · have := h.size; simp at this; omega
  · rw [h.block k (by simp; omega) hne]; exact Below.heap_alloc _ _ _ hk

theorem tok_cells {W0 : World} (t : Tk) :
    ∀ (j : Nat) (u : Value), t.cells[j]? = some u → (W0.alloc (.cells t.cells.toArray 36)).cell? ((⟨W0.heap.size, 0, none⟩ : Addr).add j) = some u := by
  intro j u hj
  have h : (W0.alloc (.cells t.cells.toArray 36)).heap[W0.heap.size]? = some (.cells t.cells.toArray 36 (0, 0)) := heap_alloc_new W0 _
  have e : ((⟨W0.heap.size, 0, none⟩ : Addr).add j) = ⟨W0.heap.size, j, none⟩ := by simp [Addr.add]; omega
  rw [e, cell_of_row _ _ j _ _ _ h, List.getElem?_toArray]
  exact hj

theorem tok_oneCell (t : Tk) : ∀ u ∈ t.cells, u.oneCell' = true := by
  intro u hu
  simp [Tk.cells] at hu
  rcases hu with rfl | rfl | rfl | rfl | rfl | rfl | rfl <;> rfl

/-- 'toks = append(toks, t)' -/
theorem wpList_appT {ops : Array Oper} {rest : List Oper} {o : Oper} {a : Act} {Q : Exit → Act → World → Prop} (W0 : World) (arr : Array Value)
    (hg : o.guard = none) (s x : Operand) (hop : o.op = Op.call { callee := Callee.builtin Builtin.append, args := #[s, x], argTypes := #[30, 30] })
    (base : Nat) (v : Value) (k : Nat) (xs : List Value) (t : Tk) (hs : a.eval s = v) (hown : W0.ownsRow base 36 7 v k xs)
    (z : Nat) (hx : a.eval x = .slice (some ⟨z, 0, none⟩) 1 1) (hz : z = W0.heap.size) (harr : arr = t.cells.toArray) (hbase : base ≤ W0.heap.size) (hfit : k ≤ 16777216)
    (hK : ∀ v' w', w'.ownsRow base 36 7 v' (k + 1) (xs ++ t.cells) → W0.grownBy w' v.ownBlock → wpList Try.prog ops Q rest (a.put o.dst v') w') :
    wpList Try.prog ops Q (o :: rest) a (W0.alloc (.cells arr 36)) := by
  obtain ⟨i0, hi0, hz0, hz1, hz2⟩ := info_parts Try.info36
  subst harr hz
  refine wpList_append_own _ hg s x 30 hop base 36 i0 _ 7 40 Try.underlying30 hi0 hz0 hz1 hz2 rfl (by decide) v k _ hs (hown.alloc _) ⟨W0.heap.size, 0, none⟩ 1 1 t.cells hx (by simp [Tk.cells]) (tok_cells t) (tok_oneCell t) (by unfold maxLen; omega) (by omega) (by simp; omega) ?_
  intro v' w' h1 h2 _
  exact hK v' w' h1 (grown_alloc' h2)

end Go.Proofs.Qxb6605268a
