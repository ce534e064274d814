/-
  DERIVED. 'out = append(out, x, ..)' on a byte slice of the call's own, the new bytes laid in a block of their own just before: the kit's two laws at this program's types.
-/
import Derived.Test.Qxb6605268aBase
namespace Go.Proofs.Qxb6605268a
open Go.RowKit

theorem grown_alloc {w w' : World} {o : Obj} {row : Option Nat} (h : (w.alloc o).grownBy w' row) : w.grownBy w' row := by
  refine ⟨h.os, h.tape, h.output, ?_, fun k hk hne => ?_⟩
  · have := h.size; simp at this; omega
  · rw [h.block k (by simp; omega) hne]; exact Below.heap_alloc _ _ _ hk

theorem news_cells {W0 : World} (news : List Int) :
    ∀ (j : Nat) (u : Value), (news.map (Value.int .u8))[j]? = some u → (W0.alloc (.cells (news.map (Value.int .u8)).toArray 5)).cell? ((⟨W0.heap.size, 0, none⟩ : Addr).add j) = some u := by
  intro j u hj
  have h : (W0.alloc (.cells (news.map (Value.int .u8)).toArray 5)).heap[W0.heap.size]? = some (.cells (news.map (Value.int .u8)).toArray 5 (0, 0)) := heap_alloc_new W0 _
  have e : ((⟨W0.heap.size, 0, none⟩ : Addr).add j) = ⟨W0.heap.size, j, none⟩ := by simp [Addr.add]; omega
  rw [e, cell_of_row _ _ j _ _ _ h, List.getElem?_toArray]
  exact hj

/-- within the capacity -/
theorem wpList_app {ops : Array Oper} {rest : List Oper} {o : Oper} {a : Act} {Q : Exit → Act → World → Prop} (W0 : World) (arr : Array Value)
    (hg : o.guard = none) (s x : Operand) (hop : o.op = Op.call { callee := Callee.builtin Builtin.append, args := #[s, x], argTypes := #[22, 22] })
    (base g k cap : Nat) (xs news : List Int) (m : Nat) (hs : a.eval s = .slice (some ⟨g, 0, none⟩) k cap) (hown : W0.ownsRow base 5 1 (.slice (some ⟨g, 0, none⟩) k cap) k (xs.map (Value.int .u8)))
    (hx : a.eval x = .slice (some ⟨W0.heap.size, 0, none⟩) m m) (harr : arr = (news.map (Value.int .u8)).toArray) (hm : news.length = m) (hfit : k + m ≤ cap)
    (hK : ∀ w', w'.ownsRow base 5 1 (.slice (some ⟨g, 0, none⟩) (k + m) cap) (k + m) ((xs ++ news).map (Value.int .u8)) → W0.grownBy w' (some g) → wpList Try.prog ops Q rest (a.put o.dst (.slice (some ⟨g, 0, none⟩) (k + m) cap)) w') :
    wpList Try.prog ops Q (o :: rest) a (W0.alloc (.cells arr 5)) := by
  obtain ⟨i0, hi0, hz0, hz1, hz2⟩ := info_parts Try.info5
  subst harr
  refine wpList_append_fits _ hg s x 22 hop base 5 i0 1 Try.underlying22 hi0 hz1 g k cap _ hs (hown.alloc _) ⟨W0.heap.size, 0, none⟩ m m (news.map (Value.int .u8)) hx (by simp [hm]) (news_cells news) (ints_oneCell _ _) hfit ?_
  intro w' h1 h2
  exact hK w' (by simpa using h1) (grown_alloc h2)

/-- it may grow -/
theorem wpList_appg {ops : Array Oper} {rest : List Oper} {o : Oper} {a : Act} {Q : Exit → Act → World → Prop} (W0 : World) (arr : Array Value)
    (hg : o.guard = none) (s x : Operand) (hop : o.op = Op.call { callee := Callee.builtin Builtin.append, args := #[s, x], argTypes := #[22, 22] })
    (base : Nat) (v : Value) (k : Nat) (xs news : List Int) (m : Nat) (hs : a.eval s = v) (hown : W0.ownsRow base 5 1 v k (xs.map (Value.int .u8)))
    (hx : a.eval x = .slice (some ⟨W0.heap.size, 0, none⟩) m m) (harr : arr = (news.map (Value.int .u8)).toArray) (hm : news.length = m) (hbase : base ≤ W0.heap.size) (hfit : k + m ≤ 16777216)
    (hK : ∀ v' w', w'.ownsRow base 5 1 v' (k + m) ((xs ++ news).map (Value.int .u8)) → W0.grownBy w' v.ownBlock → wpList Try.prog ops Q rest (a.put o.dst v') w') :
    wpList Try.prog ops Q (o :: rest) a (W0.alloc (.cells arr 5)) := by
  obtain ⟨i0, hi0, hz0, hz1, hz2⟩ := info_parts Try.info5
  subst harr
  refine wpList_append_own _ hg s x 22 hop base 5 i0 (.int .u8 0) 1 1 Try.underlying22 hi0 hz0 hz1 hz2 rfl (by decide) v k _ hs (hown.alloc _) ⟨W0.heap.size, 0, none⟩ m m (news.map (Value.int .u8)) hx (by simp [hm]) (news_cells news) (ints_oneCell _ _) (by unfold maxLen; omega) (by omega) (by simp; omega) ?_
  intro v' w' h1 h2 _
  exact hK v' w' (by simpa using h1) (grown_alloc h2)

end Go.Proofs.Qxb6605268a
