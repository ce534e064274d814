/-
  DERIVED. A block of four words: what is read of it, what four stores leave of it; the contracts of zzg1Add, zzg1Complement, zzg1Has with the world named no more than 'Below'.
-/
import Derived.Test.Qxb6605268aCompl
namespace Go.Proofs.Qxb6605268a
open Go.RowKit
set_option linter.unusedVariables false

/-- block g is the four words t -/
def Four (w : World) (g : Nat) (t0 t1 t2 t3 : Int) : Prop := w.heap[g]? = some (.cells #[.int .u64 t0, .int .u64 t1, .int .u64 t2, .int .u64 t3] 34 (0, 0))

section
variable {w w' : World} {g : Nat} {t0 t1 t2 t3 : Int}
theorem Four.c0 (h : Four w g t0 t1 t2 t3) : w.cell? ⟨g, 0, none⟩ = some (.int .u64 t0) := by rw [cell_of_row w g 0 _ _ _ h]; rfl
theorem Four.c1 (h : Four w g t0 t1 t2 t3) : w.cell? ⟨g, 1, none⟩ = some (.int .u64 t1) := by rw [cell_of_row w g 1 _ _ _ h]; rfl
theorem Four.c2 (h : Four w g t0 t1 t2 t3) : w.cell? ⟨g, 2, none⟩ = some (.int .u64 t2) := by rw [cell_of_row w g 2 _ _ _ h]; rfl
theorem Four.c3 (h : Four w g t0 t1 t2 t3) : w.cell? ⟨g, 3, none⟩ = some (.int .u64 t3) := by rw [cell_of_row w g 3 _ _ _ h]; rfl
theorem Four.z (h : Four w g t0 t1 t2 t3) (k : Nat) : w.frozen? ⟨g, k, none⟩ = false := frozen_of_row w g k _ _ h
theorem Four.lt (h : Four w g t0 t1 t2 t3) : g < w.heap.size := by
  by_cases hlt : g < w.heap.size
  · exact hlt
  · unfold Four at h; rw [Array.getElem?_eq_none (by omega)] at h; cases h
theorem Four.below (h : Four w g t0 t1 t2 t3) (hb : Below w.heap.size w w') : Four w' g t0 t1 t2 t3 := (hb.block g h.lt).trans h
theorem Four.drew (h : Four w g t0 t1 t2 t3) : Four w.drew g t0 t1 t2 t3 := h
theorem Four.store (h : Four w g t0 t1 t2 t3) (r0 r1 r2 r3 : Int) :
    Four ((((w.setCell ⟨g, 0, none⟩ (.int .u64 r0)).setCell ⟨g, 1, none⟩ (.int .u64 r1)).setCell ⟨g, 2, none⟩ (.int .u64 r2)).setCell ⟨g, 3, none⟩ (.int .u64 r3)) g r0 r1 r2 r3 := by
  unfold Four at h
  have h1 := heap_setCell_same w g 0 _ 34 (.int .u64 r0) h
  have h2 := heap_setCell_same _ g 1 _ 34 (.int .u64 r1) h1
  have h3 := heap_setCell_same _ g 2 _ 34 (.int .u64 r2) h2
  have h4 := heap_setCell_same _ g 3 _ 34 (.int .u64 r3) h3
  exact h4
theorem Four.other (h : Four w g t0 t1 t2 t3) (a : Addr) (u : Value) (hne : g ≠ a.block) : Four (w.setCell a u) g t0 t1 t2 t3 := (Below.heap_setCell w a u g hne).trans h
theorem Four.laid (w : World) (t0 t1 t2 t3 : Int) : Four (w.alloc (.cells #[.int .u64 t0, .int .u64 t1, .int .u64 t2, .int .u64 t3] 34)) w.heap.size t0 t1 t2 t3 := heap_alloc_new w _
end

theorem add_bel (s0 s1 s2 s3 a c : Int) (w : World) (hs : (W4.mk s0 s1 s2 s3).ok) (ha : 0 ≤ a ∧ a ≤ 255) (hc : 0 ≤ c ∧ c ≤ 255) :
    Calls Try.prog 33 #[.agg #[.int .u64 s0, .int .u64 s1, .int .u64 s2, .int .u64 s3], .int .u8 a, .int .u8 c] w fun e w' =>
      ∃ t0 t1 t2 t3, e = .returned (.agg #[.int .u64 t0, .int .u64 t1, .int .u64 t2, .int .u64 t3]) ∧ (W4.mk t0 t1 t2 t3).ok ∧ (∀ b, 0 ≤ b → b ≤ 255 → (W4.mk t0 t1 t2 t3).has b = ((W4.mk s0 s1 s2 s3).has b || inRange a c b)) ∧
        Below w.heap.size w w' :=
  (add_any s0 s1 s2 s3 a c w hs ha hc).mono fun e w' ⟨t0, t1, t2, t3, h1, h2, h3, h4⟩ => ⟨t0, t1, t2, t3, h1, h2, h3, by
    rw [h4]; exact ((Below.refl _ _).alloc (Nat.le_refl _) _).alloc (by simp) _⟩

theorem compl_bel (s0 s1 s2 s3 : Int) (w : World) (hs : (W4.mk s0 s1 s2 s3).ok) :
    Calls Try.prog 31 #[.agg #[.int .u64 s0, .int .u64 s1, .int .u64 s2, .int .u64 s3]] w fun e w' =>
      ∃ t0 t1 t2 t3, e = .returned (.agg #[.int .u64 t0, .int .u64 t1, .int .u64 t2, .int .u64 t3]) ∧ (W4.mk t0 t1 t2 t3).ok ∧ (∀ b, 0 ≤ b → b ≤ 255 → (W4.mk t0 t1 t2 t3).has b = !((W4.mk s0 s1 s2 s3).has b)) ∧
        Below w.heap.size w w' :=
  (compl_any s0 s1 s2 s3 w hs).mono fun e w' ⟨t0, t1, t2, t3, h1, h2, h3, h4⟩ => ⟨t0, t1, t2, t3, h1, h2, h3, by
    rw [h4]; exact ((Below.refl _ _).alloc (Nat.le_refl _) _).alloc (by simp) _⟩

theorem has_bel (s0 s1 s2 s3 c : Int) (w : World) (hs : (W4.mk s0 s1 s2 s3).ok) (hc : 0 ≤ c ∧ c ≤ 255) :
    Calls Try.prog 27 #[.agg #[.int .u64 s0, .int .u64 s1, .int .u64 s2, .int .u64 s3], .int .u8 c] w fun e w' => e = .returned (.bool ((W4.mk s0 s1 s2 s3).has c)) ∧ Below w.heap.size w w' :=
  (has_any s0 s1 s2 s3 c w hs hc).mono fun e w' ⟨h1, h2⟩ => ⟨h1, by rw [h2]; exact (Below.refl _ _).alloc (Nat.le_refl _) _⟩
end Go.Proofs.Qxb6605268a
