/-
  DERIVED. From what came in to 'Sl'.
-/
import Derived.Test.Qxb6605268aBase
import Derived.OpenShut
namespace Go.Proofs.Qxb6605268a
open Go.RowKit Go.WideShapes

/-- What came in (the shell's 'IsRow') is such a slice. -/
theorem Sl.of_row {w : World} {a : Option Addr} {len cap : Nat} {zs : List Int} (h : (a = none ∧ len = 0 ∧ cap = 0 ∧ zs = []) ∨
    ∃ x, a = some x ∧ len ≤ cap ∧ cap ≤ maxLen ∧ zs.length = cap ∧ (∀ i, i < zs.length → w.cell? (x.add i) = some (.int .u8 (zs.getD i 0))) ∧ ∀ n ∈ zs, (Lit.int .u8 n).wf = true) :
    Sl w a len cap (zs.take len) := by
  rcases h with ⟨rfl, rfl, rfl, rfl⟩ | ⟨x, rfl, hlc, hcm, hz, hc, hw⟩
  · exact ⟨rfl, Nat.le_refl _, fun x hx => by simp at hx, fun _ => ⟨rfl, rfl⟩, fun h => by omega⟩
  · refine ⟨by simp; omega, hlc, fun y hy => ?_, fun e => (by cases e), fun hp => ?_⟩
    · have := bounds_u8 (hw y (List.mem_of_mem_take hy))
      omega
    · obtain ⟨b, off, spot⟩ := x
      have hspot : spot = none := by simpa [Addr.add] using World.cell?_spot (hc 0 (by omega))
      subst hspot
      refine ⟨b, off, rfl, fun i hi => ?_⟩
      have h1 := hc i (by omega)
      rw [add_plain] at h1
      rw [h1]
      have h2 : i < zs.length := by omega
      simp [h2, hi]

end Go.Proofs.Qxb6605268a
