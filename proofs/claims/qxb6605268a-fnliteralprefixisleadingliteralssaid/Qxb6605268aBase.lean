/-
  DERIVED. Base: what the walks say of a byte slice in memory ('Sl').
-/
import Derived.Test.Qxb6605268aProg
import Derived.WalkKit
import Derived.WalkSpells
import Derived.Deep.QuietTactic
import Derived.BigQuiet
namespace Go.Proofs.Qxb6605268a
open Go.RowKit

theorem Try.info5 : (Try.prog.info? 5).map (fun i => (i.zero, i.size, i.bytes)) = some (some (.int .u8 0), 1, 1) := by kernel_rfl

/-- The slice value '.slice a n c' reads, in the world w, as the bytes l. -/
structure Sl (w : World) (a : Option Addr) (n c : Nat) (l : List Int) : Prop where
  len : l.length = n
  cap : n ≤ c
  rng : ∀ x ∈ l, 0 ≤ x ∧ x ≤ 255
  nil : a = none → n = 0 ∧ c = 0
  row : 0 < n → ∃ b off, a = some ⟨b, off, none⟩ ∧ ∀ i, i < n → w.cell? ⟨b, off + i, none⟩ = some (.int .u8 (l.getD i 0))

theorem Sl.below {w w' : World} {a : Option Addr} {n c : Nat} {l : List Int} (h : Sl w a n c l) (hb : Below w.heap.size w w') : Sl w' a n c l :=
  ⟨h.len, h.cap, h.rng, h.nil, fun hp => by
    obtain ⟨b, off, e, hc⟩ := h.row hp
    exact ⟨b, off, e, fun i hi => cell_later hb (hc i hi)⟩⟩

/-- the same over a world that differs by draws alone. -/
theorem Sl.drewN {w : World} {a : Option Addr} {n c : Nat} {l : List Int} (h : Sl w a n c l) (k : Nat) : Sl (w.drewN k) a n c l :=
  ⟨h.len, h.cap, h.rng, h.nil, fun hp => by
    obtain ⟨b, off, e, hc⟩ := h.row hp
    exact ⟨b, off, e, fun i hi => by simpa using hc i hi⟩⟩

theorem getD_rng {l : List Int} (h : ∀ x ∈ l, 0 ≤ x ∧ x ≤ 255) (i : Nat) : 0 ≤ l.getD i 0 ∧ l.getD i 0 ≤ 255 := by
  by_cases hi : i < l.length
  · have : l.getD i 0 = l[i] := by simp [hi]
    rw [this]; exact h _ (List.getElem_mem hi)
  · have : l.getD i 0 = 0 := by simp [Nat.le_of_not_lt hi]
    rw [this]; omega

/-- An owned row is such a slice. -/
theorem Sl.of_owned {w : World} {base g n c : Nat} {l : List Int} (h : w.ownsRow base 5 1 (.slice (some ⟨g, 0, none⟩) n c) n (l.map (Value.int .u8))) (hr : ∀ x ∈ l, 0 ≤ x ∧ x ≤ 255) : Sl w (some ⟨g, 0, none⟩) n c l := by
  have hl : l.length = n := by simpa using h.1
  refine ⟨hl, ?_, hr, fun e => (by cases e), fun _ => ⟨g, 0, rfl, fun i hi => ?_⟩⟩
  · rcases h.2 with ⟨e, _⟩ | ⟨g', cap, cur, e, _, _, hc, _⟩
    · cases e
    · cases e; exact hc
  · have := h.cellAt i (by simpa using hi)
    rw [Nat.zero_add, this]
    have hi' : i < l.length := by omega
    simp [hi']

end Go.Proofs.Qxb6605268a
