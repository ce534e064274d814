/-
  DERIVED. The walks of fieldPath (9), ZZfieldPath (6).
-/
import Derived.Test.Qxb6605331aProg
import Derived.WalkKit
import Derived.WalkSpells
namespace Go.Proofs.Qxb6605331a
open Go.RowKit
set_option linter.unusedVariables false

theorem hide {p : Prop} (h : p) : Hid p := h
theorem unhide {p : Prop} (h : Hid p) : p := h

/-- fieldPath -/
def fp (p q : ByteArray) : ByteArray := if p.size = 0 then q else p ++ ⟨#[46]⟩ ++ q

theorem size_toList (p : ByteArray) : p.toList.length = p.size := by rw [ByteArray.toList_eq, Array.length_toList]; rfl
theorem toList_nil (p : ByteArray) : (p.toList = []) ↔ p.size = 0 := by
  rw [← size_toList]
  exact ⟨fun h => by rw [h]; rfl, fun h => List.eq_nil_of_length_eq_zero h⟩
theorem toList_append' (a b : ByteArray) : (a ++ b).toList = a.toList ++ b.toList := by
  rw [ByteArray.toList_eq, ByteArray.toList_eq, ByteArray.toList_eq]
  simp
theorem toList_inj {a b : ByteArray} (h : a.toList = b.toList) : a = b := by
  rw [ByteArray.toList_eq, ByteArray.toList_eq] at h
  exact ByteArray.ext (Array.toList_inj.1 h)

/-- fieldPath over lists of bytes -/
def fpL (p q : List UInt8) : List UInt8 := if p = [] then q else p ++ 46 :: q
theorem fp_toList (p q : ByteArray) : (fp p q).toList = fpL p.toList q.toList := by
  unfold fp fpL
  by_cases h : p.size = 0
  · rw [if_pos h, if_pos ((toList_nil p).2 h)]
  · rw [if_neg h, if_neg (fun e => h ((toList_nil p).1 e)), toList_append', toList_append']
    have : (ByteArray.mk #[46]).toList = [46] := ByteArray.toList_mk [46]
    rw [this]; simp
theorem fp_size (p q : ByteArray) : (fp p q).size ≤ p.size + 1 + q.size := by
  rw [← size_toList, fp_toList, ← size_toList p, ← size_toList q]
  unfold fpL
  split
  · omega
  · simp; omega

theorem field_any (p q : ByteArray) (w : World) (hp : p.size ≤ 1073741824) (hq : q.size ≤ 1073741824) :
    Calls Try.prog 9 #[.string p, .string q] w fun e w' => e = .returned (.string (fp p q)) ∧ w' = w := by
  by_cases h : p.size = 0
  · have h1 : p.toList.isEmpty = true := by rw [List.isEmpty_iff]; exact (toList_nil p).2 h
    have HE : Hid (fp p q = q) := by show fp p q = q; unfold fp; rw [if_pos h]
    clear h
    go_enter Try.func9, Try.ntmps9
    go_wp2
    go_ret
    exact ⟨by rw [unhide HE]; rfl, rfl⟩
  · have h1 : p.toList.isEmpty = false := by
      cases e : p.toList.isEmpty with
      | false => rfl
      | true => exact absurd ((toList_nil p).1 (List.isEmpty_iff.1 e)) h
    have HE : Hid (fp p q = p ++ ⟨#[46]⟩ ++ q) := by show fp p q = _; unfold fp; rw [if_neg h]
    clear h
    go_enter Try.func9, Try.ntmps9
    go_wp2
    go_ret
    exact ⟨by rw [unhide HE]; rfl, rfl⟩

theorem zzfield_any (p q : ByteArray) (w : World) (hp : p.size ≤ 1073741824) (hq : q.size ≤ 1073741824) :
    Calls Try.prog 6 #[.string p, .string q] w fun e w' => e = .returned (.string (fp p q)) ∧ w' = w := by
  go_enter Try.func6, Try.ntmps6
  go_wp2_with fail
  refine (field_any p q w hp hq).mono ?_
  rintro e w' ⟨rfl, rfl⟩
  go_wp2
  go_ret
  exact ⟨rfl, rfl⟩
end Go.Proofs.Qxb6605331a
