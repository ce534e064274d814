/-
  DERIVED. The walk of FnFieldPathNests (4).
-/
import Derived.Test.Qxb6605331aJoin
namespace Go.Proofs.Qxb6605331a
open Go.RowKit
set_option linter.unusedVariables false

theorem nests_far (a b c : ByteArray) (w : World) (ha : a.size ≤ maxLen) (hb : b.size ≤ maxLen) (hc : c.size ≤ maxLen) (h : 262144 < a.size ∨ 262144 < b.size ∨ 262144 < c.size) :
    Calls Try.prog 4 #[.string a, .string b, .string c] w fun e w' => e = .returned (.bool true) ∧ Below w.heap.size w w' := by
  unfold maxLen at ha hb hc
  by_cases h1 : 262144 < a.size
  · go_enter Try.func4, Try.ntmps4
    go_wp2
    all_goals
      go_ret
      exact ⟨rfl, Below.refl _ _⟩
  · by_cases h2 : 262144 < b.size
    · go_enter Try.func4, Try.ntmps4
      go_wp2
      all_goals
        go_ret
        exact ⟨rfl, Below.refl _ _⟩
    · have h3 : 262144 < c.size := by omega
      go_enter Try.func4, Try.ntmps4
      go_wp2
      all_goals
        go_ret
        exact ⟨rfl, Below.refl _ _⟩

theorem fpL_eq (p q : List UInt8) : fpL p q = fpl p q := rfl

/-- nesting from the left -/
theorem left_jn (a b c : ByteArray) : (fp (fp a b) c).toList = jn false [a.toList, b.toList, c.toList] := by
  rw [fp_toList, fp_toList, ← fold_start]
  simp [fpL_eq, fpl]
/-- nesting from the right, but for one case -/
theorem right_jn (a b c : ByteArray) (h : ¬ (b.size = 0 ∧ a.size ≠ 0)) : (fp a (fp b c)).toList = jn false [a.toList, b.toList, c.toList] := by
  rw [fp_toList, fp_toList]
  rw [← toList_nil] at h
  have h2 : a.size = 0 ↔ a.toList = [] := (toList_nil a).symm
  rw [Ne, h2] at h
  by_cases ha : a.toList = []
  · by_cases hb : b.toList = []
    · simp [fpL, jn, ha, hb]
    · simp [fpL, jn, ha, hb]
  · have hb : b.toList ≠ [] := fun e => h ⟨e, ha⟩
    simp [fpL, jn, ha, hb]
/-- .. and in that case -/
theorem right_jn2 (a b c : ByteArray) (hb : b.size = 0) (ha : a.size ≠ 0) : (fp a (fp b c)).toList = jn false [a.toList, c.toList] := by
  rw [fp_toList, fp_toList]
  have hb' : b.toList = [] := (toList_nil b).2 hb
  have ha' : a.toList ≠ [] := fun e => ha ((toList_nil a).1 e)
  simp [fpL, jn, ha', hb']

theorem jn_size (l : List ByteArray) (st : Bool) : (jn st (l.map ByteArray.toList)).length ≤ (l.map (fun s => s.size + 1)).sum := by
  have := jn_len st (l.map ByteArray.toList)
  rw [List.map_map] at this
  have e : ((fun s : List UInt8 => s.length + 1) ∘ ByteArray.toList) = fun s => s.size + 1 := by funext s; simp [size_toList]
  rwa [e] at this

theorem Ss.laid3 (w : World) (a b c : ByteArray) : Ss (w.alloc (.cells #[.string a, .string b, .string c] 9)) (some ⟨w.heap.size, 0, none⟩) 3 [a, b, c] := by
  refine ⟨rfl, fun _ => ⟨w.heap.size, 0, rfl, fun i hi => ?_⟩⟩
  have h : (w.alloc (.cells #[.string a, .string b, .string c] 9)).heap[w.heap.size]? = some (.cells #[.string a, .string b, .string c] 9 (0, 0)) := heap_alloc_new w _
  rw [Nat.zero_add, cell_of_row _ _ i _ _ _ h]
  match i, hi with
  | 0, _ => rfl
  | 1, _ => rfl
  | 2, _ => rfl
theorem Ss.laid2 (w : World) (a b : ByteArray) : Ss (w.alloc (.cells #[.string a, .string b] 9)) (some ⟨w.heap.size, 0, none⟩) 2 [a, b] := by
  refine ⟨rfl, fun _ => ⟨w.heap.size, 0, rfl, fun i hi => ?_⟩⟩
  have h : (w.alloc (.cells #[.string a, .string b] 9)).heap[w.heap.size]? = some (.cells #[.string a, .string b] 9 (0, 0)) := heap_alloc_new w _
  rw [Nat.zero_add, cell_of_row _ _ i _ _ _ h]
  match i, hi with
  | 0, _ => rfl
  | 1, _ => rfl

theorem empty_true {s : ByteArray} (h : s.size = 0) : s.toList.isEmpty = true := by rw [List.isEmpty_iff]; exact (toList_nil s).2 h
theorem empty_false {s : ByteArray} (h : s.size ≠ 0) : s.toList.isEmpty = false := by
  cases e : s.toList.isEmpty with
  | false => rfl
  | true => exact absurd ((toList_nil s).1 (List.isEmpty_iff.1 e)) h

set_option maxHeartbeats 400000 in
set_option maxRecDepth 100000 in
theorem nests_main (a b c : ByteArray) (w : World) (ha : a.size ≤ 262144) (hb : b.size ≤ 262144) (hc : c.size ≤ 262144) :
    Calls Try.prog 4 #[.string a, .string b, .string c] w fun e w' => e = .returned (.bool true) ∧ Below w.heap.size w w' := by
  have l1 := fp_size a b
  have l2 := fp_size b c
  have L3 := hide (left_jn a b c)
  have j3 := join_any (some ⟨w.heap.size, 0, none⟩) 3 3 [a, b, c] _ (Ss.laid3 w a b c) (by omega) (by intro s hs; simp at hs; rcases hs with rfl | rfl | rfl <;> omega) (by have := jn_size [a, b, c] false; simp at this ⊢; omega)
  have J3 := hide j3
  clear j3
  by_cases hcase : b.size = 0 ∧ a.size ≠ 0
  case pos =>
    have e1 := empty_true hcase.1
    have e2 := empty_false hcase.2
    have R2 := hide (right_jn2 a b c hcase.1 hcase.2)
    clear hcase
    go_enter Try.func4, Try.ntmps4
    go_wp2_with (go_at_call 8; go_in)
    refine (zzfield_any a b w (by omega) (by omega)).mono ?_
    rintro e w' ⟨rfl, rfl⟩
    go_wp2_with fail
    refine (zzfield_any (fp a b) c w' (by omega) (by omega)).mono ?_
    rintro e w' ⟨rfl, rfl⟩
    go_wp2_with fail
    refine (zzfield_any b c w' (by omega) (by omega)).mono ?_
    rintro e w' ⟨rfl, rfl⟩
    go_wp2_with fail
    refine (zzfield_any a (fp b c) w' (by omega) (by omega)).mono ?_
    rintro e w' ⟨rfl, rfl⟩
    go_wp2_with fail
    refine (unhide J3).mono ?_
    rintro e w2 ⟨s, rfl, hs, b2⟩
    have E1 : ((fp (fp a b) c).toList == s.toList) = true := by rw [hs, unhide L3]; simp
    clear hs
    go_wp2_with fail
    have j2 := join_any (some ⟨w2.heap.size, 0, none⟩) 2 2 [a, c] _ (Ss.laid2 w2 a c) (by omega) (by intro s hs; simp at hs; rcases hs with rfl | rfl <;> omega) (by have := jn_size [a, c] false; simp at this ⊢; omega)
    refine j2.mono ?_
    rintro e w3 ⟨s2, rfl, hs2, b3⟩
    have E2 : ((fp a (fp b c)).toList == s2.toList) = true := by rw [hs2, unhide R2]; simp
    clear hs2 j2
    go_wp2
    go_ret
    refine ⟨rfl, ?_⟩
    have t2 := ((Below.refl w'.heap.size w').alloc (Nat.le_refl _) (.cells #[.string a, .string b, .string c] 9)).trans (b2.mono (by simp))
    exact (t2.alloc t2.size (.cells #[.string a, .string c] 9)).trans (b3.mono (by have := t2.size; simp; omega))
  case neg =>
    have R3 := hide (right_jn a b c hcase)
    have hcases : (b.toList.isEmpty = false) ∨ (b.toList.isEmpty = true ∧ a.toList.isEmpty = true) := by
      by_cases h1 : b.size = 0
      · by_cases h2 : a.size = 0
        · exact .inr ⟨empty_true h1, empty_true h2⟩
        · exact absurd ⟨h1, h2⟩ hcase
      · exact .inl (empty_false h1)
    clear hcase
    rcases hcases with e1 | ⟨e1, e2⟩
    all_goals
      go_enter Try.func4, Try.ntmps4
      go_wp2_with (go_at_call 8; go_in)
      refine (zzfield_any a b w (by omega) (by omega)).mono ?_
      rintro e w' ⟨rfl, rfl⟩
      go_wp2_with fail
      refine (zzfield_any (fp a b) c w' (by omega) (by omega)).mono ?_
      rintro e w' ⟨rfl, rfl⟩
      go_wp2_with fail
      refine (zzfield_any b c w' (by omega) (by omega)).mono ?_
      rintro e w' ⟨rfl, rfl⟩
      go_wp2_with fail
      refine (zzfield_any a (fp b c) w' (by omega) (by omega)).mono ?_
      rintro e w' ⟨rfl, rfl⟩
      go_wp2_with fail
      refine (unhide J3).mono ?_
      rintro e w2 ⟨s, rfl, hs, b2⟩
      have E1 : ((fp (fp a b) c).toList == s.toList) = true := by rw [hs, unhide L3]; simp
      have E2 : ((fp a (fp b c)).toList == s.toList) = true := by rw [hs, unhide R3]; simp
      clear hs
      go_wp2
      go_ret
      exact ⟨rfl, ((Below.refl w'.heap.size w').alloc (Nat.le_refl _) (.cells #[.string a, .string b, .string c] 9)).trans (b2.mono (by simp))⟩

theorem nests_walk (a b c : ByteArray) (w : World) (ha : a.size ≤ maxLen) (hb : b.size ≤ maxLen) (hc : c.size ≤ maxLen) :
    Calls Try.prog 4 #[.string a, .string b, .string c] w fun e w' => e = .returned (.bool true) ∧ Below w.heap.size w w' := by
  by_cases h : 262144 < a.size ∨ 262144 < b.size ∨ 262144 < c.size
  · exact nests_far a b c w ha hb hc h
  · exact nests_main a b c w (by omega) (by omega) (by omega)
end Go.Proofs.Qxb6605331a
