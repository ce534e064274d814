/-
  DERIVED. Plain: the dotted join.
-/
namespace Go.Proofs.Qxb6605331a

def jn : Bool → List (List UInt8) → List UInt8
  | _, [] => []
  | false, s :: ss => if s = [] then jn false ss else s ++ jn true ss
  | true, s :: ss => 46 :: s ++ jn true ss

theorem jn_true_cons (s : List UInt8) (ss : List (List UInt8)) : jn true (s :: ss) = 46 :: s ++ jn true ss := rfl
theorem jn_false_nil (ss : List (List UInt8)) : jn false ([] :: ss) = jn false ss := by simp [jn]
theorem jn_false_cons (s : List UInt8) (ss : List (List UInt8)) (h : s ≠ []) : jn false (s :: ss) = s ++ jn true ss := by simp [jn, h]

def fpl (p q : List UInt8) : List UInt8 := if p = [] then q else p ++ 46 :: q

theorem fold_jn (ss : List (List UInt8)) : ∀ p, ss.foldl fpl p = if p = [] then jn false ss else p ++ jn true ss := by
  induction ss with
  | nil => intro p; by_cases h : p = [] <;> simp [jn, h]
  | cons s ss ih =>
    intro p
    rw [List.foldl_cons, ih]
    by_cases h : p = []
    · subst h
      by_cases hs : s = []
      · subst hs; simp [fpl, jn_false_nil]
      · simp [fpl, hs, jn_false_cons]
    · have : fpl p s ≠ [] := by simp [fpl, h]
      rw [if_neg this, if_neg h, jn_true_cons]
      simp [fpl, h]

theorem fold_start (ss : List (List UInt8)) : ss.foldl fpl [] = jn false ss := by rw [fold_jn]; simp

theorem jn_len (st : Bool) (ss : List (List UInt8)) : (jn st ss).length ≤ (ss.map (fun s => s.length + 1)).sum := by
  induction ss generalizing st with
  | nil => simp [jn]
  | cons s ss ih =>
    cases st with
    | true => have := ih true; rw [jn_true_cons]; simp; omega
    | false =>
      by_cases hs : s = []
      · subst hs; have := ih false; rw [jn_false_nil]; simp; omega
      · have := ih true; rw [jn_false_cons s ss hs]; simp; omega

end Go.Proofs.Qxb6605331a
