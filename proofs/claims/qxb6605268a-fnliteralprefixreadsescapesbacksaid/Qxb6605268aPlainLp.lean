/-
  DERIVED. Plain: the escaped key, the literal opening.
-/
import Derived.Test.Qxb6605268aPlain
namespace Go.Proofs.Qxb6605268a

def esc : List Int → List Int
  | [] => []
  | x :: t => 92 :: x :: esc t

theorem esc_append (a b : List Int) : esc (a ++ b) = esc a ++ esc b := by
  induction a with
  | nil => rfl
  | cons x t ih => simp [esc, ih]
theorem esc_length (a : List Int) : (esc a).length = 2 * a.length := by
  induction a with
  | nil => rfl
  | cons x t ih => simp [esc, ih]; omega
theorem esc_rng {a : List Int} (h : ∀ x ∈ a, 0 ≤ x ∧ x ≤ 255) : ∀ x ∈ esc a, 0 ≤ x ∧ x ≤ 255 := by
  induction a with
  | nil => simp [esc]
  | cons y t ih =>
    intro x hx
    simp [esc] at hx
    rcases hx with rfl | rfl | hx
    · omega
    · exact h x (by simp)
    · exact ih (fun z hz => h z (by simp [hz])) x hx

/-- '*', '?', '[' -/
def special (c : Int) : Bool := c == 42 || c == 63 || c == 91

def lp : List Int → List Int
  | [] => []
  | [c] => if special c then [] else [c]
  | c :: d :: t => if special c then [] else if c = 92 then d :: lp t else c :: lp (d :: t)

theorem lp_esc (a b : List Int) : lp (esc a ++ b) = a ++ lp b := by
  induction a with
  | nil => rfl
  | cons x t ih => simp [esc, lp, special, ih]

theorem lp_end (l : List Int) (k : Nat) (h : l.length ≤ k) : lp (l.drop k) = [] := by rw [List.drop_of_length_le h]; rfl
theorem lp_special (l : List Int) (k : Nat) (h : k < l.length) (hs : special (l.getD k 0) = true) : lp (l.drop k) = [] := by
  rw [drop_cons h]
  match l.drop (k + 1) with
  | [] => rw [lp, if_pos hs]
  | d :: t => rw [lp, if_pos hs]
theorem lp_bs (l : List Int) (k : Nat) (h : k + 1 < l.length) (hs : l.getD k 0 = 92) : lp (l.drop k) = l.getD (k + 1) 0 :: lp (l.drop (k + 2)) := by
  rw [drop_cons (by omega), drop_cons h, hs]
  simp [lp, special]
theorem lp_plain (l : List Int) (k : Nat) (h : k < l.length) (hs : special (l.getD k 0) = false) (hb : ¬ (l.getD k 0 = 92 ∧ k + 1 < l.length)) : lp (l.drop k) = l.getD k 0 :: lp (l.drop (k + 1)) := by
  rw [drop_cons h]
  by_cases h1 : k + 1 < l.length
  · rw [drop_cons h1, lp, if_neg (by rw [hs]; decide), if_neg (fun e => hb ⟨e, h1⟩)]
  · rw [List.drop_of_length_le (i := k + 1) (by omega), lp, lp, if_neg (by rw [hs]; decide)]
theorem lp_mem : ∀ (l : List Int) (x : Int), x ∈ lp l → x ∈ l
  | [], x, h => by simp [lp] at h
  | [c], x, h => by
    rw [lp] at h
    split at h
    · simp at h
    · exact h
  | c :: d :: t, x, h => by
    rw [lp] at h
    split at h
    · simp at h
    · split at h
      · rcases List.mem_cons.1 h with rfl | h
        · simp
        · have := lp_mem t x h; simp [this]
      · rcases List.mem_cons.1 h with rfl | h
        · simp
        · have := lp_mem (d :: t) x h
          exact List.mem_cons_of_mem _ this
theorem lp_le : ∀ (l : List Int), (lp l).length ≤ l.length
  | [] => by simp [lp]
  | [c] => by
    rw [lp]
    split <;> simp
  | c :: d :: t => by
    have h1 := lp_le t
    have h2 := lp_le (d :: t)
    rw [lp]
    simp only [List.length_cons] at h2 ⊢
    split
    · simp
    · split
      · simp only [List.length_cons]; omega
      · simp only [List.length_cons]; omega

end Go.Proofs.Qxb6605268a
