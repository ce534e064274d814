/-
  DERIVED. The plain law of FnMatchesEscapedKeyIsLiteral.
-/
import Derived.Test.Qxb6605268aPlainGlob
import Derived.Test.Qxb6605268aPlainLp
namespace Go.Proofs.Qxb6605268a

theorem toks_bs (x : Int) (t : List Int) : toks (92 :: x :: t) = some (fun b => x == b) :: toks t := by
  rw [toks_cons _ (by simp)]
  have e : elen (92 :: x :: t) = 2 := by simp [elen, mone]
  have h : hd (92 :: x :: t) = some (fun b => x == b) := by
    simp only [hd, List.getD_cons_zero]
    rw [if_neg (by decide)]
    have hf : (fun b => (mone (92 :: x :: t) b).2) = (fun b => x == b) := by funext b; simp [mone]
    rw [hf]
  rw [e, h]; rfl

theorem G_esc (u : List Int) : ∀ (l r : List Int), G (toks (esc l ++ u)) r = (decide (l <+: r) && G (toks u) (r.drop l.length))
  | [], r => by simp [esc]
  | x :: t, [] => by
    rw [esc, List.cons_append, List.cons_append, toks_bs, G]
    simp
  | x :: t, y :: r => by
    rw [esc, List.cons_append, List.cons_append, toks_bs, G]
    simp only [G_esc u t r, List.length_cons, List.drop_succ_cons]
    by_cases hxy : x = y
    · subst hxy; simp [List.cons_prefix_cons]
    · have h1 : (x == y) = false := by simpa using hxy
      have h2 : ¬ (x :: t) <+: (y :: r) := by rw [List.cons_prefix_cons]; exact fun e => hxy e.1
      rw [h1, decide_eq_false h2]; rfl

theorem At_esc (l r : List Int) : At (esc l) r 0 0 = decide (l = r) := by
  have := G_esc [] l r
  rw [List.append_nil] at this
  unfold At
  rw [List.drop_zero, List.drop_zero, this, toks_nil, G]
  by_cases h : l = r
  · subst h; simp
  · rw [decide_eq_false h]
    by_cases hp : l <+: r
    · have : r.drop l.length ≠ [] := by
        intro e
        have hl := hp.length_le
        have : r.length ≤ l.length := by simpa using e
        exact h (hp.eq_of_length (by omega))
      rw [decide_eq_true hp, Bool.true_and]
      cases hd : r.drop l.length with
      | nil => exact absurd hd this
      | cons a b => rfl
    · rw [decide_eq_false hp]; rfl

theorem toks_star : toks [42] = [none] := by
  rw [toks_cons _ (by simp)]
  simp [hd, elen, toks_nil]

theorem G_star (ks : List Int) : G [none] ks = true := by
  rw [G, anyS_iff]
  exact ⟨ks.length, Nat.le_refl _, by simp [G]⟩

theorem At_open (l r : List Int) : At (esc l ++ [42]) r 0 0 = decide (l <+: r) := by
  unfold At
  rw [List.drop_zero, List.drop_zero, G_esc, toks_star, G_star, Bool.and_true]

end Go.Proofs.Qxb6605268a
