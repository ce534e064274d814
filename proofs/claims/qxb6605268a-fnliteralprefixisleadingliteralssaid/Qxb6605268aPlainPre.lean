/-
  DERIVED. The plain law of FnLiteralPrefixIsLeadingLiterals: every key that matches begins with the literal opening.
-/
import Derived.Test.Qxb6605268aPlainTok
namespace Go.Proofs.Qxb6605268a

theorem G_lp : ∀ (n : Nat) (l ks : List Int), l.length ≤ n → G (toks l) ks = true → lp l <+: ks
  | 0, l, ks, h, _ => by
    have : l = [] := List.eq_nil_of_length_eq_zero (by omega)
    subst this
    simp [lp]
  | n + 1, l, ks, h, hg => by
    by_cases h0 : l.length = 0
    · have : l = [] := List.eq_nil_of_length_eq_zero h0
      subst this
      simp [lp]
    have e0 : l.drop 0 = l := List.drop_zero
    cases hs : special (l.getD 0 0) with
    | true =>
      have := lp_special l 0 (by omega) hs
      rw [e0] at this
      rw [this]; simp
    | false =>
      have h42 : l.getD 0 0 ≠ 42 := by intro e; rw [e] at hs; simp [special] at hs
      have h63 : l.getD 0 0 ≠ 63 := by intro e; rw [e] at hs; simp [special] at hs
      have h91 : l.getD 0 0 ≠ 91 := by intro e; rw [e] at hs; simp [special] at hs
      have e2 : hd l = some (fun b => (mone l b).2) := by unfold hd; rw [if_neg h42]
      rw [toks_cons l (by omega), e2] at hg
      cases ks with
      | nil => simp [G] at hg
      | cons k ks =>
        simp only [G, Bool.and_eq_true] at hg
        obtain ⟨hm, hg⟩ := hg
        unfold mone at hm
        rw [if_neg h63, if_neg h91] at hm
        by_cases hb : l.getD 0 0 = 92 ∧ 1 < l.length
        · rw [if_pos hb] at hm
          have e1 := lp_bs l 0 (by omega) hb.1
          have e3 := elen_bs (l := l) (i := 0) hb.1 (by omega)
          rw [e0] at e1 e3
          rw [e3] at hg
          rw [e1, List.cons_prefix_cons]
          exact ⟨by simpa using hm, G_lp n _ ks (by simp; omega) hg⟩
        · rw [if_neg hb] at hm
          have hb' : ¬ (l.getD 0 0 = 92 ∧ 0 + 1 < l.length) := fun e => hb ⟨e.1, by omega⟩
          have e1 := lp_plain l 0 (by omega) hs hb'
          have e3 := elen_plain (l := l) (i := 0) hs hb'
          rw [e0] at e1 e3
          rw [e3] at hg
          rw [e1, List.cons_prefix_cons]
          exact ⟨by simpa using hm, G_lp n _ ks (by simp; omega) hg⟩

theorem At_lp (l r : List Int) (h : At l r 0 0 = true) : lp l <+: r := by
  unfold At at h
  rw [List.drop_zero, List.drop_zero] at h
  exact G_lp l.length l r (Nat.le_refl _) h

end Go.Proofs.Qxb6605268a
