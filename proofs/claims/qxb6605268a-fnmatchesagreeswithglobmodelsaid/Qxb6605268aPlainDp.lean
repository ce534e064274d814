/-
  DERIVED. Plain: the table over (first bytes of the key, first elements) says whether a key matches.
-/
import Derived.Test.Qxb6605268aPlainTok
namespace Go.Proofs.Qxb6605268a
set_option linter.unusedVariables false

theorem G_none_nil (A : List (Option (Int → Bool))) : G (A ++ [none]) [] = G A [] := by
  induction A with
  | nil => rfl
  | cons t A ih =>
    cases t with
    | none => simp only [List.cons_append, G, anyS]; exact ih
    | some f => simp only [List.cons_append, G]
theorem G_some_nil (f : Int → Bool) (A : List (Option (Int → Bool))) : G (A ++ [some f]) [] = false := by
  induction A with
  | nil => rfl
  | cons t A ih =>
    cases t with
    | none => simp only [List.cons_append, G, anyS]; exact ih
    | some f => simp only [List.cons_append, G]
theorem G_star_all (ks : List Int) : G [none] ks = true := by
  rw [G, anyS_iff]
  exact ⟨ks.length, Nat.le_refl _, by simp [G]⟩

theorem drop_snoc (K : List Int) (k : Int) (j : Nat) (h : j ≤ K.length) : (K ++ [k]).drop j = K.drop j ++ [k] := List.drop_append_of_le_length h

theorem G_snoc_some (f : Int → Bool) : ∀ (A : List (Option (Int → Bool))) (K : List Int) (k : Int), G (A ++ [some f]) (K ++ [k]) = (G A K && f k)
  | [], [], k => by simp [G]
  | [], x :: K, k => by simp [G]
  | some g :: A, [], k => by
    simp only [List.cons_append, List.nil_append, G, G_some_nil]; simp
  | some g :: A, x :: K, k => by
    simp only [List.cons_append, G, G_snoc_some f A K k, Bool.and_assoc]
  | none :: A, K, k => by
    simp only [List.cons_append, G]
    rw [Bool.eq_iff_iff, Bool.and_eq_true, anyS_iff, anyS_iff]
    constructor
    · rintro ⟨j, hj, h⟩
      by_cases hjk : j ≤ K.length
      · rw [drop_snoc K k j hjk, G_snoc_some f A (K.drop j) k, Bool.and_eq_true] at h
        exact ⟨⟨j, hjk, h.1⟩, h.2⟩
      · rw [List.drop_of_length_le (by simp; omega), G_some_nil] at h
        cases h
    · rintro ⟨⟨j, hj, h⟩, hf⟩
      refine ⟨j, by simp; omega, ?_⟩
      rw [drop_snoc K k j hj, G_snoc_some f A (K.drop j) k, h, hf]; rfl

theorem G_snoc_none : ∀ (A : List (Option (Int → Bool))) (K : List Int) (k : Int), G (A ++ [none]) (K ++ [k]) = (G A (K ++ [k]) || G (A ++ [none]) K)
  | [], K, k => by rw [List.nil_append, G_star_all, G_star_all, Bool.or_true]
  | some g :: A, [], k => by
    simp only [List.cons_append, List.nil_append, G, G_none_nil]; simp
  | some g :: A, x :: K, k => by
    simp only [List.cons_append, G, G_snoc_none A K k, Bool.and_or_distrib_left]
  | none :: A, K, k => by
    simp only [List.cons_append, G]
    rw [Bool.eq_iff_iff, Bool.or_eq_true, anyS_iff, anyS_iff, anyS_iff]
    constructor
    · rintro ⟨j, hj, h⟩
      by_cases hjk : j ≤ K.length
      · rw [drop_snoc K k j hjk, G_snoc_none A (K.drop j) k, Bool.or_eq_true] at h
        rcases h with h | h
        · exact .inl ⟨j, hj, by rw [drop_snoc K k j hjk]; exact h⟩
        · exact .inr ⟨j, hjk, h⟩
      · have e : (K ++ [k]).drop j = [] := List.drop_of_length_le (by simp; omega)
        rw [e, G_none_nil] at h
        exact .inl ⟨j, hj, by rw [e]; exact h⟩
    · rintro (⟨j, hj, h⟩ | ⟨j, hj, h⟩)
      · by_cases hjk : j ≤ K.length
        · refine ⟨j, hj, ?_⟩
          rw [drop_snoc K k j hjk] at h ⊢
          rw [G_snoc_none A (K.drop j) k, h]; rfl
        · have e : (K ++ [k]).drop j = [] := List.drop_of_length_le (by simp; omega)
          rw [e] at h
          exact ⟨j, hj, by rw [e, G_none_nil]; exact h⟩
      · refine ⟨j, by simp; omega, ?_⟩
        rw [drop_snoc K k j hj, G_snoc_none A (K.drop j) k, h, Bool.or_true]

/-- an element as the matcher reads it -/
def Tk.abs (t : Tk) : Option (Int → Bool) := if t.star then none else some t.s.has

/-- the table: the first i bytes of the key against the first j elements -/
def T (ts : List Tk) (ks : List Int) (i j : Nat) : Bool := G ((ts.take j).map Tk.abs) (ks.take i)

theorem T_zero (ts : List Tk) (ks : List Int) : T ts ks 0 0 = true := rfl
theorem T_none (ts : List Tk) (ks : List Int) (i : Nat) (h : i < ks.length) : T ts ks (i + 1) 0 = false := by
  unfold T
  cases ks with
  | nil => simp at h
  | cons x t => rfl

theorem map_take_snoc (ts : List Tk) (j : Nat) (h : j < ts.length) : (ts.take (j + 1)).map Tk.abs = (ts.take j).map Tk.abs ++ [ts[j].abs] := by
  rw [List.take_succ_eq_append_getElem h, List.map_append]; rfl
theorem take_snoc_int (ks : List Int) (i : Nat) (h : i < ks.length) : ks.take (i + 1) = ks.take i ++ [ks.getD i 0] := by
  have e : ks.getD i 0 = ks[i] := by simp [h]
  rw [e]; exact List.take_succ_eq_append_getElem h

theorem T_row (ts : List Tk) (ks : List Int) (j : Nat) (h : j < ts.length) : T ts ks 0 (j + 1) = (T ts ks 0 j && ts[j].star) := by
  unfold T
  rw [map_take_snoc ts j h]
  simp only [List.take_zero]
  unfold Tk.abs
  cases hs : ts[j].star with
  | true => simp [G_none_nil]
  | false => simp [G_some_nil]
theorem T_star (ts : List Tk) (ks : List Int) (i j : Nat) (hi : i < ks.length) (h : j < ts.length) (hs : ts[j].star = true) : T ts ks (i + 1) (j + 1) = (T ts ks (i + 1) j || T ts ks i (j + 1)) := by
  unfold T
  rw [map_take_snoc ts j h, take_snoc_int ks i hi]
  have e : ts[j].abs = none := by unfold Tk.abs; rw [hs]; rfl
  rw [e, G_snoc_none]
theorem T_one (ts : List Tk) (ks : List Int) (i j : Nat) (hi : i < ks.length) (h : j < ts.length) (hs : ts[j].star = false) : T ts ks (i + 1) (j + 1) = (T ts ks i j && ts[j].s.has (ks.getD i 0)) := by
  unfold T
  rw [map_take_snoc ts j h, take_snoc_int ks i hi]
  have e : ts[j].abs = some ts[j].s.has := by unfold Tk.abs; rw [hs]; rfl
  rw [e, G_snoc_some]

theorem anyS_congr {p q : List Int → Bool} : ∀ (ks : List Int), (∀ x ∈ ks, 0 ≤ x ∧ x ≤ 255) → (∀ js, (∀ x ∈ js, 0 ≤ x ∧ x ≤ 255) → p js = q js) → anyS p ks = anyS q ks
  | [], hk, h => h [] (by simp)
  | k :: ks, hk, h => by
    rw [anyS, anyS, h (k :: ks) hk, anyS_congr ks (fun x hx => hk x (by simp [hx])) h]

/-- the elements that were read answer as the pattern does -/
theorem G_reads : ∀ (ts : List Tk) (l : List Int), Reads ts l → ∀ ks, (∀ x ∈ ks, 0 ≤ x ∧ x ≤ 255) → G (ts.map Tk.abs) ks = G (toks l) ks
  | [], l, h, ks, hk => by
    have : l = [] := h
    subst this
    rfl
  | t :: ts, l, h, ks, hk => by
    obtain ⟨h1, hf, hr⟩ := h
    have ih := G_reads ts _ hr
    rw [toks_cons l h1, List.map_cons]
    by_cases hs : l.getD 0 0 = 42
    · have e1 : t.abs = none := by unfold Tk.abs; rw [hf.star, decide_eq_true hs]; rfl
      have e2 : hd l = none := by unfold hd; rw [if_pos hs]
      rw [e1, e2, G, G]
      exact anyS_congr ks hk ih
    · have e1 : t.abs = some t.s.has := by unfold Tk.abs; rw [hf.star, decide_eq_false hs]; rfl
      have e2 : hd l = some (fun b => (mone l b).2) := by unfold hd; rw [if_neg hs]
      rw [e1, e2]
      cases ks with
      | nil => rfl
      | cons k ks =>
        have hk0 := hk k (by simp)
        simp only [G]
        rw [hf.set hs k hk0.1 hk0.2, ih ks (fun x hx => hk x (by simp [hx]))]

theorem T_all (ts : List Tk) (l ks : List Int) (h : Reads ts l) (hk : ∀ x ∈ ks, 0 ≤ x ∧ x ≤ 255) : T ts ks ks.length ts.length = At l ks 0 0 := by
  unfold T At
  rw [List.take_length, List.take_length, List.drop_zero, List.drop_zero]
  exact G_reads ts l h ks hk

/-- the leading run of literal elements -/
def leads : List Tk → List Int
  | [] => []
  | t :: ts => if t.lit then t.b :: leads ts else []

theorem leads_lp : ∀ (ts : List Tk) (l : List Int), Reads ts l → leads ts = lp l
  | [], l, h => by
    have : l = [] := h
    subst this; rfl
  | t :: ts, l, h => by
    obtain ⟨h1, hf, hr⟩ := h
    have ih := leads_lp ts _ hr
    rw [leads, hf.lit, ih]
    have e0 : l.drop 0 = l := List.drop_zero
    cases hs : special (l.getD 0 0) with
    | true =>
      have := lp_special l 0 (by omega) hs
      rw [e0] at this
      rw [this]; rfl
    | false =>
      rw [hf.byte hs]
      unfold litByte
      by_cases hb : l.getD 0 0 = 92 ∧ 1 < l.length
      · have e1 := lp_bs l 0 (by omega) hb.1
        have e2 := elen_bs (l := l) (i := 0) hb.1 (by omega)
        rw [e0] at e1 e2
        rw [if_pos hb, e2, e1]; rfl
      · have hb' : ¬ (l.getD 0 0 = 92 ∧ 0 + 1 < l.length) := fun e => hb ⟨e.1, by omega⟩
        have e1 := lp_plain l 0 (by omega) hs hb'
        have e2 := elen_plain (l := l) (i := 0) hs hb'
        rw [e0] at e1 e2
        rw [if_neg hb, e2, e1]; rfl

/-- every key that matches begins with the literal opening -/
theorem G_leads : ∀ (ts : List Tk) (l : List Int), Reads ts l → ∀ ks, (∀ x ∈ ks, 0 ≤ x ∧ x ≤ 255) → G (ts.map Tk.abs) ks = true → leads ts <+: ks
  | [], l, h, ks, hk, hg => by simp [leads]
  | t :: ts, l, h, ks, hk, hg => by
    obtain ⟨h1, hf, hr⟩ := h
    rw [leads]
    cases hl : t.lit with
    | false => simp
    | true =>
      have hs : special (l.getD 0 0) = false := by have := hf.lit; rw [hl] at this; cases h : special (l.getD 0 0) <;> simp_all
      have h42 : l.getD 0 0 ≠ 42 := by intro e; rw [e] at hs; simp [special] at hs
      have h63 : l.getD 0 0 ≠ 63 := by intro e; rw [e] at hs; simp [special] at hs
      have h91 : l.getD 0 0 ≠ 91 := by intro e; rw [e] at hs; simp [special] at hs
      have e1 : t.abs = some t.s.has := by unfold Tk.abs; rw [hf.star, decide_eq_false h42]; rfl
      rw [List.map_cons, e1] at hg
      cases ks with
      | nil => simp [G] at hg
      | cons k ks =>
        simp only [G, Bool.and_eq_true] at hg
        have hk0 := hk k (by simp)
        have hm := hg.1
        rw [hf.set h42 k hk0.1 hk0.2] at hm
        have hb : t.b = k := by
          rw [hf.byte hs]
          unfold litByte
          unfold mone at hm
          rw [if_neg h63, if_neg h91] at hm
          split at hm
          · rename_i hc; rw [if_pos hc]; simpa using hm
          · rename_i hc; rw [if_neg hc]; simpa using hm
        have ih := G_leads ts _ hr ks (fun x hx => hk x (by simp [hx])) hg.2
        simp only [if_true]
        rw [hb, List.cons_prefix_cons]
        exact ⟨rfl, ih⟩

end Go.Proofs.Qxb6605268a
