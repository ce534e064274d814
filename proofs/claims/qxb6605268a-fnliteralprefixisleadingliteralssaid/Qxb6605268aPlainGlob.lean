/-
  DERIVED. Plain: elements of a pattern, what it means that a key matches, and why one place to go back to is enough.
-/
import Derived.Test.Qxb6605268aPlain
namespace Go.Proofs.Qxb6605268a
set_option linter.unusedVariables false

theorem scan_fst (b b' : Int) : ∀ (l : List Int) (m m' : Bool), (scan b l m).1 = (scan b' l m').1
  | [], m, m' => by simp [scan]
  | [c], m, m' => by simp only [scan]; split <;> rfl
  | [c, d], m, m' => by
    simp only [scan, bump]
    split
    · rfl
    · split
      · rfl
      · split <;> rfl
  | c :: d :: e :: t, m, m' => by
    have a1 := scan_fst b b' (e :: t) (m || d == b) (m' || d == b')
    have a2 := scan_fst b b' t (m || inRange c e b) (m' || inRange c e b')
    have a3 := scan_fst b b' (d :: e :: t) (m || c == b) (m' || c == b')
    rw [scan, scan]
    split
    · rfl
    · split
      · simp only [bump]; omega
      · split
        · simp only [bump]; omega
        · simp only [bump]; omega

theorem mlist_fst (l : List Int) (b b' : Int) : (mlist l b).1 = (mlist l b').1 := by
  unfold mlist
  split
  · simp only [scan_fst b b' (l.drop 2) false false]
  · simp only [scan_fst b b' (l.drop 1) false false]

theorem mlist_pos (l : List Int) (b : Int) (h : 1 ≤ l.length) : 1 ≤ (mlist l b).1 ∧ (mlist l b).1 ≤ l.length := by
  unfold mlist
  split <;> simp only <;> omega

/-- matchOne -/
def mone (l : List Int) (b : Int) : Nat × Bool :=
  if l.getD 0 0 = 63 then (1, true) else if l.getD 0 0 = 91 then mlist l b else if l.getD 0 0 = 92 ∧ 1 < l.length then (2, l.getD 1 0 == b) else (1, l.getD 0 0 == b)

/-- the length of the element that l opens with -/
def elen (l : List Int) : Nat := if l.getD 0 0 = 42 then 1 else (mone l 0).1

theorem mone_fst (l : List Int) (b : Int) (h : l.getD 0 0 ≠ 42) : (mone l b).1 = elen l := by
  unfold elen mone
  rw [if_neg h]
  split
  · rfl
  · split
    · exact mlist_fst l b 0
    · split <;> rfl

theorem mone_pos (l : List Int) (b : Int) (h : 1 ≤ l.length) : 1 ≤ (mone l b).1 ∧ (mone l b).1 ≤ l.length := by
  unfold mone
  split
  · simp; omega
  · split
    · exact mlist_pos l b h
    · split
      · rename_i h2; simp; omega
      · simp; omega

theorem elen_pos (l : List Int) (h : 1 ≤ l.length) : 1 ≤ elen l ∧ elen l ≤ l.length := by
  unfold elen
  split
  · omega
  · exact mone_pos l 0 h

/-- an element: a star, or the set of the bytes that it stands for -/
def hd (l : List Int) : Option (Int → Bool) := if l.getD 0 0 = 42 then none else some (fun b => (mone l b).2)

def toksF : Nat → List Int → List (Option (Int → Bool))
  | 0, _ => []
  | f + 1, l => if l.isEmpty then [] else hd l :: toksF f (l.drop (elen l))

def toks (l : List Int) : List (Option (Int → Bool)) := toksF l.length l

theorem toksF_more : ∀ (f g : Nat) (l : List Int), l.length ≤ f → l.length ≤ g → toksF f l = toksF g l
  | 0, 0, l, _, _ => rfl
  | 0, g + 1, l, h, _ => by
    have : l = [] := List.eq_nil_of_length_eq_zero (by omega)
    simp [toksF, this]
  | f + 1, 0, l, _, h => by
    have : l = [] := List.eq_nil_of_length_eq_zero (by omega)
    simp [toksF, this]
  | f + 1, g + 1, l, h1, h2 => by
    simp only [toksF]
    by_cases he : l.isEmpty
    · rw [if_pos he, if_pos he]
    · rw [if_neg he, if_neg he]
      have hl : 1 ≤ l.length := by
        cases l with
        | nil => simp at he
        | cons x t => simp
      have := elen_pos l hl
      rw [toksF_more f g (l.drop (elen l)) (by simp; omega) (by simp; omega)]

theorem toks_nil : toks [] = [] := rfl

theorem toks_cons (l : List Int) (h : 1 ≤ l.length) : toks l = hd l :: toks (l.drop (elen l)) := by
  unfold toks
  obtain ⟨f, hf⟩ : ∃ f, l.length = f + 1 := ⟨l.length - 1, by omega⟩
  have he : ¬ l.isEmpty = true := by
    cases l with
    | nil => simp at h
    | cons x t => simp
  have hp := elen_pos l h
  rw [hf, toksF, if_neg he, toksF_more f (l.drop (elen l)).length _ (by simp; omega) (Nat.le_refl _)]

def anyS (p : List Int → Bool) : List Int → Bool
  | [] => p []
  | k :: ks => p (k :: ks) || anyS p ks

/-- the key ks matches the elements -/
def G : List (Option (Int → Bool)) → List Int → Bool
  | [], ks => ks.isEmpty
  | none :: ts, ks => anyS (G ts) ks
  | some f :: ts, ks => match ks with
    | [] => false
    | k :: ks' => f k && G ts ks'

theorem anyS_iff (p : List Int → Bool) (ks : List Int) : anyS p ks = true ↔ ∃ j, j ≤ ks.length ∧ p (ks.drop j) = true := by
  induction ks with
  | nil => simp [anyS]
  | cons k ks ih =>
    rw [anyS, Bool.or_eq_true, ih]
    constructor
    · rintro (h | ⟨j, hj, h⟩)
      · exact ⟨0, by simp, by simpa using h⟩
      · exact ⟨j + 1, by simp; omega, by simpa using h⟩
    · rintro ⟨j, hj, h⟩
      cases j with
      | zero => exact .inl (by simpa using h)
      | succ j => exact .inr ⟨j, by simp at hj; omega, by simpa using h⟩

/-- 'there is a place at or behind f in the key from which ts match' -/
theorem anyS_drop (p : List Int → Bool) (key : List Int) (f : Nat) (hf : f ≤ key.length) : anyS p (key.drop f) = true ↔ ∃ j, f ≤ j ∧ j ≤ key.length ∧ p (key.drop j) = true := by
  rw [anyS_iff]
  constructor
  · rintro ⟨j, hj, h⟩
    rw [List.drop_drop] at h
    exact ⟨f + j, by omega, by simp at hj; omega, h⟩
  · rintro ⟨j, h1, h2, h⟩
    refine ⟨j - f, by simp; omega, ?_⟩
    rw [List.drop_drop, show f + (j - f) = j by omega]
    exact h

/-- the pattern from p on, against the key from k on -/
def At (pat key : List Int) (p k : Nat) : Bool := G (toks (pat.drop p)) (key.drop k)

theorem At_end (pat key : List Int) (p k : Nat) (h : pat.length ≤ p) : At pat key p k = decide (key.length ≤ k) := by
  unfold At
  rw [List.drop_of_length_le h, toks_nil, G]
  by_cases hk : key.length ≤ k
  · rw [List.drop_of_length_le hk]; simp [hk]
  · have : key.drop k ≠ [] := by simp; omega
    rw [decide_eq_false hk]
    cases hd : key.drop k with
    | nil => exact absurd hd this
    | cons x t => rfl

theorem getD_drop (l : List Int) (p i : Nat) : (l.drop p).getD i 0 = l.getD (p + i) 0 := by simp

theorem At_star (pat key : List Int) (p k : Nat) (h : p < pat.length) (hs : pat.getD p 0 = 42) (hk : k ≤ key.length) :
    At pat key p k = true ↔ ∃ j, k ≤ j ∧ j ≤ key.length ∧ At pat key (p + 1) j = true := by
  have e0 : (pat.drop p).getD 0 0 = 42 := by rw [getD_drop]; exact hs
  unfold At
  rw [toks_cons _ (by simp; omega), hd, if_pos e0, elen, if_pos e0, List.drop_drop, G, anyS_drop _ _ _ hk]

theorem At_step (pat key : List Int) (p k : Nat) (h : p < pat.length) (hs : pat.getD p 0 ≠ 42) (hk : k < key.length) :
    At pat key p k = ((mone (pat.drop p) (key.getD k 0)).2 && At pat key (p + elen (pat.drop p)) (k + 1)) := by
  have e0 : (pat.drop p).getD 0 0 ≠ 42 := by rw [getD_drop]; exact hs
  unfold At
  rw [toks_cons _ (by simp; omega), hd, if_neg e0, List.drop_drop, drop_cons hk, G]

theorem At_dry (pat key : List Int) (p k : Nat) (h : p < pat.length) (hs : pat.getD p 0 ≠ 42) (hk : key.length ≤ k) : At pat key p k = false := by
  have e0 : (pat.drop p).getD 0 0 ≠ 42 := by rw [getD_drop]; exact hs
  unfold At
  rw [toks_cons _ (by simp; omega), hd, if_neg e0, List.drop_of_length_le hk, G]

/-- what the scan keeps before a star was met -/
def I0 (pat key : List Int) (p k : Nat) : Prop := At pat key 0 0 = At pat key p k
/-- .. and behind one: s: past the last star; f: where it began to match -/
def I1 (pat key : List Int) (p k s f : Nat) : Prop :=
  s ≤ p ∧ f ≤ k ∧ (At pat key 0 0 = true ↔ ∃ j, f ≤ j ∧ j ≤ key.length ∧ At pat key s j = true) ∧ At pat key s f = At pat key p k ∧
    ∀ j, f ≤ j → j ≤ key.length → At pat key s j = true → ∃ j', k ≤ j' ∧ j' ≤ key.length ∧ At pat key p j' = true

theorem I0.star {pat key : List Int} {p k : Nat} (h : I0 pat key p k) (hp : p < pat.length) (hs : pat.getD p 0 = 42) (hk : k ≤ key.length) : I1 pat key (p + 1) k (p + 1) k := by
  refine ⟨Nat.le_refl _, Nat.le_refl _, ?_, rfl, fun j h1 h2 h3 => ⟨j, h1, h2, h3⟩⟩
  unfold I0 at h
  rw [h]
  exact At_star pat key p k hp hs hk

theorem I1.star {pat key : List Int} {p k s f : Nat} (h : I1 pat key p k s f) (hp : p < pat.length) (hs : pat.getD p 0 = 42) (hk : k ≤ key.length) : I1 pat key (p + 1) k (p + 1) k := by
  obtain ⟨h1, h2, h3, h4, h5⟩ := h
  refine ⟨Nat.le_refl _, Nat.le_refl _, ?_, rfl, fun j a b c => ⟨j, a, b, c⟩⟩
  rw [h3, ← At_star pat key p k hp hs hk]
  constructor
  · rintro ⟨j, a, b, c⟩
    obtain ⟨j', a', b', c'⟩ := h5 j a b c
    obtain ⟨j2, a2, b2, c2⟩ := (At_star pat key p j' hp hs b').1 c'
    exact (At_star pat key p k hp hs hk).2 ⟨j2, by omega, b2, c2⟩
  · intro c
    exact ⟨f, Nat.le_refl _, by omega, by rw [h4]; exact c⟩

theorem I0.one {pat key : List Int} {p k : Nat} (h : I0 pat key p k) (hp : p < pat.length) (hs : pat.getD p 0 ≠ 42) (hk : k < key.length) (hm : (mone (pat.drop p) (key.getD k 0)).2 = true) :
    I0 pat key (p + elen (pat.drop p)) (k + 1) := by
  unfold I0 at *
  rw [h, At_step pat key p k hp hs hk, hm, Bool.true_and]

theorem I1.one {pat key : List Int} {p k s f : Nat} (h : I1 pat key p k s f) (hp : p < pat.length) (hs : pat.getD p 0 ≠ 42) (hk : k < key.length) (hm : (mone (pat.drop p) (key.getD k 0)).2 = true) :
    I1 pat key (p + elen (pat.drop p)) (k + 1) s f := by
  obtain ⟨h1, h2, h3, h4, h5⟩ := h
  refine ⟨by omega, by omega, h3, ?_, fun j a b c => ?_⟩
  · rw [h4, At_step pat key p k hp hs hk, hm, Bool.true_and]
  · obtain ⟨j', a', b', c'⟩ := h5 j a b c
    by_cases hj : j' < key.length
    · rw [At_step pat key p j' hp hs hj, Bool.and_eq_true] at c'
      exact ⟨j' + 1, by omega, by omega, c'.2⟩
    · rw [At_dry pat key p j' hp hs (by omega)] at c'
      cases c'

/-- it doesn't match here -/
theorem At_no {pat key : List Int} {p k : Nat} (hk : k < key.length) (h : pat.length ≤ p ∨ (p < pat.length ∧ pat.getD p 0 ≠ 42 ∧ (mone (pat.drop p) (key.getD k 0)).2 = false)) : At pat key p k = false := by
  rcases h with h | ⟨h1, h2, h3⟩
  · rw [At_end pat key p k h]; exact decide_eq_false (by omega)
  · rw [At_step pat key p k h1 h2 hk, h3, Bool.false_and]

theorem I0.no {pat key : List Int} {p k : Nat} (h : I0 pat key p k) (hn : At pat key p k = false) : At pat key 0 0 = false := by
  unfold I0 at h; rw [h]; exact hn

theorem I1.no {pat key : List Int} {p k s f : Nat} (h : I1 pat key p k s f) (hk : k < key.length) (hn : At pat key p k = false) : I1 pat key s (f + 1) s (f + 1) := by
  obtain ⟨h1, h2, h3, h4, h5⟩ := h
  refine ⟨Nat.le_refl _, Nat.le_refl _, ?_, rfl, fun j a b c => ⟨j, a, b, c⟩⟩
  rw [h3]
  constructor
  · rintro ⟨j, a, b, c⟩
    have : j ≠ f := by rintro rfl; rw [h4, hn] at c; cases c
    exact ⟨j, by omega, b, c⟩
  · rintro ⟨j, a, b, c⟩
    exact ⟨j, by omega, b, c⟩

/-- at the key's end -/
theorem I1.dry {pat key : List Int} {p k s f : Nat} (h : I1 pat key p k s f) (hk : k = key.length) : At pat key 0 0 = At pat key p k := by
  obtain ⟨h1, h2, h3, h4, h5⟩ := h
  rw [Bool.eq_iff_iff, h3]
  constructor
  · rintro ⟨j, a, b, c⟩
    obtain ⟨j', a', b', c'⟩ := h5 j a b c
    have : j' = k := by omega
    rw [← this]; exact c'
  · intro c
    exact ⟨f, Nat.le_refl _, by omega, by rw [h4]; exact c⟩

theorem At_dry_star {pat key : List Int} {p k : Nat} (hp : p < pat.length) (hs : pat.getD p 0 = 42) (hk : k = key.length) : At pat key p k = At pat key (p + 1) k := by
  rw [Bool.eq_iff_iff, At_star pat key p k hp hs (by omega)]
  constructor
  · rintro ⟨j, a, b, c⟩
    have : j = k := by omega
    rw [← this]; exact c
  · intro c
    exact ⟨k, Nat.le_refl _, by omega, c⟩

/-- the scan's measure -/
def mu (P N : Nat) (s f k : Int) : Nat := ((P : Int) - s).toNat * ((N + 1) * (N + 1)) + ((N : Int) - f).toNat * (N + 1) + ((N : Int) - k).toNat

theorem mu_one {P N : Nat} {s f k : Int} (h : k < N) : mu P N s f (k + 1) < mu P N s f k := by unfold mu; omega
theorem mu_no {P N : Nat} {s f k : Int} (h1 : f ≤ k) (h0 : 0 ≤ f) (h : k < N) : mu P N s (f + 1) (f + 1) < mu P N s f k := by
  unfold mu
  obtain ⟨x, hx⟩ : ∃ x, ((N : Int) - f).toNat = x + 1 := ⟨((N : Int) - f).toNat - 1, by omega⟩
  have hx' : ((N : Int) - (f + 1)).toNat = x := by omega
  rw [hx, hx', Nat.add_mul x 1 (N + 1), Nat.one_mul]
  generalize ((P : Int) - s).toNat * ((N + 1) * (N + 1)) = A
  generalize x * (N + 1) = B
  omega
theorem mul3 (a x B : Nat) : (a + 1 + x) * B = a * B + B + x * B := by rw [Nat.add_mul, Nat.add_mul, Nat.one_mul]
theorem mu_star {P N : Nat} {s f k p k' : Int} (h1 : s < p) (h2 : p ≤ P) (h3 : 0 ≤ k') : mu P N p k' k' < mu P N s f k := by
  unfold mu
  obtain ⟨x, hx⟩ : ∃ x, ((P : Int) - s).toNat = ((P : Int) - p).toNat + 1 + x := ⟨((P : Int) - s).toNat - 1 - ((P : Int) - p).toNat, by omega⟩
  rw [hx, mul3]
  have hy : ((N : Int) - k').toNat ≤ N := by omega
  have h4 : ((N : Int) - k').toNat * (N + 1) ≤ N * (N + 1) := Nat.mul_le_mul_right _ hy
  have h5 : (N + 1) * (N + 1) = N * (N + 1) + (N + 1) := by rw [Nat.add_mul N 1 (N + 1), Nat.one_mul]
  generalize ((P : Int) - p).toNat * ((N + 1) * (N + 1)) = A
  generalize x * ((N + 1) * (N + 1)) = E
  generalize ((N : Int) - f).toNat * (N + 1) = F
  generalize (N + 1) * (N + 1) = B at *
  generalize ((N : Int) - k').toNat * (N + 1) = C at *
  generalize N * (N + 1) = D at *
  omega

end Go.Proofs.Qxb6605268a
