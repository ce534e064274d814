/-
  DERIVED. Plain functions over lists of bytes (as integers), no Go in sight: the list matcher.
-/
namespace Go.Proofs.Qxb6605268a

def bump (k : Nat) (r : Nat × Bool) : Nat × Bool := (r.1 + k, r.2)

def inRange (x z b : Int) : Bool := decide ((x ≤ b ∧ b ≤ z) ∨ (z ≤ b ∧ b ≤ x))

/-- What the list's body, from here on, adds: how many bytes are read before the closing bracket or the end, and whether b is matched (m: it was before). -/
def scan (b : Int) : List Int → Bool → Nat × Bool
  | [], m => (0, m)
  | [c], m => if c = 93 then (0, m) else (1, m || c == b)
  | [c, d], m => if c = 93 then (0, m) else if c = 92 then (2, m || d == b) else bump 1 (scan b [d] (m || c == b))
  | c :: d :: e :: t, m => if c = 93 then (0, m) else if c = 92 then bump 2 (scan b (e :: t) (m || d == b)) else
      if d = 45 then bump 3 (scan b t (m || inRange c e b)) else bump 1 (scan b (d :: e :: t) (m || c == b))

theorem drop_cons {l : List Int} {k : Nat} (h : k < l.length) : l.drop k = l.getD k 0 :: l.drop (k + 1) := by
  rw [List.drop_eq_getElem_cons h]
  simp [h]

theorem scan_end (b : Int) (l : List Int) (m : Bool) (k : Nat) (h : l.length ≤ k) : scan b (l.drop k) m = (0, m) := by
  rw [List.drop_of_length_le h]; simp [scan]

theorem scan_close (b : Int) (l : List Int) (m : Bool) (k : Nat) (h : k < l.length) (hc : l.getD k 0 = 93) : scan b (l.drop k) m = (0, m) := by
  rw [drop_cons h, hc]
  match l.drop (k + 1) with
  | [] => simp [scan]
  | [d] => simp [scan]
  | d :: e :: t => simp [scan]

theorem scan_esc (b : Int) (l : List Int) (m : Bool) (k : Nat) (h : k + 1 < l.length) (hc : l.getD k 0 = 92) :
    scan b (l.drop k) m = bump 2 (scan b (l.drop (k + 2)) (m || l.getD (k + 1) 0 == b)) := by
  rw [drop_cons (by omega), drop_cons h, hc]
  match l.drop (k + 1 + 1) with
  | [] => simp [scan, bump]
  | e :: t => simp [scan]

theorem scan_range (b : Int) (l : List Int) (m : Bool) (k : Nat) (h : k + 2 < l.length) (h1 : l.getD k 0 ≠ 93) (h2 : l.getD k 0 ≠ 92) (h3 : l.getD (k + 1) 0 = 45) :
    scan b (l.drop k) m = bump 3 (scan b (l.drop (k + 3)) (m || inRange (l.getD k 0) (l.getD (k + 2) 0) b)) := by
  rw [drop_cons (by omega), drop_cons (k := k + 1) (by omega), drop_cons (k := k + 1 + 1) (by omega), h3]
  simp only [scan, if_neg h1, if_neg h2, if_true]

theorem scan_one (b : Int) (l : List Int) (m : Bool) (k : Nat) (h : k < l.length) (h1 : l.getD k 0 ≠ 93) (h2 : ¬ (l.getD k 0 = 92 ∧ k + 1 < l.length)) (h3 : ¬ (k + 2 < l.length ∧ l.getD (k + 1) 0 = 45)) :
    scan b (l.drop k) m = bump 1 (scan b (l.drop (k + 1)) (m || l.getD k 0 == b)) := by
  rw [drop_cons h]
  by_cases ha : k + 1 < l.length
  · have h2' : l.getD k 0 ≠ 92 := fun e => h2 ⟨e, ha⟩
    rw [drop_cons ha]
    by_cases hb : k + 2 < l.length
    · have h3' : l.getD (k + 1) 0 ≠ 45 := fun e => h3 ⟨hb, e⟩
      rw [drop_cons (k := k + 1 + 1) hb]
      simp only [scan, if_neg h1, if_neg h2', if_neg h3']
    · rw [List.drop_of_length_le (i := k + 1 + 1) (by omega)]
      simp only [scan, if_neg h1, if_neg h2']
  · rw [List.drop_of_length_le (i := k + 1) (by omega)]
    simp only [scan, if_neg h1, bump]

theorem scan_le (b : Int) : ∀ (l : List Int) (m : Bool), (scan b l m).1 ≤ l.length
  | [], m => by simp [scan]
  | [c], m => by simp only [scan]; split <;> simp
  | [c, d], m => by
    have := scan_le b [d] (m || c == b)
    rw [scan]
    simp only [List.length_cons, List.length_nil] at this ⊢
    split
    · simp
    · split
      · simp
      · simp only [bump]; omega
  | c :: d :: e :: t, m => by
    have a1 := scan_le b (e :: t) (m || d == b)
    have a2 := scan_le b t (m || inRange c e b)
    have a3 := scan_le b (d :: e :: t) (m || c == b)
    rw [scan]
    simp only [List.length_cons] at a1 a2 a3 ⊢
    split
    · simp
    · split
      · simp only [bump]; omega
      · split
        · simp only [bump]; omega
        · simp only [bump]; omega

/-- matchList: how many bytes the list takes, and whether b matches it. -/
def mlist (l : List Int) (b : Int) : Nat × Bool :=
  if l.getD 1 0 = 94 then (min (2 + (scan b (l.drop 2) false).1 + 1) l.length, (scan b (l.drop 2) false).2 != true)
  else (min (1 + (scan b (l.drop 1) false).1 + 1) l.length, (scan b (l.drop 1) false).2 != false)

end Go.Proofs.Qxb6605268a
