/-
  DERIVED. The walk of FnFieldPathFoldIsDottedJoin (3).
-/
import Derived.Test.Qxb6605331aJoin
namespace Go.Proofs.Qxb6605331a
open Go.RowKit
set_option linter.unusedVariables false

theorem Try.info9 : (Try.prog.info? 9).map (fun i => (i.zero, i.size, i.bytes)) = some (some (.string ByteArray.empty), 1, 16) := by kernel_rfl

/-- the bytes of the first i strings -/
def szs (ss : List ByteArray) (i : Nat) : Nat := ((ss.take i).map ByteArray.size).sum
theorem szs_zero (ss : List ByteArray) : szs ss 0 = 0 := rfl
theorem take_snocS {ss : List ByteArray} {i : Nat} (h : i < ss.length) : ss.take (i + 1) = ss.take i ++ [ss.getD i ByteArray.empty] := by
  have e : ss.getD i ByteArray.empty = ss[i] := by simp [h]
  rw [e]; exact List.take_succ_eq_append_getElem h
theorem szs_succ {ss : List ByteArray} {i : Nat} (h : i < ss.length) : szs ss (i + 1) = szs ss i + (ss.getD i ByteArray.empty).size := by
  unfold szs; rw [take_snocS h]; simp

set_option maxHeartbeats 400000 in
set_option maxRecDepth 100000 in
/-- zzBytes: it answers, and turns nothing. -/
theorem bytes_any (a : Option Addr) (n c : Nat) (ss : List ByteArray) (w : World) (h : Ss w a n ss) (hn : n ≤ maxLen) (hs : ∀ s ∈ ss, s.size ≤ maxLen) :
    Calls Try.prog 5 #[.slice a n c] w fun e w' => (∃ v, e = .returned (.bool v)) ∧ w' = w := by
  unfold maxLen at hn hs
  have hln := h.len
  by_cases hbig : 1048576 < n
  · go_enter Try.func5, Try.ntmps5
    go_wp2
    go_ret
    exact ⟨⟨_, rfl⟩, rfl⟩
  · have hn2 : n ≤ 1048576 := by omega
    have hd1 : decide ((1048576 : Int) < (n : Int)) = false := by simp; omega
    clear hbig
    go_enter Try.func5, Try.ntmps5
    go_wp2
    go_loopw [3, 4] (fun st si wr => ∃ (i t : Nat), i ≤ n ∧ t ≤ 1048576 ∧ st = .int .i64 t ∧ si = .int .i64 i ∧ wr = w) (fun _ si _ => n - (intOf si).toNat)
    case atStart => exact ⟨0, n, Nat.zero_le _, hn2, by simp, rfl, rfl⟩
    case round =>
      obtain ⟨i, t, hi, ht, rfl, rfl, rfl⟩ := hrel
      by_cases hin : i < n
      case neg =>
        go_wp2
        go_ret
        exact ⟨⟨_, rfl⟩, rfl⟩
      case pos =>
        obtain ⟨b0, o0, e, hc⟩ := h.row (by omega)
        cases e
        obtain ⟨s, hsd⟩ : ∃ s, s = ss.getD i ByteArray.empty := ⟨_, rfl⟩
        have hcs := hc i hin
        rw [← hsd] at hcs
        have hsz : s.size ≤ 9223372036854775807 := by
          rw [hsd]
          have : ss.getD i ByteArray.empty = ss[i]'(by omega) := by simp [show i < ss.length by omega]
          rw [this]; exact hs _ (List.getElem_mem _)
        clear hsd hc
        by_cases h1 : 1048576 < s.size
        · go_wp2
          go_ret
          exact ⟨⟨_, rfl⟩, rfl⟩
        · by_cases h2 : 1048576 < t + s.size
          · go_wp2
            go_ret
            exact ⟨⟨_, rfl⟩, rfl⟩
          · go_wp2
            go_roundw
            case rel => exact ⟨i + 1, t + s.size, by omega, by omega, by go_num, by go_num, by trivial⟩
            case measure => simp [intOf]; omega

def clS (ss : List ByteArray) (k : Nat) : List Value := (ss.take k).map Value.string ++ List.replicate (ss.length - k) (.string ByteArray.empty)

theorem clS_zero (ss : List ByteArray) : clS ss 0 = List.replicate ss.length (.string ByteArray.empty) := by simp [clS]
theorem clS_set (ss : List ByteArray) (k : Nat) (h : k < ss.length) : (clS ss k).set k (.string (ss.getD k ByteArray.empty)) = clS ss (k + 1) := by
  unfold clS
  have e : ss.length - k = (ss.length - (k + 1)) + 1 := by omega
  have e2 : ((ss.take k).map Value.string).length = k := by simp; omega
  rw [e, List.replicate_succ, take_snocS h, List.set_append, if_neg (by omega), e2, List.map_append, List.append_assoc]
  simp only [Nat.sub_self, List.set_cons_zero, List.map_cons, List.map_nil, List.singleton_append]
theorem clS_get (ss : List ByteArray) (k : Nat) (h : k < ss.length) : (clS ss k)[k]? = some (.string ByteArray.empty) := by
  unfold clS
  have e2 : ((ss.take k).map Value.string).length = k := by simp; omega
  have e : ss.length - k = (ss.length - (k + 1)) + 1 := by omega
  rw [List.getElem?_append_right (by omega), e2, e, List.replicate_succ]
  simp
theorem clS_all (ss : List ByteArray) : clS ss ss.length = ss.map Value.string := by simp [clS]

theorem Ss.of_owned {w : World} {base g n c : Nat} {ss : List ByteArray} (h : w.ownsRow base 9 1 (.slice (some ⟨g, 0, none⟩) n c) n (ss.map Value.string)) : Ss w (some ⟨g, 0, none⟩) n ss := by
  have hl : ss.length = n := by simpa using h.1
  refine ⟨hl, fun _ => ⟨g, 0, rfl, fun i hi => ?_⟩⟩
  have := h.cellAt i (by simpa using hi)
  rw [Nat.zero_add, this]
  have hi' : i < ss.length := by omega
  simp [hi']

/-- what the descent has come to behind i segments -/
def Prel (ss : List ByteArray) (i : Nat) (P : ByteArray) : Prop := P.toList = ((ss.take i).map ByteArray.toList).foldl fpl []

theorem Prel.start (ss : List ByteArray) : Prel ss 0 ⟨#[]⟩ := by unfold Prel; exact ByteArray.toList_mk []
theorem Prel.step {ss : List ByteArray} {i : Nat} {P : ByteArray} (h : Prel ss i P) (hi : i < ss.length) : Prel ss (i + 1) (fp P (ss.getD i ByteArray.empty)) := by
  unfold Prel at *
  rw [take_snocS hi, List.map_append, List.foldl_append, ← h, fp_toList]
  rfl
theorem jn_szs (ss : List ByteArray) (i : Nat) (st : Bool) : (jn st ((ss.take i).map ByteArray.toList)).length ≤ szs ss i + i := by
  have := jn_len st ((ss.take i).map ByteArray.toList)
  rw [List.map_map] at this
  have e : ((fun s : List UInt8 => s.length + 1) ∘ ByteArray.toList) = fun s => s.size + 1 := by funext s; simp [size_toList]
  rw [e] at this
  have e2 : ∀ l : List ByteArray, (l.map (fun s => s.size + 1)).sum = (l.map ByteArray.size).sum + l.length := by
    intro l
    induction l with
    | nil => rfl
    | cons x t ih => simp [ih]; omega
  rw [e2] at this
  unfold szs
  have e3 : (ss.take i).length ≤ i := List.length_take_le _ _
  omega
theorem szs_mono (ss : List ByteArray) : ∀ {i j : Nat}, i ≤ j → j ≤ ss.length → szs ss i ≤ szs ss j := by
  intro i j hij hj
  induction j with
  | zero => have : i = 0 := by omega
            subst this; exact Nat.le_refl _
  | succ j ih =>
    by_cases e : i = j + 1
    · subst e; exact Nat.le_refl _
    · have := ih (by omega) (by omega)
      rw [szs_succ (by omega)]; omega
theorem szs_one (ss : List ByteArray) (i : Nat) (h : i < ss.length) : (ss.getD i ByteArray.empty).size ≤ szs ss ss.length := by
  have h1 := szs_succ h
  have h2 := szs_mono ss (i := i + 1) (j := ss.length) (by omega) (Nat.le_refl _)
  omega
theorem Prel.size {ss : List ByteArray} {i : Nat} {P : ByteArray} (h : Prel ss i P) (hi : i ≤ ss.length) : P.size ≤ szs ss ss.length + ss.length := by
  unfold Prel at h
  rw [fold_start] at h
  have := jn_szs ss i false
  have h2 := szs_mono ss hi (Nat.le_refl _)
  rw [← size_toList, h]; omega

set_option maxHeartbeats 2000000 in
set_option maxRecDepth 100000 in
theorem fold_some (ad : Addr) (n c : Nat) (ss : List ByteArray) (w : World) (h : Ss w (some ad) n ss) (hn : n ≤ maxLen) (hs : ∀ s ∈ ss, s.size ≤ maxLen) :
    Calls Try.prog 3 #[.slice (some ad) n c] w fun e w' => e = .returned (.bool true) ∧ Below w.heap.size w w' := by
  obtain ⟨i0, hi0, hz0, hz1, hz2⟩ := info_parts Try.info9
  have hq : ∀ wx : World, (binOp .neq 22 (.slice (some ad) n c) (.slice none 0 0)).run Try.prog wx = .ok (.bool true) wx := fun wx => by
    simpa using run_neq_slice_nil_any (P := Try.prog) wx 22 9 (some ad) n c 0 0 Try.underlying22
  have hby := bytes_any (some ad) n c ss w h hn hs
  unfold maxLen at hn hs
  have hln := h.len
  go_enter Try.func3, Try.ntmps3
  go_wp2_with fail
  refine hby.mono ?_
  rintro e w' ⟨⟨v, rfl⟩, rfl⟩
  clear hby
  cases v
  case false =>
    go_wp2
    go_ret
    exact ⟨rfl, Below.refl _ _⟩
  by_cases hbig : 4096 < n
  case pos =>
    go_wp2
    go_ret
    exact ⟨rfl, Below.refl _ _⟩
  have hn2 : n ≤ 4096 := by omega
  have hd1 : decide ((4096 : Int) < (n : Int)) = false := by simp; omega
  clear hbig
  go_wp2
  go_loopw [3, 4] (fun st si wr => ∃ (i : Nat), i ≤ n ∧ 16 * n + szs ss i ≤ 1048576 ∧ st = .int .i64 (16 * (n : Int) + (szs ss i : Nat)) ∧ si = .int .i64 i ∧ wr = w') (fun _ si _ => n - (intOf si).toNat)
  case atStart => exact ⟨0, Nat.zero_le _, by rw [szs_zero]; omega, by rw [szs_zero]; simp, rfl, rfl⟩
  case round =>
    obtain ⟨i, hi, hti, rfl, rfl, rfl⟩ := hrel
    by_cases hin : i < n
    case pos =>
      obtain ⟨b0, o0, e, hc⟩ := h.row (by omega)
      cases e
      obtain ⟨s, hsd⟩ : ∃ s, s = ss.getD i ByteArray.empty := ⟨_, rfl⟩
      have hcs := hc i hin
      rw [← hsd] at hcs
      have hsz : s.size ≤ 9223372036854775807 := by
        rw [hsd]
        have : ss.getD i ByteArray.empty = ss[i]'(by omega) := by simp [show i < ss.length by omega]
        rw [this]; exact hs _ (List.getElem_mem _)
      have HS := hide (szs_succ (ss := ss) (i := i) (by omega))
      rw [← hsd] at HS
      obtain ⟨T, hT⟩ : ∃ T, T = szs ss i := ⟨_, rfl⟩
      rw [← hT] at hti HS ⊢
      clear hsd hc hT
      by_cases h1 : 1048576 < s.size
      · go_wp2
        go_ret
        exact ⟨rfl, Below.refl _ _⟩
      · by_cases h2 : 1048576 < 16 * n + T + s.size
        · go_wp2
          go_ret
          exact ⟨rfl, Below.refl _ _⟩
        · go_wp2
          go_roundw
          case rel => exact ⟨i + 1, by omega, by rw [unhide HS]; omega, by rw [unhide HS]; go_num, by go_num, by trivial⟩
          case measure => simp [intOf]; omega
    case neg =>
      have hie : i = n := by omega
      have HSZ : Hid (16 * n + szs ss ss.length ≤ 1048576) := by rw [hln, ← hie]; rw [← hie] at hti; exact hti
      obtain ⟨T, hT⟩ : ∃ T : Int, T = 16 * (n : Int) + (szs ss i : Nat) := ⟨_, rfl⟩
      rw [← hT]
      clear hT hti hie
      obtain ⟨W, rfl⟩ : ∃ W, W = wr := ⟨_, rfl⟩
      go_wp2_with (at_make; refine wpList_make_full _ rfl _ _ 22 rfl W.heap.size 9 i0 (.string ByteArray.empty) 1 Try.underlying22 hi0 hz0 hz1 _ _ _ _ n rfl rfl rfl rfl (by rw [hz2]; omega) (by unfold maxLen; omega) (Nat.le_refl _) ?_; intro w0 hown0 hgrow0)
      have hB0 : Below W.heap.size W w0 := (Below.refl _ _).grown hgrow0 (Nat.le_refl _) (fun k h => by cases h)
      have hown0' : w0.ownsRow W.heap.size 9 1 (.slice (some ⟨W.heap.size, 0, none⟩) n n) n (clS ss 0) := by
        rw [clS_zero, hln]
        have e : (Value.string ByteArray.empty).cells = #[.string ByteArray.empty] := rfl
        rw [e, Nat.mul_one, toList_madeCells_one] at hown0
        exact hown0
      clear hown0 hgrow0
      go_loopw [6] (fun si wz => ∃ k : Nat, k ≤ n ∧ si = .int .i64 k ∧ wz.ownsRow W.heap.size 9 1 (.slice (some ⟨W.heap.size, 0, none⟩) n n) n (clS ss k) ∧ Below W.heap.size W wz) (fun si _ => n - (intOf si).toNat)
      case atStart => exact ⟨0, Nat.zero_le _, rfl, hown0', hB0⟩
      case round =>
        clear hown0' hB0
        obtain ⟨k, hk, rfl, hown, hb⟩ := hrel
        by_cases hkn : k < n
        case pos =>
          obtain ⟨b0, o0, e, hc⟩ := (h.below hb).row (by omega)
          cases e
          obtain ⟨s, hsd⟩ : ∃ s, s = ss.getD k ByteArray.empty := ⟨_, rfl⟩
          have hcs := hc k hkn
          rw [← hsd] at hcs
          have hcw : wr.cell? ⟨W.heap.size, k, none⟩ = some (.string ByteArray.empty) := (hown.cellAt k (by omega)).trans (clS_get ss k (by omega))
          have hfw := hown.frozenAt k
          have hst := (hown.stored k (.string (ss.getD k ByteArray.empty))).1
          rw [clS_set ss k (by omega), ← hsd] at hst
          have HSt := hide hst
          have HB := hide (hb.setCell (p := ⟨W.heap.size, k, none⟩) (Nat.le_refl _) (.string s))
          clear hst hsd hc hown
          go_wp2
          go_roundw
          case rel => exact ⟨k + 1, by omega, by go_num, unhide HSt, unhide HB⟩
          case measure => simp [intOf]; omega
        case neg =>
          have hke : k = ss.length := by omega
          have hS : Ss wr (some ⟨W.heap.size, 0, none⟩) n ss := Ss.of_owned (base := W.heap.size) (c := n) (by rw [hke, clS_all] at hown; exact hown)
          have HSZ2 := HSZ.out
          have hjl : (jn false (ss.map ByteArray.toList)).length ≤ 4194304 := by
            have := jn_szs ss ss.length false
            rw [List.take_length] at this
            omega
          have hjoin := join_any (some ⟨W.heap.size, 0, none⟩) n n ss wr hS (by omega) (fun s hs => by
            obtain ⟨j, hj, rfl⟩ := List.getElem_of_mem hs
            have := szs_one ss j hj
            have e : ss.getD j ByteArray.empty = ss[j] := by simp [hj]
            rw [e] at this; omega) hjl
          have HJN := hide hjoin
          obtain ⟨V, rfl⟩ : ∃ V, V = wr := ⟨_, rfl⟩
          clear hown hke hjoin hjl
          go_wp2
          go_loopw [7, 8] (fun sp si wz => ∃ (i : Nat) (P : ByteArray), i ≤ n ∧ sp = .string P ∧ si = .int .i64 i ∧ wz = V ∧ Prel ss i P) (fun _ si _ => n - (intOf si).toNat)
          case atStart => exact ⟨0, _, Nat.zero_le _, rfl, rfl, rfl, Prel.start ss⟩
          case round =>
            obtain ⟨i2, P, hi2, rfl, rfl, rfl, HP⟩ := hrel
            have hPs := HP.size (by omega)
            by_cases hi2n : i2 < n
            case pos =>
              obtain ⟨b0, o0, e, hc⟩ := hS.row (by omega)
              cases e
              have HPN := HP.step (by omega)
              obtain ⟨s, hsd⟩ : ∃ s, s = ss.getD i2 ByteArray.empty := ⟨_, rfl⟩
              have hcs := hc i2 hi2n
              have hs1 := szs_one ss i2 (by omega)
              rw [← hsd] at hcs HPN hs1
              rw [Nat.zero_add] at hcs
              have HPN' := hide HPN
              clear HPN HP hsd hc
              have hP1 : P.size ≤ 1073741824 := by omega
              have hs2 : s.size ≤ 1073741824 := by omega
              go_wp2_with fail
              refine (zzfield_any P s _ hP1 hs2).mono ?_
              rintro e w' ⟨rfl, rfl⟩
              go_wp2
              go_roundw
              case rel => exact ⟨i2 + 1, fp P s, by omega, rfl, by go_num, by trivial, unhide HPN'⟩
              case measure => simp [intOf]; omega
            case neg =>
              have he2 : i2 = ss.length := by omega
              have HE : Hid (P.toList = jn false (ss.map ByteArray.toList)) := by
                have := HP
                unfold Prel at this
                rw [he2, List.take_length, fold_start] at this
                exact this
              clear HP he2
              go_wp2_with fail
              refine (unhide HJN).mono ?_
              rintro e w3 ⟨q, rfl, hq2, b3⟩
              have E1 : (P.toList == q.toList) = true := by rw [hq2, unhide HE]; simp
              clear hq2
              go_wp2
              go_ret
              exact ⟨rfl, hb.trans (b3.mono hb.size)⟩

set_option maxHeartbeats 1000000 in
set_option maxRecDepth 100000 in
theorem fold_nil (w : World) : Calls Try.prog 3 #[.slice none 0 0] w fun e w' => e = .returned (.bool true) ∧ Below w.heap.size w w' := by
  have hS : Ss w none 0 [] := ⟨rfl, fun h => by omega⟩
  have hq : ∀ wx : World, (binOp .neq 22 (.slice none 0 0) (.slice none 0 0)).run Try.prog wx = .ok (.bool false) wx := fun wx => by
    simpa using run_neq_slice_nil_any (P := Try.prog) wx 22 9 none 0 0 0 0 Try.underlying22
  have hby := bytes_any none 0 0 [] w hS (by unfold maxLen; omega) (by simp)
  have hjoin := join_any none 0 0 [] w hS (by omega) (by simp) (by simp [jn])
  have HJN := hide hjoin
  clear hjoin
  go_enter Try.func3, Try.ntmps3
  go_wp2_with fail
  refine hby.mono ?_
  rintro e w' ⟨⟨v, rfl⟩, rfl⟩
  clear hby
  cases v
  case false =>
    go_wp2
    go_ret
    exact ⟨rfl, Below.refl _ _⟩
  go_wp2
  refine wp_loop_rounds 1 ?_
  rw [rounds_succ]
  go_wp2
  refine wp_loop_rounds 1 ?_
  rw [rounds_succ]
  go_wp2_with fail
  refine (unhide HJN).mono ?_
  rintro e w3 ⟨q, rfl, hq2, b3⟩
  have E1 : (([] : List UInt8) == q.toList) = true := by rw [hq2]; simp [jn]
  have E2 : q.toList = [] := by rw [hq2]; simp [jn]
  clear hq2
  go_wp2
  go_ret
  exact ⟨by first | rfl | simp [E2], b3⟩

theorem fold_walk (a : Option Addr) (n c : Nat) (ss : List ByteArray) (w : World) (h : Ss w a n ss) (h0 : a = none → n = 0 ∧ c = 0) (hn : n ≤ maxLen) (hs : ∀ s ∈ ss, s.size ≤ maxLen) :
    Calls Try.prog 3 #[.slice a n c] w fun e w' => e = .returned (.bool true) ∧ Below w.heap.size w w' := by
  cases a with
  | some ad => exact fold_some ad n c ss w h hn hs
  | none =>
    obtain ⟨rfl, rfl⟩ := h0 rfl
    exact fold_nil w
end Go.Proofs.Qxb6605331a
