/-
  DERIVED. The walk of joinDotsAuthconfigB1 (7).
-/
import Derived.Test.Qxb6605331aField
import Derived.Test.Qxb6605331aPlain
namespace Go.Proofs.Qxb6605331a
open Go.RowKit
set_option linter.unusedVariables false

theorem Try.info5 : (Try.prog.info? 5).map (fun i => (i.zero, i.size, i.bytes)) = some (some (.int .u8 0), 1, 1) := by kernel_rfl

/-- The slice value '.slice a n c' reads, in the world w, as the strings ss. -/
structure Ss (w : World) (a : Option Addr) (n : Nat) (ss : List ByteArray) : Prop where
  len : ss.length = n
  row : 0 < n → ∃ b off, a = some ⟨b, off, none⟩ ∧ ∀ i, i < n → w.cell? ⟨b, off + i, none⟩ = some (.string (ss.getD i ByteArray.empty))

theorem Ss.below {w w' : World} {a : Option Addr} {n : Nat} {ss : List ByteArray} (h : Ss w a n ss) (hb : Below w.heap.size w w') : Ss w' a n ss :=
  ⟨h.len, fun hp => by
    obtain ⟨b, off, e, hc⟩ := h.row hp
    exact ⟨b, off, e, fun i hi => cell_later hb (hc i hi)⟩⟩

def nums (o : List UInt8) : List Int := o.map fun b => (b.toNat : Int)
theorem nums_append (a b : List UInt8) : nums (a ++ b) = nums a ++ nums b := by simp [nums]
theorem nums_length (a : List UInt8) : (nums a).length = a.length := by simp [nums]
theorem strOfNums_nums (o : List UInt8) : (strOfNums (nums o)).toList = o := by
  rw [ByteArray.toList_eq, strOfNums_data, nums, List.map_map]
  have e : ((fun n : Int => UInt8.ofNat n.toNat) ∘ fun b : UInt8 => (b.toNat : Int)) = id := by funext b; simp
  rw [e, List.map_id]

theorem take_snocB (s : ByteArray) (j : Nat) (h : j < s.size) : s.toList.take (j + 1) = s.toList.take j ++ [s[j]] := by
  rw [ByteArray.toList_eq, List.take_succ_eq_append_getElem (by simpa using h)]; rfl

theorem own_geJ {w : World} {base n size : Nat} {e : TypeId} {v : Value} {xs : List Value} (h : w.ownsRow base e size v n xs) {B : Nat} (hB : B ≤ base) : ∀ k, v.ownBlock = some k → B ≤ k := fun k hk => Nat.le_trans hB (h.lt k hk).1

theorem grown_allocJ {w w' : World} {o : Obj} {row : Option Nat} (h : (w.alloc o).grownBy w' row) : w.grownBy w' row := by
  refine ⟨h.os, h.tape, h.output, ?_, fun k hk hne => ?_⟩
  · have := h.size; simp at this; omega
  · rw [h.block k (by simp; omega) hne]; exact Below.heap_alloc _ _ _ hk

theorem news_cellsJ {W0 : World} (news : List Int) :
    ∀ (j : Nat) (u : Value), (news.map (Value.int .u8))[j]? = some u → (W0.alloc (.cells (news.map (Value.int .u8)).toArray 5)).cell? ((⟨W0.heap.size, 0, none⟩ : Addr).add j) = some u := by
  intro j u hj
  have h : (W0.alloc (.cells (news.map (Value.int .u8)).toArray 5)).heap[W0.heap.size]? = some (.cells (news.map (Value.int .u8)).toArray 5 (0, 0)) := heap_alloc_new W0 _
  have e : ((⟨W0.heap.size, 0, none⟩ : Addr).add j) = ⟨W0.heap.size, j, none⟩ := by simp [Addr.add]; omega
  rw [e, cell_of_row _ _ j _ _ _ h, List.getElem?_toArray]
  exact hj

/-- 'out = append(out, x)' -/
theorem wpList_appJ {ops : Array Oper} {rest : List Oper} {o : Oper} {a : Act} {Q : Exit → Act → World → Prop} (W0 : World) (arr : Array Value)
    (hg : o.guard = none) (s x : Operand) (hop : o.op = Op.call { callee := Callee.builtin Builtin.append, args := #[s, x], argTypes := #[27, 27] })
    (base : Nat) (v : Value) (k : Nat) (xs news : List Int) (m : Nat) (hs : a.eval s = v) (hown : W0.ownsRow base 5 1 v k (xs.map (Value.int .u8)))
    (z : Nat) (hx : a.eval x = .slice (some ⟨z, 0, none⟩) m m) (hz : z = W0.heap.size) (harr : arr = (news.map (Value.int .u8)).toArray) (hm : news.length = m) (hbase : base ≤ W0.heap.size) (hfit : k + m ≤ 16777216)
    (hK : ∀ v' w', w'.ownsRow base 5 1 v' (k + m) ((xs ++ news).map (Value.int .u8)) → W0.grownBy w' v.ownBlock → wpList Try.prog ops Q rest (a.put o.dst v') w') :
    wpList Try.prog ops Q (o :: rest) a (W0.alloc (.cells arr 5)) := by
  obtain ⟨i0, hi0, hz0, hz1, hz2⟩ := info_parts Try.info5
  subst harr hz
  refine wpList_append_own _ hg s x 27 hop base 5 i0 (.int .u8 0) 1 1 Try.underlying27 hi0 hz0 hz1 hz2 rfl (by decide) v k _ hs (hown.alloc _) ⟨W0.heap.size, 0, none⟩ m m (news.map (Value.int .u8)) hx (by simp [hm]) (news_cellsJ news) (ints_oneCell _ _) (by unfold maxLen; omega) (by omega) (by simp; omega) ?_
  intro v' w' h1 h2 _
  exact hK v' w' (by simpa using h1) (grown_allocJ h2)

/-- 'string(out)' -/
theorem conv_own {w : World} {base n : Nat} {v : Value} {o : List UInt8} (h : w.ownsRow base 5 1 v n ((nums o).map (Value.int .u8))) : (convert 27 9 v).run Try.prog w = .ok (.string (strOfNums (nums o))) w := by
  rcases h.2 with ⟨rfl, rfl⟩ | ⟨g, cap, cur, rfl, _⟩
  · have e : o = [] := List.eq_nil_of_length_eq_zero (by simpa [nums] using h.1)
    subst e
    rw [run_convert_bytes_nil (P := Try.prog) w 27 5 Try.underlying27 Try.underlying5 0 0 9 Try.underlying9]
    rfl
  · have hl : (nums o).length = n := by simpa using h.1
    refine run_convert_bytes_arg (P := Try.prog) w 27 5 Try.underlying27 Try.underlying5 g 0 n cap (nums o) hl (fun i hi => ?_) 9 Try.underlying9
    have := h.cellAt i (by omega)
    rw [Nat.zero_add, this]
    have hi' : i < (nums o).length := by omega
    simp [hi']

/-- what the rounds keep -/
def Jrel (tot : List UInt8) (ss : List ByteArray) (i : Nat) (st : Bool) (o : List UInt8) : Prop := o ++ jn st ((ss.drop i).map ByteArray.toList) = tot

theorem Jrel.le {tot : List UInt8} {ss : List ByteArray} {i : Nat} {st : Bool} {o : List UInt8} (h : Jrel tot ss i st o) : o.length ≤ tot.length := by
  unfold Jrel at h; rw [← h]; simp
theorem drop_consB {ss : List ByteArray} {i : Nat} (h : i < ss.length) : (ss.drop i).map ByteArray.toList = (ss.getD i ByteArray.empty).toList :: (ss.drop (i + 1)).map ByteArray.toList := by
  have e : ss.getD i ByteArray.empty = ss[i] := by simp [h]
  rw [List.drop_eq_getElem_cons h, List.map_cons, e]

set_option maxHeartbeats 2000000 in
set_option maxRecDepth 100000 in
theorem join_any (a : Option Addr) (n c : Nat) (ss : List ByteArray) (w : World) (h : Ss w a n ss) (hn : n ≤ 65536) (hs : ∀ s ∈ ss, s.size ≤ 1073741824) (hlen : (jn false (ss.map ByteArray.toList)).length ≤ 4194304) :
    Calls Try.prog 7 #[.slice a n c] w fun e w' => ∃ s, e = .returned (.string s) ∧ s.toList = jn false (ss.map ByteArray.toList) ∧ Below w.heap.size w w' := by
  have hln := h.len
  obtain ⟨tot, htot⟩ : ∃ tot, tot = jn false (ss.map ByteArray.toList) := ⟨_, rfl⟩
  rw [← htot] at hlen ⊢
  have HTOT := hide htot
  clear htot
  have HLEN := hide hlen
  clear hlen
  go_enter Try.func7, Try.ntmps7
  go_wp2
  go_loopw [3, 4, 5] (fun p sst si wr => ∃ (i : Nat) (st : Bool) (o : List UInt8), i ≤ n ∧ si = .int .i64 i ∧ sst = .bool st ∧ wr.ownsRow w.heap.size 5 1 p o.length ((nums o).map (Value.int .u8)) ∧ Below w.heap.size w wr ∧ Jrel tot ss i st o) (fun _ _ si _ => n - (intOf si).toNat)
  case atStart => exact ⟨0, false, [], Nat.zero_le _, rfl, rfl, World.ownsRow_nil _ _ _ _, Below.refl _ _, by unfold Jrel; rw [HTOT.out]; simp⟩
  case round =>
    obtain ⟨i, st, o, hi, rfl, rfl, hown, hBr, HJ⟩ := hrel
    have hol := HJ.le
    have hol2 := HLEN.out
    by_cases hin : i < n
    case neg =>
      have HF : Hid (o = tot) := by
        have := HJ
        unfold Jrel at this
        rw [List.drop_of_length_le (by omega)] at this
        show o = tot
        rw [← this]; simp [jn]
      have hcv := conv_own hown
      clear HJ
      go_wp2
      go_ret
      exact ⟨_, rfl, by rw [strOfNums_nums]; exact unhide HF, hBr⟩
    case pos =>
      obtain ⟨b0, o0, e, hc⟩ := (h.below hBr).row (by omega)
      cases e
      obtain ⟨s, hsd⟩ : ∃ s, s = ss.getD i ByteArray.empty := ⟨_, rfl⟩
      have hcs := hc i hin
      rw [← hsd] at hcs
      have hsz : s.size ≤ 1073741824 := by
        rw [hsd]
        have : ss.getD i ByteArray.empty = ss[i]'(by omega) := by simp [show i < ss.length by omega]
        rw [this]; exact hs _ (List.getElem_mem _)
      have HD := hide (drop_consB (ss := ss) (i := i) (by omega))
      rw [← hsd] at HD
      have hb0 : b0 < wr.heap.size := World.block_lt_of_cell? _ _ hcs
      clear hsd hc
      cases st
      case false =>
        by_cases hse : s.size = 0
        case pos =>
          have he : s.toList.isEmpty = true := by rw [List.isEmpty_iff]; exact (toList_nil s).2 hse
          have HNX : Hid (Jrel tot ss (i + 1) false o) := by
            have := HJ
            unfold Jrel at this
            rw [HD.out, (toList_nil s).2 hse, jn_false_nil] at this
            exact this
          clear HJ hse
          go_wp2
          go_roundw
          case rel => exact ⟨i + 1, false, o, by omega, by go_num, rfl, hown, hBr, unhide HNX⟩
          case measure => simp [intOf]; omega
        case neg =>
          have he : s.toList.isEmpty = false := by
            cases e : s.toList.isEmpty with
            | false => rfl
            | true => exact absurd ((toList_nil s).1 (List.isEmpty_iff.1 e)) hse
          have HNX : Hid (Jrel tot ss (i + 1) true (o ++ s.toList)) := by
            have := HJ
            unfold Jrel at this
            rw [HD.out, jn_false_cons _ _ (fun e => hse ((toList_nil s).1 e)), ← List.append_assoc] at this
            exact this
          have hfit : o.length + s.size ≤ 4194304 := by have := HNX.out.le; rw [List.length_append, size_toList] at this; omega
          clear HJ hse
          go_wp2
          go_loopw [3, 7] (fun p sj wr2 => ∃ (j : Nat), j ≤ s.size ∧ sj = .int .i64 j ∧ wr2.ownsRow w.heap.size 5 1 p (o.length + j) ((nums (o ++ s.toList.take j)).map (Value.int .u8)) ∧ Below w.heap.size w wr2) (fun _ sj _ => s.size - (intOf sj).toNat)
          case atStart => exact ⟨0, Nat.zero_le _, rfl, by simpa using hown, hBr⟩
          case round =>
            clear hown hBr
            obtain ⟨j, hj, rfl, hown2, hB2⟩ := hrel
            by_cases hjs : j < s.size
            case pos =>
              have HSN := hide (take_snocB s j hjs)
              have hge := hide (own_geJ hown2 (Nat.le_refl _))
              have hsz2 := hB2.size
              go_wp2_with (at_builtin; refine wpList_appJ _ _ rfl (.tmp 31) (.tmp 35) rfl w.heap.size u3 (o.length + j) (nums (o ++ s.toList.take j)) [(s[j].toNat : Int)] 1 rfl hown2 _ rfl rfl rfl rfl hsz2 (by omega) ?_; intro v' w5 hown5 hgrow5)
              go_roundw
              case rel => exact ⟨j + 1, by omega, by go_num, by rw [unhide HSN, ← List.append_assoc, nums_append]; exact hown5, hB2.grown hgrow5 hsz2 (unhide hge)⟩
              case measure => simp [intOf]; omega
            case neg =>
              have hjs' : j = s.size := by omega
              have HTK : Hid (s.toList.take j = s.toList) := hide (List.take_of_length_le (by rw [size_toList]; omega))
              go_wp2
              go_roundw
              case rel => exact ⟨i + 1, true, o ++ s.toList, by omega, by go_num, rfl, by have := hown2; rw [unhide HTK, hjs'] at this; rw [List.length_append, size_toList]; exact this, hB2, unhide HNX⟩
              case measure => simp [intOf]; omega
      case true =>
        have HNX : Hid (Jrel tot ss (i + 1) true (o ++ [46] ++ s.toList)) := by
          have := HJ
          unfold Jrel at this
          rw [HD.out, jn_true_cons] at this
          show o ++ [46] ++ s.toList ++ _ = tot
          rw [← this]; simp
        have hfit : o.length + 1 + s.size ≤ 4194304 := by have := HNX.out.le; rw [List.length_append, List.length_append, size_toList] at this; simp at this; omega
        have hge0 := hide (own_geJ hown (Nat.le_refl _))
        have hsz0 := hBr.size
        clear HJ
        go_wp2_with (at_builtin; refine wpList_appJ _ _ rfl (.tmp 22) (.tmp 23) rfl w.heap.size u3 o.length (nums o) [46] 1 rfl hown _ rfl rfl rfl rfl hsz0 (by omega) ?_; intro v1 w1 hown1 hgrow1)
        have hB1 := hBr.grown hgrow1 hsz0 (unhide hge0)
        have hown1' : w1.ownsRow w.heap.size 5 1 v1 (o ++ [46]).length ((nums (o ++ [46])).map (Value.int .u8)) := by
          rw [List.length_append, nums_append]; exact hown1
        obtain ⟨o2, ho2⟩ : ∃ o2, o2 = o ++ [46] := ⟨_, rfl⟩
        rw [← ho2] at hown1' HNX
        have hl2 : o2.length = o.length + 1 := by rw [ho2]; simp
        have hfit2 : o2.length + s.size ≤ 4194304 := by omega
        clear ho2 hown1 hgrow1 hown hfit hl2
        go_loopw [3, 7] (fun p sj wr2 => ∃ (j : Nat), j ≤ s.size ∧ sj = .int .i64 j ∧ wr2.ownsRow w.heap.size 5 1 p (o2.length + j) ((nums (o2 ++ s.toList.take j)).map (Value.int .u8)) ∧ Below w.heap.size w wr2) (fun _ sj _ => s.size - (intOf sj).toNat)
        case atStart => exact ⟨0, Nat.zero_le _, rfl, by simpa using hown1', hB1⟩
        case round =>
          clear hown1' hB1 hBr
          obtain ⟨j, hj, rfl, hown2, hB2⟩ := hrel
          by_cases hjs : j < s.size
          case pos =>
            have HSN := hide (take_snocB s j hjs)
            have hge := hide (own_geJ hown2 (Nat.le_refl _))
            have hsz2 := hB2.size
            go_wp2_with (at_builtin; refine wpList_appJ _ _ rfl (.tmp 31) (.tmp 35) rfl w.heap.size u3 (o2.length + j) (nums (o2 ++ s.toList.take j)) [(s[j].toNat : Int)] 1 rfl hown2 _ rfl rfl rfl rfl hsz2 (by omega) ?_; intro v' w5 hown5 hgrow5)
            go_roundw
            case rel => exact ⟨j + 1, by omega, by go_num, by rw [unhide HSN, ← List.append_assoc, nums_append]; exact hown5, hB2.grown hgrow5 hsz2 (unhide hge)⟩
            case measure => simp [intOf]; omega
          case neg =>
            have hjs' : j = s.size := by omega
            have HTK : Hid (s.toList.take j = s.toList) := hide (List.take_of_length_le (by rw [size_toList]; omega))
            go_wp2
            go_roundw
            case rel => exact ⟨i + 1, true, o2 ++ s.toList, by omega, by go_num, rfl, by have := hown2; rw [unhide HTK, hjs'] at this; rw [List.length_append, size_toList]; exact this, hB2, unhide HNX⟩
            case measure => simp [intOf]; omega
end Go.Proofs.Qxb6605331a
