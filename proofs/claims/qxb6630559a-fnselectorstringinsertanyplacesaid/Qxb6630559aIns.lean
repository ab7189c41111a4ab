/-
  zzPiece, the test of length of the second law, a requirement put in. By an AI agent.
-/
import Derived.Test.Qxb6630559aPlain
namespace Go.Proofs.Qxb6630559a
open Go.RowKit

set_option maxHeartbeats 1000000 in
theorem piece_any (r : Rq) (w : World) (hk : r.key.size ≤ 1048576) (hv : r.val.size ≤ 1048576) :
    Calls Try.prog 11 #[.string r.key, .int .i64 r.op, .string r.val] w fun e w' => e = .returned (.string (S (pc r))) ∧ w' = w := by
  obtain ⟨k, o, v⟩ := r
  unfold pc
  simp only at hk hv ⊢
  by_cases h0 : o = 0
  · subst h0
    go_enter Try.func11, Try.ntmps11
    go_wp2_with fail
    go_ret
    refine ⟨?_, rfl⟩
    show Ending.returned (Value.string (k ++ S [61] ++ v)) = _
    rw [show k ++ S [61] ++ v = S (k.data.toList ++ 61 :: v.data.toList) from eq_of_list (by simp)]
  · by_cases h1 : o = 1
    · subst h1
      go_enter Try.func11, Try.ntmps11
      go_wp2_with fail
      go_ret
      refine ⟨?_, rfl⟩
      show Ending.returned (Value.string (k ++ S [33, 61] ++ v)) = _
      rw [show k ++ S [33, 61] ++ v = S (k.data.toList ++ 33 :: 61 :: v.data.toList) from eq_of_list (by simp)]
    · by_cases h3 : o = 3
      · subst h3
        go_enter Try.func11, Try.ntmps11
        go_wp2_with fail
        go_ret
        refine ⟨?_, rfl⟩
        show Ending.returned (Value.string (S [33] ++ k)) = _
        rw [show S [33] ++ k = S (33 :: k.data.toList) from eq_of_list (by simp)]
      · have b0 := beq_no h0
        have b1 := beq_no h1
        have b3 := beq_no h3
        rw [if_neg h0, if_neg h1, if_neg h3]
        go_enter Try.func11, Try.ntmps11
        go_wp2_with fail
        go_ret
        refine ⟨?_, rfl⟩
        show Ending.returned (Value.string k) = Ending.returned (Value.string (S k.data.toList))
        rw [← S_of k]

set_option maxRecDepth 100000 in
set_option maxHeartbeats 1000000 in
theorem bytes2_any (a : Option Addr) (cap : Nat) (R : List Rq) (x : Int) (key : ByteArray) (op : Int) (val : ByteArray) (w : World) (h : ReqAt w a R) (hl : R.length ≤ maxLen) (hz : ∀ i, i < R.length → (R.getD i Rq.zero).key.size ≤ maxLen ∧ (R.getD i Rq.zero).val.size ≤ maxLen)
    (hk : key.size ≤ maxLen) (hv : val.size ≤ maxLen) :
    Calls Try.prog 10 #[.slice a R.length cap, .int .i64 x, .string key, .int .i64 op, .string val] w (Says True w) := by
  unfold maxLen at hl hz hk hv
  by_cases h1 : 1048576 < R.length
  · clear hz h
    go_enter Try.func10, Try.ntmps10
    go_wp2
    go_ret
    exact Says.no rfl ⟨0, rfl⟩
  · go_enter Try.func10, Try.ntmps10
    go_wp2_with fail
    go_loop [11, 12] (fun z i => ∃ (k : Nat) (n : Int), k ≤ R.length ∧ i = .int .i64 k ∧ z = .int .i64 n ∧ 0 ≤ n ∧ n ≤ 1048576) (fun _ i => R.length - (intOf i).toNat)
    case atStart => exact ⟨0, _, Nat.zero_le _, rfl, rfl, by omega, by omega⟩
    case round =>
      obtain ⟨k, n, hk1, rfl, rfl, hn0, hn1⟩ := hrel
      by_cases hlt : k < R.length
      · obtain ⟨b, o, rfl, hc⟩ := h (by omega)
        obtain ⟨c0, c1, c2⟩ := hc k hlt
        obtain ⟨z0, z2⟩ := hz k hlt
        generalize R.getD k Rq.zero = r at c0 c1 c2 z0 z2
        obtain ⟨ky, op', vl⟩ := r
        simp only at c0 c1 c2 z0 z2
        clear hc hz h
        by_cases t0 : 1048576 < ky.size
        · go_wp2
          go_ret
          exact Says.no rfl ⟨0, rfl⟩
        by_cases t1 : 1048576 < n + (ky.size : Int)
        · go_wp2
          go_ret
          exact Says.no rfl ⟨0, rfl⟩
        by_cases t2 : 1048576 < vl.size
        · go_wp2
          go_ret
          exact Says.no rfl ⟨0, rfl⟩
        by_cases t3 : 1048576 < n + (ky.size : Int) + (vl.size : Int)
        · go_wp2
          go_ret
          exact Says.no rfl ⟨0, rfl⟩
        go_wp2
        go_round
        case rel => exact ⟨k + 1, _, by omega, by go_num, rfl, by omega, by omega⟩
        case measure => simp [intOf]; omega
      · clear hz h
        by_cases t0 : 1048576 < key.size
        · go_wp2
          go_ret
          exact Says.no rfl ⟨0, rfl⟩
        by_cases t1 : 1048576 < n + (key.size : Int)
        · go_wp2
          go_ret
          exact Says.no rfl ⟨0, rfl⟩
        by_cases t2 : 1048576 < val.size
        · go_wp2
          go_ret
          exact Says.no rfl ⟨0, rfl⟩
        by_cases t3 : 1048576 < n + (key.size : Int) + (val.size : Int)
        · go_wp2
          go_ret
          exact Says.no rfl ⟨0, rfl⟩
        go_wp2
        go_ret
        exact Says.yes rfl trivial ⟨0, rfl⟩

/-- A requirement put in at place i. -/
def ins (R : List Rq) (i : Nat) (r : Rq) : List Rq := R.take i ++ r :: R.drop i
theorem ins_len {R : List Rq} {i : Nat} (r : Rq) (h : i ≤ R.length) : (ins R i r).length = R.length + 1 := by
  unfold ins
  simp
  omega
theorem ins_lo {R : List Rq} {i j : Nat} (r : Rq) (h : i ≤ R.length) (hj : j < i) : (ins R i r).getD j Rq.zero = R.getD j Rq.zero := by
  unfold ins
  rw [List.getD_eq_getElem?_getD, List.getElem?_append_left (by simp; omega), List.getElem?_take, if_pos hj, List.getD_eq_getElem?_getD]
theorem ins_at {R : List Rq} {i : Nat} (r : Rq) (h : i ≤ R.length) : (ins R i r).getD i Rq.zero = r := by
  have hl : (R.take i).length = i := by simp; omega
  unfold ins
  rw [List.getD_eq_getElem?_getD, List.getElem?_append_right (by omega), hl, Nat.sub_self]
  rfl
theorem ins_hi {R : List Rq} {i j : Nat} (r : Rq) (h : i ≤ R.length) (hj : i ≤ j) : (ins R i r).getD (j + 1) Rq.zero = R.getD j Rq.zero := by
  have hl : (R.take i).length = i := by simp; omega
  unfold ins
  rw [List.getD_eq_getElem?_getD, List.getElem?_append_right (by omega), hl, show j + 1 - i = (j - i) + 1 by omega, List.getElem?_cons_succ, List.getElem?_drop, show i + (j - i) = j by omega, List.getD_eq_getElem?_getD]
theorem ins_lens {R : List Rq} {i : Nat} (r : Rq) : lens (ins R i r) = lens R + (r.key.size + r.val.size) := by
  have h1 := lens_append (R.take i) (R.drop i)
  rw [List.take_append_drop] at h1
  unfold ins
  rw [lens_append, h1]
  simp only [lens, List.map_cons, List.sum_cons]
  omega
theorem text_ins {R : List Rq} {i : Nat} (r : Rq) (h : i ≤ R.length) : textOf (ins R i r) =
    (if 0 < i then textOf (R.take i) ++ [44] else textOf (R.take i)) ++ pc r ++ (if i < R.length then 44 :: textOf (R.drop i) else []) := by
  have h1 : textOf (r :: R.drop i) = pc r ++ (if i < R.length then 44 :: textOf (R.drop i) else []) := by
    by_cases hi : i < R.length
    · rw [if_pos hi]
      have : R.drop i ≠ [] := fun h => by
        have := congrArg List.length h
        rw [List.length_drop, List.length_nil] at this
        omega
      exact textOf_append (A := [r]) (by simp) this |>.trans (by rw [textOf_cons]; simp [tailOf])
    · rw [if_neg hi, List.drop_of_length_le (by omega), textOf_cons]
      rfl
  unfold ins
  by_cases hi : 0 < i
  · rw [if_pos hi]
    have : R.take i ≠ [] := fun h => by
      have := congrArg List.length h
      rw [List.length_take, List.length_nil] at this
      omega
    rw [textOf_append this (by simp), h1]
    simp
  · obtain rfl : i = 0 := by omega
    rw [if_neg hi, List.take_zero, List.nil_append, h1, textOf_nil, List.nil_append]
end Go.Proofs.Qxb6630559a
