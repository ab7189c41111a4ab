/-
  Requirements, plainly; the small functions. By an AI agent.
-/
import Derived.Test.Qxb6630559aShelf
import Derived.WalkKit
import Derived.Below
import Derived.Deep.OwnRows
import Derived.Lib.SmallJoins
import Derived.Deep.QuietTactic
import Derived.BigQuiet
import Derived.Deep.DeepFit
import Derived.Deep.CutRange
namespace Go.Proofs.Qxb6630559a
open Go.RowKit

abbrev S (l : List UInt8) : ByteArray := ⟨l.toArray⟩
theorem S_list (l : List UInt8) : (S l).data.toList = l := by simp
theorem S_of (s : ByteArray) : s = S s.data.toList := by cases s; simp [S]

/-- A requirement: key, operator, value. -/
structure Rq where
  key : ByteArray
  op : Int
  val : ByteArray
def Rq.zero : Rq := ⟨⟨#[]⟩, 0, ⟨#[]⟩⟩
/-- As it is written. -/
def pc (r : Rq) : List UInt8 :=
  if r.op = 0 then r.key.data.toList ++ 61 :: r.val.data.toList
  else if r.op = 1 then r.key.data.toList ++ 33 :: 61 :: r.val.data.toList
  else if r.op = 3 then 33 :: r.key.data.toList
  else r.key.data.toList

theorem eq_of_list {a b : ByteArray} (h : a.data.toList = b.data.toList) : a = b := ByteArray.ext (Array.toList_inj.1 h)

theorem beq_no {x y : Int} (h : x ≠ y) : (x == y) = false := beq_eq_false_iff_ne.2 h

set_option maxHeartbeats 400000 in
theorem label_any (k v : ByteArray) (w : World) (hk : k.size ≤ 1048576) (hv : v.size ≤ 1048576) :
    Calls Try.prog 14 #[.agg #[.string k, .string v]] w fun e w' => e = .returned (.string (k ++ S [61] ++ v)) ∧ Below w.heap.size w w' := by
  go_enter Try.func14, Try.ntmps14
  go_wp2
  go_ret
  exact ⟨rfl, (Below.refl _ _).alloc (Nat.le_refl _) _⟩

set_option maxHeartbeats 1000000 in
theorem rstring_any (r : Rq) (w : World) (hk : r.key.size ≤ 1048576) (hv : r.val.size ≤ 1048576) :
    Calls Try.prog 12 #[.agg #[.string r.key, .int .i64 r.op, .string r.val]] w fun e w' => e = .returned (.string (S (pc r))) ∧ Below w.heap.size w w' := by
  obtain ⟨k, o, v⟩ := r
  unfold pc
  simp only at hk hv ⊢
  by_cases h0 : o = 0
  · subst h0
    go_enter Try.func12, Try.ntmps12
    go_wp2_with fail
    refine (label_any k v _ hk hv).mono ?_
    rintro e w1 ⟨rfl, hb⟩
    go_wp2_with fail
    go_ret
    refine ⟨?_, ((Below.refl _ _).alloc (Nat.le_refl _) _).trans (hb.mono (by simp))⟩
    show Ending.returned (Value.string (k ++ S [61] ++ v)) = _
    rw [show k ++ S [61] ++ v = S (k.data.toList ++ 61 :: v.data.toList) from eq_of_list (by simp)]
  · by_cases h1 : o = 1
    · subst h1
      go_enter Try.func12, Try.ntmps12
      go_wp2_with fail
      go_ret
      refine ⟨?_, (Below.refl _ _).alloc (Nat.le_refl _) _⟩
      show Ending.returned (Value.string (k ++ S [33, 61] ++ v)) = _
      rw [show k ++ S [33, 61] ++ v = S (k.data.toList ++ 33 :: 61 :: v.data.toList) from eq_of_list (by simp)]
    · by_cases h3 : o = 3
      · subst h3
        go_enter Try.func12, Try.ntmps12
        go_wp2_with fail
        go_ret
        refine ⟨?_, (Below.refl _ _).alloc (Nat.le_refl _) _⟩
        show Ending.returned (Value.string (S [33] ++ k)) = _
        rw [show S [33] ++ k = S (33 :: k.data.toList) from eq_of_list (by simp)]
      · have b0 := beq_no h0
        have b1 := beq_no h1
        have b3 := beq_no h3
        rw [if_neg h0, if_neg h1, if_neg h3]
        go_enter Try.func12, Try.ntmps12
        go_wp2_with fail
        go_ret
        refine ⟨?_, (Below.refl _ _).alloc (Nat.le_refl _) _⟩
        show Ending.returned (Value.string k) = Ending.returned (Value.string (S k.data.toList))
        rw [← S_of k]

set_option maxHeartbeats 1000000 in
theorem plen_any (r : Rq) (w : World) (hk : r.key.size ≤ 1048576) (hv : r.val.size ≤ 1048576) :
    Calls Try.prog 9 #[.agg #[.string r.key, .int .i64 r.op, .string r.val]] w fun e w' => e = .returned (.int .i64 ((pc r).length : Int)) ∧ Below w.heap.size w w' := by
  obtain ⟨k, o, v⟩ := r
  unfold pc
  simp only at hk hv ⊢
  by_cases h0 : o = 0
  · subst h0
    go_enter Try.func9, Try.ntmps9
    go_wp2_with fail
    go_ret
    refine ⟨?_, (Below.refl _ _).alloc (Nat.le_refl _) _⟩
    congr 2
    simp
    omega
  · by_cases h1 : o = 1
    · subst h1
      go_enter Try.func9, Try.ntmps9
      go_wp2_with fail
      go_ret
      refine ⟨?_, (Below.refl _ _).alloc (Nat.le_refl _) _⟩
      congr 2
      simp
      omega
    · by_cases h3 : o = 3
      · subst h3
        go_enter Try.func9, Try.ntmps9
        go_wp2_with fail
        go_ret
        refine ⟨?_, (Below.refl _ _).alloc (Nat.le_refl _) _⟩
        congr 2
        simp
        omega
      · have b0 := beq_no h0
        have b1 := beq_no h1
        have b3 := beq_no h3
        rw [if_neg h0, if_neg h1, if_neg h3]
        go_enter Try.func9, Try.ntmps9
        go_wp2_with fail
        go_ret
        refine ⟨?_, (Below.refl _ _).alloc (Nat.le_refl _) _⟩
        simp
end Go.Proofs.Qxb6630559a
