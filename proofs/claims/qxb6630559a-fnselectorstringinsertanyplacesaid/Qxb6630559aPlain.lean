/-
  The text of a selector, plainly. By an AI agent.
-/
import Derived.Test.Qxb6630559aText
namespace Go.Proofs.Qxb6630559a
open Go.RowKit

def tailOf (R : List Rq) : List UInt8 := (R.map fun r => 44 :: pc r).flatten
theorem textOf_nil : textOf [] = [] := rfl
theorem textOf_cons (x : Rq) (R : List Rq) : textOf (x :: R) = pc x ++ tailOf R := by
  unfold textOf tailOf
  rw [List.map_cons, Lib.join_cons]
  unfold Lib.joinTail
  rw [List.map_map]
  rfl
theorem tailOf_append (A B : List Rq) : tailOf (A ++ B) = tailOf A ++ tailOf B := by simp [tailOf]
theorem tailOf_cons (x : Rq) (R : List Rq) : tailOf (x :: R) = 44 :: textOf (x :: R) := by
  rw [textOf_cons]
  simp [tailOf]
theorem textOf_append {A B : List Rq} (hA : A ≠ []) (hB : B ≠ []) : textOf (A ++ B) = textOf A ++ 44 :: textOf B := by
  cases A with
  | nil => exact absurd rfl hA
  | cons x A =>
    cases B with
    | nil => exact absurd rfl hB
    | cons y B => rw [List.cons_append, textOf_cons, textOf_cons, tailOf_append, tailOf_cons, List.append_assoc]

def plens (R : List Rq) : Nat := (R.map fun r => (pc r).length).sum
theorem tailOf_len : ∀ R : List Rq, (tailOf R).length = plens R + R.length
  | [] => rfl
  | x :: R => by
    have := tailOf_len R
    simp only [tailOf, plens, List.map_cons, List.flatten_cons, List.length_append, List.length_cons, List.sum_cons] at this ⊢
    omega
theorem textOf_len {R : List Rq} (h : 0 < R.length) : (textOf R).length + 1 = plens R + R.length := by
  cases R with
  | nil => exact absurd h (by simp)
  | cons x R =>
    have := tailOf_len R
    rw [textOf_cons, List.length_append, this]
    simp only [plens, List.map_cons, List.sum_cons, List.length_cons]
    omega
theorem pc_len (r : Rq) : (pc r).length ≤ r.key.size + r.val.size + 2 := by
  unfold pc
  split
  · simp; omega
  split
  · simp; omega
  split
  · simp; omega
  · simp; omega
theorem plens_le : ∀ R : List Rq, plens R ≤ lens R + 2 * R.length
  | [] => Nat.le_refl _
  | x :: R => by
    have h1 := plens_le R
    have h2 := pc_len x
    simp only [plens, lens, List.map_cons, List.sum_cons, List.length_cons] at *
    omega
theorem textOf_le (R : List Rq) : (textOf R).length ≤ lens R + 3 * R.length := by
  cases R with
  | nil => simp [textOf_nil]
  | cons x R =>
    have := textOf_len (R := x :: R) (by simp)
    have := plens_le (x :: R)
    omega
theorem lens_append (A B : List Rq) : lens (A ++ B) = lens A + lens B := by simp [lens]
theorem lens_take (R : List Rq) (k : Nat) : lens (R.take k) ≤ lens R := by
  have := lens_append (R.take k) (R.drop k)
  rw [List.take_append_drop] at this
  omega
theorem lens_drop (R : List Rq) (k : Nat) : lens (R.drop k) ≤ lens R := by
  have := lens_append (R.take k) (R.drop k)
  rw [List.take_append_drop] at this
  omega
theorem lens_at {R : List Rq} {i : Nat} (h : i < R.length) : (R.getD i Rq.zero).key.size + (R.getD i Rq.zero).val.size ≤ lens R := by
  have h1 := lens_succ h
  have h2 := lens_take R (i + 1)
  omega
theorem plens_succ {R : List Rq} {k : Nat} (h : k < R.length) : plens (R.take (k + 1)) = plens (R.take k) + (pc (R.getD k Rq.zero)).length := by
  unfold plens
  rw [List.take_succ_eq_append_getElem h, List.map_append, List.sum_append]
  simp [List.getD_eq_getElem?_getD, h]

theorem ReqAt.take {w : World} {a : Option Addr} {R : List Rq} (h : ReqAt w a R) (k : Nat) : ReqAt w a (R.take k) := fun h0 => by
  have h1 : 0 < R.length := by simp at h0; omega
  obtain ⟨b, o, rfl, hc⟩ := h h1
  refine ⟨b, o, rfl, fun i hi => ?_⟩
  have hi2 : i < k ∧ i < R.length := by simpa [Nat.lt_min] using hi
  have e : (R.take k).getD i Rq.zero = R.getD i Rq.zero := by simp [List.getD_eq_getElem?_getD, hi2.1]
  rw [e]
  exact hc i hi2.2
theorem ReqAt.drop {w : World} {b o : Nat} {R : List Rq} (h : ReqAt w (some ⟨b, o, none⟩) R) (k : Nat) : ReqAt w (some ⟨b, o + k * 3, none⟩) (R.drop k) := fun h0 => by
  have h1 : k < R.length := by simp at h0; omega
  obtain ⟨b', o', e, hc⟩ := h (by omega)
  injection e with e
  injection e with e1 e2
  subst e1 e2
  refine ⟨b, o + k * 3, rfl, fun i hi => ?_⟩
  have hi2 : k + i < R.length := by simp at hi; omega
  have e : (R.drop k).getD i Rq.zero = R.getD (k + i) Rq.zero := by simp [List.getD_eq_getElem?_getD]
  rw [e, show o + k * 3 + i * 3 = o + (k + i) * 3 by omega]
  exact hc (k + i) hi2

/-- A selector's String, whatever part of a list it is. -/
theorem str_any (a : Option Addr) (c n : Nat) (R : List Rq) (w : World) (hn : n = R.length) (h : ReqAt w a R) (hl : 40 * R.length + lens R ≤ 1048576) :
    Calls Try.prog 8 #[.slice a n c] w fun e w' => e = .returned (.string (S (textOf R))) ∧ Below w.heap.size w w' := by
  subst hn
  refine sstring_any a c R w h (by omega) (fun i hi => ?_) ?_
  · have := lens_at hi
    exact ⟨by omega, by omega⟩
  · have := textOf_le R
    omega
theorem S_size (l : List UInt8) : (S l).size = l.length := by show l.toArray.size = _; simp
theorem below_trans {a b c : World} (h : Below a.heap.size a b) (h' : Below b.heap.size b c) : Below a.heap.size a c := h.trans (h'.mono h.size)
theorem below_drewN {a b : World} (h : Below a.heap.size a b) (q : Nat) : Below a.heap.size a (b.drewN q) := ⟨h.os, h.tape, h.output, h.size, h.block⟩
theorem drewN_below (w : World) (q : Nat) : Below w.heap.size w (w.drewN q) := below_drewN (Below.refl _ _) q
end Go.Proofs.Qxb6630559a
