/-
  The text of a decimal number and how it reads back: plain mathematics on lists of bytes: no Go in sight. By an AI agent.
-/
import Derived.Lib.ItoaNum
namespace Go.Proofs.Qxb6628289aDoor
namespace Nm

/-- A decimal digit. -/
def isD (c : UInt8) : Bool := decide (48 ≤ c.toNat) && decide (c.toNat ≤ 57)
def allD (l : List UInt8) : Bool := l.all isD
/-- Digits alone, no nought at either end. -/
def canon (d : List UInt8) : Bool := allD d && (d.isEmpty || (d.head? != some 48 && d.getLast? != some 48))

/-- What stands behind the sign. -/
def body (d : List UInt8) (e : Int) : List UInt8 :=
  if (d.length : Int) ≤ e ∧ e - d.length ≤ 16 then d ++ List.replicate (e - d.length).toNat 48
  else if 0 < e ∧ e < d.length then d.take e.toNat ++ 46 :: d.drop e.toNat
  else if e ≤ 0 ∧ -e ≤ 16 then 48 :: 46 :: (List.replicate (-e).toNat 48 ++ d)
  else d ++ 101 :: Lib.itoa (e - d.length)
def sgn (neg : Bool) : List UInt8 := if neg then [45] else []
/-- The text. -/
def text (neg : Bool) (d : List UInt8) (e : Int) : List UInt8 := if d.isEmpty then [48] else sgn neg ++ body d e

/-- The place of the first c, or -1. -/
def idx (c : UInt8) (l : List UInt8) : Int := match l.findIdx? (· == c) with | some i => (i : Int) | none => -1
/-- Not empty, all digits. -/
def digs (l : List UInt8) : Bool := !l.isEmpty && allD l
/-- The number that digits say. -/
def val (l : List UInt8) : Nat := l.foldl (fun u c => u * 10 + (c.toNat - 48)) 0

theorem allD_append (a b : List UInt8) : allD (a ++ b) = (allD a && allD b) := by simp [allD]
theorem allD_take {d : List UInt8} (h : allD d = true) (n : Nat) : allD (d.take n) = true := by
  unfold allD at *
  rw [List.all_eq_true] at *
  exact fun x hx => h x (List.mem_of_mem_take hx)
theorem allD_drop {d : List UInt8} (h : allD d = true) (n : Nat) : allD (d.drop n) = true := by
  unfold allD at *
  rw [List.all_eq_true] at *
  exact fun x hx => h x (List.mem_of_mem_drop hx)
theorem allD_rep (n : Nat) : allD (List.replicate n 48) = true := by
  unfold allD
  rw [List.all_eq_true]
  intro x hx
  rw [List.mem_replicate] at hx
  rw [hx.2]; rfl
theorem mem_allD {d : List UInt8} (h : allD d = true) {c : UInt8} (hc : c ∈ d) : 48 ≤ c.toNat ∧ c.toNat ≤ 57 := by
  unfold allD at h
  rw [List.all_eq_true] at h
  have := h c hc
  simpa [isD] using this

/-- No c among digits. -/
theorem idx_none {c : UInt8} {l : List UInt8} (h : c ∉ l) : idx c l = -1 := by
  unfold idx
  have : l.findIdx? (· == c) = none := by
    rw [List.findIdx?_eq_none_iff]
    intro x hx
    simp only [beq_eq_false_iff_ne]
    rintro rfl
    exact h hx
  rw [this]
theorem idx_at {c : UInt8} (b : List UInt8) : ∀ {a : List UInt8}, c ∉ a → idx c (a ++ c :: b) = (a.length : Int) := by
  intro a h
  unfold idx
  have : (a ++ c :: b).findIdx? (· == c) = some a.length := by
    rw [List.findIdx?_append]
    have h0 : a.findIdx? (· == c) = none := by
      rw [List.findIdx?_eq_none_iff]
      intro x hx
      simp only [beq_eq_false_iff_ne]
      rintro rfl
      exact h hx
    simp [h0, List.findIdx?_cons]
  rw [this]

theorem not_mem_allD {d : List UInt8} (h : allD d = true) {c : UInt8} (hc : c.toNat < 48 ∨ 57 < c.toNat) : c ∉ d := by
  intro hm
  have := mem_allD h hm
  omega

/-! ### Numerals -/
theorem digit_isD {u : Nat} (h : u < 10) : isD (UInt8.ofNat (48 + u)) = true := by
  have : (UInt8.ofNat (48 + u)).toNat = 48 + u := by simp; omega
  unfold isD
  rw [this]
  simp
  omega
theorem allD_one (c : UInt8) : allD [c] = isD c := by simp [allD]
theorem dec_allD : ∀ (n u : Nat), u ≤ n → allD (Lib.decDigits u) = true
  | 0, u, h => by
    rw [Lib.decDigits, dif_pos (by omega)]
    rw [allD_one]; exact digit_isD (by omega)
  | n + 1, u, h => by
    rw [Lib.decDigits]
    by_cases h1 : u < 10
    · rw [dif_pos h1, allD_one]; exact digit_isD h1
    · rw [dif_neg h1, allD_append, dec_allD n (u / 10) (by omega)]
      rw [allD_one, digit_isD (by omega)]; rfl
theorem val_append_one (l : List UInt8) (c : UInt8) : val (l ++ [c]) = val l * 10 + (c.toNat - 48) := by simp [val, List.foldl_append]
theorem dec_val : ∀ (n u : Nat), u ≤ n → val (Lib.decDigits u) = u
  | 0, u, h => by
    rw [Lib.decDigits, dif_pos (by omega)]
    have : u = 0 := by omega
    subst this; rfl
  | n + 1, u, h => by
    rw [Lib.decDigits]
    by_cases h1 : u < 10
    · rw [dif_pos h1]
      have : (UInt8.ofNat (48 + u)).toNat = 48 + u := by simp; omega
      simp only [val, List.foldl_cons, List.foldl_nil, this]
      omega
    · rw [dif_neg h1, val_append_one, dec_val n (u / 10) (by omega)]
      have : (UInt8.ofNat (48 + u % 10)).toNat = 48 + u % 10 := by simp; omega
      rw [this]; omega
theorem dec_ne (u : Nat) : Lib.decDigits u ≠ [] := by
  intro h
  have h1 := Lib.decDigits_length u
  rw [h] at h1
  have := Lib.nDigits_pos u
  simp at h1; omega
theorem dec_head : ∀ (n u : Nat), u ≤ n → 0 < u → (Lib.decDigits u).head? ≠ some 48
  | 0, u, h, h0 => by omega
  | n + 1, u, h, h0 => by
    rw [Lib.decDigits]
    by_cases h1 : u < 10
    · rw [dif_pos h1]
      have : (UInt8.ofNat (48 + u)).toNat = 48 + u := by simp; omega
      simp only [List.head?_cons, ne_eq, Option.some.injEq]
      intro e
      have := congrArg UInt8.toNat e
      simp at this; omega
    · rw [dif_neg h1, List.head?_append]
      have h2 := dec_head n (u / 10) (by omega) (by omega)
      cases hd : (Lib.decDigits (u / 10)).head? with
      | none =>
        rw [List.head?_eq_none_iff] at hd
        exact absurd hd (dec_ne _)
      | some c => rw [hd] at h2; simpa using h2
theorem pow_le_of : ∀ {k u : Nat}, Lib.nDigits u = k + 2 → 10 ^ (k + 1) ≤ u
  | 0, u, h => by
    by_cases h1 : u < 10
    · rw [Lib.nDigits_small h1] at h; omega
    · simpa using Nat.le_of_not_lt h1
  | k + 1, u, h => by
    by_cases h1 : u < 10
    · rw [Lib.nDigits_small h1] at h; omega
    · rw [Lib.nDigits_big h1] at h
      have := pow_le_of (k := k) (u := u / 10) (by omega)
      rw [Nat.pow_succ]
      omega
theorem nDigits_le {u k : Nat} (h : u < 10 ^ (k + 1)) : Lib.nDigits u ≤ k + 1 := by
  by_cases h1 : Lib.nDigits u ≤ k + 1
  · exact h1
  · have h2 : 10 ^ (k + 1) ≤ u := by
      obtain ⟨m, hm⟩ : ∃ m, Lib.nDigits u = m + 2 := ⟨Lib.nDigits u - 2, by omega⟩
      have h3 := pow_le_of (u := u) (k := m) hm
      exact Nat.le_trans (Nat.pow_le_pow_right (by decide) (by omega)) h3
    omega
/-- What an exponent's digits are: at most nineteen, no nought ahead, and they say u. -/
theorem dec_facts (u : Nat) (h : u ≤ 9223372036854775807) : allD (Lib.decDigits u) = true ∧ val (Lib.decDigits u) = u ∧ (Lib.decDigits u) ≠ [] ∧ (Lib.decDigits u).length ≤ 19 ∧ (1 < (Lib.decDigits u).length → (Lib.decDigits u).head? ≠ some 48) := by
  refine ⟨dec_allD u u (Nat.le_refl _), dec_val u u (Nat.le_refl _), dec_ne u, ?_, ?_⟩
  · rw [Lib.decDigits_length]
    exact nDigits_le (k := 18) (by have : (10 : Nat) ^ (18 + 1) = 10000000000000000000 := by decide
                                   omega)
  · intro h1
    by_cases h0 : u = 0
    · subst h0
      rw [Lib.decDigits_length, Lib.nDigits_small (by decide)] at h1
      omega
    · exact dec_head u u (Nat.le_refl _) (by omega)

end Nm
end Go.Proofs.Qxb6628289aDoor
