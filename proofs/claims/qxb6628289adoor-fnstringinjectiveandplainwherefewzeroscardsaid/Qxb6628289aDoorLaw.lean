import Derived.Test.Qxb6628289aDoorOne
namespace Go.Proofs.Qxb6628289aDoor
open Go.RowKit

theorem text_len (a : Bool) (s : ByteArray) (x : Int) (hs : s.size ≤ 1048576) (hx : -9223372036854775808 + (s.size : Int) < x) (hx1 : x ≤ 9223372036854775807) : (Nm.text a s.data.toList x).length ≤ 1048640 := by
  have hl := list_size s
  unfold Nm.text
  split
  · simp
  have h1 : (Nm.sgn a).length ≤ 1 := by cases a <;> simp [Nm.sgn]
  have h2 : (Nm.body s.data.toList x).length ≤ 1048576 + 60 := by
    unfold Nm.body
    split
    · simp; omega
    split
    · simp; omega
    split
    · simp; omega
    · have := itoa_len (x - s.data.toList.length) (by omega) (by omega)
      simp only [List.length_append, List.length_cons]
      omega
  rw [List.length_append]
  omega

theorem bytes_toList (u : ByteArray) : u.toList = u.data.toList := ByteArray.toList_eq u

theorem below_trans {a b c : World} (h : Below a.heap.size a b) (h' : Below b.heap.size b c) : Below a.heap.size a c := h.trans (h'.mono h.size)
theorem below_drewN {a b : World} (h : Below a.heap.size a b) (q : Nat) : Below a.heap.size a (b.drewN q) := ⟨h.os, h.tape, h.output, h.size, h.block⟩

set_option maxRecDepth 100000 in
set_option maxHeartbeats 1000000 in
theorem law3 (s : ByteArray) (x : Int) (w : World) (hs : s.size ≤ maxLen) (_hx0 : -9223372036854775808 ≤ x) (hx1 : x ≤ 9223372036854775807) (ht : Lib.TabIs Tryd.prog w Tryd.powName .u64 Lib.pow10Tab) :
    Calls Tryd.prog 3 #[.string s, .int .i64 x] w fun e w' => e = .returned (.bool true) ∧ Below w.heap.size w w' := by
  have HT : Hid (Lib.TabIs Tryd.prog w Tryd.powName .u64 Lib.pow10Tab) := ht
  clear ht
  go_enter Tryd.func3, Tryd.ntmps3
  go_wp2_with fail
  refine (bytes1_any s x w hs).mono ?_
  rintro e w1 ⟨b, rfl, hb, rfl⟩
  cases b
  · clear hb
    go_wp2_with fail
    go_ret
    exact ⟨rfl, Below.refl _ _⟩
  have hle : s.size ≤ 1048576 := hb rfl
  clear hb
  go_wp2_with fail
  refine (canon_any s w1 hs).mono ?_
  rintro e w2 ⟨b, rfl, hb, rfl⟩
  cases b
  · clear hb
    go_wp2_with fail
    go_ret
    exact ⟨rfl, Below.refl _ _⟩
  have HC : Hid (Nm.canon s.data.toList = true) := hb rfl
  clear hb
  by_cases h0 : s.size = 0
  · have hl : s.data.toList = [] := List.eq_nil_of_length_eq_zero (by simpa using h0)
    have hss : s = S [] := by rw [S_of s, hl]
    subst hss
    go_wp2_with fail
    refine (new_any false (S []) x w2).mono ?_
    rintro e w3 ⟨rfl, hb3⟩
    go_wp2_with fail
    refine (string_zero false (S []) x w3 rfl).mono ?_
    rintro e w4 ⟨rfl, hb4⟩
    go_wp2_with fail
    refine (new_any true (S []) x w4).mono ?_
    rintro e w5 ⟨rfl, hb5⟩
    go_wp2_with fail
    refine (string_zero true (S []) x w5 rfl).mono ?_
    rintro e w6 ⟨rfl, hb6⟩
    have hz : ∀ a, Nm.text a (S []).data.toList x = [48] := fun a => rfl
    rw [hz true]
    go_wp2_with fail
    go_ret
    exact ⟨rfl, below_trans hb3 (below_trans hb4 (below_trans hb5 hb6))⟩
  · have h0' : 0 < s.size := by omega
    have hd := dg_of HC.out h0' hle
    have hne := (not_empty h0').1
    by_cases hg : x ≤ -9223372036854775808 + (s.size : Int)
    · go_wp2_with fail
      go_ret
      exact ⟨rfl, Below.refl _ _⟩
    have hg' : -9223372036854775808 + (s.size : Int) < x := by omega
    have hpl : (S (Nm.text false s.data.toList x)).size ≤ 1048640 := by rw [S_size]; exact text_len _ _ _ hle (by omega) hx1
    go_wp2_with fail
    refine (new_any false s x w2).mono ?_
    rintro e w3 ⟨rfl, hb3⟩
    have HT3 := tab_below HT.out hb3
    go_wp2_with fail
    refine (text_any false s x w3 hle (fun _ => hg') hx1 HT3).mono ?_
    rintro e w4 ⟨rfl, hb4⟩
    have HT4 := tab_below HT3 hb4
    clear HT3
    go_wp2_with fail
    refine (new_any true s x w4).mono ?_
    rintro e w5 ⟨rfl, hb5⟩
    have HT5 := tab_below HT4 hb5
    clear HT4
    go_wp2_with fail
    refine (text_any true s x w5 hle (fun _ => hg') hx1 HT5).mono ?_
    rintro e w6 ⟨rfl, hb6⟩
    clear HT5
    have HR : Hid (∀ w, Calls Tryd.prog 9 #[.string (S (Nm.text false s.data.toList x))] w fun e w' =>
      e = .returned (.tuple #[.bool false, .string s, .int .i64 x, .bool (decide (16 < zeros s.size x)), .bool true]) ∧ ∃ q, w' = w.drewN q) := fun w => rb_any false s x w hd hg' hx1
    have HN : S (Nm.text true s.data.toList x) = S [45] ++ S (Nm.text false s.data.toList x) := by
      have : Nm.text true s.data.toList x = 45 :: Nm.text false s.data.toList x := by
        unfold Nm.text
        rw [(not_empty h0').2]; rfl
      refine eq_of_list ?_
      rw [Joins.data_append, S_list, S_list, S_list, this]; rfl
    rw [HN]
    clear HN
    generalize S (Nm.text false s.data.toList x) = p at HR hpl ⊢
    go_wp2_with fail
    refine (HR.out w6).mono ?_
    rintro e w7 ⟨rfl, q, rfl⟩
    go_wp2_with fail
    go_ret
    exact ⟨rfl, below_trans hb3 (below_trans hb4 (below_trans hb5 (below_drewN hb6 q)))⟩

set_option maxRecDepth 100000 in
set_option maxHeartbeats 2000000 in
theorem law4 (a : Bool) (s : ByteArray) (x : Int) (b : Bool) (t : ByteArray) (y : Int) (w : World) (hs : s.size ≤ maxLen) (ht : t.size ≤ maxLen) (hx0 : -9223372036854775808 ≤ x) (hx1 : x ≤ 9223372036854775807) (hy0 : -9223372036854775808 ≤ y) (hy1 : y ≤ 9223372036854775807) (htab : Lib.TabIs Tryd.prog w Tryd.powName .u64 Lib.pow10Tab) :
    Calls Tryd.prog 4 #[.bool a, .string s, .int .i64 x, .bool b, .string t, .int .i64 y] w fun e w' => e = .returned (.bool true) ∧ Below w.heap.size w w' := by
  have HT : Hid (Lib.TabIs Tryd.prog w Tryd.powName .u64 Lib.pow10Tab) := htab
  clear htab
  go_enter Tryd.func4, Tryd.ntmps4
  go_wp2_with fail
  refine (bytes2_any a s x b t y w hs ht).mono ?_
  rintro e w1 ⟨r, rfl, hb, rfl⟩
  cases r
  · clear hb
    go_wp2_with fail
    go_ret
    exact ⟨rfl, Below.refl _ _⟩
  have hle : s.size + t.size ≤ 1048576 := hb rfl
  clear hb
  have hl1 : ¬ (1048576 : Int) < (s.size : Int) := by omega
  have hl2 : ¬ (1048576 : Int) - (s.size : Int) < (t.size : Int) := by omega
  have hsl : s.size ≤ 1048576 := by omega
  have htl : t.size ≤ 1048576 := by omega
  go_wp2_with fail
  refine (canon_any s w1 hs).mono ?_
  rintro e w2 ⟨r, rfl, hb, rfl⟩
  cases r
  · clear hb
    go_wp2_with fail
    go_ret
    exact ⟨rfl, Below.refl _ _⟩
  have HC : Hid (Nm.canon s.data.toList = true) := hb rfl
  clear hb
  go_wp2_with fail
  refine (canon_any t w2 ht).mono ?_
  rintro e w3 ⟨r, rfl, hb, rfl⟩
  cases r
  · clear hb
    go_wp2_with fail
    go_ret
    exact ⟨rfl, Below.refl _ _⟩
  have HC2 : Hid (Nm.canon t.data.toList = true) := hb rfl
  clear hb
  have EMP : ∀ {u : ByteArray}, u.size = 0 → u = S [] := fun {u} h => by
    have hl : u.data.toList = [] := List.eq_nil_of_length_eq_zero (by simpa using h)
    rw [S_of u, hl]
  have HZ : ∀ a x, Nm.text a (S []).data.toList x = [48] := fun _ _ => rfl
  by_cases h0 : s.size = 0
  · have hss : s = S [] := EMP h0
    subst hss
    by_cases h0t : t.size = 0
    · have hts : t = S [] := EMP h0t
      subst hts
      go_wp2_with fail
      refine (new_any a (S []) x w3).mono ?_
      rintro e w4 ⟨rfl, hb4⟩
      have HT4 := tab_below HT.out hb4
      go_wp2_with fail
      refine (text_any a (S []) x w4 (Nat.zero_le _) (fun h => absurd h (by decide)) hx1 HT4).mono ?_
      rintro e w5 ⟨rfl, hb5⟩
      have HT5 := tab_below HT4 hb5
      clear HT4
      go_wp2_with fail
      refine (new_any b (S []) y w5).mono ?_
      rintro e w6 ⟨rfl, hb6⟩
      have HT6 := tab_below HT5 hb6
      clear HT5
      go_wp2_with fail
      refine (text_any b (S []) y w6 (Nat.zero_le _) (fun h => absurd h (by decide)) hy1 HT6).mono ?_
      rintro e w7 ⟨rfl, hb7⟩
      clear HT6
      have HB : Below w3.heap.size w3 w7 := below_trans hb4 (below_trans hb5 (below_trans hb6 hb7))
      clear hb4 hb5 hb6 hb7
      rw [HZ]
      go_wp2_with fail
      go_ret
      exact ⟨rfl, HB⟩
    · have h0' : 0 < t.size := by omega
      have hd := dg_of HC2.out h0' htl
      have hne := (not_empty h0').1
      by_cases hg : y ≤ -9223372036854775808 + (t.size : Int)
      · go_wp2_with fail
        go_ret
        exact ⟨rfl, Below.refl _ _⟩
      have hg' : -9223372036854775808 + (t.size : Int) < y := by omega
      have hnz : ([48] == (S (Nm.text b t.data.toList y)).toList) = false := by
        refine beq_eq_false_iff_ne.2 fun h => text_not_zero (a := b) (x := y) hd ?_
        rw [bytes_toList, S_list] at h
        exact h.symm
      go_wp2_with fail
      refine (new_any a (S []) x w3).mono ?_
      rintro e w4 ⟨rfl, hb4⟩
      have HT4 := tab_below HT.out hb4
      go_wp2_with fail
      refine (text_any a (S []) x w4 (Nat.zero_le _) (fun h => absurd h (by decide)) hx1 HT4).mono ?_
      rintro e w5 ⟨rfl, hb5⟩
      have HT5 := tab_below HT4 hb5
      clear HT4
      go_wp2_with fail
      refine (new_any b t y w5).mono ?_
      rintro e w6 ⟨rfl, hb6⟩
      have HT6 := tab_below HT5 hb6
      clear HT5
      go_wp2_with fail
      refine (text_any b t y w6 htl (fun _ => hg') hy1 HT6).mono ?_
      rintro e w7 ⟨rfl, hb7⟩
      clear HT6
      have HB : Below w3.heap.size w3 w7 := below_trans hb4 (below_trans hb5 (below_trans hb6 hb7))
      clear hb4 hb5 hb6 hb7
      generalize S (Nm.text b t.data.toList y) = q at hnz ⊢
      go_wp2_with fail
      go_ret
      exact ⟨rfl, HB⟩
  · have h0' : 0 < s.size := by omega
    have hd := dg_of HC.out h0' hsl
    have hne := (not_empty h0').1
    by_cases hg : x ≤ -9223372036854775808 + (s.size : Int)
    · go_wp2_with fail
      go_ret
      exact ⟨rfl, Below.refl _ _⟩
    have hg' : -9223372036854775808 + (s.size : Int) < x := by omega
    have HR : Hid (∀ w, Calls Tryd.prog 9 #[.string (S (Nm.text a s.data.toList x))] w fun e w' =>
      e = .returned (.tuple #[.bool a, .string s, .int .i64 x, .bool (decide (16 < zeros s.size x)), .bool true]) ∧ ∃ q, w' = w.drewN q) := fun w => rb_any a s x w hd hg' hx1
    by_cases h0t : t.size = 0
    · have hts : t = S [] := EMP h0t
      subst hts
      have hnz : ((S (Nm.text a s.data.toList x)).toList == [48]) = false := by
        refine beq_eq_false_iff_ne.2 fun h => text_not_zero (a := a) (x := x) hd ?_
        rw [bytes_toList, S_list] at h
        exact h
      have hst : (s.toList == []) = false := by
        refine beq_eq_false_iff_ne.2 fun h => ?_
        rw [h] at hne
        cases hne
      have hst' : s ≠ S [] := fun h => by
        rw [h] at h0
        exact h0 rfl
      go_wp2_with fail
      refine (new_any a s x w3).mono ?_
      rintro e w4 ⟨rfl, hb4⟩
      have HT4 := tab_below HT.out hb4
      go_wp2_with fail
      refine (text_any a s x w4 hsl (fun _ => hg') hx1 HT4).mono ?_
      rintro e w5 ⟨rfl, hb5⟩
      have HT5 := tab_below HT4 hb5
      clear HT4
      go_wp2_with fail
      refine (new_any b (S []) y w5).mono ?_
      rintro e w6 ⟨rfl, hb6⟩
      have HT6 := tab_below HT5 hb6
      clear HT5
      go_wp2_with fail
      refine (text_any b (S []) y w6 (Nat.zero_le _) (fun h => absurd h (by decide)) hy1 HT6).mono ?_
      rintro e w7 ⟨rfl, hb7⟩
      clear HT6
      have HB : Below w3.heap.size w3 w7 := below_trans hb4 (below_trans hb5 (below_trans hb6 hb7))
      clear hb4 hb5 hb6 hb7
      generalize S (Nm.text a s.data.toList x) = p at HR hnz ⊢
      by_cases hab : a = b
      · subst hab
        go_wp2_with fail
        refine (HR.out w7).mono ?_
        rintro e w8 ⟨rfl, q, rfl⟩
        go_wp2_with fail
        refine (zeros_any s x (w7.drewN q) hsl (by omega) hx1).mono ?_
        rintro e w9 ⟨rfl, rfl⟩
        go_wp2_with fail
        go_ret
        exact ⟨rfl, below_drewN HB q⟩
      · have hab' : (a == b) = false := beq_eq_false_iff_ne.2 hab
        go_wp2_with fail
        refine (HR.out w7).mono ?_
        rintro e w8 ⟨rfl, q, rfl⟩
        go_wp2_with fail
        refine (zeros_any s x (w7.drewN q) hsl (by omega) hx1).mono ?_
        rintro e w9 ⟨rfl, rfl⟩
        go_wp2_with fail
        go_ret
        exact ⟨rfl, below_drewN HB q⟩
    · have h0t' : 0 < t.size := by omega
      have hdt := dg_of HC2.out h0t' htl
      have hnet := (not_empty h0t').1
      by_cases hgt : y ≤ -9223372036854775808 + (t.size : Int)
      · go_wp2_with fail
        go_ret
        exact ⟨rfl, Below.refl _ _⟩
      have hgt' : -9223372036854775808 + (t.size : Int) < y := by omega
      by_cases hsame : a = b ∧ s = t ∧ x = y
      · obtain ⟨rfl, rfl, rfl⟩ := hsame
        go_wp2_with fail
        refine (new_any a s x w3).mono ?_
        rintro e w4 ⟨rfl, hb4⟩
        have HT4 := tab_below HT.out hb4
        go_wp2_with fail
        refine (text_any a s x w4 hsl (fun _ => hg') hx1 HT4).mono ?_
        rintro e w5 ⟨rfl, hb5⟩
        have HT5 := tab_below HT4 hb5
        clear HT4
        go_wp2_with fail
        refine (new_any a s x w5).mono ?_
        rintro e w6 ⟨rfl, hb6⟩
        have HT6 := tab_below HT5 hb6
        clear HT5
        go_wp2_with fail
        refine (text_any a s x w6 hsl (fun _ => hg') hx1 HT6).mono ?_
        rintro e w7 ⟨rfl, hb7⟩
        clear HT6
        have HB : Below w3.heap.size w3 w7 := below_trans hb4 (below_trans hb5 (below_trans hb6 hb7))
        clear hb4 hb5 hb6 hb7
        generalize S (Nm.text a s.data.toList x) = p at HR ⊢
        go_wp2_with fail
        refine (HR.out w7).mono ?_
        rintro e w8 ⟨rfl, q, rfl⟩
        go_wp2_with fail
        refine (zeros_any s x (w7.drewN q) hsl (by omega) hx1).mono ?_
        rintro e w9 ⟨rfl, rfl⟩
        go_wp2_with fail
        go_ret
        exact ⟨rfl, below_drewN HB q⟩
      · have hpq : ((S (Nm.text a s.data.toList x)).toList == (S (Nm.text b t.data.toList y)).toList) = false := by
          refine beq_eq_false_iff_ne.2 fun h => hsame ?_
          rw [bytes_toList, bytes_toList, S_list, S_list] at h
          exact text_inj w3 hd hdt hg' hx1 hgt' hy1 h
        have hpq' : S (Nm.text a s.data.toList x) ≠ S (Nm.text b t.data.toList y) := fun h => by
          rw [h] at hpq
          simp at hpq
        have HS : Hid (¬ (a = b ∧ s = t ∧ x = y)) := hsame
        clear hsame
        by_cases hab : a = b
        · by_cases hst : s = t
          · have hxy : x ≠ y := fun h => HS.out ⟨hab, hst, h⟩
            subst hab
            subst hst
            have hxy' : (x == y) = false := beq_eq_false_iff_ne.2 hxy
            go_wp2_with fail
            refine (new_any a s x w3).mono ?_
            rintro e w4 ⟨rfl, hb4⟩
            have HT4 := tab_below HT.out hb4
            go_wp2_with fail
            refine (text_any a s x w4 hsl (fun _ => hg') hx1 HT4).mono ?_
            rintro e w5 ⟨rfl, hb5⟩
            have HT5 := tab_below HT4 hb5
            clear HT4
            go_wp2_with fail
            refine (new_any a s y w5).mono ?_
            rintro e w6 ⟨rfl, hb6⟩
            have HT6 := tab_below HT5 hb6
            clear HT5
            go_wp2_with fail
            refine (text_any a s y w6 hsl (fun _ => hgt') hy1 HT6).mono ?_
            rintro e w7 ⟨rfl, hb7⟩
            clear HT6
            have HB : Below w3.heap.size w3 w7 := below_trans hb4 (below_trans hb5 (below_trans hb6 hb7))
            clear hb4 hb5 hb6 hb7
            generalize S (Nm.text a s.data.toList x) = p at HR hpq hpq' ⊢
            generalize S (Nm.text a s.data.toList y) = pq at hpq hpq' ⊢
            go_wp2_with fail
            refine (HR.out w7).mono ?_
            rintro e w8 ⟨rfl, q, rfl⟩
            go_wp2_with fail
            refine (zeros_any s x (w7.drewN q) hsl (by omega) hx1).mono ?_
            rintro e w9 ⟨rfl, rfl⟩
            go_wp2_with fail
            go_ret
            exact ⟨rfl, below_drewN HB q⟩
          · have hst' : (s.toList == t.toList) = false := by
              refine beq_eq_false_iff_ne.2 fun h => hst ?_
              rw [bytes_toList, bytes_toList] at h
              exact eq_of_list h
            subst hab
            go_wp2_with fail
            refine (new_any a s x w3).mono ?_
            rintro e w4 ⟨rfl, hb4⟩
            have HT4 := tab_below HT.out hb4
            go_wp2_with fail
            refine (text_any a s x w4 hsl (fun _ => hg') hx1 HT4).mono ?_
            rintro e w5 ⟨rfl, hb5⟩
            have HT5 := tab_below HT4 hb5
            clear HT4
            go_wp2_with fail
            refine (new_any a t y w5).mono ?_
            rintro e w6 ⟨rfl, hb6⟩
            have HT6 := tab_below HT5 hb6
            clear HT5
            go_wp2_with fail
            refine (text_any a t y w6 htl (fun _ => hgt') hy1 HT6).mono ?_
            rintro e w7 ⟨rfl, hb7⟩
            clear HT6
            have HB : Below w3.heap.size w3 w7 := below_trans hb4 (below_trans hb5 (below_trans hb6 hb7))
            clear hb4 hb5 hb6 hb7
            generalize S (Nm.text a s.data.toList x) = p at HR hpq hpq' ⊢
            generalize S (Nm.text a t.data.toList y) = pq at hpq hpq' ⊢
            go_wp2_with fail
            refine (HR.out w7).mono ?_
            rintro e w8 ⟨rfl, q, rfl⟩
            go_wp2_with fail
            refine (zeros_any s x (w7.drewN q) hsl (by omega) hx1).mono ?_
            rintro e w9 ⟨rfl, rfl⟩
            go_wp2_with fail
            go_ret
            exact ⟨rfl, below_drewN HB q⟩
        · have hab' : (a == b) = false := beq_eq_false_iff_ne.2 hab
          go_wp2_with fail
          refine (new_any a s x w3).mono ?_
          rintro e w4 ⟨rfl, hb4⟩
          have HT4 := tab_below HT.out hb4
          go_wp2_with fail
          refine (text_any a s x w4 hsl (fun _ => hg') hx1 HT4).mono ?_
          rintro e w5 ⟨rfl, hb5⟩
          have HT5 := tab_below HT4 hb5
          clear HT4
          go_wp2_with fail
          refine (new_any b t y w5).mono ?_
          rintro e w6 ⟨rfl, hb6⟩
          have HT6 := tab_below HT5 hb6
          clear HT5
          go_wp2_with fail
          refine (text_any b t y w6 htl (fun _ => hgt') hy1 HT6).mono ?_
          rintro e w7 ⟨rfl, hb7⟩
          clear HT6
          have HB : Below w3.heap.size w3 w7 := below_trans hb4 (below_trans hb5 (below_trans hb6 hb7))
          clear hb4 hb5 hb6 hb7
          generalize S (Nm.text a s.data.toList x) = p at HR hpq hpq' ⊢
          generalize S (Nm.text b t.data.toList y) = pq at hpq hpq' ⊢
          go_wp2_with fail
          refine (HR.out w7).mono ?_
          rintro e w8 ⟨rfl, q, rfl⟩
          go_wp2_with fail
          refine (zeros_any s x (w7.drewN q) hsl (by omega) hx1).mono ?_
          rintro e w9 ⟨rfl, rfl⟩
          go_wp2_with fail
          go_ret
          exact ⟨rfl, below_drewN HB q⟩
end Go.Proofs.Qxb6628289aDoor
