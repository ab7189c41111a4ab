import Derived.Test.Qxb6628289aDoorText
import Derived.Deep.QuietTactic
import Derived.BigQuiet
import Derived.Lib.SmallJoins
namespace Go.Proofs.Qxb6628289aDoor
open Go.RowKit

theorem text_any (a : Bool) (s : ByteArray) (x : Int) (w : World) (hs : s.size ≤ 1048576) (hx : 0 < s.size → -9223372036854775808 + (s.size : Int) < x) (hx1 : x ≤ 9223372036854775807) (ht : Lib.TabIs Tryd.prog w Tryd.powName .u64 Lib.pow10Tab) :
    Calls Tryd.prog 8 #[.agg #[.bool a, .string s, .int .i64 x]] w fun e w' => e = .returned (.string (S (Nm.text a s.data.toList x))) ∧ Below w.heap.size w w' := by
  by_cases h0 : s.size = 0
  · exact string_zero a s x w h0
  have h0' : 0 < s.size := by omega
  have hT : Nm.text a s.data.toList x = Nm.sgn a ++ Nm.body s.data.toList x := by
    unfold Nm.text
    rw [(not_empty h0').2]; rfl
  rw [hT]
  by_cases h1 : (s.size : Int) ≤ x ∧ x - s.size ≤ 16
  · obtain ⟨c, hc⟩ : ∃ c : Nat, x = (s.size : Int) + (c : Int) := ⟨(x - s.size).toNat, by omega⟩
    subst hc
    cases a
    · exact str_int_p s c w h0' hs (by omega)
    · exact str_int_n s c w h0' hs (by omega)
  by_cases h2 : 0 < x ∧ x < s.size
  · obtain ⟨k, hk⟩ : ∃ k : Nat, x = (k : Int) := ⟨x.toNat, by omega⟩
    subst hk
    cases a
    · exact str_frac_p s k w h0' hs (by omega) (by omega)
    · exact str_frac_n s k w h0' hs (by omega) (by omega)
  by_cases h3 : x ≤ 0 ∧ -x ≤ 16
  · obtain ⟨c, hc⟩ : ∃ c : Nat, x = -(c : Int) := ⟨(-x).toNat, by omega⟩
    subst hc
    cases a
    · exact str_zero_p s c w h0' hs (by omega)
    · exact str_zero_n s c w h0' hs (by omega)
  by_cases h4 : (s.size : Int) + 16 < x
  · cases a
    · exact str_big_p s x w h0' hs h4 hx1 ht
    · exact str_big_n s x w h0' hs h4 hx1 ht
  · cases a
    · exact str_small_p s x w h0' hs (by omega) (hx h0') ht
    · exact str_small_n s x w h0' hs (by omega) (hx h0') ht

/-- What is known of the digits. -/
structure Dg (s : ByteArray) : Prop where
  pos : 0 < s.size
  le : s.size ≤ 1048576
  all : Nm.allD s.data.toList = true
  head : s.data.toList.head? ≠ some 48
  last : s.data.toList.getLast? ≠ some 48

theorem dg_of {s : ByteArray} (hc : Nm.canon s.data.toList = true) (h0 : 0 < s.size) (hs : s.size ≤ 1048576) : Dg s := by
  unfold Nm.canon at hc
  rw [(not_empty h0).2] at hc
  simp only [Bool.false_or, Bool.and_eq_true, bne_iff_ne, ne_eq] at hc
  exact ⟨h0, hs, hc.1, hc.2.1, hc.2.2⟩

theorem list_at (s : ByteArray) (k : Nat) (hk : k < s.size) {c : UInt8} (h : s.data.toList[k]? = some c) : s[k] = c := by
  have : s.data.toList[k]? = some s[k] := by
    rw [List.getElem?_eq_getElem (by simpa using hk)]; rfl
  rw [this] at h
  exact Option.some.inj h
theorem list_size (s : ByteArray) : s.data.toList.length = s.size := by simp
theorem u8_ne_int {c : UInt8} {n : Nat} (h : c.toNat ≠ n) : ((c.toNat : Int) == (n : Int)) = false := beq_eq_false_iff_ne.2 (by omega)
theorem eq_of_list {a b : ByteArray} (h : a.data.toList = b.data.toList) : a = b := ByteArray.ext (Array.toList_inj.1 h)

theorem getD_list (s : ByteArray) (k : Nat) (hk : k < s.size) : s.data.toList[k]? = some s[k] := by
  rw [List.getElem?_eq_getElem (by simpa using hk)]; rfl
/-- The first digit. -/
theorem Dg.first {s t : ByteArray} (hd : Dg s) {r : List UInt8} (hl : t.data.toList = s.data.toList ++ r) (htp : 0 < t.size) : 48 < t[0].toNat ∧ t[0].toNat ≤ 57 := by
  have h1 : t.data.toList[0]? = some (s[0]'hd.pos) := by
    rw [hl, List.getElem?_append_left (by rw [list_size]; exact hd.pos)]
    exact getD_list s 0 hd.pos
  have h2 : t[0] = (s[0]'hd.pos) := list_at t 0 htp h1
  have h3 := Nm.mem_allD hd.all (List.mem_of_getElem? (getD_list s 0 hd.pos))
  have h4 : (s[0]'hd.pos) ≠ 48 := by
    intro e
    apply hd.head
    rw [List.head?_eq_getElem?, getD_list s 0 hd.pos, e]
  rw [h2]
  have h5 : (s[0]'hd.pos).toNat ≠ 48 := fun e => h4 (UInt8.toNat_inj.1 e)
  omega
/-- The last digit. -/
theorem Dg.lastD {s : ByteArray} (hd : Dg s) : s[s.size - 1]'(by have := hd.pos; omega) ≠ 48 := by
  intro e
  apply hd.last
  have := hd.pos
  rw [List.getLast?_eq_getElem?, list_size, getD_list s (s.size - 1) (by omega), e]
theorem not_zero {t : ByteArray} (htp : 0 < t.size) (h : t[0] ≠ 48) : (t.toList == [48]) = false := by
  rw [ByteArray.toList_eq]
  refine beq_eq_false_iff_ne.2 fun e => h ?_
  exact list_at t 0 htp (by rw [e]; rfl)

theorem neg_facts {s' t : ByteArray} (hst : s'.data.toList = 45 :: t.data.toList) : s'.size = t.size + 1 ∧ (s'.toList == [48]) = false ∧ s'.extract 1 s'.size = t := by
  have hs1 : s'.size = t.size + 1 := by
    rw [← list_size s', hst, List.length_cons, list_size]
  refine ⟨hs1, ?_, ?_⟩
  · refine not_zero (by omega) fun e => ?_
    have := getD_list s' 0 (by omega)
    rw [hst, e] at this
    simp at this
  · refine eq_of_list ?_
    rw [Lib.extract_data, hst, hs1]
    exact List.take_of_length_le (by simp)
theorem neg_minus {s' t : ByteArray} (hst : s'.data.toList = 45 :: t.data.toList) (h : 0 < s'.size) : ((s'[0].toNat : Int) == 45) = true := by
  have : s'[0] = 45 := list_at s' 0 h (by rw [hst]; rfl)
  rw [this]; rfl

theorem first' {s t : ByteArray} (hd : Dg s) (htp : 0 < t.size) (h : t.data.toList[0]? = s.data.toList[0]?) : 48 < t[0].toNat ∧ t[0].toNat ≤ 57 := by
  have h1 := hd.first (t := s) (r := []) (by simp) hd.pos
  rw [getD_list s 0 hd.pos] at h
  rw [list_at t 0 htp h]
  exact h1
theorem last_ne {s f : ByteArray} (hd : Dg s) (h : f.data.toList.getLast? = s.data.toList.getLast?) (hl : f.size - 1 < f.size) : ((f[f.size - 1].toNat : Int) == 48) = false := by
  refine beq_eq_false_iff_ne.2 fun e => hd.last ?_
  rw [← h, List.getLast?_eq_getElem?, list_size, getD_list f (f.size - 1) hl]
  congr 1
  refine UInt8.toNat_inj.1 ?_
  have : (48 : UInt8).toNat = 48 := rfl
  omega
theorem digs_of {f : ByteArray} (h : 0 < f.size) (hA : Nm.allD f.data.toList = true) : Nm.digs f.data.toList = true := by
  unfold Nm.digs
  rw [(not_empty h).2, hA]; rfl

/-- The exponent's text reads back. -/
theorem pe_any (u : ByteArray) (v : Int) (w : World) (hu : u.data.toList = Lib.itoa v) (h0 : -9223372036854775808 < v) (h1 : v ≤ 9223372036854775807) :
    Calls Tryd.prog 19 #[.string u] w fun e w' => e = .returned (.tuple #[.int .i64 v, .bool true]) ∧ w' = w := by
  have hz : ∀ (t : ByteArray) (n : Nat), t.data.toList = Lib.decDigits n → n ≤ 9223372036854775807 → Nm.allD t.data.toList = true ∧ 0 < t.size ∧ t.size ≤ 19 ∧ (∀ h : 0 < t.size, 1 < t.size → t[0] ≠ 48) ∧ Nm.val t.data.toList = n := by
    intro t n ht hn
    obtain ⟨f1, f2, f3, f4, f5⟩ := Nm.dec_facts n hn
    have hl : t.size = (Lib.decDigits n).length := by rw [← list_size, ht]
    have hp : 0 < (Lib.decDigits n).length := List.length_pos_iff.2 f3
    refine ⟨by rw [ht]; exact f1, by omega, by omega, fun h h2 e => ?_, by rw [ht]; exact f2⟩
    refine f5 (by omega) ?_
    rw [← ht, List.head?_eq_getElem?, getD_list t 0 h, e]
  unfold Lib.itoa at hu
  by_cases hv : v < 0
  · rw [if_pos hv] at hu
    obtain ⟨f1, f2, f3, f4, f5⟩ := hz (S (Lib.decDigits v.natAbs)) v.natAbs (S_list _) (by omega)
    have := pe_neg u (S (Lib.decDigits v.natAbs)) w (by rw [hu, S_list]) f1 f2 f3 (f4 f2) (by rw [f5]; omega) (by rw [f5]; omega)
    rw [f5, show (-(v.natAbs : Int)) = v by omega] at this
    exact this
  · rw [if_neg hv] at hu
    obtain ⟨f1, f2, f3, f4, f5⟩ := hz u v.toNat hu (by omega)
    have := pe_pos u w f1 f2 f3 (f4 f2) (by rw [f5]; omega)
    rw [f5, show ((v.toNat : Nat) : Int) = v by omega] at this
    exact this

set_option maxRecDepth 100000 in
set_option maxHeartbeats 1000000 in
theorem rb_int_p (s t : ByteArray) (c : Nat) (w : World) (hd : Dg s) (hc : c ≤ 16) (hl : t.data.toList = s.data.toList ++ List.replicate c 48) :
    Calls Tryd.prog 9 #[.string t] w fun e w' => e = .returned (.tuple #[.bool false, .string s, .int .i64 ((s.size : Int) + (c : Int)), .bool false, .bool true]) ∧ ∃ q, w' = w.drewN q := by
  have hle := hd.le
  have hpos := hd.pos
  have hts : t.size = s.size + c := by rw [← list_size t, hl]; simp
  have Hts : Hid (t.size = s.size + c) := hts
  have htp : 0 < t.size := by omega
  have htl : t.size ≤ 1048592 := by omega
  clear hts
  have hf := hd.first hl htp
  have hA : Nm.allD t.data.toList = true := by rw [hl, Nm.allD_append, hd.all, Nm.allD_rep]; rfl
  have htz := not_zero htp (fun e => by rw [e] at hf; exact absurd hf.1 (by decide))
  have ht45 : (t[0].toNat : Int) ≠ 45 := by omega
  have hte := (not_empty htp).1
  have ht1 : ((t[0].toNat : Int) == 48) = false := beq_eq_false_iff_ne.2 (by omega)
  have HI : Hid (Nm.idx 101 t.data.toList = -1 ∧ Nm.idx 46 t.data.toList = -1 ∧ Nm.digs t.data.toList = true) :=
    ⟨Nm.idx_none (Nm.not_mem_allD hA (.inr (by decide))), Nm.idx_none (Nm.not_mem_allD hA (.inl (by decide))), by unfold Nm.digs; rw [(not_empty htp).2, hA]; rfl⟩
  have Hl : Hid (t.data.toList = s.data.toList ++ List.replicate c 48) := hl
  clear hf hA hl
  have ht0 : ((t[0].toNat : Int) == 45) = false := beq_eq_false_iff_ne.2 ht45
  clear ht45
  go_enter Tryd.func9, Tryd.ntmps9
  go_wp2_with fail
  refine (idx_any t 101 w (by unfold maxLen; omega)).mono ?_
  rintro e w1 ⟨he, rfl⟩
  rw [HI.out.1] at he
  subst he
  go_wp2_with fail
  refine (idx_any t 46 w1 (by unfold maxLen; omega)).mono ?_
  rintro e w2 ⟨he, rfl⟩
  rw [HI.out.2.1] at he
  subst he
  go_wp2_with fail
  refine (digs_any t w2 (by unfold maxLen; omega)).mono ?_
  rintro e w3 ⟨he, rfl⟩
  rw [HI.out.2.2] at he
  subst he
  go_wp2_with fail
  go_loop [14] (fun ev => ∃ n : Nat, s.size ≤ n ∧ n ≤ t.size ∧ ev = .int .i64 n) (fun ev => (intOf ev).toNat)
  case atStart => exact ⟨t.size, by have := Hts.out; omega, Nat.le_refl _, rfl⟩
  case round =>
    obtain ⟨n, hn0, hn1, rfl⟩ := hrel
    have hnt : n - 1 < t.size := by omega
    by_cases hlt : s.size < n
    · have hx : ((t[n - 1].toNat : Int) == 48) = true := by
        have h1 : t[n - 1] = 48 := by
          refine list_at t (n - 1) hnt ?_
          have := Hts.out
          rw [Hl.out, List.getElem?_append_right (by rw [list_size]; omega), List.getElem?_replicate, if_pos (by rw [list_size]; omega)]
        rw [h1]; rfl
      go_wp2_with fail
      go_round
      case rel => exact ⟨n - 1, by omega, by omega, by go_num⟩
      case measure => simp [intOf]; omega
    · have hns : n = s.size := by omega
      subst hns
      have hx : ((t[s.size - 1].toNat : Int) == 48) = false := by
        have h1 : t[s.size - 1] = s[s.size - 1] := by
          refine list_at t (s.size - 1) hnt ?_
          rw [Hl.out, List.getElem?_append_left (by rw [list_size]; omega), getD_list]
        refine beq_eq_false_iff_ne.2 fun e => hd.lastD ?_
        rw [← h1]
        refine UInt8.toNat_inj.1 ?_
        have : (48 : UInt8).toNat = 48 := rfl
        omega
      have hext : t.extract 0 s.size = s := by
        refine eq_of_list ?_
        rw [Lib.extract_data, Hl.out]
        simp
      have q0 : (0 : Int) ≤ (s.size : Int) := by omega
      have q1 : (s.size : Int) ≤ (t.size : Int) := by omega
      go_wp2_with fail
      go_quiet (fail)
      go_wp2
      refine bodyPost_ret (v := .tuple #[.bool false, .string s, .int .i64 (t.size : Int), .bool false, .bool true]) (by simp [results, Tryd.results9, go_sem]) rfl ⟨?_, _, rfl⟩
      rw [Hts.out]
      simp

set_option maxRecDepth 100000 in
set_option maxHeartbeats 1000000 in
theorem rb_int_n (s t : ByteArray) (c : Nat) (s' : ByteArray) (hst : s'.data.toList = 45 :: t.data.toList) (w : World) (hd : Dg s) (hc : c ≤ 16) (hl : t.data.toList = s.data.toList ++ List.replicate c 48) :
    Calls Tryd.prog 9 #[.string s'] w fun e w' => e = .returned (.tuple #[.bool true, .string s, .int .i64 ((s.size : Int) + (c : Int)), .bool false, .bool true]) ∧ ∃ q, w' = w.drewN q := by
  have hle := hd.le
  have hpos := hd.pos
  have hts : t.size = s.size + c := by rw [← list_size t, hl]; simp
  have Hts : Hid (t.size = s.size + c) := hts
  have htp : 0 < t.size := by omega
  have htl : t.size ≤ 1048592 := by omega
  clear hts
  have hf := hd.first hl htp
  have hA : Nm.allD t.data.toList = true := by rw [hl, Nm.allD_append, hd.all, Nm.allD_rep]; rfl
  have htz := not_zero htp (fun e => by rw [e] at hf; exact absurd hf.1 (by decide))
  have ht45 : (t[0].toNat : Int) ≠ 45 := by omega
  have hte := (not_empty htp).1
  have ht1 : ((t[0].toNat : Int) == 48) = false := beq_eq_false_iff_ne.2 (by omega)
  have HI : Hid (Nm.idx 101 t.data.toList = -1 ∧ Nm.idx 46 t.data.toList = -1 ∧ Nm.digs t.data.toList = true) :=
    ⟨Nm.idx_none (Nm.not_mem_allD hA (.inr (by decide))), Nm.idx_none (Nm.not_mem_allD hA (.inl (by decide))), by unfold Nm.digs; rw [(not_empty htp).2, hA]; rfl⟩
  have Hl : Hid (t.data.toList = s.data.toList ++ List.replicate c 48) := hl
  clear hf hA hl
  obtain ⟨hs1, hz', hext0⟩ := neg_facts hst
  have hsp' : 0 < s'.size := by omega
  have hm' := neg_minus hst hsp'
  have hsl' : s'.size ≤ 3000000 := by omega
  clear hs1 hst htz
  clear ht45
  go_enter Tryd.func9, Tryd.ntmps9
  go_wp2_with fail
  refine (idx_any t 101 w (by unfold maxLen; omega)).mono ?_
  rintro e w1 ⟨he, rfl⟩
  rw [HI.out.1] at he
  subst he
  go_wp2_with fail
  refine (idx_any t 46 w1 (by unfold maxLen; omega)).mono ?_
  rintro e w2 ⟨he, rfl⟩
  rw [HI.out.2.1] at he
  subst he
  go_wp2_with fail
  refine (digs_any t w2 (by unfold maxLen; omega)).mono ?_
  rintro e w3 ⟨he, rfl⟩
  rw [HI.out.2.2] at he
  subst he
  go_wp2_with fail
  go_loop [14] (fun ev => ∃ n : Nat, s.size ≤ n ∧ n ≤ t.size ∧ ev = .int .i64 n) (fun ev => (intOf ev).toNat)
  case atStart => exact ⟨t.size, by have := Hts.out; omega, Nat.le_refl _, rfl⟩
  case round =>
    obtain ⟨n, hn0, hn1, rfl⟩ := hrel
    have hnt : n - 1 < t.size := by omega
    by_cases hlt : s.size < n
    · have hx : ((t[n - 1].toNat : Int) == 48) = true := by
        have h1 : t[n - 1] = 48 := by
          refine list_at t (n - 1) hnt ?_
          have := Hts.out
          rw [Hl.out, List.getElem?_append_right (by rw [list_size]; omega), List.getElem?_replicate, if_pos (by rw [list_size]; omega)]
        rw [h1]; rfl
      go_wp2_with fail
      go_round
      case rel => exact ⟨n - 1, by omega, by omega, by go_num⟩
      case measure => simp [intOf]; omega
    · have hns : n = s.size := by omega
      subst hns
      have hx : ((t[s.size - 1].toNat : Int) == 48) = false := by
        have h1 : t[s.size - 1] = s[s.size - 1] := by
          refine list_at t (s.size - 1) hnt ?_
          rw [Hl.out, List.getElem?_append_left (by rw [list_size]; omega), getD_list]
        refine beq_eq_false_iff_ne.2 fun e => hd.lastD ?_
        rw [← h1]
        refine UInt8.toNat_inj.1 ?_
        have : (48 : UInt8).toNat = 48 := rfl
        omega
      have hext : t.extract 0 s.size = s := by
        refine eq_of_list ?_
        rw [Lib.extract_data, Hl.out]
        simp
      have q0 : (0 : Int) ≤ (s.size : Int) := by omega
      have q1 : (s.size : Int) ≤ (t.size : Int) := by omega
      go_wp2_with fail
      go_quiet (fail)
      go_wp2
      refine bodyPost_ret (v := .tuple #[.bool true, .string s, .int .i64 (t.size : Int), .bool false, .bool true]) (by simp [results, Tryd.results9, go_sem]) rfl ⟨?_, _, rfl⟩
      rw [Hts.out]
      simp

set_option maxRecDepth 100000 in
set_option maxHeartbeats 1000000 in
theorem rb_exp_p (s t : ByteArray) (v : Int) (w : World) (hd : Dg s) (h0 : -9223372036854775808 < v) (h1 : v ≤ 9223372036854775807) (h2 : v + (s.size : Int) ≤ 9223372036854775807) (hl : t.data.toList = s.data.toList ++ 101 :: Lib.itoa v) :
    Calls Tryd.prog 9 #[.string t] w fun e w' => e = .returned (.tuple #[.bool false, .string s, .int .i64 (v + (s.size : Int)), .bool true, .bool true]) ∧ ∃ q, w' = w.drewN q := by
  have hle := hd.le
  have hpos := hd.pos
  have hil := itoa_len v h0 h1
  have hts : t.size = s.size + 1 + (Lib.itoa v).length := by rw [← list_size t, hl]; simp; omega
  have htp : 0 < t.size := by omega
  have htl : t.size ≤ 1048600 := by omega
  have hk : s.size + 1 ≤ t.size := by omega
  have hf := hd.first hl htp
  have htz := not_zero htp (fun e => by rw [e] at hf; exact absurd hf.1 (by decide))
  have ht45 : (t[0].toNat : Int) ≠ 45 := by omega
  have hte := (not_empty htp).1
  have hi1 : Nm.idx 101 t.data.toList = (s.size : Int) := by
    rw [hl, Nm.idx_at _ (Nm.not_mem_allD hd.all (.inr (by decide))), list_size]
  have HI : Hid (Nm.idx 101 t.data.toList = (s.size : Int) ∧ Nm.digs s.data.toList = true) := ⟨hi1, by unfold Nm.digs; rw [(not_empty hpos).2, hd.all]; rfl⟩
  have hf2 := hd.first (t := s) (r := []) (by simp) hpos
  have hs0 : ((s[0].toNat : Int) == 48) = false := beq_eq_false_iff_ne.2 (by omega)
  have hsp : s.size - 1 < s.size := by omega
  have hsl : ((s[s.size - 1].toNat : Int) == 48) = false := by
    refine beq_eq_false_iff_ne.2 fun e => hd.lastD ?_
    refine UInt8.toNat_inj.1 ?_
    have : (48 : UInt8).toNat = 48 := rfl
    omega
  have hext : t.extract 0 s.size = s := by
    refine eq_of_list ?_
    rw [Lib.extract_data, hl]
    simp
  obtain ⟨u, hu, hul⟩ : ∃ u, t.extract (s.size + 1) t.size = u ∧ u.data.toList = Lib.itoa v := by
    refine ⟨_, rfl, ?_⟩
    rw [Lib.extract_data, hl, hts, List.drop_append, list_size]
    have e1 : s.data.toList.drop (s.size + 1) = [] := List.drop_of_length_le (by rw [list_size]; omega)
    have e2 : s.size + 1 - s.size = 1 := by omega
    rw [e1, e2]
    exact List.take_of_length_le (by simp)
  have Hul : Hid (u.data.toList = Lib.itoa v) := hul
  have q3 : ¬ (9223372036854775807 - (s.size : Int) < v) := by omega
  clear hul hf hf2 hi1 hl hts hil
  have ht0 : ((t[0].toNat : Int) == 45) = false := beq_eq_false_iff_ne.2 ht45
  clear ht45
  go_enter Tryd.func9, Tryd.ntmps9
  go_wp2_with fail
  refine (idx_any t 101 w (by unfold maxLen; omega)).mono ?_
  rintro e w1 ⟨he, rfl⟩
  rw [HI.out.1] at he
  subst he
  go_wp2_with fail
  refine (digs_any s w1 (by unfold maxLen; omega)).mono ?_
  rintro e w2 ⟨he, rfl⟩
  rw [HI.out.2] at he
  subst he
  go_wp2_with fail
  refine (pe_any u v w2 Hul.out h0 h1).mono ?_
  rintro e w3 ⟨rfl, rfl⟩
  go_wp2_with fail
  exact bodyPost_ret (v := .tuple #[.bool false, .string s, .int .i64 (v + (s.size : Int)), .bool true, .bool true]) (by simp [results, Tryd.results9, go_sem]) rfl ⟨rfl, 0, rfl⟩

set_option maxRecDepth 100000 in
set_option maxHeartbeats 1000000 in
theorem rb_exp_n (s t : ByteArray) (v : Int) (s' : ByteArray) (hst : s'.data.toList = 45 :: t.data.toList) (w : World) (hd : Dg s) (h0 : -9223372036854775808 < v) (h1 : v ≤ 9223372036854775807) (h2 : v + (s.size : Int) ≤ 9223372036854775807) (hl : t.data.toList = s.data.toList ++ 101 :: Lib.itoa v) :
    Calls Tryd.prog 9 #[.string s'] w fun e w' => e = .returned (.tuple #[.bool true, .string s, .int .i64 (v + (s.size : Int)), .bool true, .bool true]) ∧ ∃ q, w' = w.drewN q := by
  have hle := hd.le
  have hpos := hd.pos
  have hil := itoa_len v h0 h1
  have hts : t.size = s.size + 1 + (Lib.itoa v).length := by rw [← list_size t, hl]; simp; omega
  have htp : 0 < t.size := by omega
  have htl : t.size ≤ 1048600 := by omega
  have hk : s.size + 1 ≤ t.size := by omega
  have hf := hd.first hl htp
  have htz := not_zero htp (fun e => by rw [e] at hf; exact absurd hf.1 (by decide))
  have ht45 : (t[0].toNat : Int) ≠ 45 := by omega
  have hte := (not_empty htp).1
  have hi1 : Nm.idx 101 t.data.toList = (s.size : Int) := by
    rw [hl, Nm.idx_at _ (Nm.not_mem_allD hd.all (.inr (by decide))), list_size]
  have HI : Hid (Nm.idx 101 t.data.toList = (s.size : Int) ∧ Nm.digs s.data.toList = true) := ⟨hi1, by unfold Nm.digs; rw [(not_empty hpos).2, hd.all]; rfl⟩
  have hf2 := hd.first (t := s) (r := []) (by simp) hpos
  have hs0 : ((s[0].toNat : Int) == 48) = false := beq_eq_false_iff_ne.2 (by omega)
  have hsp : s.size - 1 < s.size := by omega
  have hsl : ((s[s.size - 1].toNat : Int) == 48) = false := by
    refine beq_eq_false_iff_ne.2 fun e => hd.lastD ?_
    refine UInt8.toNat_inj.1 ?_
    have : (48 : UInt8).toNat = 48 := rfl
    omega
  have hext : t.extract 0 s.size = s := by
    refine eq_of_list ?_
    rw [Lib.extract_data, hl]
    simp
  obtain ⟨u, hu, hul⟩ : ∃ u, t.extract (s.size + 1) t.size = u ∧ u.data.toList = Lib.itoa v := by
    refine ⟨_, rfl, ?_⟩
    rw [Lib.extract_data, hl, hts, List.drop_append, list_size]
    have e1 : s.data.toList.drop (s.size + 1) = [] := List.drop_of_length_le (by rw [list_size]; omega)
    have e2 : s.size + 1 - s.size = 1 := by omega
    rw [e1, e2]
    exact List.take_of_length_le (by simp)
  have Hul : Hid (u.data.toList = Lib.itoa v) := hul
  have q3 : ¬ (9223372036854775807 - (s.size : Int) < v) := by omega
  clear hul hf hf2 hi1 hl hts hil
  obtain ⟨hs1, hz', hext0⟩ := neg_facts hst
  have hsp' : 0 < s'.size := by omega
  have hm' := neg_minus hst hsp'
  have hsl' : s'.size ≤ 3000000 := by omega
  clear hs1 hst htz
  clear ht45
  go_enter Tryd.func9, Tryd.ntmps9
  go_wp2_with fail
  refine (idx_any t 101 w (by unfold maxLen; omega)).mono ?_
  rintro e w1 ⟨he, rfl⟩
  rw [HI.out.1] at he
  subst he
  go_wp2_with fail
  refine (digs_any s w1 (by unfold maxLen; omega)).mono ?_
  rintro e w2 ⟨he, rfl⟩
  rw [HI.out.2] at he
  subst he
  go_wp2_with fail
  refine (pe_any u v w2 Hul.out h0 h1).mono ?_
  rintro e w3 ⟨rfl, rfl⟩
  go_wp2_with fail
  exact bodyPost_ret (v := .tuple #[.bool true, .string s, .int .i64 (v + (s.size : Int)), .bool true, .bool true]) (by simp [results, Tryd.results9, go_sem]) rfl ⟨rfl, 0, rfl⟩

set_option maxRecDepth 100000 in
set_option maxHeartbeats 1000000 in
theorem rb_frac_p (s t : ByteArray) (k : Nat) (w : World) (hd : Dg s) (hk0 : 0 < k) (hk : k < s.size) (hl : t.data.toList = s.data.toList.take k ++ 46 :: s.data.toList.drop k) :
    Calls Tryd.prog 9 #[.string t] w fun e w' => e = .returned (.tuple #[.bool false, .string s, .int .i64 ((k : Int)), .bool false, .bool true]) ∧ ∃ q, w' = w.drewN q := by
  have hle := hd.le
  have hpos := hd.pos
  have hts : t.size = s.size + 1 := by rw [← list_size t, hl]; simp; omega
  have htp : 0 < t.size := by omega
  have htl : t.size ≤ 1048600 := by omega
  have hf := first' (t := t) hd htp (by rw [hl, List.getElem?_append_left (by simp; omega), List.getElem?_take, if_pos hk0])
  have htz := not_zero htp (fun e => by rw [e] at hf; exact absurd hf.1 (by decide))
  have ht45 : (t[0].toNat : Int) ≠ 45 := by omega
  have hte := (not_empty htp).1
  have hA1 := Nm.allD_take hd.all k
  have hA2 := Nm.allD_drop hd.all k
  have hi1 : Nm.idx 101 t.data.toList = -1 := by
    refine Nm.idx_none ?_
    rw [hl]
    simp only [List.mem_append, List.mem_cons, not_or]
    exact ⟨Nm.not_mem_allD hA1 (.inr (by decide)), by decide, Nm.not_mem_allD hA2 (.inr (by decide))⟩
  have hi2 : Nm.idx 46 t.data.toList = (k : Int) := by
    rw [hl, Nm.idx_at _ (Nm.not_mem_allD hA1 (.inl (by decide)))]
    simp; omega
  obtain ⟨ip, hip, hipl⟩ : ∃ ip, t.extract 0 k = ip ∧ ip.data.toList = s.data.toList.take k := by
    refine ⟨_, rfl, ?_⟩
    have e0 : (s.data.toList.take k).length = k := by simp; omega
    rw [Lib.extract_data, hl, List.drop_zero, Nat.sub_zero, List.take_append_of_le_length (by rw [e0]; exact Nat.le_refl k)]
    exact List.take_of_length_le (by rw [e0]; exact Nat.le_refl k)
  obtain ⟨fp, hfp, hfpl⟩ : ∃ fp, t.extract (k + 1) t.size = fp ∧ fp.data.toList = s.data.toList.drop k := by
    refine ⟨_, rfl, ?_⟩
    have e0 : (s.data.toList.take k).length = k := by simp; omega
    rw [Lib.extract_data, hl, hts, List.drop_append, e0]
    have e1 : (s.data.toList.take k).drop (k + 1) = [] := List.drop_of_length_le (by rw [e0]; omega)
    have e2 : k + 1 - k = 1 := by omega
    rw [e1, e2]
    exact List.take_of_length_le (by simp)
  have hips : ip.size = k := by rw [← list_size, hipl]; simp; omega
  have hfps : fp.size = s.size - k := by rw [← list_size, hfpl]; simp
  have hip0 : 0 < ip.size := by omega
  have hfp0 : 0 < fp.size := by omega
  have hfpb : fp.size ≤ 1048600 := by omega
  have hfl : fp.size - 1 < fp.size := by omega
  have hf2 := first' (t := ip) hd hip0 (by rw [hipl, List.getElem?_take, if_pos hk0])
  have hipz := not_zero hip0 (fun e => by rw [e] at hf2; exact absurd hf2.1 (by decide))
  have hip1 : ((ip[0].toNat : Int) == 48) = false := beq_eq_false_iff_ne.2 (by omega)
  have hfpz := last_ne hd (by rw [hfpl, List.getLast?_drop, if_neg (by rw [list_size]; omega)]) hfl
  have hcat : ip ++ fp = s := by
    refine eq_of_list ?_
    rw [Joins.data_append, hipl, hfpl, List.take_append_drop]
  have HI : Hid (Nm.idx 101 t.data.toList = -1 ∧ Nm.idx 46 t.data.toList = (k : Int) ∧ Nm.digs ip.data.toList = true ∧ Nm.digs fp.data.toList = true ∧ ip.size = k) := ⟨hi1, hi2, digs_of hip0 (by rw [hipl]; exact hA1), digs_of hfp0 (by rw [hfpl]; exact hA2), hips⟩
  have hipb : ip.size ≤ 1048600 := by omega
  have hkt : k + 1 ≤ t.size := by omega
  clear hf hf2 hA1 hA2 hi1 hi2 hipl hfpl hips hfps hl hts
  have ht0 : ((t[0].toNat : Int) == 45) = false := beq_eq_false_iff_ne.2 ht45
  clear ht45
  go_enter Tryd.func9, Tryd.ntmps9
  go_wp2_with fail
  refine (idx_any t 101 w (by unfold maxLen; omega)).mono ?_
  rintro e w1 ⟨he, rfl⟩
  rw [HI.out.1] at he
  subst he
  go_wp2_with fail
  refine (idx_any t 46 w1 (by unfold maxLen; omega)).mono ?_
  rintro e w2 ⟨he, rfl⟩
  rw [HI.out.2.1] at he
  subst he
  go_wp2_with fail
  refine (digs_any ip w2 (by unfold maxLen; omega)).mono ?_
  rintro e w3 ⟨he, rfl⟩
  rw [HI.out.2.2.1] at he
  subst he
  go_wp2_with fail
  refine (digs_any fp w3 (by unfold maxLen; omega)).mono ?_
  rintro e w4 ⟨he, rfl⟩
  rw [HI.out.2.2.2.1] at he
  subst he
  go_wp2_with fail
  refine bodyPost_ret (v := .tuple #[.bool false, .string s, .int .i64 (ip.size : Int), .bool false, .bool true]) (by simp [results, Tryd.results9, go_sem]) rfl ⟨?_, 0, rfl⟩
  rw [HI.out.2.2.2.2]

set_option maxRecDepth 100000 in
set_option maxHeartbeats 1000000 in
theorem rb_frac_n (s t : ByteArray) (k : Nat) (s' : ByteArray) (hst : s'.data.toList = 45 :: t.data.toList) (w : World) (hd : Dg s) (hk0 : 0 < k) (hk : k < s.size) (hl : t.data.toList = s.data.toList.take k ++ 46 :: s.data.toList.drop k) :
    Calls Tryd.prog 9 #[.string s'] w fun e w' => e = .returned (.tuple #[.bool true, .string s, .int .i64 ((k : Int)), .bool false, .bool true]) ∧ ∃ q, w' = w.drewN q := by
  have hle := hd.le
  have hpos := hd.pos
  have hts : t.size = s.size + 1 := by rw [← list_size t, hl]; simp; omega
  have htp : 0 < t.size := by omega
  have htl : t.size ≤ 1048600 := by omega
  have hf := first' (t := t) hd htp (by rw [hl, List.getElem?_append_left (by simp; omega), List.getElem?_take, if_pos hk0])
  have htz := not_zero htp (fun e => by rw [e] at hf; exact absurd hf.1 (by decide))
  have ht45 : (t[0].toNat : Int) ≠ 45 := by omega
  have hte := (not_empty htp).1
  have hA1 := Nm.allD_take hd.all k
  have hA2 := Nm.allD_drop hd.all k
  have hi1 : Nm.idx 101 t.data.toList = -1 := by
    refine Nm.idx_none ?_
    rw [hl]
    simp only [List.mem_append, List.mem_cons, not_or]
    exact ⟨Nm.not_mem_allD hA1 (.inr (by decide)), by decide, Nm.not_mem_allD hA2 (.inr (by decide))⟩
  have hi2 : Nm.idx 46 t.data.toList = (k : Int) := by
    rw [hl, Nm.idx_at _ (Nm.not_mem_allD hA1 (.inl (by decide)))]
    simp; omega
  obtain ⟨ip, hip, hipl⟩ : ∃ ip, t.extract 0 k = ip ∧ ip.data.toList = s.data.toList.take k := by
    refine ⟨_, rfl, ?_⟩
    have e0 : (s.data.toList.take k).length = k := by simp; omega
    rw [Lib.extract_data, hl, List.drop_zero, Nat.sub_zero, List.take_append_of_le_length (by rw [e0]; exact Nat.le_refl k)]
    exact List.take_of_length_le (by rw [e0]; exact Nat.le_refl k)
  obtain ⟨fp, hfp, hfpl⟩ : ∃ fp, t.extract (k + 1) t.size = fp ∧ fp.data.toList = s.data.toList.drop k := by
    refine ⟨_, rfl, ?_⟩
    have e0 : (s.data.toList.take k).length = k := by simp; omega
    rw [Lib.extract_data, hl, hts, List.drop_append, e0]
    have e1 : (s.data.toList.take k).drop (k + 1) = [] := List.drop_of_length_le (by rw [e0]; omega)
    have e2 : k + 1 - k = 1 := by omega
    rw [e1, e2]
    exact List.take_of_length_le (by simp)
  have hips : ip.size = k := by rw [← list_size, hipl]; simp; omega
  have hfps : fp.size = s.size - k := by rw [← list_size, hfpl]; simp
  have hip0 : 0 < ip.size := by omega
  have hfp0 : 0 < fp.size := by omega
  have hfpb : fp.size ≤ 1048600 := by omega
  have hfl : fp.size - 1 < fp.size := by omega
  have hf2 := first' (t := ip) hd hip0 (by rw [hipl, List.getElem?_take, if_pos hk0])
  have hipz := not_zero hip0 (fun e => by rw [e] at hf2; exact absurd hf2.1 (by decide))
  have hip1 : ((ip[0].toNat : Int) == 48) = false := beq_eq_false_iff_ne.2 (by omega)
  have hfpz := last_ne hd (by rw [hfpl, List.getLast?_drop, if_neg (by rw [list_size]; omega)]) hfl
  have hcat : ip ++ fp = s := by
    refine eq_of_list ?_
    rw [Joins.data_append, hipl, hfpl, List.take_append_drop]
  have HI : Hid (Nm.idx 101 t.data.toList = -1 ∧ Nm.idx 46 t.data.toList = (k : Int) ∧ Nm.digs ip.data.toList = true ∧ Nm.digs fp.data.toList = true ∧ ip.size = k) := ⟨hi1, hi2, digs_of hip0 (by rw [hipl]; exact hA1), digs_of hfp0 (by rw [hfpl]; exact hA2), hips⟩
  have hipb : ip.size ≤ 1048600 := by omega
  have hkt : k + 1 ≤ t.size := by omega
  clear hf hf2 hA1 hA2 hi1 hi2 hipl hfpl hips hfps hl hts
  obtain ⟨hs1, hz', hext0⟩ := neg_facts hst
  have hsp' : 0 < s'.size := by omega
  have hm' := neg_minus hst hsp'
  have hsl' : s'.size ≤ 3000000 := by omega
  clear hs1 hst htz
  clear ht45
  go_enter Tryd.func9, Tryd.ntmps9
  go_wp2_with fail
  refine (idx_any t 101 w (by unfold maxLen; omega)).mono ?_
  rintro e w1 ⟨he, rfl⟩
  rw [HI.out.1] at he
  subst he
  go_wp2_with fail
  refine (idx_any t 46 w1 (by unfold maxLen; omega)).mono ?_
  rintro e w2 ⟨he, rfl⟩
  rw [HI.out.2.1] at he
  subst he
  go_wp2_with fail
  refine (digs_any ip w2 (by unfold maxLen; omega)).mono ?_
  rintro e w3 ⟨he, rfl⟩
  rw [HI.out.2.2.1] at he
  subst he
  go_wp2_with fail
  refine (digs_any fp w3 (by unfold maxLen; omega)).mono ?_
  rintro e w4 ⟨he, rfl⟩
  rw [HI.out.2.2.2.1] at he
  subst he
  go_wp2_with fail
  refine bodyPost_ret (v := .tuple #[.bool true, .string s, .int .i64 (ip.size : Int), .bool false, .bool true]) (by simp [results, Tryd.results9, go_sem]) rfl ⟨?_, 0, rfl⟩
  rw [HI.out.2.2.2.2]

set_option maxRecDepth 100000 in
set_option maxHeartbeats 1000000 in
theorem rb_zero_p (s t : ByteArray) (c : Nat) (w : World) (hd : Dg s) (hc : c ≤ 16) (hl : t.data.toList = 48 :: 46 :: (List.replicate c 48 ++ s.data.toList)) :
    Calls Tryd.prog 9 #[.string t] w fun e w' => e = .returned (.tuple #[.bool false, .string s, .int .i64 (-(c : Int)), .bool false, .bool true]) ∧ ∃ q, w' = w.drewN q := by
  have hle := hd.le
  have hpos := hd.pos
  have hts : t.size = s.size + c + 2 := by rw [← list_size t, hl]; simp; omega
  have htp : 0 < t.size := by omega
  have htl : t.size ≤ 1048600 := by omega
  have ht2 : 2 ≤ t.size := by omega
  have htz : (t.toList == [48]) = false := by
    rw [ByteArray.toList_eq, hl]
    refine beq_eq_false_iff_ne.2 fun e => ?_
    simp at e
  have htf : t[0] = 48 := list_at t 0 htp (by rw [hl]; rfl)
  have ht45 : (t[0].toNat : Int) ≠ 45 := by rw [htf]; decide
  have hte := (not_empty htp).1
  have hAr : Nm.allD (List.replicate c 48 ++ s.data.toList) = true := by rw [Nm.allD_append, hd.all, Nm.allD_rep]; rfl
  have hi1 : Nm.idx 101 t.data.toList = -1 := by
    refine Nm.idx_none ?_
    rw [hl]
    simp only [List.mem_cons, not_or]
    exact ⟨by decide, by decide, Nm.not_mem_allD hAr (.inr (by decide))⟩
  have hi2 : Nm.idx 46 t.data.toList = 1 := by
    have := Nm.idx_at (c := 46) (a := [48]) (List.replicate c 48 ++ s.data.toList) (by decide)
    rw [hl]; exact this
  obtain ⟨ip, hip, hipl⟩ : ∃ ip, t.extract 0 1 = ip ∧ ip.data.toList = [48] := by
    refine ⟨_, rfl, ?_⟩
    rw [Lib.extract_data, hl]; rfl
  obtain ⟨fp, hfp, hfpl⟩ : ∃ fp, t.extract 2 t.size = fp ∧ fp.data.toList = List.replicate c 48 ++ s.data.toList := by
    refine ⟨_, rfl, ?_⟩
    rw [Lib.extract_data, hl, hts]
    exact List.take_of_length_le (by simp; omega)
  have hips : ip.size = 1 := by rw [← list_size, hipl]; rfl
  have hfps : fp.size = c + s.size := by rw [← list_size, hfpl]; simp
  have hfp0 : 0 < fp.size := by omega
  have hfpb : fp.size ≤ 1048600 := by omega
  have hfl : fp.size - 1 < fp.size := by omega
  have hipz : (ip.toList == [48]) = true := by rw [ByteArray.toList_eq, hipl]; rfl
  have hfpz := last_ne hd (by
    rw [hfpl, List.getLast?_append]
    cases hg : s.data.toList.getLast? with
    | none => rw [List.getLast?_eq_none_iff] at hg; have h5 := list_size s; rw [hg] at h5; have h6 : s.size = 0 := h5.symm; omega
    | some x => rfl) hfl
  have HI : Hid (Nm.idx 101 t.data.toList = -1 ∧ Nm.idx 46 t.data.toList = 1 ∧ Nm.digs ip.data.toList = true ∧ Nm.digs fp.data.toList = true) := ⟨hi1, hi2, by rw [hipl]; rfl, digs_of hfp0 (by rw [hfpl]; exact hAr)⟩
  have Hf : Hid (fp.data.toList = List.replicate c 48 ++ s.data.toList ∧ fp.size = c + s.size) := ⟨hfpl, hfps⟩
  have hcb : c < fp.size := by omega
  clear htf hAr hi1 hi2 hipl hfpl hips hfps hl hts
  have ht0 : ((t[0].toNat : Int) == 45) = false := beq_eq_false_iff_ne.2 ht45
  clear ht45
  go_enter Tryd.func9, Tryd.ntmps9
  go_wp2_with fail
  refine (idx_any t 101 w (by unfold maxLen; omega)).mono ?_
  rintro e w1 ⟨he, rfl⟩
  rw [HI.out.1] at he
  subst he
  go_wp2_with fail
  refine (idx_any t 46 w1 (by unfold maxLen; omega)).mono ?_
  rintro e w2 ⟨he, rfl⟩
  rw [HI.out.2.1] at he
  subst he
  go_wp2_with fail
  refine (digs_any ip w2 (by rw [← list_size]; rw [← hip, Lib.extract_data]; unfold maxLen; simp; omega)).mono ?_
  rintro e w3 ⟨he, rfl⟩
  rw [HI.out.2.2.1] at he
  subst he
  go_wp2_with fail
  refine (digs_any fp w3 (by unfold maxLen; omega)).mono ?_
  rintro e w4 ⟨he, rfl⟩
  rw [HI.out.2.2.2] at he
  subst he
  go_wp2_with fail
  go_loop [17] (fun zv => ∃ z : Nat, z ≤ c ∧ zv = .int .i64 z) (fun zv => c - (intOf zv).toNat)
  case atStart => exact ⟨0, Nat.zero_le _, rfl⟩
  case round =>
    obtain ⟨z, hz, rfl⟩ := hrel
    have hzf : z < fp.size := by omega
    by_cases hlt : z < c
    · have hx : ((fp[z].toNat : Int) == 48) = true := by
        have h1 : fp[z] = 48 := by
          refine list_at fp z hzf ?_
          rw [Hf.out.1, List.getElem?_append_left (by simpa using hlt), List.getElem?_replicate, if_pos hlt]
        rw [h1]; rfl
      go_wp2_with fail
      go_round
      case rel => exact ⟨z + 1, by omega, by go_num⟩
      case measure => simp [intOf]; omega
    · have hzc : z = c := by omega
      subst hzc
      have hx : ((fp[z].toNat : Int) == 48) = false := by
        have h1 : fp[z] = s[0] := by
          refine list_at fp z hzf ?_
          rw [Hf.out.1, List.getElem?_append_right (by simp), List.length_replicate, Nat.sub_self, getD_list]
        have h2 := hd.first (t := s) (r := []) (by simp) hpos
        refine beq_eq_false_iff_ne.2 ?_
        rw [h1]; omega
      have hext : fp.extract z fp.size = s := by
        refine eq_of_list ?_
        rw [Lib.extract_data, Hf.out.1, List.drop_append, List.length_replicate, Nat.sub_self, List.drop_zero]
        rw [List.drop_of_length_le (by simp), List.nil_append]
        exact List.take_of_length_le (by rw [list_size]; have := Hf.out.2; omega)
      have q0 : (0 : Int) ≤ (z : Int) := by omega
      have q1 : (z : Int) ≤ (fp.size : Int) := by omega
      go_wp2_with fail
      go_quiet (fail)
      go_wp2
      exact bodyPost_ret (v := .tuple #[.bool false, .string s, .int .i64 (-(z : Int)), .bool false, .bool true]) (by simp [results, Tryd.results9, go_sem]) rfl ⟨rfl, _, rfl⟩

set_option maxRecDepth 100000 in
set_option maxHeartbeats 1000000 in
theorem rb_zero_n (s t : ByteArray) (c : Nat) (s' : ByteArray) (hst : s'.data.toList = 45 :: t.data.toList) (w : World) (hd : Dg s) (hc : c ≤ 16) (hl : t.data.toList = 48 :: 46 :: (List.replicate c 48 ++ s.data.toList)) :
    Calls Tryd.prog 9 #[.string s'] w fun e w' => e = .returned (.tuple #[.bool true, .string s, .int .i64 (-(c : Int)), .bool false, .bool true]) ∧ ∃ q, w' = w.drewN q := by
  have hle := hd.le
  have hpos := hd.pos
  have hts : t.size = s.size + c + 2 := by rw [← list_size t, hl]; simp; omega
  have htp : 0 < t.size := by omega
  have htl : t.size ≤ 1048600 := by omega
  have ht2 : 2 ≤ t.size := by omega
  have htz : (t.toList == [48]) = false := by
    rw [ByteArray.toList_eq, hl]
    refine beq_eq_false_iff_ne.2 fun e => ?_
    simp at e
  have htf : t[0] = 48 := list_at t 0 htp (by rw [hl]; rfl)
  have ht45 : (t[0].toNat : Int) ≠ 45 := by rw [htf]; decide
  have hte := (not_empty htp).1
  have hAr : Nm.allD (List.replicate c 48 ++ s.data.toList) = true := by rw [Nm.allD_append, hd.all, Nm.allD_rep]; rfl
  have hi1 : Nm.idx 101 t.data.toList = -1 := by
    refine Nm.idx_none ?_
    rw [hl]
    simp only [List.mem_cons, not_or]
    exact ⟨by decide, by decide, Nm.not_mem_allD hAr (.inr (by decide))⟩
  have hi2 : Nm.idx 46 t.data.toList = 1 := by
    have := Nm.idx_at (c := 46) (a := [48]) (List.replicate c 48 ++ s.data.toList) (by decide)
    rw [hl]; exact this
  obtain ⟨ip, hip, hipl⟩ : ∃ ip, t.extract 0 1 = ip ∧ ip.data.toList = [48] := by
    refine ⟨_, rfl, ?_⟩
    rw [Lib.extract_data, hl]; rfl
  obtain ⟨fp, hfp, hfpl⟩ : ∃ fp, t.extract 2 t.size = fp ∧ fp.data.toList = List.replicate c 48 ++ s.data.toList := by
    refine ⟨_, rfl, ?_⟩
    rw [Lib.extract_data, hl, hts]
    exact List.take_of_length_le (by simp; omega)
  have hips : ip.size = 1 := by rw [← list_size, hipl]; rfl
  have hfps : fp.size = c + s.size := by rw [← list_size, hfpl]; simp
  have hfp0 : 0 < fp.size := by omega
  have hfpb : fp.size ≤ 1048600 := by omega
  have hfl : fp.size - 1 < fp.size := by omega
  have hipz : (ip.toList == [48]) = true := by rw [ByteArray.toList_eq, hipl]; rfl
  have hfpz := last_ne hd (by
    rw [hfpl, List.getLast?_append]
    cases hg : s.data.toList.getLast? with
    | none => rw [List.getLast?_eq_none_iff] at hg; have h5 := list_size s; rw [hg] at h5; have h6 : s.size = 0 := h5.symm; omega
    | some x => rfl) hfl
  have HI : Hid (Nm.idx 101 t.data.toList = -1 ∧ Nm.idx 46 t.data.toList = 1 ∧ Nm.digs ip.data.toList = true ∧ Nm.digs fp.data.toList = true) := ⟨hi1, hi2, by rw [hipl]; rfl, digs_of hfp0 (by rw [hfpl]; exact hAr)⟩
  have Hf : Hid (fp.data.toList = List.replicate c 48 ++ s.data.toList ∧ fp.size = c + s.size) := ⟨hfpl, hfps⟩
  have hcb : c < fp.size := by omega
  clear htf hAr hi1 hi2 hipl hfpl hips hfps hl hts
  obtain ⟨hs1, hz', hext0⟩ := neg_facts hst
  have hsp' : 0 < s'.size := by omega
  have hm' := neg_minus hst hsp'
  have hsl' : s'.size ≤ 3000000 := by omega
  clear hs1 hst htz
  clear ht45
  go_enter Tryd.func9, Tryd.ntmps9
  go_wp2_with fail
  refine (idx_any t 101 w (by unfold maxLen; omega)).mono ?_
  rintro e w1 ⟨he, rfl⟩
  rw [HI.out.1] at he
  subst he
  go_wp2_with fail
  refine (idx_any t 46 w1 (by unfold maxLen; omega)).mono ?_
  rintro e w2 ⟨he, rfl⟩
  rw [HI.out.2.1] at he
  subst he
  go_wp2_with fail
  refine (digs_any ip w2 (by rw [← list_size]; rw [← hip, Lib.extract_data]; unfold maxLen; simp; omega)).mono ?_
  rintro e w3 ⟨he, rfl⟩
  rw [HI.out.2.2.1] at he
  subst he
  go_wp2_with fail
  refine (digs_any fp w3 (by unfold maxLen; omega)).mono ?_
  rintro e w4 ⟨he, rfl⟩
  rw [HI.out.2.2.2] at he
  subst he
  go_wp2_with fail
  go_loop [17] (fun zv => ∃ z : Nat, z ≤ c ∧ zv = .int .i64 z) (fun zv => c - (intOf zv).toNat)
  case atStart => exact ⟨0, Nat.zero_le _, rfl⟩
  case round =>
    obtain ⟨z, hz, rfl⟩ := hrel
    have hzf : z < fp.size := by omega
    by_cases hlt : z < c
    · have hx : ((fp[z].toNat : Int) == 48) = true := by
        have h1 : fp[z] = 48 := by
          refine list_at fp z hzf ?_
          rw [Hf.out.1, List.getElem?_append_left (by simpa using hlt), List.getElem?_replicate, if_pos hlt]
        rw [h1]; rfl
      go_wp2_with fail
      go_round
      case rel => exact ⟨z + 1, by omega, by go_num⟩
      case measure => simp [intOf]; omega
    · have hzc : z = c := by omega
      subst hzc
      have hx : ((fp[z].toNat : Int) == 48) = false := by
        have h1 : fp[z] = s[0] := by
          refine list_at fp z hzf ?_
          rw [Hf.out.1, List.getElem?_append_right (by simp), List.length_replicate, Nat.sub_self, getD_list]
        have h2 := hd.first (t := s) (r := []) (by simp) hpos
        refine beq_eq_false_iff_ne.2 ?_
        rw [h1]; omega
      have hext : fp.extract z fp.size = s := by
        refine eq_of_list ?_
        rw [Lib.extract_data, Hf.out.1, List.drop_append, List.length_replicate, Nat.sub_self, List.drop_zero]
        rw [List.drop_of_length_le (by simp), List.nil_append]
        exact List.take_of_length_le (by rw [list_size]; have := Hf.out.2; omega)
      have q0 : (0 : Int) ≤ (z : Int) := by omega
      have q1 : (z : Int) ≤ (fp.size : Int) := by omega
      go_wp2_with fail
      go_quiet (fail)
      go_wp2
      exact bodyPost_ret (v := .tuple #[.bool true, .string s, .int .i64 (-(z : Int)), .bool false, .bool true]) (by simp [results, Tryd.results9, go_sem]) rfl ⟨rfl, _, rfl⟩

end Go.Proofs.Qxb6628289aDoor
