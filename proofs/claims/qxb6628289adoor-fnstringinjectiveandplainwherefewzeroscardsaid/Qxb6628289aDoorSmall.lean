import Derived.Test.Qxb6628289aDoorRows
import Derived.Test.Qxb6628289aDoorPlain
import Derived.WalkKit
import Derived.WalkSpells
import Derived.WalkLawsBesides
namespace Go.Proofs.Qxb6628289aDoor
open Go.RowKit

theorem getElem_bytes (s : ByteArray) (k : Nat) (h : k < s.size) : s.data.toList[k]'(by simpa using h) = s[k] := rfl

theorem idx_hit {c : UInt8} {l : List UInt8} {k : Nat} (hk : k < l.length) (h : c ∉ l.take k) (e : l[k] = c) : Nm.idx c l = (k : Int) := by
  have h1 : l = l.take k ++ c :: l.drop (k + 1) := by
    conv => lhs; rw [← List.take_append_drop k l]
    rw [List.drop_eq_getElem_cons hk, e]
  rw [h1, Nm.idx_at _ h]
  simp; omega
theorem not_take_succ {c : UInt8} {l : List UInt8} {k : Nat} (hk : k < l.length) (h : c ∉ l.take k) (e : l[k] ≠ c) : c ∉ l.take (k + 1) := by
  rw [List.take_succ_eq_append_getElem hk]
  simp only [List.mem_append, List.mem_singleton, not_or]
  exact ⟨h, fun h2 => e h2.symm⟩

theorem u8_yes {a b : UInt8} (h : ((a.toNat : Int) == (b.toNat : Int)) = true) : a = b := by
  simp at h
  exact UInt8.toNat_inj.1 (by omega)
theorem u8_no {a b : UInt8} (h : ((a.toNat : Int) == (b.toNat : Int)) = false) : a ≠ b := by
  rintro rfl
  simp at h

theorem isD_iff (c : UInt8) : Nm.isD c = true ↔ 48 ≤ (c.toNat : Int) ∧ (c.toNat : Int) ≤ 57 := by simp [Nm.isD]; omega
theorem isD_no (c : UInt8) (h : (c.toNat : Int) < 48 ∨ 57 < (c.toNat : Int)) : Nm.isD c = false := by
  cases hb : Nm.isD c with
  | false => rfl
  | true => have := (isD_iff c).1 hb; omega
theorem allD_take_succ {l : List UInt8} {k : Nat} (hk : k < l.length) (h : Nm.allD (l.take k) = true) (hd : Nm.isD l[k] = true) : Nm.allD (l.take (k + 1)) = true := by
  rw [List.take_succ_eq_append_getElem hk, Nm.allD_append, h, Nm.allD_one, hd]; rfl
theorem allD_false {l : List UInt8} {k : Nat} (hk : k < l.length) (hd : Nm.isD l[k] = false) : Nm.allD l = false := by
  unfold Nm.allD
  rw [List.all_eq_false]
  exact ⟨l[k], List.getElem_mem hk, by rw [hd]; simp⟩

set_option maxHeartbeats 400000 in
theorem idx_any (s : ByteArray) (c : UInt8) (w : World) (hs : s.size ≤ maxLen) :
    Calls Tryd.prog 17 #[.string s, .int .u8 c.toNat] w fun e w' => e = .returned (.int .i64 (Nm.idx c s.data.toList)) ∧ w' = w := by
  unfold maxLen at hs
  go_enter Tryd.func17, Tryd.ntmps17
  go_wp2
  go_loop [5] (fun i => ∃ k : Nat, k ≤ s.size ∧ i = .int .i64 k ∧ c ∉ s.data.toList.take k) (fun i => s.size - (intOf i).toNat)
  case atStart => exact ⟨0, Nat.zero_le _, rfl, by simp⟩
  case round =>
    obtain ⟨k, hk, rfl, hno⟩ := hrel
    have Hno : Hid (c ∉ s.data.toList.take k) := hno
    clear hno
    by_cases hlt : k < s.size
    · have hl : k < s.data.toList.length := by simpa using hlt
      go_wp2
      · have hq := u8_yes (by assumption)
        have hi := idx_hit hl Hno.out hq
        go_ret
        rw [hi]
        exact ⟨rfl, rfl⟩
      · have hq := u8_no (by assumption)
        have hi := not_take_succ hl Hno.out hq
        go_round
        case rel => exact ⟨k + 1, by omega, by go_num, hi⟩
        case measure => simp [intOf]; omega
    · have hi : Nm.idx c s.data.toList = -1 := Nm.idx_none (by have := Hno.out; rw [List.take_of_length_le (by simp; omega)] at this; exact this)
      have Hi : Hid (Nm.idx c s.data.toList = -1) := hi
      clear hi
      go_wp2
      go_ret
      rw [Hi.out]
      exact ⟨rfl, rfl⟩

set_option maxHeartbeats 400000 in
theorem digs_any (s : ByteArray) (w : World) (hs : s.size ≤ maxLen) :
    Calls Tryd.prog 18 #[.string s] w fun e w' => e = .returned (.bool (Nm.digs s.data.toList)) ∧ w' = w := by
  unfold maxLen at hs
  by_cases h0 : s.size = 0
  · have hd : Nm.digs s.data.toList = false := by
      have : s.data.toList = [] := List.eq_nil_of_length_eq_zero (by simpa using h0)
      rw [this]; rfl
    have Hd : Hid (Nm.digs s.data.toList = false) := hd
    clear hd
    have h0' : ((s.size : Int) == 0) = true := beq_iff_eq.2 (by omega)
    clear h0
    go_enter Tryd.func18, Tryd.ntmps18
    go_wp2
    go_ret
    rw [Hd.out]
    exact ⟨rfl, rfl⟩
  · have h0' : ((s.size : Int) == 0) = false := beq_eq_false_iff_ne.2 (by omega)
    have hemp : s.data.toList.isEmpty = false := by
      cases h : s.data.toList with
      | nil => exact absurd (by simpa using congrArg List.length h) h0
      | cons a l => rfl
    have Hemp : Hid (s.data.toList.isEmpty = false) := hemp
    clear hemp
    go_enter Tryd.func18, Tryd.ntmps18
    go_wp2
    go_loop [3] (fun i => ∃ k : Nat, k ≤ s.size ∧ i = .int .i64 k ∧ Nm.allD (s.data.toList.take k) = true) (fun i => s.size - (intOf i).toNat)
    case atStart => exact ⟨0, Nat.zero_le _, rfl, by simp [Nm.allD]⟩
    case round =>
      obtain ⟨k, hk, rfl, hall⟩ := hrel
      have Hall : Hid (Nm.allD (s.data.toList.take k) = true) := hall
      clear hall
      by_cases hlt : k < s.size
      · have hl : k < s.data.toList.length := by simpa using hlt
        have hfin : Nm.isD s[k] = false → Nm.digs s.data.toList = false := fun h => by
          unfold Nm.digs
          rw [allD_false hl h]; simp
        have Hfin : Hid (Nm.isD s[k] = false → Nm.digs s.data.toList = false) := hfin
        clear hfin
        go_wp2
        · have hd := Hfin.out (isD_no s[k] (by assumption))
          go_ret
          rw [hd]
          exact ⟨rfl, rfl⟩
        · have hy : 48 ≤ (s[k].toNat : Int) ∧ (s[k].toNat : Int) ≤ 57 := by assumption
          have hst := allD_take_succ hl Hall.out ((isD_iff s[k]).2 hy)
          go_round
          case rel => exact ⟨k + 1, by omega, by go_num, hst⟩
          case measure => simp [intOf]; omega
        · have hd := Hfin.out (isD_no s[k] (.inl (by assumption)))
          go_ret
          rw [hd]
          exact ⟨rfl, rfl⟩
      · have hd : Nm.digs s.data.toList = true := by
          have := Hall.out
          rw [List.take_of_length_le (by simp; omega)] at this
          unfold Nm.digs
          rw [this, Hemp.out]; rfl
        have Hd : Hid (Nm.digs s.data.toList = true) := hd
        clear hd
        go_wp2
        go_ret
        rw [Hd.out]
        exact ⟨rfl, rfl⟩

/-- A test: it answers; where it answers yes, p holds; memory is as it was. -/
def Says (p : Prop) (w : World) (e : Ending) (w' : World) : Prop := ∃ b, e = .returned (.bool b) ∧ (b = true → p) ∧ w' = w
theorem Says.no {p : Prop} {w w' : World} {e : Ending} (he : e = .returned (.bool false)) (hw : w' = w) : Says p w e w' := ⟨false, he, fun h => (by cases h), hw⟩
theorem Says.yes {p : Prop} {w w' : World} {e : Ending} (he : e = .returned (.bool true)) (h : p) (hw : w' = w) : Says p w e w' := ⟨true, he, fun _ => h, hw⟩

theorem canon_yes {s : ByteArray} (h0 : 0 < s.size) (hA : Nm.allD s.data.toList = true) (h1 : ((s[0].toNat : Int) == 48) = false) (h2 : ((s[s.size - 1].toNat : Int) == 48) = false) : Nm.canon s.data.toList = true := by
  have hl : 0 < s.data.toList.length := by simpa using h0
  have e1 : s.data.toList.head? = some s[0] := by
    rw [List.head?_eq_getElem?, List.getElem?_eq_getElem hl]; rfl
  have e2 : s.data.toList.getLast? = some s[s.size - 1] := by
    rw [List.getLast?_eq_getElem?, List.getElem?_eq_getElem (by omega)]; rfl
  unfold Nm.canon
  rw [hA, e1, e2]
  have h3 : s[0] ≠ 48 := u8_no (a := s[0]) (b := 48) h1
  have h4 : s[s.size - 1] ≠ 48 := u8_no (a := s[s.size - 1]) (b := 48) h2
  simp [h3, h4]

set_option maxHeartbeats 400000 in
theorem canon_any (s : ByteArray) (w : World) (hs : s.size ≤ maxLen) :
    Calls Tryd.prog 6 #[.string s] w (Says (Nm.canon s.data.toList = true) w) := by
  unfold maxLen at hs
  go_enter Tryd.func6, Tryd.ntmps6
  go_wp2
  go_loop [3] (fun i => ∃ k : Nat, k ≤ s.size ∧ i = .int .i64 k ∧ Nm.allD (s.data.toList.take k) = true) (fun i => s.size - (intOf i).toNat)
  case atStart => exact ⟨0, Nat.zero_le _, rfl, by simp [Nm.allD]⟩
  case round =>
    obtain ⟨k, hk, rfl, hall⟩ := hrel
    have Hall : Hid (Nm.allD (s.data.toList.take k) = true) := hall
    clear hall
    by_cases hlt : k < s.size
    · have hl : k < s.data.toList.length := by simpa using hlt
      go_wp2
      · go_ret
        exact Says.no rfl rfl
      · have hy : 48 ≤ (s[k].toNat : Int) ∧ (s[k].toNat : Int) ≤ 57 := by assumption
        have hst := allD_take_succ hl Hall.out ((isD_iff s[k]).2 hy)
        go_round
        case rel => exact ⟨k + 1, by omega, by go_num, hst⟩
        case measure => simp [intOf]; omega
      · go_ret
        exact Says.no rfl rfl
    · have hA : Nm.allD s.data.toList = true := by
        have := Hall.out
        rw [List.take_of_length_le (by simp; omega)] at this
        exact this
      have HA : Hid (Nm.allD s.data.toList = true) := hA
      clear hA
      by_cases h0 : s.size = 0
      · have hd : Nm.canon s.data.toList = true := by
          have : s.data.toList = [] := List.eq_nil_of_length_eq_zero (by simpa using h0)
          rw [this]; rfl
        have Hd : Hid (Nm.canon s.data.toList = true) := hd
        clear hd
        have h0' : decide ((0 : Int) < (s.size : Int)) = false := decide_eq_false (by omega)
        go_wp2
        go_ret
        exact Says.yes rfl Hd.out rfl
      · go_wp2
        · go_ret
          exact Says.no rfl rfl
        · go_ret
          exact Says.no rfl rfl
        · have hq' : ((s[0].toNat : Int) == 48) = false ∧ ((s[s.size - 1].toNat : Int) == 48) = false := by assumption
          have hd := canon_yes (by omega) HA.out hq'.1 hq'.2
          go_ret
          exact Says.yes rfl hd rfl

set_option maxHeartbeats 400000 in
theorem bytes1_any (s : ByteArray) (x : Int) (w : World) (hs : s.size ≤ maxLen) : Calls Tryd.prog 5 #[.string s, .int .i64 x] w (Says (s.size ≤ 1048576) w) := by
  unfold maxLen at hs
  by_cases h : 1048576 < s.size
  · go_enter Tryd.func5, Tryd.ntmps5
    go_wp2
    go_ret
    exact Says.no rfl rfl
  · go_enter Tryd.func5, Tryd.ntmps5
    go_wp2
    go_ret
    exact Says.yes rfl (by omega) rfl

set_option maxHeartbeats 400000 in
theorem bytes2_any (a : Bool) (s : ByteArray) (x : Int) (b : Bool) (t : ByteArray) (y : Int) (w : World) (hs : s.size ≤ maxLen) (ht : t.size ≤ maxLen) :
    Calls Tryd.prog 10 #[.bool a, .string s, .int .i64 x, .bool b, .string t, .int .i64 y] w (Says (s.size + t.size ≤ 1048576) w) := by
  unfold maxLen at hs ht
  by_cases h : 1048576 < s.size
  · go_enter Tryd.func10, Tryd.ntmps10
    go_wp2
    go_ret
    exact Says.no rfl rfl
  by_cases h2 : 1048576 < t.size
  · go_enter Tryd.func10, Tryd.ntmps10
    go_wp2
    go_ret
    exact Says.no rfl rfl
  by_cases h3 : 1048576 < s.size + t.size
  · have h3' : (1048576 : Int) < (s.size : Int) + (t.size : Int) := by omega
    go_enter Tryd.func10, Tryd.ntmps10
    go_wp2
    go_ret
    exact Says.no rfl rfl
  · have h3' : ¬ (1048576 : Int) < (s.size : Int) + (t.size : Int) := by omega
    go_enter Tryd.func10, Tryd.ntmps10
    go_wp2
    go_ret
    exact Says.yes rfl (by omega) rfl

/-- How many noughts the plain form needs. -/
def zeros (n : Nat) (e : Int) : Int := if (n : Int) ≤ e then e - n else if e ≤ 0 then -e else 0
set_option maxHeartbeats 400000 in
theorem zeros_any (s : ByteArray) (e : Int) (w : World) (hs : s.size ≤ 1048576) (h0 : -9223372036854775808 < e) (h1 : e ≤ 9223372036854775807) :
    Calls Tryd.prog 11 #[.string s, .int .i64 e] w fun r w' => r = .returned (.int .i64 (zeros s.size e)) ∧ w' = w := by
  unfold zeros
  by_cases h2 : (s.size : Int) ≤ e
  · rw [if_pos h2]
    go_enter Tryd.func11, Tryd.ntmps11
    go_wp2
    go_ret
    exact ⟨rfl, rfl⟩
  · rw [if_neg h2]
    by_cases h3 : e ≤ 0
    · rw [if_pos h3]
      go_enter Tryd.func11, Tryd.ntmps11
      go_wp2
      go_ret
      exact ⟨rfl, rfl⟩
    · rw [if_neg h3]
      go_enter Tryd.func11, Tryd.ntmps11
      go_wp2
      go_ret
      exact ⟨rfl, rfl⟩
end Go.Proofs.Qxb6628289aDoor
