import Derived.Test.Qxb6628289aDoorSmall
import Derived.Lib.Strings
namespace Go.Proofs.Qxb6628289aDoor
open Go.RowKit

/-- The string of a list of bytes. -/
abbrev S (l : List UInt8) : ByteArray := ⟨l.toArray⟩
theorem S_list (l : List UInt8) : (S l).data.toList = l := by simp
theorem S_of (s : ByteArray) : s = S s.data.toList := by cases s; simp [S]

theorem val_take_lt {l : List UInt8} (h : Nm.allD l = true) : ∀ k, k ≤ l.length → Nm.val (l.take k) < 10 ^ k
  | 0, _ => by simp [Nm.val]
  | k + 1, hk => by
    rw [List.take_succ_eq_append_getElem (by omega), Nm.val_append_one]
    have h1 := val_take_lt h k (by omega)
    have h2 := Nm.mem_allD h (List.getElem_mem (show k < l.length by omega))
    rw [Nat.pow_succ]
    omega
theorem val_take_succ {l : List UInt8} {k : Nat} (hk : k < l.length) : Nm.val (l.take (k + 1)) = Nm.val (l.take k) * 10 + (l[k].toNat - 48) := by
  rw [List.take_succ_eq_append_getElem hk, Nm.val_append_one]

set_option maxRecDepth 100000 in
set_option maxHeartbeats 400000 in
theorem pe_pos (s : ByteArray) (w : World) (hA : Nm.allD s.data.toList = true) (h0 : 0 < s.size) (h19 : s.size ≤ 19) (hz : 1 < s.size → s[0] ≠ 48) (hv : Nm.val s.data.toList ≤ 9223372036854775807) :
    Calls Tryd.prog 19 #[.string s] w fun e w' => e = .returned (.tuple #[.int .i64 (Nm.val s.data.toList), .bool true]) ∧ w' = w := by
  have hd : Nm.digs s.data.toList = true := by
    unfold Nm.digs
    rw [hA]
    cases h : s.data.toList with
    | nil =>
      have h3 : s.data.toList.length = s.size := by simp
      rw [h] at h3
      have h4 : s.size = 0 := h3.symm
      omega
    | cons a l => rfl
  have hc0 := Nm.mem_allD hA (List.getElem_mem (show 0 < s.data.toList.length by simpa using h0))
  have hne : ((s[0].toNat : Int) == 45) = false := beq_eq_false_iff_ne.2 (by have : s.data.toList[0]'(by simpa using h0) = s[0] := rfl; rw [this] at hc0; omega)
  have Hd : Hid (Nm.digs s.data.toList = true) := hd
  have HA : Hid (Nm.allD s.data.toList = true) := hA
  have Hz : Hid (1 < s.size → s[0] ≠ 48) := hz
  clear hd hA hz hc0
  go_enter Tryd.func19, Tryd.ntmps19
  go_wp2_with fail
  refine (digs_any s w (by unfold maxLen; omega)).mono ?_
  rintro e w1 ⟨he, rfl⟩
  rw [Hd.out] at he
  subst he
  by_cases h1 : 1 < s.size
  · have hz0 : ((s[0].toNat : Int) == 48) = false := by
      have := Hz.out h1
      refine beq_eq_false_iff_ne.2 fun e => this (UInt8.toNat_inj.1 ?_)
      have : (48 : UInt8).toNat = 48 := rfl
      omega
    go_wp2_with fail
    go_loop [5, 6] (fun uv i => ∃ k : Nat, k ≤ s.size ∧ i = .int .i64 k ∧ uv = .int .u64 (Nm.val (s.data.toList.take k))) (fun _ i => s.size - (intOf i).toNat)
    case atStart => exact ⟨0, Nat.zero_le _, rfl, rfl⟩
    case round =>
      obtain ⟨k, hk, rfl, rfl⟩ := hrel
      by_cases hlt : k < s.size
      · have hl : k < s.data.toList.length := by simpa using hlt
        have hb1 := val_take_lt HA.out (k + 1) (by omega)
        have hb2 := val_take_succ hl
        have hb3 : (10 : Nat) ^ (k + 1) ≤ 10000000000000000000 := Nat.le_trans (Nat.pow_le_pow_right (by decide) (show k + 1 ≤ 19 by omega)) (by decide)
        have hb4 := Nm.mem_allD HA.out (List.getElem_mem hl)
        have he : s.data.toList[k] = s[k] := rfl
        rw [he] at hb4 hb2
        obtain ⟨c, hc⟩ : ∃ c, s[k].toNat = c := ⟨_, rfl⟩
        rw [hc] at hb4 hb2
        obtain ⟨u, hu⟩ : ∃ u, Nm.val (s.data.toList.take k) = u := ⟨_, rfl⟩
        rw [hu] at hb2
        have hu1 : u * 10 + (c - 48) < 10000000000000000000 := by omega
        have Hb2 : Hid (Nm.val (s.data.toList.take (k + 1)) = u * 10 + (c - 48)) := hb2
        clear hb1 hb2 hb3 he
        simp only [hu]
        clear hu
        have hcc : (s[k].toNat : Int) = (c : Int) := by omega
        clear hc
        go_wp2_with fail
        go_round
        case rel => exact ⟨k + 1, by omega, by go_num, by rw [Hb2.out]; go_num⟩
        case measure => simp [intOf]; omega
      · have htk : s.data.toList.take k = s.data.toList := List.take_of_length_le (by simp; omega)
        rw [htk]
        clear htk
        obtain ⟨u, hu⟩ : ∃ u, Nm.val s.data.toList = u := ⟨_, rfl⟩
        rw [hu] at hv ⊢
        go_wp2_with fail
        go_ret2
        exact ⟨rfl, rfl⟩
  · have h1' : decide ((1 : Int) < (s.size : Int)) = false := decide_eq_false (by omega)
    go_wp2_with fail
    go_loop [5, 6] (fun uv i => ∃ k : Nat, k ≤ s.size ∧ i = .int .i64 k ∧ uv = .int .u64 (Nm.val (s.data.toList.take k))) (fun _ i => s.size - (intOf i).toNat)
    case atStart => exact ⟨0, Nat.zero_le _, rfl, rfl⟩
    case round =>
      obtain ⟨k, hk, rfl, rfl⟩ := hrel
      by_cases hlt : k < s.size
      · have hl : k < s.data.toList.length := by simpa using hlt
        have hb1 := val_take_lt HA.out (k + 1) (by omega)
        have hb2 := val_take_succ hl
        have hb3 : (10 : Nat) ^ (k + 1) ≤ 10000000000000000000 := Nat.le_trans (Nat.pow_le_pow_right (by decide) (show k + 1 ≤ 19 by omega)) (by decide)
        have hb4 := Nm.mem_allD HA.out (List.getElem_mem hl)
        have he : s.data.toList[k] = s[k] := rfl
        rw [he] at hb4 hb2
        obtain ⟨c, hc⟩ : ∃ c, s[k].toNat = c := ⟨_, rfl⟩
        rw [hc] at hb4 hb2
        obtain ⟨u, hu⟩ : ∃ u, Nm.val (s.data.toList.take k) = u := ⟨_, rfl⟩
        rw [hu] at hb2
        have hu1 : u * 10 + (c - 48) < 10000000000000000000 := by omega
        have Hb2 : Hid (Nm.val (s.data.toList.take (k + 1)) = u * 10 + (c - 48)) := hb2
        clear hb1 hb2 hb3 he
        simp only [hu]
        clear hu
        have hcc : (s[k].toNat : Int) = (c : Int) := by omega
        clear hc
        go_wp2_with fail
        go_round
        case rel => exact ⟨k + 1, by omega, by go_num, by rw [Hb2.out]; go_num⟩
        case measure => simp [intOf]; omega
      · have htk : s.data.toList.take k = s.data.toList := List.take_of_length_le (by simp; omega)
        rw [htk]
        clear htk
        obtain ⟨u, hu⟩ : ∃ u, Nm.val s.data.toList = u := ⟨_, rfl⟩
        rw [hu] at hv ⊢
        go_wp2_with fail
        go_ret2
        exact ⟨rfl, rfl⟩
set_option maxRecDepth 100000 in
set_option maxHeartbeats 400000 in
theorem pe_neg (s' s : ByteArray) (w : World) (hst : s'.data.toList = 45 :: s.data.toList) (hA : Nm.allD s.data.toList = true) (h0 : 0 < s.size) (h19 : s.size ≤ 19) (hz : 1 < s.size → s[0] ≠ 48) (hv : Nm.val s.data.toList ≤ 9223372036854775807) (hv0 : 0 < Nm.val s.data.toList) :
    Calls Tryd.prog 19 #[.string s'] w fun e w' => e = .returned (.tuple #[.int .i64 (-(Nm.val s.data.toList : Int)), .bool true]) ∧ w' = w := by
  have hd : Nm.digs s.data.toList = true := by
    unfold Nm.digs
    rw [hA]
    cases h : s.data.toList with
    | nil =>
      have h3 : s.data.toList.length = s.size := by simp
      rw [h] at h3
      have h4 : s.size = 0 := h3.symm
      omega
    | cons a l => rfl
  have hs1 : s'.size = s.size + 1 := by
    have h3 : s'.data.toList.length = s'.size := by simp
    rw [hst] at h3
    have h4 : s.data.toList.length = s.size := by simp
    rw [List.length_cons, h4] at h3
    omega
  have hpos : 0 < s'.size := by omega
  have hne : ((s'[0].toNat : Int) == 45) = true := by
    have h5 : s'.data.toList[0]'(by simpa using hpos) = s'[0] := rfl
    have h6 : s'.data.toList[0]'(by simpa using hpos) = 45 := by simp [hst]
    rw [← h5, h6]; rfl
  have hext : s'.extract 1 s'.size = s := by
    apply ByteArray.ext
    apply Array.toList_inj.1
    rw [Lib.extract_data, hst, hs1]
    exact List.take_of_length_le (by simp)
  have hle : s'.size ≤ 20 := by omega
  clear hs1 hst
  have Hd : Hid (Nm.digs s.data.toList = true) := hd
  have HA : Hid (Nm.allD s.data.toList = true) := hA
  have Hz : Hid (1 < s.size → s[0] ≠ 48) := hz
  clear hd hA hz
  go_enter Tryd.func19, Tryd.ntmps19
  go_wp2_with fail
  refine (digs_any s w (by unfold maxLen; omega)).mono ?_
  rintro e w1 ⟨he, rfl⟩
  rw [Hd.out] at he
  subst he
  by_cases h1 : 1 < s.size
  · have hz0 : ((s[0].toNat : Int) == 48) = false := by
      have := Hz.out h1
      refine beq_eq_false_iff_ne.2 fun e => this (UInt8.toNat_inj.1 ?_)
      have : (48 : UInt8).toNat = 48 := rfl
      omega
    go_wp2_with fail
    go_loop [5, 6] (fun uv i => ∃ k : Nat, k ≤ s.size ∧ i = .int .i64 k ∧ uv = .int .u64 (Nm.val (s.data.toList.take k))) (fun _ i => s.size - (intOf i).toNat)
    case atStart => exact ⟨0, Nat.zero_le _, rfl, rfl⟩
    case round =>
      obtain ⟨k, hk, rfl, rfl⟩ := hrel
      by_cases hlt : k < s.size
      · have hl : k < s.data.toList.length := by simpa using hlt
        have hb1 := val_take_lt HA.out (k + 1) (by omega)
        have hb2 := val_take_succ hl
        have hb3 : (10 : Nat) ^ (k + 1) ≤ 10000000000000000000 := Nat.le_trans (Nat.pow_le_pow_right (by decide) (show k + 1 ≤ 19 by omega)) (by decide)
        have hb4 := Nm.mem_allD HA.out (List.getElem_mem hl)
        have he : s.data.toList[k] = s[k] := rfl
        rw [he] at hb4 hb2
        obtain ⟨c, hc⟩ : ∃ c, s[k].toNat = c := ⟨_, rfl⟩
        rw [hc] at hb4 hb2
        obtain ⟨u, hu⟩ : ∃ u, Nm.val (s.data.toList.take k) = u := ⟨_, rfl⟩
        rw [hu] at hb2
        have hu1 : u * 10 + (c - 48) < 10000000000000000000 := by omega
        have Hb2 : Hid (Nm.val (s.data.toList.take (k + 1)) = u * 10 + (c - 48)) := hb2
        clear hb1 hb2 hb3 he
        simp only [hu]
        clear hu
        have hcc : (s[k].toNat : Int) = (c : Int) := by omega
        clear hc
        go_wp2_with fail
        go_round
        case rel => exact ⟨k + 1, by omega, by go_num, by rw [Hb2.out]; go_num⟩
        case measure => simp [intOf]; omega
      · have htk : s.data.toList.take k = s.data.toList := List.take_of_length_le (by simp; omega)
        rw [htk]
        clear htk
        obtain ⟨u, hu⟩ : ∃ u, Nm.val s.data.toList = u := ⟨_, rfl⟩
        rw [hu] at hv hv0 ⊢
        have hu0 : ((u : Int) == 0) = false := beq_eq_false_iff_ne.2 (by omega)
        go_wp2_with fail
        go_ret2
        exact ⟨rfl, rfl⟩
  · have h1' : decide ((1 : Int) < (s.size : Int)) = false := decide_eq_false (by omega)
    go_wp2_with fail
    go_loop [5, 6] (fun uv i => ∃ k : Nat, k ≤ s.size ∧ i = .int .i64 k ∧ uv = .int .u64 (Nm.val (s.data.toList.take k))) (fun _ i => s.size - (intOf i).toNat)
    case atStart => exact ⟨0, Nat.zero_le _, rfl, rfl⟩
    case round =>
      obtain ⟨k, hk, rfl, rfl⟩ := hrel
      by_cases hlt : k < s.size
      · have hl : k < s.data.toList.length := by simpa using hlt
        have hb1 := val_take_lt HA.out (k + 1) (by omega)
        have hb2 := val_take_succ hl
        have hb3 : (10 : Nat) ^ (k + 1) ≤ 10000000000000000000 := Nat.le_trans (Nat.pow_le_pow_right (by decide) (show k + 1 ≤ 19 by omega)) (by decide)
        have hb4 := Nm.mem_allD HA.out (List.getElem_mem hl)
        have he : s.data.toList[k] = s[k] := rfl
        rw [he] at hb4 hb2
        obtain ⟨c, hc⟩ : ∃ c, s[k].toNat = c := ⟨_, rfl⟩
        rw [hc] at hb4 hb2
        obtain ⟨u, hu⟩ : ∃ u, Nm.val (s.data.toList.take k) = u := ⟨_, rfl⟩
        rw [hu] at hb2
        have hu1 : u * 10 + (c - 48) < 10000000000000000000 := by omega
        have Hb2 : Hid (Nm.val (s.data.toList.take (k + 1)) = u * 10 + (c - 48)) := hb2
        clear hb1 hb2 hb3 he
        simp only [hu]
        clear hu
        have hcc : (s[k].toNat : Int) = (c : Int) := by omega
        clear hc
        go_wp2_with fail
        go_round
        case rel => exact ⟨k + 1, by omega, by go_num, by rw [Hb2.out]; go_num⟩
        case measure => simp [intOf]; omega
      · have htk : s.data.toList.take k = s.data.toList := List.take_of_length_le (by simp; omega)
        rw [htk]
        clear htk
        obtain ⟨u, hu⟩ : ∃ u, Nm.val s.data.toList = u := ⟨_, rfl⟩
        rw [hu] at hv hv0 ⊢
        have hu0 : ((u : Int) == 0) = false := beq_eq_false_iff_ne.2 (by omega)
        go_wp2_with fail
        go_ret2
        exact ⟨rfl, rfl⟩

end Go.Proofs.Qxb6628289aDoor
