/-
  FnAppendSplitsAtEvenCut, walked. By an AI agent.
-/
import Derived.Test.Qxb6630601aAppend
import Derived.Deep.RegionWith
import Derived.Deep.CutRange
namespace Go.Proofs.Qxb6630601a
open Go.RowKit

theorem below_trans {a b c : World} (h : Below a.heap.size a b) (h' : Below b.heap.size b c) : Below a.heap.size a c := h.trans (h'.mono h.size)

theorem size_list (s : ByteArray) : s.data.toList.length = s.size := by simp
theorem cut_enc (l : List Int) (s : ByteArray) (j : Nat) (h : j % 2 = 0) (hj : j ≤ s.size) : l ++ enc (s.extract 0 j).data.toList ++ enc (s.extract j s.size).data.toList = l ++ enc s.data.toList := by
  have e1 : (s.extract 0 j).data.toList = s.data.toList.take j := by rw [Lib.extract_data]; simp
  have e2 : (s.extract j s.size).data.toList = s.data.toList.drop j := by
    rw [Lib.extract_data]
    exact List.take_of_length_le (by simp)
  rw [e1, e2, List.append_assoc, ← enc_append _ _ (by rw [List.length_take, size_list]; omega), List.take_append_drop]

set_option maxRecDepth 100000 in
set_option maxHeartbeats 1000000 in
theorem law1 (a : Option Addr) (cap : Nat) (l : List Int) (s : ByteArray) (k : Int) (w : World) (h : RowAt w a l) (hn : a = none → l = [] ∧ cap = 0) (hl : l.length ≤ maxLen) (hs : s.size ≤ maxLen) :
    Calls Try.prog 3 #[.slice a l.length cap, .string s, .int .i64 k] w fun e w' => e = .returned (.bool true) ∧ Below w.heap.size w w' := by
  have HR : Hid (RowAt w a l) := h
  have HA : Hid (a = none → l = [] ∧ cap = 0) := hn
  clear h hn
  go_enter Try.func3, Try.ntmps3
  go_wp2_with fail
  refine (bytes1_any a l.length cap s k w hl hs).mono ?_
  rintro e w1 ⟨b, rfl, hb, rfl⟩
  cases b
  · clear hb
    go_wp2_with fail
    go_ret
    exact ⟨rfl, Below.refl _ _⟩
  have hle : l.length + s.size ≤ 1048576 := hb rfl
  clear hb
  have hg1 : ¬ (1048576 : Int) < (l.length : Int) := by omega
  have hg2 : ¬ (1048576 : Int) - (l.length : Int) < (s.size : Int) := by omega
  by_cases hk0 : k < 0
  · go_wp2_with fail
    go_ret
    exact ⟨rfl, Below.refl _ _⟩
  obtain ⟨j, rfl⟩ : ∃ j : Nat, k = (j : Int) := ⟨k.toNat, by omega⟩
  by_cases hk1 : s.size < j
  · go_wp2_with fail
    go_ret
    exact ⟨rfl, Below.refl _ _⟩
  have hkg : decide ((s.size : Int) < (j : Int)) = false := decide_eq_false (by omega)
  by_cases hk2 : j % 2 = 1
  · have hk3 : (j : Int) % 2 = 1 := by omega
    go_wp2_with fail
    go_ret
    exact ⟨rfl, Below.refl _ _⟩
  have hk3 : (j : Int) % 2 = 0 := by omega
  have HJ : Hid (j % 2 = 0) := by
    show _ = _
    omega
  clear hk2
  have hln : l.length ≤ 1048576 := by omega
  go_wp2_with fail
  refine (clone_any a cap l w1 HR.out hln HA.out).mono ?_
  rintro e w2 ⟨v2, rfl, ho2, hb2⟩
  obtain ⟨a2, c2, rfl, hn2, hr2, hz2, hc2, hm2, hx2⟩ := own_row ho2
  have HR2 : Hid (RowAt w2 a2 l) := hr2
  have HZ2 : Hid (a2 = none → l = [] ∧ c2 = 0) := hz2
  have HB2 : Hid (Below w1.heap.size w1 w2) := hb2
  clear hn2 hr2 hz2 hb2 hx2 ho2
  go_wp2_with fail
  refine (clone_any a2 c2 l w2 HR2.out hln HZ2.out).mono ?_
  rintro e w3 ⟨v3, rfl, ho3, hb3⟩
  have HO3 : Hid (w3.ownsRow w2.heap.size 5 1 v3 l.length (vals l)) := ho3
  have HB3 : Hid (Below w2.heap.size w2 w3) := hb3
  clear ho3 hb3
  go_wp2_with fail
  refine (app_any w2.heap.size v3 l.length l s w3 HO3.out HB3.out.size (by omega) (by omega)).mono ?_
  rintro e w4 ⟨v4, rfl, ho4, hb4⟩
  have HB4 : Hid (Below w2.heap.size w2 w4) := HB3.out.trans hb4
  have HR4 : Hid (RowAt w4 a2 l) := HR2.out.below HB4.out
  obtain ⟨a4, c4, rfl, hn4, hr4, hz4, hc4, hm4, hx4⟩ := own_row ho4
  have HW : Hid (RowAt w4 a4 (l ++ enc s.data.toList)) := hr4
  have HZ4 : Hid (a4 = none → l ++ enc s.data.toList = [] ∧ c4 = 0) := hz4
  clear ho4 hb4 hn4 hr4 hx4 hz4 HO3 HB3
  go_wp2_with fail
  go_cut [8] from 42 to 51 (fun v wc => ∃ a6 c6, v = .slice a6 (l.length + (s.size + 1) / 2) c6 ∧ RowAt wc a6 (l ++ enc s.data.toList) ∧ Below w4.heap.size w4 wc)
  case first =>
    have H6 : Hid (Calls Try.prog 6 #[.slice a2 l.length c2] w4.drew fun e w' => ∃ v, e = .returned v ∧ w'.ownsRow w4.heap.size 5 1 v l.length (vals l) ∧ Below w4.heap.size w4 w') := by
      refine (clone_any a2 c2 l w4.drew HR4.out hln HZ2.out).mono ?_
      rintro e w' ⟨v, he, ho, hb⟩
      exact ⟨v, he, ho, ⟨hb.os, hb.tape, hb.output, hb.size, hb.block⟩⟩
    have H7 : Hid (∀ (W : World) (v : Value) (n : Nat) (l' : List Int) (s' : ByteArray), W.ownsRow w4.heap.size 5 1 v n (vals l') → Below w4.heap.size w4 W → n ≤ 4000000 → s'.size ≤ 1048576 →
        Calls Try.prog 7 #[v, .string s'] W fun e w' => ∃ v', e = .returned v' ∧ w'.ownsRow w4.heap.size 5 1 v' (n + (s'.size + 1) / 2) (vals (l' ++ enc s'.data.toList)) ∧ Below w4.heap.size w4 w') := by
      intro W v n l' s' ho hb hn hs
      refine (app_any w4.heap.size v n l' s' W ho hb.size hn hs).mono ?_
      rintro e w' ⟨v', he, ho', hb'⟩
      exact ⟨v', he, ho', hb.trans hb'⟩
    have HP : Hid ((s.extract 0 j).size ≤ 1048576 ∧ (s.extract j s.size).size ≤ 1048576) := by
      refine ⟨?_, ?_⟩ <;> simp <;> omega
    have HQ : Hid (l.length ≤ 4000000 ∧ l.length + ((s.extract 0 j).size + 1) / 2 ≤ 4000000) := by
      refine ⟨by omega, ?_⟩
      simp
      omega
    go_region_with (first
      | (go_at_call 6; refine H6.out.mono ?_; rintro e w5 ⟨v5, rfl, ho5, hb5⟩; have HO5 : Hid (w5.ownsRow w4.heap.size 5 1 v5 l.length (vals l)) := ho5; have HB5 : Hid (Below w4.heap.size w4 w5) := hb5; clear ho5 hb5)
      | (go_at_call 7; refine (H7.out w6 v6 _ _ (s.extract j s.size) HO6.out HB6.out HQ.out.2 HP.out.2).mono ?_; rintro e w7 ⟨v7, rfl, ho7, hb7⟩; have HO7 : Hid (w7.ownsRow w4.heap.size 5 1 v7 (l.length + ((s.extract 0 j).size + 1) / 2 + ((s.extract j s.size).size + 1) / 2) (vals (l ++ enc (s.extract 0 j).data.toList ++ enc (s.extract j s.size).data.toList))) := ho7; have HB7 : Hid (Below w4.heap.size w4 w7) := hb7; clear ho7 hb7)
      | (go_at_call 7; refine (H7.out w5 v5 _ _ (s.extract 0 j) HO5.out HB5.out HQ.out.1 HP.out.1).mono ?_; rintro e w6 ⟨v6, rfl, ho6, hb6⟩; have HO6 : Hid (w6.ownsRow w4.heap.size 5 1 v6 (l.length + ((s.extract 0 j).size + 1) / 2) (vals (l ++ enc (s.extract 0 j).data.toList))) := ho6; have HB6 : Hid (Below w4.heap.size w4 w6) := hb6; clear ho6 hb6))
    all_goals go_wp2_with fail
    all_goals go_meet
    all_goals
      obtain ⟨a6, c6, rfl, hn6, hr6, _, _, _, _⟩ := own_row HO7.out
      have e6 : l ++ enc (s.extract 0 j).data.toList ++ enc (s.extract j s.size).data.toList = l ++ enc s.data.toList := cut_enc l s j HJ.out (by omega)
      rw [e6] at hr6 hn6
      rw [hn6, List.length_append, enc_len, size_list]
      exact ⟨a6, c6, rfl, hr6, HB7.out⟩
  case rest =>
    obtain ⟨a6, c6, rfl, hr6, hb6⟩ := hcut
    have HR6 : Hid (RowAt wc a6 (l ++ enc s.data.toList)) := hr6
    have HB6 : Hid (Below w1.heap.size w1 wc) := below_trans HB2.out (below_trans HB4.out hb6)
    have HW6 : Hid (RowAt wc a4 (l ++ enc s.data.toList)) := HW.out.below hb6
    have HL6 : Hid (RowAt wc a4 l) := by
      have := HW6.out.take l.length
      rwa [List.take_left] at this
    have HC6 : Hid (RowAt wc a2 l) := HR4.out.below hb6
    clear hr6 hb6 HW HR4 HR2 HB2 HB4 HR HA
    have hlen : (l ++ enc s.data.toList).length = l.length + (s.size + 1) / 2 := by rw [List.length_append, enc_len]; simp
    obtain ⟨m, hm⟩ : ∃ m, m = l.length + (s.size + 1) / 2 := ⟨_, rfl⟩
    have HM : Hid (m = l.length + (s.size + 1) / 2) := hm
    have hmi : (m : Int) = (l.length : Int) + ((s.size : Int) + 1) / 2 := by omega
    have hlm : l.length ≤ m := by omega
    rw [← hm] at hc4 hlen ⊢
    have HLEN : Hid ((l ++ enc s.data.toList).length = m) := hlen
    clear hm hlen
    generalize l ++ enc s.data.toList = ll at *
    cases a4 with
    | none =>
      obtain ⟨hl0, hc0⟩ := HZ4.out rfl
      have hm0 : m = 0 := by rw [← HLEN.out, hl0]; rfl
      have hl1 : l = [] := List.eq_nil_of_length_eq_zero (by omega)
      have hs0 : s.size = 0 := by have := HM.out; omega
      subst hl0 hc0 hm0 hl1
      clear hmi HM HZ4 hc4
      go_wp2_with fail
      refine (eq_any none 0 [] a2 c2 wc HL6.out HC6.out (by simp)).mono ?_
      rintro e w7 ⟨rfl, q, rfl⟩
      go_wp2_with fail
      refine (eq_any none 0 [] a6 c6 (wc.drewN q) HW6.out HR6.out (by simp)).mono ?_
      rintro e w8 ⟨rfl, q2, rfl⟩
      go_wp2_with fail
      go_ret
      exact ⟨rfl, ⟨HB6.out.os, HB6.out.tape, HB6.out.output, HB6.out.size, HB6.out.block⟩⟩
    | some ad =>
      go_wp2_with fail
      refine (eq_any (some ad) c4 l a2 c2 wc HL6.out HC6.out (by omega)).mono ?_
      rintro e w7 ⟨rfl, q, rfl⟩
      have H8 : Hid (∀ W : World, W.heap = wc.heap → Calls Try.prog 8 #[.slice (some ad) m c4, .slice a6 m c6] W fun e w' => e = .returned (.bool true) ∧ ∃ q, w' = W.drewN q) := by
        intro W hW
        have r1 : RowAt W (some ad) ll := fun h0 => by
          obtain ⟨b, o, e, hc⟩ := HW6.out h0
          exact ⟨b, o, e, fun i hi => (World.cell?_of_block (w := wc) (by rw [hW])).trans (hc i hi)⟩
        have r2 : RowAt W a6 ll := fun h0 => by
          obtain ⟨b, o, e, hc⟩ := HR6.out h0
          exact ⟨b, o, e, fun i hi => (World.cell?_of_block (w := wc) (by rw [hW])).trans (hc i hi)⟩
        have := eq_any (some ad) c4 ll a6 c6 W r1 r2 (by rw [HLEN.out]; omega)
        rw [HLEN.out] at this
        exact this
      go_wp2_with fail
      refine (H8.out (wc.drewN q) rfl).mono ?_
      rintro e w8 ⟨rfl, q2, rfl⟩
      go_wp2_with fail
      go_ret
      exact ⟨rfl, ⟨HB6.out.os, HB6.out.tape, HB6.out.output, HB6.out.size, HB6.out.block⟩⟩
end Go.Proofs.Qxb6630601a
