/-
  FnAppendKeepsPrefixAndDecodesBack, walked. By an AI agent.
-/
import Derived.Test.Qxb6630601aDecode
namespace Go.Proofs.Qxb6630601a
open Go.RowKit

theorem below_trans' {a b c : World} (h : Below a.heap.size a b) (h' : Below b.heap.size b c) : Below a.heap.size a c := h.trans (h'.mono h.size)
theorem below_drewN {a b : World} (h : Below a.heap.size a b) (q : Nat) : Below a.heap.size a (b.drewN q) := ⟨h.os, h.tape, h.output, h.size, h.block⟩
theorem RowAt.drewN {w : World} {a : Option Addr} {l : List Int} (h : RowAt w a l) (q : Nat) : RowAt (w.drewN q) a l := h

set_option maxRecDepth 100000 in
set_option maxHeartbeats 1000000 in
theorem law2 (a : Option Addr) (cap : Nat) (l : List Int) (s : ByteArray) (w : World) (h : RowAt w a l) (hn : a = none → l = [] ∧ cap = 0) (hl : l.length ≤ maxLen) (hs : s.size ≤ maxLen) :
    Calls Try.prog 4 #[.slice a l.length cap, .string s] w fun e w' => e = .returned (.bool true) ∧ Below w.heap.size w w' := by
  have HR : Hid (RowAt w a l) := h
  have HA : Hid (a = none → l = [] ∧ cap = 0) := hn
  clear h hn
  go_enter Try.func4, Try.ntmps4
  go_wp2_with fail
  refine (bytes2_any a l.length cap s w hl hs).mono ?_
  rintro e w1 ⟨b, rfl, hb, rfl⟩
  cases b
  · clear hb
    go_wp2_with fail
    go_ret
    exact ⟨rfl, Below.refl _ _⟩
  have hle : l.length + s.size ≤ 1048576 := hb rfl
  clear hb
  have hg1 : ¬ (1048576 : Int) < (l.length : Int) := by omega
  have hg2 : ¬ (1048576 : Int) - (l.length : Int) < (s.size : Int) := by omega
  have hln : l.length ≤ 1048576 := by omega
  go_wp2_with fail
  refine (clone_any a cap l w1 HR.out hln HA.out).mono ?_
  rintro e w2 ⟨v2, rfl, ho2, hb2⟩
  obtain ⟨a2, c2, rfl, hn2, hr2, hz2, hc2, hm2, hx2⟩ := own_row ho2
  have HR2 : Hid (RowAt w2 a2 l) := hr2
  have HZ2 : Hid (a2 = none → l = [] ∧ c2 = 0) := hz2
  have HB2 : Hid (Below w1.heap.size w1 w2) := hb2
  clear hn2 hr2 hz2 hb2 hx2 ho2
  go_wp2_with fail
  refine (clone_any a2 c2 l w2 HR2.out hln HZ2.out).mono ?_
  rintro e w3 ⟨v3, rfl, ho3, hb3⟩
  have HO3 : Hid (w3.ownsRow w2.heap.size 5 1 v3 l.length (vals l)) := ho3
  have HB3 : Hid (Below w2.heap.size w2 w3) := hb3
  clear ho3 hb3
  go_wp2_with fail
  refine (app_any w2.heap.size v3 l.length l s w3 HO3.out HB3.out.size (by omega) (by omega)).mono ?_
  rintro e w4 ⟨v4, rfl, ho4, hb4⟩
  have HB4 : Hid (Below w2.heap.size w2 w4) := HB3.out.trans hb4
  have HR4 : Hid (RowAt w4 a2 l) := HR2.out.below HB4.out
  obtain ⟨a4, c4, rfl, hn4, hr4, hz4, hc4, hm4, hx4⟩ := own_row ho4
  have HW : Hid (RowAt w4 a4 (l ++ enc s.data.toList)) := hr4
  have HZ4 : Hid (a4 = none → l ++ enc s.data.toList = [] ∧ c4 = 0) := hz4
  clear ho4 hb4 hn4 hr4 hx4 hz4 HO3 HB3
  go_wp2_with fail
  refine (app_any w4.heap.size (.slice none 0 0) 0 [] s w4 (World.ownsRow_nil _ _ _ _) (Nat.le_refl _) (by omega) (by omega)).mono ?_
  rintro e w5 ⟨v5, rfl, ho5, hb5⟩
  obtain ⟨a5, c5, rfl, hn5, hr5, hz5, hc5, hm5, hx5⟩ := own_row ho5
  have HT : Hid (RowAt w5 a5 (enc s.data.toList)) := hr5
  have HR5 : Hid (RowAt w5 a2 l) := HR4.out.below hb5
  have HW5 : Hid (RowAt w5 a4 (l ++ enc s.data.toList)) := HW.out.below hb5
  have HL5 : Hid (RowAt w5 a4 l) := by
    have := HW5.out.take l.length
    rwa [List.take_left] at this
  have HB5 : Hid (Below w1.heap.size w1 w5) := below_trans' HB2.out (below_trans' HB4.out hb5)
  clear hr5 hb5 hn5 hx5 hz5 ho5 HW HR4 HR2 HB2 HB4 HR HA
  rw [Nat.zero_add] at hc5 ⊢
  obtain ⟨m, hm⟩ : ∃ m, m = (s.size + 1) / 2 := ⟨_, rfl⟩
  have HM : Hid (m = (s.size + 1) / 2) := hm
  have hm6 : m ≤ 600000 := by omega
  rw [← hm] at hc4 hc5 ⊢
  have HLE : Hid ((enc s.data.toList).length = m) := by
    show _ = _
    rw [enc_len, hm]; simp
  clear hm
  have H11 : Hid (allD s.data.toList = true → ∀ q : Nat, Calls Try.prog 11 #[.slice a5 m c5] (w5.drewN q) fun e w' => ∃ a9 c9, e = .returned (.tuple #[.slice a9 s.size c9, .bool true]) ∧ RowAt w' a9 (nums s.data.toList) ∧ Below w1.heap.size w1 w') := by
    intro hd q
    rw [HM.out]
    refine (dec_any a5 c5 s _ (HT.out.drewN q) (by omega) hd).mono ?_
    rintro e w' ⟨v, rfl, ho, hb⟩
    obtain ⟨a9, c9, rfl, _, hr, _⟩ := own_row ho
    exact ⟨a9, c9, rfl, hr, below_trans' (below_drewN HB5.out q) hb⟩
  have H8 : Hid (∀ (q : Nat) (x : Option Addr) (cc : Nat), (m = 0 ∨ ∃ ad, a4 = some ad ∧ x = some (ad.add l.length)) → Calls Try.prog 8 #[.slice x m cc, .slice a5 m c5] (w5.drewN q) fun e w' => e = .returned (.bool true) ∧ ∃ q2, w' = (w5.drewN q).drewN q2) := by
    intro q x cc hx
    have hr : RowAt (w5.drewN q) x (enc s.data.toList) := by
      intro h0
      rcases hx with hx | ⟨ad, rfl, rfl⟩
      · rw [HLE.out] at h0; omega
      · obtain ⟨b, o, e, hc⟩ := HW5.out (by rw [List.length_append]; omega)
        injection e with e
        subst e
        refine ⟨b, o + l.length, ?_, fun i hi => ?_⟩
        · congr 1
          unfold Addr.add
          split <;> simp_all
        · have := hc (l.length + i) (by rw [List.length_append]; omega)
          rw [show o + l.length + i = o + (l.length + i) by omega]
          refine (show (w5.drewN q).cell? ⟨b, o + (l.length + i), none⟩ = w5.cell? ⟨b, o + (l.length + i), none⟩ from rfl).trans (this.trans ?_)
          simp [List.getD_eq_getElem?_getD, List.getElem?_append_right]
    have := eq_any x cc (enc s.data.toList) a5 c5 (w5.drewN q) hr (HT.out.drewN q) (by rw [HLE.out]; omega)
    rw [HLE.out] at this
    exact this
  cases a4 with
  | none =>
    obtain ⟨hl0, hc0⟩ := HZ4.out rfl
    have hl1 : l = [] := (List.append_eq_nil_iff.1 hl0).1
    have hm0 : m = 0 := by rw [← HLE.out, (List.append_eq_nil_iff.1 hl0).2]; rfl
    subst hl1 hm0 hc0
    clear hl0 HZ4 hc4
    go_wp2_with fail
    refine (eq_any none 0 [] a2 c2 w5 HL5.out HR5.out (by simp)).mono ?_
    rintro e w6 ⟨rfl, q, rfl⟩
    go_wp2_with fail
    refine (H8.out q _ _ (.inl (by trivial))).mono ?_
    rintro e w7 ⟨rfl, q2, rfl⟩
    go_wp2_with fail
    refine (digits_any s _ (by omega)).mono ?_
    rintro e w8 ⟨r, rfl, hd, rfl⟩
    cases r
    · clear hd
      go_wp2_with fail
      go_ret
      exact ⟨rfl, below_drewN HB5.out _⟩
    have HD : Hid (allD s.data.toList = true) := hd rfl
    clear hd
    have HX := H11.out HD.out (q + q2)
    go_wp2_with fail
    refine HX.mono ?_
    rintro e w9 ⟨a9, c9, rfl, hr9, hb9⟩
    have HR9 : Hid (RowAt w9 a9 (nums s.data.toList)) := hr9
    have HB9 : Hid (Below w1.heap.size w1 w9) := hb9
    clear hr9 hb9
    go_wp2_with fail
    refine (eqs_any a9 c9 s w9 HR9.out (by omega)).mono ?_
    rintro e w10 ⟨rfl, q3, rfl⟩
    go_wp2_with fail
    go_ret
    exact ⟨rfl, below_drewN HB9.out q3⟩
  | some ad =>
    go_wp2_with fail
    refine (eq_any (some ad) c4 l a2 c2 w5 HL5.out HR5.out (by omega)).mono ?_
    rintro e w6 ⟨rfl, q, rfl⟩
    by_cases hcc : l.length = c4
    · have hm0 : m = 0 := by omega
      have hcc1 : ¬ l.length < c4 := by omega
      subst hm0
      go_wp2_with fail
      refine (H8.out q _ _ (.inl (by trivial))).mono ?_
      rintro e w7 ⟨rfl, q2, rfl⟩
      go_wp2_with fail
      refine (digits_any s _ (by omega)).mono ?_
      rintro e w8 ⟨r, rfl, hd, rfl⟩
      cases r
      · clear hd
        go_wp2_with fail
        go_ret
        exact ⟨rfl, below_drewN HB5.out _⟩
      have HD : Hid (allD s.data.toList = true) := hd rfl
      clear hd
      have HX := H11.out HD.out (q + q2)
      go_wp2_with fail
      refine HX.mono ?_
      rintro e w9 ⟨a9, c9, rfl, hr9, hb9⟩
      have HR9 : Hid (RowAt w9 a9 (nums s.data.toList)) := hr9
      have HB9 : Hid (Below w1.heap.size w1 w9) := hb9
      clear hr9 hb9
      go_wp2_with fail
      refine (eqs_any a9 c9 s w9 HR9.out (by omega)).mono ?_
      rintro e w10 ⟨rfl, q3, rfl⟩
      go_wp2_with fail
      go_ret
      exact ⟨rfl, below_drewN HB9.out q3⟩
    · have hcc1 : l.length < c4 := by omega
      go_wp2_with fail
      refine (H8.out q _ _ (.inr ⟨ad, rfl, rfl⟩)).mono ?_
      rintro e w7 ⟨rfl, q2, rfl⟩
      go_wp2_with fail
      refine (digits_any s _ (by omega)).mono ?_
      rintro e w8 ⟨r, rfl, hd, rfl⟩
      cases r
      · clear hd
        go_wp2_with fail
        go_ret
        exact ⟨rfl, below_drewN HB5.out _⟩
      have HD : Hid (allD s.data.toList = true) := hd rfl
      clear hd
      have HX := H11.out HD.out (q + q2)
      go_wp2_with fail
      refine HX.mono ?_
      rintro e w9 ⟨a9, c9, rfl, hr9, hb9⟩
      have HR9 : Hid (RowAt w9 a9 (nums s.data.toList)) := hr9
      have HB9 : Hid (Below w1.heap.size w1 w9) := hb9
      clear hr9 hb9
      go_wp2_with fail
      refine (eqs_any a9 c9 s w9 HR9.out (by omega)).mono ?_
      rintro e w10 ⟨rfl, q3, rfl⟩
      go_wp2_with fail
      go_ret
      exact ⟨rfl, below_drewN HB9.out q3⟩
end Go.Proofs.Qxb6630601a
