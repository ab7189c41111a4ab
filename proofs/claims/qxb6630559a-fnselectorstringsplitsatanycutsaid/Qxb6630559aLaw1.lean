/-
  FnSelectorStringSplitsAtAnyCut, walked. By an AI agent.
-/
import Derived.Test.Qxb6630559aPlain
namespace Go.Proofs.Qxb6630559a
open Go.RowKit

set_option maxRecDepth 100000 in
set_option maxHeartbeats 1000000 in
theorem law1 (a : Option Addr) (cap : Nat) (R : List Rq) (x : Int) (w : World) (h : ReqAt w a R) (hl : R.length ≤ maxLen) (hz : ∀ i, i < R.length → (R.getD i Rq.zero).key.size ≤ maxLen ∧ (R.getD i Rq.zero).val.size ≤ maxLen) :
    Calls Try.prog 3 #[.slice a R.length cap, .int .i64 x] w fun e w' => e = .returned (.bool true) ∧ Below w.heap.size w w' := by
  have HR : Hid (ReqAt w a R) := h
  have HZ : Hid (∀ i, i < R.length → (R.getD i Rq.zero).key.size ≤ maxLen ∧ (R.getD i Rq.zero).val.size ≤ maxLen) := hz
  clear h hz
  go_enter Try.func3, Try.ntmps3
  go_wp2_with fail
  refine (bytes1_any a cap R x w HR.out hl HZ.out).mono ?_
  rintro e w1 ⟨r, rfl, _, q1, rfl⟩
  cases r
  · go_wp2_with fail
    go_ret
    exact ⟨rfl, drewN_below _ _⟩
  by_cases hn : 65536 < R.length
  · go_wp2_with fail
    go_ret
    exact ⟨rfl, drewN_below _ _⟩
  go_wp2_with fail
  refine (within_any a cap R 0 (w.drewN q1) HR.out hl (by omega) HZ.out).mono ?_
  rintro e w2 ⟨r, rfl, hb, q2, rfl⟩
  cases r
  · clear hb
    go_wp2_with fail
    go_ret
    exact ⟨rfl, drewN_below _ _⟩
  have HL : Hid (40 * R.length + lens R ≤ 1048576) := by
    have := hb rfl
    show _ ≤ _
    omega
  clear hb
  by_cases hx0 : x < 0
  · go_wp2_with fail
    go_ret
    exact ⟨rfl, drewN_below _ _⟩
  obtain ⟨j, rfl⟩ : ∃ j : Nat, x = (j : Int) := ⟨x.toNat, by omega⟩
  by_cases hj : R.length < j
  · go_wp2_with fail
    go_ret
    exact ⟨rfl, drewN_below _ _⟩
  have hjg : decide ((R.length : Int) < (j : Int)) = false := decide_eq_false (by omega)
  go_wp2_with fail
  refine (tosel_any a cap R (w.drewN (q1 + q2)) HR.out (by have := HL.out; omega)).mono ?_
  rintro e w3 ⟨g, rfl, hg, hr3, hb3⟩
  have HR3 : Hid (ReqAt w3 (some ⟨g, 0, none⟩) R) := hr3
  have HB3 : Hid (Below w.heap.size w w3) := ⟨hb3.os, hb3.tape, hb3.output, hb3.size, hb3.block⟩
  clear hr3 hb3 hg
  go_wp2_with fail
  refine (str_any (some ⟨g, 0, none⟩) R.length R.length R w3 rfl HR3.out HL.out).mono ?_
  rintro e w4 ⟨rfl, hb4⟩
  have HR4 : Hid (ReqAt w4 (some ⟨g, 0, none⟩) R) := HR3.out.below hb4
  have HB4 : Hid (Below w.heap.size w w4) := below_trans HB3.out hb4
  clear hb4 HR3 HB3
  go_wp2_with fail
  refine (str_any (some ⟨g, 0, none⟩) R.length j (R.take j) w4 (by simp; omega) (HR4.out.take j) (by have := HL.out; have := lens_take R j; simp; omega)).mono ?_
  rintro e w5 ⟨rfl, hb5⟩
  have HR5 : Hid (ReqAt w5 (some ⟨g, 0, none⟩) R) := HR4.out.below hb5
  have HB5 : Hid (Below w.heap.size w w5) := below_trans HB4.out hb5
  clear hb5 HR4 HB4
  have HQ : Hid (∀ (y : Option Addr) (m cc : Nat), m = R.length - j → (m = 0 ∨ y = some ⟨g, j * 3, none⟩) → Calls Try.prog 8 #[.slice y m cc] w5 fun e w' => e = .returned (.string (S (textOf (R.drop j)))) ∧ Below w5.heap.size w5 w') := by
    intro y m cc hm hy
    refine str_any y cc m (R.drop j) w5 (by simp; omega) ?_ (by have := HL.out; have := lens_drop R j; simp; omega)
    rcases hy with hy | rfl
    · intro h0
      simp at h0
      omega
    · have := HR5.out.drop j
      rw [Nat.zero_add] at this
      exact this
  have HLE : Hid ((S (textOf R)).size = (textOf R).length) := S_size _
  have hts : (S (textOf R)).size ≤ 2000000 := by
    rw [S_size]
    have := textOf_le R
    have := HL.out
    omega
  by_cases hR0 : R.length = 0
  · have hRn : R = [] := List.eq_nil_of_length_eq_zero hR0
    subst hRn
    obtain rfl : j = 0 := by
      simp at hj
      omega
    have HT0 : Hid (S (textOf []) = S []) := rfl
    go_wp2_with fail
    refine (HQ.out _ _ _ (by first | rfl | omega) (.inl rfl)).mono ?_
    rintro e w6 ⟨rfl, hb6⟩
    have HB6 : Hid (Below w.heap.size w w6) := below_trans HB5.out hb6
    clear hb6 HQ HR HR5 HB5
    have e1 : S (textOf (([] : List Rq).drop 0)) = S [] := rfl
    rw [e1]
    go_wp2_with fail
    go_loopw [10, 11] (fun z i wr => z = .int .i64 0 ∧ i = .int .i64 0 ∧ wr = w6) (fun _ _ _ => 0)
    case atStart => exact ⟨rfl, rfl, rfl⟩
    case round =>
      obtain ⟨rfl, rfl, rfl⟩ := hrel
      go_wp2_with fail
      go_ret
      exact ⟨rfl, HB6.out⟩
  have hRp : 0 < R.length := by omega
  clear hR0
  by_cases hj0 : j = 0
  · subst hj0
    go_wp2_with fail
    refine (HQ.out _ _ _ (by first | rfl | omega) (.inr rfl)).mono ?_
    rintro e w6 ⟨rfl, hb6⟩
    have HB6 : Hid (Below w.heap.size w w6) := below_trans HB5.out hb6
    clear hb6 HQ
    rw [List.drop_zero]
    generalize S (textOf R) = p at *
    have HP : Hid (∀ r : Rq, r.key.size + r.val.size ≤ lens R → ∀ W, Calls Try.prog 9 #[.agg #[.string r.key, .int .i64 r.op, .string r.val]] W fun e w' => e = .returned (.int .i64 ((pc r).length : Int)) ∧ Below W.heap.size W w') := fun r hr W => plen_any r W (by have := HL.out; omega) (by have := HL.out; omega)
    have HR6 : Hid (ReqAt w6 a R) := HR.out.below HB6.out
    clear HR HR5 HB5
    go_wp2_with fail
    go_loopw [10, 11] (fun z i wr => ∃ (k : Nat) (n : Int), k ≤ R.length ∧ i = .int .i64 k ∧ z = .int .i64 n ∧ 0 ≤ n ∧ n ≤ 2000000 ∧ n = (plens (R.take k) : Int) ∧ ReqAt wr a R ∧ Below w.heap.size w wr) (fun _ i _ => R.length - (intOf i).toNat)
    case atStart => exact ⟨0, 0, Nat.zero_le _, rfl, rfl, by omega, by omega, by simp [plens], HR6.out, HB6.out⟩
    case round =>
      obtain ⟨k, n, hk, rfl, rfl, hn0, hn1, hnn, hrr, hbb⟩ := hrel
      have HN : Hid (n = (plens (R.take k) : Int)) := hnn
      have HRR : Hid (ReqAt wr a R) := hrr
      have HBB : Hid (Below w.heap.size w wr) := hbb
      clear hnn hbb HR6 HB6
      by_cases hlt : k < R.length
      · obtain ⟨b, o, rfl, hc⟩ := hrr (by omega)
        obtain ⟨c0, c1, c2⟩ := hc k hlt
        have hpk := HP.out (R.getD k Rq.zero) (lens_at hlt)
        have hps := plens_succ hlt
        have hpl : plens (R.take (k + 1)) ≤ 2000000 := by
          have h1 := plens_le (R.take (k + 1))
          have h2 := lens_take R (k + 1)
          have h3 := HL.out
          rw [List.length_take] at h1
          omega
        clear hc
        generalize R.getD k Rq.zero = rq at c0 c1 c2 hpk hps
        obtain ⟨ky, op, vl⟩ := rq
        simp only at c0 c1 c2 hpk
        obtain ⟨pl, hpl2⟩ : ∃ pl, pl = (pc ⟨ky, op, vl⟩).length := ⟨_, rfl⟩
        rw [← hpl2] at hpk hps
        have HPK : Hid (∀ W, Calls Try.prog 9 #[.agg #[.string ky, .int .i64 op, .string vl]] W fun e w' => e = .returned (.int .i64 (pl : Int)) ∧ Below W.heap.size W w') := hpk
        have HPS : Hid (plens (R.take (k + 1)) = plens (R.take k) + pl) := hps
        have hnp : n + (pl : Int) ≤ 2000000 := by have := HN.out; omega
        clear hpk hps hpl hpl2 HP
        have g1 : (k : Int) < (R.length : Int) := by omega
        have g3 : (0 : Int) ≤ (k : Int) := by omega
        go_wp2_with fail
        refine (HPK.out _).mono ?_
        rintro e w7 ⟨rfl, hb7⟩
        have HR7 : Hid (ReqAt w7 (some ⟨b, o, none⟩) R) := HRR.out.below hb7
        have HB7 : Hid (Below w.heap.size w w7) := below_trans HBB.out hb7
        clear hb7
        go_wp2_with fail
        go_roundw
        case rel => exact ⟨k + 1, n + (pl : Int), by omega, by go_num, rfl, by omega, by omega, by rw [HPS.out, HN.out]; omega, HR7.out, HB7.out⟩
        case measure => simp [intOf]; omega
      · have hkk : k = R.length := by omega
        have HF : Hid (n = (plens R : Int)) := by
          have h4 := HN.out
          rw [List.take_of_length_le (by omega)] at h4
          exact h4
        clear hrr
        · have hr1 : (0 : Int) < (R.length : Int) := by omega
          have HE : Hid (((textOf R).length : Int) = n + (R.length : Int) - 1) := by
            have h1 := textOf_len (R := R) (by omega)
            have h2 := HF.out
            show _ = _
            omega
          obtain ⟨tl, htl⟩ : ∃ tl, tl = (textOf R).length := ⟨_, rfl⟩
          rw [← htl] at HE HLE
          clear htl
          have hE : (tl : Int) = n + (R.length : Int) - 1 := HE.out
          have hE2 := HLE.out
          go_wp2_with fail
          go_ret
          exact ⟨rfl, HBB.out⟩
  · by_cases hjn : j = R.length
    · obtain ⟨rn, hrn⟩ : ∃ rn, rn = S (textOf (R.drop j)) := ⟨_, rfl⟩
      have hj0b : ((j : Int) == 0) = false := beq_no (by omega)
      rw [← hrn] at HQ
      clear hrn hj0
      subst hjn
      go_wp2_with fail
      refine (HQ.out _ _ _ (by first | rfl | omega) (.inl rfl)).mono ?_
      rintro e w6 ⟨rfl, hb6⟩
      have HB6 : Hid (Below w.heap.size w w6) := below_trans HB5.out hb6
      clear hb6 HQ
      generalize S (textOf R) = p at *
      have HP : Hid (∀ r : Rq, r.key.size + r.val.size ≤ lens R → ∀ W, Calls Try.prog 9 #[.agg #[.string r.key, .int .i64 r.op, .string r.val]] W fun e w' => e = .returned (.int .i64 ((pc r).length : Int)) ∧ Below W.heap.size W w') := fun r hr W => plen_any r W (by have := HL.out; omega) (by have := HL.out; omega)
      have HR6 : Hid (ReqAt w6 a R) := HR.out.below HB6.out
      clear HR HR5 HB5
      go_wp2_with fail
      go_loopw [10, 11] (fun z i wr => ∃ (k : Nat) (n : Int), k ≤ R.length ∧ i = .int .i64 k ∧ z = .int .i64 n ∧ 0 ≤ n ∧ n ≤ 2000000 ∧ n = (plens (R.take k) : Int) ∧ ReqAt wr a R ∧ Below w.heap.size w wr) (fun _ i _ => R.length - (intOf i).toNat)
      case atStart => exact ⟨0, 0, Nat.zero_le _, rfl, rfl, by omega, by omega, by simp [plens], HR6.out, HB6.out⟩
      case round =>
        obtain ⟨k, n, hk, rfl, rfl, hn0, hn1, hnn, hrr, hbb⟩ := hrel
        have HN : Hid (n = (plens (R.take k) : Int)) := hnn
        have HRR : Hid (ReqAt wr a R) := hrr
        have HBB : Hid (Below w.heap.size w wr) := hbb
        clear hnn hbb HR6 HB6
        by_cases hlt : k < R.length
        · obtain ⟨b, o, rfl, hc⟩ := hrr (by omega)
          obtain ⟨c0, c1, c2⟩ := hc k hlt
          have hpk := HP.out (R.getD k Rq.zero) (lens_at hlt)
          have hps := plens_succ hlt
          have hpl : plens (R.take (k + 1)) ≤ 2000000 := by
            have h1 := plens_le (R.take (k + 1))
            have h2 := lens_take R (k + 1)
            have h3 := HL.out
            rw [List.length_take] at h1
            omega
          clear hc
          generalize R.getD k Rq.zero = rq at c0 c1 c2 hpk hps
          obtain ⟨ky, op, vl⟩ := rq
          simp only at c0 c1 c2 hpk
          obtain ⟨pl, hpl2⟩ : ∃ pl, pl = (pc ⟨ky, op, vl⟩).length := ⟨_, rfl⟩
          rw [← hpl2] at hpk hps
          have HPK : Hid (∀ W, Calls Try.prog 9 #[.agg #[.string ky, .int .i64 op, .string vl]] W fun e w' => e = .returned (.int .i64 (pl : Int)) ∧ Below W.heap.size W w') := hpk
          have HPS : Hid (plens (R.take (k + 1)) = plens (R.take k) + pl) := hps
          have hnp : n + (pl : Int) ≤ 2000000 := by have := HN.out; omega
          clear hpk hps hpl hpl2 HP
          have g1 : (k : Int) < (R.length : Int) := by omega
          have g3 : (0 : Int) ≤ (k : Int) := by omega
          go_wp2_with fail
          refine (HPK.out _).mono ?_
          rintro e w7 ⟨rfl, hb7⟩
          have HR7 : Hid (ReqAt w7 (some ⟨b, o, none⟩) R) := HRR.out.below hb7
          have HB7 : Hid (Below w.heap.size w w7) := below_trans HBB.out hb7
          clear hb7
          go_wp2_with fail
          go_roundw
          case rel => exact ⟨k + 1, n + (pl : Int), by omega, by go_num, rfl, by omega, by omega, by rw [HPS.out, HN.out]; omega, HR7.out, HB7.out⟩
          case measure => simp [intOf]; omega
        · have hkk : k = R.length := by omega
          have HF : Hid (n = (plens R : Int)) := by
            have h4 := HN.out
            rw [List.take_of_length_le (by omega)] at h4
            exact h4
          clear hrr
          · have hr1 : (0 : Int) < (R.length : Int) := by omega
            have HE : Hid (((textOf R).length : Int) = n + (R.length : Int) - 1) := by
              have h1 := textOf_len (R := R) (by omega)
              have h2 := HF.out
              show _ = _
              omega
            obtain ⟨tl, htl⟩ : ∃ tl, tl = (textOf R).length := ⟨_, rfl⟩
            rw [← htl] at HE HLE
            clear htl
            have hE : (tl : Int) = n + (R.length : Int) - 1 := HE.out
            have hE2 := HLE.out
            go_wp2_with fail
            go_ret
            exact ⟨rfl, HBB.out⟩
    · have hlt : j < R.length := by omega
      have hjp : 0 < j := by omega
      have hj0b : ((j : Int) == 0) = false := beq_no (by omega)
      have hjnb : ((j : Int) == (R.length : Int)) = false := beq_no (by omega)
      clear hj0 hjn
      go_wp2_with fail
      refine (HQ.out _ _ _ (by omega) (.inr rfl)).mono ?_
      rintro e w6 ⟨rfl, hb6⟩
      have HB6 : Hid (Below w.heap.size w w6) := below_trans HB5.out hb6
      clear hb6 HQ
      have HT : Hid (S (textOf R) = S (textOf (R.take j)) ++ S [44] ++ S (textOf (R.drop j))) := by
        have h1 : R.take j ≠ [] := fun h => by
          have := congrArg List.length h
          rw [List.length_take, List.length_nil] at this
          omega
        have h2 : R.drop j ≠ [] := fun h => by
          have := congrArg List.length h
          rw [List.length_drop, List.length_nil] at this
          omega
        have h3 := textOf_append h1 h2
        rw [List.take_append_drop] at h3
        show _ = _
        refine eq_of_list ?_
        rw [Joins.data_append, Joins.data_append, S_list, S_list, S_list, S_list, h3]
        simp
      have hq : (S (textOf (R.take j))).size ≤ 2000000 := by
        rw [S_size]
        have := textOf_le (R.take j)
        have := lens_take R j
        have := HL.out
        simp at *
        omega
      have hr : (S (textOf (R.drop j))).size ≤ 2000000 := by
        rw [S_size]
        have := textOf_le (R.drop j)
        have := lens_drop R j
        have := HL.out
        simp at *
        omega
      rw [HT.out] at HLE ⊢
      clear hts
      generalize S (textOf (R.take j)) = p at *
      generalize S (textOf (R.drop j)) = q at *
      have HP : Hid (∀ r : Rq, r.key.size + r.val.size ≤ lens R → ∀ W, Calls Try.prog 9 #[.agg #[.string r.key, .int .i64 r.op, .string r.val]] W fun e w' => e = .returned (.int .i64 ((pc r).length : Int)) ∧ Below W.heap.size W w') := fun r hr W => plen_any r W (by have := HL.out; omega) (by have := HL.out; omega)
      have HR6 : Hid (ReqAt w6 a R) := HR.out.below HB6.out
      clear HR HR5 HB5
      go_wp2_with fail
      go_loopw [10, 11] (fun z i wr => ∃ (k : Nat) (n : Int), k ≤ R.length ∧ i = .int .i64 k ∧ z = .int .i64 n ∧ 0 ≤ n ∧ n ≤ 2000000 ∧ n = (plens (R.take k) : Int) ∧ ReqAt wr a R ∧ Below w.heap.size w wr) (fun _ i _ => R.length - (intOf i).toNat)
      case atStart => exact ⟨0, 0, Nat.zero_le _, rfl, rfl, by omega, by omega, by simp [plens], HR6.out, HB6.out⟩
      case round =>
        obtain ⟨k, n, hk, rfl, rfl, hn0, hn1, hnn, hrr, hbb⟩ := hrel
        have HN : Hid (n = (plens (R.take k) : Int)) := hnn
        have HRR : Hid (ReqAt wr a R) := hrr
        have HBB : Hid (Below w.heap.size w wr) := hbb
        clear hnn hbb HR6 HB6
        by_cases hlt : k < R.length
        · obtain ⟨b, o, rfl, hc⟩ := hrr (by omega)
          obtain ⟨c0, c1, c2⟩ := hc k hlt
          have hpk := HP.out (R.getD k Rq.zero) (lens_at hlt)
          have hps := plens_succ hlt
          have hpl : plens (R.take (k + 1)) ≤ 2000000 := by
            have h1 := plens_le (R.take (k + 1))
            have h2 := lens_take R (k + 1)
            have h3 := HL.out
            rw [List.length_take] at h1
            omega
          clear hc
          generalize R.getD k Rq.zero = rq at c0 c1 c2 hpk hps
          obtain ⟨ky, op, vl⟩ := rq
          simp only at c0 c1 c2 hpk
          obtain ⟨pl, hpl2⟩ : ∃ pl, pl = (pc ⟨ky, op, vl⟩).length := ⟨_, rfl⟩
          rw [← hpl2] at hpk hps
          have HPK : Hid (∀ W, Calls Try.prog 9 #[.agg #[.string ky, .int .i64 op, .string vl]] W fun e w' => e = .returned (.int .i64 (pl : Int)) ∧ Below W.heap.size W w') := hpk
          have HPS : Hid (plens (R.take (k + 1)) = plens (R.take k) + pl) := hps
          have hnp : n + (pl : Int) ≤ 2000000 := by have := HN.out; omega
          clear hpk hps hpl hpl2 HP
          have g1 : (k : Int) < (R.length : Int) := by omega
          have g3 : (0 : Int) ≤ (k : Int) := by omega
          go_wp2_with fail
          refine (HPK.out _).mono ?_
          rintro e w7 ⟨rfl, hb7⟩
          have HR7 : Hid (ReqAt w7 (some ⟨b, o, none⟩) R) := HRR.out.below hb7
          have HB7 : Hid (Below w.heap.size w w7) := below_trans HBB.out hb7
          clear hb7
          go_wp2_with fail
          go_roundw
          case rel => exact ⟨k + 1, n + (pl : Int), by omega, by go_num, rfl, by omega, by omega, by rw [HPS.out, HN.out]; omega, HR7.out, HB7.out⟩
          case measure => simp [intOf]; omega
        · have hkk : k = R.length := by omega
          have HF : Hid (n = (plens R : Int)) := by
            have h4 := HN.out
            rw [List.take_of_length_le (by omega)] at h4
            exact h4
          clear hrr
          · have hr1 : (0 : Int) < (R.length : Int) := by omega
            have HE : Hid (((textOf R).length : Int) = n + (R.length : Int) - 1) := by
              have h1 := textOf_len (R := R) (by omega)
              have h2 := HF.out
              show _ = _
              omega
            obtain ⟨tl, htl⟩ : ∃ tl, tl = (textOf R).length := ⟨_, rfl⟩
            rw [← htl] at HE HLE
            clear htl
            have hE : (tl : Int) = n + (R.length : Int) - 1 := HE.out
            have hE2 := HLE.out
            go_wp2_with fail
            go_ret
            exact ⟨rfl, HBB.out⟩
end Go.Proofs.Qxb6630559a
