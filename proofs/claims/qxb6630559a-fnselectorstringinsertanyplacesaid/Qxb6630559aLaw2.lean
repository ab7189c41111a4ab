/-
  FnSelectorStringInsertAnyPlace, walked. By an AI agent.
-/
import Derived.Test.Qxb6630559aIns
namespace Go.Proofs.Qxb6630559a
open Go.RowKit

set_option maxRecDepth 100000 in
set_option maxHeartbeats 2000000 in
theorem law2 (a : Option Addr) (cap : Nat) (R : List Rq) (x : Int) (key : ByteArray) (op : Int) (val : ByteArray) (w : World) (h : ReqAt w a R) (hl : R.length ≤ maxLen) (hz : ∀ i, i < R.length → (R.getD i Rq.zero).key.size ≤ maxLen ∧ (R.getD i Rq.zero).val.size ≤ maxLen)
    (hk : key.size ≤ maxLen) (hv : val.size ≤ maxLen) :
    Calls Try.prog 4 #[.slice a R.length cap, .int .i64 x, .string key, .int .i64 op, .string val] w fun e w' => e = .returned (.bool true) ∧ Below w.heap.size w w' := by
  obtain ⟨i0, hi0, hz0, hz1, hz2⟩ := info_parts Try.info34
  have HR : Hid (ReqAt w a R) := h
  have HZ : Hid (∀ i, i < R.length → (R.getD i Rq.zero).key.size ≤ maxLen ∧ (R.getD i Rq.zero).val.size ≤ maxLen) := hz
  clear h hz
  go_enter Try.func4, Try.ntmps4
  go_wp2_with fail
  refine (bytes2_any a cap R x key op val w HR.out hl HZ.out hk hv).mono ?_
  rintro e w1 ⟨r, rfl, _, q1, rfl⟩
  cases r
  · go_wp2_with fail
    go_ret
    exact ⟨rfl, drewN_below _ _⟩
  by_cases hn : 65536 < R.length
  · go_wp2_with fail
    go_ret
    exact ⟨rfl, drewN_below _ _⟩
  by_cases hk1 : 524288 < key.size
  · go_wp2_with fail
    go_ret
    exact ⟨rfl, drewN_below _ _⟩
  have hk1' : decide ((524288 : Int) < (key.size : Int)) = false := decide_eq_false (by omega)
  by_cases hv1 : 524288 < val.size
  · go_wp2_with fail
    go_ret
    exact ⟨rfl, drewN_below _ _⟩
  have HWI : Hid (Calls Try.prog 6 #[.slice a R.length cap, .int .i64 (40 + (key.size : Int) + (val.size : Int))] (w.drewN q1) (Says (40 * R.length + (40 + key.size + val.size) + lens R ≤ 1048576) (w.drewN q1))) := by
    have h1 := within_any a cap R (40 + key.size + val.size) (w.drewN q1) HR.out hl (by omega) HZ.out
    rw [show ((40 + key.size + val.size : Nat) : Int) = 40 + (key.size : Int) + (val.size : Int) by omega] at h1
    exact h1
  go_wp2_with fail
  refine HWI.out.mono ?_
  rintro e w2 ⟨r, rfl, hb, q2, rfl⟩
  cases r
  · clear hb
    go_wp2_with fail
    go_ret
    exact ⟨rfl, drewN_below _ _⟩
  have HL : Hid (40 * R.length + (40 + key.size + val.size) + lens R ≤ 1048576) := hb rfl
  clear hb HWI
  by_cases hx0 : x < 0
  · go_wp2_with fail
    go_ret
    exact ⟨rfl, drewN_below _ _⟩
  obtain ⟨j, rfl⟩ : ∃ j : Nat, x = (j : Int) := ⟨x.toNat, by omega⟩
  by_cases hj : R.length < j
  · go_wp2_with fail
    go_ret
    exact ⟨rfl, drewN_below _ _⟩
  have hjg : decide ((R.length : Int) < (j : Int)) = false := decide_eq_false (by omega)
  have hjR : j ≤ R.length := by omega
  obtain ⟨I, hI⟩ : ∃ I, I = ins R j ⟨key, op, val⟩ := ⟨_, rfl⟩
  have HI : Hid (I = ins R j ⟨key, op, val⟩) := hI
  have HIL : Hid (I.length = R.length + 1) := by rw [hI]; exact ins_len _ hjR
  have HIN : Hid (40 * I.length + lens I ≤ 1048576) := by
    have h5 := HL.out
    have h6 : lens (ins R j ⟨key, op, val⟩) = lens R + (key.size + val.size) := ins_lens _
    have h7 := HIL.out
    show _ ≤ _
    rw [h7, hI, h6]
    omega
  clear hI
  go_wp2_with fail
  refine (tosel_any a cap R (w.drewN (q1 + q2)) HR.out (by have := HL.out; omega)).mono ?_
  rintro e w3 ⟨g, rfl, hg, hr3, hb3⟩
  have HR3 : Hid (ReqAt w3 (some ⟨g, 0, none⟩) R) := hr3
  have HB3 : Hid (Below w.heap.size w w3) := ⟨hb3.os, hb3.tape, hb3.output, hb3.size, hb3.block⟩
  clear hr3 hb3 HR HZ
  obtain ⟨B, hB⟩ : ∃ B, B = w3.heap.size := ⟨_, rfl⟩
  have HBB : Hid (B = w3.heap.size) := hB
  go_wp2_with (at_make; refine wpList_make_full _ rfl _ _ 25 rfl w3.heap.size 34 i0 _ 3 Try.underlying25 hi0 hz0 hz1 .i64 .i64 ((R.length : Int) + 1) ((R.length : Int) + 1) (R.length + 1) rfl rfl (by omega) (by omega) (by rw [hz2]; omega) (by unfold maxLen; omega) (Nat.le_refl _) ?_; intro w4 hown4 hgrow4)
  have HB4 : Hid (Below w3.heap.size w3 w4) := (Below.refl _ _).grown hgrow4 (Nat.le_refl _) (fun k hk => by cases hk)
  have HO4 : Hid (∃ xs, w4.ownsRow w3.heap.size 34 3 (.slice (some ⟨w3.heap.size, 0, none⟩) (R.length + 1) (R.length + 1)) (R.length + 1) xs) := ⟨_, hown4⟩
  clear hown4 hgrow4
  go_loopw [13] (fun i wr => ∃ (k : Nat) (xs : List Value), i = .int .i64 (k : Int) ∧ k ≤ j ∧ wr.ownsRow w3.heap.size 34 3 (.slice (some ⟨w3.heap.size, 0, none⟩) (R.length + 1) (R.length + 1)) (R.length + 1) xs ∧ Filled xs I k ∧ Below w3.heap.size w3 wr) (fun i _ => j - (intOf i).toNat)
  case atStart =>
    obtain ⟨xs, hx⟩ := HO4.out
    exact ⟨0, xs, rfl, by omega, hx, fun i hi => absurd hi (by omega), HB4.out⟩
  case round =>
    obtain ⟨k, xs, rfl, hk, ho, hf, hb⟩ := hrel
    have HO : Hid (wr.ownsRow w3.heap.size 34 3 (.slice (some ⟨w3.heap.size, 0, none⟩) (R.length + 1) (R.length + 1)) (R.length + 1) xs) := ho
    have HF : Hid (Filled xs I k) := hf
    have HB : Hid (Below w3.heap.size w3 wr) := hb
    have hrow := HR3.out.below hb
    have hxl : xs.length = (R.length + 1) * 3 := ho.1
    clear ho hf hb HO4 HB4 hB
    by_cases hlt : k < j
    · obtain ⟨b, o, e, hc⟩ := hrow (by omega)
      injection e with e
      injection e with e1 e2
      subst e1 e2
      obtain ⟨c0, c1, c2⟩ := hc k (by omega)
      clear hc hrow
      obtain ⟨r, hr⟩ : ∃ r, r = R.getD k Rq.zero := ⟨_, rfl⟩
      rw [← hr, Nat.zero_add] at c0 c1 c2
      have HRR : Hid (r = I.getD k Rq.zero) := by rw [HI.out, ins_lo _ hjR hlt]; exact hr
      clear hr
      obtain ⟨ky, op', vl⟩ := r
      simp only at c0 c1 c2
      obtain ⟨v0, e0⟩ : ∃ v, wr.cell? ⟨w3.heap.size, k * 3, none⟩ = some v := ⟨_, (HO.out.cellAt (k * 3) (by omega)).trans (List.getElem?_eq_getElem (by omega))⟩
      obtain ⟨v1, e1⟩ : ∃ v, wr.cell? ⟨w3.heap.size, k * 3 + 1, none⟩ = some v := ⟨_, (HO.out.cellAt (k * 3 + 1) (by omega)).trans (List.getElem?_eq_getElem (by omega))⟩
      obtain ⟨v2, e2⟩ : ∃ v, wr.cell? ⟨w3.heap.size, k * 3 + 2, none⟩ = some v := ⟨_, (HO.out.cellAt (k * 3 + 2) (by omega)).trans (List.getElem?_eq_getElem (by omega))⟩
      have f0 : wr.frozen? ⟨w3.heap.size, k * 3, none⟩ = false := HO.out.frozenAt _
      have f1 : wr.frozen? ⟨w3.heap.size, k * 3 + 1, none⟩ = false := HO.out.frozenAt _
      have f2 : wr.frozen? ⟨w3.heap.size, k * 3 + 2, none⟩ = false := HO.out.frozenAt _
      have g1 : (k : Int) < (R.length : Int) := by omega
      have g2 : (k : Int) < (j : Int) := by omega
      have g3 : (0 : Int) ≤ (k : Int) := by omega
      have g4 : (k : Int) < (R.length : Int) + 1 := by omega
      go_wp2_with fail
      go_roundw
      case rel =>
        refine ⟨k + 1, ((xs.set (k * 3) (.string ky)).set (k * 3 + 1) (.int .i64 op')).set (k * 3 + 2) (.string vl), by go_num, by omega, (((HO.out.stored _ _).1.stored _ _).1.stored _ _).1, filled_succ HF.out (by omega) ky op' vl HRR.out, ?_⟩
        exact ((HB.out.setCell (p := ⟨w3.heap.size, k * 3, none⟩) (Nat.le_refl _) _).setCell (p := ⟨w3.heap.size, k * 3 + 1, none⟩) (Nat.le_refl _) _).setCell (p := ⟨w3.heap.size, k * 3 + 2, none⟩) (Nat.le_refl _) _
      case measure => simp [intOf]; omega
    · have hkj : k = j := by omega
      subst hkj
      clear hrow hlt
      obtain ⟨v0, e0⟩ : ∃ v, wr.cell? ⟨w3.heap.size, k * 3, none⟩ = some v := ⟨_, (HO.out.cellAt (k * 3) (by omega)).trans (List.getElem?_eq_getElem (by omega))⟩
      obtain ⟨v1, e1⟩ : ∃ v, wr.cell? ⟨w3.heap.size, k * 3 + 1, none⟩ = some v := ⟨_, (HO.out.cellAt (k * 3 + 1) (by omega)).trans (List.getElem?_eq_getElem (by omega))⟩
      obtain ⟨v2, e2⟩ : ∃ v, wr.cell? ⟨w3.heap.size, k * 3 + 2, none⟩ = some v := ⟨_, (HO.out.cellAt (k * 3 + 2) (by omega)).trans (List.getElem?_eq_getElem (by omega))⟩
      have f0 : wr.frozen? ⟨w3.heap.size, k * 3, none⟩ = false := HO.out.frozenAt _
      have f1 : wr.frozen? ⟨w3.heap.size, k * 3 + 1, none⟩ = false := HO.out.frozenAt _
      have f2 : wr.frozen? ⟨w3.heap.size, k * 3 + 2, none⟩ = false := HO.out.frozenAt _
      have g2 : ¬ (k : Int) < (k : Int) := by omega
      have g3 : (0 : Int) ≤ (k : Int) := by omega
      have g4 : (k : Int) < (R.length : Int) + 1 := by omega
      have hkk : k < R.length + 1 := by omega
      have HS2 : Hid (∃ xs2, (((wr.setCell ⟨w3.heap.size, k * 3, none⟩ (.string key)).setCell ⟨w3.heap.size, k * 3 + 1, none⟩ (.int .i64 op)).setCell ⟨w3.heap.size, k * 3 + 2, none⟩ (.string val)).ownsRow w3.heap.size 34 3 (.slice (some ⟨w3.heap.size, 0, none⟩) (R.length + 1) (R.length + 1)) (R.length + 1) xs2 ∧ Filled xs2 I (k + 1)) :=
        ⟨_, (((HO.out.stored _ _).1.stored _ _).1.stored _ _).1, filled_succ HF.out (by omega) key op val (by rw [HI.out, ins_at _ hjR])⟩
      have HB2 : Hid (Below w3.heap.size w3 (((wr.setCell ⟨w3.heap.size, k * 3, none⟩ (.string key)).setCell ⟨w3.heap.size, k * 3 + 1, none⟩ (.int .i64 op)).setCell ⟨w3.heap.size, k * 3 + 2, none⟩ (.string val))) :=
        ((HB.out.setCell (p := ⟨w3.heap.size, k * 3, none⟩) (Nat.le_refl _) _).setCell (p := ⟨w3.heap.size, k * 3 + 1, none⟩) (Nat.le_refl _) _).setCell (p := ⟨w3.heap.size, k * 3 + 2, none⟩) (Nat.le_refl _) _
      go_wp2_with fail
      go_loopw [14] (fun i wr => ∃ (m : Nat) (xs : List Value), i = .int .i64 (m : Int) ∧ k ≤ m ∧ m ≤ R.length ∧ wr.ownsRow w3.heap.size 34 3 (.slice (some ⟨w3.heap.size, 0, none⟩) (R.length + 1) (R.length + 1)) (R.length + 1) xs ∧ Filled xs I (m + 1) ∧ Below w3.heap.size w3 wr) (fun i _ => R.length - (intOf i).toNat)
      case atStart =>
        obtain ⟨xs2, hx1, hx2⟩ := HS2.out
        exact ⟨k, xs2, rfl, Nat.le_refl _, by omega, hx1, hx2, HB2.out⟩
      case round =>
        clear HO HF HB e0 e1 e2 f0 f1 f2 HS2 HB2 hxl xs
        rename_i wr0
        obtain ⟨m, xs, rfl, hkm, hmR, ho, hf, hb⟩ := hrel
        have HO : Hid (wr.ownsRow w3.heap.size 34 3 (.slice (some ⟨w3.heap.size, 0, none⟩) (R.length + 1) (R.length + 1)) (R.length + 1) xs) := ho
        have HF : Hid (Filled xs I (m + 1)) := hf
        have HB : Hid (Below w3.heap.size w3 wr) := hb
        have hrow := HR3.out.below hb
        have hxl : xs.length = (R.length + 1) * 3 := ho.1
        clear ho hf hb
        by_cases hlt : m < R.length
        · obtain ⟨b, o, e, hc⟩ := hrow (by omega)
          injection e with e
          injection e with e1 e2
          subst e1 e2
          obtain ⟨c0, c1, c2⟩ := hc m (by omega)
          clear hc hrow
          obtain ⟨r, hr⟩ : ∃ r, r = R.getD m Rq.zero := ⟨_, rfl⟩
          rw [← hr, Nat.zero_add] at c0 c1 c2
          have HRR : Hid (r = I.getD (m + 1) Rq.zero) := by rw [HI.out, ins_hi _ hjR hkm]; exact hr
          clear hr
          obtain ⟨ky, op', vl⟩ := r
          simp only at c0 c1 c2
          obtain ⟨v0, e0⟩ : ∃ v, wr.cell? ⟨w3.heap.size, (m + 1) * 3, none⟩ = some v := ⟨_, (HO.out.cellAt ((m + 1) * 3) (by omega)).trans (List.getElem?_eq_getElem (by omega))⟩
          obtain ⟨v1, e1⟩ : ∃ v, wr.cell? ⟨w3.heap.size, (m + 1) * 3 + 1, none⟩ = some v := ⟨_, (HO.out.cellAt ((m + 1) * 3 + 1) (by omega)).trans (List.getElem?_eq_getElem (by omega))⟩
          obtain ⟨v2, e2⟩ : ∃ v, wr.cell? ⟨w3.heap.size, (m + 1) * 3 + 2, none⟩ = some v := ⟨_, (HO.out.cellAt ((m + 1) * 3 + 2) (by omega)).trans (List.getElem?_eq_getElem (by omega))⟩
          have f0 : wr.frozen? ⟨w3.heap.size, (m + 1) * 3, none⟩ = false := HO.out.frozenAt _
          have f1 : wr.frozen? ⟨w3.heap.size, (m + 1) * 3 + 1, none⟩ = false := HO.out.frozenAt _
          have f2 : wr.frozen? ⟨w3.heap.size, (m + 1) * 3 + 2, none⟩ = false := HO.out.frozenAt _
          have h1 : (m : Int) < (R.length : Int) := by omega
          have h3 : (0 : Int) ≤ (m : Int) := by omega
          have h4 : (m : Int) + 1 < (R.length : Int) + 1 := by omega
          go_wp2_with fail
          go_roundw
          case rel =>
            refine ⟨m + 1, ((xs.set ((m + 1) * 3) (.string ky)).set ((m + 1) * 3 + 1) (.int .i64 op')).set ((m + 1) * 3 + 2) (.string vl), by go_num, by omega, by omega, (((HO.out.stored _ _).1.stored _ _).1.stored _ _).1, filled_succ HF.out (by omega) ky op' vl HRR.out, ?_⟩
            exact ((HB.out.setCell (p := ⟨w3.heap.size, (m + 1) * 3, none⟩) (Nat.le_refl _) _).setCell (p := ⟨w3.heap.size, (m + 1) * 3 + 1, none⟩) (Nat.le_refl _) _).setCell (p := ⟨w3.heap.size, (m + 1) * 3 + 2, none⟩) (Nat.le_refl _) _
          case measure => simp [intOf]; omega
        · have hmm : m = R.length := by omega
          have HA : Hid (ReqAt wr (some ⟨w3.heap.size, 0, none⟩) I) := by
            have h1 := HF.out
            rw [hmm] at h1
            exact filled_at HO.out HIL.out.symm h1
          have HR5 : Hid (ReqAt wr (some ⟨g, 0, none⟩) R) := hrow
          clear hrow HO HF hxl
          go_wp2_with fail
          refine (str_any (some ⟨w3.heap.size, 0, none⟩) (R.length + 1) (R.length + 1) I wr HIL.out.symm HA.out HIN.out).mono ?_
          rintro e w6 ⟨rfl, hb6⟩
          have HR6 : Hid (ReqAt w6 (some ⟨g, 0, none⟩) R) := HR5.out.below hb6
          have HB6 : Hid (Below w.heap.size w w6) := below_trans (below_trans HB3.out HB.out) hb6
          clear hb6 HR5 HA
          go_wp2_with fail
          refine (str_any (some ⟨g, 0, none⟩) R.length k (R.take k) w6 (by simp; omega) (HR6.out.take k) (by have := HL.out; have := lens_take R k; simp; omega)).mono ?_
          rintro e w7 ⟨rfl, hb7⟩
          have HR7 : Hid (ReqAt w7 (some ⟨g, 0, none⟩) R) := HR6.out.below hb7
          have HB7 : Hid (Below w.heap.size w w7) := below_trans HB6.out hb7
          clear hb7 HR6 HB6
          have HQ : Hid (∀ (y : Option Addr) (n cc : Nat), n = R.length - k → (n = 0 ∨ y = some ⟨g, k * 3, none⟩) → Calls Try.prog 8 #[.slice y n cc] w7 fun e w' => e = .returned (.string (S (textOf (R.drop k)))) ∧ Below w7.heap.size w7 w') := by
            intro y n cc hm hy
            refine str_any y cc n (R.drop k) w7 (by simp; omega) ?_ (by have := HL.out; have := lens_drop R k; simp; omega)
            rcases hy with hy | rfl
            · intro h0
              simp at h0
              omega
            · have := HR7.out.drop k
              rw [Nat.zero_add] at this
              exact this
          have HPC : Hid (∀ W, Calls Try.prog 11 #[.string key, .int .i64 op, .string val] W fun e w' => e = .returned (.string (S (pc ⟨key, op, val⟩))) ∧ w' = W) := fun W => piece_any ⟨key, op, val⟩ W (by show key.size ≤ _; omega) (by show val.size ≤ _; omega)
          have HT := text_ins (R := R) (i := k) ⟨key, op, val⟩ hjR
          rw [← HI.out] at HT
          have hP : (S (pc ⟨key, op, val⟩)).size ≤ 2000000 := by
            rw [S_size]
            have h8 : (pc ⟨key, op, val⟩).length ≤ key.size + val.size + 2 := pc_len _
            omega
          have hp : (S (textOf (R.take k))).size ≤ 2000000 := by
            rw [S_size]
            have h8 := textOf_le (R.take k)
            have h9 := lens_take R k
            have h10 := HL.out
            rw [List.length_take] at h8
            omega
          have hq : (S (textOf (R.drop k))).size ≤ 2000000 := by
            rw [S_size]
            have h8 := textOf_le (R.drop k)
            have h9 := lens_drop R k
            have h10 := HL.out
            rw [List.length_drop] at h8
            omega
          by_cases hk0 : 0 < k
          · by_cases hkn : k < R.length
            · have HE : Hid (S (textOf I) = S (textOf (R.take k)) ++ S [44] ++ S (pc ⟨key, op, val⟩) ++ S [44] ++ S (textOf (R.drop k))) := by
                show _ = _
                refine eq_of_list ?_
                rw [S_list, HT, if_pos (by omega), if_pos (by omega)]
                simp
              clear HT
              rw [HE.out]
              clear HE
              generalize S (textOf (R.take k)) = p at *
              generalize S (textOf (R.drop k)) = q at *
              generalize S (pc ⟨key, op, val⟩) = P at *
              have z1 : (0 : Int) < (k : Int) := by omega
              have z2 : (k : Int) < (R.length : Int) := by omega
              go_wp2_with fail
              refine (HQ.out _ _ _ (by omega) (.inr (by first | rfl | trivial))).mono ?_
              rintro e w8 ⟨rfl, hb8⟩
              have HB8 : Hid (Below w.heap.size w w8) := below_trans HB7.out hb8
              clear hb8 HQ
              go_wp2_with fail
              refine (HPC.out _).mono ?_
              rintro e w9 ⟨rfl, rfl⟩
              go_wp2_with fail
              go_ret
              exact ⟨rfl, HB8.out⟩
            · have HE : Hid (S (textOf I) = S (textOf (R.take k)) ++ S [44] ++ S (pc ⟨key, op, val⟩)) := by
                show _ = _
                refine eq_of_list ?_
                rw [S_list, HT, if_pos (by omega), if_neg (by omega)]
                simp
              clear HT
              rw [HE.out]
              clear HE
              generalize S (textOf (R.take k)) = p at *
              generalize S (textOf (R.drop k)) = q at *
              generalize S (pc ⟨key, op, val⟩) = P at *
              have z1 : (0 : Int) < (k : Int) := by omega
              go_wp2_with fail
              refine (HQ.out _ _ _ (by omega) (.inl (by first | rfl | omega))).mono ?_
              rintro e w8 ⟨rfl, hb8⟩
              have HB8 : Hid (Below w.heap.size w w8) := below_trans HB7.out hb8
              clear hb8 HQ
              go_wp2_with fail
              refine (HPC.out _).mono ?_
              rintro e w9 ⟨rfl, rfl⟩
              go_wp2_with fail
              go_ret
              exact ⟨rfl, HB8.out⟩
          · by_cases hkn : k < R.length
            · have HE : Hid (S (textOf I) = S (textOf (R.take k)) ++ S (pc ⟨key, op, val⟩) ++ S [44] ++ S (textOf (R.drop k))) := by
                show _ = _
                refine eq_of_list ?_
                rw [S_list, HT, if_neg (by omega), if_pos (by omega)]
                simp
              clear HT
              rw [HE.out]
              clear HE
              generalize S (textOf (R.take k)) = p at *
              generalize S (textOf (R.drop k)) = q at *
              generalize S (pc ⟨key, op, val⟩) = P at *
              obtain rfl : k = 0 := by omega
              have z2 : (0 : Int) < (R.length : Int) := by omega
              go_wp2_with fail
              refine (HQ.out _ _ _ (by omega) (.inr (by first | rfl | trivial))).mono ?_
              rintro e w8 ⟨rfl, hb8⟩
              have HB8 : Hid (Below w.heap.size w w8) := below_trans HB7.out hb8
              clear hb8 HQ
              go_wp2_with fail
              refine (HPC.out _).mono ?_
              rintro e w9 ⟨rfl, rfl⟩
              go_wp2_with fail
              go_ret
              exact ⟨rfl, HB8.out⟩
            · have HE : Hid (S (textOf I) = S (textOf (R.take k)) ++ S (pc ⟨key, op, val⟩)) := by
                show _ = _
                refine eq_of_list ?_
                rw [S_list, HT, if_neg (by omega), if_neg (by omega)]
                simp
              clear HT
              rw [HE.out]
              clear HE
              generalize S (textOf (R.take k)) = p at *
              generalize S (textOf (R.drop k)) = q at *
              generalize S (pc ⟨key, op, val⟩) = P at *
              obtain rfl : k = 0 := by omega
              go_wp2_with fail
              refine (HQ.out _ _ _ (by omega) (.inl (by first | rfl | omega))).mono ?_
              rintro e w8 ⟨rfl, hb8⟩
              have HB8 : Hid (Below w.heap.size w w8) := below_trans HB7.out hb8
              clear hb8 HQ
              go_wp2_with fail
              refine (HPC.out _).mono ?_
              rintro e w9 ⟨rfl, rfl⟩
              go_wp2_with fail
              go_ret
              exact ⟨rfl, HB8.out⟩
end Go.Proofs.Qxb6630559a
