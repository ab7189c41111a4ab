/-
  Selector.String. By an AI agent.
-/
import Derived.Test.Qxb6630559aSel
namespace Go.Proofs.Qxb6630559a
open Go.RowKit

theorem Try.info9 : (Try.prog.info? 9).map (fun i => (i.zero, i.size, i.bytes)) = some (some (Value.string ⟨#[]⟩), 1, 16) := by kernel_rfl

/-- A selector's text. -/
def textOf (R : List Rq) : List UInt8 := Lib.join (R.map pc) [44]
/-- What the written pieces' row holds when k are written. -/
def wrote (R : List Rq) (k : Nat) (i : Nat) : Value := if i < k then .string (S (pc (R.getD i Rq.zero))) else .string ⟨#[]⟩

set_option maxRecDepth 100000 in
set_option maxHeartbeats 1000000 in
theorem sstring_any (a : Option Addr) (c : Nat) (R : List Rq) (w : World) (h : ReqAt w a R) (hl : R.length ≤ 1048576) (hz : ∀ i, i < R.length → (R.getD i Rq.zero).key.size ≤ 1048576 ∧ (R.getD i Rq.zero).val.size ≤ 1048576) (hj : (textOf R).length ≤ 140737488355328) :
    Calls Try.prog 8 #[.slice a R.length c] w fun e w' => e = .returned (.string (S (textOf R))) ∧ Below w.heap.size w w' := by
  have hmk := run_make_row' (P := Try.prog) 36 9 (.string ⟨#[]⟩) 16 Try.underlying36 Try.info9 rfl .i64 .i64 R.length (by omega) (by omega)
  have HR : Hid (ReqAt w a R) := h
  have HZ : Hid (∀ i, i < R.length → (R.getD i Rq.zero).key.size ≤ 1048576 ∧ (R.getD i Rq.zero).val.size ≤ 1048576) := hz
  have HJ : Hid ((textOf R).length ≤ 140737488355328) := hj
  have HS : Hid ((w.alloc (.cells (madeCells #[.string ⟨#[]⟩] R.length) 9)).rowIs w.heap.size 9 R.length (wrote R 0)) := World.rowIs_made w (.string ⟨#[]⟩) R.length 9
  have HB0 : Hid (Below w.heap.size w (w.alloc (.cells (madeCells #[.string ⟨#[]⟩] R.length) 9))) := (Below.refl _ _).alloc (Nat.le_refl _) _
  clear h hz hj
  go_enter Try.func8, Try.ntmps8
  go_wp2_with fail
  go_loopw [11] (fun i wr => ∃ (k : Nat), i = .int .i64 (k : Int) ∧ k ≤ R.length ∧ wr.rowIs w.heap.size 9 R.length (wrote R k) ∧ Below w.heap.size w wr) (fun i _ => R.length - (intOf i).toNat)
  case atStart => exact ⟨0, rfl, by omega, HS.out, HB0.out⟩
  case round =>
    obtain ⟨k, rfl, hk, hrow, hb⟩ := hrel
    have HW : Hid (wr.rowIs w.heap.size 9 R.length (wrote R k)) := hrow
    have HB : Hid (Below w.heap.size w wr) := hb
    have hreq := HR.out.below hb
    clear hrow hb HS HB0 hmk HR
    by_cases hlt : k < R.length
    · obtain ⟨b, o, rfl, hc⟩ := hreq (by omega)
      obtain ⟨c0, c1, c2⟩ := hc k hlt
      have hzk := HZ.out k hlt
      clear hc hreq
      obtain ⟨r, hr⟩ : ∃ r, r = R.getD k Rq.zero := ⟨_, rfl⟩
      rw [← hr] at c0 c1 c2 hzk
      have HRR : Hid (r = R.getD k Rq.zero) := hr
      clear hr
      have HC := fun W => rstring_any r W hzk.1 hzk.2
      obtain ⟨ky, op, vl⟩ := r
      simp only at c0 c1 c2 HC
      have HC' : Hid (∀ W, Calls Try.prog 12 #[.agg #[.string ky, .int .i64 op, .string vl]] W fun e w' => e = .returned (.string (S (pc ⟨ky, op, vl⟩))) ∧ Below W.heap.size W w') := HC
      clear HC hzk
      have g1 : (k : Int) < (R.length : Int) := by omega
      have g3 : (0 : Int) ≤ (k : Int) := by omega
      go_wp2_with fail
      refine (HC'.out _).mono ?_
      rintro e w3 ⟨rfl, hb3⟩
      have HW3 : Hid (w3.rowIs w.heap.size 9 R.length (wrote R k)) := (HW.out.alloc _).of_block (hb3.block _ (HW.out.alloc _).lt)
      have HB3 : Hid (Below w.heap.size w w3) := (HB.out.alloc HB.out.size _).trans (hb3.mono (by have := HB.out.size; simp; omega))
      clear hb3
      have e0 := HW3.out.cell hlt
      have e1 := HW3.out.frozen k
      obtain ⟨old, hold⟩ : ∃ old, wrote R k k = old := ⟨_, rfl⟩
      rw [hold] at e0
      clear hold
      obtain ⟨p, hp⟩ : ∃ p, p = S (pc ⟨ky, op, vl⟩) := ⟨_, rfl⟩
      have HP : Hid (p = S (pc ⟨ky, op, vl⟩)) := hp
      rw [← hp]
      clear hp
      go_wp2_with fail
      refine ⟨⟨k + 1, by go_num, by omega, ?_, HB3.out.setCell (p := ⟨w.heap.size, k, none⟩) (Nat.le_refl _) _⟩, ?_⟩
      · refine (HW3.out.set k (.string p)).congr fun i hi => ?_
        unfold wrote
        by_cases e : i = k
        · subst e
          rw [if_pos rfl, if_pos (by omega), ← HRR.out, HP.out]
        · rw [if_neg e]
          by_cases e2 : i < k
          · rw [if_pos e2, if_pos (by omega)]
          · rw [if_neg e2, if_neg (by omega)]
      · simp [intOf]; omega
    · have hkk : k = R.length := by omega
      have HK : Hid (k = R.length) := hkk
      clear hkk hreq
      have HX : Hid (Calls Try.prog 13 #[.slice (some ⟨w.heap.size, 0, none⟩) R.length R.length, .string (S [44])] wr fun e w' => e = .returned (.string (S (textOf R))) ∧ Below wr.heap.size wr w') := by
        have e1 : (R.map fun r => S (pc r)).map (·.data.toList) = R.map pc := by
          rw [List.map_map]
          exact List.map_congr_left fun r _ => S_list _
        have h1 := Try.strings_Join w.heap.size 0 R.length (R.map fun r => S (pc r)) (S [44]) wr (fun j x hx => by
          have hj : j < R.length := by
            have := (List.getElem?_eq_some_iff.1 hx).1
            simpa using this
          rw [Nat.zero_add, HW.out.cell hj]
          unfold wrote
          rw [if_pos (by have := HK.out; omega)]
          rw [List.getElem?_map, List.getElem?_eq_getElem hj] at hx
          have := Option.some.inj hx
          rw [← this]
          simp [List.getD_eq_getElem?_getD, hj]) HW.out.lt (by rw [List.length_map]; omega) (by rw [List.length_map]; exact Nat.le_refl _) (by
            rw [e1]
            exact HJ.out)
        rw [e1, List.length_map] at h1
        exact h1
      go_wp2_with fail
      refine HX.out.mono ?_
      rintro e w4 ⟨rfl, hb4⟩
      go_wp2_with fail
      go_ret
      exact ⟨rfl, HB.out.trans (hb4.mono HB.out.size)⟩
end Go.Proofs.Qxb6630559a
