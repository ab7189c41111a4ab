/-
  zzToSelector. By an AI agent.
-/
import Derived.Test.Qxb6630559aReqs
import Derived.BigRegion
namespace Go.Proofs.Qxb6630559a
open Go.RowKit

theorem Try.info34 : (Try.prog.info? 34).map (fun i => (i.zero, i.size, i.bytes)) = some (some (Value.agg #[.string ⟨#[]⟩, .int .i64 0, .string ⟨#[]⟩]), 3, 40) := by kernel_rfl

theorem ReqAt.below {w w' : World} {a : Option Addr} {R : List Rq} (h : ReqAt w a R) (hb : Below w.heap.size w w') : ReqAt w' a R := fun h0 => by
  obtain ⟨b, o, rfl, hc⟩ := h h0
  refine ⟨b, o, rfl, fun i hi => ?_⟩
  obtain ⟨c0, c1, c2⟩ := hc i hi
  exact ⟨(hb.cell (World.block_lt_of_cell? w _ c0)).trans c0, (hb.cell (World.block_lt_of_cell? w _ c1)).trans c1, (hb.cell (World.block_lt_of_cell? w _ c2)).trans c2⟩

/-- The first k of the requirements lie in the cells. -/
def Filled (xs : List Value) (R : List Rq) (k : Nat) : Prop :=
  ∀ i, i < k → xs[i * 3]? = some (.string (R.getD i Rq.zero).key) ∧ xs[i * 3 + 1]? = some (.int .i64 (R.getD i Rq.zero).op) ∧ xs[i * 3 + 2]? = some (.string (R.getD i Rq.zero).val)

theorem filled_succ {xs : List Value} {R : List Rq} {k : Nat} (h : Filled xs R k) (hx : k * 3 + 2 < xs.length) (ky : ByteArray) (op : Int) (vl : ByteArray) (hr : (⟨ky, op, vl⟩ : Rq) = R.getD k Rq.zero) :
    Filled (((xs.set (k * 3) (.string ky)).set (k * 3 + 1) (.int .i64 op)).set (k * 3 + 2) (.string vl)) R (k + 1) := by
  intro i hi
  by_cases e : i = k
  · subst e
    rw [← hr]
    refine ⟨?_, ?_, ?_⟩
    · rw [List.getElem?_set_ne (by omega), List.getElem?_set_ne (by omega), List.getElem?_set_self (by omega)]
    · rw [List.getElem?_set_ne (by omega), List.getElem?_set_self (by simp; omega)]
    · rw [List.getElem?_set_self (by simp; omega)]
  · obtain ⟨h0, h1, h2⟩ := h i (by omega)
    refine ⟨?_, ?_, ?_⟩
    · rw [List.getElem?_set_ne (by omega), List.getElem?_set_ne (by omega), List.getElem?_set_ne (by omega)]; exact h0
    · rw [List.getElem?_set_ne (by omega), List.getElem?_set_ne (by omega), List.getElem?_set_ne (by omega)]; exact h1
    · rw [List.getElem?_set_ne (by omega), List.getElem?_set_ne (by omega), List.getElem?_set_ne (by omega)]; exact h2

theorem filled_at {w : World} {B g cap n : Nat} {xs : List Value} {R : List Rq} (h : w.ownsRow B 34 3 (.slice (some ⟨g, 0, none⟩) n cap) n xs) (hn : n = R.length) (hf : Filled xs R n) : ReqAt w (some ⟨g, 0, none⟩) R := by
  intro _
  refine ⟨g, 0, rfl, fun i hi => ?_⟩
  obtain ⟨h0, h1, h2⟩ := hf i (by omega)
  rw [Nat.zero_add]
  exact ⟨(h.cellAt (i * 3) (by omega)).trans h0, (h.cellAt (i * 3 + 1) (by omega)).trans h1, (h.cellAt (i * 3 + 2) (by omega)).trans h2⟩

set_option maxRecDepth 100000 in
set_option maxHeartbeats 1000000 in
theorem tosel_any (a : Option Addr) (cap : Nat) (R : List Rq) (w : World) (h : ReqAt w a R) (hl : R.length ≤ 1048576) :
    Calls Try.prog 7 #[.slice a R.length cap] w fun e w' => ∃ g, e = .returned (.slice (some ⟨g, 0, none⟩) R.length R.length) ∧ g < w'.heap.size ∧ ReqAt w' (some ⟨g, 0, none⟩) R ∧ Below w.heap.size w w' := by
  obtain ⟨i0, hi0, hz0, hz1, hz2⟩ := info_parts Try.info34
  have HR : Hid (ReqAt w a R) := h
  clear h
  go_enter Try.func7, Try.ntmps7
  go_wp2_with (at_make; refine wpList_make_full _ rfl _ _ 25 rfl w.heap.size 34 i0 _ 3 Try.underlying25 hi0 hz0 hz1 .i64 .i64 (R.length : Int) (R.length : Int) R.length rfl rfl rfl rfl (by rw [hz2]; omega) (by unfold maxLen; omega) (Nat.le_refl _) ?_; intro w2 hown2 hgrow2)
  obtain ⟨n, hn⟩ : ∃ n, n = R.length := ⟨_, rfl⟩
  have HB2 : Hid (Below w.heap.size w w2) := (Below.refl _ _).grown hgrow2 (Nat.le_refl _) (fun k hk => by cases hk)
  have HO2 : Hid (∃ xs, w2.ownsRow w.heap.size 34 3 (.slice (some ⟨w.heap.size, 0, none⟩) R.length R.length) R.length xs) := ⟨_, hown2⟩
  clear hown2 hgrow2
  go_loopw [4] (fun i wr => ∃ (k : Nat) (xs : List Value), i = .int .i64 (k : Int) ∧ k ≤ R.length ∧ wr.ownsRow w.heap.size 34 3 (.slice (some ⟨w.heap.size, 0, none⟩) R.length R.length) R.length xs ∧ Filled xs R k ∧ Below w.heap.size w wr) (fun i _ => R.length - (intOf i).toNat)
  case atStart =>
    obtain ⟨xs, hx⟩ := HO2.out
    exact ⟨0, xs, rfl, by omega, hx, fun i hi => absurd hi (by omega), HB2.out⟩
  case round =>
    obtain ⟨k, xs, rfl, hk, ho, hf, hb⟩ := hrel
    have HO : Hid (wr.ownsRow w.heap.size 34 3 (.slice (some ⟨w.heap.size, 0, none⟩) R.length R.length) R.length xs) := ho
    have HF : Hid (Filled xs R k) := hf
    have HB : Hid (Below w.heap.size w wr) := hb
    have hrow := HR.out.below hb
    have hxl : xs.length = R.length * 3 := ho.1
    clear ho hf hb HO2 HB2 hn
    by_cases hlt : k < R.length
    · obtain ⟨b, o, rfl, hc⟩ := hrow (by omega)
      obtain ⟨c0, c1, c2⟩ := hc k hlt
      clear hc hrow
      obtain ⟨r, hr⟩ : ∃ r, r = R.getD k Rq.zero := ⟨_, rfl⟩
      rw [← hr] at c0 c1 c2
      have HRR : Hid (r = R.getD k Rq.zero) := hr
      clear hr
      obtain ⟨ky, op, vl⟩ := r
      simp only at c0 c1 c2
      have e0 : ∃ v, wr.cell? ⟨w.heap.size, k * 3, none⟩ = some v := ⟨_, (HO.out.cellAt (k * 3) (by omega)).trans (List.getElem?_eq_getElem (by omega))⟩
      have e1 : ∃ v, wr.cell? ⟨w.heap.size, k * 3 + 1, none⟩ = some v := ⟨_, (HO.out.cellAt (k * 3 + 1) (by omega)).trans (List.getElem?_eq_getElem (by omega))⟩
      have e2 : ∃ v, wr.cell? ⟨w.heap.size, k * 3 + 2, none⟩ = some v := ⟨_, (HO.out.cellAt (k * 3 + 2) (by omega)).trans (List.getElem?_eq_getElem (by omega))⟩
      obtain ⟨v0, e0⟩ := e0
      obtain ⟨v1, e1⟩ := e1
      obtain ⟨v2, e2⟩ := e2
      have f0 : wr.frozen? ⟨w.heap.size, k * 3, none⟩ = false := HO.out.frozenAt _
      have f1 : wr.frozen? ⟨w.heap.size, k * 3 + 1, none⟩ = false := HO.out.frozenAt _
      have f2 : wr.frozen? ⟨w.heap.size, k * 3 + 2, none⟩ = false := HO.out.frozenAt _
      have g1 : (k : Int) < (R.length : Int) := by omega
      have g3 : (0 : Int) ≤ (k : Int) := by omega
      clear HR
      go_wp2_with fail
      go_region
      all_goals go_wp2_with fail
      refine ⟨⟨k + 1, ((xs.set (k * 3) (.string ky)).set (k * 3 + 1) (.int .i64 op)).set (k * 3 + 2) (.string vl), by go_num, by omega, (((HO.out.stored _ _).1.stored _ _).1.stored _ _).1, filled_succ HF.out (by omega) ky op vl HRR.out, ?_⟩, ?_⟩
      · exact (((HB.out.setCell (p := ⟨w.heap.size, k * 3, none⟩) (Nat.le_refl _) _).setCell (p := ⟨w.heap.size, k * 3 + 1, none⟩) (Nat.le_refl _) _).setCell (p := ⟨w.heap.size, k * 3 + 2, none⟩) (Nat.le_refl _) _).drew
      · simp [intOf]; omega
    · have hkk : k = R.length := by omega
      have HK : Hid (k = R.length) := hkk
      clear hkk hrow
      go_wp2_with fail
      go_ret
      refine ⟨w.heap.size, rfl, ?_, ?_, HB.out⟩
      · exact (HO.out.lt _ rfl).2
      · have h1 := HF.out
        rw [HK.out] at h1
        exact filled_at HO.out rfl h1
end Go.Proofs.Qxb6630559a
