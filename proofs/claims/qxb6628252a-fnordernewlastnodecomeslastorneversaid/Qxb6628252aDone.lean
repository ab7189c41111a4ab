import Derived.Test.Qxb6628252aSch
namespace Go.Proofs.Qxb6628252a
open Go.RowKit

/-- w' is w but for blocks bs, bw, the row, and what is new. -/
structure Fr2 (w w' : World) (bs bw : Nat) (row : Option Nat) : Prop where
  os : w'.os = w.os
  tape : w'.tape = w.tape
  output : w'.output = w.output
  size : w.heap.size ≤ w'.heap.size
  block : ∀ k, k < w.heap.size → k ≠ bs → k ≠ bw → some k ≠ row → w'.heap[k]? = w.heap[k]?

/-- The row is the old one, or new. -/
def Lies (w : World) (row row' : Option Nat) : Prop := row' = row ∨ ∃ g, row' = some g ∧ w.heap.size ≤ g

theorem Fr2.refl (w : World) (bs bw : Nat) (row : Option Nat) : Fr2 w w bs bw row := ⟨rfl, rfl, rfl, Nat.le_refl _, fun _ _ _ _ _ => rfl⟩
theorem Fr2.set {w w' : World} {bs bw : Nat} {row : Option Nat} (h : Fr2 w w' bs bw row) (k : Nat) (u : Value) : Fr2 w (w'.setCell ⟨bw, k, none⟩ u) bs bw row :=
  ⟨h.os, h.tape, h.output, by simpa using h.size, fun i hi h1 h2 h3 => (heap_setCell_other w' _ _ _ h2).trans (h.block i hi h1 h2 h3)⟩
theorem Fr2.push {w w' w'' : World} {bs bw : Nat} {row row' : Option Nat} (h : Fr2 w w' bs bw row) (hl : Lies w row row') (hf : Fr w' w'' bs row') : Fr2 w w'' bs bw row :=
  ⟨hf.os.trans h.os, hf.tape.trans h.tape, hf.output.trans h.output, Nat.le_trans h.size hf.size, fun i hi h1 h2 h3 => by
    rw [hf.block i (Nat.lt_of_lt_of_le hi h.size) h1 ?_]
    · exact h.block i hi h1 h2 h3
    · intro e
      rcases hl with r | ⟨g, r, hg⟩
      · rw [r] at e; exact h3 e
      · rw [r] at e; simp at e; omega⟩
theorem Lies.push {w w' : World} {row row' : Option Nat} {g : Nat} (hs : w.heap.size ≤ w'.heap.size) (hl : Lies w row row') (hat : row' = some g ∨ w'.heap.size ≤ g) : Lies w row (some g) := by
  rcases hat with r | r
  · rw [← r]; exact hl
  · exact .inr ⟨g, rfl, by omega⟩

abbrev iv (l : List Nat) : List Int := l.map fun k : Nat => (k : Int)

set_option maxHeartbeats 400000 in
theorem next_none (bs cap : Nat) (ao : Option Addr) (w : World) (hc : w.cell? ⟨bs, 2, none⟩ = some (.slice ao 0 cap)) :
    Calls Try.prog 12 #[.pointer (some ⟨bs, 0, none⟩)] w fun e w' => e = .returned (.tuple #[.int .i64 0, .bool false]) ∧ w' = w := by
  go_enter Try.func12, Try.ntmps12
  go_wp2
  go_ret2
  exact ⟨rfl, rfl⟩

set_option maxHeartbeats 400000 in
theorem next_some (bs g m cap : Nat) (x : Int) (w : World) (hc : w.cell? ⟨bs, 2, none⟩ = some (.slice (some ⟨g, 0, none⟩) (m + 1) cap)) (hx : w.cell? ⟨g, 0, none⟩ = some (.int .i64 x)) :
    Calls Try.prog 12 #[.pointer (some ⟨bs, 0, none⟩)] w fun e w' => e = .returned (.tuple #[.int .i64 x, .bool true]) ∧ w' = w := by
  have h1 : (((m + 1 : Nat) : Int) == 0) = false := by simp; omega
  have h2 : (0 : Int) < ((m + 1 : Nat) : Int) := by omega
  go_enter Try.func12, Try.ntmps12
  go_wp2
  go_ret2
  exact ⟨rfl, rfl⟩

set_option maxHeartbeats 400000 in
theorem take_any (bs : Nat) (c0 c1 : Value) (base g n cap : Nat) (zs : List Int) (w : World) (h : HAt w bs c0 c1 base g (n + 1) cap zs) (hn : n ≤ 1000000000) (hh : Hp.Heap zs (n + 1)) :
    Calls Try.prog 13 #[.pointer (some ⟨bs, 0, none⟩)] w fun e w' => e = .returned (.tuple #[]) ∧ ∃ zs',
      HAt w' bs c0 c1 base g n cap zs' ∧ zs.Perm (zs.getD 0 0 :: zs') ∧ Hp.Heap zs' n ∧ Fr w w' bs (some g) := by
  go_enter Try.func13, Try.ntmps13
  go_wp2_with fail
  refine (hpop_any bs c0 c1 base g n cap zs w h hn hh).mono ?_
  rintro e w1 ⟨rfl, hz⟩
  go_wp2_with fail
  go_end0
  exact ⟨rfl, hz⟩

theorem cnt_step {B : List (List Nat)} {T : List Nat} {j t : Nat} {wt : Nat → Int} (ht : t < (Gp.aft B j).length)
    (hw : ∀ i, i < B.length → wt i = (Gp.wait B T i : Int) - ((Gp.aft B j).take t).count i) :
    ∀ i, i < B.length → (if i = (Gp.aft B j)[t] then wt (Gp.aft B j)[t] - 1 else wt i) = (Gp.wait B T i : Int) - ((Gp.aft B j).take (t + 1)).count i := by
  intro i hi
  rw [Gp.take_snoc _ _ ht, List.count_append]
  by_cases e : i = (Gp.aft B j)[t]
  · rw [if_pos e, ← e, hw i hi]
    simp; omega
  · rw [if_neg e, hw i hi]
    simp [Ne.symm e]

theorem cnt_pos {B : List (List Nat)} {T : List Nat} {j t : Nat} {wt : Nat → Int} (hj : j ∉ T) (ht : t < (Gp.aft B j).length)
    (hw : ∀ i, i < B.length → wt i = (Gp.wait B T i : Int) - ((Gp.aft B j).take t).count i) : 1 ≤ wt (Gp.aft B j)[t] ∧ (wt (Gp.aft B j)[t] = 1 ↔ Gp.wait B T (Gp.aft B j)[t] = ((Gp.aft B j).take (t + 1)).count (Gp.aft B j)[t]) := by
  have hlt := (Gp.mem_aftTo (List.getElem_mem ht)).1
  have h1 := Gp.count_take_le B T j (Gp.aft B j)[t] (t + 1) hj hlt
  have h2 := hw (Gp.aft B j)[t] hlt
  rw [Gp.take_snoc _ _ ht, List.count_append] at *
  simp only [List.count_singleton, beq_self_eq_true, if_true] at *
  omega

theorem ready_len {B : List (List Nat)} {T L : List Nat} {j t : Nat} (h : Gp.Told B T j t L) : L.length ≤ B.length := Gp.length_le_of_nodup_lt _ _ h.nodup fun i hi => ((h.mem i).1 hi).1

theorem iv_len (L : List Nat) : (iv L).length = L.length := by simp [iv]

set_option maxRecDepth 100000 in
set_option maxHeartbeats 2000000 in
theorem done_walk (base bs bw ba : Nat) (B : List (List Nat)) (T : List Nat) (j : Nat) (wt : Nat → Int) (V : Nat → Value) (v : Value) (L : List Nat) (w : World) (gj cj : Nat)
    (h : Sch w base bs bw ba B.length wt (Gp.aft B) V v (iv L)) (hwt : ∀ i, i < B.length → wt i = (Gp.wait B T i : Int)) (hh : Hp.Heap (iv L) L.length) (hT : Gp.Told B T j 0 L)
    (hB : B.length ≤ 100000000) (hwb : ∀ i, i < B.length → Gp.wait B T i ≤ 100000000) (hal : (Gp.aft B j).length ≤ 100000000) (hj : j < B.length) (hjT : j ∉ T) (hnt : ∀ k ∈ Gp.aft B j, k ∉ T ++ [j])
    (hV : V j = .slice (some ⟨gj, 0, none⟩) (Gp.aft B j).length cj) :
    Calls Try.prog 14 #[.pointer (some ⟨bs, 0, none⟩), .int .i64 j] w fun e w' => e = .returned (.tuple #[]) ∧ ∃ wt' v' L', Sch w' base bs bw ba B.length wt' (Gp.aft B) V v' (iv L') ∧
      (∀ i, i < B.length → wt' i = (Gp.wait B (T ++ [j]) i : Int)) ∧ Hp.Heap (iv L') L'.length ∧ Gp.Ready B (T ++ [j]) L' ∧ Fr2 w w' bs bw v.ownBlock ∧ Lies w v.ownBlock v'.ownBlock := by
  have hc1 := h.c1
  have hcV : w.cell? ⟨ba, j, none⟩ = some (.slice (some ⟨gj, 0, none⟩) (Gp.aft B j).length cj) := by rw [← hV]; exact h.afs.cell hj
  have HV : Hid (V j = .slice (some ⟨gj, 0, none⟩) (Gp.aft B j).length cj) := hV
  clear hV
  have Hwt : Hid (∀ i, i < B.length → wt i = (Gp.wait B T i : Int)) := hwt
  clear hwt
  have hj0 : (0 : Int) ≤ (j : Int) := by omega
  have hj1 : (j : Int) < (B.length : Int) := by omega
  obtain ⟨n, hn⟩ : ∃ n, n = B.length := ⟨_, rfl⟩
  obtain ⟨A, hA⟩ : ∃ A, A = Gp.aft B j := ⟨_, rfl⟩
  go_enter Try.func14, Try.ntmps14
  go_wp2_with fail
  go_loopw [14] (fun tv wr => ∃ (t : Nat) (wtr : Nat → Int) (vr : Value) (Lr : List Nat), t ≤ (Gp.aft B j).length ∧ tv = .int .i64 t ∧ Sch wr base bs bw ba B.length wtr (Gp.aft B) V vr (iv Lr) ∧
      (∀ i, i < B.length → wtr i = (Gp.wait B T i : Int) - ((Gp.aft B j).take t).count i) ∧ Hp.Heap (iv Lr) Lr.length ∧ Gp.Told B T j t Lr ∧ Fr2 w wr bs bw v.ownBlock ∧ Lies w v.ownBlock vr.ownBlock)
    (fun tv _ => (Gp.aft B j).length - (intOf tv).toNat)
  case atStart => exact ⟨0, wt, v, L, Nat.zero_le _, rfl, h, fun i hi => by rw [Hwt.out i hi]; simp, hh, hT, Fr2.refl _ _ _ _, .inl rfl⟩
  case round =>
    obtain ⟨t, wtr, vr, Lr, ht, rfl, hS, hwr, hhr, hTr, hF, hL⟩ := hrel
    have Hwr : Hid (∀ i, i < B.length → wtr i = (Gp.wait B T i : Int) - ((Gp.aft B j).take t).count i) := hwr
    clear hwr
    by_cases hlt : t < (Gp.aft B j).length
    · obtain ⟨k, hk⟩ : ∃ k, k = (Gp.aft B j)[t] := ⟨_, rfl⟩
      have hkB : k < B.length := by rw [hk]; exact (Gp.mem_aftTo (List.getElem_mem hlt)).1
      obtain ⟨x, hx⟩ : ∃ x, x = wtr k := ⟨_, rfl⟩
      have hrow := hS.rows j hj
      rw [HV.out] at hrow
      have e1 : wr.cell? ⟨gj, t, none⟩ = some (.int .i64 (k : Int)) := by
        rw [hrow.cellAt t (by omega), hk]; simp [nv, hlt]
      have e2 : wr.cell? ⟨bw, k, none⟩ = some (.int .i64 x) := by rw [hx]; exact hS.wts.cell hkB
      have e3 := hS.c0
      have e4 := hS.wts.frozen k
      have hxb : 1 ≤ x ∧ x ≤ 1000000000 := by
        have h1 := (cnt_pos hjT hlt Hwr.out).1
        have h2 := Hwr.out k hkB
        have h3 := hwb k hkB
        rw [← hk] at h1
        rw [hx]
        omega
      have hne : ¬ bs = bw := hS.sw
      have hk0 : (0 : Int) ≤ (k : Int) := by omega
      have hk1 : (k : Int) < (B.length : Int) := by omega
      have Hk : Hid (k = (Gp.aft B j)[t]) := hk
      have Hx : Hid (x = wtr k) := hx
      clear hk hx hrow
      by_cases hx1 : x = 1
      · subst hx1
        have hS2 := hS.counted k 0
        have hcnt : ∀ i, i < B.length → (if i = k then 0 else wtr i) = (Gp.wait B T i : Int) - ((Gp.aft B j).take (t + 1)).count i := by
          have := cnt_step hlt Hwr.out
          rw [← Hk.out, ← Hx.out] at this
          exact this
        have Hcnt : Hid (∀ i, i < B.length → (if i = k then 0 else wtr i) = (Gp.wait B T i : Int) - ((Gp.aft B j).take (t + 1)).count i) := hcnt
        clear hcnt
        have hwz : Gp.wait B T (Gp.aft B j)[t] = ((Gp.aft B j).take (t + 1)).count (Gp.aft B j)[t] := (cnt_pos hjT hlt Hwr.out).2.1 (by rw [← Hk.out]; exact Hx.out.symm)
        have Hwz : Hid (Gp.wait B T (Gp.aft B j)[t] = ((Gp.aft B j).take (t + 1)).count (Gp.aft B j)[t]) := hwz
        clear hwz
        have hrl := ready_len hTr
        go_wp2_with fail
        refine (hpush_any bs _ _ vr Lr.length base (iv Lr) k _ hS2.sb (by have := hS2.rd; rw [iv_len] at this; exact this) hS2.base_le (by omega) hS2.vs hhr).mono ?_
        rintro e w1 ⟨rfl, g, cap, zs', hA1, hp1, hh1, hat1, hf1⟩
        obtain ⟨L', hz', hpL⟩ := nat_perm (L := Lr ++ [k]) (zs := zs') (by simpa [iv] using hp1)
        subst hz'
        have hS3 := hS2.moved hf1 hA1 hat1
        have hlen := hA1.len
        rw [List.length_map] at hlen
        go_wp2_with fail
        go_roundw
        case rel =>
          refine ⟨t + 1, _, _, L', by omega, by go_num, hS3, Hcnt.out, by rw [hlen]; exact hh1, ?_, (hF.set k _).push hL hf1, Lies.push (by simpa using (hF.set k (.int .i64 0)).size) hL hat1⟩
          exact Gp.told_push hTr hlt (hnt _ (List.getElem_mem hlt)) Hwz.out (by rw [← Hk.out]; exact hpL)
        case measure => simp [intOf]; omega
      · have hS2 := hS.counted k (x - 1)
        have hcnt : ∀ i, i < B.length → (if i = k then x - 1 else wtr i) = (Gp.wait B T i : Int) - ((Gp.aft B j).take (t + 1)).count i := by
          have := cnt_step hlt Hwr.out
          rw [← Hk.out, ← Hx.out] at this
          exact this
        have Hcnt : Hid (∀ i, i < B.length → (if i = k then x - 1 else wtr i) = (Gp.wait B T i : Int) - ((Gp.aft B j).take (t + 1)).count i) := hcnt
        clear hcnt
        have hwz : Gp.wait B T (Gp.aft B j)[t] ≠ ((Gp.aft B j).take (t + 1)).count (Gp.aft B j)[t] := fun e => hx1 (by rw [Hx.out, Hk.out]; exact (cnt_pos hjT hlt Hwr.out).2.2 e)
        have Hwz : Hid (Gp.wait B T (Gp.aft B j)[t] ≠ ((Gp.aft B j).take (t + 1)).count (Gp.aft B j)[t]) := hwz
        clear hwz
        have hxx : (x - 1 == 0) = false := by simp; omega
        go_wp2_with fail
        go_roundw
        case rel => exact ⟨t + 1, _, _, Lr, by omega, by go_num, hS2, Hcnt.out, hhr, Gp.told_wait hjT hTr hlt Hwz.out, hF.set k _, hL⟩
        case measure => simp [intOf]; omega
    · have htl : t = (Gp.aft B j).length := by omega
      subst htl
      have hend := Gp.told_end hjT hTr
      have hcnt : ∀ i, i < B.length → wtr i = (Gp.wait B (T ++ [j]) i : Int) := by
        intro i hi
        have h1 := Hwr.out i hi
        have h2 := Gp.wait_step B T j i hjT hi
        rw [List.take_length] at h1
        omega
      have Hcnt : Hid (∀ i, i < B.length → wtr i = (Gp.wait B (T ++ [j]) i : Int)) := hcnt
      clear hcnt
      go_wp2_with fail
      go_end0
      exact ⟨rfl, wtr, vr, Lr, hS, Hcnt.out, hhr, hend, hF, hL⟩

set_option maxRecDepth 100000 in
set_option maxHeartbeats 1000000 in
theorem done_none (bs ba n : Nat) (j : Nat) (w : World) (hc1 : w.cell? ⟨bs, 1, none⟩ = some (.slice (some ⟨ba, 0, none⟩) n n)) (hcV : w.cell? ⟨ba, j, none⟩ = some (.slice none 0 0)) (hj : j < n) :
    Calls Try.prog 14 #[.pointer (some ⟨bs, 0, none⟩), .int .i64 j] w fun e w' => e = .returned (.tuple #[]) ∧ w' = w := by
  have hj0 : (0 : Int) ≤ (j : Int) := by omega
  have hj1 : (j : Int) < (n : Int) := by omega
  go_enter Try.func14, Try.ntmps14
  go_wp2_with fail
  refine wp_loop_rounds 1 ?_
  rw [rounds_succ]
  go_wp2_with fail
  go_end0
  exact ⟨rfl, rfl⟩

theorem done_any (base bs bw ba : Nat) (B : List (List Nat)) (T : List Nat) (j : Nat) (wt : Nat → Int) (V : Nat → Value) (v : Value) (L : List Nat) (w : World)
    (h : Sch w base bs bw ba B.length wt (Gp.aft B) V v (iv L)) (hwt : ∀ i, i < B.length → wt i = (Gp.wait B T i : Int)) (hh : Hp.Heap (iv L) L.length) (hT : Gp.Told B T j 0 L)
    (hB : B.length ≤ 100000000) (hwb : ∀ i, i < B.length → Gp.wait B T i ≤ 100000000) (hal : (Gp.aft B j).length ≤ 100000000) (hj : j < B.length) (hjT : j ∉ T) (hnt : ∀ k ∈ Gp.aft B j, k ∉ T ++ [j]) :
    Calls Try.prog 14 #[.pointer (some ⟨bs, 0, none⟩), .int .i64 j] w fun e w' => e = .returned (.tuple #[]) ∧ ∃ wt' v' L', Sch w' base bs bw ba B.length wt' (Gp.aft B) V v' (iv L') ∧
      (∀ i, i < B.length → wt' i = (Gp.wait B (T ++ [j]) i : Int)) ∧ Hp.Heap (iv L') L'.length ∧ Gp.Ready B (T ++ [j]) L' ∧ Fr2 w w' bs bw v.ownBlock ∧ Lies w v.ownBlock v'.ownBlock := by
  rcases (h.rows j hj).2 with ⟨h0, h1⟩ | ⟨g, cap, cur, hv, _⟩
  · have hnil : Gp.aft B j = [] := List.eq_nil_of_length_eq_zero h1
    have hT2 : Gp.Told B T j (Gp.aft B j).length L := by rw [hnil]; exact hT
    refine (done_none bs ba B.length j w h.c1 (by rw [← h0]; exact h.afs.cell hj) hj).mono ?_
    rintro e w1 ⟨rfl, rfl⟩
    refine ⟨rfl, wt, v, L, h, ?_, hh, Gp.told_end hjT hT2, Fr2.refl _ _ _ _, .inl rfl⟩
    intro i hi
    have h1 := hwt i hi
    have h2 := Gp.wait_step B T j i hjT hi
    rw [hnil] at h2
    simp at h2
    omega
  · exact done_walk base bs bw ba B T j wt V v L w g cap h hwt hh hT hB hwb hal hj hjT hnt hv
end Go.Proofs.Qxb6628252a
