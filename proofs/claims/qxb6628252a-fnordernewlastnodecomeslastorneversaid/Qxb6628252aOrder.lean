import Derived.Test.Qxb6628252aSched
import Derived.Deep.LoopGhost
namespace Go.Proofs.Qxb6628252a
open Go.RowKit

set_option maxRecDepth 100000 in
set_option maxHeartbeats 1000000 in
theorem ns_zero (ao : Option Addr) (cap : Nat) (w : World) :
    Calls Try.prog 11 #[.slice ao 0 cap] w fun e w' => ∃ bs bw ba wt V v L, e = .returned (.pointer (some ⟨bs, 0, none⟩)) ∧
      Sch w' w.heap.size bs bw ba ([] : List (List Nat)).length wt (Gp.aft []) V v (iv L) ∧ (∀ i, i < ([] : List (List Nat)).length → wt i = (Gp.wait [] [] i : Int)) ∧ Hp.Heap (iv L) L.length ∧ Gp.Ready [] [] L ∧ Below w.heap.size w w' := by
  have hmk1 : ∀ W, (Instr.makeSlice 24 (.int .i64 0) (.int .i64 0)).run Try.prog W = .ok (.slice (some ⟨W.heap.size, 0, none⟩) 0 0) (W.alloc (.cells (madeCells #[.int .i64 0] 0) 3)) := run_make_row' (P := Try.prog) 24 3 (.int .i64 0) 8 Try.underlying24 Try.info3 rfl .i64 .i64 0 (by omega) (by omega)
  have hmk2 : ∀ W, (Instr.makeSlice 22 (.int .i64 0) (.int .i64 0)).run Try.prog W = .ok (.slice (some ⟨W.heap.size, 0, none⟩) 0 0) (W.alloc (.cells (madeCells #[.slice none 0 0] 0) 24)) := run_make_row' (P := Try.prog) 22 24 (.slice none 0 0) 24 Try.underlying22 Try.info24 rfl .i64 .i64 0 (by omega) (by omega)
  have hfin : ∀ wc bs bw ba, Sch wc w.heap.size bs bw ba 0 (fun _ => 0) (fun _ => []) (fun _ => .slice none 0 0) (.slice none 0 0) (iv []) → Below w.heap.size w wc →
      ∃ bs' bw ba wt V v L, Ending.returned (.pointer (some ⟨bs, 0, none⟩)) = .returned (.pointer (some ⟨bs', 0, none⟩)) ∧
      Sch wc w.heap.size bs' bw ba ([] : List (List Nat)).length wt (Gp.aft []) V v (iv L) ∧ (∀ i, i < ([] : List (List Nat)).length → wt i = (Gp.wait [] [] i : Int)) ∧ Hp.Heap (iv L) L.length ∧ Gp.Ready [] [] L ∧ Below w.heap.size w wc :=
    fun wc bs bw ba hS hb => ⟨bs, bw, ba, _, _, _, [], rfl, hS.congr (fun _ _ => rfl) (fun j hj => absurd hj (by omega)), fun i hi => absurd hi (by simp), fun c _ hc => absurd hc (by simp), Gp.laid_end (Gp.laid_start []), hb⟩
  go_enter Try.func11, Try.ntmps11
  go_wp2_with fail
  go_cut [3] from 8 to 15 (fun s wc => ∃ bs bw ba, s = .pointer (some ⟨bs, 0, none⟩) ∧ Sch wc w.heap.size bs bw ba 0 (fun _ => 0) (fun _ => []) (fun _ => .slice none 0 0) (.slice none 0 0) (iv []) ∧ Below w.heap.size w wc)
  case first =>
    clear hfin
    go_region
    all_goals go_wp2_with fail
    all_goals go_meet
    · exact ⟨_, _, _, rfl, sch_start1 w _, below3 _ _ _ _⟩
    · exact ⟨_, _, _, rfl, sch_start2 w _, below3 _ _ _ _⟩
  case rest =>
    obtain ⟨bs, bw, ba, rfl, hS0, hb0⟩ := hcut
    have hf := hfin wc bs bw ba hS0 hb0
    clear hmk1 hmk2 hfin hS0 hb0
    have Hf : Hid _ := hf
    clear hf
    go_wp2_with fail
    refine wp_loop_rounds 1 ?_
    rw [rounds_succ]
    go_wp2_with fail
    go_ret
    exact Hf.out

theorem ns_any (ao : Option Addr) (cap : Nat) (B : List (List Nat)) (w : World) (hM : GrAt w ao B) (hok : Gp.Ok B) (hn : B.length ≤ 10000000) (ht : Gp.tot B ≤ 10000000) :
    Calls Try.prog 11 #[.slice ao B.length cap] w fun e w' => ∃ bs bw ba wt V v L, e = .returned (.pointer (some ⟨bs, 0, none⟩)) ∧
      Sch w' w.heap.size bs bw ba B.length wt (Gp.aft B) V v (iv L) ∧ (∀ i, i < B.length → wt i = (Gp.wait B [] i : Int)) ∧ Hp.Heap (iv L) L.length ∧ Gp.Ready B [] L ∧ Below w.heap.size w w' := by
  by_cases h0 : B.length = 0
  · have := List.eq_nil_of_length_eq_zero h0
    subst this
    exact ns_zero ao cap w
  · obtain ⟨b, o, rfl, hR⟩ := hM (by omega)
    exact ns_walk b o cap B w hR hok hn ht

/-- The row of the answer: its own block. -/
structure Ans (w : World) (base bq n bw : Nat) (V : Nat → Value) (v : Value) (T : List Nat) : Prop where
  own : w.ownsRow base 3 1 (.slice (some ⟨bq, 0, none⟩) T.length n) T.length (nv T)
  nw : bq ≠ bw
  nv' : v.ownBlock ≠ some bq
  nV : ∀ j, j < n → (V j).ownBlock ≠ some bq

theorem Ans.lt {w : World} {base bq n bw : Nat} {V : Nat → Value} {v : Value} {T : List Nat} (h : Ans w base bq n bw V v T) : bq < w.heap.size := (h.own.lt bq rfl).2
theorem Ans.base_le {w : World} {base bq n bw : Nat} {V : Nat → Value} {v : Value} {T : List Nat} (h : Ans w base bq n bw V v T) : base ≤ bq := (h.own.lt bq rfl).1

/-- Behind Take. -/
theorem Ans.took {w w' : World} {base bs bq n bw g m m' cap : Nat} {V : Nat → Value} {T : List Nat} (h : Ans w base bq n bw V (.slice (some ⟨g, 0, none⟩) m cap) T) (hs : bq ≠ bs) (hf : Fr w w' bs (some g)) :
    Ans w' base bq n bw V (.slice (some ⟨g, 0, none⟩) m' cap) T :=
  ⟨own_of_block h.own fun k hk => hf.block k (own_lt h.own hk) (by simp [Value.ownBlock] at hk; omega) (fun e => h.nv' (by simp [Value.ownBlock] at hk; subst hk; exact e.symm)), h.nw, h.nv', h.nV⟩
/-- Behind Done. -/
theorem Ans.done {w w' : World} {base bs bq n bw : Nat} {V : Nat → Value} {v v' : Value} {T : List Nat} (h : Ans w base bq n bw V v T) (hs : bq ≠ bs) (hf : Fr2 w w' bs bw v.ownBlock) (hl : Lies w v.ownBlock v'.ownBlock) :
    Ans w' base bq n bw V v' T := by
  refine ⟨own_of_block h.own fun k hk => ?_, h.nw, ?_, h.nV⟩
  · simp [Value.ownBlock] at hk
    subst hk
    exact hf.block _ h.lt hs h.nw (Ne.symm h.nv')
  · rcases hl with r | ⟨g, r, hg⟩
    · rw [r]; exact h.nv'
    · rw [r]
      have := h.lt
      simp; omega
/-- Behind the append: the schedule is as it was. -/
theorem Sch.answered {w w1 : World} {base bs bw ba n bq : Nat} {wt : Nat → Int} {af : Nat → List Nat} {V : Nat → Value} {v : Value} {zs : List Int} {T : List Nat} {o : Obj}
    (h : Sch w base bs bw ba n wt af V v zs) (ha : Ans w base bq n bw V v T) (hg : (w.alloc o).grownBy w1 (some bq)) : Sch w1 base bs bw ba n wt af V v zs := by
  have hb : ∀ k, k < w.heap.size → k ≠ bq → w1.heap[k]? = w.heap[k]? := fun k hk hne => by
    rw [hg.block k (by simp; omega) (by simpa using hne)]
    exact heap_alloc_old w o hk
  have n1 : bs ≠ bq := by
    rintro rfl
    exact own_ne_tag ha.own h.sb (by decide) rfl
  have n2 : ba ≠ bq := by
    rintro rfl
    obtain ⟨c, hc, _⟩ := h.afs
    exact own_ne_tag ha.own hc (by decide) rfl
  refine ⟨(hb bs h.bss n1).trans h.sb, h.wts.of_block (hb bw h.wts.lt (Ne.symm ha.nw)), h.afs.of_block (hb ba h.afs.lt n2), fun j hj => ?_, ?_, h.bbs, h.bbw, h.bba, h.vw, h.Vw, h.Vv, h.VV⟩
  · exact own_of_block (h.rows j hj) fun k hk => hb k (own_lt (h.rows j hj) hk) (by rintro rfl; exact ha.nV j hj hk)
  · exact own_of_block h.rd fun k hk => hb k (own_lt h.rd hk) (by rintro rfl; exact ha.nv' hk)

theorem Fr2.below {w w' : World} {bs bw B : Nat} {row : Option Nat} (h : Fr2 w w' bs bw row) (h1 : B ≤ bs) (h1' : B ≤ bw) (h2 : ∀ k, row = some k → B ≤ k) (h3 : B ≤ w.heap.size) : Below B w w' :=
  ⟨h.os, h.tape, h.output, h.size, fun k hk => h.block k (by omega) (by omega) (by omega) (fun e => by have := h2 k e.symm; omega)⟩

/-- The lowest ready node. -/
theorem pick_head {B : List (List Nat)} {T L : List Nat} {m : Nat} (hl : L.length = m + 1) (hr : Gp.Ready B T L) (hh : Hp.Heap (iv L) (m + 1)) : Gp.pick B T = some (L.getD 0 0) := by
  obtain ⟨a, l, rfl⟩ : ∃ a l, L = a :: l := by
    cases L with
    | nil => simp at hl
    | cons a l => exact ⟨a, l, rfl⟩
  refine Gp.ready_pick hr (by simp) ?_
  intro k hk
  have := Hp.heap_head (d := iv (a :: l)) (by simpa [iv] using hl) hh (k : Int) (by simp only [iv, List.mem_map]; exact ⟨k, hk, rfl⟩)
  simp [iv] at this ⊢
  exact this
theorem head_iv (L : List Nat) : (iv L).getD 0 0 = ((L.getD 0 0 : Nat) : Int) := by cases L <;> simp [iv]

theorem ans_start {w1 w2 : World} {base bs bw ba n : Nat} {wt : Nat → Int} {af : Nat → List Nat} {V : Nat → Value} {v : Value} {zs : List Int} (h : Sch w1 base bs bw ba n wt af V v zs)
    (hown : w2.ownsRow base 3 1 (.slice (some ⟨w1.heap.size, 0, none⟩) 0 n) 0 []) : Ans w2 base w1.heap.size n bw V v [] := by
  refine ⟨hown, ?_, ?_, fun j hj => ?_⟩
  · have := h.wts.lt; omega
  · intro e; have := own_lt h.rd e; omega
  · intro e; have := own_lt (h.rows j hj) e; omega

theorem ans_ne {w : World} {base bs bw ba n bq : Nat} {wt : Nat → Int} {af : Nat → List Nat} {V : Nat → Value} {v : Value} {zs : List Int} {T : List Nat}
    (h : Sch w base bs bw ba n wt af V v zs) (ha : Ans w base bq n bw V v T) : bq ≠ bs := by
  rintro rfl
  exact own_ne_tag ha.own h.sb (by decide) rfl

theorem take_nat {L : List Nat} {zs : List Int} {m : Nat} (hl : L.length = m + 1) (hp : (iv L).Perm ((iv L).getD 0 0 :: zs)) : ∃ L', zs = iv L' ∧ L.Perm (L.getD 0 0 :: L') := by
  obtain ⟨a, l, rfl⟩ : ∃ a l, L = a :: l := by
    cases L with
    | nil => simp at hl
    | cons a l => exact ⟨a, l, rfl⟩
  have h1 : (iv l).Perm zs := by
    have : ((a : Int) :: iv l).Perm ((a : Int) :: zs) := hp
    exact (List.perm_cons _).1 this
  obtain ⟨L', e, hL'⟩ := nat_perm (L := l) h1.symm
  exact ⟨L', e, hL'.symm.cons a⟩

theorem sch_hat {w : World} {base bs bw ba n g m cap : Nat} {wt : Nat → Int} {af : Nat → List Nat} {V : Nat → Value} {L : List Nat} (h : Sch w base bs bw ba n wt af V (.slice (some ⟨g, 0, none⟩) (m + 1) cap) (iv L)) (hl : L.length = m + 1) :
    HAt w bs (.slice (some ⟨bw, 0, none⟩) n n) (.slice (some ⟨ba, 0, none⟩) n n) base g (m + 1) cap (iv L) :=
  ⟨h.sb, by have := h.rd; rw [iv_len, hl] at this; exact this, fun e => h.vs (by rw [e]; rfl)⟩

theorem ans_next {w w1 : World} {base bq n bw x : Nat} {V : Nat → Value} {v : Value} {T : List Nat} (h : Ans w base bq n bw V v T)
    (hown : w1.ownsRow base 3 1 (.slice (some ⟨bq, 0, none⟩) (T.length + 1) n) (T.length + 1) (nv T ++ [.int .i64 (x : Int)])) : Ans w1 base bq n bw V v (T ++ [x]) := by
  refine ⟨?_, h.nw, h.nv', h.nV⟩
  have e1 : (T ++ [x]).length = T.length + 1 := by simp
  have e2 : nv (T ++ [x]) = nv T ++ [.int .i64 (x : Int)] := by simp [nv]
  rw [e1, e2]; exact hown

set_option maxRecDepth 100000 in
set_option maxHeartbeats 4000000 in
theorem order_any (ao : Option Addr) (cap : Nat) (B : List (List Nat)) (w : World) (hM : GrAt w ao B) (hok : Gp.Ok B) (hn : B.length ≤ 10000000) (ht : Gp.tot B ≤ 10000000) :
    Calls Try.prog 7 #[.slice ao B.length cap] w fun e w' => ∃ bq, e = .returned (.slice (some ⟨bq, 0, none⟩) (Gp.order B).length B.length) ∧
      w'.ownsRow w.heap.size 3 1 (.slice (some ⟨bq, 0, none⟩) (Gp.order B).length B.length) (Gp.order B).length (nv (Gp.order B)) ∧ Below w.heap.size w w' := by
  obtain ⟨i0, hi0, hz0, hz1, hz2⟩ := info_parts Try.info3
  go_enter Try.func7, Try.ntmps7
  go_wp2_with fail
  refine (ns_any ao cap B w hM hok hn ht).mono ?_
  rintro e w1 ⟨bs, bw, ba, wt, V, v, L, rfl, hS, hwt, hh, hR, hb⟩
  have Hwt : Hid (∀ i, i < B.length → wt i = (Gp.wait B [] i : Int)) := hwt
  clear hwt
  have hbase := hS.base_le
  go_wp2_with (at_make; refine wpList_make_own _ rfl _ _ 24 rfl w.heap.size 3 i0 (.int .i64 0) 1 Try.underlying24 hi0 hz0 hz1 .i64 .i64 _ B.length rfl rfl rfl (by rw [hz2]; omega) (by unfold maxLen; omega) hbase ?_; intro w2 hown2 hgrow2)
  have hS2 : Sch w2 w.heap.size bs bw ba B.length wt (Gp.aft B) V v (iv L) := hS.of_blocks fun k _ hk => hgrow2.block k hk (by simp)
  have hA2 := ans_start hS hown2
  have hb2 : Below w.heap.size w w2 := hb.grown hgrow2 hbase (by simp)
  clear hS hb hown2 hgrow2 hbase
  obtain ⟨bq, hbq⟩ : ∃ bq, bq = w1.heap.size := ⟨_, rfl⟩
  rw [← hbq] at hA2 ⊢
  clear hbq
  go_loopg [4] B.length (fun k sv wr => ∃ (T : List Nat) (wt : Nat → Int) (v : Value) (L : List Nat), k = B.length - T.length ∧ sv = .slice (some ⟨bq, 0, none⟩) T.length B.length ∧ Ans wr w.heap.size bq B.length bw V v T ∧
      Sch wr w.heap.size bs bw ba B.length wt (Gp.aft B) V v (iv L) ∧ (∀ i, i < B.length → wt i = (Gp.wait B T i : Int)) ∧ Hp.Heap (iv L) L.length ∧ Gp.Ready B T L ∧ Gp.Run B T ∧ Below w.heap.size w wr)
  case atStart => exact ⟨[], wt, v, L, by simp, rfl, hA2, hS2, Hwt.out, hh, hR, Gp.Run.start B, hb2⟩
  case round =>
    clear hA2 hS2 hb2 Hwt hh hR
    obtain ⟨T, wt, v, L, hgk, rfl, hA, hS, hwt, hh, hR, hrun, hb⟩ := hrel
    have Hgk : Hid (gk = B.length - T.length) := hgk
    have Hwt : Hid (∀ i, i < B.length → wt i = (Gp.wait B T i : Int)) := hwt
    clear hwt hgk
    cases hL : L.length with
    | zero =>
      have := List.eq_nil_of_length_eq_zero hL
      subst this
      have hd := hrun.done (Gp.ready_none hR)
      obtain ⟨av, cv, hv⟩ : ∃ av cv, v = .slice av 0 cv := by
        rcases hS.rd.2 with ⟨h0, _⟩ | ⟨g, c, cur, h0, _⟩
        · exact ⟨_, _, h0⟩
        · exact ⟨_, _, h0⟩
      subst hv
      have hc2 := hS.c2
      have Hd : Hid (Gp.order B = T) := hd
      clear hd
      go_wp2_with fail
      refine (next_none bs cv av wr hc2).mono ?_
      rintro e w3 ⟨rfl, rfl⟩
      go_wp2_with fail
      go_ret
      rw [Hd.out]
      exact ⟨bq, rfl, hA.own, hb⟩
    | succ m =>
      obtain ⟨g, cv, hv⟩ : ∃ g cv, v = .slice (some ⟨g, 0, none⟩) (m + 1) cv := by
        have h1 := hS.rd
        rw [iv_len, hL] at h1
        obtain ⟨g, cv, hv, _⟩ := h1.form (by omega)
        exact ⟨g, cv, hv⟩
      subst hv
      have hH := sch_hat hS hL
      have hc2 := hS.c2
      rw [hL] at hh
      have hpick := pick_head hL hR hh
      have hx := hH.cell (show 0 < m + 1 by omega)
      rw [head_iv] at hx
      obtain ⟨x, hxe⟩ : ∃ x, x = L.getD 0 0 := ⟨_, rfl⟩
      rw [← hxe] at hx hpick
      have Hxe : Hid (x = L.getD 0 0) := hxe
      clear hxe
      have hml : m + 1 ≤ B.length := by
        have := Gp.length_le_of_nodup_lt _ _ hR.nodup fun k hk => ((hR.mem k).1 hk).1
        omega
      have hroom := hrun.room hpick
      have hstep := hrun.step hpick
      have hxB := (Gp.pick_some.1 hpick).1
      have hxr := (Gp.pick_some.1 hpick).2.1
      have hxT := ((Gp.rdy_iff B T x).1 hxr).1
      have hnt := Gp.aft_not_taken hxT hxr hrun.closed
      have Hall : Hid (Gp.pick B T = some x ∧ Gp.rdy B T x = true) := ⟨hpick, hxr⟩
      have HL : Hid (L.length = m + 1) := hL
      clear hpick hxr hL hrun
      go_wp2_with fail
      refine (next_some bs g m cv (x : Int) wr hc2 hx).mono ?_
      rintro e w3 ⟨rfl, rfl⟩
      go_wp2_with fail
      refine (take_any bs _ _ w.heap.size g m cv (iv L) w3 hH (by omega) hh).mono ?_
      rintro e w4 ⟨rfl, zs', hH4, hp4, hh4, hf4⟩
      obtain ⟨L4, hz4, hpL⟩ := take_nat HL.out hp4
      subst hz4
      rw [← Hxe.out] at hpL
      have hS4 := hS.moved hf4 hH4 (.inl rfl)
      have hA4 := hA.took (m' := m) (ans_ne hS hA) hf4
      have hb4 := hb.trans (hf4.below (B := w.heap.size) hS.bbs (fun k hk => (hS.rd.lt k hk).1) hS.base_le)
      have hl4 := hH4.len
      rw [iv_len] at hl4
      have hT4 := Gp.told_start hR hpL
      clear hx hc2 hp4 hH4 hH
      go_wp2_with fail
      refine (done_any w.heap.size bs bw ba B T x wt V _ L4 w4 hS4 Hwt.out (by rw [hl4]; exact hh4) hT4 (by omega) (fun i _ => Nat.le_trans (Gp.wait_le B T i) (by omega)) (Nat.le_trans (Gp.len_aft B x) (by omega)) hxB hxT hnt).mono ?_
      rintro e w5 ⟨rfl, wt', v', L', hS5, hwt5, hh5, hR5, hf5, hl5⟩
      have Hwt5 : Hid (∀ i, i < B.length → wt' i = (Gp.wait B (T ++ [x]) i : Int)) := hwt5
      clear hwt5
      have hA5 := hA4.done (ans_ne hS4 hA4) hf5 hl5
      have hb5 := hb4.trans (hf5.below (B := w.heap.size) hS4.bbs hS4.bbw (fun k hk => (hS4.rd.lt k hk).1) hS4.base_le)
      have hbase5 := hS5.base_le
      clear hf5 hl5 hf4 hS4 hA4 hb4 hh4 hl4 hT4 hpL hS hA hb hnt hR hh Hwt
      go_wp2_with (at_builtin; refine wpList_append_fits _ rfl _ _ 24 rfl w.heap.size 3 i0 1 Try.underlying24 hi0 hz1 bq T.length B.length (nv T) rfl (hA5.own.alloc _) ⟨w5.heap.size, 0, none⟩ 1 1 [.int .i64 (x : Int)] rfl rfl (cell_one_new _ _ _) (by simp [Value.oneCell']) (by omega) ?_; intro w6 hown6 hgrow6)
      have hS6 := hS5.answered hA5 hgrow6
      have hA6 := ans_next hA5 hown6
      have hb6 : Below w.heap.size w w6 := (hb5.alloc hbase5 _).grown hgrow6 (by simp; omega) (fun k hk => by simp at hk; subst hk; exact hA5.base_le)
      clear hown6 hgrow6 hS5 hA5 hb5
      go_wp2_with fail
      go_roundg (B.length - (T ++ [x]).length)
      case measure => have := Hgk.out; simp; omega
      case rel => exact ⟨T ++ [x], wt', v', L', rfl, by simp, hA6, hS6, Hwt5.out, hh5, hR5, hstep, hb6⟩
end Go.Proofs.Qxb6628252a
