import Derived.Test.Qxb6628252aDone
import Derived.Deep.CutRange
namespace Go.Proofs.Qxb6628252a
open Go.RowKit

theorem Try.info24 : (Try.prog.info? 24).map (fun i => (i.zero, i.size, i.bytes)) = some (some (.slice none 0 0), 1, 24) := by kernel_rfl

/-- A list of node numbers, a graph, behind a slice's address. -/
def NatsAt (w : World) (ao : Option Addr) (l : List Nat) : Prop :=
  0 < l.length → ∃ b o, ao = some ⟨b, o, none⟩ ∧ ∀ c (h : c < l.length), w.cell? ⟨b, o + c, none⟩ = some (.int .i64 (l[c] : Int))
def RowsAt (w : World) (b o : Nat) (B : List (List Nat)) : Prop := ∀ r, r < B.length → ∃ A C, w.cell? ⟨b, o + r, none⟩ = some (.slice A (B.getD r []).length C) ∧ NatsAt w A (B.getD r [])
def GrAt (w : World) (ao : Option Addr) (B : List (List Nat)) : Prop := 0 < B.length → ∃ b o, ao = some ⟨b, o, none⟩ ∧ RowsAt w b o B

theorem NatsAt.below {w w' : World} {ao : Option Addr} {l : List Nat} (h : NatsAt w ao l) (hb : Below w.heap.size w w') : NatsAt w' ao l := by
  intro h0
  obtain ⟨b, o, rfl, hc⟩ := h h0
  exact ⟨b, o, rfl, fun c hcl => by rw [hb.cell (p := ⟨b, o + c, none⟩) (World.block_lt_of_cell? w _ (hc c hcl))]; exact hc c hcl⟩
theorem RowsAt.below {w w' : World} {b o : Nat} {B : List (List Nat)} (h : RowsAt w b o B) (hb : Below w.heap.size w w') : RowsAt w' b o B := by
  intro r hr
  obtain ⟨A, C, h1, h2⟩ := h r hr
  exact ⟨A, C, by rw [hb.cell (p := ⟨b, o + r, none⟩) (World.block_lt_of_cell? w _ h1)]; exact h1, h2.below hb⟩
theorem GrAt.below {w w' : World} {ao : Option Addr} {B : List (List Nat)} (h : GrAt w ao B) (hb : Below w.heap.size w w') : GrAt w' ao B := by
  intro h0
  obtain ⟨b, o, rfl, hc⟩ := h h0
  exact ⟨b, o, rfl, hc.below hb⟩

/-- The schedule as it is made: the counts first .. -/
theorem sch_start1 (w : World) (n : Nat) :
    Sch (((w.alloc (.cells (madeCells #[.int .i64 0] n) 3)).alloc (.cells (madeCells #[.slice none 0 0] n) 24)).alloc (.cells #[.slice (some ⟨w.heap.size, 0, none⟩) n n, .slice (some ⟨w.heap.size + 1, 0, none⟩) n n, .slice none 0 0] 38)).drew
      w.heap.size (w.heap.size + 1 + 1) w.heap.size (w.heap.size + 1) n (fun _ => 0) (fun _ => []) (fun _ => .slice none 0 0) (.slice none 0 0) (iv []) := by
  have s1 : (w.alloc (.cells (madeCells #[.int .i64 0] n) 3)).heap.size = w.heap.size + 1 := by simp
  have s2 : ((w.alloc (.cells (madeCells #[.int .i64 0] n) 3)).alloc (.cells (madeCells #[.slice none 0 0] n) 24)).heap.size = w.heap.size + 1 + 1 := by simp
  refine ⟨?_, ?_, ?_, fun j hj => World.ownsRow_nil _ _ _ _, World.ownsRow_nil _ _ _ _, by omega, by omega, by omega, by simp [Value.ownBlock], fun _ _ => by simp [Value.ownBlock], fun _ _ => .inl rfl, fun _ _ _ _ _ => .inl rfl⟩
  · have := heap_alloc_new ((w.alloc (.cells (madeCells #[.int .i64 0] n) 3)).alloc (.cells (madeCells #[.slice none 0 0] n) 24)) (.cells #[.slice (some ⟨w.heap.size, 0, none⟩) n n, .slice (some ⟨w.heap.size + 1, 0, none⟩) n n, .slice none 0 0] 38)
    rw [s2] at this; exact this
  · exact (((World.rowIs_made w _ n 3).alloc _).alloc _)
  · have := (World.rowIs_made (w.alloc (.cells (madeCells #[.int .i64 0] n) 3)) (.slice none 0 0) n 24).alloc (.cells #[.slice (some ⟨w.heap.size, 0, none⟩) n n, .slice (some ⟨w.heap.size + 1, 0, none⟩) n n, .slice none 0 0] 38)
    rw [s1] at this; exact this
/-- .. or the lists first. -/
theorem sch_start2 (w : World) (n : Nat) :
    Sch (((w.alloc (.cells (madeCells #[.slice none 0 0] n) 24)).alloc (.cells (madeCells #[.int .i64 0] n) 3)).alloc (.cells #[.slice (some ⟨w.heap.size + 1, 0, none⟩) n n, .slice (some ⟨w.heap.size, 0, none⟩) n n, .slice none 0 0] 38)).drew
      w.heap.size (w.heap.size + 1 + 1) (w.heap.size + 1) w.heap.size n (fun _ => 0) (fun _ => []) (fun _ => .slice none 0 0) (.slice none 0 0) (iv []) := by
  have s1 : (w.alloc (.cells (madeCells #[.slice none 0 0] n) 24)).heap.size = w.heap.size + 1 := by simp
  have s2 : ((w.alloc (.cells (madeCells #[.slice none 0 0] n) 24)).alloc (.cells (madeCells #[.int .i64 0] n) 3)).heap.size = w.heap.size + 1 + 1 := by simp
  refine ⟨?_, ?_, ?_, fun j hj => World.ownsRow_nil _ _ _ _, World.ownsRow_nil _ _ _ _, by omega, by omega, by omega, by simp [Value.ownBlock], fun _ _ => by simp [Value.ownBlock], fun _ _ => .inl rfl, fun _ _ _ _ _ => .inl rfl⟩
  · have := heap_alloc_new ((w.alloc (.cells (madeCells #[.slice none 0 0] n) 24)).alloc (.cells (madeCells #[.int .i64 0] n) 3)) (.cells #[.slice (some ⟨w.heap.size + 1, 0, none⟩) n n, .slice (some ⟨w.heap.size, 0, none⟩) n n, .slice none 0 0] 38)
    rw [s2] at this; exact this
  · have := (World.rowIs_made (w.alloc (.cells (madeCells #[.slice none 0 0] n) 24)) (.int .i64 0) n 3).alloc (.cells #[.slice (some ⟨w.heap.size + 1, 0, none⟩) n n, .slice (some ⟨w.heap.size, 0, none⟩) n n, .slice none 0 0] 38)
    rw [s1] at this; exact this
  · exact (((World.rowIs_made w _ n 24).alloc _).alloc _)

theorem below3 (w : World) (a b c : Obj) : Below w.heap.size w (((w.alloc a).alloc b).alloc c).drew :=
  ((((Below.refl _ _).alloc (Nat.le_refl _) a).alloc (by simp) b).alloc (by simp; omega) c).drew

theorem wt_step {B : List (List Nat)} {i m : Nat} {wt : Nat → Int} (hm : (B.getD i []).length = m) (hw : ∀ k, k < i → wt k = ((B.getD k []).length : Int)) :
    ∀ k, k < i + 1 → (if k = i then (m : Int) else wt k) = ((B.getD k []).length : Int) := by
  intro k hk
  by_cases e : k = i
  · rw [if_pos e, e, hm]
  · rw [if_neg e]; exact hw k (by omega)

theorem aft_nil {B : List (List Nat)} {i : Nat} (h : B.getD i [] = []) (j : Nat) : Gp.aftTo B i j = Gp.aftTo B (i + 1) j := by
  rw [Gp.aftTo_succ, h]; simp

theorem told_sch {w w1 : World} {base bs bw ba i t j g cap : Nat} {B : List (List Nat)} {wt : Nat → Int} {V : Nat → Value} {v : Value} {zs : List Int} {o : Obj} (h : Sch w base bs bw ba B.length wt (Gp.aftAt B i t) V v zs)
    (ht : t < (B.getD i []).length) (hjt : (B.getD i [])[t] = j) (hj : j < B.length)
    (hown : w1.ownsRow base 3 1 (.slice (some ⟨g, 0, none⟩) ((Gp.aftAt B i t j).length + 1) cap) ((Gp.aftAt B i t j).length + 1) (nv (Gp.aftAt B i t j) ++ [.int .i64 (i : Int)]))
    (hg : (w.alloc o).drew.grownBy w1 (V j).ownBlock) (hat : (V j).ownBlock = some g ∨ g = w.heap.size + 1) :
    Sch (w1.setCell ⟨ba, j, none⟩ (.slice (some ⟨g, 0, none⟩) ((Gp.aftAt B i t j).length + 1) cap)) base bs bw ba B.length wt (Gp.aftAt B i (t + 1)) (fun k => if k = j then .slice (some ⟨g, 0, none⟩) ((Gp.aftAt B i t j).length + 1) cap else V k) v zs := by
  have e : nv (Gp.aftAt B i t j) ++ [.int .i64 (i : Int)] = nv (Gp.aftAt B i t j ++ [i]) := by simp [nv]
  rw [e] at hown
  refine (h.told (x := i) hj rfl hown hg hat).congr (fun _ _ => rfl) (fun k _ => ?_)
  have h2 := Gp.aftAt_succ B i t k ht
  rw [hjt] at h2
  exact h2

theorem told_below {w0 w w1 : World} {base j : Nat} {ba : Nat} {o : Obj} {row : Option Nat} {u : Value} (hb : Below base w0 w) (hbase : base ≤ w.heap.size) (hba : base ≤ ba) (hr : ∀ k, row = some k → base ≤ k)
    (hg : (w.alloc o).drew.grownBy w1 row) : Below base w0 (w1.setCell ⟨ba, j, none⟩ u) :=
  (((hb.alloc hbase o).drew).grown hg (by show base ≤ (w.alloc o).heap.size; simp; omega) hr).setCell hba u

set_option maxRecDepth 100000 in
set_option maxHeartbeats 4000000 in
theorem ns_walk (b o cap : Nat) (B : List (List Nat)) (w : World) (hM : RowsAt w b o B) (hok : Gp.Ok B) (hn : B.length ≤ 10000000) (ht : Gp.tot B ≤ 10000000) :
    Calls Try.prog 11 #[.slice (some ⟨b, o, none⟩) B.length cap] w fun e w' => ∃ bs bw ba wt V v L, e = .returned (.pointer (some ⟨bs, 0, none⟩)) ∧
      Sch w' w.heap.size bs bw ba B.length wt (Gp.aft B) V v (iv L) ∧ (∀ i, i < B.length → wt i = (Gp.wait B [] i : Int)) ∧ Hp.Heap (iv L) L.length ∧ Gp.Ready B [] L ∧ Below w.heap.size w w' := by
  have hmk1 := run_make_row' (P := Try.prog) 24 3 (.int .i64 0) 8 Try.underlying24 Try.info3 rfl .i64 .i64 B.length (by omega) (by omega)
  have hmk2 := run_make_row' (P := Try.prog) 22 24 (.slice none 0 0) 24 Try.underlying22 Try.info24 rfl .i64 .i64 B.length (by omega) (by omega)
  go_enter Try.func11, Try.ntmps11
  go_wp2_with fail
  go_cut [3] from 8 to 15 (fun s wc => ∃ bs bw ba, s = .pointer (some ⟨bs, 0, none⟩) ∧ Sch wc w.heap.size bs bw ba B.length (fun _ => 0) (fun _ => []) (fun _ => .slice none 0 0) (.slice none 0 0) (iv []) ∧ Below w.heap.size w wc)
  case first =>
    go_region
    all_goals go_wp2_with fail
    all_goals go_meet
    · exact ⟨_, _, _, rfl, sch_start1 w _, below3 _ _ _ _⟩
    · exact ⟨_, _, _, rfl, sch_start2 w _, below3 _ _ _ _⟩
  case rest =>
    obtain ⟨bs, bw, ba, rfl, hS0, hb0⟩ := hcut
    clear hmk1 hmk2
    go_wp2_with fail
    go_loopw [18] (fun iv' wr => ∃ (i : Nat) (wt : Nat → Int) (V : Nat → Value) (v : Value) (L : List Nat), i ≤ B.length ∧ iv' = .int .i64 i ∧ Sch wr w.heap.size bs bw ba B.length wt (Gp.aftTo B i) V v (iv L) ∧
      (∀ k, k < i → wt k = ((B.getD k []).length : Int)) ∧ Hp.Heap (iv L) L.length ∧ Gp.Laid B i L ∧ Below w.heap.size w wr) (fun iv' _ => B.length - (intOf iv').toNat)
    case atStart => exact ⟨0, _, _, _, [], Nat.zero_le _, rfl, hS0, fun k hk => absurd hk (by omega), fun c _ hc => absurd hc (by simp), Gp.laid_start B, hb0⟩
    case round =>
      obtain ⟨i, wt, V, v, L, hi, rfl, hS, hwt, hh, hla, hb⟩ := hrel
      have Hwt : Hid (∀ k, k < i → wt k = ((B.getD k []).length : Int)) := hwt
      clear hwt hS0 hb0
      by_cases hlt : i < B.length
      · obtain ⟨A, C, hrow0, hnats⟩ := hM i hlt
        have hrow := cell_later hb hrow0
        clear hrow0
        have e0 := hS.c0
        obtain ⟨y, hy⟩ : ∃ y, wt i = y := ⟨_, rfl⟩
        have e1 := hS.wts.cell hlt
        rw [hy] at e1
        have e2 := hS.wts.frozen i
        clear hy
        obtain ⟨m, hm⟩ : ∃ m, (B.getD i []).length = m := ⟨_, rfl⟩
        have hrow' : wr.cell? ⟨b, o + i, none⟩ = some (.slice A m C) := by rw [← hm]; exact hrow
        have Hm : Hid ((B.getD i []).length = m) := hm
        clear hm hrow
        have hmt := Gp.row_le_tot B i
        rw [Hm.out] at hmt
        have hS1 := hS.counted i m
        have hi0 : (0 : Int) ≤ (i : Int) := by omega
        have hi1 : (i : Int) < (B.length : Int) := by omega
        by_cases hm0 : m = 0
        · subst hm0
          have hB0 : B.getD i [] = [] := List.eq_nil_of_length_eq_zero Hm.out
          have HB0 : Hid (B.getD i [] = []) := hB0
          clear hB0
          have hll : L.length ≤ B.length := Gp.length_le_of_nodup_lt _ _ hla.nodup fun k hk => by have := ((hla.mem k).1 hk).1; omega
          have hbd : Below w.heap.size w (wr.setCell ⟨bw, i, none⟩ (.int .i64 0)) := hb.setCell hS.bbw _
          go_wp2_with fail
          refine wp_loop_rounds 1 ?_
          rw [rounds_succ]
          go_wp2_with fail
          refine (hpush_any bs _ _ v L.length w.heap.size (iv L) i _ hS1.sb (by have := hS1.rd; rw [iv_len] at this; exact this) hS1.base_le (by omega) hS1.vs hh).mono ?_
          rintro e w1 ⟨rfl, g, cap', zs', hA1, hp1, hh1, hat1, hf1⟩
          obtain ⟨L', hz', hpL⟩ := nat_perm (L := L ++ [i]) (zs := zs') (by simpa [iv] using hp1)
          subst hz'
          have hS3 := hS1.moved hf1 hA1 hat1
          have hlen := hA1.len
          rw [List.length_map] at hlen
          have hb3 := hbd.trans (hf1.below (B := w.heap.size) hS1.bbs (fun k hk => (hS1.rd.lt k hk).1) hS1.base_le)
          go_wp2_with fail
          go_roundw
          case rel =>
            exact ⟨i + 1, _, _, _, L', by omega, by go_num, hS3.congr (fun _ _ => rfl) (fun j _ => aft_nil HB0.out j), wt_step Hm.out Hwt.out, by rw [hlen]; exact hh1, Gp.laid_push hla HB0.out hpL, hb3⟩
          case measure => simp [intOf]; omega
        · obtain ⟨b', o', rfl, hcs⟩ := hnats (by rw [Hm.out]; omega)
          obtain ⟨wo, hwo⟩ : ∃ wo : World, wo = wr := ⟨_, rfl⟩
          subst hwo
          have hbd : Below w.heap.size w (wo.setCell ⟨bw, i, none⟩ (.int .i64 m)) := hb.setCell hS.bbw _
          have hm1 : ((m : Int) == 0) = false := by simp; omega
          go_wp2_with fail
          go_loopw [33] (fun tv wi => ∃ (t : Nat) (V' : Nat → Value), t ≤ m ∧ tv = .int .i64 t ∧ Sch wi w.heap.size bs bw ba B.length (fun k => if k = i then (m : Int) else wt k) (Gp.aftAt B i t) V' v (iv L) ∧ Below w.heap.size w wi) (fun tv _ => m - (intOf tv).toNat)
          case atStart => exact ⟨0, V, Nat.zero_le _, rfl, hS1.congr (fun _ _ => rfl) (fun j _ => (Gp.aftAt_zero B i j).symm), hbd⟩
          case round =>
            obtain ⟨t, V', htm, rfl, hSi, hbi⟩ := hrel
            by_cases htl : t < m
            · have htB : t < (B.getD i []).length := by rw [Hm.out]; exact htl
              obtain ⟨j, hj⟩ : ∃ j, (B.getD i [])[t] = j := ⟨_, rfl⟩
              have hjB : j < B.length := by rw [← hj]; exact hok i hlt _ (List.getElem_mem htB)
              have f0 : wr.cell? ⟨b', o' + t, none⟩ = some (.int .i64 (j : Int)) := by
                rw [← hj]; exact cell_later hbi (hcs t htB)
              have f1 := hSi.c1
              have f2 := hSi.afs.cell hjB
              have f3 := hSi.afs.frozen j
              have hrw := hSi.rows j hjB
              have hle := Gp.len_aftAt B i t j hlt
              have Hj : Hid ((B.getD i [])[t] = j) := hj
              clear hj
              have hj0 : (0 : Int) ≤ (j : Int) := by omega
              have hj1 : (j : Int) < (B.length : Int) := by omega
              obtain ⟨i0, hi0', hz0, hz1, hz2⟩ := info_parts Try.info3
              have nb1 : bs < wr.heap.size := hSi.bss
              have nb2 : ba < wr.heap.size := hSi.afs.lt
              have av1 : some bs ≠ (V' j).ownBlock := Ne.symm (hSi.Vs hjB)
              have av2 : some ba ≠ (V' j).ownBlock := Ne.symm (hSi.Va hjB)
              have hbs := hSi.base_le
              have g3 : ∀ ob, (wr.alloc ob).frozen? ⟨ba, j, none⟩ = false := fun ob => (World.frozen?_alloc_old wr ob _ (Nat.ne_of_lt nb2)).trans f3
              go_wp2_with fail
              go_region_law (refine step_append_lies _ (by rfl) _ _ _ (by rfl) w.heap.size 3 i0 _ 1 8 Try.underlying24 hi0' hz0 hz1 hz2 rfl (by omega) (V' j) (Gp.aftAt B i t j).length (nv (Gp.aftAt B i t j)) (by simp [Act.eval]) ((hrw.alloc _).drew) ⟨wr.heap.size, 0, none⟩ 1 1 [.int .i64 i] (by simp [Act.eval]) (by rfl) (World.news_of_block (cs := #[.int .i64 i]) (t := 3) (fr := (0, 0)) (heap_alloc_new wr _)) (by simp [Value.oneCell']) (by omega) (by unfold maxLen; omega) (by omega) (by simp; omega) (wr.heap.size + 1) (by simp) ?_; intro gg cap2 w1 hown1 hgrow hat hlt1; have hc1 : w1.cell? ⟨bs, 1, none⟩ = some (.slice (some ⟨ba, 0, none⟩) B.length B.length) := grow_cell hgrow f1 av1; have hc2 : w1.cell? ⟨ba, j, none⟩ = some (V' j) := grow_cell hgrow f2 av2; have hf1 : w1.frozen? ⟨ba, j, none⟩ = false := grow_free hgrow f3 nb2 av2)
              all_goals
                have hS' := told_sch hSi htB Hj.out hjB hown1 hgrow hat
                have hb' : Below w.heap.size w (w1.setCell ⟨ba, j, none⟩ (.slice (some ⟨gg, 0, none⟩) ((Gp.aftAt B i t j).length + 1) cap2)) := told_below hbi hbs hSi.bba (fun k hk => (hrw.lt k hk).1) hgrow
                clear hown1 hgrow hat hc1 hc2 hf1 g3 f0 f1 f2 f3 hrw hcs
                go_wp2_with fail
                go_roundw
                case rel => exact ⟨t + 1, _, by omega, by go_num, hS', hb'⟩
                case measure => simp [intOf]; omega
            · have htm' : t = m := by omega
              subst htm'
              have hne : B.getD i [] ≠ [] := fun e => by have := Hm.out; rw [e] at this; simp at this; omega
              have Hne : Hid (B.getD i [] ≠ []) := hne
              clear hne
              go_wp2_with fail
              go_roundw
              case rel =>
                exact ⟨i + 1, _, _, _, L, by omega, by go_num, hSi.congr (fun _ _ => rfl) (fun j _ => by have := Gp.aftAt_end B i j; rw [Hm.out] at this; exact this), wt_step Hm.out Hwt.out, hh, Gp.laid_wait hla Hne.out, hbi⟩
              case measure => simp [intOf]; omega
      · have hil : i = B.length := by omega
        subst hil
        go_wp2_with fail
        go_ret
        exact ⟨bs, bw, ba, wt, V, v, L, rfl, hS, fun k hk => by rw [Hwt.out k hk, Gp.wait_nil], hh, Gp.laid_end hla, hb⟩
end Go.Proofs.Qxb6628252a
