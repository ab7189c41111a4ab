import Derived.Test.Qxb6628252aSift
namespace Go.Proofs.Qxb6628252a
open Go.RowKit

theorem Fr.grown {w w1 w2 : World} {bs g : Nat} {row : Option Nat} (h : Fr w w1 bs row) (hg : w1.grownBy w2 (some g)) (hat : row = some g ∨ w.heap.size ≤ g) : Fr w w2 bs row :=
  ⟨hg.os.trans h.os, hg.tape.trans h.tape, hg.output.trans h.output, Nat.le_trans h.size hg.size, fun k hk hkb hkr => by
    rw [hg.block k (Nat.lt_of_lt_of_le hk h.size) (fun e => by
      rcases hat with r | r
      · exact hkr (e.trans r.symm)
      · simp at e; omega)]
    exact h.block k hk hkb hkr⟩

theorem HAt.room {w : World} {bs : Nat} {c0 c1 : Value} {base g n cap : Nat} {zs : List Int} (h : HAt w bs c0 c1 base g n cap zs) : n ≤ cap ∧ cap ≤ maxLen := by
  rcases h.own.2 with ⟨h0, _⟩ | ⟨g', cap', cur, hv, _, _, hn, hcap, _, _⟩
  · cases h0
  · cases hv; exact ⟨hn, hcap⟩

set_option maxRecDepth 100000 in
set_option maxHeartbeats 1000000 in
theorem hpush_any (bs : Nat) (c0 c1 v : Value) (n base : Nat) (zs : List Int) (x : Int) (w : World)
    (hS : w.heap[bs]? = some (.cells #[c0, c1, v] 38 (0, 0)))
    (hown : w.ownsRow base 3 1 v n (zs.map (Value.int .i64))) (hbase : base ≤ w.heap.size) (hn : n + 1 ≤ 1000000000)
    (av : v.ownBlock ≠ some bs) (hh : Hp.Heap zs n) :
    Calls Try.prog 16 #[.iface 40 (.pointer (some ⟨bs, 2, none⟩)), .iface 3 (.int .i64 x)] w fun e w' => e = .returned (.tuple #[]) ∧ ∃ g cap zs',
      HAt w' bs c0 c1 base g (n + 1) cap zs' ∧ zs'.Perm (zs ++ [x]) ∧ Hp.Heap zs' (n + 1) ∧ (v.ownBlock = some g ∨ w.heap.size ≤ g) ∧ Fr w w' bs v.ownBlock := by
  have hmp := fun W => meth_push ⟨bs, 2, none⟩ W
  have hl : zs.length = n := by simpa using hown.1
  have hup := Hp.up_start (x := x) hl hh
  go_enter Try.func16, Try.ntmps16
  go_wp2_with fail
  refine (mpush_any bs c0 c1 v n base _ x w hS hown hbase hn av).mono ?_
  rintro e w1 ⟨rfl, g, cap, hS1, hown1, hat, hfr⟩
  have hA : HAt w1 bs c0 c1 base g (n + 1) cap (zs ++ [x]) := ⟨hS1, by simpa using hown1, by
    rintro rfl
    rcases hat with r | r
    · exact av r
    · have := lt_of_block hS; omega⟩
  have hml := meth_len hA.head
  clear hl hown1 hS1
  go_wp2_with fail
  refine (len_any _ _ _ _).mono ?_
  rintro e w2 ⟨rfl, rfl⟩
  go_wp2_with fail
  refine (up_any bs c0 c1 base g (n + 1) cap (zs ++ [x]) n _ hA (by omega) (by omega) hup).mono ?_
  rintro e w3 ⟨rfl, zs', hA', hp', hh', hg'⟩
  go_wp2_with fail
  go_end0
  exact ⟨rfl, g, cap, zs', hA', hp', hh', hat, hfr.grown hg' hat⟩

theorem HAt.shrunk {w : World} {bs : Nat} {c0 c1 : Value} {base g n cap : Nat} {zs : List Int} (h : HAt w bs c0 c1 base g (n + 1) cap zs) :
    HAt (w.setCell ⟨bs, 2, none⟩ (.slice (some ⟨g, 0, none⟩) n cap)) bs c0 c1 base g n cap (zs.take n) := by
  have hl := h.len
  refine ⟨three_set h.hS, ?_, h.ne⟩
  refine ownsRow_setCell_other ?_ (by simp [Value.ownBlock, h.ne]) _
  refine ownsRow_pop (last := [.int .i64 (zs.getD n 0)]) (by simp; omega) ?_
  have e : (zs.take n).map (Value.int .i64) ++ [.int .i64 (zs.getD n 0)] = zs.map (Value.int .i64) := by
    conv => rhs; rw [← Hp.take_getD hl]
    rw [List.map_append]; rfl
  rw [e]; exact h.own

theorem fr_of_grown {w w1 : World} {bs g : Nat} (h : w.grownBy w1 (some g)) (u : Value) : Fr w (w1.setCell ⟨bs, 2, none⟩ u) bs (some g) :=
  ⟨h.os, h.tape, h.output, by simpa using h.size, fun k hk hkb hkr => by rw [heap_setCell_other _ _ _ _ hkb]; exact h.block k hk hkr⟩

set_option maxRecDepth 100000 in
set_option maxHeartbeats 1000000 in
theorem hpop_any (bs : Nat) (c0 c1 : Value) (base g n cap : Nat) (zs : List Int) (w : World) (h : HAt w bs c0 c1 base g (n + 1) cap zs) (hn : n ≤ 1000000000) (hh : Hp.Heap zs (n + 1)) :
    Calls Try.prog 17 #[.iface 40 (.pointer (some ⟨bs, 2, none⟩))] w fun e w' => e = .returned (.iface 3 (.int .i64 (zs.getD 0 0))) ∧ ∃ zs',
      HAt w' bs c0 c1 base g n cap zs' ∧ zs.Perm (zs.getD 0 0 :: zs') ∧ Hp.Heap zs' n ∧ Fr w w' bs (some g) := by
  have hmp := fun W => meth_pop ⟨bs, 2, none⟩ W
  have hml := fun W => meth_len (b := bs) (o := 2) (w := W) (v := .slice (some ⟨g, 0, none⟩) (n + 1) cap)
  have hms := fun W => meth_swap (b := bs) (o := 2) (w := W) (v := .slice (some ⟨g, 0, none⟩) (n + 1) cap)
  have hc := h.head
  have hl := h.len
  have Hl : Hid (zs.length = n + 1) := hl
  clear hl
  have hr := h.room
  go_enter Try.func17, Try.ntmps17
  go_wp2_with fail
  refine (len_any _ _ _ _).mono ?_
  rintro e w2 ⟨rfl, rfl⟩
  go_wp2_with fail
  have hsw : Calls Try.prog 38 #[.slice (some ⟨g, 0, none⟩) (n + 1) cap, .int .i64 0, .int .i64 n] w2 fun e w' => e = .returned (.tuple #[]) ∧ HAt w' bs c0 c1 base g (n + 1) cap (Hp.swp zs 0 n) ∧ w2.grownBy w' (some g) :=
    swap_own h 0 n (by omega) (by omega)
  refine hsw.mono ?_
  rintro e w3 ⟨rfl, hA, hg⟩
  clear hsw
  have hc3 := hA.head
  go_wp2_with fail
  refine (down_any bs c0 c1 base g n cap _ _ hA hn (Hp.dn_start (by have := Hl.out; omega) hh)).mono ?_
  rintro e w4 ⟨⟨b, rfl⟩, zs', hA', hp', hh', hl', hg'⟩
  have Hl' : Hid (zs'.getD n 0 = (Hp.swp zs 0 n).getD n 0) := hl'
  clear hl'
  have hx := hA'.cell (show n < n + 1 by omega)
  have hx2 : zs'.getD n 0 = zs.getD 0 0 := by rw [Hl'.out]; exact Hp.getD_swp_last (by have := Hl.out; omega)
  rw [hx2] at hx
  have Hx2 : Hid (zs'.getD n 0 = zs.getD 0 0) := hx2
  clear hx2
  go_wp2_with fail
  refine (mpop_any bs c0 c1 g n cap _ _ hA'.hS hx hA'.room.1 hA'.room.2).mono ?_
  rintro e w5 ⟨rfl, rfl⟩
  go_wp2_with fail
  go_ret
  refine ⟨rfl, zs'.take n, hA'.shrunk, ?_, Hp.heap_take hh', fr_of_grown (grown_trans hg hg') _⟩
  have e1 := Hp.take_getD hA'.len
  rw [Hx2.out] at e1
  have e2 : zs'.Perm zs := hp'.trans (Hp.perm_swp zs 0 n (by have := Hl.out; omega) (by have := Hl.out; omega))
  refine e2.symm.trans ?_
  conv => lhs; rw [← e1]
  exact List.perm_append_comm
end Go.Proofs.Qxb6628252a
