import Derived.Test.Qxb6628252aRows
import Derived.WalkKit
import Derived.WalkSpells
import Derived.WalkLawsBesides
import Derived.Deep.QuietTactic
import Derived.BigQuiet
import Derived.BigRegion
import Derived.Deep.RegionHeld3
import Derived.Deep.AppendLies
import Derived.Test.Qxb6628252aHeapPlain
import Derived.Deep.RegionLaw
namespace Go.Proofs.Qxb6628252a
open Go.RowKit

set_option maxHeartbeats 400000 in
theorem len_any (ao : Option Addr) (n c : Nat) (w : World) :
    Calls Try.prog 36 #[.slice ao n c] w fun e w' => e = .returned (.int .i64 n) ∧ w' = w := by
  go_enter Try.func36, Try.ntmps36
  go_wp2
  go_ret
  exact ⟨rfl, rfl⟩

set_option maxHeartbeats 400000 in
theorem less_any (b n c : Nat) (i j : Nat) (x y : Int) (hi : i < n) (hj : j < n) (w : World)
    (h0 : w.cell? ⟨b, i, none⟩ = some (.int .i64 x)) (h1 : w.cell? ⟨b, j, none⟩ = some (.int .i64 y)) :
    Calls Try.prog 37 #[.slice (some ⟨b, 0, none⟩) n c, .int .i64 i, .int .i64 j] w fun e w' => e = .returned (.bool (decide (x < y))) ∧ ∃ q, w' = w.drewN q := by
  have g1 : (i : Int) < (n : Int) := by omega
  have g2 : (j : Int) < (n : Int) := by omega
  have g3 : (0 : Int) ≤ (i : Int) := by omega
  have g4 : (0 : Int) ≤ (j : Int) := by omega
  go_enter Try.func37, Try.ntmps37
  go_wp2
  go_quiet (fail)
  go_wp2
  go_ret
  exact ⟨rfl, _, rfl⟩

set_option maxHeartbeats 1000000 in
theorem swap_any (b n c : Nat) (i j : Nat) (x y : Int) (hi : i < n) (hj : j < n) (w : World)
    (h0 : w.cell? ⟨b, i, none⟩ = some (.int .i64 x)) (h1 : w.cell? ⟨b, j, none⟩ = some (.int .i64 y))
    (f0 : w.frozen? ⟨b, i, none⟩ = false) (f1 : w.frozen? ⟨b, j, none⟩ = false) :
    Calls Try.prog 38 #[.slice (some ⟨b, 0, none⟩) n c, .int .i64 i, .int .i64 j] w fun e w' => e = .returned (.tuple #[]) ∧ ∃ q, w' = ((w.setCell ⟨b, i, none⟩ (.int .i64 y)).setCell ⟨b, j, none⟩ (.int .i64 x)).drewN q := by
  have g1 : (i : Int) < (n : Int) := by omega
  have g2 : (j : Int) < (n : Int) := by omega
  have g3 : (0 : Int) ≤ (i : Int) := by omega
  have g4 : (0 : Int) ≤ (j : Int) := by omega
  obtain ⟨v', hy'⟩ := cell?_setCell_some (w := w) (p := ⟨b, i, none⟩) (x := .int .i64 y) (q := ⟨b, j, none⟩) (v := .int .i64 y) (by go_simp)
  go_enter Try.func38, Try.ntmps38
  go_wp2
  go_region
  all_goals (go_end0; exact ⟨rfl, 1, rfl⟩)
theorem Try.info3 : (Try.prog.info? 3).map (fun i => (i.zero, i.size, i.bytes)) = some (some (.int .i64 0), 1, 8) := by kernel_rfl

/-- w' is w but for block bs, the row, and what is new. -/
structure Fr (w w' : World) (bs : Nat) (row : Option Nat) : Prop where
  os : w'.os = w.os
  tape : w'.tape = w.tape
  output : w'.output = w.output
  size : w.heap.size ≤ w'.heap.size
  block : ∀ k, k < w.heap.size → k ≠ bs → some k ≠ row → w'.heap[k]? = w.heap[k]?

theorem grow_cell {w w1 : World} {o : Obj} {row : Option Nat} {a : Addr} {v : Value} (hg : (w.alloc o).drew.grownBy w1 row) (h : w.cell? a = some v) (hne : some a.block ≠ row) : w1.cell? a = some v :=
  hg.cell (show (w.alloc o).cell? a = some v from (World.cell?_alloc_old w o a (Nat.ne_of_lt (World.block_lt_of_cell? w a h))).trans h) hne
theorem grow_free {w w1 : World} {o : Obj} {row : Option Nat} {a : Addr} (hg : (w.alloc o).drew.grownBy w1 row) (h : w.frozen? a = false) (hl : a.block < w.heap.size) (hne : some a.block ≠ row) : w1.frozen? a = false := by
  rw [hg.frozen_far a (by show a.block < (w.alloc o).heap.size; simp; omega) hne]
  exact (World.frozen?_alloc_old w o a (Nat.ne_of_lt hl)).trans h

theorem three_set {w : World} {b : Nat} {c0 c1 v u : Value} {t : TypeId} (h : w.heap[b]? = some (.cells #[c0, c1, v] t (0, 0))) : (w.setCell ⟨b, 2, none⟩ u).heap[b]? = some (.cells #[c0, c1, u] t (0, 0)) := by
  rw [heap_setCell_same w b 2 _ _ _ h]; rfl

theorem push_end {w w1 : World} {o : Obj} {bs n base g cap : Nat} {c0 c1 v : Value} {ys : List Value}
    (hS : w.heap[bs]? = some (.cells #[c0, c1, v] 38 (0, 0))) (av : v.ownBlock ≠ some bs)
    (hown1 : w1.ownsRow base 3 1 (.slice (some ⟨g, 0, none⟩) (n + 1) cap) (n + 1) ys)
    (hgrow : (w.alloc o).drew.grownBy w1 v.ownBlock) (hat : v.ownBlock = some g ∨ g = w.heap.size + 1) :
    ∃ g' cap', (w1.setCell ⟨bs, 2, none⟩ (.slice (some ⟨g, 0, none⟩) (n + 1) cap)).heap[bs]? = some (.cells #[c0, c1, .slice (some ⟨g', 0, none⟩) (n + 1) cap'] 38 (0, 0)) ∧
      (w1.setCell ⟨bs, 2, none⟩ (.slice (some ⟨g, 0, none⟩) (n + 1) cap)).ownsRow base 3 1 (.slice (some ⟨g', 0, none⟩) (n + 1) cap') (n + 1) ys ∧ (v.ownBlock = some g' ∨ w.heap.size ≤ g') ∧
      Fr w (w1.setCell ⟨bs, 2, none⟩ (.slice (some ⟨g, 0, none⟩) (n + 1) cap)) bs v.ownBlock := by
  have lg := lt_of_block hS
  have hb1 : w1.heap[bs]? = some (.cells #[c0, c1, v] 38 (0, 0)) := by
    rw [hgrow.block bs (by show bs < (w.alloc o).heap.size; simp; omega) (Ne.symm av)]
    show (w.alloc o).heap[bs]? = _
    rw [heap_alloc_old w o lg]; exact hS
  have hne : g ≠ bs := by
    rintro rfl
    rcases hat with h | h
    · exact av h
    · omega
  refine ⟨g, cap, three_set hb1, ownsRow_setCell_other hown1 (by simp [Value.ownBlock, hne]) _, ?_, ?_⟩
  · rcases hat with h | h
    · exact .inl h
    · exact .inr (by omega)
  · refine ⟨hgrow.os, hgrow.tape, hgrow.output, ?_, ?_⟩
    · have h1 : (w.alloc o).heap.size ≤ w1.heap.size := hgrow.size
      simp at h1 ⊢; omega
    · intro k hk hkb hkr
      rw [heap_setCell_other _ _ _ _ hkb, hgrow.block k (by show k < (w.alloc o).heap.size; simp; omega) hkr]
      show (w.alloc o).heap[k]? = _
      exact heap_alloc_old w o hk

set_option maxRecDepth 100000 in
set_option maxHeartbeats 1000000 in
theorem mpush_any (bs : Nat) (c0 c1 v : Value) (n base : Nat) (xs : List Value) (x : Int) (w : World)
    (hS : w.heap[bs]? = some (.cells #[c0, c1, v] 38 (0, 0)))
    (hown : w.ownsRow base 3 1 v n xs) (hbase : base ≤ w.heap.size) (hn : n + 1 ≤ 1000000000)
    (av : v.ownBlock ≠ some bs) :
    Calls Try.prog 40 #[.pointer (some ⟨bs, 2, none⟩), .iface 3 (.int .i64 x)] w fun e w' => e = .returned (.tuple #[]) ∧ ∃ g cap,
      w'.heap[bs]? = some (.cells #[c0, c1, .slice (some ⟨g, 0, none⟩) (n + 1) cap] 38 (0, 0)) ∧
      w'.ownsRow base 3 1 (.slice (some ⟨g, 0, none⟩) (n + 1) cap) (n + 1) (xs ++ [.int .i64 x]) ∧ (v.ownBlock = some g ∨ w.heap.size ≤ g) ∧ Fr w w' bs v.ownBlock := by
  obtain ⟨i0, hi0, hz0, hz1, hz2⟩ := info_parts Try.info3
  have hc : w.cell? ⟨bs, 2, none⟩ = some v := by rw [cell_of_row w bs 2 _ _ _ hS]; rfl
  have hf : w.frozen? ⟨bs, 2, none⟩ = false := frozen_of_row w bs 2 _ _ hS
  have hta : ∀ w, (Instr.typeAssert (.iface 3 (.int .i64 x)) 20 3 false).run Try.prog w = .ok (.int .i64 x) w := fun _ => by kernel_rfl
  have lg := World.block_lt_of_cell? w _ hc
  have hfa : ∀ o, (w.alloc o).frozen? ⟨bs, 2, none⟩ = false := fun o => (World.frozen?_alloc_old w o _ (Nat.ne_of_lt lg)).trans hf
  go_enter Try.func40, Try.ntmps40
  go_wp2_with fail
  go_region_law (refine step_append_lies _ (by rfl) _ _ _ (by rfl) base 3 i0 _ 1 8 Try.underlying36 hi0 hz0 hz1 hz2 rfl (by omega) v n xs (by simp [Act.eval]) ((hown.alloc _).drew) ⟨w.heap.size, 0, none⟩ 1 1 [.int .i64 x] (by simp [Act.eval]) (by rfl) (World.news_of_block (cs := #[.int .i64 x]) (t := 3) (fr := (0, 0)) (heap_alloc_new w _)) (by simp [Value.oneCell']) (by omega) (by unfold maxLen; omega) (by omega) (by simp; omega) (w.heap.size + 1) (by simp) ?_; intro gg cap w1 hown1 hgrow hat hlt; have hc1 : w1.cell? ⟨bs, 2, none⟩ = some v := grow_cell hgrow hc (Ne.symm av); have hf1 : w1.frozen? ⟨bs, 2, none⟩ = false := grow_free hgrow hf lg (Ne.symm av))
  all_goals go_end0
  all_goals exact ⟨rfl, push_end hS av hown1 hgrow hat⟩

set_option maxRecDepth 100000 in
set_option maxHeartbeats 1000000 in
theorem mpop_any (bs : Nat) (c0 c1 : Value) (g n cap : Nat) (x : Int) (w : World)
    (hS : w.heap[bs]? = some (.cells #[c0, c1, .slice (some ⟨g, 0, none⟩) (n + 1) cap] 38 (0, 0)))
    (hx : w.cell? ⟨g, n, none⟩ = some (.int .i64 x)) (hn : n + 1 ≤ cap) (hc : cap ≤ maxLen) :
    Calls Try.prog 39 #[.pointer (some ⟨bs, 2, none⟩)] w fun e w' => e = .returned (.iface 3 (.int .i64 x)) ∧ w' = w.setCell ⟨bs, 2, none⟩ (.slice (some ⟨g, 0, none⟩) n cap) := by
  unfold maxLen at hc
  have hcc : w.cell? ⟨bs, 2, none⟩ = some (.slice (some ⟨g, 0, none⟩) (n + 1) cap) := by rw [cell_of_row w bs 2 _ _ _ hS]; rfl
  have hf : w.frozen? ⟨bs, 2, none⟩ = false := frozen_of_row w bs 2 _ _ hS
  go_enter Try.func39, Try.ntmps39
  go_wp2
  go_ret
  exact ⟨rfl, rfl⟩

theorem meth_push (a : Addr) (w : World) : (method 167 40 (.pointer (some a)) "Push").run Try.prog w = .ok (40, .pointer (some a)) w := by kernel_rfl
theorem meth_pop (a : Addr) (w : World) : (method 167 40 (.pointer (some a)) "Pop").run Try.prog w = .ok (39, .pointer (some a)) w := by kernel_rfl

theorem meth_parts {P : Program} {t f : Nat} {name : String} (h : ((P.info? t).bind fun i => i.methods.find? (·.name == name)).map (fun m => (m.path.toList, m.func)) = some ([], some (f, false))) :
    ∃ i m, P.info? t = some i ∧ i.methods.find? (·.name == name) = some m ∧ m.path.toList = [] ∧ m.func = some (f, false) := by
  cases hi : P.info? t with
  | none => simp [hi] at h
  | some i =>
    cases hm : i.methods.find? (·.name == name) with
    | none => simp [hi, hm] at h
    | some m =>
      simp [hi, hm] at h
      exact ⟨i, m, rfl, hm, by simp [h.1], h.2⟩

theorem wrap_ok {P : Program} (ts : Array TypeId) (t : TypeId) (a : Addr) (s1 s2 : ByteArray) (w : World) : (Builtin.ssaWrapNilChk_ ts t #[.pointer (some a), .string s1, .string s2]).run P w = .ok (.pointer (some a)) w := rfl

theorem method_through {P : Program} {t e d f : Nat} {name : String} (fuel : Nat) (hh : ((P.info? t).bind fun i => i.methods.find? (·.name == name)).map (fun m => (m.path.toList, m.func)) = some ([], some (f, false)))
    (hu : P.underlying t = some (.pointer e)) (hd : P.underlying e = some (.slice d)) {b o : Nat} {w : World} {v : Value} (h : w.cell? ⟨b, o, none⟩ = some v) :
    (method (fuel + 1) t (.pointer (some ⟨b, o, none⟩)) name).run P w = .ok (f, v) w := by
  obtain ⟨i, m, hi, hm, hp, hf⟩ := meth_parts hh
  have hp' : m.path = #[] := by simpa using hp
  simp [method, typeInfo, hi, hm, hp', hf, follow, receiverAt, run_underlying hu, run_underlying hd, Place.get, loadVar, isAgg, strVal, wrap_ok, asAddr, h, go_sem]

theorem meth_len {b o : Nat} {w : World} {v : Value} (h : w.cell? ⟨b, o, none⟩ = some v) : (method 167 40 (.pointer (some ⟨b, o, none⟩)) "Len").run Try.prog w = .ok (36, v) w :=
  method_through 166 (by kernel_rfl) Try.underlying40 Try.underlying36 h
theorem meth_less {b o : Nat} {w : World} {v : Value} (h : w.cell? ⟨b, o, none⟩ = some v) : (method 167 40 (.pointer (some ⟨b, o, none⟩)) "Less").run Try.prog w = .ok (37, v) w :=
  method_through 166 (by kernel_rfl) Try.underlying40 Try.underlying36 h
theorem meth_swap {b o : Nat} {w : World} {v : Value} (h : w.cell? ⟨b, o, none⟩ = some v) : (method 167 40 (.pointer (some ⟨b, o, none⟩)) "Swap").run Try.prog w = .ok (38, v) w :=
  method_through 166 (by kernel_rfl) Try.underlying40 Try.underlying36 h

/-! ### The heap's row: block g, n places, the numbers zs; its header in the third cell of block bs -/
structure HAt (w : World) (bs : Nat) (c0 c1 : Value) (base g n cap : Nat) (zs : List Int) : Prop where
  hS : w.heap[bs]? = some (.cells #[c0, c1, .slice (some ⟨g, 0, none⟩) n cap] 38 (0, 0))
  own : w.ownsRow base 3 1 (.slice (some ⟨g, 0, none⟩) n cap) n (zs.map (Value.int .i64))
  ne : g ≠ bs

theorem HAt.len {w : World} {bs : Nat} {c0 c1 : Value} {base g n cap : Nat} {zs : List Int} (h : HAt w bs c0 c1 base g n cap zs) : zs.length = n := by
  have := h.own.1
  simpa using this
theorem HAt.cell {w : World} {bs : Nat} {c0 c1 : Value} {base g n cap : Nat} {zs : List Int} (h : HAt w bs c0 c1 base g n cap zs) {i : Nat} (hi : i < n) : w.cell? ⟨g, i, none⟩ = some (.int .i64 (zs.getD i 0)) := by
  rw [h.own.cellAt i (by omega)]
  have := h.len
  simp [List.getD_eq_getElem?_getD, List.getElem?_eq_getElem (show i < zs.length by omega)]
theorem HAt.head {w : World} {bs : Nat} {c0 c1 : Value} {base g n cap : Nat} {zs : List Int} (h : HAt w bs c0 c1 base g n cap zs) : w.cell? ⟨bs, 2, none⟩ = some (.slice (some ⟨g, 0, none⟩) n cap) := by
  rw [cell_of_row w bs 2 _ _ _ h.hS]; rfl
theorem HAt.drewN {w : World} {bs : Nat} {c0 c1 : Value} {base g n cap : Nat} {zs : List Int} (h : HAt w bs c0 c1 base g n cap zs) (q : Nat) : HAt (w.drewN q) bs c0 c1 base g n cap zs :=
  ⟨h.hS, h.own, h.ne⟩
theorem grown_refl (w : World) (row : Option Nat) : w.grownBy w row := ⟨rfl, rfl, rfl, Nat.le_refl _, fun _ _ _ => rfl⟩
theorem grown_trans {a b c : World} {row : Option Nat} (h : a.grownBy b row) (k : b.grownBy c row) : a.grownBy c row :=
  ⟨k.os.trans h.os, k.tape.trans h.tape, k.output.trans h.output, Nat.le_trans h.size k.size, fun i hi hr => (k.block i (Nat.lt_of_lt_of_le hi h.size) hr).trans (h.block i hi hr)⟩
theorem grown_drewN {a b : World} {row : Option Nat} (h : a.grownBy b row) (q : Nat) : a.grownBy (b.drewN q) row :=
  grown_trans h ⟨rfl, rfl, rfl, Nat.le_refl _, fun _ _ _ => rfl⟩

theorem HAt.swap {w : World} {bs : Nat} {c0 c1 : Value} {base g n cap : Nat} {zs : List Int} (h : HAt w bs c0 c1 base g n cap zs) (i j : Nat) :
    HAt ((w.setCell ⟨g, i, none⟩ (.int .i64 (zs.getD j 0))).setCell ⟨g, j, none⟩ (.int .i64 (zs.getD i 0))) bs c0 c1 base g n cap (Hp.swp zs i j) ∧
      w.grownBy ((w.setCell ⟨g, i, none⟩ (.int .i64 (zs.getD j 0))).setCell ⟨g, j, none⟩ (.int .i64 (zs.getD i 0))) (some g) := by
  have s1 := h.own.stored i (.int .i64 (zs.getD j 0))
  have s2 := s1.1.stored j (.int .i64 (zs.getD i 0))
  refine ⟨⟨?_, ?_, h.ne⟩, grown_trans s1.2 s2.2⟩
  · rw [heap_setCell_other _ _ _ _ (Ne.symm h.ne), heap_setCell_other _ _ _ _ (Ne.symm h.ne)]
    exact h.hS
  · have e : ((zs.map (Value.int .i64)).set i (.int .i64 (zs.getD j 0))).set j (.int .i64 (zs.getD i 0)) = (Hp.swp zs i j).map (Value.int .i64) := by
      simp [Hp.swp]
    rw [← e]; exact s2.1

theorem less_own {w : World} {bs : Nat} {c0 c1 : Value} {base g n cap : Nat} {zs : List Int} (h : HAt w bs c0 c1 base g n cap zs) (i j : Nat) (hi : i < n) (hj : j < n) :
    Calls Try.prog 37 #[.slice (some ⟨g, 0, none⟩) n cap, .int .i64 i, .int .i64 j] w fun e w' => e = .returned (.bool (decide (zs.getD i 0 < zs.getD j 0))) ∧ ∃ q, w' = w.drewN q :=
  less_any g n cap i j _ _ hi hj w (h.cell hi) (h.cell hj)

theorem swap_own {w : World} {bs : Nat} {c0 c1 : Value} {base g n cap : Nat} {zs : List Int} (h : HAt w bs c0 c1 base g n cap zs) (i j : Nat) (hi : i < n) (hj : j < n) :
    Calls Try.prog 38 #[.slice (some ⟨g, 0, none⟩) n cap, .int .i64 i, .int .i64 j] w fun e w' => e = .returned (.tuple #[]) ∧ HAt w' bs c0 c1 base g n cap (Hp.swp zs i j) ∧ w.grownBy w' (some g) := by
  refine (swap_any g n cap i j _ _ hi hj w (h.cell hi) (h.cell hj) (h.own.frozenAt i) (h.own.frozenAt j)).mono ?_
  rintro e w' ⟨rfl, q, rfl⟩
  exact ⟨rfl, (h.swap i j).1.drewN q, grown_drewN (h.swap i j).2 q⟩

end Go.Proofs.Qxb6628252a
