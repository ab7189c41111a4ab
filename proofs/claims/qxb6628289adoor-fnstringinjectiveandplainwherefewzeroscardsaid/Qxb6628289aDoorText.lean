import Derived.Test.Qxb6628289aDoorParse
import Derived.Test.Qxb6628289aDoorShelf
import Derived.WalkSmall
namespace Go.Proofs.Qxb6628289aDoor
open Go.RowKit

theorem builder_below {T e : TypeId} {B b : Nat} {bs : List Value} {W W' : World} (h : Lib.IsBuilderF T e B b bs W) (hb : Below W.heap.size W W') : Lib.IsBuilderF T e B b bs W' := by
  have one : ∀ p, Lib.BuilderAtF T e B b p bs W → Lib.BuilderAtF T e B b p bs W' := by
    rintro p ⟨hB, v, hbk, hown, hne⟩
    refine ⟨hB, v, (hb.block b (lt_of_block hbk)).trans hbk, ⟨hown.1, ?_⟩, hne⟩
    rcases hown.2 with h0 | ⟨g, cap, cur, fz, hv, hg, hh, hr⟩
    · exact .inl h0
    · exact .inr ⟨g, cap, cur, fz, hv, hg, (hb.block g (lt_of_block hh)).trans hh, hr⟩
  exact h.elim (fun x => .inl (one _ x)) (fun x => .inr (one _ x))

theorem grow_below (w : World) (k : Nat) (os : Array Obj) : Below w.heap.size w (Sort.grow (w.drewN k) os) := by
  refine ⟨rfl, rfl, rfl, ?_, fun i hi => ?_⟩
  · show w.heap.size ≤ (w.heap ++ os).size
    simp
  · show (w.heap ++ os)[i]? = w.heap[i]?
    rw [Array.getElem?_append_left hi]

theorem tab_below {w w' : World} (h : Lib.TabIs Tryd.prog w Tryd.powName .u64 Lib.pow10Tab) (hb : Below w.heap.size w w') : Lib.TabIs Tryd.prog w' Tryd.powName .u64 Lib.pow10Tab := by
  obtain ⟨g, hg⟩ : ∃ g, Tryd.prog.globalNamed Tryd.powName = some g := by
    cases hn : Tryd.prog.globalNamed Tryd.powName with
    | none => unfold Lib.TabIs World.var? at h; rw [hn] at h; cases h
    | some g => exact ⟨g, rfl⟩
  have h1 := h.cell hg 0 (by decide)
  exact var?_below hb hg (World.block_lt_of_cell? w _ h1) h

set_option maxHeartbeats 400000 in
theorem new_any (a : Bool) (s : ByteArray) (x : Int) (w : World) :
    Calls Tryd.prog 7 #[.bool a, .string s, .int .i64 x] w fun e w' => e = .returned (.agg #[.bool a, .string s, .int .i64 x]) ∧ Below w.heap.size w w' := by
  go_enter Tryd.func7, Tryd.ntmps7
  go_wp2
  exact bodyPost_ret (v := .agg #[.bool a, .string s, .int .i64 x]) (by simp [results, Tryd.results7, go_sem]) rfl ⟨rfl, (Below.refl _ _).alloc (Nat.le_refl _) _⟩

set_option maxHeartbeats 400000 in
theorem string_zero (a : Bool) (s : ByteArray) (x : Int) (w : World) (h0 : s.size = 0) :
    Calls Tryd.prog 8 #[.agg #[.bool a, .string s, .int .i64 x]] w fun e w' => e = .returned (.string (S (Nm.text a s.data.toList x))) ∧ Below w.heap.size w w' := by
  have hl : s.data.toList = [] := List.eq_nil_of_length_eq_zero (by simpa using h0)
  have hs : s = S [] := by rw [S_of s, hl]
  subst hs
  go_enter Tryd.func8, Tryd.ntmps8
  go_wp2
  go_ret
  exact ⟨rfl, (Below.refl _ _).alloc (Nat.le_refl _) _⟩


/-- While the text is made: the number lies boxed, the builder behind it holds l. -/
structure Bd (w W : World) (a : Bool) (s : ByteArray) (x : Int) (l : List UInt8) : Prop where
  bld : Lib.IsBuilderF 35 5 (w.heap.size + 1) (w.heap.size + 1) (Lib.byteCells l) W
  c0 : W.cell? ⟨w.heap.size, 0, none⟩ = some (.bool a)
  c1 : W.cell? ⟨w.heap.size, 1, none⟩ = some (.string s)
  c2 : W.cell? ⟨w.heap.size, 2, none⟩ = some (.int .i64 x)
  bel : Below w.heap.size w W
  size : w.heap.size + 1 < W.heap.size

theorem bd_start (w : World) (a : Bool) (s : ByteArray) (x : Int) : Bd w ((w.alloc (.cells #[.bool a, .string s, .int .i64 x] 25)).alloc (.cells #[.pointer none, .slice none 0 0] 35)) a s x [] := by
  have h1 := Lib.fresh_isBuilder 35 5 (w.alloc (.cells #[.bool a, .string s, .int .i64 x] 25))
  have e : (w.alloc (.cells #[.bool a, .string s, .int .i64 x] 25)).heap.size = w.heap.size + 1 := by simp
  rw [e] at h1
  have hb := heap_alloc2_old w (.cells #[.bool a, .string s, .int .i64 x] 25) (.cells #[.pointer none, .slice none 0 0] 35)
  refine ⟨Lib.IsBuilderF.of h1, ?_, ?_, ?_, ((Below.refl _ _).alloc (Nat.le_refl _) _).alloc (by simp) _, by simp⟩
  · rw [cell_of_row _ _ 0 _ _ _ hb]; rfl
  · rw [cell_of_row _ _ 1 _ _ _ hb]; rfl
  · rw [cell_of_row _ _ 2 _ _ _ hb]; rfl

theorem Bd.step {w W W1 : World} {a : Bool} {s : ByteArray} {x : Int} {l l' : List UInt8} (h : Bd w W a s x l) (hb : Below (w.heap.size + 1) W W1) (hf : Lib.IsBuilderF 35 5 (w.heap.size + 1) (w.heap.size + 1) (Lib.byteCells l') W1) : Bd w W1 a s x l' :=
  ⟨hf, (hb.cell (p := ⟨w.heap.size, 0, none⟩) (by simp)).trans h.c0, (hb.cell (p := ⟨w.heap.size, 1, none⟩) (by simp)).trans h.c1, (hb.cell (p := ⟨w.heap.size, 2, none⟩) (by simp)).trans h.c2,
    h.bel.trans (hb.mono (by omega)), by have := hb.size; have := h.size; omega⟩
theorem Bd.later {w W W1 : World} {a : Bool} {s : ByteArray} {x : Int} {l : List UInt8} (h : Bd w W a s x l) (hb : Below W.heap.size W W1) : Bd w W1 a s x l :=
  h.step (hb.mono (by have := h.size; omega)) (builder_below h.bld hb)

theorem ws_any {w W : World} {a : Bool} {s : ByteArray} {x : Int} {l : List UInt8} (h : Bd w W a s x l) (t : ByteArray) (hl : l.length + t.size ≤ 100000000) :
    Calls Tryd.prog 13 #[.pointer (some ⟨w.heap.size + 1, 0, none⟩), .string t] W fun e W1 => e = .returned (.tuple #[.int .i64 t.size, .nilIface]) ∧ Bd w W1 a s x (l ++ t.data.toList) := by
  refine (Tryd.writeString (w.heap.size + 1) (w.heap.size + 1) (Lib.byteCells l) t W h.bld (by rw [Lib.byteCells_length]; omega) (by have := h.size; omega)).mono ?_
  rintro e W1 ⟨rfl, h1, h2, _⟩
  refine ⟨rfl, h.step h2 ?_⟩
  rw [Lib.strCells_eq, ← Lib.byteCells_append] at h1
  exact .inr h1
theorem wb_any {w W : World} {a : Bool} {s : ByteArray} {x : Int} {l : List UInt8} (h : Bd w W a s x l) (c : UInt8) (hl : l.length + 1 ≤ 100000000) :
    Calls Tryd.prog 12 #[.pointer (some ⟨w.heap.size + 1, 0, none⟩), .int .u8 c.toNat] W fun e W1 => e = .returned .nilIface ∧ Bd w W1 a s x (l ++ [c]) := by
  refine (Tryd.writeByte (w.heap.size + 1) (w.heap.size + 1) (Lib.byteCells l) c.toNat W h.bld (by rw [Lib.byteCells_length]; omega) (by have := h.size; omega)).mono ?_
  rintro e W1 ⟨rfl, h1, h2, _⟩
  refine ⟨rfl, h.step h2 ?_⟩
  have e1 : Lib.byteCells l ++ [Value.int .u8 (c.toNat : Int)] = Lib.byteCells (l ++ [c]) := by simp [Lib.byteCells]
  rw [e1] at h1
  exact .inr h1
theorem fin_any {w W : World} {a : Bool} {s : ByteArray} {x : Int} {l : List UInt8} (h : Bd w W a s x l) :
    Calls Tryd.prog 16 #[.pointer (some ⟨w.heap.size + 1, 0, none⟩)] W fun e W1 => e = .returned (.string (S l)) ∧ Below w.heap.size w W1 := by
  refine (Tryd.builderString (w.heap.size + 1) (w.heap.size + 1) l W h.bld (by have := h.size; omega)).mono ?_
  rintro e W1 ⟨rfl, _, h2, _⟩
  exact ⟨rfl, h.bel.trans (h2.mono (by omega))⟩
theorem rep_any (c : Nat) (hc : c ≤ 16) (W : World) : Calls Tryd.prog 14 #[.string (S [48]), .int .i64 (c : Int)] W fun e W1 => e = .returned (.string (S (List.replicate c 48))) ∧ Below W.heap.size W W1 := by
  refine (Tryd.strings_Repeat (S [48]) c W (by omega) (by show 1 * c ≤ _; omega)).mono ?_
  rintro e W1 ⟨rfl, h⟩
  have e1 : ∀ c, Lib.repeatL [48] c = List.replicate c 48 := by
    intro c
    induction c with
    | zero => rfl
    | succ c ih => rw [Lib.repeatL, ih]; rfl
  refine ⟨?_, h⟩
  rw [show (S [48]).data.toList = [48] from rfl, e1]

theorem itoa_len (n : Int) (h0 : -9223372036854775808 < n) (h1 : n ≤ 9223372036854775807) : (Lib.itoa n).length ≤ 20 := by
  unfold Lib.itoa
  split
  · have := (Nm.dec_facts n.natAbs (by omega)).2.2.2.1
    simp; omega
  · have := (Nm.dec_facts n.toNat (by omega)).2.2.2.1
    omega
theorem S_size (l : List UInt8) : (S l).size = l.length := by show l.toArray.size = _; simp

theorem not_empty {s : ByteArray} (h0 : 0 < s.size) : s.toList.isEmpty = false ∧ s.data.toList.isEmpty = false := by
  have h1 : s.data.toList.isEmpty = false := by
    cases h : s.data.toList with
    | nil =>
      have h3 : s.data.toList.length = s.size := by simp
      rw [h] at h3
      have h4 : s.size = 0 := h3.symm
      omega
    | cons a l => rfl
  refine ⟨?_, h1⟩
  rw [ByteArray.toList_eq]; exact h1

set_option maxRecDepth 100000 in
set_option maxHeartbeats 400000 in
theorem str_int_p (s : ByteArray) (c : Nat) (w : World) (h0 : 0 < s.size) (hs : s.size ≤ 1048576) (hc : c ≤ 16) :
    Calls Tryd.prog 8 #[.agg #[.bool false, .string s, .int .i64 ((s.size : Int) + (c : Int))]] w fun e w' => e = .returned (.string (S (Nm.sgn false ++ Nm.body s.data.toList ((s.size : Int) + (c : Int))))) ∧ Below w.heap.size w w' := by
  have hne := (not_empty h0).1
  have hsl : s.data.toList.length = s.size := by simp
  have hT : Nm.body s.data.toList ((s.size : Int) + (c : Int)) = s.data.toList ++ List.replicate c 48 := by
    unfold Nm.body
    rw [hsl, if_pos ⟨by omega, by omega⟩]
    congr 2
    omega
  have HT : Hid (Nm.body s.data.toList ((s.size : Int) + (c : Int)) = s.data.toList ++ List.replicate c 48) := hT
  clear hsl hT
  have hsub : (s.size : Int) + (c : Int) - (s.size : Int) = (c : Int) := by omega
  go_enter Tryd.func8, Tryd.ntmps8
  go_wp2_with fail
  have hB := bd_start w false s ((s.size : Int) + (c : Int))
  refine (ws_any hB s (by simp; omega)).mono ?_
  rintro e W2 ⟨rfl, hB2⟩
  have f2 := hB2.c1
  go_wp2_with fail
  refine (rep_any c hc W2).mono ?_
  rintro e W3 ⟨rfl, hb3⟩
  have hB3 := hB2.later hb3
  go_wp2_with fail
  refine (ws_any hB3 (S (List.replicate c 48)) (by rw [S_size]; simp; omega)).mono ?_
  rintro e W4 ⟨rfl, hB4⟩
  have f4 := hB4.c1
  go_wp2_with fail
  refine (fin_any hB4).mono ?_
  rintro e W9 ⟨rfl, hb9⟩
  go_wp2_with fail
  go_ret
  rw [HT.out]
  exact ⟨by simp [Nm.sgn], hb9⟩

set_option maxRecDepth 100000 in
set_option maxHeartbeats 400000 in
theorem str_int_n (s : ByteArray) (c : Nat) (w : World) (h0 : 0 < s.size) (hs : s.size ≤ 1048576) (hc : c ≤ 16) :
    Calls Tryd.prog 8 #[.agg #[.bool true, .string s, .int .i64 ((s.size : Int) + (c : Int))]] w fun e w' => e = .returned (.string (S (Nm.sgn true ++ Nm.body s.data.toList ((s.size : Int) + (c : Int))))) ∧ Below w.heap.size w w' := by
  have hne := (not_empty h0).1
  have hsl : s.data.toList.length = s.size := by simp
  have hT : Nm.body s.data.toList ((s.size : Int) + (c : Int)) = s.data.toList ++ List.replicate c 48 := by
    unfold Nm.body
    rw [hsl, if_pos ⟨by omega, by omega⟩]
    congr 2
    omega
  have HT : Hid (Nm.body s.data.toList ((s.size : Int) + (c : Int)) = s.data.toList ++ List.replicate c 48) := hT
  clear hsl hT
  have hsub : (s.size : Int) + (c : Int) - (s.size : Int) = (c : Int) := by omega
  go_enter Tryd.func8, Tryd.ntmps8
  go_wp2_with fail
  refine (wb_any (bd_start w true s _) 45 (by simp)).mono ?_
  rintro e W1 ⟨rfl, hB⟩
  have d0 := hB.c0
  have d1 := hB.c1
  have d2 := hB.c2
  go_wp2_with fail
  refine (ws_any hB s (by simp; omega)).mono ?_
  rintro e W2 ⟨rfl, hB2⟩
  have f2 := hB2.c1
  go_wp2_with fail
  refine (rep_any c hc W2).mono ?_
  rintro e W3 ⟨rfl, hb3⟩
  have hB3 := hB2.later hb3
  go_wp2_with fail
  refine (ws_any hB3 (S (List.replicate c 48)) (by rw [S_size]; simp; omega)).mono ?_
  rintro e W4 ⟨rfl, hB4⟩
  have f4 := hB4.c1
  go_wp2_with fail
  refine (fin_any hB4).mono ?_
  rintro e W9 ⟨rfl, hb9⟩
  go_wp2_with fail
  go_ret
  rw [HT.out]
  exact ⟨by simp [Nm.sgn], hb9⟩

set_option maxRecDepth 100000 in
set_option maxHeartbeats 400000 in
theorem str_frac_p (s : ByteArray) (k : Nat) (w : World) (h0 : 0 < s.size) (hs : s.size ≤ 1048576) (hk0 : 0 < k) (hk : k < s.size) :
    Calls Tryd.prog 8 #[.agg #[.bool false, .string s, .int .i64 ((k : Int))]] w fun e w' => e = .returned (.string (S (Nm.sgn false ++ Nm.body s.data.toList ((k : Int))))) ∧ Below w.heap.size w w' := by
  have hne := (not_empty h0).1
  have hsl : s.data.toList.length = s.size := by simp
  have hT : Nm.body s.data.toList ((k : Int)) = s.data.toList.take k ++ 46 :: s.data.toList.drop k := by
    unfold Nm.body
    rw [hsl, if_neg (by omega), if_pos ⟨by omega, by omega⟩]
    simp
  have HT : Hid (Nm.body s.data.toList ((k : Int)) = s.data.toList.take k ++ 46 :: s.data.toList.drop k) := hT
  clear hsl hT
  have hg : decide ((s.size : Int) ≤ (k : Int)) = false := decide_eq_false (by omega)
  go_enter Tryd.func8, Tryd.ntmps8
  go_wp2_with fail
  have hB := bd_start w false s ((k : Int))
  refine (ws_any hB (s.extract 0 k) (by simp; omega)).mono ?_
  rintro e W2 ⟨rfl, hB2⟩
  have f2 := hB2.c1
  go_wp2_with fail
  refine (wb_any hB2 46 (by simp; omega)).mono ?_
  rintro e W3 ⟨rfl, hB3⟩
  have f3 := hB3.c1
  go_wp2_with fail
  refine (ws_any hB3 (s.extract k s.size) (by simp; omega)).mono ?_
  rintro e W4 ⟨rfl, hB4⟩
  have f4 := hB4.c1
  have Hek : Hid ((s.data.toList.drop k).take (s.size - k) = s.data.toList.drop k) := List.take_of_length_le (by simp)
  go_wp2_with fail
  refine (fin_any hB4).mono ?_
  rintro e W9 ⟨rfl, hb9⟩
  go_wp2_with fail
  go_ret
  rw [HT.out]
  rw [Hek.out]
  exact ⟨by simp [Nm.sgn], hb9⟩

set_option maxRecDepth 100000 in
set_option maxHeartbeats 400000 in
theorem str_frac_n (s : ByteArray) (k : Nat) (w : World) (h0 : 0 < s.size) (hs : s.size ≤ 1048576) (hk0 : 0 < k) (hk : k < s.size) :
    Calls Tryd.prog 8 #[.agg #[.bool true, .string s, .int .i64 ((k : Int))]] w fun e w' => e = .returned (.string (S (Nm.sgn true ++ Nm.body s.data.toList ((k : Int))))) ∧ Below w.heap.size w w' := by
  have hne := (not_empty h0).1
  have hsl : s.data.toList.length = s.size := by simp
  have hT : Nm.body s.data.toList ((k : Int)) = s.data.toList.take k ++ 46 :: s.data.toList.drop k := by
    unfold Nm.body
    rw [hsl, if_neg (by omega), if_pos ⟨by omega, by omega⟩]
    simp
  have HT : Hid (Nm.body s.data.toList ((k : Int)) = s.data.toList.take k ++ 46 :: s.data.toList.drop k) := hT
  clear hsl hT
  have hg : decide ((s.size : Int) ≤ (k : Int)) = false := decide_eq_false (by omega)
  go_enter Tryd.func8, Tryd.ntmps8
  go_wp2_with fail
  refine (wb_any (bd_start w true s _) 45 (by simp)).mono ?_
  rintro e W1 ⟨rfl, hB⟩
  have d0 := hB.c0
  have d1 := hB.c1
  have d2 := hB.c2
  go_wp2_with fail
  refine (ws_any hB (s.extract 0 k) (by simp; omega)).mono ?_
  rintro e W2 ⟨rfl, hB2⟩
  have f2 := hB2.c1
  go_wp2_with fail
  refine (wb_any hB2 46 (by simp; omega)).mono ?_
  rintro e W3 ⟨rfl, hB3⟩
  have f3 := hB3.c1
  go_wp2_with fail
  refine (ws_any hB3 (s.extract k s.size) (by simp; omega)).mono ?_
  rintro e W4 ⟨rfl, hB4⟩
  have f4 := hB4.c1
  have Hek : Hid ((s.data.toList.drop k).take (s.size - k) = s.data.toList.drop k) := List.take_of_length_le (by simp)
  go_wp2_with fail
  refine (fin_any hB4).mono ?_
  rintro e W9 ⟨rfl, hb9⟩
  go_wp2_with fail
  go_ret
  rw [HT.out]
  rw [Hek.out]
  exact ⟨by simp [Nm.sgn], hb9⟩

set_option maxRecDepth 100000 in
set_option maxHeartbeats 400000 in
theorem str_zero_p (s : ByteArray) (c : Nat) (w : World) (h0 : 0 < s.size) (hs : s.size ≤ 1048576) (hc : c ≤ 16) :
    Calls Tryd.prog 8 #[.agg #[.bool false, .string s, .int .i64 (-(c : Int))]] w fun e w' => e = .returned (.string (S (Nm.sgn false ++ Nm.body s.data.toList (-(c : Int))))) ∧ Below w.heap.size w w' := by
  have hne := (not_empty h0).1
  have hsl : s.data.toList.length = s.size := by simp
  have hT : Nm.body s.data.toList (-(c : Int)) = 48 :: 46 :: (List.replicate c 48 ++ s.data.toList) := by
    unfold Nm.body
    rw [hsl, if_neg (by omega), if_neg (by omega), if_pos ⟨by omega, by omega⟩]
    simp
  have HT : Hid (Nm.body s.data.toList (-(c : Int)) = 48 :: 46 :: (List.replicate c 48 ++ s.data.toList)) := hT
  clear hsl hT
  have hg : decide ((s.size : Int) ≤ -(c : Int)) = false := decide_eq_false (by omega)
  have hg2 : decide ((0 : Int) < -(c : Int)) = false := decide_eq_false (by omega)
  go_enter Tryd.func8, Tryd.ntmps8
  go_wp2_with fail
  have hB := bd_start w false s (-(c : Int))
  refine (ws_any hB (S [48, 46]) (by rw [S_size]; simp)).mono ?_
  rintro e W2 ⟨rfl, hB2⟩
  have f2 := hB2.c1
  go_wp2_with fail
  refine (rep_any c hc W2).mono ?_
  rintro e W3 ⟨rfl, hb3⟩
  have hB3 := hB2.later hb3
  go_wp2_with fail
  refine (ws_any hB3 (S (List.replicate c 48)) (by rw [S_size]; simp; omega)).mono ?_
  rintro e W4 ⟨rfl, hB4⟩
  have f4 := hB4.c1
  go_wp2_with fail
  refine (ws_any hB4 s (by simp; omega)).mono ?_
  rintro e W5 ⟨rfl, hB5⟩
  have f5 := hB5.c1
  go_wp2_with fail
  refine (fin_any hB5).mono ?_
  rintro e W9 ⟨rfl, hb9⟩
  go_wp2_with fail
  go_ret
  rw [HT.out]
  exact ⟨by simp [Nm.sgn], hb9⟩

set_option maxRecDepth 100000 in
set_option maxHeartbeats 400000 in
theorem str_zero_n (s : ByteArray) (c : Nat) (w : World) (h0 : 0 < s.size) (hs : s.size ≤ 1048576) (hc : c ≤ 16) :
    Calls Tryd.prog 8 #[.agg #[.bool true, .string s, .int .i64 (-(c : Int))]] w fun e w' => e = .returned (.string (S (Nm.sgn true ++ Nm.body s.data.toList (-(c : Int))))) ∧ Below w.heap.size w w' := by
  have hne := (not_empty h0).1
  have hsl : s.data.toList.length = s.size := by simp
  have hT : Nm.body s.data.toList (-(c : Int)) = 48 :: 46 :: (List.replicate c 48 ++ s.data.toList) := by
    unfold Nm.body
    rw [hsl, if_neg (by omega), if_neg (by omega), if_pos ⟨by omega, by omega⟩]
    simp
  have HT : Hid (Nm.body s.data.toList (-(c : Int)) = 48 :: 46 :: (List.replicate c 48 ++ s.data.toList)) := hT
  clear hsl hT
  have hg : decide ((s.size : Int) ≤ -(c : Int)) = false := decide_eq_false (by omega)
  have hg2 : decide ((0 : Int) < -(c : Int)) = false := decide_eq_false (by omega)
  go_enter Tryd.func8, Tryd.ntmps8
  go_wp2_with fail
  refine (wb_any (bd_start w true s _) 45 (by simp)).mono ?_
  rintro e W1 ⟨rfl, hB⟩
  have d0 := hB.c0
  have d1 := hB.c1
  have d2 := hB.c2
  go_wp2_with fail
  refine (ws_any hB (S [48, 46]) (by rw [S_size]; simp)).mono ?_
  rintro e W2 ⟨rfl, hB2⟩
  have f2 := hB2.c1
  go_wp2_with fail
  refine (rep_any c hc W2).mono ?_
  rintro e W3 ⟨rfl, hb3⟩
  have hB3 := hB2.later hb3
  go_wp2_with fail
  refine (ws_any hB3 (S (List.replicate c 48)) (by rw [S_size]; simp; omega)).mono ?_
  rintro e W4 ⟨rfl, hB4⟩
  have f4 := hB4.c1
  go_wp2_with fail
  refine (ws_any hB4 s (by simp; omega)).mono ?_
  rintro e W5 ⟨rfl, hB5⟩
  have f5 := hB5.c1
  go_wp2_with fail
  refine (fin_any hB5).mono ?_
  rintro e W9 ⟨rfl, hb9⟩
  go_wp2_with fail
  go_ret
  rw [HT.out]
  exact ⟨by simp [Nm.sgn], hb9⟩

set_option maxRecDepth 100000 in
set_option maxHeartbeats 400000 in
theorem str_big_p (s : ByteArray) (x : Int) (w : World) (h0 : 0 < s.size) (hs : s.size ≤ 1048576) (hx : (s.size : Int) + 16 < x) (hx1 : x ≤ 9223372036854775807) (ht : Lib.TabIs Tryd.prog w Tryd.powName .u64 Lib.pow10Tab) :
    Calls Tryd.prog 8 #[.agg #[.bool false, .string s, .int .i64 (x)]] w fun e w' => e = .returned (.string (S (Nm.sgn false ++ Nm.body s.data.toList (x)))) ∧ Below w.heap.size w w' := by
  have hne := (not_empty h0).1
  have hsl : s.data.toList.length = s.size := by simp
  have hT : Nm.body s.data.toList (x) = s.data.toList ++ 101 :: Lib.itoa (x - s.size) := by
    unfold Nm.body
    rw [hsl, if_neg (by omega), if_neg (by omega), if_neg (by omega)]
  have HT : Hid (Nm.body s.data.toList (x) = s.data.toList ++ 101 :: Lib.itoa (x - s.size)) := hT
  clear hsl hT
  have hil := itoa_len (x - s.size) (by omega) (by omega)
  have hg2 : decide (x ≤ (0 : Int)) = false := decide_eq_false (by omega)
  go_enter Tryd.func8, Tryd.ntmps8
  go_wp2_with fail
  have hB := bd_start w false s (x)
  refine (ws_any hB s (by simp; omega)).mono ?_
  rintro e W2 ⟨rfl, hB2⟩
  have f2 := hB2.c1
  go_wp2_with fail
  refine (ws_any hB2 (S [101]) (by rw [S_size]; simp; omega)).mono ?_
  rintro e W3 ⟨rfl, hB3⟩
  have f3 := hB3.c1
  have g2 := hB3.c2
  have ht3 := tab_below ht hB3.bel
  go_wp2_with fail
  refine (Tryd.formatInt (x - s.size) (by omega) (by omega) W3 ht3).mono ?_
  rintro e W4 ⟨rfl, kk, os, rfl⟩
  have hB4 := hB3.later (grow_below W3 kk os)
  go_wp2_with fail
  refine (ws_any hB4 (S (Lib.itoa (x - s.size))) (by rw [S_size]; simp; omega)).mono ?_
  rintro e W5 ⟨rfl, hB5⟩
  have f5 := hB5.c1
  go_wp2_with fail
  refine (fin_any hB5).mono ?_
  rintro e W9 ⟨rfl, hb9⟩
  go_wp2_with fail
  go_ret
  rw [HT.out]
  exact ⟨by simp [Nm.sgn], hb9⟩

set_option maxRecDepth 100000 in
set_option maxHeartbeats 400000 in
theorem str_small_p (s : ByteArray) (x : Int) (w : World) (h0 : 0 < s.size) (hs : s.size ≤ 1048576) (hx : x < -16) (hx1 : -9223372036854775808 + (s.size : Int) < x) (ht : Lib.TabIs Tryd.prog w Tryd.powName .u64 Lib.pow10Tab) :
    Calls Tryd.prog 8 #[.agg #[.bool false, .string s, .int .i64 (x)]] w fun e w' => e = .returned (.string (S (Nm.sgn false ++ Nm.body s.data.toList (x)))) ∧ Below w.heap.size w w' := by
  have hne := (not_empty h0).1
  have hsl : s.data.toList.length = s.size := by simp
  have hT : Nm.body s.data.toList (x) = s.data.toList ++ 101 :: Lib.itoa (x - s.size) := by
    unfold Nm.body
    rw [hsl, if_neg (by omega), if_neg (by omega), if_neg (by omega)]
  have HT : Hid (Nm.body s.data.toList (x) = s.data.toList ++ 101 :: Lib.itoa (x - s.size)) := hT
  clear hsl hT
  have hil := itoa_len (x - s.size) (by omega) (by omega)
  have hg : decide ((s.size : Int) ≤ x) = false := decide_eq_false (by omega)
  have hg2 : decide ((0 : Int) < x) = false := decide_eq_false (by omega)
  go_enter Tryd.func8, Tryd.ntmps8
  go_wp2_with fail
  have hB := bd_start w false s (x)
  refine (ws_any hB s (by simp; omega)).mono ?_
  rintro e W2 ⟨rfl, hB2⟩
  have f2 := hB2.c1
  go_wp2_with fail
  refine (ws_any hB2 (S [101]) (by rw [S_size]; simp; omega)).mono ?_
  rintro e W3 ⟨rfl, hB3⟩
  have f3 := hB3.c1
  have g2 := hB3.c2
  have ht3 := tab_below ht hB3.bel
  go_wp2_with fail
  refine (Tryd.formatInt (x - s.size) (by omega) (by omega) W3 ht3).mono ?_
  rintro e W4 ⟨rfl, kk, os, rfl⟩
  have hB4 := hB3.later (grow_below W3 kk os)
  go_wp2_with fail
  refine (ws_any hB4 (S (Lib.itoa (x - s.size))) (by rw [S_size]; simp; omega)).mono ?_
  rintro e W5 ⟨rfl, hB5⟩
  have f5 := hB5.c1
  go_wp2_with fail
  refine (fin_any hB5).mono ?_
  rintro e W9 ⟨rfl, hb9⟩
  go_wp2_with fail
  go_ret
  rw [HT.out]
  exact ⟨by simp [Nm.sgn], hb9⟩

set_option maxRecDepth 100000 in
set_option maxHeartbeats 400000 in
theorem str_big_n (s : ByteArray) (x : Int) (w : World) (h0 : 0 < s.size) (hs : s.size ≤ 1048576) (hx : (s.size : Int) + 16 < x) (hx1 : x ≤ 9223372036854775807) (ht : Lib.TabIs Tryd.prog w Tryd.powName .u64 Lib.pow10Tab) :
    Calls Tryd.prog 8 #[.agg #[.bool true, .string s, .int .i64 (x)]] w fun e w' => e = .returned (.string (S (Nm.sgn true ++ Nm.body s.data.toList (x)))) ∧ Below w.heap.size w w' := by
  have hne := (not_empty h0).1
  have hsl : s.data.toList.length = s.size := by simp
  have hT : Nm.body s.data.toList (x) = s.data.toList ++ 101 :: Lib.itoa (x - s.size) := by
    unfold Nm.body
    rw [hsl, if_neg (by omega), if_neg (by omega), if_neg (by omega)]
  have HT : Hid (Nm.body s.data.toList (x) = s.data.toList ++ 101 :: Lib.itoa (x - s.size)) := hT
  clear hsl hT
  have hil := itoa_len (x - s.size) (by omega) (by omega)
  have hg2 : decide (x ≤ (0 : Int)) = false := decide_eq_false (by omega)
  go_enter Tryd.func8, Tryd.ntmps8
  go_wp2_with fail
  refine (wb_any (bd_start w true s _) 45 (by simp)).mono ?_
  rintro e W1 ⟨rfl, hB⟩
  have d0 := hB.c0
  have d1 := hB.c1
  have d2 := hB.c2
  go_wp2_with fail
  refine (ws_any hB s (by simp; omega)).mono ?_
  rintro e W2 ⟨rfl, hB2⟩
  have f2 := hB2.c1
  go_wp2_with fail
  refine (ws_any hB2 (S [101]) (by rw [S_size]; simp; omega)).mono ?_
  rintro e W3 ⟨rfl, hB3⟩
  have f3 := hB3.c1
  have g2 := hB3.c2
  have ht3 := tab_below ht hB3.bel
  go_wp2_with fail
  refine (Tryd.formatInt (x - s.size) (by omega) (by omega) W3 ht3).mono ?_
  rintro e W4 ⟨rfl, kk, os, rfl⟩
  have hB4 := hB3.later (grow_below W3 kk os)
  go_wp2_with fail
  refine (ws_any hB4 (S (Lib.itoa (x - s.size))) (by rw [S_size]; simp; omega)).mono ?_
  rintro e W5 ⟨rfl, hB5⟩
  have f5 := hB5.c1
  go_wp2_with fail
  refine (fin_any hB5).mono ?_
  rintro e W9 ⟨rfl, hb9⟩
  go_wp2_with fail
  go_ret
  rw [HT.out]
  exact ⟨by simp [Nm.sgn], hb9⟩

set_option maxRecDepth 100000 in
set_option maxHeartbeats 400000 in
theorem str_small_n (s : ByteArray) (x : Int) (w : World) (h0 : 0 < s.size) (hs : s.size ≤ 1048576) (hx : x < -16) (hx1 : -9223372036854775808 + (s.size : Int) < x) (ht : Lib.TabIs Tryd.prog w Tryd.powName .u64 Lib.pow10Tab) :
    Calls Tryd.prog 8 #[.agg #[.bool true, .string s, .int .i64 (x)]] w fun e w' => e = .returned (.string (S (Nm.sgn true ++ Nm.body s.data.toList (x)))) ∧ Below w.heap.size w w' := by
  have hne := (not_empty h0).1
  have hsl : s.data.toList.length = s.size := by simp
  have hT : Nm.body s.data.toList (x) = s.data.toList ++ 101 :: Lib.itoa (x - s.size) := by
    unfold Nm.body
    rw [hsl, if_neg (by omega), if_neg (by omega), if_neg (by omega)]
  have HT : Hid (Nm.body s.data.toList (x) = s.data.toList ++ 101 :: Lib.itoa (x - s.size)) := hT
  clear hsl hT
  have hil := itoa_len (x - s.size) (by omega) (by omega)
  have hg : decide ((s.size : Int) ≤ x) = false := decide_eq_false (by omega)
  have hg2 : decide ((0 : Int) < x) = false := decide_eq_false (by omega)
  go_enter Tryd.func8, Tryd.ntmps8
  go_wp2_with fail
  refine (wb_any (bd_start w true s _) 45 (by simp)).mono ?_
  rintro e W1 ⟨rfl, hB⟩
  have d0 := hB.c0
  have d1 := hB.c1
  have d2 := hB.c2
  go_wp2_with fail
  refine (ws_any hB s (by simp; omega)).mono ?_
  rintro e W2 ⟨rfl, hB2⟩
  have f2 := hB2.c1
  go_wp2_with fail
  refine (ws_any hB2 (S [101]) (by rw [S_size]; simp; omega)).mono ?_
  rintro e W3 ⟨rfl, hB3⟩
  have f3 := hB3.c1
  have g2 := hB3.c2
  have ht3 := tab_below ht hB3.bel
  go_wp2_with fail
  refine (Tryd.formatInt (x - s.size) (by omega) (by omega) W3 ht3).mono ?_
  rintro e W4 ⟨rfl, kk, os, rfl⟩
  have hB4 := hB3.later (grow_below W3 kk os)
  go_wp2_with fail
  refine (ws_any hB4 (S (Lib.itoa (x - s.size))) (by rw [S_size]; simp; omega)).mono ?_
  rintro e W5 ⟨rfl, hB5⟩
  have f5 := hB5.c1
  go_wp2_with fail
  refine (fin_any hB5).mono ?_
  rintro e W9 ⟨rfl, hb9⟩
  go_wp2_with fail
  go_ret
  rw [HT.out]
  exact ⟨by simp [Nm.sgn], hb9⟩
end Go.Proofs.Qxb6628289aDoor
