/-
  Bytes in memory; cloneBytes, equalBytes, the tests of length. By an AI agent.
-/
import Derived.Test.Qxb6630601aRows
import Derived.WalkKit
import Derived.Below
import Derived.Deep.OwnRows
import Derived.Deep.AppendLies
import Derived.Laws.CopyOwn
import Derived.Lib.SmallJoins
import Derived.Lib.SliceRun
import Derived.Deep.QuietTactic
import Derived.BigQuiet
import Derived.Deep.DeepFit
namespace Go.Proofs.Qxb6630601a
open Go.RowKit

theorem Try.info5 : (Try.prog.info? 5).map (fun i => (i.zero, i.size, i.bytes)) = some (some (Value.int .u8 0), 1, 1) := by kernel_rfl

/-- A slice's address leads to the numbers l. -/
def RowAt (w : World) (a : Option Addr) (l : List Int) : Prop :=
  0 < l.length → ∃ b o, a = some ⟨b, o, none⟩ ∧ ∀ i, i < l.length → w.cell? ⟨b, o + i, none⟩ = some (.int .u8 (l.getD i 0))
def vals (l : List Int) : List Value := l.map (Value.int .u8)
theorem vals_len (l : List Int) : (vals l).length = l.length := by simp [vals]
theorem vals_append (a b : List Int) : vals (a ++ b) = vals a ++ vals b := by simp [vals]
theorem vals_get (l : List Int) (i : Nat) (h : i < l.length) : (vals l)[i]? = some (.int .u8 (l.getD i 0)) := by simp [vals, List.getD, h]

def Says (p : Prop) (w : World) (e : Ending) (w' : World) : Prop := ∃ b, e = .returned (.bool b) ∧ (b = true → p) ∧ w' = w
theorem Says.no {p : Prop} {w w' : World} {e : Ending} (he : e = .returned (.bool false)) (hw : w' = w) : Says p w e w' := ⟨false, he, fun h => (by cases h), hw⟩
theorem Says.yes {p : Prop} {w w' : World} {e : Ending} (he : e = .returned (.bool true)) (h : p) (hw : w' = w) : Says p w e w' := ⟨true, he, fun _ => h, hw⟩

set_option maxHeartbeats 400000 in
theorem bytes1_any (a : Option Addr) (n cap : Nat) (s : ByteArray) (k : Int) (w : World) (hn : n ≤ maxLen) (hs : s.size ≤ maxLen) :
    Calls Try.prog 5 #[.slice a n cap, .string s, .int .i64 k] w (Says (n + s.size ≤ 1048576) w) := by
  unfold maxLen at hs hn
  by_cases h : 1048576 < n
  · go_enter Try.func5, Try.ntmps5
    go_wp2
    go_ret
    exact Says.no rfl rfl
  by_cases h2 : 1048576 < s.size
  · go_enter Try.func5, Try.ntmps5
    go_wp2
    go_ret
    exact Says.no rfl rfl
  by_cases h3 : 1048576 < n + s.size
  · have h3' : (1048576 : Int) < (n : Int) + (s.size : Int) := by omega
    go_enter Try.func5, Try.ntmps5
    go_wp2
    go_ret
    exact Says.no rfl rfl
  · have h3' : ¬ (1048576 : Int) < (n : Int) + (s.size : Int) := by omega
    go_enter Try.func5, Try.ntmps5
    go_wp2
    go_ret
    exact Says.yes rfl (by omega) rfl

set_option maxHeartbeats 400000 in
theorem bytes2_any (a : Option Addr) (n cap : Nat) (s : ByteArray) (w : World) (hn : n ≤ maxLen) (hs : s.size ≤ maxLen) :
    Calls Try.prog 9 #[.slice a n cap, .string s] w (Says (n + s.size ≤ 1048576) w) := by
  unfold maxLen at hs hn
  by_cases h : 1048576 < n
  · go_enter Try.func9, Try.ntmps9
    go_wp2
    go_ret
    exact Says.no rfl rfl
  by_cases h2 : 1048576 < s.size
  · go_enter Try.func9, Try.ntmps9
    go_wp2
    go_ret
    exact Says.no rfl rfl
  by_cases h3 : 1048576 < n + s.size
  · have h3' : (1048576 : Int) < (n : Int) + (s.size : Int) := by omega
    go_enter Try.func9, Try.ntmps9
    go_wp2
    go_ret
    exact Says.no rfl rfl
  · have h3' : ¬ (1048576 : Int) < (n : Int) + (s.size : Int) := by omega
    go_enter Try.func9, Try.ntmps9
    go_wp2
    go_ret
    exact Says.yes rfl (by omega) rfl

set_option maxHeartbeats 400000 in
theorem clone_any (a : Option Addr) (cap : Nat) (l : List Int) (w : World) (h : RowAt w a l) (hl : l.length ≤ 1048576) (hn : a = none → l = [] ∧ cap = 0) :
    Calls Try.prog 6 #[.slice a l.length cap] w fun e w' => ∃ v, e = .returned v ∧ w'.ownsRow w.heap.size 5 1 v l.length (vals l) ∧ Below w.heap.size w w' := by
  cases a with
  | none =>
    obtain ⟨rfl, rfl⟩ := hn rfl
    have hnil : ∀ W, (binOp .eql 22 (.slice none 0 0) (.slice none 0 0)).run Try.prog W = .ok (.bool true) W := fun W => Lib.run_eql_slice_nil W 22 5 none 0 0 0 0 Try.underlying22
    go_enter Try.func6, Try.ntmps6
    go_wp2
    go_ret
    exact ⟨_, rfl, World.ownsRow_nil _ _ _ _, Below.refl _ _⟩
  | some ad =>
    clear hn
    have hmk := run_make_row' (P := Try.prog) 22 5 (.int .u8 0) 1 Try.underlying22 Try.info5 rfl .i64 .i64 l.length (by omega) (by omega)
    obtain ⟨n, hnl⟩ : ∃ n, n = l.length := ⟨_, rfl⟩
    have HN : Hid (n = l.length) := hnl
    rw [← hnl] at hmk hl ⊢
    clear hnl
    have hnil : ∀ W, (binOp .eql 22 (.slice (some ad) n cap) (.slice none 0 0)).run Try.prog W = .ok (.bool false) W := fun W => Lib.run_eql_slice_nil W 22 5 (some ad) n cap 0 0 Try.underlying22
    obtain ⟨C, hC⟩ : ∃ C, C = madeCells #[Value.int .u8 0] n := ⟨_, rfl⟩
    have HC : Hid (C = madeCells #[Value.int .u8 0] n) := hC
    rw [← hC] at hmk
    clear hC
    have hcs : C.toList.length = n := by rw [HC.out]; simp [size_madeCells]
    have HW : Hid ((w.alloc (Obj.cells C 5)).heap[w.heap.size]? = some (.cells C.toList.toArray 5 (0, 0))) := by
      have := heap_alloc_new w (Obj.cells C 5)
      simpa [Hid] using this
    obtain ⟨V, hV⟩ : ∃ V, V = vals l := ⟨_, rfl⟩
    have HV : Hid (V = vals l) := hV
    rw [← hV]
    have hvl : V.length = n := by rw [hV, vals_len, HN.out]
    have hv1 : ∀ v ∈ V, v.oneCell' = true := by
      rw [hV]
      intro v hv
      obtain ⟨z, _, rfl⟩ := List.mem_map.1 hv
      rfl
    have HP : Hid (∀ j v, V[j]? = some v → (w.alloc (Obj.cells C 5)).cell? (ad.add j) = some v) := by
      intro j v hj
      have h0 := (List.getElem?_eq_some_iff.1 hj).1
      obtain ⟨b, o, e, hc⟩ := h (by rw [← HN.out]; omega)
      injection e with e
      subst e
      have hj' : j < l.length := by
        have := (List.getElem?_eq_some_iff.1 hj).1
        rw [hvl, HN.out] at this
        exact this
      rw [hV, vals_get l j hj'] at hj
      have hcell := hc j hj'
      rw [← Option.some.inj hj]
      have h2 := (((Below.refl w.heap.size w).alloc (Nat.le_refl _) (Obj.cells C 5)).cell (p := ⟨b, o + j, none⟩) (World.block_lt_of_cell? w _ hcell)).trans hcell
      by_cases hj0 : j = 0
      · subst hj0
        simpa [Addr.add] using h2
      · simpa [Addr.add, hj0] using h2
    have HB : Hid (Below w.heap.size w (w.alloc (Obj.cells C 5))) := (Below.refl w.heap.size w).alloc (Nat.le_refl _) (Obj.cells C 5)
    have Hsz : Hid ((Try.prog.info? 5).map (·.size) = some 1) := by
      show _ = _
      kernel_rfl
    have Hnn : Hid (V.length = Nat.min n n) := by
      show _ = _
      rw [hvl]; exact (Nat.min_self n).symm
    have Hfit : Hid (0 + V.length ≤ C.toList.length) := by
      show _ ≤ _
      omega
    have Hv1 : Hid (∀ v ∈ V, v.oneCell' = true) := hv1
    clear h hV hv1
    go_enter Try.func6, Try.ntmps6
    go_wp2_with (refine wpList_copy_splice rfl (.tmp 9) (.tmp 10) 22 22 rfl 5 Try.underlying22 Hsz.out (some ⟨w.heap.size, 0, none⟩) (some ad) n n n cap rfl rfl w.heap.size 0 C.toList 5 HW.out V Hnn.out (fun _ => ⟨rfl, ad, rfl, HP.out⟩) Hfit.out Hv1.out w.heap.size w HB.out (Nat.le_refl _) ?_; intro w2 HR hb2)
    go_wp2_with fail
    go_ret
    have hsp : splice C.toList 0 V = V := by
      unfold splice
      rw [List.drop_of_length_le (by omega)]
      simp
    have hR := HR.out
    rw [hsp] at hR
    refine ⟨_, rfl, ⟨by omega, .inr ⟨w.heap.size, n, V.toArray, rfl, Nat.le_refl _, hR, Nat.le_refl _, by unfold maxLen; omega, by simp [hvl], ?_⟩⟩, hb2⟩
    rw [← hvl, Nat.mul_one]
    simp

theorem own_row {w : World} {B : Nat} {v : Value} {n : Nat} {l : List Int} (h : w.ownsRow B 5 1 v n (vals l)) :
    ∃ a cap, v = .slice a n cap ∧ n = l.length ∧ RowAt w a l ∧ (a = none → l = [] ∧ cap = 0) ∧ n ≤ cap ∧ cap ≤ maxLen ∧ (∀ x, a = some x → ∃ b, x = ⟨b, 0, none⟩ ∧ B ≤ b ∧ b < w.heap.size) := by
  have hn : n = l.length := by
    have := h.1
    rw [vals_len] at this
    omega
  rcases h.2 with ⟨rfl, rfl⟩ | ⟨g, cap, cur, rfl, hB, hg, hc, hm, hs, ht⟩
  · have hl : l = [] := List.eq_nil_of_length_eq_zero hn.symm
    subst hl
    exact ⟨none, 0, rfl, rfl, fun h0 => absurd h0 (by simp), fun _ => ⟨rfl, rfl⟩, Nat.le_refl _, Nat.zero_le _, fun x hx => by cases hx⟩
  · refine ⟨_, cap, rfl, hn, fun h0 => ⟨g, 0, rfl, fun i hi => ?_⟩, (fun h0 => by cases h0), hc, hm, fun x hx => ?_⟩
    · have h1 := World.ownsRow.cellAt h i (by omega)
      rw [vals_get l i hi] at h1
      simpa using h1
    · injection hx with hx
      exact ⟨g, hx.symm, hB, lt_of_block hg⟩

theorem RowAt.below {w w' : World} {a : Option Addr} {l : List Int} (h : RowAt w a l) (hb : Below w.heap.size w w') : RowAt w' a l := fun h0 => by
  obtain ⟨b, o, rfl, hc⟩ := h h0
  exact ⟨b, o, rfl, fun i hi => (hb.cell (p := ⟨b, o + i, none⟩) (World.block_lt_of_cell? w _ (hc i hi))).trans (hc i hi)⟩

/-- The first k of a row. -/
theorem RowAt.take {w : World} {a : Option Addr} {l : List Int} (h : RowAt w a l) (k : Nat) : RowAt w a (l.take k) := fun h0 => by
  have h1 : 0 < l.length := by simp at h0; omega
  obtain ⟨b, o, rfl, hc⟩ := h h1
  refine ⟨b, o, rfl, fun i hi => ?_⟩
  have hi2 : i < k ∧ i < l.length := by simpa [Nat.lt_min] using hi
  rw [hc i hi2.2]
  simp [List.getD_eq_getElem?_getD, hi2.1]

set_option maxRecDepth 100000 in
set_option maxHeartbeats 1000000 in
theorem eq_any (a : Option Addr) (c : Nat) (l : List Int) (a' : Option Addr) (c' : Nat) (w : World) (h : RowAt w a l) (h' : RowAt w a' l) (hl : l.length ≤ 9000000) :
    Calls Try.prog 8 #[.slice a l.length c, .slice a' l.length c'] w fun e w' => e = .returned (.bool true) ∧ ∃ q, w' = w.drewN q := by
  go_enter Try.func8, Try.ntmps8
  go_wp2_with fail
  go_loopw [5] (fun i wr => ∃ k q : Nat, k ≤ l.length ∧ i = .int .i64 k ∧ wr = w.drewN q) (fun i _ => l.length - (intOf i).toNat)
  case atStart => exact ⟨0, 0, Nat.zero_le _, rfl, rfl⟩
  case round =>
    obtain ⟨k, q, hk, rfl, rfl⟩ := hrel
    by_cases hlt : k < l.length
    · obtain ⟨b, o, rfl, hc⟩ := h (by omega)
      obtain ⟨b', o', rfl, hc'⟩ := h' (by omega)
      have h1 := hc k hlt
      have h2 := hc' k hlt
      obtain ⟨x, hx⟩ : ∃ x, l.getD k 0 = x := ⟨_, rfl⟩
      rw [hx] at h1 h2
      clear hx hc hc' h h'
      have g1 : (k : Int) < (l.length : Int) := by omega
      have g3 : (0 : Int) ≤ (k : Int) := by omega
      go_wp2_with fail
      go_quiet (fail)
      go_wp2
      go_roundw
      case rel => exact ⟨k + 1, _, by omega, by go_num, rfl⟩
      case measure => simp [intOf]; omega
    · clear h h'
      go_wp2
      go_ret
      exact ⟨rfl, q, rfl⟩
end Go.Proofs.Qxb6630601a
