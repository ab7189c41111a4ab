/-
  Requirements in memory; the tests of length. By an AI agent.
-/
import Derived.Test.Qxb6630559aPieces
namespace Go.Proofs.Qxb6630559a
open Go.RowKit

/-- A slice's address leads to the requirements R. -/
def ReqAt (w : World) (a : Option Addr) (R : List Rq) : Prop :=
  0 < R.length → ∃ b o, a = some ⟨b, o, none⟩ ∧ ∀ i, i < R.length →
    w.cell? ⟨b, o + i * 3, none⟩ = some (.string (R.getD i Rq.zero).key) ∧ w.cell? ⟨b, o + i * 3 + 1, none⟩ = some (.int .i64 (R.getD i Rq.zero).op) ∧ w.cell? ⟨b, o + i * 3 + 2, none⟩ = some (.string (R.getD i Rq.zero).val)

def Says (p : Prop) (w : World) (e : Ending) (w' : World) : Prop := ∃ b, e = .returned (.bool b) ∧ (b = true → p) ∧ ∃ q, w' = w.drewN q
theorem Says.no {p : Prop} {w w' : World} {e : Ending} (he : e = .returned (.bool false)) (hw : ∃ q, w' = w.drewN q) : Says p w e w' := ⟨false, he, fun h => (by cases h), hw⟩
theorem Says.yes {p : Prop} {w w' : World} {e : Ending} (he : e = .returned (.bool true)) (h : p) (hw : ∃ q, w' = w.drewN q) : Says p w e w' := ⟨true, he, fun _ => h, hw⟩

set_option maxRecDepth 100000 in
set_option maxHeartbeats 1000000 in
theorem bytes1_any (a : Option Addr) (cap : Nat) (R : List Rq) (x : Int) (w : World) (h : ReqAt w a R) (hl : R.length ≤ maxLen) (hz : ∀ i, i < R.length → (R.getD i Rq.zero).key.size ≤ maxLen ∧ (R.getD i Rq.zero).val.size ≤ maxLen) :
    Calls Try.prog 5 #[.slice a R.length cap, .int .i64 x] w (Says True w) := by
  unfold maxLen at hl hz
  by_cases h1 : 1048576 < R.length
  · clear hz h
    go_enter Try.func5, Try.ntmps5
    go_wp2
    go_ret
    exact Says.no rfl ⟨0, rfl⟩
  · go_enter Try.func5, Try.ntmps5
    go_wp2_with fail
    go_loop [5, 6] (fun z i => ∃ (k : Nat) (n : Int), k ≤ R.length ∧ i = .int .i64 k ∧ z = .int .i64 n ∧ 0 ≤ n ∧ n ≤ 1048576) (fun _ i => R.length - (intOf i).toNat)
    case atStart => exact ⟨0, _, Nat.zero_le _, rfl, rfl, by omega, by omega⟩
    case round =>
      obtain ⟨k, n, hk, rfl, rfl, hn0, hn1⟩ := hrel
      by_cases hlt : k < R.length
      · obtain ⟨b, o, rfl, hc⟩ := h (by omega)
        obtain ⟨c0, c1, c2⟩ := hc k hlt
        obtain ⟨z0, z2⟩ := hz k hlt
        generalize R.getD k Rq.zero = r at c0 c1 c2 z0 z2
        obtain ⟨ky, op, vl⟩ := r
        simp only at c0 c1 c2 z0 z2
        clear hc hz h
        by_cases t0 : 1048576 < ky.size
        · go_wp2
          go_ret
          exact Says.no rfl ⟨0, rfl⟩
        by_cases t1 : 1048576 < n + (ky.size : Int)
        · go_wp2
          go_ret
          exact Says.no rfl ⟨0, rfl⟩
        by_cases t2 : 1048576 < vl.size
        · go_wp2
          go_ret
          exact Says.no rfl ⟨0, rfl⟩
        by_cases t3 : 1048576 < n + (ky.size : Int) + (vl.size : Int)
        · go_wp2
          go_ret
          exact Says.no rfl ⟨0, rfl⟩
        go_wp2
        go_round
        case rel => exact ⟨k + 1, _, by omega, by go_num, rfl, by omega, by omega⟩
        case measure => simp [intOf]; omega
      · clear hz h
        go_wp2
        go_ret
        exact Says.yes rfl trivial ⟨0, rfl⟩

def lens (R : List Rq) : Nat := (R.map fun r => r.key.size + r.val.size).sum
theorem lens_succ {R : List Rq} {k : Nat} (h : k < R.length) : lens (R.take (k + 1)) = lens (R.take k) + ((R.getD k Rq.zero).key.size + (R.getD k Rq.zero).val.size) := by
  unfold lens
  rw [List.take_succ_eq_append_getElem h, List.map_append, List.sum_append]
  simp [List.getD_eq_getElem?_getD, h]

set_option maxRecDepth 100000 in
set_option maxHeartbeats 1000000 in
theorem within_any (a : Option Addr) (cap : Nat) (R : List Rq) (x : Nat) (w : World) (h : ReqAt w a R) (hl : R.length ≤ maxLen) (hx : x ≤ 9000000) (hz : ∀ i, i < R.length → (R.getD i Rq.zero).key.size ≤ maxLen ∧ (R.getD i Rq.zero).val.size ≤ maxLen) :
    Calls Try.prog 6 #[.slice a R.length cap, .int .i64 (x : Int)] w (Says (40 * R.length + x + lens R ≤ 1048576) w) := by
  unfold maxLen at hl hz
  by_cases h1 : 65536 < R.length
  · clear hz h
    go_enter Try.func6, Try.ntmps6
    go_wp2
    go_ret
    exact Says.no rfl ⟨0, rfl⟩
  by_cases h2 : 1048576 < x
  · clear hz h
    go_enter Try.func6, Try.ntmps6
    go_wp2
    go_ret
    exact Says.no rfl ⟨0, rfl⟩
  have h2' : decide ((1048576 : Int) < (x : Int)) = false := decide_eq_false (by omega)
  by_cases h3 : 1048576 < 40 * (R.length : Int) + (x : Int)
  · clear hz h
    go_enter Try.func6, Try.ntmps6
    go_wp2
    go_ret
    exact Says.no rfl ⟨0, rfl⟩
  · go_enter Try.func6, Try.ntmps6
    go_wp2_with fail
    go_loopw [5, 6] (fun z i wr => ∃ (k q : Nat) (n : Int), k ≤ R.length ∧ i = .int .i64 k ∧ z = .int .i64 n ∧ 0 ≤ n ∧ n ≤ 1048576 ∧ n = 40 * (R.length : Int) + (x : Int) + (lens (R.take k) : Int) ∧ wr = w.drewN q) (fun _ i _ => R.length - (intOf i).toNat)
    case atStart => exact ⟨0, 0, _, Nat.zero_le _, rfl, rfl, by omega, by omega, by simp [lens], rfl⟩
    case round =>
      obtain ⟨k, q, n, hk, rfl, rfl, hn0, hn1, hn, rfl⟩ := hrel
      have HN : Hid (n = 40 * (R.length : Int) + (x : Int) + (lens (R.take k) : Int)) := hn
      clear hn
      by_cases hlt : k < R.length
      · obtain ⟨b, o, rfl, hc⟩ := h (by omega)
        obtain ⟨c0, c1, c2⟩ := hc k hlt
        obtain ⟨z0, z2⟩ := hz k hlt
        have HL := lens_succ hlt
        generalize R.getD k Rq.zero = r at c0 c1 c2 z0 z2 HL
        obtain ⟨ky, op, vl⟩ := r
        simp only at c0 c1 c2 z0 z2 HL
        have HL' : Hid (lens (R.take (k + 1)) = lens (R.take k) + (ky.size + vl.size)) := HL
        clear hc hz h HL
        have g1 : (k : Int) < (R.length : Int) := by omega
        have g3 : (0 : Int) ≤ (k : Int) := by omega
        by_cases t0 : 1048576 < ky.size
        · go_wp2
          go_ret
          exact Says.no rfl ⟨q, rfl⟩
        have t0' : decide ((1048576 : Int) < (ky.size : Int)) = false := decide_eq_false (by omega)
        by_cases t2 : 1048576 < vl.size
        · go_wp2
          go_ret
          exact Says.no rfl ⟨q, rfl⟩
        have f0 : (w.drewN q).cell? ⟨b, o + k * 3, none⟩ = some (.string ky) := c0
        have f2 : (w.drewN q).cell? ⟨b, o + k * 3 + 2, none⟩ = some (.string vl) := c2
        by_cases t3 : 1048576 < n + (ky.size : Int) + (vl.size : Int)
        · go_wp2_with fail
          go_quiet (fail)
          go_wp2
          go_ret
          exact Says.no rfl ⟨_, rfl⟩
        go_wp2_with fail
        go_quiet (fail)
        go_wp2
        go_roundw
        case rel => exact ⟨k + 1, _, _, by omega, by go_num, rfl, by omega, by omega, by have := HN.out; have := HL'.out; omega, rfl⟩
        case measure => simp [intOf]; omega
      · have hkk : k = R.length := by omega
        have HF : Hid (40 * R.length + x + lens R ≤ 1048576) := by
          have h4 := HN.out
          rw [List.take_of_length_le (by omega)] at h4
          show _ ≤ _
          omega
        clear hz h
        go_wp2
        go_ret
        exact Says.yes rfl HF.out ⟨q, rfl⟩
end Go.Proofs.Qxb6630559a
