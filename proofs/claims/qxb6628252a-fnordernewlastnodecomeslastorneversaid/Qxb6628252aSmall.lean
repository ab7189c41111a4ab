import Derived.Test.Qxb6628252aOrder
namespace Go.Proofs.Qxb6628252a
open Go.RowKit

/-- Row r's header and its numbers. -/
theorem MatAt.row {w : World} {ao : Option Addr} {R : List (List Int)} (h : MatAt w ao R) {r : Nat} (hr : r < R.length) : ∃ b o, ao = some ⟨b, o, none⟩ ∧ ∃ A C, w.cell? ⟨b, o + r, none⟩ = some (.slice A (R.getD r []).length C) ∧ IntsAt w A (R.getD r []) := by
  obtain ⟨b, o, e, hc⟩ := h (by omega)
  exact ⟨b, o, e, hc r hr⟩

/-- A test: it answers; where it answers yes, p holds; memory is as it was. -/
def Says (p : Prop) (w : World) (e : Ending) (w' : World) : Prop := ∃ b, e = .returned (.bool b) ∧ (b = true → p) ∧ w' = w
theorem Says.no {p : Prop} {w w' : World} {e : Ending} (he : e = .returned (.bool false)) (hw : w' = w) : Says p w e w' := ⟨false, he, fun h => (by cases h), hw⟩
theorem Says.yes {p : Prop} {w w' : World} {e : Ending} (he : e = .returned (.bool true)) (h : p) (hw : w' = w) : Says p w e w' := ⟨true, he, fun _ => h, hw⟩

set_option maxRecDepth 100000 in
set_option maxHeartbeats 1000000 in
theorem bytes1_any (ao : Option Addr) (cap : Nat) (R : List (List Int)) (w : World) (hM : MatAt w ao R) (hml : R.length ≤ maxLen) (hrl : ∀ r, (R.getD r []).length ≤ maxLen) :
    Calls Try.prog 5 #[.slice ao R.length cap] w (Says (∀ r, r < R.length → (R.getD r []).length ≤ 1048576) w) := by
  unfold maxLen at hml hrl
  by_cases hbig : 1048576 < R.length
  · go_enter Try.func5, Try.ntmps5
    go_wp2
    go_ret
    exact Says.no rfl rfl
  · go_enter Try.func5, Try.ntmps5
    go_wp2_with fail
    go_loop [3, 4] (fun s i => ∃ (k : Nat) (t : Int), k ≤ R.length ∧ i = .int .i64 k ∧ s = .int .i64 t ∧ 0 ≤ t ∧ t ≤ 1048576 ∧ ∀ r, r < k → (R.getD r []).length ≤ 1048576) (fun _ i => R.length - (intOf i).toNat)
    case atStart => exact ⟨0, R.length, Nat.zero_le _, rfl, by simp, by omega, by omega, fun r hr => absurd hr (by omega)⟩
    case round =>
      obtain ⟨k, t, hk, rfl, rfl, ht0, ht1, hall⟩ := hrel
      by_cases hlt : k < R.length
      · obtain ⟨b, o, rfl, A, C, hc, _⟩ := hM.row hlt
        have hl := hrl k
        obtain ⟨m, hm⟩ : ∃ m, (R.getD k []).length = m := ⟨_, rfl⟩
        rw [hm] at hc hl
        have Hm : Hid ((R.getD k []).length = m) := hm
        have Hall : Hid (∀ r, r < k → (R.getD r []).length ≤ 1048576) := hall
        clear hm hall hrl
        by_cases h1 : 1048576 < m
        · go_wp2
          go_ret
          exact Says.no rfl rfl
        · by_cases h2 : 1048576 < t + m
          · go_wp2
            go_ret
            exact Says.no rfl rfl
          · go_wp2
            go_round
            case rel =>
              refine ⟨k + 1, t + m, by omega, by go_num, rfl, by omega, by omega, fun r hr => ?_⟩
              by_cases e : r = k
              · rw [e, Hm.out]; omega
              · exact Hall.out r (by omega)
            case measure => simp [intOf]; omega
      · have Hall : Hid (∀ r, r < k → (R.getD r []).length ≤ 1048576) := hall
        clear hall hrl
        go_wp2
        go_ret
        exact Says.yes rfl (fun r hr => Hall.out r (by omega)) rfl

set_option maxRecDepth 100000 in
set_option maxHeartbeats 1000000 in
theorem bytes2_any (ao : Option Addr) (cap : Nat) (R : List (List Int)) (po : Option Addr) (pl pc : Nat) (w : World) (hM : MatAt w ao R) (hml : R.length ≤ maxLen) (hrl : ∀ r, (R.getD r []).length ≤ maxLen) (hpl : pl ≤ maxLen) :
    Calls Try.prog 10 #[.slice ao R.length cap, .slice po pl pc] w (Says (∀ r, r < R.length → (R.getD r []).length ≤ 1048576) w) := by
  unfold maxLen at hml hrl hpl
  by_cases hbig : 1048576 < R.length
  · go_enter Try.func10, Try.ntmps10
    go_wp2
    go_ret
    exact Says.no rfl rfl
  · go_enter Try.func10, Try.ntmps10
    go_wp2_with fail
    go_loop [5, 6] (fun s i => ∃ (k : Nat) (t : Int), k ≤ R.length ∧ i = .int .i64 k ∧ s = .int .i64 t ∧ 0 ≤ t ∧ t ≤ 1048576 ∧ ∀ r, r < k → (R.getD r []).length ≤ 1048576) (fun _ i => R.length - (intOf i).toNat)
    case atStart => exact ⟨0, R.length, Nat.zero_le _, rfl, by simp, by omega, by omega, fun r hr => absurd hr (by omega)⟩
    case round =>
      obtain ⟨k, t, hk, rfl, rfl, ht0, ht1, hall⟩ := hrel
      by_cases hlt : k < R.length
      · obtain ⟨b, o, rfl, A, C, hc, _⟩ := hM.row hlt
        have hl := hrl k
        obtain ⟨m, hm⟩ : ∃ m, (R.getD k []).length = m := ⟨_, rfl⟩
        rw [hm] at hc hl
        have Hm : Hid ((R.getD k []).length = m) := hm
        have Hall : Hid (∀ r, r < k → (R.getD r []).length ≤ 1048576) := hall
        clear hm hall hrl
        by_cases h1 : 1048576 < m
        · go_wp2
          go_ret
          exact Says.no rfl rfl
        · by_cases h2 : 1048576 < t + m
          · go_wp2
            go_ret
            exact Says.no rfl rfl
          · go_wp2
            go_round
            case rel =>
              refine ⟨k + 1, t + m, by omega, by go_num, rfl, by omega, by omega, fun r hr => ?_⟩
              by_cases e : r = k
              · rw [e, Hm.out]; omega
              · exact Hall.out r (by omega)
            case measure => simp [intOf]; omega
      · have Hall : Hid (∀ r, r < k → (R.getD r []).length ≤ 1048576) := hall
        clear hall hrl
        by_cases h1 : 1048576 < pl
        · go_wp2
          go_ret
          exact Says.no rfl rfl
        · by_cases h2 : 1048576 < t + pl
          · go_wp2
            go_ret
            exact Says.no rfl rfl
          · go_wp2
            go_ret
            exact Says.yes rfl (fun r hr => Hall.out r (by omega)) rfl

/-- All numbers of a list lie in 0 .. hi-1. -/
def InR (hi : Int) (l : List Int) : Prop := ∀ c, c < l.length → 0 ≤ l.getD c 0 ∧ l.getD c 0 < hi

set_option maxRecDepth 100000 in
set_option maxHeartbeats 2000000 in
theorem below_any (ao : Option Addr) (cap : Nat) (R : List (List Int)) (hi : Int) (w : World) (hM : MatAt w ao R) (hml : R.length ≤ maxLen) (hrl : ∀ r, (R.getD r []).length ≤ maxLen) :
    Calls Try.prog 6 #[.slice ao R.length cap, .int .i64 hi] w (Says (∀ r, r < R.length → InR hi (R.getD r [])) w) := by
  unfold maxLen at hml hrl
  go_enter Try.func6, Try.ntmps6
  go_wp2_with fail
  go_loop [5] (fun i => ∃ k : Nat, k ≤ R.length ∧ i = .int .i64 k ∧ ∀ r, r < k → InR hi (R.getD r [])) (fun i => R.length - (intOf i).toNat)
  case atStart => exact ⟨0, Nat.zero_le _, rfl, fun r hr => absurd hr (by omega)⟩
  case round =>
    obtain ⟨k, hk, rfl, hall⟩ := hrel
    have Hall : Hid (∀ r, r < k → InR hi (R.getD r [])) := hall
    clear hall
    by_cases hlt : k < R.length
    · obtain ⟨b, o, rfl, A, C, hc, hI⟩ := hM.row hlt
      have hl := hrl k
      obtain ⟨l, hle⟩ : ∃ l, R.getD k [] = l := ⟨_, rfl⟩
      rw [hle] at hc hl hI
      have Hle : Hid (R.getD k [] = l) := hle
      clear hle hrl
      go_wp2_with fail
      go_loop [7] (fun i => ∃ t : Nat, t ≤ l.length ∧ i = .int .i64 t ∧ ∀ c, c < t → 0 ≤ l.getD c 0 ∧ l.getD c 0 < hi) (fun i => l.length - (intOf i).toNat)
      case atStart => exact ⟨0, Nat.zero_le _, rfl, fun r hr => absurd hr (by omega)⟩
      case round =>
        obtain ⟨t, ht, rfl, hin⟩ := hrel
        have Hin : Hid (∀ c, c < t → 0 ≤ l.getD c 0 ∧ l.getD c 0 < hi) := hin
        clear hin
        by_cases htl : t < l.length
        · obtain ⟨b', o', hA, hcs⟩ := hI (by omega)
          subst hA
          have hcell := hcs t htl
          obtain ⟨x, hx⟩ : ∃ x, l.getD t 0 = x := ⟨_, rfl⟩
          rw [hx] at hcell
          have Hx : Hid (l.getD t 0 = x) := hx
          clear hx hcs
          by_cases h1 : x < 0
          · go_wp2
            go_ret
            exact Says.no rfl rfl
          · have h1' : decide (x < 0) = false := decide_eq_false h1
            by_cases h2 : hi ≤ x
            · go_wp2
              go_ret
              exact Says.no rfl rfl
            · go_wp2
              go_round
              case rel =>
                refine ⟨t + 1, by omega, by go_num, fun c hc' => ?_⟩
                by_cases e : c = t
                · rw [e, Hx.out]; omega
                · exact Hin.out c (by omega)
              case measure => simp [intOf]; omega
        · go_wp2
          go_round
          case rel =>
            refine ⟨k + 1, by omega, by go_num, fun r hr => ?_⟩
            by_cases e : r = k
            · rw [e, Hle.out]; exact fun c hc' => Hin.out c (by omega)
            · exact Hall.out r (by omega)
          case measure => simp [intOf]; omega
    · clear hrl
      go_wp2
      go_ret
      exact Says.yes rfl (fun r hr => Hall.out r (by omega)) rfl

set_option maxRecDepth 100000 in
set_option maxHeartbeats 1000000 in
theorem same_any (ga gb ca cb : Nat) (l : List Nat) (w : World) (hl : l.length ≤ 100000000) (ha : ∀ c, c < l.length → w.cell? ⟨ga, c, none⟩ = some (.int .i64 (l.getD c 0 : Nat))) (hb : ∀ c, c < l.length → w.cell? ⟨gb, c, none⟩ = some (.int .i64 (l.getD c 0 : Nat))) :
    Calls Try.prog 9 #[.slice (some ⟨ga, 0, none⟩) l.length ca, .slice (some ⟨gb, 0, none⟩) l.length cb] w fun e w' => e = .returned (.bool true) ∧ ∃ q, w' = w.drewN q := by
  go_enter Try.func9, Try.ntmps9
  go_wp2_with fail
  go_loopw [5] (fun i wr => ∃ k q : Nat, k ≤ l.length ∧ i = .int .i64 k ∧ wr = w.drewN q) (fun i _ => l.length - (intOf i).toNat)
  case atStart => exact ⟨0, 0, Nat.zero_le _, rfl, rfl⟩
  case round =>
    obtain ⟨k, q, hk, rfl, rfl⟩ := hrel
    by_cases hlt : k < l.length
    · have h1 := ha k hlt
      have h2 := hb k hlt
      obtain ⟨x, hx⟩ : ∃ x, l.getD k 0 = x := ⟨_, rfl⟩
      rw [hx] at h1 h2
      clear hx ha hb
      have g1 : (k : Int) < (l.length : Int) := by omega
      have g3 : (0 : Int) ≤ (k : Int) := by omega
      go_wp2_with fail
      go_quiet (fail)
      go_wp2
      go_roundw
      case rel => exact ⟨k + 1, _, by omega, by go_num, rfl⟩
      case measure => simp [intOf]; omega
    · clear ha hb
      go_wp2
      go_ret
      exact ⟨rfl, q, rfl⟩
end Go.Proofs.Qxb6628252a
