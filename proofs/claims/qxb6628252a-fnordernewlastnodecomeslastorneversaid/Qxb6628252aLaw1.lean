import Derived.Test.Qxb6628252aScan
namespace Go.Proofs.Qxb6628252a
open Go.RowKit

/-- The plain graph of a list of lists of numbers. -/
def gr (R : List (List Int)) : List (List Nat) := R.map fun l => l.map Int.toNat
theorem gr_len (R : List (List Int)) : (gr R).length = R.length := by simp [gr]
theorem gr_getD (R : List (List Int)) (r : Nat) : (gr R).getD r [] = (R.getD r []).map Int.toNat := by
  simp only [gr, List.getD_eq_getElem?_getD, List.getElem?_map]
  cases R[r]? <;> simp
theorem gr_row_len (R : List (List Int)) (r : Nat) : ((gr R).getD r []).length = (R.getD r []).length := by rw [gr_getD]; simp

theorem nats_of_ints {w : World} {A : Option Addr} {l : List Int} {hi : Int} (h : IntsAt w A l) (hr : InR hi l) : NatsAt w A (l.map Int.toNat) := by
  intro h0
  obtain ⟨b, o, e, hc⟩ := h (by simpa using h0)
  refine ⟨b, o, e, fun c hcl => ?_⟩
  have hcl' : c < l.length := by simpa using hcl
  have h1 := hc c hcl'
  have h2 := (hr c hcl').1
  rw [h1]
  have e3 : l.getD c 0 = l[c] := by simp [List.getD_eq_getElem?_getD, hcl']
  rw [e3] at h2 ⊢
  simp only [List.getElem_map, Option.some.injEq, Value.int.injEq, true_and]
  omega
theorem gr_at {w : World} {ao : Option Addr} {R : List (List Int)} {hi : Int} (h : MatAt w ao R) (hr : ∀ r, r < R.length → InR hi (R.getD r [])) : GrAt w ao (gr R) := by
  intro h0
  rw [gr_len] at h0
  obtain ⟨b, o, e, hc⟩ := h h0
  refine ⟨b, o, e, fun r hrl => ?_⟩
  rw [gr_len] at hrl
  obtain ⟨A, C, h1, h2⟩ := hc r hrl
  refine ⟨A, C, by rw [gr_row_len]; exact h1, by rw [gr_getD]; exact nats_of_ints h2 (hr r hrl)⟩
theorem gr_ok {R : List (List Int)} (hr : ∀ r, r < R.length → InR R.length (R.getD r [])) : Gp.Ok (gr R) := by
  intro i hi p hp
  rw [gr_len] at hi ⊢
  rw [gr_getD, List.mem_map] at hp
  obtain ⟨x, hx, rfl⟩ := hp
  obtain ⟨c, hc, e⟩ := List.getElem_of_mem hx
  have := hr i hi c hc
  have e3 : ∀ l : List Int, ∀ h : c < l.length, l.getD c 0 = l[c] := fun l h => by simp [List.getD_eq_getElem?_getD, h]
  rw [e3 _ hc, e] at this
  omega

theorem own_cell {w : World} {base g n cap : Nat} {l : List Nat} (h : w.ownsRow base 3 1 (.slice (some ⟨g, 0, none⟩) n cap) n (nv l)) (c : Nat) (hc : c < l.length) : w.cell? ⟨g, c, none⟩ = some (.int .i64 (l.getD c 0 : Nat)) := by
  have hl : l.length = n := by simpa [nv] using h.1
  rw [h.cellAt c (by omega)]
  simp [nv, List.getD_eq_getElem?_getD, hc]

set_option maxRecDepth 100000 in
set_option maxHeartbeats 4000000 in
theorem law1 (ao : Option Addr) (cap : Nat) (R : List (List Int)) (w : World) (hM : MatAt w ao R) (hml : R.length ≤ maxLen) (hrl : ∀ r, (R.getD r []).length ≤ maxLen) :
    Calls Try.prog 3 #[.slice ao R.length cap] w fun e w' => e = .returned (.bool true) ∧ Below w.heap.size w w' := by
  have hml' := hml
  unfold maxLen at hml'
  go_enter Try.func3, Try.ntmps3
  go_wp2_with fail
  refine (bytes1_any ao cap R w hM hml hrl).mono ?_
  rintro e w1 ⟨b, rfl, hb1, rfl⟩
  cases b with
  | false =>
    go_wp2_with fail
    go_ret
    exact ⟨rfl, Below.refl _ _⟩
  | true =>
    have hrow := hb1 rfl
    have Hrow : Hid (∀ r, r < R.length → (R.getD r []).length ≤ 1048576) := hrow
    clear hrow hb1
    by_cases h1 : 1024 < R.length
    · go_wp2_with fail
      go_ret
      exact ⟨rfl, Below.refl _ _⟩
    · go_wp2_with fail
      go_loop [3, 4] (fun s i => ∃ k : Nat, k ≤ R.length ∧ i = .int .i64 k ∧ s = .int .i64 ((R.length + Gp.tot ((gr R).take k) : Nat) : Int) ∧ Gp.tot ((gr R).take k) ≤ 131072) (fun _ i => R.length - (intOf i).toNat)
      case atStart => exact ⟨0, Nat.zero_le _, rfl, by simp [Gp.tot], by simp [Gp.tot]⟩
      case round =>
        obtain ⟨k, hk, rfl, rfl, ht⟩ := hrel
        by_cases hlt : k < R.length
        · obtain ⟨bb, o, rfl, A, C, hc, _⟩ := hM.row hlt
          have hsucc := Gp.tot_take_succ (gr R) k (by rw [gr_len]; exact hlt)
          rw [gr_row_len] at hsucc
          have hl := Hrow.out k hlt
          obtain ⟨m, hm⟩ : ∃ m, (R.getD k []).length = m := ⟨_, rfl⟩
          rw [hm] at hc hl hsucc
          obtain ⟨t, hte⟩ : ∃ t, Gp.tot ((gr R).take k) = t := ⟨_, rfl⟩
          rw [hte] at hsucc ht
          have Hs : Hid (Gp.tot ((gr R).take (k + 1)) = t + m) := hsucc
          clear hsucc hm
          simp only [hte]
          clear hte
          by_cases h2 : 131072 < R.length + t + m
          · have h2' : (131072 : Int) < ((R.length + t : Nat) : Int) + (m : Int) := by omega
            go_wp2_with fail
            go_ret
            exact ⟨rfl, Below.refl _ _⟩
          · have h2' : ¬ (131072 : Int) < ((R.length + t : Nat) : Int) + (m : Int) := by omega
            go_wp2_with fail
            go_round
            case rel => exact ⟨k + 1, by omega, by go_num, by rw [Hs.out]; go_num, by rw [Hs.out]; omega⟩
            case measure => simp [intOf]; omega
        · have hkR : k = R.length := by omega
          have htot : Gp.tot (gr R) ≤ 131072 := by
            rw [List.take_of_length_le (by rw [gr_len]; omega)] at ht; exact ht
          clear ht
          go_wp2_with fail
          refine (below_any ao cap R R.length _ hM hml hrl).mono ?_
          rintro e w2 ⟨b, rfl, hb2, rfl⟩
          cases b with
          | false =>
            go_wp2_with fail
            go_ret
            exact ⟨rfl, Below.refl _ _⟩
          | true =>
            have hin := hb2 rfl
            have hG := gr_at hM hin
            have hok := gr_ok hin
            clear hin hb2 hM Hrow
            go_wp2_with fail
            have hO := order_any ao cap (gr R) _ hG hok (by rw [gr_len]; omega) (by omega)
            rw [gr_len] at hO
            refine hO.mono ?_
            clear hO
            rintro e w3 ⟨bq, rfl, hown3, hb3⟩
            go_wp2_with fail
            have hO := scan_any ao cap (gr R) _ (hG.below hb3) hok (by rw [gr_len]; omega) (by omega)
            rw [gr_len] at hO
            refine hO.mono ?_
            clear hO
            rintro e w4 ⟨bq4, rfl, hown4, hb4⟩
            have hcell3 := own_cell hown3
            have hcell4 := own_cell hown4
            have hc3 : ∀ c, c < (Gp.order (gr R)).length → w4.cell? ⟨bq, c, none⟩ = some (.int .i64 ((Gp.order (gr R)).getD c 0 : Nat)) := fun c hc => cell_later hb4 (hcell3 c hc)
            have hol := (Gp.order_run (gr R)).1.len
            rw [gr_len] at hol
            clear hcell3 hown3 hown4
            have hb5 := hb3.trans (hb4.mono hb3.size)
            go_wp2_with fail
            refine (same_any bq bq4 _ _ (Gp.order (gr R)) w4 (by omega) hc3 hcell4).mono ?_
            rintro e w5 ⟨rfl, q, rfl⟩
            go_wp2_with fail
            go_ret
            exact ⟨rfl, below_drewN hb5 q⟩
end Go.Proofs.Qxb6628252a
