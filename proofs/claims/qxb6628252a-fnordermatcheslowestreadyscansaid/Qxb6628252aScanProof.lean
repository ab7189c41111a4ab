/-
  'Rows.FnOrderMatchesLowestReadyScanSaid', proved. The frame after the guide's own shell for slices of integers, turned to a slice of slices. By an AI agent.
-/
import Derived.Test.Qxb6628252aLaw1
import Derived.ProofKit
import Derived.OpenShut
import Derived.ShutString
import Derived.ChangeOld
import Derived.Deep.Matrix
namespace Go.Proofs.Qxb6628252a
open Go.ChangeShapes Go.WideShapes Go.ChangeAt Go.RowKit Go.Deep

theorem Try.own : ownKnob Try.prog.godebug = none := by kernel_rfl
theorem Try.laidOut : laidOutB Try.prog = true := by kernel_rfl
theorem Try.cells24 : Try.prog.cellsOf 24 = 1 := by kernel_rfl
theorem Try.cells3 : Try.prog.cellsOf 3 = 1 := by kernel_rfl

/-- A plain address: where a cell lies. -/
theorem addr_plain {w : World} {a : Addr} {v : Value} (h : w.cell? (a.add 0) = some v) : ∃ b o, a = ⟨b, o, none⟩ := by
  obtain ⟨b, o, spot⟩ := a
  have : spot = none := by simpa [Addr.add] using World.cell?_spot h
  subst this
  exact ⟨b, o, rfl⟩

theorem ints_of {w : World} {A : Option Addr} {L C : Nat} {Z : List Int} (hL : L ≤ C) (hZ : Z.length = C) (hN : A = none → C = 0)
    (hc : ∀ a', A = some a' → 0 ≤ a'.block ∧ ∀ c, c < C → w.cell? (a'.add c) = some (.int .i64 (Z.getD c 0))) : IntsAt w A (Z.take L) := by
  intro h0
  have hl : (Z.take L).length = L := by simp; omega
  rw [hl] at h0
  cases A with
  | none => have := hN rfl; omega
  | some a =>
    have h1 := (hc a rfl).2
    obtain ⟨b, o, rfl⟩ := addr_plain (h1 0 (by omega))
    refine ⟨b, o, rfl, fun c hcl => ?_⟩
    rw [hl] at hcl
    have h2 := h1 c (by omega)
    rw [add_plain] at h2
    rw [h2]
    simp [List.getD_eq_getElem?_getD, hcl]

theorem mat_of {H : Type} {enc : TypeId × Value → H} {w : World} {fuel : Nat} {ao : Option Addr} {len cap : Nat} {x : DataW H × List MemPlace}
    (hf : DataW.trod enc Try.prog w 0 (fun _ => true) true fuel 22 (Value.slice ao len cap).cells.toList = some x) : ∃ R : List (List Int), R.length = len ∧ MatAt w ao R ∧ len ≤ maxLen ∧ ∀ r, (R.getD r []).length ≤ maxLen := by
  rcases open_int_rows Try.underlying22 Try.underlying24 Try.underlying3 Try.cells24 Try.cells3 hf with ⟨hcs, _⟩ | ⟨a, l, c, A, L, C, Z, hcs, _, hl, hm, _, hrow⟩
  · simp [Value.cells] at hcs
    obtain ⟨rfl, rfl, rfl⟩ := hcs
    exact ⟨[], rfl, fun h => absurd h (by simp), Nat.zero_le _, fun r => by simp⟩
  · simp [Value.cells] at hcs
    obtain ⟨rfl, rfl, rfl⟩ := hcs
    have hget : ∀ r, r < len → ((List.range len).map fun r => (Z r).take (L r)).getD r [] = (Z r).take (L r) := fun r hr => by
      simp [List.getD_eq_getElem?_getD, List.getElem?_map, List.getElem?_range hr]
    refine ⟨(List.range len).map fun r => (Z r).take (L r), by simp, ?_, by omega, fun r => ?_⟩
    · intro h0
      simp at h0
      obtain ⟨b, o, rfl⟩ := addr_plain (hrow 0 (by omega)).1
      refine ⟨b, o, rfl, fun r hr => ?_⟩
      simp at hr
      obtain ⟨h1, h2, h3, h4, h5, h6, h7⟩ := hrow r (by omega)
      rw [hget r hr]
      have hlen : ((Z r).take (L r)).length = L r := by simp; omega
      rw [hlen]
      rw [add_plain] at h1
      exact ⟨A r, C r, h1, ints_of h2 h4 h6 h7⟩
    · by_cases hr : r < len
      · rw [hget r hr]
        obtain ⟨h1, h2, h3, h4, h5, h6, h7⟩ := hrow r (by omega)
        simp
        omega
      · simp [List.getD_eq_getElem?_getD, List.getElem?_map, List.getElem?_eq_none (show (List.range len).length ≤ r by simp; omega)]

set_option maxRecDepth 100000 in
theorem scan_lifted (os : Os) (started : os.Started) (H : Type) (enc : TypeId × Value → H) :
    ReturnsInHanded {} Try.checked os 3 .any (Rows.fnOrderMatchesLowestReadyScanSpec.pre6 enc Try.prog Try.f3 Rows.fnOrderMatchesLowestReadyScanRow.domain false) (Rows.fnOrderMatchesLowestReadyScanSpec.post enc Try.prog Try.f3 false true false false) := by
  refine returnsInHanded_of_change (C := Try.checked) Try.own started (by kernel_rfl) Try.func3
    (ChangeSpec.witness6 (enc := enc) (C := Try.checked) false ⟨#[], #[.slice none 0 0], []⟩ 8 (by kernel_rfl) (by kernel_rfl) (by kernel_rfl) (by kernel_rfl)) ?_
  intro W base args ds gs before hval0 hW hcnd _
  have hval : ∀ (j : Nat) t v, Try.f3.params[j]? = some t → args[j]? = some v → Value.okWide Try.prog W .any base t v := hval0
  have hW' := hW
  obtain ⟨p, q, hA0, hV, rfl, hfz, hnd⟩ := hW
  have hA : DataW.TrodAll enc Try.prog W 0 (fun _ => true) true Try.f3.params.toList args.toList ds p := hA0
  rw [Try.params3] at hA hval
  obtain ⟨v0, vs0, d0, ds0, p0, q0, hargs, rfl, rfl, h0, r0⟩ := trodAll_cons hA
  obtain ⟨rfl, rfl, rfl⟩ := trodAll_nil r0
  obtain rfl : args = #[v0] := by cases args; simp_all
  obtain ⟨rfl, rfl⟩ := trodVars_none hV
  obtain ⟨a0, len0, cap0, rfl⟩ := okWide_slice Try.underlying22 (hval 0 22 v0 rfl rfl)
  have k0 := h0
  have lt0 : ∀ x ∈ p0, x.block < W.heap.size := by obtain ⟨m, hm⟩ := k0; exact DataW.trod_lt m _ _ _ hm
  obtain ⟨R, rfl, hM, hml, hrl⟩ : ∃ R : List (List Int), R.length = len0 ∧ MatAt W a0 R ∧ len0 ≤ maxLen ∧ ∀ r, (R.getD r []).length ≤ maxLen := by
    obtain ⟨fuel, hf⟩ := h0
    exact mat_of hf
  clear hA0 hval0
  refine (law1 a0 cap0 R W hM hml hrl).mono fun e W' ⟨he, bel⟩ => ?_
  subst he
  exact ⟨_, rfl, _, _, _, [], _, [], hW', trodAll_mk1 (shut_bool Try.underlying4 _), (trodAll_cons_mk (Below.trod Try.laidOut (by kernel_rfl) (of_decide_eq_true (by kernel_rfl)) k0 bel lt0) trodAll_mk0), rfl, bel.frame _, fun h => by cases h⟩

theorem scan_over : Rows.fnOrderMatchesLowestReadyScanRow.holds Try.pinned (OpenSpec.ofChange Rows.fnOrderMatchesLowestReadyScanSpec) :=
  OpenClaim.holds_of_wide 3 Try.f3 rfl rfl rfl rfl rfl rfl rfl ⟨rfl, rfl, rfl, rfl, rfl⟩ rfl rfl rfl rfl rfl (by kernel_rfl) Try.func3 (by kernel_rfl)
    (of_decide_eq_true (by kernel_rfl)) (by unfold Func.isWrapper; first | (rw [if_pos (by decide +kernel)]; kernel_rfl) | (rw [if_neg (by decide +kernel)]; exact ⟨rfl, rfl⟩))
    (fun os started H enc _ => scan_lifted os started H enc)

/-- THE STATEMENT. -/
theorem scan_proved : Rows.FnOrderMatchesLowestReadyScanSaid := scan_over
#print axioms scan_proved
end Go.Proofs.Qxb6628252a
