/-
  Reading a slice of slices of ints that came in. By an AI agent.
-/
import Derived.Test.Qxb6628252aLaw1
import Derived.ProofKit
import Derived.OpenShut
import Derived.ShutString
import Derived.ChangeOld
import Derived.Deep.Matrix
namespace Go.Proofs.Qxb6628252a
open Go.ChangeShapes Go.WideShapes Go.ChangeAt Go.RowKit Go.Deep

theorem Try.own : ownKnob Try.prog.godebug = none := by kernel_rfl
theorem Try.laidOut : laidOutB Try.prog = true := by kernel_rfl
theorem Try.cells24 : Try.prog.cellsOf 24 = 1 := by kernel_rfl
theorem Try.cells3 : Try.prog.cellsOf 3 = 1 := by kernel_rfl

/-- A plain address: where a cell lies. -/
theorem addr_plain {w : World} {a : Addr} {v : Value} (h : w.cell? (a.add 0) = some v) : ∃ b o, a = ⟨b, o, none⟩ := by
  obtain ⟨b, o, spot⟩ := a
  have : spot = none := by simpa [Addr.add] using World.cell?_spot h
  subst this
  exact ⟨b, o, rfl⟩

theorem ints_of {w : World} {A : Option Addr} {L C : Nat} {Z : List Int} (hL : L ≤ C) (hZ : Z.length = C) (hN : A = none → C = 0)
    (hc : ∀ a', A = some a' → 0 ≤ a'.block ∧ ∀ c, c < C → w.cell? (a'.add c) = some (.int .i64 (Z.getD c 0))) : IntsAt w A (Z.take L) := by
  intro h0
  have hl : (Z.take L).length = L := by simp; omega
  rw [hl] at h0
  cases A with
  | none => have := hN rfl; omega
  | some a =>
    have h1 := (hc a rfl).2
    obtain ⟨b, o, rfl⟩ := addr_plain (h1 0 (by omega))
    refine ⟨b, o, rfl, fun c hcl => ?_⟩
    rw [hl] at hcl
    have h2 := h1 c (by omega)
    rw [add_plain] at h2
    rw [h2]
    simp [List.getD_eq_getElem?_getD, hcl]

theorem mat_of {H : Type} {enc : TypeId × Value → H} {w : World} {fuel : Nat} {ao : Option Addr} {len cap : Nat} {x : DataW H × List MemPlace}
    (hf : DataW.trod enc Try.prog w 0 (fun _ => true) true fuel 22 (Value.slice ao len cap).cells.toList = some x) : ∃ R : List (List Int), R.length = len ∧ MatAt w ao R ∧ len ≤ maxLen ∧ ∀ r, (R.getD r []).length ≤ maxLen := by
  rcases open_int_rows Try.underlying22 Try.underlying24 Try.underlying3 Try.cells24 Try.cells3 hf with ⟨hcs, _⟩ | ⟨a, l, c, A, L, C, Z, hcs, _, hl, hm, _, hrow⟩
  · simp [Value.cells] at hcs
    obtain ⟨rfl, rfl, rfl⟩ := hcs
    exact ⟨[], rfl, fun h => absurd h (by simp), Nat.zero_le _, fun r => by simp⟩
  · simp [Value.cells] at hcs
    obtain ⟨rfl, rfl, rfl⟩ := hcs
    have hget : ∀ r, r < len → ((List.range len).map fun r => (Z r).take (L r)).getD r [] = (Z r).take (L r) := fun r hr => by
      simp [List.getD_eq_getElem?_getD, List.getElem?_map, List.getElem?_range hr]
    refine ⟨(List.range len).map fun r => (Z r).take (L r), by simp, ?_, by omega, fun r => ?_⟩
    · intro h0
      simp at h0
      obtain ⟨b, o, rfl⟩ := addr_plain (hrow 0 (by omega)).1
      refine ⟨b, o, rfl, fun r hr => ?_⟩
      simp at hr
      obtain ⟨h1, h2, h3, h4, h5, h6, h7⟩ := hrow r (by omega)
      rw [hget r hr]
      have hlen : ((Z r).take (L r)).length = L r := by simp; omega
      rw [hlen]
      rw [add_plain] at h1
      exact ⟨A r, C r, h1, ints_of h2 h4 h6 h7⟩
    · by_cases hr : r < len
      · rw [hget r hr]
        obtain ⟨h1, h2, h3, h4, h5, h6, h7⟩ := hrow r (by omega)
        simp
        omega
      · simp [List.getD_eq_getElem?_getD, List.getElem?_map, List.getElem?_eq_none (show (List.range len).length ≤ r by simp; omega)]


theorem list_of {H : Type} {enc : TypeId × Value → H} {w : World} {fuel : Nat} {ao : Option Addr} {len cap : Nat} {x : DataW H × List MemPlace}
    (hf : DataW.trod enc Try.prog w 0 (fun _ => true) true fuel 24 (Value.slice ao len cap).cells.toList = some x) : ∃ l : List Int, l.length = len ∧ IntsAt w ao l ∧ len ≤ maxLen := by
  rcases open_ints Try.underlying24 Try.underlying3 Try.cells3 hf with ⟨hcs, _⟩ | ⟨a, l, c, zs, hcs, _, hl, hm, hz, _, hcell, hwz⟩
  · simp [Value.cells] at hcs
    obtain ⟨rfl, rfl, rfl⟩ := hcs
    exact ⟨[], rfl, fun h => absurd h (by simp), Nat.zero_le _⟩
  · simp [Value.cells] at hcs
    obtain ⟨rfl, rfl, rfl⟩ := hcs
    have hz' : zs.length = cap := by simpa using hz
    refine ⟨zs.take len, by simp; omega, ints_of hl hz' (fun h => by cases h) (fun a' ha => ?_), by omega⟩
    cases ha
    exact ⟨Nat.zero_le _, fun c hc => hcell c (by omega)⟩

end Go.Proofs.Qxb6628252a
