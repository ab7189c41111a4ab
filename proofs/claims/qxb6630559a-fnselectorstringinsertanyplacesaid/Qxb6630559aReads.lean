/-
  An argument that is a slice of requirements, read. By an AI agent.
-/
import Derived.Test.Qxb6630559aPlain
import Derived.ProofKit
import Derived.OpenShut
import Derived.ShutString
import Derived.ChangeOld
import Derived.Deep.Slices
import Derived.Deep.Strs
namespace Go.Proofs.Qxb6630559a
open Go.ChangeShapes Go.WideShapes Go.ChangeAt Go.RowKit Go.Deep

theorem own : ownKnob Try.prog.godebug = none := by kernel_rfl
theorem laidOut : laidOutB Try.prog = true := by kernel_rfl
theorem cells30 : Try.prog.cellsOf 30 = 3 := by kernel_rfl
theorem cells9 : Try.prog.cellsOf 9 = 1 := by kernel_rfl
theorem cells3 : Try.prog.cellsOf 3 = 1 := by kernel_rfl

theorem addr_plain {w : World} {a : Addr} {v : Value} (h : w.cell? (a.add 0) = some v) : ∃ b o, a = ⟨b, o, none⟩ := by
  obtain ⟨b, o, spot⟩ := a
  have : spot = none := by simpa [Addr.add] using World.cell?_spot h
  subst this
  exact ⟨b, o, rfl⟩
theorem add_plain (b o i : Nat) : (⟨b, o, none⟩ : Addr).add i = ⟨b, o + i, none⟩ := by unfold Addr.add; split <;> simp_all

theorem reqs_of {H : Type} {enc : TypeId × Value → H} {W : World} {base : Nat} {sp : Nat → Bool} {held : Bool} {fuel : Nat} {a : Option Addr} {len cap : Nat} {x : DataW H × List MemPlace}
    (h : DataW.trod enc Try.prog W base sp held fuel 22 [.slice a len cap] = some x) :
    ∃ R : List Rq, R.length = len ∧ ReqAt W a R ∧ len ≤ maxLen ∧ ∀ i, i < R.length → (R.getD i Rq.zero).key.size ≤ maxLen ∧ (R.getD i Rq.zero).val.size ≤ maxLen := by
  rcases open_slice Try.underlying22 h with ⟨hcs, _⟩ | ⟨a', l', c', m, n, D, Pl, hcs, _, hl, hm, hmm, _, hel⟩
  · simp at hcs
    obtain ⟨rfl, rfl, rfl⟩ := hcs
    exact ⟨[], rfl, fun h0 => absurd h0 (by simp), Nat.zero_le _, fun i hi => absurd hi (by simp)⟩
  · simp at hcs
    obtain ⟨rfl, rfl, rfl⟩ := hcs
    have hlm : len ≤ m := by rw [hmm]; split <;> omega
    have each : ∀ i, ∃ r : Rq, i < len → (W.cell? (a'.add (i * 3)) = some (.string r.key) ∧ (∀ b o, a' = ⟨b, o, none⟩ → W.cell? ⟨b, o + i * 3, none⟩ = some (.string r.key) ∧ W.cell? ⟨b, o + i * 3 + 1, none⟩ = some (.int .i64 r.op) ∧ W.cell? ⟨b, o + i * 3 + 2, none⟩ = some (.string r.val)) ∧ r.key.size ≤ maxLen ∧ r.val.size ≤ maxLen) := by
      intro i
      by_cases hi : i < len
      · obtain ⟨cs', hc, hd⟩ := hel i (by omega)
        rw [cells30] at hc
        obtain ⟨_, hlen, hcell⟩ := World.cells?_some hc
        obtain ⟨y0, y1, y2, n', _, _, t0, t1, t2⟩ := trod_struct3 Try.underlying30 hd
        match cs', hlen with
        | [v0, v1, v2], _ =>
          obtain ⟨s0, e0, _, z0⟩ := DataW.trod_string Try.underlying9 (show DataW.trod enc Try.prog W base sp held n' 9 [v0] = some y0 by simpa [cells9] using t0)
          obtain ⟨k1, e1, _, _⟩ := DataW.trod_int Try.underlying3 (show DataW.trod enc Try.prog W base sp held n' 3 [v1] = some y1 by simpa [cells3] using t1)
          obtain ⟨s2, e2, _, z2⟩ := DataW.trod_string Try.underlying9 (show DataW.trod enc Try.prog W base sp held n' 9 [v2] = some y2 by simpa [cells9] using t2)
          simp at e0 e1 e2
          subst e0 e1 e2
          have c0 := hcell 0 (by omega)
          have c1 := hcell 1 (by omega)
          have c2 := hcell 2 (by omega)
          simp at c0 c1 c2
          have hz : (a'.add (i * 3)).add 0 = a'.add (i * 3) := by simp [Addr.add]
          refine ⟨⟨s0, k1, s2⟩, fun _ => ⟨by rw [← hz]; exact c0, ?_, z0, z2⟩⟩
          · rintro b o rfl
            rw [add_plain] at c0 c1 c2
            rw [add_plain] at c0 c1 c2
            exact ⟨c0, c1, c2⟩
      · exact ⟨Rq.zero, fun h => absurd h hi⟩
    obtain ⟨f, hf⟩ := Classical.axiomOfChoice each
    have hlen : ((List.range len).map f).length = len := by simp
    have hget : ∀ i, i < len → ((List.range len).map f).getD i Rq.zero = f i := fun i hi => by simp [List.getD_eq_getElem?_getD, hi]
    refine ⟨(List.range len).map f, hlen, fun h0 => ?_, by omega, fun i hi => ?_⟩
    · rw [hlen] at h0
      obtain ⟨b, o, e⟩ := addr_plain (show W.cell? (a'.add 0) = _ from (hf 0 h0).1)
      refine ⟨b, o, by rw [e], fun i hi => ?_⟩
      rw [hlen] at hi
      rw [hget i hi]
      exact (hf i hi).2.1 b o e
    · rw [hlen] at hi
      rw [hget i hi]
      exact (hf i hi).2.2
end Go.Proofs.Qxb6630559a
