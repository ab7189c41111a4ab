/-
  What lies in memory while a schedule is made and worked off: the world's facts as one structure, and what each store does to it. By an AI agent.
-/
import Derived.Test.Qxb6628252aHeapOps
import Derived.Test.Qxb6628252aOrderPlain
import Derived.Deep.OwnRows
namespace Go.Proofs.Qxb6628252a
open Go.RowKit

/-- A list of ints lies behind a slice's address. -/
def IntsAt (w : World) (ao : Option Addr) (l : List Int) : Prop :=
  0 < l.length → ∃ b o, ao = some ⟨b, o, none⟩ ∧ ∀ c, c < l.length → w.cell? ⟨b, o + c, none⟩ = some (.int .i64 (l.getD c 0))
/-- A list of lists of ints lies behind a slice's address. -/
def MatAt (w : World) (ao : Option Addr) (R : List (List Int)) : Prop :=
  0 < R.length → ∃ b o, ao = some ⟨b, o, none⟩ ∧ ∀ r, r < R.length → ∃ A C, w.cell? ⟨b, o + r, none⟩ = some (.slice A (R.getD r []).length C) ∧ IntsAt w A (R.getD r [])

theorem IntsAt.below {w w' : World} {ao : Option Addr} {l : List Int} (h : IntsAt w ao l) (hb : Below w.heap.size w w') : IntsAt w' ao l := by
  intro h0
  obtain ⟨b, o, rfl, hc⟩ := h h0
  exact ⟨b, o, rfl, fun c hcl => by rw [hb.cell (p := ⟨b, o + c, none⟩) (World.block_lt_of_cell? w _ (hc c hcl))]; exact hc c hcl⟩
theorem MatAt.below {w w' : World} {ao : Option Addr} {R : List (List Int)} (h : MatAt w ao R) (hb : Below w.heap.size w w') : MatAt w' ao R := by
  intro h0
  obtain ⟨b, o, rfl, hc⟩ := h h0
  refine ⟨b, o, rfl, fun r hr => ?_⟩
  obtain ⟨A, C, h1, h2⟩ := hc r hr
  exact ⟨A, C, by rw [hb.cell (p := ⟨b, o + r, none⟩) (World.block_lt_of_cell? w _ h1)]; exact h1, h2.below hb⟩

/-- The list's numbers as values. -/
abbrev nv (l : List Nat) : List Value := l.map fun k : Nat => Value.int .i64 (k : Int)

structure Sch (w : World) (base bs bw ba n : Nat) (wt : Nat → Int) (af : Nat → List Nat) (V : Nat → Value) (v : Value) (zs : List Int) : Prop where
  sb : w.heap[bs]? = some (.cells #[.slice (some ⟨bw, 0, none⟩) n n, .slice (some ⟨ba, 0, none⟩) n n, v] 38 (0, 0))
  wts : w.rowIs bw 3 n (fun k => .int .i64 (wt k))
  afs : w.rowIs ba 24 n V
  rows : ∀ j, j < n → w.ownsRow base 3 1 (V j) (af j).length (nv (af j))
  rd : w.ownsRow base 3 1 v zs.length (zs.map (Value.int .i64))
  bbs : base ≤ bs
  bbw : base ≤ bw
  bba : base ≤ ba
  vw : v.ownBlock ≠ some bw
  Vw : ∀ j, j < n → (V j).ownBlock ≠ some bw
  Vv : ∀ j, j < n → (V j).ownBlock = none ∨ (V j).ownBlock ≠ v.ownBlock
  VV : ∀ i j, i < n → j < n → i ≠ j → (V i).ownBlock = none ∨ (V i).ownBlock ≠ (V j).ownBlock

theorem own_ne_tag {w : World} {base : Nat} {e t : TypeId} {size : Nat} {v : Value} {n : Nat} {xs : List Value} {b : Nat} {cs : Array Value} {fr : Nat × Nat} (h : w.ownsRow base e size v n xs)
    (hb : w.heap[b]? = some (.cells cs t fr)) (hne : e ≠ t) : v.ownBlock ≠ some b := by
  intro he
  rcases h.2 with ⟨rfl, _⟩ | ⟨g, cap, cur, rfl, _, hg, _⟩
  · simp [Value.ownBlock] at he
  · simp [Value.ownBlock] at he
    subst he
    rw [hg] at hb
    simp at hb
    exact hne hb.2.1
theorem own_lt {w : World} {base : Nat} {e : TypeId} {size : Nat} {v : Value} {n : Nat} {xs : List Value} (h : w.ownsRow base e size v n xs) {k : Nat} (hk : v.ownBlock = some k) : k < w.heap.size := (h.lt k hk).2
/-- An owned row whose block is as it was is owned still. -/
theorem own_of_block {w w' : World} {base : Nat} {e : TypeId} {size : Nat} {v : Value} {n : Nat} {xs : List Value} (h : w.ownsRow base e size v n xs)
    (hb : ∀ k, v.ownBlock = some k → w'.heap[k]? = w.heap[k]?) : w'.ownsRow base e size v n xs := by
  refine ⟨h.1, ?_⟩
  rcases h.2 with hn | ⟨g, cap, cur, rfl, hbb, hgg, rest⟩
  · exact .inl hn
  · exact .inr ⟨g, cap, cur, rfl, hbb, (hb g rfl).trans hgg, rest⟩

variable {w w' w1 : World} {base bs bw ba n : Nat} {wt : Nat → Int} {af : Nat → List Nat} {V : Nat → Value} {v : Value} {zs : List Int}

theorem Sch.sw (h : Sch w base bs bw ba n wt af V v zs) : bs ≠ bw := by
  rintro rfl
  obtain ⟨c, hb, _⟩ := h.wts
  rw [h.sb] at hb
  simp at hb
theorem Sch.sa (h : Sch w base bs bw ba n wt af V v zs) : bs ≠ ba := by
  rintro rfl
  obtain ⟨c, hb, _⟩ := h.afs
  rw [h.sb] at hb
  simp at hb
theorem Sch.wa (h : Sch w base bs bw ba n wt af V v zs) : bw ≠ ba := by
  rintro rfl
  obtain ⟨c, hb, _⟩ := h.wts
  obtain ⟨c', hb', _⟩ := h.afs
  rw [hb] at hb'
  simp at hb'
theorem Sch.vs (h : Sch w base bs bw ba n wt af V v zs) : v.ownBlock ≠ some bs := own_ne_tag h.rd h.sb (by decide)
theorem Sch.va (h : Sch w base bs bw ba n wt af V v zs) : v.ownBlock ≠ some ba := by
  obtain ⟨c, hb, _⟩ := h.afs
  exact own_ne_tag h.rd hb (by decide)
theorem Sch.Vs (h : Sch w base bs bw ba n wt af V v zs) {j : Nat} (hj : j < n) : (V j).ownBlock ≠ some bs := own_ne_tag (h.rows j hj) h.sb (by decide)
theorem Sch.Va (h : Sch w base bs bw ba n wt af V v zs) {j : Nat} (hj : j < n) : (V j).ownBlock ≠ some ba := by
  obtain ⟨c, hb, _⟩ := h.afs
  exact own_ne_tag (h.rows j hj) hb (by decide)
theorem Sch.bss (h : Sch w base bs bw ba n wt af V v zs) : bs < w.heap.size := lt_of_block h.sb
theorem Sch.base_le (h : Sch w base bs bw ba n wt af V v zs) : base ≤ w.heap.size := by have := h.bss; have := h.bbs; omega
theorem Sch.c0 (h : Sch w base bs bw ba n wt af V v zs) : w.cell? ⟨bs, 0, none⟩ = some (.slice (some ⟨bw, 0, none⟩) n n) := by rw [cell_of_row w bs 0 _ _ _ h.sb]; rfl
theorem Sch.c1 (h : Sch w base bs bw ba n wt af V v zs) : w.cell? ⟨bs, 1, none⟩ = some (.slice (some ⟨ba, 0, none⟩) n n) := by rw [cell_of_row w bs 1 _ _ _ h.sb]; rfl
theorem Sch.c2 (h : Sch w base bs bw ba n wt af V v zs) : w.cell? ⟨bs, 2, none⟩ = some v := by rw [cell_of_row w bs 2 _ _ _ h.sb]; rfl

/-- All that lies there lies in another world too, if its blocks are as they were. -/
theorem Sch.of_blocks (h : Sch w base bs bw ba n wt af V v zs) (hb : ∀ k, base ≤ k → k < w.heap.size → w'.heap[k]? = w.heap[k]?) : Sch w' base bs bw ba n wt af V v zs := by
  refine ⟨(hb bs h.bbs h.bss).trans h.sb, h.wts.of_block (hb bw h.bbw h.wts.lt), h.afs.of_block (hb ba h.bba h.afs.lt), fun j hj => ?_, ?_, h.bbs, h.bbw, h.bba, h.vw, h.Vw, h.Vv, h.VV⟩
  · exact own_of_block (h.rows j hj) fun k hk => hb k ((h.rows j hj).lt k hk).1 ((h.rows j hj).lt k hk).2
  · exact own_of_block h.rd fun k hk => hb k (h.rd.lt k hk).1 (h.rd.lt k hk).2
theorem Sch.drewN (h : Sch w base bs bw ba n wt af V v zs) (q : Nat) : Sch (w.drewN q) base bs bw ba n wt af V v zs := h.of_blocks fun _ _ _ => rfl
theorem Sch.alloc (h : Sch w base bs bw ba n wt af V v zs) (o : Obj) : Sch (w.alloc o) base bs bw ba n wt af V v zs := h.of_blocks fun _ _ hk => heap_alloc_old w o hk

/-- Behind a push or a pop of the heap. -/
theorem Sch.moved (h : Sch w base bs bw ba n wt af V v zs) {g m cap : Nat} {zs' : List Int} (hf : Fr w w' bs v.ownBlock)
    (hA : HAt w' bs (.slice (some ⟨bw, 0, none⟩) n n) (.slice (some ⟨ba, 0, none⟩) n n) base g m cap zs') (hat : v.ownBlock = some g ∨ w.heap.size ≤ g) :
    Sch w' base bs bw ba n wt af V (.slice (some ⟨g, 0, none⟩) m cap) zs' := by
  have hl := hA.len
  have hlw := h.wts.lt
  refine ⟨hA.hS, h.wts.of_block (hf.block bw h.wts.lt h.sw.symm (Ne.symm h.vw)), h.afs.of_block (hf.block ba h.afs.lt h.sa.symm (Ne.symm h.va)), fun j hj => ?_, by rw [hl]; exact hA.own, h.bbs, h.bbw, h.bba, ?_, h.Vw, fun j hj => ?_, h.VV⟩
  · refine own_of_block (h.rows j hj) fun k hk => hf.block k (own_lt (h.rows j hj) hk) ?_ ?_
    · rintro rfl; exact h.Vs hj hk
    · intro e
      rcases h.Vv j hj with r | r
      · rw [r] at hk; cases hk
      · exact r (hk.trans e)
  · intro e
    simp [Value.ownBlock] at e
    subst e
    rcases hat with r | r
    · exact h.vw r
    · omega
  · rcases h.Vv j hj with r | r
    · exact .inl r
    · right
      intro e
      simp only [Value.ownBlock] at e
      rcases hat with q | q
      · exact r (e.trans q.symm)
      · have := own_lt (h.rows j hj) e
        omega

/-- One count has been changed. -/
theorem Sch.counted (h : Sch w base bs bw ba n wt af V v zs) (k : Nat) (x : Int) : Sch (w.setCell ⟨bw, k, none⟩ (.int .i64 x)) base bs bw ba n (fun i => if i = k then x else wt i) af V v zs := by
  have hb : ∀ i, i ≠ bw → (w.setCell ⟨bw, k, none⟩ (.int .i64 x)).heap[i]? = w.heap[i]? := fun i hi => heap_setCell_other w _ _ _ hi
  refine ⟨(hb bs h.sw).trans h.sb, (h.wts.set k _).congr fun i _ => ?_, h.afs.of_block (hb ba h.wa.symm), fun j hj => ?_, ?_, h.bbs, h.bbw, h.bba, h.vw, h.Vw, h.Vv, h.VV⟩
  · split <;> rfl
  · exact own_of_block (h.rows j hj) fun i hi => hb i (by rintro rfl; exact h.Vw j hj hi)
  · exact own_of_block h.rd fun i hi => hb i (by rintro rfl; exact h.vw hi)

/-- One more entry behind after[j]: the append has been made, the new header stored. -/
theorem Sch.told (h : Sch w base bs bw ba n wt af V v zs) {o : Obj} {j x g m cap : Nat} (hj : j < n) (hm : m = (af j).length + 1)
    (hown : w1.ownsRow base 3 1 (.slice (some ⟨g, 0, none⟩) m cap) m (nv (af j ++ [x]))) (hg : (w.alloc o).drew.grownBy w1 (V j).ownBlock) (hat : (V j).ownBlock = some g ∨ g = w.heap.size + 1) :
    Sch (w1.setCell ⟨ba, j, none⟩ (.slice (some ⟨g, 0, none⟩) m cap)) base bs bw ba n wt (fun i => if i = j then af j ++ [x] else af i) (fun i => if i = j then .slice (some ⟨g, 0, none⟩) m cap else V i) v zs := by
  have hga : ∀ k, k < w.heap.size → some k ≠ (V j).ownBlock → w1.heap[k]? = w.heap[k]? := fun k hk hne => by
    rw [hg.block k (by show k < (w.alloc o).heap.size; simp; omega) hne]
    show (w.alloc o).heap[k]? = _
    exact heap_alloc_old w o hk
  have hb : ∀ k, k < w.heap.size → k ≠ ba → some k ≠ (V j).ownBlock → (w1.setCell ⟨ba, j, none⟩ (.slice (some ⟨g, 0, none⟩) m cap)).heap[k]? = w.heap[k]? := fun k hk h1 h2 =>
    (heap_setCell_other w1 _ _ _ h1).trans (hga k hk h2)
  have hgba : g ≠ ba := by
    rintro rfl
    rcases hat with r | r
    · exact h.Va hj r
    · have := h.afs.lt; omega
  have hgbw : g ≠ bw := by
    rintro rfl
    rcases hat with r | r
    · exact h.Vw j hj r
    · have := h.wts.lt; omega
  have hgi : ∀ u : Value, ∀ len xs, w.ownsRow base 3 1 u len xs → (u.ownBlock = none ∨ u.ownBlock ≠ (V j).ownBlock) → u.ownBlock ≠ some g := by
    intro u len xs hu hne e
    rcases hat with r | r
    · rcases hne with q | q
      · rw [q] at e; cases e
      · exact q (e.trans r.symm)
    · have := own_lt hu e; omega
  have hkeep : ∀ u : Value, ∀ len xs, w.ownsRow base 3 1 u len xs → (u.ownBlock = none ∨ u.ownBlock ≠ (V j).ownBlock) → u.ownBlock ≠ some ba → (w1.setCell ⟨ba, j, none⟩ (.slice (some ⟨g, 0, none⟩) m cap)).ownsRow base 3 1 u len xs := by
    intro u len xs hu hne hua
    refine own_of_block hu fun k hk => hb k (own_lt hu hk) (by rintro rfl; exact hua hk) ?_
    intro e
    rcases hne with q | q
    · rw [q] at hk; cases hk
    · exact q (hk.trans e)
  have hvj : v.ownBlock = none ∨ v.ownBlock ≠ (V j).ownBlock := by
    cases hv : v.ownBlock with
    | none => exact .inl rfl
    | some k =>
      right
      rcases h.Vv j hj with r | r
      · rw [r]; simp
      · rw [hv] at r; exact fun e => r e.symm
  refine ⟨?_, ?_, ?_, fun i hi => ?_, ?_, h.bbs, h.bbw, h.bba, h.vw, fun i hi => ?_, fun i hi => ?_, fun i k hi hk hik => ?_⟩
  · exact (hb bs h.bss h.sa (Ne.symm (h.Vs hj))).trans h.sb
  · exact h.wts.of_block (hb bw h.wts.lt h.wa (Ne.symm (h.Vw j hj)))
  · exact ((h.afs.of_block (hga ba h.afs.lt (Ne.symm (h.Va hj)))).set j _).congr fun i _ => rfl
  · by_cases e : i = j
    · subst e
      simp only [if_true]
      have hl : (af i ++ [x]).length = m := by simp; omega
      rw [hl]
      exact own_of_block hown fun k hk => heap_setCell_other w1 _ _ _ (by simp [Value.ownBlock] at hk; subst hk; exact hgba)
    · simp only [if_neg e]
      exact hkeep _ _ _ (h.rows i hi) (h.VV i j hi hj e) (h.Va hi)
  · exact hkeep _ _ _ h.rd hvj h.va
  · by_cases e : i = j
    · subst e; simp [Value.ownBlock, hgbw]
    · simp only [if_neg e]; exact h.Vw i hi
  · by_cases e : i = j
    · subst e
      simp only [if_true]
      right
      intro e2
      exact hgi v _ _ h.rd hvj e2.symm
    · simp only [if_neg e]; exact h.Vv i hi
  · by_cases e : i = j
    · subst e
      simp only [if_true, if_neg (Ne.symm hik)]
      right
      intro e2
      exact hgi (V k) _ _ (h.rows k hk) (h.VV k i hk hj (Ne.symm hik)) e2.symm
    · by_cases e3 : k = j
      · subst e3
        simp only [if_true, if_neg e]
        right
        exact hgi (V i) _ _ (h.rows i hi) (h.VV i k hi hj e)
      · simp only [if_neg e, if_neg e3]
        exact h.VV i k hi hk hik

theorem Sch.congr (h : Sch w base bs bw ba n wt af V v zs) {wt' : Nat → Int} {af' : Nat → List Nat} (e1 : ∀ k, k < n → wt k = wt' k) (e2 : ∀ j, j < n → af j = af' j) : Sch w base bs bw ba n wt' af' V v zs :=
  ⟨h.sb, h.wts.congr fun i hi => by rw [e1 i hi], h.afs, fun j hj => by rw [← e2 j hj]; exact h.rows j hj, h.rd, h.bbs, h.bbw, h.bba, h.vw, h.Vw, h.Vv, h.VV⟩

theorem Fr.below {row : Option Nat} {B : Nat} (h : Fr w w' bs row) (h1 : B ≤ bs) (h2 : ∀ k, row = some k → B ≤ k) (h3 : B ≤ w.heap.size) : Below B w w' :=
  ⟨h.os, h.tape, h.output, h.size, fun k hk => h.block k (by omega) (by omega) (fun e => by have := h2 k e.symm; omega)⟩

/-- Numbers that are permuted are natural still. -/
theorem nat_perm {zs : List Int} {L : List Nat} (h : zs.Perm (L.map fun k : Nat => (k : Int))) : ∃ L' : List Nat, zs = L'.map (fun k : Nat => (k : Int)) ∧ L'.Perm L := by
  refine ⟨zs.map Int.toNat, ?_, ?_⟩
  · rw [List.map_map]
    have : ∀ x ∈ zs, (fun x : Int => x) x = ((fun k : Nat => (k : Int)) ∘ Int.toNat) x := by
      intro x hx
      have := h.mem_iff.1 hx
      rw [List.mem_map] at this
      obtain ⟨k, _, rfl⟩ := this
      simp
    conv => lhs; rw [← List.map_id' zs]
    exact List.map_congr_left this
  · have h2 := h.map Int.toNat
    rw [List.map_map] at h2
    have e : L.map (Int.toNat ∘ fun k : Nat => (k : Int)) = L := by
      conv => rhs; rw [← List.map_id' L]
      exact List.map_congr_left fun x _ => by simp
    rw [e] at h2
    exact h2

end Go.Proofs.Qxb6628252a
