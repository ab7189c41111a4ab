/-
  Plain mathematics of 'the lowest ready node first': no Go in sight. By an AI agent.
-/
namespace Go.Proofs.Qxb6628252a
namespace Gp

/-- Node i may be taken: it is not taken, and each of its predecessors is. -/
def rdy (B : List (List Nat)) (T : List Nat) (i : Nat) : Bool := !T.contains i && (B.getD i []).all fun p => T.contains p
/-- The lowest node that may be taken. -/
def pick (B : List (List Nat)) (T : List Nat) : Option Nat := (List.range B.length).find? (rdy B T)
/-- At most f picks behind T. -/
def ord (B : List (List Nat)) : Nat → List Nat → List Nat
  | 0, T => T
  | f + 1, T => match pick B T with
    | none => T
    | some i => ord B f (T ++ [i])
def order (B : List (List Nat)) : List Nat := ord B B.length []

theorem rdy_iff (B : List (List Nat)) (T : List Nat) (i : Nat) : rdy B T i = true ↔ i ∉ T ∧ ∀ p ∈ B.getD i [], p ∈ T := by
  simp [rdy, List.all_eq_true]

theorem pick_some {B : List (List Nat)} {T : List Nat} {i : Nat} : pick B T = some i ↔ i < B.length ∧ rdy B T i = true ∧ ∀ j, j < i → rdy B T j = false := by
  unfold pick
  rw [List.find?_range_eq_some]
  simp only [List.mem_range, Bool.not_eq_true']
  constructor
  · rintro ⟨a, b, c⟩; exact ⟨b, a, c⟩
  · rintro ⟨a, b, c⟩; exact ⟨b, a, c⟩

theorem pick_none {B : List (List Nat)} {T : List Nat} : pick B T = none ↔ ∀ i, i < B.length → rdy B T i = false := by
  unfold pick
  rw [List.find?_eq_none]
  simp [List.mem_range]

/-- A run of picks: T is nodup, below n, and the picks behind it come to the order. -/
structure Run (B : List (List Nat)) (T : List Nat) : Prop where
  nodup : T.Nodup
  lt : ∀ i ∈ T, i < B.length
  len : T.length ≤ B.length
  closed : ∀ k ∈ T, ∀ p ∈ B.getD k [], p ∈ T
  goal : ord B (B.length - T.length) T = order B

theorem length_le_of_nodup_lt : ∀ (n : Nat) (T : List Nat), T.Nodup → (∀ i ∈ T, i < n) → T.length ≤ n
  | 0, T, _, h => by
    cases T with
    | nil => simp
    | cons a l => exact absurd (h a (by simp)) (by omega)
  | n + 1, T, hn, h => by
    have h1 : (T.erase n).Nodup := hn.erase n
    have h2 : ∀ i ∈ T.erase n, i < n := by
      intro i hi
      have h3 := h i (List.mem_of_mem_erase hi)
      have h4 : i ≠ n := (hn.mem_erase_iff.1 hi).1
      omega
    have h5 := length_le_of_nodup_lt n _ h1 h2
    have h6 : T.length - 1 ≤ (T.erase n).length := by
      rw [List.length_erase]; split <;> omega
    omega

theorem mem_of_full (n : Nat) (T : List Nat) (hn : T.Nodup) (h : ∀ i ∈ T, i < n) (hl : T.length = n) : ∀ i, i < n → i ∈ T := by
  intro i hi
  by_cases hm : i ∈ T
  · exact hm
  · have h1 : (i :: T).Nodup := List.nodup_cons.2 ⟨hm, hn⟩
    have h2 := length_le_of_nodup_lt n (i :: T) h1 (by
      intro j hj
      rcases List.mem_cons.1 hj with rfl | hj
      · exact hi
      · exact h j hj)
    simp at h2
    omega

theorem Run.start (B : List (List Nat)) : Run B [] := ⟨List.nodup_nil, by simp, by simp, by simp, rfl⟩

theorem Run.room {B : List (List Nat)} {T : List Nat} (h : Run B T) {i : Nat} (hp : pick B T = some i) : T.length < B.length := by
  by_cases hl : T.length = B.length
  · have := mem_of_full B.length T h.nodup h.lt hl i (pick_some.1 hp).1
    have h2 := ((rdy_iff B T i).1 (pick_some.1 hp).2.1).1
    exact absurd this h2
  · have := h.len; omega

theorem Run.step {B : List (List Nat)} {T : List Nat} (h : Run B T) {i : Nat} (hp : pick B T = some i) : Run B (T ++ [i]) := by
  have hr := h.room hp
  have hp' := pick_some.1 hp
  have hni := ((rdy_iff B T i).1 hp'.2.1).1
  refine ⟨?_, ?_, ?_, ?_, ?_⟩
  · rw [List.nodup_append]
    refine ⟨h.nodup, by simp, ?_⟩
    intro a ha b hb e
    simp at hb
    subst hb; subst e
    exact hni ha
  · intro j hj
    rcases List.mem_append.1 hj with hj | hj
    · exact h.lt j hj
    · simp at hj; subst hj; exact hp'.1
  · simp; omega
  · intro k hk p hpk
    rcases List.mem_append.1 hk with hk | hk
    · exact List.mem_append.2 (.inl (h.closed k hk p hpk))
    · simp at hk; subst hk
      exact List.mem_append.2 (.inl (((rdy_iff B T k).1 hp'.2.1).2 p hpk))
  · have hg := h.goal
    obtain ⟨f, hf⟩ : ∃ f, B.length - T.length = f + 1 := ⟨B.length - T.length - 1, by omega⟩
    rw [hf, ord, hp] at hg
    have e : B.length - (T ++ [i]).length = f := by simp; omega
    rw [e]
    exact hg

theorem Run.done {B : List (List Nat)} {T : List Nat} (h : Run B T) (hp : pick B T = none) : order B = T := by
  have hg := h.goal
  cases hf : B.length - T.length with
  | zero => rw [hf] at hg; exact hg.symm
  | succ f => rw [hf, ord, hp] at hg; exact hg.symm

theorem Run.full {B : List (List Nat)} {T : List Nat} (h : Run B T) (hl : T.length = B.length) : order B = T := by
  refine h.done ?_
  rw [pick_none]
  intro i hi
  have := mem_of_full B.length T h.nodup h.lt hl i hi
  cases hr : rdy B T i with
  | false => rfl
  | true => exact absurd this ((rdy_iff B T i).1 hr).1

/-- The order itself is a run at whose end nothing may be taken. -/
theorem run_end (B : List (List Nat)) : ∀ f T, Run B T → B.length - T.length = f → Run B (order B) ∧ pick B (order B) = none
  | 0, T, h, hf => by
    have hl : T.length = B.length := by have := h.len; omega
    have e := h.full hl
    rw [e]
    refine ⟨h, ?_⟩
    cases hp : pick B T with
    | none => rfl
    | some i => have := h.room hp; omega
  | f + 1, T, h, hf => by
    cases hp : pick B T with
    | none => rw [h.done hp]; exact ⟨h, hp⟩
    | some i =>
      have := h.room hp
      exact run_end B f (T ++ [i]) (h.step hp) (by simp; omega)

theorem order_run (B : List (List Nat)) : Run B (order B) ∧ pick B (order B) = none := run_end B _ [] (Run.start B) rfl

/-- Every node without predecessors is in the order. -/
theorem order_free (B : List (List Nat)) (i : Nat) (hi : i < B.length) (h : B.getD i [] = []) : i ∈ order B := by
  have h1 := pick_none.1 (order_run B).2 i hi
  by_cases hm : i ∈ order B
  · exact hm
  · have : rdy B (order B) i = true := (rdy_iff _ _ _).2 ⟨hm, by rw [h]; simp⟩
    rw [this] at h1
    cases h1

/-- All predecessors are nodes. -/
def Ok (B : List (List Nat)) : Prop := ∀ i, i < B.length → ∀ p ∈ B.getD i [], p < B.length

theorem getD_snoc_lt (B : List (List Nat)) (ps : List Nat) (i : Nat) (hi : i < B.length) : (B ++ [ps]).getD i [] = B.getD i [] := by
  simp [List.getD_eq_getElem?_getD, List.getElem?_append_left hi]
theorem getD_snoc_eq (B : List (List Nat)) (ps : List Nat) : (B ++ [ps]).getD B.length [] = ps := by
  simp [List.getD_eq_getElem?_getD]

theorem rdy_snoc (B : List (List Nat)) (ps T : List Nat) (i : Nat) (hi : i < B.length) : rdy (B ++ [ps]) T i = rdy B T i := by
  unfold rdy
  rw [getD_snoc_lt B ps i hi]

theorem pick_snoc_some {B : List (List Nat)} {ps T : List Nat} {i : Nat} (h : pick B T = some i) : pick (B ++ [ps]) T = some i := by
  obtain ⟨a, b, c⟩ := pick_some.1 h
  refine pick_some.2 ⟨by simp; omega, by rw [rdy_snoc B ps T i a]; exact b, ?_⟩
  intro j hj
  rw [rdy_snoc B ps T j (by omega)]
  exact c j hj

/-- As long as the old graph picks, the longer one picks the same. -/
theorem run_snoc (B : List (List Nat)) (ps : List Nat) : ∀ f T, Run B T → Run (B ++ [ps]) T → B.length - T.length = f → Run (B ++ [ps]) (order B)
  | 0, T, h, h', hf => by
    have hl : T.length = B.length := by have := h.len; omega
    rw [h.full hl]; exact h'
  | f + 1, T, h, h', hf => by
    cases hp : pick B T with
    | none => rw [h.done hp]; exact h'
    | some i =>
      have := h.room hp
      exact run_snoc B ps f (T ++ [i]) (h.step hp) (h'.step (pick_snoc_some hp)) (by simp; omega)

/-- A new last node comes last: if all its predecessors are in the order. -/
theorem order_snoc_ready (B : List (List Nat)) (ps : List Nat) (hok : Ok B) (h : ∀ p ∈ ps, p ∈ order B) : order (B ++ [ps]) = order B ++ [B.length] := by
  have hr := run_snoc B ps _ [] (Run.start B) (Run.start _) rfl
  obtain ⟨hrB, hpB⟩ := order_run B
  have hn : B.length ∉ order B := fun hm => by have := hrB.lt _ hm; omega
  have hp : pick (B ++ [ps]) (order B) = some B.length := by
    refine pick_some.2 ⟨by simp, (rdy_iff _ _ _).2 ⟨hn, by rw [getD_snoc_eq]; exact h⟩, ?_⟩
    intro j hj
    rw [rdy_snoc B ps _ j hj]
    exact pick_none.1 hpB j hj
  have hr2 := hr.step hp
  refine hr2.done ?_
  rw [pick_none]
  intro i hi
  simp at hi
  cases hrd : rdy (B ++ [ps]) (order B ++ [B.length]) i with
  | false => rfl
  | true =>
    obtain ⟨h1, h2⟩ := (rdy_iff _ _ _).1 hrd
    by_cases e : i = B.length
    · subst e; simp at h1
    · have hi' : i < B.length := by omega
      have h3 := pick_none.1 hpB i hi'
      have h4 : rdy B (order B) i = true := by
        refine (rdy_iff _ _ _).2 ⟨fun hm => h1 (by simp [hm]), ?_⟩
        intro p hp'
        rw [getD_snoc_lt B ps i hi'] at h2
        have h5 := h2 p hp'
        rcases List.mem_append.1 h5 with h5 | h5
        · exact h5
        · simp at h5
          have := hok i hi' p hp'
          omega
      rw [h4] at h3
      cases h3

/-- .. or never: if one of them is not. -/
theorem order_snoc_never (B : List (List Nat)) (ps : List Nat) (p : Nat) (hp : p ∈ ps) (h : p ∉ order B) : order (B ++ [ps]) = order B := by
  have hr := run_snoc B ps _ [] (Run.start B) (Run.start _) rfl
  obtain ⟨hrB, hpB⟩ := order_run B
  refine hr.done ?_
  rw [pick_none]
  intro i hi
  simp at hi
  by_cases e : i = B.length
  · subst e
    cases hrd : rdy (B ++ [ps]) (order B) B.length with
    | false => rfl
    | true =>
      have h2 := ((rdy_iff _ _ _).1 hrd).2
      rw [getD_snoc_eq] at h2
      exact absurd (h2 p hp) h
  · rw [rdy_snoc B ps _ i (by omega)]
    exact pick_none.1 hpB i (by omega)

/-! ### The counts: how many predecessors are not taken; who waits for whom -/
def wait (B : List (List Nat)) (T : List Nat) (k : Nat) : Nat := (B.getD k []).countP fun p => !T.contains p
/-- The first i rows' entries for j. -/
def aftTo (B : List (List Nat)) (i j : Nat) : List Nat := (List.range i).flatMap fun k => List.replicate ((B.getD k []).count j) k
def aft (B : List (List Nat)) (j : Nat) : List Nat := aftTo B B.length j

theorem aftTo_succ (B : List (List Nat)) (i j : Nat) : aftTo B (i + 1) j = aftTo B i j ++ List.replicate ((B.getD i []).count j) i := by
  simp [aftTo, List.range_succ, List.flatMap_append]

theorem mem_aftTo {B : List (List Nat)} {i j k : Nat} (h : k ∈ aftTo B i j) : k < i ∧ j ∈ B.getD k [] := by
  unfold aftTo at h
  rw [List.mem_flatMap] at h
  obtain ⟨a, ha, hk⟩ := h
  rw [List.mem_replicate] at hk
  obtain ⟨h1, rfl⟩ := hk
  exact ⟨List.mem_range.1 ha, List.count_pos_iff.1 (by omega)⟩

theorem count_aftTo (B : List (List Nat)) (j k : Nat) : ∀ i, (aftTo B i j).count k = if k < i then (B.getD k []).count j else 0
  | 0 => by simp [aftTo]
  | i + 1 => by
    rw [aftTo_succ, List.count_append, count_aftTo B j k i, List.count_replicate]
    by_cases h : i = k
    · subst h; simp
    · by_cases h2 : k < i
      · have h3 : k < i + 1 := by omega
        simp [h, h2, h3]
      · have h3 : ¬ k < i + 1 := by omega
        simp [h, h2, h3]

theorem count_aft (B : List (List Nat)) (j k : Nat) (hk : k < B.length) : (aft B j).count k = (B.getD k []).count j := by
  unfold aft
  rw [count_aftTo, if_pos hk]

theorem countP_split (j : Nat) (T : List Nat) (hj : j ∉ T) : ∀ l : List Nat, (l.countP fun p => !T.contains p) = (l.countP fun p => !(T ++ [j]).contains p) + l.count j
  | [] => by simp
  | a :: l => by
    have ih := countP_split j T hj l
    simp only [List.countP_cons, List.count_cons]
    by_cases h : a = j
    · subst h
      simp [hj] at *
      omega
    · by_cases h2 : a ∈ T
      · simp [h, h2] at *; omega
      · simp [h, h2] at *; omega

theorem wait_step (B : List (List Nat)) (T : List Nat) (j k : Nat) (hj : j ∉ T) (hk : k < B.length) : wait B T k = wait B (T ++ [j]) k + (aft B j).count k := by
  rw [count_aft B j k hk]
  exact countP_split j T hj _

theorem wait_zero {B : List (List Nat)} {T : List Nat} {k : Nat} : wait B T k = 0 ↔ ∀ p ∈ B.getD k [], p ∈ T := by
  unfold wait
  rw [List.countP_eq_zero]
  simp

theorem wait_nil (B : List (List Nat)) (k : Nat) : wait B [] k = (B.getD k []).length := by
  unfold wait
  rw [List.countP_eq_length]
  simp

/-! ### 'Done(j)': t of the nodes that wait for j have been told -/
/-- R: the ready list (a permutation matters not: members and nodup). -/
structure Ready (B : List (List Nat)) (T : List Nat) (R : List Nat) : Prop where
  nodup : R.Nodup
  mem : ∀ k, k ∈ R ↔ k < B.length ∧ rdy B T k = true

structure Told (B : List (List Nat)) (T : List Nat) (j t : Nat) (R : List Nat) : Prop where
  nodup : R.Nodup
  mem : ∀ k, k ∈ R ↔ k < B.length ∧ k ∉ T ++ [j] ∧ wait B T k = ((aft B j).take t).count k

theorem told_start {B : List (List Nat)} {T : List Nat} {j : Nat} {R R' : List Nat} (h : Ready B T R) (hp : R.Perm (j :: R')) : Told B T j 0 R' := by
  have hn := hp.nodup_iff.1 h.nodup
  rw [List.nodup_cons] at hn
  refine ⟨hn.2, ?_⟩
  intro k
  have hm : k ∈ R ↔ k = j ∨ k ∈ R' := by rw [hp.mem_iff, List.mem_cons]
  have hk := h.mem k
  rw [rdy_iff, ← wait_zero] at hk
  simp only [List.take_zero, List.count_nil, List.mem_append, List.mem_singleton, not_or]
  constructor
  · intro hr
    have h1 := hk.1 (hm.2 (.inr hr))
    refine ⟨h1.1, ⟨h1.2.1, ?_⟩, h1.2.2⟩
    rintro rfl
    exact hn.1 hr
  · rintro ⟨h1, ⟨h2, h3⟩, h4⟩
    rcases hm.1 (hk.2 ⟨h1, h2, h4⟩) with h5 | h5
    · exact absurd h5 h3
    · exact h5

theorem count_take_le (B : List (List Nat)) (T : List Nat) (j k t : Nat) (hj : j ∉ T) (hk : k < B.length) : ((aft B j).take t).count k ≤ wait B T k := by
  have h1 := wait_step B T j k hj hk
  have h2 : ((aft B j).take t).count k ≤ (aft B j).count k := (List.take_sublist t (aft B j)).count_le k
  omega

theorem take_snoc {α : Type} (l : List α) (t : Nat) (h : t < l.length) : l.take (t + 1) = l.take t ++ [l[t]] := List.take_succ_eq_append_getElem h

/-- The t-th, k, has been told, and still waits. -/
theorem told_wait {B : List (List Nat)} {T : List Nat} {j t : Nat} {R : List Nat} (hj : j ∉ T) (h : Told B T j t R) (ht : t < (aft B j).length)
    (hw : wait B T (aft B j)[t] ≠ ((aft B j).take (t + 1)).count (aft B j)[t]) : Told B T j (t + 1) R := by
  refine ⟨h.nodup, ?_⟩
  intro k
  rw [h.mem k]
  by_cases e : k = (aft B j)[t]
  · subst e
    have hlt := (mem_aftTo (List.getElem_mem ht)).1
    have h1 := count_take_le B T j _ (t + 1) hj hlt
    rw [take_snoc _ _ ht, List.count_append] at *
    simp only [List.count_singleton, beq_self_eq_true, if_true] at *
    constructor
    · rintro ⟨_, _, h4⟩; omega
    · rintro ⟨_, _, h4⟩; omega
  · have e2 : ((aft B j).take (t + 1)).count k = ((aft B j).take t).count k := by
      rw [take_snoc _ _ ht, List.count_append]
      simp [Ne.symm e]
    rw [e2]

/-- The t-th, k, has been told, and waits no more: it joins the ready list (in whatever place). -/
theorem told_push {B : List (List Nat)} {T : List Nat} {j t : Nat} {R R' : List Nat} (h : Told B T j t R) (ht : t < (aft B j).length)
    (hok : (aft B j)[t] ∉ T ++ [j])
    (hw : wait B T (aft B j)[t] = ((aft B j).take (t + 1)).count (aft B j)[t]) (hp : R'.Perm (R ++ [(aft B j)[t]])) : Told B T j (t + 1) R' := by
  have hlt : (aft B j)[t] < B.length := (mem_aftTo (List.getElem_mem ht)).1
  have hnot : (aft B j)[t] ∉ R := by
    intro hm
    have h1 := ((h.mem _).1 hm).2.2
    rw [take_snoc _ _ ht, List.count_append] at hw
    simp at hw
    omega
  refine ⟨?_, ?_⟩
  · rw [hp.nodup_iff, List.nodup_append]
    refine ⟨h.nodup, by simp, ?_⟩
    intro a ha b hb e2
    simp at hb
    subst hb; subst e2
    exact hnot ha
  · intro k
    rw [hp.mem_iff, List.mem_append, h.mem k]
    by_cases e : k = (aft B j)[t]
    · subst e
      constructor
      · intro _; exact ⟨hlt, hok, hw⟩
      · intro _; exact .inr (by simp)
    · have e2 : ((aft B j).take (t + 1)).count k = ((aft B j).take t).count k := by
        rw [take_snoc _ _ ht, List.count_append]
        simp [Ne.symm e]
      rw [e2]
      simp [e]

/-- Whoever waits for j is not taken, nor j itself (nothing in a run waits for what is not taken). -/
theorem aft_not_taken {B : List (List Nat)} {T : List Nat} {j : Nat} (hj : j ∉ T) (hrj : rdy B T j = true) (hT : ∀ k ∈ T, ∀ p ∈ B.getD k [], p ∈ T) : ∀ k ∈ aft B j, k ∉ T ++ [j] := by
  intro k hk hm
  have h1 := (mem_aftTo hk).2
  rcases List.mem_append.1 hm with hm | hm
  · exact hj (hT k hm j h1)
  · simp at hm
    subst hm
    exact hj (((rdy_iff B T k).1 hrj).2 k h1)

theorem told_end {B : List (List Nat)} {T : List Nat} {j : Nat} {R : List Nat} (hj : j ∉ T) (h : Told B T j (aft B j).length R) : Ready B (T ++ [j]) R := by
  refine ⟨h.nodup, ?_⟩
  intro k
  rw [h.mem k, rdy_iff, ← wait_zero, List.take_length]
  constructor
  · rintro ⟨h1, h2, h3⟩
    have := wait_step B T j k hj h1
    exact ⟨h1, h2, by omega⟩
  · rintro ⟨h1, h2, h3⟩
    have := wait_step B T j k hj h1
    exact ⟨h1, h2, by omega⟩

theorem ready_pick {B : List (List Nat)} {T R : List Nat} {i : Nat} (h : Ready B T R) (hi : i ∈ R) (hmin : ∀ k ∈ R, i ≤ k) : pick B T = some i := by
  obtain ⟨h1, h2⟩ := (h.mem i).1 hi
  refine pick_some.2 ⟨h1, h2, ?_⟩
  intro k hk
  cases hr : rdy B T k with
  | false => rfl
  | true =>
    have := hmin k ((h.mem k).2 ⟨by omega, hr⟩)
    omega

theorem ready_none {B : List (List Nat)} {T : List Nat} (h : Ready B T []) : pick B T = none := by
  rw [pick_none]
  intro i hi
  cases hr : rdy B T i with
  | false => rfl
  | true => exact absurd ((h.mem i).2 ⟨hi, hr⟩) (by simp)

/-- The first i rows have been laid: the ready list holds those of them without predecessors. -/
structure Laid (B : List (List Nat)) (i : Nat) (R : List Nat) : Prop where
  nodup : R.Nodup
  mem : ∀ k, k ∈ R ↔ k < i ∧ B.getD k [] = []

theorem laid_start (B : List (List Nat)) : Laid B 0 [] := ⟨List.nodup_nil, by simp⟩
theorem laid_wait {B : List (List Nat)} {i : Nat} {R : List Nat} (h : Laid B i R) (hw : B.getD i [] ≠ []) : Laid B (i + 1) R := by
  refine ⟨h.nodup, fun k => ?_⟩
  rw [h.mem k]
  constructor
  · rintro ⟨a, b⟩; exact ⟨by omega, b⟩
  · rintro ⟨a, b⟩
    by_cases e : k = i
    · subst e; exact absurd b hw
    · exact ⟨by omega, b⟩
theorem laid_push {B : List (List Nat)} {i : Nat} {R R' : List Nat} (h : Laid B i R) (hw : B.getD i [] = []) (hp : R'.Perm (R ++ [i])) : Laid B (i + 1) R' := by
  refine ⟨?_, fun k => ?_⟩
  · rw [hp.nodup_iff, List.nodup_append]
    refine ⟨h.nodup, by simp, ?_⟩
    intro a ha b hb e
    simp at hb
    subst hb; subst e
    have := ((h.mem a).1 ha).1
    omega
  · rw [hp.mem_iff, List.mem_append, h.mem k]
    by_cases e : k = i
    · subst e; simp only [List.mem_singleton, or_true, true_iff]; exact ⟨by omega, hw⟩
    · simp only [List.mem_singleton, e, or_false]
      constructor
      · rintro ⟨a, b⟩; exact ⟨by omega, b⟩
      · rintro ⟨a, b⟩; exact ⟨by omega, b⟩
theorem laid_end {B : List (List Nat)} {R : List Nat} (h : Laid B B.length R) : Ready B [] R := by
  refine ⟨h.nodup, fun k => ?_⟩
  rw [h.mem k, rdy_iff]
  simp only [List.not_mem_nil, not_false_eq_true, true_and]
  constructor
  · rintro ⟨a, b⟩; exact ⟨a, by rw [b]; simp⟩
  · rintro ⟨a, b⟩
    refine ⟨a, ?_⟩
    cases hb : B.getD k [] with
    | nil => rfl
    | cons x l => exact absurd (b x (by rw [hb]; simp)) (by simp)

def tot (B : List (List Nat)) : Nat := (B.map List.length).sum

theorem tot_take_succ (B : List (List Nat)) (i : Nat) (hi : i < B.length) : tot (B.take (i + 1)) = tot (B.take i) + (B.getD i []).length := by
  unfold tot
  rw [List.take_succ_eq_append_getElem hi, List.map_append, List.sum_append]
  simp [List.getD_eq_getElem?_getD, List.getElem?_eq_getElem hi]
theorem tot_take_le (B : List (List Nat)) : ∀ d i, i + d = B.length → tot (B.take i) ≤ tot B
  | 0, i, h => by rw [List.take_of_length_le (by omega)]; exact Nat.le_refl _
  | d + 1, i, h => by
    have h1 := tot_take_le B d (i + 1) (by omega)
    rw [tot_take_succ B i (by omega)] at h1
    omega
theorem len_aftTo (B : List (List Nat)) (j : Nat) : ∀ i, i ≤ B.length → (aftTo B i j).length ≤ tot (B.take i)
  | 0, _ => by simp [aftTo, tot]
  | i + 1, h => by
    have h1 := len_aftTo B j i (by omega)
    rw [aftTo_succ, tot_take_succ B i (by omega), List.length_append, List.length_replicate]
    have h2 := List.count_le_length (a := j) (l := B.getD i [])
    omega
theorem len_aft (B : List (List Nat)) (j : Nat) : (aft B j).length ≤ tot B := Nat.le_trans (len_aftTo B j B.length (Nat.le_refl _)) (tot_take_le B 0 _ (by omega))
/-- While row i is laid. -/
def aftAt (B : List (List Nat)) (i t j : Nat) : List Nat := aftTo B i j ++ List.replicate (((B.getD i []).take t).count j) i
theorem aftAt_zero (B : List (List Nat)) (i j : Nat) : aftAt B i 0 j = aftTo B i j := by simp [aftAt]
theorem aftAt_end (B : List (List Nat)) (i j : Nat) : aftAt B i (B.getD i []).length j = aftTo B (i + 1) j := by
  unfold aftAt
  rw [List.take_length, aftTo_succ]
theorem aftAt_succ (B : List (List Nat)) (i t k : Nat) (ht : t < (B.getD i []).length) :
    (if k = (B.getD i [])[t] then aftAt B i t (B.getD i [])[t] ++ [i] else aftAt B i t k) = aftAt B i (t + 1) k := by
  unfold aftAt
  rw [take_snoc _ _ ht, List.count_append]
  by_cases e : k = (B.getD i [])[t]
  · subst e
    simp [List.replicate_succ', List.append_assoc]
  · rw [if_neg e]
    have h0 : List.count k [(B.getD i [])[t]] = 0 := by
      rw [List.count_eq_zero, List.mem_singleton]; exact e
    rw [h0, Nat.add_zero]
theorem len_aftAt (B : List (List Nat)) (i t j : Nat) (hi : i < B.length) : (aftAt B i t j).length ≤ tot B := by
  unfold aftAt
  rw [List.length_append, List.length_replicate]
  have h1 := len_aftTo B j i (by omega)
  have h2 := List.count_le_length (a := j) (l := (B.getD i []).take t)
  have h3 : ((B.getD i []).take t).length ≤ (B.getD i []).length := List.length_take_le' _ _
  have h4 := tot_take_le B (B.length - (i + 1)) (i + 1) (by omega)
  rw [tot_take_succ B i hi] at h4
  omega
theorem row_le_tot (B : List (List Nat)) (i : Nat) : (B.getD i []).length ≤ tot B := by
  by_cases hi : i < B.length
  · have h4 := tot_take_le B (B.length - (i + 1)) (i + 1) (by omega)
    rw [tot_take_succ B i hi] at h4
    omega
  · simp [List.getD_eq_getElem?_getD, List.getElem?_eq_none (show B.length ≤ i by omega)]
theorem wait_le (B : List (List Nat)) (T : List Nat) (i : Nat) : wait B T i ≤ tot B := Nat.le_trans List.countP_le_length (row_le_tot B i)

end Gp
end Go.Proofs.Qxb6628252a
