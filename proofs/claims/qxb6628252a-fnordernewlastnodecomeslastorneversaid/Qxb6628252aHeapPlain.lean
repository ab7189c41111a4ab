/-
  Plain mathematics of a binary heap on a list of integers: no Go in sight. By an AI agent.
-/
namespace Go.Proofs.Qxb6628252a
namespace Hp

/-- Places i and j exchanged. -/
def swp (d : List Int) (i j : Nat) : List Int := (d.set i (d.getD j 0)).set j (d.getD i 0)

theorem length_swp (d : List Int) (i j : Nat) : (swp d i j).length = d.length := by simp [swp]

theorem getD_swp (d : List Int) (i j k : Nat) (hi : i < d.length) (hj : j < d.length) :
    (swp d i j).getD k 0 = if k = j then d.getD i 0 else if k = i then d.getD j 0 else d.getD k 0 := by
  unfold swp
  simp only [List.getD_eq_getElem?_getD, List.getElem?_set]
  by_cases h1 : k = j
  · subst h1; simp [hj]
  · have h1' : ¬ j = k := fun h => h1 h.symm
    by_cases h2 : k = i
    · subst h2; simp [hi, h1, h1']
    · have h2' : ¬ i = k := fun h => h2 h.symm
      simp [h1, h1', h2, h2']

theorem perm_swp (d : List Int) (i j : Nat) (hi : i < d.length) (hj : j < d.length) : (swp d i j).Perm d := by
  have h := List.set_set_perm (as := d) hi hj
  unfold swp
  simpa [List.getD_eq_getElem?_getD, hi, hj] using h

/-- The first n places are a heap: no place lies above its parent. -/
def Heap (d : List Int) (n : Nat) : Prop := ∀ c, 0 < c → c < n → d.getD ((c - 1) / 2) 0 ≤ d.getD c 0

theorem heap_min (d : List Int) (n : Nat) (h : Heap d n) : ∀ m c, c ≤ m → c < n → d.getD 0 0 ≤ d.getD c 0
  | 0, c, hm, _ => by have : c = 0 := by omega
                      subst this; exact Int.le_refl _
  | m + 1, c, hm, hc => by
    by_cases h0 : c = 0
    · subst h0; exact Int.le_refl _
    · exact Int.le_trans (heap_min d n h m ((c - 1) / 2) (by omega) (by omega)) (h c (by omega) hc)

/-- A heap but for place j against its parent. -/
def Up (d : List Int) (j n : Nat) : Prop :=
  (∀ c, 0 < c → c < n → c ≠ j → d.getD ((c - 1) / 2) 0 ≤ d.getD c 0) ∧
  (∀ c, 0 < c → c < n → (c - 1) / 2 = j → 0 < j → d.getD ((j - 1) / 2) 0 ≤ d.getD c 0)

theorem up_stop {d : List Int} {j n : Nat} (h : Up d j n) (hs : j = 0 ∨ d.getD ((j - 1) / 2) 0 ≤ d.getD j 0) : Heap d n := by
  intro c h0 hn
  by_cases hc : c = j
  · subst hc
    rcases hs with hs | hs
    · omega
    · exact hs
  · exact h.1 c h0 hn hc

theorem up_go {d : List Int} {j n : Nat} (hn : n ≤ d.length) (hj0 : 0 < j) (hj : j < n) (h : Up d j n) (hlt : d.getD j 0 < d.getD ((j - 1) / 2) 0) :
    Up (swp d ((j - 1) / 2) j) ((j - 1) / 2) n := by
  have hi : (j - 1) / 2 < d.length := by omega
  have hjl : j < d.length := by omega
  generalize hidef : (j - 1) / 2 = i at *
  have hij : i < j := by omega
  refine ⟨?_, ?_⟩
  · intro c h0 hc hne
    rw [getD_swp d i j _ hi hjl, getD_swp d i j _ hi hjl]
    by_cases hcj : c = j
    · subst hcj
      rw [hidef, if_neg (by omega), if_pos rfl, if_pos rfl]
      exact Int.le_of_lt hlt
    · rw [if_neg hcj, if_neg hne]
      by_cases hp : (c - 1) / 2 = j
      · rw [if_pos hp]
        have := h.2 c h0 hc hp hj0
        rw [hidef] at this
        exact this
      · rw [if_neg hp]
        by_cases hp2 : (c - 1) / 2 = i
        · rw [if_pos hp2]
          have := h.1 c h0 hc hcj
          rw [hp2] at this
          omega
        · rw [if_neg hp2]
          exact h.1 c h0 hc hcj
  · intro c h0 hc hp hi0
    rw [getD_swp d i j _ hi hjl, getD_swp d i j _ hi hjl]
    rw [if_neg (by omega), if_neg (by omega)]
    have hii := h.1 i hi0 (by omega) (by omega)
    by_cases hcj : c = j
    · rw [if_pos hcj]; exact hii
    · rw [if_neg hcj, if_neg (by omega)]
      have := h.1 c h0 hc hcj
      rw [hp] at this
      omega

/-- One more place behind a heap. -/
theorem up_start {d : List Int} {x : Int} {n : Nat} (hn : d.length = n) (h : Heap d n) : Up (d ++ [x]) n (n + 1) := by
  refine ⟨?_, ?_⟩
  · intro c h0 hc hne
    have := h c h0 (by omega)
    simp only [List.getD_eq_getElem?_getD] at *
    rw [List.getElem?_append_left (by omega), List.getElem?_append_left (by omega)]
    exact this
  · intro c h0 hc hp hn0
    omega

/-- A heap but for place i against its children. -/
def Dn (d : List Int) (i n : Nat) : Prop :=
  (∀ c, 0 < c → c < n → (c - 1) / 2 ≠ i → d.getD ((c - 1) / 2) 0 ≤ d.getD c 0) ∧
  (∀ c, 0 < c → c < n → (c - 1) / 2 = i → 0 < i → d.getD ((i - 1) / 2) 0 ≤ d.getD c 0)

theorem dn_leaf {d : List Int} {i n : Nat} (h : Dn d i n) (hl : n ≤ 2 * i + 1) : Heap d n := by
  intro c h0 hc
  exact h.1 c h0 hc (by omega)

theorem dn_stop {d : List Int} {i j n : Nat} (h : Dn d i n) (hmin : ∀ c, 0 < c → c < n → (c - 1) / 2 = i → d.getD j 0 ≤ d.getD c 0) (hs : d.getD i 0 ≤ d.getD j 0) : Heap d n := by
  intro c h0 hc
  by_cases hp : (c - 1) / 2 = i
  · have := hmin c h0 hc hp
    rw [hp]; omega
  · exact h.1 c h0 hc hp

theorem dn_go {d : List Int} {i j n : Nat} (hn : n ≤ d.length) (hj0 : 0 < j) (hj : j < n) (hji : (j - 1) / 2 = i) (h : Dn d i n)
    (hmin : ∀ c, 0 < c → c < n → (c - 1) / 2 = i → d.getD j 0 ≤ d.getD c 0) (hlt : d.getD j 0 < d.getD i 0) : Dn (swp d i j) j n := by
  have hi : i < d.length := by omega
  have hjl : j < d.length := by omega
  have hij : i < j := by omega
  refine ⟨?_, ?_⟩
  · intro c h0 hc hne
    rw [getD_swp d i j _ hi hjl, getD_swp d i j _ hi hjl]
    rw [if_neg hne]
    by_cases hcj : c = j
    · rw [if_pos hcj]; subst hcj; rw [if_pos hji]; omega
    · rw [if_neg hcj]
      by_cases hpi : (c - 1) / 2 = i
      · rw [if_pos hpi, if_neg (by omega)]
        exact hmin c h0 hc hpi
      · rw [if_neg hpi]
        by_cases hci : c = i
        · rw [if_pos hci]
          have := h.2 j hj0 hj hji (by omega)
          rw [hci]; exact this
        · rw [if_neg hci]
          exact h.1 c h0 hc hpi
  · intro c h0 hc hp _
    rw [getD_swp d i j _ hi hjl, getD_swp d i j _ hi hjl]
    rw [if_neg (by omega), if_pos hji, if_neg (by omega), if_neg (by omega)]
    have := h.1 c h0 hc (by omega)
    rw [hp] at this
    exact this

/-- The head exchanged with the last place: the first n places are a heap but for the head. -/
theorem dn_start {d : List Int} {n : Nat} (hn : n < d.length) (h : Heap d (n + 1)) : Dn (swp d 0 n) 0 n := by
  refine ⟨?_, ?_⟩
  · intro c h0 hc hp
    rw [getD_swp d 0 n _ (by omega) hn, getD_swp d 0 n _ (by omega) hn]
    rw [if_neg (by omega), if_neg hp, if_neg (by omega), if_neg (by omega)]
    exact h c h0 (by omega)
  · intro c h0 hc hp h00
    omega

theorem heap_take {d : List Int} {n : Nat} (h : Heap d n) : Heap (d.take n) n := by
  intro c h0 hc
  have := h c h0 hc
  simp only [List.getD_eq_getElem?_getD, List.getElem?_take] at *
  rw [if_pos (by omega), if_pos hc]
  exact this

theorem getD_swp_last {d : List Int} {n : Nat} (hn : n < d.length) : (swp d 0 n).getD n 0 = d.getD 0 0 := by
  rw [getD_swp d 0 n _ (by omega) hn, if_pos rfl]

theorem take_getD {d : List Int} {n : Nat} (hn : d.length = n + 1) : d.take n ++ [d.getD n 0] = d := by
  have h : d.take n ++ d.drop n = d := List.take_append_drop n d
  have h2 : d.drop n = [d.getD n 0] := by
    rw [List.drop_eq_getElem_cons (by omega), List.drop_of_length_le (by omega)]
    simp [List.getD_eq_getElem?_getD, hn]
  rw [← h2]; exact h

theorem mem_getD {d : List Int} {x : Int} (h : x ∈ d) : ∃ c, c < d.length ∧ d.getD c 0 = x := by
  obtain ⟨c, hc, hx⟩ := List.getElem_of_mem h
  exact ⟨c, hc, by simp [List.getD_eq_getElem?_getD, hc, hx]⟩

theorem heap_head {d : List Int} {n : Nat} (hn : d.length = n) (h : Heap d n) : ∀ x ∈ d, d.getD 0 0 ≤ x := by
  intro x hx
  obtain ⟨c, hc, rfl⟩ := mem_getD hx
  exact heap_min d n h c c (Nat.le_refl _) (by omega)

end Hp
end Go.Proofs.Qxb6628252a
