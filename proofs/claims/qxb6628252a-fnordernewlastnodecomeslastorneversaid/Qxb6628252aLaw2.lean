import Derived.Test.Qxb6628252aLaw1
namespace Go.Proofs.Qxb6628252a
open Go.RowKit

/-- The numbers of a list as node numbers. -/
abbrev nats (l : List Int) : List Nat := l.map Int.toNat

theorem gr_snoc (R : List (List Int)) (l : List Int) : gr (R ++ [l]) = gr R ++ [nats l] := by simp [gr, nats]
theorem tot_snoc (B : List (List Nat)) (ps : List Nat) : Gp.tot (B ++ [ps]) = Gp.tot B + ps.length := by simp [Gp.tot]
theorem ok_snoc {B : List (List Nat)} {ps : List Nat} (h : Gp.Ok B) (hp : ∀ p ∈ ps, p ≤ B.length) : Gp.Ok (B ++ [ps]) := by
  intro i hi p hpi
  simp at hi
  by_cases e : i = B.length
  · subst e
    rw [Gp.getD_snoc_eq] at hpi
    have := hp p hpi
    simp; omega
  · rw [Gp.getD_snoc_lt B ps i (by omega)] at hpi
    have := h i (by omega) p hpi
    simp; omega

theorem mem_nats {l : List Int} {n : Nat} (h : InR ((n : Int) + 1) l) : ∀ p ∈ nats l, p ≤ n := by
  intro p hp
  rw [List.mem_map] at hp
  obtain ⟨x, hx, rfl⟩ := hp
  obtain ⟨c, hc, e⟩ := List.getElem_of_mem hx
  have h1 := h c hc
  have e3 : l.getD c 0 = l[c] := by simp [List.getD_eq_getElem?_getD, hc]
  rw [e3, e] at h1
  omega

/-- What the second order is. -/
theorem second_order {B : List (List Nat)} {ps : List Nat} (hok : Gp.Ok B) :
    ∃ O2, Gp.order (B ++ [ps]) = O2 ∧ ((allIn ps (Gp.order B) = true ∧ O2 = Gp.order B ++ [B.length]) ∨ (allIn ps (Gp.order B) = false ∧ O2 = Gp.order B)) := by
  refine ⟨_, rfl, ?_⟩
  cases h : allIn ps (Gp.order B) with
  | true =>
    refine .inl ⟨rfl, Gp.order_snoc_ready B ps hok fun p hp => ?_⟩
    unfold allIn at h
    rw [List.all_eq_true] at h
    have := h p hp
    simpa using this
  | false =>
    unfold allIn at h
    rw [List.all_eq_false] at h
    obtain ⟨p, hp, hpn⟩ := h
    exact .inr ⟨rfl, Gp.order_snoc_never B ps p hp (by simpa using hpn)⟩

/-- The copied headers. -/
def Heads (w : World) (R : List (List Int)) (f : Nat → Value) (k : Nat) : Prop := ∀ i, i < k → ∃ A C, f i = .slice A (R.getD i []).length C ∧ IntsAt w A (R.getD i [])

theorem Heads.step {w : World} {R : List (List Int)} {f : Nat → Value} {k : Nat} (h : Heads w R f k) {A : Option Addr} {C : Nat} (hI : IntsAt w A (R.getD k [])) {g : Nat → Value} (hg : g = fun j => if j = k then .slice A (R.getD k []).length C else f j) :
    Heads w R g (k + 1) := by
  subst hg
  intro i hi
  by_cases e : i = k
  · subst e; exact ⟨A, C, by simp, hI⟩
  · obtain ⟨A', C', h1, h2⟩ := h i (by omega)
    exact ⟨A', C', by simp [e, h1], h2⟩

theorem ext_rows {w w' : World} {R : List (List Int)} {l : List Int} {po : Option Addr} {pc be : Nat} {f : Nat → Value} {hi hi' : Int} (hH : Heads w R f R.length) (hb : Below w.heap.size w w')
    (hrow : w'.rowIs be 24 (R.length + 1) (fun j => if j = R.length then .slice po l.length pc else f j)) (hp : IntsAt w po l)
    (hr : ∀ r, r < R.length → InR hi (R.getD r [])) (hl : InR hi' l) : RowsAt w' be 0 (gr R ++ [nats l]) := by
  intro r hrl
  simp [gr_len] at hrl
  by_cases e : r = R.length
  · subst e
    have h1 := hrow.cell (show R.length < R.length + 1 by omega)
    simp only [if_true] at h1
    have e2 : (gr R ++ [nats l]).getD R.length [] = nats l := by
      have := Gp.getD_snoc_eq (gr R) (nats l)
      rw [gr_len] at this; exact this
    rw [e2]
    refine ⟨po, pc, by simpa [nats] using h1, nats_of_ints (hp.below hb) hl⟩
  · have hr' : r < R.length := by omega
    have h1 := hrow.cell (show r < R.length + 1 by omega)
    simp only [if_neg e] at h1
    obtain ⟨A, C, h2, h3⟩ := hH r hr'
    rw [Gp.getD_snoc_lt _ _ _ (by rw [gr_len]; exact hr'), gr_row_len, gr_getD]
    rw [h2] at h1
    exact ⟨A, C, by simpa using h1, nats_of_ints (h3.below hb) (hr r hr')⟩

theorem marks_next {w : World} {bt n t : Nat} {O : List Nat} (h : w.rowIs bt 4 n (marks (O.take t))) (ht : t < O.length) {x : Nat} (hx : O.getD t 0 = x) : (w.setCell ⟨bt, x, none⟩ (.bool true)).rowIs bt 4 n (marks (O.take (t + 1))) := by
  rw [Gp.take_snoc O t ht]
  have e : O[t] = x := by rw [← hx]; simp [List.getD_eq_getElem?_getD, ht]
  rw [e]
  exact marks_set h

theorem nat_at {l : List Int} {n t : Nat} (h : InR ((n : Int) + 1) l) (ht : t < l.length) : ∃ p, l.getD t 0 = ((p : Nat) : Int) ∧ p ≤ n ∧ ∃ h2 : t < (nats l).length, (nats l)[t] = p := by
  have h1 := h t ht
  refine ⟨(l.getD t 0).toNat, by omega, by omega, by simpa [nats] using ht, ?_⟩
  simp [nats, List.getD_eq_getElem?_getD, ht]

theorem snoc_cell {w : World} {g n : Nat} {O : List Nat} (h : ∀ c, c < (O ++ [n]).length → w.cell? ⟨g, c, none⟩ = some (.int .i64 ((O ++ [n]).getD c 0 : Nat))) :
    (∀ c, c < O.length → w.cell? ⟨g, c, none⟩ = some (.int .i64 (O.getD c 0 : Nat))) ∧ w.cell? ⟨g, O.length, none⟩ = some (.int .i64 (n : Nat)) := by
  refine ⟨fun c hc => ?_, ?_⟩
  · rw [h c (by simp; omega)]
    simp [List.getD_eq_getElem?_getD, List.getElem?_append_left hc]
  · rw [h O.length (by simp)]
    simp [List.getD_eq_getElem?_getD]

theorem below_made (w : World) (o : Obj) : Below w.heap.size w (w.alloc o) := (Below.refl _ _).alloc (Nat.le_refl _) o

set_option maxRecDepth 100000 in
set_option maxHeartbeats 8000000 in
theorem law2 (ao : Option Addr) (cap : Nat) (R : List (List Int)) (po : Option Addr) (pc : Nat) (l : List Int) (w : World) (hM : MatAt w ao R) (hml : R.length ≤ maxLen) (hrl : ∀ r, (R.getD r []).length ≤ maxLen) (hP : IntsAt w po l) (hpl : l.length ≤ maxLen) :
    Calls Try.prog 4 #[.slice ao R.length cap, .slice po l.length pc] w fun e w' => e = .returned (.bool true) ∧ Below w.heap.size w w' := by
  have hml' := hml
  have hpl' := hpl
  unfold maxLen at hml' hpl'
  go_enter Try.func4, Try.ntmps4
  go_wp2_with fail
  refine (bytes2_any ao cap R po l.length pc w hM hml hrl hpl).mono ?_
  rintro e w1 ⟨b, rfl, hb1, rfl⟩
  cases b with
  | false =>
    go_wp2_with fail
    go_ret
    exact ⟨rfl, Below.refl _ _⟩
  | true =>
    have hrow := hb1 rfl
    have Hrow : Hid (∀ r, r < R.length → (R.getD r []).length ≤ 1048576) := hrow
    clear hrow hb1
    by_cases h1 : 65536 < R.length
    · go_wp2_with fail
      go_ret
      exact ⟨rfl, Below.refl _ _⟩
    by_cases h2 : 65536 < l.length
    · go_wp2_with fail
      go_ret
      exact ⟨rfl, Below.refl _ _⟩
    have h3' : ¬ (131072 : Int) < (R.length : Int) + (l.length : Int) := by omega
    go_wp2_with fail
    go_loop [5, 6] (fun s i => ∃ k : Nat, k ≤ R.length ∧ i = .int .i64 k ∧ s = .int .i64 ((R.length + l.length + Gp.tot ((gr R).take k) : Nat) : Int) ∧ Gp.tot ((gr R).take k) ≤ 131072) (fun _ i => R.length - (intOf i).toNat)
    case atStart => exact ⟨0, Nat.zero_le _, rfl, by simp [Gp.tot], by simp [Gp.tot]⟩
    case round =>
      obtain ⟨k, hk, rfl, rfl, ht⟩ := hrel
      by_cases hlt : k < R.length
      · obtain ⟨bb, o, rfl, A, C, hc, _⟩ := hM.row hlt
        have hsucc := Gp.tot_take_succ (gr R) k (by rw [gr_len]; exact hlt)
        rw [gr_row_len] at hsucc
        have hl := Hrow.out k hlt
        obtain ⟨m, hm⟩ : ∃ m, (R.getD k []).length = m := ⟨_, rfl⟩
        rw [hm] at hc hl hsucc
        obtain ⟨t, hte⟩ : ∃ t, Gp.tot ((gr R).take k) = t := ⟨_, rfl⟩
        rw [hte] at hsucc ht
        have Hs : Hid (Gp.tot ((gr R).take (k + 1)) = t + m) := hsucc
        clear hsucc hm
        simp only [hte]
        clear hte
        by_cases h4 : 131072 < R.length + l.length + t + m
        · have h4' : (131072 : Int) < ((R.length + l.length + t : Nat) : Int) + (m : Int) := by omega
          go_wp2_with fail
          go_ret
          exact ⟨rfl, Below.refl _ _⟩
        · have h4' : ¬ (131072 : Int) < ((R.length + l.length + t : Nat) : Int) + (m : Int) := by omega
          go_wp2_with fail
          go_round
          case rel => exact ⟨k + 1, by omega, by go_num, by rw [Hs.out]; go_num, by rw [Hs.out]; omega⟩
          case measure => simp [intOf]; omega
      · have hkR : k = R.length := by omega
        have htot : Gp.tot (gr R) ≤ 131072 := by
          rw [List.take_of_length_le (by rw [gr_len]; omega)] at ht; exact ht
        clear ht
        go_wp2_with fail
        refine (below_any ao cap R R.length _ hM hml hrl).mono ?_
        rintro e w2 ⟨b, rfl, hb2, rfl⟩
        cases b with
        | false =>
          go_wp2_with fail
          go_ret
          exact ⟨rfl, Below.refl _ _⟩
        | true =>
          have hin := hb2 rfl
          have Hin : Hid (∀ r, r < R.length → InR R.length (R.getD r [])) := hin
          have hok := gr_ok hin
          clear hin hb2 Hrow hkR
          go_wp2_with fail
          go_loop [8] (fun i => ∃ k : Nat, k ≤ l.length ∧ i = .int .i64 k ∧ ∀ c, c < k → 0 ≤ l.getD c 0 ∧ l.getD c 0 < (R.length : Int) + 1) (fun i => l.length - (intOf i).toNat)
          case atStart => exact ⟨0, Nat.zero_le _, rfl, fun c hc => absurd hc (by omega)⟩
          case round =>
            obtain ⟨t, htl, rfl, hpr⟩ := hrel
            have Hpr : Hid (∀ c, c < t → 0 ≤ l.getD c 0 ∧ l.getD c 0 < (R.length : Int) + 1) := hpr
            clear hpr
            by_cases htlt : t < l.length
            · obtain ⟨pb, pp, rfl, hcs⟩ := hP (by omega)
              have hcell := hcs t htlt
              obtain ⟨x, hx⟩ : ∃ x, l.getD t 0 = x := ⟨_, rfl⟩
              rw [hx] at hcell
              have Hx : Hid (l.getD t 0 = x) := hx
              clear hx hcs
              by_cases h5 : x < 0
              · go_wp2_with fail
                go_ret
                exact ⟨rfl, Below.refl _ _⟩
              · have h5' : decide (x < 0) = false := decide_eq_false h5
                by_cases h6 : (R.length : Int) < x
                · go_wp2_with fail
                  go_ret
                  exact ⟨rfl, Below.refl _ _⟩
                · go_wp2_with fail
                  go_round
                  case rel =>
                    refine ⟨t + 1, by omega, by go_num, fun c hc' => ?_⟩
                    by_cases e : c = t
                    · rw [e, Hx.out]; omega
                    · exact Hpr.out c (by omega)
                  case measure => simp [intOf]; omega
            · have Hl : Hid (InR ((R.length : Int) + 1) l) := fun c hc => Hpr.out c (by omega)
              clear Hpr
              have hmk := run_make_row' (P := Try.prog) 22 24 (.slice none 0 0) 24 Try.underlying22 Try.info24 rfl .i64 .i64 (R.length + 1) (by omega) (by omega)
              have ec : ((R.length + 1 : Nat) : Int) = (R.length : Int) + 1 := by omega
              rw [ec] at hmk
              clear ec
              go_wp2_with fail
              obtain ⟨be, hbe⟩ : ∃ be, be = w2.heap.size := ⟨_, rfl⟩
              have hbm := below_made w2 (.cells (madeCells #[.slice none 0 0] (R.length + 1)) 24)
              have hrm := World.rowIs_made w2 (.slice none 0 0) (R.length + 1) 24
              rw [← hbe] at hrm ⊢
              have hbe' : w2.heap.size ≤ be := by omega
              clear hbe hmk
              go_loopw [10] (fun i wr => ∃ (k : Nat) (f : Nat → Value), k ≤ R.length ∧ i = .int .i64 k ∧ wr.rowIs be 24 (R.length + 1) f ∧ Heads w2 R f k ∧ Below w2.heap.size w2 wr) (fun i _ => R.length - (intOf i).toNat)
              case atStart => exact ⟨0, _, Nat.zero_le _, rfl, hrm, fun i hi => absurd hi (by omega), hbm⟩
              case round =>
                clear hrm hbm
                obtain ⟨k, f, hk2, rfl, hrow, hH, hbl⟩ := hrel
                by_cases hklt : k < R.length
                · obtain ⟨bb, o, rfl, A, C, hc0, hI⟩ := hM.row hklt
                  have hc := cell_later hbl hc0
                  clear hc0
                  have hcb := hrow.cell (show k < R.length + 1 by omega)
                  have hfb := hrow.frozen k
                  obtain ⟨y, hy⟩ : ∃ y, f k = y := ⟨_, rfl⟩
                  rw [hy] at hcb
                  clear hy
                  have hrow2 := hrow.set k (.slice A (R.getD k []).length C)
                  have hH2 := hH.step (C := C) hI rfl
                  have hbl2 : Below w2.heap.size w2 (wr.setCell ⟨be, k, none⟩ (.slice A (R.getD k []).length C)) := hbl.setCell hbe' _
                  obtain ⟨m, hm⟩ : ∃ m, (R.getD k []).length = m := ⟨_, rfl⟩
                  rw [hm] at hc hrow2 hH2 hbl2
                  clear hm hH hrow hI
                  have q0 : (0 : Int) ≤ (k : Int) := by omega
                  have q1 : (k : Int) < (R.length : Int) + 1 := by omega
                  go_wp2_with fail
                  go_roundw
                  case rel => exact ⟨k + 1, _, by omega, by go_num, hrow2, hH2, hbl2⟩
                  case measure => simp [intOf]; omega
                · have hkk : k = R.length := by omega
                  subst hkk
                  have hcb := hrow.cell (show R.length < R.length + 1 by omega)
                  have hfb := hrow.frozen R.length
                  obtain ⟨y, hy⟩ : ∃ y, f R.length = y := ⟨_, rfl⟩
                  rw [hy] at hcb
                  clear hy
                  have hrow2 := hrow.set R.length (.slice po l.length pc)
                  have hbl2 : Below w2.heap.size w2 (wr.setCell ⟨be, R.length, none⟩ (.slice po l.length pc)) := hbl.setCell hbe' _
                  have hext := ext_rows hH hbl2 hrow2 hP Hin.out Hl.out
                  have hG := (gr_at hM Hin.out).below hbl2
                  have hbel := hrow2.lt
                  obtain ⟨W, hW⟩ : ∃ W, W = wr.setCell ⟨be, R.length, none⟩ (.slice po l.length pc) := ⟨_, rfl⟩
                  have q0 : (0 : Int) ≤ (R.length : Int) := by omega
                  have q1 : (R.length : Int) < (R.length : Int) + 1 := by omega
                  clear hrow hH hbl hrow2
                  go_wp2_with fail
                  rw [← hW] at hext hG hbl2 hbel ⊢
                  clear hW hcb hfb
                  have hO := order_any ao cap (gr R) W hG hok (by rw [gr_len]; omega) (by omega)
                  rw [gr_len] at hO
                  refine hO.mono ?_
                  clear hO
                  rintro e w3 ⟨bq, rfl, hown3, hb3⟩
                  go_wp2_with fail
                  obtain ⟨O2, hO2, hcase⟩ := second_order (ps := nats l) hok
                  have hO := order_any (some ⟨be, 0, none⟩) (R.length + 1) (gr R ++ [nats l]) w3 (fun _ => ⟨be, 0, rfl, hext.below hb3⟩) (ok_snoc hok (by rw [gr_len]; exact mem_nats Hl.out)) (by simp [gr_len]; omega) (by rw [tot_snoc]; simp; omega)
                  have elen : (gr R ++ [nats l]).length = R.length + 1 := by simp [gr_len]
                  rw [hO2, elen] at hO
                  refine hO.mono ?_
                  clear hO elen hO2
                  rintro e w4 ⟨bq2, rfl, hown4, hb4⟩
                  have hol := (Gp.order_run (gr R)).1.len
                  have holt := (Gp.order_run (gr R)).1.lt
                  have hfree := Gp.order_free (gr R)
                  have hcell3 := own_cell hown3
                  have hcell4 := own_cell hown4
                  obtain ⟨O, hOe⟩ : ∃ O, O = Gp.order (gr R) := ⟨_, rfl⟩
                  rw [gr_len] at hol hfree holt hcase
                  rw [← hOe] at hol hfree hcell3 hcase holt hown3 ⊢
                  clear hOe
                  have hc3 : ∀ c, c < O.length → w4.cell? ⟨bq, c, none⟩ = some (.int .i64 (O.getD c 0 : Nat)) := fun c hc => cell_later hb4 (hcell3 c hc)
                  have hb5 : Below w2.heap.size w2 w4 := hbl2.trans ((hb3.mono hbl2.size).trans (hb4.mono (Nat.le_trans hbl2.size hb3.size)))
                  have Hcase : Hid ((allIn (nats l) O = true ∧ O2 = O ++ [R.length]) ∨ (allIn (nats l) O = false ∧ O2 = O)) := hcase
                  have Holt : Hid (∀ i ∈ O, i < R.length) := holt
                  have Hfree : Hid (∀ i, i < R.length → (gr R).getD i [] = [] → i ∈ O) := hfree
                  have hlt3 : bq < w4.heap.size := by have := (hown3.lt bq rfl).2; have := hb4.size; omega
                  have hlt4 : bq2 < w4.heap.size := (hown4.lt bq2 rfl).2
                  clear hcell3 hown3 hown4 hcase holt hfree hext hG hbl2 hb3 hb4 hbel
                  have hmk := run_make_row' (P := Try.prog) 29 4 (.bool false) 1 Try.underlying29 Try.info4 rfl .i64 .i64 (R.length + 1) (by omega) (by omega)
                  have ec : ((R.length + 1 : Nat) : Int) = (R.length : Int) + 1 := by omega
                  rw [ec] at hmk
                  clear ec
                  go_wp2_with fail
                  clear hmk
                  obtain ⟨bi, hbi⟩ : ∃ bi, bi = w4.heap.size := ⟨_, rfl⟩
                  have hbm := below_made w4 (.cells (madeCells #[.bool false] (R.length + 1)) 4)
                  have hrm : (w4.alloc (.cells (madeCells #[.bool false] (R.length + 1)) 4)).rowIs w4.heap.size 4 (R.length + 1) (marks (O.take 0)) := (World.rowIs_made w4 (.bool false) (R.length + 1) 4).congr fun i _ => rfl
                  rw [← hbi] at hrm ⊢
                  have hbi' : w4.heap.size ≤ bi := by omega
                  clear hbi
                  go_loopw [14] (fun i wr => ∃ t : Nat, t ≤ O.length ∧ i = .int .i64 t ∧ wr.rowIs bi 4 (R.length + 1) (marks (O.take t)) ∧ Below w4.heap.size w4 wr) (fun i _ => O.length - (intOf i).toNat)
                  case atStart => exact ⟨0, Nat.zero_le _, rfl, hrm, hbm⟩
                  case round =>
                    clear hrm hbm
                    obtain ⟨t4, ht4, rfl, hrow, hbl⟩ := hrel
                    by_cases htlt4 : t4 < O.length
                    · have hcx := cell_later hbl (hc3 t4 htlt4)
                      obtain ⟨x, hx⟩ : ∃ x, O.getD t4 0 = x := ⟨_, rfl⟩
                      have hxR : x < R.length := by
                        rw [← hx]
                        refine Holt.out _ ?_
                        rw [List.getD_eq_getElem?_getD, List.getElem?_eq_getElem htlt4]
                        exact List.getElem_mem htlt4
                      rw [hx] at hcx
                      have hm := hrow.cell (show x < R.length + 1 by omega)
                      have hfz := hrow.frozen x
                      obtain ⟨y, hy⟩ : ∃ y, isIn (O.take t4) x = y := ⟨_, rfl⟩
                      simp only [marks, hy] at hm
                      clear hy
                      have hrow2 := marks_next hrow htlt4 hx
                      have hbl2 : Below w4.heap.size w4 (wr.setCell ⟨bi, x, none⟩ (.bool true)) := hbl.setCell hbi' _
                      clear hrow hbl hx
                      have q0 : (0 : Int) ≤ (x : Int) := by omega
                      have q1 : (x : Int) < (R.length : Int) + 1 := by omega
                      have q2 : decide ((x : Int) < 0) = false := decide_eq_false (by omega)
                      have q3 : ¬ (R.length : Int) ≤ (x : Int) := by omega
                      clear hc3 hcell4
                      go_wp2_with fail
                      go_roundw
                      case rel => exact ⟨t4 + 1, by omega, by go_num, hrow2, hbl2⟩
                      case measure => simp [intOf]; omega
                    · have htt : t4 = O.length := by omega
                      subst htt
                      rw [List.take_length] at hrow
                      have hbw : Below w2.heap.size w2 wr := hb5.trans (hbl.mono hb5.size)
                      have hc3' : ∀ c, c < O.length → wr.cell? ⟨bq, c, none⟩ = some (.int .i64 (O.getD c 0 : Nat)) := fun c hc => cell_later hbl (hc3 c hc)
                      have hc4' : ∀ c, c < O2.length → wr.cell? ⟨bq2, c, none⟩ = some (.int .i64 (O2.getD c 0 : Nat)) := fun c hc => cell_later hbl (hcell4 c hc)
                      have Hc3 : Hid (∀ c, c < O.length → wr.cell? ⟨bq, c, none⟩ = some (.int .i64 (O.getD c 0 : Nat))) := hc3'
                      have Hc4 : Hid (∀ c, c < O2.length → wr.cell? ⟨bq2, c, none⟩ = some (.int .i64 (O2.getD c 0 : Nat))) := hc4'
                      have hM' := hM.below hbw
                      have hP' := hP.below hbw
                      clear hc3 hcell4 hc3' hc4' hbl hM hP
                      go_wp2_with fail
                      go_loop [16] (fun i => ∃ k : Nat, k ≤ R.length ∧ i = .int .i64 k) (fun i => R.length - (intOf i).toNat)
                      case atStart => exact ⟨0, Nat.zero_le _, rfl⟩
                      case round =>
                        obtain ⟨k5, hk5, rfl⟩ := hrel
                        by_cases hk5lt : k5 < R.length
                        · obtain ⟨bb, o, rfl, A, C, hc, _⟩ := hM'.row hk5lt
                          have hm := hrow.cell (show k5 < R.length + 1 by omega)
                          obtain ⟨y, hy⟩ : ∃ y, isIn O k5 = y := ⟨_, rfl⟩
                          simp only [marks, hy] at hm
                          obtain ⟨m, hme⟩ : ∃ m, (R.getD k5 []).length = m := ⟨_, rfl⟩
                          have hyt : m = 0 → y = true := by
                            intro h0
                            rw [← hy]
                            have h6 : (gr R).getD k5 [] = [] := by
                              apply List.eq_nil_of_length_eq_zero
                              rw [gr_row_len]; omega
                            have := Hfree.out k5 hk5lt h6
                            simpa [isIn] using this
                          have hrlk := hrl k5
                          rw [hme] at hc hrlk
                          unfold maxLen at hrlk
                          clear hme hy
                          have q0 : (0 : Int) ≤ (k5 : Int) := by omega
                          have q1 : (k5 : Int) < (R.length : Int) + 1 := by omega
                          by_cases hm0 : m = 0
                          · have := hyt hm0
                            subst this
                            subst hm0
                            clear hyt
                            go_wp2_with fail
                            go_round
                            case rel => exact ⟨k5 + 1, by omega, by go_num⟩
                            case measure => simp [intOf]; omega
                          · have q2 : ((m : Int) == 0) = false := by simp; omega
                            clear hyt
                            go_wp2_with fail
                            go_round
                            case rel => exact ⟨k5 + 1, by omega, by go_num⟩
                            case measure => simp [intOf]; omega
                        · clear hM'
                          go_wp2_with fail
                          go_loop [17, 18] (fun rv i => ∃ t : Nat, t ≤ l.length ∧ i = .int .i64 t ∧ rv = .bool (allIn ((nats l).take t) O)) (fun _ i => l.length - (intOf i).toNat)
                          case atStart => exact ⟨0, Nat.zero_le _, rfl, rfl⟩
                          case round =>
                            obtain ⟨t6, ht6, rfl, rfl⟩ := hrel
                            by_cases ht6lt : t6 < l.length
                            · obtain ⟨pb, pp, rfl, hcs⟩ := hP' (by omega)
                              have hcell := hcs t6 ht6lt
                              obtain ⟨p, hpe, hpR, hp2, hpn⟩ := nat_at Hl.out ht6lt
                              rw [hpe] at hcell
                              have hst := all_step (nats l) O t6 hp2
                              rw [hpn] at hst
                              have hm := hrow.cell (show p < R.length + 1 by omega)
                              obtain ⟨y, hy⟩ : ∃ y, isIn O p = y := ⟨_, rfl⟩
                              simp only [marks, hy] at hm
                              rw [hy] at hst
                              have Hst : Hid (allIn ((nats l).take (t6 + 1)) O = (allIn ((nats l).take t6) O && y)) := hst
                              clear hst hy hpe hp2 hpn hcs
                              have q0 : (0 : Int) ≤ (p : Int) := by omega
                              have q1 : (p : Int) < (R.length : Int) + 1 := by omega
                              cases y with
                              | true =>
                                go_wp2_with fail
                                go_round
                                case rel => exact ⟨t6 + 1, by omega, by go_num, by rw [Hst.out]; simp⟩
                                case measure => simp [intOf]; omega
                              | false =>
                                go_wp2_with fail
                                go_round
                                case rel => exact ⟨t6 + 1, by omega, by go_num, by rw [Hst.out]; simp⟩
                                case measure => simp [intOf]; omega
                            · have htt : (nats l).take t6 = nats l := List.take_of_length_le (by simp [nats]; omega)
                              rw [htt]
                              clear htt hP'
                              rcases Hcase.out with ⟨hy, hO2⟩ | ⟨hy, hO2⟩
                              · subst hO2
                                obtain ⟨hc5, hc6⟩ := snoc_cell Hc4.out
                                have elen : (O ++ [R.length]).length = O.length + 1 := by simp
                                rw [hy, elen]
                                clear elen Hc4
                                have Hc5 : Hid (∀ c, c < O.length → wr.cell? ⟨bq2, c, none⟩ = some (.int .i64 (O.getD c 0 : Nat))) := hc5
                                clear hc5 hy Hcase
                                go_wp2_with fail
                                refine (same_any bq2 bq _ _ O wr (by omega) Hc5.out Hc3.out).mono ?_
                                rintro e w7 ⟨rfl, q, rfl⟩
                                go_wp2_with fail
                                go_ret
                                exact ⟨rfl, below_drewN hbw q⟩
                              · subst hO2
                                rw [hy]
                                clear hy Hcase
                                go_wp2_with fail
                                refine (same_any bq2 bq _ _ O2 wr (by omega) Hc4.out Hc3.out).mono ?_
                                rintro e w7 ⟨rfl, q, rfl⟩
                                go_wp2_with fail
                                go_ret
                                exact ⟨rfl, below_drewN hbw q⟩
end Go.Proofs.Qxb6628252a
