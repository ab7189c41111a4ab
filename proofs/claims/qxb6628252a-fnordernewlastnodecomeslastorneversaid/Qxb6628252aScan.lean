import Derived.Test.Qxb6628252aSmall
namespace Go.Proofs.Qxb6628252a
open Go.RowKit

theorem Try.info4 : (Try.prog.info? 4).map (fun i => (i.zero, i.size, i.bytes)) = some (some (.bool false), 1, 1) := by kernel_rfl

def isIn (T : List Nat) (x : Nat) : Bool := T.contains x
def allIn (l T : List Nat) : Bool := l.all fun p => T.contains p
/-- The marks: who is taken. -/
abbrev marks (T : List Nat) : Nat → Value := fun k => .bool (isIn T k)

theorem all_step (l T : List Nat) (k : Nat) (hk : k < l.length) : allIn (l.take (k + 1)) T = (allIn (l.take k) T && isIn T l[k]) := by
  unfold allIn isIn
  rw [List.take_succ_eq_append_getElem hk, List.all_append]
  simp

set_option maxRecDepth 100000 in
set_option maxHeartbeats 1000000 in
theorem alltaken_any (A : Option Addr) (C : Nat) (l T : List Nat) (bt n : Nat) (w : World) (hN : NatsAt w A l) (hl : l.length ≤ 100000000) (ht : w.rowIs bt 4 n (marks T)) (hin : ∀ p ∈ l, p < n) :
    Calls Try.prog 15 #[.slice A l.length C, .slice (some ⟨bt, 0, none⟩) n n] w fun e w' => e = .returned (.bool (allIn l T)) ∧ w' = w := by
  go_enter Try.func15, Try.ntmps15
  go_wp2_with fail
  go_loop [5] (fun i => ∃ k : Nat, k ≤ l.length ∧ i = .int .i64 k ∧ allIn (l.take k) T = true) (fun i => l.length - (intOf i).toNat)
  case atStart => exact ⟨0, Nat.zero_le _, rfl, rfl⟩
  case round =>
    obtain ⟨k, hk, rfl, hall⟩ := hrel
    have Hall : Hid (allIn (l.take k) T = true) := hall
    clear hall
    by_cases hlt : k < l.length
    · obtain ⟨b, o, hA, hcs⟩ := hN (by omega)
      subst hA
      have h1 := hcs k hlt
      have hxn := hin l[k] (List.getElem_mem hlt)
      have hstep := all_step l T k hlt
      obtain ⟨x, hx⟩ : ∃ x, l[k] = x := ⟨_, rfl⟩
      rw [hx] at h1 hxn hstep
      have h2 := ht.cell hxn
      have g1 : (x : Int) < (n : Int) := by omega
      have g3 : (0 : Int) ≤ (x : Int) := by omega
      clear hcs hin
      have Hx : Hid (l[k] = x) := hx
      clear hx
      obtain ⟨y, hy⟩ : ∃ y, isIn T x = y := ⟨_, rfl⟩
      simp only [marks, hy] at h2
      rw [hy, Hall.out] at hstep
      have Hstep : Hid (allIn (l.take (k + 1)) T = (true && y)) := hstep
      clear hstep
      have Hy : Hid (isIn T x = y) := hy
      clear hy
      cases y with
      | true =>
        go_wp2
        go_round
        case rel => exact ⟨k + 1, by omega, by go_num, by rw [Hstep.out]; rfl⟩
        case measure => simp [intOf]; omega
      | false =>
        have hf : allIn l T = false := by
          unfold allIn
          rw [List.all_eq_false]
          exact ⟨x, by rw [← Hx.out]; exact List.getElem_mem hlt, by have := Hy.out; unfold isIn at this; rw [this]; simp⟩
        have Hf : Hid (allIn l T = false) := hf
        clear hf
        go_wp2
        go_ret
        rw [Hf.out]
        exact ⟨rfl, rfl⟩
    · have hf : allIn l T = true := by
        have := Hall.out
        rw [List.take_of_length_le (by omega)] at this
        exact this
      have Hf : Hid (allIn l T = true) := hf
      clear hf hin
      go_wp2
      go_ret
      rw [Hf.out]
      exact ⟨rfl, rfl⟩

theorem rdy_eq (B : List (List Nat)) (T : List Nat) (i : Nat) : Gp.rdy B T i = (!isIn T i && allIn (B.getD i []) T) := rfl

theorem marks_set {w : World} {bt n p : Nat} {T : List Nat} (h : w.rowIs bt 4 n (marks T)) : (w.setCell ⟨bt, p, none⟩ (.bool true)).rowIs bt 4 n (marks (T ++ [p])) := by
  refine (h.set p (.bool true)).congr fun i _ => ?_
  by_cases e : i = p
  · subst e; simp [marks, isIn]
  · simp [marks, isIn, e]

set_option maxRecDepth 100000 in
set_option maxHeartbeats 4000000 in
theorem scan_any (ao : Option Addr) (cap : Nat) (B : List (List Nat)) (w : World) (hM : GrAt w ao B) (hok : Gp.Ok B) (hn : B.length ≤ 10000000) (ht : Gp.tot B ≤ 10000000) :
    Calls Try.prog 8 #[.slice ao B.length cap] w fun e w' => ∃ bq, e = .returned (.slice (some ⟨bq, 0, none⟩) (Gp.order B).length B.length) ∧
      w'.ownsRow w.heap.size 3 1 (.slice (some ⟨bq, 0, none⟩) (Gp.order B).length B.length) (Gp.order B).length (nv (Gp.order B)) ∧ Below w.heap.size w w' := by
  obtain ⟨i0, hi0, hz0, hz1, hz2⟩ := info_parts Try.info3
  have hmk := run_make_row' (P := Try.prog) 29 4 (.bool false) 1 Try.underlying29 Try.info4 rfl .i64 .i64 B.length (by omega) (by omega)
  go_enter Try.func8, Try.ntmps8
  go_wp2_with (at_make; refine wpList_make_own _ rfl _ _ 24 rfl w.heap.size 3 i0 (.int .i64 0) 1 Try.underlying24 hi0 hz0 hz1 .i64 .i64 _ B.length rfl rfl rfl (by rw [hz2]; omega) (by unfold maxLen; omega) (by simp) ?_; intro w2 hown2 hgrow2)
  have hb2 : Below w.heap.size w w2 := ((Below.refl _ _).alloc (Nat.le_refl _) _).grown hgrow2 (by simp) (by simp)
  have hr2 : w2.rowIs w.heap.size 4 B.length (marks []) := ((World.rowIs_made w (.bool false) B.length 4).of_block (hgrow2.block w.heap.size (by simp) (by simp))).congr fun i _ => rfl
  have hsz : (w.alloc (.cells (madeCells #[.bool false] B.length) 4)).heap.size = w.heap.size + 1 := by simp
  rw [hsz] at hown2
  clear hgrow2 hmk hsz
  go_loopw [5, 6] (fun sv rv wr => ∃ T : List Nat, T.length ≤ B.length ∧ rv = .int .i64 T.length ∧ sv = .slice (some ⟨w.heap.size + 1, 0, none⟩) T.length B.length ∧ wr.ownsRow w.heap.size 3 1 (.slice (some ⟨w.heap.size + 1, 0, none⟩) T.length B.length) T.length (nv T) ∧
      wr.rowIs w.heap.size 4 B.length (marks T) ∧ Gp.Run B T ∧ Below w.heap.size w wr) (fun _ rv _ => B.length - (intOf rv).toNat)
  case atStart => exact ⟨[], Nat.zero_le _, rfl, rfl, hown2, hr2, Gp.Run.start B, hb2⟩
  case round =>
    clear hown2 hr2 hb2
    obtain ⟨T, hTl, rfl, rfl, hown, hrow, hrun, hb⟩ := hrel
    by_cases hlt : T.length < B.length
    · obtain ⟨b, o, rfl, hR0⟩ := hM (by omega)
      have hR := hR0.below hb
      go_wp2_with fail
      go_loop [7, 8] (fun pv kv => ∃ k : Nat, k ≤ B.length ∧ kv = .int .i64 k ∧ ((pv = .int .i64 (-1) ∧ ∀ j, j < k → Gp.rdy B T j = false) ∨ ∃ p : Nat, pv = .int .i64 p ∧ Gp.pick B T = some p)) (fun _ kv => B.length - (intOf kv).toNat)
      case atStart => exact ⟨0, Nat.zero_le _, rfl, .inl ⟨rfl, fun j hj => absurd hj (by omega)⟩⟩
      case round =>
        obtain ⟨k, hk, rfl, hcase⟩ := hrel
        rcases hcase with ⟨rfl, hno⟩ | ⟨p, rfl, hp⟩
        · have Hno : Hid (∀ j, j < k → Gp.rdy B T j = false) := hno
          clear hno
          by_cases hkl : k < B.length
          · obtain ⟨A, C, hc, hnats⟩ := hR k hkl
            have hm := hrow.cell hkl
            have hrl := Gp.row_le_tot B k
            have hin : ∀ p ∈ B.getD k [], p < B.length := hok k hkl
            have hrd := rdy_eq B T k
            obtain ⟨l, hl⟩ : ∃ l, B.getD k [] = l := ⟨_, rfl⟩
            rw [hl] at hc hnats hrl hrd hin
            clear hl
            obtain ⟨y, hy⟩ : ∃ y, isIn T k = y := ⟨_, rfl⟩
            simp only [marks, hy] at hm
            rw [hy] at hrd
            clear hy
            have kb0 : (0 : Int) ≤ (k : Int) := by omega
            have kb1 : (k : Int) < (B.length : Int) := by omega
            cases y with
            | true =>
              have Hrd : Hid (Gp.rdy B T k = false) := by rw [hrd]; rfl
              clear hrd hin
              go_wp2_with fail
              go_round
              case rel =>
                refine ⟨k + 1, by omega, by go_num, .inl ⟨rfl, fun j hj => ?_⟩⟩
                by_cases e : j = k
                · rw [e]; exact Hrd.out
                · exact Hno.out j (by omega)
              case measure => simp [intOf]; omega
            | false =>
              have Hrd : Hid (Gp.rdy B T k = allIn l T) := by rw [hrd]; rfl
              clear hrd
              obtain ⟨z, hz⟩ : ∃ z, allIn l T = z := ⟨_, rfl⟩
              have Hz : Hid (allIn l T = z) := hz
              clear hz
              cases z with
              | true =>
                go_wp2_with fail
                refine (alltaken_any A C l T w.heap.size B.length wr hnats (by omega) hrow hin).mono ?_
                rintro e w3 ⟨he, rfl⟩
                rw [Hz.out] at he
                subst he
                go_wp2_with fail
                go_round
                case rel =>
                  refine ⟨k + 1, by omega, by go_num, .inr ⟨k, rfl, Gp.pick_some.2 ⟨hkl, by rw [Hrd.out, Hz.out], Hno.out⟩⟩⟩
                case measure => simp [intOf]; omega
              | false =>
                go_wp2_with fail
                refine (alltaken_any A C l T w.heap.size B.length wr hnats (by omega) hrow hin).mono ?_
                rintro e w3 ⟨he, rfl⟩
                rw [Hz.out] at he
                subst he
                go_wp2_with fail
                go_round
                case rel =>
                  refine ⟨k + 1, by omega, by go_num, .inl ⟨rfl, fun j hj => ?_⟩⟩
                  by_cases e : j = k
                  · rw [e, Hrd.out]; exact Hz.out
                  · exact Hno.out j (by omega)
                case measure => simp [intOf]; omega
          · have hd := hrun.done (Gp.pick_none.2 fun j hj => Hno.out j (by omega))
            have Hd : Hid (Gp.order B = T) := hd
            clear hd
            have hkd : decide ((k : Int) < (B.length : Int)) = false := decide_eq_false (by omega)
            go_wp2_with fail
            go_ret
            rw [Hd.out]
            exact ⟨w.heap.size + 1, rfl, hown, hb⟩
        · have hpB := (Gp.pick_some.1 hp).1
          have hstep := hrun.step hp
          have Hp : Hid (Gp.pick B T = some p) := hp
          clear hp
          have hm := hrow.cell hpB
          have hfz := hrow.frozen p
          obtain ⟨y, hy⟩ : ∃ y, isIn T p = y := ⟨_, rfl⟩
          simp only [marks, hy] at hm
          clear hy
          have hr2 := marks_set (p := p) hrow
          have hown2 : (wr.setCell ⟨w.heap.size, p, none⟩ (.bool true)).ownsRow w.heap.size 3 1 (.slice (some ⟨w.heap.size + 1, 0, none⟩) T.length B.length) T.length (nv T) := ownsRow_setCell_other hown (by simp [Value.ownBlock]) _
          have hb2 : Below w.heap.size w (wr.setCell ⟨w.heap.size, p, none⟩ (.bool true)) := hb.setCell (Nat.le_refl _) _
          have pb0 : (0 : Int) ≤ (p : Int) := by omega
          have pb1 : (p : Int) < (B.length : Int) := by omega
          have hge : ¬ (p : Int) < 0 := by omega
          have hnew : ∀ j u, [Value.int .i64 (p : Int)][j]? = some u → ((wr.setCell ⟨w.heap.size, p, none⟩ (.bool true)).alloc (.cells #[.int .i64 (p : Int)] 3)).cell? ((⟨wr.heap.size, 0, none⟩ : Addr).add j) = some u := by
            have h0 := cell_one_new (wr.setCell ⟨w.heap.size, p, none⟩ (.bool true)) (.int .i64 (p : Int)) 3
            rw [World.size_setCell] at h0
            exact h0
          have Hnew : Hid (∀ j u, [Value.int .i64 (p : Int)][j]? = some u → ((wr.setCell ⟨w.heap.size, p, none⟩ (.bool true)).alloc (.cells #[.int .i64 (p : Int)] 3)).cell? ((⟨wr.heap.size, 0, none⟩ : Addr).add j) = some u) := hnew
          clear hrow hown hb hR hR0 hrun hnew
          by_cases hkd : (k : Int) < (B.length : Int)
          all_goals
            try have hkd2 : decide ((k : Int) < (B.length : Int)) = false := decide_eq_false hkd
            go_wp2_with (at_builtin; refine wpList_append_fits _ rfl _ _ 24 rfl w.heap.size 3 i0 1 Try.underlying24 hi0 hz1 (w.heap.size + 1) T.length B.length (nv T) rfl (hown2.alloc _) ⟨wr.heap.size, 0, none⟩ 1 1 [.int .i64 (p : Int)] rfl rfl Hnew.out (by simp [Value.oneCell']) (by omega) ?_; intro w6 hown6 hgrow6)
            have hr6 : w6.rowIs w.heap.size 4 B.length (marks (T ++ [p])) := (hr2.alloc _).of_block (hgrow6.block _ (hr2.alloc _).lt (by simp))
            have hb6 : Below w.heap.size w w6 := (hb2.alloc (by have := hb2.size; exact this) _).grown hgrow6 (by have := hb2.size; simp at this ⊢; omega) (fun i hi => by simp at hi; omega)
            clear hgrow6
            go_roundw
            case rel =>
              refine ⟨T ++ [p], by simp; omega, by simp, by simp, ?_, hr6, hstep, hb6⟩
              have e1 : (T ++ [p]).length = T.length + 1 := by simp
              have e2 : nv (T ++ [p]) = nv T ++ [.int .i64 (p : Int)] := by simp [nv]
              rw [e1, e2]; exact hown6
            case measure => simp [intOf]; omega
    · have hd := hrun.full (by omega)
      have Hd : Hid (Gp.order B = T) := hd
      clear hd
      go_wp2_with fail
      go_ret
      rw [Hd.out]
      exact ⟨w.heap.size + 1, rfl, hown, hb⟩
end Go.Proofs.Qxb6628252a
