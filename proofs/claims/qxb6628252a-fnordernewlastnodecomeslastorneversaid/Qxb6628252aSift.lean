import Derived.Test.Qxb6628252aLeaves
namespace Go.Proofs.Qxb6628252a
open Go.RowKit

set_option maxRecDepth 100000 in
set_option maxHeartbeats 1000000 in
theorem up_any (bs : Nat) (c0 c1 : Value) (base g n cap : Nat) (zs : List Int) (j : Nat) (w : World) (h : HAt w bs c0 c1 base g n cap zs) (hj : j < n) (hn : n ≤ 1000000000) (hup : Hp.Up zs j n) :
    Calls Try.prog 18 #[.iface 40 (.pointer (some ⟨bs, 2, none⟩)), .int .i64 j] w fun e w' => e = .returned (.tuple #[]) ∧ ∃ zs', HAt w' bs c0 c1 base g n cap zs' ∧ zs'.Perm zs ∧ Hp.Heap zs' n ∧ w.grownBy w' (some g) := by
  go_enter Try.func18, Try.ntmps18
  go_wp2_with fail
  go_loopw [1] (fun jv wr => ∃ (k : Nat) (ys : List Int), k < n ∧ jv = .int .i64 k ∧ HAt wr bs c0 c1 base g n cap ys ∧ ys.Perm zs ∧ Hp.Up ys k n ∧ w.grownBy wr (some g)) (fun jv _ => (intOf jv).toNat)
  case atStart => exact ⟨j, zs, hj, rfl, h, List.Perm.refl _, hup, grown_refl _ _⟩
  case round =>
    obtain ⟨k, ys, hk, rfl, hA, hp, hu, hg⟩ := hrel
    have hml := fun W => meth_less (b := bs) (o := 2) (w := W) (v := .slice (some ⟨g, 0, none⟩) n cap)
    have hms := fun W => meth_swap (b := bs) (o := 2) (w := W) (v := .slice (some ⟨g, 0, none⟩) n cap)
    have hc := hA.head
    by_cases hk0 : k = 0
    · subst hk0
      go_wp2_with fail
      go_end0
      exact ⟨rfl, ys, hA, hp, Hp.up_stop hu (.inl rfl), hg⟩
    · obtain ⟨i, hi⟩ : ∃ i, i = (k - 1) / 2 := ⟨_, rfl⟩
      have hi1 : ((k - 1 : Nat) : Int) / 2 = (i : Int) := by omega
      have hi2 : ((k : Int) - 1) / 2 = (i : Int) := by omega
      have hik : ((i : Int) == (k : Int)) = false := by simp; omega
      have hin : i < n := by omega
      have hlen := hA.len
      have Hi : Hid (i = (k - 1) / 2) := hi
      clear hi
      by_cases hlt : ys.getD k 0 < ys.getD i 0
      · have hgo : Hp.Up (Hp.swp ys i k) i n := by
          have := Hp.up_go (d := ys) (j := k) (n := n) (by omega) (by omega) hk hu (by rw [← Hi.out]; exact hlt)
          rw [← Hi.out] at this; exact this
        have hpp : (Hp.swp ys i k).Perm zs := (Hp.perm_swp ys i k (by omega) (by omega)).trans hp
        have hd : decide (ys.getD k 0 < ys.getD i 0) = true := by simpa using hlt
        go_wp2_with fail
        refine (less_own hA k i hk hin).mono ?_
        rintro e w1 ⟨rfl, q, rfl⟩
        rw [hd]
        go_wp2_with fail
        refine (swap_own (hA.drewN q) i k hin hk).mono ?_
        rintro e w1 ⟨rfl, hA', hg'⟩
        go_wp2_with fail
        go_roundw
        case rel => exact ⟨i, _, hin, rfl, hA', hpp, hgo, grown_trans (grown_drewN hg q) hg'⟩
        case measure => simp [intOf]; have := Hi.out; omega
      · have hst := Hp.up_stop hu (.inr (by rw [← Hi.out]; omega))
        have hd : decide (ys.getD k 0 < ys.getD i 0) = false := by simpa using hlt
        go_wp2_with fail
        refine (less_own hA k i hk hin).mono ?_
        rintro e w1 ⟨rfl, q, rfl⟩
        rw [hd]
        go_wp2_with fail
        go_end0
        exact ⟨rfl, ys, hA.drewN q, hp, hst, grown_drewN hg q⟩

set_option maxRecDepth 100000 in
set_option maxHeartbeats 4000000 in
theorem down_any (bs : Nat) (c0 c1 : Value) (base g n cap : Nat) (zs : List Int) (w : World) (h : HAt w bs c0 c1 base g (n + 1) cap zs) (hn : n ≤ 1000000000) (hdn : Hp.Dn zs 0 n) :
    Calls Try.prog 19 #[.iface 40 (.pointer (some ⟨bs, 2, none⟩)), .int .i64 0, .int .i64 n] w fun e w' => (∃ b, e = .returned (.bool b)) ∧ ∃ zs', HAt w' bs c0 c1 base g (n + 1) cap zs' ∧ zs'.Perm zs ∧ Hp.Heap zs' n ∧ zs'.getD n 0 = zs.getD n 0 ∧ w.grownBy w' (some g) := by
  go_enter Try.func19, Try.ntmps19
  go_wp2_with fail
  go_loopw [7] (fun iv wr => ∃ (k : Nat) (ys : List Int), k ≤ n ∧ iv = .int .i64 k ∧ HAt wr bs c0 c1 base g (n + 1) cap ys ∧ ys.Perm zs ∧ Hp.Dn ys k n ∧ ys.getD n 0 = zs.getD n 0 ∧ w.grownBy wr (some g)) (fun iv _ => n - (intOf iv).toNat)
  case atStart => exact ⟨0, zs, Nat.zero_le _, rfl, h, List.Perm.refl _, hdn, rfl, grown_refl _ _⟩
  case round =>
    obtain ⟨k, ys, hk, rfl, hA, hp, hu, hla, hg⟩ := hrel
    have hml := fun W => meth_less (b := bs) (o := 2) (w := W) (v := .slice (some ⟨g, 0, none⟩) (n + 1) cap)
    have hms := fun W => meth_swap (b := bs) (o := 2) (w := W) (v := .slice (some ⟨g, 0, none⟩) (n + 1) cap)
    have hc := hA.head
    have Hla : Hid (ys.getD n 0 = zs.getD n 0) := hla
    clear hla
    have hlen := hA.len
    have Hlen : Hid (ys.length = n + 1) := hlen
    clear hlen
    obtain ⟨j1, hj1⟩ : ∃ j1, j1 = 2 * k + 1 := ⟨_, rfl⟩
    obtain ⟨j2, hj2⟩ : ∃ j2, j2 = j1 + 1 := ⟨_, rfl⟩
    have e1 : 2 * (k : Int) + 1 = (j1 : Int) := by omega
    have e2 : (j1 : Int) + 1 = (j2 : Int) := by omega
    have H1 : Hid (j1 = 2 * k + 1) := hj1
    have H2 : Hid (j2 = j1 + 1) := hj2
    clear hj1 hj2
    by_cases hb : n ≤ j1
    · have hst := Hp.dn_leaf hu (by rw [← H1.out]; exact hb)
      have hb' : (n : Int) ≤ (j1 : Int) := by omega
      go_wp2_with fail
      go_ret
      exact ⟨⟨_, rfl⟩, ys, hA, hp, hst, Hla.out, hg⟩
    · have hb' : ¬ (n : Int) ≤ (j1 : Int) := by omega
      by_cases h2 : j2 < n ∧ ys.getD j2 0 < ys.getD j1 0
      · obtain ⟨h2, hl2⟩ := h2
        have hd2 : decide (ys.getD j2 0 < ys.getD j1 0) = true := by simpa using hl2
        have h2' : (j2 : Int) < (n : Int) := by omega
        go_wp2_with fail
        refine (less_own hA j2 j1 (by omega) (by omega)).mono ?_
        rintro e w1 ⟨rfl, q, rfl⟩
        rw [hd2]
        go_wp2_with fail
        have hmin : ∀ c, 0 < c → c < n → (c - 1) / 2 = k → ys.getD j2 0 ≤ ys.getD c 0 := by
          intro c h0 hc hpc
          have := H1.out; have := H2.out
          rcases (show c = j1 ∨ c = j2 by omega) with rfl | rfl
          · omega
          · omega
        by_cases hlt : ys.getD j2 0 < ys.getD k 0
        · have hgo := Hp.dn_go (d := ys) (i := k) (j := j2) (n := n) (by have := Hlen.out; omega) (by omega) (by omega) (by have := H1.out; have := H2.out; omega) hu hmin hlt
          have hpp : (Hp.swp ys k j2).Perm zs := (Hp.perm_swp ys k j2 (by have := Hlen.out; omega) (by have := Hlen.out; omega)).trans hp
          have hla2 : (Hp.swp ys k j2).getD n 0 = zs.getD n 0 := by
            rw [Hp.getD_swp ys k j2 n (by have := Hlen.out; omega) (by have := Hlen.out; omega), if_neg (by omega), if_neg (by omega)]; exact Hla.out
          have Hla2 : Hid ((Hp.swp ys k j2).getD n 0 = zs.getD n 0) := hla2
          clear hla2
          have hd : decide (ys.getD j2 0 < ys.getD k 0) = true := by simpa using hlt
          refine (less_own (hA.drewN q) j2 k (by omega) (by omega)).mono ?_
          rintro e w1 ⟨rfl, q2, rfl⟩
          rw [hd]
          go_wp2_with fail
          refine (swap_own (hA.drewN _) k j2 (by omega) (by omega)).mono ?_
          rintro e w1 ⟨rfl, hA', hg'⟩
          go_wp2_with fail
          go_roundw
          case rel => exact ⟨j2, _, by omega, rfl, hA', hpp, hgo, Hla2.out, grown_trans (grown_drewN hg _) hg'⟩
          case measure => simp [intOf]; have := H1.out; have := H2.out; omega
        · have hst := Hp.dn_stop hu hmin (by omega)
          have hd : decide (ys.getD j2 0 < ys.getD k 0) = false := by simpa using hlt
          refine (less_own (hA.drewN q) j2 k (by omega) (by omega)).mono ?_
          rintro e w1 ⟨rfl, q2, rfl⟩
          rw [hd]
          go_wp2_with fail
          go_ret
          exact ⟨⟨_, rfl⟩, ys, hA.drewN _, hp, hst, Hla.out, grown_drewN hg _⟩
      · by_cases h3 : j2 < n
        · have hl2 : ¬ ys.getD j2 0 < ys.getD j1 0 := fun hh => h2 ⟨h3, hh⟩
          have hd2 : decide (ys.getD j2 0 < ys.getD j1 0) = false := by simpa using hl2
          have h2' : (j2 : Int) < (n : Int) := by omega
          clear h2
          have hmin : ∀ c, 0 < c → c < n → (c - 1) / 2 = k → ys.getD j1 0 ≤ ys.getD c 0 := by
            intro c h0 hc hpc
            have := H1.out; have := H2.out
            rcases (show c = j1 ∨ c = j2 by omega) with rfl | rfl
            · omega
            · omega
          go_wp2_with fail
          refine (less_own hA j2 j1 (by omega) (by omega)).mono ?_
          rintro e w1 ⟨rfl, q, rfl⟩
          rw [hd2]
          go_wp2_with fail
          by_cases hlt : ys.getD j1 0 < ys.getD k 0
          · have hgo := Hp.dn_go (d := ys) (i := k) (j := j1) (n := n) (by have := Hlen.out; omega) (by omega) (by omega) (by have := H1.out; have := H2.out; omega) hu hmin hlt
            have hpp : (Hp.swp ys k j1).Perm zs := (Hp.perm_swp ys k j1 (by have := Hlen.out; omega) (by have := Hlen.out; omega)).trans hp
            have hla2 : (Hp.swp ys k j1).getD n 0 = zs.getD n 0 := by
              rw [Hp.getD_swp ys k j1 n (by have := Hlen.out; omega) (by have := Hlen.out; omega), if_neg (by omega), if_neg (by omega)]; exact Hla.out
            have Hla2 : Hid ((Hp.swp ys k j1).getD n 0 = zs.getD n 0) := hla2
            clear hla2
            have hd : decide (ys.getD j1 0 < ys.getD k 0) = true := by simpa using hlt
            refine (less_own (hA.drewN q) j1 k (by omega) (by omega)).mono ?_
            rintro e w1 ⟨rfl, q2, rfl⟩
            rw [hd]
            go_wp2_with fail
            refine (swap_own (hA.drewN _) k j1 (by omega) (by omega)).mono ?_
            rintro e w1 ⟨rfl, hA', hg'⟩
            go_wp2_with fail
            go_roundw
            case rel => exact ⟨j1, _, by omega, rfl, hA', hpp, hgo, Hla2.out, grown_trans (grown_drewN hg _) hg'⟩
            case measure => simp [intOf]; have := H1.out; have := H2.out; omega
          · have hst := Hp.dn_stop hu hmin (by omega)
            have hd : decide (ys.getD j1 0 < ys.getD k 0) = false := by simpa using hlt
            refine (less_own (hA.drewN q) j1 k (by omega) (by omega)).mono ?_
            rintro e w1 ⟨rfl, q2, rfl⟩
            rw [hd]
            go_wp2_with fail
            go_ret
            exact ⟨⟨_, rfl⟩, ys, hA.drewN _, hp, hst, Hla.out, grown_drewN hg _⟩
        · have h2' : decide ((j2 : Int) < (n : Int)) = false := decide_eq_false (by omega)
          clear h2
          have hmin : ∀ c, 0 < c → c < n → (c - 1) / 2 = k → ys.getD j1 0 ≤ ys.getD c 0 := by
            intro c h0 hc hpc
            have := H1.out; have := H2.out
            rcases (show c = j1 by omega) with rfl
            omega
          go_wp2_with fail
          by_cases hlt : ys.getD j1 0 < ys.getD k 0
          · have hgo := Hp.dn_go (d := ys) (i := k) (j := j1) (n := n) (by have := Hlen.out; omega) (by omega) (by omega) (by have := H1.out; have := H2.out; omega) hu hmin hlt
            have hpp : (Hp.swp ys k j1).Perm zs := (Hp.perm_swp ys k j1 (by have := Hlen.out; omega) (by have := Hlen.out; omega)).trans hp
            have hla2 : (Hp.swp ys k j1).getD n 0 = zs.getD n 0 := by
              rw [Hp.getD_swp ys k j1 n (by have := Hlen.out; omega) (by have := Hlen.out; omega), if_neg (by omega), if_neg (by omega)]; exact Hla.out
            have Hla2 : Hid ((Hp.swp ys k j1).getD n 0 = zs.getD n 0) := hla2
            clear hla2
            have hd : decide (ys.getD j1 0 < ys.getD k 0) = true := by simpa using hlt
            refine (less_own hA j1 k (by omega) (by omega)).mono ?_
            rintro e w1 ⟨rfl, q2, rfl⟩
            rw [hd]
            go_wp2_with fail
            refine (swap_own (hA.drewN _) k j1 (by omega) (by omega)).mono ?_
            rintro e w1 ⟨rfl, hA', hg'⟩
            go_wp2_with fail
            go_roundw
            case rel => exact ⟨j1, _, by omega, rfl, hA', hpp, hgo, Hla2.out, grown_trans (grown_drewN hg _) hg'⟩
            case measure => simp [intOf]; have := H1.out; have := H2.out; omega
          · have hst := Hp.dn_stop hu hmin (by omega)
            have hd : decide (ys.getD j1 0 < ys.getD k 0) = false := by simpa using hlt
            refine (less_own hA j1 k (by omega) (by omega)).mono ?_
            rintro e w1 ⟨rfl, q2, rfl⟩
            rw [hd]
            go_wp2_with fail
            go_ret
            exact ⟨⟨_, rfl⟩, ys, hA.drewN _, hp, hst, Hla.out, grown_drewN hg _⟩

end Go.Proofs.Qxb6628252a
