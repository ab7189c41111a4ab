/-
  decodeSemiOctets, allDigits, equalBytesString. By an AI agent.
-/
import Derived.Test.Qxb6630601aAppend
import Derived.Deep.CutRange
namespace Go.Proofs.Qxb6630601a
open Go.RowKit

def isD (c : UInt8) : Bool := decide (48 ≤ c.toNat) && decide (c.toNat ≤ 57)
def allD (l : List UInt8) : Bool := l.all isD
theorem isD_iff (c : UInt8) : isD c = true ↔ 48 ≤ (c.toNat : Int) ∧ (c.toNat : Int) ≤ 57 := by simp [isD]; omega
theorem allD_take_succ {l : List UInt8} {k : Nat} (hk : k < l.length) (h : allD (l.take k) = true) (hd : isD l[k] = true) : allD (l.take (k + 1)) = true := by
  unfold allD at *
  rw [List.take_succ_eq_append_getElem hk, List.all_append, h]; simp [hd]

set_option maxHeartbeats 400000 in
theorem digits_any (s : ByteArray) (w : World) (hs : s.size ≤ 1048576) :
    Calls Try.prog 10 #[.string s] w (Says (allD s.data.toList = true) w) := by
  go_enter Try.func10, Try.ntmps10
  go_wp2
  go_loop [3] (fun i => ∃ k : Nat, k ≤ s.size ∧ i = .int .i64 k ∧ allD (s.data.toList.take k) = true) (fun i => s.size - (intOf i).toNat)
  case atStart => exact ⟨0, Nat.zero_le _, rfl, by simp [allD]⟩
  case round =>
    obtain ⟨k, hk, rfl, hall⟩ := hrel
    have Hall : Hid (allD (s.data.toList.take k) = true) := hall
    clear hall
    by_cases hlt : k < s.size
    · have hl : k < s.data.toList.length := by simpa using hlt
      by_cases h1 : (s[k].toNat : Int) < 48
      · go_wp2
        go_ret
        exact Says.no rfl rfl
      have h1' : decide ((s[k].toNat : Int) < 48) = false := decide_eq_false h1
      by_cases h2 : 57 < (s[k].toNat : Int)
      · go_wp2
        go_ret
        exact Says.no rfl rfl
      have hd := allD_take_succ hl Hall.out ((isD_iff s[k]).2 ⟨by omega, by omega⟩)
      have Hd : Hid (allD (s.data.toList.take (k + 1)) = true) := hd
      clear hd
      go_wp2
      go_round
      case rel => exact ⟨k + 1, by omega, by go_num, Hd.out⟩
      case measure => simp [intOf]; omega
    · have hA : allD s.data.toList = true := by
        have := Hall.out
        rw [List.take_of_length_le (by simp; omega)] at this
        exact this
      have HA : Hid (allD s.data.toList = true) := hA
      clear hA
      go_wp2
      go_ret
      exact Says.yes rfl HA.out rfl

def nums (l : List UInt8) : List Int := l.map fun c => (c.toNat : Int)
theorem nums_get (s : ByteArray) (k : Nat) (h : k < s.size) : (nums s.data.toList).getD k 0 = (s[k].toNat : Int) := by
  have hl : k < s.data.toList.length := by simpa using h
  unfold nums
  rw [List.getD_eq_getElem?_getD, List.getElem?_map, List.getElem?_eq_getElem hl]
  rfl

set_option maxRecDepth 100000 in
set_option maxHeartbeats 1000000 in
theorem eqs_any (a : Option Addr) (c : Nat) (s : ByteArray) (w : World) (h : RowAt w a (nums s.data.toList)) (hs : s.size ≤ 1048576) :
    Calls Try.prog 12 #[.slice a s.size c, .string s] w fun e w' => e = .returned (.bool true) ∧ ∃ q, w' = w.drewN q := by
  have HL : Hid ((nums s.data.toList).length = s.size) := by simp [nums, Hid]
  have HR : Hid (RowAt w a (nums s.data.toList)) := h
  clear h
  go_enter Try.func12, Try.ntmps12
  go_wp2_with fail
  go_loopw [5] (fun i wr => ∃ k q : Nat, k ≤ s.size ∧ i = .int .i64 k ∧ wr = w.drewN q) (fun i _ => s.size - (intOf i).toNat)
  case atStart => exact ⟨0, 0, Nat.zero_le _, rfl, rfl⟩
  case round =>
    obtain ⟨k, q, hk, rfl, rfl⟩ := hrel
    by_cases hlt : k < s.size
    · obtain ⟨b, o, rfl, hc⟩ := HR.out (by rw [HL.out]; omega)
      have h1 := hc k (by rw [HL.out]; omega)
      rw [nums_get s k hlt] at h1
      clear hc HR
      have g1 : (k : Int) < (s.size : Int) := by omega
      have g3 : (0 : Int) ≤ (k : Int) := by omega
      go_wp2_with fail
      go_quiet (fail)
      go_wp2
      go_roundw
      case rel => exact ⟨k + 1, _, by omega, by go_num, rfl⟩
      case measure => simp [intOf]; omega
    · go_wp2
      go_ret
      exact ⟨rfl, q, rfl⟩

theorem enc_at_two : ∀ (k : Nat) (L : List UInt8) (c d : UInt8), L[2 * k]? = some c → L[2 * k + 1]? = some d → (enc L).getD k 0 = two c d
  | _, [], _, _, h, _ => by simp at h
  | 0, [_], _, _, _, h' => by simp at h'
  | k + 1, [_], _, _, h, _ => by simp [Nat.mul_add] at h
  | 0, c' :: d' :: r, c, d, h, h' => by
    simp at h h'
    simp [enc, h, h']
  | k + 1, c' :: d' :: r, c, d, h, h' => by
    have := enc_at_two k r c d (by simpa [Nat.mul_add] using h) (by simpa [Nat.mul_add] using h')
    simpa [enc] using this
theorem enc_at_one : ∀ (k : Nat) (L : List UInt8) (c : UInt8), L[2 * k]? = some c → L[2 * k + 1]? = none → (enc L).getD k 0 = one c
  | _, [], _, h, _ => by simp at h
  | 0, [c'], c, h, _ => by
    simp at h
    simp [enc, h]
  | k + 1, [_], _, h, _ => by simp [Nat.mul_add] at h
  | 0, c' :: d' :: r, c, _, h' => by simp at h'
  | k + 1, c' :: d' :: r, c, h, h' => by
    have := enc_at_one k r c (by simpa [Nat.mul_add] using h) (by simpa [Nat.mul_add] using h')
    simpa [enc] using this

theorem two_all : ∀ x y : Fin 10, bits BinOp.and IntKind.u8 (bits BinOp.or IntKind.u8 ((((48 + y.val : Nat) : Int) - 48) % 256 * 16 % 256) ((((48 + x.val : Nat) : Int) - 48) % 256)) 15 = (x.val : Int) ∧
    bits BinOp.or IntKind.u8 ((((48 + y.val : Nat) : Int) - 48) % 256 * 16 % 256) ((((48 + x.val : Nat) : Int) - 48) % 256) / 16 = (y.val : Int) := by decide
theorem one_all : ∀ x : Fin 10, bits BinOp.and IntKind.u8 (bits BinOp.or IntKind.u8 240 ((((48 + x.val : Nat) : Int) - 48) % 256)) 15 = (x.val : Int) ∧
    bits BinOp.or IntKind.u8 240 ((((48 + x.val : Nat) : Int) - 48) % 256) / 16 = 15 := by decide

theorem two_back {c d : UInt8} (hc : 48 ≤ c.toNat ∧ c.toNat ≤ 57) (hd : 48 ≤ d.toNat ∧ d.toNat ≤ 57) :
    bits BinOp.and IntKind.u8 (two c d) 15 = (c.toNat : Int) - 48 ∧ two c d / 16 = (d.toNat : Int) - 48 := by
  have h := two_all ⟨c.toNat - 48, by omega⟩ ⟨d.toNat - 48, by omega⟩
  have e1 : 48 + (c.toNat - 48) = c.toNat := by omega
  have e2 : 48 + (d.toNat - 48) = d.toNat := by omega
  simp only [e1, e2] at h
  unfold two
  exact ⟨h.1.trans (by omega), h.2.trans (by omega)⟩
theorem one_back {c : UInt8} (hc : 48 ≤ c.toNat ∧ c.toNat ≤ 57) : bits BinOp.and IntKind.u8 (one c) 15 = (c.toNat : Int) - 48 ∧ one c / 16 = 15 := by
  have h := one_all ⟨c.toNat - 48, by omega⟩
  have e1 : 48 + (c.toNat - 48) = c.toNat := by omega
  simp only [e1] at h
  unfold one
  exact ⟨h.1.trans (by omega), h.2⟩

theorem allD_at {l : List UInt8} (h : allD l = true) {k : Nat} (hk : k < l.length) : 48 ≤ l[k].toNat ∧ l[k].toNat ≤ 57 := by
  unfold allD at h
  rw [List.all_eq_true] at h
  have := h l[k] (List.getElem_mem hk)
  simpa [isD] using this
theorem nums_two {l : List UInt8} {k : Nat} (h : 2 * k + 1 < l.length) : nums (l.take (2 * (k + 1))) = nums (l.take (2 * k)) ++ [(l[2 * k].toNat : Int), (l[2 * k + 1].toNat : Int)] := by
  rw [show 2 * (k + 1) = 2 * k + 2 by omega, take_two h]
  simp [nums]
theorem nums_one {l : List UInt8} {k : Nat} (h : 2 * k < l.length) (h2 : ¬ 2 * k + 1 < l.length) : nums (l.take (2 * (k + 1))) = nums (l.take (2 * k)) ++ [(l[2 * k].toNat : Int)] := by
  have := List.take_succ_eq_append_getElem h
  rw [show 2 * (k + 1) = (2 * k + 1) + 1 by omega, List.take_of_length_le (by omega)]
  rw [List.take_of_length_le (by omega)] at this
  conv => lhs; rw [this]
  unfold nums
  rw [List.map_append]
  rfl

set_option maxRecDepth 100000 in
set_option maxHeartbeats 1000000 in
theorem dec_any (a : Option Addr) (c : Nat) (s : ByteArray) (w : World) (h : RowAt w a (enc s.data.toList)) (hs : s.size ≤ 1048576) (hd : allD s.data.toList = true) :
    Calls Try.prog 11 #[.slice a ((s.size + 1) / 2) c] w fun e w' => ∃ v, e = .returned (.tuple #[v, .bool true]) ∧ w'.ownsRow w.heap.size 5 1 v s.size (vals (nums s.data.toList)) ∧ Below w.heap.size w w' := by
  obtain ⟨i0, hi0, hz0, hz1, hz2⟩ := info_parts Try.info5
  obtain ⟨m, hm⟩ : ∃ m, m = (s.size + 1) / 2 := ⟨_, rfl⟩
  have HM : Hid (m = (s.size + 1) / 2) := hm
  have HR : Hid (RowAt w a (enc s.data.toList)) := h
  have HD : Hid (allD s.data.toList = true) := hd
  rw [← hm]
  have hm2 : m ≤ 600000 := by omega
  clear h hd hm
  go_enter Try.func11, Try.ntmps11
  go_wp2_with (at_make; refine wpList_make_own _ rfl _ _ 22 rfl w.heap.size 5 i0 _ 1 Try.underlying22 hi0 hz0 hz1 .i64 .i64 (2 * (m : Int)) (2 * m) rfl rfl (by omega) (by rw [hz2]; omega) (by unfold maxLen; omega) (Nat.le_refl _) ?_; intro w2 hown2 hgrow2)
  have HO2 : Hid (w2.ownsRow w.heap.size 5 1 (.slice (some ⟨w.heap.size, 0, none⟩) 0 (2 * m)) 0 []) := hown2
  have HB2 : Hid (Below w.heap.size w w2) := (Below.refl _ _).grown hgrow2 (Nat.le_refl _) (fun k hk => by cases hk)
  clear hown2 hgrow2
  go_loopw [4, 5] (fun v i wr => ∃ (k n : Nat), i = .int .i64 (k : Int) ∧ k ≤ m ∧ wr.ownsRow w.heap.size 5 1 v n (vals (nums (s.data.toList.take (2 * k)))) ∧ Below w.heap.size w wr) (fun _ i _ => m - (intOf i).toNat)
  case atStart => exact ⟨0, 0, rfl, by omega, HO2.out, HB2.out⟩
  case round =>
    obtain ⟨k, n, rfl, hk, ho, hb⟩ := hrel
    have HO : Hid (wr.ownsRow w.heap.size 5 1 u4 n (vals (nums (s.data.toList.take (2 * k))))) := ho
    have HB : Hid (Below w.heap.size w wr) := hb
    have hrow := HR.out.below (w' := wr) hb
    have hnk : n ≤ 2 * k := by
      have := ho.1
      rw [vals_len] at this
      simp [nums] at this
      omega
    clear ho hb HO2 HB2
    by_cases hlt : k < m
    · have hks : 2 * k < s.size := by have := HM.out; omega
      obtain ⟨b, o, rfl, hc⟩ := hrow (by rw [enc_len]; simp; omega)
      have hcell := hc k (by rw [enc_len]; have := HM.out; simp; omega)
      clear hc hrow
      obtain ⟨z, hz⟩ : ∃ z, z = (enc s.data.toList).getD k 0 := ⟨_, rfl⟩
      rw [← hz] at hcell
      have HZ : Hid (z = (enc s.data.toList).getD k 0) := hz
      clear hz
      have hsl : s.data.toList.length = s.size := by simp
      have hbs : w.heap.size ≤ wr.heap.size := HB.out.size
      by_cases hlt2 : 2 * k + 1 < s.size
      · obtain ⟨x, hx⟩ : ∃ x : Int, x = ((s.data.toList[2 * k]'(by omega)).toNat : Int) := ⟨_, rfl⟩
        obtain ⟨y, hy⟩ : ∃ y : Int, y = ((s.data.toList[2 * k + 1]'(by omega)).toNat : Int) := ⟨_, rfl⟩
        have hcx := allD_at HD.out (k := 2 * k) (by omega)
        have hcy := allD_at HD.out (k := 2 * k + 1) (by omega)
        have hbk := two_back hcx hcy
        rw [← enc_at_two k s.data.toList _ _ (List.getElem?_eq_getElem (by omega)) (List.getElem?_eq_getElem (by omega)), ← HZ.out, ← hx, ← hy] at hbk
        have HN : Hid (nums (s.data.toList.take (2 * (k + 1))) = nums (s.data.toList.take (2 * k)) ++ [x, y]) := by
          rw [hx, hy]
          exact nums_two (by omega)
        have x0 : 48 ≤ x := by omega
        have x1 : x ≤ 57 := by omega
        have y0 : 48 ≤ y := by omega
        have y1 : y ≤ 57 := by omega
        obtain ⟨hlo, hhi⟩ := hbk
        obtain ⟨p, hp⟩ : ∃ p, x = 48 + p := ⟨x - 48, by omega⟩
        obtain ⟨q, hq⟩ : ∃ q, y = 48 + q := ⟨y - 48, by omega⟩
        subst hp hq
        rw [show (48 : Int) + p - 48 = p by omega] at hlo
        rw [show (48 : Int) + q - 48 = q by omega] at hhi
        clear hx hy hcx hcy HZ HR HD
        have p0 : 0 ≤ p := by omega
        have p1 : p ≤ 9 := by omega
        have q0 : 0 ≤ q := by omega
        have q1 : q ≤ 9 := by omega
        have q15 : (q == 15) = false := beq_eq_false_iff_ne.2 (by omega)
        clear x0 x1 y0 y1
        go_wp2_with (first
          | (at_builtin; refine wpList_append_own _ rfl (.tmp 44) (.tmp 47) 22 rfl w.heap.size 5 i0 _ 1 1 Try.underlying22 hi0 hz0 hz1 hz2 rfl (by omega) v3 (n + 1) _ rfl (HO3.out.alloc _) ⟨w3.heap.size, 0, none⟩ 1 1 [.int .u8 (48 + q)] rfl rfl (World.news_of_block (cs := #[.int .u8 (48 + q)]) (t := 5) (fr := (0, 0)) (heap_alloc_new w3 _)) (by simp [Value.oneCell']) (by unfold maxLen; omega) (by omega) (by simp; omega) ?_; intro v4 w4 hown4 hgrow4 hnil4; have HO4 : Hid (w4.ownsRow w.heap.size 5 1 v4 (n + 1 + 1) (vals (nums (s.data.toList.take (2 * k))) ++ [.int .u8 (48 + p)] ++ [.int .u8 (48 + q)])) := hown4; have HB4 : Hid (Below w.heap.size w w4) := (HB3.out.alloc hbs3 _).grown hgrow4 (by simp; omega) (fun i hi => (HO3.out.lt i hi).1); clear hown4 hgrow4 hnil4)
          | (at_builtin; refine wpList_append_own _ rfl (.tmp 30) (.tmp 33) 22 rfl w.heap.size 5 i0 _ 1 1 Try.underlying22 hi0 hz0 hz1 hz2 rfl (by omega) u4 n _ rfl (HO.out.alloc _) ⟨wr.heap.size, 0, none⟩ 1 1 [.int .u8 (48 + p)] rfl rfl (World.news_of_block (cs := #[.int .u8 (48 + p)]) (t := 5) (fr := (0, 0)) (heap_alloc_new wr _)) (by simp [Value.oneCell']) (by unfold maxLen; omega) (by omega) (by simp; omega) ?_; intro v3 w3 hown3 hgrow3 hnil3; have HO3 : Hid (w3.ownsRow w.heap.size 5 1 v3 (n + 1) (vals (nums (s.data.toList.take (2 * k))) ++ [.int .u8 (48 + p)])) := hown3; have HB3 : Hid (Below w.heap.size w w3) := (HB.out.alloc hbs _).grown hgrow3 (by simp; omega) (fun i hi => (HO.out.lt i hi).1); have hbs3 : w.heap.size ≤ w3.heap.size := HB3.out.size; clear hown3 hgrow3 hnil3))
        refine ⟨⟨k + 1, n + 1 + 1, by go_num, by omega, ?_, HB4.out⟩, ?_⟩
        · rw [HN.out, vals_append]
          have := HO4.out
          rw [List.append_assoc] at this
          exact this
        · simp [intOf]; omega
      · obtain ⟨x, hx⟩ : ∃ x : Int, x = ((s.data.toList[2 * k]'(by omega)).toNat : Int) := ⟨_, rfl⟩
        have hcx := allD_at HD.out (k := 2 * k) (by omega)
        have hbk := one_back hcx
        rw [← enc_at_one k s.data.toList _ (List.getElem?_eq_getElem (by omega)) (List.getElem?_eq_none (by omega)), ← HZ.out, ← hx] at hbk
        have HN : Hid (nums (s.data.toList.take (2 * (k + 1))) = nums (s.data.toList.take (2 * k)) ++ [x]) := by
          rw [hx]
          exact nums_one (by omega) (by omega)
        have x0 : 48 ≤ x := by omega
        have x1 : x ≤ 57 := by omega
        obtain ⟨hlo, hhi⟩ := hbk
        obtain ⟨p, hp⟩ : ∃ p, x = 48 + p := ⟨x - 48, by omega⟩
        subst hp
        rw [show (48 : Int) + p - 48 = p by omega] at hlo
        have p0 : 0 ≤ p := by omega
        have p1 : p ≤ 9 := by omega
        have hkm : m ≤ k + 1 := by have := HM.out; omega
        have hkn : ((k : Int) == (m : Int) - 1) = true := beq_iff_eq.2 (by omega)
        have hko : ((k : Int) != (m : Int) - 1) = false := by rw [bne, hkn]; rfl
        clear hx hcx HZ HR HD x0 x1
        go_wp2_with (at_builtin; refine wpList_append_own _ rfl (.tmp 30) (.tmp 33) 22 rfl w.heap.size 5 i0 _ 1 1 Try.underlying22 hi0 hz0 hz1 hz2 rfl (by omega) u4 n _ rfl (HO.out.alloc _) ⟨wr.heap.size, 0, none⟩ 1 1 [.int .u8 (48 + p)] rfl rfl (World.news_of_block (cs := #[.int .u8 (48 + p)]) (t := 5) (fr := (0, 0)) (heap_alloc_new wr _)) (by simp [Value.oneCell']) (by unfold maxLen; omega) (by omega) (by simp; omega) ?_; intro v3 w3 hown3 hgrow3 hnil3; have HO3 : Hid (w3.ownsRow w.heap.size 5 1 v3 (n + 1) (vals (nums (s.data.toList.take (2 * k))) ++ [.int .u8 (48 + p)])) := hown3; have HB3 : Hid (Below w.heap.size w w3) := (HB.out.alloc hbs _).grown hgrow3 (by simp; omega) (fun i hi => (HO.out.lt i hi).1); have hbs3 : w.heap.size ≤ w3.heap.size := HB3.out.size; clear hown3 hgrow3 hnil3)
        refine ⟨⟨k + 1, n + 1, by go_num, by omega, ?_, HB3.out⟩, ?_⟩
        · rw [HN.out, vals_append]
          exact HO3.out
        · simp [intOf]; omega
    · have hkm : k = m := by omega
      subst hkm
      have HL : Hid (s.data.toList.take (2 * k) = s.data.toList) := by
        have := HM.out
        exact List.take_of_length_le (by simp; omega)
      go_wp2_with fail
      refine bodyPost_ret (v := .tuple #[u4, .bool true]) (by simp [results, Try.results11, go_sem]) rfl ⟨_, rfl, ?_, HB.out⟩
      have h1 := HO.out
      rw [HL.out] at h1
      have h2 : n = s.size := by
        have := h1.1
        rw [vals_len] at this
        simp [nums] at this
        omega
      rw [← h2]
      exact h1
end Go.Proofs.Qxb6630601a
