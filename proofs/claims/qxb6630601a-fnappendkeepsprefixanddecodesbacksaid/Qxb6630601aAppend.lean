/-
  tbcd.Append: the packed digits, plainly; the walk. By an AI agent.
-/
import Derived.Test.Qxb6630601aLeaves
namespace Go.Proofs.Qxb6630601a
open Go.RowKit

/-- Two digits in a byte, as the Go text packs them. -/
def two (c d : UInt8) : Int := bits BinOp.or IntKind.u8 (((d.toNat : Int) - 48) % 256 * 16 % 256) (((c.toNat : Int) - 48) % 256)
/-- The last digit alone. -/
def one (c : UInt8) : Int := bits BinOp.or IntKind.u8 240 (((c.toNat : Int) - 48) % 256)
def enc : List UInt8 → List Int
  | [] => []
  | [c] => [one c]
  | c :: d :: r => two c d :: enc r
theorem enc_append : ∀ (a b : List UInt8), a.length % 2 = 0 → enc (a ++ b) = enc a ++ enc b
  | [], _, _ => rfl
  | [_], _, h => absurd h (by simp)
  | c :: d :: r, b, h => by
    have := enc_append r b (by simp at h; omega)
    simp [enc, this]
theorem enc_len : ∀ l : List UInt8, (enc l).length = (l.length + 1) / 2
  | [] => rfl
  | [_] => by simp [enc]
  | c :: d :: r => by
    have := enc_len r
    simp [enc, this]
    omega

theorem take_two {l : List UInt8} {k : Nat} (h : k + 1 < l.length) : l.take (k + 2) = l.take k ++ [l[k], l[k + 1]] := by
  have e1 := List.take_succ_eq_append_getElem h
  have e2 := List.take_succ_eq_append_getElem (show k < l.length by omega)
  rw [e2] at e1
  exact e1.trans (by rw [List.append_assoc]; rfl)

theorem enc_two {s : ByteArray} {k : Nat} (h : 2 * k + 1 < s.size) : enc (s.data.toList.take (2 * (k + 1))) = enc (s.data.toList.take (2 * k)) ++ [two (s[2 * k]) (s[2 * k + 1])] := by
  have hl : 2 * k + 1 < s.data.toList.length := by simpa using h
  rw [show 2 * (k + 1) = 2 * k + 2 by omega, take_two hl, enc_append _ _ (by rw [List.length_take]; omega)]
  rfl
theorem enc_one {s : ByteArray} {k : Nat} (h : 2 * k < s.size) (h2 : ¬ 2 * k + 1 < s.size) : enc (s.data.toList.take (2 * (k + 1))) = enc (s.data.toList.take (2 * k)) ++ [one (s[2 * k])] := by
  have hl : 2 * k < s.data.toList.length := by simpa using h
  have hl2 : s.data.toList.length = s.size := by simp
  rw [show 2 * (k + 1) = (2 * k + 1) + 1 by omega, List.take_of_length_le (by omega)]
  have e : s.data.toList = s.data.toList.take (2 * k) ++ [s[2 * k]] := by
    have := List.take_succ_eq_append_getElem hl
    rw [List.take_of_length_le (by omega)] at this
    exact this
  conv => lhs; rw [e]
  rw [enc_append _ _ (by rw [List.length_take]; omega)]
  rfl

set_option maxRecDepth 100000 in
set_option maxHeartbeats 1000000 in
theorem app_any (B : Nat) (v : Value) (n : Nat) (l : List Int) (s : ByteArray) (w : World) (hown : w.ownsRow B 5 1 v n (vals l)) (hB : B ≤ w.heap.size) (hn : n ≤ 4000000) (hs : s.size ≤ 1048576) :
    Calls Try.prog 7 #[v, .string s] w fun e w' => ∃ v', e = .returned v' ∧ w'.ownsRow B 5 1 v' (n + (s.size + 1) / 2) (vals (l ++ enc s.data.toList)) ∧ Below B w w' := by
  obtain ⟨i0, hi0, hz0, hz1, hz2⟩ := info_parts Try.info5
  go_enter Try.func7, Try.ntmps7
  go_wp2_with fail
  go_loopw [0, 5] (fun v i wr => ∃ (k m : Nat), i = .int .i64 ((2 * k : Nat) : Int) ∧ 2 * k ≤ s.size + 1 ∧ wr.ownsRow B 5 1 v m (vals (l ++ enc (s.data.toList.take (2 * k)))) ∧ m = n + k ∧ Below B w wr) (fun _ i _ => s.size + 2 - (intOf i).toNat)
  case atStart => exact ⟨0, n, rfl, by omega, by simpa [enc] using hown, rfl, Below.refl _ _⟩
  case round =>
    obtain ⟨k, m, rfl, hk, hown2, hm, hb⟩ := hrel
    have HO : Hid (wr.ownsRow B 5 1 u0 m (vals (l ++ enc (s.data.toList.take (2 * k))))) := hown2
    have HB2 : Hid (Below B w wr) := hb
    have HM : Hid (m = n + k) := hm
    have hms : m + 1 ≤ 5000000 := by omega
    have hbs : B ≤ (wr.heap.size) := Nat.le_trans hB hb.size
    clear hown2 hb hm hown
    by_cases hlt : 2 * k < s.size
    · by_cases hlt2 : 2 * k + 1 < s.size
      · obtain ⟨z, hz⟩ : ∃ z, z = two s[2 * k] s[2 * k + 1] := ⟨_, rfl⟩
        have HE : Hid (enc (s.data.toList.take (2 * (k + 1))) = enc (s.data.toList.take (2 * k)) ++ [z]) := by rw [hz]; exact enc_two hlt2
        have HZ : Hid (z = two s[2 * k] s[2 * k + 1]) := hz
        clear hz
        go_wp2_with (at_builtin; rw [show bits BinOp.or IntKind.u8 (((s[2 * k + 1].toNat : Int) - 48) % 256 * 16 % 256) (((s[2 * k].toNat : Int) - 48) % 256) = z from HZ.out.symm]; refine wpList_append_own _ rfl (.tmp 23) (.tmp 31) 22 rfl B 5 i0 _ 1 1 Try.underlying22 hi0 hz0 hz1 hz2 rfl (by omega) u0 m _ rfl (HO.out.alloc _) ⟨wr.heap.size, 0, none⟩ 1 1 [.int .u8 z] rfl rfl (World.news_of_block (cs := #[.int .u8 z]) (t := 5) (fr := (0, 0)) (heap_alloc_new wr _)) (by simp [Value.oneCell']) (by unfold maxLen; omega) (by omega) (by simp; omega) ?_; intro v2 w2 hown3 hgrow hnil)
        refine ⟨⟨k + 1, m + 1, by go_num, by omega, ?_, by rw [HM.out]; omega, ?_⟩, ?_⟩
        · rw [HE.out, ← List.append_assoc, vals_append]
          exact hown3
        · exact (HB2.out.alloc hbs _).grown hgrow (by simp; omega) (fun i hi => (HO.out.lt i hi).1)
        · simp [intOf]; omega
      · obtain ⟨z, hz⟩ : ∃ z, z = one s[2 * k] := ⟨_, rfl⟩
        have HE : Hid (enc (s.data.toList.take (2 * (k + 1))) = enc (s.data.toList.take (2 * k)) ++ [z]) := by rw [hz]; exact enc_one hlt hlt2
        have HZ : Hid (z = one s[2 * k]) := hz
        clear hz
        go_wp2_with (at_builtin; rw [show bits BinOp.or IntKind.u8 240 (((s[2 * k].toNat : Int) - 48) % 256) = z from HZ.out.symm]; refine wpList_append_own _ rfl (.tmp 23) (.tmp 31) 22 rfl B 5 i0 _ 1 1 Try.underlying22 hi0 hz0 hz1 hz2 rfl (by omega) u0 m _ rfl (HO.out.alloc _) ⟨wr.heap.size, 0, none⟩ 1 1 [.int .u8 z] rfl rfl (World.news_of_block (cs := #[.int .u8 z]) (t := 5) (fr := (0, 0)) (heap_alloc_new wr _)) (by simp [Value.oneCell']) (by unfold maxLen; omega) (by omega) (by simp; omega) ?_; intro v2 w2 hown3 hgrow hnil)
        refine ⟨⟨k + 1, m + 1, by go_num, by omega, ?_, by rw [HM.out]; omega, ?_⟩, ?_⟩
        · rw [HE.out, ← List.append_assoc, vals_append]
          exact hown3
        · exact (HB2.out.alloc hbs _).grown hgrow (by simp; omega) (fun i hi => (HO.out.lt i hi).1)
        · simp [intOf]; omega
    · have hk2 : k = (s.size + 1) / 2 := by omega
      have HK : Hid (k = (s.size + 1) / 2) := hk2
      clear hk2
      have HL : Hid (s.data.toList.take (2 * k) = s.data.toList) := List.take_of_length_le (by simp; omega)
      go_wp2_with fail
      go_ret
      refine ⟨_, rfl, ?_, HB2.out⟩
      have h1 := HO.out
      rw [HL.out, HM.out, HK.out] at h1
      exact h1
end Go.Proofs.Qxb6630601a
