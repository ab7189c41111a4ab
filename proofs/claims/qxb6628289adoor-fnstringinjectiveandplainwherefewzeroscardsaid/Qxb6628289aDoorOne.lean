import Derived.Test.Qxb6628289aDoorRead
namespace Go.Proofs.Qxb6628289aDoor
open Go.RowKit

/-- Two runs of one machine that both come to an end come to the same end. -/
theorem runs_agree {P : Program} {m : Machine} {o o' : Outcome} {u u' : World} : ∀ (n n' : Nat), runN P n m = .ended o u → runN P n' m = .ended o' u' → o = o' := by
  intro n n' h h'
  have key : ∀ a b, runN P a m = .ended o u → runN P (a + b) m = .ended o u := by
    intro a b ha
    rw [runN_add, ha]
  have h1 := key n n' h
  rw [Nat.add_comm, runN_add, h'] at h1
  injection h1 with h2 _
  exact h2.symm

theorem calls_end {f : FuncId} {args : Array Value} {w : World} {v : Value} {R : World → Prop} (hi : Tryd.prog.inits.idxOf? f = none)
    (h : Calls Tryd.prog f args w fun e w' => e = .returned v ∧ R w') : ∃ n w', runN Tryd.prog n (lone (Frame.enter Tryd.prog f args .normal) [] w) = .ended (.done v) w' := by
  obtain ⟨e, w', fr, ⟨rfl, _⟩, ⟨n, hn⟩, hf, hl⟩ := h []
  refine ⟨n + 1, w', ?_⟩
  rw [runN_add, hn]
  have hs := step_leave_done hl (by rw [hf]; exact hi)
  show (match step Tryd.prog (lone fr [] w') with | .next m => runN Tryd.prog 0 m | e => e) = _
  rw [hs]

theorem calls_agree {f : FuncId} {args : Array Value} {w : World} {v v' : Value} {R R' : World → Prop} (hi : Tryd.prog.inits.idxOf? f = none)
    (h : Calls Tryd.prog f args w fun e w' => e = .returned v ∧ R w') (h' : Calls Tryd.prog f args w fun e w' => e = .returned v' ∧ R' w') : v = v' := by
  obtain ⟨n, u, hn⟩ := calls_end hi h
  obtain ⟨n', u', hn'⟩ := calls_end hi h'
  have := runs_agree n n' hn hn'
  injection this

/-- The text reads back. -/
theorem rb_any (a : Bool) (s : ByteArray) (x : Int) (w : World) (hd : Dg s) (hx : -9223372036854775808 + (s.size : Int) < x) (hx1 : x ≤ 9223372036854775807) :
    Calls Tryd.prog 9 #[.string (S (Nm.text a s.data.toList x))] w fun e w' =>
      e = .returned (.tuple #[.bool a, .string s, .int .i64 x, .bool (decide (16 < zeros s.size x)), .bool true]) ∧ ∃ q, w' = w.drewN q := by
  have h0' := hd.pos
  have hle := hd.le
  have hT : Nm.text a s.data.toList x = Nm.sgn a ++ Nm.body s.data.toList x := by
    unfold Nm.text
    rw [(not_empty h0').2]; rfl
  rw [hT]
  unfold Nm.body zeros
  rw [list_size s]
  by_cases h1 : (s.size : Int) ≤ x ∧ x - s.size ≤ 16
  · rw [if_pos h1, if_pos h1.1, decide_eq_false (by omega)]
    obtain ⟨c, hc⟩ : ∃ c : Nat, x = (s.size : Int) + (c : Int) := ⟨(x - s.size).toNat, by omega⟩
    subst hc
    have e1 : ((s.size : Int) + (c : Int) - (s.size : Int)).toNat = c := by omega
    rw [e1]
    cases a
    · refine (rb_int_p s (S (s.data.toList ++ List.replicate c 48)) c w hd (by omega) (S_list _)).mono ?_
      rintro e w' ⟨rfl, hq⟩
      refine ⟨?_, hq⟩
      first | rfl | (congr 5) | simp
    · refine (rb_int_n s (S (s.data.toList ++ List.replicate c 48)) c _ (by rw [S_list, S_list]; rfl) w hd (by omega) (S_list _)).mono ?_
      rintro e w' ⟨rfl, hq⟩
      refine ⟨?_, hq⟩
      first | rfl | simp
  by_cases h2 : 0 < x ∧ x < s.size
  · rw [if_neg h1, if_pos h2, if_neg (by omega), if_neg (by omega), decide_eq_false (by omega)]
    obtain ⟨k, hk⟩ : ∃ k : Nat, x = (k : Int) := ⟨x.toNat, by omega⟩
    subst hk
    have e1 : ((k : Int)).toNat = k := by omega
    rw [e1]
    cases a
    · exact rb_frac_p s (S (s.data.toList.take k ++ 46 :: s.data.toList.drop k)) k w hd (by omega) (by omega) (S_list _)
    · exact rb_frac_n s (S (s.data.toList.take k ++ 46 :: s.data.toList.drop k)) k _ (by rw [S_list, S_list]; rfl) w hd (by omega) (by omega) (S_list _)
  by_cases h3 : x ≤ 0 ∧ -x ≤ 16
  · rw [if_neg h1, if_neg h2, if_pos h3, if_neg (by omega), if_pos h3.1, decide_eq_false (by omega)]
    obtain ⟨c, hc⟩ : ∃ c : Nat, x = -(c : Int) := ⟨(-x).toNat, by omega⟩
    subst hc
    have e1 : (- -(c : Int)).toNat = c := by omega
    rw [e1]
    cases a
    · exact rb_zero_p s (S (48 :: 46 :: (List.replicate c 48 ++ s.data.toList))) c w hd (by omega) (S_list _)
    · exact rb_zero_n s (S (48 :: 46 :: (List.replicate c 48 ++ s.data.toList))) c _ (by rw [S_list, S_list]; rfl) w hd (by omega) (S_list _)
  · have hz : decide (16 < (if (s.size : Int) ≤ x then x - s.size else if x ≤ 0 then -x else 0)) = true := by
      refine decide_eq_true ?_
      split
      · omega
      · split <;> omega
    rw [if_neg h1, if_neg h2, if_neg h3, hz]
    have e1 : x - (s.size : Int) + (s.size : Int) = x := by omega
    cases a
    · refine (rb_exp_p s (S (s.data.toList ++ 101 :: Lib.itoa (x - s.size))) (x - s.size) w hd (by omega) (by omega) (by omega) (S_list _)).mono ?_
      rintro e w' ⟨rfl, hq⟩
      rw [e1]
      exact ⟨rfl, hq⟩
    · refine (rb_exp_n s (S (s.data.toList ++ 101 :: Lib.itoa (x - s.size))) (x - s.size) _ (by rw [S_list, S_list]; rfl) w hd (by omega) (by omega) (by omega) (S_list _)).mono ?_
      rintro e w' ⟨rfl, hq⟩
      rw [e1]
      exact ⟨rfl, hq⟩

/-- No other number has the text. -/
theorem text_inj {a b : Bool} {s t : ByteArray} {x y : Int} (w : World) (hs : Dg s) (ht : Dg t) (hx : -9223372036854775808 + (s.size : Int) < x) (hx1 : x ≤ 9223372036854775807)
    (hy : -9223372036854775808 + (t.size : Int) < y) (hy1 : y ≤ 9223372036854775807) (h : Nm.text a s.data.toList x = Nm.text b t.data.toList y) : a = b ∧ s = t ∧ x = y := by
  have h1 := rb_any a s x w hs hx hx1
  have h2 := rb_any b t y w ht hy hy1
  rw [h] at h1
  have h3 := calls_agree (by kernel_rfl) h1 h2
  injection h3 with h4
  injection h4 with h5
  injection h5 with p1 h6
  injection h6 with p2 h7
  injection h7 with p3 h8
  injection p1 with q1
  injection p2 with q2
  injection p3 with _ q3
  exact ⟨q1, q2, q3⟩

/-- A text with digits is not that of nought. -/
theorem text_not_zero {a : Bool} {s : ByteArray} {x : Int} (hd : Dg s) : Nm.text a s.data.toList x ≠ [48] := by
  have hp := hd.pos
  have hlen := list_size s
  have hf := hd.first (t := s) (r := []) (by simp) hp
  have hT : Nm.text a s.data.toList x = Nm.sgn a ++ Nm.body s.data.toList x := by
    unfold Nm.text
    rw [(not_empty hp).2]; rfl
  rw [hT]
  cases a
  case true => intro h; exact absurd h (by simp [Nm.sgn])
  show Nm.body s.data.toList x ≠ [48]
  have hfirst : ∀ r, s.data.toList ++ r ≠ [48] := by
    intro r h
    have h0 : s.data.toList[0]? = some s[0] := getD_list s 0 hp
    have h1 : (s.data.toList ++ r)[0]? = some s[0] := by rw [List.getElem?_append_left (by omega), h0]
    rw [h] at h1
    have : (48 : UInt8) = s[0] := by simpa using h1
    rw [← this] at hf
    exact absurd hf.1 (by decide)
  unfold Nm.body
  split
  · exact hfirst _
  split
  · intro h
    have := congrArg List.length h
    simp at this
    omega
  split
  · intro h
    have := congrArg List.length h
    simp at this
  · exact hfirst _
end Go.Proofs.Qxb6628289aDoor
