import Derived.Test.Qxb6001102aDecWalk
namespace Go.Proofs.Qxb6001102a
open Go.RowKit

set_option maxHeartbeats 400000 in
theorem eqstr_any (s : ByteArray) (a : Option Addr) (n c : Nat) (w : World) (h : RdS w a n c (bytesOf s)) :
    Calls Try.prog 11 #[.string s, .slice a n c] w fun e w' => e = .returned (.bool true) ∧ ∃ q, w' = w.drewN q := by
  obtain rfl : n = s.size := by rw [← h.len, bytesOf_length]
  have b1 := h.le
  have b2 := h.max
  unfold maxLen at b2
  have hb : ((s.size : Int) != (s.size : Int)) = false := by simp
  go_enter Try.func11, Try.ntmps11
  go_wp2
  go_loopw [5] (fun i wr => ∃ k q : Nat, k ≤ s.size ∧ i = .int .i64 k ∧ wr = w.drewN q) (fun i _ => s.size - (intOf i).toNat)
  case atStart => exact ⟨0, 0, Nat.zero_le _, rfl, rfl⟩
  case round =>
    obtain ⟨k, q, hk, rfl, rfl⟩ := hrel
    by_cases hlt : k < s.size
    · obtain ⟨b, o, rfl, _, hc⟩ := h.pos (by omega)
      have g := hc k hlt
      have e : (bytesOf s).getD k 0 = (s[k].toNat : Int) := by
        have hl := bytesOf_length s
        have : (bytesOf s).getD k 0 = (bytesOf s)[k]'(by omega) := by simp [List.getD, hl, hlt]
        rw [this]
        simp [bytesOf]
        rfl
      rw [e] at g
      clear hc h e
      have i1 : (0 : Int) ≤ (k : Int) := by omega
      have i2 : (k : Int) < (s.size : Int) := by omega
      go_wp2
      go_quiet (fail)
      go_wp2
      go_roundw
      case rel => exact ⟨k + 1, _, by omega, by go_num, rfl⟩
      case measure => simp [intOf]; omega
    · obtain rfl : k = s.size := by omega
      go_wp2
      go_ret
      exact ⟨rfl, q, rfl⟩

set_option maxHeartbeats 1000000 in
theorem back_walk (a0 : Option Addr) (n0 c0 : Nat) (zs : List Int) (s : ByteArray) (w : World) (h0 : RdS w a0 n0 c0 zs) (hz : n0 + s.size ≤ 1048576) (h1 : n0 ≤ 524288) (h2 : s.size ≤ 524288) :
    Calls Try.prog 3 #[.slice a0 n0 c0, .string s] w fun e w' => e = .returned (.bool true) ∧ Below w.heap.size w w' := by
  have hzl : Hid (zs.length = n0) := h0.len
  have hsl : Hid ((bytesOf s).length = s.size) := bytesOf_length s
  have e1 : decide ((524288 : Int) < (n0 : Int)) = false := decide_eq_false (by omega)
  have e2 : decide ((524288 : Int) < (s.size : Int)) = false := decide_eq_false (by omega)
  go_enter Try.func3, Try.ntmps3
  go_wp2_with (go_at_call 6; refine (zz6_yes a0 n0 c0 s _ hz).mono ?_; rintro e w' ⟨rfl, rfl⟩)
  refine (clone_any a0 n0 c0 zs w w.heap.size h0 (by omega) (Nat.le_refl _)).mono ?_
  rintro e w1 ⟨a1, c1, rfl, ho1, hg1, hb1⟩
  go_wp2_with fail
  refine (clone_any a1 n0 c1 zs w1 w.heap.size ho1.rd (by omega) hg1.size).mono ?_
  rintro e w2 ⟨a2, c2, rfl, ho2, hg2, hb2⟩
  have ho1' := ho1.kept hg2 (by cases hx : blk a1 <;> simp)
  have hg12 := hg1.trans hg2
  go_wp2_with fail
  refine (zzapp_any a1 n0 c1 zs s w2 w.heap.size ho1' hg12.size (by omega) (by omega)).mono ?_
  rintro e w3 ⟨a3, n3, c3, rfl, ho3, hm3⟩
  have hn3 := ho3.len
  rw [List.length_append, hzl.out, enc_length] at hn3
  have hl := (escs_len (bytesOf s)).2.1
  rw [hsl.out] at hl
  have b1 : n0 + 2 ≤ n3 := by omega
  have b2 : n3 ≤ 10000000 := by omega
  clear hn3 hl
  have rd3 := ho3.rd
  have b3 := rd3.le
  have b4 := rd3.max
  unfold maxLen at b4
  have rd2 : RdS w3 a2 n0 c2 zs := by
    refine ho2.rd.kept hm3.grown ?_
    cases hx : blk a2 with
    | none =>
      left
      rcases Nat.eq_zero_or_pos n0 with h | h
      · exact h
      · obtain ⟨b, o, rfl, _⟩ := ho2.rd.pos h
        cases hx
    | some g2 =>
      right
      intro e
      have l1 := hb2 g2 hx
      have l2 := (ho1.lt e.symm).2
      omega
  have hg3 := grown_new hg12 hm3 hb1
  obtain ⟨b, off, rfl, hb, hc⟩ := rd3.pos (by omega)
  clear hc ho3 hm3 ho1' hg12 hg1 hg2 ho1 ho2 hb1 hb2
  have q1 : decide ((n3 : Int) < (n0 : Int)) = false := decide_eq_false (by omega)
  have cut1 := rd3.to n0 (by omega)
  rw [show (zs ++ enc (bytesOf s)).take n0 = zs from by rw [← hzl.out]; exact List.take_left] at cut1
  have cut2 := rd3.from n0 (by omega)
  rw [show (zs ++ enc (bytesOf s)).drop n0 = enc (bytesOf s) from by rw [← hzl.out]; exact List.drop_left] at cut2
  go_wp2_with fail
  have E := eq_any _ n0 c3 zs a2 n0 c2 zs w3 cut1 rd2
  rw [decide_eq_true rfl] at E
  refine E.mono ?_
  rintro e w4 ⟨rfl, q, rfl⟩
  clear E
  have cut2' := cut2.onward (grownBy_drewN w3 q)
  go_wp2_with fail
  refine (dec_any _ (n3 - n0) (c3 - n0) (bytesOf s) _ cut2' (bytesOf_mem s) (by omega)).mono ?_
  rintro e w5 ⟨a5, m5, c5, rfl, ho5, hg5⟩
  go_wp2_with fail
  refine (eqstr_any s a5 m5 c5 _ ho5.rd).mono ?_
  rintro e w6 ⟨rfl, q2, rfl⟩
  go_wp2
  go_ret
  refine ⟨rfl, below_of_grown (row := none) ?_ (fun g e => by cases e)⟩
  exact ((hg3.1.trans (grownBy_drewN w3 q)).trans hg5).trans (grownBy_drewN w5 q2)

set_option maxHeartbeats 1000000 in
theorem back_any (a0 : Option Addr) (n0 c0 : Nat) (zs : List Int) (s : ByteArray) (w : World) (h0 : RdS w a0 n0 c0 zs) :
    Calls Try.prog 3 #[.slice a0 n0 c0, .string s] w fun e w' => e = .returned (.bool true) ∧ Below w.heap.size w w' := by
  by_cases hz : n0 + s.size ≤ 1048576
  · by_cases h1 : n0 ≤ 524288
    · by_cases h2 : s.size ≤ 524288
      · exact back_walk a0 n0 c0 zs s w h0 hz h1 h2
      · have e1 : decide ((524288 : Int) < (n0 : Int)) = false := decide_eq_false (by omega)
        go_enter Try.func3, Try.ntmps3
        go_wp2_with (go_at_call 6; refine (zz6_yes a0 n0 c0 s _ hz).mono ?_; rintro e w' ⟨rfl, rfl⟩)
        go_ret
        exact ⟨rfl, Below.refl _ _⟩
    · go_enter Try.func3, Try.ntmps3
      go_wp2_with (go_at_call 6; refine (zz6_yes a0 n0 c0 s _ hz).mono ?_; rintro e w' ⟨rfl, rfl⟩)
      go_ret
      exact ⟨rfl, Below.refl _ _⟩
  · go_enter Try.func3, Try.ntmps3
    go_wp2_with (go_at_call 6; refine (zz6_no a0 n0 c0 s _ (by omega)).mono ?_; rintro e w' ⟨rfl, rfl⟩)
    go_ret
    exact ⟨rfl, Below.refl _ _⟩
end Go.Proofs.Qxb6001102a
