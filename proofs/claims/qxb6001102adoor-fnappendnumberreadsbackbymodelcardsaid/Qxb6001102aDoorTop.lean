import Derived.Test.Qxb6001102aDoorLaw2
import Derived.Lib.ItoaLen
namespace Go.Proofs.Qxb6001102aDoor
open Go.RowKit

theorem blk_fresh {w : World} {a : Option Addr} {n cap : Nat} {zs : List Int} (h : OwnS w w.heap.size a n cap zs) : blk a = none := by
  cases hx : blk a with
  | none => rfl
  | some g => have := h.lt hx; omega

theorem numText_len (s : List Int) (p : Int) (h1 : -536870912 ≤ p) (h2 : p ≤ 536870912) : (numText s p).length ≤ s.length + 40 := by
  unfold numText
  have hi : (itoaI (p - 1)).length ≤ 21 := by
    unfold itoaI
    rw [List.length_map]
    exact Lib.itoa_length_le (p - 1) (by omega) (by omega)
  split
  · simp; omega
  · split
    · simp; omega
    · split
      · simp; omega
      · simp only [List.length_append, List.length_cons, List.length_nil]
        split <;> split <;> simp <;> omega

/-- cloneBytes, with the capacity. -/
theorem clone_cap (a : Option Addr) (n cap : Nat) (zs : List Int) (w : World) (h : RdS w a n cap zs) (hn : n ≤ 1099511627776) :
    Calls Tryd.prog 8 #[.slice a n cap] w fun e w' => ∃ a', e = .returned (.slice a' n n) ∧ RdS w' a' n n zs ∧ w.grownBy w' none := by
  cases a with
  | none =>
    obtain rfl : cap = 0 := h.nil rfl
    obtain rfl : n = 0 := by have := h.le; omega
    obtain rfl : zs = [] := List.eq_nil_of_length_eq_zero h.len
    refine (clone_nil w).mono ?_
    rintro e w' ⟨rfl, rfl⟩
    exact ⟨none, rfl, RdS.of_nil _, World.grownBy.refl _ _⟩
  | some x =>
    refine (clone_some x n cap zs w w.heap.size h hn (Nat.le_refl _)).mono ?_
    rintro e w' ⟨rfl, ho, hg⟩
    exact ⟨_, rfl, ho.rd, hg⟩

set_option maxRecDepth 100000 in
set_option maxHeartbeats 2000000 in
theorem top_walk (a0 : Option Addr) (n0 c0 : Nat) (zs : List Int) (a1 : Option Addr) (n1 c1 : Nat) (s : List Int) (p : Int) (w : World) (h0 : RdS w a0 n0 c0 zs) (h1 : RdS w a1 n1 c1 s)
    (hz : n0 + n1 ≤ 1048576) (hb0 : n0 ≤ 524288) (hb1 : n1 ≤ 524288) (hp1 : -536870912 ≤ p) (hp2 : p ≤ 536870912)
    (hk : 1 ≤ n1) (hf : s.getD 0 0 ≠ 48) (hl : s.getD (n1 - 1) 0 ≠ 48) (hd : allDig s = true)
    (htab : Lib.TabBelow Tryd.prog w.heap.size w Tryd.powN .u64 Lib.pow10Tab) :
    Calls Tryd.prog 5 #[.slice a0 n0 c0, .slice a1 n1 c1, .int .i64 p] w fun e w' => e = .returned (.bool true) ∧ Below w.heap.size w w' := by
  have hzl : Hid (zs.length = n0) := h0.len
  have hsl : Hid (s.length = n1) := h1.len
  have u1 := h1.le
  have u2 := h1.max
  unfold maxLen at u2
  obtain ⟨b, off, rfl, hb, hc⟩ := h1.pos (by omega)
  have g0 := hc 0 (by omega)
  have g1 := hc (n1 - 1) (by omega)
  rw [Nat.add_zero] at g0
  have f0 : (s.getD 0 0 == 48) = false := beq_eq_false_iff_ne.2 hf
  have f1 : (s.getD (n1 - 1) 0 == 48) = false := beq_eq_false_iff_ne.2 hl
  have HL : Hid (s.getD (s.length - 1) 0 ≠ 48) := by rw [hsl.out]; exact hl
  have HF : Hid (s.getD 0 0 ≠ 48) := hf
  have HD : Hid (allDig s = true) := hd
  clear hc hf hl hd
  generalize s.getD 0 0 = v0 at g0 f0
  generalize s.getD (n1 - 1) 0 = v1 at g1 f1
  have e1 : decide ((524288 : Int) < (n0 : Int)) = false := decide_eq_false (by omega)
  have e2 : decide ((524288 : Int) < (n1 : Int)) = false := decide_eq_false (by omega)
  have e3 : decide (p < (-536870912 : Int)) = false := decide_eq_false (by omega)
  have e4 : decide ((536870912 : Int) < p) = false := decide_eq_false (by omega)
  have e5 : ((n1 : Int) == 0) = false := beq_eq_false_iff_ne.2 (by omega)
  go_enter Tryd.func5, Tryd.ntmps5
  go_wp2_with (go_at_call 16; refine (zz16_yes a0 n0 c0 _ n1 c1 p _ hz).mono ?_; rintro e w' ⟨rfl, rfl⟩)
  have E := alldig_any _ n1 c1 s w h1
  rw [HD.out] at E
  refine E.mono ?_
  rintro e w' ⟨rfl, rfl⟩
  clear E g0 g1
  go_wp2_with fail
  refine (clone_cap a0 n0 c0 zs w h0 (by omega)).mono ?_
  rintro e w1 ⟨x0, rfl, k0, hg1⟩
  go_wp2_with fail
  refine (clone_cap _ n1 c1 s w1 (h1.onward hg1) (by omega)).mono ?_
  rintro e w2 ⟨x1, rfl, k1, hg2⟩
  go_wp2_with fail
  refine (clone_cap x0 n0 n0 zs w2 (k0.onward hg2) (by omega)).mono ?_
  rintro e w3 ⟨x2, rfl, k2, hg3⟩
  have G3 := (hg1.trans hg2).trans hg3
  have j0 := (k0.onward hg2).onward hg3
  have j1 := k1.onward hg3
  have tb : Lib.TabBelow Tryd.prog w3.heap.size w3 Tryd.powN .u64 Lib.pow10Tab := tab_mono (htab.on (below_of_grown (row := none) G3 (fun g e => by cases e))) G3.size
  clear k0 k1 hg1 hg2 hg3
  go_wp2_with fail
  refine (zzappnum_any x0 n0 zs x1 n1 n1 s p w3 j0 j1 hk (by omega) (by omega) (by omega) (by omega) tb).mono ?_
  rintro e w4 ⟨x4, n4, c4, rfl, ho4, hg4⟩
  have G4 := G3.trans hg4
  have l1 := j1.onward hg4
  have l2 := k2.onward hg4
  have rd := ho4.rd
  clear tb j0 j1 k2 ho4 hg4 G3
  obtain ⟨tn, p1, fs, fe, ev, A, L, M, hT, hA, hS, hD, hP, hv1, hv2⟩ := num_law s p (fun k hk' => allDig_at s HD.out k hk') (by rw [hsl.out]; exact hk) HF.out HL.out hp1 hp2
  have r1 := rd.le
  have r2 := rd.max
  unfold maxLen at r2
  have hn4 : n4 = n0 + tn := by rw [← rd.len, List.length_append, hzl.out, hT.len]
  have htn : 1 ≤ tn := by have := hT.one; have := hT.le1; have := hT.le2; omega
  have q1 : decide ((n4 : Int) < (n0 : Int)) = false := decide_eq_false (by omega)
  obtain ⟨b4, o4, rfl, hb4, hc4⟩ := rd.pos (by omega)
  clear hc4
  have cut1 := rd.to n0 (by omega)
  rw [show (zs ++ numText s p).take n0 = zs from by rw [← hzl.out]; exact List.take_left] at cut1
  have cut2 := rd.from n0 (by omega)
  rw [show (zs ++ numText s p).drop n0 = numText s p from by rw [← hzl.out]; exact List.drop_left] at cut2
  have htn2 : n4 - n0 = tn := by omega
  rw [← htn2] at hT
  have b4n : n0 + 1 ≤ n4 := by omega
  have b4m : n4 ≤ 50000000 := by
    have e := hT.len
    have e1 : (numText s p).length ≤ s.length + 40 := numText_len s p hp1 hp2
    rw [hsl.out] at e1
    omega
  have HA : Hid (A = (numText s p).take p1 ++ ((numText s p).drop fs).take (fe - fs)) := hA
  have HP : Hid ((p1 : Int) - (L : Int) + ev = p) := hP
  clear hn4 htn2 htn hA hP
  go_wp2_with fail
  have E := eq_any _ n0 c4 zs x2 n0 n0 zs w4 cut1 l2
  rw [decide_eq_true rfl] at E
  refine E.mono ?_
  rintro e w5 ⟨rfl, q, rfl⟩
  clear E cut1 l2
  have cut2' := cut2.onward (grownBy_drewN w4 q)
  go_wp2_with fail
  have MC := model_any _ (n4 - n0) (c4 - n0) (numText s p) p1 fs fe ev (w4.drewN q) cut2' hT (by omega) A L M HA hS hv1 hv2
  rw [HP.out, hD] at MC
  refine MC.mono ?_
  rintro e w6 ⟨x6, m6, c6, rfl, r6, hg6⟩
  clear MC cut2 cut2'
  have l3 := (l1.onward (grownBy_drewN w4 q)).onward hg6
  go_wp2_with fail
  have E := eq_any x6 m6 c6 s x1 n1 n1 s w6 r6 l3
  rw [decide_eq_true rfl] at E
  refine E.mono ?_
  rintro e w7 ⟨rfl, q2, rfl⟩
  have pq : (p == p) = true := by simp
  go_wp2
  go_ret
  refine ⟨rfl, below_of_grown (row := none) ?_ (fun g e => by cases e)⟩
  exact ((G4.trans (grownBy_drewN w4 q)).trans hg6).trans (grownBy_drewN w6 q2)
end Go.Proofs.Qxb6001102aDoor
