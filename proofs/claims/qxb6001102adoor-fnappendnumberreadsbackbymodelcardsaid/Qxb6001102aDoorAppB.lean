import Derived.Test.Qxb6001102aDoorAppA
namespace Go.Proofs.Qxb6001102aDoor
open Go.RowKit

set_option maxRecDepth 100000 in
set_option maxHeartbeats 2000000 in
theorem app_4bn (ao : Option Addr) (n : Nat) (zs : List Int) (ad : Option Addr) (k cd : Nat) (s : List Int) (p : Int) (w : World) (hrd : RdS w ao n n zs) (hs : RdS w ad k cd s)
    (hk1 : 1 < k) (hk : k ≤ 1048576) (hn : n ≤ 1048576) (hp1 : -600000000 ≤ p) (hp2 : p ≤ -6)
    (htab : Lib.TabBelow Tryd.prog w.heap.size w Tryd.powN .u64 Lib.pow10Tab) :
    Calls Tryd.prog 22 #[.slice ao n n, .agg #[.slice ad k cd, .int .i64 p]] w fun e w' => ∃ a' n' c', e = .returned (.slice a' n' c') ∧ OwnS w' w.heap.size a' n' c' (zs ++ [s.getD 0 0] ++ [46] ++ s.drop 1 ++ [101] ++ itoaI (p - 1)) ∧ w.grownBy w' none := by
  obtain ⟨i0, hi, hz0, hz1, hz2⟩ := info_parts info5
  have b1 := hs.le
  have b2 := hs.max
  unfold maxLen at b2
  skip
  obtain ⟨b, o, rfl, hb, hc⟩ := hs.pos (by omega)
  have hc0 := hc 0 (by omega)
  rw [Nat.add_zero] at hc0
  generalize s.getD 0 0 = s0 at hc0 ⊢
  clear hc
  have q1 : decide (((k : Int)) ≤ p) = false := decide_eq_false (by omega)
  have q3 : decide ((0 : Int) < p) = false := decide_eq_false (by omega)
  have q4 : decide ((-6 : Int) < p) = false := decide_eq_false (by omega)
  go_enter Tryd.func22, Tryd.ntmps22
  go_wp2
  go_quiet (fail)
  have hcw : (w.alloc (.cells #[.slice (some ⟨b, o, none⟩) k cd, .int .i64 p] 46)).cell? ⟨b, o, none⟩ = some (.int .u8 s0) := by rw [World.cell?_of_block (w := w) (Below.heap_alloc w _ b hb)]; exact hc0
  have g1 : w.grownBy ((w.alloc (.cells #[.slice (some ⟨b, o, none⟩) k cd, .int .i64 p] 46)).drewN nq) none := (World.grownBy_alloc _ _ _).trans (grownBy_drewN _ _)
  have hcW : ((w.alloc (.cells #[.slice (some ⟨b, o, none⟩) k cd, .int .i64 p] 46)).drewN nq).cell? ⟨b, o, none⟩ = some (.int .u8 s0) := hcw
  clear hcw hc0
  generalize ((w.alloc (.cells #[.slice (some ⟨b, o, none⟩) k cd, .int .i64 p] 46)).drewN nq) = W at g1 hcW ⊢
  have r0 := hrd.onward g1
  have rs := hs.onward g1
  have G0 : W.heap.size ≤ (W.alloc (.cells #[.int .u8 s0] 5)).heap.size := by simp
  go_wp2_with (first | (at_builtin; refine wpList_append_new _ rfl (.tmp 69) (.tmp 73) 22 22 rfl i0 Tryd.underlying22 hi hz0 hz1 hz2 ao n n zs rfl (r0.alloc _) _ 1 [s0] rfl (src1 W Tryd.underlying22 s0) (by omega) (by omega) ?_; intro a1 n1 c1 w1 hn1 ho1 hg1; have G1 := (World.grownBy_alloc W (.cells #[.int .u8 s0] 5) none).trans hg1; have o1 := ho1.base G0; have hb1 : n1 ≤ 2000000 := (by have := hn1.out; omega); have hsz1 := G1.size) | (at_builtin; refine wpList_append_b8 _ rfl (.tmp 77) (.tmp 78) 22 22 rfl W.heap.size i0 Tryd.underlying22 hi hz0 hz1 hz2 a1 n1 c1 _ rfl (o1.alloc _) _ 1 [46] rfl (src1 w1 Tryd.underlying22 46) (by omega) (by simp; omega) ?_; intro a2 n2 c2 w2 hn2 o2 hm2; have G2' := grown_new (G1.trans (World.grownBy_alloc _ _ _)) hm2 o1.blk_ge; have G2 := G2'.1; have hb2 : n2 ≤ 3000000 + 2 := (by have := hn2.out; omega); have hsz2 := G2.size; have sd := (rs.onward G2).from 1 (by omega)) | (at_builtin; refine wpList_append_b8 _ rfl (.tmp 80) (.tmp 82) 22 22 rfl W.heap.size i0 Tryd.underlying22 hi hz0 hz1 hz2 a2 n2 c2 _ rfl o2 _ (k - 1) (s.drop 1) rfl (sd.src Tryd.underlying22) (by omega) hsz2 ?_; intro a3 n3 c3 w3 hn3 o3 hm3; have G3' := grown_new G2 hm3 o2.blk_ge; have G3 := G3'.1; have hb3 : n3 ≤ 3000000 + 1048576 + 3 := (by have := hn3.out; omega); have hsz3 := G3.size) | (at_builtin; refine wpList_append_b8 _ rfl (.tmp 84) (.tmp 85) 22 22 rfl W.heap.size i0 Tryd.underlying22 hi hz0 hz1 hz2 a3 n3 c3 _ rfl (o3.alloc _) _ 1 [101] rfl (src1 w3 Tryd.underlying22 101) (by omega) (by simp; omega) ?_; intro a4 n4 c4 w4 hn4 o4 hm4; have G4' := grown_new (G3.trans (World.grownBy_alloc _ _ _)) hm4 o3.blk_ge; have G4 := G4'.1; have hb4 : n4 ≤ 4048576 + 4 := (by have := hn4.out; omega); have hsz4 := G4.size))
  have tb : Lib.TabBelow Tryd.prog W.heap.size w4 Tryd.powN .u64 Lib.pow10Tab := tab_mono (htab.on (below_of_grown (row := none) (g1.trans G4) (fun g e => by cases e))) g1.size
  refine (appint W.heap.size a4 n4 c4 _ (p - 1) (by omega) (by omega) w4 o4 hsz4 (by omega) tb).mono ?_
  rintro e wz ⟨az, nz, cz, rfl, hoz, hbz⟩
  go_wp2
  go_ret
  have Gz : W.grownBy wz none := grown_of_below ((below_of_grown (row := none) G4 (fun g e => by cases e)).trans hbz)
  refine ⟨az, nz, cz, rfl, ?_, g1.trans Gz⟩
  simpa using hoz.base g1.size

set_option maxRecDepth 100000 in
set_option maxHeartbeats 2000000 in
theorem app_4sn (ao : Option Addr) (n : Nat) (zs : List Int) (ad : Option Addr) (k cd : Nat) (s : List Int) (p : Int) (w : World) (hrd : RdS w ao n n zs) (hs : RdS w ad k cd s)
    (hk1 : k = 1) (hk : k ≤ 1048576) (hn : n ≤ 1048576) (hp1 : -600000000 ≤ p) (hp2 : p ≤ -6)
    (htab : Lib.TabBelow Tryd.prog w.heap.size w Tryd.powN .u64 Lib.pow10Tab) :
    Calls Tryd.prog 22 #[.slice ao n n, .agg #[.slice ad k cd, .int .i64 p]] w fun e w' => ∃ a' n' c', e = .returned (.slice a' n' c') ∧ OwnS w' w.heap.size a' n' c' (zs ++ [s.getD 0 0] ++ [101] ++ itoaI (p - 1)) ∧ w.grownBy w' none := by
  obtain ⟨i0, hi, hz0, hz1, hz2⟩ := info_parts info5
  have b1 := hs.le
  have b2 := hs.max
  unfold maxLen at b2
  subst hk1
  obtain ⟨b, o, rfl, hb, hc⟩ := hs.pos (by omega)
  have hc0 := hc 0 (by omega)
  rw [Nat.add_zero] at hc0
  generalize s.getD 0 0 = s0 at hc0 ⊢
  clear hc
  have q1 : decide ((1 : Int) ≤ p) = false := decide_eq_false (by omega)
  have q3 : decide ((0 : Int) < p) = false := decide_eq_false (by omega)
  have q4 : decide ((-6 : Int) < p) = false := decide_eq_false (by omega)
  go_enter Tryd.func22, Tryd.ntmps22
  go_wp2
  go_quiet (fail)
  have hcw : (w.alloc (.cells #[.slice (some ⟨b, o, none⟩) 1 cd, .int .i64 p] 46)).cell? ⟨b, o, none⟩ = some (.int .u8 s0) := by rw [World.cell?_of_block (w := w) (Below.heap_alloc w _ b hb)]; exact hc0
  have g1 : w.grownBy ((w.alloc (.cells #[.slice (some ⟨b, o, none⟩) 1 cd, .int .i64 p] 46)).drewN nq) none := (World.grownBy_alloc _ _ _).trans (grownBy_drewN _ _)
  have hcW : ((w.alloc (.cells #[.slice (some ⟨b, o, none⟩) 1 cd, .int .i64 p] 46)).drewN nq).cell? ⟨b, o, none⟩ = some (.int .u8 s0) := hcw
  clear hcw hc0
  generalize ((w.alloc (.cells #[.slice (some ⟨b, o, none⟩) 1 cd, .int .i64 p] 46)).drewN nq) = W at g1 hcW ⊢
  have r0 := hrd.onward g1
  have rs := hs.onward g1
  have G0 : W.heap.size ≤ (W.alloc (.cells #[.int .u8 s0] 5)).heap.size := by simp
  go_wp2_with (first | (at_builtin; refine wpList_append_new _ rfl (.tmp 69) (.tmp 73) 22 22 rfl i0 Tryd.underlying22 hi hz0 hz1 hz2 ao n n zs rfl (r0.alloc _) _ 1 [s0] rfl (src1 W Tryd.underlying22 s0) (by omega) (by omega) ?_; intro a1 n1 c1 w1 hn1 ho1 hg1; have G1 := (World.grownBy_alloc W (.cells #[.int .u8 s0] 5) none).trans hg1; have o1 := ho1.base G0; have hb1 : n1 ≤ 2000000 := (by have := hn1.out; omega); have hsz1 := G1.size) | (at_builtin; refine wpList_append_b8 _ rfl (.tmp 84) (.tmp 85) 22 22 rfl W.heap.size i0 Tryd.underlying22 hi hz0 hz1 hz2 a1 n1 c1 _ rfl (o1.alloc _) _ 1 [101] rfl (src1 w1 Tryd.underlying22 101) (by omega) (by simp; omega) ?_; intro a2 n2 c2 w2 hn2 o2 hm2; have G2' := grown_new (G1.trans (World.grownBy_alloc _ _ _)) hm2 o1.blk_ge; have G2 := G2'.1; have hb2 : n2 ≤ 3000000 + 2 := (by have := hn2.out; omega); have hsz2 := G2.size))
  have tb : Lib.TabBelow Tryd.prog W.heap.size w2 Tryd.powN .u64 Lib.pow10Tab := tab_mono (htab.on (below_of_grown (row := none) (g1.trans G2) (fun g e => by cases e))) g1.size
  refine (appint W.heap.size a2 n2 c2 _ (p - 1) (by omega) (by omega) w2 o2 hsz2 (by omega) tb).mono ?_
  rintro e wz ⟨az, nz, cz, rfl, hoz, hbz⟩
  go_wp2
  go_ret
  have Gz : W.grownBy wz none := grown_of_below ((below_of_grown (row := none) G2 (fun g e => by cases e)).trans hbz)
  refine ⟨az, nz, cz, rfl, ?_, g1.trans Gz⟩
  simpa using hoz.base g1.size

set_option maxRecDepth 100000 in
set_option maxHeartbeats 2000000 in
theorem app_4bp (ao : Option Addr) (n : Nat) (zs : List Int) (ad : Option Addr) (k cd : Nat) (s : List Int) (p : Int) (w : World) (hrd : RdS w ao n n zs) (hs : RdS w ad k cd s)
    (hk1 : 1 < k) (hk : k ≤ 1048576) (hn : n ≤ 1048576) (hp1 : 21 < p) (hp2 : p ≤ 600000000)
    (htab : Lib.TabBelow Tryd.prog w.heap.size w Tryd.powN .u64 Lib.pow10Tab) :
    Calls Tryd.prog 22 #[.slice ao n n, .agg #[.slice ad k cd, .int .i64 p]] w fun e w' => ∃ a' n' c', e = .returned (.slice a' n' c') ∧ OwnS w' w.heap.size a' n' c' (zs ++ [s.getD 0 0] ++ [46] ++ s.drop 1 ++ [101] ++ [43] ++ itoaI (p - 1)) ∧ w.grownBy w' none := by
  obtain ⟨i0, hi, hz0, hz1, hz2⟩ := info_parts info5
  have b1 := hs.le
  have b2 := hs.max
  unfold maxLen at b2
  skip
  obtain ⟨b, o, rfl, hb, hc⟩ := hs.pos (by omega)
  have hc0 := hc 0 (by omega)
  rw [Nat.add_zero] at hc0
  generalize s.getD 0 0 = s0 at hc0 ⊢
  clear hc
  have q2 : decide (p ≤ 21) = false := decide_eq_false (by omega)
  have q3 : decide ((0 : Int) < p) = true := decide_eq_true (by omega)
  have q4 : decide ((-6 : Int) < p) = true := decide_eq_true (by omega)
  have q5 : decide (p ≤ 0) = false := decide_eq_false (by omega)
  rcases Bool.eq_false_or_eq_true (decide ((k : Int) ≤ p)) with q1 | q1
  all_goals
    go_enter Tryd.func22, Tryd.ntmps22
    go_wp2
    go_quiet (fail)
    have hcw : (w.alloc (.cells #[.slice (some ⟨b, o, none⟩) k cd, .int .i64 p] 46)).cell? ⟨b, o, none⟩ = some (.int .u8 s0) := by rw [World.cell?_of_block (w := w) (Below.heap_alloc w _ b hb)]; exact hc0
    have g1 : w.grownBy ((w.alloc (.cells #[.slice (some ⟨b, o, none⟩) k cd, .int .i64 p] 46)).drewN nq) none := (World.grownBy_alloc _ _ _).trans (grownBy_drewN _ _)
    have hcW : ((w.alloc (.cells #[.slice (some ⟨b, o, none⟩) k cd, .int .i64 p] 46)).drewN nq).cell? ⟨b, o, none⟩ = some (.int .u8 s0) := hcw
    clear hcw hc0
    generalize ((w.alloc (.cells #[.slice (some ⟨b, o, none⟩) k cd, .int .i64 p] 46)).drewN nq) = W at g1 hcW ⊢
    have r0 := hrd.onward g1
    have rs := hs.onward g1
    have G0 : W.heap.size ≤ (W.alloc (.cells #[.int .u8 s0] 5)).heap.size := by simp
    go_wp2_with (first | (at_builtin; refine wpList_append_new _ rfl (.tmp 69) (.tmp 73) 22 22 rfl i0 Tryd.underlying22 hi hz0 hz1 hz2 ao n n zs rfl (r0.alloc _) _ 1 [s0] rfl (src1 W Tryd.underlying22 s0) (by omega) (by omega) ?_; intro a1 n1 c1 w1 hn1 ho1 hg1; have G1 := (World.grownBy_alloc W (.cells #[.int .u8 s0] 5) none).trans hg1; have o1 := ho1.base G0; have hb1 : n1 ≤ 2000000 := (by have := hn1.out; omega); have hsz1 := G1.size) | (at_builtin; refine wpList_append_b8 _ rfl (.tmp 77) (.tmp 78) 22 22 rfl W.heap.size i0 Tryd.underlying22 hi hz0 hz1 hz2 a1 n1 c1 _ rfl (o1.alloc _) _ 1 [46] rfl (src1 w1 Tryd.underlying22 46) (by omega) (by simp; omega) ?_; intro a2 n2 c2 w2 hn2 o2 hm2; have G2' := grown_new (G1.trans (World.grownBy_alloc _ _ _)) hm2 o1.blk_ge; have G2 := G2'.1; have hb2 : n2 ≤ 3000000 + 2 := (by have := hn2.out; omega); have hsz2 := G2.size; have sd := (rs.onward G2).from 1 (by omega)) | (at_builtin; refine wpList_append_b8 _ rfl (.tmp 80) (.tmp 82) 22 22 rfl W.heap.size i0 Tryd.underlying22 hi hz0 hz1 hz2 a2 n2 c2 _ rfl o2 _ (k - 1) (s.drop 1) rfl (sd.src Tryd.underlying22) (by omega) hsz2 ?_; intro a3 n3 c3 w3 hn3 o3 hm3; have G3' := grown_new G2 hm3 o2.blk_ge; have G3 := G3'.1; have hb3 : n3 ≤ 3000000 + 1048576 + 3 := (by have := hn3.out; omega); have hsz3 := G3.size) | (at_builtin; refine wpList_append_b8 _ rfl (.tmp 84) (.tmp 85) 22 22 rfl W.heap.size i0 Tryd.underlying22 hi hz0 hz1 hz2 a3 n3 c3 _ rfl (o3.alloc _) _ 1 [101] rfl (src1 w3 Tryd.underlying22 101) (by omega) (by simp; omega) ?_; intro a4 n4 c4 w4 hn4 o4 hm4; have G4' := grown_new (G3.trans (World.grownBy_alloc _ _ _)) hm4 o3.blk_ge; have G4 := G4'.1; have hb4 : n4 ≤ 4048576 + 4 := (by have := hn4.out; omega); have hsz4 := G4.size) | (at_builtin; refine wpList_append_b8 _ rfl (.tmp 89) (.tmp 90) 22 22 rfl W.heap.size i0 Tryd.underlying22 hi hz0 hz1 hz2 a4 n4 c4 _ rfl (o4.alloc _) _ 1 [43] rfl (src1 w4 Tryd.underlying22 43) (by omega) (by simp; omega) ?_; intro a5 n5 c5 w5 hn5 o5 hm5; have G5' := grown_new (G4.trans (World.grownBy_alloc _ _ _)) hm5 o4.blk_ge; have G5 := G5'.1; have hb5 : n5 ≤ 4048576 + 5 := (by have := hn5.out; omega); have hsz5 := G5.size))
    have tb : Lib.TabBelow Tryd.prog W.heap.size w5 Tryd.powN .u64 Lib.pow10Tab := tab_mono (htab.on (below_of_grown (row := none) (g1.trans G5) (fun g e => by cases e))) g1.size
    refine (appint W.heap.size a5 n5 c5 _ (p - 1) (by omega) (by omega) w5 o5 hsz5 (by omega) tb).mono ?_
    rintro e wz ⟨az, nz, cz, rfl, hoz, hbz⟩
    go_wp2
    go_ret
    have Gz : W.grownBy wz none := grown_of_below ((below_of_grown (row := none) G5 (fun g e => by cases e)).trans hbz)
    refine ⟨az, nz, cz, rfl, ?_, g1.trans Gz⟩
    simpa using hoz.base g1.size

set_option maxRecDepth 100000 in
set_option maxHeartbeats 2000000 in
theorem app_4sp (ao : Option Addr) (n : Nat) (zs : List Int) (ad : Option Addr) (k cd : Nat) (s : List Int) (p : Int) (w : World) (hrd : RdS w ao n n zs) (hs : RdS w ad k cd s)
    (hk1 : k = 1) (hk : k ≤ 1048576) (hn : n ≤ 1048576) (hp1 : 21 < p) (hp2 : p ≤ 600000000)
    (htab : Lib.TabBelow Tryd.prog w.heap.size w Tryd.powN .u64 Lib.pow10Tab) :
    Calls Tryd.prog 22 #[.slice ao n n, .agg #[.slice ad k cd, .int .i64 p]] w fun e w' => ∃ a' n' c', e = .returned (.slice a' n' c') ∧ OwnS w' w.heap.size a' n' c' (zs ++ [s.getD 0 0] ++ [101] ++ [43] ++ itoaI (p - 1)) ∧ w.grownBy w' none := by
  obtain ⟨i0, hi, hz0, hz1, hz2⟩ := info_parts info5
  have b1 := hs.le
  have b2 := hs.max
  unfold maxLen at b2
  subst hk1
  obtain ⟨b, o, rfl, hb, hc⟩ := hs.pos (by omega)
  have hc0 := hc 0 (by omega)
  rw [Nat.add_zero] at hc0
  generalize s.getD 0 0 = s0 at hc0 ⊢
  clear hc
  have q1 : decide ((1 : Int) ≤ p) = true := decide_eq_true (by omega)
  have q2 : decide (p ≤ 21) = false := decide_eq_false (by omega)
  have q3 : decide ((0 : Int) < p) = true := decide_eq_true (by omega)
  have q4 : decide ((-6 : Int) < p) = true := decide_eq_true (by omega)
  have q5 : decide (p ≤ 0) = false := decide_eq_false (by omega)
  go_enter Tryd.func22, Tryd.ntmps22
  go_wp2
  go_quiet (fail)
  have hcw : (w.alloc (.cells #[.slice (some ⟨b, o, none⟩) 1 cd, .int .i64 p] 46)).cell? ⟨b, o, none⟩ = some (.int .u8 s0) := by rw [World.cell?_of_block (w := w) (Below.heap_alloc w _ b hb)]; exact hc0
  have g1 : w.grownBy ((w.alloc (.cells #[.slice (some ⟨b, o, none⟩) 1 cd, .int .i64 p] 46)).drewN nq) none := (World.grownBy_alloc _ _ _).trans (grownBy_drewN _ _)
  have hcW : ((w.alloc (.cells #[.slice (some ⟨b, o, none⟩) 1 cd, .int .i64 p] 46)).drewN nq).cell? ⟨b, o, none⟩ = some (.int .u8 s0) := hcw
  clear hcw hc0
  generalize ((w.alloc (.cells #[.slice (some ⟨b, o, none⟩) 1 cd, .int .i64 p] 46)).drewN nq) = W at g1 hcW ⊢
  have r0 := hrd.onward g1
  have rs := hs.onward g1
  have G0 : W.heap.size ≤ (W.alloc (.cells #[.int .u8 s0] 5)).heap.size := by simp
  go_wp2_with (first | (at_builtin; refine wpList_append_new _ rfl (.tmp 69) (.tmp 73) 22 22 rfl i0 Tryd.underlying22 hi hz0 hz1 hz2 ao n n zs rfl (r0.alloc _) _ 1 [s0] rfl (src1 W Tryd.underlying22 s0) (by omega) (by omega) ?_; intro a1 n1 c1 w1 hn1 ho1 hg1; have G1 := (World.grownBy_alloc W (.cells #[.int .u8 s0] 5) none).trans hg1; have o1 := ho1.base G0; have hb1 : n1 ≤ 2000000 := (by have := hn1.out; omega); have hsz1 := G1.size) | (at_builtin; refine wpList_append_b8 _ rfl (.tmp 84) (.tmp 85) 22 22 rfl W.heap.size i0 Tryd.underlying22 hi hz0 hz1 hz2 a1 n1 c1 _ rfl (o1.alloc _) _ 1 [101] rfl (src1 w1 Tryd.underlying22 101) (by omega) (by simp; omega) ?_; intro a2 n2 c2 w2 hn2 o2 hm2; have G2' := grown_new (G1.trans (World.grownBy_alloc _ _ _)) hm2 o1.blk_ge; have G2 := G2'.1; have hb2 : n2 ≤ 3000000 + 2 := (by have := hn2.out; omega); have hsz2 := G2.size) | (at_builtin; refine wpList_append_b8 _ rfl (.tmp 89) (.tmp 90) 22 22 rfl W.heap.size i0 Tryd.underlying22 hi hz0 hz1 hz2 a2 n2 c2 _ rfl (o2.alloc _) _ 1 [43] rfl (src1 w2 Tryd.underlying22 43) (by omega) (by simp; omega) ?_; intro a3 n3 c3 w3 hn3 o3 hm3; have G3' := grown_new (G2.trans (World.grownBy_alloc _ _ _)) hm3 o2.blk_ge; have G3 := G3'.1; have hb3 : n3 ≤ 3000000 + 3 := (by have := hn3.out; omega); have hsz3 := G3.size))
  have tb : Lib.TabBelow Tryd.prog W.heap.size w3 Tryd.powN .u64 Lib.pow10Tab := tab_mono (htab.on (below_of_grown (row := none) (g1.trans G3) (fun g e => by cases e))) g1.size
  refine (appint W.heap.size a3 n3 c3 _ (p - 1) (by omega) (by omega) w3 o3 hsz3 (by omega) tb).mono ?_
  rintro e wz ⟨az, nz, cz, rfl, hoz, hbz⟩
  go_wp2
  go_ret
  have Gz : W.grownBy wz none := grown_of_below ((below_of_grown (row := none) G3 (fun g e => by cases e)).trans hbz)
  refine ⟨az, nz, cz, rfl, ?_, g1.trans Gz⟩
  simpa using hoz.base g1.size

end Go.Proofs.Qxb6001102aDoor
