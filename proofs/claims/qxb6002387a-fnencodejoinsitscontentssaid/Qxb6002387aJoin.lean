import Derived.Test.Qxb6002387aUse
namespace Go.Proofs.Qxb6002387a
open Go.RowKit
set_option linter.unusedVariables false
attribute [local go_sem ↓] Go.wp_at_zero Go.wp_at_succ

set_option maxRecDepth 100000 in
set_option maxHeartbeats 1600000 in
theorem join_main (cl : Int) (cons : Bool) (num : Int) (c0 : 0 ≤ cl) (c1 : cl ≤ 255) (m0 : 0 ≤ num) (m1 : num < 4294967296) (a1 : Option Addr) (n1 k1 : Nat) (xs : List Int) (a2 : Option Addr) (n2 k2 : Nat) (ys : List Int) (a3 : Option Addr) (n3 k3 : Nat) (zs : List Int) (w : World)
    (h1 : RdS w a1 n1 k1 xs) (h2 : RdS w a2 n2 k2 ys) (h3 : RdS w a3 n3 k3 zs) (hs : n1 + n2 + n3 ≤ 1048576) (s1 : n1 ≤ 262144) (s2 : n2 ≤ 262144) (s3 : n3 ≤ 262144) :
    Calls Try.prog 3 #[.int .u8 cl, .bool cons, .int .u32 num, .slice a1 n1 k1, .slice a2 n2 k2, .slice a3 n3 k3] w fun e w' => e = .returned (.bool true) ∧ w.grownBy w' none := by
  obtain ⟨i0, hi, hz0, hz1, hz2⟩ := info_parts info5
  have hq1 : ∀ W, Sem.run Try.prog (binOp .neq 23 (.slice a1 n1 k1) (.slice none 0 0)) W = .ok (.bool (!a1.isNone)) W := fun W => run_neq_slice_nil_any W 23 5 a1 n1 k1 0 0 Try.underlying23
  have hq2 : ∀ W, Sem.run Try.prog (binOp .neq 23 (.slice a2 n2 k2) (.slice none 0 0)) W = .ok (.bool (!a2.isNone)) W := fun W => run_neq_slice_nil_any W 23 5 a2 n2 k2 0 0 Try.underlying23
  have hq3 : ∀ W, Sem.run Try.prog (binOp .neq 23 (.slice a3 n3 k3) (.slice none 0 0)) W = .ok (.bool (!a3.isNone)) W := fun W => run_neq_slice_nil_any W 23 5 a3 n3 k3 0 0 Try.underlying23
  go_enter Try.func3, Try.ntmps3
  go_upto_if 43 with (go_at_call 7; refine (zz7_yes _ _ _ a1 a2 a3 n1 k1 n2 k2 n3 k3 w hs).mono ?_; rintro e w2 ⟨rfl, rfl⟩)
  go_cut [3, 13] from 44 to 50 (fun v u w' => ∃ a' c', v = .slice a' n1 c' ∧ RdS w' a' n1 c' xs ∧ w.grownBy w' none)
  case first =>
    rcases a1 with _ | a1
    · go_wp2_with fail
      go_meet
      case rel => exact ⟨none, k1, rfl, h1, World.grownBy.refl _ _⟩
    · have hmk := run_mkn n1 (by omega)
      obtain ⟨w1, hcp, rd1, G1⟩ := run_copy_b8 w w.heap.size n1 rfl (some a1) k1 xs h1 3
      go_wp2_with fail
      go_meet
      case rel => exact ⟨_, _, rfl, rd1, G1⟩
  case rest =>
    obtain ⟨b1, d1, rfl, r1, G1⟩ := hcut
    have h2' := h2.onward G1
    have h3' := h3.onward G1
    clear h1 h2 h3 hq1
    go_upto_if 52 with fail
    go_cut [4, 14] from 53 to 59 (fun v u w' => ∃ a' c', v = .slice a' n2 c' ∧ RdS w' a' n2 c' ys ∧ RdS w' b1 n1 d1 xs ∧ RdS w' a3 n3 k3 zs ∧ w.grownBy w' none)
    case first =>
      rcases a2 with _ | a2
      · go_wp2_with fail
        go_meet
        case rel => exact ⟨none, k2, rfl, h2', r1, h3', G1⟩
      · have hmk := run_mkn n2 (by omega)
        obtain ⟨w1, hcp, rd1, G2⟩ := run_copy_b8 wc wc.heap.size n2 rfl (some a2) k2 ys h2' 3
        go_wp2_with fail
        go_meet
        case rel => exact ⟨_, _, rfl, rd1, r1.onward G2, h3'.onward G2, G1.trans G2⟩
    case rest =>
      clear h2' h3' r1 G1
      obtain ⟨b2, d2, rfl, r2, r1, h3, G⟩ := hcut
      clear hq2
      go_upto_if 61 with fail
      go_cut [5, 15] from 21 to 68 (fun v u w' => ∃ a' c', v = .slice a' n3 c' ∧ RdS w' a' n3 c' zs ∧ RdS w' b1 n1 d1 xs ∧ RdS w' b2 n2 d2 ys ∧ w.grownBy w' none)
      case first =>
        rcases a3 with _ | a3
        · go_wp2_with fail
          go_meet
          case rel => exact ⟨none, k3, rfl, h3, r1, r2, G⟩
        · have hmk := run_mkn n3 (by omega)
          obtain ⟨w1, hcp, rd1, G2⟩ := run_copy_b8 wc wc.heap.size n3 rfl (some a3) k3 zs h3 3
          go_wp2_with fail
          go_meet
          case rel => exact ⟨_, _, rfl, rd1, r1.onward G2, r2.onward G2, G.trans G2⟩
      case rest =>
        clear h3 r1 r2 G
        obtain ⟨b3, d3, rfl, r3, r1, r2, G⟩ := hcut
        clear hq3
        go_upto_region 18 with fail
        have R1 := r1.alloc (.cells #[.int .u8 cl, .bool cons, .int .u32 num] 27)
        have R2 := r2.alloc (.cells #[.int .u8 cl, .bool cons, .int .u32 num] 27)
        have R3 := r3.alloc (.cells #[.int .u8 cl, .bool cons, .int .u32 num] 27)
        have G0 : w.grownBy (wc.alloc (.cells #[.int .u8 cl, .bool cons, .int .u32 num] 27)) none := G.trans (World.grownBy_alloc _ _ _)
        have T0 := tag_at wc wc.heap.size rfl cl cons num
        clear r1 r2 r3 G
        generalize wc.heap.size = g at T0 ⊢
        generalize wc.alloc (.cells #[.int .u8 cl, .bool cons, .int .u32 num] 27) = wa at R1 R2 R3 G0 T0 ⊢
        clear wc
        have hmk := run_mk0 ((n1 : Int) + n2 + n3) (n1 + n2 + n3) (by omega) (by omega)
        have ho0 := own_made wa wa.heap.size (n1 + n2 + n3) rfl (by omega)
        go_upto_region 20 with (at_builtin; refine wpList_append_b8 _ rfl (.tmp 82) (.tmp 83) 23 23 rfl wa.heap.size i0 Try.underlying23 hi hz0 hz1 hz2 _ 0 _ [] rfl ho0 _ n1 xs rfl ((R1.alloc _).src Try.underlying23) (by omega) (by simp) ?_; intro a4 m4 e4 w4 hn4 ho4 hm4)
        obtain ⟨G4, B4⟩ := grown_new (World.grownBy_alloc wa (.cells (madeZ (n1 + n2 + n3)) 5) none) hm4 (fun g' e => by have := blk_at e; omega)
        have z4 := G4.size
        go_upto_region 21 with (at_builtin; refine wpList_append_b8 _ rfl (.tmp 85) (.tmp 86) 23 23 rfl wa.heap.size i0 Try.underlying23 hi hz0 hz1 hz2 a4 m4 e4 _ rfl ho4 _ n2 ys rfl ((R2.onward G4).src Try.underlying23) (by have := hn4.out; omega) z4 ?_; intro a5 m5 e5 w5 hn5 ho5 hm5)
        obtain ⟨G5, B5⟩ := grown_new G4 hm5 B4
        have z5 := G5.size
        go_upto_region 22 with (at_builtin; refine wpList_append_b8 _ rfl (.tmp 88) (.tmp 89) 23 23 rfl wa.heap.size i0 Try.underlying23 hi hz0 hz1 hz2 a5 m5 e5 _ rfl ho5 _ n3 zs rfl ((R3.onward G5).src Try.underlying23) (by have := hn4.out; have := hn5.out; omega) z5 ?_; intro a6 m6 e6 w6 hn6 ho6 hm6)
        obtain ⟨G6, B6⟩ := grown_new G5 hm6 B5
        have hN : Hid (m6 = n1 + n2 + n3) := by have := hn4.out; have := hn5.out; have := hn6.out; show _ = _; omega
        have hb6 : m6 ≤ 1048576 := by rw [hN.out]; exact hs
        have T6 := T0.onward G6
        obtain ⟨t1, t2, t3⟩ := T6.cells
        have R6 := ho6.rd
        rw [List.nil_append] at R6
        obtain ⟨L, hL⟩ : ∃ L, Hid (L = xs ++ ys ++ zs) := ⟨_, rfl⟩
        rw [← hL.out] at R6
        have H1 := R1.onward G6
        have H2 := R2.onward G6
        have H3 := R3.onward G6
        have G' := G0.trans G6
        clear z4 z5 ho4 ho5 ho6 hm4 hm5 hm6 ho0 hmk B4 B5 B6 G4 G5 G6 R1 R2 R3 G0 T0 hn4 hn5 hn6
        go_upto_region 23 with (go_at_call 8; refine (enc_one w6 w6.heap.size rfl a6 m6 e6 L R6 (by omega) _ cl cons num c0 c1 m0 m1).mono ?_; rintro e w7 ⟨a7, m7, e7, rfl, R7, G7⟩)
        have T7 := T6.onward G7
        have t7 := T7.cells
        obtain ⟨s1', s2', s3'⟩ := t7
        have P1 := H1.onward G7
        have P2 := H2.onward G7
        have P3 := H3.onward G7
        have P6 := R6.onward G7
        have G'' := G'.trans G7
        obtain ⟨H, hH⟩ : ∃ H, Hid (H = headN cl cons num L.length) := ⟨_, rfl⟩
        have hm7 : Hid (m7 = H + m6) := by have e := encB_length cl cons num L; rw [R7.len, R6.len] at e; show _ = _; rw [hH.out, R6.len]; exact e
        have p7 : 0 < m7 := by have := headN_pos cl cons num L.length; have := hm7.out; have := hH.out; omega
        have b7 : m7 ≤ 1048586 := by have := headN_le cl cons num L.length; have := hm7.out; have := hH.out; omega
        have hlt : decide ((m7 : Int) < (m6 : Int)) = false := decide_eq_false (by have := hm7.out; omega)
        have hsub : (m7 : Int) - (m6 : Int) = (H : Int) := by have := hm7.out; omega
        have hle7 := R7.le
        have hmx7 := R7.max
        unfold maxLen at hmx7
        have hH7 : H ≤ m7 := by have := hm7.out; omega
        clear t1 t2 t3 T6 H1 H2 H3 R6 G' G7
        obtain ⟨x7, y7, rfl, _, _⟩ := R7.pos p7
        go_upto_region 28 with (first
          | (go_at_call 8; refine (enc_three w7 w7.heap.size rfl b1 n1 d1 xs P1 b2 n2 d2 ys P2 b3 n3 d3 zs P3 (by omega) _ cl cons num c0 c1 m0 m1).mono ?_; rintro e w8 ⟨a8, m8, e8, rfl, R8, G8⟩)
          | (go_at_call 9; refine (eq_two a8 m8 e8 _ (some ⟨x7, y7, none⟩) m7 e7 _ w8 R8 (R7.onward G8) true (decide_eq_true (by rw [hL.out]))).mono ?_; rintro e w9 ⟨rfl, G9⟩))
        have G79 := G8.trans G9
        have R9 := R7.onward G79
        have P9 := P6.onward G79
        have T9 := T7.onward G79
        have GG := G''.trans G79
        clear s1' s2' s3' T7 P1 P2 P3 P6 G'' G8 G9 R8 R7 G79
        go_cut [119] from 21 to 118 (fun v w' => v = .bool false ∧ w9.grownBy w' none)
        case first =>
          by_cases hc : e7 = H
          · have hh : m7 = e7 := by omega
            subst hc
            subst hh
            have Q0 : RdS w9 (some ⟨x7, y7, none⟩) 0 0 ((encB cl cons num L).drop m7) := by have q := R9.from0 m7 (Nat.le_refl _) rfl; rwa [Nat.sub_self] at q
            go_wp2_with (go_at_call 9; refine (eq_two (some ⟨x7, y7, none⟩) 0 0 _ a6 m6 e6 L w9 Q0 P9 true (decide_eq_true (encB_drop cl cons num L m7 hH.out))).mono ?_; rintro e wx ⟨rfl, Gx⟩)
            go_meet
            case rel => exact ⟨rfl, Gx⟩
          · go_wp2_with (go_at_call 9; refine (eq_two (some ⟨x7, y7 + H, none⟩) (m7 - H) (e7 - H) _ a6 m6 e6 L w9 (R9.from H hH7 hc) P9 true (decide_eq_true (encB_drop cl cons num L H hH.out))).mono ?_; rintro e wx ⟨rfl, Gx⟩)
            go_meet
            case rel => exact ⟨rfl, Gx⟩
        case rest =>
          obtain ⟨rfl, Gx⟩ := hcut
          have P10 := P9.onward Gx
          have R10 := R9.onward Gx
          have G10 := GG.trans Gx
          have T10 := T9.onward Gx
          obtain ⟨t1, t2, t3⟩ := T10.cells
          have hgl := T10.lt
          have hgn : ¬ g = wc.heap.size := by omega
          have hgn1 : ¬ g = wc.heap.size + 1 := by omega
          clear P9 R9 GG T9 Gx
          go_upto_region 30 with fail
          have hmk := run_mkn m6 (by omega)
          have Rz := RdS.made wc wc.heap.size m6 rfl (by omega)
          have hz : (List.replicate m6 (0 : Int)).length = m6 := by simp
          go_cut [20] from 21 to 125 (fun v w' => ∃ a n c, v = .slice a n c ∧ RdS w' a n c (encB cl cons num (List.replicate m6 0)) ∧ wc.grownBy w' none)
          case first =>
            go_region_with (go_at_call 8; refine (enc_oneD (wc.alloc (.cells (madeZ m6) 5)) (wc.heap.size + 1) (by simp) (some ⟨wc.heap.size, 0, none⟩) m6 m6 _ Rz (by omega) _ cl cons num c0 c1 m0 m1).mono ?_; rintro e wy ⟨ay, my, ey, rfl, Ry, Gy⟩)
            all_goals
              go_wp2_with fail
              go_meet
              case rel => exact ⟨ay, my, ey, rfl, Ry, (World.grownBy_alloc _ _ _).trans Gy⟩
          case rest =>
            clear hmk Rz t1 t2 t3
            obtain ⟨ay, my, ey, rfl, Ry, Gy⟩ := hcut
            have R11 := R10.onward Gy
            have G11 := G10.trans Gy
            have hm : my = m7 := by
              have e := Ry.len
              rw [encB_length, hz] at e
              have e1 := hm7.out
              have e2 := hH.out
              rw [P10.len] at e2
              omega
            subst hm
            have e3 : Hid (H = headN cl cons num (List.replicate m6 (0 : Int)).length) := by
              show _ = _
              rw [hz, ← P10.len]
              exact hH.out
            have e4 : (encB cl cons num (List.replicate m6 0)).take H = (encB cl cons num L).take H := by
              rw [encB_take _ _ _ _ _ e3.out, encB_take _ _ _ _ _ hH.out, hz, P10.len]
            have Q1 := Ry.to' H hH7
            have Q2 := R11.to' H hH7
            have hley := Ry.le
            have hmxy := Ry.max
            unfold maxLen at hmxy
            clear hgl hgn hgn1 T10 G10 R10 P10 Gy hlt hsub hN
            have E4 : Hid ((encB cl cons num (List.replicate m6 0)).take H = (encB cl cons num L).take H) := e4
            clear e4 e3 hz
            go_upto_region 31 with fail
            go_quiet (first | (go_at_call 9; refine Calls.quiet_of (eq_q ay H ey _ (some ⟨x7, y7, none⟩) H e7 _ _ (Q1.drewN _) (Q2.drewN _) true (decide_eq_true E4.out))))
            go_wp2_with fail
            go_ret
            exact ⟨rfl, G11.trans (grownBy_drewN _ _)⟩

set_option maxRecDepth 100000 in
set_option maxHeartbeats 1600000 in
theorem join_any (cl : Int) (cons : Bool) (num : Int) (c0 : 0 ≤ cl) (c1 : cl ≤ 255) (m0 : 0 ≤ num) (m1 : num < 4294967296) (a1 : Option Addr) (n1 k1 : Nat) (xs : List Int) (a2 : Option Addr) (n2 k2 : Nat) (ys : List Int) (a3 : Option Addr) (n3 k3 : Nat) (zs : List Int) (w : World)
    (h1 : RdS w a1 n1 k1 xs) (h2 : RdS w a2 n2 k2 ys) (h3 : RdS w a3 n3 k3 zs) :
    Calls Try.prog 3 #[.int .u8 cl, .bool cons, .int .u32 num, .slice a1 n1 k1, .slice a2 n2 k2, .slice a3 n3 k3] w fun e w' => e = .returned (.bool true) ∧ w.grownBy w' none := by
  by_cases hs : n1 + n2 + n3 ≤ 1048576
  · by_cases s1 : n1 ≤ 262144
    · by_cases s2 : n2 ≤ 262144
      · by_cases s3 : n3 ≤ 262144
        · exact join_main cl cons num c0 c1 m0 m1 a1 n1 k1 xs a2 n2 k2 ys a3 n3 k3 zs w h1 h2 h3 hs s1 s2 s3
        · clear h1 h2 h3
          have q1 : decide ((262144 : Int) < (n1 : Int)) = false := decide_eq_false (by omega)
          have q2 : decide ((262144 : Int) < (n2 : Int)) = false := decide_eq_false (by omega)
          have q3 : decide ((262144 : Int) < (n3 : Int)) = true := decide_eq_true (by omega)
          go_enter Try.func3, Try.ntmps3
          go_wp2_with (go_at_call 7; refine (zz7_yes _ _ _ a1 a2 a3 n1 k1 n2 k2 n3 k3 w hs).mono ?_; rintro e w2 ⟨rfl, rfl⟩)
          go_ret
          exact ⟨rfl, World.grownBy.refl _ _⟩
      · clear h1 h2 h3
        have q1 : decide ((262144 : Int) < (n1 : Int)) = false := decide_eq_false (by omega)
        have q2 : decide ((262144 : Int) < (n2 : Int)) = true := decide_eq_true (by omega)
        go_enter Try.func3, Try.ntmps3
        go_wp2_with (go_at_call 7; refine (zz7_yes _ _ _ a1 a2 a3 n1 k1 n2 k2 n3 k3 w hs).mono ?_; rintro e w2 ⟨rfl, rfl⟩)
        go_ret
        exact ⟨rfl, World.grownBy.refl _ _⟩
    · clear h1 h2 h3
      have q1 : decide ((262144 : Int) < (n1 : Int)) = true := decide_eq_true (by omega)
      go_enter Try.func3, Try.ntmps3
      go_wp2_with (go_at_call 7; refine (zz7_yes _ _ _ a1 a2 a3 n1 k1 n2 k2 n3 k3 w hs).mono ?_; rintro e w2 ⟨rfl, rfl⟩)
      go_ret
      exact ⟨rfl, World.grownBy.refl _ _⟩
  · clear h1 h2 h3
    go_enter Try.func3, Try.ntmps3
    go_wp2_with (go_at_call 7; refine (zz7_no _ _ _ a1 a2 a3 n1 k1 n2 k2 n3 k3 w (by omega)).mono ?_; rintro e w2 ⟨rfl, rfl⟩)
    go_ret
    exact ⟨rfl, World.grownBy.refl _ _⟩
end Go.Proofs.Qxb6002387a
