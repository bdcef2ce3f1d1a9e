import Derived.Test.Qxb6002387aPre
namespace Go.Proofs.Qxb6002387a
open Go.RowKit
set_option linter.unusedVariables false
attribute [local go_sem ↓] Go.wp_at_zero Go.wp_at_succ

set_option maxRecDepth 100000 in
set_option maxHeartbeats 1600000 in
theorem free_main (cl : Int) (cons : Bool) (num : Int) (c0 : 0 ≤ cl) (c1 : cl ≤ 3) (m0 : 0 ≤ num) (m1 : num < 4294967296) (cl' : Int) (cons' : Bool) (num' : Int) (c0' : 0 ≤ cl') (c1' : cl' ≤ 3) (m0' : 0 ≤ num') (m1' : num' < 4294967296) (a1 : Option Addr) (n1 k1 : Nat) (xs : List Int) (a2 : Option Addr) (n2 k2 : Nat) (ys : List Int) (w : World)
    (h1 : RdS w a1 n1 k1 xs) (h2 : RdS w a2 n2 k2 ys) (hs : n1 + n2 ≤ 1048576) (s1 : n1 ≤ 524288) (s2 : n2 ≤ 524288) :
    Calls Try.prog 4 #[.int .u8 cl, .bool cons, .int .u32 num, .slice a1 n1 k1, .int .u8 cl', .bool cons', .int .u32 num', .slice a2 n2 k2] w fun e w' => e = .returned (.bool true) ∧ w.grownBy w' none := by
  have hq1 : ∀ W, Sem.run Try.prog (binOp .neq 23 (.slice a1 n1 k1) (.slice none 0 0)) W = .ok (.bool (!a1.isNone)) W := fun W => run_neq_slice_nil_any W 23 5 a1 n1 k1 0 0 Try.underlying23
  have hq2 : ∀ W, Sem.run Try.prog (binOp .neq 23 (.slice a2 n2 k2) (.slice none 0 0)) W = .ok (.bool (!a2.isNone)) W := fun W => run_neq_slice_nil_any W 23 5 a2 n2 k2 0 0 Try.underlying23
  have l1 := h1.len
  have l2 := h2.len
  have SE := encB_same (cons := cons) (cons' := cons') (L := xs) (L' := ys) c0 c1 c0' c1' m0 m1 m0' m1' (by omega) (by omega)
  have SP : ∀ k, encB cl cons num xs = (encB cl' cons' num' ys).take k → same cl cons num xs cl' cons' num' ys = true := fun k => encB_prefix c0 c1 c0' c1' m0 m1 m0' m1' (by omega) (by omega)
  have SD : Hid (same cl cons num xs cl' cons' num' ys = decide (cl = cl' ∧ cons = cons' ∧ num = num' ∧ xs = ys)) := rfl
  obtain ⟨S, hS⟩ : ∃ S, S = same cl cons num xs cl' cons' num' ys := ⟨_, rfl⟩
  rw [← hS] at SE SP SD
  have SE' : Hid (decide (encB cl cons num xs = encB cl' cons' num' ys) = S) := SE
  have SP' : Hid (∀ k, encB cl cons num xs = (encB cl' cons' num' ys).take k → S = true) := SP
  clear SE SP hS l1 l2
  have q1 : decide ((524288 : Int) < (n1 : Int)) = false := decide_eq_false (by omega)
  have q2 : decide ((524288 : Int) < (n2 : Int)) = false := decide_eq_false (by omega)
  have q3 : decide ((3 : Int) < cl) = false := decide_eq_false (by omega)
  have q4 : decide ((3 : Int) < cl') = false := decide_eq_false (by omega)
  go_enter Try.func4, Try.ntmps4
  go_upto_if 47 with (go_at_call 10; refine (zz10_yes _ _ _ _ _ _ a1 a2 n1 k1 n2 k2 w hs).mono ?_; rintro e w2 ⟨rfl, rfl⟩)
  go_cut [3, 17] from 22 to 54 (fun v u w' => ∃ a' c', v = .slice a' n1 c' ∧ RdS w' a' n1 c' xs ∧ RdS w' a2 n2 k2 ys ∧ w.grownBy w' none)
  case first =>
    rcases a1 with _ | a1
    · go_wp2_with fail
      go_meet
      case rel => exact ⟨none, k1, rfl, h1, h2, World.grownBy.refl _ _⟩
    · have hmk := run_mkn n1 (by omega)
      obtain ⟨w1, hcp, rd1, G1⟩ := run_copy_b8 w w.heap.size n1 rfl (some a1) k1 xs h1 3
      go_wp2_with fail
      go_meet
      case rel => exact ⟨_, _, rfl, rd1, h2.onward G1, G1⟩
  case rest =>
    clear h1 h2 hq1 q1 q2 q3 q4
    obtain ⟨b1, d1, rfl, r1, h2, G1⟩ := hcut
    go_upto_if 56 with fail
    go_cut [7, 18] from 22 to 63 (fun v u w' => ∃ a' c', v = .slice a' n2 c' ∧ RdS w' a' n2 c' ys ∧ RdS w' b1 n1 d1 xs ∧ w.grownBy w' none)
    case first =>
      rcases a2 with _ | a2
      · go_wp2_with fail
        go_meet
        case rel => exact ⟨none, k2, rfl, h2, r1, G1⟩
      · have hmk := run_mkn n2 (by omega)
        obtain ⟨w1, hcp, rd1, G2⟩ := run_copy_b8 wc wc.heap.size n2 rfl (some a2) k2 ys h2 3
        go_wp2_with fail
        go_meet
        case rel => exact ⟨_, _, rfl, rd1, r1.onward G2, G1.trans G2⟩
    case rest =>
      clear h2 r1 G1
      obtain ⟨b2, d2, rfl, r2, r1, G⟩ := hcut
      clear hq2
      go_upto_region 16 with (go_at_call 8; refine (enc_one wc wc.heap.size rfl b1 n1 d1 xs r1 (by omega) _ cl cons num c0 (by omega) m0 m1).mono ?_; rintro e w7 ⟨a7, m7, e7, rfl, R7, G7⟩)
      have P2 := r2.onward G7
      go_upto_region 17 with (go_at_call 8; refine (enc_one w7 w7.heap.size rfl b2 n2 d2 ys P2 (by omega) _ cl' cons' num' c0' (by omega) m0' m1').mono ?_; rintro e w8 ⟨a8, m8, e8, rfl, R8, G8⟩)
      have Q1 := (r1.onward G7).onward G8
      have Q2 := P2.onward G8
      have E1 := R7.onward G8
      have G' := (G.trans G7).trans G8
      clear r1 r2 P2 R7 G G7 G8
      go_cut [21] from 22 to 95 (fun v w' => v = .bool S ∧ w8.grownBy w' none)
      case first =>
        by_cases h1 : cl = cl'
        · have j1 : (cl == cl') = true := by simp [h1]
          by_cases h2 : cons = cons'
          · have j2 : (cons == cons') = true := by simp [h2]
            by_cases h3 : num = num'
            · have j3 : (num == num') = true := by simp [h3]
              have hd : Hid (decide (xs = ys) = S) := by show _ = _; rw [SD.out, decide_eq_decide]; exact ⟨fun h => ⟨h1, h2, h3, h⟩, fun h => h.2.2.2⟩
              have J : Hid (cl = cl' ∧ cons = cons' ∧ num = num') := ⟨h1, h2, h3⟩
              clear h1 h2 h3
              go_wp2_with (go_at_call 9; refine (eq_two b1 n1 d1 xs b2 n2 d2 ys w8 Q1 Q2 S hd.out).mono ?_; rintro e wx ⟨rfl, Gx⟩)
              go_meet
              case rel => exact ⟨rfl, Gx⟩
            · have j3 : (num == num') = false := by simp [h3]
              obtain rfl : S = false := by rw [SD.out]; exact decide_eq_false (fun h => h3 h.2.2.1)
              clear h1 h2 h3
              go_wp2_with fail
              go_meet
              case rel => exact ⟨rfl, World.grownBy.refl _ _⟩
          · have j2 : (cons == cons') = false := by simp [h2]
            obtain rfl : S = false := by rw [SD.out]; exact decide_eq_false (fun h => h2 h.2.1)
            clear h1 h2
            go_wp2_with fail
            go_meet
            case rel => exact ⟨rfl, World.grownBy.refl _ _⟩
        · have j1 : (cl == cl') = false := by simp [h1]
          obtain rfl : S = false := by rw [SD.out]; exact decide_eq_false (fun h => h1 h.1)
          clear h1
          go_wp2_with fail
          go_meet
          case rel => exact ⟨rfl, World.grownBy.refl _ _⟩
      case rest =>
        obtain ⟨rfl, Gx⟩ := hcut
        have F1 := E1.onward Gx
        have F2 := R8.onward Gx
        have G9 := G'.trans Gx
        clear E1 R8 Q1 Q2 G' Gx
        have p8 : 0 < m8 := by
          have e := F2.len
          rw [encB_length] at e
          have := headN_pos cl' cons' num' ys.length
          omega
        obtain ⟨x8, y8, rfl, _, _⟩ := F2.pos p8
        go_upto_region 20 with (go_at_call 9; refine (eq_two a7 m7 e7 _ (some ⟨x8, y8, none⟩) m8 e8 _ wc F1 F2 S SE'.out).mono ?_; rintro e wy ⟨rfl, Gy⟩)
        have H1 := F1.onward Gy
        have H2 := F2.onward Gy
        have G10 := G9.trans Gy
        have z1 := H1.le
        have z2 := H1.max
        have z3 := H2.le
        have z4 := H2.max
        unfold maxLen at z2 z4
        clear F1 F2 G9 Gy SD SE'
        by_cases hle : m7 ≤ m8
        · have jl : decide ((m7 : Int) ≤ (m8 : Int)) = true := decide_eq_true (by omega)
          have H3 := H2.to' m7 hle
          by_cases hp : encB cl cons num xs = (encB cl' cons' num' ys).take m7
          · obtain rfl : S = true := SP'.out m7 hp
            have HP : Hid (encB cl cons num xs = (encB cl' cons' num' ys).take m7) := hp
            clear hp SP'
            go_wp2_with (go_at_call 9; refine (eq_two a7 m7 e7 _ (some ⟨x8, y8, none⟩) m7 e8 _ wy H1 H3 true (decide_eq_true HP.out)).mono ?_; rintro e wz ⟨rfl, Gz⟩)
            go_ret
            exact ⟨rfl, G10.trans Gz⟩
          · have HP : Hid (¬ encB cl cons num xs = (encB cl' cons' num' ys).take m7) := hp
            clear hp SP'
            go_wp2_with (go_at_call 9; refine (eq_two a7 m7 e7 _ (some ⟨x8, y8, none⟩) m7 e8 _ wy H1 H3 false (decide_eq_false HP.out)).mono ?_; rintro e wz ⟨rfl, Gz⟩)
            go_ret
            exact ⟨rfl, G10.trans Gz⟩
        · have jl : decide ((m7 : Int) ≤ (m8 : Int)) = false := decide_eq_false (by omega)
          go_wp2_with fail
          go_ret
          exact ⟨rfl, G10⟩

set_option maxRecDepth 100000 in
set_option maxHeartbeats 1600000 in
theorem free_any (cl : Int) (cons : Bool) (num : Int) (c0 : 0 ≤ cl) (c1 : cl ≤ 255) (m0 : 0 ≤ num) (m1 : num < 4294967296) (cl' : Int) (cons' : Bool) (num' : Int) (c0' : 0 ≤ cl') (c1' : cl' ≤ 255) (m0' : 0 ≤ num') (m1' : num' < 4294967296) (a1 : Option Addr) (n1 k1 : Nat) (xs : List Int) (a2 : Option Addr) (n2 k2 : Nat) (ys : List Int) (w : World)
    (h1 : RdS w a1 n1 k1 xs) (h2 : RdS w a2 n2 k2 ys) :
    Calls Try.prog 4 #[.int .u8 cl, .bool cons, .int .u32 num, .slice a1 n1 k1, .int .u8 cl', .bool cons', .int .u32 num', .slice a2 n2 k2] w fun e w' => e = .returned (.bool true) ∧ w.grownBy w' none := by
  by_cases hs : n1 + n2 ≤ 1048576
  · by_cases s1 : n1 ≤ 524288
    · have q1 : decide ((524288 : Int) < (n1 : Int)) = false := decide_eq_false (by omega)
      by_cases s2 : n2 ≤ 524288
      · have q2 : decide ((524288 : Int) < (n2 : Int)) = false := decide_eq_false (by omega)
        by_cases t1 : cl ≤ 3
        · have q3 : decide ((3 : Int) < cl) = false := decide_eq_false (by omega)
          by_cases t2 : cl' ≤ 3
          · exact free_main cl cons num c0 t1 m0 m1 cl' cons' num' c0' t2 m0' m1' a1 n1 k1 xs a2 n2 k2 ys w h1 h2 hs s1 s2
          · clear h1 h2
            have q4 : decide ((3 : Int) < cl') = true := decide_eq_true (by omega)
            go_enter Try.func4, Try.ntmps4
            go_wp2_with (go_at_call 10; refine (zz10_yes _ _ _ _ _ _ a1 a2 n1 k1 n2 k2 w hs).mono ?_; rintro e w2 ⟨rfl, rfl⟩)
            go_ret
            exact ⟨rfl, World.grownBy.refl _ _⟩
        · clear h1 h2
          have q3 : decide ((3 : Int) < cl) = true := decide_eq_true (by omega)
          go_enter Try.func4, Try.ntmps4
          go_wp2_with (go_at_call 10; refine (zz10_yes _ _ _ _ _ _ a1 a2 n1 k1 n2 k2 w hs).mono ?_; rintro e w2 ⟨rfl, rfl⟩)
          go_ret
          exact ⟨rfl, World.grownBy.refl _ _⟩
      · clear h1 h2
        have q2 : decide ((524288 : Int) < (n2 : Int)) = true := decide_eq_true (by omega)
        go_enter Try.func4, Try.ntmps4
        go_wp2_with (go_at_call 10; refine (zz10_yes _ _ _ _ _ _ a1 a2 n1 k1 n2 k2 w hs).mono ?_; rintro e w2 ⟨rfl, rfl⟩)
        go_ret
        exact ⟨rfl, World.grownBy.refl _ _⟩
    · clear h1 h2
      have q1 : decide ((524288 : Int) < (n1 : Int)) = true := decide_eq_true (by omega)
      go_enter Try.func4, Try.ntmps4
      go_wp2_with (go_at_call 10; refine (zz10_yes _ _ _ _ _ _ a1 a2 n1 k1 n2 k2 w hs).mono ?_; rintro e w2 ⟨rfl, rfl⟩)
      go_ret
      exact ⟨rfl, World.grownBy.refl _ _⟩
  · clear h1 h2
    go_enter Try.func4, Try.ntmps4
    go_wp2_with (go_at_call 10; refine (zz10_no _ _ _ _ _ _ a1 a2 n1 k1 n2 k2 w (by omega)).mono ?_; rintro e w2 ⟨rfl, rfl⟩)
    go_ret
    exact ⟨rfl, World.grownBy.refl _ _⟩
end Go.Proofs.Qxb6002387a
