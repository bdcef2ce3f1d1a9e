import Derived.Test.Qxb6001102aDoorTop
namespace Go.Proofs.Qxb6001102aDoor
open Go.RowKit

set_option maxRecDepth 100000 in
set_option maxHeartbeats 4000000 in
theorem top_any (a0 : Option Addr) (n0 c0 : Nat) (zs : List Int) (a1 : Option Addr) (n1 c1 : Nat) (s : List Int) (p : Int) (w : World) (h0 : RdS w a0 n0 c0 zs) (h1 : RdS w a1 n1 c1 s)
    (htab : Lib.TabBelow Tryd.prog w.heap.size w Tryd.powN .u64 Lib.pow10Tab) :
    Calls Tryd.prog 5 #[.slice a0 n0 c0, .slice a1 n1 c1, .int .i64 p] w fun e w' => e = .returned (.bool true) ∧ Below w.heap.size w w' := by
  by_cases hz : n0 + n1 ≤ 1048576
  · by_cases hb0 : n0 ≤ 524288
    · have e1 : decide ((524288 : Int) < (n0 : Int)) = false := decide_eq_false (by omega)
      by_cases hb1 : n1 ≤ 524288
      · have e2 : decide ((524288 : Int) < (n1 : Int)) = false := decide_eq_false (by omega)
        by_cases hp1 : -536870912 ≤ p
        · have e3 : decide (p < (-536870912 : Int)) = false := decide_eq_false (by omega)
          by_cases hp2 : p ≤ 536870912
          · have e4 : decide ((536870912 : Int) < p) = false := decide_eq_false (by omega)
            by_cases hk : 1 ≤ n1
            · have e5 : ((n1 : Int) == 0) = false := beq_eq_false_iff_ne.2 (by omega)
              have u1 := h1.le
              have u2 := h1.max
              unfold maxLen at u2
              by_cases hf : s.getD 0 0 = 48
              · obtain ⟨b, off, rfl, hb, hc⟩ := h1.pos (by omega)
                have g0 := hc 0 (by omega)
                rw [Nat.add_zero, hf] at g0
                clear hc hf h1
                go_enter Tryd.func5, Tryd.ntmps5
                go_wp2_with (go_at_call 16; refine (zz16_yes a0 n0 c0 _ n1 c1 p _ hz).mono ?_; rintro e w' ⟨rfl, rfl⟩)
                go_ret
                exact ⟨rfl, Below.refl _ _⟩
              · by_cases hl : s.getD (n1 - 1) 0 = 48
                · obtain ⟨b, off, rfl, hb, hc⟩ := h1.pos (by omega)
                  have g0 := hc 0 (by omega)
                  have g1 := hc (n1 - 1) (by omega)
                  rw [Nat.add_zero] at g0
                  rw [hl] at g1
                  have f0 : (s.getD 0 0 == 48) = false := beq_eq_false_iff_ne.2 hf
                  clear hc hf hl h1
                  generalize s.getD 0 0 = v0 at g0 f0
                  go_enter Tryd.func5, Tryd.ntmps5
                  go_wp2_with (go_at_call 16; refine (zz16_yes a0 n0 c0 _ n1 c1 p _ hz).mono ?_; rintro e w' ⟨rfl, rfl⟩)
                  go_ret
                  exact ⟨rfl, Below.refl _ _⟩
                · by_cases hd : allDig s = true
                  · exact top_walk a0 n0 c0 zs a1 n1 c1 s p w h0 h1 hz hb0 hb1 hp1 hp2 hk hf hl hd htab
                  · have hd' : allDig s = false := by simpa using hd
                    have E := alldig_any _ n1 c1 s w h1
                    rw [hd'] at E
                    obtain ⟨b, off, rfl, hb, hc⟩ := h1.pos (by omega)
                    have g0 := hc 0 (by omega)
                    have g1 := hc (n1 - 1) (by omega)
                    rw [Nat.add_zero] at g0
                    have f0 : (s.getD 0 0 == 48) = false := beq_eq_false_iff_ne.2 hf
                    have f1 : (s.getD (n1 - 1) 0 == 48) = false := beq_eq_false_iff_ne.2 hl
                    clear hc hf hl h1 hd hd'
                    generalize s.getD 0 0 = v0 at g0 f0
                    generalize s.getD (n1 - 1) 0 = v1 at g1 f1
                    have HE : Hid (Calls Tryd.prog 17 #[.slice (some ⟨b, off, none⟩) n1 c1] w fun e w' => e = .returned (.bool false) ∧ w = w') := E
                    clear E
                    go_enter Tryd.func5, Tryd.ntmps5
                    go_wp2_with (first | (go_at_call 16; refine (zz16_yes a0 n0 c0 _ n1 c1 p _ hz).mono ?_; rintro e w' ⟨rfl, rfl⟩) | (go_at_call 17; refine HE.out.mono ?_; rintro e w' ⟨rfl, rfl⟩))
                    go_ret
                    exact ⟨rfl, Below.refl _ _⟩
            · obtain rfl : n1 = 0 := by omega
              go_enter Tryd.func5, Tryd.ntmps5
              go_wp2_with (go_at_call 16; refine (zz16_yes a0 n0 c0 _ 0 c1 p _ hz).mono ?_; rintro e w' ⟨rfl, rfl⟩)
              go_ret
              exact ⟨rfl, Below.refl _ _⟩
          · have e4 : decide ((536870912 : Int) < p) = true := decide_eq_true (by omega)
            go_enter Tryd.func5, Tryd.ntmps5
            go_wp2_with (go_at_call 16; refine (zz16_yes a0 n0 c0 _ n1 c1 p _ hz).mono ?_; rintro e w' ⟨rfl, rfl⟩)
            go_ret
            exact ⟨rfl, Below.refl _ _⟩
        · have e3 : decide (p < (-536870912 : Int)) = true := decide_eq_true (by omega)
          go_enter Tryd.func5, Tryd.ntmps5
          go_wp2_with (go_at_call 16; refine (zz16_yes a0 n0 c0 _ n1 c1 p _ hz).mono ?_; rintro e w' ⟨rfl, rfl⟩)
          go_ret
          exact ⟨rfl, Below.refl _ _⟩
      · have e2 : decide ((524288 : Int) < (n1 : Int)) = true := decide_eq_true (by omega)
        go_enter Tryd.func5, Tryd.ntmps5
        go_wp2_with (go_at_call 16; refine (zz16_yes a0 n0 c0 _ n1 c1 p _ hz).mono ?_; rintro e w' ⟨rfl, rfl⟩)
        go_ret
        exact ⟨rfl, Below.refl _ _⟩
    · have e1 : decide ((524288 : Int) < (n0 : Int)) = true := decide_eq_true (by omega)
      go_enter Tryd.func5, Tryd.ntmps5
      go_wp2_with (go_at_call 16; refine (zz16_yes a0 n0 c0 _ n1 c1 p _ hz).mono ?_; rintro e w' ⟨rfl, rfl⟩)
      go_ret
      exact ⟨rfl, Below.refl _ _⟩
  · go_enter Tryd.func5, Tryd.ntmps5
    go_wp2_with (go_at_call 16; refine (zz16_no a0 n0 c0 _ n1 c1 p _ (by omega)).mono ?_; rintro e w' ⟨rfl, rfl⟩)
    go_ret
    exact ⟨rfl, Below.refl _ _⟩
end Go.Proofs.Qxb6001102aDoor
