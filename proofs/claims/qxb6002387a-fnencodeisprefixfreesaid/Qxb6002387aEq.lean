import Derived.Test.Qxb6002387aChecked
import Derived.Test.Qxb6002387aKit
import Derived.WalkSpells
import Derived.WalkLawsBesides
import Derived.Deep.QuietTactic
import Derived.BigQuiet
namespace Go.Proofs.Qxb6002387a
open Go.RowKit

theorem take_eq_step {xs ys : List Int} {k : Nat} (h1 : k < xs.length) (h2 : k < ys.length) (h : xs.take k = ys.take k) (hc : xs.getD k 0 = ys.getD k 0) : xs.take (k + 1) = ys.take (k + 1) := by
  rw [List.take_succ_eq_append_getElem h1, List.take_succ_eq_append_getElem h2, h]
  simp [List.getD, h1, h2] at hc
  rw [hc]

theorem ne_of_getD {xs ys : List Int} {k : Nat} (hc : ¬ xs.getD k 0 = ys.getD k 0) : decide (xs = ys) = false := by
  apply decide_eq_false
  rintro rfl
  exact hc rfl

theorem ret_bool {a b : Bool} (h : a = b) : Ending.returned (.bool a) = .returned (.bool b) := by rw [h]
theorem grownBy_drewN (w : World) (n : Nat) : w.grownBy (w.drewN n) none := ⟨rfl, rfl, rfl, Nat.le_refl _, fun _ _ _ => rfl⟩

set_option maxHeartbeats 400000 in
theorem eq_any (a1 : Option Addr) (n1 c1 : Nat) (xs : List Int) (a2 : Option Addr) (n2 c2 : Nat) (ys : List Int) (w : World) (h1 : RdS w a1 n1 c1 xs) (h2 : RdS w a2 n2 c2 ys) :
    Calls Try.prog 9 #[.slice a1 n1 c1, .slice a2 n2 c2] w fun e w' => e = .returned (.bool (decide (xs = ys))) ∧ ∃ q, w' = w.drewN q := by
  have l1 : Hid (xs.length = n1) := h1.len
  have l2 : Hid (ys.length = n2) := h2.len
  have b1 := h1.le
  have b2 := h1.max
  have b3 := h2.le
  have b4 := h2.max
  unfold maxLen at b2 b4
  by_cases hlen : n1 = n2
  · subst hlen
    have hb : ((n1 : Int) != (n1 : Int)) = false := by simp
    go_enter Try.func9, Try.ntmps9
    go_wp2
    go_loopw [5] (fun i wr => ∃ k q : Nat, k ≤ n1 ∧ i = .int .i64 k ∧ xs.take k = ys.take k ∧ wr = w.drewN q) (fun i _ => n1 - (intOf i).toNat)
    case atStart => exact ⟨0, 0, Nat.zero_le _, rfl, rfl, rfl⟩
    case round =>
      obtain ⟨k, q, hk, rfl, htk0, rfl⟩ := hrel
      have htk : Hid (xs.take k = ys.take k) := htk0
      clear htk0
      by_cases hlt : k < n1
      · obtain ⟨b1, o1, rfl, _, hc1⟩ := h1.pos (by omega)
        obtain ⟨b2, o2, rfl, _, hc2⟩ := h2.pos (by omega)
        have g1 := hc1 k hlt
        have g2 := hc2 k hlt
        clear hc1 hc2 h1 h2
        have i1 : (0 : Int) ≤ (k : Int) := by omega
        have i2 : (k : Int) < (n1 : Int) := by omega
        go_wp2
        go_quiet (fail)
        go_wp2
        · go_ret
          have hne : (xs[k]?.getD 0 != ys[k]?.getD 0) = true := by assumption
          exact ⟨ret_bool (ne_of_getD (k := k) (by simpa using hne)).symm, q + nq, by simp⟩
        · have heq : (xs[k]?.getD 0 != ys[k]?.getD 0) = false := by assumption
          go_roundw
          case rel => exact ⟨k + 1, _, by omega, by go_num, take_eq_step (by rw [l1.out]; exact hlt) (by rw [l2.out]; exact hlt) htk.out (by simpa using heq), rfl⟩
          case measure => simp [intOf]; omega
      · obtain rfl : k = n1 := by omega
        go_wp2
        go_ret
        have htk' := htk.out
        rw [List.take_of_length_le (Nat.le_of_eq l1.out), List.take_of_length_le (Nat.le_of_eq l2.out)] at htk'
        exact ⟨ret_bool (decide_eq_true htk').symm, q, rfl⟩
  · have hb : ((n1 : Int) != (n2 : Int)) = true := by rw [bne_iff_ne]; omega
    have hd : Hid (decide (xs = ys) = false) := by
      apply decide_eq_false
      rintro rfl
      exact hlen (l1.out.symm.trans l2.out)
    go_enter Try.func9, Try.ntmps9
    go_wp2
    go_ret
    exact ⟨ret_bool hd.out.symm, 0, rfl⟩
end Go.Proofs.Qxb6002387a
