import Derived.Test.Qxb6002387aChecked
import Derived.WalkKit
import Derived.WalkSpells
import Derived.WalkLawsBesides
namespace Go.Proofs.Qxb6002387a
open Go.RowKit

theorem ret_int {k : IntKind} {a b : Int} (h : a = b) : Ending.returned (.int k a) = .returned (.int k b) := by rw [h]
theorem ret_bool {a b : Bool} (h : a = b) : Ending.returned (.bool a) = .returned (.bool b) := by rw [h]

set_option maxHeartbeats 400000 in
theorem oct17 (x n : Int) (h1 : 1 ≤ x) (h2 : x ≤ 9223372036854775807) (hn : n = (x - 1) / 8 + 1) (w : World) : Calls Try.prog 17 #[.int .i64 x] w fun e w' => e = .returned (.int .i64 n) ∧ w = w' := by
  have H : Hid (n = (x - 1) / 8 + 1) := hn
  clear hn
  go_enter Try.func17, Try.ntmps17
  go_wp2
  go_ret
  exact ⟨ret_int H.out.symm, rfl⟩

set_option maxHeartbeats 400000 in
theorem oct13 (x n : Int) (h1 : 1 ≤ x) (h2 : x ≤ 9223372036854775807) (hn : n = (x - 1) / 8 + 1) (w : World) : Calls Try.prog 13 #[.int .i64 x] w fun e w' => e = .returned (.int .i64 n) ∧ w = w' := by
  have H : Hid (n = (x - 1) / 8 + 1) := hn
  clear hn
  go_enter Try.func13, Try.ntmps13
  go_wp2_with (go_at_call 17; refine (oct17 x n h1 h2 H.out _).mono ?_; rintro e w' ⟨rfl, rfl⟩)
  go_ret
  exact ⟨rfl, rfl⟩

set_option maxHeartbeats 400000 in
theorem oct_walk (x : Int) (h2 : x ≤ 9223372036854775807) (w : World) : Calls Try.prog 6 #[.int .i64 x] w fun e w' => e = .returned (.bool true) ∧ w = w' := by
  by_cases h1 : 1 ≤ x
  · obtain ⟨n, hn⟩ : ∃ n, n = (x - 1) / 8 + 1 := ⟨_, rfl⟩
    have H : Hid (n = (x - 1) / 8 + 1) := hn
    have b1 : 8 * (n - 1) ≤ x - 1 := by omega
    have b2 : x - 1 ≤ 8 * (n - 1) + 7 := by omega
    clear hn
    by_cases h3 : x ≤ 9223372036854775799
    · go_enter Try.func6, Try.ntmps6
      go_wp2_with fail
      refine (oct13 x n h1 h2 H.out w).mono ?_
      rintro e w' ⟨rfl, rfl⟩
      go_wp2_with fail
      refine (oct13 (x + 8) (n + 1) (by omega) (by omega) (by rw [H.out]; omega) w).mono ?_
      rintro e w' ⟨rfl, rfl⟩
      have q : (n + 1 == n + 1) = true := by simp
      go_wp2
      go_ret
      exact ⟨rfl, rfl⟩
    · go_enter Try.func6, Try.ntmps6
      go_wp2_with fail
      refine (oct13 x n h1 h2 H.out w).mono ?_
      rintro e w' ⟨rfl, rfl⟩
      go_wp2
      go_ret
      exact ⟨rfl, rfl⟩
  · go_enter Try.func6, Try.ntmps6
    go_wp2
    go_ret
    exact ⟨rfl, rfl⟩
end Go.Proofs.Qxb6002387a
