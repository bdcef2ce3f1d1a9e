import Derived.Test.Qxb6001102aDoorChecked
import Derived.Test.Qxb6001102aDoorBase
import Derived.WalkSpells
import Derived.WalkLawsBesides
namespace Go.Proofs.Qxb6001102aDoor
open Go.RowKit

set_option maxHeartbeats 400000 in
theorem dig_yes (c : Int) (h1 : 48 ≤ c) (h2 : c ≤ 57) (w : World) : Calls Tryd.prog 21 #[.int .u8 c] w fun e w' => e = .returned (.bool true) ∧ w = w' := by
  have q1 : decide ((48 : Int) ≤ c) = true := decide_eq_true h1
  have q2 : decide (c ≤ (57 : Int)) = true := decide_eq_true h2
  go_enter Tryd.func21, Tryd.ntmps21
  go_wp2
  go_ret
  exact ⟨rfl, rfl⟩

set_option maxHeartbeats 400000 in
theorem dig_no (c : Int) (h : c < 48 ∨ 57 < c) (w : World) : Calls Tryd.prog 21 #[.int .u8 c] w fun e w' => e = .returned (.bool false) ∧ w = w' := by
  rcases h with h | h
  · have q1 : decide ((48 : Int) ≤ c) = false := decide_eq_false (by omega)
    go_enter Tryd.func21, Tryd.ntmps21
    go_wp2
    go_ret
    exact ⟨rfl, rfl⟩
  · have q1 : decide ((48 : Int) ≤ c) = true := decide_eq_true (by omega)
    have q2 : decide (c ≤ (57 : Int)) = false := decide_eq_false (by omega)
    go_enter Tryd.func21, Tryd.ntmps21
    go_wp2
    go_ret
    exact ⟨rfl, rfl⟩

/-- Are all digits? -/
def allDig (l : List Int) : Bool := l.all fun c => decide (48 ≤ c) && decide (c ≤ 57)
theorem allDig_snoc (l : List Int) (k : Nat) (hk : k < l.length) (h : allDig (l.take k) = true) (hc : 48 ≤ l.getD k 0 ∧ l.getD k 0 ≤ 57) : allDig (l.take (k + 1)) = true := by
  have e : l.getD k 0 = l[k] := by simp [List.getD, hk]
  rw [e] at hc
  unfold allDig at h ⊢
  rw [List.take_succ_eq_append_getElem hk, List.all_append, h]
  simp [hc.1, hc.2]
theorem allDig_not (l : List Int) (k : Nat) (hk : k < l.length) (hc : ¬ (48 ≤ l.getD k 0 ∧ l.getD k 0 ≤ 57)) : allDig l = false := by
  have e : l.getD k 0 = l[k] := by simp [List.getD, hk]
  rw [e] at hc
  rw [Bool.eq_false_iff]
  intro h
  have := List.all_eq_true.1 h l[k] (List.getElem_mem _)
  simp at this
  exact hc this
theorem allDig_at (l : List Int) (h : allDig l = true) (k : Nat) (hk : k < l.length) : 48 ≤ l.getD k 0 ∧ l.getD k 0 ≤ 57 := by
  have e : l.getD k 0 = l[k] := by simp [List.getD, hk]
  rw [e]
  have := List.all_eq_true.1 h l[k] (List.getElem_mem _)
  simpa using this

theorem ret_bool' {a b : Bool} (h : a = b) : Ending.returned (.bool a) = .returned (.bool b) := by rw [h]

set_option maxHeartbeats 400000 in
theorem alldig_any (a : Option Addr) (n c : Nat) (zs : List Int) (w : World) (h : RdS w a n c zs) :
    Calls Tryd.prog 17 #[.slice a n c] w fun e w' => e = .returned (.bool (allDig zs)) ∧ w = w' := by
  have hl : Hid (zs.length = n) := h.len
  have b1 := h.le
  have b2 := h.max
  unfold maxLen at b2
  go_enter Tryd.func17, Tryd.ntmps17
  go_wp2
  go_loopw [3] (fun i wr => ∃ k : Nat, k ≤ n ∧ i = .int .i64 k ∧ allDig (zs.take k) = true ∧ w = wr) (fun i _ => n - (intOf i).toNat)
  case atStart => exact ⟨0, Nat.zero_le _, rfl, rfl, rfl⟩
  case round =>
    obtain ⟨k, hk, rfl, htk0, rfl⟩ := hrel
    have htk : Hid (allDig (zs.take k) = true) := htk0
    clear htk0
    by_cases hlt : k < n
    · obtain ⟨b, o, rfl, _, hc⟩ := h.pos (by omega)
      have g := hc k hlt
      clear hc h
      by_cases hd : 48 ≤ zs.getD k 0 ∧ zs.getD k 0 ≤ 57
      · have HN : Hid (allDig (zs.take (k + 1)) = true) := allDig_snoc zs k (by rw [hl.out]; exact hlt) htk.out hd
        obtain ⟨d1, d2⟩ := hd
        generalize zs.getD k 0 = v at g d1 d2
        go_wp2_with (go_at_call 21; refine (dig_yes _ d1 d2 _).mono ?_; rintro e w' ⟨rfl, rfl⟩)
        go_roundw
        case rel => exact ⟨k + 1, by omega, by go_num, HN.out, trivial⟩
        case measure => simp [intOf]; omega
      · have HN : Hid (allDig zs = false) := allDig_not zs k (by rw [hl.out]; exact hlt) hd
        have hd' : zs.getD k 0 < 48 ∨ 57 < zs.getD k 0 := by omega
        generalize zs.getD k 0 = v at g hd'
        have HD : Hid (v < 48 ∨ 57 < v) := hd'
        clear hd hd'
        go_wp2_with (go_at_call 21; refine (dig_no _ HD.out _).mono ?_; rintro e w' ⟨rfl, rfl⟩)
        go_ret
        exact ⟨ret_bool' HN.out.symm, rfl⟩
    · obtain rfl : k = n := by omega
      go_wp2
      go_ret
      have ht := htk.out
      rw [List.take_of_length_le (Nat.le_of_eq hl.out)] at ht
      exact ⟨ret_bool' ht.symm, rfl⟩

set_option maxHeartbeats 400000 in
theorem zz16_yes (a : Option Addr) (n c : Nat) (a' : Option Addr) (n' c' : Nat) (p : Int) (w : World) (h : n + n' ≤ 1048576) :
    Calls Tryd.prog 16 #[.slice a n c, .slice a' n' c', .int .i64 p] w fun e w' => e = .returned (.bool true) ∧ w = w' := by
  go_enter Tryd.func16, Tryd.ntmps16
  go_wp2
  go_ret
  exact ⟨rfl, rfl⟩

set_option maxHeartbeats 400000 in
theorem zz16_no (a : Option Addr) (n c : Nat) (a' : Option Addr) (n' c' : Nat) (p : Int) (w : World) (h : 1048576 < n + n') :
    Calls Tryd.prog 16 #[.slice a n c, .slice a' n' c', .int .i64 p] w fun e w' => e = .returned (.bool false) ∧ w = w' := by
  go_enter Tryd.func16, Tryd.ntmps16
  go_wp2
  all_goals go_ret
  all_goals exact ⟨rfl, rfl⟩
end Go.Proofs.Qxb6001102aDoor
