import Derived.Test.Qxb6002387aOct
import Derived.Test.Qxb6002387aKit
namespace Go.Proofs.Qxb6002387a
open Go.RowKit

def arc (l : List Int) : Int := l.foldl (fun v c => v * 128 + c % 128) 0
theorem arc_snoc (l : List Int) (c : Int) : arc (l ++ [c]) = arc l * 128 + c % 128 := by simp [arc]
theorem arc_bound (l : List Int) : ∀ d, d ≤ l.length → 0 ≤ arc (l.take d) ∧ arc (l.take d) < 128 ^ d
  | 0, _ => by simp [arc]
  | d + 1, h => by
    have ih := arc_bound l d (by omega)
    rw [List.take_succ_eq_append_getElem (by omega), arc_snoc, Int.pow_succ]
    omega
theorem pow128 (d : Nat) (h : d ≤ 8) : (128 : Int) ^ d ≤ 72057594037927936 := by
  have : ∀ d : Fin 9, (128 : Int) ^ d.val ≤ 72057594037927936 := by decide
  exact this ⟨d, by omega⟩

theorem and127 (c : Nat) (h : c < 256) : bits BinOp.and IntKind.u8 (c : Int) 127 = (c : Int) % 128 := by
  have : ∀ c : Fin 256, bits BinOp.and IntKind.u8 ((c.val : Nat) : Int) 127 = ((c.val : Nat) : Int) % 128 := by decide +kernel
  exact this ⟨c, h⟩
theorem or128 (v r : Int) (h0 : 0 ≤ v) (h1 : v ≤ 72057594037927936) (h2 : 0 ≤ r) (h3 : r < 128) : bits BinOp.or IntKind.u64 (v * 128) r = v * 128 + r := by
  obtain ⟨a, rfl⟩ : ∃ a : Nat, v = (a : Int) := ⟨v.toNat, by omega⟩
  obtain ⟨b, rfl⟩ : ∃ b : Nat, r = (b : Int) := ⟨r.toNat, by omega⟩
  have e := u64_or ((a : Int) * 128) (b : Int) (by omega) (by omega) (by omega) (by omega)
  rw [e, show ((a : Int) * 128).toNat = 2 ^ 7 * a from by omega, Int.toNat_natCast, ← Nat.two_pow_add_eq_or_of_lt (by omega : b < 2 ^ 7) a]
  omega

set_option maxHeartbeats 400000 in
theorem arc16 (s : ByteArray) (w : World) (hs : s.size ≤ 9) : Calls Try.prog 16 #[.string s] w fun e w' => e = .returned (.tuple #[.int .u64 (arc (bytesOf s)), .bool true]) ∧ w = w' := by
  go_enter Try.func16, Try.ntmps16
  go_wp2
  go_loop [2, 10] (fun v i => ∃ k : Nat, k ≤ s.size ∧ i = .int .i64 k ∧ v = .int .u64 (arc ((bytesOf s).take k))) (fun _ i => s.size - (intOf i).toNat)
  case atStart => exact ⟨0, Nat.zero_le _, rfl, rfl⟩
  case round =>
    obtain ⟨k, hk, rfl, rfl⟩ := hrel
    by_cases hlt : k < s.size
    · have B := arc_bound (bytesOf s) k (by rw [bytesOf_length]; exact hk)
      have P := pow128 k (by omega)
      have HS : Hid (arc ((bytesOf s).take (k + 1)) = arc ((bytesOf s).take k) * 128 + (s[k].toNat : Int) % 128) := by rw [bytesOf_take s k hlt, arc_snoc]; rfl
      generalize arc ((bytesOf s).take k) = v at B HS ⊢
      have B1 : 0 ≤ v := B.1
      have B2 : v ≤ 72057594037927936 := by omega
      clear B P
      have q1 := and127 s[k].toNat s[k].toNat_lt
      have q2 := or128 v ((s[k].toNat : Int) % 128) B1 B2 (by omega) (by omega)
      go_wp2
      go_round
      case rel => exact ⟨k + 1, by omega, by go_num, by rw [HS.out]⟩
      case measure => simp [intOf]; omega
    · obtain rfl : k = s.size := by omega
      rw [List.take_of_length_le (by rw [bytesOf_length]; exact Nat.le_refl _)]
      go_wp2
      go_ret2
      exact ⟨rfl, rfl⟩

set_option maxHeartbeats 400000 in
theorem arc16_no (s : ByteArray) (w : World) (hs : 9 < s.size) : Calls Try.prog 16 #[.string s] w fun e w' => e = .returned (.tuple #[.int .u64 0, .bool false]) ∧ w = w' := by
  go_enter Try.func16, Try.ntmps16
  go_wp2
  go_ret2
  exact ⟨rfl, rfl⟩

set_option maxHeartbeats 400000 in
theorem arc12 (s : ByteArray) (w : World) (hs : s.size ≤ 9) : Calls Try.prog 12 #[.string s] w fun e w' => e = .returned (.tuple #[.int .u64 (arc (bytesOf s)), .bool true]) ∧ w = w' := by
  go_enter Try.func12, Try.ntmps12
  go_wp2_with (go_at_call 16; refine (arc16 s _ hs).mono ?_; rintro e w' ⟨rfl, rfl⟩)
  go_ret2
  exact ⟨rfl, rfl⟩

set_option maxHeartbeats 400000 in
theorem arc12_no (s : ByteArray) (w : World) (hs : 9 < s.size) : Calls Try.prog 12 #[.string s] w fun e w' => e = .returned (.tuple #[.int .u64 0, .bool false]) ∧ w = w' := by
  go_enter Try.func12, Try.ntmps12
  go_wp2_with (go_at_call 16; refine (arc16_no s _ hs).mono ?_; rintro e w' ⟨rfl, rfl⟩)
  go_ret2
  exact ⟨rfl, rfl⟩
end Go.Proofs.Qxb6002387a
