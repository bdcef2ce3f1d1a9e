import Derived.Test.Qxb6002387aArc
import Derived.Laws.BytesArg
namespace Go.Proofs.Qxb6002387a
open Go.RowKit

set_option maxHeartbeats 400000 in
theorem zz11_yes (s : ByteArray) (d : Int) (w : World) (h : s.size ≤ 1048576) : Calls Try.prog 11 #[.string s, .int .u8 d] w fun e w' => e = .returned (.bool true) ∧ w = w' := by
  go_enter Try.func11, Try.ntmps11
  go_wp2
  go_ret
  exact ⟨rfl, rfl⟩
set_option maxHeartbeats 400000 in
theorem zz11_no (s : ByteArray) (d : Int) (w : World) (h : 1048576 < s.size) : Calls Try.prog 11 #[.string s, .int .u8 d] w fun e w' => e = .returned (.bool false) ∧ w = w' := by
  go_enter Try.func11, Try.ntmps11
  go_wp2
  go_ret
  exact ⟨rfl, rfl⟩

def oneS (d : Int) : ByteArray := strOfNums [d]
theorem oneS_bytes (d : Int) (h0 : 0 ≤ d) (h1 : d ≤ 255) : bytesOf (oneS d) = [d] := by
  obtain ⟨n, rfl⟩ : ∃ n : Nat, d = (n : Int) := ⟨d.toNat, by omega⟩
  have hn : n < 256 := by omega
  simp [bytesOf, oneS, strOfNums_data]
  omega
theorem oneS_size (d : Int) : (oneS d).size = 1 := by unfold oneS; rw [strOfNums_size]; rfl
theorem conv_one (d : Int) (w : World) : Sem.run Try.prog (convert 23 9 (.slice (some ⟨w.heap.size, 0, none⟩) 1 1)) (w.alloc (.cells #[.int .u8 d] 5)) = .ok (.string (oneS d)) (w.alloc (.cells #[.int .u8 d] 5)) := by
  refine run_convert_bytes_arg (w.alloc (.cells #[.int .u8 d] 5)) 23 5 Try.underlying23 Try.underlying5 w.heap.size 0 1 1 [d] rfl (fun i hi => ?_) 9 Try.underlying9
  obtain rfl : i = 0 := by omega
  rw [World.cell?_alloc_new]
  rfl

set_option maxHeartbeats 1000000 in
theorem arc_small (s : ByteArray) (d : Int) (hd0 : 0 ≤ d) (hd1 : d ≤ 255) (w : World) (h : s.size ≤ 8) : Calls Try.prog 5 #[.string s, .int .u8 d] w fun e w' => e = .returned (.bool true) ∧ Grown w w' := by
  have B := arc_bound (bytesOf s) s.size (by rw [bytesOf_length]; exact Nat.le_refl _)
  rw [List.take_of_length_le (by rw [bytesOf_length]; exact Nat.le_refl _)] at B
  have P := pow128 s.size h
  have q0 : s.size = 0 → arc (bytesOf s) = 0 := by
    intro e
    have : bytesOf s = [] := List.eq_nil_of_length_eq_zero (by rw [bytesOf_length]; exact e)
    rw [this]; rfl
  have Q0 : Hid (s.size = 0 → arc (bytesOf s) = 0) := q0
  obtain ⟨v, hv⟩ : ∃ v, Hid (arc (bytesOf s) = v) := ⟨_, rfl⟩
  have C := arc12 s
  rw [hv.out] at B C Q0
  have B1 : 0 ≤ v := B.1
  have B2 : v ≤ 72057594037927936 := by omega
  have HC : Hid (∀ w : World, Calls Try.prog 12 #[.string s] w fun e w' => e = .returned (.tuple #[.int .u64 v, .bool true]) ∧ w = w') := fun w => C w (by omega)
  clear B P q0 C
  have hcv := conv_one d w
  have hos : (oneS d).size ≤ 1 := Nat.le_of_eq (oneS_size d)
  have HN : Hid (∀ w : World, Calls Try.prog 12 #[.string (s ++ oneS d)] w fun e w' => e = .returned (.tuple #[.int .u64 (v * 128 + d % 128), .bool true]) ∧ w = w') := by
    intro w
    have C := arc12 (s ++ oneS d) w (by rw [ByteArray.size_append, oneS_size]; omega)
    have e : bytesOf (s ++ oneS d) = bytesOf s ++ [d] := by rw [← oneS_bytes d hd0 hd1]; simp [bytesOf]
    rw [e, arc_snoc, hv.out] at C
    exact C
  have e1 : decide ((s.size : Int) ≤ 9) = true := decide_eq_true (by omega)
  by_cases hz : s.size = 0
  · have hv0 : v = 0 := Q0.out hz
    subst hv0
    have e2 : ((s.size : Int) == 0) = true := by rw [beq_iff_eq]; omega
    go_enter Try.func5, Try.ntmps5
    go_wp2_with (first | (go_at_call 11; refine (zz11_yes s d _ (by omega)).mono ?_; rintro e w' ⟨rfl, rfl⟩))
    refine (HC.out w).mono ?_
    rintro e w' ⟨rfl, rfl⟩
    go_wp2_with fail
    refine (HN.out _).mono ?_
    rintro e w' ⟨rfl, rfl⟩
    go_wp2
    go_ret
    exact ⟨rfl, (Grown.refl w).alloc _ _⟩
  · have e2 : ((s.size : Int) == 0) = false := beq_eq_false_iff_ne.2 (by omega)
    go_enter Try.func5, Try.ntmps5
    go_wp2_with (first | (go_at_call 11; refine (zz11_yes s d _ (by omega)).mono ?_; rintro e w' ⟨rfl, rfl⟩))
    refine (HC.out w).mono ?_
    rintro e w' ⟨rfl, rfl⟩
    go_wp2_with fail
    refine (HN.out _).mono ?_
    rintro e w' ⟨rfl, rfl⟩
    go_wp2
    go_ret
    exact ⟨rfl, (Grown.refl w).alloc _ _⟩

set_option maxHeartbeats 1000000 in
theorem arc_any (s : ByteArray) (d : Int) (hd0 : 0 ≤ d) (hd1 : d ≤ 255) (w : World) : Calls Try.prog 5 #[.string s, .int .u8 d] w fun e w' => e = .returned (.bool true) ∧ Grown w w' := by
  by_cases h8 : s.size ≤ 8
  · exact arc_small s d hd0 hd1 w h8
  · by_cases hz : s.size ≤ 1048576
    · by_cases h9 : s.size ≤ 9
      · have e1 : decide ((s.size : Int) ≤ 9) = true := decide_eq_true (by omega)
        have e2 : ((s.size : Int) == 0) = false := beq_eq_false_iff_ne.2 (by omega)
        go_enter Try.func5, Try.ntmps5
        go_wp2_with (first | (go_at_call 11; refine (zz11_yes s d _ hz).mono ?_; rintro e w' ⟨rfl, rfl⟩) | (go_at_call 12; refine (arc12 s _ h9).mono ?_; rintro e w' ⟨rfl, rfl⟩))
        go_ret
        exact ⟨rfl, Grown.refl w⟩
      · have e1 : decide ((s.size : Int) ≤ 9) = false := decide_eq_false (by omega)
        go_enter Try.func5, Try.ntmps5
        go_wp2_with (first | (go_at_call 11; refine (zz11_yes s d _ hz).mono ?_; rintro e w' ⟨rfl, rfl⟩) | (go_at_call 12; refine (arc12_no s _ (by omega)).mono ?_; rintro e w' ⟨rfl, rfl⟩))
        go_ret
        exact ⟨rfl, Grown.refl w⟩
    · go_enter Try.func5, Try.ntmps5
      go_wp2_with (go_at_call 11; refine (zz11_no s d _ (by omega)).mono ?_; rintro e w' ⟨rfl, rfl⟩)
      go_ret
      exact ⟨rfl, Grown.refl w⟩
end Go.Proofs.Qxb6002387a
