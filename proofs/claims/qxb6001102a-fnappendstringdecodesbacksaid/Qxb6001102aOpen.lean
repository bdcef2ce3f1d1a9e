import Derived.Test.Qxb6001102aChecked
import Derived.Test.Qxb6001102aKit
import Derived.OpenShut
import Derived.WalkSpells
import Derived.WalkLawsBesides
namespace Go.Proofs.Qxb6001102a
open Go.RowKit

/-- A slice that came in. -/
theorem RdS.of_cells {w : World} {x : Addr} {len cap : Nat} {zs : List Int} (hl : len ≤ cap) (hm : cap ≤ maxLen) (hz : zs.length = cap) (hc : ∀ i, i < zs.length → w.cell? (x.add i) = some (.int .u8 (zs.getD i 0))) : RdS w (some x) len cap (zs.take len) := by
  refine ⟨by rw [List.length_take]; omega, hl, hm, fun h => (by cases h), fun hp => ?_⟩
  obtain ⟨b, off, rfl, hcc⟩ := ints_at hc (by omega)
  refine ⟨b, off, rfl, World.block_lt_of_cell? w _ (hcc 0 (by omega)), fun i hi => ?_⟩
  rw [hcc i (by omega)]
  simp only [List.getD, List.getElem?_take]
  rw [if_pos hi]
theorem RdS.of_nil (w : World) : RdS w none 0 0 [] := ⟨rfl, Nat.le_refl _, Nat.zero_le _, fun _ => rfl, fun h => absurd h (Nat.lt_irrefl _)⟩

theorem below_of_grown {w w' : World} {row : Option Nat} (h : w.grownBy w' row) (hr : ∀ g, row = some g → w.heap.size ≤ g) : Below w.heap.size w w' :=
  ⟨h.os, h.tape, h.output, h.size, fun k hk => h.block k hk (fun e => by have := hr k e.symm; omega)⟩

set_option maxHeartbeats 400000 in
theorem zz13_yes (a : Option Addr) (n c : Nat) (s : ByteArray) (w : World) (h : n + s.size ≤ 1048576) :
    Calls Try.prog 13 #[.slice a n c, .string s] w fun e w' => e = .returned (.bool true) ∧ w = w' := by
  go_enter Try.func13, Try.ntmps13
  go_wp2
  go_ret
  exact ⟨rfl, rfl⟩

set_option maxHeartbeats 400000 in
theorem zz13_no (a : Option Addr) (n c : Nat) (s : ByteArray) (w : World) (h : 1048576 < n + s.size) :
    Calls Try.prog 13 #[.slice a n c, .string s] w fun e w' => e = .returned (.bool false) ∧ w = w' := by
  go_enter Try.func13, Try.ntmps13
  go_wp2
  all_goals go_ret
  all_goals exact ⟨rfl, rfl⟩

set_option maxHeartbeats 400000 in
theorem zz6_yes (a : Option Addr) (n c : Nat) (s : ByteArray) (w : World) (h : n + s.size ≤ 1048576) :
    Calls Try.prog 6 #[.slice a n c, .string s] w fun e w' => e = .returned (.bool true) ∧ w = w' := by
  go_enter Try.func6, Try.ntmps6
  go_wp2
  go_ret
  exact ⟨rfl, rfl⟩

set_option maxHeartbeats 400000 in
theorem zz6_no (a : Option Addr) (n c : Nat) (s : ByteArray) (w : World) (h : 1048576 < n + s.size) :
    Calls Try.prog 6 #[.slice a n c, .string s] w fun e w' => e = .returned (.bool false) ∧ w = w' := by
  go_enter Try.func6, Try.ntmps6
  go_wp2
  all_goals go_ret
  all_goals exact ⟨rfl, rfl⟩

set_option maxHeartbeats 400000 in
theorem zz12_yes (a s : ByteArray) (w : World) (h : a.size + s.size ≤ 1048576) :
    Calls Try.prog 12 #[.string a, .string s] w fun e w' => e = .returned (.bool true) ∧ w = w' := by
  go_enter Try.func12, Try.ntmps12
  go_wp2
  go_ret
  exact ⟨rfl, rfl⟩

set_option maxHeartbeats 400000 in
theorem zz12_no (a s : ByteArray) (w : World) (h : 1048576 < a.size + s.size) :
    Calls Try.prog 12 #[.string a, .string s] w fun e w' => e = .returned (.bool false) ∧ w = w' := by
  go_enter Try.func12, Try.ntmps12
  go_wp2
  all_goals go_ret
  all_goals exact ⟨rfl, rfl⟩
end Go.Proofs.Qxb6001102a
