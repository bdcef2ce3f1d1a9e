import Derived.Test.Qxb6002387aEncW
import Derived.Test.Qxb6002387aEq
import Derived.Laws.CopyOwn
import Derived.OpenShut
import Derived.WalkSpells
import Derived.WalkLawsBesides
namespace Go.Proofs.Qxb6002387a
open Go.RowKit
set_option linter.unusedVariables false

/-- A slice that came in. -/
theorem RdS.of_cells {w : World} {x : Addr} {len cap : Nat} {zs : List Int} (hl : len ≤ cap) (hm : cap ≤ maxLen) (hz : zs.length = cap) (hc : ∀ i, i < zs.length → w.cell? (x.add i) = some (.int .u8 (zs.getD i 0))) : RdS w (some x) len cap (zs.take len) := by
  refine ⟨by rw [List.length_take]; omega, hl, hm, fun h => (by cases h), fun hp => ?_⟩
  obtain ⟨b, off, rfl, hcc⟩ := ints_at hc (by omega)
  refine ⟨b, off, rfl, World.block_lt_of_cell? w _ (hcc 0 (by omega)), fun i hi => ?_⟩
  rw [hcc i (by omega)]
  simp only [List.getD, List.getElem?_take]
  rw [if_pos hi]
theorem RdS.of_nil (w : World) : RdS w none 0 0 [] := ⟨rfl, Nat.le_refl _, Nat.zero_le _, fun _ => rfl, fun h => absurd h (Nat.lt_irrefl _)⟩

theorem below_of_grown {w w' : World} {row : Option Nat} (h : w.grownBy w' row) (hr : ∀ g, row = some g → w.heap.size ≤ g) : Below w.heap.size w w' :=
  ⟨h.os, h.tape, h.output, h.size, fun k hk => h.block k hk (fun e => by have := hr k e.symm; omega)⟩
theorem grown_of_below {w w' : World} (h : Below w.heap.size w w') : w.grownBy w' none :=
  ⟨h.os, h.tape, h.output, h.size, fun k hk _ => h.block k hk⟩

theorem run_mkn (N : Nat) (hN : N ≤ 1099511627776) (W : World) : Sem.run Try.prog (Instr.makeSlice 23 (.int .i64 (N : Int)) (.int .i64 (N : Int))) W = .ok (.slice (some ⟨W.heap.size, 0, none⟩) N N) (W.alloc (.cells (madeZ N) 5)) := by
  obtain ⟨i0, hi, hz0, hz1, hz2⟩ := info_parts info5
  have := run_make (P := Try.prog) W 23 5 i0 (.int .u8 0) Try.underlying23 hi hz0 .i64 .i64 (N : Int) (N : Int) (by omega) (by omega) (by rw [hz2]; omega) (by omega)
  rw [this, hz1, show ((N : Int)).toNat = N from by omega, Nat.mul_one]
  rfl

theorem madeZ_size (n : Nat) : (madeZ n).size = n := by unfold madeZ; rw [size_madeCells]
theorem madeZ_get (n i : Nat) (h : i < n) : (madeZ n)[i]? = some (.int .u8 0) := by
  unfold madeZ madeCells
  simp [h, Nat.mod_one]

/-- A row of zeros, as make lays it. -/
theorem RdS.made (W : World) (g n : Nat) (hg : W.heap.size = g) (hn : n ≤ 1099511627776) : RdS (W.alloc (.cells (madeZ n) 5)) (some ⟨g, 0, none⟩) n n (List.replicate n 0) := by
  subst hg
  refine ⟨by simp, Nat.le_refl _, by unfold maxLen; omega, fun h => (by cases h), fun _ => ⟨W.heap.size, 0, rfl, by simp, fun i hi => ?_⟩⟩
  rw [World.cell?_alloc_new, Nat.zero_add, madeZ_get n i hi]
  simp [List.getD, hi]

theorem cell_row {w : World} {g i : Nat} {cs : Array Value} {t : TypeId} {fr : Nat × Nat} (h : w.heap[g]? = some (.cells cs t fr)) : w.cell? ⟨g, i, none⟩ = cs[i]? := by
  unfold World.cell?
  simp only [h]
  rfl

theorem run_copy_b8 (W : World) (g n : Nat) (hg : W.heap.size = g) (a : Option Addr) (c : Nat) (zs : List Int) (rd : RdS W a n c zs) (ty : TypeId) :
    ∃ w', Sem.run Try.prog (Builtin.copy_ #[23, 23] ty #[.slice (some ⟨g, 0, none⟩) n n, .slice a n c]) (W.alloc (.cells (madeZ n) 5)) = .ok (.int .i64 (n : Nat)) w' ∧ RdS w' (some ⟨g, 0, none⟩) n n zs ∧ W.grownBy w' none := by
  subst hg
  obtain ⟨i0, hi, hz0, hz1, hz2⟩ := info_parts info5
  have hl := rd.len
  have hle := rd.le
  have hmx := rd.max
  have hsz : (Try.prog.info? 5).map (·.size) = some 1 := by rw [hi]; simp [hz1]
  have e1 := B8_length zs
  have e2 := madeZ_size n
  rcases Nat.eq_zero_or_pos n with h0 | hp
  · subst h0
    obtain rfl : zs = [] := List.eq_nil_of_length_eq_zero hl
    refine ⟨_, run_copy_none (P := Try.prog) _ 23 23 ty 5 _ _ _ _ _ _ Try.underlying23 hsz rfl, ⟨rfl, Nat.le_refl _, Nat.zero_le _, fun h => (by cases h), fun h => absurd h (Nat.lt_irrefl _)⟩, World.grownBy_alloc _ _ _⟩
  · obtain ⟨b, off, rfl, hb, hc⟩ := (rd.alloc (.cells (madeZ n) 5)).pos hp
    have hrun := run_copy_row (P := Try.prog) (W.alloc (.cells (madeZ n) 5)) 23 23 ty 5 W.heap.size 0 n n ⟨b, off, none⟩ n c (madeZ n) 5 (B8 zs) Try.underlying23 hsz (heap_alloc_new W _) (by rw [e1, hl]; exact (Nat.min_self n).symm) (fun j v hv => by
      have hj : j < n := by have := (List.getElem?_eq_some_iff.1 hv).1; omega
      rw [B8_get zs j (by omega)] at hv
      rw [Addr.add_lit, hc j hj]
      exact hv) (by omega) (B8_one zs)
    have e : (madeZ n).toList.take 0 ++ (B8 zs ++ (madeZ n).toList.drop (0 + (B8 zs).length)) = B8 zs := by
      rw [List.drop_of_length_le (by rw [Array.length_toList]; omega)]
      simp
    rw [List.append_assoc, e, e1, hl] at hrun
    have hq := setRow_heap (W.alloc (.cells (madeZ n) 5)) W.heap.size (madeZ n) (B8 zs).toArray 5 _ (heap_alloc_new W _)
    refine ⟨_, hrun, ⟨hl, Nat.le_refl _, by omega, fun h => (by cases h), fun hp => ⟨W.heap.size, 0, rfl, (Array.getElem?_eq_some_iff.1 hq).1, fun i hi => ?_⟩⟩, ⟨rfl, rfl, rfl, by simp [World.setRow], fun k hk _ => ?_⟩⟩
    · rw [Nat.zero_add]
      rw [cell_row hq, List.getElem?_toArray]
      exact B8_get zs i (by omega)
    · rw [setRow_other _ _ _ _ (by omega)]
      exact Below.heap_alloc W _ k hk

theorem Pcs.one (W : World) (g : Nat) (hg : W.heap.size = g) (a : Option Addr) (n c : Nat) (zs : List Int) (h : RdS W a n c zs) (t : TypeId) : Pcs (W.alloc (.cells #[.slice a n c] t)) g [⟨a, n, c, zs⟩] := by
  subst hg
  refine ⟨by simp, fun j hj => ?_, fun j hj => ?_⟩
  · obtain rfl : j = 0 := by simpa using hj
    rw [World.cell?_alloc_new]; rfl
  · obtain rfl : j = 0 := by simpa using hj
    exact h.alloc _
theorem Pcs.three (W : World) (g : Nat) (hg : W.heap.size = g) (a : Option Addr) (n c : Nat) (zs : List Int) (h : RdS W a n c zs) (a' : Option Addr) (n' c' : Nat) (zs' : List Int) (h' : RdS W a' n' c' zs') (a'' : Option Addr) (n'' c'' : Nat) (zs'' : List Int) (h'' : RdS W a'' n'' c'' zs'') (t : TypeId) : Pcs (W.alloc (.cells #[.slice a n c, .slice a' n' c', .slice a'' n'' c''] t)) g [⟨a, n, c, zs⟩, ⟨a', n', c', zs'⟩, ⟨a'', n'', c'', zs''⟩] := by
  subst hg
  refine ⟨by simp, fun j hj => ?_, fun j hj => ?_⟩
  · rw [World.cell?_alloc_new]
    match j, hj with
    | 0, _ => rfl
    | 1, _ => rfl
    | 2, _ => rfl
    | k + 3, hj => simp at hj; omega
  · match j, hj with
    | 0, _ => exact h.alloc _
    | 1, _ => exact h'.alloc _
    | 2, _ => exact h''.alloc _
    | k + 3, hj => simp at hj; omega

set_option maxHeartbeats 800000 in
theorem zz7_yes (x y z : Value) (a1 a2 a3 : Option Addr) (n1 c1 n2 c2 n3 c3 : Nat) (w : World) (h : n1 + n2 + n3 ≤ 1048576) :
    Calls Try.prog 7 #[x, y, z, .slice a1 n1 c1, .slice a2 n2 c2, .slice a3 n3 c3] w fun e w' => e = .returned (.bool true) ∧ w = w' := by
  go_enter Try.func7, Try.ntmps7
  go_wp2
  go_ret
  exact ⟨rfl, rfl⟩

set_option maxHeartbeats 800000 in
theorem zz7_no (x y z : Value) (a1 a2 a3 : Option Addr) (n1 c1 n2 c2 n3 c3 : Nat) (w : World) (h : 1048576 < n1 + n2 + n3) :
    Calls Try.prog 7 #[x, y, z, .slice a1 n1 c1, .slice a2 n2 c2, .slice a3 n3 c3] w fun e w' => e = .returned (.bool false) ∧ w = w' := by
  go_enter Try.func7, Try.ntmps7
  go_wp2
  all_goals go_ret
  all_goals exact ⟨rfl, rfl⟩

set_option maxHeartbeats 800000 in
theorem zz10_yes (x y z x' y' z' : Value) (a1 a2 : Option Addr) (n1 c1 n2 c2 : Nat) (w : World) (h : n1 + n2 ≤ 1048576) :
    Calls Try.prog 10 #[x, y, z, .slice a1 n1 c1, x', y', z', .slice a2 n2 c2] w fun e w' => e = .returned (.bool true) ∧ w = w' := by
  go_enter Try.func10, Try.ntmps10
  go_wp2
  go_ret
  exact ⟨rfl, rfl⟩

set_option maxHeartbeats 800000 in
theorem zz10_no (x y z x' y' z' : Value) (a1 a2 : Option Addr) (n1 c1 n2 c2 : Nat) (w : World) (h : 1048576 < n1 + n2) :
    Calls Try.prog 10 #[x, y, z, .slice a1 n1 c1, x', y', z', .slice a2 n2 c2] w fun e w' => e = .returned (.bool false) ∧ w = w' := by
  go_enter Try.func10, Try.ntmps10
  go_wp2
  all_goals go_ret
  all_goals exact ⟨rfl, rfl⟩
end Go.Proofs.Qxb6002387a
