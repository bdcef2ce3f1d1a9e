import Derived.Test.Qxb6001102aDoorChecked
import Derived.Test.Qxb6001102aDoorKit
import Derived.WalkSpells
import Derived.WalkLawsBesides
namespace Go.Proofs.Qxb6001102aDoor
open Go.RowKit

theorem info5 : (Tryd.prog.info? 5).map (fun i => (i.zero, i.size, i.bytes)) = some (some (.int .u8 0), 1, 1) := by kernel_rfl

/-- The row while it is being filled. -/
def part (zs : List Int) (n k : Nat) : List Int := zs.take k ++ List.replicate (n - k) 0
theorem part_zero (zs : List Int) (n : Nat) : part zs n 0 = List.replicate n 0 := by simp [part]
theorem part_full (zs : List Int) (n : Nat) (h : zs.length = n) : part zs n n = zs := by
  simp [part, List.take_of_length_le (Nat.le_of_eq h)]
theorem part_length (zs : List Int) (n k : Nat) (h : zs.length = n) (hk : k ≤ n) : (part zs n k).length = n := by
  simp [part]; omega
theorem part_set (zs : List Int) (n k : Nat) (h : zs.length = n) (hk : k < n) : (B8 (part zs n k)).set k (.int .u8 (zs.getD k 0)) = B8 (part zs n (k + 1)) := by
  have e1 : zs.getD k 0 = zs[k]'(by omega) := by simp [List.getD, List.getElem?_eq_getElem (show k < zs.length by omega)]
  obtain ⟨m, hm⟩ : ∃ m, n - k = m + 1 := ⟨n - k - 1, by omega⟩
  have hl : (zs.take k).length = k := by rw [List.length_take]; omega
  have e2 : (part zs n k).set k (zs.getD k 0) = part zs n (k + 1) := by
    unfold part
    rw [hm, show n - (k + 1) = m from by omega, List.replicate_succ, List.set_append_right _ _ (by omega), hl, Nat.sub_self, List.set_cons_zero, List.take_succ_eq_append_getElem (by omega), e1, List.append_assoc]
    rfl
  rw [← e2]
  simp [B8, List.map_set]

theorem made_zero (n : Nat) : (madeCells (Value.int IntKind.u8 0).cells (n * 1)).toList = B8 (List.replicate n 0) := by
  rw [Nat.mul_one, show (Value.int IntKind.u8 0).cells = #[Value.int IntKind.u8 0] from rfl, toList_madeCells_one]
  simp [B8]

/-- One store of the round. -/
theorem part_step {w wr : World} {base g n k : Nat} {zs : List Int} (h : zs.length = n) (hk : k < n) (hg : w.heap.size ≤ g) (ho : OwnS wr base (some ⟨g, 0, none⟩) n n (part zs n k)) (hgr : w.grownBy wr none) :
    OwnS (wr.setCell ⟨g, k, none⟩ (.int .u8 (zs.getD k 0))) base (some ⟨g, 0, none⟩) n n (part zs n (k + 1)) ∧ w.grownBy (wr.setCell ⟨g, k, none⟩ (.int .u8 (zs.getD k 0))) none := by
  have hs := ho.own.stored k (.int .u8 (zs.getD k 0))
  rw [part_set zs n k h hk] at hs
  exact ⟨⟨part_length zs n (k + 1) h (by omega), hs.1⟩, grownBy_tr hgr hs.2 (.inr fun g' e => by cases e; exact hg)⟩

set_option maxHeartbeats 400000 in
theorem clone_some (x : Addr) (n cap : Nat) (zs : List Int) (w : World) (base : Nat) (h : RdS w (some x) n cap zs) (hn : n ≤ 1099511627776) (hbase : base ≤ w.heap.size) :
    Calls Tryd.prog 8 #[.slice (some x) n cap] w fun e w' => e = .returned (.slice (some ⟨w.heap.size, 0, none⟩) n n) ∧ OwnS w' base (some ⟨w.heap.size, 0, none⟩) n n zs ∧ w.grownBy w' none := by
  obtain ⟨i0, hi, hz0, hz1, hz2⟩ := info_parts info5
  have hmx := h.max
  have hle := h.le
  unfold maxLen at hmx
  have hnil := fun (w : World) => Lib.run_eql_slice_nil (P := Tryd.prog) w 22 5 (some x) n cap 0 0 Tryd.underlying22
  have hzl : Hid (zs.length = n) := h.len
  generalize hg0 : w.heap.size = g at hbase ⊢
  have hg : Hid (w.heap.size = g) := hg0
  clear hg0
  go_enter Tryd.func8, Tryd.ntmps8
  go_wp2_with (at_make; refine wpList_make_full _ rfl _ _ 22 rfl base 5 i0 (.int .u8 0) 1 Tryd.underlying22 hi hz0 hz1 _ _ _ _ n rfl rfl rfl rfl (by rw [hz2]; omega) (by unfold maxLen; omega) (by rw [hg.out]; exact hbase) ?_; rw [hg.out]; intro w1 hown1 hgr1)
  rw [made_zero] at hown1
  go_loopw [4] (fun i wr => ∃ k : Nat, k ≤ n ∧ i = .int .i64 k ∧ OwnS wr base (some ⟨g, 0, none⟩) n n (part zs n k) ∧ w.grownBy wr none) (fun i _ => n - (intOf i).toNat)
  case atStart => exact ⟨0, Nat.zero_le _, rfl, ⟨by simp [part], by rw [part_zero]; exact hown1⟩, hgr1⟩
  case round =>
    obtain ⟨k, hk, rfl, hown, hgr⟩ := hrel
    clear hown1 hgr1
    by_cases hlt : k < n
    · obtain ⟨b, off, ha, hb, hc⟩ := (h.kept hgr (.inr (by simp [blk]))).pos (by omega)
      obtain rfl := Option.some.inj ha
      clear ha
      have hcell : wr.cell? ⟨b, off + k, none⟩ = some (.int .u8 (zs.getD k 0)) := hc k hlt
      have hcur : wr.cell? ⟨g, k, none⟩ = some (.int .u8 ((part zs n k).getD k 0)) := by
        rw [hown.own.cellAt k (by omega), B8_get _ k (by rw [part_length zs n k hzl.out hk]; exact hlt)]
      have hfr := hown.own.frozenAt k
      have R := part_step hzl.out hlt (Nat.le_of_eq hg.out) hown hgr
      clear hgr hown hc h
      go_wp2
      go_roundw
      case rel => exact ⟨k + 1, by omega, by go_num, by simpa using R.1, by simpa using R.2⟩
      case measure => simp [intOf]; omega
    · obtain rfl : k = n := by omega
      go_wp2
      go_ret
      rw [part_full zs k hzl.out] at hown

      exact ⟨rfl, hown, hgr⟩

set_option maxHeartbeats 400000 in
theorem clone_nil (w : World) : Calls Tryd.prog 8 #[.slice none 0 0] w fun e w' => e = .returned (.slice none 0 0) ∧ w' = w := by
  have hnil := fun (w : World) => Lib.run_eql_slice_nil (P := Tryd.prog) w 22 5 none 0 0 0 0 Tryd.underlying22
  go_enter Tryd.func8, Tryd.ntmps8
  go_wp2
  go_ret
  exact ⟨rfl, rfl⟩

theorem clone_any (a : Option Addr) (n cap : Nat) (zs : List Int) (w : World) (base : Nat) (h : RdS w a n cap zs) (hn : n ≤ 1099511627776) (hbase : base ≤ w.heap.size) :
    Calls Tryd.prog 8 #[.slice a n cap] w fun e w' => ∃ a' cap', e = .returned (.slice a' n cap') ∧ OwnS w' base a' n cap' zs ∧ w.grownBy w' none ∧ (∀ g, blk a' = some g → w.heap.size ≤ g) := by
  cases a with
  | none =>
    obtain rfl : cap = 0 := h.nil rfl
    obtain rfl : n = 0 := by have := h.le; omega
    obtain rfl : zs = [] := List.eq_nil_of_length_eq_zero h.len
    refine (clone_nil w).mono ?_
    rintro e w' ⟨rfl, rfl⟩
    exact ⟨none, 0, rfl, OwnS.nil _ _, World.grownBy.refl _ _, fun g e => by cases e⟩
  | some x =>
    refine (clone_some x n cap zs w base h hn hbase).mono ?_
    rintro e w' ⟨rfl, ho, hg⟩
    exact ⟨_, _, rfl, ho, hg, fun g e => by cases e; exact Nat.le_refl _⟩
end Go.Proofs.Qxb6001102aDoor
