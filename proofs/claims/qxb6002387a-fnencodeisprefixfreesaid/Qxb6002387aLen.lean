import Derived.Test.Qxb6002387aTag
namespace Go.Proofs.Qxb6002387a
open Go.RowKit
set_option linter.unusedVariables false

/-- The length octets, below 2^24. -/
def lenB (x : Int) : List Int :=
  if x < 128 then [x]
  else if x < 256 then [129, x]
  else if x < 65536 then [130, x / 256, x % 256]
  else [131, x / 256 / 256, x / 256 % 256, x % 256]

set_option maxHeartbeats 1000000 in
theorem len_low (ao : Option Addr) (n cap : Nat) (zs : List Int) (B : Nat) (w : World) (h : OwnS w B ao n cap zs) (hB : B ≤ w.heap.size) (hn : n ≤ 1099511627776) (x : Int) (n0 : 0 ≤ x) (n1 : x < 128) :
    Calls Try.prog 14 #[.slice ao n cap, .int .i64 x] w fun e w' => ∃ a' n' c', e = .returned (.slice a' n' c') ∧ OwnS w' B a' n' c' (zs ++ [x]) ∧ Moved w w' ao a' := by
  obtain ⟨i0, hi, hz0, hz1, hz2⟩ := info_parts info5
  go_enter Try.func14, Try.ntmps14
  go_wp2_with (at_builtin; refine wpList_append_b8 _ rfl (.tmp 9) (.tmp 12) 23 23 rfl B i0 Try.underlying23 hi hz0 hz1 hz2 ao n cap zs rfl (h.alloc _) _ 1 [x] rfl (src1 w Try.underlying23 _) (by omega) (by simp; omega) ?_; intro a1 m1 d1 w1 hn1 ho1 hm1)
  go_ret
  exact ⟨a1, m1, d1, rfl, ho1, ((Moved.refl w ao).alloc _).trans hm1⟩

set_option maxRecDepth 100000 in
set_option maxHeartbeats 1000000 in
theorem len_h1 (ao : Option Addr) (n cap : Nat) (zs : List Int) (B : Nat) (w : World) (h : OwnS w B ao n cap zs) (hB : B ≤ w.heap.size) (hn : n ≤ 1099511627776) (x : Int) (n0 : 128 ≤ x) (n1 : x < 256) :
    Calls Try.prog 14 #[.slice ao n cap, .int .i64 x] w fun e w' => ∃ a' n' c', e = .returned (.slice a' n' c') ∧ OwnS w' B a' n' c' (zs ++ 129 :: [x]) ∧ Moved w w' ao a' := by
  obtain ⟨i0, hi, hz0, hz1, hz2⟩ := info_parts info5
  have u1 : IntKind.i64.wrap 1 = 1 := by decide
  have u2 : IntKind.u8.wrap 1 = 1 := by decide
  have g1 : bits BinOp.or IntKind.u8 128 1 = 129 := by decide
  go_enter Try.func14, Try.ntmps14
  go_wp2
  go_rounds 2
  have hO : OwnS (w.alloc (.cells #[.int .u8 0, .int .u8 0, .int .u8 0, .int .u8 0, .int .u8 0, .int .u8 0, .int .u8 0, .int .u8 (x)] 40)) B ao n cap zs := h.alloc _
  have hM : Moved w (w.alloc (.cells #[.int .u8 0, .int .u8 0, .int .u8 0, .int .u8 0, .int .u8 0, .int .u8 0, .int .u8 0, .int .u8 (x)] 40)) ao ao := (Moved.refl w ao).alloc _
  have hR : RdS (w.alloc (.cells #[.int .u8 0, .int .u8 0, .int .u8 0, .int .u8 0, .int .u8 0, .int .u8 0, .int .u8 0, .int .u8 (x)] 40)) (some ⟨w.heap.size, 7, none⟩) 1 1 [x] := by
    refine RdS.arr _ _ _ _ _ _ _ rfl rfl (by omega) (fun j hj => ?_)
    match j, hj with
    | 0, _ => rfl
  have hne : blk (some ⟨w.heap.size, 7, none⟩) ≠ blk ao := blk_old h (by omega)
  have hsz : B ≤ (w.alloc (.cells #[.int .u8 0, .int .u8 0, .int .u8 0, .int .u8 0, .int .u8 0, .int .u8 0, .int .u8 0, .int .u8 (x)] 40)).heap.size := by simp; omega
  generalize (w.alloc (.cells #[.int .u8 0, .int .u8 0, .int .u8 0, .int .u8 0, .int .u8 0, .int .u8 0, .int .u8 0, .int .u8 (x)] 40)) = W at hO hM hR hsz ⊢
  go_region_law (first | (refine step_append_b8 _ (by rfl) (.tmp 24) (.tmp 29) 23 23 (by rfl) B i0 Try.underlying23 hi hz0 hz1 hz2 ao n cap zs (by rfl) (OwnS.drew (hO.alloc _)) (.slice (some ⟨W.heap.size, 0, none⟩) 1 1) 1 [129] (by rfl) (src1d W Try.underlying23 _) (by omega) (by simp; omega) ?_; intro a1 m1 d1 w1 hn1 ho1 hm1) | (refine step_append_b8 _ (by rfl) (.tmp 30) (.tmp 32) 23 23 (by rfl) B i0 Try.underlying23 hi hz0 hz1 hz2 a1 m1 d1 _ (by rfl) ho1 (.slice (some ⟨w.heap.size, 7, none⟩) 1 1) 1 [x] (by rfl) ((hR.moved hm1 hne).src Try.underlying23) (by have := hn1.out; omega) (Nat.le_trans hsz (Nat.le_trans (by simp) hm1.grown.size)) ?_; intro a2 m2 d2 w2 hn2 ho2 hm2))
  all_goals
    go_wp2
    go_ret
    refine ⟨a2, m2, d2, rfl, ?_, ((hM.alloc _).drew.trans hm1).trans hm2⟩
    simpa using ho2

set_option maxRecDepth 100000 in
set_option maxHeartbeats 1000000 in
theorem len_h2 (ao : Option Addr) (n cap : Nat) (zs : List Int) (B : Nat) (w : World) (h : OwnS w B ao n cap zs) (hB : B ≤ w.heap.size) (hn : n ≤ 1099511627776) (x : Int) (n0 : 256 ≤ x) (n1 : x < 65536) :
    Calls Try.prog 14 #[.slice ao n cap, .int .i64 x] w fun e w' => ∃ a' n' c', e = .returned (.slice a' n' c') ∧ OwnS w' B a' n' c' (zs ++ 130 :: [x / 256, x % 256]) ∧ Moved w w' ao a' := by
  obtain ⟨i0, hi, hz0, hz1, hz2⟩ := info_parts info5
  have u1 : IntKind.i64.wrap 2 = 2 := by decide
  have u2 : IntKind.u8.wrap 2 = 2 := by decide
  have g1 : bits BinOp.or IntKind.u8 128 2 = 130 := by decide
  go_enter Try.func14, Try.ntmps14
  go_wp2
  go_rounds 3
  have hO : OwnS (w.alloc (.cells #[.int .u8 0, .int .u8 0, .int .u8 0, .int .u8 0, .int .u8 0, .int .u8 0, .int .u8 (x / 256), .int .u8 (x % 256)] 40)) B ao n cap zs := h.alloc _
  have hM : Moved w (w.alloc (.cells #[.int .u8 0, .int .u8 0, .int .u8 0, .int .u8 0, .int .u8 0, .int .u8 0, .int .u8 (x / 256), .int .u8 (x % 256)] 40)) ao ao := (Moved.refl w ao).alloc _
  have hR : RdS (w.alloc (.cells #[.int .u8 0, .int .u8 0, .int .u8 0, .int .u8 0, .int .u8 0, .int .u8 0, .int .u8 (x / 256), .int .u8 (x % 256)] 40)) (some ⟨w.heap.size, 6, none⟩) 2 2 [x / 256, x % 256] := by
    refine RdS.arr _ _ _ _ _ _ _ rfl rfl (by omega) (fun j hj => ?_)
    match j, hj with
    | 0, _ => rfl
    | 1, _ => rfl
  have hne : blk (some ⟨w.heap.size, 6, none⟩) ≠ blk ao := blk_old h (by omega)
  have hsz : B ≤ (w.alloc (.cells #[.int .u8 0, .int .u8 0, .int .u8 0, .int .u8 0, .int .u8 0, .int .u8 0, .int .u8 (x / 256), .int .u8 (x % 256)] 40)).heap.size := by simp; omega
  generalize (w.alloc (.cells #[.int .u8 0, .int .u8 0, .int .u8 0, .int .u8 0, .int .u8 0, .int .u8 0, .int .u8 (x / 256), .int .u8 (x % 256)] 40)) = W at hO hM hR hsz ⊢
  go_region_law (first | (refine step_append_b8 _ (by rfl) (.tmp 24) (.tmp 29) 23 23 (by rfl) B i0 Try.underlying23 hi hz0 hz1 hz2 ao n cap zs (by rfl) (OwnS.drew (hO.alloc _)) (.slice (some ⟨W.heap.size, 0, none⟩) 1 1) 1 [130] (by rfl) (src1d W Try.underlying23 _) (by omega) (by simp; omega) ?_; intro a1 m1 d1 w1 hn1 ho1 hm1) | (refine step_append_b8 _ (by rfl) (.tmp 30) (.tmp 32) 23 23 (by rfl) B i0 Try.underlying23 hi hz0 hz1 hz2 a1 m1 d1 _ (by rfl) ho1 (.slice (some ⟨w.heap.size, 6, none⟩) 2 2) 2 [x / 256, x % 256] (by rfl) ((hR.moved hm1 hne).src Try.underlying23) (by have := hn1.out; omega) (Nat.le_trans hsz (Nat.le_trans (by simp) hm1.grown.size)) ?_; intro a2 m2 d2 w2 hn2 ho2 hm2))
  all_goals
    go_wp2
    go_ret
    refine ⟨a2, m2, d2, rfl, ?_, ((hM.alloc _).drew.trans hm1).trans hm2⟩
    simpa using ho2

set_option maxRecDepth 100000 in
set_option maxHeartbeats 1000000 in
theorem len_h3 (ao : Option Addr) (n cap : Nat) (zs : List Int) (B : Nat) (w : World) (h : OwnS w B ao n cap zs) (hB : B ≤ w.heap.size) (hn : n ≤ 1099511627776) (x : Int) (n0 : 65536 ≤ x) (n1 : x < 16777216) :
    Calls Try.prog 14 #[.slice ao n cap, .int .i64 x] w fun e w' => ∃ a' n' c', e = .returned (.slice a' n' c') ∧ OwnS w' B a' n' c' (zs ++ 131 :: [x / 256 / 256, x / 256 % 256, x % 256]) ∧ Moved w w' ao a' := by
  obtain ⟨i0, hi, hz0, hz1, hz2⟩ := info_parts info5
  have u1 : IntKind.i64.wrap 3 = 3 := by decide
  have u2 : IntKind.u8.wrap 3 = 3 := by decide
  have g1 : bits BinOp.or IntKind.u8 128 3 = 131 := by decide
  go_enter Try.func14, Try.ntmps14
  go_wp2
  go_rounds 4
  have hO : OwnS (w.alloc (.cells #[.int .u8 0, .int .u8 0, .int .u8 0, .int .u8 0, .int .u8 0, .int .u8 (x / 256 / 256), .int .u8 (x / 256 % 256), .int .u8 (x % 256)] 40)) B ao n cap zs := h.alloc _
  have hM : Moved w (w.alloc (.cells #[.int .u8 0, .int .u8 0, .int .u8 0, .int .u8 0, .int .u8 0, .int .u8 (x / 256 / 256), .int .u8 (x / 256 % 256), .int .u8 (x % 256)] 40)) ao ao := (Moved.refl w ao).alloc _
  have hR : RdS (w.alloc (.cells #[.int .u8 0, .int .u8 0, .int .u8 0, .int .u8 0, .int .u8 0, .int .u8 (x / 256 / 256), .int .u8 (x / 256 % 256), .int .u8 (x % 256)] 40)) (some ⟨w.heap.size, 5, none⟩) 3 3 [x / 256 / 256, x / 256 % 256, x % 256] := by
    refine RdS.arr _ _ _ _ _ _ _ rfl rfl (by omega) (fun j hj => ?_)
    match j, hj with
    | 0, _ => rfl
    | 1, _ => rfl
    | 2, _ => rfl
  have hne : blk (some ⟨w.heap.size, 5, none⟩) ≠ blk ao := blk_old h (by omega)
  have hsz : B ≤ (w.alloc (.cells #[.int .u8 0, .int .u8 0, .int .u8 0, .int .u8 0, .int .u8 0, .int .u8 (x / 256 / 256), .int .u8 (x / 256 % 256), .int .u8 (x % 256)] 40)).heap.size := by simp; omega
  generalize (w.alloc (.cells #[.int .u8 0, .int .u8 0, .int .u8 0, .int .u8 0, .int .u8 0, .int .u8 (x / 256 / 256), .int .u8 (x / 256 % 256), .int .u8 (x % 256)] 40)) = W at hO hM hR hsz ⊢
  go_region_law (first | (refine step_append_b8 _ (by rfl) (.tmp 24) (.tmp 29) 23 23 (by rfl) B i0 Try.underlying23 hi hz0 hz1 hz2 ao n cap zs (by rfl) (OwnS.drew (hO.alloc _)) (.slice (some ⟨W.heap.size, 0, none⟩) 1 1) 1 [131] (by rfl) (src1d W Try.underlying23 _) (by omega) (by simp; omega) ?_; intro a1 m1 d1 w1 hn1 ho1 hm1) | (refine step_append_b8 _ (by rfl) (.tmp 30) (.tmp 32) 23 23 (by rfl) B i0 Try.underlying23 hi hz0 hz1 hz2 a1 m1 d1 _ (by rfl) ho1 (.slice (some ⟨w.heap.size, 5, none⟩) 3 3) 3 [x / 256 / 256, x / 256 % 256, x % 256] (by rfl) ((hR.moved hm1 hne).src Try.underlying23) (by have := hn1.out; omega) (Nat.le_trans hsz (Nat.le_trans (by simp) hm1.grown.size)) ?_; intro a2 m2 d2 w2 hn2 ho2 hm2))
  all_goals
    go_wp2
    go_ret
    refine ⟨a2, m2, d2, rfl, ?_, ((hM.alloc _).drew.trans hm1).trans hm2⟩
    simpa using ho2

theorem len_any (ao : Option Addr) (n cap : Nat) (zs : List Int) (B : Nat) (w : World) (h : OwnS w B ao n cap zs) (hB : B ≤ w.heap.size) (hn : n ≤ 1099511627776) (x : Int) (n0 : 0 ≤ x) (n1 : x < 16777216) :
    Calls Try.prog 14 #[.slice ao n cap, .int .i64 x] w fun e w' => ∃ a' n' c', e = .returned (.slice a' n' c') ∧ OwnS w' B a' n' c' (zs ++ lenB x) ∧ Moved w w' ao a' := by
  unfold lenB
  by_cases r1 : x < 128
  · rw [if_pos r1]
    exact len_low ao n cap zs B w h hB hn x n0 r1
  rw [if_neg r1]
  by_cases r2 : x < 256
  · rw [if_pos r2]
    exact len_h1 ao n cap zs B w h hB hn x (by omega) r2
  rw [if_neg r2]
  by_cases r3 : x < 65536
  · rw [if_pos r3]
    exact len_h2 ao n cap zs B w h hB hn x (by omega) r3
  rw [if_neg r3]
  exact len_h3 ao n cap zs B w h hB hn x (by omega) n1
end Go.Proofs.Qxb6002387a
