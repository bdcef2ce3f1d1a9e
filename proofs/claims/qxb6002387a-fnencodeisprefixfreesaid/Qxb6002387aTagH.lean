import Derived.Test.Qxb6002387aTag
namespace Go.Proofs.Qxb6002387a
open Go.RowKit
set_option linter.unusedVariables false

set_option maxRecDepth 100000 in
set_option maxHeartbeats 1000000 in
theorem tag_h0 (ao : Option Addr) (n cap : Nat) (zs : List Int) (B : Nat) (w : World) (h : OwnS w B ao n cap zs) (hB : B ≤ w.heap.size) (hn : n ≤ 1099511627776) (cl : Int) (cons : Bool) (num : Int) (c0 : 0 ≤ cl) (c1 : cl ≤ 255) (n0 : 31 ≤ num) (n1 : num < 128) :
    Calls Try.prog 15 #[.slice ao n cap, .agg #[.int .u8 cl, .bool cons, .int .u32 num]] w fun e w' => ∃ a' n' c', e = .returned (.slice a' n' c') ∧ OwnS w' B a' n' c' (zs ++ (tagF cl cons + 31) :: [num % 128]) ∧ Moved w w' ao a' := by
  obtain ⟨i0, hi, hz0, hz1, hz2⟩ := info_parts info5
  have k0 := and127_32 (num) (by omega) (by omega)
  have g1 := or_low (cl * 64 % 256) 31 (by omega) (by omega) (by omega) (by omega) (by omega)
  have g2 := or_low (cl * 64 % 256 + 32) 31 (by omega) (by omega) (by omega) (by omega) (by omega)
  have g3 := or_32 (cl * 64 % 256) (by omega) (by omega) (by omega)
  unfold tagF
  cases cons
  · go_enter Try.func15, Try.ntmps15
    go_wp2
    go_rounds 1
    have hO : OwnS ((w.alloc (.cells #[.int .u8 cl, .bool false, .int .u32 num] 27)).alloc (.cells #[.int .u8 0, .int .u8 0, .int .u8 0, .int .u8 0, .int .u8 (num % 128)] 42)) B ao n cap zs := (h.alloc _).alloc _
    have hM : Moved w ((w.alloc (.cells #[.int .u8 cl, .bool false, .int .u32 num] 27)).alloc (.cells #[.int .u8 0, .int .u8 0, .int .u8 0, .int .u8 0, .int .u8 (num % 128)] 42)) ao ao := ((Moved.refl w ao).alloc _).alloc _
    have hR : RdS ((w.alloc (.cells #[.int .u8 cl, .bool false, .int .u32 num] 27)).alloc (.cells #[.int .u8 0, .int .u8 0, .int .u8 0, .int .u8 0, .int .u8 (num % 128)] 42)) (some ⟨w.heap.size + 1, 4, none⟩) 1 1 [num % 128] := by
      refine RdS.arr _ _ _ _ _ _ _ (by simp) rfl (by omega) (fun j hj => ?_)
      match j, hj with
      | 0, _ => rfl
    have hne : blk (some ⟨w.heap.size + 1, 4, none⟩) ≠ blk ao := blk_old h (by omega)
    have hsz : B ≤ ((w.alloc (.cells #[.int .u8 cl, .bool false, .int .u32 num] 27)).alloc (.cells #[.int .u8 0, .int .u8 0, .int .u8 0, .int .u8 0, .int .u8 (num % 128)] 42)).heap.size := by simp; omega
    generalize ((w.alloc (.cells #[.int .u8 cl, .bool false, .int .u32 num] 27)).alloc (.cells #[.int .u8 0, .int .u8 0, .int .u8 0, .int .u8 0, .int .u8 (num % 128)] 42)) = W at hO hM hR hsz ⊢
    go_region_law (first | (refine step_append_b8 _ (by rfl) (.tmp 48) (.tmp 51) 23 23 (by rfl) B i0 Try.underlying23 hi hz0 hz1 hz2 ao n cap zs (by rfl) (OwnS.drew (hO.alloc _)) (.slice (some ⟨W.heap.size, 0, none⟩) 1 1) 1 [cl * 64 % 256 + 31] (by rfl) (src1d W Try.underlying23 _) (by omega) (by simp; omega) ?_; intro a1 m1 d1 w1 hn1 ho1 hm1) | (refine step_append_b8 _ (by rfl) (.tmp 52) (.tmp 54) 23 23 (by rfl) B i0 Try.underlying23 hi hz0 hz1 hz2 a1 m1 d1 _ (by rfl) ho1 (.slice (some ⟨w.heap.size + 1, 4, none⟩) 1 1) 1 [num % 128] (by rfl) ((hR.moved hm1 hne).src Try.underlying23) (by have := hn1.out; omega) (Nat.le_trans hsz (Nat.le_trans (by simp) hm1.grown.size)) ?_; intro a2 m2 d2 w2 hn2 ho2 hm2))
    all_goals
      go_wp2
      go_ret
      refine ⟨a2, m2, d2, rfl, ?_, ((hM.alloc _).drew.trans hm1).trans hm2⟩
      simpa using ho2
  · go_enter Try.func15, Try.ntmps15
    go_wp2
    go_rounds 1
    have hO : OwnS ((w.alloc (.cells #[.int .u8 cl, .bool true, .int .u32 num] 27)).alloc (.cells #[.int .u8 0, .int .u8 0, .int .u8 0, .int .u8 0, .int .u8 (num % 128)] 42)) B ao n cap zs := (h.alloc _).alloc _
    have hM : Moved w ((w.alloc (.cells #[.int .u8 cl, .bool true, .int .u32 num] 27)).alloc (.cells #[.int .u8 0, .int .u8 0, .int .u8 0, .int .u8 0, .int .u8 (num % 128)] 42)) ao ao := ((Moved.refl w ao).alloc _).alloc _
    have hR : RdS ((w.alloc (.cells #[.int .u8 cl, .bool true, .int .u32 num] 27)).alloc (.cells #[.int .u8 0, .int .u8 0, .int .u8 0, .int .u8 0, .int .u8 (num % 128)] 42)) (some ⟨w.heap.size + 1, 4, none⟩) 1 1 [num % 128] := by
      refine RdS.arr _ _ _ _ _ _ _ (by simp) rfl (by omega) (fun j hj => ?_)
      match j, hj with
      | 0, _ => rfl
    have hne : blk (some ⟨w.heap.size + 1, 4, none⟩) ≠ blk ao := blk_old h (by omega)
    have hsz : B ≤ ((w.alloc (.cells #[.int .u8 cl, .bool true, .int .u32 num] 27)).alloc (.cells #[.int .u8 0, .int .u8 0, .int .u8 0, .int .u8 0, .int .u8 (num % 128)] 42)).heap.size := by simp; omega
    generalize ((w.alloc (.cells #[.int .u8 cl, .bool true, .int .u32 num] 27)).alloc (.cells #[.int .u8 0, .int .u8 0, .int .u8 0, .int .u8 0, .int .u8 (num % 128)] 42)) = W at hO hM hR hsz ⊢
    go_region_law (first | (refine step_append_b8 _ (by rfl) (.tmp 48) (.tmp 51) 23 23 (by rfl) B i0 Try.underlying23 hi hz0 hz1 hz2 ao n cap zs (by rfl) (OwnS.drew (hO.alloc _)) (.slice (some ⟨W.heap.size, 0, none⟩) 1 1) 1 [cl * 64 % 256 + 32 + 31] (by rfl) (src1d W Try.underlying23 _) (by omega) (by simp; omega) ?_; intro a1 m1 d1 w1 hn1 ho1 hm1) | (refine step_append_b8 _ (by rfl) (.tmp 52) (.tmp 54) 23 23 (by rfl) B i0 Try.underlying23 hi hz0 hz1 hz2 a1 m1 d1 _ (by rfl) ho1 (.slice (some ⟨w.heap.size + 1, 4, none⟩) 1 1) 1 [num % 128] (by rfl) ((hR.moved hm1 hne).src Try.underlying23) (by have := hn1.out; omega) (Nat.le_trans hsz (Nat.le_trans (by simp) hm1.grown.size)) ?_; intro a2 m2 d2 w2 hn2 ho2 hm2))
    all_goals
      go_wp2
      go_ret
      refine ⟨a2, m2, d2, rfl, ?_, ((hM.alloc _).drew.trans hm1).trans hm2⟩
      simpa using ho2

set_option maxRecDepth 100000 in
set_option maxHeartbeats 1000000 in
theorem tag_h1 (ao : Option Addr) (n cap : Nat) (zs : List Int) (B : Nat) (w : World) (h : OwnS w B ao n cap zs) (hB : B ≤ w.heap.size) (hn : n ≤ 1099511627776) (cl : Int) (cons : Bool) (num : Int) (c0 : 0 ≤ cl) (c1 : cl ≤ 255) (n0 : 128 ≤ num) (n1 : num < 16384) :
    Calls Try.prog 15 #[.slice ao n cap, .agg #[.int .u8 cl, .bool cons, .int .u32 num]] w fun e w' => ∃ a' n' c', e = .returned (.slice a' n' c') ∧ OwnS w' B a' n' c' (zs ++ (tagF cl cons + 31) :: [num / 128 % 128 + 128, num % 128]) ∧ Moved w w' ao a' := by
  obtain ⟨i0, hi, hz0, hz1, hz2⟩ := info_parts info5
  have k0 := and127_32 (num) (by omega) (by omega)
  have k1 := and127_32 (num / 128) (by omega) (by omega)
  have j1 := or128_8 (num / 128 % 128) (by omega) (by omega)
  have g1 := or_low (cl * 64 % 256) 31 (by omega) (by omega) (by omega) (by omega) (by omega)
  have g2 := or_low (cl * 64 % 256 + 32) 31 (by omega) (by omega) (by omega) (by omega) (by omega)
  have g3 := or_32 (cl * 64 % 256) (by omega) (by omega) (by omega)
  unfold tagF
  cases cons
  · go_enter Try.func15, Try.ntmps15
    go_wp2
    go_rounds 2
    have hO : OwnS ((w.alloc (.cells #[.int .u8 cl, .bool false, .int .u32 num] 27)).alloc (.cells #[.int .u8 0, .int .u8 0, .int .u8 0, .int .u8 (num / 128 % 128 + 128), .int .u8 (num % 128)] 42)) B ao n cap zs := (h.alloc _).alloc _
    have hM : Moved w ((w.alloc (.cells #[.int .u8 cl, .bool false, .int .u32 num] 27)).alloc (.cells #[.int .u8 0, .int .u8 0, .int .u8 0, .int .u8 (num / 128 % 128 + 128), .int .u8 (num % 128)] 42)) ao ao := ((Moved.refl w ao).alloc _).alloc _
    have hR : RdS ((w.alloc (.cells #[.int .u8 cl, .bool false, .int .u32 num] 27)).alloc (.cells #[.int .u8 0, .int .u8 0, .int .u8 0, .int .u8 (num / 128 % 128 + 128), .int .u8 (num % 128)] 42)) (some ⟨w.heap.size + 1, 3, none⟩) 2 2 [num / 128 % 128 + 128, num % 128] := by
      refine RdS.arr _ _ _ _ _ _ _ (by simp) rfl (by omega) (fun j hj => ?_)
      match j, hj with
      | 0, _ => rfl
      | 1, _ => rfl
    have hne : blk (some ⟨w.heap.size + 1, 3, none⟩) ≠ blk ao := blk_old h (by omega)
    have hsz : B ≤ ((w.alloc (.cells #[.int .u8 cl, .bool false, .int .u32 num] 27)).alloc (.cells #[.int .u8 0, .int .u8 0, .int .u8 0, .int .u8 (num / 128 % 128 + 128), .int .u8 (num % 128)] 42)).heap.size := by simp; omega
    generalize ((w.alloc (.cells #[.int .u8 cl, .bool false, .int .u32 num] 27)).alloc (.cells #[.int .u8 0, .int .u8 0, .int .u8 0, .int .u8 (num / 128 % 128 + 128), .int .u8 (num % 128)] 42)) = W at hO hM hR hsz ⊢
    go_region_law (first | (refine step_append_b8 _ (by rfl) (.tmp 48) (.tmp 51) 23 23 (by rfl) B i0 Try.underlying23 hi hz0 hz1 hz2 ao n cap zs (by rfl) (OwnS.drew (hO.alloc _)) (.slice (some ⟨W.heap.size, 0, none⟩) 1 1) 1 [cl * 64 % 256 + 31] (by rfl) (src1d W Try.underlying23 _) (by omega) (by simp; omega) ?_; intro a1 m1 d1 w1 hn1 ho1 hm1) | (refine step_append_b8 _ (by rfl) (.tmp 52) (.tmp 54) 23 23 (by rfl) B i0 Try.underlying23 hi hz0 hz1 hz2 a1 m1 d1 _ (by rfl) ho1 (.slice (some ⟨w.heap.size + 1, 3, none⟩) 2 2) 2 [num / 128 % 128 + 128, num % 128] (by rfl) ((hR.moved hm1 hne).src Try.underlying23) (by have := hn1.out; omega) (Nat.le_trans hsz (Nat.le_trans (by simp) hm1.grown.size)) ?_; intro a2 m2 d2 w2 hn2 ho2 hm2))
    all_goals
      go_wp2
      go_ret
      refine ⟨a2, m2, d2, rfl, ?_, ((hM.alloc _).drew.trans hm1).trans hm2⟩
      simpa using ho2
  · go_enter Try.func15, Try.ntmps15
    go_wp2
    go_rounds 2
    have hO : OwnS ((w.alloc (.cells #[.int .u8 cl, .bool true, .int .u32 num] 27)).alloc (.cells #[.int .u8 0, .int .u8 0, .int .u8 0, .int .u8 (num / 128 % 128 + 128), .int .u8 (num % 128)] 42)) B ao n cap zs := (h.alloc _).alloc _
    have hM : Moved w ((w.alloc (.cells #[.int .u8 cl, .bool true, .int .u32 num] 27)).alloc (.cells #[.int .u8 0, .int .u8 0, .int .u8 0, .int .u8 (num / 128 % 128 + 128), .int .u8 (num % 128)] 42)) ao ao := ((Moved.refl w ao).alloc _).alloc _
    have hR : RdS ((w.alloc (.cells #[.int .u8 cl, .bool true, .int .u32 num] 27)).alloc (.cells #[.int .u8 0, .int .u8 0, .int .u8 0, .int .u8 (num / 128 % 128 + 128), .int .u8 (num % 128)] 42)) (some ⟨w.heap.size + 1, 3, none⟩) 2 2 [num / 128 % 128 + 128, num % 128] := by
      refine RdS.arr _ _ _ _ _ _ _ (by simp) rfl (by omega) (fun j hj => ?_)
      match j, hj with
      | 0, _ => rfl
      | 1, _ => rfl
    have hne : blk (some ⟨w.heap.size + 1, 3, none⟩) ≠ blk ao := blk_old h (by omega)
    have hsz : B ≤ ((w.alloc (.cells #[.int .u8 cl, .bool true, .int .u32 num] 27)).alloc (.cells #[.int .u8 0, .int .u8 0, .int .u8 0, .int .u8 (num / 128 % 128 + 128), .int .u8 (num % 128)] 42)).heap.size := by simp; omega
    generalize ((w.alloc (.cells #[.int .u8 cl, .bool true, .int .u32 num] 27)).alloc (.cells #[.int .u8 0, .int .u8 0, .int .u8 0, .int .u8 (num / 128 % 128 + 128), .int .u8 (num % 128)] 42)) = W at hO hM hR hsz ⊢
    go_region_law (first | (refine step_append_b8 _ (by rfl) (.tmp 48) (.tmp 51) 23 23 (by rfl) B i0 Try.underlying23 hi hz0 hz1 hz2 ao n cap zs (by rfl) (OwnS.drew (hO.alloc _)) (.slice (some ⟨W.heap.size, 0, none⟩) 1 1) 1 [cl * 64 % 256 + 32 + 31] (by rfl) (src1d W Try.underlying23 _) (by omega) (by simp; omega) ?_; intro a1 m1 d1 w1 hn1 ho1 hm1) | (refine step_append_b8 _ (by rfl) (.tmp 52) (.tmp 54) 23 23 (by rfl) B i0 Try.underlying23 hi hz0 hz1 hz2 a1 m1 d1 _ (by rfl) ho1 (.slice (some ⟨w.heap.size + 1, 3, none⟩) 2 2) 2 [num / 128 % 128 + 128, num % 128] (by rfl) ((hR.moved hm1 hne).src Try.underlying23) (by have := hn1.out; omega) (Nat.le_trans hsz (Nat.le_trans (by simp) hm1.grown.size)) ?_; intro a2 m2 d2 w2 hn2 ho2 hm2))
    all_goals
      go_wp2
      go_ret
      refine ⟨a2, m2, d2, rfl, ?_, ((hM.alloc _).drew.trans hm1).trans hm2⟩
      simpa using ho2

set_option maxRecDepth 100000 in
set_option maxHeartbeats 1000000 in
theorem tag_h2 (ao : Option Addr) (n cap : Nat) (zs : List Int) (B : Nat) (w : World) (h : OwnS w B ao n cap zs) (hB : B ≤ w.heap.size) (hn : n ≤ 1099511627776) (cl : Int) (cons : Bool) (num : Int) (c0 : 0 ≤ cl) (c1 : cl ≤ 255) (n0 : 16384 ≤ num) (n1 : num < 2097152) :
    Calls Try.prog 15 #[.slice ao n cap, .agg #[.int .u8 cl, .bool cons, .int .u32 num]] w fun e w' => ∃ a' n' c', e = .returned (.slice a' n' c') ∧ OwnS w' B a' n' c' (zs ++ (tagF cl cons + 31) :: [num / 128 / 128 % 128 + 128, num / 128 % 128 + 128, num % 128]) ∧ Moved w w' ao a' := by
  obtain ⟨i0, hi, hz0, hz1, hz2⟩ := info_parts info5
  have k0 := and127_32 (num) (by omega) (by omega)
  have k1 := and127_32 (num / 128) (by omega) (by omega)
  have j1 := or128_8 (num / 128 % 128) (by omega) (by omega)
  have k2 := and127_32 (num / 128 / 128) (by omega) (by omega)
  have j2 := or128_8 (num / 128 / 128 % 128) (by omega) (by omega)
  have g1 := or_low (cl * 64 % 256) 31 (by omega) (by omega) (by omega) (by omega) (by omega)
  have g2 := or_low (cl * 64 % 256 + 32) 31 (by omega) (by omega) (by omega) (by omega) (by omega)
  have g3 := or_32 (cl * 64 % 256) (by omega) (by omega) (by omega)
  unfold tagF
  cases cons
  · go_enter Try.func15, Try.ntmps15
    go_wp2
    go_rounds 3
    have hO : OwnS ((w.alloc (.cells #[.int .u8 cl, .bool false, .int .u32 num] 27)).alloc (.cells #[.int .u8 0, .int .u8 0, .int .u8 (num / 128 / 128 % 128 + 128), .int .u8 (num / 128 % 128 + 128), .int .u8 (num % 128)] 42)) B ao n cap zs := (h.alloc _).alloc _
    have hM : Moved w ((w.alloc (.cells #[.int .u8 cl, .bool false, .int .u32 num] 27)).alloc (.cells #[.int .u8 0, .int .u8 0, .int .u8 (num / 128 / 128 % 128 + 128), .int .u8 (num / 128 % 128 + 128), .int .u8 (num % 128)] 42)) ao ao := ((Moved.refl w ao).alloc _).alloc _
    have hR : RdS ((w.alloc (.cells #[.int .u8 cl, .bool false, .int .u32 num] 27)).alloc (.cells #[.int .u8 0, .int .u8 0, .int .u8 (num / 128 / 128 % 128 + 128), .int .u8 (num / 128 % 128 + 128), .int .u8 (num % 128)] 42)) (some ⟨w.heap.size + 1, 2, none⟩) 3 3 [num / 128 / 128 % 128 + 128, num / 128 % 128 + 128, num % 128] := by
      refine RdS.arr _ _ _ _ _ _ _ (by simp) rfl (by omega) (fun j hj => ?_)
      match j, hj with
      | 0, _ => rfl
      | 1, _ => rfl
      | 2, _ => rfl
    have hne : blk (some ⟨w.heap.size + 1, 2, none⟩) ≠ blk ao := blk_old h (by omega)
    have hsz : B ≤ ((w.alloc (.cells #[.int .u8 cl, .bool false, .int .u32 num] 27)).alloc (.cells #[.int .u8 0, .int .u8 0, .int .u8 (num / 128 / 128 % 128 + 128), .int .u8 (num / 128 % 128 + 128), .int .u8 (num % 128)] 42)).heap.size := by simp; omega
    generalize ((w.alloc (.cells #[.int .u8 cl, .bool false, .int .u32 num] 27)).alloc (.cells #[.int .u8 0, .int .u8 0, .int .u8 (num / 128 / 128 % 128 + 128), .int .u8 (num / 128 % 128 + 128), .int .u8 (num % 128)] 42)) = W at hO hM hR hsz ⊢
    go_region_law (first | (refine step_append_b8 _ (by rfl) (.tmp 48) (.tmp 51) 23 23 (by rfl) B i0 Try.underlying23 hi hz0 hz1 hz2 ao n cap zs (by rfl) (OwnS.drew (hO.alloc _)) (.slice (some ⟨W.heap.size, 0, none⟩) 1 1) 1 [cl * 64 % 256 + 31] (by rfl) (src1d W Try.underlying23 _) (by omega) (by simp; omega) ?_; intro a1 m1 d1 w1 hn1 ho1 hm1) | (refine step_append_b8 _ (by rfl) (.tmp 52) (.tmp 54) 23 23 (by rfl) B i0 Try.underlying23 hi hz0 hz1 hz2 a1 m1 d1 _ (by rfl) ho1 (.slice (some ⟨w.heap.size + 1, 2, none⟩) 3 3) 3 [num / 128 / 128 % 128 + 128, num / 128 % 128 + 128, num % 128] (by rfl) ((hR.moved hm1 hne).src Try.underlying23) (by have := hn1.out; omega) (Nat.le_trans hsz (Nat.le_trans (by simp) hm1.grown.size)) ?_; intro a2 m2 d2 w2 hn2 ho2 hm2))
    all_goals
      go_wp2
      go_ret
      refine ⟨a2, m2, d2, rfl, ?_, ((hM.alloc _).drew.trans hm1).trans hm2⟩
      simpa using ho2
  · go_enter Try.func15, Try.ntmps15
    go_wp2
    go_rounds 3
    have hO : OwnS ((w.alloc (.cells #[.int .u8 cl, .bool true, .int .u32 num] 27)).alloc (.cells #[.int .u8 0, .int .u8 0, .int .u8 (num / 128 / 128 % 128 + 128), .int .u8 (num / 128 % 128 + 128), .int .u8 (num % 128)] 42)) B ao n cap zs := (h.alloc _).alloc _
    have hM : Moved w ((w.alloc (.cells #[.int .u8 cl, .bool true, .int .u32 num] 27)).alloc (.cells #[.int .u8 0, .int .u8 0, .int .u8 (num / 128 / 128 % 128 + 128), .int .u8 (num / 128 % 128 + 128), .int .u8 (num % 128)] 42)) ao ao := ((Moved.refl w ao).alloc _).alloc _
    have hR : RdS ((w.alloc (.cells #[.int .u8 cl, .bool true, .int .u32 num] 27)).alloc (.cells #[.int .u8 0, .int .u8 0, .int .u8 (num / 128 / 128 % 128 + 128), .int .u8 (num / 128 % 128 + 128), .int .u8 (num % 128)] 42)) (some ⟨w.heap.size + 1, 2, none⟩) 3 3 [num / 128 / 128 % 128 + 128, num / 128 % 128 + 128, num % 128] := by
      refine RdS.arr _ _ _ _ _ _ _ (by simp) rfl (by omega) (fun j hj => ?_)
      match j, hj with
      | 0, _ => rfl
      | 1, _ => rfl
      | 2, _ => rfl
    have hne : blk (some ⟨w.heap.size + 1, 2, none⟩) ≠ blk ao := blk_old h (by omega)
    have hsz : B ≤ ((w.alloc (.cells #[.int .u8 cl, .bool true, .int .u32 num] 27)).alloc (.cells #[.int .u8 0, .int .u8 0, .int .u8 (num / 128 / 128 % 128 + 128), .int .u8 (num / 128 % 128 + 128), .int .u8 (num % 128)] 42)).heap.size := by simp; omega
    generalize ((w.alloc (.cells #[.int .u8 cl, .bool true, .int .u32 num] 27)).alloc (.cells #[.int .u8 0, .int .u8 0, .int .u8 (num / 128 / 128 % 128 + 128), .int .u8 (num / 128 % 128 + 128), .int .u8 (num % 128)] 42)) = W at hO hM hR hsz ⊢
    go_region_law (first | (refine step_append_b8 _ (by rfl) (.tmp 48) (.tmp 51) 23 23 (by rfl) B i0 Try.underlying23 hi hz0 hz1 hz2 ao n cap zs (by rfl) (OwnS.drew (hO.alloc _)) (.slice (some ⟨W.heap.size, 0, none⟩) 1 1) 1 [cl * 64 % 256 + 32 + 31] (by rfl) (src1d W Try.underlying23 _) (by omega) (by simp; omega) ?_; intro a1 m1 d1 w1 hn1 ho1 hm1) | (refine step_append_b8 _ (by rfl) (.tmp 52) (.tmp 54) 23 23 (by rfl) B i0 Try.underlying23 hi hz0 hz1 hz2 a1 m1 d1 _ (by rfl) ho1 (.slice (some ⟨w.heap.size + 1, 2, none⟩) 3 3) 3 [num / 128 / 128 % 128 + 128, num / 128 % 128 + 128, num % 128] (by rfl) ((hR.moved hm1 hne).src Try.underlying23) (by have := hn1.out; omega) (Nat.le_trans hsz (Nat.le_trans (by simp) hm1.grown.size)) ?_; intro a2 m2 d2 w2 hn2 ho2 hm2))
    all_goals
      go_wp2
      go_ret
      refine ⟨a2, m2, d2, rfl, ?_, ((hM.alloc _).drew.trans hm1).trans hm2⟩
      simpa using ho2

set_option maxRecDepth 100000 in
set_option maxHeartbeats 1000000 in
theorem tag_h3 (ao : Option Addr) (n cap : Nat) (zs : List Int) (B : Nat) (w : World) (h : OwnS w B ao n cap zs) (hB : B ≤ w.heap.size) (hn : n ≤ 1099511627776) (cl : Int) (cons : Bool) (num : Int) (c0 : 0 ≤ cl) (c1 : cl ≤ 255) (n0 : 2097152 ≤ num) (n1 : num < 268435456) :
    Calls Try.prog 15 #[.slice ao n cap, .agg #[.int .u8 cl, .bool cons, .int .u32 num]] w fun e w' => ∃ a' n' c', e = .returned (.slice a' n' c') ∧ OwnS w' B a' n' c' (zs ++ (tagF cl cons + 31) :: [num / 128 / 128 / 128 % 128 + 128, num / 128 / 128 % 128 + 128, num / 128 % 128 + 128, num % 128]) ∧ Moved w w' ao a' := by
  obtain ⟨i0, hi, hz0, hz1, hz2⟩ := info_parts info5
  have k0 := and127_32 (num) (by omega) (by omega)
  have k1 := and127_32 (num / 128) (by omega) (by omega)
  have j1 := or128_8 (num / 128 % 128) (by omega) (by omega)
  have k2 := and127_32 (num / 128 / 128) (by omega) (by omega)
  have j2 := or128_8 (num / 128 / 128 % 128) (by omega) (by omega)
  have k3 := and127_32 (num / 128 / 128 / 128) (by omega) (by omega)
  have j3 := or128_8 (num / 128 / 128 / 128 % 128) (by omega) (by omega)
  have g1 := or_low (cl * 64 % 256) 31 (by omega) (by omega) (by omega) (by omega) (by omega)
  have g2 := or_low (cl * 64 % 256 + 32) 31 (by omega) (by omega) (by omega) (by omega) (by omega)
  have g3 := or_32 (cl * 64 % 256) (by omega) (by omega) (by omega)
  unfold tagF
  cases cons
  · go_enter Try.func15, Try.ntmps15
    go_wp2
    go_rounds 4
    have hO : OwnS ((w.alloc (.cells #[.int .u8 cl, .bool false, .int .u32 num] 27)).alloc (.cells #[.int .u8 0, .int .u8 (num / 128 / 128 / 128 % 128 + 128), .int .u8 (num / 128 / 128 % 128 + 128), .int .u8 (num / 128 % 128 + 128), .int .u8 (num % 128)] 42)) B ao n cap zs := (h.alloc _).alloc _
    have hM : Moved w ((w.alloc (.cells #[.int .u8 cl, .bool false, .int .u32 num] 27)).alloc (.cells #[.int .u8 0, .int .u8 (num / 128 / 128 / 128 % 128 + 128), .int .u8 (num / 128 / 128 % 128 + 128), .int .u8 (num / 128 % 128 + 128), .int .u8 (num % 128)] 42)) ao ao := ((Moved.refl w ao).alloc _).alloc _
    have hR : RdS ((w.alloc (.cells #[.int .u8 cl, .bool false, .int .u32 num] 27)).alloc (.cells #[.int .u8 0, .int .u8 (num / 128 / 128 / 128 % 128 + 128), .int .u8 (num / 128 / 128 % 128 + 128), .int .u8 (num / 128 % 128 + 128), .int .u8 (num % 128)] 42)) (some ⟨w.heap.size + 1, 1, none⟩) 4 4 [num / 128 / 128 / 128 % 128 + 128, num / 128 / 128 % 128 + 128, num / 128 % 128 + 128, num % 128] := by
      refine RdS.arr _ _ _ _ _ _ _ (by simp) rfl (by omega) (fun j hj => ?_)
      match j, hj with
      | 0, _ => rfl
      | 1, _ => rfl
      | 2, _ => rfl
      | 3, _ => rfl
    have hne : blk (some ⟨w.heap.size + 1, 1, none⟩) ≠ blk ao := blk_old h (by omega)
    have hsz : B ≤ ((w.alloc (.cells #[.int .u8 cl, .bool false, .int .u32 num] 27)).alloc (.cells #[.int .u8 0, .int .u8 (num / 128 / 128 / 128 % 128 + 128), .int .u8 (num / 128 / 128 % 128 + 128), .int .u8 (num / 128 % 128 + 128), .int .u8 (num % 128)] 42)).heap.size := by simp; omega
    generalize ((w.alloc (.cells #[.int .u8 cl, .bool false, .int .u32 num] 27)).alloc (.cells #[.int .u8 0, .int .u8 (num / 128 / 128 / 128 % 128 + 128), .int .u8 (num / 128 / 128 % 128 + 128), .int .u8 (num / 128 % 128 + 128), .int .u8 (num % 128)] 42)) = W at hO hM hR hsz ⊢
    go_region_law (first | (refine step_append_b8 _ (by rfl) (.tmp 48) (.tmp 51) 23 23 (by rfl) B i0 Try.underlying23 hi hz0 hz1 hz2 ao n cap zs (by rfl) (OwnS.drew (hO.alloc _)) (.slice (some ⟨W.heap.size, 0, none⟩) 1 1) 1 [cl * 64 % 256 + 31] (by rfl) (src1d W Try.underlying23 _) (by omega) (by simp; omega) ?_; intro a1 m1 d1 w1 hn1 ho1 hm1) | (refine step_append_b8 _ (by rfl) (.tmp 52) (.tmp 54) 23 23 (by rfl) B i0 Try.underlying23 hi hz0 hz1 hz2 a1 m1 d1 _ (by rfl) ho1 (.slice (some ⟨w.heap.size + 1, 1, none⟩) 4 4) 4 [num / 128 / 128 / 128 % 128 + 128, num / 128 / 128 % 128 + 128, num / 128 % 128 + 128, num % 128] (by rfl) ((hR.moved hm1 hne).src Try.underlying23) (by have := hn1.out; omega) (Nat.le_trans hsz (Nat.le_trans (by simp) hm1.grown.size)) ?_; intro a2 m2 d2 w2 hn2 ho2 hm2))
    all_goals
      go_wp2
      go_ret
      refine ⟨a2, m2, d2, rfl, ?_, ((hM.alloc _).drew.trans hm1).trans hm2⟩
      simpa using ho2
  · go_enter Try.func15, Try.ntmps15
    go_wp2
    go_rounds 4
    have hO : OwnS ((w.alloc (.cells #[.int .u8 cl, .bool true, .int .u32 num] 27)).alloc (.cells #[.int .u8 0, .int .u8 (num / 128 / 128 / 128 % 128 + 128), .int .u8 (num / 128 / 128 % 128 + 128), .int .u8 (num / 128 % 128 + 128), .int .u8 (num % 128)] 42)) B ao n cap zs := (h.alloc _).alloc _
    have hM : Moved w ((w.alloc (.cells #[.int .u8 cl, .bool true, .int .u32 num] 27)).alloc (.cells #[.int .u8 0, .int .u8 (num / 128 / 128 / 128 % 128 + 128), .int .u8 (num / 128 / 128 % 128 + 128), .int .u8 (num / 128 % 128 + 128), .int .u8 (num % 128)] 42)) ao ao := ((Moved.refl w ao).alloc _).alloc _
    have hR : RdS ((w.alloc (.cells #[.int .u8 cl, .bool true, .int .u32 num] 27)).alloc (.cells #[.int .u8 0, .int .u8 (num / 128 / 128 / 128 % 128 + 128), .int .u8 (num / 128 / 128 % 128 + 128), .int .u8 (num / 128 % 128 + 128), .int .u8 (num % 128)] 42)) (some ⟨w.heap.size + 1, 1, none⟩) 4 4 [num / 128 / 128 / 128 % 128 + 128, num / 128 / 128 % 128 + 128, num / 128 % 128 + 128, num % 128] := by
      refine RdS.arr _ _ _ _ _ _ _ (by simp) rfl (by omega) (fun j hj => ?_)
      match j, hj with
      | 0, _ => rfl
      | 1, _ => rfl
      | 2, _ => rfl
      | 3, _ => rfl
    have hne : blk (some ⟨w.heap.size + 1, 1, none⟩) ≠ blk ao := blk_old h (by omega)
    have hsz : B ≤ ((w.alloc (.cells #[.int .u8 cl, .bool true, .int .u32 num] 27)).alloc (.cells #[.int .u8 0, .int .u8 (num / 128 / 128 / 128 % 128 + 128), .int .u8 (num / 128 / 128 % 128 + 128), .int .u8 (num / 128 % 128 + 128), .int .u8 (num % 128)] 42)).heap.size := by simp; omega
    generalize ((w.alloc (.cells #[.int .u8 cl, .bool true, .int .u32 num] 27)).alloc (.cells #[.int .u8 0, .int .u8 (num / 128 / 128 / 128 % 128 + 128), .int .u8 (num / 128 / 128 % 128 + 128), .int .u8 (num / 128 % 128 + 128), .int .u8 (num % 128)] 42)) = W at hO hM hR hsz ⊢
    go_region_law (first | (refine step_append_b8 _ (by rfl) (.tmp 48) (.tmp 51) 23 23 (by rfl) B i0 Try.underlying23 hi hz0 hz1 hz2 ao n cap zs (by rfl) (OwnS.drew (hO.alloc _)) (.slice (some ⟨W.heap.size, 0, none⟩) 1 1) 1 [cl * 64 % 256 + 32 + 31] (by rfl) (src1d W Try.underlying23 _) (by omega) (by simp; omega) ?_; intro a1 m1 d1 w1 hn1 ho1 hm1) | (refine step_append_b8 _ (by rfl) (.tmp 52) (.tmp 54) 23 23 (by rfl) B i0 Try.underlying23 hi hz0 hz1 hz2 a1 m1 d1 _ (by rfl) ho1 (.slice (some ⟨w.heap.size + 1, 1, none⟩) 4 4) 4 [num / 128 / 128 / 128 % 128 + 128, num / 128 / 128 % 128 + 128, num / 128 % 128 + 128, num % 128] (by rfl) ((hR.moved hm1 hne).src Try.underlying23) (by have := hn1.out; omega) (Nat.le_trans hsz (Nat.le_trans (by simp) hm1.grown.size)) ?_; intro a2 m2 d2 w2 hn2 ho2 hm2))
    all_goals
      go_wp2
      go_ret
      refine ⟨a2, m2, d2, rfl, ?_, ((hM.alloc _).drew.trans hm1).trans hm2⟩
      simpa using ho2

set_option maxRecDepth 100000 in
set_option maxHeartbeats 1000000 in
theorem tag_h4 (ao : Option Addr) (n cap : Nat) (zs : List Int) (B : Nat) (w : World) (h : OwnS w B ao n cap zs) (hB : B ≤ w.heap.size) (hn : n ≤ 1099511627776) (cl : Int) (cons : Bool) (num : Int) (c0 : 0 ≤ cl) (c1 : cl ≤ 255) (n0 : 268435456 ≤ num) (n1 : num < 4294967296) :
    Calls Try.prog 15 #[.slice ao n cap, .agg #[.int .u8 cl, .bool cons, .int .u32 num]] w fun e w' => ∃ a' n' c', e = .returned (.slice a' n' c') ∧ OwnS w' B a' n' c' (zs ++ (tagF cl cons + 31) :: [num / 128 / 128 / 128 / 128 % 128 + 128, num / 128 / 128 / 128 % 128 + 128, num / 128 / 128 % 128 + 128, num / 128 % 128 + 128, num % 128]) ∧ Moved w w' ao a' := by
  obtain ⟨i0, hi, hz0, hz1, hz2⟩ := info_parts info5
  have k0 := and127_32 (num) (by omega) (by omega)
  have k1 := and127_32 (num / 128) (by omega) (by omega)
  have j1 := or128_8 (num / 128 % 128) (by omega) (by omega)
  have k2 := and127_32 (num / 128 / 128) (by omega) (by omega)
  have j2 := or128_8 (num / 128 / 128 % 128) (by omega) (by omega)
  have k3 := and127_32 (num / 128 / 128 / 128) (by omega) (by omega)
  have j3 := or128_8 (num / 128 / 128 / 128 % 128) (by omega) (by omega)
  have k4 := and127_32 (num / 128 / 128 / 128 / 128) (by omega) (by omega)
  have j4 := or128_8 (num / 128 / 128 / 128 / 128 % 128) (by omega) (by omega)
  have g1 := or_low (cl * 64 % 256) 31 (by omega) (by omega) (by omega) (by omega) (by omega)
  have g2 := or_low (cl * 64 % 256 + 32) 31 (by omega) (by omega) (by omega) (by omega) (by omega)
  have g3 := or_32 (cl * 64 % 256) (by omega) (by omega) (by omega)
  unfold tagF
  cases cons
  · go_enter Try.func15, Try.ntmps15
    go_wp2
    go_rounds 5
    have hO : OwnS ((w.alloc (.cells #[.int .u8 cl, .bool false, .int .u32 num] 27)).alloc (.cells #[.int .u8 (num / 128 / 128 / 128 / 128 % 128 + 128), .int .u8 (num / 128 / 128 / 128 % 128 + 128), .int .u8 (num / 128 / 128 % 128 + 128), .int .u8 (num / 128 % 128 + 128), .int .u8 (num % 128)] 42)) B ao n cap zs := (h.alloc _).alloc _
    have hM : Moved w ((w.alloc (.cells #[.int .u8 cl, .bool false, .int .u32 num] 27)).alloc (.cells #[.int .u8 (num / 128 / 128 / 128 / 128 % 128 + 128), .int .u8 (num / 128 / 128 / 128 % 128 + 128), .int .u8 (num / 128 / 128 % 128 + 128), .int .u8 (num / 128 % 128 + 128), .int .u8 (num % 128)] 42)) ao ao := ((Moved.refl w ao).alloc _).alloc _
    have hR : RdS ((w.alloc (.cells #[.int .u8 cl, .bool false, .int .u32 num] 27)).alloc (.cells #[.int .u8 (num / 128 / 128 / 128 / 128 % 128 + 128), .int .u8 (num / 128 / 128 / 128 % 128 + 128), .int .u8 (num / 128 / 128 % 128 + 128), .int .u8 (num / 128 % 128 + 128), .int .u8 (num % 128)] 42)) (some ⟨w.heap.size + 1, 0, none⟩) 5 5 [num / 128 / 128 / 128 / 128 % 128 + 128, num / 128 / 128 / 128 % 128 + 128, num / 128 / 128 % 128 + 128, num / 128 % 128 + 128, num % 128] := by
      refine RdS.arr _ _ _ _ _ _ _ (by simp) rfl (by omega) (fun j hj => ?_)
      match j, hj with
      | 0, _ => rfl
      | 1, _ => rfl
      | 2, _ => rfl
      | 3, _ => rfl
      | 4, _ => rfl
    have hne : blk (some ⟨w.heap.size + 1, 0, none⟩) ≠ blk ao := blk_old h (by omega)
    have hsz : B ≤ ((w.alloc (.cells #[.int .u8 cl, .bool false, .int .u32 num] 27)).alloc (.cells #[.int .u8 (num / 128 / 128 / 128 / 128 % 128 + 128), .int .u8 (num / 128 / 128 / 128 % 128 + 128), .int .u8 (num / 128 / 128 % 128 + 128), .int .u8 (num / 128 % 128 + 128), .int .u8 (num % 128)] 42)).heap.size := by simp; omega
    generalize ((w.alloc (.cells #[.int .u8 cl, .bool false, .int .u32 num] 27)).alloc (.cells #[.int .u8 (num / 128 / 128 / 128 / 128 % 128 + 128), .int .u8 (num / 128 / 128 / 128 % 128 + 128), .int .u8 (num / 128 / 128 % 128 + 128), .int .u8 (num / 128 % 128 + 128), .int .u8 (num % 128)] 42)) = W at hO hM hR hsz ⊢
    go_region_law (first | (refine step_append_b8 _ (by rfl) (.tmp 48) (.tmp 51) 23 23 (by rfl) B i0 Try.underlying23 hi hz0 hz1 hz2 ao n cap zs (by rfl) (OwnS.drew (hO.alloc _)) (.slice (some ⟨W.heap.size, 0, none⟩) 1 1) 1 [cl * 64 % 256 + 31] (by rfl) (src1d W Try.underlying23 _) (by omega) (by simp; omega) ?_; intro a1 m1 d1 w1 hn1 ho1 hm1) | (refine step_append_b8 _ (by rfl) (.tmp 52) (.tmp 54) 23 23 (by rfl) B i0 Try.underlying23 hi hz0 hz1 hz2 a1 m1 d1 _ (by rfl) ho1 (.slice (some ⟨w.heap.size + 1, 0, none⟩) 5 5) 5 [num / 128 / 128 / 128 / 128 % 128 + 128, num / 128 / 128 / 128 % 128 + 128, num / 128 / 128 % 128 + 128, num / 128 % 128 + 128, num % 128] (by rfl) ((hR.moved hm1 hne).src Try.underlying23) (by have := hn1.out; omega) (Nat.le_trans hsz (Nat.le_trans (by simp) hm1.grown.size)) ?_; intro a2 m2 d2 w2 hn2 ho2 hm2))
    all_goals
      go_wp2
      go_ret
      refine ⟨a2, m2, d2, rfl, ?_, ((hM.alloc _).drew.trans hm1).trans hm2⟩
      simpa using ho2
  · go_enter Try.func15, Try.ntmps15
    go_wp2
    go_rounds 5
    have hO : OwnS ((w.alloc (.cells #[.int .u8 cl, .bool true, .int .u32 num] 27)).alloc (.cells #[.int .u8 (num / 128 / 128 / 128 / 128 % 128 + 128), .int .u8 (num / 128 / 128 / 128 % 128 + 128), .int .u8 (num / 128 / 128 % 128 + 128), .int .u8 (num / 128 % 128 + 128), .int .u8 (num % 128)] 42)) B ao n cap zs := (h.alloc _).alloc _
    have hM : Moved w ((w.alloc (.cells #[.int .u8 cl, .bool true, .int .u32 num] 27)).alloc (.cells #[.int .u8 (num / 128 / 128 / 128 / 128 % 128 + 128), .int .u8 (num / 128 / 128 / 128 % 128 + 128), .int .u8 (num / 128 / 128 % 128 + 128), .int .u8 (num / 128 % 128 + 128), .int .u8 (num % 128)] 42)) ao ao := ((Moved.refl w ao).alloc _).alloc _
    have hR : RdS ((w.alloc (.cells #[.int .u8 cl, .bool true, .int .u32 num] 27)).alloc (.cells #[.int .u8 (num / 128 / 128 / 128 / 128 % 128 + 128), .int .u8 (num / 128 / 128 / 128 % 128 + 128), .int .u8 (num / 128 / 128 % 128 + 128), .int .u8 (num / 128 % 128 + 128), .int .u8 (num % 128)] 42)) (some ⟨w.heap.size + 1, 0, none⟩) 5 5 [num / 128 / 128 / 128 / 128 % 128 + 128, num / 128 / 128 / 128 % 128 + 128, num / 128 / 128 % 128 + 128, num / 128 % 128 + 128, num % 128] := by
      refine RdS.arr _ _ _ _ _ _ _ (by simp) rfl (by omega) (fun j hj => ?_)
      match j, hj with
      | 0, _ => rfl
      | 1, _ => rfl
      | 2, _ => rfl
      | 3, _ => rfl
      | 4, _ => rfl
    have hne : blk (some ⟨w.heap.size + 1, 0, none⟩) ≠ blk ao := blk_old h (by omega)
    have hsz : B ≤ ((w.alloc (.cells #[.int .u8 cl, .bool true, .int .u32 num] 27)).alloc (.cells #[.int .u8 (num / 128 / 128 / 128 / 128 % 128 + 128), .int .u8 (num / 128 / 128 / 128 % 128 + 128), .int .u8 (num / 128 / 128 % 128 + 128), .int .u8 (num / 128 % 128 + 128), .int .u8 (num % 128)] 42)).heap.size := by simp; omega
    generalize ((w.alloc (.cells #[.int .u8 cl, .bool true, .int .u32 num] 27)).alloc (.cells #[.int .u8 (num / 128 / 128 / 128 / 128 % 128 + 128), .int .u8 (num / 128 / 128 / 128 % 128 + 128), .int .u8 (num / 128 / 128 % 128 + 128), .int .u8 (num / 128 % 128 + 128), .int .u8 (num % 128)] 42)) = W at hO hM hR hsz ⊢
    go_region_law (first | (refine step_append_b8 _ (by rfl) (.tmp 48) (.tmp 51) 23 23 (by rfl) B i0 Try.underlying23 hi hz0 hz1 hz2 ao n cap zs (by rfl) (OwnS.drew (hO.alloc _)) (.slice (some ⟨W.heap.size, 0, none⟩) 1 1) 1 [cl * 64 % 256 + 32 + 31] (by rfl) (src1d W Try.underlying23 _) (by omega) (by simp; omega) ?_; intro a1 m1 d1 w1 hn1 ho1 hm1) | (refine step_append_b8 _ (by rfl) (.tmp 52) (.tmp 54) 23 23 (by rfl) B i0 Try.underlying23 hi hz0 hz1 hz2 a1 m1 d1 _ (by rfl) ho1 (.slice (some ⟨w.heap.size + 1, 0, none⟩) 5 5) 5 [num / 128 / 128 / 128 / 128 % 128 + 128, num / 128 / 128 / 128 % 128 + 128, num / 128 / 128 % 128 + 128, num / 128 % 128 + 128, num % 128] (by rfl) ((hR.moved hm1 hne).src Try.underlying23) (by have := hn1.out; omega) (Nat.le_trans hsz (Nat.le_trans (by simp) hm1.grown.size)) ?_; intro a2 m2 d2 w2 hn2 ho2 hm2))
    all_goals
      go_wp2
      go_ret
      refine ⟨a2, m2, d2, rfl, ?_, ((hM.alloc _).drew.trans hm1).trans hm2⟩
      simpa using ho2

theorem tag_any (ao : Option Addr) (n cap : Nat) (zs : List Int) (B : Nat) (w : World) (h : OwnS w B ao n cap zs) (hB : B ≤ w.heap.size) (hn : n ≤ 1099511627776) (cl : Int) (cons : Bool) (num : Int) (c0 : 0 ≤ cl) (c1 : cl ≤ 255) (n0 : 0 ≤ num) (n1 : num < 4294967296) :
    Calls Try.prog 15 #[.slice ao n cap, .agg #[.int .u8 cl, .bool cons, .int .u32 num]] w fun e w' => ∃ a' n' c', e = .returned (.slice a' n' c') ∧ OwnS w' B a' n' c' (zs ++ tagB cl cons num) ∧ Moved w w' ao a' := by
  by_cases r0 : num < 31
  · exact tag_low ao n cap zs B w h hB hn cl cons num c0 c1 n0 r0
  unfold tagB b128
  rw [if_neg r0]
  by_cases r1 : num < 128
  · rw [if_pos r1]
    exact tag_h0 ao n cap zs B w h hB hn cl cons num c0 c1 (by omega) r1
  rw [if_neg r1]
  by_cases r2 : num < 16384
  · rw [if_pos r2]
    exact tag_h1 ao n cap zs B w h hB hn cl cons num c0 c1 (by omega) r2
  rw [if_neg r2]
  by_cases r3 : num < 2097152
  · rw [if_pos r3]
    exact tag_h2 ao n cap zs B w h hB hn cl cons num c0 c1 (by omega) r3
  rw [if_neg r3]
  by_cases r4 : num < 268435456
  · rw [if_pos r4]
    exact tag_h3 ao n cap zs B w h hB hn cl cons num c0 c1 (by omega) r4
  rw [if_neg r4]
  exact tag_h4 ao n cap zs B w h hB hn cl cons num c0 c1 (by omega) n1
end Go.Proofs.Qxb6002387a
