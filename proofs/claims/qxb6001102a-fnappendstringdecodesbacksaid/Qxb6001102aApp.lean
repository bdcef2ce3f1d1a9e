import Derived.Test.Qxb6001102aChecked
import Derived.Test.Qxb6001102aClone
import Derived.Test.Qxb6001102aEnc
import Derived.WalkSpells
import Derived.WalkLawsBesides
namespace Go.Proofs.Qxb6001102a
open Go.RowKit

theorem srcLit {P : Program} (w : World) {t e : TypeId} (ht : P.underlying t = some (.slice e)) (zs : List Int) (n : Nat) (hn : zs.length = n) (hm : n ≤ 100) : Src P 1 t (.slice (some ⟨w.heap.size, 0, none⟩) n n) n (B8 zs) (w.alloc (.cells (B8 zs).toArray 5)) :=
  (RdS.new w zs n hn (by unfold maxLen; omega)).src ht

theorem src1 {P : Program} (w : World) {t e : TypeId} (ht : P.underlying t = some (.slice e)) (a : Int) : Src P 1 t (.slice (some ⟨w.heap.size, 0, none⟩) 1 1) 1 (B8 [a]) (w.alloc (.cells #[.int .u8 a] 5)) := srcLit w ht [a] 1 rfl (by omega)
theorem src2 {P : Program} (w : World) {t e : TypeId} (ht : P.underlying t = some (.slice e)) (a b : Int) : Src P 1 t (.slice (some ⟨w.heap.size, 0, none⟩) 2 2) 2 (B8 [a, b]) (w.alloc (.cells #[.int .u8 a, .int .u8 b] 5)) := srcLit w ht [a, b] 2 rfl (by omega)
theorem src6 {P : Program} (w : World) {t e : TypeId} (ht : P.underlying t = some (.slice e)) (a b c d x y : Int) : Src P 1 t (.slice (some ⟨w.heap.size, 0, none⟩) 6 6) 6 (B8 [a, b, c, d, x, y]) (w.alloc (.cells #[.int .u8 a, .int .u8 b, .int .u8 c, .int .u8 d, .int .u8 x, .int .u8 y] 5)) := srcLit w ht [a, b, c, d, x, y] 6 rfl (by omega)
theorem src6d {P : Program} (w : World) {t e : TypeId} (ht : P.underlying t = some (.slice e)) (a b c d x y : Int) : Src P 1 t (.slice (some ⟨w.heap.size, 0, none⟩) 6 6) 6 (B8 [a, b, c, d, x, y]) (w.alloc (.cells #[.int .u8 a, .int .u8 b, .int .u8 c, .int .u8 d, .int .u8 x, .int .u8 y] 5)).drew :=
  (RdS.new w [a, b, c, d, x, y] 6 rfl (by decide)).drew.src ht
theorem srcStr2 {P : Program} (w : World) {tx : TypeId} (hk : P.underlying tx = some .string) (a b : UInt8) : Src P 1 tx (.string ⟨#[a, b]⟩) 2 (B8 [(a.toNat : Int), (b.toNat : Int)]) w := srcString w hk ⟨#[a, b]⟩

theorem and15 (c : Nat) (h : c < 32) : bits BinOp.and IntKind.u8 (c : Int) 15 = (c : Int) % 16 := by
  have : ∀ c : Fin 32, bits BinOp.and IntKind.u8 ((c.val : Nat) : Int) 15 = ((c.val : Nat) : Int) % 16 := by decide
  exact this ⟨c, h⟩

theorem app_step {w wr w2 : World} {base : Nat} {ao a a2 : Option Addr} {n2 cap2 k : Nat} {zs news : List Int} {s : ByteArray} {o : Obj} (hk : k < s.size) (hesc : esc (s[k].toNat : Int) = news)
    (hown : OwnS w2 base a2 n2 cap2 (zs ++ [34] ++ escs ((bytesOf s).take k) ++ news)) (hmv : Moved w wr ao a) (hmv2 : Moved (wr.alloc o) w2 a a2) :
    OwnS w2 base a2 n2 cap2 (zs ++ [34] ++ escs ((bytesOf s).take (k + 1))) ∧ Moved w w2 ao a2 := by
  refine ⟨?_, (hmv.alloc o).trans hmv2⟩
  rw [bytesOf_take s k hk, escs_snoc, hesc, ← List.append_assoc]
  exact hown
theorem app_stepd {w wr w2 : World} {base : Nat} {ao a a2 : Option Addr} {n2 cap2 k : Nat} {zs news : List Int} {s : ByteArray} {o : Obj} (hk : k < s.size) (hesc : esc (s[k].toNat : Int) = news)
    (hown : OwnS w2 base a2 n2 cap2 (zs ++ [34] ++ escs ((bytesOf s).take k) ++ news)) (hmv : Moved w wr ao a) (hmv2 : Moved (wr.alloc o).drew w2 a a2) :
    OwnS w2 base a2 n2 cap2 (zs ++ [34] ++ escs ((bytesOf s).take (k + 1))) ∧ Moved w w2 ao a2 := by
  refine ⟨?_, ((hmv.alloc o).drew).trans hmv2⟩
  rw [bytesOf_take s k hk, escs_snoc, hesc, ← List.append_assoc]
  exact hown
def HEX : ByteArray := ⟨#[48, 49, 50, 51, 52, 53, 54, 55, 56, 57, 97, 98, 99, 100, 101, 102]⟩
theorem HEX_size : HEX.size = 16 := rfl
theorem hex_at (x : Nat) (h : x < HEX.size) : hexd (x : Int) = ((HEX[x]'h).toNat : Int) := by
  have : ∀ x : Fin 16, hexd (x.val : Int) = ((HEX[x.val]'x.isLt).toNat : Int) := by decide
  exact this ⟨x, h⟩
theorem hex_pair (c : Int) (h1 : 0 ≤ c / 16) (h2 : c / 16 < 16) (h3 : 0 ≤ c % 16) (_h4 : c % 16 < 16) :
    [92, 117, 48, 48, hexd (c / 16), hexd (c % 16)] = [92, 117, 48, 48, ((HEX[(c / 16).toNat]'(by rw [HEX_size]; omega)).toNat : Int), ((HEX[(c % 16).toNat]'(by rw [HEX_size]; omega)).toNat : Int)] := by
  have e1 := hex_at (c / 16).toNat (by rw [HEX_size]; omega)
  have e2 := hex_at (c % 16).toNat (by rw [HEX_size]; omega)
  rw [Int.toNat_of_nonneg h1] at e1
  rw [Int.toNat_of_nonneg h3] at e2
  rw [e1, e2]

theorem app_step0 {w wr w2 : World} {base : Nat} {ao a a2 : Option Addr} {n2 cap2 k : Nat} {zs news : List Int} {s : ByteArray} (hk : k < s.size) (hesc : esc (s[k].toNat : Int) = news)
    (hown : OwnS w2 base a2 n2 cap2 (zs ++ [34] ++ escs ((bytesOf s).take k) ++ news)) (hmv : Moved w wr ao a) (hmv2 : Moved wr w2 a a2) :
    OwnS w2 base a2 n2 cap2 (zs ++ [34] ++ escs ((bytesOf s).take (k + 1))) ∧ Moved w w2 ao a2 := by
  refine ⟨?_, hmv.trans hmv2⟩
  rw [bytesOf_take s k hk, escs_snoc, hesc, ← List.append_assoc]
  exact hown

set_option maxHeartbeats 1000000 in
theorem app_any (ao : Option Addr) (n cap : Nat) (zs : List Int) (s : ByteArray) (w : World) (base : Nat) (h : OwnS w base ao n cap zs) (hbase : base ≤ w.heap.size) (hn : n ≤ 1099511627776) (hs : s.size ≤ 1099511627776) :
    Calls Try.prog 14 #[.slice ao n cap, .string s] w fun e w' => ∃ a' n' cap', e = .returned (.slice a' n' cap') ∧ OwnS w' base a' n' cap' (zs ++ enc (bytesOf s)) ∧ Moved w w' ao a' := by
  obtain ⟨i0, hi, hz0, hz1, hz2⟩ := info_parts info5
  have hzl : Hid (zs.length = n) := h.len
  go_enter Try.func14, Try.ntmps14
  go_wp2_with (at_builtin; refine wpList_append_b8 _ rfl (.tmp 7) (.tmp 8) 22 22 rfl base i0 Try.underlying22 hi hz0 hz1 hz2 ao n cap zs rfl (h.alloc _) _ 1 [34] rfl (src1 w Try.underlying22 34) (by omega) (by simp; omega) ?_; intro a1 n1 cap1 w1 hn1 hown1 hmv1)
  go_loopw [0, 5] (fun o i wr => ∃ k a n cap, k ≤ s.size ∧ i = .int .i64 k ∧ o = .slice a n cap ∧ OwnS wr base a n cap (zs ++ [34] ++ escs ((bytesOf s).take k)) ∧ Moved w wr ao a) (fun _ i _ => s.size - (intOf i).toNat)
  case atStart => exact ⟨0, a1, n1, cap1, Nat.zero_le _, rfl, rfl, by simpa [escs] using hown1, ((Moved.refl w ao).alloc _).trans hmv1⟩
  case round =>
    clear hn1 hown1 hmv1
    obtain ⟨k, a, m, c, hk, rfl, rfl, hown, hmv⟩ := hrel
    have hbr : base ≤ wr.heap.size := Nat.le_trans hbase hmv.grown.size
    have hm : m ≤ 10000000000000 := by
      have e := hown.len
      have e1 := hzl.out
      have e2 := (escs_len ((bytesOf s).take k)).2.1
      have e3 := bytesOf_length s
      simp only [List.length_append, List.length_take, List.length_cons, List.length_nil] at e e2
      omega
    by_cases hlt : k < s.size
    · have hcb : (s[k].toNat : Int) ≤ 255 := by have := s[k].toNat_lt; omega
      have hc0 : (0 : Int) ≤ (s[k].toNat : Int) := by omega
      by_cases q34 : (s[k].toNat : Int) = 34 ∨ (s[k].toNat : Int) = 92
      · have HE : Hid (esc (s[k].toNat : Int) = [92, (s[k].toNat : Int)]) := by unfold Hid esc; rw [if_pos q34]
        rcases (show ((34 : Int) ≤ (s[k].toNat : Int) ∧ (s[k].toNat : Int) ≤ 34) ∨ ((92 : Int) ≤ (s[k].toNat : Int) ∧ (s[k].toNat : Int) ≤ 92) from by omega) with ⟨g1, g2⟩ | ⟨g1, g2⟩
        all_goals
          clear q34
          go_wp2_with (at_builtin; refine wpList_append_b8 _ rfl (.tmp 38) (.tmp 40) 22 22 rfl base i0 Try.underlying22 hi hz0 hz1 hz2 a m c _ rfl (hown.alloc _) _ 2 [92, (s[k].toNat : Int)] rfl (src2 wr Try.underlying22 92 _) (by omega) (by simp; omega) ?_; intro a2 n2 cap2 w2 hn2 hown2 hmv2)
          have R := app_step hlt HE.out hown2 hmv hmv2
          go_roundw
          case rel => exact ⟨k + 1, a2, n2, cap2, by omega, by go_num, rfl, R.1, R.2⟩
          case measure => simp [intOf]; omega
      · by_cases q8 : (s[k].toNat : Int) = 8
        · have HE : Hid (esc (s[k].toNat : Int) = [92, 98]) := by unfold Hid esc; simp [q8]
          have g1 : (8 : Int) ≤ (s[k].toNat : Int) := by omega
          have g2 : (s[k].toNat : Int) ≤ 8 := by omega
          clear q34 q8
          go_wp2_with (at_builtin; refine wpList_append_b8 _ rfl (.tmp 44) (.const (.string ⟨#[92, 98]⟩)) 22 9 rfl base i0 Try.underlying22 hi hz0 hz1 hz2 a m c _ rfl hown _ 2 [92, 98] rfl (srcStr2 wr Try.underlying9 92 98) (by omega) hbr ?_; intro a2 n2 cap2 w2 hn2 hown2 hmv2)
          have R := app_step0 hlt HE.out hown2 hmv hmv2
          go_roundw
          case rel => exact ⟨k + 1, a2, n2, cap2, by omega, by go_num, rfl, R.1, R.2⟩
          case measure => simp [intOf]; omega
        by_cases q12 : (s[k].toNat : Int) = 12
        · have HE : Hid (esc (s[k].toNat : Int) = [92, 102]) := by unfold Hid esc; simp [q12]
          have g1 : (12 : Int) ≤ (s[k].toNat : Int) := by omega
          have g2 : (s[k].toNat : Int) ≤ 12 := by omega
          clear q34 q12
          go_wp2_with (at_builtin; refine wpList_append_b8 _ rfl (.tmp 48) (.const (.string ⟨#[92, 102]⟩)) 22 9 rfl base i0 Try.underlying22 hi hz0 hz1 hz2 a m c _ rfl hown _ 2 [92, 102] rfl (srcStr2 wr Try.underlying9 92 102) (by omega) hbr ?_; intro a2 n2 cap2 w2 hn2 hown2 hmv2)
          have R := app_step0 hlt HE.out hown2 hmv hmv2
          go_roundw
          case rel => exact ⟨k + 1, a2, n2, cap2, by omega, by go_num, rfl, R.1, R.2⟩
          case measure => simp [intOf]; omega
        by_cases q10 : (s[k].toNat : Int) = 10
        · have HE : Hid (esc (s[k].toNat : Int) = [92, 110]) := by unfold Hid esc; simp [q10]
          have g1 : (10 : Int) ≤ (s[k].toNat : Int) := by omega
          have g2 : (s[k].toNat : Int) ≤ 10 := by omega
          clear q34 q10
          go_wp2_with (at_builtin; refine wpList_append_b8 _ rfl (.tmp 52) (.const (.string ⟨#[92, 110]⟩)) 22 9 rfl base i0 Try.underlying22 hi hz0 hz1 hz2 a m c _ rfl hown _ 2 [92, 110] rfl (srcStr2 wr Try.underlying9 92 110) (by omega) hbr ?_; intro a2 n2 cap2 w2 hn2 hown2 hmv2)
          have R := app_step0 hlt HE.out hown2 hmv hmv2
          go_roundw
          case rel => exact ⟨k + 1, a2, n2, cap2, by omega, by go_num, rfl, R.1, R.2⟩
          case measure => simp [intOf]; omega
        by_cases q13 : (s[k].toNat : Int) = 13
        · have HE : Hid (esc (s[k].toNat : Int) = [92, 114]) := by unfold Hid esc; simp [q13]
          have g1 : (13 : Int) ≤ (s[k].toNat : Int) := by omega
          have g2 : (s[k].toNat : Int) ≤ 13 := by omega
          clear q34 q13
          go_wp2_with (at_builtin; refine wpList_append_b8 _ rfl (.tmp 56) (.const (.string ⟨#[92, 114]⟩)) 22 9 rfl base i0 Try.underlying22 hi hz0 hz1 hz2 a m c _ rfl hown _ 2 [92, 114] rfl (srcStr2 wr Try.underlying9 92 114) (by omega) hbr ?_; intro a2 n2 cap2 w2 hn2 hown2 hmv2)
          have R := app_step0 hlt HE.out hown2 hmv hmv2
          go_roundw
          case rel => exact ⟨k + 1, a2, n2, cap2, by omega, by go_num, rfl, R.1, R.2⟩
          case measure => simp [intOf]; omega
        by_cases q9 : (s[k].toNat : Int) = 9
        · have HE : Hid (esc (s[k].toNat : Int) = [92, 116]) := by unfold Hid esc; simp [q9]
          have g1 : (9 : Int) ≤ (s[k].toNat : Int) := by omega
          have g2 : (s[k].toNat : Int) ≤ 9 := by omega
          clear q34 q9
          go_wp2_with (at_builtin; refine wpList_append_b8 _ rfl (.tmp 60) (.const (.string ⟨#[92, 116]⟩)) 22 9 rfl base i0 Try.underlying22 hi hz0 hz1 hz2 a m c _ rfl hown _ 2 [92, 116] rfl (srcStr2 wr Try.underlying9 92 116) (by omega) hbr ?_; intro a2 n2 cap2 w2 hn2 hown2 hmv2)
          have R := app_step0 hlt HE.out hown2 hmv hmv2
          go_roundw
          case rel => exact ⟨k + 1, a2, n2, cap2, by omega, by go_num, rfl, R.1, R.2⟩
          case measure => simp [intOf]; omega
        by_cases q32 : (32 : Int) ≤ (s[k].toNat : Int)
        · have HE : Hid (esc (s[k].toNat : Int) = [(s[k].toNat : Int)]) := by
            unfold Hid esc
            rw [if_neg q34, if_neg q8, if_neg q12, if_neg q10, if_neg q13, if_neg q9, if_neg (by omega)]
          have e1 : ((s[k].toNat : Int) == 34) = false := beq_eq_false_iff_ne.2 (by omega)
          have e2 : ((s[k].toNat : Int) == 92) = false := beq_eq_false_iff_ne.2 (by omega)
          clear q34 q8 q12 q10 q13 q9
          go_wp2_with (at_builtin; refine wpList_append_b8 _ rfl (.tmp 31) (.tmp 33) 22 22 rfl base i0 Try.underlying22 hi hz0 hz1 hz2 a m c _ rfl (hown.alloc _) _ 1 [(s[k].toNat : Int)] rfl (src1 wr Try.underlying22 _) (by omega) (by simp; omega) ?_; intro a2 n2 cap2 w2 hn2 hown2 hmv2)
          have R := app_step hlt HE.out hown2 hmv hmv2
          go_roundw
          case rel => exact ⟨k + 1, a2, n2, cap2, by omega, by go_num, rfl, R.1, R.2⟩
          case measure => simp [intOf]; omega
        · have HE : Hid (esc (s[k].toNat : Int) = [92, 117, 48, 48, hexd ((s[k].toNat : Int) / 16), hexd ((s[k].toNat : Int) % 16)]) := by
            unfold Hid esc
            rw [if_neg q34, if_neg q8, if_neg q12, if_neg q10, if_neg q13, if_neg q9, if_pos (by omega)]
          have e1 : ((s[k].toNat : Int) == 34) = false := beq_eq_false_iff_ne.2 (by omega)
          have e2 : ((s[k].toNat : Int) == 92) = false := beq_eq_false_iff_ne.2 (by omega)
          have e3 : ((s[k].toNat : Int) == 8) = false := beq_eq_false_iff_ne.2 (by omega)
          have e4 : ((s[k].toNat : Int) == 12) = false := beq_eq_false_iff_ne.2 (by omega)
          have e5 : ((s[k].toNat : Int) == 10) = false := beq_eq_false_iff_ne.2 (by omega)
          have e6 : ((s[k].toNat : Int) == 13) = false := beq_eq_false_iff_ne.2 (by omega)
          have e7 : ((s[k].toNat : Int) == 9) = false := beq_eq_false_iff_ne.2 (by omega)
          have q32' : (s[k].toNat : Int) < 32 := by omega
          have i1 : (0 : Int) ≤ (s[k].toNat : Int) / 16 := by omega
          have i2 : (s[k].toNat : Int) / 16 < 16 := by omega
          have i3 : (0 : Int) ≤ (s[k].toNat : Int) % 16 := by omega
          have i4 : (s[k].toNat : Int) % 16 < 16 := by omega
          have i5 := and15 s[k].toNat (by omega)
          clear q34 q8 q12 q10 q13 q9 q32
          go_wp2_with fail
          go_region_law (refine step_append_b8 _ (by rfl) (.tmp 22) (.tmp 29) 22 22 (by rfl) base i0 Try.underlying22 hi hz0 hz1 hz2 a m c (zs ++ [34] ++ escs ((bytesOf s).take k)) (by rfl) (OwnS.drew (hown.alloc _)) (.slice (some ⟨wr.heap.size, 0, none⟩) 6 6) 6 [_, _, _, _, _, _] (by rfl) (src6d wr Try.underlying22 _ _ _ _ _ _) (by omega) (by simp; omega) ?_; intro a2 n2 cap2 w2 hn2 hown2 hmv2)
          all_goals
            have R := app_stepd hlt (HE.out.trans (hex_pair _ i1 i2 i3 i4)) hown2 hmv hmv2
            go_wp2
            go_roundw
            case rel => exact ⟨k + 1, a2, n2, cap2, by omega, by go_num, rfl, R.1, R.2⟩
            case measure => simp [intOf]; omega
    · obtain rfl : k = s.size := by omega
      go_wp2_with (at_builtin; refine wpList_append_b8 _ rfl (.tmp 62) (.tmp 63) 22 22 rfl base i0 Try.underlying22 hi hz0 hz1 hz2 a m c _ rfl (hown.alloc _) _ 1 [34] rfl (src1 wr Try.underlying22 34) (by omega) (by simp; omega) ?_; intro a2 n2 cap2 w2 hn2 hown2 hmv2)
      go_ret
      refine ⟨a2, n2, cap2, rfl, ?_, (hmv.alloc _).trans hmv2⟩
      rw [List.take_of_length_le (by rw [bytesOf_length]; exact Nat.le_refl _)] at hown2
      simpa [enc] using hown2
set_option maxHeartbeats 400000 in
theorem zzapp_any (ao : Option Addr) (n cap : Nat) (zs : List Int) (s : ByteArray) (w : World) (base : Nat) (h : OwnS w base ao n cap zs) (hbase : base ≤ w.heap.size) (hn : n ≤ 1099511627776) (hs : s.size ≤ 1099511627776) :
    Calls Try.prog 8 #[.slice ao n cap, .string s] w fun e w' => ∃ a' n' cap', e = .returned (.slice a' n' cap') ∧ OwnS w' base a' n' cap' (zs ++ enc (bytesOf s)) ∧ Moved w w' ao a' := by
  go_enter Try.func8, Try.ntmps8
  go_wp2_with (go_at_call 14; refine (app_any ao n cap zs s w base h hbase hn hs).mono ?_; rintro e w' ⟨a', n', cap', rfl, ho, hm⟩)
  go_ret
  exact ⟨a', n', cap', rfl, ho, hm⟩
end Go.Proofs.Qxb6001102a
