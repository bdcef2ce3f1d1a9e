import Derived.Test.Qxb6002387aChecked
import Derived.Test.Qxb6002387aKit
import Derived.WalkSpells
import Derived.WalkLawsBesides
import Derived.OpenShut
import Derived.Handy
namespace Go.Proofs.Qxb6002387a
open Go.RowKit
set_option linter.unusedVariables false

theorem info5 : (Try.prog.info? 5).map (fun i => (i.zero, i.size, i.bytes)) = some (some (.int .u8 0), 1, 1) := by kernel_rfl

theorem and127_32 (x : Int) (h0 : 0 ≤ x) (h1 : x < 4294967296) : bits BinOp.and IntKind.u32 x 127 = x % 128 := by
  obtain ⟨a, rfl⟩ : ∃ a : Nat, x = (a : Int) := ⟨x.toNat, by omega⟩
  have e := u32_and (a : Int) 127 h0 h1 (by omega) (by omega)
  rw [e, Int.toNat_natCast, show (127 : Int).toNat = 2 ^ 7 - 1 from rfl, Nat.and_two_pow_sub_one_eq_mod]
  omega
theorem or128_8 (x : Int) (h0 : 0 ≤ x) (h1 : x < 128) : bits BinOp.or IntKind.u8 x 128 = x + 128 := u8_or128_right x h0 h1
theorem or_low (f x : Int) (f0 : 0 ≤ f) (f1 : f < 256) (h : f % 32 = 0) (h0 : 0 ≤ x) (h1 : x < 32) : bits BinOp.or IntKind.u8 f x = f + x := by
  obtain ⟨a, rfl⟩ : ∃ a : Nat, f = 32 * (a : Int) := ⟨(f / 32).toNat, by omega⟩
  obtain ⟨b, rfl⟩ : ∃ b : Nat, x = (b : Int) := ⟨x.toNat, by omega⟩
  have e := u8_or (32 * (a : Int)) (b : Int) (by omega) (by omega) (by omega) (by omega)
  rw [e, show (32 * (a : Int)).toNat = 2 ^ 5 * a from by omega, Int.toNat_natCast, ← Nat.two_pow_add_eq_or_of_lt (by omega : b < 2 ^ 5) a]
  omega

theorem or_32 (f : Int) (f0 : 0 ≤ f) (f1 : f < 256) (h : f % 64 = 0) : bits BinOp.or IntKind.u8 f 32 = f + 32 := by
  obtain ⟨a, rfl⟩ : ∃ a : Nat, f = 64 * (a : Int) := ⟨(f / 64).toNat, by omega⟩
  have e := u8_or (64 * (a : Int)) 32 (by omega) (by omega) (by omega) (by omega)
  rw [e, show (64 * (a : Int)).toNat = 2 ^ 6 * a from by omega, show (32 : Int).toNat = 32 from rfl, ← Nat.two_pow_add_eq_or_of_lt (by omega : 32 < 2 ^ 6) a]
  omega

theorem src1 {P : Program} (w : World) {t e : TypeId} (ht : P.underlying t = some (.slice e)) (a : Int) : Src P 1 t (.slice (some ⟨w.heap.size, 0, none⟩) 1 1) 1 (B8 [a]) (w.alloc (.cells #[.int .u8 a] 5)) :=
  (RdS.new w [a] 1 rfl (by decide)).src ht
theorem src1g {P : Program} (w : World) (g : Nat) (hg : w.heap.size = g) {t e : TypeId} (ht : P.underlying t = some (.slice e)) (a : Int) : Src P 1 t (.slice (some ⟨g, 0, none⟩) 1 1) 1 (B8 [a]) (w.alloc (.cells #[.int .u8 a] 5)) := by
  subst hg
  exact src1 w ht a
theorem src1d {P : Program} (w : World) {t e : TypeId} (ht : P.underlying t = some (.slice e)) (a : Int) : Src P 1 t (.slice (some ⟨w.heap.size, 0, none⟩) 1 1) 1 (B8 [a]) (w.alloc (.cells #[.int .u8 a] 5)).drew :=
  (RdS.new w [a] 1 rfl (by decide)).drew.src ht

/-- A cut of an array that the call has just laid. -/
theorem RdS.arr (w : World) (cs : Array Value) (t : TypeId) (g i m : Nat) (zs : List Int) (hg : w.heap.size = g) (hz : zs.length = m) (hm : m ≤ 100) (h : ∀ j, j < m → cs[i + j]? = some (.int .u8 (zs.getD j 0))) :
    RdS (w.alloc (.cells cs t)) (some ⟨g, i, none⟩) m m zs := by
  subst hg
  refine ⟨hz, Nat.le_refl _, by unfold maxLen; omega, fun e => (by cases e), fun _ => ⟨w.heap.size, i, rfl, by simp, fun j hj => ?_⟩⟩
  rw [World.cell?_alloc_new]
  exact h j hj

theorem RdS.moved {W w1 : World} {a ao a1 : Option Addr} {m c : Nat} {zs : List Int} {o : Obj} (h : RdS W a m c zs) (hm : Moved (W.alloc o).drew w1 ao a1) (hne : blk a ≠ blk ao) : RdS w1 a m c zs :=
  ((h.alloc o).drew).kept hm.grown (.inr hne)

theorem blk_old {w : World} {B : Nat} {ao : Option Addr} {n cap : Nat} {zs : List Int} (h : OwnS w B ao n cap zs) {g i : Nat} (hg : w.heap.size ≤ g) : blk (some ⟨g, i, none⟩) ≠ blk ao := by
  intro e
  have := (h.lt (g := g) e.symm).2
  omega

/-- The first octet's upper bits. -/
def tagF (cl : Int) (cons : Bool) : Int := cl * 64 % 256 + (if cons then 32 else 0)

/-- The number's digits. -/
def b128 (x : Int) : List Int :=
  if x < 128 then [x % 128]
  else if x < 16384 then [x / 128 % 128 + 128, x % 128]
  else if x < 2097152 then [x / 128 / 128 % 128 + 128, x / 128 % 128 + 128, x % 128]
  else if x < 268435456 then [x / 128 / 128 / 128 % 128 + 128, x / 128 / 128 % 128 + 128, x / 128 % 128 + 128, x % 128]
  else [x / 128 / 128 / 128 / 128 % 128 + 128, x / 128 / 128 / 128 % 128 + 128, x / 128 / 128 % 128 + 128, x / 128 % 128 + 128, x % 128]

def tagB (cl : Int) (cons : Bool) (num : Int) : List Int := if num < 31 then [tagF cl cons + num] else (tagF cl cons + 31) :: b128 num

set_option maxHeartbeats 1000000 in
theorem tag_low (ao : Option Addr) (n cap : Nat) (zs : List Int) (B : Nat) (w : World) (h : OwnS w B ao n cap zs) (hB : B ≤ w.heap.size) (hn : n ≤ 1099511627776) (cl : Int) (cons : Bool) (num : Int) (c0 : 0 ≤ cl) (c1 : cl ≤ 255) (n0 : 0 ≤ num) (n1 : num < 31) :
    Calls Try.prog 15 #[.slice ao n cap, .agg #[.int .u8 cl, .bool cons, .int .u32 num]] w fun e w' => ∃ a' n' c', e = .returned (.slice a' n' c') ∧ OwnS w' B a' n' c' (zs ++ tagB cl cons num) ∧ Moved w w' ao a' := by
  obtain ⟨i0, hi, hz0, hz1, hz2⟩ := info_parts info5
  have g1 := or_low (cl * 64 % 256) num (by omega) (by omega) (by omega) n0 (by omega)
  have g2 := or_low (cl * 64 % 256 + 32) num (by omega) (by omega) (by omega) n0 (by omega)
  have g3 : bits BinOp.or IntKind.u8 (cl * 64 % 256) 32 = cl * 64 % 256 + 32 := or_32 (cl * 64 % 256) (by omega) (by omega) (by omega)
  unfold tagB tagF
  rw [if_pos n1]
  cases cons
  · go_enter Try.func15, Try.ntmps15
    go_wp2_with (at_builtin; refine wpList_append_b8 _ rfl (.tmp 19) (.tmp 25) 23 23 rfl B i0 Try.underlying23 hi hz0 hz1 hz2 ao n cap zs rfl ((h.alloc _).alloc _) _ 1 [cl * 64 % 256 + num] rfl (src1g (w.alloc (.cells #[.int .u8 cl, .bool false, .int .u32 num] 27)) (w.heap.size + 1) (by simp) Try.underlying23 _) (by omega) (by simp; omega) ?_; intro a1 m1 d1 w1 hn1 ho1 hm1)
    go_ret
    refine ⟨a1, m1, d1, rfl, ?_, (((Moved.refl w ao).alloc _).alloc _).trans hm1⟩
    simpa using ho1
  · go_enter Try.func15, Try.ntmps15
    go_wp2_with (at_builtin; refine wpList_append_b8 _ rfl (.tmp 19) (.tmp 25) 23 23 rfl B i0 Try.underlying23 hi hz0 hz1 hz2 ao n cap zs rfl ((h.alloc _).alloc _) _ 1 [cl * 64 % 256 + 32 + num] rfl (src1g (w.alloc (.cells #[.int .u8 cl, .bool true, .int .u32 num] 27)) (w.heap.size + 1) (by simp) Try.underlying23 _) (by omega) (by simp; omega) ?_; intro a1 m1 d1 w1 hn1 ho1 hm1)
    go_ret
    refine ⟨a1, m1, d1, rfl, ?_, (((Moved.refl w ao).alloc _).alloc _).trans hm1⟩
    simpa using ho1
end Go.Proofs.Qxb6002387a
