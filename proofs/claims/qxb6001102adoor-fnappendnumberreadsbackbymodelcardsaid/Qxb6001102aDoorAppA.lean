import Derived.Test.Qxb6001102aDoorDig
import Derived.Test.Qxb6001102aDoorClone
import Derived.Test.Qxb6001102aDoorEq
import Derived.Test.Qxb6001102aDoorShelf
namespace Go.Proofs.Qxb6001102aDoor
open Go.RowKit

theorem OwnS.base {w : World} {B B' : Nat} {a : Option Addr} {n cap : Nat} {zs : List Int} (h : OwnS w B a n cap zs) (hb : B' ≤ B) : OwnS w B' a n cap zs := by
  refine ⟨h.len, h.own.1, ?_⟩
  rcases h.own.2 with h0 | ⟨g, cap', cur, hv, hg, r⟩
  · exact .inl h0
  · exact .inr ⟨g, cap', cur, hv, by omega, r⟩

theorem OwnS.blk_ge {w : World} {B : Nat} {a : Option Addr} {n cap : Nat} {zs : List Int} (h : OwnS w B a n cap zs) : ∀ g, blk a = some g → B ≤ g := fun _ e => (h.lt e).1

theorem OwnS.below {w w' : World} {B : Nat} {a : Option Addr} {n cap : Nat} {zs : List Int} (h : OwnS w B a n cap zs) (hg : w.grownBy w' none) : OwnS w' B a n cap zs := h.kept hg (by cases hx : blk a <;> simp)

def zeroS (c : Nat) : ByteArray := ⟨(Lib.repeatL [48] c).toArray⟩
theorem bytes_repeat (c : Nat) : bytesOf (zeroS c) = List.replicate c 48 := by
  unfold zeroS
  induction c with
  | zero => rfl
  | succ c ih =>
    have : bytesOf ⟨(Lib.repeatL [48] (c + 1)).toArray⟩ = 48 :: bytesOf ⟨(Lib.repeatL [48] c).toArray⟩ := by
      simp [bytesOf, Lib.repeatL]
    rw [this, ih, List.replicate_succ]
theorem size_repeat (c : Nat) : (zeroS c).size = c := by
  rw [← bytesOf_length, bytes_repeat]
  simp

/-- The source: a string of zeros. -/
theorem src_zeros {P : Program} (w : World) {tx : TypeId} (hk : P.underlying tx = some .string) (c : Nat) : Src P 1 tx (.string (zeroS c)) c (B8 (List.replicate c 48)) w := by
  have := srcString w hk (zeroS c)
  rwa [bytes_repeat, size_repeat] at this

theorem rep0 (c : Nat) (w : World) (hc : c ≤ 1048576) : Calls Tryd.prog 27 #[.string ⟨#[48]⟩, .int .i64 c] w fun e w' => e = .returned (.string (zeroS c)) ∧ w.grownBy w' none := by
  refine (Tryd.strings_Repeat ⟨#[48]⟩ c w (by omega) (by show 1 * c ≤ _; omega)).mono ?_
  rintro e w' ⟨rfl, hb⟩
  exact ⟨rfl, grown_of_below hb⟩

def itoaI (i : Int) : List Int := (Lib.itoa i).map fun b => (b.toNat : Int)
theorem byteCells_itoa (i : Int) : Lib.byteCells (Lib.itoa i) = B8 (itoaI i) := by simp [Lib.byteCells, B8, itoaI]

theorem OwnS.of_value {w : World} {B n : Nat} {v : Value} {zs : List Int} (hl : zs.length = n) (h : w.ownsRow B 5 1 v n (B8 zs)) : ∃ a c, v = .slice a n c ∧ OwnS w B a n c zs := by
  rcases h.2 with ⟨rfl, rfl⟩ | ⟨g, cap, cur, rfl, r⟩
  · exact ⟨none, 0, rfl, hl, h⟩
  · exact ⟨_, cap, rfl, hl, h⟩

theorem appint (B : Nat) (a : Option Addr) (n c : Nat) (zs : List Int) (i : Int) (h0 : -1000000000 ≤ i) (h1 : i ≤ 1000000000) (w : World) (hown : OwnS w B a n c zs) (hB : B ≤ w.heap.size) (hn : n ≤ 100000000)
    (htab : Lib.TabBelow Tryd.prog B w Tryd.powN .u64 Lib.pow10Tab) :
    Calls Tryd.prog 28 #[.slice a n c, .int .i64 i, .int .i64 10] w fun e w' => ∃ a' n' c', e = .returned (.slice a' n' c') ∧ OwnS w' B a' n' c' (zs ++ itoaI i) ∧ Below B w w' := by
  refine (Tryd.strconv_AppendInt_10 B n i (by omega) (by omega) _ _ w hown.own hB (by omega) htab).mono ?_
  rintro e w' ⟨v', rfl, ho, hb, _⟩
  rw [byteCells_itoa, ← B8_append] at ho
  obtain ⟨a', c', rfl, ho'⟩ := OwnS.of_value (by rw [List.length_append, hown.len]; simp [itoaI]) ho
  exact ⟨a', _, c', rfl, ho', hb⟩

theorem tab_mono {B B' : Nat} {w : World} {name : String} {k : IntKind} {zs : List Int} (h : Lib.TabBelow Tryd.prog B w name k zs) (hb : B ≤ B') : Lib.TabBelow Tryd.prog B' w name k zs := fun w' hw => h w' (hw.mono hb)

set_option maxRecDepth 100000 in
set_option maxHeartbeats 1000000 in
theorem app_case1 (ao : Option Addr) (n : Nat) (zs : List Int) (ad : Option Addr) (k cd : Nat) (s : List Int) (c : Nat) (w : World) (hrd : RdS w ao n n zs) (hs : RdS w ad k cd s)
    (hk1 : 1 ≤ k) (hn : n ≤ 1048576) (hc : k + c ≤ 21) :
    Calls Tryd.prog 22 #[.slice ao n n, .agg #[.slice ad k cd, .int .i64 ((k : Int) + (c : Int))]] w fun e w' => ∃ a' n' c', e = .returned (.slice a' n' c') ∧ OwnS w' w.heap.size a' n' c' (zs ++ s ++ List.replicate c 48) ∧ w.grownBy w' none := by
  obtain ⟨i0, hi, hz0, hz1, hz2⟩ := info_parts info5
  go_enter Tryd.func22, Tryd.ntmps22
  have q1 : decide ((k : Int) ≤ (k : Int) + (c : Int)) = true := decide_eq_true (by omega)
  have q2 : decide ((k : Int) + (c : Int) ≤ 21) = true := decide_eq_true (by omega)
  go_wp2
  go_quiet (fail)
  have g1 : w.grownBy ((w.alloc (.cells #[.slice ad k cd, .int .i64 ((k : Int) + (c : Int))] 46)).drewN nq) none := (World.grownBy_alloc _ _ _).trans (grownBy_drewN _ _)
  generalize ((w.alloc (.cells #[.slice ad k cd, .int .i64 ((k : Int) + (c : Int))] 46)).drewN nq) = W at g1 ⊢
  have r0 := hrd.onward g1
  have rs := hs.onward g1
  go_wp2_with (at_builtin; refine wpList_append_new _ rfl (.tmp 23) (.tmp 24) 22 22 rfl i0 Tryd.underlying22 hi hz0 hz1 hz2 ao n n zs rfl r0 _ k s rfl (rs.src Tryd.underlying22) (by omega) (by omega) ?_; intro a1 n1 c1 w1 hn1 ho1 hg1)
  rw [show ((k : Int) + (c : Int) - (k : Int)) = (c : Int) from by omega]
  refine (rep0 c w1 (by omega)).mono ?_
  rintro e w2 ⟨rfl, hg2⟩
  have ho2 := ho1.below hg2
  have hb1 : n1 ≤ 2000000 := by have := hn1.out; omega
  have hsz : W.heap.size ≤ w2.heap.size := Nat.le_trans hg1.size hg2.size
  go_wp2_with (at_builtin; refine wpList_append_b8 _ rfl (.tmp 26) (.tmp 30) 22 9 rfl W.heap.size i0 Tryd.underlying22 hi hz0 hz1 hz2 a1 n1 c1 _ rfl ho2 _ c (List.replicate c 48) rfl (src_zeros w2 Tryd.underlying9 c) (by omega) hsz ?_; intro a3 n3 c3 w3 hn3 ho3 hm3)
  go_ret
  have G := grown_new (hg1.trans hg2) hm3 ho2.blk_ge
  exact ⟨a3, n3, c3, rfl, ho3.base g1.size, g1.trans G.1⟩

set_option maxRecDepth 100000 in
set_option maxHeartbeats 1000000 in
theorem app_case2 (ao : Option Addr) (n : Nat) (zs : List Int) (ad : Option Addr) (k cd : Nat) (s : List Int) (m : Nat) (w : World) (hrd : RdS w ao n n zs) (hs : RdS w ad k cd s)
    (hk : k ≤ 1048576) (hn : n ≤ 1048576) (hm0 : 0 < m) (hm1 : m < k) (hm2 : m ≤ 21) :
    Calls Tryd.prog 22 #[.slice ao n n, .agg #[.slice ad k cd, .int .i64 (m : Int)]] w fun e w' => ∃ a' n' c', e = .returned (.slice a' n' c') ∧ OwnS w' w.heap.size a' n' c' (zs ++ s.take m ++ [46] ++ s.drop m) ∧ w.grownBy w' none := by
  obtain ⟨i0, hi, hz0, hz1, hz2⟩ := info_parts info5
  have b1 := hs.le
  have b2 := hs.max
  unfold maxLen at b2
  obtain ⟨b, o, rfl, hb, hc⟩ := hs.pos (by omega)
  clear hc
  go_enter Tryd.func22, Tryd.ntmps22
  have q1 : decide ((k : Int) ≤ (m : Int)) = false := decide_eq_false (by omega)
  have q2 : decide ((0 : Int) < (m : Int)) = true := decide_eq_true (by omega)
  have q3 : decide ((m : Int) ≤ 21) = true := decide_eq_true (by omega)
  go_wp2
  go_quiet (fail)
  have g1 : w.grownBy ((w.alloc (.cells #[.slice (some ⟨b, o, none⟩) k cd, .int .i64 (m : Int)] 46)).drewN nq) none := (World.grownBy_alloc _ _ _).trans (grownBy_drewN _ _)
  generalize ((w.alloc (.cells #[.slice (some ⟨b, o, none⟩) k cd, .int .i64 (m : Int)] 46)).drewN nq) = W at g1 ⊢
  have r0 := hrd.onward g1
  have rs := hs.onward g1
  have s1 := rs.to m (by omega)
  go_wp2_with (first | (at_builtin; refine wpList_append_new _ rfl (.tmp 39) (.tmp 42) 22 22 rfl i0 Tryd.underlying22 hi hz0 hz1 hz2 ao n n zs rfl r0 _ m (s.take m) rfl (s1.src Tryd.underlying22) (by omega) (by omega) ?_; intro a1 n1 c1 w1 hn1 ho1 hg1; have hb1 : n1 ≤ 2000000 := (by have := hn1.out; omega); have hsz1 := hg1.size) | (at_builtin; refine wpList_append_b8 _ rfl (.tmp 44) (.tmp 45) 22 22 rfl W.heap.size i0 Tryd.underlying22 hi hz0 hz1 hz2 a1 n1 c1 _ rfl (ho1.alloc _) _ 1 [46] rfl (src1 w1 Tryd.underlying22 46) (by omega) (by simp; omega) ?_; intro a2 n2 c2 w2 hn2 ho2 hm2; have hb2 : n2 ≤ 2000001 := (by have := hn2.out; omega); have G2 := grown_new (hg1.trans (World.grownBy_alloc _ _ _)) hm2 ho1.blk_ge; have s2 := (rs.onward G2.1).from m (by omega)) | (at_builtin; refine wpList_append_b8 _ rfl (.tmp 47) (.tmp 50) 22 22 rfl W.heap.size i0 Tryd.underlying22 hi hz0 hz1 hz2 a2 n2 c2 _ rfl ho2 _ (k - m) (s.drop m) rfl (s2.src Tryd.underlying22) (by omega) G2.1.size ?_; intro a3 n3 c3 w3 hn3 ho3 hm3))
  go_ret
  have G := grown_new G2.1 hm3 ho2.blk_ge
  exact ⟨a3, n3, c3, rfl, ho3.base g1.size, g1.trans G.1⟩

set_option maxRecDepth 100000 in
set_option maxHeartbeats 1000000 in
theorem app_case3 (ao : Option Addr) (n : Nat) (zs : List Int) (ad : Option Addr) (k cd : Nat) (s : List Int) (c : Nat) (w : World) (hrd : RdS w ao n n zs) (hs : RdS w ad k cd s)
    (hk1 : 1 ≤ k) (hk : k ≤ 1048576) (hn : n ≤ 1048576) (hc : c ≤ 5) :
    Calls Tryd.prog 22 #[.slice ao n n, .agg #[.slice ad k cd, .int .i64 (-(c : Int))]] w fun e w' => ∃ a' n' c', e = .returned (.slice a' n' c') ∧ OwnS w' w.heap.size a' n' c' (zs ++ [48, 46] ++ List.replicate c 48 ++ s) ∧ w.grownBy w' none := by
  obtain ⟨i0, hi, hz0, hz1, hz2⟩ := info_parts info5
  go_enter Tryd.func22, Tryd.ntmps22
  have q1 : decide ((k : Int) ≤ -(c : Int)) = false := decide_eq_false (by omega)
  have q2 : decide ((0 : Int) < -(c : Int)) = false := decide_eq_false (by omega)
  have q3 : decide ((-6 : Int) < -(c : Int)) = true := decide_eq_true (by omega)
  have q4 : decide (-(c : Int) ≤ 0) = true := decide_eq_true (by omega)
  go_wp2
  go_quiet (fail)
  have g1 : w.grownBy ((w.alloc (.cells #[.slice ad k cd, .int .i64 (-(c : Int))] 46)).drewN nq) none := (World.grownBy_alloc _ _ _).trans (grownBy_drewN _ _)
  generalize ((w.alloc (.cells #[.slice ad k cd, .int .i64 (-(c : Int))] 46)).drewN nq) = W at g1 ⊢
  have r0 := hrd.onward g1
  have rs := hs.onward g1
  go_wp2_with (at_builtin; refine wpList_append_new _ rfl (.tmp 59) (.const (.string ⟨#[48, 46]⟩)) 22 9 rfl i0 Tryd.underlying22 hi hz0 hz1 hz2 ao n n zs rfl r0 _ 2 [48, 46] rfl (srcStr2 W Tryd.underlying9 48 46) (by omega) (by omega) ?_; intro a1 n1 c1 w1 hn1 ho1 hg1)
  refine (rep0 c w1 (by omega)).mono ?_
  rintro e w2 ⟨rfl, hg2⟩
  have ho2 := ho1.below hg2
  have hb1 : n1 ≤ 2000000 := by have := hn1.out; omega
  have hsz : W.heap.size ≤ w2.heap.size := Nat.le_trans hg1.size hg2.size
  go_wp2_with (first | (at_builtin; refine wpList_append_b8 _ rfl (.tmp 61) (.tmp 64) 22 9 rfl W.heap.size i0 Tryd.underlying22 hi hz0 hz1 hz2 a1 n1 c1 _ rfl ho2 _ c (List.replicate c 48) rfl (src_zeros w2 Tryd.underlying9 c) (by omega) hsz ?_; intro a3 n3 c3 w3 hn3 ho3 hm3; have G3 := grown_new (hg1.trans hg2) hm3 ho2.blk_ge; have s3 := rs.onward G3.1; have hb3 : n3 ≤ 2000100 := (by have := hn3.out; omega)) | (at_builtin; refine wpList_append_b8 _ rfl (.tmp 66) (.tmp 67) 22 22 rfl W.heap.size i0 Tryd.underlying22 hi hz0 hz1 hz2 a3 n3 c3 _ rfl ho3 _ k s rfl (s3.src Tryd.underlying22) (by omega) G3.1.size ?_; intro a4 n4 c4 w4 hn4 ho4 hm4))
  go_ret
  have G := grown_new G3.1 hm4 ho3.blk_ge
  exact ⟨a4, n4, c4, rfl, ho4.base g1.size, g1.trans G.1⟩

end Go.Proofs.Qxb6001102aDoor
