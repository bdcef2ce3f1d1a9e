import Derived.Test.Qxb6002387aTagH
import Derived.Test.Qxb6002387aLen
import Derived.Deep.RegionWith
import Derived.Deep.CutBlock
import Derived.Deep.DeepCutAuto
import Derived.Deep.DrawnRows
namespace Go.Proofs.Qxb6002387a
open Go.RowKit
set_option linter.unusedVariables false
attribute [local go_sem ↓] Go.wp_at_zero Go.wp_at_succ

/-- A piece of content. -/
structure Pc where
  a : Option Addr
  n : Nat
  c : Nat
  zs : List Int
def Pc.nil : Pc := ⟨none, 0, 0, []⟩
def Pc.val (p : Pc) : Value := .slice p.a p.n p.c

/-- The pieces lie in block g, and each reads as it should. -/
structure Pcs (w : World) (g : Nat) (ps : List Pc) : Prop where
  lt : g < w.heap.size
  cell : ∀ j, j < ps.length → w.cell? ⟨g, j, none⟩ = some (.slice (ps.getD j Pc.nil).a (ps.getD j Pc.nil).n (ps.getD j Pc.nil).c)
  rd : ∀ j, j < ps.length → RdS w (ps.getD j Pc.nil).a (ps.getD j Pc.nil).n (ps.getD j Pc.nil).c (ps.getD j Pc.nil).zs

def flat (ps : List Pc) : List Int := ps.flatMap (·.zs)
theorem flat_snoc (ps : List Pc) (k : Nat) (h : k < ps.length) : flat (ps.take (k + 1)) = flat (ps.take k) ++ (ps.getD k Pc.nil).zs := by
  have e : ps.getD k Pc.nil = ps[k] := by simp [List.getD, h]
  unfold flat
  rw [List.take_succ_eq_append_getElem h, List.flatMap_append, e]
  congr 1
  simp
theorem flat_le (ps : List Pc) (k : Nat) : (flat (ps.take k)).length ≤ (flat ps).length := by
  have : flat ps = flat (ps.take k) ++ flat (ps.drop k) := by
    unfold flat
    rw [← List.flatMap_append, List.take_append_drop]
  rw [this, List.length_append]
  omega

theorem RdS.onward {w w' : World} {a : Option Addr} {n cap : Nat} {zs : List Int} (h : RdS w a n cap zs) (hg : w.grownBy w' none) : RdS w' a n cap zs := by
  refine ⟨h.len, h.le, h.max, h.nil, fun hp => ?_⟩
  obtain ⟨b, off, rfl, hb, hc⟩ := h.pos hp
  exact (h.kept hg (.inr (by simp [blk]))).pos hp
theorem Pcs.onward {w w' : World} {g : Nat} {ps : List Pc} (h : Pcs w g ps) (hg : w.grownBy w' none) : Pcs w' g ps :=
  ⟨Nat.lt_of_lt_of_le h.lt hg.size, fun j hj => by rw [World.cell?_of_block (w := w) (hg.block g h.lt (by simp))]; exact h.cell j hj, fun j hj => (h.rd j hj).onward hg⟩

theorem grown_new {w w1 w2 : World} {a a' : Option Addr} (h : w.grownBy w1 none) (hm : Moved w1 w2 a a') (ha : ∀ g, blk a = some g → w.heap.size ≤ g) : w.grownBy w2 none ∧ ∀ g, blk a' = some g → w.heap.size ≤ g := by
  refine ⟨grownBy_tr h hm.grown (.inr ha), fun g hg => ?_⟩
  have := h.size
  rcases hm.lies with e | ⟨g', hg', e⟩
  · exact ha g (by rw [← e]; exact hg)
  · rw [e] at hg
    cases hg
    omega
theorem OwnS.blk_ge {w : World} {B : Nat} {a : Option Addr} {n cap : Nat} {zs : List Int} (h : OwnS w B a n cap zs) : ∀ g, blk a = some g → B ≤ g := fun _ e => (h.lt e).1

theorem grownBy_drew (w : World) : w.grownBy w.drew none := ⟨rfl, rfl, rfl, Nat.le_refl _, fun _ _ _ => rfl⟩
theorem OwnS.base {w : World} {B B' : Nat} {a : Option Addr} {n cap : Nat} {zs : List Int} (h : OwnS w B a n cap zs) (hb : B' ≤ B) : OwnS w B' a n cap zs := by
  refine ⟨h.len, h.own.1, ?_⟩
  rcases h.own.2 with h0 | ⟨g, cap', cur, hv, hg, r⟩
  · exact .inl h0
  · exact .inr ⟨g, cap', cur, hv, by omega, r⟩

def madeZ (n : Nat) : Array Value := madeCells #[.int .u8 0] n
theorem run_mk (N : Nat) (hN : N ≤ 1099511627776) (W : World) : Sem.run Try.prog (Instr.makeSlice 23 (.int .i64 0) (.int .i64 (15 + (N : Int)))) W = .ok (.slice (some ⟨W.heap.size, 0, none⟩) 0 (15 + N)) (W.alloc (.cells (madeZ (15 + N)) 5)) := by
  obtain ⟨i0, hi, hz0, hz1, hz2⟩ := info_parts info5
  have := run_make (P := Try.prog) W 23 5 i0 (.int .u8 0) Try.underlying23 hi hz0 .i64 .i64 0 (15 + (N : Int)) (by omega) (by omega) (by rw [hz2]; omega) (by omega)
  rw [this, hz1, show (15 + (N : Int)).toNat = 15 + N from by omega, Nat.mul_one]
  rfl
theorem own_made (W : World) (g N : Nat) (hg : W.heap.size = g) (hN : N ≤ 1099511627776) : OwnS (W.alloc (.cells (madeZ N) 5)) g (some ⟨g, 0, none⟩) 0 N [] := by
  subst hg
  exact ⟨rfl, World.ownsRow_made W _ N (Nat.le_refl _) (by unfold maxLen; omega) (by unfold madeZ; rw [size_madeCells, Nat.mul_one])⟩

theorem tagB_len (cl : Int) (cons : Bool) (num : Int) : (tagB cl cons num).length ≤ 6 := by
  unfold tagB b128
  (repeat' split) <;> simp
theorem lenB_len (x : Int) : (lenB x).length ≤ 4 := by
  unfold lenB
  (repeat' split) <;> simp

theorem blk_at {h g' : Nat} (e : blk (some ⟨h, 0, none⟩) = some g') : h = g' := by
  cases e; rfl
set_option maxRecDepth 100000 in
set_option maxHeartbeats 2000000 in
theorem enc_any (g m : Nat) (ps : List Pc) (w : World) (hp : Pcs w g ps) (hm : ps.length = m) (hm2 : m ≤ 100) (cl : Int) (cons : Bool) (num : Int) (c0 : 0 ≤ cl) (c1 : cl ≤ 255) (n0 : 0 ≤ num) (n1 : num < 4294967296) (hN : (flat ps).length < 16777216) :
    Calls Try.prog 8 #[.agg #[.int .u8 cl, .bool cons, .int .u32 num], .slice (some ⟨g, 0, none⟩) m m] w fun e w' => ∃ a' n' c', e = .returned (.slice a' n' c') ∧ OwnS w' w.heap.size a' n' c' (tagB cl cons num ++ lenB ((flat ps).length : Nat) ++ flat ps) ∧ w.grownBy w' none := by
  obtain ⟨i0, hi, hz0, hz1, hz2⟩ := info_parts info5
  have HM : Hid (ps.length = m) := hm
  obtain ⟨N, hNd⟩ : ∃ N, Hid ((flat ps).length = N) := ⟨_, rfl⟩
  have hN' : N < 16777216 := by rw [← hNd.out]; exact hN
  have g1 : w.grownBy (w.alloc (.cells #[.int .u8 cl, .bool cons, .int .u32 num] 27)) none := World.grownBy_alloc _ _ _
  have p1 := hp.onward g1
  clear hm hN
  go_enter Try.func8, Try.ntmps8
  go_wp2
  go_loop [5, 13] (fun s i => ∃ k : Nat, k ≤ m ∧ i = .int .i64 k ∧ s = .int .i64 ((flat (ps.take k)).length : Nat)) (fun _ i => m - (intOf i).toNat)
  case atStart => exact ⟨0, Nat.zero_le _, rfl, rfl⟩
  case round =>
    obtain ⟨k, hk, rfl, rfl⟩ := hrel
    by_cases hlt : k < m
    · have gc := p1.cell k (by rw [HM.out]; exact hlt)
      have hs : Hid (flat (ps.take (k + 1)) = flat (ps.take k) ++ (ps.getD k Pc.nil).zs) := flat_snoc ps k (by rw [HM.out]; exact hlt)
      have hle := flat_le ps k
      have hle2 := flat_le ps (k + 1)
      rw [hs.out, List.length_append, (hp.rd k (by rw [HM.out]; exact hlt)).len] at hle2
      have HE : Hid ((flat (ps.take (k + 1))).length = (flat (ps.take k)).length + (ps.getD k Pc.nil).n) := by rw [hs.out, List.length_append, (hp.rd k (by rw [HM.out]; exact hlt)).len]; rfl
      rw [hNd.out] at hle hle2
      generalize ps.getD k Pc.nil = p at gc hle2 HE
      generalize (flat (ps.take k)).length = S at hle hle2 HE ⊢
      obtain ⟨pa, pn, pc, pz⟩ := p
      simp only at gc hle2 HE
      clear hs
      go_wp2
      go_round
      case rel => exact ⟨k + 1, by omega, by go_num, by rw [HE.out]; go_num⟩
      case measure => simp [intOf]; omega
    · obtain rfl : k = m := by omega
      rw [List.take_of_length_le (Nat.le_of_eq HM.out), hNd.out]
      go_upto_region 7 with fail
      have hmk := run_mk N (by omega)
      have hwr : IntKind.i64.wrap (15 + (N : Int)) = 15 + (N : Int) := by rw [IntKind.wrap_i64]; omega
      have hmade := own_made (w.alloc (.cells #[.int .u8 cl, .bool cons, .int .u32 num] 27)) (w.heap.size + 1) (15 + N) (by simp) (by omega)
      have hsz : w.heap.size + 1 ≤ ((w.alloc (.cells #[.int .u8 cl, .bool cons, .int .u32 num] 27)).alloc (.cells (madeZ (15 + N)) 5)).heap.size := by simp
      have hgm : w.grownBy ((w.alloc (.cells #[.int .u8 cl, .bool cons, .int .u32 num] 27)).alloc (.cells (madeZ (15 + N)) 5)) none := g1.trans (World.grownBy_alloc _ _ _)
      go_cut [8] from 22 to 28 (fun v w' => ∃ a n c, v = .slice a n c ∧ OwnS w' w.heap.size a n c (tagB cl cons num ++ lenB (N : Nat)) ∧ w.grownBy w' none)
      case first =>
        go_region_with (first | (go_at_call 15; refine (tag_any (some ⟨w.heap.size + 1, 0, none⟩) 0 (15 + N) [] (w.heap.size + 1) _ hmade.drew hsz (by omega) cl cons num c0 c1 n0 n1).mono ?_; rintro e w2 ⟨a2, m2, d2, rfl, ho2, hm2⟩; have hb2 : m2 ≤ 6 := (by have q := ho2.len; rw [List.nil_append] at q; have := tagB_len cl cons num; omega)) | (go_at_call 14; refine (len_any a2 m2 d2 _ (w.heap.size + 1) w2 ho2 (Nat.le_trans hsz hm2.grown.size) (by omega) (N : Int) (by omega) (by omega)).mono ?_; rintro e w3 ⟨a3, m3, d3, rfl, ho3, hm3⟩))
        all_goals
          go_wp2_with fail
          go_meet
          case rel =>
            have G2 := grown_new (w := w) (hgm.trans (grownBy_drew _)) hm2 (fun g' e => by have := blk_at e; omega)
            have G3 := grown_new G2.1 hm3 G2.2
            exact ⟨a3, m3, d3, rfl, (by simpa using ho3.base (by omega)), G3.1⟩
      case rest =>
        obtain ⟨a3, m3, d3, rfl, ho3, G3⟩ := hcut
        clear hmk hwr hmade hsz hgm p1 g1
        have p3 := hp.onward G3
        go_wp2
        go_loopw [8, 31] (fun v i wr => ∃ j a n c, j ≤ k ∧ i = .int .i64 (j : Nat) ∧ v = .slice a n c ∧ OwnS wr w.heap.size a n c (tagB cl cons num ++ lenB (N : Nat) ++ flat (ps.take j)) ∧ w.grownBy wr none) (fun _ i _ => k - (intOf i).toNat)
        case atStart => exact ⟨0, a3, m3, d3, Nat.zero_le _, rfl, rfl, by simpa [flat] using ho3, G3⟩
        case round =>
          obtain ⟨j, a, n, c, hj, rfl, rfl, ho, hg⟩ := hrel
          clear ho3 G3 p3
          by_cases hlt : j < k
          · have pj := hp.onward hg
            have gc := pj.cell j (by rw [HM.out]; exact hlt)
            have rj := pj.rd j (by rw [HM.out]; exact hlt)
            have hs : Hid (flat (ps.take (j + 1)) = flat (ps.take j) ++ (ps.getD j Pc.nil).zs) := flat_snoc ps j (by rw [HM.out]; exact hlt)
            have hle := flat_le ps j
            have hle2 := flat_le ps (j + 1)
            rw [hs.out, List.length_append, rj.len, hNd.out] at hle2
            have hn : n ≤ 20000000 := by
              have q := ho.len
              have q1 := tagB_len cl cons num
              have q2 := lenB_len (N : Nat)
              rw [List.length_append, List.length_append] at q
              omega
            have hsz := hg.size
            generalize ps.getD j Pc.nil = p at gc hle2 hs rj
            obtain ⟨pa, pn, pc, pz⟩ := p
            simp only at gc hle2 hs rj
            clear pj
            go_wp2_with (at_builtin; refine wpList_append_b8 _ rfl (.tmp 35) (.tmp 36) 23 23 rfl w.heap.size i0 Try.underlying23 hi hz0 hz1 hz2 a n c _ rfl ho _ pn pz rfl (rj.src Try.underlying23) (by omega) hsz ?_; intro a4 m4 d4 w4 hn4 ho4 hm4)
            have G4 := grown_new hg hm4 ho.blk_ge
            rw [List.append_assoc, ← hs.out] at ho4
            go_roundw
            case rel => exact ⟨j + 1, a4, m4, d4, by omega, by go_num, rfl, ho4, G4.1⟩
            case measure => simp [intOf]; omega
          · obtain rfl : j = k := by omega
            go_wp2
            go_ret
            rw [List.take_of_length_le (Nat.le_of_eq HM.out)] at ho
            exact ⟨a, n, c, rfl, by rw [hNd.out]; exact ho, hg⟩
end Go.Proofs.Qxb6002387a
