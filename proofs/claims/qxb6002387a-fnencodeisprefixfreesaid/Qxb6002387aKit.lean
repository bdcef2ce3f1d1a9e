/-
  OWN WORK: rows of bytes: a slice that reads as a list of numbers ('RdS'), one that the call owns ('OwnS'), what a call leaves of the world ('Moved'), and append from whatever source.
-/
import Derived.WalkKit
import Derived.Below
import Derived.Deep.AppendSrc
import Derived.Maps.AppendAt
import Derived.Deep.RegionLaw
namespace Go.Proofs.Qxb6002387a
open Go.RowKit

/-- Numbers as cells. -/
def B8 (zs : List Int) : List Value := zs.map (Value.int .u8)
theorem B8_length (zs : List Int) : (B8 zs).length = zs.length := by simp [B8]
theorem B8_append (a b : List Int) : B8 (a ++ b) = B8 a ++ B8 b := by simp [B8]
theorem B8_one (zs : List Int) : ∀ u ∈ B8 zs, u.oneCell' = true := ints_oneCell .u8 zs
theorem B8_get (zs : List Int) (j : Nat) (h : j < zs.length) : (B8 zs)[j]? = some (.int .u8 (zs.getD j 0)) := by
  simp [B8, List.getD, h]

/-- The block of a slice's address. -/
def blk (a : Option Addr) : Option Nat := a.map (·.block)
theorem ownBlock_slice (a : Option Addr) (n c : Nat) : (Value.slice a n c).ownBlock = blk a := by cases a <;> rfl

/-- The slice (a, n, cap) owns the bytes zs, in a block from 'base' on. -/
structure OwnS (w : World) (base : Nat) (a : Option Addr) (n cap : Nat) (zs : List Int) : Prop where
  len : zs.length = n
  own : w.ownsRow base 5 1 (.slice a n cap) n (B8 zs)

/-- The slice (a, n, cap) reads as zs. -/
structure RdS (w : World) (a : Option Addr) (n cap : Nat) (zs : List Int) : Prop where
  len : zs.length = n
  le : n ≤ cap
  max : cap ≤ maxLen
  nil : a = none → cap = 0
  pos : 0 < n → ∃ b off, a = some ⟨b, off, none⟩ ∧ b < w.heap.size ∧ ∀ i, i < n → w.cell? ⟨b, off + i, none⟩ = some (.int .u8 (zs.getD i 0))

/-- What a call leaves: all old blocks but the row's are as they were; the new row is the old one or a new block. -/
structure Moved (w w' : World) (a a' : Option Addr) : Prop where
  grown : w.grownBy w' (blk a)
  lies : blk a' = blk a ∨ ∃ g, w.heap.size ≤ g ∧ blk a' = some g

theorem Moved.refl (w : World) (a : Option Addr) : Moved w w a a := ⟨World.grownBy.refl _ _, .inl rfl⟩

theorem grownBy_sub {w w' : World} {row row' : Option Nat} (h : w.grownBy w' row) (hr : row = row' ∨ ∀ g, row = some g → w.heap.size ≤ g) : w.grownBy w' row' := by
  refine ⟨h.os, h.tape, h.output, h.size, fun k hk hne => h.block k hk ?_⟩
  rcases hr with rfl | hr
  · exact hne
  · intro e
    have := hr k e.symm
    omega

theorem grownBy_tr {a b c : World} {row row' : Option Nat} (h : a.grownBy b row) (k : b.grownBy c row') (hr : row' = row ∨ ∀ g, row' = some g → a.heap.size ≤ g) : a.grownBy c row := by
  refine ⟨k.os.trans h.os, k.tape.trans h.tape, k.output.trans h.output, Nat.le_trans h.size k.size, fun i hi hne => ?_⟩
  refine (k.block i (Nat.lt_of_lt_of_le hi h.size) ?_).trans (h.block i hi hne)
  rcases hr with rfl | hr
  · exact hne
  · intro e
    have := hr i e.symm
    omega

theorem Moved.trans {a b c : World} {x y z : Option Addr} (h : Moved a b x y) (k : Moved b c y z) : Moved a c x z := by
  have hs := h.grown.size
  refine ⟨grownBy_tr h.grown k.grown ?_, ?_⟩
  · rcases h.lies with e | ⟨g, hg, e⟩
    · exact .inl e
    · right
      intro g' h'
      rw [e] at h'
      cases h'
      exact hg
  · rcases k.lies with e | ⟨g, hg, e⟩
    · rw [e]
      exact h.lies
    · exact .inr ⟨g, by omega, e⟩

theorem Moved.alloc {a b : World} {x y : Option Addr} (h : Moved a b x y) (o : Obj) : Moved a (b.alloc o) x y :=
  ⟨h.grown.trans (World.grownBy_alloc _ _ _), h.lies⟩

theorem Moved.drew {a b : World} {x y : Option Addr} (h : Moved a b x y) : Moved a b.drew x y :=
  ⟨⟨h.grown.os, h.grown.tape, h.grown.output, h.grown.size, h.grown.block⟩, h.lies⟩

/-- New blocks alone. -/
theorem Moved.onward {a b c : World} {x y : Option Addr} (h : Moved a b x y) (k : b.grownBy c none) : Moved a c x y :=
  ⟨grownBy_tr h.grown k (.inr fun _ e => by cases e), h.lies⟩

theorem OwnS.nil (w : World) (base : Nat) : OwnS w base none 0 0 [] := ⟨rfl, World.ownsRow_nil w base 5 1⟩

theorem OwnS.alloc {w : World} {base : Nat} {a : Option Addr} {n cap : Nat} {zs : List Int} (h : OwnS w base a n cap zs) (o : Obj) : OwnS (w.alloc o) base a n cap zs := ⟨h.len, h.own.alloc o⟩
theorem OwnS.drew {w : World} {base : Nat} {a : Option Addr} {n cap : Nat} {zs : List Int} (h : OwnS w base a n cap zs) : OwnS w.drew base a n cap zs := ⟨h.len, h.own.drew⟩

theorem OwnS.kept {w w' : World} {base : Nat} {a : Option Addr} {n cap : Nat} {zs : List Int} {row : Option Nat} (h : OwnS w base a n cap zs) (hg : w.grownBy w' row) (hne : blk a = none ∨ blk a ≠ row) : OwnS w' base a n cap zs :=
  ⟨h.len, h.own.kept hg (by rw [ownBlock_slice]; exact hne)⟩

theorem OwnS.lt {w : World} {base : Nat} {a : Option Addr} {n cap : Nat} {zs : List Int} (h : OwnS w base a n cap zs) {g : Nat} (hg : blk a = some g) : base ≤ g ∧ g < w.heap.size :=
  h.own.lt g (by rw [ownBlock_slice]; exact hg)

theorem OwnS.rd {w : World} {base : Nat} {a : Option Addr} {n cap : Nat} {zs : List Int} (h : OwnS w base a n cap zs) : RdS w a n cap zs := by
  obtain ⟨hl, ho⟩ := h
  rcases ho.2 with ⟨hv, hn⟩ | ⟨g, cap', cur, hv, hb, hg, hnc, hcm, hcs, htake⟩
  · simp only [Value.slice.injEq] at hv
    obtain ⟨rfl, rfl, rfl⟩ := hv
    exact ⟨hl, Nat.le_refl _, Nat.zero_le _, fun _ => rfl, fun h => absurd h (Nat.lt_irrefl _)⟩
  · simp only [Value.slice.injEq, true_and] at hv
    obtain ⟨rfl, rfl⟩ := hv
    refine ⟨hl, hnc, hcm, fun h => (by cases h), fun _ => ⟨g, 0, rfl, (Array.getElem?_eq_some_iff.1 hg).1, fun i hi => ?_⟩⟩
    rw [Nat.zero_add, ho.cellAt i (by omega), B8_get zs i (by omega)]

theorem RdS.kept {w w' : World} {a : Option Addr} {n cap : Nat} {zs : List Int} {row : Option Nat} (h : RdS w a n cap zs) (hg : w.grownBy w' row) (hne : n = 0 ∨ blk a ≠ row) : RdS w' a n cap zs := by
  refine ⟨h.len, h.le, h.max, h.nil, fun hp => ?_⟩
  obtain ⟨b, off, rfl, hb, hc⟩ := h.pos hp
  refine ⟨b, off, rfl, Nat.lt_of_lt_of_le hb hg.size, fun i hi => ?_⟩
  rw [World.cell?_of_block (w := w) (hg.block b hb (by rcases hne with e | e; omega; exact e))]
  exact hc i hi

theorem RdS.alloc {w : World} {a : Option Addr} {n cap : Nat} {zs : List Int} (h : RdS w a n cap zs) (o : Obj) : RdS (w.alloc o) a n cap zs := by
  refine ⟨h.len, h.le, h.max, h.nil, fun hp => ?_⟩
  obtain ⟨b, off, rfl, hb, hc⟩ := h.pos hp
  refine ⟨b, off, rfl, by simp; omega, fun i hi => ?_⟩
  rw [World.cell?_of_block (w := w) (Below.heap_alloc w o b hb)]
  exact hc i hi

theorem RdS.drew {w : World} {a : Option Addr} {n cap : Nat} {zs : List Int} (h : RdS w a n cap zs) : RdS w.drew a n cap zs :=
  ⟨h.len, h.le, h.max, h.nil, h.pos⟩

/-- A row that the program has just laid. -/
theorem RdS.new (w : World) (zs : List Int) (n : Nat) (hn : zs.length = n) (hm : n ≤ maxLen) : RdS (w.alloc (.cells (B8 zs).toArray 5)) (some ⟨w.heap.size, 0, none⟩) n n zs := by
  refine ⟨hn, Nat.le_refl _, hm, fun h => (by cases h), fun _ => ⟨w.heap.size, 0, rfl, by simp, fun i hi => ?_⟩⟩
  rw [World.cell?_alloc_new, Nat.zero_add, List.getElem?_toArray, B8_get zs i (by omega)]

/-- A cut of a slice. -/
theorem RdS.cut {w : World} {a : Option Addr} {n cap : Nat} {zs : List Int} (h : RdS w a n cap zs) (l u : Nat) (hl : l ≤ u) (hu : u ≤ n) (a' : Option Addr) (ha : cap ≠ l → a' = a.map (·.add l)) (hb : cap = l → a' = a) : RdS w a' (u - l) (cap - l) ((zs.take u).drop l) := by
  refine ⟨by rw [List.length_drop, List.length_take, h.len]; omega, by have := h.le; omega, by have := h.max; omega, fun e => ?_, fun hp => ?_⟩
  · by_cases hc : cap = l
    · omega
    · rw [ha hc] at e
      cases a with
      | none => have := h.nil rfl; omega
      | some x => cases e
  · obtain ⟨b, off, rfl, hb, hc⟩ := h.pos (by omega)
    have hle := h.le
    refine ⟨b, off + l, by rw [ha (by omega)]; simp [Addr.add_lit], hb, fun i hi => ?_⟩
    rw [Nat.add_assoc, hc (l + i) (by omega)]
    have hlen := h.len
    simp only [List.getD, List.getElem?_drop, List.getElem?_take]
    rw [if_pos (by omega)]

theorem blk_cut {a a' : Option Addr} {cap l : Nat} (ha : cap ≠ l → a' = a.map (·.add l)) (hb : cap = l → a' = a) : blk a' = blk a := by
  by_cases h : cap = l
  · rw [hb h]
  · rw [ha h]
    cases a with
    | none => rfl
    | some x => simp [blk, Addr.add]; split <;> rfl

section
variable {P : Program}

theorem RdS.src {w : World} {a : Option Addr} {n cap : Nat} {zs : List Int} (h : RdS w a n cap zs) {t e : TypeId} (ht : P.underlying t = some (.slice e)) : Src P 1 t (.slice a n cap) n (B8 zs) w := by
  rcases Nat.eq_zero_or_pos n with h0 | hp
  · subst h0
    obtain rfl : zs = [] := List.eq_nil_of_length_eq_zero h.len
    cases a with
    | none => exact Src.ofNil w ht cap
    | some x => exact Src.ofSlice w ht x 0 cap [] (by simp) (by intro _ _ h'; simp at h') (by simp)
  · obtain ⟨b, off, rfl, _, hc⟩ := h.pos hp
    refine Src.ofSlice w ht ⟨b, off, none⟩ n cap (B8 zs) (by rw [B8_length, h.len, Nat.mul_one]) (fun j u hu => ?_) (B8_one zs)
    have hj : j < n := by have := (List.getElem?_eq_some_iff.1 hu).1; rw [B8_length, h.len] at this; exact this
    rw [B8_get zs j (by have := h.len; omega)] at hu
    rw [Addr.add_lit, hc j hj]
    exact hu

/-- append, onto a row that the call owns, from whatever source. -/
theorem run_append_b8 (w : World) (base : Nat) (t tx ty : TypeId) (i : TypeInfo) (ht : P.underlying t = some (.slice 5)) (hi : P.info? 5 = some i) (hz : i.zero = some (.int .u8 0)) (hsize : i.size = 1) (hby : i.bytes = 1)
    (a : Option Addr) (n cap : Nat) (zs : List Int) (hown : OwnS w base a n cap zs) (x : Value) (m : Nat) (news : List Int) (hs : Src P 1 tx x m (B8 news) w)
    (hb : n + m ≤ 140737488355328) (hbase : base ≤ w.heap.size) :
    ∃ a' n' cap' w', (Builtin.append_ #[t, tx] ty #[.slice a n cap, x]).run P w = .ok (.slice a' n' cap') w' ∧ n' = n + m ∧ OwnS w' base a' n' cap' (zs ++ news) ∧ Moved w w' a a' := by
  have hnl : news.length = m := by have := hs.newsLen; rw [B8_length] at this; omega
  have hzl := hown.len
  have h63 : n + m ≤ maxLen := by unfold maxLen; omega
  have hs1 : Src P i.size tx x m (B8 news) w := by rw [hsize]; exact hs
  have hrd := hown.rd
  by_cases hroom : n + m ≤ cap
  · rcases hown.own.2 with ⟨hv, hn0⟩ | ⟨g, cap', cur, hv, hbg, hg, hnc, hcm, hcs, htake⟩
    · simp only [Value.slice.injEq] at hv
      obtain ⟨rfl, rfl, rfl⟩ := hv
      obtain rfl : m = 0 := by omega
      obtain rfl : news = [] := List.eq_nil_of_length_eq_zero hnl
      refine ⟨none, 0, 0, w, ?_, rfl, by simpa using hown, Moved.refl _ _⟩
      rcases hs.kind with ⟨e', hk⟩ | hk <;> simp [Builtin.append_, run_underlying ht, run_underlying hk, sizeOf, typeInfo, hi, hsize, hs.len, hs.cells, B8]
    · simp only [Value.slice.injEq, true_and] at hv
      obtain ⟨rfl, rfl⟩ := hv
      have hcs' : cur.size = cap := by simpa using hcs
      have hst := run_storeCells_at P g n 5 (B8 news) 0 cur w hg (by rw [B8_length]; omega) (B8_one news)
      simp only [Nat.add_zero] at hst
      refine ⟨some ⟨g, 0, none⟩, n + m, cap, w.setRow g (cur.toList.take n ++ B8 news ++ cur.toList.drop (n + (B8 news).length)).toArray, ?_, rfl, ⟨by rw [List.length_append]; omega, ?_, .inr ⟨g, cap, _, rfl, hbg, setRow_heap w g cur _ 5 _ hg, hroom, hcm, ?_, ?_⟩⟩, ⟨⟨rfl, rfl, rfl, by simp, fun k _ hk => setRow_other w g k _ (fun e => hk (by simp [blk, e]))⟩, .inl rfl⟩⟩
      · rcases hs.kind with ⟨e', hk⟩ | hk <;> simp [Builtin.append_, run_underlying ht, run_underlying hk, sizeOf, typeInfo, hi, hsize, hs.len, hroom, hs.cells, Addr.add_lit, hst]
      · rw [B8_length, List.length_append]; omega
      · simp only [List.size_toArray, List.length_append, List.length_take, List.length_drop, Array.length_toList, B8_length]
        omega
      · have ht' : cur.toList.take n = B8 zs := by simpa using htake
        have hL : (B8 zs ++ B8 news).length = (n + m) * 1 := by simp only [List.length_append, B8_length]; omega
        rw [ht', ← hL, B8_append]
        exact List.take_left
  · have hold : (Builtin.firstCells i.size n (.slice a n cap)).run P w.drew = .ok (B8 zs).toArray w.drew := by
      rw [hsize]
      exact (hrd.drew.src (P := P) ht).cells
    have hrun := run_append_grow_src (P := P) w t tx ty 5 i (.int .u8 0) ht hi hz a n cap (B8 zs) hold x m (B8 news) hs1 (by omega) (by omega) (growslice_fits (by omega) (by rw [hby]; omega))
    have hge := grownCap_ge w (n + m) cap 5
    have hcm := grownCap_le_maxLen w (n + m) cap 5 h63
    refine ⟨_, _, _, _, hrun, rfl, ⟨by rw [List.length_append]; omega, by rw [B8_length, List.length_append]; omega, .inr ⟨w.heap.size, _, _, rfl, hbase, heap_alloc_new w.drew _, hge, hcm, ?_, ?_⟩⟩, ⟨⟨rfl, rfl, rfl, by simp, fun k hk _ => Below.heap_alloc w.drew _ k hk⟩, .inr ⟨w.heap.size, Nat.le_refl _, rfl⟩⟩⟩
    · have hz1 : (Value.int IntKind.u8 0).cells.size = 1 := rfl
      simp only [Array.size_append, List.size_toArray, size_zeroCells, hz1, List.length_append, B8_length]
      omega
    · have hL : (B8 zs ++ B8 news).length = (n + m) * 1 := by simp only [List.length_append, B8_length]; omega
      simp only [Array.toList_append, B8_append]
      rw [← hL]
      exact List.take_left

theorem wp_append_b8 (w : World) {o : Oper} {a : Act} {K : Act → World → Prop} {Q : Exit → Act → World → Prop} (s x : Operand) (t tx : TypeId)
    (ho : o.op = .call { callee := .builtin .append, args := #[s, x], argTypes := #[t, tx] })
    (base : Nat) (i : TypeInfo) (ht : P.underlying t = some (.slice 5)) (hi : P.info? 5 = some i) (hz : i.zero = some (.int .u8 0)) (hsize : i.size = 1) (hby : i.bytes = 1)
    (ad : Option Addr) (n cap : Nat) (zs : List Int) (hs : a.eval s = .slice ad n cap) (hown : OwnS w base ad n cap zs) (xv : Value) (m : Nat) (news : List Int) (hx : a.eval x = xv) (hsrc : Src P 1 tx xv m (B8 news) w)
    (hb : n + m ≤ 140737488355328) (hbase : base ≤ w.heap.size)
    (h : ∀ a' n' cap' w', Hid (n' = n + m) → OwnS w' base a' n' cap' (zs ++ news) → Moved w w' ad a' → K (a.put o.dst (.slice a' n' cap')) w') : o.wp P a w K Q := by
  obtain ⟨a', n', cap', w', hr, h2, h3, h4⟩ := run_append_b8 (P := P) w base t tx o.type i ht hi hz hsize hby ad n cap zs hown xv m news hsrc hb hbase
  unfold Oper.wp execOp
  simp only [ho, resolve, invoke, builtin, Sem.run_bind, Sem.run_pure, Result.andThen_ok, List.map_toArray, List.map_cons, List.map_nil, hs, hx, hr]
  exact h a' n' cap' w' h2 h3 h4

theorem wpList_append_b8 (w : World) {ops : Array Oper} {rest : List Oper} {o : Oper} {a : Act} {Q : Exit → Act → World → Prop} (hgd : o.guard = none) (s x : Operand) (t tx : TypeId)
    (ho : o.op = .call { callee := .builtin .append, args := #[s, x], argTypes := #[t, tx] })
    (base : Nat) (i : TypeInfo) (ht : P.underlying t = some (.slice 5)) (hi : P.info? 5 = some i) (hz : i.zero = some (.int .u8 0)) (hsize : i.size = 1) (hby : i.bytes = 1)
    (ad : Option Addr) (n cap : Nat) (zs : List Int) (hs : a.eval s = .slice ad n cap) (hown : OwnS w base ad n cap zs) (xv : Value) (m : Nat) (news : List Int) (hx : a.eval x = xv) (hsrc : Src P 1 tx xv m (B8 news) w)
    (hb : n + m ≤ 140737488355328) (hbase : base ≤ w.heap.size)
    (h : ∀ a' n' cap' w', Hid (n' = n + m) → OwnS w' base a' n' cap' (zs ++ news) → Moved w w' ad a' → wpList P ops Q rest (a.put o.dst (.slice a' n' cap')) w') : wpList P ops Q (o :: rest) a w :=
  wpList_plain hgd fun _ hK => wp_append_b8 w s x t tx ho base i ht hi hz hsize hby ad n cap zs hs hown xv m news hx hsrc hb hbase fun a' n' cap' w' h2 h3 h4 => hK _ _ (h a' n' cap' w' h2 h3 h4)

/-- The same as one step of a region that draws its order. -/
theorem step_append_b8 (w : World) {ops : Array Oper} {o : Oper} {a : Act} {K : Act → World → Prop} {Q : Exit → Act → World → Prop} {E : Prop} (hgd : o.guard = none) (s x : Operand) (t tx : TypeId)
    (ho : o.op = .call { callee := .builtin .append, args := #[s, x], argTypes := #[t, tx] })
    (base : Nat) (i : TypeInfo) (ht : P.underlying t = some (.slice 5)) (hi : P.info? 5 = some i) (hz : i.zero = some (.int .u8 0)) (hsize : i.size = 1) (hby : i.bytes = 1)
    (ad : Option Addr) (n cap : Nat) (zs : List Int) (hs : a.eval s = .slice ad n cap) (hown : OwnS w base ad n cap zs) (xv : Value) (m : Nat) (news : List Int) (hx : a.eval x = xv) (hsrc : Src P 1 tx xv m (B8 news) w)
    (hb : n + m ≤ 140737488355328) (hbase : base ≤ w.heap.size)
    (h : ∀ a' n' cap' w', Hid (n' = n + m) → OwnS w' base a' n' cap' (zs ++ news) → Moved w w' ad a' → K (a.put o.dst (.slice a' n' cap')) w') :
    if Region.wanted o (yielded ops a.tmps) = true then Oper.wp P o a w K Q else E := by
  have hw : Region.wanted o (yielded ops a.tmps) = true := by simp [Region.wanted, hgd]
  rw [if_pos hw]
  exact wp_append_b8 w s x t tx ho base i ht hi hz hsize hby ad n cap zs hs hown xv m news hx hsrc hb hbase h
end

/-- A string's bytes as numbers. -/
def bytesOf (s : ByteArray) : List Int := s.data.toList.map fun c => (c.toNat : Int)
theorem bytesOf_length (s : ByteArray) : (bytesOf s).length = s.size := by
  unfold bytesOf
  rw [List.length_map, Array.length_toList]
  rfl
theorem byteCells_eq (s : ByteArray) : byteCells s = B8 (bytesOf s) := by simp [byteCells, B8, bytesOf]
theorem srcString {P : Program} (w : World) {tx : TypeId} (hk : P.underlying tx = some .string) (s : ByteArray) : Src P 1 tx (.string s) s.size (B8 (bytesOf s)) w := by
  rw [← byteCells_eq]
  exact Src.ofString w hk s
theorem bytesOf_take (s : ByteArray) (k : Nat) (h : k < s.size) : (bytesOf s).take (k + 1) = (bytesOf s).take k ++ [(s[k].toNat : Int)] := by
  have hl := bytesOf_length s
  rw [List.take_succ_eq_append_getElem (by omega)]
  simp [bytesOf]
  rfl
theorem bytesOf_mem (s : ByteArray) : ∀ c ∈ bytesOf s, 0 ≤ c ∧ c ≤ 255 := by
  intro c hc
  simp only [bytesOf, List.mem_map] at hc
  obtain ⟨b, _, rfl⟩ := hc
  have := b.toNat_lt
  omega

end Go.Proofs.Qxb6002387a
