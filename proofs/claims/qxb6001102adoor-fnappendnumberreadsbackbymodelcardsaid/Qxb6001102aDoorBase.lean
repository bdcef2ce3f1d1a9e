import Derived.Test.Qxb6001102aDoorKit
import Derived.OpenShut
namespace Go.Proofs.Qxb6001102aDoor
open Go.RowKit

theorem srcLit {P : Program} (w : World) {t e : TypeId} (ht : P.underlying t = some (.slice e)) (zs : List Int) (n : Nat) (hn : zs.length = n) (hm : n ≤ 100) : Src P 1 t (.slice (some ⟨w.heap.size, 0, none⟩) n n) n (B8 zs) (w.alloc (.cells (B8 zs).toArray 5)) :=
  (RdS.new w zs n hn (by unfold maxLen; omega)).src ht
theorem src1 {P : Program} (w : World) {t e : TypeId} (ht : P.underlying t = some (.slice e)) (a : Int) : Src P 1 t (.slice (some ⟨w.heap.size, 0, none⟩) 1 1) 1 (B8 [a]) (w.alloc (.cells #[.int .u8 a] 5)) := srcLit w ht [a] 1 rfl (by omega)
theorem srcStr2 {P : Program} (w : World) {tx : TypeId} (hk : P.underlying tx = some .string) (a b : UInt8) : Src P 1 tx (.string ⟨#[a, b]⟩) 2 (B8 [(a.toNat : Int), (b.toNat : Int)]) w := srcString w hk ⟨#[a, b]⟩

theorem RdS.onward {w w' : World} {a : Option Addr} {n cap : Nat} {zs : List Int} (h : RdS w a n cap zs) (hg : w.grownBy w' none) : RdS w' a n cap zs := by
  refine ⟨h.len, h.le, h.max, h.nil, fun hp => ?_⟩
  obtain ⟨b, off, rfl, hb, hc⟩ := h.pos hp
  exact (h.kept hg (.inr (by simp [blk]))).pos hp

theorem grown_new {w w1 w2 : World} {a a' : Option Addr} (h : w.grownBy w1 none) (hm : Moved w1 w2 a a') (ha : ∀ g, blk a = some g → w.heap.size ≤ g) : w.grownBy w2 none ∧ ∀ g, blk a' = some g → w.heap.size ≤ g := by
  refine ⟨grownBy_tr h hm.grown (.inr ha), fun g hg => ?_⟩
  have := h.size
  rcases hm.lies with e | ⟨g', hg', e⟩
  · exact ha g (by rw [← e]; exact hg)
  · rw [e] at hg
    cases hg
    omega

theorem RdS.to {w : World} {b o n cap : Nat} {zs : List Int} (h : RdS w (some ⟨b, o, none⟩) n cap zs) (u : Nat) (hu : u ≤ n) : RdS w (some ⟨b, o, none⟩) u cap (zs.take u) := by
  have := h.cut 0 u (by omega) hu (some ⟨b, o, none⟩) (fun _ => by simp [Addr.add]) (fun _ => rfl)
  simpa using this
theorem RdS.from {w : World} {b o n cap : Nat} {zs : List Int} (h : RdS w (some ⟨b, o, none⟩) n cap zs) (l : Nat) (hl : l < n) : RdS w (some ⟨b, o + l, none⟩) (n - l) (cap - l) (zs.drop l) := by
  have hle := h.le
  have := h.cut l n (by omega) (Nat.le_refl _) (some ⟨b, o + l, none⟩) (fun _ => by simp [Addr.add_lit]) (fun h => by omega)
  rwa [List.take_of_length_le (Nat.le_of_eq h.len)] at this

theorem RdS.of_cells {w : World} {x : Addr} {len cap : Nat} {zs : List Int} (hl : len ≤ cap) (hm : cap ≤ maxLen) (hz : zs.length = cap) (hc : ∀ i, i < zs.length → w.cell? (x.add i) = some (.int .u8 (zs.getD i 0))) : RdS w (some x) len cap (zs.take len) := by
  refine ⟨by rw [List.length_take]; omega, hl, hm, fun h => (by cases h), fun hp => ?_⟩
  obtain ⟨b, off, rfl, hcc⟩ := ints_at hc (by omega)
  refine ⟨b, off, rfl, World.block_lt_of_cell? w _ (hcc 0 (by omega)), fun i hi => ?_⟩
  rw [hcc i (by omega)]
  simp only [List.getD, List.getElem?_take]
  rw [if_pos hi]
theorem RdS.of_nil (w : World) : RdS w none 0 0 [] := ⟨rfl, Nat.le_refl _, Nat.zero_le _, fun _ => rfl, fun h => absurd h (Nat.lt_irrefl _)⟩

theorem below_of_grown {w w' : World} {row : Option Nat} (h : w.grownBy w' row) (hr : ∀ g, row = some g → w.heap.size ≤ g) : Below w.heap.size w w' :=
  ⟨h.os, h.tape, h.output, h.size, fun k hk => h.block k hk (fun e => by have := hr k e.symm; omega)⟩
theorem grown_of_below {w w' : World} (h : Below w.heap.size w w') : w.grownBy w' none := ⟨h.os, h.tape, h.output, h.size, fun k hk _ => h.block k hk⟩

section
variable {P : Program}
/-- append that must grow: the result lies in a new block. -/
theorem run_append_new (w : World) (t tx ty : TypeId) (i : TypeInfo) (ht : P.underlying t = some (.slice 5)) (hi : P.info? 5 = some i) (hz : i.zero = some (.int .u8 0)) (hsize : i.size = 1) (hby : i.bytes = 1)
    (a : Option Addr) (n cap : Nat) (zs : List Int) (hrd : RdS w a n cap zs) (x : Value) (m : Nat) (news : List Int) (hs : Src P 1 tx x m (B8 news) w)
    (hg : cap < n + m) (hb : n + m ≤ 140737488355328) :
    ∃ a' n' cap' w', (Builtin.append_ #[t, tx] ty #[.slice a n cap, x]).run P w = .ok (.slice a' n' cap') w' ∧ n' = n + m ∧ OwnS w' w.heap.size a' n' cap' (zs ++ news) ∧ w.grownBy w' none := by
  have hnl : news.length = m := by have := hs.newsLen; rw [B8_length] at this; omega
  have hzl := hrd.len
  have h63 : n + m ≤ maxLen := by unfold maxLen; omega
  have hs1 : Src P i.size tx x m (B8 news) w := by rw [hsize]; exact hs
  have hold : (Builtin.firstCells i.size n (.slice a n cap)).run P w.drew = .ok (B8 zs).toArray w.drew := by
    rw [hsize]
    exact (hrd.drew.src (P := P) ht).cells
  have hrun := run_append_grow_src (P := P) w t tx ty 5 i (.int .u8 0) ht hi hz a n cap (B8 zs) hold x m (B8 news) hs1 (by omega) (by omega) (growslice_fits (by omega) (by rw [hby]; omega))
  have hge := grownCap_ge w (n + m) cap 5
  have hcm := grownCap_le_maxLen w (n + m) cap 5 h63
  refine ⟨_, _, _, _, hrun, rfl, ⟨by rw [List.length_append]; omega, by rw [B8_length, List.length_append]; omega, .inr ⟨w.heap.size, _, _, rfl, Nat.le_refl _, heap_alloc_new w.drew _, hge, hcm, ?_, ?_⟩⟩, ⟨rfl, rfl, rfl, by simp, fun k hk _ => Below.heap_alloc w.drew _ k hk⟩⟩
  · have hz1 : (Value.int IntKind.u8 0).cells.size = 1 := rfl
    simp only [Array.size_append, List.size_toArray, size_zeroCells, hz1, List.length_append, B8_length]
    omega
  · have hL : (B8 zs ++ B8 news).length = (n + m) * 1 := by simp only [List.length_append, B8_length]; omega
    simp only [Array.toList_append, B8_append]
    rw [← hL]
    exact List.take_left

theorem wpList_append_new (w : World) {ops : Array Oper} {rest : List Oper} {o : Oper} {a : Act} {Q : Exit → Act → World → Prop} (hgd : o.guard = none) (s x : Operand) (t tx : TypeId)
    (ho : o.op = .call { callee := .builtin .append, args := #[s, x], argTypes := #[t, tx] })
    (i : TypeInfo) (ht : P.underlying t = some (.slice 5)) (hi : P.info? 5 = some i) (hz : i.zero = some (.int .u8 0)) (hsize : i.size = 1) (hby : i.bytes = 1)
    (ad : Option Addr) (n cap : Nat) (zs : List Int) (hs : a.eval s = .slice ad n cap) (hrd : RdS w ad n cap zs) (xv : Value) (m : Nat) (news : List Int) (hx : a.eval x = xv) (hsrc : Src P 1 tx xv m (B8 news) w)
    (hg : cap < n + m) (hb : n + m ≤ 140737488355328)
    (h : ∀ a' n' cap' w', Hid (n' = n + m) → OwnS w' w.heap.size a' n' cap' (zs ++ news) → w.grownBy w' none → wpList P ops Q rest (a.put o.dst (.slice a' n' cap')) w') : wpList P ops Q (o :: rest) a w := by
  refine wpList_plain hgd fun K hK => ?_
  obtain ⟨a', n', cap', w', hr, h2, h3, h4⟩ := run_append_new (P := P) w t tx o.type i ht hi hz hsize hby ad n cap zs hrd xv m news hsrc hg hb
  unfold Oper.wp execOp
  simp only [ho, resolve, invoke, builtin, Sem.run_bind, Sem.run_pure, Result.andThen_ok, List.map_toArray, List.map_cons, List.map_nil, hs, hx, hr]
  exact hK _ _ (h a' n' cap' w' h2 h3 h4)
end
end Go.Proofs.Qxb6001102aDoor
