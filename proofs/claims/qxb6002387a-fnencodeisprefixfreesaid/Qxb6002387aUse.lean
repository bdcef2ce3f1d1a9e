import Derived.Test.Qxb6002387aCop
namespace Go.Proofs.Qxb6002387a
open Go.RowKit
set_option linter.unusedVariables false

def encB (cl : Int) (cons : Bool) (num : Int) (L : List Int) : List Int := tagB cl cons num ++ lenB ((L.length : Nat) : Int) ++ L
def headN (cl : Int) (cons : Bool) (num : Int) (n : Nat) : Nat := (tagB cl cons num ++ lenB ((n : Nat) : Int)).length
theorem encB_length (cl : Int) (cons : Bool) (num : Int) (L : List Int) : (encB cl cons num L).length = headN cl cons num L.length + L.length := by
  simp [encB, headN]; omega
theorem headN_le (cl : Int) (cons : Bool) (num : Int) (n : Nat) : headN cl cons num n ≤ 10 := by
  have h1 := tagB_len cl cons num
  have h2 := lenB_len ((n : Nat) : Int)
  unfold headN
  rw [List.length_append]
  omega
theorem headN_pos (cl : Int) (cons : Bool) (num : Int) (n : Nat) : 0 < headN cl cons num n := by
  unfold headN tagB
  split <;> simp
theorem encB_drop (cl : Int) (cons : Bool) (num : Int) (L : List Int) (H : Nat) (hH : H = headN cl cons num L.length) : (encB cl cons num L).drop H = L := by
  subst hH
  exact List.drop_left
theorem encB_take (cl : Int) (cons : Bool) (num : Int) (L : List Int) (H : Nat) (hH : H = headN cl cons num L.length) : (encB cl cons num L).take H = tagB cl cons num ++ lenB ((L.length : Nat) : Int) := by
  subst hH
  exact List.take_left

theorem enc_one (W : World) (g : Nat) (hg : W.heap.size = g) (a : Option Addr) (n c : Nat) (L : List Int) (R : RdS W a n c L) (hn : n < 16777216) (t : TypeId) (cl : Int) (cons : Bool) (num : Int) (c0 : 0 ≤ cl) (c1 : cl ≤ 255) (n0 : 0 ≤ num) (n1 : num < 4294967296) :
    Calls Try.prog 8 #[.agg #[.int .u8 cl, .bool cons, .int .u32 num], .slice (some ⟨g, 0, none⟩) 1 1] (W.alloc (.cells #[.slice a n c] t)) fun e w' => ∃ a' n' c', e = .returned (.slice a' n' c') ∧ RdS w' a' n' c' (encB cl cons num L) ∧ W.grownBy w' none := by
  have hf : flat [⟨a, n, c, L⟩] = L := by simp [flat]
  refine (enc_any g 1 [⟨a, n, c, L⟩] _ (Pcs.one W g hg a n c L R t) rfl (by omega) cl cons num c0 c1 n0 n1 (by rw [hf, R.len]; exact hn)).mono ?_
  rintro e w' ⟨a', n', c', rfl, ho, G⟩
  rw [hf] at ho
  exact ⟨a', n', c', rfl, ho.rd, (World.grownBy_alloc _ _ _).trans G⟩

theorem enc_three (W : World) (g : Nat) (hg : W.heap.size = g) (a : Option Addr) (n c : Nat) (zs : List Int) (h : RdS W a n c zs) (a' : Option Addr) (n' c' : Nat) (zs' : List Int) (h' : RdS W a' n' c' zs') (a'' : Option Addr) (n'' c'' : Nat) (zs'' : List Int) (h'' : RdS W a'' n'' c'' zs'') (hn : n + n' + n'' < 16777216) (t : TypeId) (cl : Int) (cons : Bool) (num : Int) (c0 : 0 ≤ cl) (c1 : cl ≤ 255) (n0 : 0 ≤ num) (n1 : num < 4294967296) :
    Calls Try.prog 8 #[.agg #[.int .u8 cl, .bool cons, .int .u32 num], .slice (some ⟨g, 0, none⟩) 3 3] (W.alloc (.cells #[.slice a n c, .slice a' n' c', .slice a'' n'' c''] t)) fun e w' => ∃ a' n' c', e = .returned (.slice a' n' c') ∧ RdS w' a' n' c' (encB cl cons num (zs ++ zs' ++ zs'')) ∧ W.grownBy w' none := by
  have hf : flat [⟨a, n, c, zs⟩, ⟨a', n', c', zs'⟩, ⟨a'', n'', c'', zs''⟩] = zs ++ zs' ++ zs'' := by simp [flat]
  refine (enc_any g 3 _ _ (Pcs.three W g hg a n c zs h a' n' c' zs' h' a'' n'' c'' zs'' h'' t) rfl (by omega) cl cons num c0 c1 n0 n1 (by rw [hf, List.length_append, List.length_append, h.len, h'.len, h''.len]; exact hn)).mono ?_
  rintro e w' ⟨a', n', c', rfl, ho, G⟩
  rw [hf] at ho
  exact ⟨a', n', c', rfl, ho.rd, (World.grownBy_alloc _ _ _).trans G⟩

theorem eq_two (a1 : Option Addr) (n1 c1 : Nat) (xs : List Int) (a2 : Option Addr) (n2 c2 : Nat) (ys : List Int) (w : World) (h1 : RdS w a1 n1 c1 xs) (h2 : RdS w a2 n2 c2 ys) (b : Bool) (hb : decide (xs = ys) = b) :
    Calls Try.prog 9 #[.slice a1 n1 c1, .slice a2 n2 c2] w fun e w' => e = .returned (.bool b) ∧ w.grownBy w' none := by
  refine (eq_any a1 n1 c1 xs a2 n2 c2 ys w h1 h2).mono ?_
  rintro e w' ⟨rfl, q, rfl⟩
  exact ⟨by rw [hb], grownBy_drewN _ _⟩

theorem RdS.drewN {w : World} {a : Option Addr} {n cap : Nat} {zs : List Int} (h : RdS w a n cap zs) (k : Nat) : RdS (w.drewN k) a n cap zs :=
  ⟨h.len, h.le, h.max, h.nil, h.pos⟩
theorem eq_q (a1 : Option Addr) (n1 c1 : Nat) (xs : List Int) (a2 : Option Addr) (n2 c2 : Nat) (ys : List Int) (w : World) (h1 : RdS w a1 n1 c1 xs) (h2 : RdS w a2 n2 c2 ys) (b : Bool) (hb : decide (xs = ys) = b) :
    Calls Try.prog 9 #[.slice a1 n1 c1, .slice a2 n2 c2] w fun e w' => e = .returned (.bool b) ∧ ∃ q, w' = w.drewN q := by
  refine (eq_any a1 n1 c1 xs a2 n2 c2 ys w h1 h2).mono ?_
  rintro e w' ⟨rfl, q, rfl⟩
  exact ⟨by rw [hb], q, rfl⟩

theorem RdS.to {w : World} {b o n cap : Nat} {zs : List Int} (h : RdS w (some ⟨b, o, none⟩) n cap zs) (u : Nat) (hu : u ≤ n) : RdS w (some ⟨b, o, none⟩) u cap (zs.take u) := by
  have := h.cut 0 u (by omega) hu (some ⟨b, o, none⟩) (fun _ => by simp [Addr.add]) (fun _ => rfl)
  simpa using this
theorem RdS.from {w : World} {b o n cap : Nat} {zs : List Int} (h : RdS w (some ⟨b, o, none⟩) n cap zs) (l : Nat) (hl : l ≤ n) (hc : cap ≠ l) : RdS w (some ⟨b, o + l, none⟩) (n - l) (cap - l) (zs.drop l) := by
  have hle := h.le
  have := h.cut l n hl (Nat.le_refl _) (some ⟨b, o + l, none⟩) (fun _ => by simp [Addr.add_lit]) (fun h => by omega)
  rwa [List.take_of_length_le (Nat.le_of_eq h.len)] at this
theorem RdS.from0 {w : World} {a : Option Addr} {n cap : Nat} {zs : List Int} (h : RdS w a n cap zs) (l : Nat) (hl : l ≤ n) (hc : cap = l) : RdS w a (n - l) 0 (zs.drop l) := by
  have := h.cut l n hl (Nat.le_refl _) a (fun h => by omega) (fun _ => rfl)
  rwa [List.take_of_length_le (Nat.le_of_eq h.len), show cap - l = 0 from by omega] at this
theorem RdS.to' {w : World} {a : Option Addr} {n cap : Nat} {zs : List Int} (h : RdS w a n cap zs) (u : Nat) (hu : u ≤ n) : RdS w a u cap (zs.take u) := by
  have := h.cut 0 u (by omega) hu a (fun _ => by cases a <;> simp [Addr.add]) (fun _ => rfl)
  simpa using this
theorem enc_oneD (W : World) (g : Nat) (hg : W.heap.size = g) (a : Option Addr) (n c : Nat) (L : List Int) (R : RdS W a n c L) (hn : n < 16777216) (t : TypeId) (cl : Int) (cons : Bool) (num : Int) (c0 : 0 ≤ cl) (c1 : cl ≤ 255) (n0 : 0 ≤ num) (n1 : num < 4294967296) :
    Calls Try.prog 8 #[.agg #[.int .u8 cl, .bool cons, .int .u32 num], .slice (some ⟨g, 0, none⟩) 1 1] (W.alloc (.cells #[.slice a n c] t)).drew fun e w' => ∃ a' n' c', e = .returned (.slice a' n' c') ∧ RdS w' a' n' c' (encB cl cons num L) ∧ W.grownBy w' none := by
  have hf : flat [⟨a, n, c, L⟩] = L := by simp [flat]
  refine (enc_any g 1 [⟨a, n, c, L⟩] _ ((Pcs.one W g hg a n c L R t).onward (grownBy_drew _)) rfl (by omega) cl cons num c0 c1 n0 n1 (by rw [hf, R.len]; exact hn)).mono ?_
  rintro e w' ⟨a', n', c', rfl, ho, G⟩
  rw [hf] at ho
  exact ⟨a', n', c', rfl, ho.rd, ((World.grownBy_alloc _ _ _).trans (grownBy_drew _)).trans G⟩

/-- The tag lies in block g. -/
structure TagAt (w : World) (g : Nat) (cl : Int) (cons : Bool) (num : Int) : Prop where
  at_ : w.heap[g]? = some (.cells #[.int .u8 cl, .bool cons, .int .u32 num] 27)
theorem tag_at (w : World) (g : Nat) (hg : w.heap.size = g) (cl : Int) (cons : Bool) (num : Int) : TagAt (w.alloc (.cells #[.int .u8 cl, .bool cons, .int .u32 num] 27)) g cl cons num := by
  subst hg
  exact ⟨heap_alloc_new w _⟩
theorem TagAt.onward {w w' : World} {g : Nat} {cl : Int} {cons : Bool} {num : Int} (h : TagAt w g cl cons num) (hg : w.grownBy w' none) : TagAt w' g cl cons num :=
  ⟨(hg.block g (Array.getElem?_eq_some_iff.1 h.at_).1 (by simp)).trans h.at_⟩
theorem TagAt.cells {w : World} {g : Nat} {cl : Int} {cons : Bool} {num : Int} (h : TagAt w g cl cons num) : w.cell? ⟨g, 0, none⟩ = some (.int .u8 cl) ∧ w.cell? ⟨g, 1, none⟩ = some (.bool cons) ∧ w.cell? ⟨g, 2, none⟩ = some (.int .u32 num) :=
  ⟨cell_row h.at_, cell_row h.at_, cell_row h.at_⟩

theorem TagAt.lt {w : World} {g : Nat} {cl : Int} {cons : Bool} {num : Int} (h : TagAt w g cl cons num) : g < w.heap.size := (Array.getElem?_eq_some_iff.1 h.at_).1

theorem run_mk0 (X : Int) (N : Nat) (hX : X = (N : Int)) (hN : N ≤ 1099511627776) (W : World) : Sem.run Try.prog (Instr.makeSlice 23 (.int .i64 0) (.int .i64 X)) W = .ok (.slice (some ⟨W.heap.size, 0, none⟩) 0 N) (W.alloc (.cells (madeZ N) 5)) := by
  subst hX
  obtain ⟨i0, hi, hz0, hz1, hz2⟩ := info_parts info5
  have := run_make (P := Try.prog) W 23 5 i0 (.int .u8 0) Try.underlying23 hi hz0 .i64 .i64 0 (N : Int) (by omega) (by omega) (by rw [hz2]; omega) (by omega)
  rw [this, hz1, show ((N : Int)).toNat = N from by omega, Nat.mul_one]
  rfl
end Go.Proofs.Qxb6002387a
