import Derived.Test.Qxb6002387aUse
namespace Go.Proofs.Qxb6002387a
set_option linter.unusedVariables false

set_option maxHeartbeats 2000000 in
theorem b128_free {x y : Int} {u v : List Int} (x0 : 0 ≤ x) (x1 : x < 4294967296) (y0 : 0 ≤ y) (y1 : y < 4294967296) (h : b128 x ++ u = b128 y ++ v) : x = y ∧ u = v := by
  unfold b128 at h
  (repeat' split at h) <;> simp only [List.cons_append, List.nil_append, List.cons.injEq] at h <;>
    first
    | (exfalso; omega)
    | exact ⟨by omega, h.2⟩
    | exact ⟨by omega, h.2.2⟩
    | exact ⟨by omega, h.2.2.2⟩
    | exact ⟨by omega, h.2.2.2.2⟩
    | exact ⟨by omega, h.2.2.2.2.2⟩

set_option maxHeartbeats 2000000 in
theorem lenB_free {x y : Int} {u v : List Int} (x0 : 0 ≤ x) (x1 : x < 16777216) (y0 : 0 ≤ y) (y1 : y < 16777216) (h : lenB x ++ u = lenB y ++ v) : x = y ∧ u = v := by
  unfold lenB at h
  (repeat' split at h) <;> simp only [List.cons_append, List.nil_append, List.cons.injEq] at h <;>
    first
    | (exfalso; omega)
    | exact ⟨by omega, h.2⟩
    | exact ⟨by omega, h.2.2⟩
    | exact ⟨by omega, h.2.2.2⟩
    | exact ⟨by omega, h.2.2.2.2⟩

theorem tagF_free {cl cl' n n' : Int} {cons cons' : Bool} (a0 : 0 ≤ cl) (a1 : cl ≤ 3) (b0 : 0 ≤ cl') (b1 : cl' ≤ 3) (c0 : 0 ≤ n) (c1 : n ≤ 31) (d0 : 0 ≤ n') (d1 : n' ≤ 31) (h : tagF cl cons + n = tagF cl' cons' + n') : cl = cl' ∧ cons = cons' ∧ n = n' := by
  unfold tagF at h
  cases cons <;> cases cons' <;> simp at h <;> refine ⟨by omega, ?_, by omega⟩ <;> first | rfl | (exfalso; omega)

theorem tagB_free {cl cl' x y : Int} {cons cons' : Bool} {u v : List Int} (a0 : 0 ≤ cl) (a1 : cl ≤ 3) (b0 : 0 ≤ cl') (b1 : cl' ≤ 3) (x0 : 0 ≤ x) (x1 : x < 4294967296) (y0 : 0 ≤ y) (y1 : y < 4294967296) (h : tagB cl cons x ++ u = tagB cl' cons' y ++ v) : cl = cl' ∧ cons = cons' ∧ x = y ∧ u = v := by
  unfold tagB at h
  split at h <;> split at h <;> simp only [List.cons_append, List.nil_append, List.cons.injEq] at h
  · obtain ⟨e1, e2, e3⟩ := tagF_free a0 a1 b0 b1 x0 (by omega) y0 (by omega) h.1
    exact ⟨e1, e2, e3, h.2⟩
  · obtain ⟨e1, e2, e3⟩ := tagF_free a0 a1 b0 b1 x0 (by omega) (by omega) (by omega) h.1
    omega
  · obtain ⟨e1, e2, e3⟩ := tagF_free a0 a1 b0 b1 (by omega) (by omega) y0 (by omega) h.1
    omega
  · obtain ⟨e1, e2, e3⟩ := tagF_free a0 a1 b0 b1 (by omega) (by omega) (by omega) (by omega) h.1
    obtain ⟨e4, e5⟩ := b128_free x0 x1 y0 y1 h.2
    exact ⟨e1, e2, e4, e5⟩

theorem encB_free {cl cl' x y : Int} {cons cons' : Bool} {L L' r r' : List Int} (a0 : 0 ≤ cl) (a1 : cl ≤ 3) (b0 : 0 ≤ cl') (b1 : cl' ≤ 3) (x0 : 0 ≤ x) (x1 : x < 4294967296) (y0 : 0 ≤ y) (y1 : y < 4294967296) (l1 : L.length < 16777216) (l2 : L'.length < 16777216)
    (h : encB cl cons x L ++ r = encB cl' cons' y L' ++ r') : cl = cl' ∧ cons = cons' ∧ x = y ∧ L = L' := by
  unfold encB at h
  rw [List.append_assoc, List.append_assoc, List.append_assoc, List.append_assoc] at h
  obtain ⟨e1, e2, e3, h⟩ := tagB_free a0 a1 b0 b1 x0 x1 y0 y1 h
  obtain ⟨e4, h⟩ := lenB_free (by omega) (by omega) (by omega) (by omega) h
  exact ⟨e1, e2, e3, (List.append_inj h (by omega)).1⟩

/-- Same tag and same content. -/
def same (cl : Int) (cons : Bool) (x : Int) (L : List Int) (cl' : Int) (cons' : Bool) (y : Int) (L' : List Int) : Bool := decide (cl = cl' ∧ cons = cons' ∧ x = y ∧ L = L')

theorem encB_same {cl cl' x y : Int} {cons cons' : Bool} {L L' : List Int} (a0 : 0 ≤ cl) (a1 : cl ≤ 3) (b0 : 0 ≤ cl') (b1 : cl' ≤ 3) (x0 : 0 ≤ x) (x1 : x < 4294967296) (y0 : 0 ≤ y) (y1 : y < 4294967296) (l1 : L.length < 16777216) (l2 : L'.length < 16777216) :
    decide (encB cl cons x L = encB cl' cons' y L') = same cl cons x L cl' cons' y L' := by
  unfold same
  rw [decide_eq_decide]
  constructor
  · intro h
    exact encB_free (r := []) (r' := []) a0 a1 b0 b1 x0 x1 y0 y1 l1 l2 (by rw [h])
  · rintro ⟨rfl, rfl, rfl, rfl⟩
    rfl

theorem encB_prefix {cl cl' x y : Int} {cons cons' : Bool} {L L' : List Int} {k : Nat} (a0 : 0 ≤ cl) (a1 : cl ≤ 3) (b0 : 0 ≤ cl') (b1 : cl' ≤ 3) (x0 : 0 ≤ x) (x1 : x < 4294967296) (y0 : 0 ≤ y) (y1 : y < 4294967296) (l1 : L.length < 16777216) (l2 : L'.length < 16777216)
    (h : encB cl cons x L = (encB cl' cons' y L').take k) : same cl cons x L cl' cons' y L' = true := by
  unfold same
  refine decide_eq_true (encB_free (r := (encB cl' cons' y L').drop k) (r' := []) a0 a1 b0 b1 x0 x1 y0 y1 l1 l2 ?_)
  rw [h, List.take_append_drop, List.append_nil]
end Go.Proofs.Qxb6002387a
