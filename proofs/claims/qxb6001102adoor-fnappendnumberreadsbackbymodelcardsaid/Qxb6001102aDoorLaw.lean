import Derived.Test.Qxb6001102aDoorMod
import Derived.Test.Qxb6001102aDoorNum
namespace Go.Proofs.Qxb6001102aDoor
open Go.RowKit

theorem getD_l (a b : List Int) (k : Nat) (h : k < a.length) : (a ++ b).getD k 0 = a.getD k 0 := by
  simp [List.getD, List.getElem?_append_left h]
theorem getD_r (a b : List Int) (k : Nat) (h : a.length ≤ k) : (a ++ b).getD k 0 = b.getD (k - a.length) 0 := by
  simp [List.getD, List.getElem?_append_right h]
theorem getD_r' (a b : List Int) (k : Nat) : (a ++ b).getD (a.length + k) 0 = b.getD k 0 := by
  rw [getD_r a b _ (by omega)]
  congr 1
  omega

def digs (l : List Int) : Prop := ∀ k, k < l.length → dig (l.getD k 0)
theorem digs_of (l : List Int) (h : ∀ c ∈ l, dig c) : digs l := by
  intro k hk
  have e : l.getD k 0 = l[k] := by simp [List.getD, hk]
  rw [e]
  exact h _ (List.getElem_mem _)
theorem digs_append {a b : List Int} (ha : digs a) (hb : digs b) : digs (a ++ b) := by
  intro k hk
  by_cases h : k < a.length
  · rw [getD_l a b k h]; exact ha k h
  · rw [getD_r a b k (by omega)]; exact hb _ (by rw [List.length_append] at hk; omega)
theorem digs_take {a : List Int} (ha : digs a) (m : Nat) : digs (a.take m) := by
  intro k hk
  rw [List.length_take] at hk
  have : (a.take m).getD k 0 = a.getD k 0 := by
    simp only [List.getD, List.getElem?_take]
    rw [if_pos (by omega)]
  rw [this]
  exact ha k (by omega)
theorem digs_drop {a : List Int} (ha : digs a) (m : Nat) : digs (a.drop m) := by
  intro k hk
  rw [List.length_drop] at hk
  have : (a.drop m).getD k 0 = a.getD (m + k) 0 := by simp [List.getD]
  rw [this]
  exact ha _ (by omega)
theorem digs_zeros (c : Nat) : digs (List.replicate c 48) := digs_of _ fun x hx => by
  rw [List.mem_replicate] at hx
  unfold dig
  omega

/-- A text with its fraction and its exponent. -/
theorem NumT.make (I F X ex : List Int) (fr : Bool) (ev : Int) (sg : Int) (hI : digs I) (hF : digs F) (hX : digs X) (h1 : 1 ≤ I.length) (hz : I.length = 1 ∨ I.getD 0 0 ≠ 48)
    (hfr : if fr then 1 ≤ F.length else F = [])
    (hex : (ex = [] ∧ ev = 0) ∨ (ex = 101 :: sg :: X ∧ 1 ≤ X.length ∧ X.length ≤ 9 ∧ ((sg = 43 ∧ ev = numL X) ∨ (sg = 45 ∧ ev = -numL X)))) :
    ∃ n fs fe, NumT (I ++ ((if fr then 46 :: F else []) ++ ex)) n I.length fs fe ev ∧
      (I ++ ((if fr then 46 :: F else []) ++ ex)).take I.length ++ ((I ++ ((if fr then 46 :: F else []) ++ ex)).drop fs).take (fe - fs) = I ++ F := by
  have e0 : (I ++ ((if fr then 46 :: F else []) ++ ex)).take I.length = I := List.take_left
  cases fr with
  | false =>
    simp only [Bool.false_eq_true, if_false] at hfr e0 ⊢
    subst hfr
    rw [List.nil_append] at e0 ⊢
    refine ⟨_, I.length, I.length, ⟨rfl, h1, Nat.le_refl _, by rw [List.length_append]; omega, fun k hk => ?_, ?_, .inl ⟨rfl, rfl⟩, ?_⟩, by rw [e0, Nat.sub_self, List.take_zero]⟩
    · rw [getD_l I ex k hk]; exact hI k hk
    · rw [getD_l I ex 0 (by omega)]; exact hz
    · rcases hex with ⟨rfl, rfl⟩ | ⟨rfl, hx1, hx9, hs⟩
      · exact .inl ⟨by simp, rfl⟩
      · right
        have eX : (I ++ 101 :: sg :: X).drop (I.length + 2) = X := by
          rw [show I ++ 101 :: sg :: X = (I ++ [101, sg]) ++ X from by simp, show I.length + 2 = (I ++ [101, sg]).length from by simp]
          exact List.drop_left
        refine ⟨by simp; omega, by simp; omega, ?_, ?_, ?_⟩
        · have := getD_r' I (101 :: sg :: X) 0
          rw [Nat.add_zero] at this
          rw [this]; rfl
        · intro k hk0 hk
          rw [show I ++ 101 :: sg :: X = (I ++ [101, sg]) ++ X from by simp, getD_r _ X k (by simp; omega)]
          refine hX _ ?_
          simp at hk ⊢
          omega
        · rw [getD_r' I (101 :: sg :: X) 1, eX]
          exact hs
  | true =>
    simp only [if_true] at hfr e0 ⊢
    have eF : ((I ++ ((46 :: F) ++ ex)).drop (I.length + 1)).take F.length = F := by
      rw [show I ++ ((46 :: F) ++ ex) = (I ++ [46]) ++ (F ++ ex) from by simp, show I.length + 1 = (I ++ [46]).length from by simp, List.drop_left]
      exact List.take_left
    refine ⟨_, I.length + 1, I.length + 1 + F.length, ⟨rfl, h1, by omega, by simp; omega, fun k hk => ?_, ?_, .inr ⟨rfl, by omega, ?_, fun k hk0 hk => ?_⟩, ?_⟩, by rw [e0, show I.length + 1 + F.length - (I.length + 1) = F.length from by omega, eF]⟩
    · rw [getD_l I _ k hk]; exact hI k hk
    · rw [getD_l I _ 0 (by omega)]; exact hz
    · have := getD_r' I ((46 :: F) ++ ex) 0
      rw [Nat.add_zero] at this
      rw [this]; rfl
    · rw [show I ++ ((46 :: F) ++ ex) = (I ++ [46]) ++ (F ++ ex) from by simp, getD_r _ (F ++ ex) k (by simp; omega), getD_l F ex _ (by simp; omega)]
      exact hF _ (by simp; omega)
    · rcases hex with ⟨rfl, rfl⟩ | ⟨rfl, hx1, hx9, hs⟩
      · exact .inl ⟨by simp; omega, rfl⟩
      · right
        have eA : I ++ ((46 :: F) ++ 101 :: sg :: X) = (I ++ 46 :: F) ++ 101 :: sg :: X := by simp
        have eL : (I ++ 46 :: F).length = I.length + 1 + F.length := by simp; omega
        have eX : (I ++ ((46 :: F) ++ 101 :: sg :: X)).drop (I.length + 1 + F.length + 2) = X := by
          rw [show I ++ ((46 :: F) ++ 101 :: sg :: X) = (I ++ 46 :: F ++ [101, sg]) ++ X from by simp, show I.length + 1 + F.length + 2 = (I ++ 46 :: F ++ [101, sg]).length from by simp; omega]
          exact List.drop_left
        refine ⟨by simp; omega, by simp; omega, ?_, ?_, ?_⟩
        · have := getD_r' (I ++ 46 :: F) (101 :: sg :: X) 0
          rw [Nat.add_zero, eL] at this
          rw [eA, this]; rfl
        · intro k hk0 hk
          rw [show I ++ ((46 :: F) ++ 101 :: sg :: X) = (I ++ 46 :: F ++ [101, sg]) ++ X from by simp, getD_r _ X k (by simp; omega)]
          refine hX _ ?_
          simp at hk ⊢
          omega
        · have := getD_r' (I ++ 46 :: F) (101 :: sg :: X) 1
          rw [eL] at this
          rw [eA, this, ← eA, eX]
          exact hs

/-- Zeros, the digits, zeros. -/
theorem Strip.make (s : List Int) (L T : Nat) (hk : 1 ≤ s.length) (h0 : s.getD 0 0 ≠ 48) (hl : s.getD (s.length - 1) 0 ≠ 48) :
    Strip (List.replicate L 48 ++ (s ++ List.replicate T 48)) L (L + s.length) ∧ ((List.replicate L 48 ++ (s ++ List.replicate T 48)).take (L + s.length)).drop L = s := by
  have eL : (List.replicate L (48 : Int)).length = L := by simp
  have zr : ∀ c k, k < c → (List.replicate c (48 : Int)).getD k 0 = 48 := fun c k h => by simp [List.getD, h]
  refine ⟨⟨by omega, by simp, fun k hk' => ?_, ?_, fun k h1 h2 => ?_, ?_⟩, ?_⟩
  · rw [getD_l _ _ k (by simpa using hk')]; exact zr L k hk'
  · have := getD_r' (List.replicate L 48) (s ++ List.replicate T 48) 0
    rw [Nat.add_zero, eL] at this
    rw [this, getD_l s _ 0 (by omega)]; exact h0
  · rw [getD_r _ _ k (by rw [eL]; omega), eL, getD_r s _ _ (by omega)]
    apply zr
    simp at h2
    omega
  · rw [getD_r _ _ _ (by rw [eL]; omega), eL, getD_l s _ _ (by omega), show L + s.length - 1 - L = s.length - 1 from by omega]
    exact hl
  · rw [show L + s.length = (List.replicate L (48 : Int) ++ s).length from by simp, ← List.append_assoc, List.take_left]
    conv => lhs; arg 1; rw [← eL]
    exact List.drop_left
end Go.Proofs.Qxb6001102aDoor
