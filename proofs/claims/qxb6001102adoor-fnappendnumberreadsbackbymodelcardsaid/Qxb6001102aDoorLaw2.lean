import Derived.Test.Qxb6001102aDoorLaw
namespace Go.Proofs.Qxb6001102aDoor
open Go.RowKit

def decI (u : Nat) : List Int := (Lib.decDigits u).map fun b => (b.toNat : Int)

theorem toNat_dig (d : Nat) (h : d < 10) : ((UInt8.ofNat (48 + d)).toNat : Int) = 48 + (d : Int) := by
  have : ∀ d : Fin 10, ((UInt8.ofNat (48 + d.val)).toNat : Int) = 48 + (d.val : Int) := by decide
  exact this ⟨d, h⟩

theorem decI_small (u : Nat) (h : u < 10) : decI u = [48 + (u : Int)] := by
  unfold decI
  rw [Lib.decDigits, dif_pos h, List.map_cons, List.map_nil, toNat_dig u h]
theorem decI_big (u : Nat) (h : ¬ u < 10) : decI u = decI (u / 10) ++ [48 + ((u % 10 : Nat) : Int)] := by
  unfold decI
  rw [Lib.decDigits, dif_neg h, List.map_append, List.map_cons, List.map_nil, toNat_dig _ (Nat.mod_lt _ (by decide))]

theorem decI_facts : ∀ (f u : Nat), u < f → digs (decI u) ∧ 1 ≤ (decI u).length ∧ numL (decI u) = u
  | 0, _, h => absurd h (Nat.not_lt_zero _)
  | f + 1, u, h => by
    by_cases hu : u < 10
    · rw [decI_small u hu]
      refine ⟨digs_of _ fun c hc => ?_, by simp, by simp [numL]; omega⟩
      rw [List.mem_singleton] at hc
      unfold dig
      omega
    · rw [decI_big u hu]
      have ih := decI_facts f (u / 10) (by omega)
      refine ⟨digs_append ih.1 (digs_of _ fun c hc => ?_), by simp, ?_⟩
      · rw [List.mem_singleton] at hc
        unfold dig
        have := Nat.mod_lt u (show 10 > 0 by decide)
        omega
      · rw [numL_snoc, ih.2.2]
        omega
theorem decI_len : ∀ (k u : Nat), u < 10 ^ (k + 1) → (decI u).length ≤ k + 1
  | 0, u, h => by rw [decI_small u (by simpa using h)]; simp
  | k + 1, u, h => by
    by_cases hu : u < 10
    · rw [decI_small u hu]; simp
    · rw [decI_big u hu, List.length_append]
      have := decI_len k (u / 10) (by rw [Nat.pow_succ] at h; omega)
      simp
      omega

theorem itoaI_pos (i : Int) (h : 0 ≤ i) : itoaI i = decI i.toNat := by
  unfold itoaI decI Lib.itoa
  rw [if_neg (by omega)]
theorem itoaI_neg (i : Int) (h : i < 0) : itoaI i = 45 :: decI i.natAbs := by
  unfold itoaI decI Lib.itoa
  rw [if_pos h]
  rfl

/-- The text reads back. -/
theorem num_law (s : List Int) (p : Int) (hs : digs s) (hk : 1 ≤ s.length) (h0 : s.getD 0 0 ≠ 48) (hl : s.getD (s.length - 1) 0 ≠ 48) (hp1 : -536870912 ≤ p) (hp2 : p ≤ 536870912) :
    ∃ n p1 fs fe ev A L M, NumT (numText s p) n p1 fs fe ev ∧ A = (numText s p).take p1 ++ ((numText s p).drop fs).take (fe - fs) ∧ Strip A L M ∧ (A.take M).drop L = s ∧ (p1 : Int) - (L : Int) + ev = p ∧ -100000000000 ≤ ev ∧ ev ≤ 100000000000 := by
  unfold numText
  by_cases c1 : (s.length : Int) ≤ p ∧ p ≤ 21
  · rw [if_pos c1]
    obtain ⟨c, hc⟩ : ∃ c : Nat, (p - s.length).toNat = c := ⟨_, rfl⟩
    rw [hc]
    obtain ⟨n, fs, fe, hT, hA⟩ := NumT.make (s ++ List.replicate c 48) [] [] [] false 0 0 (digs_append hs (digs_zeros c)) (digs_of _ (by simp)) (digs_of _ (by simp)) (by rw [List.length_append]; omega) (.inr (by rw [getD_l s _ 0 (by omega)]; exact h0)) (by simp) (.inl ⟨rfl, rfl⟩)
    simp only [Bool.false_eq_true, if_false, List.append_nil] at hT hA
    have hS := Strip.make s 0 c hk h0 hl
    simp only [List.replicate_zero, List.nil_append, Nat.zero_add] at hS
    refine ⟨n, _, fs, fe, 0, s ++ List.replicate c 48, 0, s.length, hT, hA.symm, hS.1, by simp, ?_, by omega, by omega⟩
    simp
    omega
  · rw [if_neg c1]
    by_cases c2 : 0 < p ∧ p ≤ 21
    · rw [if_pos c2]
      obtain ⟨m, rfl⟩ : ∃ m : Nat, p = (m : Int) := ⟨p.toNat, by omega⟩
      rw [Int.toNat_natCast]
      have hlt : (s.take m).length = m := by rw [List.length_take]; omega
      obtain ⟨n, fs, fe, hT, hA⟩ := NumT.make (s.take m) (s.drop m) [] [] true 0 0 (digs_take hs m) (digs_drop hs m) (digs_of _ (by simp)) (by omega)
        (.inr (by
          have : (s.take m).getD 0 0 = s.getD 0 0 := by
            simp only [List.getD, List.getElem?_take]
            rw [if_pos (by omega)]
          rw [this]; exact h0)) (by simp; omega) (.inl ⟨rfl, rfl⟩)
      simp only [if_true, List.append_nil] at hT hA
      have e1 : s.take m ++ [46] ++ s.drop m = s.take m ++ 46 :: s.drop m := by simp
      rw [e1]
      have hS := Strip.make s 0 0 hk h0 hl
      simp only [List.replicate_zero, List.nil_append, List.append_nil, Nat.zero_add] at hS
      rw [List.take_append_drop] at hA
      refine ⟨n, _, fs, fe, 0, s, 0, s.length, hT, hA.symm, hS.1, by simp, ?_, by omega, by omega⟩
      rw [hlt]
      omega
    · rw [if_neg c2]
      by_cases c3 : -6 < p ∧ p ≤ 0
      · rw [if_pos c3]
        obtain ⟨c, hc⟩ : ∃ c : Nat, (-p).toNat = c := ⟨_, rfl⟩
        rw [hc]
        obtain ⟨n, fs, fe, hT, hA⟩ := NumT.make [48] (List.replicate c 48 ++ s) [] [] true 0 0 (digs_of _ (by simp [dig])) (digs_append (digs_zeros c) hs) (digs_of _ (by simp)) (by simp) (.inl rfl) (by simp; omega) (.inl ⟨rfl, rfl⟩)
        simp only [if_true, List.append_nil] at hT hA
        have e1 : [48, 46] ++ List.replicate c 48 ++ s = [48] ++ 46 :: (List.replicate c 48 ++ s) := by simp
        rw [e1]
        have hS := Strip.make s (c + 1) 0 hk h0 hl
        have e2 : List.replicate (c + 1) (48 : Int) ++ (s ++ List.replicate 0 48) = [48] ++ (List.replicate c 48 ++ s) := by simp [List.replicate_succ]
        rw [e2] at hS
        refine ⟨n, _, fs, fe, 0, [48] ++ (List.replicate c 48 ++ s), c + 1, c + 1 + s.length, hT, hA.symm, hS.1, hS.2, ?_, by omega, by omega⟩
        simp
        omega
      · rw [if_neg c3]
        have hs0 : [s.getD 0 0] ++ s.drop 1 = s := by
          cases s with
          | nil => simp at hk
          | cons x xs => simp
        have hd0 := hs 0 (by omega)
        have hS := Strip.make s 0 0 hk h0 hl
        simp only [List.replicate_zero, List.nil_append, List.append_nil, Nat.zero_add] at hS
        obtain ⟨sg, X, e, hX, hx1, hx9, hsg⟩ : ∃ sg X, ∃ (_ : [101] ++ (if 0 < p then [43] else []) ++ itoaI (p - 1) = 101 :: sg :: X), digs X ∧ 1 ≤ X.length ∧ X.length ≤ 9 ∧ ((sg = 43 ∧ p - 1 = numL X) ∨ (sg = 45 ∧ p - 1 = -numL X)) := by
          by_cases hp : 0 < p
          · have F := decI_facts _ (p - 1).toNat (Nat.lt_succ_self _)
            refine ⟨43, decI (p - 1).toNat, ?_, F.1, F.2.1, decI_len 8 _ (by omega), .inl ⟨rfl, ?_⟩⟩
            · rw [if_pos hp, itoaI_pos _ (by omega)]; rfl
            · rw [F.2.2]; omega
          · have F := decI_facts _ (p - 1).natAbs (Nat.lt_succ_self _)
            refine ⟨45, decI (p - 1).natAbs, ?_, F.1, F.2.1, decI_len 8 _ (by omega), .inr ⟨rfl, ?_⟩⟩
            · rw [if_neg hp, itoaI_neg _ (by omega)]; rfl
            · rw [F.2.2]; omega
        have hdig0 : digs [s.getD 0 0] := digs_of _ fun c hc => by rw [List.mem_singleton] at hc; rw [hc]; exact hd0
        by_cases hk1 : 1 < s.length
        · rw [if_pos hk1]
          obtain ⟨n, fs, fe, hT, hA⟩ := NumT.make [s.getD 0 0] (s.drop 1) X (101 :: sg :: X) true (p - 1) sg hdig0 (digs_drop hs 1) hX (by simp) (.inl rfl) (by simp; omega) (.inr ⟨rfl, hx1, hx9, hsg⟩)
          simp only [if_true] at hT hA
          have e1 : [s.getD 0 0] ++ ([46] ++ s.drop 1) ++ [101] ++ (if 0 < p then [43] else []) ++ itoaI (p - 1) = [s.getD 0 0] ++ (46 :: s.drop 1 ++ 101 :: sg :: X) := by
            rw [← e]; simp
          rw [e1]
          rw [hs0] at hA
          exact ⟨n, _, fs, fe, p - 1, s, 0, s.length, hT, hA.symm, hS.1, by simp, by simp; omega, by omega, by omega⟩
        · rw [if_neg hk1]
          obtain ⟨n, fs, fe, hT, hA⟩ := NumT.make [s.getD 0 0] [] X (101 :: sg :: X) false (p - 1) sg hdig0 (digs_of _ (by simp)) hX (by simp) (.inl rfl) (by simp) (.inr ⟨rfl, hx1, hx9, hsg⟩)
          simp only [Bool.false_eq_true, if_false, List.nil_append, List.append_nil] at hT hA
          have e1 : [s.getD 0 0] ++ [] ++ [101] ++ (if 0 < p then [43] else []) ++ itoaI (p - 1) = [s.getD 0 0] ++ 101 :: sg :: X := by
            rw [← e]; simp
          rw [e1]
          have e2 : s.drop 1 = [] := List.drop_eq_nil_of_le (by omega)
          rw [e2, List.append_nil] at hs0
          rw [hs0] at hA hT ⊢
          exact ⟨n, _, fs, fe, p - 1, s, 0, s.length, hT, hA.symm, hS.1, by simp, by omega, by omega, by omega⟩
end Go.Proofs.Qxb6001102aDoor
