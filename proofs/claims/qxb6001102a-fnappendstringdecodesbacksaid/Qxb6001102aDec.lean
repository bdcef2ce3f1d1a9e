/-
  OWN WORK, PLAIN: where the text of each byte stands inside the text of the whole.
-/
import Derived.Test.Qxb6001102aEnc
namespace Go.Proofs.Qxb6001102a

theorem split_at (bs : List Int) (k : Nat) (hk : k < bs.length) : bs = bs.take k ++ bs.getD k 0 :: bs.drop (k + 1) := by
  have e : bs.getD k 0 = bs[k] := by simp [List.getD, hk]
  rw [e, ← List.drop_eq_getElem_cons hk, List.take_append_drop]

theorem enc_split (bs : List Int) (k : Nat) (hk : k < bs.length) : enc bs = (34 :: escs (bs.take k)) ++ (esc (bs.getD k 0) ++ (escs (bs.drop (k + 1)) ++ [34])) := by
  unfold enc
  conv => lhs; rw [split_at bs k hk, escs_append, escs_cons]
  simp

theorem enc_at (bs : List Int) (k j p : Nat) (hk : k < bs.length) (hp : p = 1 + (escs (bs.take k)).length) (l : List Int) (hl : esc (bs.getD k 0) = l) (hj : j < l.length) : (enc bs).getD (p + j) 0 = l.getD j 0 := by
  rw [enc_split bs k hk, hl]
  subst hp
  simp only [List.getD]
  rw [List.getElem?_append_right (by simp; omega), List.getElem?_append_left (by simp; omega)]
  congr 2
  simp; omega

theorem enc_room (bs : List Int) (k p : Nat) (hk : k < bs.length) (hp : p = 1 + (escs (bs.take k)).length) (l : List Int) (hl : esc (bs.getD k 0) = l) : p + l.length + 1 ≤ (enc bs).length := by
  rw [enc_split bs k hk, hl]
  simp only [List.length_append, List.length_cons, List.length_nil]
  omega

theorem enc_next (bs : List Int) (k p : Nat) (hk : k < bs.length) (hp : p = 1 + (escs (bs.take k)).length) (l : List Int) (hl : esc (bs.getD k 0) = l) : p + l.length = 1 + (escs (bs.take (k + 1))).length := by
  have e : bs.getD k 0 = bs[k] := by simp [List.getD, hk]
  rw [List.take_succ_eq_append_getElem hk, escs_snoc, ← e, hl, List.length_append]
  omega

theorem enc_end (bs : List Int) (p : Nat) (hp : p = 1 + (escs (bs.take bs.length)).length) : (enc bs).getD p 0 = 34 ∧ (enc bs).length = p + 1 := by
  rw [List.take_length] at hp
  subst hp
  refine ⟨?_, by rw [enc_length]; omega⟩
  simp only [enc, List.getD]
  rw [List.getElem?_append_right (by simp; omega)]
  simp [Nat.add_comm]

theorem take_snoc' (bs : List Int) (k : Nat) (hk : k < bs.length) (c : Int) (hc : bs.getD k 0 = c) : bs.take k ++ [c] = bs.take (k + 1) := by
  have e : bs.getD k 0 = bs[k] := by simp [List.getD, hk]
  rw [List.take_succ_eq_append_getElem hk, ← e, hc]

/-- What the four digits come to. -/
def vAt (c : Int) (d : Nat) : Int := if d ≤ 2 then 0 else if d = 3 then c / 16 else c

/-- hexVal's answer at a digit. -/
def isHex (x y : Int) : Prop := (48 ≤ x ∧ x ≤ 57 ∧ y = x - 48) ∨ (97 ≤ x ∧ x ≤ 102 ∧ y = x - 87)
theorem isHex_hexd (y : Int) (h0 : 0 ≤ y) (h1 : y < 16) : isHex (hexd y) y := by
  unfold isHex hexd
  split <;> omega
theorem esc_ctl (c : Int) (q34 : ¬ (c = 34 ∨ c = 92)) (q8 : ¬ c = 8) (q12 : ¬ c = 12) (q10 : ¬ c = 10) (q13 : ¬ c = 13) (q9 : ¬ c = 9) (h : c < 32) : esc c = [92, 117, 48, 48, hexd (c / 16), hexd (c % 16)] := by
  unfold esc
  rw [if_neg q34, if_neg q8, if_neg q12, if_neg q10, if_neg q13, if_neg q9, if_pos h]
end Go.Proofs.Qxb6001102a
