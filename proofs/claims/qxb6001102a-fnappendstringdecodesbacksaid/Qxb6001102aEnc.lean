/-
  OWN WORK, PLAIN: the text that appendString writes, as a list of numbers.
-/
namespace Go.Proofs.Qxb6001102a

def hexd (n : Int) : Int := if n < 10 then 48 + n else 87 + n

/-- The text of one byte. -/
def esc (c : Int) : List Int :=
  if c = 34 ∨ c = 92 then [92, c] else if c = 8 then [92, 98] else if c = 12 then [92, 102] else if c = 10 then [92, 110] else if c = 13 then [92, 114] else if c = 9 then [92, 116]
  else if c < 32 then [92, 117, 48, 48, hexd (c / 16), hexd (c % 16)] else [c]

def escs (l : List Int) : List Int := l.flatMap esc
def enc (l : List Int) : List Int := 34 :: escs l ++ [34]

theorem escs_nil : escs [] = [] := rfl
theorem escs_cons (c : Int) (l : List Int) : escs (c :: l) = esc c ++ escs l := rfl
theorem escs_append (a b : List Int) : escs (a ++ b) = escs a ++ escs b := by simp [escs]
theorem escs_snoc (a : List Int) (c : Int) : escs (a ++ [c]) = escs a ++ esc c := by simp [escs]

/-- Does the byte stand as itself? -/
def plainB (c : Int) : Bool := !(decide (c < 32) || decide (c = 34) || decide (c = 92))

theorem esc_plain (c : Int) (h : plainB c = true) : esc c = [c] := by
  simp [plainB] at h
  unfold esc
  rw [if_neg (by omega), if_neg (by omega), if_neg (by omega), if_neg (by omega), if_neg (by omega), if_neg (by omega), if_neg (by omega)]

theorem esc_len (c : Int) : 1 ≤ (esc c).length ∧ (esc c).length ≤ 6 ∧ ((esc c).length = 1 → plainB c = true) := by
  unfold esc plainB
  (repeat' split) <;> simp <;> omega

theorem escs_len (l : List Int) : l.length ≤ (escs l).length ∧ (escs l).length ≤ 6 * l.length ∧ ((escs l).length = l.length ↔ l.all plainB = true) := by
  induction l with
  | nil => simp [escs]
  | cons c l ih =>
    have h := esc_len c
    rw [escs_cons, List.length_append, List.length_cons, List.all_cons, Bool.and_eq_true, ← ih.2.2]
    refine ⟨by omega, by omega, ?_, ?_⟩
    · intro e
      exact ⟨h.2.2 (by omega), by omega⟩
    · rintro ⟨h1, h2⟩
      have := esc_plain c h1
      rw [this]
      simp
      omega

theorem hexd_ge (n : Int) (h : 0 ≤ n) : 32 ≤ hexd n := by unfold hexd; split <;> omega

theorem esc_ge (c : Int) (hc : 0 ≤ c) : ∀ x ∈ esc c, 32 ≤ x := by
  have h1 := hexd_ge (c / 16) (by omega)
  have h2 := hexd_ge (c % 16) (by omega)
  intro x hx
  unfold esc at hx
  (repeat' split at hx) <;> simp at hx <;> omega

theorem escs_ge (l : List Int) (hl : ∀ c ∈ l, 0 ≤ c) : ∀ x ∈ escs l, 32 ≤ x := by
  intro x hx
  simp only [escs, List.mem_flatMap] at hx
  obtain ⟨c, hc, hx⟩ := hx
  exact esc_ge c (hl c hc) x hx

theorem enc_length (l : List Int) : (enc l).length = (escs l).length + 2 := by simp [enc]
theorem enc_ge (l : List Int) (hl : ∀ c ∈ l, 0 ≤ c) : ∀ x ∈ enc l, 32 ≤ x := by
  intro x hx
  simp only [enc, List.cons_append, List.mem_cons, List.mem_append, List.mem_nil_iff, or_false] at hx
  rcases hx with rfl | hx | rfl
  · omega
  · exact escs_ge l hl x hx
  · omega
theorem enc_first (l : List Int) : (enc l).getD 0 0 = 34 := by simp [enc]
theorem enc_last (l : List Int) : (enc l).getD ((enc l).length - 1) 0 = 34 := by
  rw [enc_length]
  simp [enc, List.getD]

end Go.Proofs.Qxb6001102a
