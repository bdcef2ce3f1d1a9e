import Derived.Test.Qxb6001102aApp
import Derived.Test.Qxb6001102aOpen
namespace Go.Proofs.Qxb6001102a
open Go.RowKit

/-- What the law asks of the text, of the row that holds it. -/
theorem len_facts (zs bs : List Int) (n n2 : Nat) (hz : zs.length = n) (h2 : (zs ++ enc bs).length = n2) : n + bs.length + 2 ≤ n2 ∧ n2 ≤ n + 6 * bs.length + 2 := by
  have h := escs_len bs
  rw [List.length_append, enc_length] at h2
  omega
theorem len_iff (zs bs : List Int) (n n2 : Nat) (hz : zs.length = n) (h2 : (zs ++ enc bs).length = n2) : n2 = n + bs.length + 2 ↔ bs.all plainB = true := by
  have h := escs_len bs
  rw [List.length_append, enc_length] at h2
  rw [← h.2.2]
  omega
theorem at_first (zs bs : List Int) (n : Nat) (hz : zs.length = n) : (zs ++ enc bs).getD n 0 = 34 := by
  subst hz
  have := enc_first bs
  simp only [List.getD] at this ⊢
  rw [List.getElem?_append_right (Nat.le_refl _), Nat.sub_self]
  exact this
theorem at_last (zs bs : List Int) (n2 : Nat) (h2 : (zs ++ enc bs).length = n2) : (zs ++ enc bs).getD (n2 - 1) 0 = 34 := by
  have := enc_last bs
  have hl := enc_length bs
  rw [List.length_append] at h2
  rw [show n2 - 1 = zs.length + ((enc bs).length - 1) from by omega]
  simp only [List.getD] at this ⊢
  rw [List.getElem?_append_right (by omega), Nat.add_sub_cancel_left]
  exact this
theorem at_ge (zs bs : List Int) (n n2 k : Nat) (hz : zs.length = n) (h2 : (zs ++ enc bs).length = n2) (hb : ∀ c ∈ bs, 0 ≤ c) (h : n ≤ k) (hk : k < n2) : (32 : Int) ≤ (zs ++ enc bs).getD k 0 := by
  subst hz
  rw [List.length_append] at h2
  have hlt : k - zs.length < (enc bs).length := by omega
  have e : (zs ++ enc bs).getD k 0 = (enc bs)[k - zs.length] := by
    simp [List.getD, List.getElem?_append_right h, hlt]
  rw [e]
  exact enc_ge bs hb _ (List.getElem_mem _)
theorem all_snoc (l : List Int) (c : Int) : (l ++ [c]).all plainB = (l.all plainB && plainB c) := by simp

set_option maxHeartbeats 1000000 in
theorem len_walk (a0 : Option Addr) (n0 c0 : Nat) (zs : List Int) (s : ByteArray) (w : World) (h0 : RdS w a0 n0 c0 zs) :
    Calls Try.prog 5 #[.slice a0 n0 c0, .string s] w fun e w' => e = .returned (.bool true) ∧ Below w.heap.size w w' := by
  by_cases hz : n0 + s.size ≤ 1048576
  · by_cases h1 : n0 ≤ 524288
    · by_cases h2 : s.size ≤ 524288
      · have hzl : Hid (zs.length = n0) := h0.len
        have hsl : Hid ((bytesOf s).length = s.size) := bytesOf_length s
        have e1 : decide ((524288 : Int) < (n0 : Int)) = false := decide_eq_false (by omega)
        have e2 : decide ((524288 : Int) < (s.size : Int)) = false := decide_eq_false (by omega)
        go_enter Try.func5, Try.ntmps5
        go_wp2_with (first | (go_at_call 13; refine (zz13_yes a0 n0 c0 s _ hz).mono ?_; rintro e w' ⟨rfl, rfl⟩) | (go_at_call 7; refine (clone_any a0 n0 c0 zs _ _ h0 (by omega) (Nat.le_refl _)).mono ?_; rintro e w1 ⟨a1, c1, rfl, ho1, hg1, hb1⟩))
        go_wp2_with (go_at_call 8; refine (zzapp_any a1 n0 c1 zs s _ _ ho1 hg1.size (by omega) (by omega)).mono ?_; rintro e w2 ⟨a2, n2, c2, rfl, ho2, hm2⟩; obtain ⟨f1, f2⟩ := len_facts zs (bytesOf s) n0 n2 hzl.out ho2.len; rw [hsl.out] at f1 f2; have e3 : decide ((n2 : Int) - (n0 : Int) < (s.size : Int) + 2) = false := decide_eq_false (by omega); have e4 : decide (6 * (s.size : Int) + 2 < (n2 : Int) - (n0 : Int)) = false := decide_eq_false (by omega); obtain ⟨b, off, rfl, hbl, hc2⟩ := ho2.rd.pos (by omega); have d1 := hc2 n0 (by omega); rw [at_first zs (bytesOf s) n0 hzl.out] at d1; have d2 := hc2 (n2 - 1) (by omega); rw [at_last zs (bytesOf s) n2 ho2.len] at d2; have HC : Hid (∀ i, i < n2 → w2.cell? ⟨b, off + i, none⟩ = some (.int .u8 ((zs ++ enc (bytesOf s)).getD i 0))) := hc2; clear hc2)
        have HN : Hid (n2 = n0 + s.size + 2 ↔ (bytesOf s).all plainB = true) := by have := len_iff zs (bytesOf s) n0 n2 hzl.out ho2.len; rw [hsl.out] at this; exact this
        have HZ : Hid ((zs ++ enc (bytesOf s)).length = n2) := ho2.len
        have hfin : Below w.heap.size w w2 := below_of_grown (row := none) (grownBy_tr hg1 hm2.grown (.inr hb1)) (fun g e => by cases e)
        clear hm2 ho2 ho1 hg1 hb1 h0
        go_loop [8, 9] (fun p i => ∃ k : Nat, k ≤ s.size ∧ i = .int .i64 k ∧ p = .bool (((bytesOf s).take k).all plainB)) (fun _ i => s.size - (intOf i).toNat)
        case atStart => exact ⟨0, Nat.zero_le _, rfl, rfl⟩
        case round =>
          obtain ⟨k, hk, rfl, rfl⟩ := hrel
          by_cases hlt : k < s.size
          · have HS : Hid (((bytesOf s).take (k + 1)).all plainB = (((bytesOf s).take k).all plainB && plainB (s[k].toNat : Int))) := by
              rw [bytesOf_take s k hlt]; exact all_snoc _ _
            by_cases hp : plainB (s[k].toNat : Int) = true
            · have hp' := hp
              simp [plainB] at hp'
              obtain ⟨⟨q1, q2⟩, q3⟩ := hp'
              have q2' : ((s[k].toNat : Int) == 34) = false := beq_eq_false_iff_ne.2 (by omega)
              have q3' : ((s[k].toNat : Int) == 92) = false := beq_eq_false_iff_ne.2 (by omega)
              have q1' : (32 : Int) ≤ (s[k].toNat : Int) := by omega
              have HP : Hid (plainB (s[k].toNat : Int) = true) := hp
              clear hp q1 q2 q3
              go_wp2
              go_round
              case rel => exact ⟨k + 1, by omega, by go_num, by rw [HS.out, HP.out, Bool.and_true]⟩
              case measure => simp [intOf]; omega
            · have hp' : plainB (s[k].toNat : Int) = false := by simpa using hp
              have HP : Hid (plainB (s[k].toNat : Int) = false) := hp'
              simp [plainB] at hp
              clear hp'
              by_cases q1 : (s[k].toNat : Int) < 32
              · clear hp
                go_wp2
                all_goals
                  go_round
                  case rel => exact ⟨k + 1, by omega, by go_num, by rw [HS.out, HP.out, Bool.and_false]⟩
                  case measure => simp [intOf]; omega
              · have q0 : (32 : Int) ≤ (s[k].toNat : Int) := by omega
                by_cases q2 : (s[k].toNat : Int) = 34
                · have q2' : ((s[k].toNat : Int) == 34) = true := by simpa using q2
                  clear hp q2 q1
                  go_wp2
                  all_goals
                    go_round
                    case rel => exact ⟨k + 1, by omega, by go_num, by rw [HS.out, HP.out, Bool.and_false]⟩
                    case measure => simp [intOf]; omega
                · have q2' : ((s[k].toNat : Int) == 34) = false := by simpa using q2
                  have q3' : ((s[k].toNat : Int) == 92) = true := by rw [beq_iff_eq]; omega
                  clear hp q2 q1
                  go_wp2
                  all_goals
                    go_round
                    case rel => exact ⟨k + 1, by omega, by go_num, by rw [HS.out, HP.out, Bool.and_false]⟩
                    case measure => simp [intOf]; omega
          · obtain rfl : k = s.size := by omega
            have ht : (bytesOf s).take s.size = bytesOf s := List.take_of_length_le (Nat.le_of_eq hsl.out)
            rw [ht]
            clear ht
            have HB : Hid (∀ c ∈ bytesOf s, 0 ≤ c) := fun c hc => (bytesOf_mem s c hc).1
            have hpq : ((bytesOf s).all plainB = true ∧ ((n2 : Int) - (n0 : Int) == (s.size : Int) + 2) = true) ∨ ((bytesOf s).all plainB = false ∧ ((n2 : Int) - (n0 : Int) == (s.size : Int) + 2) = false) := by
              by_cases hp : (bytesOf s).all plainB = true
              · exact .inl ⟨hp, by rw [beq_iff_eq]; have := HN.out.2 hp; omega⟩
              · refine .inr ⟨by simpa using hp, beq_eq_false_iff_ne.2 fun e => hp (HN.out.1 (by omega))⟩
            rcases hpq with ⟨hp, hq⟩ | ⟨hp, hq⟩
            all_goals
              go_wp2
              go_loop [11] (fun i => ∃ k : Nat, n0 ≤ k ∧ k ≤ n2 ∧ i = .int .i64 k) (fun i => n2 - (intOf i).toNat)
              case atStart => exact ⟨n0, Nat.le_refl _, by omega, rfl⟩
              case round =>
                obtain ⟨k, hk1, hk2, rfl⟩ := hrel
                by_cases hlt2 : k < n2
                · have g1 := HC.out k hlt2
                  have g2 := at_ge zs (bytesOf s) n0 n2 k hzl.out HZ.out HB.out hk1 hlt2
                  generalize (zs ++ enc (bytesOf s)).getD k 0 = v at g1 g2
                  clear d1 d2
                  go_wp2
                  go_round
                  case rel => exact ⟨k + 1, by omega, by omega, by go_num⟩
                  case measure => simp [intOf]; omega
                · obtain rfl : k = n2 := by omega
                  go_wp2
                  go_ret
                  exact ⟨rfl, hfin⟩
      · have e1 : decide ((524288 : Int) < (n0 : Int)) = false := decide_eq_false (by omega)
        go_enter Try.func5, Try.ntmps5
        go_wp2_with (go_at_call 13; refine (zz13_yes a0 n0 c0 s _ hz).mono ?_; rintro e w' ⟨rfl, rfl⟩)
        go_ret
        exact ⟨rfl, Below.refl _ _⟩
    · go_enter Try.func5, Try.ntmps5
      go_wp2_with (go_at_call 13; refine (zz13_yes a0 n0 c0 s _ hz).mono ?_; rintro e w' ⟨rfl, rfl⟩)
      go_ret
      exact ⟨rfl, Below.refl _ _⟩
  · go_enter Try.func5, Try.ntmps5
    go_wp2_with (go_at_call 13; refine (zz13_no a0 n0 c0 s _ (by omega)).mono ?_; rintro e w' ⟨rfl, rfl⟩)
    go_ret
    exact ⟨rfl, Below.refl _ _⟩
end Go.Proofs.Qxb6001102a
