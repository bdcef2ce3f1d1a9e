import Derived.Test.Qxb6001102aApp
import Derived.Test.Qxb6001102aOpen
import Derived.Test.Qxb6001102aEq
import Derived.Test.Qxb6001102aCatWalk
import Derived.Test.Qxb6001102aDec
namespace Go.Proofs.Qxb6001102a
open Go.RowKit

theorem ret_int {k : IntKind} {a b : Int} (h : a = b) : Ending.returned (.int k a) = .returned (.int k b) := by rw [h]

set_option maxHeartbeats 400000 in
theorem hex_any (x y : Int) (h : isHex x y) (w : World) : Calls Try.prog 15 #[.int .u8 x] w fun e w' => e = .returned (.int .i64 y) ∧ w = w' := by
  rcases h with ⟨h1, h2, h3⟩ | ⟨h1, h2, h3⟩
  · have H3 : Hid (y = x - 48) := h3
    clear h3
    go_enter Try.func15, Try.ntmps15
    go_wp2
    go_ret
    exact ⟨ret_int (by rw [H3.out]), rfl⟩
  · have H3 : Hid (y = x - 87) := h3
    clear h3
    have q : decide (x ≤ 57) = false := decide_eq_false (by omega)
    go_enter Try.func15, Try.ntmps15
    go_wp2
    go_ret
    exact ⟨ret_int (by rw [H3.out]; omega), rfl⟩

theorem blk_new {h g : Nat} (e : blk (some ⟨h, 0, none⟩) = some g) : h ≤ g := by
  cases e
  exact Nat.le_refl _

theorem txt {w wr : World} {b off n k p : Nat} {bs l : List Int} (HC : ∀ i, i < n → w.cell? ⟨b, off + i, none⟩ = some (.int .u8 ((enc bs).getD i 0))) (hb : b < w.heap.size) (hgr : w.grownBy wr none) (hlen : (enc bs).length = n)
    (hk : k < bs.length) (hp : p = 1 + (escs (bs.take k)).length) (hl : esc (bs.getD k 0) = l) (j : Nat) (hj : j < l.length) : wr.cell? ⟨b, off + (p + j), none⟩ = some (.int .u8 (l.getD j 0)) := by
  have hr := enc_room bs k p hk hp l hl
  rw [World.cell?_of_block (w := w) (hgr.block b hb (by simp)), HC (p + j) (by omega), enc_at bs k j p hk hp l hl hj]

theorem dec_step {w wr w2 : World} {base : Nat} {a a2 : Option Addr} {n2 cap2 k : Nat} {bs : List Int} {c : Int} {o : Obj} (hk : k < bs.length) (hc : bs.getD k 0 = c)
    (hown : OwnS w2 base a2 n2 cap2 (bs.take k ++ [c])) (hg : w.grownBy wr none) (hb : ∀ g, blk a = some g → w.heap.size ≤ g) (hmv2 : Moved (wr.alloc o) w2 a a2) :
    OwnS w2 base a2 n2 cap2 (bs.take (k + 1)) ∧ w.grownBy w2 none ∧ ∀ g, blk a2 = some g → w.heap.size ≤ g := by
  rw [take_snoc' bs k hk c hc] at hown
  exact ⟨hown, grown_new (hg.trans (World.grownBy_alloc _ _ _)) hmv2 hb⟩

set_option maxRecDepth 100000 in
set_option maxHeartbeats 1000000 in
theorem dec_any (a : Option Addr) (n cap : Nat) (bs : List Int) (w : World) (h : RdS w a n cap (enc bs)) (hbs : ∀ c ∈ bs, 0 ≤ c ∧ c ≤ 255) (hn : n ≤ 1099511627776) :
    Calls Try.prog 10 #[.slice a n cap] w fun e w' => ∃ a' m c', e = .returned (.tuple #[.slice a' m c', .bool true]) ∧ OwnS w' w.heap.size a' m c' bs ∧ w.grownBy w' none := by
  obtain ⟨i0, hi, hz0, hz1, hz2⟩ := info_parts info5
  have hlen : Hid ((enc bs).length = n) := h.len
  have hn2 : 2 ≤ n := by have := h.len; rw [enc_length] at this; omega
  have hle := h.le
  have hmax := h.max
  unfold maxLen at hmax
  obtain ⟨b, off, rfl, hb, hc⟩ := h.pos (by omega)
  have d0 := hc 0 (by omega)
  rw [enc_first, Nat.add_zero] at d0
  have e0 : decide ((n : Int) < 2) = false := decide_eq_false (by omega)
  have HC : Hid (∀ i, i < n → w.cell? ⟨b, off + i, none⟩ = some (.int .u8 ((enc bs).getD i 0))) := hc
  clear hc
  go_enter Try.func10, Try.ntmps10
  go_wp2_with (at_make; refine wpList_make_own _ rfl _ _ 22 rfl w.heap.size 5 i0 (.int .u8 0) 1 Try.underlying22 hi hz0 hz1 _ _ _ n rfl rfl (by omega) (by rw [hz2]; omega) (by unfold maxLen; omega) (Nat.le_refl _) ?_; intro w1 hown1 hgr1)
  go_loopw [4, 5] (fun o i wr => ∃ k p a m c, k ≤ bs.length ∧ p = 1 + (escs (bs.take k)).length ∧ i = .int .i64 (p : Nat) ∧ o = .slice a m c ∧ OwnS wr w.heap.size a m c (bs.take k) ∧ w.grownBy wr none ∧ ∀ g, blk a = some g → w.heap.size ≤ g) (fun _ i _ => n - (intOf i).toNat)
  case atStart => exact ⟨0, 1, some ⟨w.heap.size, 0, none⟩, 0, n, Nat.zero_le _, rfl, rfl, rfl, ⟨rfl, hown1⟩, hgr1, fun g e => blk_new e⟩
  case round =>
    clear hown1 hgr1 w1
    obtain ⟨k, p, ar, m, cr, hk, hp0, rfl, rfl, hown, hgr, hbl⟩ := hrel
    have hp : Hid (p = 1 + (escs (bs.take k)).length) := hp0
    clear hp0
    have hm : m ≤ 1099511627776 := by
      have e1 := hown.len
      have e2 := hlen.out
      have e3 := (escs_len bs).1
      rw [enc_length] at e2
      rw [List.length_take] at e1
      omega
    have hbr := hgr.size
    by_cases hlt : k < bs.length
    · obtain ⟨c, hcd⟩ : ∃ c, Hid (bs.getD k 0 = c) := ⟨_, rfl⟩
      have hcb : 0 ≤ c ∧ c ≤ 255 := by
        have e : bs.getD k 0 = bs[k] := by simp [List.getD, hlt]
        rw [← hcd.out, e]
        exact hbs _ (List.getElem_mem _)
      obtain ⟨hc0, hc1⟩ := hcb
      clear d0
      by_cases q34 : c = 34 ∨ c = 92
      · have HL : Hid (esc (bs.getD k 0) = [92, c]) := by unfold Hid; rw [hcd.out]; unfold esc; rw [if_pos q34]
        have g0 := txt HC.out hb hgr hlen.out hlt hp.out HL.out 0 (by simp)
        have g1 := txt HC.out hb hgr hlen.out hlt hp.out HL.out 1 (by simp)
        have hroom := enc_room bs k p hlt hp.out _ HL.out
        have HN : Hid (p + 2 = 1 + (escs (bs.take (k + 1))).length) := enc_next bs k p hlt hp.out _ HL.out
        rw [hlen.out] at hroom
        simp only [Nat.add_zero, List.getD_cons_zero, List.getD_cons_succ, List.length_cons, List.length_nil] at g0 g1 hroom
        rcases (show (34 ≤ c ∧ c ≤ 34) ∨ (92 ≤ c ∧ c ≤ 92) from by omega) with ⟨r1, r2⟩ | ⟨r1, r2⟩
        all_goals
          clear q34
          go_wp2_with (at_builtin; refine wpList_append_b8 _ rfl (.tmp 64) (.tmp 66) 22 22 rfl w.heap.size i0 Try.underlying22 hi hz0 hz1 hz2 ar m cr _ rfl (hown.alloc _) _ 1 [c] rfl (src1 wr Try.underlying22 _) (by omega) (by simp; omega) ?_; intro a2 n2 cap2 w2 hn2 hown2 hmv2)
          have R := dec_step hlt hcd.out hown2 hgr hbl hmv2
          go_roundw
          case rel => exact ⟨k + 1, p + 2, a2, n2, cap2, by omega, HN.out, by go_num, rfl, R.1, R.2.1, R.2.2⟩
          case measure => simp [intOf]; omega
      by_cases q8 : c = 8
      · subst q8
        have HL : Hid (esc (bs.getD k 0) = [92, 98]) := by unfold Hid; rw [hcd.out]; rfl
        have g0 := txt HC.out hb hgr hlen.out hlt hp.out HL.out 0 (by simp)
        have g1 := txt HC.out hb hgr hlen.out hlt hp.out HL.out 1 (by simp)
        have hroom := enc_room bs k p hlt hp.out _ HL.out
        have HN : Hid (p + 2 = 1 + (escs (bs.take (k + 1))).length) := enc_next bs k p hlt hp.out _ HL.out
        rw [hlen.out] at hroom
        simp only [Nat.add_zero, List.getD_cons_zero, List.getD_cons_succ, List.length_cons, List.length_nil] at g0 g1 hroom
        clear q34
        go_wp2_with (at_builtin; refine wpList_append_b8 _ rfl (.tmp 72) (.tmp 73) 22 22 rfl w.heap.size i0 Try.underlying22 hi hz0 hz1 hz2 ar m cr _ rfl (hown.alloc _) _ 1 [8] rfl (src1 wr Try.underlying22 _) (by omega) (by simp; omega) ?_; intro a2 n2 cap2 w2 hn2 hown2 hmv2)
        have R := dec_step hlt hcd.out hown2 hgr hbl hmv2
        go_roundw
        case rel => exact ⟨k + 1, p + 2, a2, n2, cap2, by omega, HN.out, by go_num, rfl, R.1, R.2.1, R.2.2⟩
        case measure => simp [intOf]; omega
      by_cases q12 : c = 12
      · subst q12
        have HL : Hid (esc (bs.getD k 0) = [92, 102]) := by unfold Hid; rw [hcd.out]; rfl
        have g0 := txt HC.out hb hgr hlen.out hlt hp.out HL.out 0 (by simp)
        have g1 := txt HC.out hb hgr hlen.out hlt hp.out HL.out 1 (by simp)
        have hroom := enc_room bs k p hlt hp.out _ HL.out
        have HN : Hid (p + 2 = 1 + (escs (bs.take (k + 1))).length) := enc_next bs k p hlt hp.out _ HL.out
        rw [hlen.out] at hroom
        simp only [Nat.add_zero, List.getD_cons_zero, List.getD_cons_succ, List.length_cons, List.length_nil] at g0 g1 hroom
        clear q34
        go_wp2_with (at_builtin; refine wpList_append_b8 _ rfl (.tmp 79) (.tmp 80) 22 22 rfl w.heap.size i0 Try.underlying22 hi hz0 hz1 hz2 ar m cr _ rfl (hown.alloc _) _ 1 [12] rfl (src1 wr Try.underlying22 _) (by omega) (by simp; omega) ?_; intro a2 n2 cap2 w2 hn2 hown2 hmv2)
        have R := dec_step hlt hcd.out hown2 hgr hbl hmv2
        go_roundw
        case rel => exact ⟨k + 1, p + 2, a2, n2, cap2, by omega, HN.out, by go_num, rfl, R.1, R.2.1, R.2.2⟩
        case measure => simp [intOf]; omega
      by_cases q10 : c = 10
      · subst q10
        have HL : Hid (esc (bs.getD k 0) = [92, 110]) := by unfold Hid; rw [hcd.out]; rfl
        have g0 := txt HC.out hb hgr hlen.out hlt hp.out HL.out 0 (by simp)
        have g1 := txt HC.out hb hgr hlen.out hlt hp.out HL.out 1 (by simp)
        have hroom := enc_room bs k p hlt hp.out _ HL.out
        have HN : Hid (p + 2 = 1 + (escs (bs.take (k + 1))).length) := enc_next bs k p hlt hp.out _ HL.out
        rw [hlen.out] at hroom
        simp only [Nat.add_zero, List.getD_cons_zero, List.getD_cons_succ, List.length_cons, List.length_nil] at g0 g1 hroom
        clear q34
        go_wp2_with (at_builtin; refine wpList_append_b8 _ rfl (.tmp 86) (.tmp 87) 22 22 rfl w.heap.size i0 Try.underlying22 hi hz0 hz1 hz2 ar m cr _ rfl (hown.alloc _) _ 1 [10] rfl (src1 wr Try.underlying22 _) (by omega) (by simp; omega) ?_; intro a2 n2 cap2 w2 hn2 hown2 hmv2)
        have R := dec_step hlt hcd.out hown2 hgr hbl hmv2
        go_roundw
        case rel => exact ⟨k + 1, p + 2, a2, n2, cap2, by omega, HN.out, by go_num, rfl, R.1, R.2.1, R.2.2⟩
        case measure => simp [intOf]; omega
      by_cases q13 : c = 13
      · subst q13
        have HL : Hid (esc (bs.getD k 0) = [92, 114]) := by unfold Hid; rw [hcd.out]; rfl
        have g0 := txt HC.out hb hgr hlen.out hlt hp.out HL.out 0 (by simp)
        have g1 := txt HC.out hb hgr hlen.out hlt hp.out HL.out 1 (by simp)
        have hroom := enc_room bs k p hlt hp.out _ HL.out
        have HN : Hid (p + 2 = 1 + (escs (bs.take (k + 1))).length) := enc_next bs k p hlt hp.out _ HL.out
        rw [hlen.out] at hroom
        simp only [Nat.add_zero, List.getD_cons_zero, List.getD_cons_succ, List.length_cons, List.length_nil] at g0 g1 hroom
        clear q34
        go_wp2_with (at_builtin; refine wpList_append_b8 _ rfl (.tmp 93) (.tmp 94) 22 22 rfl w.heap.size i0 Try.underlying22 hi hz0 hz1 hz2 ar m cr _ rfl (hown.alloc _) _ 1 [13] rfl (src1 wr Try.underlying22 _) (by omega) (by simp; omega) ?_; intro a2 n2 cap2 w2 hn2 hown2 hmv2)
        have R := dec_step hlt hcd.out hown2 hgr hbl hmv2
        go_roundw
        case rel => exact ⟨k + 1, p + 2, a2, n2, cap2, by omega, HN.out, by go_num, rfl, R.1, R.2.1, R.2.2⟩
        case measure => simp [intOf]; omega
      by_cases q9 : c = 9
      · subst q9
        have HL : Hid (esc (bs.getD k 0) = [92, 116]) := by unfold Hid; rw [hcd.out]; rfl
        have g0 := txt HC.out hb hgr hlen.out hlt hp.out HL.out 0 (by simp)
        have g1 := txt HC.out hb hgr hlen.out hlt hp.out HL.out 1 (by simp)
        have hroom := enc_room bs k p hlt hp.out _ HL.out
        have HN : Hid (p + 2 = 1 + (escs (bs.take (k + 1))).length) := enc_next bs k p hlt hp.out _ HL.out
        rw [hlen.out] at hroom
        simp only [Nat.add_zero, List.getD_cons_zero, List.getD_cons_succ, List.length_cons, List.length_nil] at g0 g1 hroom
        clear q34
        go_wp2_with (at_builtin; refine wpList_append_b8 _ rfl (.tmp 100) (.tmp 101) 22 22 rfl w.heap.size i0 Try.underlying22 hi hz0 hz1 hz2 ar m cr _ rfl (hown.alloc _) _ 1 [9] rfl (src1 wr Try.underlying22 _) (by omega) (by simp; omega) ?_; intro a2 n2 cap2 w2 hn2 hown2 hmv2)
        have R := dec_step hlt hcd.out hown2 hgr hbl hmv2
        go_roundw
        case rel => exact ⟨k + 1, p + 2, a2, n2, cap2, by omega, HN.out, by go_num, rfl, R.1, R.2.1, R.2.2⟩
        case measure => simp [intOf]; omega
      by_cases q32 : 32 ≤ c
      · have HL : Hid (esc (bs.getD k 0) = [c]) := by
          unfold Hid; rw [hcd.out]; exact esc_plain c (by simp [plainB]; omega)
        have g0 := txt HC.out hb hgr hlen.out hlt hp.out HL.out 0 (by simp)
        have hroom := enc_room bs k p hlt hp.out _ HL.out
        have HN : Hid (p + 1 = 1 + (escs (bs.take (k + 1))).length) := enc_next bs k p hlt hp.out _ HL.out
        rw [hlen.out] at hroom
        simp only [Nat.add_zero, List.getD_cons_zero, List.length_cons, List.length_nil] at g0 hroom
        have e34 : (c == 34) = false := beq_eq_false_iff_ne.2 (by omega)
        have e92 : (c != 92) = true := by rw [bne_iff_ne]; omega
        clear q34 q8 q12 q10 q13 q9
        go_wp2_with (at_builtin; refine wpList_append_b8 _ rfl (.tmp 43) (.tmp 45) 22 22 rfl w.heap.size i0 Try.underlying22 hi hz0 hz1 hz2 ar m cr _ rfl (hown.alloc _) _ 1 [c] rfl (src1 wr Try.underlying22 _) (by omega) (by simp; omega) ?_; intro a2 n2 cap2 w2 hn2 hown2 hmv2)
        have R := dec_step hlt hcd.out hown2 hgr hbl hmv2
        go_roundw
        case rel => exact ⟨k + 1, p + 1, a2, n2, cap2, by omega, HN.out, by go_num, rfl, R.1, R.2.1, R.2.2⟩
        case measure => simp [intOf]; omega
      · have HL : Hid (esc (bs.getD k 0) = [92, 117, 48, 48, hexd (c / 16), hexd (c % 16)]) := by
          unfold Hid; rw [hcd.out]; exact esc_ctl c q34 q8 q12 q10 q13 q9 (by omega)
        have g0 := txt HC.out hb hgr hlen.out hlt hp.out HL.out 0 (by simp)
        have g1 := txt HC.out hb hgr hlen.out hlt hp.out HL.out 1 (by simp)
        have g2 := txt HC.out hb hgr hlen.out hlt hp.out HL.out 2 (by simp)
        have g3 := txt HC.out hb hgr hlen.out hlt hp.out HL.out 3 (by simp)
        have g4 := txt HC.out hb hgr hlen.out hlt hp.out HL.out 4 (by simp)
        have g5 := txt HC.out hb hgr hlen.out hlt hp.out HL.out 5 (by simp)
        have hroom := enc_room bs k p hlt hp.out _ HL.out
        have HN : Hid (p + 6 = 1 + (escs (bs.take (k + 1))).length) := enc_next bs k p hlt hp.out _ HL.out
        rw [hlen.out] at hroom
        simp only [Nat.add_zero, List.getD_cons_zero, List.getD_cons_succ, List.length_cons, List.length_nil] at g0 g1 g2 g3 g4 g5 hroom
        have hx4 := isHex_hexd (c / 16) (by omega) (by omega)
        have hx5 := isHex_hexd (c % 16) (by omega) (by omega)
        have hx0 : isHex 48 0 := .inl ⟨by omega, by omega, by omega⟩
        generalize hexd (c / 16) = x4 at g4 hx4
        generalize hexd (c % 16) = x5 at g5 hx5
        have X0 : Hid (isHex 48 0) := hx0
        have X4 : Hid (isHex x4 (c / 16)) := hx4
        have X5 : Hid (isHex x5 (c % 16)) := hx5
        have q32' : c < 32 := by omega
        have z1 : decide (p < n) = true := decide_eq_true (by omega)
        have z2 : decide ((n : Int) ≤ (p : Int) + 1) = false := decide_eq_false (by omega)
        have z3 : decide ((n : Int) < (p : Int) + 6) = false := decide_eq_false (by omega)
        clear q34 q8 q12 q10 q13 q9 hx0 hx4 hx5 q32
        go_wp2
        go_loopw [8, 9] (fun v j wx => ∃ d : Nat, d ≤ 4 ∧ j = .int .i64 ((p + 2 + d : Nat) : Int) ∧ v = .int .i64 (vAt c d) ∧ wr = wx) (fun _ j _ => p + 6 - (intOf j).toNat)
        case atStart => exact ⟨0, by omega, by go_num, rfl, rfl⟩
        case round =>
          obtain ⟨d, hd, rfl, rfl, rfl⟩ := hrel
          by_cases hd4 : d < 4
          · rcases (show d = 0 ∨ d = 1 ∨ d = 2 ∨ d = 3 from by omega) with rfl | rfl | rfl | rfl
            · rw [show ((p + 2 + 0 : Nat) : Int) = (p : Int) + 2 from by omega, show vAt c 0 = 0 from by simp [vAt]]
              go_wp2_with (go_at_call 15; refine (hex_any _ _ X0.out _).mono ?_; rintro e w' ⟨rfl, rfl⟩)
              go_roundw
              case rel => exact ⟨1, by omega, by go_num, by simp [vAt], trivial⟩
              case measure => simp [intOf]; omega
            · rw [show ((p + 2 + 1 : Nat) : Int) = (p : Int) + 3 from by omega, show vAt c 1 = 0 from by simp [vAt]]
              go_wp2_with (go_at_call 15; refine (hex_any _ _ X0.out _).mono ?_; rintro e w' ⟨rfl, rfl⟩)
              go_roundw
              case rel => exact ⟨2, by omega, by go_num, by simp [vAt], trivial⟩
              case measure => simp [intOf]; omega
            · rw [show ((p + 2 + 2 : Nat) : Int) = (p : Int) + 4 from by omega, show vAt c 2 = 0 from by simp [vAt]]
              go_wp2_with (go_at_call 15; refine (hex_any _ _ X4.out _).mono ?_; rintro e w' ⟨rfl, rfl⟩)
              go_roundw
              case rel => exact ⟨3, by omega, by go_num, by simp [vAt], trivial⟩
              case measure => simp [intOf]; omega
            · rw [show ((p + 2 + 3 : Nat) : Int) = (p : Int) + 5 from by omega, show vAt c 3 = c / 16 from by simp [vAt]]
              go_wp2_with (go_at_call 15; refine (hex_any _ _ X5.out _).mono ?_; rintro e w' ⟨rfl, rfl⟩)
              go_roundw
              case rel => exact ⟨4, by omega, by go_num, by simp [vAt]; omega, trivial⟩
              case measure => simp [intOf]; omega
          · obtain rfl : d = 4 := by omega
            have ev : vAt c 4 = c := by simp [vAt]
            rw [ev]
            clear ev
            go_wp2_with (at_builtin; refine wpList_append_b8 _ rfl (.tmp 133) (.tmp 136) 22 22 rfl w.heap.size i0 Try.underlying22 hi hz0 hz1 hz2 ar m cr _ rfl (hown.alloc _) _ 1 [c] rfl (src1 wr Try.underlying22 _) (by omega) (by simp; omega) ?_; intro a2 n2 cap2 w2 hn2 hown2 hmv2)
            have R := dec_step hlt hcd.out hown2 hgr hbl hmv2
            go_roundw
            case rel => exact ⟨k + 1, p + 6, a2, n2, cap2, by omega, HN.out, by go_num, rfl, R.1, R.2.1, R.2.2⟩
            case measure => simp [intOf]; omega
    · obtain rfl : k = bs.length := by omega
      have hE := enc_end bs p hp.out
      have g1 : wr.cell? ⟨b, off + p, none⟩ = some (.int .u8 34) := by
        have hpn : p < n := by have := hlen.out; omega
        rw [World.cell?_of_block (w := w) (hgr.block b hb (by simp)), HC.out p hpn, hE.1]
      have g2 : n = p + 1 := by have := hlen.out; omega
      have g3 : ((p : Int) != (n : Int) - 1) = false := by subst g2; simp
      have g4 : p < n := by omega
      clear hE g2 d0
      go_wp2
      go_ret2
      rw [List.take_length] at hown
      exact ⟨ar, m, cr, rfl, hown, hgr⟩
end Go.Proofs.Qxb6001102a
