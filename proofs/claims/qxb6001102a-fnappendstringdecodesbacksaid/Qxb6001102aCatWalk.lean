import Derived.Test.Qxb6001102aApp
import Derived.Test.Qxb6001102aOpen
import Derived.Test.Qxb6001102aEq
namespace Go.Proofs.Qxb6001102a
open Go.RowKit

theorem RdS.onward {w w' : World} {a : Option Addr} {n cap : Nat} {zs : List Int} (h : RdS w a n cap zs) (hg : w.grownBy w' none) : RdS w' a n cap zs := by
  refine ⟨h.len, h.le, h.max, h.nil, fun hp => ?_⟩
  obtain ⟨b, off, rfl, hb, hc⟩ := h.pos hp
  exact (h.kept hg (.inr (by simp [blk]))).pos hp

theorem grown_new {w w1 w2 : World} {a a' : Option Addr} (h : w.grownBy w1 none) (hm : Moved w1 w2 a a') (ha : ∀ g, blk a = some g → w.heap.size ≤ g) : w.grownBy w2 none ∧ ∀ g, blk a' = some g → w.heap.size ≤ g := by
  refine ⟨grownBy_tr h hm.grown (.inr ha), fun g hg => ?_⟩
  have := h.size
  rcases hm.lies with e | ⟨g', hg', e⟩
  · exact ha g (by rw [← e]; exact hg)
  · rw [e] at hg
    cases hg
    omega

theorem RdS.to {w : World} {b o n cap : Nat} {zs : List Int} (h : RdS w (some ⟨b, o, none⟩) n cap zs) (u : Nat) (hu : u ≤ n) : RdS w (some ⟨b, o, none⟩) u cap (zs.take u) := by
  have := h.cut 0 u (by omega) hu (some ⟨b, o, none⟩) (fun _ => by simp [Addr.add]) (fun _ => rfl)
  simpa using this
theorem RdS.from {w : World} {b o n cap : Nat} {zs : List Int} (h : RdS w (some ⟨b, o, none⟩) n cap zs) (l : Nat) (hl : l < n) : RdS w (some ⟨b, o + l, none⟩) (n - l) (cap - l) (zs.drop l) := by
  have hle := h.le
  have := h.cut l n (by omega) (Nat.le_refl _) (some ⟨b, o + l, none⟩) (fun _ => by simp [Addr.add_lit]) (fun h => by omega)
  rwa [List.take_of_length_le (Nat.le_of_eq h.len)] at this

theorem bytesOf_append (a b : ByteArray) : bytesOf (a ++ b) = bytesOf a ++ bytesOf b := by
  simp [bytesOf]

theorem enc_take (a : List Int) (n : Nat) (h : (enc a).length = n) : (enc a).take (n - 1) = 34 :: escs a := by
  rw [enc_length] at h
  rw [show n - 1 = (34 :: escs a).length from by simp; omega]
  exact List.take_left
theorem enc_cat (a b : List Int) (n : Nat) (h : (enc a).length = n) : enc (a ++ b) = [] ++ (enc a).take (n - 1) ++ (enc b).drop 1 := by
  rw [enc_take a n h]
  simp [enc, escs_append]

set_option maxHeartbeats 1000000 in
theorem cat_walk (s t : ByteArray) (w : World) (hz : s.size + t.size ≤ 1048576) (h1 : s.size ≤ 524288) (h2 : t.size ≤ 524288) :
    Calls Try.prog 4 #[.string s, .string t] w fun e w' => e = .returned (.bool true) ∧ Below w.heap.size w w' := by
  obtain ⟨i0, hi, hz0, hz1, hz2⟩ := info_parts info5
  have e1 : decide ((524288 : Int) < (s.size : Int)) = false := decide_eq_false (by omega)
  have e2 : decide ((524288 : Int) < (t.size : Int)) = false := decide_eq_false (by omega)
  have hst : Hid ((s ++ t).size = s.size + t.size) := ByteArray.size_append
  go_enter Try.func4, Try.ntmps4
  go_wp2_with (go_at_call 12; refine (zz12_yes s t _ hz).mono ?_; rintro e w' ⟨rfl, rfl⟩)
  refine (zzapp_any none 0 0 [] s w w.heap.size (OwnS.nil _ _) (Nat.le_refl _) (by omega) (by omega)).mono ?_
  rintro e w1 ⟨a1, n1, c1, rfl, ho1, hm1⟩
  go_wp2_with fail
  refine (zzapp_any none 0 0 [] t w1 w.heap.size (OwnS.nil _ _) hm1.grown.size (by omega) (by omega)).mono ?_
  rintro e w2 ⟨a2, n2, c2, rfl, ho2, hm2⟩
  go_wp2_with fail
  refine (zzapp_any none 0 0 [] (s ++ t) w2 w.heap.size (OwnS.nil _ _) (Nat.le_trans hm1.grown.size hm2.grown.size) (by omega) (by rw [hst.out]; omega)).mono ?_
  rintro e w3 ⟨a3, n3, c3, rfl, ho3, hm3⟩
  have g01 : w.grownBy w1 none := hm1.grown
  have g12 : w1.grownBy w2 none := hm2.grown
  have g23 : w2.grownBy w3 none := hm3.grown
  have rd1 := (ho1.rd.onward g12).onward g23
  have rd2 := ho2.rd.onward g23
  have rd3 := ho3.rd
  have g03 : w.grownBy w3 none := (g01.trans g12).trans g23
  simp only [List.nil_append] at rd1 rd2 rd3
  clear ho1 ho2 ho3 hm1 hm2 hm3 g01 g12 g23
  have hl1 := (escs_len (bytesOf s)).2.1
  have hl2 := (escs_len (bytesOf t)).2.1
  rw [bytesOf_length] at hl1 hl2
  have hn1 := rd1.len
  have hn2 := rd2.len
  rw [enc_length] at hn1 hn2
  have b1 : 2 ≤ n1 := by omega
  have b2 : 2 ≤ n2 := by omega
  have b3 : n1 ≤ 10000000 := by omega
  have b4 : n2 ≤ 10000000 := by omega
  clear hn1 hn2 hl1 hl2
  have b5 := rd1.le
  have b6 := rd2.le
  have b7 := rd1.max
  have b8 := rd2.max
  unfold maxLen at b7 b8
  obtain ⟨x1, y1, rfl, hx1, hc1⟩ := rd1.pos (by omega)
  obtain ⟨x2, y2, rfl, hx2, hc2⟩ := rd2.pos (by omega)
  have HC1 : Hid (∀ i, i < n1 → w3.cell? ⟨x1, y1 + i, none⟩ = some (.int .u8 ((enc (bytesOf s)).getD i 0))) := hc1
  have HC2 : Hid (∀ i, i < n2 → w3.cell? ⟨x2, y2 + i, none⟩ = some (.int .u8 ((enc (bytesOf t)).getD i 0))) := hc2
  clear hc1 hc2
  have q1 : decide ((n1 : Int) < 2) = false := decide_eq_false (by omega)
  have q2 : decide ((n2 : Int) < 2) = false := decide_eq_false (by omega)
  go_wp2_with (first | (at_make; refine wpList_make_own _ rfl _ _ 22 rfl w3.heap.size 5 i0 (.int .u8 0) 1 Try.underlying22 hi hz0 hz1 _ _ _ (n1 + n2) rfl rfl (by omega) (by rw [hz2]; omega) (by unfold maxLen; omega) (Nat.le_refl _) ?_; intro w4 hown4 hgr4; have cut1 := (rd1.onward hgr4).to (n1 - 1) (by omega)) | (at_builtin; refine wpList_append_b8 _ rfl (.tmp 45) (.tmp 50) 22 22 rfl w3.heap.size i0 Try.underlying22 hi hz0 hz1 hz2 (some ⟨w3.heap.size, 0, none⟩) 0 (n1 + n2) [] rfl ⟨rfl, hown4⟩ _ (n1 - 1) ((enc (bytesOf s)).take (n1 - 1)) rfl (cut1.src Try.underlying22) (by omega) hgr4.size ?_; intro a5 n5 c5 w5 hn5 ho5 hm5; have g35 := grown_new hgr4 hm5 (fun g e => by cases e; exact Nat.le_refl _); have cut2 := (rd2.onward g35.1).from 1 (by omega); have hb5 : n5 ≤ 10000000 := (by have := hn5.out; omega)) | (at_builtin; refine wpList_append_b8 _ rfl (.tmp 52) (.tmp 54) 22 22 rfl w3.heap.size i0 Try.underlying22 hi hz0 hz1 hz2 a5 n5 c5 _ rfl ho5 _ (n2 - 1) ((enc (bytesOf t)).drop 1) rfl (cut2.src Try.underlying22) (by omega) g35.1.size ?_; intro a6 n6 c6 w6 hn6 ho6 hm6))
  have g36 := grown_new g35.1 hm6 g35.2
  have hcat := enc_cat (bytesOf s) (bytesOf t) n1 rd1.len
  rw [← bytesOf_append] at hcat
  have E := eq_any a3 n3 c3 _ a6 n6 c6 _ w6 (rd3.onward g36.1) ho6.rd
  rw [decide_eq_true hcat] at E
  refine E.mono ?_
  rintro e w7 ⟨rfl, q, rfl⟩
  clear E hcat ho6 hm6 hn6 ho5 hm5 hn5 cut1 cut2 rd3 hgr4 hown4 g35 hb5
  have g37 := g36.1.trans (grownBy_drewN w6 q)
  clear g36
  go_wp2_with fail
  refine (clone_any (some ⟨x1, y1, none⟩) n1 c1 _ _ w3.heap.size (rd1.onward g37) (by omega) g37.size).mono ?_
  rintro e w8 ⟨a8, c8, rfl, ho8, hg8, hb8⟩
  have g38 := g37.trans hg8
  have hs8 : ∀ g, blk a8 = some g → w3.heap.size ≤ g := fun g e => Nat.le_trans g37.size (hb8 g e)
  go_wp2_with fail
  refine (zzapp_any a8 n1 c8 _ t _ w3.heap.size ho8 g38.size (by omega) (by omega)).mono ?_
  rintro e w9 ⟨a9, n9, c9, rfl, ho9, hm9⟩
  have g39 := grown_new g38 hm9 hs8
  have rd9 := ho9.rd
  clear ho9 hm9 hs8 g38 ho8 hg8 hb8 g37
  have r1 := rd1.onward g39.1
  have r2 := rd2.onward g39.1
  go_wp2_with (first | (at_make; refine wpList_make_own _ rfl _ _ 22 rfl w9.heap.size 5 i0 (.int .u8 0) 1 Try.underlying22 hi hz0 hz1 _ _ _ (n1 + n2) rfl rfl (by omega) (by rw [hz2]; omega) (by unfold maxLen; omega) (Nat.le_refl _) ?_; intro wa howna hgra; have cuta := r1.onward hgra) | (at_builtin; refine wpList_append_b8 _ rfl (.tmp 70) (.tmp 71) 22 22 rfl w9.heap.size i0 Try.underlying22 hi hz0 hz1 hz2 (some ⟨w9.heap.size, 0, none⟩) 0 (n1 + n2) [] rfl ⟨rfl, howna⟩ _ n1 (enc (bytesOf s)) rfl (cuta.src Try.underlying22) (by omega) hgra.size ?_; intro ab nb cb wb hnb hob hmb; have gb := grown_new hgra hmb (fun g e => by cases e; exact Nat.le_refl _); have cutb := r2.onward gb.1; have hbb : nb ≤ 10000000 := (by have := hnb.out; omega)) | (at_builtin; refine wpList_append_b8 _ rfl (.tmp 73) (.tmp 74) 22 22 rfl w9.heap.size i0 Try.underlying22 hi hz0 hz1 hz2 ab nb cb _ rfl hob _ n2 (enc (bytesOf t)) rfl (cutb.src Try.underlying22) (by omega) gb.1.size ?_; intro ac nc cc wc hnc hoc hmc))
  have gc := grown_new gb.1 hmc gb.2
  have E := eq_any a9 n9 c9 _ ac nc cc _ wc (rd9.onward gc.1) hoc.rd
  rw [decide_eq_true (by simp)] at E
  refine E.mono ?_
  rintro e wd ⟨rfl, q2, rfl⟩
  go_wp2
  go_ret
  refine ⟨rfl, below_of_grown (row := none) ?_ (fun g e => by cases e)⟩
  exact ((g03.trans g39.1).trans gc.1).trans (grownBy_drewN wc q2)

set_option maxHeartbeats 1000000 in
theorem cat_any (s t : ByteArray) (w : World) : Calls Try.prog 4 #[.string s, .string t] w fun e w' => e = .returned (.bool true) ∧ Below w.heap.size w w' := by
  by_cases hz : s.size + t.size ≤ 1048576
  · by_cases h1 : s.size ≤ 524288
    · by_cases h2 : t.size ≤ 524288
      · exact cat_walk s t w hz h1 h2
      · have e1 : decide ((524288 : Int) < (s.size : Int)) = false := decide_eq_false (by omega)
        go_enter Try.func4, Try.ntmps4
        go_wp2_with (go_at_call 12; refine (zz12_yes s t _ hz).mono ?_; rintro e w' ⟨rfl, rfl⟩)
        go_ret
        exact ⟨rfl, Below.refl _ _⟩
    · go_enter Try.func4, Try.ntmps4
      go_wp2_with (go_at_call 12; refine (zz12_yes s t _ hz).mono ?_; rintro e w' ⟨rfl, rfl⟩)
      go_ret
      exact ⟨rfl, Below.refl _ _⟩
  · go_enter Try.func4, Try.ntmps4
    go_wp2_with (go_at_call 12; refine (zz12_no s t _ (by omega)).mono ?_; rintro e w' ⟨rfl, rfl⟩)
    go_ret
    exact ⟨rfl, Below.refl _ _⟩
end Go.Proofs.Qxb6001102a
