import Derived.Test.Qxb6001102aDoorDig
import Derived.Test.Qxb6001102aDoorEq
import Derived.Test.Qxb6001102aDoorClone
import Derived.Deep.CutBlock
import Derived.Deep.DeepCutAuto
namespace Go.Proofs.Qxb6001102aDoor
open Go.RowKit

/-- The number that digits say. -/
def numL (l : List Int) : Int := l.foldl (fun a c => a * 10 + (c - 48)) 0
theorem numL_snoc (l : List Int) (c : Int) : numL (l ++ [c]) = numL l * 10 + (c - 48) := by simp [numL]

theorem numL_step (t : List Int) (x d : Nat) (h : x + d < t.length) : numL ((t.drop x).take (d + 1)) = numL ((t.drop x).take d) * 10 + (t.getD (x + d) 0 - 48) := by
  rw [List.take_succ_eq_append_getElem (by rw [List.length_drop]; omega), numL_snoc]
  simp [List.getD, h]

def dig (c : Int) : Prop := 48 ≤ c ∧ c ≤ 57

theorem numL_bound (t : List Int) (x n : Nat) (hn : t.length = n) (hd : ∀ k, x ≤ k → k < n → dig (t.getD k 0)) : ∀ d, x + d ≤ n → 0 ≤ numL ((t.drop x).take d) ∧ numL ((t.drop x).take d) < 10 ^ d
  | 0, _ => by simp [numL]
  | d + 1, h => by
    have ih := numL_bound t x n hn hd d (by omega)
    have hg := hd (x + d) (by omega) (by omega)
    unfold dig at hg
    rw [numL_step t x d (by omega), Int.pow_succ]
    omega
theorem pow_le9 (d : Nat) (h : d ≤ 8) : (10 : Int) ^ d ≤ 100000000 := by
  have : ∀ d : Fin 9, (10 : Int) ^ d.val ≤ 100000000 := by decide
  exact this ⟨d, by omega⟩

/-- The shape of a number's text: p1 digits ahead; the fraction's digits from fs to fe; an exponent behind. -/
structure NumT (t : List Int) (n p1 fs fe : Nat) (ev : Int) : Prop where
  len : t.length = n
  one : 1 ≤ p1
  le1 : p1 ≤ fe
  le2 : fe ≤ n
  ints : ∀ k, k < p1 → dig (t.getD k 0)
  zero : p1 = 1 ∨ t.getD 0 0 ≠ 48
  frac : (fs = p1 ∧ fe = p1) ∨ (fs = p1 + 1 ∧ fs < fe ∧ t.getD p1 0 = 46 ∧ ∀ k, fs ≤ k → k < fe → dig (t.getD k 0))
  exp : (fe = n ∧ ev = 0) ∨ (fe + 2 < n ∧ n ≤ fe + 11 ∧ t.getD fe 0 = 101 ∧ (∀ k, fe + 2 ≤ k → k < n → dig (t.getD k 0)) ∧
    ((t.getD (fe + 1) 0 = 43 ∧ ev = numL (t.drop (fe + 2))) ∨ (t.getD (fe + 1) 0 = 45 ∧ ev = -numL (t.drop (fe + 2)))))

/-- The leading and the trailing zeros of the digits. -/
structure Strip (A : List Int) (L M : Nat) : Prop where
  lt : L < M
  le : M ≤ A.length
  lead : ∀ k, k < L → A.getD k 0 = 48
  first : A.getD L 0 ≠ 48
  trail : ∀ k, M ≤ k → k < A.length → A.getD k 0 = 48
  last : A.getD (M - 1) 0 ≠ 48

theorem results_tmp5 {fn : Func} {x0 x1 x2 x3 x4 : Tmp} (h : fn.results = #[.tmp x0, .tmp x1, .tmp x2, .tmp x3, .tmp x4]) (tmps : Array Value) (P : Program) (w : World) :
    (results fn tmps).run P w = .ok (.tuple #[tmps.getD x0 undef, tmps.getD x1 undef, tmps.getD x2 undef, tmps.getD x3 undef, tmps.getD x4 undef]) w := by
  simp [results, h]

theorem take_step (l : List Int) (k : Nat) (hk : k < l.length) : l.take k ++ [l.getD k 0] = l.take (k + 1) := by
  rw [List.take_succ_eq_append_getElem hk]
  simp [List.getD, hk]
theorem drop_step (l : List Int) (x d : Nat) (hk : x + d < l.length) : (l.drop x).take d ++ [l.getD (x + d) 0] = (l.drop x).take (d + 1) := by
  rw [List.take_succ_eq_append_getElem (by rw [List.length_drop]; omega)]
  simp [List.getD, hk]

theorem blk_new {h g : Nat} (e : blk (some ⟨h, 0, none⟩) = some g) : h ≤ g := by
  cases e
  exact Nat.le_refl _

set_option maxRecDepth 100000 in
set_option maxHeartbeats 16000000 in
theorem model_any (a : Option Addr) (n cap : Nat) (t : List Int) (p1 fs fe : Nat) (ev : Int) (w : World) (h : RdS w a n cap t) (T : NumT t n p1 fs fe ev) (hn : n ≤ 100000000)
    (A : List Int) (L M : Nat) (hA : Hid (A = t.take p1 ++ (t.drop fs).take (fe - fs))) (S : Strip A L M) (hev1 : -100000000000 ≤ ev) (hev2 : ev ≤ 100000000000) :
    Calls Tryd.prog 10 #[.slice a n cap] w fun e w' => ∃ a' m c', e = .returned (.tuple #[.bool true, .bool false, .slice a' m c', .int .i64 ((p1 : Int) - (L : Int) + ev), .bool true]) ∧ RdS w' a' m c' ((A.take M).drop L) ∧ w.grownBy w' none := by
  obtain ⟨i0, hi, hz0, hz1, hz2⟩ := info_parts info5
  have hle := h.le
  have hmax := h.max
  unfold maxLen at hmax
  have t1 := T.one
  have t2 := T.le1
  have t3 := T.le2
  obtain ⟨b, off, rfl, hb, hc⟩ := h.pos (by omega)
  have HC : Hid (∀ i, i < n → w.cell? ⟨b, off + i, none⟩ = some (.int .u8 (t.getD i 0))) := hc
  clear hc
  have d0 := HC.out 0 (by omega)
  rw [Nat.add_zero] at d0
  have v1 := (T.ints 0 (by omega)).1
  have v2 := (T.ints 0 (by omega)).2
  have v3 := T.zero
  generalize t.getD 0 0 = v0 at d0 v1 v2 v3
  have V3 : Hid (p1 = 1 ∨ v0 ≠ 48) := v3
  clear v3
  have m0 : (v0 == 45) = false := beq_eq_false_iff_ne.2 (by omega)
  have m1 : decide ((0 : Int) < (n : Int)) = true := decide_eq_true (by omega)
  go_enter Tryd.func10, Tryd.ntmps10
  go_upto_block 0 with fail
  go_cut [7] from 23 to 49 (fun i w' => i = .int .i64 (p1 : Nat) ∧ w = w')
  case first =>
    go_wp2_with fail
    go_loopw [7] (fun i wx => ∃ k : Nat, k ≤ p1 ∧ i = .int .i64 k ∧ w = wx) (fun i _ => p1 - (intOf i).toNat)
    case atStart => exact ⟨0, Nat.zero_le _, rfl, rfl⟩
    case round =>
      obtain ⟨k, hk, rfl, rfl⟩ := hrel
      clear m0 m1 d0
      by_cases hlt : k < p1
      · have g := HC.out k (by omega)
        obtain ⟨e1, e2⟩ := T.ints k hlt
        generalize t.getD k 0 = v at g e1 e2
        go_wp2_with (go_at_call 21; refine (dig_yes _ e1 e2 _).mono ?_; rintro e w' ⟨rfl, rfl⟩)
        go_roundw
        case rel => exact ⟨k + 1, by omega, by go_num, trivial⟩
        case measure => simp [intOf]; omega
      · obtain rfl : k = p1 := by omega
        by_cases hkn : k < n
        · have g := HC.out k hkn
          have hv : t.getD k 0 < 48 ∨ 57 < t.getD k 0 := by
            rcases T.frac with ⟨f1, f2⟩ | ⟨_, _, f3, _⟩
            · rcases T.exp with ⟨x1, _⟩ | ⟨_, _, x3, _⟩
              · omega
              · rw [f2] at x3; omega
            · omega
          generalize t.getD k 0 = v at g hv
          have HV : Hid (v < 48 ∨ 57 < v) := hv
          clear hv
          go_wp2_with (go_at_call 21; refine (dig_no _ HV.out _).mono ?_; rintro e w' ⟨rfl, rfl⟩)
          go_meet
          case rel => exact ⟨rfl, rfl⟩
        · have hge : decide ((k : Int) < (n : Int)) = false := decide_eq_false (by omega)
          go_wp2_with fail
          go_meet
          case rel => exact ⟨rfl, rfl⟩
  case rest =>
    obtain ⟨rfl, rfl⟩ := hcut
    clear m0 m1
    go_upto_region 12 with fail
    go_cut [63] from 50 to 63 (fun v w' => v = .bool false ∧ w = w')
    case first =>
      by_cases h1 : p1 = 1
      · have q : decide ((1 : Int) < (p1 : Int)) = false := decide_eq_false (by omega)
        clear h1
        go_wp2_with fail
        go_meet
        case rel => exact ⟨rfl, rfl⟩
      · have q : decide ((1 : Int) < (p1 : Int)) = true := decide_eq_true (by omega)
        have q2 : (v0 == 48) = false := by
          rcases V3.out with h | h
          · omega
          · exact beq_eq_false_iff_ne.2 h
        clear h1
        go_wp2_with fail
        go_meet
        case rel => exact ⟨rfl, rfl⟩
    case rest =>
      obtain ⟨rfl, rfl⟩ := hcut
      clear d0 V3
      go_upto_region 16 with fail
      obtain ⟨fB, hfB⟩ : ∃ fB : Bool, Hid (fB = decide (fs = p1 + 1)) := ⟨_, rfl⟩
      go_cut [76] from 64 to 76 (fun v w' => v = .bool fB ∧ w = w')
      case first =>
        by_cases hpn : p1 < n
        · have g := HC.out p1 hpn
          have q1 : decide ((p1 : Int) < (n : Int)) = true := decide_eq_true (by omega)
          have q1' : decide (p1 < n) = true := decide_eq_true hpn
          have hv : (t.getD p1 0 == 46) = fB := by
            rw [hfB.out]
            rcases T.frac with ⟨f1, f2⟩ | ⟨f1, _, f3, _⟩
            · rcases T.exp with ⟨x1, _⟩ | ⟨_, _, x3, _⟩
              · omega
              · rw [f2] at x3
                rw [x3, decide_eq_false (by omega)]
                rfl
            · rw [f3, decide_eq_true f1]
              rfl
          generalize t.getD p1 0 = v at g hv
          go_wp2_with fail
          go_meet
          case rel => exact ⟨rfl, rfl⟩
        · have q1 : decide ((p1 : Int) < (n : Int)) = false := decide_eq_false (by omega)
          have q1' : decide (p1 < n) = false := decide_eq_false hpn
          have hf : fB = false := by
            rw [hfB.out]
            rcases T.frac with ⟨f1, f2⟩ | ⟨f1, f2, f3, _⟩
            · exact decide_eq_false (by omega)
            · omega
          subst hf
          go_wp2_with fail
          go_meet
          case rel => exact ⟨rfl, rfl⟩
      case rest =>
        obtain ⟨rfl, rfl⟩ := hcut
        go_upto_if 76 with fail
        go_cut [7, 11, 12] from 77 to 96 (fun i x y w' => i = .int .i64 (fe : Nat) ∧ x = .int .i64 (fs : Nat) ∧ y = .int .i64 (fe : Nat) ∧ w = w')
        case first =>
          rcases T.frac with ⟨f1, f2⟩ | ⟨f1, f2, f3, f4⟩
          · have hf : fB = false := by rw [hfB.out]; exact decide_eq_false (by omega)
            subst hf
            subst f1
            subst f2
            go_wp2_with fail
            go_meet
            case rel => exact ⟨rfl, rfl, rfl, rfl⟩
          · have hf : fB = true := by rw [hfB.out]; exact decide_eq_true f1
            subst hf
            have F1 : Hid (fs = p1 + 1) := f1
            have ef : (p1 : Int) + 1 = (fs : Int) := by omega
            clear f1 f3
            have F4 : Hid (∀ k, fs ≤ k → k < fe → dig (t.getD k 0)) := f4
            clear f4
            have EF : Hid ((p1 : Int) + 1 = (fs : Int)) := ef
            clear ef
            go_upto_block 2 with fail
            rw [EF.out]
            go_cut [7] from 77 to 92 (fun i w' => i = .int .i64 (fe : Nat) ∧ w = w')
            case first =>
              go_wp2_with fail
              go_loopw [7] (fun i wx => ∃ k : Nat, fs ≤ k ∧ k ≤ fe ∧ i = .int .i64 k ∧ w = wx) (fun i _ => fe - (intOf i).toNat)
              case atStart => exact ⟨fs, Nat.le_refl _, by omega, rfl, rfl⟩
              case round =>
                obtain ⟨k, hk0, hk, rfl, rfl⟩ := hrel
                by_cases hlt : k < fe
                · have g := HC.out k (by omega)
                  obtain ⟨e1, e2⟩ := F4.out k hk0 hlt
                  generalize t.getD k 0 = v at g e1 e2
                  go_wp2_with (go_at_call 21; refine (dig_yes _ e1 e2 _).mono ?_; rintro e w' ⟨rfl, rfl⟩)
                  go_roundw
                  case rel => exact ⟨k + 1, by omega, by omega, by go_num, trivial⟩
                  case measure => simp [intOf]; omega
                · obtain rfl : k = fe := by omega
                  by_cases hkn : k < n
                  · have g := HC.out k hkn
                    have hv : t.getD k 0 < 48 ∨ 57 < t.getD k 0 := by
                      rcases T.exp with ⟨x1, _⟩ | ⟨_, _, x3, _⟩
                      · omega
                      · omega
                    generalize t.getD k 0 = v at g hv
                    have HV : Hid (v < 48 ∨ 57 < v) := hv
                    clear hv
                    go_wp2_with (go_at_call 21; refine (dig_no _ HV.out _).mono ?_; rintro e w' ⟨rfl, rfl⟩)
                    go_meet
                    case rel => exact ⟨rfl, rfl⟩
                  · have hge : decide ((k : Int) < (n : Int)) = false := decide_eq_false (by omega)
                    go_wp2_with fail
                    go_meet
                    case rel => exact ⟨rfl, rfl⟩
            case rest =>
              obtain ⟨rfl, rfl⟩ := hcut
              have q : ((fe : Int) == (fs : Int)) = false := beq_eq_false_iff_ne.2 (by omega)
              go_wp2_with fail
              go_meet
              case rel => exact ⟨rfl, rfl, rfl, rfl⟩
        case rest =>
          obtain ⟨rfl, rfl, rfl, rfl⟩ := hcut
          go_upto_region 26 with fail
          obtain ⟨xB, hxB⟩ : ∃ xB : Bool, Hid (xB = decide (fe < n)) := ⟨_, rfl⟩
          go_cut [114] from 97 to 114 (fun v w' => v = .bool xB ∧ w = w')
          case first =>
            by_cases hpn : fe < n
            · have g := HC.out fe hpn
              have q1 : decide ((fe : Int) < (n : Int)) = true := decide_eq_true (by omega)
              have q1' : decide (fe < n) = true := decide_eq_true hpn
              have hx : xB = true := by rw [hxB.out]; exact q1'
              have hv : t.getD fe 0 = 101 := by
                rcases T.exp with ⟨x1, _⟩ | ⟨_, _, x3, _⟩
                · omega
                · exact x3
              rw [hv] at g
              subst hx
              clear hv
              go_wp2_with fail
              go_meet
              case rel => exact ⟨rfl, rfl⟩
            · have q1 : decide ((fe : Int) < (n : Int)) = false := decide_eq_false (by omega)
              have q1' : decide (fe < n) = false := decide_eq_false hpn
              have hx : xB = false := by rw [hxB.out]; exact q1'
              subst hx
              go_wp2_with fail
              go_meet
              case rel => exact ⟨rfl, rfl⟩
          case rest =>
            obtain ⟨rfl, rfl⟩ := hcut
            go_upto_if 114 with fail
            go_cut [7, 13, 14] from 115 to 180 (fun i x y w' => i = .int .i64 (n : Nat) ∧ x = .int .i64 ev ∧ y = .bool true ∧ w = w')
            case first =>
              rcases T.exp with ⟨x1, x2⟩ | ⟨x1, x2, x3, x4, x5⟩
              · have hx : xB = false := by rw [hxB.out]; exact decide_eq_false (by omega)
                subst hx
                subst x1
                subst x2
                go_wp2_with fail
                go_meet
                case rel => exact ⟨rfl, rfl, rfl, rfl⟩
              · have hx : xB = true := by rw [hxB.out]; exact decide_eq_true (by omega)
                subst hx
                clear x3
                have X4 : Hid (∀ k, fe + 2 ≤ k → k < n → dig (t.getD k 0)) := x4
                clear x4
                have g := HC.out (fe + 1) (by omega)
                obtain ⟨ng, hng, hev⟩ : ∃ ng : Bool, Hid (t.getD (fe + 1) 0 = if ng then 45 else 43) ∧ Hid (ev = if ng then -numL (t.drop (fe + 2)) else numL (t.drop (fe + 2))) := by
                  rcases x5 with ⟨y1, y2⟩ | ⟨y1, y2⟩
                  · exact ⟨false, by unfold Hid; simpa using y1, by unfold Hid; simpa using y2⟩
                  · exact ⟨true, by unfold Hid; simpa using y1, by unfold Hid; simpa using y2⟩
                clear x5
                rw [hng.out] at g
                have z1 : decide ((fe : Int) + 1 < (n : Int)) = true := decide_eq_true (by omega)
                obtain ⟨x, hx1, hx2⟩ : ∃ x : Nat, fe + 2 ≤ x ∧ x ≤ fe + 2 := ⟨fe + 2, Nat.le_refl _, Nat.le_refl _⟩
                have HX : Hid (fe + 2 = x) := (by unfold Hid; omega)
                rw [HX.out] at hev X4
                go_upto_region 29 with fail
                go_cut [134] from 115 to 134 (fun v w' => v = .bool true ∧ w = w')
                case first =>
                  cases ng
                  all_goals
                    simp only [if_true, if_false, Bool.false_eq_true] at g
                    go_wp2_with fail
                    go_meet
                    case rel => exact ⟨rfl, rfl⟩
                case rest =>
                  obtain ⟨rfl, rfl⟩ := hcut
                  go_upto_if 134 with fail
                  go_cut [7, 15] from 135 to 141 (fun i y w' => i = .int .i64 (x : Nat) ∧ y = .bool ng ∧ w = w')
                  case first =>
                    cases ng
                    all_goals
                      simp only [if_true, if_false, Bool.false_eq_true] at g
                      go_wp2_with fail
                      go_meet
                      case rel => exact ⟨by go_num, rfl, rfl⟩
                  case rest =>
                    obtain ⟨rfl, rfl, rfl⟩ := hcut
                    clear g z1
                    go_upto_block 4 with fail
                    go_cut [7] from 142 to 155 (fun i w' => i = .int .i64 (n : Nat) ∧ w = w')
                    case first =>
                      go_wp2_with fail
                      go_loopw [7] (fun i wx => ∃ k : Nat, x ≤ k ∧ k ≤ n ∧ i = .int .i64 k ∧ w = wx) (fun i _ => n - (intOf i).toNat)
                      case atStart => exact ⟨x, Nat.le_refl _, by omega, rfl, rfl⟩
                      case round =>
                        obtain ⟨k, hk0, hk, rfl, rfl⟩ := hrel
                        by_cases hlt : k < n
                        · have g := HC.out k (by omega)
                          obtain ⟨e1, e2⟩ := X4.out k hk0 hlt
                          generalize t.getD k 0 = v at g e1 e2
                          go_wp2_with (go_at_call 21; refine (dig_yes _ e1 e2 _).mono ?_; rintro e w' ⟨rfl, rfl⟩)
                          go_roundw
                          case rel => exact ⟨k + 1, by omega, by omega, by go_num, trivial⟩
                          case measure => simp [intOf]; omega
                        · obtain rfl : k = n := by omega
                          have hge : decide ((k : Int) < (k : Int)) = false := decide_eq_false (by omega)
                          go_wp2_with fail
                          go_meet
                          case rel => exact ⟨rfl, rfl⟩
                    case rest =>
                      obtain ⟨rfl, rfl⟩ := hcut
                      have z2 : ((n : Int) == (x : Int)) = false := beq_eq_false_iff_ne.2 (by omega)
                      have z3 : decide ((9 : Int) < (n : Int) - (x : Int)) = false := decide_eq_false (by omega)
                      go_upto_block 6 with fail
                      go_cut [13, 17] from 156 to 177 (fun i y w' => i = .int .i64 (numL (t.drop x)) ∧ w = w')
                      case first =>
                        go_wp2_with fail
                        go_loop [13, 17] (fun y j => ∃ k : Nat, x ≤ k ∧ k ≤ n ∧ j = .int .i64 k ∧ y = .int .i64 (numL ((t.drop x).take (k - x)))) (fun _ j => n - (intOf j).toNat)
                        case atStart => exact ⟨x, Nat.le_refl _, by omega, rfl, by simp [numL]⟩
                        case round =>
                          obtain ⟨k, hk0, hk, rfl, rfl⟩ := hrel
                          by_cases hlt : k < n
                          · have g := HC.out k (by omega)
                            obtain ⟨e1, e2⟩ := X4.out k hk0 hlt
                            obtain ⟨d, rfl⟩ : ∃ d, k = x + d := ⟨k - x, by omega⟩
                            have B := numL_bound t x n T.len X4.out d (by omega)
                            have P := pow_le9 d (by omega)
                            have S : Hid (numL ((t.drop x).take (d + 1)) = numL ((t.drop x).take d) * 10 + (t.getD (x + d) 0 - 48)) := numL_step t x d (by rw [T.len]; omega)
                            rw [show x + d - x = d from by omega]
                            generalize t.getD (x + d) 0 = v at g e1 e2 S
                            generalize numL ((t.drop x).take d) = E at B S ⊢
                            have B1 : 0 ≤ E := B.1
                            have B2 : E ≤ 100000000 := by omega
                            clear B P
                            go_wp2_with fail
                            go_round
                            case rel => exact ⟨x + d + 1, by omega, by omega, by go_num, by rw [show x + d + 1 - x = d + 1 from by omega, S.out]⟩
                            case measure => simp [intOf]; omega
                          · obtain rfl : k = n := by omega
                            have ht : (t.drop x).take (k - x) = t.drop x := List.take_of_length_le (by rw [List.length_drop, T.len]; omega)
                            rw [ht]
                            clear ht
                            go_wp2_with fail
                            go_meet
                            case rel => exact ⟨rfl, rfl⟩
                      case rest =>
                        obtain ⟨rfl, rfl⟩ := hcut
                        have B := numL_bound t x n T.len X4.out (n - x) (by omega)
                        rw [List.take_of_length_le (by rw [List.length_drop, T.len]; omega)] at B
                        have P : (10 : Int) ^ (n - x) ≤ 10000000000 := by
                          have : ∀ d : Fin 10, (10 : Int) ^ d.val ≤ 10000000000 := by decide
                          exact this ⟨n - x, by omega⟩
                        generalize numL (t.drop x) = E at B hev ⊢
                        have B1 : 0 ≤ E := B.1
                        have B2 : E ≤ 10000000000 := by omega
                        clear B P
                        cases ng
                        · have hv : ev = E := by simpa [Hid] using hev.out
                          subst hv
                          go_wp2_with fail
                          go_meet
                          case rel => exact ⟨rfl, rfl, rfl, rfl⟩
                        · have hv : ev = -E := by simpa [Hid] using hev.out
                          subst hv
                          go_wp2_with fail
                          go_meet
                          case rel => exact ⟨rfl, rfl, rfl, rfl⟩
            case rest =>
              obtain ⟨rfl, rfl, rfl, rfl⟩ := hcut
              have y1 : ((n : Int) != (n : Int)) = false := by simp
              have y2 : fs ≤ fe := by rcases T.frac with ⟨_, _⟩ | ⟨_, _, _⟩ <;> omega
              have TL : Hid (t.length = n) := T.len
              go_upto_block 8 with (at_make; refine wpList_make_own _ rfl _ _ 22 rfl w.heap.size 5 i0 (.int .u8 0) 1 Tryd.underlying22 hi hz0 hz1 _ _ _ (p1 + (fe - fs)) rfl rfl (by omega) (by rw [hz2]; omega) (by unfold maxLen; omega) (Nat.le_refl _) ?_; intro w1 hown1 hgr1)
              go_cut [18] from 181 to 205 (fun v w' => ∃ a m c, v = .slice a m c ∧ OwnS w' w.heap.size a m c (t.take p1) ∧ w.grownBy w' none)
              case first =>
                go_wp2_with fail
                go_loopw [18, 19] (fun v j wr => ∃ k a m c, k ≤ p1 ∧ j = .int .i64 (k : Nat) ∧ v = .slice a m c ∧ OwnS wr w.heap.size a m c (t.take k) ∧ w.grownBy wr none) (fun _ j _ => p1 - (intOf j).toNat)
                case atStart => exact ⟨0, some ⟨w.heap.size, 0, none⟩, 0, p1 + (fe - fs), Nat.zero_le _, rfl, rfl, ⟨rfl, hown1⟩, hgr1⟩
                case round =>
                  obtain ⟨k, ar, m, c, hk, rfl, rfl, ho, hg⟩ := hrel
                  clear hown1 hgr1
                  by_cases hlt : k < p1
                  · have g : wr.cell? ⟨b, off + k, none⟩ = some (.int .u8 (t.getD k 0)) := by
                      rw [World.cell?_of_block (w := w) (hg.block b hb (by simp))]; exact HC.out k (by omega)
                    have hm : m ≤ 100000000 := by have := ho.len; rw [List.length_take] at this; omega
                    have hsz := hg.size
                    have HT : Hid (t.take k ++ [t.getD k 0] = t.take (k + 1)) := take_step t k (by rw [TL.out]; omega)
                    generalize t.getD k 0 = v at g HT
                    go_wp2_with (at_builtin; refine wpList_append_b8 _ rfl (.tmp 199) (.tmp 204) 22 22 rfl w.heap.size i0 Tryd.underlying22 hi hz0 hz1 hz2 ar m c _ rfl (ho.alloc _) _ 1 [v] rfl (src1 wr Tryd.underlying22 _) (by omega) (by simp; omega) ?_; intro a2 n2 c2 w2 hn2 ho2 hm2)
                    have G := grown_new (hg.trans (World.grownBy_alloc _ _ _)) hm2 (fun g e => (ho.lt e).1)
                    rw [HT.out] at ho2
                    go_roundw
                    case rel => exact ⟨k + 1, a2, n2, c2, by omega, by go_num, rfl, ho2, G.1⟩
                    case measure => simp [intOf]; omega
                  · obtain rfl : k = p1 := by omega
                    go_wp2_with fail
                    go_meet
                    case rel => exact ⟨ar, m, c, rfl, ho, hg⟩
              case rest =>
                obtain ⟨a1, m1, c1, rfl, ho1, hg1⟩ := hcut
                clear hown1 hgr1
                go_upto_block 10 with fail
                go_cut [18] from 206 to 218 (fun v w' => ∃ a m c, v = .slice a m c ∧ OwnS w' w.heap.size a m c A ∧ w.grownBy w' none)
                case first =>
                  go_wp2_with fail
                  go_loopw [18, 20] (fun v j wr => ∃ k a m c, fs ≤ k ∧ k ≤ fe ∧ j = .int .i64 (k : Nat) ∧ v = .slice a m c ∧ OwnS wr w.heap.size a m c (t.take p1 ++ (t.drop fs).take (k - fs)) ∧ w.grownBy wr none) (fun _ j _ => fe - (intOf j).toNat)
                  case atStart => exact ⟨fs, a1, m1, c1, Nat.le_refl _, y2, rfl, rfl, by rw [Nat.sub_self, List.take_zero, List.append_nil]; exact ho1, hg1⟩
                  case round =>
                    obtain ⟨k, ar, m, c, hk0, hk, rfl, rfl, ho, hg⟩ := hrel
                    clear ho1 hg1
                    by_cases hlt : k < fe
                    · have g : wr.cell? ⟨b, off + k, none⟩ = some (.int .u8 (t.getD k 0)) := by
                        rw [World.cell?_of_block (w := w) (hg.block b hb (by simp))]; exact HC.out k (by omega)
                      have hm : m ≤ 200000000 := by have := ho.len; rw [List.length_append, List.length_take, List.length_take] at this; omega
                      have hsz := hg.size
                      obtain ⟨d, rfl⟩ : ∃ d, k = fs + d := ⟨k - fs, by omega⟩
                      have HT : Hid ((t.drop fs).take d ++ [t.getD (fs + d) 0] = (t.drop fs).take (d + 1)) := drop_step t fs d (by rw [TL.out]; omega)
                      rw [show fs + d - fs = d from by omega] at ho
                      generalize t.getD (fs + d) 0 = v at g HT
                      go_wp2_with (at_builtin; refine wpList_append_b8 _ rfl (.tmp 212) (.tmp 217) 22 22 rfl w.heap.size i0 Tryd.underlying22 hi hz0 hz1 hz2 ar m c _ rfl (ho.alloc _) _ 1 [v] rfl (src1 wr Tryd.underlying22 _) (by omega) (by simp; omega) ?_; intro a2 n2 c2 w2 hn2 ho2 hm2)
                      have G := grown_new (hg.trans (World.grownBy_alloc _ _ _)) hm2 (fun g e => (ho.lt e).1)
                      rw [List.append_assoc, HT.out] at ho2
                      go_roundw
                      case rel => exact ⟨fs + d + 1, a2, n2, c2, by omega, by omega, by go_num, rfl, by rw [show fs + d + 1 - fs = d + 1 from by omega]; exact ho2, G.1⟩
                      case measure => simp [intOf]; omega
                    · obtain rfl : k = fe := by omega
                      rw [← hA.out] at ho
                      go_wp2_with fail
                      go_meet
                      case rel => exact ⟨ar, m, c, rfl, ho, hg⟩
                case rest =>
                  clear ho1 hg1
                  obtain ⟨a2, m2, c2, rfl, ho2, hg2⟩ := hcut
                  have rd := ho2.rd
                  have AL : Hid (A.length = m2) := rd.len
                  have s1 := S.lt
                  have s2 : M ≤ m2 := by rw [← AL.out]; exact S.le
                  have s3 := rd.le
                  have s4 := rd.max
                  unfold maxLen at s4
                  have s5 : m2 ≤ 300000000 := by
                    have e1 := AL.out
                    rw [hA.out, List.length_append, List.length_take, List.length_take] at e1
                    omega
                  obtain ⟨b2, o2, rfl, hb2, hc2⟩ := rd.pos (by omega)
                  have HD : Hid (∀ i, i < m2 → wc.cell? ⟨b2, o2 + i, none⟩ = some (.int .u8 (A.getD i 0))) := hc2
                  clear hc2 ho2
                  go_upto_block 12 with fail
                  go_cut [21] from 219 to 231 (fun v w' => v = .int .i64 (L : Nat) ∧ wc = w')
                  case first =>
                    go_wp2_with fail
                    go_loop [21] (fun i => ∃ k : Nat, k ≤ L ∧ i = .int .i64 k) (fun i => L - (intOf i).toNat)
                    case atStart => exact ⟨0, Nat.zero_le _, rfl⟩
                    case round =>
                      obtain ⟨k, hk, rfl⟩ := hrel
                      have z1 : decide ((k : Int) < (m2 : Int)) = true := decide_eq_true (by omega)
                      by_cases hlt : k < L
                      · have g := HD.out k (by omega)
                        rw [S.lead k hlt] at g
                        go_wp2_with fail
                        go_round
                        case rel => exact ⟨k + 1, by omega, by go_num⟩
                        case measure => simp [intOf]; omega
                      · obtain rfl : k = L := by omega
                        have g := HD.out k (by omega)
                        have q : (A.getD k 0 == 48) = false := beq_eq_false_iff_ne.2 S.first
                        generalize A.getD k 0 = v at g q
                        go_wp2_with fail
                        go_meet
                        case rel => exact ⟨rfl, rfl⟩
                  case rest =>
                    obtain ⟨rfl, rfl⟩ := hcut
                    go_upto_block 14 with fail
                    go_cut [22] from 232 to 246 (fun v w' => v = .int .i64 (M : Nat) ∧ wc = w')
                    case first =>
                      go_wp2_with fail
                      go_loop [22] (fun i => ∃ k : Nat, M ≤ k ∧ k ≤ m2 ∧ i = .int .i64 k) (fun i => (intOf i).toNat)
                      case atStart => exact ⟨m2, s2, Nat.le_refl _, rfl⟩
                      case round =>
                        obtain ⟨k, hk0, hk, rfl⟩ := hrel
                        have z1 : decide ((L : Int) < (k : Int)) = true := decide_eq_true (by omega)
                        have g := HD.out (k - 1) (by omega)
                        by_cases hlt : M < k
                        · rw [S.trail (k - 1) (by omega) (by rw [AL.out]; omega)] at g
                          go_wp2_with fail
                          go_round
                          case rel => exact ⟨k - 1, by omega, by omega, by go_num⟩
                          case measure => simp [intOf]; omega
                        · obtain rfl : k = M := by omega
                          have q : (A.getD (k - 1) 0 == 48) = false := beq_eq_false_iff_ne.2 S.last
                          generalize A.getD (k - 1) 0 = v at g q
                          go_wp2_with fail
                          go_meet
                          case rel => exact ⟨rfl, rfl⟩
                    case rest =>
                      obtain ⟨rfl, rfl⟩ := hcut
                      have i1 : (0 : Int) ≤ (L : Int) := by omega
                      have i2 : (L : Int) ≤ (M : Int) := by omega
                      have i3 : (M : Int) ≤ (c2 : Int) := by omega
                      go_wp2_with fail
                      go_quiet (fail)
                      go_wp2
                      refine bodyPost_ret (results_tmp5 rfl _ _ _) rfl ?_
                      have rc := rd.cut L M (by omega) s2 (some ⟨b2, o2 + L, none⟩) (fun _ => by simp [Addr.add_lit]) (fun h => by omega)
                      exact ⟨some ⟨b2, o2 + L, none⟩, M - L, c2 - L, rfl, rc.onward (grownBy_drewN _ _), hg2.trans (grownBy_drewN _ _)⟩
end Go.Proofs.Qxb6001102aDoor
