import Derived.Test.Qxb6001102aDoorAppB
namespace Go.Proofs.Qxb6001102aDoor
open Go.RowKit

/-- The text that appendNumber writes. -/
def numText (s : List Int) (p : Int) : List Int :=
  if (s.length : Int) ≤ p ∧ p ≤ 21 then s ++ List.replicate (p - s.length).toNat 48
  else if 0 < p ∧ p ≤ 21 then s.take p.toNat ++ [46] ++ s.drop p.toNat
  else if -6 < p ∧ p ≤ 0 then [48, 46] ++ List.replicate (-p).toNat 48 ++ s
  else [s.getD 0 0] ++ (if 1 < s.length then [46] ++ s.drop 1 else []) ++ [101] ++ (if 0 < p then [43] else []) ++ itoaI (p - 1)

theorem appnum_any (ao : Option Addr) (n : Nat) (zs : List Int) (ad : Option Addr) (k cd : Nat) (s : List Int) (p : Int) (w : World) (hrd : RdS w ao n n zs) (hs : RdS w ad k cd s)
    (hk1 : 1 ≤ k) (hk : k ≤ 1048576) (hn : n ≤ 1048576) (hp1 : -600000000 ≤ p) (hp2 : p ≤ 600000000)
    (htab : Lib.TabBelow Tryd.prog w.heap.size w Tryd.powN .u64 Lib.pow10Tab) :
    Calls Tryd.prog 22 #[.slice ao n n, .agg #[.slice ad k cd, .int .i64 p]] w fun e w' => ∃ a' n' c', e = .returned (.slice a' n' c') ∧ OwnS w' w.heap.size a' n' c' (zs ++ numText s p) ∧ w.grownBy w' none := by
  have hl := hs.len
  unfold numText
  rw [hl]
  by_cases c1 : (k : Int) ≤ p ∧ p ≤ 21
  · rw [if_pos c1]
    obtain ⟨c, rfl⟩ : ∃ c : Nat, p = (k : Int) + (c : Int) := ⟨(p - k).toNat, by omega⟩
    rw [show ((k : Int) + (c : Int) - (k : Int)).toNat = c from by omega, ← List.append_assoc]
    exact app_case1 ao n zs ad k cd s c w hrd hs hk1 hn (by omega)
  · rw [if_neg c1]
    by_cases c2 : 0 < p ∧ p ≤ 21
    · rw [if_pos c2]
      obtain ⟨m, rfl⟩ : ∃ m : Nat, p = (m : Int) := ⟨p.toNat, by omega⟩
      rw [Int.toNat_natCast, ← List.append_assoc, ← List.append_assoc]
      exact app_case2 ao n zs ad k cd s m w hrd hs hk hn (by omega) (by omega) (by omega)
    · rw [if_neg c2]
      by_cases c3 : -6 < p ∧ p ≤ 0
      · rw [if_pos c3]
        obtain ⟨c, rfl⟩ : ∃ c : Nat, p = -(c : Int) := ⟨(-p).toNat, by omega⟩
        rw [show (-(-(c : Int))).toNat = c from by omega, ← List.append_assoc, ← List.append_assoc]
        exact app_case3 ao n zs ad k cd s c w hrd hs hk1 hk hn (by omega)
      · rw [if_neg c3]
        by_cases hk2 : 1 < k
        · rw [if_pos hk2]
          by_cases hp : 0 < p
          · rw [if_pos hp]
            have := app_4bp ao n zs ad k cd s p w hrd hs hk2 hk hn (by omega) (by omega) htab
            simpa using this
          · rw [if_neg hp]
            have := app_4bn ao n zs ad k cd s p w hrd hs hk2 hk hn (by omega) (by omega) htab
            simpa using this
        · rw [if_neg hk2]
          by_cases hp : 0 < p
          · rw [if_pos hp]
            have := app_4sp ao n zs ad k cd s p w hrd hs (by omega) hk hn (by omega) (by omega) htab
            simpa using this
          · rw [if_neg hp]
            have := app_4sn ao n zs ad k cd s p w hrd hs (by omega) hk hn (by omega) (by omega) htab
            simpa using this

set_option maxHeartbeats 400000 in
theorem zzappnum_any (ao : Option Addr) (n : Nat) (zs : List Int) (ad : Option Addr) (k cd : Nat) (s : List Int) (p : Int) (w : World) (hrd : RdS w ao n n zs) (hs : RdS w ad k cd s)
    (hk1 : 1 ≤ k) (hk : k ≤ 1048576) (hn : n ≤ 1048576) (hp1 : -600000000 ≤ p) (hp2 : p ≤ 600000000)
    (htab : Lib.TabBelow Tryd.prog w.heap.size w Tryd.powN .u64 Lib.pow10Tab) :
    Calls Tryd.prog 18 #[.slice ao n n, .slice ad k cd, .int .i64 p] w fun e w' => ∃ a' n' c', e = .returned (.slice a' n' c') ∧ OwnS w' w.heap.size a' n' c' (zs ++ numText s p) ∧ w.grownBy w' none := by
  go_enter Tryd.func18, Tryd.ntmps18
  go_wp2_with (go_at_call 22; refine (appnum_any ao n zs ad k cd s p w hrd hs hk1 hk hn hp1 hp2 htab).mono ?_; rintro e w' ⟨a', n', c', rfl, ho, hg⟩)
  go_ret
  exact ⟨a', n', c', rfl, ho, hg⟩
end Go.Proofs.Qxb6001102aDoor
