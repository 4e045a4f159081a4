/-
  THE WALK OF FnHex4MatchesPositionalValue (3). By an AI agent.
-/
import Derived.Test.Qxb6603695aHex
namespace Go.Proofs.Qxb6603695a.Hx
open Go.RowKit

theorem digit_as (c d : Int) (h : dg c = d) (w : World) : Calls Try.prog 11 #[.int .u8 c] w fun e w' => e = .returned (.int .i32 d) ∧ w' = w := by
  subst h
  exact digit_any c w

theorem zzhex4_as (s : ByteArray) (H : Int) (h : hexS s = H) (w : World) : Calls Try.prog 10 #[.string s] w fun e w' => e = .returned (.int .i32 H) ∧ w' = w := by
  subst h
  exact zzhex4_any s w

set_option maxHeartbeats 1000000 in
theorem pos_walk (s : ByteArray) (hs : s.size ≤ maxLen) (w : World) :
    Calls Try.prog 3 #[.string s] w fun e w' => e = .returned (.bool true) ∧ w' = w := by
  have hm : s.size ≤ 9223372036854775807 := hs
  by_cases hb : s.size ≤ 1048576
  · have hsm : small s.size = true := by unfold small; simp [hb]
    by_cases h4 : s.size = 4
    · obtain ⟨H, hH⟩ : ∃ H, hexS s = H := ⟨_, rfl⟩
      obtain ⟨d0, e0⟩ : ∃ d, dg ((s[0]'(by omega)).toNat : Int) = d := ⟨_, rfl⟩
      obtain ⟨d1, e1⟩ : ∃ d, dg ((s[1]'(by omega)).toNat : Int) = d := ⟨_, rfl⟩
      obtain ⟨d2, e2⟩ : ∃ d, dg ((s[2]'(by omega)).toNat : Int) = d := ⟨_, rfl⟩
      obtain ⟨d3, e3⟩ : ∃ d, dg ((s[3]'(by omega)).toNat : Int) = d := ⟨_, rfl⟩
      have hS : H = if d0 < 0 ∨ d1 < 0 ∨ d2 < 0 ∨ d3 < 0 then -1 else d0 * 4096 + d1 * 256 + d2 * 16 + d3 := by
        rw [← hH]
        unfold hexS hv
        rw [if_pos h4, bt_at s 0 (by omega), bt_at s 1 (by omega), bt_at s 2 (by omega), bt_at s 3 (by omega), e0, e1, e2, e3]
      have l4 : 4 ≤ s.size := by omega
      have u4 : s.size ≤ 4 := by omega
      have hne : ((s.size : Int) != 4) = false := by rw [bne_eq_false_iff_eq]; omega
      have r0 := dg_range ((s[0]'(by omega)).toNat : Int)
      have r1 := dg_range ((s[1]'(by omega)).toNat : Int)
      have r2 := dg_range ((s[2]'(by omega)).toNat : Int)
      have r3 := dg_range ((s[3]'(by omega)).toNat : Int)
      rw [e0] at r0
      rw [e1] at r1
      rw [e2] at r2
      rw [e3] at r3
      obtain ⟨r0a, r0b⟩ := r0
      obtain ⟨r1a, r1b⟩ := r1
      obtain ⟨r2a, r2b⟩ := r2
      obtain ⟨r3a, r3b⟩ := r3
      have D0 : Hid (∀ h' : 0 < s.size, dg ((s[0]'h').toNat : Int) = d0) := fun _ => e0
      have D1 : Hid (∀ h' : 1 < s.size, dg ((s[1]'h').toNat : Int) = d1) := fun _ => e1
      have D2 : Hid (∀ h' : 2 < s.size, dg ((s[2]'h').toNat : Int) = d2) := fun _ => e2
      have D3 : Hid (∀ h' : 3 < s.size, dg ((s[3]'h').toNat : Int) = d3) := fun _ => e3
      have HS : Hid (hexS s = H) := hH
      clear e0 e1 e2 e3 hH h4
      by_cases c0 : d0 < 0
      · have hH1 : H = -1 := by rw [hS, if_pos (by omega)]
        subst hH1
        clear hS
        go_enter Try.func3, Try.ntmps3
        go_wp2_with fail
        refine (zz9_any s hs _).mono ?_
        rintro e w' ⟨rfl, rfl⟩
        go_wp2_with fail
        refine (zzhex4_as s _ HS.out _).mono ?_
        rintro e w' ⟨rfl, rfl⟩
        go_wp2_with fail
        refine (digit_as _ d0 (D0.out (by omega)) _).mono ?_
        rintro e w' ⟨rfl, rfl⟩
        go_wp2_with fail
        refine (digit_as _ d1 (D1.out (by omega)) _).mono ?_
        rintro e w' ⟨rfl, rfl⟩
        go_wp2_with fail
        refine (digit_as _ d2 (D2.out (by omega)) _).mono ?_
        rintro e w' ⟨rfl, rfl⟩
        go_wp2_with fail
        refine (digit_as _ d3 (D3.out (by omega)) _).mono ?_
        rintro e w' ⟨rfl, rfl⟩
        go_wp2
        go_ret
        exact ⟨rfl, rfl⟩
      by_cases c1 : d1 < 0
      · have hH1 : H = -1 := by rw [hS, if_pos (by omega)]
        subst hH1
        clear hS
        go_enter Try.func3, Try.ntmps3
        go_wp2_with fail
        refine (zz9_any s hs _).mono ?_
        rintro e w' ⟨rfl, rfl⟩
        go_wp2_with fail
        refine (zzhex4_as s _ HS.out _).mono ?_
        rintro e w' ⟨rfl, rfl⟩
        go_wp2_with fail
        refine (digit_as _ d0 (D0.out (by omega)) _).mono ?_
        rintro e w' ⟨rfl, rfl⟩
        go_wp2_with fail
        refine (digit_as _ d1 (D1.out (by omega)) _).mono ?_
        rintro e w' ⟨rfl, rfl⟩
        go_wp2_with fail
        refine (digit_as _ d2 (D2.out (by omega)) _).mono ?_
        rintro e w' ⟨rfl, rfl⟩
        go_wp2_with fail
        refine (digit_as _ d3 (D3.out (by omega)) _).mono ?_
        rintro e w' ⟨rfl, rfl⟩
        go_wp2
        go_ret
        exact ⟨rfl, rfl⟩
      by_cases c2 : d2 < 0
      · have hH1 : H = -1 := by rw [hS, if_pos (by omega)]
        subst hH1
        clear hS
        go_enter Try.func3, Try.ntmps3
        go_wp2_with fail
        refine (zz9_any s hs _).mono ?_
        rintro e w' ⟨rfl, rfl⟩
        go_wp2_with fail
        refine (zzhex4_as s _ HS.out _).mono ?_
        rintro e w' ⟨rfl, rfl⟩
        go_wp2_with fail
        refine (digit_as _ d0 (D0.out (by omega)) _).mono ?_
        rintro e w' ⟨rfl, rfl⟩
        go_wp2_with fail
        refine (digit_as _ d1 (D1.out (by omega)) _).mono ?_
        rintro e w' ⟨rfl, rfl⟩
        go_wp2_with fail
        refine (digit_as _ d2 (D2.out (by omega)) _).mono ?_
        rintro e w' ⟨rfl, rfl⟩
        go_wp2_with fail
        refine (digit_as _ d3 (D3.out (by omega)) _).mono ?_
        rintro e w' ⟨rfl, rfl⟩
        go_wp2
        go_ret
        exact ⟨rfl, rfl⟩
      by_cases c3 : d3 < 0
      · have hH1 : H = -1 := by rw [hS, if_pos (by omega)]
        subst hH1
        clear hS
        go_enter Try.func3, Try.ntmps3
        go_wp2_with fail
        refine (zz9_any s hs _).mono ?_
        rintro e w' ⟨rfl, rfl⟩
        go_wp2_with fail
        refine (zzhex4_as s _ HS.out _).mono ?_
        rintro e w' ⟨rfl, rfl⟩
        go_wp2_with fail
        refine (digit_as _ d0 (D0.out (by omega)) _).mono ?_
        rintro e w' ⟨rfl, rfl⟩
        go_wp2_with fail
        refine (digit_as _ d1 (D1.out (by omega)) _).mono ?_
        rintro e w' ⟨rfl, rfl⟩
        go_wp2_with fail
        refine (digit_as _ d2 (D2.out (by omega)) _).mono ?_
        rintro e w' ⟨rfl, rfl⟩
        go_wp2_with fail
        refine (digit_as _ d3 (D3.out (by omega)) _).mono ?_
        rintro e w' ⟨rfl, rfl⟩
        go_wp2
        go_ret
        exact ⟨rfl, rfl⟩
      have hH1 : H = d0 * 4096 + d1 * 256 + d2 * 16 + d3 := by rw [hS, if_neg (by omega)]
      have hq : (H == d0 * 4096 + d1 * 256 + d2 * 16 + d3) = true := by rw [beq_iff_eq]; exact hH1
      have HH : Hid (H = d0 * 4096 + d1 * 256 + d2 * 16 + d3) := hH1
      clear hS hH1
      go_enter Try.func3, Try.ntmps3
      go_wp2_with fail
      refine (zz9_any s hs _).mono ?_
      rintro e w' ⟨rfl, rfl⟩
      go_wp2_with fail
      refine (zzhex4_as s _ HS.out _).mono ?_
      rintro e w' ⟨rfl, rfl⟩
      go_wp2_with fail
      refine (digit_as _ d0 (D0.out (by omega)) _).mono ?_
      rintro e w' ⟨rfl, rfl⟩
      go_wp2_with fail
      refine (digit_as _ d1 (D1.out (by omega)) _).mono ?_
      rintro e w' ⟨rfl, rfl⟩
      go_wp2_with fail
      refine (digit_as _ d2 (D2.out (by omega)) _).mono ?_
      rintro e w' ⟨rfl, rfl⟩
      go_wp2_with fail
      refine (digit_as _ d3 (D3.out (by omega)) _).mono ?_
      rintro e w' ⟨rfl, rfl⟩
      go_wp2
      go_ret
      exact ⟨rfl, rfl⟩
    · have hS : hexS s = -1 := by unfold hexS; rw [if_neg h4]
      have hne : ((s.size : Int) != 4) = true := by rw [bne_iff_ne]; omega
      go_enter Try.func3, Try.ntmps3
      go_wp2_with fail
      refine (zz9_any s hs _).mono ?_
      rintro e w' ⟨rfl, rfl⟩
      go_wp2_with fail
      refine (zzhex4_any s _).mono ?_
      rintro e w' ⟨rfl, rfl⟩
      go_wp2
      go_ret
      exact ⟨rfl, rfl⟩
  · have hsm : small s.size = false := by unfold small; simp; omega
    go_enter Try.func3, Try.ntmps3
    go_wp2_with fail
    refine (zz9_any s hs _).mono ?_
    rintro e w' ⟨rfl, rfl⟩
    go_wp2
    go_ret
    exact ⟨rfl, rfl⟩
end Go.Proofs.Qxb6603695a.Hx
