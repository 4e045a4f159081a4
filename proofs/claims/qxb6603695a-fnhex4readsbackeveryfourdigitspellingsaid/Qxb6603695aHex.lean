/-
  THE WALKS OF lawHexDigit (11), hex4 (22), ZZhex4 (10) and the bound on length (9). By an AI agent.
-/
import Derived.Test.Qxb6603695aChecked
import Derived.Test.Qxb6603695aHexPlain
import Derived.WalkKit
import Derived.WalkSpells
namespace Go.Proofs.Qxb6603695a.Hx
open Go.RowKit

theorem ret_int {k : IntKind} {a b : Int} (h : a = b) : Ending.returned (.int k a) = .returned (.int k b) := by rw [h]
theorem ret_bool {a b : Bool} (h : a = b) : Ending.returned (.bool a) = .returned (.bool b) := by rw [h]

def lowTab : ByteArray := ⟨#[48, 49, 50, 51, 52, 53, 54, 55, 56, 57, 97, 98, 99, 100, 101, 102]⟩
def upTab : ByteArray := ⟨#[48, 49, 50, 51, 52, 53, 54, 55, 56, 57, 65, 66, 67, 68, 69, 70]⟩

theorem low_fin : ∀ k : Fin 16, ((lowTab[k.val]'k.isLt).toNat : Int) = lowf k.val := by decide +kernel
theorem up_fin : ∀ k : Fin 16, ((upTab[k.val]'k.isLt).toNat : Int) = upf k.val := by decide +kernel

theorem low_at (k : Nat) (h : k < 16) (h' : k < lowTab.size) : ((lowTab[k]'h').toNat : Int) = lowf k := low_fin ⟨k, h⟩
theorem up_at (k : Nat) (h : k < 16) (h' : k < upTab.size) : ((upTab[k]'h').toNat : Int) = upf k := up_fin ⟨k, h⟩

set_option maxHeartbeats 400000 in
theorem digit_any (c : Int) (w : World) :
    Calls Try.prog 11 #[.int .u8 c] w fun e w' => e = .returned (.int .i32 (dg c)) ∧ w' = w := by
  go_enter Try.func11, Try.ntmps11
  go_wp2
  go_loop [3] (fun i => ∃ k : Nat, k ≤ 16 ∧ i = .int .i64 k ∧ Hid (∀ j : Nat, j < k → lowf j ≠ c ∧ upf j ≠ c)) (fun i => 16 - (intOf i).toNat)
  case atStart => exact ⟨0, Nat.zero_le _, rfl, fun j hj => absurd hj (Nat.not_lt_zero _)⟩
  case round =>
    obtain ⟨k, hk, rfl, hno⟩ := hrel
    by_cases hlt : k < 16
    · have hL : Hid (∀ h' : k < lowTab.size, ((lowTab[k]'h').toNat : Int) = lowf k) := fun h' => low_at k hlt h'
      have hU : Hid (∀ h' : k < upTab.size, ((upTab[k]'h').toNat : Int) = upf k) := fun h' => up_at k hlt h'
      go_wp2
      · go_ret
        rename_i h _
        have e : lowf k = c := (hL.out hlt).symm.trans h
        exact ⟨ret_int (by rw [← e, dg_low k (by omega) (by omega)]), rfl⟩
      · go_ret
        rename_i h1 h2 _
        have e : upf k = c := by
          rcases h2 with h2 | h2
          · exact absurd (beq_iff_eq.1 h2) h1
          · exact (hU.out hlt).symm.trans (beq_iff_eq.1 h2)
        exact ⟨ret_int (by rw [← e, dg_up k (by omega) (by omega)]), rfl⟩
      · rename_i h
        have e1 : lowf k ≠ c := fun e => beq_eq_false_iff_ne.1 h.1 ((hL.out hlt).trans e)
        have e2 : upf k ≠ c := fun e => beq_eq_false_iff_ne.1 h.2 ((hU.out hlt).trans e)
        go_round
        case rel => exact ⟨k + 1, by omega, by go_num, fun j hj => by
          rcases Nat.lt_succ_iff_lt_or_eq.1 hj with h | rfl
          · exact hno.out j h
          · exact ⟨e1, e2⟩⟩
        case measure => simp [intOf]; omega
    · go_wp2
      go_ret
      exact ⟨ret_int (dg_none c (fun j hj => hno.out j (by omega))).symm, rfl⟩

/-! ### hex4 -/
theorem i32_or4 (x y : Int) (hx₀ : 0 ≤ x) (hx : x % 16 = 0) (hx₁ : x < 2147483648) (h₀ : 0 ≤ y) (h₁ : y < 16) : bits .or .i32 x y = x + y :=
  bits_join .i32 31 (by decide) wraps_i32 4 x y hx₀ hx hx₁ h₀ h₁ (by omega)

/-- The i-th byte of a string, as a number. -/
def bt (s : ByteArray) (i : Nat) : Int := if h : i < s.size then ((s[i]'h).toNat : Int) else 0

theorem bt_at (s : ByteArray) (i : Nat) (h : i < s.size) : bt s i = ((s[i]'h).toNat : Int) := by unfold bt; rw [dif_pos h]

/-- What hex4 returns. -/
def hexS (s : ByteArray) : Int := if s.size = 4 then hv (bt s 0) (bt s 1) (bt s 2) (bt s 3) else -1

theorem dg_dec (c : Int) (h1 : 48 ≤ c) (h2 : c ≤ 57) : dg c = c - 48 := by unfold dg; rw [if_pos ⟨h1, h2⟩]
theorem dg_lo (c : Int) (h1 : 97 ≤ c) (h2 : c ≤ 102) : dg c = c - 87 := by unfold dg; rw [if_neg (by omega), if_pos ⟨h1, h2⟩]
theorem dg_hi (c : Int) (h1 : 65 ≤ c) (h2 : c ≤ 70) : dg c = c - 55 := by unfold dg; rw [if_neg (by omega), if_neg (by omega), if_pos ⟨h1, h2⟩]
theorem dg_not (c : Int) (h1 : ¬ (48 ≤ c ∧ c ≤ 57)) (h2 : ¬ (97 ≤ c ∧ c ≤ 102)) (h3 : ¬ (65 ≤ c ∧ c ≤ 70)) : dg c = -1 := by unfold dg; rw [if_neg h1, if_neg h2, if_neg h3]

/-- A round that reads a digit. -/
theorem step_ok {s : ByteArray} {k : Nat} {p c v : Int} (hp : pv (bt s) k = p) (hc : bt s k = c) (hv : dg c = v) (h0 : 0 ≤ v) (h1 : v < 16) (hp0 : 0 ≤ p) (hp1 : p ≤ 4095) (hok : ∀ j, j < k → 0 ≤ dg (bt s j)) :
    Value.int IntKind.i32 (bits BinOp.or IntKind.i32 (p * 16) v) = Value.int IntKind.i32 (pv (bt s) (k + 1)) ∧ Hid (∀ j, j < k + 1 → 0 ≤ dg (bt s j)) := by
  constructor
  · rw [i32_or4 (p * 16) v (by omega) (by omega) (by omega) h0 h1]
    simp only [pv]
    rw [hp, hc, hv]
  · intro j hj
    rcases Nat.lt_succ_iff_lt_or_eq.1 hj with h | rfl
    · exact hok j h
    · rw [hc, hv]; exact h0

theorem step_bad {s : ByteArray} {k : Nat} {c : Int} (hk : k < 4) (hc : bt s k = c) (h : dg c = -1) (hS : hexS s = hv (bt s 0) (bt s 1) (bt s 2) (bt s 3)) : -1 = hexS s := by
  rw [hS, hv_bad (bt s) k hk (by rw [hc, h]; decide)]

set_option maxHeartbeats 1000000 in
theorem hex4_any (s : ByteArray) (w : World) :
    Calls Try.prog 22 #[.string s] w fun e w' => e = .returned (.int .i32 (hexS s)) ∧ w' = w := by
  by_cases h4 : s.size = 4
  · have hS : Hid (hexS s = hv (bt s 0) (bt s 1) (bt s 2) (bt s 3)) := by unfold Hid hexS; rw [if_pos h4]
    have H4 : Hid (s.size = 4) := h4
    have ha : s.size ≤ 4 := by omega
    have hb : 4 ≤ s.size := by omega
    have hd : ((s.size : Int) != 4) = false := by rw [bne_eq_false_iff_eq]; omega
    clear h4
    go_enter Try.func22, Try.ntmps22
    go_wp2
    go_loop [3, 11] (fun n i => ∃ k : Nat, k ≤ s.size ∧ i = .int .i64 k ∧ n = .int .i32 (pv (bt s) k) ∧ Hid (∀ j, j < k → 0 ≤ dg (bt s j))) (fun _ i => s.size - (intOf i).toNat)
    case atStart => exact ⟨0, Nat.zero_le _, rfl, rfl, fun j hj => absurd hj (Nat.not_lt_zero _)⟩
    case round =>
      obtain ⟨k, hk, rfl, rfl, hok⟩ := hrel
      by_cases hlt : k < s.size
      · have hr := pv_small (bt s) k (by omega) hok.out
        obtain ⟨hr0, hr1⟩ := hr
        have HB : Hid (bt s k = ((s[k]'hlt).toNat : Int)) := bt_at s k hlt
        obtain ⟨p, hp⟩ : ∃ p, pv (bt s) k = p := ⟨_, rfl⟩
        have HP : Hid (pv (bt s) k = p) := hp
        rw [hp] at hr0 hr1 ⊢
        clear hp
        go_wp2
        · go_round
          case rel => exact ⟨k + 1, by omega, by go_num, step_ok HP.out HB.out (dg_dec _ ‹_› ‹_›) (by omega) (by omega) hr0 hr1 hok.out⟩
          case measure => simp [intOf]; omega
        · go_round
          case rel => exact ⟨k + 1, by omega, by go_num, step_ok HP.out HB.out (dg_lo _ ‹_› ‹_›) (by omega) (by omega) hr0 hr1 hok.out⟩
          case measure => simp [intOf]; omega
        · go_ret
          exact ⟨ret_int (step_bad (by omega) HB.out (dg_not _ (by omega) (by omega) (by omega)) hS.out), rfl⟩
        · go_round
          case rel => exact ⟨k + 1, by omega, by go_num, step_ok HP.out HB.out (dg_hi _ ‹_› ‹_›) (by omega) (by omega) hr0 hr1 hok.out⟩
          case measure => simp [intOf]; omega
        · go_ret
          exact ⟨ret_int (step_bad (by omega) HB.out (dg_not _ (by omega) (by omega) (by omega)) hS.out), rfl⟩
        · go_ret
          exact ⟨ret_int (step_bad (by omega) HB.out (dg_not _ (by omega) (by omega) (by omega)) hS.out), rfl⟩
        · go_ret
          exact ⟨ret_int (step_bad (by omega) HB.out (dg_not _ (by omega) (by omega) (by omega)) hS.out), rfl⟩
      · have hk4 : Hid (k = 4) := by unfold Hid; omega
        go_wp2
        go_ret
        refine ⟨ret_int ?_, rfl⟩
        rw [hS.out, hv_good (bt s) (fun j hj => hok.out j (by rw [hk4.out]; exact hj)), hk4.out]
  · have hS : hexS s = -1 := by unfold hexS; rw [if_neg h4]
    have hd : ((s.size : Int) != 4) = true := by rw [bne_iff_ne]; omega
    rw [hS]
    go_enter Try.func22, Try.ntmps22
    go_wp2
    go_ret
    exact ⟨rfl, rfl⟩

/-- ZZhex4. -/
theorem zzhex4_any (s : ByteArray) (w : World) :
    Calls Try.prog 10 #[.string s] w fun e w' => e = .returned (.int .i32 (hexS s)) ∧ w' = w := by
  go_enter Try.func10, Try.ntmps10
  go_wp2_with fail
  refine (hex4_any s _).mono ?_
  rintro e w' ⟨rfl, rfl⟩
  go_wp2
  go_ret
  exact ⟨rfl, rfl⟩

/-! ### the bound on length -/
def small (n : Nat) : Bool := decide (n ≤ 1048576)

theorem zz9_any (s : ByteArray) (hs : s.size ≤ maxLen) (w : World) :
    Calls Try.prog 9 #[.string s] w fun e w' => e = .returned (.bool (small s.size)) ∧ w' = w := by
  unfold maxLen at hs
  by_cases h1 : s.size ≤ 1048576
  all_goals
    go_enter Try.func9, Try.ntmps9
    go_wp2
    go_ret
    exact ⟨ret_bool (by unfold small; simp; omega), rfl⟩
end Go.Proofs.Qxb6603695a.Hx
