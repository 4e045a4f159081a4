/-
  THE WALK OF FnHex4ReadsBackEveryFourDigitSpelling (4). By an AI agent.
-/
import Derived.Test.Qxb6603695aHex
import Derived.Laws.BytesArg
namespace Go.Proofs.Qxb6603695a.Hx
open Go.RowKit

/-- The byte x spells the digit of n at the place p. -/
def Gd (n p x : Int) : Prop := dg x = n / p % 16 ∧ 0 ≤ x ∧ x ≤ 255

theorem lowf_range (d : Int) (h0 : 0 ≤ d) (h1 : d < 16) : 0 ≤ lowf d ∧ lowf d ≤ 255 := by unfold lowf; split <;> omega
theorem upf_range (d : Int) (h0 : 0 ≤ d) (h1 : d < 16) : 0 ≤ upf d ∧ upf d ≤ 255 := by unfold upf; split <;> omega

theorem gd_low (n p d : Int) (hd : d = n / p % 16) (h' : d.toNat < lowTab.size) : Gd n p ((lowTab[d.toNat]'h').toNat : Int) := by
  have h0 : 0 ≤ d := by omega
  have h1 : d < 16 := by omega
  unfold Gd
  rw [low_at _ h' h', Int.toNat_of_nonneg h0, ← hd]
  exact ⟨dg_low _ h0 h1, lowf_range _ h0 h1⟩

theorem gd_up (n p d : Int) (hd : d = n / p % 16) (h' : d.toNat < upTab.size) : Gd n p ((upTab[d.toNat]'h').toNat : Int) := by
  have h0 : 0 ≤ d := by omega
  have h1 : d < 16 := by omega
  unfold Gd
  rw [up_at _ h' h', Int.toNat_of_nonneg h0, ← hd]
  exact ⟨dg_up _ h0 h1, upf_range _ h0 h1⟩

theorem bt_nums (xs : List Int) (i : Nat) (h : i < xs.length) (h0 : 0 ≤ xs[i]) (h1 : xs[i] ≤ 255) : bt (strOfNums xs) i = xs[i] := by
  have hs : i < (strOfNums xs).size := by rw [strOfNums_size]; exact h
  rw [bt_at _ _ hs]
  have e : (strOfNums xs)[i] = UInt8.ofNat xs[i].toNat := by
    show (strOfNums xs).data[i] = _
    simp [strOfNums]
  rw [e]
  simp
  omega

theorem hexS_nums (n a b c d : Int) (hn : 0 ≤ n) (hn1 : n ≤ 65535) (ha : Gd n 4096 a) (hb : Gd n 256 b) (hc : Gd n 16 c) (hd : Gd n 1 d) : hexS (strOfNums [a, b, c, d]) = n := by
  obtain ⟨a0, a1, a2⟩ := ha
  obtain ⟨b0, b1, b2⟩ := hb
  obtain ⟨c0, c1, c2⟩ := hc
  obtain ⟨d0, d1, d2⟩ := hd
  unfold hexS
  rw [if_pos (by rw [strOfNums_size]; rfl)]
  have e0 := bt_nums [a, b, c, d] 0 (by simp) a1 a2
  have e1 := bt_nums [a, b, c, d] 1 (by simp) b1 b2
  have e2 := bt_nums [a, b, c, d] 2 (by simp) c1 c2
  have e3 := bt_nums [a, b, c, d] 3 (by simp) d1 d2
  simp only [List.getElem_cons_zero, List.getElem_cons_succ] at e0 e1 e2 e3
  rw [e0, e1, e2, e3]
  unfold hv
  rw [a0, b0, c0, d0, if_neg (by omega)]
  omega

/-- The place behind k rounds. -/
def plc : Nat → Int
  | 0 => 4096
  | 1 => 256
  | 2 => 16
  | 3 => 1
  | _ => 0

/-- The loop's relation. -/
def Bk (w : World) (n : Int) (p i : Value) (wr : World) : Prop :=
  ∃ k : Nat, ∃ a b c d : Int, k ≤ 4 ∧ i = .int .i64 k ∧ p = .int .i32 (plc k) ∧ wr = w.alloc (.cells #[.int .u8 a, .int .u8 b, .int .u8 c, .int .u8 d] 25) ∧
    (0 < k → Gd n 4096 a) ∧ (1 < k → Gd n 256 b) ∧ (2 < k → Gd n 16 c) ∧ (3 < k → Gd n 1 d)

theorem zzhex4_as (s : ByteArray) (H : Int) (h : hexS s = H) (w : World) : Calls Try.prog 10 #[.string s] w fun e w' => e = .returned (.int .i32 H) ∧ w' = w := by
  subst h
  exact zzhex4_any s w

set_option maxHeartbeats 1000000 in
theorem back_in (n m : Int) (hn : 0 ≤ n) (hn1 : n ≤ 65535) (w : World) :
    Calls Try.prog 4 #[.int .i32 n, .int .u8 m] w fun e w' => e = .returned (.bool true) ∧ Grown w w' := by
  go_enter Try.func4, Try.ntmps4
  go_wp2
  go_loopw [6, 7] (fun p i wr => Bk w n p i wr) (fun _ i _ => 4 - (intOf i).toNat)
  case atStart => exact ⟨0, 0, 0, 0, 0, by omega, rfl, rfl, rfl, (fun h => absurd h (by omega)), (fun h => absurd h (by omega)), (fun h => absurd h (by omega)), (fun h => absurd h (by omega))⟩
  case round =>
    obtain ⟨k, a, b, c, d, hk, rfl, rfl, rfl, g0, g1, g2, g3⟩ := hrel
    have G0 : Hid (0 < k → Gd n 4096 a) := g0
    have G1 : Hid (1 < k → Gd n 256 b) := g1
    have G2 : Hid (2 < k → Gd n 16 c) := g2
    have G3 : Hid (3 < k → Gd n 1 d) := g3
    clear g0 g1 g2 g3
    rcases (show k = 0 ∨ k = 1 ∨ k = 2 ∨ k = 3 ∨ k = 4 by omega) with rfl | rfl | rfl | rfl | rfl
    · simp only [plc]
      go_wp2
      · exact ⟨⟨1, _, b, c, d, by omega, rfl, rfl, rfl, (fun _ => gd_up n 4096 _ (by omega) _), (fun h => absurd h (by omega)), (fun h => absurd h (by omega)), (fun h => absurd h (by omega))⟩, by simp [intOf]⟩
      · exact ⟨⟨1, _, b, c, d, by omega, rfl, rfl, rfl, (fun _ => gd_low n 4096 _ (by omega) _), (fun h => absurd h (by omega)), (fun h => absurd h (by omega)), (fun h => absurd h (by omega))⟩, by simp [intOf]⟩
    · simp only [plc]
      go_wp2
      · exact ⟨⟨2, a, _, c, d, by omega, rfl, rfl, rfl, (fun _ => G0.out (by omega)), (fun _ => gd_up n 256 _ (by omega) _), (fun h => absurd h (by omega)), (fun h => absurd h (by omega))⟩, by simp [intOf]⟩
      · exact ⟨⟨2, a, _, c, d, by omega, rfl, rfl, rfl, (fun _ => G0.out (by omega)), (fun _ => gd_low n 256 _ (by omega) _), (fun h => absurd h (by omega)), (fun h => absurd h (by omega))⟩, by simp [intOf]⟩
    · simp only [plc]
      go_wp2
      · exact ⟨⟨3, a, b, _, d, by omega, rfl, rfl, rfl, (fun _ => G0.out (by omega)), (fun _ => G1.out (by omega)), (fun _ => gd_up n 16 _ (by omega) _), (fun h => absurd h (by omega))⟩, by simp [intOf]⟩
      · exact ⟨⟨3, a, b, _, d, by omega, rfl, rfl, rfl, (fun _ => G0.out (by omega)), (fun _ => G1.out (by omega)), (fun _ => gd_low n 16 _ (by omega) _), (fun h => absurd h (by omega))⟩, by simp [intOf]⟩
    · simp only [plc]
      go_wp2
      · exact ⟨⟨4, a, b, c, _, by omega, rfl, rfl, rfl, (fun _ => G0.out (by omega)), (fun _ => G1.out (by omega)), (fun _ => G2.out (by omega)), (fun _ => gd_up n 1 _ (by omega) _)⟩, by simp [intOf]⟩
      · exact ⟨⟨4, a, b, c, _, by omega, rfl, rfl, rfl, (fun _ => G0.out (by omega)), (fun _ => G1.out (by omega)), (fun _ => G2.out (by omega)), (fun _ => gd_low n 1 _ (by omega) _)⟩, by simp [intOf]⟩
    · have hS := hexS_nums n a b c d hn hn1 (G0.out (by omega)) (G1.out (by omega)) (G2.out (by omega)) (G3.out (by omega))
      have HS : Hid (hexS (strOfNums [a, b, c, d]) = n) := hS
      have hconv := run_convert_bytes_arg (P := Try.prog) (w.alloc (.cells #[.int .u8 a, .int .u8 b, .int .u8 c, .int .u8 d] 25)) 27 5 Try.underlying27 Try.underlying5 w.heap.size 0 4 4 [a, b, c, d] rfl
        (fun i hi => by
          rw [Nat.zero_add]
          match i, hi with
          | 0, _ => simp
          | 1, _ => simp
          | 2, _ => simp
          | 3, _ => simp) 9 Try.underlying9
      clear hS
      go_wp2_with fail
      refine (zzhex4_as (strOfNums [a, b, c, d]) n HS.out _).mono ?_
      rintro e w' ⟨rfl, rfl⟩
      go_wp2
      go_ret
      exact ⟨ret_bool (by simp), (Grown.refl _).alloc _ _⟩

theorem back_walk (n m : Int) (w : World) :
    Calls Try.prog 4 #[.int .i32 n, .int .u8 m] w fun e w' => e = .returned (.bool true) ∧ Grown w w' := by
  by_cases h0 : 0 ≤ n
  · by_cases h1 : n ≤ 65535
    · exact back_in n m h0 h1 w
    · have h2 : ¬ n < 0 := by omega
      have h3 : 65535 < n := by omega
      go_enter Try.func4, Try.ntmps4
      go_wp2
      go_ret
      exact ⟨rfl, Grown.refl _⟩
  · have h2 : n < 0 := by omega
    go_enter Try.func4, Try.ntmps4
    go_wp2
    go_ret
    exact ⟨rfl, Grown.refl _⟩
end Go.Proofs.Qxb6603695a.Hx
