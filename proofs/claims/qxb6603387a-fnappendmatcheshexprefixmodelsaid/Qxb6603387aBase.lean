/-
  THE WALKS OF THE SMALL FUNCTIONS: hpb1AllNibbles (7), hpb1Equal (11), hpb1Flag (15), the three bounds on length (6, 12, 14). By an AI agent.
-/
import Derived.Test.Qxb6603387aChecked
import Derived.Test.Qxb6603387aPlain
import Derived.WalkKit
import Derived.WalkSpells
import Derived.Deep.QuietTactic
import Derived.BigQuiet
namespace Go.Proofs.Qxb6603387a.Hp
open Go.RowKit

/-- A slice value, told by its address and length, reads as the bytes zs. -/
structure Sl (w : World) (ao : Option Addr) (n : Nat) (zs : List Int) : Prop where
  len : zs.length = n
  rng : ∀ x ∈ zs, 0 ≤ x ∧ x ≤ 255
  cells : n = 0 ∨ ∃ b off, ao = some ⟨b, off, none⟩ ∧ b < w.heap.size ∧ ∀ i, i < n → w.cell? ⟨b, off + i, none⟩ = some (.int .u8 (zs.getD i 0))

theorem Sl.below {w w' : World} {ao : Option Addr} {n : Nat} {zs : List Int} (h : Sl w ao n zs) {B : Nat} (hB : w.heap.size ≤ B) (hb : Below B w w') : Sl w' ao n zs := by
  refine ⟨h.len, h.rng, ?_⟩
  rcases h.cells with h0 | ⟨b, off, e, hlt, hc⟩
  · exact .inl h0
  · exact .inr ⟨b, off, e, Nat.lt_of_lt_of_le hlt hb.size, fun i hi => (hb.cell (p := ⟨b, off + i, none⟩) (by show b < B; omega)).trans (hc i hi)⟩

theorem bel_drewN {B : Nat} {a w : World} (h : Below B a w) (n : Nat) : Below B a (w.drewN n) := h.trans ⟨rfl, rfl, rfl, Nat.le_refl _, fun _ _ => rfl⟩

theorem ret_bool {a b : Bool} (h : a = b) : Ending.returned (.bool a) = .returned (.bool b) := by rw [h]

def nibB (zs : List Int) : Bool := zs.all fun x => decide (x ≤ 15)

theorem nibB_false (zs : List Int) (k : Nat) (h : k < zs.length) (h1 : 15 < zs.getD k 0) : nibB zs = false := by
  unfold nibB
  rw [List.all_eq_false]
  refine ⟨zs[k], List.getElem_mem h, ?_⟩
  have : zs.getD k 0 = zs[k] := by simp [List.getD, h]
  simp
  omega

theorem nibB_true (zs : List Int) (h : ∀ j, j < zs.length → zs.getD j 0 ≤ 15) : nibB zs = true := by
  unfold nibB
  rw [List.all_eq_true]
  intro x hx
  obtain ⟨j, hj, rfl⟩ := List.getElem_of_mem hx
  have := h j hj
  have e : zs.getD j 0 = zs[j] := by simp [List.getD, hj]
  rw [e] at this
  simpa using this

set_option maxHeartbeats 400000 in
theorem nib_any (ao : Option Addr) (n c : Nat) (zs : List Int) (w : World) (h : Sl w ao n zs) (hn : n ≤ 1048576) :
    Calls Try.prog 7 #[.slice ao n c] w fun e w' => e = .returned (.bool (nibB zs)) ∧ w' = w := by
  have hl := h.len
  rcases h.cells with h0 | ⟨b, off, rfl, hb, hc⟩
  · have ht := nibB_true zs (fun j hj => by omega)
    subst h0
    go_enter Try.func7, Try.ntmps7
    go_wp2
    refine wp_loop_rounds 1 ?_
    rw [rounds_succ]
    go_wp2
    go_ret
    exact ⟨ret_bool ht.symm, rfl⟩
  · clear h
    subst hl
    go_enter Try.func7, Try.ntmps7
    go_wp2
    go_loop [3] (fun i => ∃ k : Nat, k ≤ zs.length ∧ i = .int .i64 k ∧ Hid (∀ j, j < k → zs.getD j 0 ≤ 15)) (fun i => zs.length - (intOf i).toNat)
    case atStart => exact ⟨0, Nat.zero_le _, rfl, fun j hj => absurd hj (Nat.not_lt_zero _)⟩
    case round =>
      obtain ⟨k, hk, rfl, hall⟩ := hrel
      by_cases hlt : k < zs.length
      · have hck := hc k hlt
        go_wp2
        · go_ret
          exact ⟨ret_bool (nibB_false zs k hlt (by simp [*])).symm, rfl⟩
        · go_round
          case rel => exact ⟨k + 1, by omega, by go_num, fun j hj => by
            rcases Nat.lt_succ_iff_lt_or_eq.1 hj with h | rfl
            · exact hall.out j h
            · simp [*]⟩
          case measure => simp [intOf]; omega
      · go_wp2
        go_ret
        exact ⟨ret_bool (nibB_true zs (fun j hj => hall.out j (by omega))).symm, rfl⟩

/-! ### hpb1Equal -/
def eqB (zs ys : List Int) : Bool := zs == ys

theorem eqB_true (zs ys : List Int) (hl : zs.length = ys.length) (h : ∀ j, j < zs.length → zs.getD j 0 = ys.getD j 0) : eqB zs ys = true := by
  unfold eqB
  rw [beq_iff_eq]
  apply List.ext_getElem hl
  intro j h1 h2
  have := h j h1
  simpa [List.getD, h1, h2] using this

theorem eqB_false (zs ys : List Int) (k : Nat) (h : zs.getD k 0 ≠ ys.getD k 0) : eqB zs ys = false := by
  unfold eqB
  rw [beq_eq_false_iff_ne]
  intro e
  rw [e] at h
  exact h rfl

theorem eqB_len (zs ys : List Int) (h : zs.length ≠ ys.length) : eqB zs ys = false := by
  unfold eqB
  rw [beq_eq_false_iff_ne]
  intro e
  rw [e] at h
  exact h rfl

set_option maxHeartbeats 400000 in
/-- hpb1Equal: it reads both; nothing turns but the count of draws. -/
theorem eq_any (ao : Option Addr) (n c : Nat) (zs : List Int) (ao' : Option Addr) (n' c' : Nat) (ys : List Int) (w : World) (h : Sl w ao n zs) (h' : Sl w ao' n' ys) (hn : n ≤ 4194304) (hn' : n' ≤ 4194304) :
    Calls Try.prog 11 #[.slice ao n c, .slice ao' n' c'] w fun e w' => e = .returned (.bool (eqB zs ys)) ∧ Below w.heap.size w w' := by
  have hl := h.len
  have hl' := h'.len
  by_cases hnn : n = n'
  · subst hnn
    rcases h.cells with h0 | ⟨b, off, rfl, hb, hc⟩
    · subst h0
      have ht := eqB_true zs ys (by omega) (fun j hj => by omega)
      go_enter Try.func11, Try.ntmps11
      go_wp2
      refine wp_loop_rounds 1 ?_
      rw [rounds_succ]
      go_wp2
      go_ret
      exact ⟨ret_bool ht.symm, Below.refl _ _⟩
    · rcases h'.cells with h0 | ⟨b', off', rfl, hb', hc'⟩
      · subst h0
        have ht := eqB_true zs ys (by omega) (fun j hj => by omega)
        go_enter Try.func11, Try.ntmps11
        go_wp2
        refine wp_loop_rounds 1 ?_
        rw [rounds_succ]
        go_wp2
        go_ret
        exact ⟨ret_bool ht.symm, Below.refl _ _⟩
      · clear h h'
        have H1 : Hid (zs.length = n) := hl
        have H2 : Hid (ys.length = n) := hl'
        clear hl hl'
        go_enter Try.func11, Try.ntmps11
        go_wp2
        go_loopw [5] (fun i wr => ∃ k : Nat, k ≤ n ∧ i = .int .i64 k ∧ Hid (∀ j, j < k → zs.getD j 0 = ys.getD j 0) ∧ Below w.heap.size w wr) (fun i _ => n - (intOf i).toNat)
        case atStart => exact ⟨0, Nat.zero_le _, rfl, fun j hj => absurd hj (Nat.not_lt_zero _), Below.refl _ _⟩
        case round =>
          obtain ⟨k, hk, rfl, hall, hbel⟩ := hrel
          by_cases hlt : k < n
          · obtain ⟨x, hx⟩ : ∃ x, x = zs.getD k 0 := ⟨_, rfl⟩
            obtain ⟨y, hy⟩ : ∃ y, y = ys.getD k 0 := ⟨_, rfl⟩
            have hck : wr.cell? ⟨b, off + k, none⟩ = some (.int .u8 x) := by rw [hx]; exact (hbel.cell (by exact hb)).trans (hc k hlt)
            have hck' : wr.cell? ⟨b', off' + k, none⟩ = some (.int .u8 y) := by rw [hy]; exact (hbel.cell (by exact hb')).trans (hc' k hlt)
            have hx' : Hid (x = zs.getD k 0) := hx
            have hy' : Hid (y = ys.getD k 0) := hy
            have hlt' : (k : Int) < (n : Int) := by omega
            clear hx hy
            by_cases hxy : x = y
            · subst hxy
              go_wp2
              go_quiet (fail)
              go_wp2
              go_roundw
              case rel => exact ⟨k + 1, by omega, by go_num, fun j hj => by
                rcases Nat.lt_succ_iff_lt_or_eq.1 hj with h | rfl
                · exact hall.out j h
                · rw [← hx'.out, ← hy'.out], bel_drewN hbel _⟩
              case measure => simp [intOf]; omega
            · have hne : (x != y) = true := by rw [bne_iff_ne]; exact hxy
              go_wp2
              go_quiet (fail)
              go_wp2
              go_ret
              exact ⟨ret_bool (eqB_false zs ys k (by rw [← hx'.out, ← hy'.out]; exact hxy)).symm, bel_drewN hbel _⟩
          · go_wp2
            go_ret
            exact ⟨ret_bool (eqB_true zs ys (by rw [H1.out, H2.out]) (fun j hj => hall.out j (by rw [H1.out] at hj; omega))).symm, hbel⟩
  · have ht := eqB_len zs ys (by omega)
    have hd : ((n : Int) != (n' : Int)) = true := by rw [bne_iff_ne]; omega
    go_enter Try.func11, Try.ntmps11
    go_wp2
    go_ret
    exact ⟨ret_bool ht.symm, Below.refl _ _⟩

/-! ### hpb1Flag -/
theorem flag_any (odd leaf : Bool) (n : Nat) (ho : odd = decide (n % 2 = 1)) (w : World) :
    Calls Try.prog 15 #[.bool odd, .bool leaf] w fun e w' => e = .returned (.int .u8 (fl n leaf)) ∧ w' = w := by
  have H : Hid (odd = decide (n % 2 = 1)) := ho
  clear ho
  cases odd <;> cases leaf
  · go_enter Try.func15, Try.ntmps15
    go_wp2
    go_ret
    exact ⟨by have := H.out; simp at this; unfold fl; simp [this], rfl⟩
  · go_enter Try.func15, Try.ntmps15
    go_wp2
    go_ret
    exact ⟨by have := H.out; simp at this; unfold fl; simp [this], rfl⟩
  · go_enter Try.func15, Try.ntmps15
    go_wp2
    go_ret
    exact ⟨by have := H.out; simp at this; unfold fl; simp [this], rfl⟩
  · go_enter Try.func15, Try.ntmps15
    go_wp2
    go_ret
    exact ⟨by have := H.out; simp at this; unfold fl; simp [this], rfl⟩

/-! ### the bounds on length -/
def small (n m : Nat) : Bool := decide (n + m ≤ 1048576)

theorem zz12_any (a0 : Option Addr) (n c : Nat) (a1 : Option Addr) (m d : Nat) (l : Bool) (hn : n ≤ maxLen) (hm : m ≤ maxLen) (w : World) :
    Calls Try.prog 12 #[.slice a0 n c, .slice a1 m d, .bool l] w fun e w' => e = .returned (.bool (small n m)) ∧ w' = w := by
  unfold maxLen at hn hm
  by_cases h1 : n ≤ 1048576
  · by_cases h2 : m ≤ 1048576
    · by_cases h3 : n + m ≤ 1048576
      all_goals
        go_enter Try.func12, Try.ntmps12
        go_wp2
        go_ret
        exact ⟨ret_bool (by unfold small; simp; omega), rfl⟩
    · go_enter Try.func12, Try.ntmps12
      go_wp2
      go_ret
      exact ⟨ret_bool (by unfold small; simp; omega), rfl⟩
  · go_enter Try.func12, Try.ntmps12
    go_wp2
    go_ret
    exact ⟨ret_bool (by unfold small; simp; omega), rfl⟩

theorem zz6_any (a0 : Option Addr) (n c : Nat) (a1 : Option Addr) (m d : Nat) (l : Bool) (hn : n ≤ maxLen) (hm : m ≤ maxLen) (w : World) :
    Calls Try.prog 6 #[.slice a0 n c, .slice a1 m d, .bool l] w fun e w' => e = .returned (.bool (small n m)) ∧ w' = w := by
  unfold maxLen at hn hm
  by_cases h1 : n ≤ 1048576
  · by_cases h2 : m ≤ 1048576
    · by_cases h3 : n + m ≤ 1048576
      all_goals
        go_enter Try.func6, Try.ntmps6
        go_wp2
        go_ret
        exact ⟨ret_bool (by unfold small; simp; omega), rfl⟩
    · go_enter Try.func6, Try.ntmps6
      go_wp2
      go_ret
      exact ⟨ret_bool (by unfold small; simp; omega), rfl⟩
  · go_enter Try.func6, Try.ntmps6
    go_wp2
    go_ret
    exact ⟨ret_bool (by unfold small; simp; omega), rfl⟩

theorem zz14_any (a0 : Option Addr) (n c : Nat) (a1 : Option Addr) (m d : Nat) (l l' : Bool) (hn : n ≤ maxLen) (hm : m ≤ maxLen) (w : World) :
    Calls Try.prog 14 #[.slice a0 n c, .slice a1 m d, .bool l, .bool l'] w fun e w' => e = .returned (.bool (small n m)) ∧ w' = w := by
  unfold maxLen at hn hm
  by_cases h1 : n ≤ 1048576
  · by_cases h2 : m ≤ 1048576
    · by_cases h3 : n + m ≤ 1048576
      all_goals
        go_enter Try.func14, Try.ntmps14
        go_wp2
        go_ret
        exact ⟨ret_bool (by unfold small; simp; omega), rfl⟩
    · go_enter Try.func14, Try.ntmps14
      go_wp2
      go_ret
      exact ⟨ret_bool (by unfold small; simp; omega), rfl⟩
  · go_enter Try.func14, Try.ntmps14
    go_wp2
    go_ret
    exact ⟨ret_bool (by unfold small; simp; omega), rfl⟩
end Go.Proofs.Qxb6603387a.Hp
