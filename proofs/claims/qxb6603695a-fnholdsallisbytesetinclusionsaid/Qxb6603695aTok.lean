/-
  THE WALKS OF isScopeToken (25), ZZisScopeToken (18), holdsAll (26), ZZholdsAll (20) and the bounds on length (14, 19, 21). By an AI agent.
-/
import Derived.Test.Qxb6603695aSet
namespace Go.Proofs.Qxb6603695a.St
open Go.RowKit

theorem nq_ok (c : Nat) (h1 : ¬ c ≤ 32) (h2 : ¬ 126 < c) (h3 : ¬ c = 34) (h4 : ¬ c = 92) : nq c = true := by unfold nq; simp; omega
theorem nq_bad (c : Nat) (h : c ≤ 32 ∨ 126 < c ∨ c = 34 ∨ c = 92) : nq c = false := by unfold nq; simp; omega

/-- What isScopeToken and holdsAll answer. -/
def tok (s : ByteArray) (g : Nat → Bool) : Bool := !decide (s.size = 0) && inAll (bs s) g

theorem tok_empty (s : ByteArray) (g : Nat → Bool) (h : s.size = 0) : tok s g = false := by unfold tok; simp [h]
theorem tok_bad (s : ByteArray) (g : Nat → Bool) (k : Nat) (h : k < s.size) (hg : g (s[k]'h).toNat = false) : tok s g = false := by
  unfold tok
  rw [inAll_false (bs s) g k (by rw [bs_length]; exact h) (by rw [bs_getD s k h]; exact hg)]
  simp
theorem tok_good (s : ByteArray) (g : Nat → Bool) (h0 : ¬ s.size = 0) (h : ∀ k (hk : k < s.size), g (s[k]'hk).toNat = true) : tok s g = true := by
  unfold tok
  rw [inAll_true (bs s) g (fun k hk => by
    have hk' : k < s.size := by rw [bs_length] at hk; exact hk
    rw [bs_getD s k hk']; exact h k hk')]
  simp [h0]

theorem empty_iff (s : ByteArray) : s.toList.isEmpty = decide (s.size = 0) := by
  rw [ByteArray.toList_eq]
  rcases hs : s.data.toList with _ | ⟨x, r⟩
  · have : s.size = 0 := by rw [← ByteArray.size_data, ← Array.length_toList, hs]; rfl
    simp [this]
  · have : ¬ s.size = 0 := by rw [← ByteArray.size_data, ← Array.length_toList, hs]; simp
    simp [this]

set_option maxHeartbeats 1000000 in
theorem tok_any (s : ByteArray) (hs : s.size ≤ 1048576) (w : World) :
    Calls Try.prog 25 #[.string s] w fun e w' => e = .returned (.bool (tok s nq)) ∧ w' = w := by
  have he := empty_iff s
  by_cases h0 : s.size = 0
  · have ht := tok_empty s nq h0
    have he' : s.toList.isEmpty = true := by rw [he]; simp [h0]
    clear he
    go_enter Try.func25, Try.ntmps25
    go_wp2
    go_ret
    exact ⟨ret_bool ht.symm, rfl⟩
  · have he' : s.toList.isEmpty = false := by rw [he]; simp [h0]
    have H0 : Hid (¬ s.size = 0) := h0
    clear he h0
    go_enter Try.func25, Try.ntmps25
    go_wp2
    go_loop [3] (fun i => ∃ k : Nat, k ≤ s.size ∧ i = .int .i64 k ∧ Hid (∀ j (hj : j < s.size), j < k → nq (s[j]'hj).toNat = true)) (fun i => s.size - (intOf i).toNat)
    case atStart => exact ⟨0, Nat.zero_le _, rfl, fun j _ hj => absurd hj (Nat.not_lt_zero _)⟩
    case round =>
      obtain ⟨k, hk, rfl, hno⟩ := hrel
      by_cases hlt : k < s.size
      · go_wp2
        · go_ret
          exact ⟨ret_bool (tok_bad s nq k hlt (nq_bad _ (by omega))).symm, rfl⟩
        · go_ret
          rename_i h _
          simp only [beq_iff_eq] at h
          exact ⟨ret_bool (tok_bad s nq k hlt (nq_bad _ (by omega))).symm, rfl⟩
        · rename_i h
          simp only [beq_eq_false_iff_ne] at h
          have hq := nq_ok (s[k]'hlt).toNat (by omega) (by omega) (by omega) (by omega)
          go_round
          case rel => exact ⟨k + 1, by omega, by go_num, fun j hj hjk => by
            rcases Nat.lt_succ_iff_lt_or_eq.1 hjk with h | rfl
            · exact hno.out j hj h
            · exact hq⟩
          case measure => simp [intOf]; omega
        · go_ret
          exact ⟨ret_bool (tok_bad s nq k hlt (nq_bad _ (by omega))).symm, rfl⟩
        · go_ret
          exact ⟨ret_bool (tok_bad s nq k hlt (nq_bad _ (by omega))).symm, rfl⟩
      · go_wp2
        go_ret
        exact ⟨ret_bool (tok_good s nq H0.out (fun j hj => hno.out j hj (by omega))).symm, rfl⟩

/-- ZZisScopeToken. -/
theorem zztok_any (s : ByteArray) (hs : s.size ≤ 1048576) (w : World) :
    Calls Try.prog 18 #[.string s] w fun e w' => e = .returned (.bool (tok s nq)) ∧ w' = w := by
  go_enter Try.func18, Try.ntmps18
  go_wp2_with fail
  refine (tok_any s hs _).mono ?_
  rintro e w' ⟨rfl, rfl⟩
  go_wp2
  go_ret
  exact ⟨rfl, rfl⟩

/-! ### holdsAll -/
set_option maxHeartbeats 1000000 in
set_option maxRecDepth 100000 in
theorem holds_any (b : Nat) (g : Nat → Bool) (s : ByteArray) (hs : s.size ≤ 1048576) (w : World) (hb : b < w.heap.size) (hc : ∀ i, i < 256 → w.cell? ⟨b, i, none⟩ = some (.bool (g i))) :
    Calls Try.prog 26 #[.pointer (some ⟨b, 0, none⟩), .string s] w fun e w' => e = .returned (.bool (tok s g)) ∧ Below w.heap.size w w' := by
  have he := empty_iff s
  by_cases h0 : s.size = 0
  · have ht := tok_empty s g h0
    have he' : s.toList.isEmpty = true := by rw [he]; simp [h0]
    clear he hc
    go_enter Try.func26, Try.ntmps26
    go_wp2
    go_ret
    exact ⟨ret_bool ht.symm, Below.refl _ _⟩
  · have he' : s.toList.isEmpty = false := by rw [he]; simp [h0]
    have H0 : Hid (¬ s.size = 0) := h0
    have HC : Hid (∀ i, i < 256 → w.cell? ⟨b, i, none⟩ = some (.bool (g i))) := hc
    clear he h0 hc
    go_enter Try.func26, Try.ntmps26
    go_wp2
    go_loopw [5] (fun i wr => ∃ k : Nat, k ≤ s.size ∧ i = .int .i64 k ∧ Hid (∀ j (hj : j < s.size), j < k → g (s[j]'hj).toNat = true) ∧ Below w.heap.size w wr) (fun i _ => s.size - (intOf i).toNat)
    case atStart => exact ⟨0, Nat.zero_le _, rfl, fun j _ hj => absurd hj (Nat.not_lt_zero _), Below.refl _ _⟩
    case round =>
      obtain ⟨k, hk, rfl, hno, hbel⟩ := hrel
      by_cases hlt : k < s.size
      · have h256 : (((s[k]'hlt).toNat : Nat) : Int) < 256 := by have := (s[k]'hlt).toNat_lt; omega
        have hki : (k : Int) < (s.size : Int) := by omega
        obtain ⟨y, hy⟩ : ∃ y, g (s[k]'hlt).toNat = y := ⟨_, rfl⟩
        have hcell : wr.cell? ⟨b, (s[k]'hlt).toNat, none⟩ = some (.bool y) := by
          rw [← hy]
          exact (hbel.cell (by exact hb)).trans (HC.out _ (s[k]'hlt).toNat_lt)
        have HY : Hid (g (s[k]'hlt).toNat = y) := hy
        clear hy
        cases y
        · go_wp2
          go_quiet (fail)
          go_wp2
          go_ret
          exact ⟨ret_bool (tok_bad s g k hlt HY.out).symm, hbel.trans ⟨rfl, rfl, rfl, Nat.le_refl _, fun _ _ => rfl⟩⟩
        · go_wp2
          go_quiet (fail)
          go_wp2
          go_roundw
          case rel => exact ⟨k + 1, by omega, by go_num, (fun j hj hjk => by
            rcases Nat.lt_succ_iff_lt_or_eq.1 hjk with h | rfl
            · exact hno.out j hj h
            · exact HY.out), hbel.trans ⟨rfl, rfl, rfl, Nat.le_refl _, fun _ _ => rfl⟩⟩
          case measure => simp [intOf]; omega
      · go_wp2
        go_ret
        exact ⟨ret_bool (tok_good s g H0.out (fun j hj => hno.out j hj (by omega))).symm, hbel⟩

/-! ### ZZholdsAll -/
theorem zero37 : (Try.prog.info? 37).map (fun i => (i.zero, i.size)) = some (some (.agg (tab fun _ => false)), 256) := by kernel_rfl

set_option maxHeartbeats 1000000 in
set_option maxRecDepth 100000 in
theorem zzholds_any (A : Array Value) (g : Nat → Bool) (hA : Tb A g) (s : ByteArray) (hs : s.size ≤ 1048576) (w : World) :
    Calls Try.prog 20 #[.agg A, .string s] w fun e w' => e = .returned (.bool (tok s g)) ∧ Below w.heap.size w w' := by
  obtain ⟨Z, hZ⟩ : ∃ Z, Z = tab fun _ => false := ⟨_, rfl⟩
  obtain ⟨hv37, hi37⟩ := zero_of_info zero37
  obtain ⟨_, hi31⟩ := zero_of_info zero31
  rw [← hZ] at hv37
  have hTZ : Hid (Z.size = A.size) := by rw [hA.size, hZ, tab_size]; rfl
  have HI31 : Hid ((Try.prog.info? 31).map (·.size) = some A.size) := by rw [hA.size]; exact hi31
  have HI37 : Hid ((Try.prog.info? 37).map (·.size) = some A.size) := by rw [hA.size]; exact hi37
  have HA : Hid (Tb A g) := hA
  clear hZ hi37 hi31 hA
  go_enter Try.func20, Try.ntmps20
  go_wp2_with (first | (refine wpList_load_row rfl 31 _ rfl w.heap.size rfl 31 A (0, 0) _ (heap_alloc_new w _) Try.underlying31 rfl HI31.out ?_) | (refine wpList_store_row rfl 37 _ _ rfl (w.heap.size + 1) A rfl rfl 37 Z (heap_alloc2_new w _ _) HI37.out hTZ.out HA.out.one ?_))
  have hrow : Hid ((((w.alloc (.cells A 31)).alloc (.cells Z 37)).setRow (w.heap.size + 1) A).heap[w.heap.size + 1]? = some (.cells A 37 (0, 0))) := setRow_heap _ (w.heap.size + 1) Z A 37 (0, 0) (heap_alloc2_new w _ _)
  have hbl : Hid (Below w.heap.size w (((w.alloc (.cells A 31)).alloc (.cells Z 37)).setRow (w.heap.size + 1) A)) := below_setRow _ (((Below.refl _ _).alloc (Nat.le_refl _) _).alloc (by simp) _) _ _ (by omega)
  refine (holds_any (w.heap.size + 1) g s hs _ (by simp) (fun i hi => by rw [cell_of_row _ _ i A 37 (0, 0) hrow.out, HA.out.get i hi])).mono ?_
  rintro e w' ⟨rfl, hb'⟩
  have hfin : Hid (Below w.heap.size w w') := hbl.out.trans (hb'.mono hbl.out.size)
  clear hb' hbl hrow
  go_wp2
  go_ret
  exact ⟨rfl, hfin.out⟩

/-! ### the bounds on length -/
def small (n : Nat) : Bool := decide (n ≤ 1048576)

theorem zz14_any (s : ByteArray) (hs : s.size ≤ maxLen) (w : World) : Calls Try.prog 14 #[.string s] w fun e w' => e = .returned (.bool (small s.size)) ∧ w' = w := by
  unfold maxLen at hs
  by_cases h1 : s.size ≤ 1048576
  all_goals
    go_enter Try.func14, Try.ntmps14
    go_wp2
    go_ret
    exact ⟨ret_bool (by unfold small; simp; omega), rfl⟩

theorem zz19_any (s : ByteArray) (hs : s.size ≤ maxLen) (w : World) : Calls Try.prog 19 #[.string s] w fun e w' => e = .returned (.bool (small s.size)) ∧ w' = w := by
  unfold maxLen at hs
  by_cases h1 : s.size ≤ 1048576
  all_goals
    go_enter Try.func19, Try.ntmps19
    go_wp2
    go_ret
    exact ⟨ret_bool (by unfold small; simp; omega), rfl⟩

theorem zz21_any (A : Array Value) (s : ByteArray) (hs : s.size ≤ maxLen) (w : World) : Calls Try.prog 21 #[.agg A, .string s] w fun e w' => e = .returned (.bool (small s.size)) ∧ Below w.heap.size w w' := by
  unfold maxLen at hs
  by_cases h1 : s.size ≤ 1048576
  all_goals
    go_enter Try.func21, Try.ntmps21
    go_wp2
    go_ret
    exact ⟨ret_bool (by unfold small; simp; omega), (Below.refl _ _).alloc (Nat.le_refl _) _⟩
end Go.Proofs.Qxb6603695a.St
