/-
  THE WALKS OF FnIsScopeTokenIsNonEmptyNQCharString (6) AND FnIsScopeTokenAgreesWithHoldsAllOverNQChar (7). By an AI agent.
-/
import Derived.Test.Qxb6603695aTok
namespace Go.Proofs.Qxb6603695a.St
open Go.RowKit

theorem Below.le {w w' w'' : World} (h : Below w.heap.size w w') (h' : Below w'.heap.size w' w'') : Below w.heap.size w w'' := h.trans (h'.mono h.size)

theorem tok_sub (s : ByteArray) (g : Nat → Bool) (h : ¬ s.size = 0) : tok s g = subB (occ (bs s)) g := by
  unfold tok
  rw [inAll_sub (bs s) g (bs_lt s)]
  simp [h]

set_option maxHeartbeats 1000000 in
theorem agrees_walk (s : ByteArray) (hs : s.size ≤ maxLen) (w : World) :
    Calls Try.prog 7 #[.string s] w fun e w' => e = .returned (.bool true) ∧ Below w.heap.size w w' := by
  have hm : s.size ≤ 9223372036854775807 := hs
  by_cases hb : s.size ≤ 1048576
  · have hsm : small s.size = true := by unfold small; simp [hb]
    go_enter Try.func7, Try.ntmps7
    go_wp2_with fail
    refine (zz19_any s hs _).mono ?_
    rintro e w0 ⟨rfl, hw0⟩
    subst hw0
    go_wp2_with fail
    refine (class_any _).mono ?_
    rintro e w1 ⟨A, rfl, hA, g1⟩
    go_wp2_with fail
    refine (zzholds_any A nq hA s hb _).mono ?_
    rintro e w2 ⟨rfl, g2⟩
    go_wp2_with fail
    refine (zztok_any s hb _).mono ?_
    rintro e w3 ⟨rfl, hw3⟩
    subst hw3
    go_wp2
    go_ret
    exact ⟨ret_bool (by simp), Below.le g1 g2⟩
  · have hsm : small s.size = false := by unfold small; simp; omega
    go_enter Try.func7, Try.ntmps7
    go_wp2_with fail
    refine (zz19_any s hs _).mono ?_
    rintro e w0 ⟨rfl, hw0⟩
    subst hw0
    go_wp2
    go_ret
    exact ⟨rfl, Below.refl _ _⟩

set_option maxHeartbeats 1000000 in
theorem nonempty_walk (s : ByteArray) (hs : s.size ≤ maxLen) (w : World) :
    Calls Try.prog 6 #[.string s] w fun e w' => e = .returned (.bool true) ∧ Below w.heap.size w w' := by
  have hm : s.size ≤ 9223372036854775807 := hs
  have he := empty_iff s
  by_cases hb : s.size ≤ 1048576
  · have hsm : small s.size = true := by unfold small; simp [hb]
    by_cases h0 : s.size = 0
    · have ht := tok_empty s nq h0
      have he' : s.toList.isEmpty = true := by rw [he]; simp [h0]
      clear he
      go_enter Try.func6, Try.ntmps6
      go_wp2_with fail
      refine (zz14_any s hs _).mono ?_
      rintro e w0 ⟨rfl, hw0⟩
      subst hw0
      go_wp2_with fail
      refine (zztok_any s hb _).mono ?_
      rintro e w3 ⟨rfl, hw3⟩
      subst hw3
      rw [ht]
      go_wp2
      go_ret
      exact ⟨rfl, Below.refl _ _⟩
    · have HT : Hid (tok s nq = subB (occ (bs s)) nq) := tok_sub s nq h0
      have he' : s.toList.isEmpty = false := by rw [he]; simp [h0]
      clear he
      go_enter Try.func6, Try.ntmps6
      go_wp2_with fail
      refine (zz14_any s hs _).mono ?_
      rintro e w0 ⟨rfl, hw0⟩
      subst hw0
      go_wp2_with fail
      refine (set_any s hb _).mono ?_
      rintro e w1 ⟨A, rfl, hA, g1⟩
      go_wp2_with fail
      refine (class_any _).mono ?_
      rintro e w2 ⟨B, rfl, hB, g2⟩
      go_wp2_with fail
      refine (sub_any A B _ _ hA hB _).mono ?_
      rintro e w3 ⟨rfl, g3⟩
      go_wp2_with fail
      refine (zztok_any s hb _).mono ?_
      rintro e w4 ⟨rfl, hw4⟩
      subst hw4
      rw [HT.out]
      go_wp2
      go_ret
      exact ⟨ret_bool (by simp), Below.le (Below.le g1 g2) g3⟩
  · have hsm : small s.size = false := by unfold small; simp; omega
    clear he
    go_enter Try.func6, Try.ntmps6
    go_wp2_with fail
    refine (zz14_any s hs _).mono ?_
    rintro e w0 ⟨rfl, hw0⟩
    subst hw0
    go_wp2
    go_ret
    exact ⟨rfl, Below.refl _ _⟩
end Go.Proofs.Qxb6603695a.St
