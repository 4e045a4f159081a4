/-
  THE WALK OF FnAppendMatchesHexPrefixModel (3). By an AI agent.
-/
import Derived.Test.Qxb6603387aLawInj
import Derived.Test.Qxb6603387aMod
namespace Go.Proofs.Qxb6603387a.Hp
open Go.RowKit

theorem mod_any (a0 : Option Addr) (n0 c0 : Nat) (z0 : List Int) (a1 : Option Addr) (n1 c1 : Nat) (z1 : List Int) (leaf : Bool) (w : World) (h0 : Sl w a0 n0 z0) (h1 : Sl w a1 n1 z1)
    (hp : Nib z1) (hn0 : n0 ≤ 1048576) (hn1 : n1 ≤ 1048576) :
    Calls Try.prog 9 #[.slice a0 n0 c0, .slice a1 n1 c1, .bool leaf] w (AppEnd w (z0 ++ enc z1 leaf)) := by
  by_cases h : n1 % 2 = 1
  · exact mod_odd a0 n0 c0 z0 a1 n1 c1 z1 leaf w h0 h1 h hp hn0 hn1
  · exact mod_even a0 n0 c0 z0 a1 n1 c1 z1 leaf w h0 h1 (by omega) hp hn0 hn1

/-- What Append and the model leave, the length a letter. -/
theorem AppEnd.len {w w' : World} {out : List Int} {e : Ending} (h : AppEnd w out e w') (N : Nat) (hN : out.length = N) :
    ∃ g c, e = .returned (.slice (some ⟨g, 0, none⟩) N c) ∧ Sl w' (some ⟨g, 0, none⟩) N out ∧ Below w.heap.size w w' := by
  obtain ⟨g, c, rfl, h1, h2, h3, hs, hb⟩ := h
  subst hN
  exact ⟨g, c, rfl, hs, hb⟩

set_option maxHeartbeats 1000000 in
theorem mod_walk (a0 : Option Addr) (n0 c0 : Nat) (z0 : List Int) (a1 : Option Addr) (n1 c1 : Nat) (z1 : List Int) (l : Bool) (w : World)
    (h0 : Sl w a0 n0 z0) (e0 : a0 = none → n0 = 0) (m0 : n0 ≤ maxLen) (h1 : Sl w a1 n1 z1) (e1 : a1 = none → n1 = 0) (m1 : n1 ≤ maxLen) :
    Calls Try.prog 3 #[.slice a0 n0 c0, .slice a1 n1 c1, .bool l] w (LawEnd w) := by
  have m0' : n0 ≤ 9223372036854775807 := m0
  have m1' : n1 ≤ 9223372036854775807 := m1
  by_cases hs : n0 + n1 ≤ 1048576
  · have hs' : small n0 n1 = true := by unfold small; simp [hs]
    by_cases k0 : 524288 < n0
    · go_enter Try.func3, Try.ntmps3
      go_wp2_with fail
      refine (zz6_any a0 n0 c0 a1 n1 c1 l m0 m1 _).mono ?_
      rintro e w' ⟨rfl, rfl⟩
      go_wp2
      go_ret
      exact ⟨rfl, Below.refl _ _⟩
    by_cases k1 : 524288 < n1
    · go_enter Try.func3, Try.ntmps3
      go_wp2_with fail
      refine (zz6_any a0 n0 c0 a1 n1 c1 l m0 m1 _).mono ?_
      rintro e w' ⟨rfl, rfl⟩
      go_wp2
      go_ret
      exact ⟨rfl, Below.refl _ _⟩
    have kn0 : n0 ≤ 1048576 := by omega
    have kn1 : n1 ≤ 1048576 := by omega
    cases b1 : nibB z1
    · go_enter Try.func3, Try.ntmps3
      go_wp2_with fail
      refine (zz6_any a0 n0 c0 a1 n1 c1 l m0 m1 _).mono ?_
      rintro e w' ⟨rfl, rfl⟩
      go_wp2_with fail
      refine (nib_any a1 n1 c1 z1 _ h1 kn1).mono ?_
      rintro e w' ⟨rfl, rfl⟩
      go_wp2
      go_ret
      exact ⟨rfl, Below.refl _ _⟩
    have hN1 := nib_of z1 b1 h1.rng
    obtain ⟨N, hN⟩ : ∃ N, (z0 ++ enc z1 l).length = N := ⟨_, rfl⟩
    have hNb : N ≤ 4194304 := by rw [← hN, List.length_append, enc_length, h0.len, h1.len]; omega
    have HN : Hid ((z0 ++ enc z1 l).length = N) := hN
    have hE : Hid (eqB (z0 ++ enc z1 l) (z0 ++ enc z1 l) = true) := by unfold Hid eqB; simp
    clear hN
    go_enter Try.func3, Try.ntmps3
    go_wp2_with fail
    refine (zz6_any a0 n0 c0 a1 n1 c1 l m0 m1 _).mono ?_
    rintro e w' ⟨rfl, rfl⟩
    go_wp2_with fail
    refine (nib_any a1 n1 c1 z1 _ h1 kn1).mono ?_
    rintro e w' ⟨rfl, rfl⟩
    go_wp2_with fail
    refine (clone_any a0 n0 c0 z0 _ h0 e0 kn0).mono ?_
    rintro e w1 ⟨ao1, rfl, f1, s1, g1⟩
    go_wp2_with fail
    refine (clone_any a1 n1 c1 z1 _ (h1.below (Nat.le_refl _) g1) e1 kn1).mono ?_
    rintro e w2 ⟨ao2, rfl, f2, s2, g2⟩
    have s1' := s1.below (Nat.le_refl _) g2
    go_wp2_with fail
    refine (mod_any ao1 n0 n0 z0 ao2 n1 n1 z1 l _ s1' s2 hN1 kn0 kn1).mono ?_
    intro e w3 hA
    obtain ⟨g, c, rfl, s3, g3⟩ := hA.len N HN.out
    have t1 := s1'.below (Nat.le_refl _) g3
    have t2 := s2.below (Nat.le_refl _) g3
    go_wp2_with fail
    refine (app_any ao1 n0 z0 ao2 n1 z1 l _ t1 f1 t2 hN1 kn0 kn1).mono ?_
    intro e w4 hB
    obtain ⟨g', c', rfl, s4, g4⟩ := hB.len N HN.out
    have s3' := s3.below (Nat.le_refl _) g4
    have G4 : Hid (Below w'.heap.size w' w4) := Below.le (Below.le (Below.le g1 g2) g3) g4
    clear h0 h1 s1 s1' s2 s3 hA hB t1 t2 g1 g2 g3 g4
    go_wp2_with fail
    refine (eq_any (some ⟨g', 0, none⟩) N c' _ (some ⟨g, 0, none⟩) N c _ _ s4 s3' hNb hNb).mono ?_
    rintro e w5 ⟨rfl, g5⟩
    rw [hE.out]
    go_wp2
    go_ret
    exact ⟨rfl, Below.le G4.out g5⟩
  · have hs' : small n0 n1 = false := by unfold small; simp; omega
    go_enter Try.func3, Try.ntmps3
    go_wp2_with fail
    refine (zz6_any a0 n0 c0 a1 n1 c1 l m0 m1 _).mono ?_
    rintro e w' ⟨rfl, rfl⟩
    go_wp2
    go_ret
    exact ⟨rfl, Below.refl _ _⟩

end Go.Proofs.Qxb6603387a.Hp
