/-
  THE WALK OF FnAppendInjective (5). By an AI agent.
-/
import Derived.Test.Qxb6603387aApp
namespace Go.Proofs.Qxb6603387a.Hp
open Go.RowKit

/-- What every law's walk ends in. -/
def LawEnd (w : World) (e : Ending) (w' : World) : Prop := e = .returned (.bool true) ∧ Below w.heap.size w w'

theorem nib_of (zs : List Int) (h : nibB zs = true) (hr : ∀ x ∈ zs, 0 ≤ x ∧ x ≤ 255) : Nib zs := by
  intro x hx
  unfold nibB at h
  rw [List.all_eq_true] at h
  have := h x hx
  simp at this
  exact ⟨(hr x hx).1, this⟩

theorem eqB_inj (z0 z1 : List Int) (l1 l2 : Bool) (h0 : Nib z0) (h1 : Nib z1) : eqB (enc z0 l1) (enc z1 l2) = (l1 == l2 && eqB z0 z1) := by
  unfold eqB
  rw [Bool.eq_iff_iff]
  simp only [beq_iff_eq, Bool.and_eq_true]
  exact ⟨fun h => enc_inj z0 z1 l1 l2 h0 h1 h, fun ⟨a, b⟩ => by rw [a, b]⟩

theorem Sl.none (w : World) : Sl w none 0 [] := ⟨rfl, fun x hx => by simp at hx, .inl rfl⟩

theorem Below.le {w w' w'' : World} (h : Below w.heap.size w w') (h' : Below w'.heap.size w' w'') : Below w.heap.size w w'' := h.trans (h'.mono h.size)

set_option maxHeartbeats 1000000 in
theorem inj_walk (a0 : Option Addr) (n0 c0 : Nat) (z0 : List Int) (a1 : Option Addr) (n1 c1 : Nat) (z1 : List Int) (l1 l2 : Bool) (w : World)
    (h0 : Sl w a0 n0 z0) (e0 : a0 = none → n0 = 0) (m0 : n0 ≤ maxLen) (h1 : Sl w a1 n1 z1) (e1 : a1 = none → n1 = 0) (m1 : n1 ≤ maxLen) :
    Calls Try.prog 5 #[.slice a0 n0 c0, .slice a1 n1 c1, .bool l1, .bool l2] w (LawEnd w) := by
  have m0' : n0 ≤ 9223372036854775807 := m0
  have m1' : n1 ≤ 9223372036854775807 := m1
  by_cases hs : n0 + n1 ≤ 1048576
  · have hs' : small n0 n1 = true := by unfold small; simp [hs]
    by_cases k0 : 524288 < n0
    · go_enter Try.func5, Try.ntmps5
      go_wp2_with fail
      refine (zz14_any a0 n0 c0 a1 n1 c1 l1 l2 m0 m1 _).mono ?_
      rintro e w' ⟨rfl, rfl⟩
      go_wp2
      go_ret
      exact ⟨rfl, Below.refl _ _⟩
    by_cases k1 : 524288 < n1
    · go_enter Try.func5, Try.ntmps5
      go_wp2_with fail
      refine (zz14_any a0 n0 c0 a1 n1 c1 l1 l2 m0 m1 _).mono ?_
      rintro e w' ⟨rfl, rfl⟩
      go_wp2
      go_ret
      exact ⟨rfl, Below.refl _ _⟩
    have kn0 : n0 ≤ 1048576 := by omega
    have kn1 : n1 ≤ 1048576 := by omega
    cases b0 : nibB z0
    · go_enter Try.func5, Try.ntmps5
      go_wp2_with fail
      refine (zz14_any a0 n0 c0 a1 n1 c1 l1 l2 m0 m1 _).mono ?_
      rintro e w' ⟨rfl, rfl⟩
      go_wp2_with fail
      refine (nib_any a0 n0 c0 z0 _ h0 kn0).mono ?_
      rintro e w' ⟨rfl, rfl⟩
      go_wp2
      go_ret
      exact ⟨rfl, Below.refl _ _⟩
    cases b1 : nibB z1
    · go_enter Try.func5, Try.ntmps5
      go_wp2_with fail
      refine (zz14_any a0 n0 c0 a1 n1 c1 l1 l2 m0 m1 _).mono ?_
      rintro e w' ⟨rfl, rfl⟩
      go_wp2_with fail
      refine (nib_any a0 n0 c0 z0 _ h0 kn0).mono ?_
      rintro e w' ⟨rfl, rfl⟩
      go_wp2_with fail
      refine (nib_any a1 n1 c1 z1 _ h1 kn1).mono ?_
      rintro e w' ⟨rfl, rfl⟩
      go_wp2
      go_ret
      exact ⟨rfl, Below.refl _ _⟩
    have hN0 := nib_of z0 b0 h0.rng
    have hN1 := nib_of z1 b1 h1.rng
    have hE : Hid (eqB (enc z0 l1) (enc z1 l2) = (l1 == l2 && eqB z0 z1)) := eqB_inj z0 z1 l1 l2 hN0 hN1
    have len0 : Hid ((enc z0 l1).length ≤ 4194304) := by
      have := h0.len
      simp only [Hid, enc_length]; omega
    have len1 : Hid ((enc z1 l2).length ≤ 4194304) := by
      have := h1.len
      simp only [Hid, enc_length]; omega
    go_enter Try.func5, Try.ntmps5
    go_wp2_with fail
    refine (zz14_any a0 n0 c0 a1 n1 c1 l1 l2 m0 m1 _).mono ?_
    rintro e w' ⟨rfl, rfl⟩
    go_wp2_with fail
    refine (nib_any a0 n0 c0 z0 _ h0 kn0).mono ?_
    rintro e w' ⟨rfl, rfl⟩
    go_wp2_with fail
    refine (nib_any a1 n1 c1 z1 _ h1 kn1).mono ?_
    rintro e w' ⟨rfl, rfl⟩
    go_wp2_with fail
    refine (clone_any a0 n0 c0 z0 _ h0 e0 kn0).mono ?_
    rintro e w1 ⟨ao1, rfl, f1, s1, g1⟩
    go_wp2_with fail
    refine (clone_any a1 n1 c1 z1 _ (h1.below (Nat.le_refl _) g1) e1 kn1).mono ?_
    rintro e w2 ⟨ao2, rfl, f2, s2, g2⟩
    have s1' := s1.below (Nat.le_refl _) g2
    go_wp2_with fail
    refine (app_any none 0 [] ao1 n0 z0 l1 _ (Sl.none _) (fun _ => rfl) s1' hN0 (by omega) kn0).mono ?_
    rintro e w3 ⟨gg1, cc1, rfl, _, _, _, s3, g3⟩
    simp only [List.nil_append] at s3
    have s2' := s2.below (Nat.le_refl _) g3
    have s1'' := s1'.below (Nat.le_refl _) g3
    go_wp2_with fail
    refine (app_any none 0 [] ao2 n1 z1 l2 _ (Sl.none _) (fun _ => rfl) s2' hN1 (by omega) kn1).mono ?_
    rintro e w4 ⟨gg2, cc2, rfl, _, _, _, s4, g4⟩
    simp only [List.nil_append] at s4
    have s3' := s3.below (Nat.le_refl _) g4
    have t2 := s2'.below (Nat.le_refl _) g4
    have t1 := s1''.below (Nat.le_refl _) g4
    have G4 : Hid (Below w'.heap.size w' w4) := Below.le (Below.le (Below.le g1 g2) g3) g4
    clear h0 h1 s1 s1' s1'' s2 s2' s3
    go_wp2_with fail
    refine (eq_any (some ⟨gg1, 0, none⟩) _ cc1 (enc z0 l1) (some ⟨gg2, 0, none⟩) _ cc2 (enc z1 l2) _ s3' s4 len0.out len1.out).mono ?_
    rintro e w5 ⟨rfl, g5⟩
    rw [hE.out]
    have u2 := t2.below (Nat.le_refl _) g5
    have u1 := t1.below (Nat.le_refl _) g5
    have G5 : Hid (Below w'.heap.size w' w5) := Below.le G4.out g5
    clear t1 t2 s3' s4 G4 g1 g2 g3 g4 g5 b0 b1
    by_cases hll : l1 = l2
    · subst hll
      have hb : (l1 == l1) = true := by simp
      go_wp2_with fail
      refine (eq_any ao1 n0 n0 z0 ao2 n1 n1 z1 _ u1 u2 (by omega) (by omega)).mono ?_
      rintro e w6 ⟨rfl, g6⟩
      go_wp2
      go_ret
      exact ⟨ret_bool (by simp), Below.le G5.out g6⟩
    · have hb : (l1 == l2) = false := by simp [hll]
      go_wp2
      go_ret
      exact ⟨rfl, G5.out⟩
  · have hs' : small n0 n1 = false := by unfold small; simp; omega
    go_enter Try.func5, Try.ntmps5
    go_wp2_with fail
    refine (zz14_any a0 n0 c0 a1 n1 c1 l1 l2 m0 m1 _).mono ?_
    rintro e w' ⟨rfl, rfl⟩
    go_wp2
    go_ret
    exact ⟨rfl, Below.refl _ _⟩
end Go.Proofs.Qxb6603387a.Hp
