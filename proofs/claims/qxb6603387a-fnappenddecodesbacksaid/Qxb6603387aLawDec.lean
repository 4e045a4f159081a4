/-
  THE WALK OF FnAppendDecodesBack (4). By an AI agent.
-/
import Derived.Test.Qxb6603387aLawInj
import Derived.Test.Qxb6603387aDec
namespace Go.Proofs.Qxb6603387a.Hp
open Go.RowKit

/-- hpb1Decode at a text that Append made. -/
theorem dec_enc (b off n cap : Nat) (p : List Int) (l : Bool) (w : World) (hb : b < w.heap.size) (hl : (enc p l).length = n) (hc : ∀ i, i < n → w.cell? ⟨b, off + i, none⟩ = some (.int .u8 ((enc p l).getD i 0))) (hp : Nib p) (hn : n ≤ 4194304) :
    Calls Try.prog 13 #[.slice (some ⟨b, off, none⟩) n cap] w (DecEnd w p l) := by
  obtain ⟨c, r, e, h0, h1, h2, h3, h4⟩ := enc_head p l hp
  have hR := enc_range p l hp
  rw [e] at hl hc hR
  obtain ⟨m, rfl⟩ : ∃ m, n = m + 1 := ⟨n - 1, by simp at hl; omega⟩
  have hlm : r.length = m := by simpa using hl
  rcases h4 with ⟨_, ho, hout⟩ | ⟨_, ho, hlow, hout⟩
  · exact dec_odd b off m cap c r p l w hlm hb hc hR h2 ho hout h3 (by omega)
  · exact dec_even b off m cap c r p l w hlm hb hc hR h2 ho hlow (by simpa using hout) h3 (by omega)

/-- What Append leaves, in the walk's form: the old bytes and the form's behind them. -/
theorem AppEnd.form {w w' : World} {zs es : List Int} {e : Ending} (h : AppEnd w (zs ++ es) e w') (n m : Nat) (hn : zs.length = n) (hm : es.length = m) (h0 : 0 < m) :
    ∃ g c, e = .returned (.slice (some ⟨g, 0, none⟩) (n + m) c) ∧ n + m ≤ c ∧ c ≤ maxLen ∧ g < w'.heap.size ∧ Sl w' (some ⟨g, 0, none⟩) (n + m) (zs ++ es) ∧ Sl w' (some ⟨g, 0, none⟩) n zs ∧
      (∀ i, i < m → w'.cell? ⟨g, n + i, none⟩ = some (.int .u8 (es.getD i 0))) ∧ Below w.heap.size w w' := by
  obtain ⟨g, c, rfl, h1, h2, h3, hs, hb⟩ := h
  have hl : (zs ++ es).length = n + m := by rw [List.length_append, hn, hm]
  rw [hl] at hs h1
  obtain ⟨hlt, hc⟩ : g < w'.heap.size ∧ ∀ i, i < n + m → w'.cell? ⟨g, i, none⟩ = some (.int .u8 ((zs ++ es).getD i 0)) := by
    rcases hs.cells with h0 | ⟨b, off, e, hlt, hc⟩
    · omega
    · cases e
      exact ⟨hlt, fun i hi => by have := hc i hi; rwa [Nat.zero_add] at this⟩
  refine ⟨g, c, by rw [hl], h1, h2, hlt, hs, ⟨hn, fun x hx => hs.rng x (by simp [hx]), .inr ⟨g, 0, rfl, hlt, fun i hi => ?_⟩⟩, fun i hi => ?_, hb⟩
  · rw [Nat.zero_add, hc i (by omega)]
    simp [List.getD, List.getElem?_append, hn, hi]
  · rw [hc (n + i) (by omega)]
    simp [List.getD, List.getElem?_append, hn, show ¬ n + i < n by omega]

set_option maxHeartbeats 1000000 in
theorem dec_walk (a0 : Option Addr) (n0 c0 : Nat) (z0 : List Int) (a1 : Option Addr) (n1 c1 : Nat) (z1 : List Int) (l : Bool) (w : World)
    (h0 : Sl w a0 n0 z0) (e0 : a0 = none → n0 = 0) (m0 : n0 ≤ maxLen) (h1 : Sl w a1 n1 z1) (e1 : a1 = none → n1 = 0) (m1 : n1 ≤ maxLen) :
    Calls Try.prog 4 #[.slice a0 n0 c0, .slice a1 n1 c1, .bool l] w (LawEnd w) := by
  have m0' : n0 ≤ 9223372036854775807 := m0
  have m1' : n1 ≤ 9223372036854775807 := m1
  by_cases hs : n0 + n1 ≤ 1048576
  · have hs' : small n0 n1 = true := by unfold small; simp [hs]
    by_cases k0 : 524288 < n0
    · go_enter Try.func4, Try.ntmps4
      go_wp2_with fail
      refine (zz12_any a0 n0 c0 a1 n1 c1 l m0 m1 _).mono ?_
      rintro e w' ⟨rfl, rfl⟩
      go_wp2
      go_ret
      exact ⟨rfl, Below.refl _ _⟩
    by_cases k1 : 524288 < n1
    · go_enter Try.func4, Try.ntmps4
      go_wp2_with fail
      refine (zz12_any a0 n0 c0 a1 n1 c1 l m0 m1 _).mono ?_
      rintro e w' ⟨rfl, rfl⟩
      go_wp2
      go_ret
      exact ⟨rfl, Below.refl _ _⟩
    have kn0 : n0 ≤ 1048576 := by omega
    have kn1 : n1 ≤ 1048576 := by omega
    cases b1 : nibB z1
    · go_enter Try.func4, Try.ntmps4
      go_wp2_with fail
      refine (zz12_any a0 n0 c0 a1 n1 c1 l m0 m1 _).mono ?_
      rintro e w' ⟨rfl, rfl⟩
      go_wp2_with fail
      refine (nib_any a1 n1 c1 z1 _ h1 kn1).mono ?_
      rintro e w' ⟨rfl, rfl⟩
      go_wp2
      go_ret
      exact ⟨rfl, Below.refl _ _⟩
    have hN1 := nib_of z1 b1 h1.rng
    obtain ⟨m, hm⟩ : ∃ m, (enc z1 l).length = m := ⟨_, rfl⟩
    have hm0 : 0 < m := by rw [← hm, enc_length]; omega
    have hmb : m ≤ 1048577 := by rw [← hm, enc_length]; have := h1.len; omega
    have HM : Hid ((enc z1 l).length = m) := hm
    have HL0 : Hid (z0.length = n0) := h0.len
    have HL1 : Hid (z1.length = n1) := h1.len
    have hE0 : Hid (eqB z0 z0 = true) := by unfold Hid eqB; simp
    have hE1 : Hid (eqB z1 z1 = true) := by unfold Hid eqB; simp
    clear hm
    go_enter Try.func4, Try.ntmps4
    go_wp2_with fail
    refine (zz12_any a0 n0 c0 a1 n1 c1 l m0 m1 _).mono ?_
    rintro e w' ⟨rfl, rfl⟩
    go_wp2_with fail
    refine (nib_any a1 n1 c1 z1 _ h1 kn1).mono ?_
    rintro e w' ⟨rfl, rfl⟩
    go_wp2_with fail
    refine (clone_any a0 n0 c0 z0 _ h0 e0 kn0).mono ?_
    rintro e w1 ⟨ao1, rfl, f1, s1, g1⟩
    go_wp2_with fail
    refine (clone_any a1 n1 c1 z1 _ (h1.below (Nat.le_refl _) g1) e1 kn1).mono ?_
    rintro e w2 ⟨ao2, rfl, f2, s2, g2⟩
    have s1' := s1.below (Nat.le_refl _) g2
    go_wp2_with fail
    refine (app_any ao1 n0 z0 ao2 n1 z1 l _ s1' f1 s2 hN1 kn0 kn1).mono ?_
    intro e w3 hA
    obtain ⟨g, c, rfl, hnc, hcm, hg, s3, s4, hC, g3⟩ := hA.form n0 m HL0.out HM.out hm0
    have t1 := s1'.below (Nat.le_refl _) g3
    have t2 := s2.below (Nat.le_refl _) g3
    have G3 : Hid (Below w'.heap.size w' w3) := Below.le (Below.le g1 g2) g3
    have HC : Hid (∀ i, i < m → w3.cell? ⟨g, n0 + i, none⟩ = some (.int .u8 ((enc z1 l).getD i 0))) := hC
    unfold maxLen at hcm
    clear h0 h1 s1 s1' s2 s3 hC hA g1 g2 g3
    go_wp2_with fail
    refine (eq_any (some ⟨g, 0, none⟩) n0 c z0 ao1 n0 n0 z0 _ s4 t1 (by omega) (by omega)).mono ?_
    rintro e w4 ⟨rfl, g4⟩
    rw [hE0.out]
    have hcn : ¬ c = n0 := by omega
    have hcn' : n0 < c := by omega
    have u2 := t2.below (Nat.le_refl _) g4
    have hg4 : g < w4.heap.size := Nat.lt_of_lt_of_le hg g4.size
    have HC4 : Hid (∀ i, i < m → w4.cell? ⟨g, n0 + i, none⟩ = some (.int .u8 ((enc z1 l).getD i 0))) := fun i hi => (g4.cell (by exact hg)).trans (HC.out i hi)
    have G4 : Hid (Below w'.heap.size w' w4) := Below.le G3.out g4
    clear s4 t1 t2 HC G3 g4 hg
    go_wp2_with fail
    refine (dec_enc g n0 m (c - n0) z1 l _ hg4 HM.out HC4.out hN1 (by omega)).mono ?_
    rintro e w5 ⟨ao5, c5, rfl, s5, g5⟩
    have v2 := u2.below (Nat.le_refl _) g5
    have G5 : Hid (Below w'.heap.size w' w5) := Below.le G4.out g5
    have hll : (l == l) = true := by simp
    clear u2 HC4 G4 g5 hg4
    go_wp2_with fail
    refine (eq_any ao5 z1.length c5 z1 ao2 n1 n1 z1 _ s5 v2 (by rw [HL1.out]; omega) (by omega)).mono ?_
    rintro e w6 ⟨rfl, g6⟩
    rw [hE1.out]
    go_wp2
    go_ret
    exact ⟨rfl, Below.le G5.out g6⟩
  · have hs' : small n0 n1 = false := by unfold small; simp; omega
    go_enter Try.func4, Try.ntmps4
    go_wp2_with fail
    refine (zz12_any a0 n0 c0 a1 n1 c1 l m0 m1 _).mono ?_
    rintro e w' ⟨rfl, rfl⟩
    go_wp2
    go_ret
    exact ⟨rfl, Below.refl _ _⟩

end Go.Proofs.Qxb6603387a.Hp
