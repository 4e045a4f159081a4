/-
  THE WALK OF FnHoldsAllIsByteSetInclusion (8). By an AI agent.
-/
import Derived.Test.Qxb6603695aLawTok
import Derived.Deep.RegionHeld3
import Derived.Deep.MidRow
namespace Go.Proofs.Qxb6603695a.St
open Go.RowKit

theorem row_range {w : World} {b : Nat} {A : Array Value} (h : w.heap[b]? = some (.cells A 31 (0, 0))) : w.rangeAt b 0 A.toList := fun j v hv => by
  rw [Nat.zero_add, cell_of_row w b j A 31 (0, 0) h]
  simpa using hv

theorem keep_below {b : Nat} {cs : List Value} {B : Nat} {W w' : World} (h : Below B W w') (hB : b < B) (hS : W.rangeAt b 0 cs) : w'.rangeAt b 0 cs := fun j v hv => by
  rw [h.cell (p := ⟨b, 0 + j, none⟩) hB]
  exact hS j v hv

set_option maxHeartbeats 1000000 in
set_option maxRecDepth 100000 in
theorem incl_walk (A : Array Value) (g : Nat → Bool) (hA : Tb A g) (s : ByteArray) (hs : s.size ≤ maxLen) (w : World) :
    Calls Try.prog 8 #[.agg A, .string s] w fun e w' => e = .returned (.bool true) ∧ Below w.heap.size w w' := by
  have hm : s.size ≤ 9223372036854775807 := hs
  have he := empty_iff s
  obtain ⟨_, hi31⟩ := zero_of_info zero31
  have HI31 : Hid ((Try.prog.info? 31).map (·.size) = some A.size) := by rw [hA.size]; exact hi31
  clear hi31
  by_cases hb : s.size ≤ 1048576
  · have hsm : small s.size = true := by unfold small; simp [hb]
    by_cases h0 : s.size = 0
    · have ht := tok_empty s g h0
      have he' : s.toList.isEmpty = true := by rw [he]; simp [h0]
      clear he
      go_enter Try.func8, Try.ntmps8
      go_wp2_with (refine wpList_load_row rfl 31 _ rfl w.heap.size rfl 31 A (0, 0) _ (heap_alloc_new w _) Try.underlying31 rfl HI31.out ?_)
      refine (zz21_any A s hs _).mono ?_
      rintro e w1 ⟨rfl, g1⟩
      have hrow1 : Hid (w1.heap[w.heap.size]? = some (.cells A 31 (0, 0))) := (g1.block _ (by simp)).trans (heap_alloc_new w _)
      have G1 : Hid (Below w.heap.size w w1) := Below.le ((Below.refl _ _).alloc (Nat.le_refl _) _) g1
      clear g1
      go_wp2
      go_quiet (fail)
      go_wp2_with (refine wpList_load_row rfl 31 _ rfl w.heap.size rfl 31 A (0, 0) _ hrow1.out Try.underlying31 rfl HI31.out ?_)
      refine (zzholds_any A g hA s hb _).mono ?_
      rintro e w3 ⟨rfl, g3⟩
      rw [ht]
      have G3 : Hid (Below w.heap.size w w3) := Below.le G1.out (w' := w1) ⟨g3.os, g3.tape, g3.output, g3.size, g3.block⟩
      clear g3
      go_wp2
      go_ret
      exact ⟨rfl, G3.out⟩
    · have HT : Hid (tok s g = subB (occ (bs s)) g) := tok_sub s g h0
      have he' : s.toList.isEmpty = false := by rw [he]; simp [h0]
      clear he
      go_enter Try.func8, Try.ntmps8
      go_wp2_with (refine wpList_load_row rfl 31 _ rfl w.heap.size rfl 31 A (0, 0) _ (heap_alloc_new w _) Try.underlying31 rfl HI31.out ?_)
      refine (zz21_any A s hs _).mono ?_
      rintro e w1 ⟨rfl, g1⟩
      have hrow1 : Hid (w1.heap[w.heap.size]? = some (.cells A 31 (0, 0))) := (g1.block _ (by simp)).trans (heap_alloc_new w _)
      have G1 : Hid (Below w.heap.size w w1) := Below.le ((Below.refl _ _).alloc (Nat.le_refl _) _) g1
      have hlt1 : w.heap.size < w1.heap.size := by have := g1.size; simp at this; omega
      clear g1
      have hu := Try.underlying31
      have hl : A.toList.length = 256 := by rw [Array.length_toList]; exact hA.size
      have hi : (Try.prog.info? 31).map (·.size) = some A.toList.length := by rw [Array.length_toList]; exact HI31.out
      have h1c : ∀ v ∈ A.toList, v.oneCell' = true := fun v hv => (Array.all_eq_true_iff_forall_mem.1 hA.one) v (by simpa using hv)
      have hr1 := row_range hrow1.out
      go_wp2
      go_region_held3 (fun w' => w'.rangeAt w.heap.size 0 A.toList ∧ w.heap.size < w'.heap.size) (first | go_keep_ranges | exact ⟨keep_below g2 (by exact hlt1) (by simpa using hr1), Nat.lt_of_lt_of_le hlt1 g2.size⟩ | exact ⟨keep_below g3 (Nat.lt_of_lt_of_le hlt1 g2.size) (keep_below g2 (by exact hlt1) (by simpa using hr1)), Nat.lt_of_lt_of_le (Nat.lt_of_lt_of_le hlt1 g2.size) g3.size⟩) (first | (go_at_call 16; refine (set_any s hb _).mono ?_; rintro e w2 ⟨A2, rfl, hA2, g2⟩) | (go_at_call 15; refine (sub_any A2 A _ _ hA2 hA _).mono ?_; rintro e w3 ⟨rfl, g3⟩))
      have hrow3 : Hid (w3.heap[w.heap.size]? = some (.cells A 31 (0, 0))) := (g3.block _ (Nat.lt_of_lt_of_le hlt1 g2.size)).trans ((g2.block _ (by exact hlt1)).trans hrow1.out)
      have G3 : Hid (Below w.heap.size w w3) := Below.le (Below.le G1.out (w' := w1) ⟨g2.os, g2.tape, g2.output, g2.size, g2.block⟩) g3
      clear hr1 hu hl hi h1c hlt1 g2 g3 hA2 hrow1 G1
      go_wp2_with (refine wpList_load_row rfl 31 _ rfl w.heap.size rfl 31 A (0, 0) _ hrow3.out Try.underlying31 rfl HI31.out ?_)
      refine (zzholds_any A g hA s hb _).mono ?_
      rintro e w4 ⟨rfl, g4⟩
      rw [HT.out]
      have G4 : Hid (Below w.heap.size w w4) := Below.le G3.out g4
      clear g4
      go_wp2
      go_ret
      exact ⟨ret_bool (by simp), G4.out⟩
  · have hsm : small s.size = false := by unfold small; simp; omega
    clear he
    go_enter Try.func8, Try.ntmps8
    go_wp2_with (refine wpList_load_row rfl 31 _ rfl w.heap.size rfl 31 A (0, 0) _ (heap_alloc_new w _) Try.underlying31 rfl HI31.out ?_)
    refine (zz21_any A s hs _).mono ?_
    rintro e w1 ⟨rfl, g1⟩
    have G1 : Hid (Below w.heap.size w w1) := Below.le ((Below.refl _ _).alloc (Nat.le_refl _) _) g1
    clear g1
    go_wp2
    go_ret
    exact ⟨rfl, G1.out⟩
end Go.Proofs.Qxb6603695a.St
