/-
  THE WALK OF hpb1Decode (13). By an AI agent.
-/
import Derived.Test.Qxb6603387aClone
import Derived.Deep.AppendLies
namespace Go.Proofs.Qxb6603387a.Hp
open Go.RowKit

/-- What hpb1Decode leaves at a well-formed text: the path, the leaf's mark, 'ok'. -/
def DecEnd (w : World) (out : List Int) (leaf : Bool) (e : Ending) (w' : World) : Prop :=
  ∃ ao' c', e = .returned (.tuple #[.slice ao' out.length c', .bool leaf, .bool true]) ∧ Sl w' ao' out.length out ∧ Below w.heap.size w w'

/-- The loop's relation: behind j rounds. -/
def Dp (w : World) (C n : Nat) (r pre : List Int) (v i : Value) (wr : World) : Prop :=
  ∃ j L : Nat, j ≤ n ∧ i = .int .i64 ((j : Int) + 1) ∧ v = .slice (some ⟨w.heap.size, 0, none⟩) L C ∧ L = pre.length + 2 * j ∧
    wr.ownsRow w.heap.size 5 1 (.slice (some ⟨w.heap.size, 0, none⟩) L C) L (vals (pre ++ unpack (r.take j))) ∧ Below w.heap.size w wr

theorem Dp.next {w wr w1 w2 : World} {C n j L : Nat} {r pre : List Int} {x : Int} (hj : j < n) (hn : r.length = n) (hL : L = pre.length + 2 * j) (hx : x = r.getD j 0) (hbel : Below w.heap.size w wr) (o o' : Obj)
    (hg1 : (wr.alloc o).grownBy w1 (some w.heap.size)) (hg2 : (w1.alloc o').grownBy w2 (some w.heap.size))
    (hown : w2.ownsRow w.heap.size 5 1 (.slice (some ⟨w.heap.size, 0, none⟩) (L + 1 + 1) C) (L + 1 + 1) (vals (pre ++ unpack (r.take j)) ++ [.int .u8 (x / 16), .int .u8 (x % 16)])) :
    Dp w C n r pre (.slice (some ⟨w.heap.size, 0, none⟩) (L + 1 + 1) C) (.int .i64 ((j : Int) + 1 + 1)) w2 := by
  have hb1 : Below w.heap.size w w1 := (hbel.alloc hbel.size o).grown hg1 (by have := hbel.size; simp; omega) (fun k hk => by cases hk; exact Nat.le_refl _)
  have hb2 : Below w.heap.size w w2 := (hb1.alloc hb1.size o').grown hg2 (by have := hb1.size; simp; omega) (fun k hk => by cases hk; exact Nat.le_refl _)
  refine ⟨j + 1, L + 1 + 1, by omega, by simp, rfl, by omega, ?_, hb2⟩
  have e : vals (pre ++ unpack (r.take (j + 1))) = vals (pre ++ unpack (r.take j)) ++ [.int .u8 (x / 16), .int .u8 (x % 16)] := by
    rw [unpack_take r j (by omega), hx]
    simp [vals]
  rw [e]
  exact hown

theorem Dec.done {w wr : World} {L C : Nat} {out : List Int} {leaf : Bool} (hr : ∀ x ∈ out, 0 ≤ x ∧ x ≤ 255) (hown : wr.ownsRow w.heap.size 5 1 (.slice (some ⟨w.heap.size, 0, none⟩) L C) L (vals out)) (hbel : Below w.heap.size w wr) :
    DecEnd w out leaf (.returned (.tuple #[.slice (some ⟨w.heap.size, 0, none⟩) L C, .bool leaf, .bool true])) wr := by
  have hN : out.length = L := by have := hown.1; rw [vals_length] at this; omega
  obtain ⟨ao, c, e, hnc, _, hsl⟩ := Sl.of_owns hown hr
  cases e
  subst hN
  exact ⟨_, _, rfl, hsl, hbel⟩

theorem unpack_range (r : List Int) (h : ∀ x ∈ r, 0 ≤ x ∧ x ≤ 255) : ∀ x ∈ unpack r, 0 ≤ x ∧ x ≤ 255 := by
  induction r with
  | nil => intro x hx; simp [unpack] at hx
  | cons a r ih =>
    intro x hx
    have ha := h a (by simp)
    simp only [unpack, List.mem_cons] at hx
    rcases hx with rfl | rfl | hx
    · omega
    · omega
    · exact ih (fun y hy => h y (by simp [hy])) x hx

set_option maxHeartbeats 400000 in
theorem dec_odd (b off n cap : Nat) (c : Int) (r out : List Int) (leaf : Bool) (w : World) (hl : r.length = n) (hb : b < w.heap.size) (hc : ∀ i, i < n + 1 → w.cell? ⟨b, off + i, none⟩ = some (.int .u8 ((c :: r).getD i 0)))
    (hr : ∀ x ∈ c :: r, 0 ≤ x ∧ x ≤ 255) (hf : c / 16 ≤ 3) (ho : c / 16 % 2 = 1) (hout : [c % 16] ++ unpack r = out) (hleaf : decide (2 ≤ c / 16) = leaf) (hn : n ≤ 4194304) :
    Calls Try.prog 13 #[.slice (some ⟨b, off, none⟩) (n + 1) cap] w (DecEnd w out leaf) := by
  obtain ⟨i0, hi, hz0, hz1, hz2⟩ := info_parts info5
  obtain ⟨pre, hpre⟩ : ∃ pre : List Int, pre = [c % 16] := ⟨_, rfl⟩
  have hpl : pre.length = 1 := by rw [hpre]; rfl
  have hL : Hid (r.length = n) := hl
  have hC : Hid (∀ i, i < n → w.cell? ⟨b, off + (i + 1), none⟩ = some (.int .u8 (r.getD i 0))) := fun i hi => by
    rw [hc (i + 1) (by omega)]
    simp
  have hc0 : w.cell? ⟨b, off, none⟩ = some (.int .u8 c) := by simpa using hc 0 (by omega)
  have hcr := hr c (by simp)
  obtain ⟨hcr0, hcr1⟩ := hcr
  have hrr : Hid (∀ x ∈ r, 0 ≤ x ∧ x ≤ 255) := fun x hx => hr x (by simp [hx])
  have hO : Hid (pre ++ unpack r = out) := by rw [hpre]; exact hout
  have hR : Hid (∀ x ∈ out, 0 ≤ x ∧ x ≤ 255) := by
    intro x hx
    rw [← hout] at hx
    rcases List.mem_append.1 hx with h | h
    · simp at h; omega
    · exact unpack_range r hrr.out x h
  have HP : Hid (pre = [c % 16]) := hpre
  have HPL : Hid (pre.length = 1) := hpl
  have hb1 : i0.bytes * (2 * (n + 1)) ≤ 281474976710656 := by rw [hz2]; omega
  clear hl hc hr hout hpre hpl
  go_enter Try.func13, Try.ntmps13
  go_wp2_with (at_make; refine wpList_make_own _ rfl _ _ 22 rfl w.heap.size 5 i0 (.int .u8 0) 1 Try.underlying22 hi hz0 hz1 _ _ _ (2 * (n + 1)) rfl rfl (by omega) hb1 (by unfold maxLen; omega) (Nat.le_refl _) ?_)
  intro w1 hown0 hgrow0
  have hbel0 : Below w.heap.size w w1 := (Below.refl w.heap.size w).grown hgrow0 (Nat.le_refl _) (fun k hk => by cases hk)
  clear hgrow0 hb1 hc0
  go_wp2_with (at_builtin; refine wpList_append_fits _ rfl _ _ 22 rfl w.heap.size 5 i0 1 Try.underlying22 hi hz1 w.heap.size 0 (2 * (n + 1)) [] rfl (hown0.alloc _) ⟨w1.heap.size, 0, none⟩ 1 1 [.int .u8 (c % 16)] rfl rfl (cell_one_new _ _ _) (by simp [Value.oneCell']) (by omega) ?_)
  intro w2 hown1 hgrow1
  have hrel0 : Dp w (2 * (n + 1)) n r pre (.slice (some ⟨w.heap.size, 0, none⟩) 1 (2 * (n + 1))) (.int .i64 1) w2 := by
    refine ⟨0, 1, Nat.zero_le _, rfl, rfl, by rw [HPL.out], ?_, (hbel0.alloc hbel0.size _).grown hgrow1 (by have := hbel0.size; simp; omega) (fun k hk => by cases hk; exact Nat.le_refl _)⟩
    rw [HP.out]
    simpa [unpack, vals] using hown1
  clear hown1 hgrow1 hown0 hbel0
  go_wp2
  go_loopw [9, 10] (fun v i wr => Dp w (2 * (n + 1)) n r pre v i wr) (fun _ i _ => n + 1 - (intOf i).toNat)
  case atStart => exact hrel0
  case round =>
    obtain ⟨j, L, hj, rfl, rfl, hLL, hown, hbel⟩ := hrel
    have HLL : Hid (L = pre.length + 2 * j) := hLL
    have hLb : L ≤ 1 + 2 * j := by have := HPL.out; omega
    clear hrel0 hLL
    by_cases hlt : j < n
    · obtain ⟨x, hx⟩ : ∃ x, x = r.getD j 0 := ⟨_, rfl⟩
      have hcx : wr.cell? ⟨b, off + (j + 1), none⟩ = some (.int .u8 x) := by rw [hx]; exact (hbel.cell (by exact hb)).trans (hC.out j hlt)
      have hxr : 0 ≤ x ∧ x ≤ 255 := by
        rw [hx]
        have e : r.getD j 0 = r[j]'(by rw [hL.out]; exact hlt) := by simp [List.getD, hL.out, hlt]
        rw [e]
        exact hrr.out _ (List.getElem_mem _)
      obtain ⟨hx0, hx1⟩ := hxr
      have HX : Hid (x = r.getD j 0) := hx
      clear hx
      go_wp2_with (at_builtin; refine wpList_append_fits _ rfl _ _ 22 rfl w.heap.size 5 i0 1 Try.underlying22 hi hz1 w.heap.size L (2 * (n + 1)) (vals (pre ++ unpack (r.take j))) rfl (hown.alloc _) ⟨wr.heap.size, 0, none⟩ 1 1 [.int .u8 (x / 16)] rfl rfl (cell_one_new _ _ _) (by simp [Value.oneCell']) (by omega) ?_)
      intro w3 hown3 hgrow3
      have hbel3 : Below w.heap.size w w3 := (hbel.alloc hbel.size _).grown hgrow3 (by have := hbel.size; simp; omega) (fun k hk => by cases hk; exact Nat.le_refl _)
      have hcx3 : w3.cell? ⟨b, off + (j + 1), none⟩ = some (.int .u8 x) := (hbel3.cell (by exact hb)).trans ((hbel.cell (p := ⟨b, off + (j + 1), none⟩) (by exact hb)).symm.trans hcx)
      clear hcx
      go_wp2_with (at_builtin; refine wpList_append_fits _ rfl _ _ 22 rfl w.heap.size 5 i0 1 Try.underlying22 hi hz1 w.heap.size (L + 1) (2 * (n + 1)) (vals (pre ++ unpack (r.take j)) ++ [.int .u8 (x / 16)]) rfl (hown3.alloc _) ⟨w3.heap.size, 0, none⟩ 1 1 [.int .u8 (x % 16)] rfl rfl (cell_one_new _ _ _) (by simp [Value.oneCell']) (by omega) ?_)
      intro w4 hown4 hgrow4
      have R := Dp.next hlt hL.out HLL.out HX.out hbel _ _ hgrow3 hgrow4 hown4
      clear hown4 hgrow4 hown3 hgrow3 hown hcx3
      go_wp2
      go_roundw
      case rel => exact R
      case measure => simp [intOf]; omega
    · go_wp2
      go_ret3
      have e : r.take j = r := List.take_of_length_le (by rw [hL.out]; omega)
      rw [e, hO.out] at hown
      exact Dec.done hR.out hown hbel

set_option maxHeartbeats 400000 in
theorem dec_even (b off n cap : Nat) (c : Int) (r out : List Int) (leaf : Bool) (w : World) (hl : r.length = n) (hb : b < w.heap.size) (hc : ∀ i, i < n + 1 → w.cell? ⟨b, off + i, none⟩ = some (.int .u8 ((c :: r).getD i 0)))
    (hr : ∀ x ∈ c :: r, 0 ≤ x ∧ x ≤ 255) (hf : c / 16 ≤ 3) (ho : c / 16 % 2 = 0) (hlow : c % 16 = 0) (hout : [] ++ unpack r = out) (hleaf : decide (2 ≤ c / 16) = leaf) (hn : n ≤ 4194304) :
    Calls Try.prog 13 #[.slice (some ⟨b, off, none⟩) (n + 1) cap] w (DecEnd w out leaf) := by
  obtain ⟨i0, hi, hz0, hz1, hz2⟩ := info_parts info5
  obtain ⟨pre, hpre⟩ : ∃ pre : List Int, pre = [] := ⟨_, rfl⟩
  have hpl : pre.length = 0 := by rw [hpre]; rfl
  have hL : Hid (r.length = n) := hl
  have hC : Hid (∀ i, i < n → w.cell? ⟨b, off + (i + 1), none⟩ = some (.int .u8 (r.getD i 0))) := fun i hi => by
    rw [hc (i + 1) (by omega)]
    simp
  have hc0 : w.cell? ⟨b, off, none⟩ = some (.int .u8 c) := by simpa using hc 0 (by omega)
  have hcr := hr c (by simp)
  obtain ⟨hcr0, hcr1⟩ := hcr
  have hrr : Hid (∀ x ∈ r, 0 ≤ x ∧ x ≤ 255) := fun x hx => hr x (by simp [hx])
  have hO : Hid (pre ++ unpack r = out) := by rw [hpre]; exact hout
  have hR : Hid (∀ x ∈ out, 0 ≤ x ∧ x ≤ 255) := by
    intro x hx
    rw [← hout] at hx
    rcases List.mem_append.1 hx with h | h
    · simp at h
    · exact unpack_range r hrr.out x h
  have HP : Hid (pre = []) := hpre
  have HPL : Hid (pre.length = 0) := hpl
  have hb1 : i0.bytes * (2 * (n + 1)) ≤ 281474976710656 := by rw [hz2]; omega
  clear hl hc hr hout hpre hpl
  go_enter Try.func13, Try.ntmps13
  go_wp2_with (at_make; refine wpList_make_own _ rfl _ _ 22 rfl w.heap.size 5 i0 (.int .u8 0) 1 Try.underlying22 hi hz0 hz1 _ _ _ (2 * (n + 1)) rfl rfl (by omega) hb1 (by unfold maxLen; omega) (Nat.le_refl _) ?_)
  intro w1 hown0 hgrow0
  have hbel0 : Below w.heap.size w w1 := (Below.refl w.heap.size w).grown hgrow0 (Nat.le_refl _) (fun k hk => by cases hk)
  clear hgrow0 hb1 hc0
  have hrel0 : Dp w (2 * (n + 1)) n r pre (.slice (some ⟨w.heap.size, 0, none⟩) 0 (2 * (n + 1))) (.int .i64 1) w1 := by
    refine ⟨0, 0, Nat.zero_le _, rfl, rfl, by rw [HPL.out], ?_, hbel0⟩
    rw [HP.out]
    simpa [unpack, vals] using hown0
  clear hown0 hbel0
  go_wp2
  go_loopw [9, 10] (fun v i wr => Dp w (2 * (n + 1)) n r pre v i wr) (fun _ i _ => n + 1 - (intOf i).toNat)
  case atStart => exact hrel0
  case round =>
    obtain ⟨j, L, hj, rfl, rfl, hLL, hown, hbel⟩ := hrel
    have HLL : Hid (L = pre.length + 2 * j) := hLL
    have hLb : L ≤ 0 + 2 * j := by have := HPL.out; omega
    clear hrel0 hLL
    by_cases hlt : j < n
    · obtain ⟨x, hx⟩ : ∃ x, x = r.getD j 0 := ⟨_, rfl⟩
      have hcx : wr.cell? ⟨b, off + (j + 1), none⟩ = some (.int .u8 x) := by rw [hx]; exact (hbel.cell (by exact hb)).trans (hC.out j hlt)
      have hxr : 0 ≤ x ∧ x ≤ 255 := by
        rw [hx]
        have e : r.getD j 0 = r[j]'(by rw [hL.out]; exact hlt) := by simp [List.getD, hL.out, hlt]
        rw [e]
        exact hrr.out _ (List.getElem_mem _)
      obtain ⟨hx0, hx1⟩ := hxr
      have HX : Hid (x = r.getD j 0) := hx
      clear hx
      go_wp2_with (at_builtin; refine wpList_append_fits _ rfl _ _ 22 rfl w.heap.size 5 i0 1 Try.underlying22 hi hz1 w.heap.size L (2 * (n + 1)) (vals (pre ++ unpack (r.take j))) rfl (hown.alloc _) ⟨wr.heap.size, 0, none⟩ 1 1 [.int .u8 (x / 16)] rfl rfl (cell_one_new _ _ _) (by simp [Value.oneCell']) (by omega) ?_)
      intro w3 hown3 hgrow3
      have hbel3 : Below w.heap.size w w3 := (hbel.alloc hbel.size _).grown hgrow3 (by have := hbel.size; simp; omega) (fun k hk => by cases hk; exact Nat.le_refl _)
      have hcx3 : w3.cell? ⟨b, off + (j + 1), none⟩ = some (.int .u8 x) := (hbel3.cell (by exact hb)).trans ((hbel.cell (p := ⟨b, off + (j + 1), none⟩) (by exact hb)).symm.trans hcx)
      clear hcx
      go_wp2_with (at_builtin; refine wpList_append_fits _ rfl _ _ 22 rfl w.heap.size 5 i0 1 Try.underlying22 hi hz1 w.heap.size (L + 1) (2 * (n + 1)) (vals (pre ++ unpack (r.take j)) ++ [.int .u8 (x / 16)]) rfl (hown3.alloc _) ⟨w3.heap.size, 0, none⟩ 1 1 [.int .u8 (x % 16)] rfl rfl (cell_one_new _ _ _) (by simp [Value.oneCell']) (by omega) ?_)
      intro w4 hown4 hgrow4
      have R := Dp.next hlt hL.out HLL.out HX.out hbel _ _ hgrow3 hgrow4 hown4
      clear hown4 hgrow4 hown3 hgrow3 hown hcx3
      go_wp2
      go_roundw
      case rel => exact R
      case measure => simp [intOf]; omega
    · go_wp2
      go_ret3
      have e : r.take j = r := List.take_of_length_le (by rw [hL.out]; omega)
      rw [e, hO.out] at hown
      exact Dec.done hR.out hown hbel
end Go.Proofs.Qxb6603387a.Hp
