/-
  THE WALK OF hpb1Clone (8). By an AI agent.
-/
import Derived.Test.Qxb6603387aBase
namespace Go.Proofs.Qxb6603387a.Hp
open Go.RowKit

theorem info5 : (Try.prog.info? 5).map (fun i => (i.zero, i.size, i.bytes)) = some (some (.int .u8 0), 1, 1) := by kernel_rfl

/-- The cells of a row of bytes. -/
def vals (zs : List Int) : List Value := zs.map (Value.int .u8)

theorem vals_length (zs : List Int) : (vals zs).length = zs.length := by simp [vals]

theorem vals_get (zs : List Int) (i : Nat) (h : i < zs.length) : (vals zs)[i]? = some (.int .u8 (zs.getD i 0)) := by
  simp [vals, List.getD, h]

/-- What the copy holds behind k rounds. -/
def part (zs : List Int) (k : Nat) : List Int := zs.take k ++ List.replicate (zs.length - k) 0

theorem part_length (zs : List Int) (k : Nat) (h : k ≤ zs.length) : (part zs k).length = zs.length := by
  simp [part]; omega

theorem part_zero (zs : List Int) : part zs 0 = List.replicate zs.length 0 := by simp [part]

theorem part_all (zs : List Int) : part zs zs.length = zs := by simp [part]

theorem part_set (zs : List Int) (k : Nat) (h : k < zs.length) : (vals (part zs k)).set k (.int .u8 (zs.getD k 0)) = vals (part zs (k + 1)) := by
  have e1 : zs.length - k = (zs.length - (k + 1)) + 1 := by omega
  have e2 : zs.take (k + 1) = zs.take k ++ [zs.getD k 0] := by
    rw [List.take_succ_eq_append_getElem h]
    simp [List.getD, h]
  unfold vals part
  rw [e1, e2, List.replicate_succ, List.map_append, List.map_append, List.map_append, List.set_append_right _ _ (by simp; omega)]
  simp [show k - min k zs.length = 0 by omega]

/-- An owned row of bytes reads as those bytes. -/
theorem Sl.of_owns {w : World} {base n : Nat} {v : Value} {zs : List Int} (h : w.ownsRow base 5 1 v n (vals zs)) (hr : ∀ x ∈ zs, 0 ≤ x ∧ x ≤ 255) :
    ∃ ao c, v = .slice ao n c ∧ n ≤ c ∧ (ao = none → n = 0 ∧ c = 0) ∧ Sl w ao n zs := by
  have hl : zs.length = n := by have := h.1; rw [vals_length] at this; omega
  rcases h.2 with ⟨rfl, rfl⟩ | ⟨g, cap, cur, rfl, hb, hg, hnc, r⟩
  · exact ⟨none, 0, rfl, Nat.le_refl _, fun _ => ⟨rfl, rfl⟩, hl, hr, .inl rfl⟩
  · refine ⟨_, cap, rfl, hnc, (fun e => by simp at e), hl, hr, .inr ⟨g, 0, rfl, (Array.getElem?_eq_some_iff.1 hg).1, fun i hi => ?_⟩⟩
    rw [h.cellAt (0 + i) (by omega)]
    simpa using vals_get zs i (by omega)

/-- What hpb1Clone leaves: a fresh copy, its capacity its length. -/
def CloneEnd (w : World) (n : Nat) (zs : List Int) (e : Ending) (w' : World) : Prop :=
  ∃ ao', e = .returned (.slice ao' n n) ∧ (ao' = none → n = 0) ∧ Sl w' ao' n zs ∧ Below w.heap.size w w'

set_option maxHeartbeats 400000 in
theorem clone_any (ao : Option Addr) (n c : Nat) (zs : List Int) (w : World) (h : Sl w ao n zs) (hz : ao = none → n = 0) (hn : n ≤ 1048576) :
    Calls Try.prog 8 #[.slice ao n c] w (CloneEnd w n zs) := by
  have hnilr := fun (w : World) (a : Option Addr) (n c : Nat) => Lib.run_eql_slice_nil (P := Try.prog) w 22 5 a n c 0 0 Try.underlying22
  have hl : Hid (zs.length = n) := h.len
  have hr : Hid (∀ x ∈ zs, 0 ≤ x ∧ x ≤ 255) := h.rng
  have hlen : zs.length ≤ 1048576 := by rw [hl.out]; exact hn
  obtain ⟨i0, hi, hz0, hz1, hz2⟩ := info_parts info5
  cases ao with
  | none =>
    have h0 : n = 0 := hz rfl
    subst h0
    have hs : Hid (Sl w none 0 zs) := h
    clear h hi hz0 hz1 hz2
    go_enter Try.func8, Try.ntmps8
    go_wp2
    go_ret
    exact ⟨none, rfl, fun _ => rfl, hs.out, Below.refl _ _⟩
  | some x =>
    have hcc : n = 0 ∨ ∃ b off, x = ⟨b, off, none⟩ ∧ b < w.heap.size ∧ ∀ i, i < n → w.cell? ⟨b, off + i, none⟩ = some (.int .u8 (zs.getD i 0)) := by
      rcases h.cells with h0 | ⟨b, off, e, r⟩
      · exact .inl h0
      · exact .inr ⟨b, off, by cases e; rfl, r⟩
    clear h hz
    have hb1 : i0.bytes * n ≤ 281474976710656 := by rw [hz2]; omega
    have hown0 : ∀ w1 : World, w1.ownsRow w.heap.size 5 1 (.slice (some ⟨w.heap.size, 0, none⟩) n n) n (madeCells #[Value.int IntKind.u8 0] n).toList →
        w1.ownsRow w.heap.size 5 1 (.slice (some ⟨w.heap.size, 0, none⟩) n n) n (vals (part zs 0)) := by
      intro w1 ho
      have : (madeCells #[Value.int IntKind.u8 0] n).toList = vals (part zs 0) := by
        rw [part_zero, hl.out, toList_madeCells_one]
        simp [vals]
      rw [this] at ho
      exact ho
    rcases hcc with h0 | ⟨b, off, rfl, hb, hc⟩
    · subst h0
      go_enter Try.func8, Try.ntmps8
      go_wp2_with (at_make; refine wpList_make_full _ rfl _ _ 22 rfl w.heap.size 5 i0 (.int .u8 0) 1 Try.underlying22 hi hz0 hz1 _ _ _ _ 0 rfl rfl rfl rfl hb1 (by unfold maxLen; omega) (Nat.le_refl _) ?_)
      intro w1 ho hg
      have ho1 := hown0 w1 ho
      have hb2 := (Below.refl w.heap.size w).grown hg (Nat.le_refl _) (fun k hk => by cases hk)
      clear ho hg hown0
      go_wp2
      refine wp_loop_rounds 1 ?_
      rw [rounds_succ]
      go_wp2
      go_ret
      obtain ⟨ao', c', e, _, hne, hsl⟩ := Sl.of_owns ho1 (fun x hx => by have := List.eq_nil_of_length_eq_zero hl.out; subst this; simp [part] at hx)
      cases e
      have e0 : part zs 0 = zs := by have := List.eq_nil_of_length_eq_zero hl.out; subst this; rfl
      rw [e0] at hsl
      exact ⟨_, rfl, fun _ => rfl, hsl, hb2⟩
    · go_enter Try.func8, Try.ntmps8
      go_wp2_with (at_make; refine wpList_make_full _ rfl _ _ 22 rfl w.heap.size 5 i0 (.int .u8 0) 1 Try.underlying22 hi hz0 hz1 _ _ _ _ n rfl rfl rfl rfl hb1 (by unfold maxLen; omega) (Nat.le_refl _) ?_)
      intro w1 ho hg
      have ho1 := hown0 w1 ho
      have hb2 := (Below.refl w.heap.size w).grown hg (Nat.le_refl _) (fun k hk => by cases hk)
      clear ho hg hown0 hi hz0 hz1 hz2 hb1 hnilr
      go_wp2
      go_loopw [4] (fun i wr => ∃ k : Nat, k ≤ n ∧ i = .int .i64 k ∧ wr.ownsRow w.heap.size 5 1 (.slice (some ⟨w.heap.size, 0, none⟩) n n) n (vals (part zs k)) ∧ Below w.heap.size w wr) (fun i _ => n - (intOf i).toNat)
      case atStart => exact ⟨0, Nat.zero_le _, rfl, ho1, hb2⟩
      case round =>
        obtain ⟨k, hk, rfl, hown, hbel⟩ := hrel
        clear ho1 hb2
        by_cases hlt : k < n
        · obtain ⟨x, hx⟩ : ∃ x, x = zs.getD k 0 := ⟨_, rfl⟩
          have hck : wr.cell? ⟨b, off + k, none⟩ = some (.int .u8 x) := by rw [hx]; exact (hbel.cell (by exact hb)).trans (hc k hlt)
          have hlt' : (k : Int) < (n : Int) := by omega
          have hst := hown.stored k (.int .u8 x)
          have hfz := hown.frozenAt k
          obtain ⟨y, hy⟩ : ∃ y, wr.cell? ⟨w.heap.size, k, none⟩ = some (.int .u8 y) := by
            rw [hown.cellAt k (by omega)]
            exact ⟨_, vals_get _ k (by rw [part_length _ _ (by rw [hl.out]; exact hk), hl.out]; exact hlt)⟩
          have hset : (vals (part zs k)).set k (.int .u8 x) = vals (part zs (k + 1)) := by rw [hx]; exact part_set zs k (by rw [hl.out]; exact hlt)
          rw [hset] at hst
          have hbel' : Below w.heap.size w (wr.setCell ⟨w.heap.size, k, none⟩ (.int .u8 x)) := hbel.setCell (Nat.le_refl _) _
          clear hset hx hown
          go_wp2
          go_roundw
          case rel => exact ⟨k + 1, by omega, by go_num, hst.1, hbel'⟩
          case measure => simp [intOf]; omega
        · go_wp2
          go_ret
          have hkn : k = zs.length := by rw [hl.out]; omega
          subst hkn
          rw [part_all] at hown
          obtain ⟨ao', c', e, _, hne, hsl⟩ := Sl.of_owns hown hr.out
          cases e
          exact ⟨_, rfl, (fun e => by cases e), hsl, hbel⟩
end Go.Proofs.Qxb6603387a.Hp
