/-
  THE WALK OF hexprefix.Append (10). By an AI agent.
-/
import Derived.Test.Qxb6603387aClone
import Derived.Deep.RegionHeld3
import Derived.Deep.AppendLies
namespace Go.Proofs.Qxb6603387a.Hp
open Go.RowKit

/-- What hexprefix.Append leaves: the bytes 'out', in memory of its own. -/
def AppEnd (w : World) (out : List Int) (e : Ending) (w' : World) : Prop :=
  ∃ g c, e = .returned (.slice (some ⟨g, 0, none⟩) out.length c) ∧ out.length ≤ c ∧ c ≤ maxLen ∧ w.heap.size ≤ g ∧ Sl w' (some ⟨g, 0, none⟩) out.length out ∧ Below w.heap.size w w'

theorem Sl.olds {w : World} {ao : Option Addr} {n : Nat} {zs : List Int} (h : Sl w ao n zs) (o : Obj) :
    ∀ b, ao = some b → ∀ j u, (vals zs)[j]? = some u → (w.alloc o).cell? (b.add j) = some u := by
  intro b hb j u hu
  have hj : j < zs.length := by
    have := (List.getElem?_eq_some_iff.1 hu).1
    rwa [vals_length] at this
  rcases h.cells with h0 | ⟨b', off, e, hlt, hc⟩
  · have := h.len; omega
  · rw [e] at hb
    cases hb
    rw [Addr.add_lit]
    have hcj := hc j (by rw [← h.len]; exact hj)
    rw [vals_get zs j hj] at hu
    rw [← hu]
    exact ((Below.refl w.heap.size w).alloc (Nat.le_refl _) o).cell (p := ⟨b', off + j, none⟩) hlt |>.trans hcj

/-! ### Bits -/
theorem or_fin : ∀ x y : Fin 16, bits BinOp.or IntKind.u8 ((x.val : Int) * 16) (y.val : Int) = (x.val : Int) * 16 + (y.val : Int) := by decide +kernel

theorem or_nib (x y : Int) (hx0 : 0 ≤ x) (hx1 : x ≤ 15) (hy0 : 0 ≤ y) (hy1 : y ≤ 15) : bits BinOp.or IntKind.u8 (x * 16) y = x * 16 + y := by
  have h := or_fin ⟨x.toNat, by omega⟩ ⟨y.toNat, by omega⟩
  simp only at h
  rwa [Int.toNat_of_nonneg hx0, Int.toNat_of_nonneg hy0] at h

/-- The loop's relation: behind k rounds (p: the counter). -/
def Lp (w : World) (n M : Nat) (pre q : List Int) (v i : Value) (wr : World) : Prop :=
  ∃ k p g cap : Nat, p = 2 * k ∧ p ≤ M ∧ i = .int .i64 (p : Int) ∧ v = .slice (some ⟨g, 0, none⟩) (n + k) cap ∧
    wr.ownsRow w.heap.size 5 1 (.slice (some ⟨g, 0, none⟩) (n + k) cap) (n + k) (vals (pre ++ pack (q.take p))) ∧ Below w.heap.size w wr

theorem Lp.start {w w1 : World} {n M : Nat} {pre q : List Int} {v : Value} {base : Nat} (hB : w.heap.size ≤ base) (h : w1.ownsRow base 5 1 v (n + 1) (vals pre)) (hb : Below w.heap.size w w1) : Lp w (n + 1) M pre q v (.int .i64 0) w1 := by
  obtain ⟨g, cap, rfl, hg, hlt⟩ := h.form (by omega)
  refine ⟨0, 0, g, cap, rfl, Nat.zero_le _, rfl, rfl, ?_, hb⟩
  simp only [List.take_zero, pack, List.append_nil, Nat.add_zero]
  refine ⟨h.1, ?_⟩
  rcases h.2 with hl | ⟨g, cap, cur, e, hbg, r⟩
  · exact .inl hl
  · exact .inr ⟨g, cap, cur, e, by omega, r⟩

theorem Lp.next {w wr w1 : World} {n M k p g cap gg cap' : Nat} {pre q : List Int} {x y : Int} (hp : p = 2 * k) (hpM : p + 1 < M) (hM : q.length = M) (he : M % 2 = 0) (hx : x = q.getD p 0) (hy : y = q.getD (p + 1) 0)
    (hbel : Below w.heap.size w wr) (hg : w.heap.size ≤ g) (o : Obj)
    (hown : w1.ownsRow w.heap.size 5 1 (.slice (some ⟨gg, 0, none⟩) (n + k + 1) cap') (n + k + 1) (vals (pre ++ pack (q.take p)) ++ [.int .u8 (x * 16 + y)]))
    (hgrow : (wr.alloc o).drew.grownBy w1 (Value.slice (some ⟨g, 0, none⟩) (n + k) cap).ownBlock) : Lp w n M pre q (.slice (some ⟨gg, 0, none⟩) (n + k + 1) cap') (.int .i64 ((p : Int) + 2)) w1 := by
  refine ⟨k + 1, p + 2, gg, cap', by omega, by omega, by simp, rfl, ?_, ?_⟩
  · have e : vals (pre ++ pack (q.take (p + 2))) = vals (pre ++ pack (q.take p)) ++ [.int .u8 (x * 16 + y)] := by
      rw [hp, pack_take q k (by omega), hx, hy, hp]
      simp [vals]
    rw [e]
    exact hown
  · exact ((hbel.alloc hbel.size o).drew).grown hgrow (by have := hbel.size; simp; omega) (fun j hj => by simp [Value.ownBlock] at hj; omega)

theorem App.done {w wr : World} {N g cap : Nat} {out : List Int} (hr : ∀ x ∈ out, 0 ≤ x ∧ x ≤ 255) (hown : wr.ownsRow w.heap.size 5 1 (.slice (some ⟨g, 0, none⟩) N cap) N (vals out)) (hbel : Below w.heap.size w wr) :
    AppEnd w out (.returned (.slice (some ⟨g, 0, none⟩) N cap)) wr := by
  have hN : out.length = N := by have := hown.1; rw [vals_length] at this; omega
  obtain ⟨ao, c, e, hnc, _, hsl⟩ := Sl.of_owns hown hr
  cases e
  rcases hown.2 with ⟨e, _⟩ | ⟨g', cap', cur, e, hb, hg, h1, h2, r⟩
  · simp at e
  · cases e
    subst hN
    exact ⟨g, cap, rfl, hnc, h2, hb, hsl, hbel⟩

theorem enc_odd0 (z : Int) (q : List Int) (h : (z :: q).length % 2 = 1) : enc (z :: q) false = (16 + z) :: pack q := by
  unfold enc fl
  rw [if_pos h, h]
  simp
theorem enc_odd1 (z : Int) (q : List Int) (h : (z :: q).length % 2 = 1) : enc (z :: q) true = (48 + z) :: pack q := by
  unfold enc fl
  rw [if_pos h, h]
  simp

theorem app_range {zs q : List Int} {l : Bool} (hz : ∀ x ∈ zs, 0 ≤ x ∧ x ≤ 255) (hq : Nib q) : ∀ x ∈ zs ++ enc q l, 0 ≤ x ∧ x ≤ 255 := by
  intro x hx
  rcases List.mem_append.1 hx with h | h
  · exact hz x h
  · exact enc_range q l hq x h

set_option maxHeartbeats 400000 in
theorem app_even0 (ao : Option Addr) (n : Nat) (zs : List Int) (b' off' M : Nat) (q : List Int) (w : World) (h : Sl w ao n zs) (hz : ao = none → n = 0)
    (hq : Nib q) (hl : q.length = M) (he : M % 2 = 0) (hM0 : 0 < M) (hb' : b' < w.heap.size) (hc' : ∀ i, i < M → w.cell? ⟨b', off' + i, none⟩ = some (.int .u8 (q.getD i 0)))
    (hn : n ≤ 1048576) (hm : M ≤ 1048576) :
    Calls Try.prog 10 #[.slice ao n n, .slice (some ⟨b', off', none⟩) M M, .bool false] w (AppEnd w (zs ++ enc q false)) := by
  obtain ⟨i0, hi, hz0, hz1, hz2⟩ := info_parts info5
  have hL : Hid (q.length = M) := hl
  have hZ : Hid (ao = none → n = 0 ∧ n = 0) := fun e => ⟨hz e, hz e⟩
  have hO : Hid (∀ o, ∀ b, ao = some b → ∀ j u, (vals zs)[j]? = some u → (w.alloc o).cell? (b.add j) = some u) := h.olds
  have hzl : Hid ((vals zs).length = n * 1) := by rw [Hid, vals_length, h.len, Nat.mul_one]
  have hR : Hid (∀ x ∈ zs ++ enc q false, 0 ≤ x ∧ x ≤ 255) := app_range h.rng hq
  have hqq : Hid (Nib q) := hq
  have hC : Hid (∀ i, i < M → w.cell? ⟨b', off' + i, none⟩ = some (.int .u8 (q.getD i 0))) := hc'
  have hOut : Hid (zs ++ [0] ++ pack q = zs ++ enc q false) := by
    have e' : q.length % 2 = 0 := by omega
    simp only [Hid, enc, fl, e']
    simp
  have hpar : (M : Int) % 2 = 0 := by omega
  have HE : Hid (M % 2 = 0) := he
  clear hl hz h hc' hq he
  go_enter Try.func10, Try.ntmps10
  go_wp2_with (at_builtin; refine wpList_append_grows _ rfl _ _ 22 rfl 5 i0 (.int .u8 0) 1 1 Try.underlying22 hi hz0 hz1 hz2 rfl (by decide) ao n n (vals zs) rfl hZ.out hzl.out (hO.out _) ⟨w.heap.size, 0, none⟩ 1 1 [.int .u8 0] rfl rfl (cell_one_new _ _ _) (by simp [Value.oneCell']) (by omega) (by unfold maxLen; omega) (by omega) ?_)
  intro v' w1 hown hgrow
  have hrel0 : Lp w (n + 1) M (zs ++ [0]) q v' (.int .i64 0) w1 := Lp.start (base := w.heap.size + 1) (by omega) (by simpa [vals] using hown) (((Below.refl w.heap.size w).alloc (Nat.le_refl _) _).grown hgrow (by simp) (fun k hk => by cases hk))
  clear hown hgrow hO hZ hzl hpar
  go_wp2
  go_loopw [0, 9] (fun v i wr => Lp w (n + 1) M (zs ++ [0]) q v i wr) (fun _ i _ => M - (intOf i).toNat)
  case atStart => exact hrel0
  case round =>
    obtain ⟨k, p, g, cap, hp, hk, rfl, rfl, hown, hbel⟩ := hrel
    have HP : Hid (p = 2 * k) := hp
    have hp2 : k + k ≤ p := by omega
    have hgb : w.heap.size ≤ g := by
      rcases hown.2 with ⟨e, _⟩ | ⟨g', cap', cur, e, hb, r⟩
      · simp at e
      · cases e; exact hb
    clear hrel0
    by_cases hlt : p < M
    · have hlt1 : p + 1 < M := by have := HE.out; omega
      clear hp
      obtain ⟨x, hx⟩ : ∃ x, x = q.getD p 0 := ⟨_, rfl⟩
      obtain ⟨y, hy⟩ : ∃ y, y = q.getD (p + 1) 0 := ⟨_, rfl⟩
      have hcx : wr.cell? ⟨b', off' + p, none⟩ = some (.int .u8 x) := by rw [hx]; exact (hbel.cell (by exact hb')).trans (hC.out p (by omega))
      have hcy : wr.cell? ⟨b', off' + (p + 1), none⟩ = some (.int .u8 y) := by rw [hy]; exact (hbel.cell (by exact hb')).trans (hC.out (p + 1) (by omega))
      have hx15 : 0 ≤ x ∧ x ≤ 15 := by rw [hx]; exact nib_getD q _ hqq.out
      have hy15 : 0 ≤ y ∧ y ≤ 15 := by rw [hy]; exact nib_getD q _ hqq.out
      obtain ⟨hx0, hx1⟩ := hx15
      obtain ⟨hy0, hy1⟩ := hy15
      have HX : Hid (x = q.getD p 0) := hx
      have HY : Hid (y = q.getD (p + 1) 0) := hy
      clear hx hy
      have hor := or_nib x y hx0 hx1 hy0 hy1
      have hwx : IntKind.u8.wrap (x * 16) = x * 16 := by rw [IntKind.wrap_u8]; omega
      have i0' : (0 : Int) ≤ (p : Int) := by omega
      have i1 : (p : Int) < (M : Int) := by omega
      have i2 : (0 : Int) ≤ (p : Int) + 1 := by omega
      have i3 : (p : Int) + 1 < (M : Int) := by omega
      have iw : IntKind.i64.wrap ((p : Int) + 1) = (p : Int) + 1 := IntWalk.i64_in _ (by omega)
      have it : ((p : Int) + 1).toNat = p + 1 := by omega
      have hsz := hbel.size
      go_wp2
      go_region_held3 (fun w' => w'.cell? ⟨b', off' + p, none⟩ = some (.int .u8 x) ∧ w'.cell? ⟨b', off' + (p + 1), none⟩ = some (.int .u8 y)) (first | go_keep | (refine ⟨?_, ?_⟩ <;> (rw [hgrow.cell_far _ (by simp; omega) (by simp [Value.ownBlock]; omega)]; go_keep))) ((refine step_append_lies _ (by rfl) _ _ _ (by rfl) w.heap.size 5 i0 _ 1 1 Try.underlying22 hi hz0 hz1 hz2 rfl (by omega) (.slice (some ⟨g, 0, none⟩) (n + 1 + k) cap) (n + 1 + k) (vals (zs ++ [0] ++ pack (q.take p))) (by rfl) ((hown.alloc _).drew) ⟨wr.heap.size, 0, none⟩ 1 1 [.int .u8 (x * 16 + y)] (by rfl) (by rfl) (World.news_of_block (cs := #[.int .u8 (x * 16 + y)]) (t := 5) (fr := (0, 0)) (heap_alloc_new wr _)) (by simp [Value.oneCell']) (by omega) (by unfold maxLen; omega) (by omega) (by simp; omega) (wr.heap.size + 1) (by simp) ?_; intro gg cap' w2 hown2 hgrow hat hgl))
      have R := Lp.next HP.out hlt1 hL.out HE.out HX.out HY.out hbel hgb _ hown2 hgrow
      clear hown2 hgrow hown
      go_wp2
      go_roundw
      case rel => exact R
      case measure => simp [intOf]; omega
    · clear hp
      go_wp2
      go_ret
      have e : q.take p = q := List.take_of_length_le (by rw [hL.out]; omega)
      rw [e, hOut.out] at hown
      exact App.done hR.out hown hbel

set_option maxHeartbeats 400000 in
theorem app_even1 (ao : Option Addr) (n : Nat) (zs : List Int) (b' off' M : Nat) (q : List Int) (w : World) (h : Sl w ao n zs) (hz : ao = none → n = 0)
    (hq : Nib q) (hl : q.length = M) (he : M % 2 = 0) (hM0 : 0 < M) (hb' : b' < w.heap.size) (hc' : ∀ i, i < M → w.cell? ⟨b', off' + i, none⟩ = some (.int .u8 (q.getD i 0)))
    (hn : n ≤ 1048576) (hm : M ≤ 1048576) :
    Calls Try.prog 10 #[.slice ao n n, .slice (some ⟨b', off', none⟩) M M, .bool true] w (AppEnd w (zs ++ enc q true)) := by
  obtain ⟨i0, hi, hz0, hz1, hz2⟩ := info_parts info5
  have hL : Hid (q.length = M) := hl
  have hZ : Hid (ao = none → n = 0 ∧ n = 0) := fun e => ⟨hz e, hz e⟩
  have hO : Hid (∀ o, ∀ b, ao = some b → ∀ j u, (vals zs)[j]? = some u → (w.alloc o).cell? (b.add j) = some u) := h.olds
  have hzl : Hid ((vals zs).length = n * 1) := by rw [Hid, vals_length, h.len, Nat.mul_one]
  have hR : Hid (∀ x ∈ zs ++ enc q true, 0 ≤ x ∧ x ≤ 255) := app_range h.rng hq
  have hqq : Hid (Nib q) := hq
  have hC : Hid (∀ i, i < M → w.cell? ⟨b', off' + i, none⟩ = some (.int .u8 (q.getD i 0))) := hc'
  have hOut : Hid (zs ++ [32] ++ pack q = zs ++ enc q true) := by
    have e' : q.length % 2 = 0 := by omega
    simp only [Hid, enc, fl, e']
    simp
  have hpar : (M : Int) % 2 = 0 := by omega
  have HE : Hid (M % 2 = 0) := he
  clear hl hz h hc' hq he
  go_enter Try.func10, Try.ntmps10
  go_wp2_with (at_builtin; refine wpList_append_grows _ rfl _ _ 22 rfl 5 i0 (.int .u8 0) 1 1 Try.underlying22 hi hz0 hz1 hz2 rfl (by decide) ao n n (vals zs) rfl hZ.out hzl.out (hO.out _) ⟨w.heap.size, 0, none⟩ 1 1 [.int .u8 32] rfl rfl (cell_one_new _ _ _) (by simp [Value.oneCell']) (by omega) (by unfold maxLen; omega) (by omega) ?_)
  intro v' w1 hown hgrow
  have hrel0 : Lp w (n + 1) M (zs ++ [32]) q v' (.int .i64 0) w1 := Lp.start (base := w.heap.size + 1) (by omega) (by simpa [vals] using hown) (((Below.refl w.heap.size w).alloc (Nat.le_refl _) _).grown hgrow (by simp) (fun k hk => by cases hk))
  clear hown hgrow hO hZ hzl hpar
  go_wp2
  go_loopw [0, 9] (fun v i wr => Lp w (n + 1) M (zs ++ [32]) q v i wr) (fun _ i _ => M - (intOf i).toNat)
  case atStart => exact hrel0
  case round =>
    obtain ⟨k, p, g, cap, hp, hk, rfl, rfl, hown, hbel⟩ := hrel
    have HP : Hid (p = 2 * k) := hp
    have hp2 : k + k ≤ p := by omega
    have hgb : w.heap.size ≤ g := by
      rcases hown.2 with ⟨e, _⟩ | ⟨g', cap', cur, e, hb, r⟩
      · simp at e
      · cases e; exact hb
    clear hrel0
    by_cases hlt : p < M
    · have hlt1 : p + 1 < M := by have := HE.out; omega
      clear hp
      obtain ⟨x, hx⟩ : ∃ x, x = q.getD p 0 := ⟨_, rfl⟩
      obtain ⟨y, hy⟩ : ∃ y, y = q.getD (p + 1) 0 := ⟨_, rfl⟩
      have hcx : wr.cell? ⟨b', off' + p, none⟩ = some (.int .u8 x) := by rw [hx]; exact (hbel.cell (by exact hb')).trans (hC.out p (by omega))
      have hcy : wr.cell? ⟨b', off' + (p + 1), none⟩ = some (.int .u8 y) := by rw [hy]; exact (hbel.cell (by exact hb')).trans (hC.out (p + 1) (by omega))
      have hx15 : 0 ≤ x ∧ x ≤ 15 := by rw [hx]; exact nib_getD q _ hqq.out
      have hy15 : 0 ≤ y ∧ y ≤ 15 := by rw [hy]; exact nib_getD q _ hqq.out
      obtain ⟨hx0, hx1⟩ := hx15
      obtain ⟨hy0, hy1⟩ := hy15
      have HX : Hid (x = q.getD p 0) := hx
      have HY : Hid (y = q.getD (p + 1) 0) := hy
      clear hx hy
      have hor := or_nib x y hx0 hx1 hy0 hy1
      have hwx : IntKind.u8.wrap (x * 16) = x * 16 := by rw [IntKind.wrap_u8]; omega
      have i0' : (0 : Int) ≤ (p : Int) := by omega
      have i1 : (p : Int) < (M : Int) := by omega
      have i2 : (0 : Int) ≤ (p : Int) + 1 := by omega
      have i3 : (p : Int) + 1 < (M : Int) := by omega
      have iw : IntKind.i64.wrap ((p : Int) + 1) = (p : Int) + 1 := IntWalk.i64_in _ (by omega)
      have it : ((p : Int) + 1).toNat = p + 1 := by omega
      have hsz := hbel.size
      go_wp2
      go_region_held3 (fun w' => w'.cell? ⟨b', off' + p, none⟩ = some (.int .u8 x) ∧ w'.cell? ⟨b', off' + (p + 1), none⟩ = some (.int .u8 y)) (first | go_keep | (refine ⟨?_, ?_⟩ <;> (rw [hgrow.cell_far _ (by simp; omega) (by simp [Value.ownBlock]; omega)]; go_keep))) ((refine step_append_lies _ (by rfl) _ _ _ (by rfl) w.heap.size 5 i0 _ 1 1 Try.underlying22 hi hz0 hz1 hz2 rfl (by omega) (.slice (some ⟨g, 0, none⟩) (n + 1 + k) cap) (n + 1 + k) (vals (zs ++ [32] ++ pack (q.take p))) (by rfl) ((hown.alloc _).drew) ⟨wr.heap.size, 0, none⟩ 1 1 [.int .u8 (x * 16 + y)] (by rfl) (by rfl) (World.news_of_block (cs := #[.int .u8 (x * 16 + y)]) (t := 5) (fr := (0, 0)) (heap_alloc_new wr _)) (by simp [Value.oneCell']) (by omega) (by unfold maxLen; omega) (by omega) (by simp; omega) (wr.heap.size + 1) (by simp) ?_; intro gg cap' w2 hown2 hgrow hat hgl))
      have R := Lp.next HP.out hlt1 hL.out HE.out HX.out HY.out hbel hgb _ hown2 hgrow
      clear hown2 hgrow hown
      go_wp2
      go_roundw
      case rel => exact R
      case measure => simp [intOf]; omega
    · clear hp
      go_wp2
      go_ret
      have e : q.take p = q := List.take_of_length_le (by rw [hL.out]; omega)
      rw [e, hOut.out] at hown
      exact App.done hR.out hown hbel

set_option maxHeartbeats 400000 in
theorem app_odd0 (ao : Option Addr) (n : Nat) (zs : List Int) (b' off' M : Nat) (q : List Int) (z : Int) (w : World) (h : Sl w ao n zs) (hz : ao = none → n = 0)
    (hq : Nib (z :: q)) (hl : q.length = M) (he : M % 2 = 0) (hM0 : 0 < M) (hb' : b' < w.heap.size) (hc' : ∀ i, i < (M + 1) → w.cell? ⟨b', off' + i, none⟩ = some (.int .u8 ((z :: q).getD i 0)))
    (hn : n ≤ 1048576) (hm : M ≤ 1048576) :
    Calls Try.prog 10 #[.slice ao n n, .slice (some ⟨b', off', none⟩) (M + 1) (M + 1), .bool false] w (AppEnd w (zs ++ enc (z :: q) false)) := by
  obtain ⟨i0, hi, hz0, hz1, hz2⟩ := info_parts info5
  have hL : Hid (q.length = M) := hl
  have hZ : Hid (ao = none → n = 0 ∧ n = 0) := fun e => ⟨hz e, hz e⟩
  have hO : Hid (∀ o, ∀ b, ao = some b → ∀ j u, (vals zs)[j]? = some u → (w.alloc o).cell? (b.add j) = some u) := h.olds
  have hzl : Hid ((vals zs).length = n * 1) := by rw [Hid, vals_length, h.len, Nat.mul_one]
  have hR : Hid (∀ x ∈ zs ++ enc (z :: q) false, 0 ≤ x ∧ x ≤ 255) := app_range h.rng hq
  have hqq : Hid (Nib q) := fun y hy => hq y (by simp [hy])
  have hzz := hq z (by simp)
  obtain ⟨hzz0, hzz1⟩ := hzz
  have hcz : w.cell? ⟨b', off', none⟩ = some (.int .u8 z) := by simpa using hc' 0 (by omega)
  have hC : Hid (∀ i, i < M → w.cell? ⟨b', off' + 1 + i, none⟩ = some (.int .u8 (q.getD i 0))) := fun i hi => by
    have := hc' (i + 1) (by omega)
    rw [show off' + 1 + i = off' + (i + 1) from by omega, this]
    simp
  have hor0 : bits BinOp.or IntKind.u8 16 z = 16 + z := by simpa using or_nib 1 z (by omega) (by omega) hzz0 hzz1
  have hOut : Hid (zs ++ [(16 + z)] ++ pack q = zs ++ enc (z :: q) false) := by
    rw [Hid, enc_odd0 z q (by simp; omega), List.append_assoc]
    rfl
  have hpar : ((M : Int) + 1) % 2 = 1 := by omega
  have HE : Hid (M % 2 = 0) := he
  clear hl hz h hc' hq he
  go_enter Try.func10, Try.ntmps10
  go_wp2_with (at_builtin; refine wpList_append_grows _ rfl _ _ 22 rfl 5 i0 (.int .u8 0) 1 1 Try.underlying22 hi hz0 hz1 hz2 rfl (by decide) ao n n (vals zs) rfl hZ.out hzl.out (hO.out _) ⟨w.heap.size, 0, none⟩ 1 1 [.int .u8 (16 + z)] rfl rfl (cell_one_new _ _ _) (by simp [Value.oneCell']) (by omega) (by unfold maxLen; omega) (by omega) ?_)
  intro v' w1 hown hgrow
  have hrel0 : Lp w (n + 1) M (zs ++ [(16 + z)]) q v' (.int .i64 0) w1 := Lp.start (base := w.heap.size + 1) (by omega) (by simpa [vals] using hown) (((Below.refl w.heap.size w).alloc (Nat.le_refl _) _).grown hgrow (by simp) (fun k hk => by cases hk))
  clear hown hgrow hO hZ hzl hpar hor0 hcz
  go_wp2
  go_loopw [0, 9] (fun v i wr => Lp w (n + 1) M (zs ++ [(16 + z)]) q v i wr) (fun _ i _ => M - (intOf i).toNat)
  case atStart => exact hrel0
  case round =>
    obtain ⟨k, p, g, cap, hp, hk, rfl, rfl, hown, hbel⟩ := hrel
    have HP : Hid (p = 2 * k) := hp
    have hp2 : k + k ≤ p := by omega
    have hgb : w.heap.size ≤ g := by
      rcases hown.2 with ⟨e, _⟩ | ⟨g', cap', cur, e, hb, r⟩
      · simp at e
      · cases e; exact hb
    clear hrel0
    by_cases hlt : p < M
    · have hlt1 : p + 1 < M := by have := HE.out; omega
      clear hp
      obtain ⟨x, hx⟩ : ∃ x, x = q.getD p 0 := ⟨_, rfl⟩
      obtain ⟨y, hy⟩ : ∃ y, y = q.getD (p + 1) 0 := ⟨_, rfl⟩
      have hcx : wr.cell? ⟨b', off' + 1 + p, none⟩ = some (.int .u8 x) := by rw [hx]; exact (hbel.cell (by exact hb')).trans (hC.out p (by omega))
      have hcy : wr.cell? ⟨b', off' + 1 + (p + 1), none⟩ = some (.int .u8 y) := by rw [hy]; exact (hbel.cell (by exact hb')).trans (hC.out (p + 1) (by omega))
      have hx15 : 0 ≤ x ∧ x ≤ 15 := by rw [hx]; exact nib_getD q _ hqq.out
      have hy15 : 0 ≤ y ∧ y ≤ 15 := by rw [hy]; exact nib_getD q _ hqq.out
      obtain ⟨hx0, hx1⟩ := hx15
      obtain ⟨hy0, hy1⟩ := hy15
      have HX : Hid (x = q.getD p 0) := hx
      have HY : Hid (y = q.getD (p + 1) 0) := hy
      clear hx hy
      have hor := or_nib x y hx0 hx1 hy0 hy1
      have hwx : IntKind.u8.wrap (x * 16) = x * 16 := by rw [IntKind.wrap_u8]; omega
      have i0' : (0 : Int) ≤ (p : Int) := by omega
      have i1 : (p : Int) < (M : Int) := by omega
      have i2 : (0 : Int) ≤ (p : Int) + 1 := by omega
      have i3 : (p : Int) + 1 < (M : Int) := by omega
      have iw : IntKind.i64.wrap ((p : Int) + 1) = (p : Int) + 1 := IntWalk.i64_in _ (by omega)
      have it : ((p : Int) + 1).toNat = p + 1 := by omega
      have hsz := hbel.size
      go_wp2
      go_region_held3 (fun w' => w'.cell? ⟨b', off' + 1 + p, none⟩ = some (.int .u8 x) ∧ w'.cell? ⟨b', off' + 1 + (p + 1), none⟩ = some (.int .u8 y)) (first | go_keep | (refine ⟨?_, ?_⟩ <;> (rw [hgrow.cell_far _ (by simp; omega) (by simp [Value.ownBlock]; omega)]; go_keep))) ((refine step_append_lies _ (by rfl) _ _ _ (by rfl) w.heap.size 5 i0 _ 1 1 Try.underlying22 hi hz0 hz1 hz2 rfl (by omega) (.slice (some ⟨g, 0, none⟩) (n + 1 + k) cap) (n + 1 + k) (vals (zs ++ [(16 + z)] ++ pack (q.take p))) (by rfl) ((hown.alloc _).drew) ⟨wr.heap.size, 0, none⟩ 1 1 [.int .u8 (x * 16 + y)] (by rfl) (by rfl) (World.news_of_block (cs := #[.int .u8 (x * 16 + y)]) (t := 5) (fr := (0, 0)) (heap_alloc_new wr _)) (by simp [Value.oneCell']) (by omega) (by unfold maxLen; omega) (by omega) (by simp; omega) (wr.heap.size + 1) (by simp) ?_; intro gg cap' w2 hown2 hgrow hat hgl))
      have R := Lp.next HP.out hlt1 hL.out HE.out HX.out HY.out hbel hgb _ hown2 hgrow
      clear hown2 hgrow hown
      go_wp2
      go_roundw
      case rel => exact R
      case measure => simp [intOf]; omega
    · clear hp
      go_wp2
      go_ret
      have e : q.take p = q := List.take_of_length_le (by rw [hL.out]; omega)
      rw [e, hOut.out] at hown
      exact App.done hR.out hown hbel

set_option maxHeartbeats 400000 in
theorem app_odd1 (ao : Option Addr) (n : Nat) (zs : List Int) (b' off' M : Nat) (q : List Int) (z : Int) (w : World) (h : Sl w ao n zs) (hz : ao = none → n = 0)
    (hq : Nib (z :: q)) (hl : q.length = M) (he : M % 2 = 0) (hM0 : 0 < M) (hb' : b' < w.heap.size) (hc' : ∀ i, i < (M + 1) → w.cell? ⟨b', off' + i, none⟩ = some (.int .u8 ((z :: q).getD i 0)))
    (hn : n ≤ 1048576) (hm : M ≤ 1048576) :
    Calls Try.prog 10 #[.slice ao n n, .slice (some ⟨b', off', none⟩) (M + 1) (M + 1), .bool true] w (AppEnd w (zs ++ enc (z :: q) true)) := by
  obtain ⟨i0, hi, hz0, hz1, hz2⟩ := info_parts info5
  have hL : Hid (q.length = M) := hl
  have hZ : Hid (ao = none → n = 0 ∧ n = 0) := fun e => ⟨hz e, hz e⟩
  have hO : Hid (∀ o, ∀ b, ao = some b → ∀ j u, (vals zs)[j]? = some u → (w.alloc o).cell? (b.add j) = some u) := h.olds
  have hzl : Hid ((vals zs).length = n * 1) := by rw [Hid, vals_length, h.len, Nat.mul_one]
  have hR : Hid (∀ x ∈ zs ++ enc (z :: q) true, 0 ≤ x ∧ x ≤ 255) := app_range h.rng hq
  have hqq : Hid (Nib q) := fun y hy => hq y (by simp [hy])
  have hzz := hq z (by simp)
  obtain ⟨hzz0, hzz1⟩ := hzz
  have hcz : w.cell? ⟨b', off', none⟩ = some (.int .u8 z) := by simpa using hc' 0 (by omega)
  have hC : Hid (∀ i, i < M → w.cell? ⟨b', off' + 1 + i, none⟩ = some (.int .u8 (q.getD i 0))) := fun i hi => by
    have := hc' (i + 1) (by omega)
    rw [show off' + 1 + i = off' + (i + 1) from by omega, this]
    simp
  have hor0 : bits BinOp.or IntKind.u8 48 z = 48 + z := by simpa using or_nib 3 z (by omega) (by omega) hzz0 hzz1
  have hOut : Hid (zs ++ [(48 + z)] ++ pack q = zs ++ enc (z :: q) true) := by
    rw [Hid, enc_odd1 z q (by simp; omega), List.append_assoc]
    rfl
  have hpar : ((M : Int) + 1) % 2 = 1 := by omega
  have HE : Hid (M % 2 = 0) := he
  clear hl hz h hc' hq he
  go_enter Try.func10, Try.ntmps10
  go_wp2_with (at_builtin; refine wpList_append_grows _ rfl _ _ 22 rfl 5 i0 (.int .u8 0) 1 1 Try.underlying22 hi hz0 hz1 hz2 rfl (by decide) ao n n (vals zs) rfl hZ.out hzl.out (hO.out _) ⟨w.heap.size, 0, none⟩ 1 1 [.int .u8 (48 + z)] rfl rfl (cell_one_new _ _ _) (by simp [Value.oneCell']) (by omega) (by unfold maxLen; omega) (by omega) ?_)
  intro v' w1 hown hgrow
  have hrel0 : Lp w (n + 1) M (zs ++ [(48 + z)]) q v' (.int .i64 0) w1 := Lp.start (base := w.heap.size + 1) (by omega) (by simpa [vals] using hown) (((Below.refl w.heap.size w).alloc (Nat.le_refl _) _).grown hgrow (by simp) (fun k hk => by cases hk))
  clear hown hgrow hO hZ hzl hpar hor0 hcz
  go_wp2
  go_loopw [0, 9] (fun v i wr => Lp w (n + 1) M (zs ++ [(48 + z)]) q v i wr) (fun _ i _ => M - (intOf i).toNat)
  case atStart => exact hrel0
  case round =>
    obtain ⟨k, p, g, cap, hp, hk, rfl, rfl, hown, hbel⟩ := hrel
    have HP : Hid (p = 2 * k) := hp
    have hp2 : k + k ≤ p := by omega
    have hgb : w.heap.size ≤ g := by
      rcases hown.2 with ⟨e, _⟩ | ⟨g', cap', cur, e, hb, r⟩
      · simp at e
      · cases e; exact hb
    clear hrel0
    by_cases hlt : p < M
    · have hlt1 : p + 1 < M := by have := HE.out; omega
      clear hp
      obtain ⟨x, hx⟩ : ∃ x, x = q.getD p 0 := ⟨_, rfl⟩
      obtain ⟨y, hy⟩ : ∃ y, y = q.getD (p + 1) 0 := ⟨_, rfl⟩
      have hcx : wr.cell? ⟨b', off' + 1 + p, none⟩ = some (.int .u8 x) := by rw [hx]; exact (hbel.cell (by exact hb')).trans (hC.out p (by omega))
      have hcy : wr.cell? ⟨b', off' + 1 + (p + 1), none⟩ = some (.int .u8 y) := by rw [hy]; exact (hbel.cell (by exact hb')).trans (hC.out (p + 1) (by omega))
      have hx15 : 0 ≤ x ∧ x ≤ 15 := by rw [hx]; exact nib_getD q _ hqq.out
      have hy15 : 0 ≤ y ∧ y ≤ 15 := by rw [hy]; exact nib_getD q _ hqq.out
      obtain ⟨hx0, hx1⟩ := hx15
      obtain ⟨hy0, hy1⟩ := hy15
      have HX : Hid (x = q.getD p 0) := hx
      have HY : Hid (y = q.getD (p + 1) 0) := hy
      clear hx hy
      have hor := or_nib x y hx0 hx1 hy0 hy1
      have hwx : IntKind.u8.wrap (x * 16) = x * 16 := by rw [IntKind.wrap_u8]; omega
      have i0' : (0 : Int) ≤ (p : Int) := by omega
      have i1 : (p : Int) < (M : Int) := by omega
      have i2 : (0 : Int) ≤ (p : Int) + 1 := by omega
      have i3 : (p : Int) + 1 < (M : Int) := by omega
      have iw : IntKind.i64.wrap ((p : Int) + 1) = (p : Int) + 1 := IntWalk.i64_in _ (by omega)
      have it : ((p : Int) + 1).toNat = p + 1 := by omega
      have hsz := hbel.size
      go_wp2
      go_region_held3 (fun w' => w'.cell? ⟨b', off' + 1 + p, none⟩ = some (.int .u8 x) ∧ w'.cell? ⟨b', off' + 1 + (p + 1), none⟩ = some (.int .u8 y)) (first | go_keep | (refine ⟨?_, ?_⟩ <;> (rw [hgrow.cell_far _ (by simp; omega) (by simp [Value.ownBlock]; omega)]; go_keep))) ((refine step_append_lies _ (by rfl) _ _ _ (by rfl) w.heap.size 5 i0 _ 1 1 Try.underlying22 hi hz0 hz1 hz2 rfl (by omega) (.slice (some ⟨g, 0, none⟩) (n + 1 + k) cap) (n + 1 + k) (vals (zs ++ [(48 + z)] ++ pack (q.take p))) (by rfl) ((hown.alloc _).drew) ⟨wr.heap.size, 0, none⟩ 1 1 [.int .u8 (x * 16 + y)] (by rfl) (by rfl) (World.news_of_block (cs := #[.int .u8 (x * 16 + y)]) (t := 5) (fr := (0, 0)) (heap_alloc_new wr _)) (by simp [Value.oneCell']) (by omega) (by unfold maxLen; omega) (by omega) (by simp; omega) (wr.heap.size + 1) (by simp) ?_; intro gg cap' w2 hown2 hgrow hat hgl))
      have R := Lp.next HP.out hlt1 hL.out HE.out HX.out HY.out hbel hgb _ hown2 hgrow
      clear hown2 hgrow hown
      go_wp2
      go_roundw
      case rel => exact R
      case measure => simp [intOf]; omega
    · clear hp
      go_wp2
      go_ret
      have e : q.take p = q := List.take_of_length_le (by rw [hL.out]; omega)
      rw [e, hOut.out] at hown
      exact App.done hR.out hown hbel

set_option maxHeartbeats 400000 in
theorem app_nil0 (ao : Option Addr) (n : Nat) (zs : List Int) (ao' : Option Addr) (w : World) (h : Sl w ao n zs) (hz : ao = none → n = 0) (hn : n ≤ 1048576) :
    Calls Try.prog 10 #[.slice ao n n, .slice ao' 0 0, .bool false] w (AppEnd w (zs ++ enc [] false)) := by
  obtain ⟨i0, hi, hz0, hz1, hz2⟩ := info_parts info5
  have hZ : Hid (ao = none → n = 0 ∧ n = 0) := fun e => ⟨hz e, hz e⟩
  have hO : Hid (∀ o, ∀ b, ao = some b → ∀ j u, (vals zs)[j]? = some u → (w.alloc o).cell? (b.add j) = some u) := h.olds
  have hzl : Hid ((vals zs).length = n * 1) := by rw [Hid, vals_length, h.len, Nat.mul_one]
  have hR : Hid (∀ x ∈ zs ++ enc [] false, 0 ≤ x ∧ x ≤ 255) := app_range h.rng (fun x hx => by simp at hx)
  have hOut : Hid (zs ++ [0] = zs ++ enc [] false) := by
    simp [Hid, enc, fl, pack]
  clear hz h
  go_enter Try.func10, Try.ntmps10
  go_wp2_with (at_builtin; refine wpList_append_grows _ rfl _ _ 22 rfl 5 i0 (.int .u8 0) 1 1 Try.underlying22 hi hz0 hz1 hz2 rfl (by decide) ao n n (vals zs) rfl hZ.out hzl.out (hO.out _) ⟨w.heap.size, 0, none⟩ 1 1 [.int .u8 0] rfl rfl (cell_one_new _ _ _) (by simp [Value.oneCell']) (by omega) (by unfold maxLen; omega) (by omega) ?_)
  intro v' w1 hown hgrow
  have hrel0 : Lp w (n + 1) 0 (zs ++ [0]) [] v' (.int .i64 0) w1 := Lp.start (base := w.heap.size + 1) (by omega) (by simpa [vals] using hown) (((Below.refl w.heap.size w).alloc (Nat.le_refl _) _).grown hgrow (by simp) (fun k hk => by cases hk))
  obtain ⟨k, p, g, cap, hp, hk, e0, hv, hown1, hbel⟩ := hrel0
  obtain rfl : p = 0 := by omega
  obtain rfl : k = 0 := by omega
  simp only [List.take_nil, pack, List.append_nil] at hown1
  rw [hOut.out] at hown1
  have HV : Hid (v' = .slice (some ⟨g, 0, none⟩) (n + 1 + 0) cap) := hv
  clear hown hgrow hO hZ hzl hp hk e0 hv
  go_wp2
  refine wp_loop_rounds 1 ?_
  rw [rounds_succ]
  go_wp2
  go_ret
  have e1 : AppEnd w (zs ++ enc [] false) (.returned v') w1 := by rw [HV.out]; exact App.done hR.out hown1 hbel
  exact e1

set_option maxHeartbeats 400000 in
theorem app_nil1 (ao : Option Addr) (n : Nat) (zs : List Int) (ao' : Option Addr) (w : World) (h : Sl w ao n zs) (hz : ao = none → n = 0) (hn : n ≤ 1048576) :
    Calls Try.prog 10 #[.slice ao n n, .slice ao' 0 0, .bool true] w (AppEnd w (zs ++ enc [] true)) := by
  obtain ⟨i0, hi, hz0, hz1, hz2⟩ := info_parts info5
  have hZ : Hid (ao = none → n = 0 ∧ n = 0) := fun e => ⟨hz e, hz e⟩
  have hO : Hid (∀ o, ∀ b, ao = some b → ∀ j u, (vals zs)[j]? = some u → (w.alloc o).cell? (b.add j) = some u) := h.olds
  have hzl : Hid ((vals zs).length = n * 1) := by rw [Hid, vals_length, h.len, Nat.mul_one]
  have hR : Hid (∀ x ∈ zs ++ enc [] true, 0 ≤ x ∧ x ≤ 255) := app_range h.rng (fun x hx => by simp at hx)
  have hOut : Hid (zs ++ [32] = zs ++ enc [] true) := by
    simp [Hid, enc, fl, pack]
  clear hz h
  go_enter Try.func10, Try.ntmps10
  go_wp2_with (at_builtin; refine wpList_append_grows _ rfl _ _ 22 rfl 5 i0 (.int .u8 0) 1 1 Try.underlying22 hi hz0 hz1 hz2 rfl (by decide) ao n n (vals zs) rfl hZ.out hzl.out (hO.out _) ⟨w.heap.size, 0, none⟩ 1 1 [.int .u8 32] rfl rfl (cell_one_new _ _ _) (by simp [Value.oneCell']) (by omega) (by unfold maxLen; omega) (by omega) ?_)
  intro v' w1 hown hgrow
  have hrel0 : Lp w (n + 1) 0 (zs ++ [32]) [] v' (.int .i64 0) w1 := Lp.start (base := w.heap.size + 1) (by omega) (by simpa [vals] using hown) (((Below.refl w.heap.size w).alloc (Nat.le_refl _) _).grown hgrow (by simp) (fun k hk => by cases hk))
  obtain ⟨k, p, g, cap, hp, hk, e0, hv, hown1, hbel⟩ := hrel0
  obtain rfl : p = 0 := by omega
  obtain rfl : k = 0 := by omega
  simp only [List.take_nil, pack, List.append_nil] at hown1
  rw [hOut.out] at hown1
  have HV : Hid (v' = .slice (some ⟨g, 0, none⟩) (n + 1 + 0) cap) := hv
  clear hown hgrow hO hZ hzl hp hk e0 hv
  go_wp2
  refine wp_loop_rounds 1 ?_
  rw [rounds_succ]
  go_wp2
  go_ret
  have e1 : AppEnd w (zs ++ enc [] true) (.returned v') w1 := by rw [HV.out]; exact App.done hR.out hown1 hbel
  exact e1

set_option maxHeartbeats 400000 in
theorem app_one0 (ao : Option Addr) (n : Nat) (zs : List Int) (b' off' : Nat) (z : Int) (w : World) (h : Sl w ao n zs) (hz : ao = none → n = 0) (hq : Nib [z]) (hcz : w.cell? ⟨b', off', none⟩ = some (.int .u8 z)) (hn : n ≤ 1048576) :
    Calls Try.prog 10 #[.slice ao n n, .slice (some ⟨b', off', none⟩) 1 1, .bool false] w (AppEnd w (zs ++ enc [z] false)) := by
  obtain ⟨i0, hi, hz0, hz1, hz2⟩ := info_parts info5
  have hZ : Hid (ao = none → n = 0 ∧ n = 0) := fun e => ⟨hz e, hz e⟩
  have hO : Hid (∀ o, ∀ b, ao = some b → ∀ j u, (vals zs)[j]? = some u → (w.alloc o).cell? (b.add j) = some u) := h.olds
  have hzl : Hid ((vals zs).length = n * 1) := by rw [Hid, vals_length, h.len, Nat.mul_one]
  have hR : Hid (∀ x ∈ zs ++ enc [z] false, 0 ≤ x ∧ x ≤ 255) := app_range h.rng hq
  have hOut : Hid (zs ++ [(16 + z)] = zs ++ enc [z] false) := by
    simp [Hid, enc, fl, pack]
  have hzz := hq z (by simp)
  obtain ⟨hzz0, hzz1⟩ := hzz
  have hor0 : bits BinOp.or IntKind.u8 16 z = 16 + z := by simpa using or_nib 1 z (by omega) (by omega) hzz0 hzz1
  clear hz h hq
  go_enter Try.func10, Try.ntmps10
  go_wp2_with (at_builtin; refine wpList_append_grows _ rfl _ _ 22 rfl 5 i0 (.int .u8 0) 1 1 Try.underlying22 hi hz0 hz1 hz2 rfl (by decide) ao n n (vals zs) rfl hZ.out hzl.out (hO.out _) ⟨w.heap.size, 0, none⟩ 1 1 [.int .u8 (16 + z)] rfl rfl (cell_one_new _ _ _) (by simp [Value.oneCell']) (by omega) (by unfold maxLen; omega) (by omega) ?_)
  intro v' w1 hown hgrow
  have hrel0 : Lp w (n + 1) 0 (zs ++ [(16 + z)]) [] v' (.int .i64 0) w1 := Lp.start (base := w.heap.size + 1) (by omega) (by simpa [vals] using hown) (((Below.refl w.heap.size w).alloc (Nat.le_refl _) _).grown hgrow (by simp) (fun k hk => by cases hk))
  obtain ⟨k, p, g, cap, hp, hk, e0, hv, hown1, hbel⟩ := hrel0
  obtain rfl : p = 0 := by omega
  obtain rfl : k = 0 := by omega
  simp only [List.take_nil, pack, List.append_nil] at hown1
  rw [hOut.out] at hown1
  have HV : Hid (v' = .slice (some ⟨g, 0, none⟩) (n + 1 + 0) cap) := hv
  clear hown hgrow hO hZ hzl hp hk e0 hv hor0 hcz
  go_wp2
  refine wp_loop_rounds 1 ?_
  rw [rounds_succ]
  go_wp2
  go_ret
  have e1 : AppEnd w (zs ++ enc [z] false) (.returned v') w1 := by rw [HV.out]; exact App.done hR.out hown1 hbel
  exact e1

set_option maxHeartbeats 400000 in
theorem app_one1 (ao : Option Addr) (n : Nat) (zs : List Int) (b' off' : Nat) (z : Int) (w : World) (h : Sl w ao n zs) (hz : ao = none → n = 0) (hq : Nib [z]) (hcz : w.cell? ⟨b', off', none⟩ = some (.int .u8 z)) (hn : n ≤ 1048576) :
    Calls Try.prog 10 #[.slice ao n n, .slice (some ⟨b', off', none⟩) 1 1, .bool true] w (AppEnd w (zs ++ enc [z] true)) := by
  obtain ⟨i0, hi, hz0, hz1, hz2⟩ := info_parts info5
  have hZ : Hid (ao = none → n = 0 ∧ n = 0) := fun e => ⟨hz e, hz e⟩
  have hO : Hid (∀ o, ∀ b, ao = some b → ∀ j u, (vals zs)[j]? = some u → (w.alloc o).cell? (b.add j) = some u) := h.olds
  have hzl : Hid ((vals zs).length = n * 1) := by rw [Hid, vals_length, h.len, Nat.mul_one]
  have hR : Hid (∀ x ∈ zs ++ enc [z] true, 0 ≤ x ∧ x ≤ 255) := app_range h.rng hq
  have hOut : Hid (zs ++ [(48 + z)] = zs ++ enc [z] true) := by
    simp [Hid, enc, fl, pack]
  have hzz := hq z (by simp)
  obtain ⟨hzz0, hzz1⟩ := hzz
  have hor0 : bits BinOp.or IntKind.u8 48 z = 48 + z := by simpa using or_nib 3 z (by omega) (by omega) hzz0 hzz1
  clear hz h hq
  go_enter Try.func10, Try.ntmps10
  go_wp2_with (at_builtin; refine wpList_append_grows _ rfl _ _ 22 rfl 5 i0 (.int .u8 0) 1 1 Try.underlying22 hi hz0 hz1 hz2 rfl (by decide) ao n n (vals zs) rfl hZ.out hzl.out (hO.out _) ⟨w.heap.size, 0, none⟩ 1 1 [.int .u8 (48 + z)] rfl rfl (cell_one_new _ _ _) (by simp [Value.oneCell']) (by omega) (by unfold maxLen; omega) (by omega) ?_)
  intro v' w1 hown hgrow
  have hrel0 : Lp w (n + 1) 0 (zs ++ [(48 + z)]) [] v' (.int .i64 0) w1 := Lp.start (base := w.heap.size + 1) (by omega) (by simpa [vals] using hown) (((Below.refl w.heap.size w).alloc (Nat.le_refl _) _).grown hgrow (by simp) (fun k hk => by cases hk))
  obtain ⟨k, p, g, cap, hp, hk, e0, hv, hown1, hbel⟩ := hrel0
  obtain rfl : p = 0 := by omega
  obtain rfl : k = 0 := by omega
  simp only [List.take_nil, pack, List.append_nil] at hown1
  rw [hOut.out] at hown1
  have HV : Hid (v' = .slice (some ⟨g, 0, none⟩) (n + 1 + 0) cap) := hv
  clear hown hgrow hO hZ hzl hp hk e0 hv hor0 hcz
  go_wp2
  refine wp_loop_rounds 1 ?_
  rw [rounds_succ]
  go_wp2
  go_ret
  have e1 : AppEnd w (zs ++ enc [z] true) (.returned v') w1 := by rw [HV.out]; exact App.done hR.out hown1 hbel
  exact e1

/-- hexprefix.Append, its two slices full (capacity = length), whatever they hold. -/
theorem app_any (ao : Option Addr) (n : Nat) (zs : List Int) (ao' : Option Addr) (n' : Nat) (ps : List Int) (leaf : Bool) (w : World) (h : Sl w ao n zs) (hz : ao = none → n = 0)
    (h' : Sl w ao' n' ps) (hp : Nib ps) (hn : n ≤ 1048576) (hn' : n' ≤ 1048576) :
    Calls Try.prog 10 #[.slice ao n n, .slice ao' n' n', .bool leaf] w (AppEnd w (zs ++ enc ps leaf)) := by
  have hl := h'.len
  by_cases h0 : n' = 0
  · subst h0
    obtain rfl : ps = [] := List.eq_nil_of_length_eq_zero hl
    cases leaf
    · exact app_nil0 ao n zs ao' w h hz hn
    · exact app_nil1 ao n zs ao' w h hz hn
  rcases h'.cells with e | ⟨b', off', rfl, hb', hc'⟩
  · exact absurd e h0
  by_cases hodd : n' % 2 = 1
  · obtain ⟨z, q, rfl⟩ := odd_cons ps (by omega)
    obtain ⟨M, rfl⟩ : ∃ M, n' = M + 1 := ⟨n' - 1, by omega⟩
    have hq : q.length = M := by simpa using hl
    by_cases hM : M = 0
    · subst hM
      obtain rfl : q = [] := List.eq_nil_of_length_eq_zero hq
      have hcz : w.cell? ⟨b', off', none⟩ = some (.int .u8 z) := by simpa using hc' 0 (by omega)
      cases leaf
      · exact app_one0 ao n zs b' off' z w h hz hp hcz hn
      · exact app_one1 ao n zs b' off' z w h hz hp hcz hn
    · cases leaf
      · exact app_odd0 ao n zs b' off' M q z w h hz hp hq (by omega) (by omega) hb' hc' hn (by omega)
      · exact app_odd1 ao n zs b' off' M q z w h hz hp hq (by omega) (by omega) hb' hc' hn (by omega)
  · cases leaf
    · exact app_even0 ao n zs b' off' n' ps w h hz hp hl (by omega) (by omega) hb' hc' hn hn'
    · exact app_even1 ao n zs b' off' n' ps w h hz hp hl (by omega) (by omega) hb' hc' hn hn'
end Go.Proofs.Qxb6603387a.Hp
