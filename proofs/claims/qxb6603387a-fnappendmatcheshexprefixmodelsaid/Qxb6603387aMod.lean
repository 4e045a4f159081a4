/-
  THE WALK OF hpb1Model (9). By an AI agent.
-/
import Derived.Test.Qxb6603387aApp
namespace Go.Proofs.Qxb6603387a.Hp
open Go.RowKit

/-- A row that the call fills within its capacity: g: its block, N: its length, C: its capacity. -/
def Fill (w : World) (g C N : Nat) (xs : List Int) (v : Value) (wr : World) : Prop :=
  v = .slice (some ⟨g, 0, none⟩) N C ∧ xs.length = N ∧ wr.ownsRow g 5 1 (.slice (some ⟨g, 0, none⟩) N C) N (vals xs) ∧ Below g w wr ∧ g < wr.heap.size

theorem Fill.next {w wr w1 : World} {g C N : Nat} {xs : List Int} {v : Value} {x : Int} (h : Fill w g C N xs v wr) (o : Obj)
    (hown : w1.ownsRow g 5 1 (.slice (some ⟨g, 0, none⟩) (N + 1) C) (N + 1) (vals xs ++ [.int .u8 x])) (hg : (wr.alloc o).grownBy w1 (some g)) :
    Fill w g C (N + 1) (xs ++ [x]) (.slice (some ⟨g, 0, none⟩) (N + 1) C) w1 := by
  obtain ⟨_, hl, _, hb, hlt⟩ := h
  refine ⟨rfl, by simp [hl], ?_, (hb.alloc (by omega) o).grown hg (by simp; omega) (fun k hk => by cases hk; exact Nat.le_refl _), Nat.lt_of_lt_of_le (by simp; omega) hg.size⟩
  have e : vals (xs ++ [x]) = vals xs ++ [.int .u8 x] := by simp [vals]
  rw [e]
  exact hown

theorem Fill.next_drew {w wr w1 : World} {g C N : Nat} {xs : List Int} {v : Value} {x : Int} (h : Fill w g C N xs v wr) (o : Obj)
    (hown : w1.ownsRow g 5 1 (.slice (some ⟨g, 0, none⟩) (N + 1) C) (N + 1) (vals xs ++ [.int .u8 x])) (hg : (wr.alloc o).drew.grownBy w1 (some g)) :
    Fill w g C (N + 1) (xs ++ [x]) (.slice (some ⟨g, 0, none⟩) (N + 1) C) w1 := by
  obtain ⟨_, hl, _, hb, hlt⟩ := h
  refine ⟨rfl, by simp [hl], ?_, ((hb.alloc (by omega) o).drew).grown hg (by simp; omega) (fun k hk => by cases hk; exact Nat.le_refl _), Nat.lt_of_lt_of_le (by simp; omega) hg.size⟩
  have e : vals (xs ++ [x]) = vals xs ++ [.int .u8 x] := by simp [vals]
  rw [e]
  exact hown

theorem owns_base {w : World} {b b' n : Nat} {v : Value} {xs : List Value} (h : w.ownsRow b 5 1 v n xs) (hb : b' ≤ b) : w.ownsRow b' 5 1 v n xs := by
  refine ⟨h.1, ?_⟩
  rcases h.2 with hl | ⟨g, cap, cur, e, hbg, r⟩
  · exact .inl hl
  · exact .inr ⟨g, cap, cur, e, by omega, r⟩

/-- 'append' within the capacity, at a step of a region that draws its order. -/
theorem step_fits {P : Program} {ops : Array Oper} {o : Oper} {a : Act} {w : World} {K : Act → World → Prop} {Q : Exit → Act → World → Prop} {E : Prop}
    (hg : o.guard = none) (s x : Operand) (t : TypeId) (hop : o.op = Op.call { callee := Callee.builtin Builtin.append, args := #[s, x], argTypes := #[t, t] })
    (base : Nat) (e : TypeId) (i : TypeInfo) (size : Nat) (h1 : P.underlying t = some (.slice e)) (h2 : P.info? e = some i) (h4 : i.size = size)
    (g k cap : Nat) (xs : List Value) (hs : a.eval s = .slice (some ⟨g, 0, none⟩) k cap) (hown : w.ownsRow base e size (.slice (some ⟨g, 0, none⟩) k cap) k xs) (ad : Addr) (m c : Nat) (news : List Value) (hx : a.eval x = .slice (some ad) m c) (hn : news.length = m * size)
    (hc : ∀ j u, news[j]? = some u → w.cell? (ad.add j) = some u) (h1c : ∀ u ∈ news, u.oneCell' = true) (b1 : k + m ≤ cap)
    (hK : ∀ w', w'.ownsRow base e size (.slice (some ⟨g, 0, none⟩) (k + m) cap) (k + m) (xs ++ news) → w.grownBy w' (some g) → K (a.put o.dst (.slice (some ⟨g, 0, none⟩) (k + m) cap)) w') :
    if Region.wanted o (yielded ops a.tmps) = true then Oper.wp P o a w K Q else E := by
  have hw : Region.wanted o (yielded ops a.tmps) = true := by simp [Region.wanted, hg]
  rw [if_pos hw]
  obtain ⟨w', hrun, r1, r2⟩ := run_append_fits (P := P) w base t o.type e i size h1 h2 h4 g k cap xs hown ad m c news hn hc h1c b1
  unfold Oper.wp
  simp [execOp, hop, resolve, invoke, builtin, hs, hx, hrun, Result.andThen]
  exact hK w' r1 r2

/-- The cells of a row that the call fills. -/
theorem Fill.cell {w wr : World} {g C N : Nat} {xs : List Int} {v : Value} (h : Fill w g C N xs v wr) (i : Nat) (hi : i < N) : wr.cell? ⟨g, i, none⟩ = some (.int .u8 (xs.getD i 0)) := by
  obtain ⟨_, hl, ho, _, _⟩ := h
  rw [ho.cellAt i (by omega)]
  exact vals_get xs i (by omega)

theorem Sl.pos {w : World} {ao : Option Addr} {n : Nat} {zs : List Int} (h : Sl w ao n zs) : 0 < n → ∃ b off, ao = some ⟨b, off, none⟩ ∧ b < w.heap.size ∧ ∀ i, i < n → w.cell? ⟨b, off + i, none⟩ = some (.int .u8 (zs.getD i 0)) := by
  intro h0
  rcases h.cells with e | r
  · omega
  · exact r

theorem take_next (zs : List Int) (k : Nat) (h : k < zs.length) : zs.take (k + 1) = zs.take k ++ [zs.getD k 0] := by
  rw [List.take_succ_eq_append_getElem h]
  simp [List.getD, h]

set_option maxHeartbeats 1000000 in
theorem mod_odd (a0 : Option Addr) (n0 c0 : Nat) (z0 : List Int) (a1 : Option Addr) (n1 c1 : Nat) (z1 : List Int) (leaf : Bool) (w : World) (h0 : Sl w a0 n0 z0) (h1 : Sl w a1 n1 z1) (hodd : n1 % 2 = 1)
    (hp : Nib z1) (hn0 : n0 ≤ 1048576) (hn1 : n1 ≤ 1048576) :
    Calls Try.prog 9 #[.slice a0 n0 c0, .slice a1 n1 c1, .bool leaf] w (AppEnd w (z0 ++ enc z1 leaf)) := by
  obtain ⟨i0, hi, hz0, hz1, hz2⟩ := info_parts info5
  have hpar : (n1 : Int) % 2 = 1 := by omega
  obtain ⟨F, hF⟩ : ∃ F, F = fl n1 leaf := ⟨_, rfl⟩
  have hodd' : true = decide (n1 % 2 = 1) := by simp [hodd]
  have HFL : ∀ w, Calls Try.prog 15 #[.bool true, .bool leaf] w fun e w' => e = .returned (.int .u8 F) ∧ w = w' := fun w => by
    rw [hF]
    exact (flag_any true leaf n1 hodd' w).mono fun e w' ⟨a, b⟩ => ⟨a, b.symm⟩
  obtain ⟨st, hst⟩ : ∃ st, st = [F] ++ z1 := ⟨_, rfl⟩
  have hst' : st = stream z1 leaf := by
    rw [hst, hF, ← h1.len]
    have e : z1.length % 2 = 1 := by rw [h1.len]; exact hodd
    simp [stream, e]
  have hsn : Hid (Nib st) := by rw [hst']; exact stream_nib z1 leaf hp
  have hsl : Hid (st.length = n1 + 1) := by rw [hst, List.length_append, h1.len]; simp [Hid]; omega
  have hse : Hid (st.length % 2 = 0) := by rw [hst']; exact (stream_length z1 leaf).1
  have hpk : Hid (pack st = enc z1 leaf) := by rw [hst']; exact pack_stream z1 leaf
  have HST : Hid ([F] ++ z1 = st) := hst.symm
  have H0 : Hid (0 < n0 → ∃ b off, a0 = some ⟨b, off, none⟩ ∧ b < w.heap.size ∧ ∀ i, i < n0 → w.cell? ⟨b, off + i, none⟩ = some (.int .u8 (z0.getD i 0))) := h0.pos
  have H1 : Hid (0 < n1 → ∃ b off, a1 = some ⟨b, off, none⟩ ∧ b < w.heap.size ∧ ∀ i, i < n1 → w.cell? ⟨b, off + i, none⟩ = some (.int .u8 (z1.getD i 0))) := h1.pos
  have HL0 : Hid (z0.length = n0) := h0.len
  have HL1 : Hid (z1.length = n1) := h1.len
  have HR : Hid (∀ x ∈ z0 ++ enc z1 leaf, 0 ≤ x ∧ x ≤ 255) := app_range h0.rng hp
  have HO : Hid (n1 % 2 = 1) := hodd
  clear hF hodd' hst hst' h0 h1 hp hodd
  have hb1 : i0.bytes * (n1 + 2) ≤ 281474976710656 := by rw [hz2]; omega
  go_enter Try.func9, Try.ntmps9
  go_wp2_with (at_make; refine wpList_make_own _ rfl _ _ 22 rfl w.heap.size 5 i0 (.int .u8 0) 1 Try.underlying22 hi hz0 hz1 _ _ _ (n1 + 2) rfl rfl (by omega) hb1 (by unfold maxLen; omega) (Nat.le_refl _) ?_)
  intro w1 hown0 hgrow0
  have hlt1 : w.heap.size < w1.heap.size := (hown0.lt w.heap.size rfl).2
  have hf0 : Fill w w.heap.size (n1 + 2) 0 [] (.slice (some ⟨w.heap.size, 0, none⟩) 0 (n1 + 2)) w1 :=
    ⟨rfl, rfl, hown0, (Below.refl w.heap.size w).grown hgrow0 (Nat.le_refl _) (fun k hk => by cases hk), hlt1⟩
  clear hgrow0 hb1
  go_wp2_with fail
  refine (HFL _).mono ?_
  rintro e w1' ⟨rfl, rfl⟩
  clear HFL
  go_wp2_with (at_builtin; refine wpList_append_fits _ rfl _ _ 22 rfl w.heap.size 5 i0 1 Try.underlying22 hi hz1 w.heap.size 0 (n1 + 2) (vals []) rfl (hown0.alloc _) ⟨w1.heap.size, 0, none⟩ 1 1 [.int .u8 F] rfl rfl (cell_one_new _ _ _) (by simp [Value.oneCell']) (by omega) ?_)
  intro w2 hown2 hgrow2
  have hf1 := hf0.next (x := F) _ (by simpa using hown2) hgrow2
  clear hown2 hgrow2 hown0 hf0 hlt1
  have hf : Fill w w.heap.size (n1 + 2) 1 [F] (.slice (some ⟨w.heap.size, 0, none⟩) 1 (n1 + 2)) w2 := by simpa using hf1
  obtain ⟨wb, hwb⟩ : ∃ wb : World, wb = w2 := ⟨_, rfl⟩
  subst hwb
  clear hf1
  go_wp2
  go_loopw [8, 9] (fun v i wr => ∃ k N : Nat, k ≤ n1 ∧ N = 1 + k ∧ i = .int .i64 k ∧ Fill w w.heap.size (n1 + 2) N ([F] ++ z1.take k) v wr) (fun _ i _ => n1 - (intOf i).toNat)
  case atStart => exact ⟨0, 1, Nat.zero_le _, rfl, rfl, hf⟩
  case round =>
    obtain ⟨k, N, hk, hN, rfl, hfl⟩ := hrel
    have HN : Hid (N = 1 + k) := hN
    have hNa : N ≤ 1 + k := by omega
    have hNb : 1 + k ≤ N := by omega
    obtain rfl := hfl.1
    clear hf hN
    by_cases hlt : k < n1
    · obtain ⟨b, off, rfl, hb, hc⟩ := H1.out (by omega)
      obtain ⟨x, hx⟩ : ∃ x, x = z1.getD k 0 := ⟨_, rfl⟩
      have hcx : wr.cell? ⟨b, off + k, none⟩ = some (.int .u8 x) := by rw [hx]; exact (hfl.2.2.2.1.cell (by exact hb)).trans (hc k hlt)
      have HX : Hid (x = z1.getD k 0) := hx
      have hown := hfl.2.2.1
      have HFl : Hid (Fill w w.heap.size (n1 + 2) N ([F] ++ z1.take k) (.slice (some ⟨w.heap.size, 0, none⟩) N (n1 + 2)) wr) := hfl
      clear hx hc H1 hfl
      go_wp2_with (at_builtin; refine wpList_append_fits _ rfl _ _ 22 rfl w.heap.size 5 i0 1 Try.underlying22 hi hz1 w.heap.size N (n1 + 2) (vals ([F] ++ z1.take k)) rfl (hown.alloc _) ⟨wr.heap.size, 0, none⟩ 1 1 [.int .u8 x] rfl rfl (cell_one_new _ _ _) (by simp [Value.oneCell']) (by omega) ?_)
      intro w3 hown3 hgrow3
      have R := HFl.out.next (x := x) _ hown3 hgrow3
      have R' : Fill w w.heap.size (n1 + 2) (N + 1) ([F] ++ z1.take (k + 1)) (.slice (some ⟨w.heap.size, 0, none⟩) (N + 1) (n1 + 2)) w3 := by
        rw [take_next z1 k (by rw [HL1.out]; exact hlt), ← HX.out, ← List.append_assoc]
        exact R
      clear R hown3 hgrow3 hown HFl hcx
      go_wp2
      go_roundw
      case rel => exact ⟨k + 1, N + 1, by omega, by have := HN.out; omega, by go_num, R'⟩
      case measure => simp [intOf]; omega
    · obtain ⟨wA, hwA⟩ : ∃ wA : World, wA = wr := ⟨_, rfl⟩
      subst hwA
      have eN : st.length = N := by rw [hsl.out]; have := HN.out; omega
      have HA : Hid (Fill w w.heap.size (n1 + 2) N st (.slice (some ⟨w.heap.size, 0, none⟩) N (n1 + 2)) wA) := by
        have e : z1.take k = z1 := List.take_of_length_le (by rw [HL1.out]; omega)
        rw [e, HST.out] at hfl
        exact hfl
      have HNE : Hid (N % 2 = 0) := by rw [Hid, ← eN]; exact hse.out
      have HEN : Hid (st.length = N) := eN
      have hNc : N ≤ 1048578 := by omega
      have hb2 : i0.bytes * (n0 + N / 2) ≤ 281474976710656 := by rw [hz2]; omega
      clear hfl eN H1 HN
      go_wp2_with (at_make; refine wpList_make_own _ rfl _ _ 22 rfl wA.heap.size 5 i0 (.int .u8 0) 1 Try.underlying22 hi hz0 hz1 _ _ _ (n0 + N / 2) rfl rfl (by omega) hb2 (by unfold maxLen; omega) (Nat.le_refl _) ?_)
      intro w4 hown4 hgrow4
      have hlt4 : wA.heap.size < w4.heap.size := (hown4.lt wA.heap.size rfl).2
      have hf4 : Fill wA wA.heap.size (n0 + N / 2) 0 [] (.slice (some ⟨wA.heap.size, 0, none⟩) 0 (n0 + N / 2)) w4 :=
        ⟨rfl, rfl, hown4, (Below.refl wA.heap.size wA).grown hgrow4 (Nat.le_refl _) (fun k hk => by cases hk), hlt4⟩
      clear hown4 hgrow4 hlt4 hb2
      go_wp2
      go_loopw [10, 11] (fun v i wr => ∃ k : Nat, k ≤ n0 ∧ i = .int .i64 k ∧ Fill wA wA.heap.size (n0 + N / 2) k (z0.take k) v wr) (fun _ i _ => n0 - (intOf i).toNat)
      case atStart => exact ⟨0, Nat.zero_le _, rfl, hf4⟩
      case round =>
        obtain ⟨k2, hk2, rfl, hfl2⟩ := hrel
        obtain rfl := hfl2.1
        clear hf4
        by_cases hlt2 : k2 < n0
        · obtain ⟨b, off, rfl, hb, hc⟩ := H0.out (by omega)
          obtain ⟨x, hx⟩ : ∃ x, x = z0.getD k2 0 := ⟨_, rfl⟩
          have hbA : b < wA.heap.size := Nat.lt_of_lt_of_le hb HA.out.2.2.2.1.size
          have hcx : wr.cell? ⟨b, off + k2, none⟩ = some (.int .u8 x) := by rw [hx]; exact (hfl2.2.2.2.1.cell (by exact hbA)).trans ((HA.out.2.2.2.1.cell (by exact hb)).trans (hc k2 hlt2))
          have HX : Hid (x = z0.getD k2 0) := hx
          have hown := hfl2.2.2.1
          have HFl : Hid (Fill wA wA.heap.size (n0 + N / 2) k2 (z0.take k2) (.slice (some ⟨wA.heap.size, 0, none⟩) k2 (n0 + N / 2)) wr) := hfl2
          clear hx hc H0 hfl2
          go_wp2_with (at_builtin; refine wpList_append_fits _ rfl _ _ 22 rfl wA.heap.size 5 i0 1 Try.underlying22 hi hz1 wA.heap.size k2 (n0 + N / 2) (vals (z0.take k2)) rfl (hown.alloc _) ⟨wr.heap.size, 0, none⟩ 1 1 [.int .u8 x] rfl rfl (cell_one_new _ _ _) (by simp [Value.oneCell']) (by omega) ?_)
          intro w5 hown5 hgrow5
          have R := HFl.out.next (x := x) _ hown5 hgrow5
          rw [HX.out, ← take_next z0 k2 (by rw [HL0.out]; exact hlt2)] at R
          clear hown5 hgrow5 hown HFl hcx
          go_wp2
          go_roundw
          case rel => exact ⟨k2 + 1, by omega, by go_num, R⟩
          case measure => simp [intOf]; omega
        · have e2 : k2 = n0 := by omega
          subst e2
          have hf5 : Fill wA wA.heap.size (k2 + N / 2) k2 z0 (.slice (some ⟨wA.heap.size, 0, none⟩) k2 (k2 + N / 2)) wr := by
            have e : z0.take k2 = z0 := List.take_of_length_le (by rw [HL0.out]; exact Nat.le_refl _)
            rw [e] at hfl2
            exact hfl2
          clear hfl2 H0
          go_wp2
          go_loopw [10, 12] (fun v i wr => ∃ k p : Nat, p = 2 * k ∧ p ≤ N ∧ i = .int .i64 p ∧ Fill wA wA.heap.size (k2 + N / 2) (k2 + k) (z0 ++ pack (st.take p)) v wr) (fun _ i _ => N - (intOf i).toNat)
          case atStart => exact ⟨0, 0, rfl, Nat.zero_le _, rfl, by simpa [pack] using hf5⟩
          case round =>
            obtain ⟨k3, p, hp3, hpN, rfl, hfl3⟩ := hrel
            obtain rfl := hfl3.1
            have HP : Hid (p = 2 * k3) := hp3
            have hk3 : k3 + k3 ≤ p := by omega
            have hk3' : p ≤ k3 + k3 := by omega
            clear hf5 hp3
            by_cases hlt3 : p + 1 < N
            · obtain ⟨x, hx⟩ : ∃ x, x = st.getD p 0 := ⟨_, rfl⟩
              obtain ⟨y, hy⟩ : ∃ y, y = st.getD (p + 1) 0 := ⟨_, rfl⟩
              have hltA : w.heap.size < wA.heap.size := HA.out.2.2.2.2
              have hcx : wr.cell? ⟨w.heap.size, p, none⟩ = some (.int .u8 x) := by rw [hx]; exact (hfl3.2.2.2.1.cell (by exact hltA)).trans (HA.out.cell p (by omega))
              have hcy : wr.cell? ⟨w.heap.size, p + 1, none⟩ = some (.int .u8 y) := by rw [hy]; exact (hfl3.2.2.2.1.cell (by exact hltA)).trans (HA.out.cell (p + 1) (by omega))
              have hx15 : 0 ≤ x ∧ x ≤ 15 := by rw [hx]; exact nib_getD st _ hsn.out
              have hy15 : 0 ≤ y ∧ y ≤ 15 := by rw [hy]; exact nib_getD st _ hsn.out
              obtain ⟨hx0, hx1⟩ := hx15
              obtain ⟨hy0, hy1⟩ := hy15
              have HX : Hid (x = st.getD p 0) := hx
              have HY : Hid (y = st.getD (p + 1) 0) := hy
              have hown := hfl3.2.2.1
              have hsz := hfl3.2.2.2.1.size
              have HFl : Hid (Fill wA wA.heap.size (k2 + N / 2) (k2 + k3) (z0 ++ pack (st.take p)) (.slice (some ⟨wA.heap.size, 0, none⟩) (k2 + k3) (k2 + N / 2)) wr) := hfl3
              clear hx hy hfl3
              have j0 : (0 : Int) ≤ (p : Int) := by omega
              have j1 : (p : Int) < (N : Int) := by omega
              have j2 : (0 : Int) ≤ (p : Int) + 1 := by omega
              have j3 : (p : Int) + 1 < (N : Int) := by omega
              have iw : IntKind.i64.wrap ((p : Int) + 1) = (p : Int) + 1 := IntWalk.i64_in _ (by omega)
              have it : ((p : Int) + 1).toNat = p + 1 := by omega
              have hwx : IntKind.u8.wrap (x * 16) = x * 16 := by rw [IntKind.wrap_u8]; omega
              have hwy : IntKind.u8.wrap (x * 16 + y) = x * 16 + y := by rw [IntKind.wrap_u8]; omega
              go_wp2
              go_region_held3 (fun w' => w'.cell? ⟨w.heap.size, p, none⟩ = some (.int .u8 x) ∧ w'.cell? ⟨w.heap.size, p + 1, none⟩ = some (.int .u8 y)) (first | go_keep | (refine ⟨?_, ?_⟩ <;> (rw [hgrow.cell_far _ (by simp; omega) (by simp; omega)]; go_keep))) ((refine step_fits (by rfl) _ _ 22 (by rfl) wA.heap.size 5 i0 1 Try.underlying22 hi hz1 wA.heap.size (k2 + k3) (k2 + N / 2) (vals (z0 ++ pack (st.take p))) (by rfl) ((hown.alloc _).drew) ⟨wr.heap.size, 0, none⟩ 1 1 [.int .u8 (x * 16 + y)] (by rfl) (by rfl) (World.news_of_block (cs := #[.int .u8 (x * 16 + y)]) (t := 5) (fr := (0, 0)) (heap_alloc_new wr _)) (by simp [Value.oneCell']) (by omega) ?_; intro w6 hown6 hgrow))
              have R := HFl.out.next_drew (x := x * 16 + y) _ hown6 hgrow
              have R' : Fill wA wA.heap.size (k2 + N / 2) (k2 + (k3 + 1)) (z0 ++ pack (st.take (p + 2))) (.slice (some ⟨wA.heap.size, 0, none⟩) (k2 + k3 + 1) (k2 + N / 2)) w6 := by
                have e := pack_take st k3 (by rw [← HP.out, HEN.out]; exact hlt3)
                rw [← HP.out] at e
                rw [e, ← HX.out, ← HY.out, ← List.append_assoc]
                exact R
              clear R hown6 hgrow hown HFl hcx hcy
              go_wp2
              go_roundw
              case rel => exact ⟨k3 + 1, p + 2, by have := HP.out; omega, by omega, by go_num, R'⟩
              case measure => simp [intOf]; omega
            · go_wp2
              go_ret
              have e : st.take p = st := List.take_of_length_le (by rw [HEN.out]; have := HP.out; have := HNE.out; omega)
              rw [e, hpk.out] at hfl3
              exact App.done HR.out (owns_base hfl3.2.2.1 HA.out.2.2.2.1.size) (HA.out.2.2.2.1.trans (hfl3.2.2.2.1.mono HA.out.2.2.2.1.size))

set_option maxHeartbeats 1000000 in
theorem mod_even (a0 : Option Addr) (n0 c0 : Nat) (z0 : List Int) (a1 : Option Addr) (n1 c1 : Nat) (z1 : List Int) (leaf : Bool) (w : World) (h0 : Sl w a0 n0 z0) (h1 : Sl w a1 n1 z1) (hodd : n1 % 2 = 0)
    (hp : Nib z1) (hn0 : n0 ≤ 1048576) (hn1 : n1 ≤ 1048576) :
    Calls Try.prog 9 #[.slice a0 n0 c0, .slice a1 n1 c1, .bool leaf] w (AppEnd w (z0 ++ enc z1 leaf)) := by
  obtain ⟨i0, hi, hz0, hz1, hz2⟩ := info_parts info5
  have hpar : (n1 : Int) % 2 = 0 := by omega
  obtain ⟨F, hF⟩ : ∃ F, F = fl n1 leaf := ⟨_, rfl⟩
  have hodd' : false = decide (n1 % 2 = 1) := by simp [hodd]
  have HFL : ∀ w, Calls Try.prog 15 #[.bool false, .bool leaf] w fun e w' => e = .returned (.int .u8 F) ∧ w = w' := fun w => by
    rw [hF]
    exact (flag_any false leaf n1 hodd' w).mono fun e w' ⟨a, b⟩ => ⟨a, b.symm⟩
  obtain ⟨st, hst⟩ : ∃ st, st = [F, 0] ++ z1 := ⟨_, rfl⟩
  have hst' : st = stream z1 leaf := by
    rw [hst, hF, ← h1.len]
    have e : z1.length % 2 = 0 := by rw [h1.len]; exact hodd
    simp [stream, e]
  have hsn : Hid (Nib st) := by rw [hst']; exact stream_nib z1 leaf hp
  have hsl : Hid (st.length = n1 + 2) := by rw [hst, List.length_append, h1.len]; simp [Hid]; omega
  have hse : Hid (st.length % 2 = 0) := by rw [hst']; exact (stream_length z1 leaf).1
  have hpk : Hid (pack st = enc z1 leaf) := by rw [hst']; exact pack_stream z1 leaf
  have HST : Hid ([F, 0] ++ z1 = st) := hst.symm
  have H0 : Hid (0 < n0 → ∃ b off, a0 = some ⟨b, off, none⟩ ∧ b < w.heap.size ∧ ∀ i, i < n0 → w.cell? ⟨b, off + i, none⟩ = some (.int .u8 (z0.getD i 0))) := h0.pos
  have H1 : Hid (0 < n1 → ∃ b off, a1 = some ⟨b, off, none⟩ ∧ b < w.heap.size ∧ ∀ i, i < n1 → w.cell? ⟨b, off + i, none⟩ = some (.int .u8 (z1.getD i 0))) := h1.pos
  have HL0 : Hid (z0.length = n0) := h0.len
  have HL1 : Hid (z1.length = n1) := h1.len
  have HR : Hid (∀ x ∈ z0 ++ enc z1 leaf, 0 ≤ x ∧ x ≤ 255) := app_range h0.rng hp
  have HO : Hid (n1 % 2 = 0) := hodd
  clear hF hodd' hst hst' h0 h1 hp hodd
  have hb1 : i0.bytes * (n1 + 2) ≤ 281474976710656 := by rw [hz2]; omega
  go_enter Try.func9, Try.ntmps9
  go_wp2_with (at_make; refine wpList_make_own _ rfl _ _ 22 rfl w.heap.size 5 i0 (.int .u8 0) 1 Try.underlying22 hi hz0 hz1 _ _ _ (n1 + 2) rfl rfl (by omega) hb1 (by unfold maxLen; omega) (Nat.le_refl _) ?_)
  intro w1 hown0 hgrow0
  have hlt1 : w.heap.size < w1.heap.size := (hown0.lt w.heap.size rfl).2
  have hf0 : Fill w w.heap.size (n1 + 2) 0 [] (.slice (some ⟨w.heap.size, 0, none⟩) 0 (n1 + 2)) w1 :=
    ⟨rfl, rfl, hown0, (Below.refl w.heap.size w).grown hgrow0 (Nat.le_refl _) (fun k hk => by cases hk), hlt1⟩
  clear hgrow0 hb1
  go_wp2_with fail
  refine (HFL _).mono ?_
  rintro e w1' ⟨rfl, rfl⟩
  clear HFL
  go_wp2_with (at_builtin; refine wpList_append_fits _ rfl _ _ 22 rfl w.heap.size 5 i0 1 Try.underlying22 hi hz1 w.heap.size 0 (n1 + 2) (vals []) rfl (hown0.alloc _) ⟨w1.heap.size, 0, none⟩ 1 1 [.int .u8 F] rfl rfl (cell_one_new _ _ _) (by simp [Value.oneCell']) (by omega) ?_)
  intro w2 hown2 hgrow2
  have hf1 := hf0.next (x := F) _ (by simpa using hown2) hgrow2
  clear hown2 hgrow2 hown0 hf0 hlt1
  have hown2 := hf1.2.2.1
  go_wp2_with (at_builtin; refine wpList_append_fits _ rfl _ _ 22 rfl w.heap.size 5 i0 1 Try.underlying22 hi hz1 w.heap.size 1 (n1 + 2) (vals [F]) rfl (by simpa using hown2.alloc _) ⟨w2.heap.size, 0, none⟩ 1 1 [.int .u8 0] rfl rfl (cell_one_new _ _ _) (by simp [Value.oneCell']) (by omega) ?_)
  intro wb hown3 hgrow3
  have hf : Fill w w.heap.size (n1 + 2) 2 [F, 0] (.slice (some ⟨w.heap.size, 0, none⟩) 2 (n1 + 2)) wb := by simpa using hf1.next (x := 0) _ (by simpa using hown3) hgrow3
  clear hf1 hown2 hown3 hgrow3
  go_wp2
  go_loopw [8, 9] (fun v i wr => ∃ k N : Nat, k ≤ n1 ∧ N = 2 + k ∧ i = .int .i64 k ∧ Fill w w.heap.size (n1 + 2) N ([F, 0] ++ z1.take k) v wr) (fun _ i _ => n1 - (intOf i).toNat)
  case atStart => exact ⟨0, 2, Nat.zero_le _, rfl, rfl, hf⟩
  case round =>
    obtain ⟨k, N, hk, hN, rfl, hfl⟩ := hrel
    have HN : Hid (N = 2 + k) := hN
    have hNa : N ≤ 2 + k := by omega
    have hNb : 2 + k ≤ N := by omega
    obtain rfl := hfl.1
    clear hf hN
    by_cases hlt : k < n1
    · obtain ⟨b, off, rfl, hb, hc⟩ := H1.out (by omega)
      obtain ⟨x, hx⟩ : ∃ x, x = z1.getD k 0 := ⟨_, rfl⟩
      have hcx : wr.cell? ⟨b, off + k, none⟩ = some (.int .u8 x) := by rw [hx]; exact (hfl.2.2.2.1.cell (by exact hb)).trans (hc k hlt)
      have HX : Hid (x = z1.getD k 0) := hx
      have hown := hfl.2.2.1
      have HFl : Hid (Fill w w.heap.size (n1 + 2) N ([F, 0] ++ z1.take k) (.slice (some ⟨w.heap.size, 0, none⟩) N (n1 + 2)) wr) := hfl
      clear hx hc H1 hfl
      go_wp2_with (at_builtin; refine wpList_append_fits _ rfl _ _ 22 rfl w.heap.size 5 i0 1 Try.underlying22 hi hz1 w.heap.size N (n1 + 2) (vals ([F, 0] ++ z1.take k)) rfl (hown.alloc _) ⟨wr.heap.size, 0, none⟩ 1 1 [.int .u8 x] rfl rfl (cell_one_new _ _ _) (by simp [Value.oneCell']) (by omega) ?_)
      intro w3 hown3 hgrow3
      have R := HFl.out.next (x := x) _ hown3 hgrow3
      have R' : Fill w w.heap.size (n1 + 2) (N + 1) ([F, 0] ++ z1.take (k + 1)) (.slice (some ⟨w.heap.size, 0, none⟩) (N + 1) (n1 + 2)) w3 := by
        rw [take_next z1 k (by rw [HL1.out]; exact hlt), ← HX.out, ← List.append_assoc]
        exact R
      clear R hown3 hgrow3 hown HFl hcx
      go_wp2
      go_roundw
      case rel => exact ⟨k + 1, N + 1, by omega, by have := HN.out; omega, by go_num, R'⟩
      case measure => simp [intOf]; omega
    · obtain ⟨wA, hwA⟩ : ∃ wA : World, wA = wr := ⟨_, rfl⟩
      subst hwA
      have eN : st.length = N := by rw [hsl.out]; have := HN.out; omega
      have HA : Hid (Fill w w.heap.size (n1 + 2) N st (.slice (some ⟨w.heap.size, 0, none⟩) N (n1 + 2)) wA) := by
        have e : z1.take k = z1 := List.take_of_length_le (by rw [HL1.out]; omega)
        rw [e, HST.out] at hfl
        exact hfl
      have HNE : Hid (N % 2 = 0) := by rw [Hid, ← eN]; exact hse.out
      have HEN : Hid (st.length = N) := eN
      have hNc : N ≤ 1048578 := by omega
      have hb2 : i0.bytes * (n0 + N / 2) ≤ 281474976710656 := by rw [hz2]; omega
      clear hfl eN H1 HN
      go_wp2_with (at_make; refine wpList_make_own _ rfl _ _ 22 rfl wA.heap.size 5 i0 (.int .u8 0) 1 Try.underlying22 hi hz0 hz1 _ _ _ (n0 + N / 2) rfl rfl (by omega) hb2 (by unfold maxLen; omega) (Nat.le_refl _) ?_)
      intro w4 hown4 hgrow4
      have hlt4 : wA.heap.size < w4.heap.size := (hown4.lt wA.heap.size rfl).2
      have hf4 : Fill wA wA.heap.size (n0 + N / 2) 0 [] (.slice (some ⟨wA.heap.size, 0, none⟩) 0 (n0 + N / 2)) w4 :=
        ⟨rfl, rfl, hown4, (Below.refl wA.heap.size wA).grown hgrow4 (Nat.le_refl _) (fun k hk => by cases hk), hlt4⟩
      clear hown4 hgrow4 hlt4 hb2
      go_wp2
      go_loopw [10, 11] (fun v i wr => ∃ k : Nat, k ≤ n0 ∧ i = .int .i64 k ∧ Fill wA wA.heap.size (n0 + N / 2) k (z0.take k) v wr) (fun _ i _ => n0 - (intOf i).toNat)
      case atStart => exact ⟨0, Nat.zero_le _, rfl, hf4⟩
      case round =>
        obtain ⟨k2, hk2, rfl, hfl2⟩ := hrel
        obtain rfl := hfl2.1
        clear hf4
        by_cases hlt2 : k2 < n0
        · obtain ⟨b, off, rfl, hb, hc⟩ := H0.out (by omega)
          obtain ⟨x, hx⟩ : ∃ x, x = z0.getD k2 0 := ⟨_, rfl⟩
          have hbA : b < wA.heap.size := Nat.lt_of_lt_of_le hb HA.out.2.2.2.1.size
          have hcx : wr.cell? ⟨b, off + k2, none⟩ = some (.int .u8 x) := by rw [hx]; exact (hfl2.2.2.2.1.cell (by exact hbA)).trans ((HA.out.2.2.2.1.cell (by exact hb)).trans (hc k2 hlt2))
          have HX : Hid (x = z0.getD k2 0) := hx
          have hown := hfl2.2.2.1
          have HFl : Hid (Fill wA wA.heap.size (n0 + N / 2) k2 (z0.take k2) (.slice (some ⟨wA.heap.size, 0, none⟩) k2 (n0 + N / 2)) wr) := hfl2
          clear hx hc H0 hfl2
          go_wp2_with (at_builtin; refine wpList_append_fits _ rfl _ _ 22 rfl wA.heap.size 5 i0 1 Try.underlying22 hi hz1 wA.heap.size k2 (n0 + N / 2) (vals (z0.take k2)) rfl (hown.alloc _) ⟨wr.heap.size, 0, none⟩ 1 1 [.int .u8 x] rfl rfl (cell_one_new _ _ _) (by simp [Value.oneCell']) (by omega) ?_)
          intro w5 hown5 hgrow5
          have R := HFl.out.next (x := x) _ hown5 hgrow5
          rw [HX.out, ← take_next z0 k2 (by rw [HL0.out]; exact hlt2)] at R
          clear hown5 hgrow5 hown HFl hcx
          go_wp2
          go_roundw
          case rel => exact ⟨k2 + 1, by omega, by go_num, R⟩
          case measure => simp [intOf]; omega
        · have e2 : k2 = n0 := by omega
          subst e2
          have hf5 : Fill wA wA.heap.size (k2 + N / 2) k2 z0 (.slice (some ⟨wA.heap.size, 0, none⟩) k2 (k2 + N / 2)) wr := by
            have e : z0.take k2 = z0 := List.take_of_length_le (by rw [HL0.out]; exact Nat.le_refl _)
            rw [e] at hfl2
            exact hfl2
          clear hfl2 H0
          go_wp2
          go_loopw [10, 12] (fun v i wr => ∃ k p : Nat, p = 2 * k ∧ p ≤ N ∧ i = .int .i64 p ∧ Fill wA wA.heap.size (k2 + N / 2) (k2 + k) (z0 ++ pack (st.take p)) v wr) (fun _ i _ => N - (intOf i).toNat)
          case atStart => exact ⟨0, 0, rfl, Nat.zero_le _, rfl, by simpa [pack] using hf5⟩
          case round =>
            obtain ⟨k3, p, hp3, hpN, rfl, hfl3⟩ := hrel
            obtain rfl := hfl3.1
            have HP : Hid (p = 2 * k3) := hp3
            have hk3 : k3 + k3 ≤ p := by omega
            have hk3' : p ≤ k3 + k3 := by omega
            clear hf5 hp3
            by_cases hlt3 : p + 1 < N
            · obtain ⟨x, hx⟩ : ∃ x, x = st.getD p 0 := ⟨_, rfl⟩
              obtain ⟨y, hy⟩ : ∃ y, y = st.getD (p + 1) 0 := ⟨_, rfl⟩
              have hltA : w.heap.size < wA.heap.size := HA.out.2.2.2.2
              have hcx : wr.cell? ⟨w.heap.size, p, none⟩ = some (.int .u8 x) := by rw [hx]; exact (hfl3.2.2.2.1.cell (by exact hltA)).trans (HA.out.cell p (by omega))
              have hcy : wr.cell? ⟨w.heap.size, p + 1, none⟩ = some (.int .u8 y) := by rw [hy]; exact (hfl3.2.2.2.1.cell (by exact hltA)).trans (HA.out.cell (p + 1) (by omega))
              have hx15 : 0 ≤ x ∧ x ≤ 15 := by rw [hx]; exact nib_getD st _ hsn.out
              have hy15 : 0 ≤ y ∧ y ≤ 15 := by rw [hy]; exact nib_getD st _ hsn.out
              obtain ⟨hx0, hx1⟩ := hx15
              obtain ⟨hy0, hy1⟩ := hy15
              have HX : Hid (x = st.getD p 0) := hx
              have HY : Hid (y = st.getD (p + 1) 0) := hy
              have hown := hfl3.2.2.1
              have hsz := hfl3.2.2.2.1.size
              have HFl : Hid (Fill wA wA.heap.size (k2 + N / 2) (k2 + k3) (z0 ++ pack (st.take p)) (.slice (some ⟨wA.heap.size, 0, none⟩) (k2 + k3) (k2 + N / 2)) wr) := hfl3
              clear hx hy hfl3
              have j0 : (0 : Int) ≤ (p : Int) := by omega
              have j1 : (p : Int) < (N : Int) := by omega
              have j2 : (0 : Int) ≤ (p : Int) + 1 := by omega
              have j3 : (p : Int) + 1 < (N : Int) := by omega
              have iw : IntKind.i64.wrap ((p : Int) + 1) = (p : Int) + 1 := IntWalk.i64_in _ (by omega)
              have it : ((p : Int) + 1).toNat = p + 1 := by omega
              have hwx : IntKind.u8.wrap (x * 16) = x * 16 := by rw [IntKind.wrap_u8]; omega
              have hwy : IntKind.u8.wrap (x * 16 + y) = x * 16 + y := by rw [IntKind.wrap_u8]; omega
              go_wp2
              go_region_held3 (fun w' => w'.cell? ⟨w.heap.size, p, none⟩ = some (.int .u8 x) ∧ w'.cell? ⟨w.heap.size, p + 1, none⟩ = some (.int .u8 y)) (first | go_keep | (refine ⟨?_, ?_⟩ <;> (rw [hgrow.cell_far _ (by simp; omega) (by simp; omega)]; go_keep))) ((refine step_fits (by rfl) _ _ 22 (by rfl) wA.heap.size 5 i0 1 Try.underlying22 hi hz1 wA.heap.size (k2 + k3) (k2 + N / 2) (vals (z0 ++ pack (st.take p))) (by rfl) ((hown.alloc _).drew) ⟨wr.heap.size, 0, none⟩ 1 1 [.int .u8 (x * 16 + y)] (by rfl) (by rfl) (World.news_of_block (cs := #[.int .u8 (x * 16 + y)]) (t := 5) (fr := (0, 0)) (heap_alloc_new wr _)) (by simp [Value.oneCell']) (by omega) ?_; intro w6 hown6 hgrow))
              have R := HFl.out.next_drew (x := x * 16 + y) _ hown6 hgrow
              have R' : Fill wA wA.heap.size (k2 + N / 2) (k2 + (k3 + 1)) (z0 ++ pack (st.take (p + 2))) (.slice (some ⟨wA.heap.size, 0, none⟩) (k2 + k3 + 1) (k2 + N / 2)) w6 := by
                have e := pack_take st k3 (by rw [← HP.out, HEN.out]; exact hlt3)
                rw [← HP.out] at e
                rw [e, ← HX.out, ← HY.out, ← List.append_assoc]
                exact R
              clear R hown6 hgrow hown HFl hcx hcy
              go_wp2
              go_roundw
              case rel => exact ⟨k3 + 1, p + 2, by have := HP.out; omega, by omega, by go_num, R'⟩
              case measure => simp [intOf]; omega
            · go_wp2
              go_ret
              have e : st.take p = st := List.take_of_length_le (by rw [HEN.out]; have := HP.out; have := HNE.out; omega)
              rw [e, hpk.out] at hfl3
              exact App.done HR.out (owns_base hfl3.2.2.1 HA.out.2.2.2.1.size) (HA.out.2.2.2.1.trans (hfl3.2.2.2.1.mono HA.out.2.2.2.1.size))
end Go.Proofs.Qxb6603387a.Hp
