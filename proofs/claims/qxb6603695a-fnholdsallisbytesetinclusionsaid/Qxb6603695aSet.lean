/-
  THE WALKS OF lawNQChar (24), lawSubset (15), lawByteSet (16), lawNQCharClass (17). A table of 256 bools goes by value. By an AI agent.
-/
import Derived.Test.Qxb6603695aChecked
import Derived.Test.Qxb6603695aSetPlain
import Derived.WalkKit
import Derived.WalkSpells
import Derived.Deep.QuietTactic
import Derived.BigQuiet
import Derived.Laws.ResultCell
import Derived.Deep.WholeRow
namespace Go.Proofs.Qxb6603695a.St
open Go.RowKit

theorem ret_bool {a b : Bool} (h : a = b) : Ending.returned (.bool a) = .returned (.bool b) := by rw [h]

/-- A table of 256 cells. -/
def tab (f : Nat → Bool) : Array Value := ((List.range 256).map fun i => Value.bool (f i)).toArray

theorem tab_size (f : Nat → Bool) : (tab f).size = 256 := by simp [tab]

theorem tab_get (f : Nat → Bool) (i : Nat) (h : i < 256) : (tab f)[i]? = some (.bool (f i)) := by
  simp [tab, h]

theorem tab_one (f : Nat → Bool) : (tab f).all (·.oneCell') = true := by
  rw [Array.all_eq_true]
  intro i hi
  have h : i < 256 := by rw [tab_size] at hi; exact hi
  have e := tab_get f i h
  rw [Array.getElem?_eq_getElem hi] at e
  have e' := Option.some.inj e
  rw [e']
  rfl

def upd (f : Nat → Bool) (i : Nat) (b : Bool) : Nat → Bool := fun j => if j = i then b else f j

theorem tab_none (f : Nat → Bool) (j : Nat) (h : ¬ j < 256) : (tab f)[j]? = none := by
  rw [Array.getElem?_eq_none]
  rw [tab_size]
  omega

theorem tab_set (f : Nat → Bool) (i : Nat) (b : Bool) : (tab f).setIfInBounds i (.bool b) = tab (upd f i b) := by
  apply Array.ext_getElem?
  intro j
  rw [Array.getElem?_setIfInBounds]
  by_cases hj : j < 256
  · by_cases e : i = j
    · subst e
      rw [if_pos rfl, if_pos (by rw [tab_size]; exact hj)]
      have e : upd f i b i = b := by unfold upd; rw [if_pos rfl]
      rw [tab_get _ _ hj, e]
    · rw [if_neg e, tab_get _ _ hj, tab_get _ _ hj]
      have e' : ¬ j = i := fun x => e x.symm
      unfold upd
      rw [if_neg e']
  · rw [tab_none f j hj, tab_none (upd f i b) j hj]
    by_cases e : i = j
    · subst e
      rw [if_pos rfl, if_neg (by rw [tab_size]; exact hj)]
    · rw [if_neg e]

theorem tab_ext (f g : Nat → Bool) (h : ∀ i, i < 256 → f i = g i) : tab f = tab g := by
  unfold tab
  congr 1
  apply List.map_congr_left
  intro i hi
  rw [h i (List.mem_range.1 hi)]

theorem zero31 : (Try.prog.info? 31).map (fun i => (i.zero, i.size)) = some (some (.agg (tab fun _ => false)), 256) := by kernel_rfl

/-! ### lawNQChar -/
theorem nq_any (c : Int) (n : Nat) (hc : c = n) (w : World) : Calls Try.prog 24 #[.int .u8 c] w fun e w' => e = .returned (.bool (nq n)) ∧ w' = w := by
  subst hc
  have H : ∀ b : Bool, nq n = b → Hid (nq n = b) := fun _ h => h
  by_cases h1 : n = 33
  · subst h1
    go_enter Try.func24, Try.ntmps24
    go_wp2
    go_ret
    exact ⟨rfl, rfl⟩
  · have e1 : ((n : Int) == 33) = false := by rw [beq_eq_false_iff_ne]; omega
    by_cases h2 : 35 ≤ n
    · by_cases h3 : n ≤ 91
      · have hq := H true (by unfold nq; simp; omega)
        clear H
        go_enter Try.func24, Try.ntmps24
        go_wp2
        go_ret
        exact ⟨ret_bool (by rw [hq.out]; first | done | (simp; omega) | simp), rfl⟩
      · by_cases h4 : 93 ≤ n
        · by_cases h5 : n ≤ 126
          · have hq := H true (by unfold nq; simp; omega)
            clear H
            go_enter Try.func24, Try.ntmps24
            go_wp2
            go_ret
            exact ⟨ret_bool (by rw [hq.out]; first | done | (simp; omega) | simp), rfl⟩
          · have hq := H false (by unfold nq; simp; omega)
            clear H
            go_enter Try.func24, Try.ntmps24
            go_wp2
            go_ret
            exact ⟨ret_bool (by rw [hq.out]; first | done | (simp; omega) | simp), rfl⟩
        · have hq := H false (by unfold nq; simp; omega)
          clear H
          go_enter Try.func24, Try.ntmps24
          go_wp2
          go_ret
          exact ⟨ret_bool (by rw [hq.out]; first | done | (simp; omega) | simp), rfl⟩
    · have h4 : ¬ 93 ≤ n := by omega
      have hq := H false (by unfold nq; simp; omega)
      clear H
      go_enter Try.func24, Try.ntmps24
      go_wp2
      go_ret
      exact ⟨ret_bool (by rw [hq.out]; first | done | (simp; omega) | simp), rfl⟩

/-- The array A is the table of f. -/
structure Tb (A : Array Value) (f : Nat → Bool) : Prop where
  eq : A = tab f

theorem Tb.size {A : Array Value} {f : Nat → Bool} (h : Tb A f) : A.size = 256 := by rw [h.eq, tab_size]
theorem Tb.get {A : Array Value} {f : Nat → Bool} (h : Tb A f) (i : Nat) (hi : i < 256) : A[i]? = some (.bool (f i)) := by rw [h.eq]; exact tab_get f i hi
theorem Tb.one {A : Array Value} {f : Nat → Bool} (h : Tb A f) : A.all (·.oneCell') = true := by rw [h.eq]; exact tab_one f
theorem Tb.set {A : Array Value} {f : Nat → Bool} (h : Tb A f) (i : Nat) (b : Bool) : Tb (A.setIfInBounds i (.bool b)) (upd f i b) := ⟨by rw [h.eq]; exact tab_set f i b⟩
theorem Tb.congr {A : Array Value} {f g : Nat → Bool} (h : Tb A f) (e : ∀ i, i < 256 → f i = g i) : Tb A g := ⟨by rw [h.eq]; exact tab_ext f g e⟩

/-! ### lawSubset -/
set_option maxHeartbeats 400000 in
set_option maxRecDepth 100000 in
theorem sub_any (A B : Array Value) (f g : Nat → Bool) (hA : Tb A f) (hB : Tb B g) (w : World) :
    Calls Try.prog 15 #[.agg A, .agg B] w fun e w' => e = .returned (.bool (subB f g)) ∧ Below w.heap.size w w' := by
  obtain ⟨W, hW⟩ : ∃ W, W = (w.alloc (.cells A 31)).alloc (.cells B 31) := ⟨_, rfl⟩
  have hF : Hid (∀ i, i < 256 → W.cell? ⟨w.heap.size, i, none⟩ = some (.bool (f i))) := fun i hi => by
    rw [hW, cell_of_row _ _ i A 31 (0, 0) (heap_alloc2_old w _ _), hA.get i hi]
  have hG : Hid (∀ i, i < 256 → W.cell? ⟨w.heap.size + 1, i, none⟩ = some (.bool (g i))) := fun i hi => by
    rw [hW, cell_of_row _ _ i B 31 (0, 0) (heap_alloc2_new w _ _), hB.get i hi]
  have hBl : Hid (Below w.heap.size w W) := by rw [hW]; exact ((Below.refl _ _).alloc (Nat.le_refl _) _).alloc (by simp) _
  have HW : Hid (W = (w.alloc (.cells A 31)).alloc (.cells B 31)) := hW
  clear hW hA hB
  go_enter Try.func15, Try.ntmps15
  go_wp2
  rw [← HW.out]
  go_loopw [5] (fun i wr => ∃ k : Nat, k ≤ 256 ∧ i = .int .i64 k ∧ wr = W ∧ Hid (∀ j, j < k → f j = true → g j = true)) (fun i _ => 256 - (intOf i).toNat)
  case atStart => exact ⟨0, Nat.zero_le _, rfl, rfl, fun j hj => absurd hj (Nat.not_lt_zero _)⟩
  case round =>
    obtain ⟨k, hk, rfl, hwr, hno⟩ := hrel
    subst hwr
    by_cases hlt : k < 256
    · have hf := hF.out k hlt
      have hg := hG.out k hlt
      obtain ⟨x, hx⟩ : ∃ x, x = f k := ⟨_, rfl⟩
      obtain ⟨y, hy⟩ : ∃ y, y = g k := ⟨_, rfl⟩
      rw [← hx] at hf
      rw [← hy] at hg
      have HX : Hid (x = f k) := hx
      have HY : Hid (y = g k) := hy
      clear hx hy
      cases x
      · go_wp2
        go_roundw
        case rel => exact ⟨k + 1, by omega, by go_num, by trivial, fun j hj hfj => by
          rcases Nat.lt_succ_iff_lt_or_eq.1 hj with h | rfl
          · exact hno.out j h hfj
          · rw [← HX.out] at hfj; cases hfj⟩
        case measure => simp [intOf]; omega
      · cases y
        · go_wp2
          go_ret
          exact ⟨ret_bool (subB_false f g k hlt HX.out.symm HY.out.symm).symm, hBl.out⟩
        · go_wp2
          go_roundw
          case rel => exact ⟨k + 1, by omega, by go_num, by trivial, fun j hj hfj => by
            rcases Nat.lt_succ_iff_lt_or_eq.1 hj with h | rfl
            · exact hno.out j h hfj
            · exact HY.out.symm⟩
          case measure => simp [intOf]; omega
    · go_wp2
      go_ret
      exact ⟨ret_bool (subB_true f g (fun c hc => hno.out c (by omega))).symm, hBl.out⟩

/-! ### lawByteSet -/
/-- The bytes of a string. -/
def bs (s : ByteArray) : List Nat := s.data.toList.map UInt8.toNat

theorem bs_length (s : ByteArray) : (bs s).length = s.size := by simp [bs]

theorem bs_getD (s : ByteArray) (k : Nat) (h : k < s.size) : (bs s).getD k 0 = (s[k]'h).toNat := by
  have e : (bs s)[k]? = some (s[k]'h).toNat := by
    unfold bs
    rw [List.getElem?_map, List.getElem?_eq_getElem (by simpa using h)]
    rfl
  simp [List.getD, e]

theorem bs_lt (s : ByteArray) : ∀ b ∈ bs s, b < 256 := by
  intro b hb
  obtain ⟨x, _, rfl⟩ := List.mem_map.1 hb
  exact x.toNat_lt

theorem bs_take (s : ByteArray) (k : Nat) (h : k < s.size) : (bs s).take (k + 1) = (bs s).take k ++ [(s[k]'h).toNat] := by
  have hl : k < (bs s).length := by rw [bs_length]; exact h
  rw [List.take_succ_eq_append_getElem hl]
  have := bs_getD s k h
  simp only [List.getD, List.getElem?_eq_getElem hl, Option.getD_some] at this
  rw [this]

theorem occ_snoc (l : List Nat) (b : Nat) (c : Nat) : upd (occ l) b true c = occ (l ++ [b]) c := by
  unfold upd occ
  by_cases e : c = b
  · subst e; simp
  · have e' : ¬ b = c := fun x => e x.symm
    rw [if_neg e]
    simp [e']

theorem below_setRow (B : Nat) {w w1 : World} (h : Below B w w1) (g : Nat) (cs : Array Value) (hg : B ≤ g) : Below B w (w1.setRow g cs) :=
  h.trans ⟨rfl, rfl, rfl, by simp, fun k hk => setRow_other w1 g k cs (by omega)⟩

/-- What a function leaves that hands a table back. -/
def TabEnd (w : World) (f : Nat → Bool) (e : Ending) (w' : World) : Prop := ∃ A, e = .returned (.agg A) ∧ Tb A f ∧ Below w.heap.size w w'

set_option maxHeartbeats 400000 in
set_option maxRecDepth 100000 in
theorem set_any (s : ByteArray) (hs : s.size ≤ 1048576) (w : World) : Calls Try.prog 16 #[.string s] w (TabEnd w (occ (bs s))) := by
  obtain ⟨Z, hZ⟩ : ∃ Z, Z = tab fun _ => false := ⟨_, rfl⟩
  obtain ⟨hv31, hi31⟩ := zero_of_info zero31
  rw [← hZ] at hv31
  have hTZ : Hid (Tb Z (occ ((bs s).take 0))) := (⟨hZ⟩ : Tb Z fun _ => false).congr fun i _ => by simp [occ]
  have HI : Hid ((Try.prog.info? 31).map (·.size) = some 256) := hi31
  clear hZ hi31
  go_enter Try.func16, Try.ntmps16
  go_wp2
  go_loopw [4] (fun i wr => ∃ (k : Nat) (A : Array Value), k ≤ s.size ∧ i = .int .i64 k ∧ Tb A (occ ((bs s).take k)) ∧ wr = (w.alloc (.cells Z 31)).alloc (.cells A 31)) (fun i _ => s.size - (intOf i).toNat)
  case atStart => exact ⟨0, Z, Nat.zero_le _, rfl, hTZ.out, rfl⟩
  case round =>
    obtain ⟨k, A, hk, rfl, hA, rfl⟩ := hrel
    have HA : Hid (Tb A (occ ((bs s).take k))) := hA
    clear hA hv31
    by_cases hlt : k < s.size
    · have h256 : (((s[k]'hlt).toNat : Nat) : Int) < 256 := by have := (s[k]'hlt).toNat_lt; omega
      have hcell := HA.out.get (s[k]'hlt).toNat (s[k]'hlt).toNat_lt
      have HN : Hid (Tb (A.setIfInBounds (s[k]'hlt).toNat (.bool true)) (occ ((bs s).take (k + 1)))) := (HA.out.set (s[k]'hlt).toNat true).congr fun i _ => by
        rw [bs_take s k hlt]
        exact occ_snoc _ _ _
      go_wp2
      go_roundw
      case rel => exact ⟨k + 1, _, by omega, by go_num, HN.out, rfl⟩
      case measure => simp [intOf]; omega
    · have hT : Hid (Tb A (occ (bs s))) := by
        have e : (bs s).take k = bs s := List.take_of_length_le (by rw [bs_length]; omega)
        have := HA.out
        rw [e] at this
        exact this
      have hT0 := hTZ.out.size
      have hTA := hT.out.size
      have HS1 : Hid ((Try.prog.info? 31).map (·.size) = some A.size) := by rw [hTA]; exact HI.out
      have HS2 : Hid (Z.size = A.size) := by rw [hTA, hT0]; rfl
      clear hT0 hTA
      go_wp2_with (first | (refine wpList_load_row rfl 31 _ rfl (w.heap.size + 1) rfl 31 A (0, 0) _ (heap_alloc2_new w _ _) Try.underlying31 rfl HS1.out ?_) | (refine wpList_store_row rfl 31 _ _ rfl w.heap.size A rfl rfl 31 Z (heap_alloc2_old w _ _) HS1.out HS2.out hT.out.one ?_))
      exact bodyPost_ret (v := .agg A) (results_cell_row (P := Try.prog) (fn := Try.f16) rfl _ _ w.heap.size 31 A (0, 0) _ rfl (setRow_heap _ w.heap.size Z A 31 (0, 0) (heap_alloc2_old w _ _)) Try.underlying31 rfl HS1.out) rfl
        ⟨A, rfl, hT.out, below_setRow _ (((Below.refl _ _).alloc (Nat.le_refl _) _).alloc (by simp) _) _ _ (Nat.le_refl _)⟩

/-! ### lawNQCharClass -/
/-- Behind k rounds. -/
def nqTo (k : Nat) (c : Nat) : Bool := decide (c < k) && nq c

set_option maxHeartbeats 400000 in
set_option maxRecDepth 100000 in
theorem class_any (w : World) : Calls Try.prog 17 #[] w (TabEnd w nq) := by
  obtain ⟨Z, hZ⟩ : ∃ Z, Z = tab fun _ => false := ⟨_, rfl⟩
  obtain ⟨hv31, hi31⟩ := zero_of_info zero31
  rw [← hZ] at hv31
  have hTZ : Hid (Tb Z (nqTo 0)) := (⟨hZ⟩ : Tb Z fun _ => false).congr fun i _ => by simp [nqTo]
  have HI : Hid ((Try.prog.info? 31).map (·.size) = some 256) := hi31
  clear hZ hi31
  go_enter Try.func17, Try.ntmps17
  go_wp2
  go_loopw [2] (fun i wr => ∃ (k : Nat) (A : Array Value), k ≤ 256 ∧ i = .int .i64 k ∧ Tb A (nqTo k) ∧ wr = (w.alloc (.cells Z 31)).alloc (.cells A 31)) (fun i _ => 256 - (intOf i).toNat)
  case atStart => exact ⟨0, Z, Nat.zero_le _, rfl, hTZ.out, rfl⟩
  case round =>
    obtain ⟨k, A, hk, rfl, hA, rfl⟩ := hrel
    have HA : Hid (Tb A (nqTo k)) := hA
    clear hA hv31
    by_cases hlt : k < 256
    · have h256 : (k : Int) < 256 := by omega
      have hcell := HA.out.get k hlt
      have HN : Hid (Tb (A.setIfInBounds k (.bool (nq k))) (nqTo (k + 1))) := (HA.out.set k (nq k)).congr fun i _ => by
        unfold upd nqTo
        by_cases e : i = k
        · subst e; simp
        · rw [if_neg e]
          have : decide (i < k) = decide (i < k + 1) := by
            by_cases l : i < k
            · simp [l, show i < k + 1 by omega]
            · simp [l, show ¬ i < k + 1 by omega]
          rw [this]
      go_wp2_with fail
      refine (nq_any _ k rfl _).mono ?_
      rintro e w' ⟨rfl, hw'⟩
      subst hw'
      go_wp2
      go_roundw
      case rel => exact ⟨k + 1, _, by omega, by go_num, HN.out, rfl⟩
      case measure => simp [intOf]; omega
    · have hT : Hid (Tb A nq) := HA.out.congr fun i hi => by
        unfold nqTo
        simp [show i < k by omega]
      have hT0 := hTZ.out.size
      have hTA := hT.out.size
      have HS1 : Hid ((Try.prog.info? 31).map (·.size) = some A.size) := by rw [hTA]; exact HI.out
      have HS2 : Hid (Z.size = A.size) := by rw [hTA, hT0]; rfl
      clear hT0 hTA
      go_wp2_with (first | (refine wpList_load_row rfl 31 _ rfl (w.heap.size + 1) rfl 31 A (0, 0) _ (heap_alloc2_new w _ _) Try.underlying31 rfl HS1.out ?_) | (refine wpList_store_row rfl 31 _ _ rfl w.heap.size A rfl rfl 31 Z (heap_alloc2_old w _ _) HS1.out HS2.out hT.out.one ?_))
      exact bodyPost_ret (v := .agg A) (results_cell_row (P := Try.prog) (fn := Try.f17) rfl _ _ w.heap.size 31 A (0, 0) _ rfl (setRow_heap _ w.heap.size Z A 31 (0, 0) (heap_alloc2_old w _ _)) Try.underlying31 rfl HS1.out) rfl
        ⟨A, rfl, hT.out, below_setRow _ (((Below.refl _ _).alloc (Nat.le_refl _) _).alloc (by simp) _) _ _ (Nat.le_refl _)⟩
end Go.Proofs.Qxb6603695a.St
