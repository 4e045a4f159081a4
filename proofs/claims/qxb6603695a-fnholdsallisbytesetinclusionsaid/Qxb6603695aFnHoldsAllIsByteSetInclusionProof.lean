/-
  THE PROOF OF 'Rows.FnHoldsAllIsByteSetInclusionSaid': the frame after the kit's own (proof-skeleton.mjs, at a law over slices), turned by hand to an array by value and a string; the walk: Qxb6603695aLawIncl. By an AI agent.
-/
import Derived.Test.Qxb6603695aRows
import Derived.WalkKit
import Derived.ProofKit
import Derived.OpenShut
import Derived.ShutString
import Derived.ChangeOld
import Derived.Below
import Derived.Test.Qxb6603695aLawIncl
namespace Go.Proofs.Qxb6603695a.fnHoldsAllIsByteSetInclusion
open Go.ChangeShapes Go.WideShapes Go.ChangeAt Go.RowKit
open Go.ChangeMaps (open_string shut_string)
set_option linter.unusedVariables false

theorem own : ownKnob Try.prog.godebug = none := by kernel_rfl
theorem laidOut : laidOutB Try.prog = true := by kernel_rfl
theorem cells31 : Try.prog.cellsOf 31 = 256 := by kernel_rfl
theorem cells4 : Try.prog.cellsOf 4 = 1 := by kernel_rfl

/-- The table that a row of cells spells. -/
def tabOf (A : Array Value) (i : Nat) : Bool := match A[i]? with
  | some (.bool b) => b
  | _ => false

/-- AN ARRAY OF 256 BOOLS THAT CAME IN BY VALUE: it is the table of some f. -/
theorem open_tab {H : Type} {enc : TypeId × Value → H} {W : World} {base : Nat} {spare : Nat → Bool} {held : Bool} {r : Reach} {b0 : Nat} {v : Value} {d : DataW H} {p : List MemPlace}
    (hv : Value.okWide Try.prog W r b0 31 v) (h : DataW.Trod enc Try.prog W base spare held 31 v d p) : ∃ A f, v = .agg A ∧ St.Tb A f := by
  obtain ⟨A, rfl, hsz⟩ : ∃ cs, v = .agg cs ∧ cs.size = 256 := by
    unfold Value.okWide at hv
    rw [Try.underlying31] at hv
    obtain ⟨cs, h1, h2, _⟩ := hv
    exact ⟨cs, h1, by rw [h2, cells31]⟩
  obtain ⟨fuel, hf⟩ := h
  obtain ⟨xs, m, _, _, hl, hxs, hi⟩ := DataW.trod_array Try.underlying31 hf
  have hb : ∀ i, i < 256 → ∃ b, A[i]? = some (.bool b) := fun i hi' => by
    have h1 := hi i hi'
    rw [cells4, Nat.mul_one, List.getElem?_eq_getElem (by rw [hxs]; exact hi')] at h1
    obtain ⟨b, hb, _⟩ := DataW.trod_bool Try.underlying4 h1
    have hb' : (A.toList.drop i).take 1 = [.bool b] := hb
    have h2 := congrArg (fun l : List Value => l[0]?) hb'
    simp at h2
    exact ⟨b, by simpa using h2⟩
  refine ⟨A, tabOf A, rfl, ⟨?_⟩⟩
  apply Array.ext_getElem?
  intro i
  by_cases hi' : i < 256
  · obtain ⟨b, e⟩ := hb i hi'
    rw [St.tab_get _ i hi', e]
    unfold tabOf
    rw [e]
  · rw [St.tab_none _ i hi', Array.getElem?_eq_none]
    rw [hsz]
    omega

/-! ### STEP 1: THE WALK -/
theorem walk (A : Array Value) (f : Nat → Bool) (hA : St.Tb A f) (a1 : ByteArray) (w1 : a1.size ≤ maxLen) (w : World) :
    Calls Try.prog 8 #[.agg A, .string a1] w fun e w' => e = .returned (.bool true) ∧ Below w.heap.size w w' :=
  St.incl_walk A f hA a1 w1 w

/-! ### THE ROW's STEP -/
set_option maxRecDepth 100000 in
theorem lifted (os : Os) (started : os.Started) (H : Type) (enc : TypeId × Value → H) :
    ReturnsInHanded {} Try.checked os 8 .any (Rows.fnHoldsAllIsByteSetInclusionSpec.pre6 enc Try.prog Try.f8 Rows.fnHoldsAllIsByteSetInclusionRow.domain false) (Rows.fnHoldsAllIsByteSetInclusionSpec.post enc Try.prog Try.f8 false true false false) := by
  refine returnsInHanded_of_change (C := Try.checked) own started (by kernel_rfl) Try.func8
    (ChangeSpec.witness6 (enc := enc) (C := Try.checked) false ⟨#[], #[.agg (Array.replicate 256 (.bool false)), .string ByteArray.empty], []⟩ 8 (by kernel_rfl) (by kernel_rfl) (by kernel_rfl) (by kernel_rfl)) ?_
  intro W base args ds gs before hval0 hW hcnd _
  have hval : ∀ (j : Nat) t v, Try.f8.params[j]? = some t → args[j]? = some v → Value.okWide Try.prog W .any base t v := hval0
  have hW' := hW
  obtain ⟨p, q, hA0, hV, rfl, hfz, hnd⟩ := hW
  have hA : DataW.TrodAll enc Try.prog W 0 (fun _ => true) true Try.f8.params.toList args.toList ds p := hA0
  rw [Try.params8] at hA hval
  obtain ⟨v0, vs0, d0, ds0, p0, q0, hargs, rfl, rfl, h0, r0⟩ := trodAll_cons hA
  obtain ⟨v1, vs1, d1, ds1, p1, q1, rfl, rfl, rfl, h1, r1⟩ := trodAll_cons r0
  obtain ⟨rfl, rfl, rfl⟩ := trodAll_nil r1
  obtain rfl : args = #[v0, v1] := by cases args; simp_all
  obtain ⟨rfl, rfl⟩ := trodVars_none hV
  have k0 := h0
  have lt0 : ∀ x ∈ p0, x.block < W.heap.size := by obtain ⟨m, hm⟩ := k0; exact DataW.trod_lt m _ _ _ hm
  obtain ⟨A, f, rfl, hT⟩ := open_tab (hval 0 31 v0 rfl rfl) h0
  obtain ⟨a1, rfl, rfl, rfl, w1⟩ := open_string Try.underlying9 (hval 1 9 v1 rfl rfl) h1
  clear hA0 hval0
  refine (walk A f hT a1 w1 W).mono fun e W' ⟨he, bel⟩ => ?_
  subst he
  exact ⟨_, rfl, _, _, _, [], _, [], hW', trodAll_mk1 (shut_bool Try.underlying4 _), (trodAll_cons_mk (Below.trod laidOut (by kernel_rfl) (of_decide_eq_true (by kernel_rfl)) k0 bel lt0) (trodAll_cons_mk (shut_string Try.underlying9 w1) trodAll_mk0)), rfl, bel.frame _, fun h => by cases h⟩

theorem over : Rows.fnHoldsAllIsByteSetInclusionRow.holds Try.pinned (OpenSpec.ofChange Rows.fnHoldsAllIsByteSetInclusionSpec) :=
  OpenClaim.holds_of_wide 8 Try.f8 rfl rfl rfl rfl rfl rfl rfl ⟨rfl, rfl, rfl, rfl, rfl⟩ rfl rfl rfl rfl rfl (by kernel_rfl) Try.func8 (by kernel_rfl)
    (of_decide_eq_true (by kernel_rfl)) (by unfold Func.isWrapper; first | (rw [if_pos (by decide +kernel)]; kernel_rfl) | (rw [if_neg (by decide +kernel)]; exact ⟨rfl, rfl⟩))
    (fun os started H enc _ => lifted os started H enc)

/-- ████ THE STATEMENT ████ -/
theorem proved : Rows.FnHoldsAllIsByteSetInclusionSaid := over
end Go.Proofs.Qxb6603695a.fnHoldsAllIsByteSetInclusion
