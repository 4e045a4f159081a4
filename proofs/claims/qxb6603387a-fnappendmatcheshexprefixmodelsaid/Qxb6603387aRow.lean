/-
  FROM A SLICE THAT CAME IN (the frame's 'IsRow') TO 'Sl'. By an AI agent; 'IsRow' is the kit's program's own.
-/
import Derived.Test.Qxb6603387aBase
namespace Go.Proofs.Qxb6603387a.Hp
open Go.RowKit

/-- WHAT THE WALK IS TOLD OF A SLICE OF INTEGERS THAT CAME IN: it is nil; or it leads to a row of 'cap' cells, the numbers 'zs' (the first 'len' are its elements, the rest its spare room), each fitting its kind. -/
def IsRow (k : IntKind) (w : World) (a : Option Addr) (len cap : Nat) (zs : List Int) : Prop :=
  (a = none ∧ len = 0 ∧ cap = 0 ∧ zs = []) ∨
  ∃ x, a = some x ∧ len ≤ cap ∧ cap ≤ maxLen ∧ zs.length = cap ∧ (∀ i, i < zs.length → w.cell? (x.add i) = some (.int k (zs.getD i 0))) ∧ ∀ n ∈ zs, (Lit.int k n).wf = true

theorem sl_of_row {w : World} {a : Option Addr} {len cap : Nat} {zs : List Int} (h : IsRow .u8 w a len cap zs) : Sl w a len (zs.take len) ∧ (a = none → len = 0) ∧ len ≤ maxLen := by
  rcases h with ⟨rfl, rfl, rfl, rfl⟩ | ⟨x, rfl, hlc, hm, hz, hc, hw⟩
  · exact ⟨⟨rfl, fun x hx => by simp at hx, .inl rfl⟩, fun _ => rfl, Nat.zero_le _⟩
  · refine ⟨⟨by rw [List.length_take]; omega, ?_, ?_⟩, (fun e => by simp at e), Nat.le_trans hlc hm⟩
    · intro n hn
      have := hw n (List.mem_of_mem_take hn)
      simp [Lit.wf, IntKind.min, IntKind.max, IntKind.signed, IntKind.bits] at this
      exact ⟨by omega, by omega⟩
    · by_cases h0 : len = 0
      · exact .inl h0
      · right
        obtain ⟨b, off, spot⟩ := x
        have hspot : spot = none := by simpa [Addr.add] using World.cell?_spot (hc 0 (by omega))
        subst hspot
        have hb := World.block_lt_of_cell? w _ (hc 0 (by omega))
        refine ⟨b, off, rfl, by simpa [Addr.add_lit] using hb, fun i hi => ?_⟩
        have := hc i (by omega)
        rw [Addr.add_lit] at this
        rw [this]
        simp [List.getD, hi]
end Go.Proofs.Qxb6603387a.Hp
