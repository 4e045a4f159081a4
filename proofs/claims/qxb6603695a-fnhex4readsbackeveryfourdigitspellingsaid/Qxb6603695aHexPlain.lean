/-
  THE PLAIN MATHEMATICS of four hexadecimal digits: no Go in sight. By an AI agent.
-/
namespace Go.Proofs.Qxb6603695a.Hx

/-- The value of a hexadecimal digit in either case, or -1. -/
def dg (c : Int) : Int := if 48 ≤ c ∧ c ≤ 57 then c - 48 else if 97 ≤ c ∧ c ≤ 102 then c - 87 else if 65 ≤ c ∧ c ≤ 70 then c - 55 else -1

def lowf (k : Int) : Int := if k < 10 then 48 + k else 87 + k
def upf (k : Int) : Int := if k < 10 then 48 + k else 55 + k

theorem dg_low (k : Int) (h0 : 0 ≤ k) (h : k < 16) : dg (lowf k) = k := by
  unfold dg lowf
  repeat' split
  all_goals omega

theorem dg_up (k : Int) (h0 : 0 ≤ k) (h : k < 16) : dg (upf k) = k := by
  unfold dg upf
  repeat' split
  all_goals omega

theorem dg_none (c : Int) (h : ∀ j : Nat, j < 16 → lowf j ≠ c ∧ upf j ≠ c) : dg c = -1 := by
  unfold dg
  split
  · have := (h (c - 48).toNat (by omega)).1
    unfold lowf at this
    split at this <;> omega
  · split
    · have := (h (c - 87).toNat (by omega)).1
      unfold lowf at this
      split at this <;> omega
    · split
      · have := (h (c - 55).toNat (by omega)).2
        unfold upf at this
        split at this <;> omega
      · rfl

theorem dg_range (c : Int) : -1 ≤ dg c ∧ dg c ≤ 15 := by
  unfold dg
  repeat' split
  all_goals omega

/-- The number that four digits spell, or -1. -/
def hv (a b c d : Int) : Int := if dg a < 0 ∨ dg b < 0 ∨ dg c < 0 ∨ dg d < 0 then -1 else dg a * 4096 + dg b * 256 + dg c * 16 + dg d

/-- The number behind k digits. -/
def pv (f : Nat → Int) : Nat → Int
  | 0 => 0
  | k + 1 => pv f k * 16 + dg (f k)

theorem pv_range (f : Nat → Int) (k : Nat) (h : ∀ j, j < k → 0 ≤ dg (f j)) : 0 ≤ pv f k ∧ pv f k < 16 ^ k := by
  induction k with
  | zero => simp [pv]
  | succ k ih =>
    have hk := ih (fun j hj => h j (by omega))
    have h1 := h k (by omega)
    have h2 := dg_range (f k)
    have e : (16 : Int) ^ (k + 1) = 16 ^ k * 16 := by rw [Int.pow_succ]
    rw [e]
    simp only [pv]
    generalize (16 : Int) ^ k = P at *
    omega

theorem pv_small (f : Nat → Int) (k : Nat) (hk : k < 4) (h : ∀ j, j < k → 0 ≤ dg (f j)) : 0 ≤ pv f k ∧ pv f k ≤ 4095 := by
  have hr := pv_range f k h
  refine ⟨hr.1, ?_⟩
  have h2 := hr.2
  match k, hk with
  | 0, _ => simp at h2; omega
  | 1, _ => simp at h2; omega
  | 2, _ => have e : (16 : Int) ^ 2 = 256 := by decide
            rw [e] at h2; omega
  | 3, _ => have e : (16 : Int) ^ 3 = 4096 := by decide
            rw [e] at h2; omega

theorem hv_bad (f : Nat → Int) (k : Nat) (hk : k < 4) (h : dg (f k) < 0) : hv (f 0) (f 1) (f 2) (f 3) = -1 := by
  unfold hv
  rw [if_pos]
  match k, hk with
  | 0, _ => exact .inl h
  | 1, _ => exact .inr (.inl h)
  | 2, _ => exact .inr (.inr (.inl h))
  | 3, _ => exact .inr (.inr (.inr h))

theorem hv_good (f : Nat → Int) (h : ∀ j, j < 4 → 0 ≤ dg (f j)) : hv (f 0) (f 1) (f 2) (f 3) = pv f 4 := by
  have h0 := h 0 (by omega)
  have h1 := h 1 (by omega)
  have h2 := h 2 (by omega)
  have h3 := h 3 (by omega)
  unfold hv
  rw [if_neg (by omega)]
  simp only [pv]
  omega

end Go.Proofs.Qxb6603695a.Hx
