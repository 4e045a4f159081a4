/-
  THE PLAIN MATHEMATICS of sets of bytes: no Go in sight. By an AI agent.
-/
namespace Go.Proofs.Qxb6603695a.St

/-- Is every member of f below 256 a member of g? -/
def subB (f g : Nat → Bool) : Bool := (List.range 256).all fun c => !f c || g c

theorem subB_true (f g : Nat → Bool) (h : ∀ c, c < 256 → f c = true → g c = true) : subB f g = true := by
  unfold subB
  rw [List.all_eq_true]
  intro c hc
  have hc' := List.mem_range.1 hc
  cases hf : f c
  · simp
  · simp [h c hc' hf]

theorem subB_false (f g : Nat → Bool) (c : Nat) (hc : c < 256) (hf : f c = true) (hg : g c = false) : subB f g = false := by
  unfold subB
  rw [List.all_eq_false]
  exact ⟨c, List.mem_range.2 hc, by simp [hf, hg]⟩

theorem of_subB (f g : Nat → Bool) (h : subB f g = true) (c : Nat) (hc : c < 256) (hf : f c = true) : g c = true := by
  unfold subB at h
  rw [List.all_eq_true] at h
  have := h c (List.mem_range.2 hc)
  simpa [hf] using this

/-- The bytes among the first k of l. -/
def occ (l : List Nat) (c : Nat) : Bool := l.any fun b => b == c

theorem occ_iff (l : List Nat) (c : Nat) : occ l c = true ↔ c ∈ l := by
  unfold occ
  rw [List.any_eq_true]
  constructor
  · rintro ⟨b, hb, e⟩
    have : b = c := by simpa using e
    rw [← this]; exact hb
  · intro h
    exact ⟨c, h, by simp⟩

/-- An NQCHAR. -/
def nq (c : Nat) : Bool := c == 33 || (decide (35 ≤ c) && decide (c ≤ 91)) || (decide (93 ≤ c) && decide (c ≤ 126))

/-- Does every byte of l lie in g? -/
def inAll (l : List Nat) (g : Nat → Bool) : Bool := l.all g

theorem inAll_sub (l : List Nat) (g : Nat → Bool) (h : ∀ b ∈ l, b < 256) : subB (occ l) g = inAll l g := by
  rw [Bool.eq_iff_iff]
  constructor
  · intro hs
    unfold inAll
    rw [List.all_eq_true]
    intro b hb
    exact of_subB _ _ hs b (h b hb) ((occ_iff l b).2 hb)
  · intro ha
    unfold inAll at ha
    rw [List.all_eq_true] at ha
    exact subB_true _ _ fun c _ hf => ha c ((occ_iff l c).1 hf)

theorem inAll_false (l : List Nat) (g : Nat → Bool) (k : Nat) (h : k < l.length) (hg : g (l.getD k 0) = false) : inAll l g = false := by
  unfold inAll
  rw [List.all_eq_false]
  refine ⟨l[k], List.getElem_mem h, ?_⟩
  have e : l.getD k 0 = l[k] := by simp [List.getD, h]
  rw [e] at hg
  simp [hg]

theorem inAll_true (l : List Nat) (g : Nat → Bool) (h : ∀ k, k < l.length → g (l.getD k 0) = true) : inAll l g = true := by
  unfold inAll
  rw [List.all_eq_true]
  intro b hb
  obtain ⟨k, hk, rfl⟩ := List.getElem_of_mem hb
  have := h k hk
  have e : l.getD k 0 = l[k] := by simp [List.getD, hk]
  rwa [e] at this

end Go.Proofs.Qxb6603695a.St
