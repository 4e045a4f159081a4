/-
  THE PLAIN MATHEMATICS of the hexprefix form: no Go in sight. By an AI agent.
-/
namespace Go.Proofs.Qxb6603387a.Hp

/-- Two nibbles to a byte. -/
def pack : List Int → List Int
  | a :: b :: r => (a * 16 + b) :: pack r
  | _ => []

def fl (n : Nat) (leaf : Bool) : Int := ((n % 2 : Nat) : Int) + if leaf = true then 2 else 0

/-- The hexprefix form of a path. -/
def enc (p : List Int) (leaf : Bool) : List Int :=
  if p.length % 2 = 1 then (fl p.length leaf * 16 + p.getD 0 0) :: pack (p.drop 1) else (fl p.length leaf * 16) :: pack p

def Nib (p : List Int) : Prop := ∀ x ∈ p, 0 ≤ x ∧ x ≤ 15

theorem pack_take (p : List Int) (k : Nat) (h : 2 * k + 1 < p.length) :
    pack (p.take (2 * k + 2)) = pack (p.take (2 * k)) ++ [p.getD (2 * k) 0 * 16 + p.getD (2 * k + 1) 0] := by
  induction k generalizing p with
  | zero =>
    match p, h with
    | a :: b :: r, _ => simp [pack]
    | [_], h => simp at h
    | [], h => simp at h
  | succ k ih =>
    match p, h with
    | a :: b :: r, h =>
      have e1 : 2 * (k + 1) + 2 = (2 * k + 2) + 1 + 1 := by omega
      have e2 : 2 * (k + 1) = (2 * k) + 1 + 1 := by omega
      have e3 : 2 * (k + 1) + 1 = (2 * k + 1) + 1 + 1 := by omega
      have hr := ih r (by simp at h; omega)
      rw [e1, e3, e2]
      simp only [List.take_succ_cons, pack, List.cons_append, List.getD_cons_succ]
      rw [hr]
    | [_], h => simp at h
    | [], h => simp at h

theorem pack_length (p : List Int) : (pack p).length = p.length / 2 := by
  match p with
  | [] => rfl
  | [_] => simp [pack]
  | a :: b :: r =>
    have := pack_length r
    simp only [pack, List.length_cons, this]
    omega

theorem pack_range (p : List Int) (h : Nib p) : ∀ x ∈ pack p, 0 ≤ x ∧ x ≤ 255 := by
  match p with
  | [] => intro x hx; simp [pack] at hx
  | [_] => intro x hx; simp [pack] at hx
  | a :: b :: r =>
    intro x hx
    simp only [pack, List.mem_cons] at hx
    have ha := h a (by simp)
    have hb := h b (by simp)
    rcases hx with rfl | hx
    · omega
    · exact pack_range r (fun y hy => h y (by simp [hy])) x hx

/-- An odd tail's last nibble is not packed. -/
theorem pack_inj (p q : List Int) (hp : Nib p) (hq : Nib q) (ep : p.length % 2 = 0) (eq : q.length % 2 = 0) (h : pack p = pack q) : p = q := by
  match p, q with
  | [], [] => rfl
  | [], c :: d :: s => simp [pack] at h
  | a :: b :: r, [] => simp [pack] at h
  | [_], _ => simp at ep
  | _, [_] => simp at eq
  | a :: b :: r, c :: d :: s =>
    simp only [pack, List.cons.injEq] at h
    have ha := hp a (by simp)
    have hb := hp b (by simp)
    have hc := hq c (by simp)
    have hd := hq d (by simp)
    have hr := pack_inj r s (fun y hy => hp y (by simp [hy])) (fun y hy => hq y (by simp [hy])) (by simp at ep; omega) (by simp at eq; omega) h.2
    have h1 : a = c := by omega
    have h2 : b = d := by omega
    rw [h1, h2, hr]

theorem nib_drop (p : List Int) (n : Nat) (h : Nib p) : Nib (p.drop n) := fun x hx => h x (List.mem_of_mem_drop hx)

theorem nib_getD (p : List Int) (n : Nat) (h : Nib p) : 0 ≤ p.getD n 0 ∧ p.getD n 0 ≤ 15 := by
  by_cases hn : n < p.length
  · have : p.getD n 0 = p[n] := by simp [List.getD, hn]
    rw [this]
    exact h _ (List.getElem_mem hn)
  · have : p.getD n 0 = 0 := by simp [List.getD, hn]
    rw [this]
    omega

theorem fl_range (n : Nat) (l : Bool) : 0 ≤ fl n l ∧ fl n l ≤ 3 := by
  unfold fl
  cases l <;> simp <;> omega

theorem enc_range (p : List Int) (l : Bool) (h : Nib p) : ∀ x ∈ enc p l, 0 ≤ x ∧ x ≤ 255 := by
  have hf := fl_range p.length l
  have h0 := nib_getD p 0 h
  intro x hx
  unfold enc at hx
  split at hx
  · rcases List.mem_cons.1 hx with rfl | hx
    · omega
    · exact pack_range _ (nib_drop p 1 h) x hx
  · rcases List.mem_cons.1 hx with rfl | hx
    · omega
    · exact pack_range _ h x hx

theorem enc_length (p : List Int) (l : Bool) : (enc p l).length = p.length / 2 + 1 := by
  unfold enc
  split
  · simp only [List.length_cons, pack_length, List.length_drop]; omega
  · simp only [List.length_cons, pack_length]

theorem odd_cons (p : List Int) (h : p.length % 2 = 1) : ∃ a r, p = a :: r := by
  match p with
  | [] => simp at h
  | a :: r => exact ⟨a, r, rfl⟩

theorem enc_inj (p q : List Int) (l m : Bool) (hp : Nib p) (hq : Nib q) (h : enc p l = enc q m) : l = m ∧ p = q := by
  have h0 := nib_getD p 0 hp
  have h1 := nib_getD q 0 hq
  unfold enc at h
  by_cases op : p.length % 2 = 1 <;> by_cases oq : q.length % 2 = 1
  · rw [if_pos op, if_pos oq] at h
    obtain ⟨ha, hb⟩ := List.cons.inj h
    obtain ⟨a, r, rfl⟩ := odd_cons p op
    obtain ⟨c, s, rfl⟩ := odd_cons q oq
    have hrs : r = s := pack_inj r s (nib_drop _ 1 hp) (nib_drop _ 1 hq) (by simp at op; omega) (by simp at oq; omega) hb
    unfold fl at ha
    rw [op, oq] at ha
    simp only [List.getD_cons_zero] at ha h0 h1
    cases l <;> cases m <;> simp at ha ⊢
    · exact ⟨by omega, hrs⟩
    · omega
    · omega
    · exact ⟨by omega, hrs⟩
  · rw [if_pos op, if_neg oq] at h
    obtain ⟨ha, hb⟩ := List.cons.inj h
    unfold fl at ha
    rw [op, show q.length % 2 = 0 from by omega] at ha
    exfalso
    clear h hb
    generalize p.getD 0 0 = a at *
    cases l <;> cases m <;> simp at ha <;> omega
  · rw [if_neg op, if_pos oq] at h
    obtain ⟨ha, hb⟩ := List.cons.inj h
    unfold fl at ha
    rw [oq, show p.length % 2 = 0 from by omega] at ha
    exfalso
    clear h hb
    generalize q.getD 0 0 = a at *
    cases l <;> cases m <;> simp at ha <;> omega
  · rw [if_neg op, if_neg oq] at h
    obtain ⟨ha, hb⟩ := List.cons.inj h
    have hrs : p = q := pack_inj p q hp hq (by omega) (by omega) hb
    unfold fl at ha
    rw [show q.length % 2 = 0 from by omega, show p.length % 2 = 0 from by omega] at ha
    cases l <;> cases m <;> simp at ha ⊢ <;> exact hrs

/-! ### Reading back -/
def unpack : List Int → List Int
  | x :: r => (x / 16) :: (x % 16) :: unpack r
  | [] => []

theorem unpack_pack (p : List Int) (hp : Nib p) (ep : p.length % 2 = 0) : unpack (pack p) = p := by
  match p with
  | [] => rfl
  | [_] => simp at ep
  | a :: b :: r =>
    have ha := hp a (by simp)
    have hb := hp b (by simp)
    have hr := unpack_pack r (fun y hy => hp y (by simp [hy])) (by simp at ep; omega)
    simp only [pack, unpack, hr]
    rw [show (a * 16 + b) / 16 = a from by omega, show (a * 16 + b) % 16 = b from by omega]

theorem unpack_take (e : List Int) (k : Nat) (h : k < e.length) : unpack (e.take (k + 1)) = unpack (e.take k) ++ [e.getD k 0 / 16, e.getD k 0 % 16] := by
  induction k generalizing e with
  | zero =>
    match e, h with
    | a :: r, _ => simp [unpack]
    | [], h => simp at h
  | succ k ih =>
    match e, h with
    | a :: r, h =>
      have hr := ih r (by simp at h; omega)
      simp only [List.take_succ_cons, unpack, List.cons_append, List.getD_cons_succ]
      rw [hr]
    | [], h => simp at h

theorem unpack_length (e : List Int) : (unpack e).length = 2 * e.length := by
  induction e with
  | nil => rfl
  | cons a r ih => simp only [unpack, List.length_cons, ih]; omega

/-- The first byte of a form: what the reader takes out of it. -/
theorem enc_head (p : List Int) (l : Bool) (hp : Nib p) :
    ∃ c r, enc p l = c :: r ∧ 0 ≤ c ∧ c ≤ 255 ∧ c / 16 ≤ 3 ∧ decide (2 ≤ c / 16) = l ∧
      ((p.length % 2 = 1 ∧ c / 16 % 2 = 1 ∧ [c % 16] ++ unpack r = p) ∨ (p.length % 2 = 0 ∧ c / 16 % 2 = 0 ∧ c % 16 = 0 ∧ unpack r = p)) := by
  have h0 := nib_getD p 0 hp
  by_cases op : p.length % 2 = 1
  · obtain ⟨a, r, rfl⟩ := odd_cons p op
    have ha := hp a (by simp)
    refine ⟨_, _, by unfold enc; rw [if_pos op], ?_⟩
    unfold fl
    rw [op]
    simp only [List.getD_cons_zero, List.drop_succ_cons, List.drop_zero]
    rw [unpack_pack r (nib_drop _ 1 hp) (by simp at op; omega)]
    cases l
    · simp only [Bool.false_eq_true, if_false]
      refine ⟨by omega, by omega, by omega, by simp; omega, .inl ⟨trivial, by omega, ?_⟩⟩
      rw [show (((1 : Nat) : Int) + 0) * 16 + a = a + 16 from by omega, show (a + 16) % 16 = a from by omega]
      rfl
    · simp only [if_true]
      refine ⟨by omega, by omega, by omega, by simp; omega, .inl ⟨trivial, by omega, ?_⟩⟩
      rw [show ((((1 : Nat) : Int) + 2) * 16 + a) % 16 = a from by omega]
      rfl
  · refine ⟨_, _, by unfold enc; rw [if_neg op], ?_⟩
    unfold fl
    rw [show p.length % 2 = 0 from by omega]
    rw [unpack_pack p hp (by omega)]
    cases l
    · simp
    · simp

/-- The model's road: the nibble stream, packed. -/
def stream (p : List Int) (l : Bool) : List Int := fl p.length l :: ((if p.length % 2 = 1 then [] else [0]) ++ p)

theorem stream_length (p : List Int) (l : Bool) : (stream p l).length % 2 = 0 ∧ (stream p l).length ≤ p.length + 2 := by
  unfold stream
  split <;> simp <;> omega

theorem pack_stream (p : List Int) (l : Bool) : pack (stream p l) = enc p l := by
  unfold stream enc
  by_cases op : p.length % 2 = 1
  · rw [if_pos op, if_pos op]
    obtain ⟨a, r, rfl⟩ := odd_cons p op
    simp [pack]
  · rw [if_neg op, if_neg op]
    simp [pack]

theorem stream_nib (p : List Int) (l : Bool) (hp : Nib p) : Nib (stream p l) := by
  have hf := fl_range p.length l
  unfold stream
  intro x hx
  rcases List.mem_cons.1 hx with rfl | hx
  · omega
  · rcases List.mem_append.1 hx with hx | hx
    · split at hx
      · simp at hx
      · simp at hx; omega
    · exact hp x hx

end Go.Proofs.Qxb6603387a.Hp
