/-
  PLAIN LAWS for seat b6617527a: no Go in sight. Percent-encoding of a list of bytes.
-/
namespace Go.Proofs.Qxb6617527a.Plain

/-- is the byte unreserved? -/
def unr (c : Nat) : Bool := (decide (97 ≤ c) && decide (c ≤ 122)) || (decide (65 ≤ c) && decide (c ≤ 90)) || (decide (48 ≤ c) && decide (c ≤ 57)) || decide (c = 45) || decide (c = 46) || decide (c = 95) || decide (c = 126)
theorem unr_iff (c : Nat) : unr c = true ↔ ((97 ≤ c ∧ c ≤ 122) ∨ (65 ≤ c ∧ c ≤ 90) ∨ (48 ≤ c ∧ c ≤ 57) ∨ c = 45 ∨ c = 46 ∨ c = 95 ∨ c = 126) := by
  unfold unr; simp only [Bool.or_eq_true, Bool.and_eq_true, decide_eq_true_eq]; omega

/-- the upper-case hex digit of n, as a number -/
def hxN (n : Nat) : Nat := if n < 10 then 48 + n else 55 + n
def hx (n : Nat) : UInt8 := UInt8.ofNat (hxN n)
theorem hx_toNat (n : Nat) (h : n < 16) : (hx n).toNat = hxN n := by
  unfold hx
  rw [UInt8.toNat_ofNat']
  unfold hxN
  split <;> omega

/-- one byte, encoded -/
def ec (c : UInt8) : List UInt8 := if unr c.toNat then [c] else [37, hx (c.toNat / 16), hx (c.toNat % 16)]
/-- a text, encoded -/
def esc : List UInt8 → List UInt8
  | [] => []
  | c :: t => ec c ++ esc t
theorem esc_append (a b : List UInt8) : esc (a ++ b) = esc a ++ esc b := by
  induction a with
  | nil => rfl
  | cons c t ih => simp [esc, ih]
theorem esc_snoc (a : List UInt8) (c : UInt8) : esc (a ++ [c]) = esc a ++ ec c := by
  rw [esc_append]; simp [esc]
theorem ec_len (c : UInt8) : (ec c).length ≤ 3 ∧ 1 ≤ (ec c).length := by
  unfold ec; split <;> simp
theorem esc_len (a : List UInt8) : (esc a).length ≤ 3 * a.length ∧ a.length ≤ (esc a).length := by
  induction a with
  | nil => simp [esc]
  | cons c t ih =>
    have := ec_len c
    simp only [esc, List.length_append, List.length_cons]
    omega
theorem byte_lt (c : UInt8) : c.toNat < 256 := c.toNat_lt
theorem ec_no (c : UInt8) : ∀ x ∈ ec c, x ≠ 38 := by
  have hb := byte_lt c
  intro x hx' e
  subst e
  unfold ec at hx'
  by_cases h : unr c.toNat = true
  · rw [if_pos h] at hx'
    have e2 : (38 : UInt8) = c := by simpa using hx'
    rw [unr_iff, ← e2] at h
    revert h
    decide
  · rw [if_neg h] at hx'
    have h1 := hx_toNat (c.toNat / 16) (by omega)
    have h2 := hx_toNat (c.toNat % 16) (by omega)
    simp only [List.mem_cons, List.not_mem_nil, or_false] at hx'
    rcases hx' with e | e | e
    · exact absurd e (by decide)
    · rw [← e] at h1; unfold hxN at h1; revert h1; split <;> (intro h1; have : (38 : UInt8).toNat = 38 := rfl; omega)
    · rw [← e] at h2; unfold hxN at h2; revert h2; split <;> (intro h2; have : (38 : UInt8).toNat = 38 := rfl; omega)
theorem esc_no (a : List UInt8) : ∀ x ∈ esc a, x ≠ 38 := by
  induction a with
  | nil => intro x hx'; cases hx'
  | cons c t ih =>
    intro x hx'
    simp only [esc, List.mem_append] at hx'
    rcases hx' with h | h
    · exact ec_no c x h
    · exact ih x h

/-- byte i of a list, as a number; 0 behind its end -/
def bl (l : List UInt8) (i : Nat) : Int := ((l[i]?.map fun c => (c.toNat : Int)).getD 0)
theorem bl_nil (i : Nat) : bl [] i = 0 := rfl
theorem bl_zero (c : UInt8) (t : List UInt8) : bl (c :: t) 0 = c.toNat := rfl
theorem bl_succ (c : UInt8) (t : List UInt8) (i : Nat) : bl (c :: t) (i + 1) = bl t i := rfl
theorem bl_right (a b : List UInt8) (i : Nat) : bl (a ++ b) (a.length + i) = bl b i := by
  unfold bl; rw [List.getElem?_append_right (by omega)]; simp
theorem bl_left (a b : List UInt8) (i : Nat) (h : i < a.length) : bl (a ++ b) i = bl a i := by
  unfold bl; rw [List.getElem?_append_left h]
theorem bl_get (l : List UInt8) (i : Nat) (h : i < l.length) : bl l i = (l[i].toNat : Int) := by
  unfold bl; rw [List.getElem?_eq_getElem h]; rfl
theorem bl_end (l : List UInt8) (i : Nat) (h : l.length ≤ i) : bl l i = 0 := by
  unfold bl; rw [List.getElem?_eq_none h]; rfl
theorem bl_no (l : List UInt8) (h : ∀ x ∈ l, x ≠ 38) (i : Nat) : bl l i ≠ 38 := by
  by_cases hi : i < l.length
  · rw [bl_get l i hi]
    intro e
    refine h _ (List.getElem_mem hi) (UInt8.toNat_inj.1 ?_)
    have : (38 : UInt8).toNat = 38 := rfl
    omega
  · rw [bl_end l i (by omega)]; omega

/-- where the code of byte j stands -/
def at_ (l : List UInt8) (j : Nat) : Nat := (esc (l.take j)).length
theorem at_zero (l : List UInt8) : at_ l 0 = 0 := by simp [at_, esc]
theorem at_end (l : List UInt8) : at_ l l.length = (esc l).length := by simp [at_]
theorem split_at (l : List UInt8) (j : Nat) (h : j < l.length) : esc l = esc (l.take j) ++ (ec l[j] ++ esc (l.drop (j + 1))) := by
  have e : l = l.take j ++ (l[j] :: l.drop (j + 1)) := by
    rw [List.getElem_cons_drop, List.take_append_drop]
  have e2 : esc l = esc (l.take j ++ (l[j] :: l.drop (j + 1))) := by rw [← e]
  rw [e2, esc_append]
  rfl
theorem at_succ (l : List UInt8) (j : Nat) (h : j < l.length) : at_ l (j + 1) = at_ l j + (ec l[j]).length := by
  unfold at_
  rw [List.take_succ_eq_append_getElem h, esc_snoc, List.length_append]
theorem at_in (l : List UInt8) (j : Nat) (h : j < l.length) : at_ l j + (ec l[j]).length ≤ (esc l).length := by
  have := split_at l j h
  rw [this]
  simp only [List.length_append]
  unfold at_
  omega
/-- the bytes that stand there -/
theorem code_plain (l : List UInt8) (j : Nat) (h : j < l.length) (hu : unr l[j].toNat = true) : bl (esc l) (at_ l j) = (l[j].toNat : Int) ∧ at_ l (j + 1) = at_ l j + 1 := by
  have e : ec l[j] = [l[j]] := by unfold ec; rw [if_pos hu]
  refine ⟨?_, by rw [at_succ l j h, e]; rfl⟩
  rw [split_at l j h]
  have := bl_right (esc (l.take j)) (ec l[j] ++ esc (l.drop (j + 1))) 0
  show bl _ ((esc (l.take j)).length + 0) = _
  rw [this, e]
  rfl
theorem code_hex (l : List UInt8) (j : Nat) (h : j < l.length) (hu : unr l[j].toNat = false) :
    bl (esc l) (at_ l j) = 37 ∧ bl (esc l) (at_ l j + 1) = hxN (l[j].toNat / 16) ∧ bl (esc l) (at_ l j + 2) = hxN (l[j].toNat % 16) ∧ at_ l (j + 1) = at_ l j + 3 ∧ at_ l j + 3 ≤ (esc l).length := by
  have hb := byte_lt l[j]
  have e : ec l[j] = [37, hx (l[j].toNat / 16), hx (l[j].toNat % 16)] := by unfold ec; rw [if_neg (by rw [hu]; decide)]
  have b : ∀ d, bl (esc l) (at_ l j + d) = bl (ec l[j] ++ esc (l.drop (j + 1))) d := by
    intro d
    rw [split_at l j h]
    exact bl_right (esc (l.take j)) _ d
  refine ⟨?_, ?_, ?_, ?_, ?_⟩
  · show bl (esc l) (at_ l j + 0) = _
    rw [b 0, e]; rfl
  · rw [b 1, e, List.cons_append, bl_succ, List.cons_append, bl_zero, hx_toNat _ (by omega)]
  · rw [b 2, e, List.cons_append, bl_succ, List.cons_append, bl_succ, List.cons_append, bl_zero, hx_toNat _ (by omega)]
  · rw [at_succ l j h, e]; rfl
  · have := at_in l j h; rw [e] at this; exact this
end Go.Proofs.Qxb6617527a.Plain
