/-
  PLAIN LAWS for seat b6617327a: no Go in sight. Digits and their values; the clamped long and its low 32 bits; offsets of a substring.
-/
namespace Go.Proofs.Qxb6617327a.Plain

/-- the value of the n digits f 0 .. f (n-1), the first the highest -/
def val (f : Nat → Nat) : Nat → Nat
  | 0 => 0
  | n + 1 => 10 * val f n + f n

theorem val_congr {f g : Nat → Nat} : ∀ {n : Nat}, (∀ m, m < n → f m = g m) → val f n = val g n
  | 0, _ => rfl
  | n + 1, h => by
    have e := val_congr (n := n) fun m hm => h m (by omega)
    have e2 := h n (by omega)
    simp only [val, e, e2]

theorem val_lt {f : Nat → Nat} : ∀ {n : Nat}, (∀ m, m < n → f m ≤ 9) → val f n < 10 ^ n
  | 0, _ => by simp [val]
  | n + 1, h => by
    have e := val_lt (n := n) fun m hm => h m (by omega)
    have e2 := h n (by omega)
    simp only [val, Nat.pow_succ]
    omega

theorem val_ge {f : Nat → Nat} (h0 : 1 ≤ f 0) : ∀ (n : Nat), 10 ^ n ≤ val f (n + 1)
  | 0 => by simp [val]; omega
  | n + 1 => by
    have e := val_ge h0 n
    rw [val, Nat.pow_succ]
    omega

/-- leading zeros count for nothing -/
theorem val_zeros {f : Nat → Nat} (z : Nat) (h : ∀ m, m < z → f m = 0) : ∀ (n : Nat), val f (z + n) = val (fun m => f (z + m)) n
  | 0 => by
    have : ∀ z, (∀ m, m < z → f m = 0) → val f z = 0 := by
      intro z
      induction z with
      | zero => intro _; rfl
      | succ z ih => intro h; simp only [val]; rw [ih fun m hm => h m (by omega), h z (by omega)]
    simpa [val] using this z h
  | n + 1 => by
    have e := val_zeros z h n
    rw [show z + (n + 1) = (z + n) + 1 from by omega]
    simp only [val, e]

theorem val_gt {f g : Nat → Nat} {i : Nat} (hg : ∀ m, g m ≤ 9) (he : ∀ m, m < i → f m = g m) (hi : g i < f i) : ∀ (d : Nat), val g (i + 1 + d) < val f (i + 1 + d)
  | 0 => by
    have e := val_congr he
    show 10 * val g i + g i < 10 * val f i + f i
    omega
  | d + 1 => by
    have e := val_gt hg he hi d
    have e2 := hg (i + 1 + d)
    show 10 * val g (i + 1 + d) + g (i + 1 + d) < 10 * val f (i + 1 + d) + f (i + 1 + d)
    omega

/-- 2^63, behind a plain name -/
def L : Nat := 9223372036854775808

/-- the digits of 2^63 -/
def lim : List Nat := [9, 2, 2, 3, 3, 7, 2, 0, 3, 6, 8, 5, 4, 7, 7, 5, 8, 0, 8]
def limF (m : Nat) : Nat := lim.getD m 0
theorem lim_val : val limF 19 = L := by decide +kernel
theorem lim_le : ∀ m, limF m ≤ 9 := by
  intro m
  by_cases h : m < 19
  · have : ∀ m : Fin 19, limF m ≤ 9 := by decide +kernel
    exact this ⟨m, h⟩
  · have : lim[m]? = none := by rw [List.getElem?_eq_none]; simp [lim]; omega
    simp [limF, List.getD, this]

theorem long_ge {f : Nat → Nat} {n : Nat} (h0 : 1 ≤ f 0) (hn : 19 < n) : L ≤ val f n := by
  obtain ⟨k, rfl⟩ : ∃ k, n = k + 1 := ⟨n - 1, by omega⟩
  have h1 := val_ge h0 k
  have h2 : 10 ^ 19 ≤ 10 ^ k := Nat.pow_le_pow_right (by omega) (by omega)
  have h3 : L ≤ 10 ^ 19 := by decide +kernel
  omega
theorem short_lt {f : Nat → Nat} {n : Nat} (hf : ∀ m, m < n → f m ≤ 9) (hn : n < 19) : val f n < L := by
  have h1 := val_lt hf
  have h2 : 10 ^ n ≤ 10 ^ 18 := Nat.pow_le_pow_right (by omega) (by omega)
  have h3 : 10 ^ 18 ≤ L := by decide +kernel
  omega
theorem same_ge {f : Nat → Nat} (he : ∀ m, m < 19 → f m = limF m) : L ≤ val f 19 := by
  rw [val_congr he, lim_val]; exact Nat.le_refl _
theorem above_ge {f : Nat → Nat} {i : Nat} (hi : i < 19) (he : ∀ m, m < i → f m = limF m) (hgt : limF i < f i) : L ≤ val f 19 := by
  have h := val_gt (f := f) (g := limF) lim_le he hgt (18 - i)
  rw [show i + 1 + (18 - i) = 19 from by omega, lim_val] at h
  omega
theorem below_lt {f : Nat → Nat} {i : Nat} (hf : ∀ m, f m ≤ 9) (hi : i < 19) (he : ∀ m, m < i → f m = limF m) (hlt : f i < limF i) : val f 19 < L := by
  have h := val_gt (f := limF) (g := f) hf (fun m hm => (he m hm).symm) hlt (18 - i)
  rw [show i + 1 + (18 - i) = 19 from by omega, lim_val] at h
  exact h

/-! ### the clamp -/
/-- what the loop holds behind n digits -/
def cl (f : Nat → Nat) (n : Nat) : Nat := min (val f n) L
theorem cl_le (f : Nat → Nat) (n : Nat) : cl f n ≤ L := Nat.min_le_right _ _
theorem cl_zero (f : Nat → Nat) : cl f 0 = 0 := by simp [cl, val]
theorem cl_hi {f : Nat → Nat} {n : Nat} (hd : f n ≤ 9) (h : (L - f n) / 10 < cl f n) : cl f (n + 1) = L := by
  unfold cl L at *
  simp only [val]
  omega
theorem cl_lo {f : Nat → Nat} {n : Nat} (hd : f n ≤ 9) (h : ¬ (L - f n) / 10 < cl f n) : cl f (n + 1) = cl f n * 10 + f n := by
  unfold cl L at *
  simp only [val]
  omega

/-- the low 32 bits, read with a sign -/
def lo32 (x : Int) : Int := (x + 2147483648) % 4294967296 - 2147483648
/-- strtol's long, clamped, cut to its low 32 bits -/
def cut (neg : Bool) (v : Nat) : Int := if neg then lo32 (-((min v L : Nat) : Int)) else lo32 ((min v (L - 1) : Nat) : Int)

theorem cut_big_neg {v : Nat} (h : L ≤ v) : cut true v = 0 := by
  unfold cut lo32 L at *; simp; omega
theorem cut_big_pos {v : Nat} (h : L ≤ v) : cut false v = -1 := by
  unfold cut lo32 L at *; simp; omega
theorem cut_small_neg {v : Nat} (h : v < L) : cut true v = lo32 (-(v : Int)) := by
  unfold cut lo32 L at *; simp; omega
theorem cut_small_pos {v : Nat} (h : v < L) : cut false v = lo32 (v : Int) := by
  unfold cut lo32 L at *; simp; omega

/-! ### a run of digits -/
def isD (x : Int) : Prop := 48 ≤ x ∧ x ≤ 57
/-- from place j on exactly n digits follow -/
structure Run (b : Nat → Int) (j n : Nat) : Prop where
  yes : ∀ m, m < n → isD (b (j + m))
  no : ¬ isD (b (j + n))
theorem Run.unique {b c : Nat → Int} {j k n p : Nat} (h : Run b j n) (g : Run c k p) (e : ∀ m, m ≤ n → b (j + m) = c (k + m)) : n = p := by
  rcases Nat.lt_trichotomy n p with l | l | l
  · exact absurd (e n (Nat.le_refl _) ▸ g.yes n l) h.no
  · exact l
  · exact absurd (e p (by omega) ▸ h.yes p l) g.no
/-- the digit that stands at place m -/
def dg (b : Nat → Int) (j m : Nat) : Nat := (b (j + m) - 48).toNat
theorem dg_le {b : Nat → Int} {j m : Nat} (h : isD (b (j + m))) : dg b j m ≤ 9 := by
  unfold dg isD at *; omega
theorem dg_int {b : Nat → Int} {j m : Nat} (h : isD (b (j + m))) : ((dg b j m : Nat) : Int) = b (j + m) - 48 := by
  unfold dg isD at *; omega

/-! ### a substring's offsets -/
/-- where the selection starts -/
def st (n : Nat) (o : Int) : Nat := if o < 0 then ((n : Int) + o).toNat else min o.toNat n
/-- how many of m bytes are kept -/
def kp (m : Nat) (l : Int) : Nat := if l < 0 then ((m : Int) + l).toNat else min l.toNat m
theorem st_spec (n : Nat) (o : Int) : (o < 0 ∧ (n : Int) + o < 0 ∧ st n o = 0) ∨ (o < 0 ∧ 0 ≤ (n : Int) + o ∧ ((st n o : Nat) : Int) = n + o) ∨ (0 ≤ o ∧ o < n ∧ ((st n o : Nat) : Int) = o) ∨ (0 ≤ o ∧ n ≤ o ∧ st n o = n) := by
  unfold st; split <;> omega
theorem kp_spec (n : Nat) (o : Int) : (o < 0 ∧ (n : Int) + o < 0 ∧ kp n o = 0) ∨ (o < 0 ∧ 0 ≤ (n : Int) + o ∧ ((kp n o : Nat) : Int) = n + o) ∨ (0 ≤ o ∧ o < n ∧ ((kp n o : Nat) : Int) = o) ∨ (0 ≤ o ∧ n ≤ o ∧ kp n o = n) := st_spec n o
theorem max_spec (x : Int) : (x < 0 ∧ (if x < 0 then 0 else x) = 0) ∨ (0 ≤ x ∧ (if x < 0 then 0 else x) = x) := by split <;> omega
theorem st_le (n : Nat) (o : Int) : st n o ≤ n := by unfold st; split <;> omega
theorem kp_le (m : Nat) (l : Int) : kp m l ≤ m := by unfold kp; split <;> omega
theorem st_kp (m : Nat) (l : Int) : st m l = kp m l := rfl
theorem kp_all (m n : Nat) (h : m ≤ n) : kp m (n : Int) = m := by unfold kp; split <;> omega
theorem st_zero (m : Nat) : st m 0 = 0 := by simp [st]

/-! ### pieces of a string -/
theorem ex_min (v : ByteArray) (a b : Nat) : v.extract a b = v.extract a (min b v.size) := by
  have h : (v.extract 0 v.size).extract a b = v.extract a (min b v.size) := by rw [ByteArray.extract_extract]; simp
  rwa [ByteArray.extract_zero_size] at h
theorem ex_congr (v : ByteArray) {a b c d : Nat} (h : (a = c ∧ min b v.size = min d v.size) ∨ (min b v.size ≤ a ∧ min d v.size ≤ c)) : v.extract a b = v.extract c d := by
  rcases h with ⟨rfl, h⟩ | ⟨h1, h2⟩
  · rw [ex_min v a b, ex_min v a d, h]
  · rw [ByteArray.extract_eq_empty_iff.2 h1, ByteArray.extract_eq_empty_iff.2 h2]
theorem ex_empty (v : ByteArray) {c d : Nat} (h : min d v.size ≤ c) : ByteArray.empty = v.extract c d := (ByteArray.extract_eq_empty_iff.2 h).symm
theorem ex_none (v : ByteArray) {c d : Nat} (h : min d v.size ≤ c) : (⟨#[]⟩ : ByteArray) = v.extract c d := ex_empty v h
theorem ex_whole (v : ByteArray) {c d : Nat} (h : c = 0 ∧ v.size ≤ d) : v = v.extract c d := by
  obtain ⟨rfl, h⟩ := h
  rw [ex_min, Nat.min_eq_right h, ByteArray.extract_zero_size]
theorem ex_two (v : ByteArray) {a b c d e f : Nat} (h : (a + c = e ∧ min (min (a + d) b) v.size = min f v.size) ∨ (min (min (a + d) b) v.size ≤ a + c ∧ min f v.size ≤ e)) : (v.extract a b).extract c d = v.extract e f := by
  rw [ByteArray.extract_extract]; exact ex_congr v h

end Go.Proofs.Qxb6617327a.Plain
