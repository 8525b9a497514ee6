/-
  The law 'FnLeadingIntIsStrtolLowBits' walked.
-/
import Derived.Test.Qxb6617327aModel2
import Derived.ProofKit
namespace Go.Proofs.Qxb6617327a
open Go.RowKit Go.PlainAid
set_option linter.unusedVariables false

namespace Model
open Lead

/-! ### plain facts -/
theorem bt_piece (a : ByteArray) (Z E m : Nat) (h : m < E - Z) : bt (a.extract Z E) m = bt a (Z + m) := by
  unfold bt
  have hz : (a.extract Z E).size = min E a.size - Z := ByteArray.size_extract
  by_cases h2 : Z + m < a.size
  · rw [dif_pos h2, dif_pos (show m < (a.extract Z E).size by omega), ByteArray.getElem_extract]
  · rw [dif_neg h2, dif_neg (show ¬ m < (a.extract Z E).size by omega)]
theorem run_exists (s : ByteArray) (j : Nat) : ∃ n, Plain.Run (bt s) j n := by
  have h : ∀ d n, (∀ m, m < n → Plain.isD (bt s (j + m))) → s.size ≤ j + n + d → ∃ n', Plain.Run (bt s) j n' := by
    intro d
    induction d with
    | zero =>
      intro n hn hl
      exact ⟨n, hn, by rw [bt_end s (by omega)]; unfold Plain.isD; omega⟩
    | succ d ih =>
      intro n hn hl
      by_cases hd : Plain.isD (bt s (j + n))
      · refine ih (n + 1) (fun m hm => ?_) (by omega)
        by_cases hmn : m < n
        · exact hn m hmn
        · obtain rfl : m = n := by omega
          exact hd
      · exact ⟨n, hn, hd⟩
  exact h s.size 0 (fun m hm => absurd hm (Nat.not_lt_zero m)) (by omega)
theorem run_in {s : ByteArray} {j n : Nat} (h : Plain.Run (bt s) j n) (hn : 0 < n) : j + n ≤ s.size := by
  have h1 := h.yes (n - 1) (by omega)
  by_cases h2 : j + (n - 1) < s.size
  · omega
  · rw [bt_end s (by omega)] at h1; unfold Plain.isD at h1; omega
theorem zeros_exist (s : ByteArray) (j E : Nat) (hj : j ≤ E) : ∃ z, j ≤ z ∧ z ≤ E ∧ (∀ c, j ≤ c → c < z → bt s c = 48) ∧ (z < E → bt s z ≠ 48) := by
  have h : ∀ d z, j ≤ z → z ≤ E → (∀ c, j ≤ c → c < z → bt s c = 48) → E ≤ z + d → ∃ z, j ≤ z ∧ z ≤ E ∧ (∀ c, j ≤ c → c < z → bt s c = 48) ∧ (z < E → bt s z ≠ 48) := by
    intro d
    induction d with
    | zero => intro z h1 h2 h3 h4; exact ⟨z, h1, h2, h3, fun h => by omega⟩
    | succ d ih =>
      intro z h1 h2 h3 h4
      by_cases hz : z < E ∧ bt s z = 48
      · refine ih (z + 1) (by omega) (by omega) (fun c hc1 hc2 => ?_) (by omega)
        by_cases hcz : c < z
        · exact h3 c hc1 hcz
        · obtain rfl : c = z := by omega
          exact hz.2
      · exact ⟨z, h1, h2, h3, fun h e => hz ⟨h, e⟩⟩
  exact h (E - j) j (Nat.le_refl _) hj (fun c h1 h2 => by omega) (by omega)
theorem val_from (s : ByteArray) (j n Z : Nat) (h1 : j ≤ Z) (h2 : Z ≤ j + n) (hz : ∀ c, j ≤ c → c < Z → bt s c = 48) :
    Plain.val (Plain.dg (bt s) j) n = Plain.val (Plain.dg (bt s) Z) (j + n - Z) := by
  have e := Plain.val_zeros (f := Plain.dg (bt s) j) (Z - j) (fun m hm => by unfold Plain.dg; rw [hz (j + m) (by omega) (by omega)]; rfl) (j + n - Z)
  rw [show Z - j + (j + n - Z) = n from by omega] at e
  rw [e]
  refine Plain.val_congr fun m hm => ?_
  show Plain.dg (bt s) j (Z - j + m) = _
  unfold Plain.dg
  rw [show j + (Z - j + m) = Z + m from by omega]
theorem lo32_md (v : Nat) : Plain.lo32 (v : Int) = wrap32 ((v % 4294967296 : Nat) : Int) := by unfold Plain.lo32 wrap32; omega
theorem lo32_md_neg (v : Nat) : Plain.lo32 (-(v : Int)) = wrap32 (IntKind.u32.wrap (-((v % 4294967296 : Nat) : Int))) := by rw [IntKind.wrap_u32]; unfold Plain.lo32 wrap32; omega
theorem beq_yes {x y : Int} (h : x = y) : (x == y) = true := by simp [h]
theorem beq_no {x y : Int} (h : ¬ x = y) : (x == y) = false := by simp [h]
theorem not_digit {x : Int} (h : ¬ Plain.isD x) : x < 48 ∨ 57 < x := by unfold Plain.isD at h; omega

/-- zzLeadingModel answers as leadingInt does -/
theorem model_any (s : ByteArray) (n : Nat) (w : World) (hs : s.size ≤ 1048576) (hr : Plain.Run (bt s) (sg s) n) :
    Calls Try.prog 9 #[.string s] w fun e w' => e = .returned (.tuple #[.int .i32 (rI s n), .int .i64 (rE s n)]) ∧ (∃ q, w' = w.drewN q) := by
  by_cases hn : n = 0
  · subst hn
    have hno := hr.no
    rw [Nat.add_zero] at hno
    show Calls Try.prog 9 #[.string s] w fun e w' => e = .returned (.tuple #[.int .i32 0, .int .i64 0]) ∧ (∃ q, w' = w.drewN q)
    by_cases s0 : s.size = 0
    · obtain rfl := ByteArray.size_eq_zero_iff.1 s0
      exact model0_0 w
    · by_cases q1 : bt s 0 = 45
      · have e : sg s = 1 := if_pos (Or.inl q1)
        rw [e] at hno
        exact model0_m s w hs (by omega) (beq_yes q1) (fun _ => not_digit hno)
      · by_cases q2 : bt s 0 = 43
        · have e : sg s = 1 := if_pos (Or.inr q2)
          rw [e] at hno
          exact model0_p s w hs (by omega) (beq_no q1) (beq_yes q2) (fun _ => not_digit hno)
        · have e : sg s = 0 := if_neg (by omega)
          rw [e] at hno
          exact model0_d s w hs (by omega) (beq_no q1) (beq_no q2) (fun _ => not_digit hno)
  · have hE2 : sg s + n ≤ s.size := run_in hr (by omega)
    have s0 : 0 < s.size := by omega
    have eE : rE s n = ((sg s + n : Nat) : Int) := by unfold rE; rw [if_neg hn]
    have eI : rI s n = Plain.cut (ng s) (Plain.val (Plain.dg (bt s) (sg s)) n) := by unfold rI; rw [if_neg hn]
    have HY : Hid (∀ c, sg s ≤ c → c < sg s + n → 48 ≤ bt s c ∧ bt s c ≤ 57) := by
      intro c h1 h2
      have := hr.yes (c - sg s) (by omega)
      rwa [show sg s + (c - sg s) = c from by omega] at this
    have HN : Hid (sg s + n < s.size → bt s (sg s + n) < 48 ∨ 57 < bt s (sg s + n)) := fun _ => not_digit hr.no
    obtain ⟨Z, z1, z2, z3, z4⟩ := zeros_exist s (sg s) (sg s + n) (by omega)
    have HZ : Hid (∀ c, sg s ≤ c → c < Z → (bt s c == 48) = true) := fun c h1 h2 => beq_yes (z3 c h1 h2)
    have HZN : Hid (Z < sg s + n → (bt s Z == 48) = false) := fun h => beq_no (z4 h)
    have eV := val_from s (sg s) n Z z1 z2 z3
    have hz : (s.extract Z (sg s + n)).size = sg s + n - Z := by rw [ByteArray.size_extract]; omega
    have gb : Big (s.extract Z (sg s + n)) (bigB (s.extract Z (sg s + n))) := by
      refine big_any _ (by omega) (fun m hm => ?_) (fun h => ?_)
      · rw [bt_piece s Z (sg s + n) m (by omega)]; exact HY.out (Z + m) (by omega) (by omega)
      · rw [bt_piece s Z (sg s + n) 0 (by omega)]; exact z4 (by omega)
    have eB : bigB (s.extract Z (sg s + n)) = decide (Plain.L ≤ Plain.val (Plain.dg (bt s) (sg s)) n) := by
      unfold bigB
      rw [hz, eV]
      have : Plain.val (Plain.dg (bt (s.extract Z (sg s + n))) 0) (sg s + n - Z) = Plain.val (Plain.dg (bt s) Z) (sg s + n - Z) :=
        Plain.val_congr fun m hm => by unfold Plain.dg; rw [Nat.zero_add, bt_piece s Z (sg s + n) m (by omega)]
      rw [this]
    rw [eB] at gb
    rw [eE, eI]
    have eM : md s Z (sg s + n - Z) = Plain.val (Plain.dg (bt s) (sg s)) n % 4294967296 := by unfold md; rw [eV]
    generalize Plain.val (Plain.dg (bt s) (sg s)) n = V at *
    by_cases q1 : bt s 0 = 45
    · have e : sg s = 1 := if_pos (Or.inl q1)
      have eN : ng s = true := decide_eq_true q1
      rw [eN]
      rw [e] at HY HN HZ HZN gb hE2 z1 z2 eM ⊢
      by_cases hV : Plain.L ≤ V
      · rw [decide_eq_true hV] at gb
        rw [Plain.cut_big_neg hV]
        exact model_m_big s _ Z w hs s0 (beq_yes q1) (by omega) hE2 z1 z2 HY HN HZ HZN gb
      · rw [decide_eq_false hV] at gb
        exact model_m_small s _ Z _ (show _ = _ by rw [Plain.cut_small_neg (by omega), eM, lo32_md_neg]) w hs s0 (beq_yes q1) (by omega) hE2 z1 z2 HY HN HZ HZN gb
    · have eN : ng s = false := decide_eq_false q1
      rw [eN]
      by_cases q2 : bt s 0 = 43
      · have e : sg s = 1 := if_pos (Or.inr q2)
        rw [e] at HY HN HZ HZN gb hE2 z1 z2 eM ⊢
        by_cases hV : Plain.L ≤ V
        · rw [decide_eq_true hV] at gb
          rw [Plain.cut_big_pos hV]
          exact model_p_big s _ Z w hs s0 (beq_no q1) (beq_yes q2) (by omega) hE2 z1 z2 HY HN HZ HZN gb
        · rw [decide_eq_false hV] at gb
          exact model_p_small s _ Z _ (show _ = _ by rw [Plain.cut_small_pos (by omega), eM, lo32_md]) w hs s0 (beq_no q1) (beq_yes q2) (by omega) hE2 z1 z2 HY HN HZ HZN gb
      · have e : sg s = 0 := if_neg (by omega)
        rw [e] at HY HN HZ HZN gb hE2 z1 z2 eM ⊢
        by_cases hV : Plain.L ≤ V
        · rw [decide_eq_true hV] at gb
          rw [Plain.cut_big_pos hV]
          exact model_d_big s _ Z w hs s0 (beq_no q1) (beq_no q2) (by omega) hE2 z1 z2 HY HN HZ HZN gb
        · rw [decide_eq_false hV] at gb
          exact model_d_small s _ Z _ (show _ = _ by rw [Plain.cut_small_pos (by omega), eM, lo32_md]) w hs s0 (beq_no q1) (beq_no q2) (by omega) hE2 z1 z2 HY HN HZ HZN gb

/-! ### the law -/
def Leads (s : ByteArray) (x y : Int) : Prop :=
  ∀ w : World, Calls Try.prog 8 #[.string s] w fun e w' => e = .returned (.tuple #[.int .i32 x, .int .i64 y]) ∧ w' = w
def Models (s : ByteArray) (x y : Int) : Prop :=
  ∀ w : World, Calls Try.prog 9 #[.string s] w fun e w' => e = .returned (.tuple #[.int .i32 x, .int .i64 y]) ∧ (∃ q, w' = w.drewN q)

theorem bytesD (s : ByteArray) (w : World) (hs : s.size ≤ 1048576) :
    Calls Try.prog 7 #[.string s] w fun e w' => e = .returned (.bool true) ∧ w' = w := by
  go_enter Try.func7, Try.ntmps7
  go_wp2
  go_ret
  exact ⟨rfl, rfl⟩
theorem core (s : ByteArray) (x y : Int) (w : World) (hs : s.size ≤ 1048576) (g1 : Leads s x y) (g2 : Models s x y) :
    Calls Try.prog 3 #[.string s] w fun e w' => e = .returned (.bool true) ∧ (∃ q, w' = w.drewN q) := by
  go_enter Try.func3, Try.ntmps3
  go_wp2_with (go_at_call 7; refine (bytesD s _ hs).mono ?_; rintro e w' ⟨rfl, rfl⟩)
  refine (g1 _).mono ?_
  rintro e w' ⟨rfl, rfl⟩
  go_wp2_with fail
  refine (g2 _).mono ?_
  rintro e w' ⟨rfl, q, rfl⟩
  go_wp2
  go_ret
  exact ⟨rfl, ⟨q, rfl⟩⟩
theorem long (s : ByteArray) (w : World) (hs : s.size ≤ 9223372036854775807) (h : 1048576 < s.size) :
    Calls Try.prog 3 #[.string s] w fun e w' => e = .returned (.bool true) ∧ (∃ q, w' = w.drewN q) := by
  go_enter Try.func3, Try.ntmps3
  go_wp2_with (go_at_call 7; go_in)
  all_goals
    go_ret
    exact ⟨rfl, ⟨0, rfl⟩⟩
theorem strtol (s : ByteArray) (w : World) (hs : s.size ≤ 9223372036854775807) :
    Calls Try.prog 3 #[.string s] w fun e w' => e = .returned (.bool true) ∧ (∃ q, w' = w.drewN q) := by
  by_cases h : 1048576 < s.size
  · exact long s w hs h
  obtain ⟨n, hr⟩ := run_exists s (sg s)
  refine core s (rI s n) (rE s n) w (by omega) (fun w => ?_) (fun w => model_any s n w (by omega) hr)
  refine (zzlead_any s w hs).mono ?_
  rintro e w' ⟨⟨n', hr', rfl⟩, rfl⟩
  obtain rfl : n = n' := hr.unique hr' fun _ _ => rfl
  exact ⟨rfl, rfl⟩
theorem grown_drewN (w : World) : ∀ q, Grown w (w.drewN q)
  | 0 => Grown.refl w
  | q + 1 => (grown_drewN w q).drew
end Model
end Go.Proofs.Qxb6617327a
