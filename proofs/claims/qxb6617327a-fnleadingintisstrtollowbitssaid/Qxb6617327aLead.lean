/-
  WALKS of leadingInt and what it calls.
-/
import Derived.Test.Qxb6617327aProg
import Derived.Test.Qxb6617327aPlain
import Derived.WalkKit
import Derived.WalkSpells
import Derived.Deep.Light
import Derived.WalkLawsBesides
import Derived.PlainAid
import Derived.Lib.Strings
namespace Go.Proofs.Qxb6617327a
open Go.RowKit Go.PlainAid
set_option linter.unusedVariables false

namespace Lead
theorem one_byte (s : ByteArray) (h : 0 < s.size) : (s.extract 0 1).toList = [s[0]] := by
  rw [Lib.extract_toList]
  have h1 : s.data.toList.length = s.size := by simp
  cases hs : s.data.toList with
  | nil => rw [hs] at h1; simp at h1; omega
  | cons a t =>
    have : s[0] = s.data.toList[0]'(by simp [hs]) := by
      simp [ByteArray.getElem_eq_getElem_data]
    simp [this, hs]

/-- does s begin with the byte c? -/
def hp (s : ByteArray) (c : UInt8) : Bool := decide (bt s 0 = (c.toNat : Int))
theorem hp_byte (s : ByteArray) (c : UInt8) (h : 0 < s.size) : ((s.extract 0 1).toList == [c]) = hp s c := by
  rw [one_byte s h]
  unfold hp
  rw [← get_bt s 0 h, Bool.eq_iff_iff]
  simp only [beq_iff_eq, List.cons.injEq, and_true, decide_eq_true_eq]
  constructor
  · intro e; rw [e]
  · intro e; exact UInt8.toNat_inj.1 (by omega)

theorem hasPrefix_any (s : ByteArray) (c : UInt8) (b : Bool) (w : World) (hs : s.size ≤ 9223372036854775807) (hc : 0 < c.toNat) (hb : hp s c = b) :
    Calls Try.prog 19 #[.string s, .string ⟨#[c]⟩] w fun e w' => e = .returned (.bool b) ∧ w' = w := by
  by_cases h : 0 < s.size
  · have hq := hp_byte s c h
    rw [hb] at hq
    clear hb
    go_enter Try.func19, Try.ntmps19
    go_wp2
    go_ret
    exact ⟨rfl, rfl⟩
  · have h0 : s.size = 0 := by omega
    have hb' : b = false := by
      rw [← hb]; unfold hp; rw [bt_end s (by omega), decide_eq_false_iff_not]; omega
    clear hb h
    subst hb'
    go_enter Try.func19, Try.ntmps19
    go_wp2
    go_ret
    exact ⟨rfl, rfl⟩

/-- the answer of leadingInt at n digits of D, a sign of sg bytes ahead of them -/
def ans (neg : Bool) (D : ByteArray) (sg n : Nat) : Ending :=
  .returned (.tuple #[.int .i32 (if n = 0 then 0 else Plain.cut neg (Plain.val (Plain.dg (bt D) 0) n)), .int .i64 (if n = 0 then 0 else ((sg + n : Nat) : Int))])

theorem cl_test1 {b : Nat → Int} {k c : Nat} (h1 : 48 ≤ b k) (h2 : b k ≤ 57) (h : (9223372036854775808 - (b k - 48)) / 10 < (c : Int)) : (Plain.L - Plain.dg b 0 k) / 10 < c := by
  unfold Plain.dg Plain.L; rw [Nat.zero_add]; omega
theorem cl_test2 {b : Nat → Int} {k c : Nat} (h1 : 48 ≤ b k) (h2 : b k ≤ 57) (h : ¬ (9223372036854775808 - (b k - 48)) / 10 < (c : Int)) : ¬ (Plain.L - Plain.dg b 0 k) / 10 < c := by
  unfold Plain.dg Plain.L; rw [Nat.zero_add]; omega
theorem cl_cast {b : Nat → Int} {k c : Nat} (h1 : 48 ≤ b k) (h2 : b k ≤ 57) : ((c * 10 + Plain.dg b 0 k : Nat) : Int) = (c : Int) * 10 + (b k - 48) := by
  unfold Plain.dg; rw [Nat.zero_add]; omega
theorem cl_L : ((Plain.L : Nat) : Int) = 9223372036854775808 := rfl
theorem more {b : Nat → Int} {k : Nat} (hall : ∀ m, m < k → Plain.isD (b (0 + m))) (h1 : 48 ≤ b k) (h2 : b k ≤ 57) : ∀ m, m < k + 1 → Plain.isD (b (0 + m)) := by
  intro m hm
  by_cases h : m < k
  · exact hall m h
  · obtain rfl : m = k := by omega
    rw [Nat.zero_add]; exact ⟨h1, h2⟩
theorem no_lo {b : Nat → Int} {k : Nat} (h : b k < 48) : ¬ Plain.isD (b (0 + k)) := by rw [Nat.zero_add]; unfold Plain.isD; omega
theorem no_hi {b : Nat → Int} {k : Nat} (h : 57 < b k) : ¬ Plain.isD (b (0 + k)) := by rw [Nat.zero_add]; unfold Plain.isD; omega
theorem no_end {s : ByteArray} {k : Nat} (h : s.size ≤ k) : ¬ Plain.isD (bt s (0 + k)) := by rw [Nat.zero_add, bt_end s h]; unfold Plain.isD; omega

theorem ans_zero (neg : Bool) (D : ByteArray) (sg : Nat) : Ending.returned (.tuple #[.int .i32 0, .int .i64 0]) = ans neg D sg 0 := rfl
theorem ans_big (D : ByteArray) (sg k c : Nat) (y : Int) (hk : ¬ k = 0) (hc : Plain.cl (Plain.dg (bt D) 0) k = c) (h : 9223372036854775807 < (c : Int)) (hy : y = ((sg + k : Nat) : Int)) :
    Ending.returned (.tuple #[.int .i32 (wrap32 9223372036854775807), .int .i64 y]) = ans false D sg k := by
  have h2 : Plain.cut false (Plain.val (Plain.dg (bt D) 0) k) = wrap32 9223372036854775807 := by
    rw [Plain.cut_big_pos (by unfold Plain.cl at hc; unfold Plain.L at *; omega)]; unfold wrap32; omega
  unfold ans; rw [if_neg hk, if_neg hk, h2, hy]
theorem ans_small (D : ByteArray) (sg k c : Nat) (y : Int) (hk : ¬ k = 0) (hc : Plain.cl (Plain.dg (bt D) 0) k = c) (h : (c : Int) ≤ 9223372036854775807) (hy : y = ((sg + k : Nat) : Int)) :
    Ending.returned (.tuple #[.int .i32 (wrap32 (c : Int)), .int .i64 y]) = ans false D sg k := by
  have h3 : Plain.val (Plain.dg (bt D) 0) k = c := by unfold Plain.cl at hc; unfold Plain.L at *; omega
  have h2 : Plain.cut false (Plain.val (Plain.dg (bt D) 0) k) = wrap32 (c : Int) := by
    rw [Plain.cut_small_pos (by unfold Plain.L; omega), h3]; unfold wrap32 Plain.lo32; omega
  unfold ans; rw [if_neg hk, if_neg hk, h2, hy]

theorem ans_neg (D : ByteArray) (sg k c : Nat) (y : Int) (hk : ¬ k = 0) (hc : Plain.cl (Plain.dg (bt D) 0) k = c) (hy : y = ((sg + k : Nat) : Int)) :
    Ending.returned (.tuple #[.int .i32 (wrap32 (IntKind.u64.wrap (-(c : Int)))), .int .i64 y]) = ans true D sg k := by
  have h2 : Plain.cut true (Plain.val (Plain.dg (bt D) 0) k) = wrap32 (IntKind.u64.wrap (-(c : Int))) := by
    have h3 : Plain.cut true (Plain.val (Plain.dg (bt D) 0) k) = Plain.lo32 (-(c : Int)) := by rw [← hc]; rfl
    rw [h3, IntKind.wrap_u64]; unfold wrap32 Plain.lo32; omega
  unfold ans; rw [if_neg hk, if_neg hk, h2, hy]

set_option maxHeartbeats 400000 in
theorem lead_none (s : ByteArray) (w : World) (hs : s.size ≤ 9223372036854775807) (h1 : hp s 45 = false) (h2 : hp s 43 = false) :
    Calls Try.prog 16 #[.string s] w fun e w' => (∃ n, Plain.Run (bt s) 0 n ∧ e = ans false s 0 n) ∧ w' = w := by
  have hb := get_bt s
  go_enter Try.func16, Try.ntmps16
  go_wp2_with fail
  refine (hasPrefix_any s 45 false _ hs (by decide) h1).mono ?_
  rintro e w' ⟨rfl, rfl⟩
  go_wp2_with fail
  refine (hasPrefix_any s 43 false _ hs (by decide) h2).mono ?_
  rintro e w' ⟨rfl, rfl⟩
  go_wp2_with fail
  go_loop [6, 7] (fun u i => ∃ k : Nat, k ≤ s.size ∧ i = .int .i64 k ∧ u = .int .u64 (Plain.cl (Plain.dg (bt s) 0) k : Nat) ∧ ∀ m, m < k → Plain.isD (bt s (0 + m))) (fun _ i => s.size - (intOf i).toNat)
  case atStart => exact ⟨0, Nat.zero_le _, rfl, by rw [Plain.cl_zero]; rfl, fun m hm => absurd hm (Nat.not_lt_zero m)⟩
  case round =>
    obtain ⟨k, hk, rfl, rfl, hall⟩ := hrel
    have hcl : ((Plain.cl (Plain.dg (bt s) 0) k : Nat) : Int) ≤ 9223372036854775808 := by have := Plain.cl_le (Plain.dg (bt s) 0) k; unfold Plain.L at this; omega
    have b0 := bt_nonneg s k
    have b1 := bt_le s k
    by_cases hdig : k < s.size ∧ 48 ≤ bt s k ∧ bt s k ≤ 57
    · obtain ⟨hlt, hd1, hd2⟩ := hdig
      by_cases hc : (9223372036854775808 - (bt s k - 48)) / 10 < ((Plain.cl (Plain.dg (bt s) 0) k : Nat) : Int)
      · have HN : Hid (Plain.cl (Plain.dg (bt s) 0) (k + 1) = Plain.L) := Plain.cl_hi (Plain.dg_le (by rw [Nat.zero_add]; exact ⟨hd1, hd2⟩)) (cl_test1 hd1 hd2 hc)
        generalize Plain.cl (Plain.dg (bt s) 0) k = c at *
        go_wp2
        go_round
        case rel => exact ⟨k + 1, by omega, by go_num, by rw [HN.out]; rfl, more hall hd1 hd2⟩
        case measure => simp [intOf]; omega
      · have HN : Hid (Plain.cl (Plain.dg (bt s) 0) (k + 1) = Plain.cl (Plain.dg (bt s) 0) k * 10 + Plain.dg (bt s) 0 k) := Plain.cl_lo (Plain.dg_le (by rw [Nat.zero_add]; exact ⟨hd1, hd2⟩)) (cl_test2 hd1 hd2 hc)
        generalize Plain.cl (Plain.dg (bt s) 0) k = c at *
        go_wp2
        go_round
        case rel => exact ⟨k + 1, by omega, by go_num, by rw [HN.out, cl_cast hd1 hd2], more hall hd1 hd2⟩
        case measure => simp [intOf]; omega
    · have hrun : Plain.Run (bt s) 0 k := by
        refine ⟨hall, ?_⟩
        by_cases e1 : k < s.size
        · by_cases e2 : 48 ≤ bt s k
          · exact no_hi (by omega)
          · exact no_lo (by omega)
        · exact no_end (by omega)
      clear hall
      by_cases hk0 : k = 0
      · subst hk0
        generalize Plain.cl (Plain.dg (bt s) 0) 0 = c at *
        have FIN : Hid (∃ n, Plain.Run (bt s) 0 n ∧ Ending.returned (.tuple #[.int .i32 0, .int .i64 0]) = ans false s 0 n) := ⟨0, hrun, ans_zero _ _ _⟩
        clear hrun
        by_cases e1 : 0 < s.size
        · by_cases e2 : 48 ≤ bt s 0
          · have e3 : 57 < bt s 0 := by omega
            clear hdig
            go_wp2
            go_ret2
            exact ⟨FIN.out, rfl⟩
          · clear hdig
            go_wp2
            go_ret2
            exact ⟨FIN.out, rfl⟩
        · clear hdig
          go_wp2
          go_ret2
          exact ⟨FIN.out, rfl⟩
      · have hk0' : ((k : Int) == 0) = false := by rw [beq_eq_false_iff_ne]; omega
        have FIN1 : Hid (9223372036854775807 < ((Plain.cl (Plain.dg (bt s) 0) k : Nat) : Int) → ∃ n, Plain.Run (bt s) 0 n ∧ Ending.returned (.tuple #[.int .i32 (wrap32 9223372036854775807), .int .i64 k]) = ans false s 0 n) := fun h => ⟨k, hrun, ans_big s 0 k _ k hk0 rfl h (by omega)⟩
        have FIN2 : Hid (((Plain.cl (Plain.dg (bt s) 0) k : Nat) : Int) ≤ 9223372036854775807 → ∃ n, Plain.Run (bt s) 0 n ∧ Ending.returned (.tuple #[.int .i32 (wrap32 ((Plain.cl (Plain.dg (bt s) 0) k : Nat) : Int)), .int .i64 k]) = ans false s 0 n) := fun h => ⟨k, hrun, ans_small s 0 k _ k hk0 rfl h (by omega)⟩
        generalize Plain.cl (Plain.dg (bt s) 0) k = c at *
        clear hrun
        by_cases e1 : k < s.size
        · by_cases e2 : 48 ≤ bt s k
          · have e3 : 57 < bt s k := by omega
            clear hdig
            go_wp2
            all_goals
              go_ret2
              first | exact ⟨FIN1.out (by assumption), rfl⟩ | exact ⟨FIN2.out (by assumption), rfl⟩
          · clear hdig
            go_wp2
            all_goals
              go_ret2
              first | exact ⟨FIN1.out (by assumption), rfl⟩ | exact ⟨FIN2.out (by assumption), rfl⟩
        · clear hdig
          go_wp2
          all_goals
            go_ret2
            first | exact ⟨FIN1.out (by assumption), rfl⟩ | exact ⟨FIN2.out (by assumption), rfl⟩

set_option maxHeartbeats 400000 in
theorem lead_plus (s D : ByteArray) (w : World) (hs : s.size ≤ 9223372036854775807) (h1 : hp s 45 = false) (h2 : hp s 43 = true) (h0 : 0 < s.size) (HD : Hid (s.extract 1 s.size = D)) (hD1 : D.size + 1 ≤ s.size) (hD2 : s.size ≤ D.size + 1) :
    Calls Try.prog 16 #[.string s] w fun e w' => (∃ n, Plain.Run (bt D) 0 n ∧ e = ans false D 1 n) ∧ w' = w := by
  go_enter Try.func16, Try.ntmps16
  go_wp2_with fail
  refine (hasPrefix_any s 45 false _ hs (by decide) h1).mono ?_
  rintro e w' ⟨rfl, rfl⟩
  go_wp2_with fail
  refine (hasPrefix_any s 43 true _ hs (by decide) h2).mono ?_
  rintro e w' ⟨rfl, rfl⟩
  go_wp2_with fail
  rw [HD.out]
  have hb := get_bt D
  go_loop [6, 7] (fun u i => ∃ k : Nat, k ≤ D.size ∧ i = .int .i64 k ∧ u = .int .u64 (Plain.cl (Plain.dg (bt D) 0) k : Nat) ∧ ∀ m, m < k → Plain.isD (bt D (0 + m))) (fun _ i => D.size - (intOf i).toNat)
  case atStart => exact ⟨0, Nat.zero_le _, rfl, by rw [Plain.cl_zero]; rfl, fun m hm => absurd hm (Nat.not_lt_zero m)⟩
  case round =>
    obtain ⟨k, hk, rfl, rfl, hall⟩ := hrel
    have hcl : ((Plain.cl (Plain.dg (bt D) 0) k : Nat) : Int) ≤ 9223372036854775808 := by have := Plain.cl_le (Plain.dg (bt D) 0) k; unfold Plain.L at this; omega
    have b0 := bt_nonneg D k
    have b1 := bt_le D k
    by_cases hdig : k < D.size ∧ 48 ≤ bt D k ∧ bt D k ≤ 57
    · obtain ⟨hlt, hd1, hd2⟩ := hdig
      by_cases hc : (9223372036854775808 - (bt D k - 48)) / 10 < ((Plain.cl (Plain.dg (bt D) 0) k : Nat) : Int)
      · have HN : Hid (Plain.cl (Plain.dg (bt D) 0) (k + 1) = Plain.L) := Plain.cl_hi (Plain.dg_le (by rw [Nat.zero_add]; exact ⟨hd1, hd2⟩)) (cl_test1 hd1 hd2 hc)
        generalize Plain.cl (Plain.dg (bt D) 0) k = c at *
        go_wp2
        go_round
        case rel => exact ⟨k + 1, by omega, by go_num, by rw [HN.out]; rfl, more hall hd1 hd2⟩
        case measure => simp [intOf]; omega
      · have HN : Hid (Plain.cl (Plain.dg (bt D) 0) (k + 1) = Plain.cl (Plain.dg (bt D) 0) k * 10 + Plain.dg (bt D) 0 k) := Plain.cl_lo (Plain.dg_le (by rw [Nat.zero_add]; exact ⟨hd1, hd2⟩)) (cl_test2 hd1 hd2 hc)
        generalize Plain.cl (Plain.dg (bt D) 0) k = c at *
        go_wp2
        go_round
        case rel => exact ⟨k + 1, by omega, by go_num, by rw [HN.out, cl_cast hd1 hd2], more hall hd1 hd2⟩
        case measure => simp [intOf]; omega
    · have hrun : Plain.Run (bt D) 0 k := by
        refine ⟨hall, ?_⟩
        by_cases e1 : k < D.size
        · by_cases e2 : 48 ≤ bt D k
          · exact no_hi (by omega)
          · exact no_lo (by omega)
        · exact no_end (by omega)
      clear hall
      by_cases hk0 : k = 0
      · subst hk0
        generalize Plain.cl (Plain.dg (bt D) 0) 0 = c at *
        have FIN : Hid (∃ n, Plain.Run (bt D) 0 n ∧ Ending.returned (.tuple #[.int .i32 0, .int .i64 0]) = ans false D 1 n) := ⟨0, hrun, ans_zero _ _ _⟩
        clear hrun
        by_cases e1 : 0 < D.size
        · by_cases e2 : 48 ≤ bt D 0
          · have e3 : 57 < bt D 0 := by omega
            clear hdig
            go_wp2
            go_ret2
            exact ⟨FIN.out, rfl⟩
          · clear hdig
            go_wp2
            go_ret2
            exact ⟨FIN.out, rfl⟩
        · clear hdig
          go_wp2
          go_ret2
          exact ⟨FIN.out, rfl⟩
      · have hk0' : ((k : Int) == 0) = false := by rw [beq_eq_false_iff_ne]; omega
        have FIN1 : Hid (∀ y : Int, 9223372036854775807 < ((Plain.cl (Plain.dg (bt D) 0) k : Nat) : Int) → y = ((1 + k : Nat) : Int) → ∃ n, Plain.Run (bt D) 0 n ∧ Ending.returned (.tuple #[.int .i32 (wrap32 9223372036854775807), .int .i64 y]) = ans false D 1 n) := fun y h hy => ⟨k, hrun, ans_big D 1 k _ y hk0 rfl h hy⟩
        have FIN2 : Hid (∀ y : Int, ((Plain.cl (Plain.dg (bt D) 0) k : Nat) : Int) ≤ 9223372036854775807 → y = ((1 + k : Nat) : Int) → ∃ n, Plain.Run (bt D) 0 n ∧ Ending.returned (.tuple #[.int .i32 (wrap32 ((Plain.cl (Plain.dg (bt D) 0) k : Nat) : Int)), .int .i64 y]) = ans false D 1 n) := fun y h hy => ⟨k, hrun, ans_small D 1 k _ y hk0 rfl h hy⟩
        generalize Plain.cl (Plain.dg (bt D) 0) k = c at *
        clear hrun
        by_cases e1 : k < D.size
        · by_cases e2 : 48 ≤ bt D k
          · have e3 : 57 < bt D k := by omega
            clear hdig
            go_wp2
            all_goals
              go_ret2
              first | exact ⟨FIN1.out _ (by assumption) (by omega), rfl⟩ | exact ⟨FIN2.out _ (by assumption) (by omega), rfl⟩
          · clear hdig
            go_wp2
            all_goals
              go_ret2
              first | exact ⟨FIN1.out _ (by assumption) (by omega), rfl⟩ | exact ⟨FIN2.out _ (by assumption) (by omega), rfl⟩
        · clear hdig
          go_wp2
          all_goals
            go_ret2
            first | exact ⟨FIN1.out _ (by assumption) (by omega), rfl⟩ | exact ⟨FIN2.out _ (by assumption) (by omega), rfl⟩

set_option maxHeartbeats 400000 in
theorem lead_neg (s D : ByteArray) (w : World) (hs : s.size ≤ 9223372036854775807) (h1 : hp s 45 = true) (h0 : 0 < s.size) (HD : Hid (s.extract 1 s.size = D)) (hD1 : D.size + 1 ≤ s.size) (hD2 : s.size ≤ D.size + 1) :
    Calls Try.prog 16 #[.string s] w fun e w' => (∃ n, Plain.Run (bt D) 0 n ∧ e = ans true D 1 n) ∧ w' = w := by
  go_enter Try.func16, Try.ntmps16
  go_wp2_with fail
  refine (hasPrefix_any s 45 true _ hs (by decide) h1).mono ?_
  rintro e w' ⟨rfl, rfl⟩
  go_wp2_with fail
  rw [HD.out]
  have hb := get_bt D
  go_loop [6, 7] (fun u i => ∃ k : Nat, k ≤ D.size ∧ i = .int .i64 k ∧ u = .int .u64 (Plain.cl (Plain.dg (bt D) 0) k : Nat) ∧ ∀ m, m < k → Plain.isD (bt D (0 + m))) (fun _ i => D.size - (intOf i).toNat)
  case atStart => exact ⟨0, Nat.zero_le _, rfl, by rw [Plain.cl_zero]; rfl, fun m hm => absurd hm (Nat.not_lt_zero m)⟩
  case round =>
    obtain ⟨k, hk, rfl, rfl, hall⟩ := hrel
    have hcl : ((Plain.cl (Plain.dg (bt D) 0) k : Nat) : Int) ≤ 9223372036854775808 := by have := Plain.cl_le (Plain.dg (bt D) 0) k; unfold Plain.L at this; omega
    have b0 := bt_nonneg D k
    have b1 := bt_le D k
    by_cases hdig : k < D.size ∧ 48 ≤ bt D k ∧ bt D k ≤ 57
    · obtain ⟨hlt, hd1, hd2⟩ := hdig
      by_cases hc : (9223372036854775808 - (bt D k - 48)) / 10 < ((Plain.cl (Plain.dg (bt D) 0) k : Nat) : Int)
      · have HN : Hid (Plain.cl (Plain.dg (bt D) 0) (k + 1) = Plain.L) := Plain.cl_hi (Plain.dg_le (by rw [Nat.zero_add]; exact ⟨hd1, hd2⟩)) (cl_test1 hd1 hd2 hc)
        generalize Plain.cl (Plain.dg (bt D) 0) k = c at *
        go_wp2
        go_round
        case rel => exact ⟨k + 1, by omega, by go_num, by rw [HN.out]; rfl, more hall hd1 hd2⟩
        case measure => simp [intOf]; omega
      · have HN : Hid (Plain.cl (Plain.dg (bt D) 0) (k + 1) = Plain.cl (Plain.dg (bt D) 0) k * 10 + Plain.dg (bt D) 0 k) := Plain.cl_lo (Plain.dg_le (by rw [Nat.zero_add]; exact ⟨hd1, hd2⟩)) (cl_test2 hd1 hd2 hc)
        generalize Plain.cl (Plain.dg (bt D) 0) k = c at *
        go_wp2
        go_round
        case rel => exact ⟨k + 1, by omega, by go_num, by rw [HN.out, cl_cast hd1 hd2], more hall hd1 hd2⟩
        case measure => simp [intOf]; omega
    · have hrun : Plain.Run (bt D) 0 k := by
        refine ⟨hall, ?_⟩
        by_cases e1 : k < D.size
        · by_cases e2 : 48 ≤ bt D k
          · exact no_hi (by omega)
          · exact no_lo (by omega)
        · exact no_end (by omega)
      clear hall
      by_cases hk0 : k = 0
      · subst hk0
        generalize Plain.cl (Plain.dg (bt D) 0) 0 = c at *
        have FIN : Hid (∃ n, Plain.Run (bt D) 0 n ∧ Ending.returned (.tuple #[.int .i32 0, .int .i64 0]) = ans true D 1 n) := ⟨0, hrun, ans_zero _ _ _⟩
        clear hrun
        by_cases e1 : 0 < D.size
        · by_cases e2 : 48 ≤ bt D 0
          · have e3 : 57 < bt D 0 := by omega
            clear hdig
            go_wp2
            go_ret2
            exact ⟨FIN.out, rfl⟩
          · clear hdig
            go_wp2
            go_ret2
            exact ⟨FIN.out, rfl⟩
        · clear hdig
          go_wp2
          go_ret2
          exact ⟨FIN.out, rfl⟩
      · have hk0' : ((k : Int) == 0) = false := by rw [beq_eq_false_iff_ne]; omega
        have FIN : Hid (∀ y : Int, y = ((1 + k : Nat) : Int) → ∃ n, Plain.Run (bt D) 0 n ∧ Ending.returned (.tuple #[.int .i32 (wrap32 (IntKind.u64.wrap (-((Plain.cl (Plain.dg (bt D) 0) k : Nat) : Int)))), .int .i64 y]) = ans true D 1 n) := fun y hy => ⟨k, hrun, ans_neg D 1 k _ y hk0 rfl hy⟩
        generalize Plain.cl (Plain.dg (bt D) 0) k = c at *
        clear hrun
        by_cases e1 : k < D.size
        · by_cases e2 : 48 ≤ bt D k
          · have e3 : 57 < bt D k := by omega
            clear hdig
            go_wp2
            all_goals
              go_ret2
              exact ⟨FIN.out _ (by omega), rfl⟩
          · clear hdig
            go_wp2
            all_goals
              go_ret2
              exact ⟨FIN.out _ (by omega), rfl⟩
        · clear hdig
          go_wp2
          all_goals
            go_ret2
            exact ⟨FIN.out _ (by omega), rfl⟩

/-! ### one contract for all -/
def sg (s : ByteArray) : Nat := if bt s 0 = 45 ∨ bt s 0 = 43 then 1 else 0
def ng (s : ByteArray) : Bool := hp s 45
def rI (s : ByteArray) (n : Nat) : Int := if n = 0 then 0 else Plain.cut (ng s) (Plain.val (Plain.dg (bt s) (sg s)) n)
def rE (s : ByteArray) (n : Nat) : Int := if n = 0 then 0 else ((sg s + n : Nat) : Int)

theorem bt_tail (s : ByteArray) (m : Nat) : bt (s.extract 1 s.size) m = bt s (1 + m) := by
  unfold bt
  by_cases h : 1 + m < s.size
  · have h2 : m < (s.extract 1 s.size).size := by rw [ByteArray.size_extract]; omega
    rw [dif_pos h, dif_pos h2, ByteArray.getElem_extract]
  · have h2 : ¬ m < (s.extract 1 s.size).size := by rw [ByteArray.size_extract]; omega
    rw [dif_neg h, dif_neg h2]
theorem bt_pos {s : ByteArray} (h : 0 < bt s 0) : 0 < s.size := by
  by_cases h2 : 0 < s.size
  · exact h2
  · rw [bt_end s (by omega)] at h; omega
theorem run_tail {s : ByteArray} {n : Nat} (h : Plain.Run (bt (s.extract 1 s.size)) 0 n) : Plain.Run (bt s) 1 n := by
  refine ⟨fun m hm => ?_, ?_⟩
  · have := h.yes m hm; rwa [Nat.zero_add, bt_tail] at this
  · have := h.no; rwa [Nat.zero_add, bt_tail] at this
theorem val_tail (s : ByteArray) (n : Nat) : Plain.val (Plain.dg (bt (s.extract 1 s.size)) 0) n = Plain.val (Plain.dg (bt s) 1) n :=
  Plain.val_congr fun m _ => by unfold Plain.dg; rw [Nat.zero_add, bt_tail]

theorem lead_any (s : ByteArray) (w : World) (hs : s.size ≤ 9223372036854775807) :
    Calls Try.prog 16 #[.string s] w fun e w' => (∃ n, Plain.Run (bt s) (sg s) n ∧ e = .returned (.tuple #[.int .i32 (rI s n), .int .i64 (rE s n)])) ∧ w' = w := by
  cases h1 : hp s 45 with
  | true =>
    have e : bt s 0 = 45 := of_decide_eq_true h1
    have h0 : 0 < s.size := bt_pos (by omega)
    refine (lead_neg s _ w hs h1 h0 rfl (by rw [ByteArray.size_extract]; omega) (by rw [ByteArray.size_extract]; omega)).mono ?_
    rintro e' w' ⟨⟨n, hr, rfl⟩, rfl⟩
    have hsg : sg s = 1 := if_pos (Or.inl e)
    refine ⟨⟨n, by rw [hsg]; exact run_tail hr, ?_⟩, rfl⟩
    unfold ans rI rE ng
    rw [hsg, h1, val_tail]
  | false =>
    have e : ¬ bt s 0 = 45 := of_decide_eq_false h1
    cases h2 : hp s 43 with
    | true =>
      have e2 : bt s 0 = 43 := of_decide_eq_true h2
      have h0 : 0 < s.size := bt_pos (by omega)
      refine (lead_plus s _ w hs h1 h2 h0 rfl (by rw [ByteArray.size_extract]; omega) (by rw [ByteArray.size_extract]; omega)).mono ?_
      rintro e' w' ⟨⟨n, hr, rfl⟩, rfl⟩
      have hsg : sg s = 1 := if_pos (Or.inr e2)
      refine ⟨⟨n, by rw [hsg]; exact run_tail hr, ?_⟩, rfl⟩
      unfold ans rI rE ng
      rw [hsg, h1, val_tail]
    | false =>
      have e2 : ¬ bt s 0 = 43 := of_decide_eq_false h2
      refine (lead_none s w hs h1 h2).mono ?_
      rintro e' w' ⟨⟨n, hr, rfl⟩, rfl⟩
      have hsg : sg s = 0 := if_neg (by omega)
      refine ⟨⟨n, by rw [hsg]; exact hr, ?_⟩, rfl⟩
      unfold ans rI rE ng
      rw [hsg, h1]

theorem zzlead_any (s : ByteArray) (w : World) (hs : s.size ≤ 9223372036854775807) :
    Calls Try.prog 8 #[.string s] w fun e w' => (∃ n, Plain.Run (bt s) (sg s) n ∧ e = .returned (.tuple #[.int .i32 (rI s n), .int .i64 (rE s n)])) ∧ w' = w := by
  have HL : ∀ w : World, Hid (Calls Try.prog 16 #[.string s] w fun e w' => (∃ n, Plain.Run (bt s) (sg s) n ∧ e = .returned (.tuple #[.int .i32 (rI s n), .int .i64 (rE s n)])) ∧ w' = w) := fun w => lead_any s w hs
  go_enter Try.func8, Try.ntmps8
  go_wp2_with fail
  refine (HL _).out.mono ?_
  rintro e w' ⟨⟨n, hr, rfl⟩, rfl⟩
  generalize hi : rI s n = x at *
  generalize he : rE s n = y at *
  have FIN : Hid (∃ n, Plain.Run (bt s) (sg s) n ∧ Ending.returned (.tuple #[.int .i32 x, .int .i64 y]) = .returned (.tuple #[.int .i32 (rI s n), .int .i64 (rE s n)])) := ⟨n, hr, by rw [hi, he]⟩
  clear hi he hr
  go_wp2
  go_ret2
  exact ⟨FIN.out, rfl⟩

end Lead
end Go.Proofs.Qxb6617327a
