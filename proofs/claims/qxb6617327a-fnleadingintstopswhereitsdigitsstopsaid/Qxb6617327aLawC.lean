/-
  The law 'FnLeadingIntStopsWhereItsDigitsStop' walked.
-/
import Derived.Test.Qxb6617327aLead
namespace Go.Proofs.Qxb6617327a
open Go.RowKit Go.PlainAid
set_option linter.unusedVariables false

namespace Stops
open Lead

/-- 'leadingInt of s comes to x, y', in whatever world -/
def Leads (s : ByteArray) (x y : Int) : Prop :=
  ∀ w : World, Calls Try.prog 8 #[.string s] w fun e w' => e = .returned (.tuple #[.int .i32 x, .int .i64 y]) ∧ w' = w
theorem leads (s : ByteArray) (n : Nat) (hs : s.size ≤ 9223372036854775807) (hr : Plain.Run (bt s) (sg s) n) : Leads s (rI s n) (rE s n) := by
  intro w
  refine (zzlead_any s w hs).mono ?_
  rintro e w' ⟨⟨n', hr', rfl⟩, rfl⟩
  obtain rfl : n = n' := hr.unique hr' fun _ _ => rfl
  exact ⟨rfl, rfl⟩

theorem isd_yes (c : Int) (w : World) (h1 : 48 ≤ c) (h2 : c ≤ 57) :
    Calls Try.prog 11 #[.int .u8 c] w fun e w' => e = .returned (.bool true) ∧ w' = w := by
  go_enter Try.func11, Try.ntmps11
  go_wp2
  go_ret
  exact ⟨rfl, rfl⟩
theorem isd_lo (c : Int) (w : World) (h1 : c < 48) :
    Calls Try.prog 11 #[.int .u8 c] w fun e w' => e = .returned (.bool false) ∧ w' = w := by
  go_enter Try.func11, Try.ntmps11
  go_wp2
  go_ret
  exact ⟨rfl, rfl⟩
theorem isd_hi (c : Int) (w : World) (h2 : 57 < c) :
    Calls Try.prog 11 #[.int .u8 c] w fun e w' => e = .returned (.bool false) ∧ w' = w := by
  have d : decide (c ≤ 57) = false := by simp; omega
  go_enter Try.func11, Try.ntmps11
  go_wp2
  go_ret
  exact ⟨rfl, rfl⟩
theorem isd_no (c : Int) (w : World) (h : c < 48 ∨ 57 < c) :
    Calls Try.prog 11 #[.int .u8 c] w fun e w' => e = .returned (.bool false) ∧ w' = w :=
  h.elim (isd_lo c w) (isd_hi c w)

theorem bytesC (s t : ByteArray) (w : World) (hs : s.size ≤ 65536) (ht : t.size ≤ 65536) :
    Calls Try.prog 10 #[.string s, .string t] w fun e w' => e = .returned (.bool true) ∧ w' = w := by
  go_enter Try.func10, Try.ntmps10
  go_wp2
  go_ret
  exact ⟨rfl, rfl⟩

/-! ### more than no digits -/
/-! ### more than no digits -/
/-! ### more than no digits -/
set_option maxHeartbeats 400000 in
theorem some_me (s : ByteArray) (E : Nat) (x : Int) (w : World) (hs : s.size ≤ 65536) 
    (s0 : 0 < s.size) (q1 : (bt s 0 == 45) = true) (b0 : bt s 0 < 48) (hE1 : 1 < E) (hE2 : E ≤ s.size)
    (HY : Hid (∀ c, 1 ≤ c → c < E → 48 ≤ bt s c ∧ bt s c ≤ 57)) (HN : Hid (E < s.size → bt s E < 48 ∨ 57 < bt s E))
    (g1 : Leads s x (E : Nat)) (g2 : Leads (s.extract 0 E) x (E : Nat)) :
    Calls Try.prog 4 #[.string s, .string ByteArray.empty] w fun e w' => e = .returned (.bool true) ∧ w' = w := by
  have hb := get_bt s
  go_enter Try.func4, Try.ntmps4
  go_wp2_with (go_at_call 10; refine (bytesC s ByteArray.empty _ hs (by decide)).mono ?_; rintro e w' ⟨rfl, rfl⟩)
  refine (g1 _).mono ?_
  rintro e w' ⟨rfl, rfl⟩
  go_wp2_with fail
  go_loop [8] (fun k => ∃ c : Nat, 1 ≤ c ∧ c ≤ E ∧ k = .int .i64 c) (fun k => s.size - (intOf k).toNat)
  case atStart => exact ⟨1, by omega, by omega, rfl⟩
  case round =>
    obtain ⟨c, c1, c2, rfl⟩ := hrel
    by_cases hlt : c < E
    · obtain ⟨e1, e2⟩ := HY.out c c1 hlt
      go_wp2_with (go_at_call 11; refine (isd_yes _ _ (by omega) (by omega)).mono ?_; rintro e w' ⟨rfl, rfl⟩)
      go_round
      case rel => exact ⟨c + 1, by omega, by omega, by go_num⟩
      case measure => simp [intOf]; omega
    · obtain rfl : c = E := by omega
      by_cases he : c < s.size
      · have HNO : Hid (bt s c < 48 ∨ 57 < bt s c) := HN.out he
        go_wp2_with fail
        refine (isd_no _ _ HNO.out).mono ?_
        rintro e w' ⟨rfl, rfl⟩
        go_wp2_with fail
        refine (g2 _).mono ?_
        rintro e w' ⟨rfl, rfl⟩
        go_wp2_with fail
        refine (isd_no _ _ (Or.inl b0)).mono ?_
        rintro e w' ⟨rfl, rfl⟩
        go_wp2
        go_ret
        exact ⟨rfl, rfl⟩
      · go_wp2_with fail
        refine (g2 _).mono ?_
        rintro e w' ⟨rfl, rfl⟩
        go_wp2_with fail
        refine (isd_no _ _ (Or.inl b0)).mono ?_
        rintro e w' ⟨rfl, rfl⟩
        go_wp2
        go_ret
        exact ⟨rfl, rfl⟩

set_option maxHeartbeats 400000 in
theorem some_my (s t : ByteArray) (E : Nat) (x : Int) (w : World) (hs : s.size ≤ 65536) (ht : t.size ≤ 65536) (t0 : 0 < t.size) (t1 : ((t.size : Int) == 0) = false) (d1 : 48 ≤ bt t 0) (d2 : bt t 0 ≤ 57)
    (s0 : 0 < s.size) (q1 : (bt s 0 == 45) = true) (b0 : bt s 0 < 48) (hE1 : 1 < E) (hE2 : E ≤ s.size)
    (HY : Hid (∀ c, 1 ≤ c → c < E → 48 ≤ bt s c ∧ bt s c ≤ 57)) (HN : Hid (E < s.size → bt s E < 48 ∨ 57 < bt s E))
    (g1 : Leads s x (E : Nat)) :
    Calls Try.prog 4 #[.string s, .string t] w fun e w' => e = .returned (.bool true) ∧ w' = w := by
  have hb := get_bt s
  have hbt := get_bt t
  go_enter Try.func4, Try.ntmps4
  go_wp2_with (go_at_call 10; refine (bytesC s t _ hs ht).mono ?_; rintro e w' ⟨rfl, rfl⟩)
  refine (g1 _).mono ?_
  rintro e w' ⟨rfl, rfl⟩
  go_wp2_with fail
  go_loop [8] (fun k => ∃ c : Nat, 1 ≤ c ∧ c ≤ E ∧ k = .int .i64 c) (fun k => s.size - (intOf k).toNat)
  case atStart => exact ⟨1, by omega, by omega, rfl⟩
  case round =>
    obtain ⟨c, c1, c2, rfl⟩ := hrel
    by_cases hlt : c < E
    · obtain ⟨e1, e2⟩ := HY.out c c1 hlt
      go_wp2_with (go_at_call 11; refine (isd_yes _ _ (by omega) (by omega)).mono ?_; rintro e w' ⟨rfl, rfl⟩)
      go_round
      case rel => exact ⟨c + 1, by omega, by omega, by go_num⟩
      case measure => simp [intOf]; omega
    · obtain rfl : c = E := by omega
      by_cases he : c < s.size
      · have HNO : Hid (bt s c < 48 ∨ 57 < bt s c) := HN.out he
        go_wp2_with fail
        refine (isd_no _ _ HNO.out).mono ?_
        rintro e w' ⟨rfl, rfl⟩
        go_wp2_with fail
        refine (isd_yes _ _ d1 d2).mono ?_
        rintro e w' ⟨rfl, rfl⟩
        go_wp2_with fail
        refine (isd_no _ _ (Or.inl b0)).mono ?_
        rintro e w' ⟨rfl, rfl⟩
        go_wp2
        go_ret
        exact ⟨rfl, rfl⟩
      · go_wp2_with fail
        refine (isd_yes _ _ d1 d2).mono ?_
        rintro e w' ⟨rfl, rfl⟩
        go_wp2_with fail
        refine (isd_no _ _ (Or.inl b0)).mono ?_
        rintro e w' ⟨rfl, rfl⟩
        go_wp2
        go_ret
        exact ⟨rfl, rfl⟩

set_option maxHeartbeats 400000 in
theorem some_mn (s t : ByteArray) (E : Nat) (x : Int) (w : World) (hs : s.size ≤ 65536) (ht : t.size ≤ 65536) (t0 : 0 < t.size) (t1 : ((t.size : Int) == 0) = false) (d1 : Hid (bt t 0 < 48 ∨ 57 < bt t 0))
    (s0 : 0 < s.size) (q1 : (bt s 0 == 45) = true) (b0 : bt s 0 < 48) (hE1 : 1 < E) (hE2 : E ≤ s.size)
    (HY : Hid (∀ c, 1 ≤ c → c < E → 48 ≤ bt s c ∧ bt s c ≤ 57)) (HN : Hid (E < s.size → bt s E < 48 ∨ 57 < bt s E))
    (g1 : Leads s x (E : Nat)) (g2 : Leads (s.extract 0 E ++ t) x (E : Nat)) :
    Calls Try.prog 4 #[.string s, .string t] w fun e w' => e = .returned (.bool true) ∧ w' = w := by
  have hb := get_bt s
  have hbt := get_bt t
  go_enter Try.func4, Try.ntmps4
  go_wp2_with (go_at_call 10; refine (bytesC s t _ hs ht).mono ?_; rintro e w' ⟨rfl, rfl⟩)
  refine (g1 _).mono ?_
  rintro e w' ⟨rfl, rfl⟩
  go_wp2_with fail
  go_loop [8] (fun k => ∃ c : Nat, 1 ≤ c ∧ c ≤ E ∧ k = .int .i64 c) (fun k => s.size - (intOf k).toNat)
  case atStart => exact ⟨1, by omega, by omega, rfl⟩
  case round =>
    obtain ⟨c, c1, c2, rfl⟩ := hrel
    by_cases hlt : c < E
    · obtain ⟨e1, e2⟩ := HY.out c c1 hlt
      go_wp2_with (go_at_call 11; refine (isd_yes _ _ (by omega) (by omega)).mono ?_; rintro e w' ⟨rfl, rfl⟩)
      go_round
      case rel => exact ⟨c + 1, by omega, by omega, by go_num⟩
      case measure => simp [intOf]; omega
    · obtain rfl : c = E := by omega
      by_cases he : c < s.size
      · have HNO : Hid (bt s c < 48 ∨ 57 < bt s c) := HN.out he
        go_wp2_with fail
        refine (isd_no _ _ HNO.out).mono ?_
        rintro e w' ⟨rfl, rfl⟩
        go_wp2_with fail
        refine (isd_no _ _ d1.out).mono ?_
        rintro e w' ⟨rfl, rfl⟩
        go_wp2_with fail
        refine (g2 _).mono ?_
        rintro e w' ⟨rfl, rfl⟩
        go_wp2_with fail
        refine (isd_no _ _ (Or.inl b0)).mono ?_
        rintro e w' ⟨rfl, rfl⟩
        go_wp2
        go_ret
        exact ⟨rfl, rfl⟩
      · go_wp2_with fail
        refine (isd_no _ _ d1.out).mono ?_
        rintro e w' ⟨rfl, rfl⟩
        go_wp2_with fail
        refine (g2 _).mono ?_
        rintro e w' ⟨rfl, rfl⟩
        go_wp2_with fail
        refine (isd_no _ _ (Or.inl b0)).mono ?_
        rintro e w' ⟨rfl, rfl⟩
        go_wp2
        go_ret
        exact ⟨rfl, rfl⟩

set_option maxHeartbeats 400000 in
theorem some_pe (s : ByteArray) (E : Nat) (x : Int) (w : World) (hs : s.size ≤ 65536) 
    (s0 : 0 < s.size) (q1 : (bt s 0 == 45) = false) (q2 : (bt s 0 == 43) = true) (b0 : bt s 0 < 48) (hE1 : 1 < E) (hE2 : E ≤ s.size)
    (HY : Hid (∀ c, 1 ≤ c → c < E → 48 ≤ bt s c ∧ bt s c ≤ 57)) (HN : Hid (E < s.size → bt s E < 48 ∨ 57 < bt s E))
    (g1 : Leads s x (E : Nat)) (g2 : Leads (s.extract 0 E) x (E : Nat)) :
    Calls Try.prog 4 #[.string s, .string ByteArray.empty] w fun e w' => e = .returned (.bool true) ∧ w' = w := by
  have hb := get_bt s
  go_enter Try.func4, Try.ntmps4
  go_wp2_with (go_at_call 10; refine (bytesC s ByteArray.empty _ hs (by decide)).mono ?_; rintro e w' ⟨rfl, rfl⟩)
  refine (g1 _).mono ?_
  rintro e w' ⟨rfl, rfl⟩
  go_wp2_with fail
  go_loop [8] (fun k => ∃ c : Nat, 1 ≤ c ∧ c ≤ E ∧ k = .int .i64 c) (fun k => s.size - (intOf k).toNat)
  case atStart => exact ⟨1, by omega, by omega, rfl⟩
  case round =>
    obtain ⟨c, c1, c2, rfl⟩ := hrel
    by_cases hlt : c < E
    · obtain ⟨e1, e2⟩ := HY.out c c1 hlt
      go_wp2_with (go_at_call 11; refine (isd_yes _ _ (by omega) (by omega)).mono ?_; rintro e w' ⟨rfl, rfl⟩)
      go_round
      case rel => exact ⟨c + 1, by omega, by omega, by go_num⟩
      case measure => simp [intOf]; omega
    · obtain rfl : c = E := by omega
      by_cases he : c < s.size
      · have HNO : Hid (bt s c < 48 ∨ 57 < bt s c) := HN.out he
        go_wp2_with fail
        refine (isd_no _ _ HNO.out).mono ?_
        rintro e w' ⟨rfl, rfl⟩
        go_wp2_with fail
        refine (g2 _).mono ?_
        rintro e w' ⟨rfl, rfl⟩
        go_wp2_with fail
        refine (isd_no _ _ (Or.inl b0)).mono ?_
        rintro e w' ⟨rfl, rfl⟩
        go_wp2
        go_ret
        exact ⟨rfl, rfl⟩
      · go_wp2_with fail
        refine (g2 _).mono ?_
        rintro e w' ⟨rfl, rfl⟩
        go_wp2_with fail
        refine (isd_no _ _ (Or.inl b0)).mono ?_
        rintro e w' ⟨rfl, rfl⟩
        go_wp2
        go_ret
        exact ⟨rfl, rfl⟩

set_option maxHeartbeats 400000 in
theorem some_py (s t : ByteArray) (E : Nat) (x : Int) (w : World) (hs : s.size ≤ 65536) (ht : t.size ≤ 65536) (t0 : 0 < t.size) (t1 : ((t.size : Int) == 0) = false) (d1 : 48 ≤ bt t 0) (d2 : bt t 0 ≤ 57)
    (s0 : 0 < s.size) (q1 : (bt s 0 == 45) = false) (q2 : (bt s 0 == 43) = true) (b0 : bt s 0 < 48) (hE1 : 1 < E) (hE2 : E ≤ s.size)
    (HY : Hid (∀ c, 1 ≤ c → c < E → 48 ≤ bt s c ∧ bt s c ≤ 57)) (HN : Hid (E < s.size → bt s E < 48 ∨ 57 < bt s E))
    (g1 : Leads s x (E : Nat)) :
    Calls Try.prog 4 #[.string s, .string t] w fun e w' => e = .returned (.bool true) ∧ w' = w := by
  have hb := get_bt s
  have hbt := get_bt t
  go_enter Try.func4, Try.ntmps4
  go_wp2_with (go_at_call 10; refine (bytesC s t _ hs ht).mono ?_; rintro e w' ⟨rfl, rfl⟩)
  refine (g1 _).mono ?_
  rintro e w' ⟨rfl, rfl⟩
  go_wp2_with fail
  go_loop [8] (fun k => ∃ c : Nat, 1 ≤ c ∧ c ≤ E ∧ k = .int .i64 c) (fun k => s.size - (intOf k).toNat)
  case atStart => exact ⟨1, by omega, by omega, rfl⟩
  case round =>
    obtain ⟨c, c1, c2, rfl⟩ := hrel
    by_cases hlt : c < E
    · obtain ⟨e1, e2⟩ := HY.out c c1 hlt
      go_wp2_with (go_at_call 11; refine (isd_yes _ _ (by omega) (by omega)).mono ?_; rintro e w' ⟨rfl, rfl⟩)
      go_round
      case rel => exact ⟨c + 1, by omega, by omega, by go_num⟩
      case measure => simp [intOf]; omega
    · obtain rfl : c = E := by omega
      by_cases he : c < s.size
      · have HNO : Hid (bt s c < 48 ∨ 57 < bt s c) := HN.out he
        go_wp2_with fail
        refine (isd_no _ _ HNO.out).mono ?_
        rintro e w' ⟨rfl, rfl⟩
        go_wp2_with fail
        refine (isd_yes _ _ d1 d2).mono ?_
        rintro e w' ⟨rfl, rfl⟩
        go_wp2_with fail
        refine (isd_no _ _ (Or.inl b0)).mono ?_
        rintro e w' ⟨rfl, rfl⟩
        go_wp2
        go_ret
        exact ⟨rfl, rfl⟩
      · go_wp2_with fail
        refine (isd_yes _ _ d1 d2).mono ?_
        rintro e w' ⟨rfl, rfl⟩
        go_wp2_with fail
        refine (isd_no _ _ (Or.inl b0)).mono ?_
        rintro e w' ⟨rfl, rfl⟩
        go_wp2
        go_ret
        exact ⟨rfl, rfl⟩

set_option maxHeartbeats 400000 in
theorem some_pn (s t : ByteArray) (E : Nat) (x : Int) (w : World) (hs : s.size ≤ 65536) (ht : t.size ≤ 65536) (t0 : 0 < t.size) (t1 : ((t.size : Int) == 0) = false) (d1 : Hid (bt t 0 < 48 ∨ 57 < bt t 0))
    (s0 : 0 < s.size) (q1 : (bt s 0 == 45) = false) (q2 : (bt s 0 == 43) = true) (b0 : bt s 0 < 48) (hE1 : 1 < E) (hE2 : E ≤ s.size)
    (HY : Hid (∀ c, 1 ≤ c → c < E → 48 ≤ bt s c ∧ bt s c ≤ 57)) (HN : Hid (E < s.size → bt s E < 48 ∨ 57 < bt s E))
    (g1 : Leads s x (E : Nat)) (g2 : Leads (s.extract 0 E ++ t) x (E : Nat)) :
    Calls Try.prog 4 #[.string s, .string t] w fun e w' => e = .returned (.bool true) ∧ w' = w := by
  have hb := get_bt s
  have hbt := get_bt t
  go_enter Try.func4, Try.ntmps4
  go_wp2_with (go_at_call 10; refine (bytesC s t _ hs ht).mono ?_; rintro e w' ⟨rfl, rfl⟩)
  refine (g1 _).mono ?_
  rintro e w' ⟨rfl, rfl⟩
  go_wp2_with fail
  go_loop [8] (fun k => ∃ c : Nat, 1 ≤ c ∧ c ≤ E ∧ k = .int .i64 c) (fun k => s.size - (intOf k).toNat)
  case atStart => exact ⟨1, by omega, by omega, rfl⟩
  case round =>
    obtain ⟨c, c1, c2, rfl⟩ := hrel
    by_cases hlt : c < E
    · obtain ⟨e1, e2⟩ := HY.out c c1 hlt
      go_wp2_with (go_at_call 11; refine (isd_yes _ _ (by omega) (by omega)).mono ?_; rintro e w' ⟨rfl, rfl⟩)
      go_round
      case rel => exact ⟨c + 1, by omega, by omega, by go_num⟩
      case measure => simp [intOf]; omega
    · obtain rfl : c = E := by omega
      by_cases he : c < s.size
      · have HNO : Hid (bt s c < 48 ∨ 57 < bt s c) := HN.out he
        go_wp2_with fail
        refine (isd_no _ _ HNO.out).mono ?_
        rintro e w' ⟨rfl, rfl⟩
        go_wp2_with fail
        refine (isd_no _ _ d1.out).mono ?_
        rintro e w' ⟨rfl, rfl⟩
        go_wp2_with fail
        refine (g2 _).mono ?_
        rintro e w' ⟨rfl, rfl⟩
        go_wp2_with fail
        refine (isd_no _ _ (Or.inl b0)).mono ?_
        rintro e w' ⟨rfl, rfl⟩
        go_wp2
        go_ret
        exact ⟨rfl, rfl⟩
      · go_wp2_with fail
        refine (isd_no _ _ d1.out).mono ?_
        rintro e w' ⟨rfl, rfl⟩
        go_wp2_with fail
        refine (g2 _).mono ?_
        rintro e w' ⟨rfl, rfl⟩
        go_wp2_with fail
        refine (isd_no _ _ (Or.inl b0)).mono ?_
        rintro e w' ⟨rfl, rfl⟩
        go_wp2
        go_ret
        exact ⟨rfl, rfl⟩

set_option maxHeartbeats 400000 in
theorem some_de (s : ByteArray) (E : Nat) (x : Int) (w : World) (hs : s.size ≤ 65536) 
    (s0 : 0 < s.size) (q1 : (bt s 0 == 45) = false) (q2 : (bt s 0 == 43) = false) (b0 : 48 ≤ bt s 0) (b1 : bt s 0 ≤ 57) (hE1 : 0 < E) (hE2 : E ≤ s.size)
    (HY : Hid (∀ c, 0 ≤ c → c < E → 48 ≤ bt s c ∧ bt s c ≤ 57)) (HN : Hid (E < s.size → bt s E < 48 ∨ 57 < bt s E))
    (g1 : Leads s x (E : Nat)) (g2 : Leads (s.extract 0 E) x (E : Nat)) (g3 : Leads (⟨#[43]⟩ ++ s) x ((E : Nat) + 1)) :
    Calls Try.prog 4 #[.string s, .string ByteArray.empty] w fun e w' => e = .returned (.bool true) ∧ w' = w := by
  have hb := get_bt s
  go_enter Try.func4, Try.ntmps4
  go_wp2_with (go_at_call 10; refine (bytesC s ByteArray.empty _ hs (by decide)).mono ?_; rintro e w' ⟨rfl, rfl⟩)
  refine (g1 _).mono ?_
  rintro e w' ⟨rfl, rfl⟩
  go_wp2_with fail
  go_loop [8] (fun k => ∃ c : Nat, 0 ≤ c ∧ c ≤ E ∧ k = .int .i64 c) (fun k => s.size - (intOf k).toNat)
  case atStart => exact ⟨0, by omega, by omega, rfl⟩
  case round =>
    obtain ⟨c, c1, c2, rfl⟩ := hrel
    by_cases hlt : c < E
    · obtain ⟨e1, e2⟩ := HY.out c c1 hlt
      go_wp2_with (go_at_call 11; refine (isd_yes _ _ (by omega) (by omega)).mono ?_; rintro e w' ⟨rfl, rfl⟩)
      go_round
      case rel => exact ⟨c + 1, by omega, by omega, by go_num⟩
      case measure => simp [intOf]; omega
    · obtain rfl : c = E := by omega
      by_cases he : c < s.size
      · have HNO : Hid (bt s c < 48 ∨ 57 < bt s c) := HN.out he
        go_wp2_with fail
        refine (isd_no _ _ HNO.out).mono ?_
        rintro e w' ⟨rfl, rfl⟩
        go_wp2_with fail
        refine (g2 _).mono ?_
        rintro e w' ⟨rfl, rfl⟩
        go_wp2_with fail
        refine (isd_yes _ _ b0 b1).mono ?_
        rintro e w' ⟨rfl, rfl⟩
        go_wp2_with fail
        refine (g3 _).mono ?_
        rintro e w' ⟨rfl, rfl⟩
        go_wp2
        go_ret
        exact ⟨rfl, rfl⟩
      · go_wp2_with fail
        refine (g2 _).mono ?_
        rintro e w' ⟨rfl, rfl⟩
        go_wp2_with fail
        refine (isd_yes _ _ b0 b1).mono ?_
        rintro e w' ⟨rfl, rfl⟩
        go_wp2_with fail
        refine (g3 _).mono ?_
        rintro e w' ⟨rfl, rfl⟩
        go_wp2
        go_ret
        exact ⟨rfl, rfl⟩

set_option maxHeartbeats 400000 in
theorem some_dy (s t : ByteArray) (E : Nat) (x : Int) (w : World) (hs : s.size ≤ 65536) (ht : t.size ≤ 65536) (t0 : 0 < t.size) (t1 : ((t.size : Int) == 0) = false) (d1 : 48 ≤ bt t 0) (d2 : bt t 0 ≤ 57)
    (s0 : 0 < s.size) (q1 : (bt s 0 == 45) = false) (q2 : (bt s 0 == 43) = false) (b0 : 48 ≤ bt s 0) (b1 : bt s 0 ≤ 57) (hE1 : 0 < E) (hE2 : E ≤ s.size)
    (HY : Hid (∀ c, 0 ≤ c → c < E → 48 ≤ bt s c ∧ bt s c ≤ 57)) (HN : Hid (E < s.size → bt s E < 48 ∨ 57 < bt s E))
    (g1 : Leads s x (E : Nat)) (g3 : Leads (⟨#[43]⟩ ++ s) x ((E : Nat) + 1)) :
    Calls Try.prog 4 #[.string s, .string t] w fun e w' => e = .returned (.bool true) ∧ w' = w := by
  have hb := get_bt s
  have hbt := get_bt t
  go_enter Try.func4, Try.ntmps4
  go_wp2_with (go_at_call 10; refine (bytesC s t _ hs ht).mono ?_; rintro e w' ⟨rfl, rfl⟩)
  refine (g1 _).mono ?_
  rintro e w' ⟨rfl, rfl⟩
  go_wp2_with fail
  go_loop [8] (fun k => ∃ c : Nat, 0 ≤ c ∧ c ≤ E ∧ k = .int .i64 c) (fun k => s.size - (intOf k).toNat)
  case atStart => exact ⟨0, by omega, by omega, rfl⟩
  case round =>
    obtain ⟨c, c1, c2, rfl⟩ := hrel
    by_cases hlt : c < E
    · obtain ⟨e1, e2⟩ := HY.out c c1 hlt
      go_wp2_with (go_at_call 11; refine (isd_yes _ _ (by omega) (by omega)).mono ?_; rintro e w' ⟨rfl, rfl⟩)
      go_round
      case rel => exact ⟨c + 1, by omega, by omega, by go_num⟩
      case measure => simp [intOf]; omega
    · obtain rfl : c = E := by omega
      by_cases he : c < s.size
      · have HNO : Hid (bt s c < 48 ∨ 57 < bt s c) := HN.out he
        go_wp2_with fail
        refine (isd_no _ _ HNO.out).mono ?_
        rintro e w' ⟨rfl, rfl⟩
        go_wp2_with fail
        refine (isd_yes _ _ d1 d2).mono ?_
        rintro e w' ⟨rfl, rfl⟩
        go_wp2_with fail
        refine (isd_yes _ _ b0 b1).mono ?_
        rintro e w' ⟨rfl, rfl⟩
        go_wp2_with fail
        refine (g3 _).mono ?_
        rintro e w' ⟨rfl, rfl⟩
        go_wp2
        go_ret
        exact ⟨rfl, rfl⟩
      · go_wp2_with fail
        refine (isd_yes _ _ d1 d2).mono ?_
        rintro e w' ⟨rfl, rfl⟩
        go_wp2_with fail
        refine (isd_yes _ _ b0 b1).mono ?_
        rintro e w' ⟨rfl, rfl⟩
        go_wp2_with fail
        refine (g3 _).mono ?_
        rintro e w' ⟨rfl, rfl⟩
        go_wp2
        go_ret
        exact ⟨rfl, rfl⟩

set_option maxHeartbeats 400000 in
theorem some_dn (s t : ByteArray) (E : Nat) (x : Int) (w : World) (hs : s.size ≤ 65536) (ht : t.size ≤ 65536) (t0 : 0 < t.size) (t1 : ((t.size : Int) == 0) = false) (d1 : Hid (bt t 0 < 48 ∨ 57 < bt t 0))
    (s0 : 0 < s.size) (q1 : (bt s 0 == 45) = false) (q2 : (bt s 0 == 43) = false) (b0 : 48 ≤ bt s 0) (b1 : bt s 0 ≤ 57) (hE1 : 0 < E) (hE2 : E ≤ s.size)
    (HY : Hid (∀ c, 0 ≤ c → c < E → 48 ≤ bt s c ∧ bt s c ≤ 57)) (HN : Hid (E < s.size → bt s E < 48 ∨ 57 < bt s E))
    (g1 : Leads s x (E : Nat)) (g2 : Leads (s.extract 0 E ++ t) x (E : Nat)) (g3 : Leads (⟨#[43]⟩ ++ s) x ((E : Nat) + 1)) :
    Calls Try.prog 4 #[.string s, .string t] w fun e w' => e = .returned (.bool true) ∧ w' = w := by
  have hb := get_bt s
  have hbt := get_bt t
  go_enter Try.func4, Try.ntmps4
  go_wp2_with (go_at_call 10; refine (bytesC s t _ hs ht).mono ?_; rintro e w' ⟨rfl, rfl⟩)
  refine (g1 _).mono ?_
  rintro e w' ⟨rfl, rfl⟩
  go_wp2_with fail
  go_loop [8] (fun k => ∃ c : Nat, 0 ≤ c ∧ c ≤ E ∧ k = .int .i64 c) (fun k => s.size - (intOf k).toNat)
  case atStart => exact ⟨0, by omega, by omega, rfl⟩
  case round =>
    obtain ⟨c, c1, c2, rfl⟩ := hrel
    by_cases hlt : c < E
    · obtain ⟨e1, e2⟩ := HY.out c c1 hlt
      go_wp2_with (go_at_call 11; refine (isd_yes _ _ (by omega) (by omega)).mono ?_; rintro e w' ⟨rfl, rfl⟩)
      go_round
      case rel => exact ⟨c + 1, by omega, by omega, by go_num⟩
      case measure => simp [intOf]; omega
    · obtain rfl : c = E := by omega
      by_cases he : c < s.size
      · have HNO : Hid (bt s c < 48 ∨ 57 < bt s c) := HN.out he
        go_wp2_with fail
        refine (isd_no _ _ HNO.out).mono ?_
        rintro e w' ⟨rfl, rfl⟩
        go_wp2_with fail
        refine (isd_no _ _ d1.out).mono ?_
        rintro e w' ⟨rfl, rfl⟩
        go_wp2_with fail
        refine (g2 _).mono ?_
        rintro e w' ⟨rfl, rfl⟩
        go_wp2_with fail
        refine (isd_yes _ _ b0 b1).mono ?_
        rintro e w' ⟨rfl, rfl⟩
        go_wp2_with fail
        refine (g3 _).mono ?_
        rintro e w' ⟨rfl, rfl⟩
        go_wp2
        go_ret
        exact ⟨rfl, rfl⟩
      · go_wp2_with fail
        refine (isd_no _ _ d1.out).mono ?_
        rintro e w' ⟨rfl, rfl⟩
        go_wp2_with fail
        refine (g2 _).mono ?_
        rintro e w' ⟨rfl, rfl⟩
        go_wp2_with fail
        refine (isd_yes _ _ b0 b1).mono ?_
        rintro e w' ⟨rfl, rfl⟩
        go_wp2_with fail
        refine (g3 _).mono ?_
        rintro e w' ⟨rfl, rfl⟩
        go_wp2
        go_ret
        exact ⟨rfl, rfl⟩

/-! ### no digits -/
theorem none_0 (t : ByteArray) (w : World) (ht : t.size ≤ 65536) (g1 : Leads ByteArray.empty 0 0) :
    Calls Try.prog 4 #[.string ByteArray.empty, .string t] w fun e w' => e = .returned (.bool true) ∧ w' = w := by
  go_enter Try.func4, Try.ntmps4
  go_wp2_with (go_at_call 10; refine (bytesC ByteArray.empty t _ (by decide) ht).mono ?_; rintro e w' ⟨rfl, rfl⟩)
  refine (g1 _).mono ?_
  rintro e w' ⟨rfl, rfl⟩
  go_wp2_with fail
  go_loop [8] (fun k => k = .int .i64 0) (fun k => 0)
  case atStart => rfl
  case round =>
    obtain rfl := hrel
    go_wp2
    go_ret
    exact ⟨rfl, rfl⟩

set_option maxHeartbeats 400000 in
theorem none_m (s t : ByteArray) (w : World) (hs : s.size ≤ 65536) (ht : t.size ≤ 65536)
    (s0 : 0 < s.size) (q1 : (bt s 0 == 45) = true) (b0 : bt s 0 < 48) (HN : Hid (1 < s.size → bt s 1 < 48 ∨ 57 < bt s 1))
    (g1 : Leads s 0 0) :
    Calls Try.prog 4 #[.string s, .string t] w fun e w' => e = .returned (.bool true) ∧ w' = w := by
  have hb := get_bt s
  go_enter Try.func4, Try.ntmps4
  go_wp2_with (go_at_call 10; refine (bytesC s t _ hs ht).mono ?_; rintro e w' ⟨rfl, rfl⟩)
  refine (g1 _).mono ?_
  rintro e w' ⟨rfl, rfl⟩
  go_wp2_with fail
  go_loop [8] (fun k => k = .int .i64 1) (fun k => 0)
  case atStart => rfl
  case round =>
    obtain rfl := hrel
    by_cases he : 1 < s.size
    · have HNO : Hid (bt s 1 < 48 ∨ 57 < bt s 1) := HN.out he
      go_wp2_with fail
      refine (isd_no _ _ HNO.out).mono ?_
      rintro e w' ⟨rfl, rfl⟩
      go_wp2
      go_ret
      exact ⟨rfl, rfl⟩
    · go_wp2
      go_ret
      exact ⟨rfl, rfl⟩

set_option maxHeartbeats 400000 in
theorem none_p (s t : ByteArray) (w : World) (hs : s.size ≤ 65536) (ht : t.size ≤ 65536)
    (s0 : 0 < s.size) (q1 : (bt s 0 == 45) = false) (q2 : (bt s 0 == 43) = true) (b0 : bt s 0 < 48) (HN : Hid (1 < s.size → bt s 1 < 48 ∨ 57 < bt s 1))
    (g1 : Leads s 0 0) :
    Calls Try.prog 4 #[.string s, .string t] w fun e w' => e = .returned (.bool true) ∧ w' = w := by
  have hb := get_bt s
  go_enter Try.func4, Try.ntmps4
  go_wp2_with (go_at_call 10; refine (bytesC s t _ hs ht).mono ?_; rintro e w' ⟨rfl, rfl⟩)
  refine (g1 _).mono ?_
  rintro e w' ⟨rfl, rfl⟩
  go_wp2_with fail
  go_loop [8] (fun k => k = .int .i64 1) (fun k => 0)
  case atStart => rfl
  case round =>
    obtain rfl := hrel
    by_cases he : 1 < s.size
    · have HNO : Hid (bt s 1 < 48 ∨ 57 < bt s 1) := HN.out he
      go_wp2_with fail
      refine (isd_no _ _ HNO.out).mono ?_
      rintro e w' ⟨rfl, rfl⟩
      go_wp2
      go_ret
      exact ⟨rfl, rfl⟩
    · go_wp2
      go_ret
      exact ⟨rfl, rfl⟩

set_option maxHeartbeats 400000 in
theorem none_d (s t : ByteArray) (w : World) (hs : s.size ≤ 65536) (ht : t.size ≤ 65536)
    (s0 : 0 < s.size) (q1 : (bt s 0 == 45) = false) (q2 : (bt s 0 == 43) = false) (HN : Hid (0 < s.size → bt s 0 < 48 ∨ 57 < bt s 0))
    (g1 : Leads s 0 0) :
    Calls Try.prog 4 #[.string s, .string t] w fun e w' => e = .returned (.bool true) ∧ w' = w := by
  have hb := get_bt s
  go_enter Try.func4, Try.ntmps4
  go_wp2_with (go_at_call 10; refine (bytesC s t _ hs ht).mono ?_; rintro e w' ⟨rfl, rfl⟩)
  refine (g1 _).mono ?_
  rintro e w' ⟨rfl, rfl⟩
  go_wp2_with fail
  go_loop [8] (fun k => k = .int .i64 0) (fun k => 0)
  case atStart => rfl
  case round =>
    obtain rfl := hrel
    by_cases he : 0 < s.size
    · have HNO : Hid (bt s 0 < 48 ∨ 57 < bt s 0) := HN.out he
      go_wp2_with fail
      refine (isd_no _ _ HNO.out).mono ?_
      rintro e w' ⟨rfl, rfl⟩
      go_wp2
      go_ret
      exact ⟨rfl, rfl⟩
    · exact absurd s0 he

/-- too long a string: nothing is asked -/
theorem long (s t : ByteArray) (w : World) (hs : s.size ≤ 9223372036854775807) (ht : t.size ≤ 9223372036854775807) (h : 65536 < s.size ∨ 65536 < t.size) :
    Calls Try.prog 4 #[.string s, .string t] w fun e w' => e = .returned (.bool true) ∧ w' = w := by
  go_enter Try.func4, Try.ntmps4
  go_wp2_with (go_at_call 10; go_in)
  all_goals
    go_ret
    exact ⟨rfl, rfl⟩

/-! ### the strings that leadingInt is asked at -/
theorem bt_append (a b : ByteArray) (c : Nat) : bt (a ++ b) c = if c < a.size then bt a c else bt b (c - a.size) := by
  have hz : (a ++ b).size = a.size + b.size := ByteArray.size_append
  unfold bt
  by_cases h : c < a.size
  · rw [if_pos h, dif_pos h, dif_pos (show c < (a ++ b).size by omega), ByteArray.getElem_append_left h]
  · rw [if_neg h]
    by_cases h2 : c < (a ++ b).size
    · rw [dif_pos h2, dif_pos (show c - a.size < b.size by omega), ByteArray.getElem_append_right (by omega)]
    · rw [dif_neg h2, dif_neg (show ¬ c - a.size < b.size by omega)]
theorem bt_extract (a : ByteArray) (E c : Nat) (h : c < E) : bt (a.extract 0 E) c = bt a c := by
  unfold bt
  have hz : (a.extract 0 E).size = min E a.size - 0 := ByteArray.size_extract
  by_cases h2 : c < a.size
  · rw [dif_pos h2, dif_pos (show c < (a.extract 0 E).size by omega), ByteArray.getElem_extract]
    simp
  · rw [dif_neg h2, dif_neg (show ¬ c < (a.extract 0 E).size by omega)]
theorem run_exists (s : ByteArray) (j : Nat) : ∃ n, Plain.Run (bt s) j n := by
  have h : ∀ d n, (∀ m, m < n → Plain.isD (bt s (j + m))) → s.size ≤ j + n + d → ∃ n', Plain.Run (bt s) j n' := by
    intro d
    induction d with
    | zero =>
      intro n hn hl
      exact ⟨n, hn, by rw [bt_end s (by omega)]; unfold Plain.isD; omega⟩
    | succ d ih =>
      intro n hn hl
      by_cases hd : Plain.isD (bt s (j + n))
      · refine ih (n + 1) (fun m hm => ?_) (by omega)
        by_cases hmn : m < n
        · exact hn m hmn
        · obtain rfl : m = n := by omega
          exact hd
      · exact ⟨n, hn, hd⟩
  exact h s.size 0 (fun m hm => absurd hm (Nat.not_lt_zero m)) (by omega)
theorem run_in {s : ByteArray} {j n : Nat} (h : Plain.Run (bt s) j n) (hn : 0 < n) : j + n ≤ s.size := by
  have h1 := h.yes (n - 1) (by omega)
  by_cases h2 : j + (n - 1) < s.size
  · omega
  · rw [bt_end s (by omega)] at h1; unfold Plain.isD at h1; omega

/-- a string that reads like s as far as s's digits go, and has no digit behind them -/
theorem leads_like (s s2 : ByteArray) (m : Nat) (hs : s2.size ≤ 9223372036854775807) (hm : 0 < m) (hr : Plain.Run (bt s) (sg s) m)
    (h : ∀ c, c < sg s + m → bt s2 c = bt s c) (hno : ¬ Plain.isD (bt s2 (sg s + m))) : Leads s2 (rI s m) (rE s m) := by
  have h0 : bt s2 0 = bt s 0 := h 0 (by omega)
  have e1 : sg s2 = sg s := by unfold sg; rw [h0]
  have e2 : ng s2 = ng s := by unfold ng hp; rw [h0]
  have hr2 : Plain.Run (bt s2) (sg s2) m := by
    rw [e1]
    exact ⟨fun c hc => by rw [h _ (by omega)]; exact hr.yes c hc, hno⟩
  have e3 : rI s2 m = rI s m := by
    unfold rI; rw [e1, e2]
    have e4 : Plain.val (Plain.dg (bt s2) (sg s)) m = Plain.val (Plain.dg (bt s) (sg s)) m := Plain.val_congr fun c hc => by unfold Plain.dg; rw [h _ (by omega)]
    rw [e4]
  have e5 : rE s2 m = rE s m := by unfold rE; rw [e1]
  rw [← e3, ← e5]
  exact leads s2 m hs hr2
/-- a plus sign ahead of a leading digit -/
theorem leads_plus (s : ByteArray) (m : Nat) (hs : s.size ≤ 65536) (hm : 0 < m) (h0 : sg s = 0) (hr : Plain.Run (bt s) 0 m) :
    Leads (⟨#[43]⟩ ++ s) (rI s m) (((sg s + m : Nat) : Int) + 1) := by
  have b : ∀ c, bt (⟨#[43]⟩ ++ s) (1 + c) = bt s c := by
    intro c
    have z : (⟨#[43]⟩ : ByteArray).size = 1 := rfl
    rw [bt_append, z, if_neg (by omega)]
    congr 1
    omega
  have b0 : bt (⟨#[43]⟩ ++ s) 0 = 43 := by
    have z : (⟨#[43]⟩ : ByteArray).size = 1 := rfl
    rw [bt_append, z, if_pos (by omega)]
    rfl
  have e1 : sg (⟨#[43]⟩ ++ s) = 1 := by unfold sg; rw [b0]; rfl
  have e2 : ng (⟨#[43]⟩ ++ s) = false := by unfold ng hp; rw [b0]; rfl
  have e2' : ng s = false := by
    unfold ng hp
    rw [decide_eq_false_iff_not]
    intro e
    have : sg s = 1 := if_pos (Or.inl e)
    omega
  have hr2 : Plain.Run (bt (⟨#[43]⟩ ++ s)) 1 m := by
    refine ⟨fun c hc => ?_, ?_⟩
    · rw [b]; have := hr.yes c hc; rwa [Nat.zero_add] at this
    · rw [b]; have := hr.no; rwa [Nat.zero_add] at this
  have e3 : rI (⟨#[43]⟩ ++ s) m = rI s m := by
    unfold rI; rw [e1, e2, e2', h0]
    have e4 : Plain.val (Plain.dg (bt (⟨#[43]⟩ ++ s)) 1) m = Plain.val (Plain.dg (bt s) 0) m := Plain.val_congr fun c hc => by unfold Plain.dg; rw [b, Nat.zero_add]
    rw [e4]
  have e5 : rE (⟨#[43]⟩ ++ s) m = ((sg s + m : Nat) : Int) + 1 := by
    unfold rE; rw [e1, h0, if_neg (by omega)]; omega
  rw [← e3, ← e5]
  have hz : ((⟨#[43]⟩ : ByteArray) ++ s).size = 1 + s.size := ByteArray.size_append
  exact leads _ m (by omega) (by rw [e1]; exact hr2)

theorem not_digit {x : Int} (h : ¬ Plain.isD x) : x < 48 ∨ 57 < x := by unfold Plain.isD at h; omega
theorem not_digit' {x : Int} (h : x < 48 ∨ 57 < x) : ¬ Plain.isD x := by unfold Plain.isD; omega
theorem beq_yes {x y : Int} (h : x = y) : (x == y) = true := by simp [h]
theorem beq_no {x y : Int} (h : ¬ x = y) : (x == y) = false := by simp [h]
theorem empty_of {t : ByteArray} (h : t.size = 0) : t = ByteArray.empty := ByteArray.size_eq_zero_iff.1 h

theorem stops (s t : ByteArray) (w : World) (hs : s.size ≤ 9223372036854775807) (ht : t.size ≤ 9223372036854775807) :
    Calls Try.prog 4 #[.string s, .string t] w fun e w' => e = .returned (.bool true) ∧ w' = w := by
  by_cases k1 : 65536 < s.size ∨ 65536 < t.size
  · exact long s t w hs ht k1
  have hs2 : s.size ≤ 65536 := by omega
  have ht2 : t.size ≤ 65536 := by omega
  obtain ⟨m, hr⟩ := run_exists s (sg s)
  have g1 := leads s m hs hr
  by_cases hm : m = 0
  · subst hm
    have g1' : Leads s 0 0 := g1
    have hn := hr.no
    rw [Nat.add_zero] at hn
    by_cases s0 : s.size = 0
    · obtain rfl := empty_of s0
      exact none_0 t w ht2 g1'
    · by_cases q1 : bt s 0 = 45
      · have e : sg s = 1 := if_pos (Or.inl q1)
        rw [e] at hn
        exact none_m s t w hs2 ht2 (by omega) (beq_yes q1) (by omega) (fun _ => not_digit hn) g1'
      · by_cases q2 : bt s 0 = 43
        · have e : sg s = 1 := if_pos (Or.inr q2)
          rw [e] at hn
          exact none_p s t w hs2 ht2 (by omega) (beq_no q1) (beq_yes q2) (by omega) (fun _ => not_digit hn) g1'
        · have e : sg s = 0 := if_neg (by omega)
          rw [e] at hn
          exact none_d s t w hs2 ht2 (by omega) (beq_no q1) (beq_no q2) (fun _ => not_digit hn) g1'
  · have hE2 : sg s + m ≤ s.size := run_in hr (by omega)
    have s0 : 0 < s.size := by omega
    have eE : rE s m = ((sg s + m : Nat) : Int) := by unfold rE; rw [if_neg hm]
    rw [eE] at g1
    have HY : Hid (∀ c, sg s ≤ c → c < sg s + m → 48 ≤ bt s c ∧ bt s c ≤ 57) := by
      intro c h1 h2
      have := hr.yes (c - sg s) (by omega)
      rwa [show sg s + (c - sg s) = c from by omega] at this
    have HN : Hid (sg s + m < s.size → bt s (sg s + m) < 48 ∨ 57 < bt s (sg s + m)) := fun _ => not_digit hr.no
    have hz : (s.extract 0 (sg s + m)).size = sg s + m := by rw [ByteArray.size_extract]; omega
    have ge : t.size = 0 → Leads (s.extract 0 (sg s + m)) (rI s m) ((sg s + m : Nat) : Int) := by
      intro _
      rw [← eE]
      refine leads_like s _ m (by omega) (by omega) hr (fun c hc => bt_extract s _ c hc) ?_
      rw [bt_end _ (by omega)]; unfold Plain.isD; omega
    have gn : 0 < t.size → (bt t 0 < 48 ∨ 57 < bt t 0) → Leads (s.extract 0 (sg s + m) ++ t) (rI s m) ((sg s + m : Nat) : Int) := by
      intro _ hd
      have hz2 : (s.extract 0 (sg s + m) ++ t).size = (s.extract 0 (sg s + m)).size + t.size := ByteArray.size_append
      rw [← eE]
      refine leads_like s _ m (by omega) (by omega) hr (fun c hc => ?_) ?_
      · rw [bt_append, hz, if_pos hc]; exact bt_extract s _ c hc
      · rw [bt_append, hz, if_neg (by omega), Nat.sub_self]; exact not_digit' hd
    have gp : sg s = 0 → Leads (⟨#[43]⟩ ++ s) (rI s m) (((sg s + m : Nat) : Int) + 1) := fun h0 => leads_plus s m hs2 (by omega) h0 (by rw [h0] at hr; exact hr)
    generalize rI s m = x at *
    by_cases q1 : bt s 0 = 45
    · have e : sg s = 1 := if_pos (Or.inl q1)
      rw [e] at HY HN g1 ge gn hE2
      by_cases t0 : t.size = 0
      · have g2 := ge t0
        obtain rfl := empty_of t0
        exact some_me s _ x w hs2 s0 (beq_yes q1) (by omega) (by omega) hE2 HY HN g1 g2
      · by_cases d : 48 ≤ bt t 0 ∧ bt t 0 ≤ 57
        · exact some_my s t _ x w hs2 ht2 (by omega) (beq_no (by omega)) d.1 d.2 s0 (beq_yes q1) (by omega) (by omega) hE2 HY HN g1
        · have d' := not_digit (x := bt t 0) d
          exact some_mn s t _ x w hs2 ht2 (by omega) (beq_no (by omega)) d' s0 (beq_yes q1) (by omega) (by omega) hE2 HY HN g1 (gn (by omega) d')
    · by_cases q2 : bt s 0 = 43
      · have e : sg s = 1 := if_pos (Or.inr q2)
        rw [e] at HY HN g1 ge gn hE2
        by_cases t0 : t.size = 0
        · have g2 := ge t0
          obtain rfl := empty_of t0
          exact some_pe s _ x w hs2 s0 (beq_no q1) (beq_yes q2) (by omega) (by omega) hE2 HY HN g1 g2
        · by_cases d : 48 ≤ bt t 0 ∧ bt t 0 ≤ 57
          · exact some_py s t _ x w hs2 ht2 (by omega) (beq_no (by omega)) d.1 d.2 s0 (beq_no q1) (beq_yes q2) (by omega) (by omega) hE2 HY HN g1
          · have d' := not_digit (x := bt t 0) d
            exact some_pn s t _ x w hs2 ht2 (by omega) (beq_no (by omega)) d' s0 (beq_no q1) (beq_yes q2) (by omega) (by omega) hE2 HY HN g1 (gn (by omega) d')
      · have e : sg s = 0 := if_neg (by omega)
        have g3 := gp e
        rw [e] at HY HN g1 ge gn hE2 g3
        obtain ⟨b0, b1⟩ := HY.out 0 (by omega) (by omega)
        by_cases t0 : t.size = 0
        · have g2 := ge t0
          obtain rfl := empty_of t0
          exact some_de s _ x w hs2 s0 (beq_no q1) (beq_no q2) b0 b1 (by omega) hE2 HY HN g1 g2 g3
        · by_cases d : 48 ≤ bt t 0 ∧ bt t 0 ≤ 57
          · exact some_dy s t _ x w hs2 ht2 (by omega) (beq_no (by omega)) d.1 d.2 s0 (beq_no q1) (beq_no q2) b0 b1 (by omega) hE2 HY HN g1 g3
          · have d' := not_digit (x := bt t 0) d
            exact some_dn s t _ x w hs2 ht2 (by omega) (beq_no (by omega)) d' s0 (beq_no q1) (beq_no q2) b0 b1 (by omega) hE2 HY HN g1 (gn (by omega) d') g3

end Stops
end Go.Proofs.Qxb6617327a
