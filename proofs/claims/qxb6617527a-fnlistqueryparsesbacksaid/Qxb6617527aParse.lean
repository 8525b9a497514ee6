/-
  WALKS of the parser: lqHasPrefix, lqCutAmp, lqUnreserved, lqHexUpper, lqDecodesTo, lqParamIs.
-/
import Derived.Test.Qxb6617527aPlain
import Derived.Test.Qxb6617527aProg
import Derived.WalkKit
import Derived.WalkSpells
import Derived.WalkLawsBesides
import Derived.PlainAid
import Derived.Deep.QuietTactic
import Derived.BigQuiet
namespace Go.Proofs.Qxb6617527a
open Go.RowKit Go.PlainAid
set_option linter.unusedVariables false

namespace Parse
theorem bt_bl (s : ByteArray) (k : Nat) : bt s k = Plain.bl s.data.toList k := by
  have hz : s.data.toList.length = s.size := by simp
  unfold bt
  by_cases h : k < s.size
  · rw [dif_pos h, Plain.bl_get _ _ (by omega)]
    rfl
  · rw [dif_neg h, Plain.bl_end _ _ (by omega)]

set_option maxHeartbeats 400000 in
theorem hasp_any (s p : ByteArray) (w : World) (hs : s.size ≤ 9223372036854775807) (hp : p.size ≤ s.size) (he : ∀ i, i < p.size → bt s i = bt p i) :
    Calls Try.prog 7 #[.string s, .string p] w fun e w' => e = .returned (.bool true) ∧ (∃ n, w' = w.drewN n) := by
  have HE : Hid (∀ i, i < p.size → bt s i = bt p i) := he
  clear he
  have hb := get_bt s
  have hb2 := get_bt p
  go_enter Try.func7, Try.ntmps7
  go_wp2
  go_loopw [5] (fun i W => ∃ k nq : Nat, k ≤ p.size ∧ i = .int .i64 k ∧ W = w.drewN nq) (fun i _ => p.size - (intOf i).toNat)
  case atStart => exact ⟨0, 0, Nat.zero_le _, rfl, rfl⟩
  case round =>
    obtain ⟨k, nq, hk, rfl, rfl⟩ := hrel
    by_cases hlt : k < p.size
    · have hlt2 : k < s.size := by omega
      have hne : (bt s k != bt p k) = false := by rw [HE.out k hlt]; simp
      go_wp2
      go_quiet (fail)
      go_wp2
      go_roundw
      case rel => exact ⟨k + 1, _, by omega, by go_num, rfl⟩
      case measure => simp [intOf]; omega
    · go_wp2
      go_ret
      exact ⟨rfl, ⟨_, rfl⟩⟩

set_option maxHeartbeats 400000 in
theorem cut_at (s : ByteArray) (K : Nat) (w : World) (hs : s.size ≤ 9223372036854775807) (hK : K < s.size) (h1 : ∀ i, i < K → bt s i ≠ 38) (h2 : bt s K = 38) :
    Calls Try.prog 8 #[.string s] w fun e w' => e = .returned (.tuple #[.string (s.extract 0 K), .string (s.extract (K + 1) s.size), .bool true]) ∧ (∃ n, w' = w.drewN n) := by
  have H1 : Hid (∀ i, i < K → bt s i ≠ 38) := h1
  have H2 : Hid (bt s K = 38) := h2
  clear h1 h2
  have hb := get_bt s
  go_enter Try.func8, Try.ntmps8
  go_wp2
  go_loop [5] (fun i => ∃ k : Nat, k ≤ K ∧ i = .int .i64 k) (fun i => s.size - (intOf i).toNat)
  case atStart => exact ⟨0, Nat.zero_le _, rfl⟩
  case round =>
    obtain ⟨k, hk, rfl⟩ := hrel
    by_cases hlt : k < K
    · have hne : (bt s k == 38) = false := by rw [beq_eq_false_iff_ne]; exact H1.out k hlt
      go_wp2
      go_round
      case rel => exact ⟨k + 1, by omega, by go_num⟩
      case measure => simp [intOf]; omega
    · obtain rfl : k = K := by omega
      have heq : (bt s k == 38) = true := by rw [H2.out]; rfl
      go_wp2
      go_quiet (fail)
      go_wp2
      go_ret3
      exact ⟨rfl, ⟨_, rfl⟩⟩

set_option maxHeartbeats 400000 in
theorem cut_none (s : ByteArray) (w : World) (hs : s.size ≤ 9223372036854775807) (h1 : ∀ i, bt s i ≠ 38) :
    Calls Try.prog 8 #[.string s] w fun e w' => e = .returned (.tuple #[.string s, .string ⟨#[]⟩, .bool false]) ∧ (∃ n, w' = w.drewN n) := by
  have H1 : Hid (∀ i, bt s i ≠ 38) := h1
  clear h1
  have hb := get_bt s
  go_enter Try.func8, Try.ntmps8
  go_wp2
  go_loop [5] (fun i => ∃ k : Nat, k ≤ s.size ∧ i = .int .i64 k) (fun i => s.size - (intOf i).toNat)
  case atStart => exact ⟨0, Nat.zero_le _, rfl⟩
  case round =>
    obtain ⟨k, hk, rfl⟩ := hrel
    by_cases hlt : k < s.size
    · have hne : (bt s k == 38) = false := by rw [beq_eq_false_iff_ne]; exact H1.out k
      go_wp2
      go_round
      case rel => exact ⟨k + 1, by omega, by go_num⟩
      case measure => simp [intOf]; omega
    · go_wp2
      go_ret3
      exact ⟨rfl, ⟨0, rfl⟩⟩

theorem unres_yes (c : Int) (w : World) (h0 : 0 ≤ c) (hu : Plain.unr c.toNat = true) :
    Calls Try.prog 14 #[.int .u8 c] w fun e w' => e = .returned (.bool true) ∧ w' = w := by
  have hr := (Plain.unr_iff _).1 hu
  have hr2 : (97 ≤ c ∧ c ≤ 122) ∨ (65 ≤ c ∧ c ≤ 90) ∨ (48 ≤ c ∧ c ≤ 57) ∨ (45 ≤ c ∧ c ≤ 45) ∨ (46 ≤ c ∧ c ≤ 46) ∨ (95 ≤ c ∧ c ≤ 95) ∨ (126 ≤ c ∧ c ≤ 126) := by omega
  clear hr hu
  rcases hr2 with ⟨r1, r2⟩ | ⟨r1, r2⟩ | ⟨r1, r2⟩ | ⟨r1, r2⟩ | ⟨r1, r2⟩ | ⟨r1, r2⟩ | ⟨r1, r2⟩
  all_goals
    go_enter Try.func14, Try.ntmps14
    go_wp2
    all_goals
      go_ret
      exact ⟨congrArg (fun z => Ending.returned (.bool z)) (by first | rfl | (simp; omega)), rfl⟩
theorem unres_no (c : Int) (w : World) (h0 : 0 ≤ c) (h1 : c ≤ 255) (hu : Plain.unr c.toNat = false) :
    Calls Try.prog 14 #[.int .u8 c] w fun e w' => e = .returned (.bool false) ∧ w' = w := by
  have hr := mt (Plain.unr_iff _).2 (by rw [hu]; decide)
  have hr2 : (0 ≤ c ∧ c ≤ 44) ∨ (47 ≤ c ∧ c ≤ 47) ∨ (58 ≤ c ∧ c ≤ 64) ∨ (91 ≤ c ∧ c ≤ 94) ∨ (96 ≤ c ∧ c ≤ 96) ∨ (123 ≤ c ∧ c ≤ 125) ∨ (127 ≤ c ∧ c ≤ 255) := by omega
  clear hr hu
  rcases hr2 with ⟨r1, r2⟩ | ⟨r1, r2⟩ | ⟨r1, r2⟩ | ⟨r1, r2⟩ | ⟨r1, r2⟩ | ⟨r1, r2⟩ | ⟨r1, r2⟩
  all_goals
    have n1 : (c == 45) = false := by rw [beq_eq_false_iff_ne]; omega
    have n2 : (c == 46) = false := by rw [beq_eq_false_iff_ne]; omega
    have n3 : (c == 95) = false := by rw [beq_eq_false_iff_ne]; omega
    have n4 : (c == 126) = false := by rw [beq_eq_false_iff_ne]; omega
    go_enter Try.func14, Try.ntmps14
    go_wp2
    all_goals
      go_ret
      exact ⟨congrArg (fun z => Ending.returned (.bool z)) (by first | rfl | (simp; omega)), rfl⟩
theorem hexup (c n : Int) (w : World) (h : (48 ≤ c ∧ c ≤ 57 ∧ n = c - 48) ∨ (65 ≤ c ∧ c ≤ 70 ∧ n = c - 55)) :
    Calls Try.prog 13 #[.int .u8 c] w fun e w' => e = .returned (.int .i64 n) ∧ w' = w := by
  rcases h with ⟨h1, h2, rfl⟩ | ⟨h1, h2, rfl⟩
  · go_enter Try.func13, Try.ntmps13
    go_wp2
    go_ret
    exact ⟨rfl, rfl⟩
  · go_enter Try.func13, Try.ntmps13
    go_wp2
    go_ret
    exact ⟨congrArg (fun z => Ending.returned (.int .i64 z)) (by omega), rfl⟩
theorem hex_val (n : Nat) (h : n < 16) : (48 ≤ (Plain.hxN n : Int) ∧ (Plain.hxN n : Int) ≤ 57 ∧ (n : Int) = (Plain.hxN n : Int) - 48) ∨ (65 ≤ (Plain.hxN n : Int) ∧ (Plain.hxN n : Int) ≤ 70 ∧ (n : Int) = (Plain.hxN n : Int) - 55) := by
  unfold Plain.hxN; split <;> omega

/-- what the code of byte j of t is, read off s -/
theorem code_at (s t : ByteArray) (hst : s.data.toList = Plain.esc t.data.toList) (j : Nat) (h : j < t.size) :
    (Plain.unr (bt t j).toNat = true ∧ bt s (Plain.at_ t.data.toList j) = bt t j ∧ Plain.at_ t.data.toList (j + 1) = Plain.at_ t.data.toList j + 1 ∧ Plain.at_ t.data.toList j < s.size) ∨
    (Plain.unr (bt t j).toNat = false ∧ bt s (Plain.at_ t.data.toList j) = 37 ∧ bt s (Plain.at_ t.data.toList j + 1) = Plain.hxN ((bt t j).toNat / 16) ∧ bt s (Plain.at_ t.data.toList j + 2) = Plain.hxN ((bt t j).toNat % 16) ∧ Plain.at_ t.data.toList (j + 1) = Plain.at_ t.data.toList j + 3 ∧ Plain.at_ t.data.toList j + 3 ≤ s.size) := by
  have hz : s.data.toList.length = s.size := by simp
  have hz2 : t.data.toList.length = t.size := by simp
  have hj : j < t.data.toList.length := by omega
  have e := bt_bl t j
  rw [Plain.bl_get _ _ hj] at e
  rw [bt_bl s, bt_bl s, bt_bl s, hst, e, Int.toNat_natCast]
  rw [hst] at hz
  cases hu : Plain.unr t.data.toList[j].toNat with
  | true =>
    obtain ⟨a, b⟩ := Plain.code_plain _ j hj hu
    have c := Plain.at_in _ j hj
    have d := Plain.ec_len t.data.toList[j]
    exact Or.inl ⟨rfl, a, b, by omega⟩
  | false =>
    obtain ⟨a, b, c, d, f⟩ := Plain.code_hex _ j hj hu
    exact Or.inr ⟨rfl, a, b, c, d, by omega⟩

set_option maxHeartbeats 1000000 in
theorem decodes (s t : ByteArray) (w : World) (hs : s.size ≤ 1048576) (ht : t.size ≤ 1048576) (hst : s.data.toList = Plain.esc t.data.toList) :
    Calls Try.prog 9 #[.string s, .string t] w fun e w' => e = .returned (.bool true) ∧ w' = w := by
  have HC : Hid (∀ j, j < t.size → (Plain.unr (bt t j).toNat = true ∧ bt s (Plain.at_ t.data.toList j) = bt t j ∧ Plain.at_ t.data.toList (j + 1) = Plain.at_ t.data.toList j + 1 ∧ Plain.at_ t.data.toList j < s.size) ∨
    (Plain.unr (bt t j).toNat = false ∧ bt s (Plain.at_ t.data.toList j) = 37 ∧ bt s (Plain.at_ t.data.toList j + 1) = Plain.hxN ((bt t j).toNat / 16) ∧ bt s (Plain.at_ t.data.toList j + 2) = Plain.hxN ((bt t j).toNat % 16) ∧ Plain.at_ t.data.toList (j + 1) = Plain.at_ t.data.toList j + 3 ∧ Plain.at_ t.data.toList j + 3 ≤ s.size)) := fun j hj => code_at s t hst j hj
  have HZ : Hid (Plain.at_ t.data.toList t.size = s.size) := by
    have hz : s.data.toList.length = s.size := by simp
    have hz2 : t.data.toList.length = t.size := by simp
    have := Plain.at_end t.data.toList
    rw [hz2, ← hst, hz] at this
    exact this
  have H0 : Hid (Plain.at_ t.data.toList 0 = 0) := Plain.at_zero _
  clear hst
  have hb := get_bt s
  have hb2 := get_bt t
  go_enter Try.func9, Try.ntmps9
  go_wp2
  go_loop [5, 6] (fun i j => ∃ n m : Nat, m ≤ t.size ∧ n ≤ Plain.at_ t.data.toList m ∧ Plain.at_ t.data.toList m ≤ n ∧ i = .int .i64 n ∧ j = .int .i64 m) (fun _ j => t.size - (intOf j).toNat)
  case atStart => exact ⟨0, 0, Nat.zero_le _, Nat.zero_le _, by rw [H0.out]; exact Nat.le_refl _, rfl, rfl⟩
  case round =>
    obtain ⟨n, m, hm, n1, n2, rfl, rfl⟩ := hrel
    obtain rfl : n = Plain.at_ t.data.toList m := by omega
    have q0 := bt_nonneg t m
    have q1 := bt_le t m
    by_cases hlt : m < t.size
    · rcases HC.out m hlt with ⟨u, e1, e2, e3⟩ | ⟨u, e1, e2, e3, e4, e5⟩
      · have E1 : Hid (bt s (Plain.at_ t.data.toList m) = bt t m) := e1
        have E2 : Hid (Plain.at_ t.data.toList (m + 1) = Plain.at_ t.data.toList m + 1) := e2
        have U : Hid (Plain.unr (bt t m).toNat = true) := u
        have p37 : (bt s (Plain.at_ t.data.toList m) == 37) = false := by
          rw [e1, beq_eq_false_iff_ne]; intro e; rw [e] at u; exact absurd u (by decide)
        have peq : (bt t m != bt s (Plain.at_ t.data.toList m)) = false := by rw [e1]; simp
        have UC : Hid (∀ w : World, Calls Try.prog 14 #[.int .u8 (bt s (Plain.at_ t.data.toList m))] w fun e w' => e = .returned (.bool true) ∧ w' = w) := fun w => by rw [e1]; exact unres_yes _ w q0 u
        have z1 : Plain.at_ t.data.toList m ≤ 1048576 := by omega
        clear e1 e2 u HC HZ H0
        generalize Plain.at_ t.data.toList m = n at *
        go_wp2_with fail
        refine (UC.out _).mono ?_
        rintro e w' ⟨rfl, rfl⟩
        go_wp2
        go_round
        case rel => exact ⟨n + 1, m + 1, by omega, by rw [E2.out]; exact Nat.le_refl _, by rw [E2.out]; exact Nat.le_refl _, by go_num, by go_num⟩
        case measure => simp [intOf]; omega
      · have E4 : Hid (Plain.at_ t.data.toList (m + 1) = Plain.at_ t.data.toList m + 3) := e4
        have p37 : (bt s (Plain.at_ t.data.toList m) == 37) = true := by rw [e1]; rfl
        have X1 : Hid (∀ w : World, Calls Try.prog 13 #[.int .u8 (bt s (Plain.at_ t.data.toList m + 1))] w fun e w' => e = .returned (.int .i64 (bt t m / 16)) ∧ w' = w) := fun w => by
          rw [e2]
          have := hex_val ((bt t m).toNat / 16) (by omega)
          exact hexup _ _ w (by omega)
        have X2 : Hid (∀ w : World, Calls Try.prog 13 #[.int .u8 (bt s (Plain.at_ t.data.toList m + 2))] w fun e w' => e = .returned (.int .i64 (bt t m % 16)) ∧ w' = w) := fun w => by
          rw [e3]
          have := hex_val ((bt t m).toNat % 16) (by omega)
          exact hexup _ _ w (by omega)
        have UC : Hid (∀ w : World, Calls Try.prog 14 #[.int .u8 (bt t m)] w fun e w' => e = .returned (.bool false) ∧ w' = w) := fun w => unres_no _ w q0 q1 u
        have v0 : bt t m / 16 * 16 + bt t m % 16 = bt t m := by omega
        have v1 : 0 ≤ bt t m / 16 := by omega
        have v2 : bt t m / 16 ≤ 15 := by omega
        have v3 : 0 ≤ bt t m % 16 := by omega
        have v4 : bt t m % 16 ≤ 15 := by omega
        generalize bt t m / 16 = hh at *
        generalize bt t m % 16 = ll at *
        clear e1 e2 e3 e4 u HC HZ H0
        generalize Plain.at_ t.data.toList m = n at *
        go_wp2_with fail
        refine (X1.out _).mono ?_
        rintro e w' ⟨rfl, rfl⟩
        go_wp2_with fail
        refine (X2.out _).mono ?_
        rintro e w' ⟨rfl, rfl⟩
        go_wp2_with fail
        refine (UC.out _).mono ?_
        rintro e w' ⟨rfl, rfl⟩
        go_wp2
        go_round
        case rel => exact ⟨n + 3, m + 1, by omega, by rw [E4.out]; exact Nat.le_refl _, by rw [E4.out]; exact Nat.le_refl _, by go_num, by go_num⟩
        case measure => simp [intOf]; omega
    · obtain rfl : m = t.size := by omega
      have z1 := HZ.out
      have z2 : Plain.at_ t.data.toList t.size ≤ s.size := by omega
      have z3 : s.size ≤ Plain.at_ t.data.toList t.size := by omega
      clear z1 HC HZ H0 n1 n2
      generalize Plain.at_ t.data.toList t.size = n at *
      go_wp2
      go_ret
      exact ⟨rfl, rfl⟩

/-! ### the callees as facts in whatever world (plain names, so that the walk does not open them) -/
def Hasp (s p : ByteArray) : Prop := ∀ w : World, Calls Try.prog 7 #[.string s, .string p] w fun e w' => e = .returned (.bool true) ∧ (∃ n, w' = w.drewN n)
def Cuts (s x y : ByteArray) (m : Bool) : Prop := ∀ w : World, Calls Try.prog 8 #[.string s] w fun e w' => e = .returned (.tuple #[.string x, .string y, .bool m]) ∧ (∃ n, w' = w.drewN n)
def Decs (s t : ByteArray) : Prop := ∀ w : World, Calls Try.prog 9 #[.string s, .string t] w fun e w' => e = .returned (.bool true) ∧ w' = w
def Pars (s n t : ByteArray) : Prop := ∀ w : World, Calls Try.prog 10 #[.string s, .string n, .string t] w fun e w' => e = .returned (.bool true) ∧ (∃ k, w' = w.drewN k)

theorem pars (s n t : ByteArray) (hs : s.size ≤ 9223372036854775807) (hn : n.size ≤ s.size) (g1 : Hasp s n) (g2 : Decs (s.extract n.size s.size) t) : Pars s n t := by
  intro w
  go_enter Try.func10, Try.ntmps10
  go_wp2_with fail
  refine (g1 _).mono ?_
  rintro e w' ⟨rfl, k, rfl⟩
  go_wp2_with fail
  refine (g2 _).mono ?_
  rintro e w' ⟨rfl, rfl⟩
  go_wp2
  go_ret
  exact ⟨rfl, ⟨k, rfl⟩⟩
end Parse
end Go.Proofs.Qxb6617527a
