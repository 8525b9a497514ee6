/-
  WALKS of zzLeadingModel.
-/
import Derived.Test.Qxb6617327aModel
namespace Go.Proofs.Qxb6617327a
open Go.RowKit Go.PlainAid
set_option linter.unusedVariables false

namespace Model
open Lead

theorem isd_yes (c : Int) (w : World) (h1 : 48 ≤ c) (h2 : c ≤ 57) :
    Calls Try.prog 11 #[.int .u8 c] w fun e w' => e = .returned (.bool true) ∧ w' = w := by
  go_enter Try.func11, Try.ntmps11
  go_wp2
  go_ret
  exact ⟨rfl, rfl⟩
theorem isd_no (c : Int) (w : World) (h : c < 48 ∨ 57 < c) :
    Calls Try.prog 11 #[.int .u8 c] w fun e w' => e = .returned (.bool false) ∧ w' = w := by
  rcases h with h | h
  · go_enter Try.func11, Try.ntmps11
    go_wp2
    go_ret
    exact ⟨rfl, rfl⟩
  · have d : decide (c ≤ 57) = false := by simp; omega
    go_enter Try.func11, Try.ntmps11
    go_wp2
    go_ret
    exact ⟨rfl, rfl⟩

/-- what is summed modulo 2^32 behind i digits from place z on -/
def md (s : ByteArray) (z i : Nat) : Nat := Plain.val (Plain.dg (bt s) z) i % 4294967296
theorem md_zero (s : ByteArray) (z : Nat) : md s z 0 = 0 := rfl
theorem md_lt (s : ByteArray) (z i : Nat) : (md s z i : Int) ≤ 4294967295 := by unfold md; omega
theorem md_succ (s : ByteArray) (z i : Nat) (h1 : 48 ≤ bt s (z + i)) (h2 : bt s (z + i) ≤ 57) : (md s z (i + 1) : Int) = ((md s z i : Int) * 10 + (bt s (z + i) - 48)) % 4294967296 := by
  unfold md
  rw [Plain.val]
  have : ((Plain.dg (bt s) z i : Nat) : Int) = bt s (z + i) - 48 := Plain.dg_int ⟨h1, h2⟩
  omega

theorem md_next (s : ByteArray) (z i f : Nat) (f1 : f ≤ z + i) (f2 : z + i ≤ f) (h1 : 48 ≤ bt s f) (h2 : bt s f ≤ 57) : (md s z (i + 1) : Int) = ((md s z i : Int) * 10 + (bt s f - 48)) % 4294967296 := by
  obtain rfl : f = z + i := by omega
  exact md_succ s z i h1 h2
theorem ret_u32 {a b : Int} (h : a = b) : Value.int .u32 a = .int .u32 b := by rw [h]
theorem md_wrap (r d : Int) : IntKind.u32.wrap (IntKind.u32.wrap (r * 10) + d) = (r * 10 + d) % 4294967296 := by
  rw [IntKind.wrap_u32, IntKind.wrap_u32]; omega
theorem fin_neg {x : Int} {r c : Nat} (h : x = wrap32 (IntKind.u32.wrap (-(r : Int)))) : Ending.returned (.tuple #[.int .i32 (wrap32 (IntKind.u32.wrap (-(r : Int)))), .int .i64 c]) = .returned (.tuple #[.int .i32 x, .int .i64 c]) := by rw [h]
theorem fin_pos {x : Int} {r c : Nat} (h : x = wrap32 (r : Int)) : Ending.returned (.tuple #[.int .i32 (wrap32 (r : Int)), .int .i64 c]) = .returned (.tuple #[.int .i32 x, .int .i64 c]) := by rw [h]

set_option maxHeartbeats 1000000 in
theorem model_m_big (s : ByteArray) (E Z : Nat) (w : World) (hs : s.size ≤ 1048576)
    (s0 : 0 < s.size) (q1 : (bt s 0 == 45) = true) (hE1 : 1 < E) (hE2 : E ≤ s.size) (hZ1 : 1 ≤ Z) (hZ2 : Z ≤ E)
    (HY : Hid (∀ c, 1 ≤ c → c < E → 48 ≤ bt s c ∧ bt s c ≤ 57)) (HN : Hid (E < s.size → bt s E < 48 ∨ 57 < bt s E))
    (HZ : Hid (∀ c, 1 ≤ c → c < Z → (bt s c == 48) = true)) (HZN : Hid (Z < E → (bt s Z == 48) = false)) (gb : Big (s.extract Z E) true) :
    Calls Try.prog 9 #[.string s] w fun e w' => e = .returned (.tuple #[.int .i32 0, .int .i64 (E : Nat)]) ∧ (∃ n, w' = w.drewN n) := by
  have hb := get_bt s
  go_enter Try.func9, Try.ntmps9
  go_wp2_with fail
  go_loop [6] (fun k => ∃ c : Nat, 1 ≤ c ∧ c ≤ E ∧ k = .int .i64 c) (fun k => s.size - (intOf k).toNat)
  case atStart => exact ⟨1, by omega, by omega, rfl⟩
  case round =>
    obtain ⟨c, c1, c2, rfl⟩ := hrel
    by_cases hlt : c < E
    · obtain ⟨e1, e2⟩ := HY.out c c1 hlt
      go_wp2_with (go_at_call 11; refine (isd_yes _ _ (by omega) (by omega)).mono ?_; rintro e w' ⟨rfl, rfl⟩)
      go_round
      case rel => exact ⟨c + 1, by omega, by omega, by go_num⟩
      case measure => simp [intOf]; omega
    · obtain rfl : c = E := by omega
      have hne : ((c : Int) == 1) = false := by rw [beq_eq_false_iff_ne]; omega
      by_cases he : c < s.size
      · have HNO : Hid (bt s c < 48 ∨ 57 < bt s c) := HN.out he
        go_wp2_with fail
        refine (isd_no _ _ HNO.out).mono ?_
        rintro e w' ⟨rfl, rfl⟩
        go_wp2_with fail
        go_loop [7] (fun z => ∃ d : Nat, 1 ≤ d ∧ d ≤ Z ∧ z = .int .i64 d) (fun z => c - (intOf z).toNat)
        case atStart => exact ⟨1, by omega, by omega, rfl⟩
        case round =>
          obtain ⟨d, d1, d2, rfl⟩ := hrel
          by_cases hlz : d < Z
          · have z1 := HZ.out d d1 hlz
            go_wp2
            go_round
            case rel => exact ⟨d + 1, by omega, by omega, by go_num⟩
            case measure => simp [intOf]; omega
          · obtain rfl : d = Z := by omega
            by_cases hze : d < c
            · have z2 := HZN.out hze
              go_wp2_with fail
              refine (gb _).mono ?_
              rintro e w' ⟨rfl, q, rfl⟩
              go_wp2
              go_ret2
              exact ⟨rfl, ⟨q, rfl⟩⟩
            · go_wp2_with fail
              refine (gb _).mono ?_
              rintro e w' ⟨rfl, q, rfl⟩
              go_wp2
              go_ret2
              exact ⟨rfl, ⟨q, rfl⟩⟩
      · go_wp2_with fail
        go_loop [7] (fun z => ∃ d : Nat, 1 ≤ d ∧ d ≤ Z ∧ z = .int .i64 d) (fun z => c - (intOf z).toNat)
        case atStart => exact ⟨1, by omega, by omega, rfl⟩
        case round =>
          obtain ⟨d, d1, d2, rfl⟩ := hrel
          by_cases hlz : d < Z
          · have z1 := HZ.out d d1 hlz
            go_wp2
            go_round
            case rel => exact ⟨d + 1, by omega, by omega, by go_num⟩
            case measure => simp [intOf]; omega
          · obtain rfl : d = Z := by omega
            by_cases hze : d < c
            · have z2 := HZN.out hze
              go_wp2_with fail
              refine (gb _).mono ?_
              rintro e w' ⟨rfl, q, rfl⟩
              go_wp2
              go_ret2
              exact ⟨rfl, ⟨q, rfl⟩⟩
            · go_wp2_with fail
              refine (gb _).mono ?_
              rintro e w' ⟨rfl, q, rfl⟩
              go_wp2
              go_ret2
              exact ⟨rfl, ⟨q, rfl⟩⟩

set_option maxHeartbeats 1000000 in
theorem model_m_small (s : ByteArray) (E Z : Nat) (x : Int) (HX : Hid (x = wrap32 (IntKind.u32.wrap (-(md s Z (E - Z) : Int))))) (w : World) (hs : s.size ≤ 1048576)
    (s0 : 0 < s.size) (q1 : (bt s 0 == 45) = true) (hE1 : 1 < E) (hE2 : E ≤ s.size) (hZ1 : 1 ≤ Z) (hZ2 : Z ≤ E)
    (HY : Hid (∀ c, 1 ≤ c → c < E → 48 ≤ bt s c ∧ bt s c ≤ 57)) (HN : Hid (E < s.size → bt s E < 48 ∨ 57 < bt s E))
    (HZ : Hid (∀ c, 1 ≤ c → c < Z → (bt s c == 48) = true)) (HZN : Hid (Z < E → (bt s Z == 48) = false)) (gb : Big (s.extract Z E) false) :
    Calls Try.prog 9 #[.string s] w fun e w' => e = .returned (.tuple #[.int .i32 x, .int .i64 (E : Nat)]) ∧ (∃ n, w' = w.drewN n) := by
  have hb := get_bt s
  go_enter Try.func9, Try.ntmps9
  go_wp2_with fail
  go_loop [6] (fun k => ∃ c : Nat, 1 ≤ c ∧ c ≤ E ∧ k = .int .i64 c) (fun k => s.size - (intOf k).toNat)
  case atStart => exact ⟨1, by omega, by omega, rfl⟩
  case round =>
    obtain ⟨c, c1, c2, rfl⟩ := hrel
    by_cases hlt : c < E
    · obtain ⟨e1, e2⟩ := HY.out c c1 hlt
      go_wp2_with (go_at_call 11; refine (isd_yes _ _ (by omega) (by omega)).mono ?_; rintro e w' ⟨rfl, rfl⟩)
      go_round
      case rel => exact ⟨c + 1, by omega, by omega, by go_num⟩
      case measure => simp [intOf]; omega
    · obtain rfl : c = E := by omega
      have hne : ((c : Int) == 1) = false := by rw [beq_eq_false_iff_ne]; omega
      by_cases he : c < s.size
      · have HNO : Hid (bt s c < 48 ∨ 57 < bt s c) := HN.out he
        go_wp2_with fail
        refine (isd_no _ _ HNO.out).mono ?_
        rintro e w' ⟨rfl, rfl⟩
        go_wp2_with fail
        go_loop [7] (fun z => ∃ d : Nat, 1 ≤ d ∧ d ≤ Z ∧ z = .int .i64 d) (fun z => c - (intOf z).toNat)
        case atStart => exact ⟨1, by omega, by omega, rfl⟩
        case round =>
          obtain ⟨d, d1, d2, rfl⟩ := hrel
          by_cases hlz : d < Z
          · have z1 := HZ.out d d1 hlz
            go_wp2
            go_round
            case rel => exact ⟨d + 1, by omega, by omega, by go_num⟩
            case measure => simp [intOf]; omega
          · obtain rfl : d = Z := by omega
            by_cases hze : d < c
            · have z2 := HZN.out hze
              go_wp2_with fail
              refine (gb _).mono ?_
              rintro e w' ⟨rfl, q, rfl⟩
              go_wp2_with fail
              go_loop [8, 9] (fun r y => ∃ f i : Nat, f ≤ d + i ∧ d + i ≤ f ∧ f ≤ c ∧ y = .int .i64 f ∧ r = .int .u32 (md s d i : Nat)) (fun _ y => c - (intOf y).toNat)
              case atStart => exact ⟨d, 0, by omega, by omega, by omega, rfl, rfl⟩
              case round =>
                obtain ⟨f, i, f1, f2, f3, rfl, rfl⟩ := hrel
                have r1 := md_lt s d i
                by_cases hf : f < c
                · obtain ⟨e1, e2⟩ := HY.out f (by omega) hf
                  have HM : Hid ((md s d (i + 1) : Int) = ((md s d i : Int) * 10 + (bt s f - 48)) % 4294967296) := md_next s d i f f1 f2 e1 e2
                  generalize md s d i = r at *
                  go_wp2
                  go_round
                  case rel => exact ⟨f + 1, i + 1, by omega, by omega, by omega, by go_num, by rw [HM.out]; exact ret_u32 (md_wrap _ _)⟩
                  case measure => simp [intOf]; omega
                · obtain rfl : i = c - d := by omega
                  generalize md s d (c - d) = r at *
                  obtain rfl : f = c := by omega
                  go_wp2
                  go_ret2
                  exact ⟨fin_neg HX.out, ⟨q, rfl⟩⟩
            · go_wp2_with fail
              refine (gb _).mono ?_
              rintro e w' ⟨rfl, q, rfl⟩
              go_wp2_with fail
              go_loop [8, 9] (fun r y => ∃ f i : Nat, f ≤ d + i ∧ d + i ≤ f ∧ f ≤ c ∧ y = .int .i64 f ∧ r = .int .u32 (md s d i : Nat)) (fun _ y => c - (intOf y).toNat)
              case atStart => exact ⟨d, 0, by omega, by omega, by omega, rfl, rfl⟩
              case round =>
                obtain ⟨f, i, f1, f2, f3, rfl, rfl⟩ := hrel
                have r1 := md_lt s d i
                by_cases hf : f < c
                · exfalso; omega
                · obtain rfl : i = c - d := by omega
                  generalize md s d (c - d) = r at *
                  obtain rfl : f = c := by omega
                  go_wp2
                  go_ret2
                  exact ⟨fin_neg HX.out, ⟨q, rfl⟩⟩
      · go_wp2_with fail
        go_loop [7] (fun z => ∃ d : Nat, 1 ≤ d ∧ d ≤ Z ∧ z = .int .i64 d) (fun z => c - (intOf z).toNat)
        case atStart => exact ⟨1, by omega, by omega, rfl⟩
        case round =>
          obtain ⟨d, d1, d2, rfl⟩ := hrel
          by_cases hlz : d < Z
          · have z1 := HZ.out d d1 hlz
            go_wp2
            go_round
            case rel => exact ⟨d + 1, by omega, by omega, by go_num⟩
            case measure => simp [intOf]; omega
          · obtain rfl : d = Z := by omega
            by_cases hze : d < c
            · have z2 := HZN.out hze
              go_wp2_with fail
              refine (gb _).mono ?_
              rintro e w' ⟨rfl, q, rfl⟩
              go_wp2_with fail
              go_loop [8, 9] (fun r y => ∃ f i : Nat, f ≤ d + i ∧ d + i ≤ f ∧ f ≤ c ∧ y = .int .i64 f ∧ r = .int .u32 (md s d i : Nat)) (fun _ y => c - (intOf y).toNat)
              case atStart => exact ⟨d, 0, by omega, by omega, by omega, rfl, rfl⟩
              case round =>
                obtain ⟨f, i, f1, f2, f3, rfl, rfl⟩ := hrel
                have r1 := md_lt s d i
                by_cases hf : f < c
                · obtain ⟨e1, e2⟩ := HY.out f (by omega) hf
                  have HM : Hid ((md s d (i + 1) : Int) = ((md s d i : Int) * 10 + (bt s f - 48)) % 4294967296) := md_next s d i f f1 f2 e1 e2
                  generalize md s d i = r at *
                  go_wp2
                  go_round
                  case rel => exact ⟨f + 1, i + 1, by omega, by omega, by omega, by go_num, by rw [HM.out]; exact ret_u32 (md_wrap _ _)⟩
                  case measure => simp [intOf]; omega
                · obtain rfl : i = c - d := by omega
                  generalize md s d (c - d) = r at *
                  obtain rfl : f = c := by omega
                  go_wp2
                  go_ret2
                  exact ⟨fin_neg HX.out, ⟨q, rfl⟩⟩
            · go_wp2_with fail
              refine (gb _).mono ?_
              rintro e w' ⟨rfl, q, rfl⟩
              go_wp2_with fail
              go_loop [8, 9] (fun r y => ∃ f i : Nat, f ≤ d + i ∧ d + i ≤ f ∧ f ≤ c ∧ y = .int .i64 f ∧ r = .int .u32 (md s d i : Nat)) (fun _ y => c - (intOf y).toNat)
              case atStart => exact ⟨d, 0, by omega, by omega, by omega, rfl, rfl⟩
              case round =>
                obtain ⟨f, i, f1, f2, f3, rfl, rfl⟩ := hrel
                have r1 := md_lt s d i
                by_cases hf : f < c
                · exfalso; omega
                · obtain rfl : i = c - d := by omega
                  generalize md s d (c - d) = r at *
                  obtain rfl : f = c := by omega
                  go_wp2
                  go_ret2
                  exact ⟨fin_neg HX.out, ⟨q, rfl⟩⟩

set_option maxHeartbeats 1000000 in
theorem model_p_big (s : ByteArray) (E Z : Nat) (w : World) (hs : s.size ≤ 1048576)
    (s0 : 0 < s.size) (q1 : (bt s 0 == 45) = false) (q2 : (bt s 0 == 43) = true) (hE1 : 1 < E) (hE2 : E ≤ s.size) (hZ1 : 1 ≤ Z) (hZ2 : Z ≤ E)
    (HY : Hid (∀ c, 1 ≤ c → c < E → 48 ≤ bt s c ∧ bt s c ≤ 57)) (HN : Hid (E < s.size → bt s E < 48 ∨ 57 < bt s E))
    (HZ : Hid (∀ c, 1 ≤ c → c < Z → (bt s c == 48) = true)) (HZN : Hid (Z < E → (bt s Z == 48) = false)) (gb : Big (s.extract Z E) true) :
    Calls Try.prog 9 #[.string s] w fun e w' => e = .returned (.tuple #[.int .i32 (-1), .int .i64 (E : Nat)]) ∧ (∃ n, w' = w.drewN n) := by
  have hb := get_bt s
  go_enter Try.func9, Try.ntmps9
  go_wp2_with fail
  go_loop [6] (fun k => ∃ c : Nat, 1 ≤ c ∧ c ≤ E ∧ k = .int .i64 c) (fun k => s.size - (intOf k).toNat)
  case atStart => exact ⟨1, by omega, by omega, rfl⟩
  case round =>
    obtain ⟨c, c1, c2, rfl⟩ := hrel
    by_cases hlt : c < E
    · obtain ⟨e1, e2⟩ := HY.out c c1 hlt
      go_wp2_with (go_at_call 11; refine (isd_yes _ _ (by omega) (by omega)).mono ?_; rintro e w' ⟨rfl, rfl⟩)
      go_round
      case rel => exact ⟨c + 1, by omega, by omega, by go_num⟩
      case measure => simp [intOf]; omega
    · obtain rfl : c = E := by omega
      have hne : ((c : Int) == 1) = false := by rw [beq_eq_false_iff_ne]; omega
      by_cases he : c < s.size
      · have HNO : Hid (bt s c < 48 ∨ 57 < bt s c) := HN.out he
        go_wp2_with fail
        refine (isd_no _ _ HNO.out).mono ?_
        rintro e w' ⟨rfl, rfl⟩
        go_wp2_with fail
        go_loop [7] (fun z => ∃ d : Nat, 1 ≤ d ∧ d ≤ Z ∧ z = .int .i64 d) (fun z => c - (intOf z).toNat)
        case atStart => exact ⟨1, by omega, by omega, rfl⟩
        case round =>
          obtain ⟨d, d1, d2, rfl⟩ := hrel
          by_cases hlz : d < Z
          · have z1 := HZ.out d d1 hlz
            go_wp2
            go_round
            case rel => exact ⟨d + 1, by omega, by omega, by go_num⟩
            case measure => simp [intOf]; omega
          · obtain rfl : d = Z := by omega
            by_cases hze : d < c
            · have z2 := HZN.out hze
              go_wp2_with fail
              refine (gb _).mono ?_
              rintro e w' ⟨rfl, q, rfl⟩
              go_wp2
              go_ret2
              exact ⟨rfl, ⟨q, rfl⟩⟩
            · go_wp2_with fail
              refine (gb _).mono ?_
              rintro e w' ⟨rfl, q, rfl⟩
              go_wp2
              go_ret2
              exact ⟨rfl, ⟨q, rfl⟩⟩
      · go_wp2_with fail
        go_loop [7] (fun z => ∃ d : Nat, 1 ≤ d ∧ d ≤ Z ∧ z = .int .i64 d) (fun z => c - (intOf z).toNat)
        case atStart => exact ⟨1, by omega, by omega, rfl⟩
        case round =>
          obtain ⟨d, d1, d2, rfl⟩ := hrel
          by_cases hlz : d < Z
          · have z1 := HZ.out d d1 hlz
            go_wp2
            go_round
            case rel => exact ⟨d + 1, by omega, by omega, by go_num⟩
            case measure => simp [intOf]; omega
          · obtain rfl : d = Z := by omega
            by_cases hze : d < c
            · have z2 := HZN.out hze
              go_wp2_with fail
              refine (gb _).mono ?_
              rintro e w' ⟨rfl, q, rfl⟩
              go_wp2
              go_ret2
              exact ⟨rfl, ⟨q, rfl⟩⟩
            · go_wp2_with fail
              refine (gb _).mono ?_
              rintro e w' ⟨rfl, q, rfl⟩
              go_wp2
              go_ret2
              exact ⟨rfl, ⟨q, rfl⟩⟩

set_option maxHeartbeats 1000000 in
theorem model_p_small (s : ByteArray) (E Z : Nat) (x : Int) (HX : Hid (x = wrap32 (md s Z (E - Z) : Int))) (w : World) (hs : s.size ≤ 1048576)
    (s0 : 0 < s.size) (q1 : (bt s 0 == 45) = false) (q2 : (bt s 0 == 43) = true) (hE1 : 1 < E) (hE2 : E ≤ s.size) (hZ1 : 1 ≤ Z) (hZ2 : Z ≤ E)
    (HY : Hid (∀ c, 1 ≤ c → c < E → 48 ≤ bt s c ∧ bt s c ≤ 57)) (HN : Hid (E < s.size → bt s E < 48 ∨ 57 < bt s E))
    (HZ : Hid (∀ c, 1 ≤ c → c < Z → (bt s c == 48) = true)) (HZN : Hid (Z < E → (bt s Z == 48) = false)) (gb : Big (s.extract Z E) false) :
    Calls Try.prog 9 #[.string s] w fun e w' => e = .returned (.tuple #[.int .i32 x, .int .i64 (E : Nat)]) ∧ (∃ n, w' = w.drewN n) := by
  have hb := get_bt s
  go_enter Try.func9, Try.ntmps9
  go_wp2_with fail
  go_loop [6] (fun k => ∃ c : Nat, 1 ≤ c ∧ c ≤ E ∧ k = .int .i64 c) (fun k => s.size - (intOf k).toNat)
  case atStart => exact ⟨1, by omega, by omega, rfl⟩
  case round =>
    obtain ⟨c, c1, c2, rfl⟩ := hrel
    by_cases hlt : c < E
    · obtain ⟨e1, e2⟩ := HY.out c c1 hlt
      go_wp2_with (go_at_call 11; refine (isd_yes _ _ (by omega) (by omega)).mono ?_; rintro e w' ⟨rfl, rfl⟩)
      go_round
      case rel => exact ⟨c + 1, by omega, by omega, by go_num⟩
      case measure => simp [intOf]; omega
    · obtain rfl : c = E := by omega
      have hne : ((c : Int) == 1) = false := by rw [beq_eq_false_iff_ne]; omega
      by_cases he : c < s.size
      · have HNO : Hid (bt s c < 48 ∨ 57 < bt s c) := HN.out he
        go_wp2_with fail
        refine (isd_no _ _ HNO.out).mono ?_
        rintro e w' ⟨rfl, rfl⟩
        go_wp2_with fail
        go_loop [7] (fun z => ∃ d : Nat, 1 ≤ d ∧ d ≤ Z ∧ z = .int .i64 d) (fun z => c - (intOf z).toNat)
        case atStart => exact ⟨1, by omega, by omega, rfl⟩
        case round =>
          obtain ⟨d, d1, d2, rfl⟩ := hrel
          by_cases hlz : d < Z
          · have z1 := HZ.out d d1 hlz
            go_wp2
            go_round
            case rel => exact ⟨d + 1, by omega, by omega, by go_num⟩
            case measure => simp [intOf]; omega
          · obtain rfl : d = Z := by omega
            by_cases hze : d < c
            · have z2 := HZN.out hze
              go_wp2_with fail
              refine (gb _).mono ?_
              rintro e w' ⟨rfl, q, rfl⟩
              go_wp2_with fail
              go_loop [8, 9] (fun r y => ∃ f i : Nat, f ≤ d + i ∧ d + i ≤ f ∧ f ≤ c ∧ y = .int .i64 f ∧ r = .int .u32 (md s d i : Nat)) (fun _ y => c - (intOf y).toNat)
              case atStart => exact ⟨d, 0, by omega, by omega, by omega, rfl, rfl⟩
              case round =>
                obtain ⟨f, i, f1, f2, f3, rfl, rfl⟩ := hrel
                have r1 := md_lt s d i
                by_cases hf : f < c
                · obtain ⟨e1, e2⟩ := HY.out f (by omega) hf
                  have HM : Hid ((md s d (i + 1) : Int) = ((md s d i : Int) * 10 + (bt s f - 48)) % 4294967296) := md_next s d i f f1 f2 e1 e2
                  generalize md s d i = r at *
                  go_wp2
                  go_round
                  case rel => exact ⟨f + 1, i + 1, by omega, by omega, by omega, by go_num, by rw [HM.out]; exact ret_u32 (md_wrap _ _)⟩
                  case measure => simp [intOf]; omega
                · obtain rfl : i = c - d := by omega
                  generalize md s d (c - d) = r at *
                  obtain rfl : f = c := by omega
                  go_wp2
                  go_ret2
                  exact ⟨fin_pos HX.out, ⟨q, rfl⟩⟩
            · go_wp2_with fail
              refine (gb _).mono ?_
              rintro e w' ⟨rfl, q, rfl⟩
              go_wp2_with fail
              go_loop [8, 9] (fun r y => ∃ f i : Nat, f ≤ d + i ∧ d + i ≤ f ∧ f ≤ c ∧ y = .int .i64 f ∧ r = .int .u32 (md s d i : Nat)) (fun _ y => c - (intOf y).toNat)
              case atStart => exact ⟨d, 0, by omega, by omega, by omega, rfl, rfl⟩
              case round =>
                obtain ⟨f, i, f1, f2, f3, rfl, rfl⟩ := hrel
                have r1 := md_lt s d i
                by_cases hf : f < c
                · exfalso; omega
                · obtain rfl : i = c - d := by omega
                  generalize md s d (c - d) = r at *
                  obtain rfl : f = c := by omega
                  go_wp2
                  go_ret2
                  exact ⟨fin_pos HX.out, ⟨q, rfl⟩⟩
      · go_wp2_with fail
        go_loop [7] (fun z => ∃ d : Nat, 1 ≤ d ∧ d ≤ Z ∧ z = .int .i64 d) (fun z => c - (intOf z).toNat)
        case atStart => exact ⟨1, by omega, by omega, rfl⟩
        case round =>
          obtain ⟨d, d1, d2, rfl⟩ := hrel
          by_cases hlz : d < Z
          · have z1 := HZ.out d d1 hlz
            go_wp2
            go_round
            case rel => exact ⟨d + 1, by omega, by omega, by go_num⟩
            case measure => simp [intOf]; omega
          · obtain rfl : d = Z := by omega
            by_cases hze : d < c
            · have z2 := HZN.out hze
              go_wp2_with fail
              refine (gb _).mono ?_
              rintro e w' ⟨rfl, q, rfl⟩
              go_wp2_with fail
              go_loop [8, 9] (fun r y => ∃ f i : Nat, f ≤ d + i ∧ d + i ≤ f ∧ f ≤ c ∧ y = .int .i64 f ∧ r = .int .u32 (md s d i : Nat)) (fun _ y => c - (intOf y).toNat)
              case atStart => exact ⟨d, 0, by omega, by omega, by omega, rfl, rfl⟩
              case round =>
                obtain ⟨f, i, f1, f2, f3, rfl, rfl⟩ := hrel
                have r1 := md_lt s d i
                by_cases hf : f < c
                · obtain ⟨e1, e2⟩ := HY.out f (by omega) hf
                  have HM : Hid ((md s d (i + 1) : Int) = ((md s d i : Int) * 10 + (bt s f - 48)) % 4294967296) := md_next s d i f f1 f2 e1 e2
                  generalize md s d i = r at *
                  go_wp2
                  go_round
                  case rel => exact ⟨f + 1, i + 1, by omega, by omega, by omega, by go_num, by rw [HM.out]; exact ret_u32 (md_wrap _ _)⟩
                  case measure => simp [intOf]; omega
                · obtain rfl : i = c - d := by omega
                  generalize md s d (c - d) = r at *
                  obtain rfl : f = c := by omega
                  go_wp2
                  go_ret2
                  exact ⟨fin_pos HX.out, ⟨q, rfl⟩⟩
            · go_wp2_with fail
              refine (gb _).mono ?_
              rintro e w' ⟨rfl, q, rfl⟩
              go_wp2_with fail
              go_loop [8, 9] (fun r y => ∃ f i : Nat, f ≤ d + i ∧ d + i ≤ f ∧ f ≤ c ∧ y = .int .i64 f ∧ r = .int .u32 (md s d i : Nat)) (fun _ y => c - (intOf y).toNat)
              case atStart => exact ⟨d, 0, by omega, by omega, by omega, rfl, rfl⟩
              case round =>
                obtain ⟨f, i, f1, f2, f3, rfl, rfl⟩ := hrel
                have r1 := md_lt s d i
                by_cases hf : f < c
                · exfalso; omega
                · obtain rfl : i = c - d := by omega
                  generalize md s d (c - d) = r at *
                  obtain rfl : f = c := by omega
                  go_wp2
                  go_ret2
                  exact ⟨fin_pos HX.out, ⟨q, rfl⟩⟩

set_option maxHeartbeats 1000000 in
theorem model_d_big (s : ByteArray) (E Z : Nat) (w : World) (hs : s.size ≤ 1048576)
    (s0 : 0 < s.size) (q1 : (bt s 0 == 45) = false) (q2 : (bt s 0 == 43) = false) (hE1 : 0 < E) (hE2 : E ≤ s.size) (hZ1 : 0 ≤ Z) (hZ2 : Z ≤ E)
    (HY : Hid (∀ c, 0 ≤ c → c < E → 48 ≤ bt s c ∧ bt s c ≤ 57)) (HN : Hid (E < s.size → bt s E < 48 ∨ 57 < bt s E))
    (HZ : Hid (∀ c, 0 ≤ c → c < Z → (bt s c == 48) = true)) (HZN : Hid (Z < E → (bt s Z == 48) = false)) (gb : Big (s.extract Z E) true) :
    Calls Try.prog 9 #[.string s] w fun e w' => e = .returned (.tuple #[.int .i32 (-1), .int .i64 (E : Nat)]) ∧ (∃ n, w' = w.drewN n) := by
  have hb := get_bt s
  go_enter Try.func9, Try.ntmps9
  go_wp2_with fail
  go_loop [6] (fun k => ∃ c : Nat, 0 ≤ c ∧ c ≤ E ∧ k = .int .i64 c) (fun k => s.size - (intOf k).toNat)
  case atStart => exact ⟨0, by omega, by omega, rfl⟩
  case round =>
    obtain ⟨c, c1, c2, rfl⟩ := hrel
    by_cases hlt : c < E
    · obtain ⟨e1, e2⟩ := HY.out c c1 hlt
      go_wp2_with (go_at_call 11; refine (isd_yes _ _ (by omega) (by omega)).mono ?_; rintro e w' ⟨rfl, rfl⟩)
      go_round
      case rel => exact ⟨c + 1, by omega, by omega, by go_num⟩
      case measure => simp [intOf]; omega
    · obtain rfl : c = E := by omega
      have hne : ((c : Int) == 0) = false := by rw [beq_eq_false_iff_ne]; omega
      by_cases he : c < s.size
      · have HNO : Hid (bt s c < 48 ∨ 57 < bt s c) := HN.out he
        go_wp2_with fail
        refine (isd_no _ _ HNO.out).mono ?_
        rintro e w' ⟨rfl, rfl⟩
        go_wp2_with fail
        go_loop [7] (fun z => ∃ d : Nat, 0 ≤ d ∧ d ≤ Z ∧ z = .int .i64 d) (fun z => c - (intOf z).toNat)
        case atStart => exact ⟨0, by omega, by omega, rfl⟩
        case round =>
          obtain ⟨d, d1, d2, rfl⟩ := hrel
          by_cases hlz : d < Z
          · have z1 := HZ.out d d1 hlz
            go_wp2
            go_round
            case rel => exact ⟨d + 1, by omega, by omega, by go_num⟩
            case measure => simp [intOf]; omega
          · obtain rfl : d = Z := by omega
            by_cases hze : d < c
            · have z2 := HZN.out hze
              go_wp2_with fail
              refine (gb _).mono ?_
              rintro e w' ⟨rfl, q, rfl⟩
              go_wp2
              go_ret2
              exact ⟨rfl, ⟨q, rfl⟩⟩
            · go_wp2_with fail
              refine (gb _).mono ?_
              rintro e w' ⟨rfl, q, rfl⟩
              go_wp2
              go_ret2
              exact ⟨rfl, ⟨q, rfl⟩⟩
      · go_wp2_with fail
        go_loop [7] (fun z => ∃ d : Nat, 0 ≤ d ∧ d ≤ Z ∧ z = .int .i64 d) (fun z => c - (intOf z).toNat)
        case atStart => exact ⟨0, by omega, by omega, rfl⟩
        case round =>
          obtain ⟨d, d1, d2, rfl⟩ := hrel
          by_cases hlz : d < Z
          · have z1 := HZ.out d d1 hlz
            go_wp2
            go_round
            case rel => exact ⟨d + 1, by omega, by omega, by go_num⟩
            case measure => simp [intOf]; omega
          · obtain rfl : d = Z := by omega
            by_cases hze : d < c
            · have z2 := HZN.out hze
              go_wp2_with fail
              refine (gb _).mono ?_
              rintro e w' ⟨rfl, q, rfl⟩
              go_wp2
              go_ret2
              exact ⟨rfl, ⟨q, rfl⟩⟩
            · go_wp2_with fail
              refine (gb _).mono ?_
              rintro e w' ⟨rfl, q, rfl⟩
              go_wp2
              go_ret2
              exact ⟨rfl, ⟨q, rfl⟩⟩

set_option maxHeartbeats 1000000 in
theorem model_d_small (s : ByteArray) (E Z : Nat) (x : Int) (HX : Hid (x = wrap32 (md s Z (E - Z) : Int))) (w : World) (hs : s.size ≤ 1048576)
    (s0 : 0 < s.size) (q1 : (bt s 0 == 45) = false) (q2 : (bt s 0 == 43) = false) (hE1 : 0 < E) (hE2 : E ≤ s.size) (hZ1 : 0 ≤ Z) (hZ2 : Z ≤ E)
    (HY : Hid (∀ c, 0 ≤ c → c < E → 48 ≤ bt s c ∧ bt s c ≤ 57)) (HN : Hid (E < s.size → bt s E < 48 ∨ 57 < bt s E))
    (HZ : Hid (∀ c, 0 ≤ c → c < Z → (bt s c == 48) = true)) (HZN : Hid (Z < E → (bt s Z == 48) = false)) (gb : Big (s.extract Z E) false) :
    Calls Try.prog 9 #[.string s] w fun e w' => e = .returned (.tuple #[.int .i32 x, .int .i64 (E : Nat)]) ∧ (∃ n, w' = w.drewN n) := by
  have hb := get_bt s
  go_enter Try.func9, Try.ntmps9
  go_wp2_with fail
  go_loop [6] (fun k => ∃ c : Nat, 0 ≤ c ∧ c ≤ E ∧ k = .int .i64 c) (fun k => s.size - (intOf k).toNat)
  case atStart => exact ⟨0, by omega, by omega, rfl⟩
  case round =>
    obtain ⟨c, c1, c2, rfl⟩ := hrel
    by_cases hlt : c < E
    · obtain ⟨e1, e2⟩ := HY.out c c1 hlt
      go_wp2_with (go_at_call 11; refine (isd_yes _ _ (by omega) (by omega)).mono ?_; rintro e w' ⟨rfl, rfl⟩)
      go_round
      case rel => exact ⟨c + 1, by omega, by omega, by go_num⟩
      case measure => simp [intOf]; omega
    · obtain rfl : c = E := by omega
      have hne : ((c : Int) == 0) = false := by rw [beq_eq_false_iff_ne]; omega
      by_cases he : c < s.size
      · have HNO : Hid (bt s c < 48 ∨ 57 < bt s c) := HN.out he
        go_wp2_with fail
        refine (isd_no _ _ HNO.out).mono ?_
        rintro e w' ⟨rfl, rfl⟩
        go_wp2_with fail
        go_loop [7] (fun z => ∃ d : Nat, 0 ≤ d ∧ d ≤ Z ∧ z = .int .i64 d) (fun z => c - (intOf z).toNat)
        case atStart => exact ⟨0, by omega, by omega, rfl⟩
        case round =>
          obtain ⟨d, d1, d2, rfl⟩ := hrel
          by_cases hlz : d < Z
          · have z1 := HZ.out d d1 hlz
            go_wp2
            go_round
            case rel => exact ⟨d + 1, by omega, by omega, by go_num⟩
            case measure => simp [intOf]; omega
          · obtain rfl : d = Z := by omega
            by_cases hze : d < c
            · have z2 := HZN.out hze
              go_wp2_with fail
              refine (gb _).mono ?_
              rintro e w' ⟨rfl, q, rfl⟩
              go_wp2_with fail
              go_loop [8, 9] (fun r y => ∃ f i : Nat, f ≤ d + i ∧ d + i ≤ f ∧ f ≤ c ∧ y = .int .i64 f ∧ r = .int .u32 (md s d i : Nat)) (fun _ y => c - (intOf y).toNat)
              case atStart => exact ⟨d, 0, by omega, by omega, by omega, rfl, rfl⟩
              case round =>
                obtain ⟨f, i, f1, f2, f3, rfl, rfl⟩ := hrel
                have r1 := md_lt s d i
                by_cases hf : f < c
                · obtain ⟨e1, e2⟩ := HY.out f (by omega) hf
                  have HM : Hid ((md s d (i + 1) : Int) = ((md s d i : Int) * 10 + (bt s f - 48)) % 4294967296) := md_next s d i f f1 f2 e1 e2
                  generalize md s d i = r at *
                  go_wp2
                  go_round
                  case rel => exact ⟨f + 1, i + 1, by omega, by omega, by omega, by go_num, by rw [HM.out]; exact ret_u32 (md_wrap _ _)⟩
                  case measure => simp [intOf]; omega
                · obtain rfl : i = c - d := by omega
                  generalize md s d (c - d) = r at *
                  obtain rfl : f = c := by omega
                  go_wp2
                  go_ret2
                  exact ⟨fin_pos HX.out, ⟨q, rfl⟩⟩
            · go_wp2_with fail
              refine (gb _).mono ?_
              rintro e w' ⟨rfl, q, rfl⟩
              go_wp2_with fail
              go_loop [8, 9] (fun r y => ∃ f i : Nat, f ≤ d + i ∧ d + i ≤ f ∧ f ≤ c ∧ y = .int .i64 f ∧ r = .int .u32 (md s d i : Nat)) (fun _ y => c - (intOf y).toNat)
              case atStart => exact ⟨d, 0, by omega, by omega, by omega, rfl, rfl⟩
              case round =>
                obtain ⟨f, i, f1, f2, f3, rfl, rfl⟩ := hrel
                have r1 := md_lt s d i
                by_cases hf : f < c
                · exfalso; omega
                · obtain rfl : i = c - d := by omega
                  generalize md s d (c - d) = r at *
                  obtain rfl : f = c := by omega
                  go_wp2
                  go_ret2
                  exact ⟨fin_pos HX.out, ⟨q, rfl⟩⟩
      · go_wp2_with fail
        go_loop [7] (fun z => ∃ d : Nat, 0 ≤ d ∧ d ≤ Z ∧ z = .int .i64 d) (fun z => c - (intOf z).toNat)
        case atStart => exact ⟨0, by omega, by omega, rfl⟩
        case round =>
          obtain ⟨d, d1, d2, rfl⟩ := hrel
          by_cases hlz : d < Z
          · have z1 := HZ.out d d1 hlz
            go_wp2
            go_round
            case rel => exact ⟨d + 1, by omega, by omega, by go_num⟩
            case measure => simp [intOf]; omega
          · obtain rfl : d = Z := by omega
            by_cases hze : d < c
            · have z2 := HZN.out hze
              go_wp2_with fail
              refine (gb _).mono ?_
              rintro e w' ⟨rfl, q, rfl⟩
              go_wp2_with fail
              go_loop [8, 9] (fun r y => ∃ f i : Nat, f ≤ d + i ∧ d + i ≤ f ∧ f ≤ c ∧ y = .int .i64 f ∧ r = .int .u32 (md s d i : Nat)) (fun _ y => c - (intOf y).toNat)
              case atStart => exact ⟨d, 0, by omega, by omega, by omega, rfl, rfl⟩
              case round =>
                obtain ⟨f, i, f1, f2, f3, rfl, rfl⟩ := hrel
                have r1 := md_lt s d i
                by_cases hf : f < c
                · obtain ⟨e1, e2⟩ := HY.out f (by omega) hf
                  have HM : Hid ((md s d (i + 1) : Int) = ((md s d i : Int) * 10 + (bt s f - 48)) % 4294967296) := md_next s d i f f1 f2 e1 e2
                  generalize md s d i = r at *
                  go_wp2
                  go_round
                  case rel => exact ⟨f + 1, i + 1, by omega, by omega, by omega, by go_num, by rw [HM.out]; exact ret_u32 (md_wrap _ _)⟩
                  case measure => simp [intOf]; omega
                · obtain rfl : i = c - d := by omega
                  generalize md s d (c - d) = r at *
                  obtain rfl : f = c := by omega
                  go_wp2
                  go_ret2
                  exact ⟨fin_pos HX.out, ⟨q, rfl⟩⟩
            · go_wp2_with fail
              refine (gb _).mono ?_
              rintro e w' ⟨rfl, q, rfl⟩
              go_wp2_with fail
              go_loop [8, 9] (fun r y => ∃ f i : Nat, f ≤ d + i ∧ d + i ≤ f ∧ f ≤ c ∧ y = .int .i64 f ∧ r = .int .u32 (md s d i : Nat)) (fun _ y => c - (intOf y).toNat)
              case atStart => exact ⟨d, 0, by omega, by omega, by omega, rfl, rfl⟩
              case round =>
                obtain ⟨f, i, f1, f2, f3, rfl, rfl⟩ := hrel
                have r1 := md_lt s d i
                by_cases hf : f < c
                · exfalso; omega
                · obtain rfl : i = c - d := by omega
                  generalize md s d (c - d) = r at *
                  obtain rfl : f = c := by omega
                  go_wp2
                  go_ret2
                  exact ⟨fin_pos HX.out, ⟨q, rfl⟩⟩

theorem model0_0 (w : World) :
    Calls Try.prog 9 #[.string ByteArray.empty] w fun e w' => e = .returned (.tuple #[.int .i32 0, .int .i64 0]) ∧ (∃ n, w' = w.drewN n) := by
  go_enter Try.func9, Try.ntmps9
  go_wp2_with fail
  go_loop [6] (fun k => k = .int .i64 0) (fun k => 0)
  case atStart => rfl
  case round =>
    obtain rfl := hrel
    go_wp2
    go_ret2
    exact ⟨rfl, ⟨0, rfl⟩⟩

set_option maxHeartbeats 400000 in
theorem model0_m (s : ByteArray) (w : World) (hs : s.size ≤ 1048576)
    (s0 : 0 < s.size) (q1 : (bt s 0 == 45) = true) (HN : Hid (1 < s.size → bt s 1 < 48 ∨ 57 < bt s 1)) :
    Calls Try.prog 9 #[.string s] w fun e w' => e = .returned (.tuple #[.int .i32 0, .int .i64 0]) ∧ (∃ n, w' = w.drewN n) := by
  have hb := get_bt s
  go_enter Try.func9, Try.ntmps9
  go_wp2_with fail
  go_loop [6] (fun k => k = .int .i64 1) (fun k => 0)
  case atStart => rfl
  case round =>
    obtain rfl := hrel
    by_cases he : 1 < s.size
    · have HNO : Hid (bt s 1 < 48 ∨ 57 < bt s 1) := HN.out he
      go_wp2_with fail
      refine (isd_no _ _ HNO.out).mono ?_
      rintro e w' ⟨rfl, rfl⟩
      go_wp2
      go_ret2
      exact ⟨rfl, ⟨0, rfl⟩⟩
    · go_wp2
      go_ret2
      exact ⟨rfl, ⟨0, rfl⟩⟩

set_option maxHeartbeats 400000 in
theorem model0_p (s : ByteArray) (w : World) (hs : s.size ≤ 1048576)
    (s0 : 0 < s.size) (q1 : (bt s 0 == 45) = false) (q2 : (bt s 0 == 43) = true) (HN : Hid (1 < s.size → bt s 1 < 48 ∨ 57 < bt s 1)) :
    Calls Try.prog 9 #[.string s] w fun e w' => e = .returned (.tuple #[.int .i32 0, .int .i64 0]) ∧ (∃ n, w' = w.drewN n) := by
  have hb := get_bt s
  go_enter Try.func9, Try.ntmps9
  go_wp2_with fail
  go_loop [6] (fun k => k = .int .i64 1) (fun k => 0)
  case atStart => rfl
  case round =>
    obtain rfl := hrel
    by_cases he : 1 < s.size
    · have HNO : Hid (bt s 1 < 48 ∨ 57 < bt s 1) := HN.out he
      go_wp2_with fail
      refine (isd_no _ _ HNO.out).mono ?_
      rintro e w' ⟨rfl, rfl⟩
      go_wp2
      go_ret2
      exact ⟨rfl, ⟨0, rfl⟩⟩
    · go_wp2
      go_ret2
      exact ⟨rfl, ⟨0, rfl⟩⟩

set_option maxHeartbeats 400000 in
theorem model0_d (s : ByteArray) (w : World) (hs : s.size ≤ 1048576)
    (s0 : 0 < s.size) (q1 : (bt s 0 == 45) = false) (q2 : (bt s 0 == 43) = false) (HN : Hid (0 < s.size → bt s 0 < 48 ∨ 57 < bt s 0)) :
    Calls Try.prog 9 #[.string s] w fun e w' => e = .returned (.tuple #[.int .i32 0, .int .i64 0]) ∧ (∃ n, w' = w.drewN n) := by
  have hb := get_bt s
  go_enter Try.func9, Try.ntmps9
  go_wp2_with fail
  go_loop [6] (fun k => k = .int .i64 0) (fun k => 0)
  case atStart => rfl
  case round =>
    obtain rfl := hrel
    by_cases he : 0 < s.size
    · have HNO : Hid (bt s 0 < 48 ∨ 57 < bt s 0) := HN.out he
      go_wp2_with fail
      refine (isd_no _ _ HNO.out).mono ?_
      rintro e w' ⟨rfl, rfl⟩
      go_wp2
      go_ret2
      exact ⟨rfl, ⟨0, rfl⟩⟩
    · exact absurd s0 he

end Model
end Go.Proofs.Qxb6617327a
