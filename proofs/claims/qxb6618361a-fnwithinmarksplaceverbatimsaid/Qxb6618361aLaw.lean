/-
  The law 'FnWithinMarksPlaceVerbatim' walked.
-/
import Derived.Test.Qxb6618361aProg
import Derived.WalkKit
import Derived.WalkSpells
import Derived.WalkLawsBesides
import Derived.ProofKit
import Derived.Lib.Strings
import Derived.PlainAid
import Derived.Deep.QuietTactic
import Derived.BigQuiet
namespace Go.Proofs.Qxb6618361a
open Go.RowKit Go.PlainAid
set_option linter.unusedVariables false

namespace Within
theorem within_none (w : World) :
    Calls Try.prog 5 #[.string ByteArray.empty] w fun e w' => e = .returned (.string ByteArray.empty) ∧ w' = w := by
  go_enter Try.func5, Try.ntmps5
  go_wp2
  go_ret
  exact ⟨rfl, rfl⟩
theorem within_some (a : ByteArray) (w : World) (h : a.toList.isEmpty = false) (ha : a.size ≤ 1048576) :
    Calls Try.prog 5 #[.string a] w fun e w' => e = .returned (.string (⟨#[32, 105, 110, 32]⟩ ++ a)) ∧ w' = w := by
  go_enter Try.func5, Try.ntmps5
  go_wp2
  go_ret
  exact ⟨rfl, rfl⟩

/-- 'within of a comes to x', in whatever world -/
def Gives (a x : ByteArray) : Prop := ∀ w : World, Calls Try.prog 5 #[.string a] w fun e w' => e = .returned (.string x) ∧ w' = w

theorem bytesW (a b : ByteArray) (w : World) (ha : a.size ≤ 524288) (hb : b.size ≤ 524288) :
    Calls Try.prog 4 #[.string a, .string b] w fun e w' => e = .returned (.bool true) ∧ w' = w := by
  go_enter Try.func4, Try.ntmps4
  go_wp2
  go_ret
  exact ⟨rfl, rfl⟩

/-- both not empty -/
theorem core4 (a b x y z : ByteArray) (w : World) (ha : a.size ≤ 524288) (hb : b.size ≤ 524288) (ea : a.toList.isEmpty = false) (eb : b.toList.isEmpty = false)
    (g1 : Gives a x) (g2 : Gives b y) (g3 : Gives (a ++ b) z)
    (x1 : x.size ≤ a.size + 4) (x2 : a.size + 4 ≤ x.size) (x3 : ((x.extract 4 x.size).toList == a.toList) = true)
    (x4 : (bt x 0 != 32) = false) (x5 : (bt x 3 != 32) = false) (x6 : (z.toList == (x ++ b).toList) = true)
    (y1 : 4 ≤ y.size) (y2 : y.size ≤ 1048576) (xy : ((x.extract 0 4).toList == (y.extract 0 4).toList) = true) (q l : Bool)
    (q1 : (x.toList == y.toList) = q) (q2 : (a.toList == b.toList) = q) (l1 : Op.bytesLess x.toList y.toList = l) (l2 : Op.bytesLess a.toList b.toList = l) :
    Calls Try.prog 3 #[.string a, .string b] w fun e w' => e = .returned (.bool true) ∧ (∃ k, w' = w.drewN k) := by
  have hbx := get_bt x
  go_enter Try.func3, Try.ntmps3
  go_wp2_with (go_at_call 4; refine (bytesW a b _ ha hb).mono ?_; rintro e w' ⟨rfl, rfl⟩)
  refine (g1 _).mono ?_
  rintro e w' ⟨rfl, rfl⟩
  go_wp2_with fail
  refine (g2 _).mono ?_
  rintro e w' ⟨rfl, rfl⟩
  go_wp2_with fail
  refine (g3 _).mono ?_
  rintro e w' ⟨rfl, rfl⟩
  go_wp2
  go_quiet (fail)
  go_wp2
  go_ret
  exact ⟨rfl, ⟨_, rfl⟩⟩

/-- b empty -/
theorem core3 (a x : ByteArray) (w : World) (ha : a.size ≤ 524288) (ea : a.toList.isEmpty = false)
    (g1 : Gives a x) (g2 : Gives ByteArray.empty ByteArray.empty)
    (x1 : x.size ≤ a.size + 4) (x2 : a.size + 4 ≤ x.size) (x3 : ((x.extract 4 x.size).toList == a.toList) = true)
    (x4 : (bt x 0 != 32) = false) (x5 : (bt x 3 != 32) = false) (ex : x.toList.isEmpty = false)
    (q1 : (x.toList == ([] : List UInt8)) = false) (q2 : (a.toList == ([] : List UInt8)) = false) (l1 : Op.bytesLess x.toList [] = false) (l2 : Op.bytesLess a.toList [] = false) :
    Calls Try.prog 3 #[.string a, .string ByteArray.empty] w fun e w' => e = .returned (.bool true) ∧ (∃ k, w' = w.drewN k) := by
  have hbx := get_bt x
  go_enter Try.func3, Try.ntmps3
  go_wp2_with (go_at_call 4; refine (bytesW a ByteArray.empty _ ha (by decide)).mono ?_; rintro e w' ⟨rfl, rfl⟩)
  refine (g1 _).mono ?_
  rintro e w' ⟨rfl, rfl⟩
  go_wp2_with fail
  refine (g2 _).mono ?_
  rintro e w' ⟨rfl, rfl⟩
  go_wp2_with fail
  refine (g1 _).mono ?_
  rintro e w' ⟨rfl, rfl⟩
  go_wp2
  go_ret
  exact ⟨rfl, ⟨0, rfl⟩⟩

/-- a empty, b not -/
theorem core2 (b y : ByteArray) (w : World) (hb : b.size ≤ 524288) (eb : b.toList.isEmpty = false)
    (g1 : Gives ByteArray.empty ByteArray.empty) (g2 : Gives b y) (ey : y.toList.isEmpty = false)
    (q1 : (([] : List UInt8) == y.toList) = false) (q2 : (([] : List UInt8) == b.toList) = false) (l1 : Op.bytesLess [] y.toList = true) (l2 : Op.bytesLess [] b.toList = true) :
    Calls Try.prog 3 #[.string ByteArray.empty, .string b] w fun e w' => e = .returned (.bool true) ∧ (∃ k, w' = w.drewN k) := by
  go_enter Try.func3, Try.ntmps3
  go_wp2_with (go_at_call 4; refine (bytesW ByteArray.empty b _ (by decide) hb).mono ?_; rintro e w' ⟨rfl, rfl⟩)
  refine (g1 _).mono ?_
  rintro e w' ⟨rfl, rfl⟩
  go_wp2_with fail
  refine (g2 _).mono ?_
  rintro e w' ⟨rfl, rfl⟩
  go_wp2_with fail
  refine (g2 _).mono ?_
  rintro e w' ⟨rfl, rfl⟩
  go_wp2
  go_ret
  exact ⟨rfl, ⟨0, rfl⟩⟩

/-- both empty -/
theorem core1 (w : World) (g1 : Gives ByteArray.empty ByteArray.empty) :
    Calls Try.prog 3 #[.string ByteArray.empty, .string ByteArray.empty] w fun e w' => e = .returned (.bool true) ∧ (∃ k, w' = w.drewN k) := by
  go_enter Try.func3, Try.ntmps3
  go_wp2_with (go_at_call 4; refine (bytesW ByteArray.empty ByteArray.empty _ (by decide) (by decide)).mono ?_; rintro e w' ⟨rfl, rfl⟩)
  refine (g1 _).mono ?_
  rintro e w' ⟨rfl, rfl⟩
  go_wp2_with fail
  refine (g1 _).mono ?_
  rintro e w' ⟨rfl, rfl⟩
  go_wp2_with fail
  refine (g1 _).mono ?_
  rintro e w' ⟨rfl, rfl⟩
  go_wp2
  go_ret
  exact ⟨rfl, ⟨0, rfl⟩⟩

/-- too long a string: nothing is asked -/
theorem long (a b : ByteArray) (w : World) (ha : a.size ≤ 9223372036854775807) (hb : b.size ≤ 9223372036854775807) (h : 524288 < a.size ∨ 524288 < b.size) :
    Calls Try.prog 3 #[.string a, .string b] w fun e w' => e = .returned (.bool true) ∧ (∃ k, w' = w.drewN k) := by
  go_enter Try.func3, Try.ntmps3
  go_wp2_with (go_at_call 4; go_in)
  all_goals
    go_ret
    exact ⟨rfl, ⟨0, rfl⟩⟩

/-! ### plain facts -/
/-- the marker -/
def M : ByteArray := ⟨#[32, 105, 110, 32]⟩
theorem M_size : M.size = 4 := rfl
theorem M_list (a : ByteArray) : (M ++ a).toList = 32 :: 105 :: 110 :: 32 :: a.toList := by
  rw [ByteArray.toList_eq, ByteArray.toList_eq, ByteArray.data_append, Array.toList_append]; rfl
theorem toList_inj {a b : ByteArray} : a.toList = b.toList ↔ a = b := by
  rw [ByteArray.toList_eq, ByteArray.toList_eq]
  constructor
  · intro h; exact ByteArray.ext (Array.toList_inj.1 h)
  · intro h; rw [h]
theorem M_eq (a b : ByteArray) : ((M ++ a).toList == (M ++ b).toList) = (a.toList == b.toList) := by
  rw [Bool.eq_iff_iff]; simp [M_list]
theorem M_less (a b : ByteArray) : Op.bytesLess (M ++ a).toList (M ++ b).toList = Op.bytesLess a.toList b.toList := by
  rw [M_list, M_list]; simp [Op.bytesLess]
theorem empty_of {a : ByteArray} (h : a.toList.isEmpty = true) : a = ByteArray.empty := by
  rw [List.isEmpty_iff] at h
  exact toList_inj.1 (h.trans (by rw [ByteArray.toList_eq]; rfl))
theorem M_tail (a : ByteArray) : (M ++ a).extract 4 (M ++ a).size = a := by
  rw [ByteArray.extract_append, ByteArray.size_append, M_size]
  have e1 : M.extract 4 (4 + a.size) = ByteArray.empty := ByteArray.extract_eq_empty_iff.2 (by rw [M_size]; omega)
  rw [e1, ByteArray.empty_append, Nat.sub_self, Nat.add_sub_cancel_left, ByteArray.extract_zero_size]
theorem M_head (a : ByteArray) : (M ++ a).extract 0 4 = M := by
  rw [ByteArray.extract_append, M_size]
  have e1 : a.extract (0 - 4) (4 - 4) = ByteArray.empty := ByteArray.extract_eq_empty_iff.2 (by omega)
  have e2 : M.extract 0 4 = M := ByteArray.extract_zero_size
  rw [e1, e2, ByteArray.append_empty]
theorem M_byte (a : ByteArray) (k : Nat) (h : k < 4) : bt (M ++ a) k = bt M k := by
  have e : (M ++ a).size = M.size + a.size := ByteArray.size_append
  have h2 : k < M.size := h
  unfold bt
  rw [dif_pos h2, dif_pos (by omega), ByteArray.getElem_append_left h2]

theorem within (a b : ByteArray) (w : World) (ha : a.size ≤ 9223372036854775807) (hb : b.size ≤ 9223372036854775807) :
    Calls Try.prog 3 #[.string a, .string b] w fun e w' => e = .returned (.bool true) ∧ (∃ k, w' = w.drewN k) := by
  by_cases h : 524288 < a.size ∨ 524288 < b.size
  · exact long a b w ha hb h
  have zm : ∀ x : ByteArray, (M ++ x).size = 4 + x.size := fun x => ByteArray.size_append
  have zab : (a ++ b).size = a.size + b.size := ByteArray.size_append
  have g0 : Gives ByteArray.empty ByteArray.empty := within_none
  have gs : ∀ x : ByteArray, x.toList.isEmpty = false → x.size ≤ 1048576 → Gives x (M ++ x) := fun x h1 h2 w => within_some x w h1 h2
  have me : ∀ x : ByteArray, (M ++ x).toList.isEmpty = false := fun x => by rw [M_list]; rfl
  have nb : ∀ l : List UInt8, Op.bytesLess l [] = false := fun l => by cases l <;> rfl
  have nl : ∀ x : ByteArray, x.toList.isEmpty = false → Op.bytesLess [] x.toList = true := fun x hx => by
    cases hl : x.toList with
    | nil => rw [hl] at hx; cases hx
    | cons c t => rfl
  have n1 : ∀ x : ByteArray, x.toList.isEmpty = false → (x.toList == ([] : List UInt8)) = false := fun x hx => by
    cases hl : x.toList with
    | nil => rw [hl] at hx; cases hx
    | cons c t => rfl
  have n2 : ∀ x : ByteArray, x.toList.isEmpty = false → (([] : List UInt8) == x.toList) = false := fun x hx => by
    cases hl : x.toList with
    | nil => rw [hl] at hx; cases hx
    | cons c t => rfl
  cases ea : a.toList.isEmpty with
  | true =>
    obtain rfl := empty_of ea
    cases eb : b.toList.isEmpty with
    | true =>
      obtain rfl := empty_of eb
      exact core1 w g0
    | false => exact core2 b _ w (by omega) eb g0 (gs b eb (by omega)) (me b) (n2 _ (me b)) (n2 b eb) (nl _ (me b)) (nl b eb)
  | false =>
    have x3 : (((M ++ a).extract 4 (M ++ a).size).toList == a.toList) = true := by rw [M_tail]; simp
    have x4 : (bt (M ++ a) 0 != 32) = false := by rw [M_byte a 0 (by omega)]; rfl
    have x5 : (bt (M ++ a) 3 != 32) = false := by rw [M_byte a 3 (by omega)]; rfl
    have za := zm a
    have zb := zm b
    cases eb : b.toList.isEmpty with
    | true =>
      obtain rfl := empty_of eb
      exact core3 a _ w (by omega) ea (gs a ea (by omega)) g0 (by omega) (by omega) x3 x4 x5 (me a) (n1 _ (me a)) (n1 a ea) (nb _) (nb _)
    | false =>
      have eab : (a ++ b).toList.isEmpty = false := by
        have : (a ++ b).toList = a.toList ++ b.toList := by simp [ByteArray.toList_eq]
        rw [this]
        cases hl : a.toList with
        | nil => rw [hl] at ea; cases ea
        | cons c t => rfl
      refine core4 a b _ _ _ w (by omega) (by omega) ea eb (gs a ea (by omega)) (gs b eb (by omega)) (gs (a ++ b) eab (by omega)) (by omega) (by omega) x3 x4 x5 ?_ (by omega) (by omega) ?_ _ _ rfl (M_eq a b).symm rfl (M_less a b).symm
      · rw [ByteArray.append_assoc]; simp
      · rw [M_head, M_head]; simp
theorem grown_drewN (w : World) : ∀ q, Grown w (w.drewN q)
  | 0 => Grown.refl w
  | q + 1 => (grown_drewN w q).drew
end Within
end Go.Proofs.Qxb6618361a
