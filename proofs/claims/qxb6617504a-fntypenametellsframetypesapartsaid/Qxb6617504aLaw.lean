/-
  The law 'FnTypeNameTellsFrameTypesApart' walked.
-/
import Derived.Test.Qxb6617504aNames
namespace Go.Proofs.Qxb6617504a
open Go.RowKit
set_option linter.unusedVariables false

namespace Names
/-- the name of a class of frames -/
def nm (c : Int) : ByteArray :=
  if c = 11 then ⟨#[80, 73, 78, 71]⟩ else
  if c = 12 then ⟨#[80, 79, 78, 71]⟩ else
  if c = 20 then ⟨#[69, 83, 84]⟩ else
  if c = 24 then ⟨#[84, 69, 76, 76]⟩ else
  if c = 25 then ⟨#[100, 101, 99, 105, 115, 105, 111, 110, 32, 110, 97, 109, 101]⟩ else
  if c = 26 then ⟨#[65, 83, 75]⟩ else
  if c = 27 then ⟨#[78, 79, 78, 69]⟩ else
  if c = 30 then ⟨#[110, 97, 109, 101]⟩ else
  if c = 0 then ⟨#[87, 82, 73, 84, 69, 48]⟩ else
  if c = 1 then ⟨#[87, 82, 73, 84, 69, 49]⟩ else
  if c = 2 then ⟨#[82, 69, 65, 68]⟩ else
  if c = 3 then ⟨#[80, 82, 79, 67, 69, 69, 68]⟩ else
  ByteArray.empty
/-- the classes -/
def classes : List Int := [11, 12, 20, 24, 25, 26, 27, 30, 0, 1, 2, 3]
theorem nm_some : ∀ c ∈ classes, (nm c).toList.isEmpty = false := by decide +kernel
theorem nm_apart : ∀ c ∈ classes, ∀ d ∈ classes, ((nm c).toList == (nm d).toList) = (c == d) := by decide +kernel

theorem class_p (k p d : Int) (n : Bool) (w : World) (h1 : 1 ≤ p) (h2 : p ≤ 2) :
    Calls Try.prog 5 #[.int .u8 k, .bool n, .int .u8 p, .int .u8 d] w fun e w' => e = .returned (.int .i64 (10 + p)) ∧ w' = w := by
  have q : (p != 0) = true := by rw [bne_iff_ne]; omega
  go_enter Try.func5, Try.ntmps5
  go_wp2
  go_ret
  exact ⟨rfl, rfl⟩
theorem class_e (k d : Int) (n : Bool) (w : World) (h1 : 1 ≤ d) (h2 : d ≤ 3) :
    Calls Try.prog 5 #[.int .u8 k, .bool n, .int .u8 0, .int .u8 d] w fun e w' => e = .returned (.int .i64 20) ∧ w' = w := by
  have q : (d != 0) = true := by rw [bne_iff_ne]; omega
  go_enter Try.func5, Try.ntmps5
  go_wp2
  go_ret
  exact ⟨rfl, rfl⟩
theorem class_d (k d : Int) (n : Bool) (w : World) (h1 : 4 ≤ d) (h2 : d ≤ 7) :
    Calls Try.prog 5 #[.int .u8 k, .bool n, .int .u8 0, .int .u8 d] w fun e w' => e = .returned (.int .i64 (20 + d)) ∧ w' = w := by
  have q : (d != 0) = true := by rw [bne_iff_ne]; omega
  go_enter Try.func5, Try.ntmps5
  go_wp2
  go_ret
  exact ⟨rfl, rfl⟩
theorem class_n (k : Int) (w : World) :
    Calls Try.prog 5 #[.int .u8 k, .bool true, .int .u8 0, .int .u8 0] w fun e w' => e = .returned (.int .i64 30) ∧ w' = w := by
  go_enter Try.func5, Try.ntmps5
  go_wp2
  go_ret
  exact ⟨rfl, rfl⟩
theorem class_k (k : Int) (w : World) (h1 : 0 ≤ k) (h2 : k ≤ 3) :
    Calls Try.prog 5 #[.int .u8 k, .bool false, .int .u8 0, .int .u8 0] w fun e w' => e = .returned (.int .i64 k) ∧ w' = w := by
  go_enter Try.func5, Try.ntmps5
  go_wp2
  go_ret
  exact ⟨rfl, rfl⟩

/-- the name of such heads is x -/
def Named (k : Int) (n : Bool) (p d : Int) (x : ByteArray) : Prop := ∀ (r z : Int) (w : World),
  Calls Try.prog 4 #[.int .i64 r, .int .u8 k, .bool n, .int .u8 p, .int .u8 d, .int .i64 z] w fun e w' => e = .returned (.string x) ∧ (∃ cs t, w' = w.alloc (.cells cs t))
/-- the class of such heads is c -/
def Classed (k : Int) (n : Bool) (p d : Int) (c : Int) : Prop := ∀ w : World,
  Calls Try.prog 5 #[.int .u8 k, .bool n, .int .u8 p, .int .u8 d] w fun e w' => e = .returned (.int .i64 c) ∧ w' = w

theorem told (k : Int) (n : Bool) (p d : Int) (k1 : 0 ≤ k) (k2 : k ≤ 3) (p1 : 0 ≤ p) (p2 : p ≤ 2) (d1 : 0 ≤ d) (d2 : d ≤ 7) :
    ∃ c, c ∈ classes ∧ Named k n p d (nm c) ∧ Classed k n p d c := by
  rcases (show p = 1 ∨ p = 2 ∨ p = 0 by omega) with rfl | rfl | rfl
  · exact ⟨11, by decide, fun r z w => zz_p1 r z k n d w, fun w => class_p k 1 d n w (by omega) (by omega)⟩
  · exact ⟨12, by decide, fun r z w => zz_p2 r z k n d w, fun w => class_p k 2 d n w (by omega) (by omega)⟩
  · rcases (show d = 1 ∨ d = 2 ∨ d = 3 ∨ d = 4 ∨ d = 5 ∨ d = 6 ∨ d = 7 ∨ d = 0 by omega) with rfl | rfl | rfl | rfl | rfl | rfl | rfl | rfl
    · exact ⟨20, by decide, fun r z w => zz_d1 r z k n w, fun w => class_e k 1 n w (by omega) (by omega)⟩
    · exact ⟨20, by decide, fun r z w => zz_d2 r z k n w, fun w => class_e k 2 n w (by omega) (by omega)⟩
    · exact ⟨20, by decide, fun r z w => zz_d3 r z k n w, fun w => class_e k 3 n w (by omega) (by omega)⟩
    · exact ⟨24, by decide, fun r z w => zz_d4 r z k n w, fun w => class_d k 4 n w (by omega) (by omega)⟩
    · exact ⟨25, by decide, fun r z w => zz_d5 r z k n w, fun w => class_d k 5 n w (by omega) (by omega)⟩
    · exact ⟨26, by decide, fun r z w => zz_d6 r z k n w, fun w => class_d k 6 n w (by omega) (by omega)⟩
    · exact ⟨27, by decide, fun r z w => zz_d7 r z k n w, fun w => class_d k 7 n w (by omega) (by omega)⟩
    · cases n with
      | true => exact ⟨30, by decide, fun r z w => zz_n r z k w, fun w => class_n k w⟩
      | false =>
        rcases (show k = 0 ∨ k = 1 ∨ k = 2 ∨ k = 3 by omega) with rfl | rfl | rfl | rfl
        · exact ⟨0, by decide, fun r z w => zz_k0 r z w, fun w => class_k 0 w (by omega) (by omega)⟩
        · exact ⟨1, by decide, fun r z w => zz_k1 r z w, fun w => class_k 1 w (by omega) (by omega)⟩
        · exact ⟨2, by decide, fun r z w => zz_k2 r z w, fun w => class_k 2 w (by omega) (by omega)⟩
        · exact ⟨3, by decide, fun r z w => zz_k3 r z w, fun w => class_k 3 w (by omega) (by omega)⟩

set_option maxHeartbeats 400000 in
theorem core (r1 k1 : Int) (n1 : Bool) (p1 d1 z1 r2 k2 : Int) (n2 : Bool) (p2 d2 z2 : Int) (x y : ByteArray) (c1 c2 : Int) (b : Bool) (w : World)
    (a1 : 0 ≤ k1) (a2 : k1 ≤ 3) (a3 : 0 ≤ p1) (a4 : p1 ≤ 2) (a5 : 0 ≤ d1) (a6 : d1 ≤ 7)
    (b1 : 0 ≤ k2) (b2 : k2 ≤ 3) (b3 : 0 ≤ p2) (b4 : p2 ≤ 2) (b5 : 0 ≤ d2) (b6 : d2 ≤ 7)
    (g1 : Named k1 n1 p1 d1 x) (g2 : Named k2 n2 p2 d2 y) (g3 : Classed k1 n1 p1 d1 c1) (g4 : Classed k2 n2 p2 d2 c2)
    (hx : x.toList.isEmpty = false) (hy : y.toList.isEmpty = false) (hn : (x.toList == y.toList) = b) (hc : (c1 == c2) = b) :
    Calls Try.prog 3 #[.int .i64 r1, .int .u8 k1, .bool n1, .int .u8 p1, .int .u8 d1, .int .i64 z1, .int .i64 r2, .int .u8 k2, .bool n2, .int .u8 p2, .int .u8 d2, .int .i64 z2] w fun e w' => e = .returned (.bool true) ∧ Grown w w' := by
  go_enter Try.func3, Try.ntmps3
  go_wp2_with fail
  refine (g1 _ _ _).mono ?_
  rintro e w' ⟨rfl, cs, t, rfl⟩
  go_wp2_with fail
  refine (g2 _ _ _).mono ?_
  rintro e w' ⟨rfl, cs2, t2, rfl⟩
  go_wp2_with fail
  refine (g3 _).mono ?_
  rintro e w' ⟨rfl, rfl⟩
  go_wp2_with fail
  refine (g4 _).mono ?_
  rintro e w' ⟨rfl, rfl⟩
  go_wp2
  go_ret
  exact ⟨congrArg (fun z => Ending.returned (.bool z)) (by simp), ((Grown.refl _).alloc _ _).alloc _ _⟩

/-- a head out of range: nothing is asked -/
theorem outA (r1 k1 : Int) (n1 : Bool) (p1 d1 z1 r2 k2 : Int) (n2 : Bool) (p2 d2 z2 : Int) (w : World) (h : 3 < k1 ∨ 2 < p1 ∨ 7 < d1) :
    Calls Try.prog 3 #[.int .i64 r1, .int .u8 k1, .bool n1, .int .u8 p1, .int .u8 d1, .int .i64 z1, .int .i64 r2, .int .u8 k2, .bool n2, .int .u8 p2, .int .u8 d2, .int .i64 z2] w fun e w' => e = .returned (.bool true) ∧ Grown w w' := by
  go_enter Try.func3, Try.ntmps3
  go_wp2_with fail
  all_goals
    go_ret
    exact ⟨rfl, Grown.refl _⟩
theorem outB (r1 k1 : Int) (n1 : Bool) (p1 d1 z1 r2 k2 : Int) (n2 : Bool) (p2 d2 z2 : Int) (w : World) (a2 : k1 ≤ 3) (a4 : p1 ≤ 2) (a6 : d1 ≤ 7) (h : 3 < k2 ∨ 2 < p2 ∨ 7 < d2) :
    Calls Try.prog 3 #[.int .i64 r1, .int .u8 k1, .bool n1, .int .u8 p1, .int .u8 d1, .int .i64 z1, .int .i64 r2, .int .u8 k2, .bool n2, .int .u8 p2, .int .u8 d2, .int .i64 z2] w fun e w' => e = .returned (.bool true) ∧ Grown w w' := by
  go_enter Try.func3, Try.ntmps3
  go_wp2_with fail
  all_goals
    go_ret
    exact ⟨rfl, Grown.refl _⟩

theorem apart (r1 k1 : Int) (n1 : Bool) (p1 d1 z1 r2 k2 : Int) (n2 : Bool) (p2 d2 z2 : Int) (w : World)
    (a1 : 0 ≤ k1) (a3 : 0 ≤ p1) (a5 : 0 ≤ d1) (b1 : 0 ≤ k2) (b3 : 0 ≤ p2) (b5 : 0 ≤ d2) :
    Calls Try.prog 3 #[.int .i64 r1, .int .u8 k1, .bool n1, .int .u8 p1, .int .u8 d1, .int .i64 z1, .int .i64 r2, .int .u8 k2, .bool n2, .int .u8 p2, .int .u8 d2, .int .i64 z2] w fun e w' => e = .returned (.bool true) ∧ Grown w w' := by
  by_cases hA : 3 < k1 ∨ 2 < p1 ∨ 7 < d1
  · exact outA r1 k1 n1 p1 d1 z1 r2 k2 n2 p2 d2 z2 w hA
  by_cases hB : 3 < k2 ∨ 2 < p2 ∨ 7 < d2
  · exact outB r1 k1 n1 p1 d1 z1 r2 k2 n2 p2 d2 z2 w (by omega) (by omega) (by omega) hB
  obtain ⟨c1, m1, g1, g3⟩ := told k1 n1 p1 d1 a1 (by omega) a3 (by omega) a5 (by omega)
  obtain ⟨c2, m2, g2, g4⟩ := told k2 n2 p2 d2 b1 (by omega) b3 (by omega) b5 (by omega)
  exact core r1 k1 n1 p1 d1 z1 r2 k2 n2 p2 d2 z2 _ _ c1 c2 (c1 == c2) w a1 (by omega) a3 (by omega) a5 (by omega) b1 (by omega) b3 (by omega) b5 (by omega) g1 g2 g3 g4 (nm_some c1 m1) (nm_some c2 m2) (nm_apart c1 m1 c2 m2) rfl

end Names
end Go.Proofs.Qxb6617504a
