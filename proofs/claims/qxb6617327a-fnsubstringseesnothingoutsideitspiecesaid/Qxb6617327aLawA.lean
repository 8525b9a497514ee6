/-
  The law 'FnSubstringSeesNothingOutsideItsPiece' walked.
-/
import Derived.Test.Qxb6617327aSub
namespace Go.Proofs.Qxb6617327a
open Go.RowKit
set_option linter.unusedVariables false

/-! ### plain facts on 'sub' -/
theorem sub_size (v : ByteArray) (o l : Int) : (sub v o l).size = Plain.kp (v.size - Plain.st v.size o) l := by
  have h1 := Plain.st_le v.size o
  have h2 := Plain.kp_le (v.size - Plain.st v.size o) l
  unfold sub
  rw [ByteArray.size_extract]
  omega
theorem sub_size_le (v : ByteArray) (o l : Int) : (sub v o l).size ≤ v.size := by
  have h2 := Plain.kp_le (v.size - Plain.st v.size o) l
  rw [sub_size]; omega
/-- a forward selection inside v: its length -/
theorem sub_fwd_size (v : ByteArray) (o l : Int) (h1 : 0 ≤ o) (h2 : 0 ≤ l) (h3 : o + l ≤ v.size) : ((sub v o l).size : Int) = l := by
  have hs := Plain.st_spec v.size o
  have hk := Plain.kp_spec (v.size - Plain.st v.size o) l
  rw [sub_size]; omega
theorem sub_fwd (v u : ByteArray) (o l : Int) (h1 : 0 ≤ o) (h2 : 0 ≤ l) (h3 : o + l ≤ v.size) : sub (v ++ u) o l = sub v o l := by
  have hs := Plain.st_spec v.size o
  have hk := Plain.kp_spec (v.size - Plain.st v.size o) l
  have hs' := Plain.st_spec (v ++ u).size o
  have hk' := Plain.kp_spec ((v ++ u).size - Plain.st (v ++ u).size o) l
  have e : (v ++ u).size = v.size + u.size := ByteArray.size_append
  have e1 : Plain.st (v ++ u).size o = Plain.st v.size o := by omega
  have e2 : Plain.kp ((v ++ u).size - Plain.st (v ++ u).size o) l = Plain.kp (v.size - Plain.st v.size o) l := by omega
  unfold sub
  rw [e2, e1, ByteArray.extract_append]
  have h : u.extract (Plain.st v.size o - v.size) (Plain.st v.size o + Plain.kp (v.size - Plain.st v.size o) l - v.size) = ByteArray.empty := ByteArray.extract_eq_empty_iff.2 (by omega)
  rw [h, ByteArray.append_empty]
/-- a selection counted from the end -/
theorem sub_bwd_pos (v : ByteArray) (o l : Int) (h1 : o < 0) (h3 : -(v.size : Int) ≤ o) (h2 : 0 ≤ l) : ((sub v o l).size : Int) = if -o < l then -o else l := by
  have hs := Plain.st_spec v.size o
  have hk := Plain.kp_spec (v.size - Plain.st v.size o) l
  rw [sub_size]; split <;> omega
theorem sub_bwd_neg (v : ByteArray) (o l : Int) (h1 : o < 0) (h3 : -(v.size : Int) ≤ o) (h2 : l < 0) : ((sub v o l).size : Int) = if -o + l < 0 then 0 else -o + l := by
  have hs := Plain.st_spec v.size o
  have hk := Plain.kp_spec (v.size - Plain.st v.size o) l
  rw [sub_size]; split <;> omega
theorem sub_bwd (v u : ByteArray) (o l : Int) (h1 : o < 0) (h3 : -(v.size : Int) ≤ o) : sub (u ++ v) o l = sub v o l := by
  have hs := Plain.st_spec v.size o
  have hk := Plain.kp_spec (v.size - Plain.st v.size o) l
  have hs' := Plain.st_spec (u ++ v).size o
  have hk' := Plain.kp_spec ((u ++ v).size - Plain.st (u ++ v).size o) l
  have e : (u ++ v).size = u.size + v.size := ByteArray.size_append
  have e1 : Plain.st (u ++ v).size o = u.size + Plain.st v.size o := by omega
  have e2 : (u ++ v).size - Plain.st (u ++ v).size o = v.size - Plain.st v.size o := by omega
  unfold sub
  rw [e2, e1, ByteArray.extract_append]
  have h : u.extract (u.size + Plain.st v.size o) (u.size + Plain.st v.size o + Plain.kp (v.size - Plain.st v.size o) l) = ByteArray.empty := ByteArray.extract_eq_empty_iff.2 (by omega)
  rw [h, ByteArray.empty_append]
  exact Plain.ex_congr v (Or.inl ⟨by omega, by omega⟩)

/-! ### the walks -/
theorem bytesA (v u : ByteArray) (o l : Int) (w : World) (hv : v.size ≤ 65536) (hu : u.size ≤ 65536) :
    Calls Try.prog 15 #[.string v, .string u, .int .i64 o, .int .i64 l] w fun e w' => e = .returned (.bool true) ∧ w' = w := by
  go_enter Try.func15, Try.ntmps15
  go_wp2
  go_ret
  exact ⟨rfl, rfl⟩

/-- 'substring of v comes to r', in whatever world (a plain name, so that the walk does not open it) -/
def Gives (v : ByteArray) (o l : Int) (r : ByteArray) : Prop :=
  ∀ w : World, Calls Try.prog 13 #[.string v, .int .i64 o, .int .i64 l] w fun e w' => e = .returned (.string r) ∧ w' = w
theorem gives (v : ByteArray) (o l : Int) (hv : v.size ≤ 281474976710656) (o1 : -9223372036854775808 ≤ o) (o2 : o ≤ 9223372036854775807) (l1 : -9223372036854775808 ≤ l) (l2 : l ≤ 9223372036854775807) : Gives v o l (sub v o l) :=
  fun w => ZZsubstring_any v o l w hv o1 o2 l1 l2

/-- a forward selection inside v -/
theorem seesA (v u r r2 : ByteArray) (o l : Int) (w : World) (hv : v.size ≤ 65536) (hu : u.size ≤ 65536)
    (c1 : 0 ≤ o) (c2 : 0 ≤ l) (c3 : o + l ≤ v.size) (g1 : Gives v o l r) (g2 : Gives (v ++ u) o l r2)
    (hz : r.size ≤ v.size) (hz3 : l ≤ (r.size : Int)) (hz4 : (r.size : Int) ≤ l) (he : (r2.toList == r.toList) = true) :
    Calls Try.prog 6 #[.string v, .string u, .int .i64 o, .int .i64 l] w fun e w' => e = .returned (.bool true) ∧ w' = w := by
  go_enter Try.func6, Try.ntmps6
  go_wp2_with (go_at_call 15; refine (bytesA v u o l _ hv hu).mono ?_; rintro e w' ⟨rfl, rfl⟩)
  refine (g1 _).mono ?_
  rintro e w1 ⟨rfl, rfl⟩
  go_wp2_with fail
  refine (g2 _).mono ?_
  rintro e w1 ⟨rfl, rfl⟩
  go_wp2
  go_ret
  exact ⟨rfl, rfl⟩

/-- a selection counted from the end, its length not negative -/
theorem seesB (v u r r2 : ByteArray) (o l : Int) (w : World) (hv : v.size ≤ 65536) (hu : u.size ≤ 65536) (l2 : l ≤ 9223372036854775807)
    (c1 : o < 0) (c2 : 0 ≤ l) (c3 : -(v.size : Int) ≤ o) (g1 : Gives v o l r) (g2 : Gives (u ++ v) o l r2)
    (hz : r.size ≤ v.size) (hz3 : ((r.size : Int) != if -o < l then -o else l) = false) (he : (r2.toList == r.toList) = true) :
    Calls Try.prog 6 #[.string v, .string u, .int .i64 o, .int .i64 l] w fun e w' => e = .returned (.bool true) ∧ w' = w := by
  have d1 : decide (0 ≤ o) = false := by simp; omega
  have d2 : decide (o < 0) = true := by simp; omega
  go_enter Try.func6, Try.ntmps6
  go_wp2_with (go_at_call 15; refine (bytesA v u o l _ hv hu).mono ?_; rintro e w' ⟨rfl, rfl⟩)
  refine (g1 _).mono ?_
  rintro e w1 ⟨rfl, rfl⟩
  go_wp2_with fail
  all_goals
    refine (g2 _).mono ?_
    rintro e w1 ⟨rfl, rfl⟩
    go_wp2
    go_ret
    exact ⟨rfl, rfl⟩

/-- a selection counted from the end, its length negative -/
theorem seesC (v u r r2 : ByteArray) (o l : Int) (w : World) (hv : v.size ≤ 65536) (hu : u.size ≤ 65536) (l1 : -9223372036854775808 ≤ l)
    (c1 : o < 0) (c2 : l < 0) (c3 : -(v.size : Int) ≤ o) (g1 : Gives v o l r) (g2 : Gives (u ++ v) o l r2)
    (hz : r.size ≤ v.size) (hz3 : ((r.size : Int) != if -o + l < 0 then 0 else -o + l) = false) (he : (r2.toList == r.toList) = true) :
    Calls Try.prog 6 #[.string v, .string u, .int .i64 o, .int .i64 l] w fun e w' => e = .returned (.bool true) ∧ w' = w := by
  have d1 : decide (0 ≤ o) = false := by simp; omega
  have d2 : decide (o < 0) = true := by simp; omega
  go_enter Try.func6, Try.ntmps6
  go_wp2_with (go_at_call 15; refine (bytesA v u o l _ hv hu).mono ?_; rintro e w' ⟨rfl, rfl⟩)
  refine (g1 _).mono ?_
  rintro e w1 ⟨rfl, rfl⟩
  go_wp2_with fail
  all_goals
    refine (g2 _).mono ?_
    rintro e w1 ⟨rfl, rfl⟩
    go_wp2
    go_ret
    exact ⟨rfl, rfl⟩

/-- every other selection: nothing is asked -/
theorem seesD (v u r : ByteArray) (o l : Int) (w : World) (hv : v.size ≤ 65536) (hu : u.size ≤ 65536) (o2 : o ≤ 9223372036854775807)
    (c1 : 0 ≤ o) (c2 : l < 0 ∨ (v.size : Int) < o ∨ (v.size : Int) - o < l) (g1 : Gives v o l r) (hz : r.size ≤ v.size) :
    Calls Try.prog 6 #[.string v, .string u, .int .i64 o, .int .i64 l] w fun e w' => e = .returned (.bool true) ∧ w' = w := by
  have d2 : decide (o < 0) = false := by simp; omega
  go_enter Try.func6, Try.ntmps6
  go_wp2_with (go_at_call 15; refine (bytesA v u o l _ hv hu).mono ?_; rintro e w' ⟨rfl, rfl⟩)
  refine (g1 _).mono ?_
  rintro e w1 ⟨rfl, rfl⟩
  go_wp2_with fail
  all_goals
    go_ret
    exact ⟨rfl, rfl⟩

theorem seesE (v u r : ByteArray) (o l : Int) (w : World) (hv : v.size ≤ 65536) (hu : u.size ≤ 65536)
    (c1 : o < -(v.size : Int)) (g1 : Gives v o l r) (hz : r.size ≤ v.size) :
    Calls Try.prog 6 #[.string v, .string u, .int .i64 o, .int .i64 l] w fun e w' => e = .returned (.bool true) ∧ w' = w := by
  have d1 : decide (0 ≤ o) = false := by simp; omega
  have d2 : decide (o < 0) = true := by simp; omega
  go_enter Try.func6, Try.ntmps6
  go_wp2_with (go_at_call 15; refine (bytesA v u o l _ hv hu).mono ?_; rintro e w' ⟨rfl, rfl⟩)
  refine (g1 _).mono ?_
  rintro e w1 ⟨rfl, rfl⟩
  go_wp2_with fail
  all_goals
    go_ret
    exact ⟨rfl, rfl⟩

/-- too long a string: nothing is asked -/
theorem seesF (v u : ByteArray) (o l : Int) (w : World) (hv : v.size ≤ 9223372036854775807) (hu : u.size ≤ 9223372036854775807) (h : 65536 < v.size ∨ 65536 < u.size) :
    Calls Try.prog 6 #[.string v, .string u, .int .i64 o, .int .i64 l] w fun e w' => e = .returned (.bool true) ∧ w' = w := by
  go_enter Try.func6, Try.ntmps6
  go_wp2_with (go_at_call 15; go_in)
  all_goals
    go_ret
    exact ⟨rfl, rfl⟩

theorem sees (v u : ByteArray) (o l : Int) (w : World) (hv : v.size ≤ 9223372036854775807) (hu : u.size ≤ 9223372036854775807) (o1 : -9223372036854775808 ≤ o) (o2 : o ≤ 9223372036854775807) (l1 : -9223372036854775808 ≤ l) (l2 : l ≤ 9223372036854775807) :
    Calls Try.prog 6 #[.string v, .string u, .int .i64 o, .int .i64 l] w fun e w' => e = .returned (.bool true) ∧ w' = w := by
  by_cases k1 : 65536 < v.size ∨ 65536 < u.size
  · exact seesF v u o l w hv hu k1
  have hv2 : v.size ≤ 65536 := by omega
  have hu2 : u.size ≤ 65536 := by omega
  have e1 : (v ++ u).size = v.size + u.size := ByteArray.size_append
  have e2 : (u ++ v).size = u.size + v.size := ByteArray.size_append
  have g1 := gives v o l (by omega) o1 o2 l1 l2
  have hz := sub_size_le v o l
  by_cases k2 : 0 ≤ o
  · by_cases k3 : 0 ≤ l ∧ o + l ≤ v.size
    · have hs := sub_fwd_size v o l k2 k3.1 k3.2
      exact seesA v u _ _ o l w hv2 hu2 k2 k3.1 k3.2 g1 (gives (v ++ u) o l (by omega) o1 o2 l1 l2) hz (by omega) (by omega) (by rw [sub_fwd v u o l k2 k3.1 k3.2]; simp)
    · exact seesD v u _ o l w hv2 hu2 o2 k2 (by omega) g1 hz
  · by_cases k3 : -(v.size : Int) ≤ o
    · by_cases k4 : 0 ≤ l
      · exact seesB v u _ _ o l w hv2 hu2 l2 (by omega) k4 k3 g1 (gives (u ++ v) o l (by omega) o1 o2 l1 l2) hz (by rw [sub_bwd_pos v o l (by omega) k3 k4]; simp) (by rw [sub_bwd v u o l (by omega) k3]; simp)
      · exact seesC v u _ _ o l w hv2 hu2 l1 (by omega) (by omega) k3 g1 (gives (u ++ v) o l (by omega) o1 o2 l1 l2) hz (by rw [sub_bwd_neg v o l (by omega) k3 (by omega)]; simp) (by rw [sub_bwd v u o l (by omega) k3]; simp)
    · exact seesE v u _ o l w hv2 hu2 (by omega) g1 hz
end Go.Proofs.Qxb6617327a
