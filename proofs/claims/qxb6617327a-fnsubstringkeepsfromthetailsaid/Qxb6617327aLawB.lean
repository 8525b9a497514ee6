/-
  The law 'FnSubstringKeepsFromTheTail' walked.
-/
import Derived.Test.Qxb6617327aSub
namespace Go.Proofs.Qxb6617327a
open Go.RowKit
set_option linter.unusedVariables false

namespace Tail
/-- 'substring of v comes to r', in whatever world (a plain name, so that the walk does not open it) -/
def Gives (v : ByteArray) (o l : Int) (r : ByteArray) : Prop :=
  ∀ w : World, Calls Try.prog 13 #[.string v, .int .i64 o, .int .i64 l] w fun e w' => e = .returned (.string r) ∧ w' = w
theorem gives (v : ByteArray) (o l : Int) (hv : v.size ≤ 281474976710656) (o1 : -9223372036854775808 ≤ o) (o2 : o ≤ 9223372036854775807) (l1 : -9223372036854775808 ≤ l) (l2 : l ≤ 9223372036854775807) : Gives v o l (sub v o l) :=
  fun w => ZZsubstring_any v o l w hv o1 o2 l1 l2

/-! ### plain facts -/
theorem whole (v : ByteArray) (o : Int) : sub v o (v.size : Int) = v.extract (Plain.st v.size o) v.size := by
  unfold sub
  rw [Plain.kp_all _ _ (Nat.sub_le _ _)]
  have := Plain.st_le v.size o
  exact Plain.ex_congr v (Or.inl ⟨rfl, by omega⟩)
theorem whole_size (v : ByteArray) (o : Int) : (v.extract (Plain.st v.size o) v.size).size = v.size - Plain.st v.size o := by
  rw [ByteArray.size_extract]; omega
theorem again (v : ByteArray) (o l : Int) : sub (v.extract (Plain.st v.size o) v.size) 0 l = sub v o l := by
  have h1 := Plain.st_le v.size o
  have h2 := Plain.kp_le (v.size - Plain.st v.size o) l
  unfold sub
  rw [whole_size, Plain.st_zero, Nat.sub_zero]
  exact Plain.ex_two v (Or.inl ⟨by omega, by omega⟩)
theorem joined (t : ByteArray) (l : Int) : sub t 0 l ++ sub t l (t.size : Int) = t := by
  have h2 := Plain.kp_le t.size l
  rw [whole]
  unfold sub
  rw [Plain.st_zero, Plain.st_kp, Nat.sub_zero, Nat.zero_add, ByteArray.extract_append_extract]
  exact (Plain.ex_whole t ⟨by omega, by omega⟩).symm

/-! ### the walks -/
/-- what zzTailLen comes to -/
def tl (n : Nat) (o : Int) : Nat := n - Plain.st n o
theorem tail_any (n : Nat) (o : Int) (w : World) (hn : n ≤ 65536) (o1 : -9223372036854775808 ≤ o) (o2 : o ≤ 9223372036854775807) :
    Calls Try.prog 14 #[.int .i64 n, .int .i64 o] w fun e w' => e = .returned (.int .i64 (tl n o : Nat)) ∧ w' = w := by
  go_enter Try.func14, Try.ntmps14
  go_wp2
  all_goals
    go_ret
    refine ⟨congrArg (fun z : Int => Ending.returned (.int .i64 z)) ?_, rfl⟩
    have hs := Plain.st_spec n o
    unfold tl
    omega

theorem bytesB (v : ByteArray) (o l : Int) (w : World) (hv : v.size ≤ 65536) :
    Calls Try.prog 12 #[.string v, .int .i64 o, .int .i64 l] w fun e w' => e = .returned (.bool true) ∧ w' = w := by
  go_enter Try.func12, Try.ntmps12
  go_wp2
  go_ret
  exact ⟨rfl, rfl⟩

def Cuts (n : Nat) (o : Int) (k : Nat) : Prop :=
  ∀ w : World, Calls Try.prog 14 #[.int .i64 n, .int .i64 o] w fun e w' => e = .returned (.int .i64 (k : Nat)) ∧ w' = w

theorem keepsA (v r t r2 : ByteArray) (k : Nat) (o l : Int) (w : World) (hv : v.size ≤ 65536) (hk : k ≤ v.size)
    (g1 : Gives v o l r) (g2 : Gives v o (v.size : Int) t) (g3 : Gives t 0 l r) (g4 : Gives t l (t.size : Int) r2)
    (gt : Cuts v.size o k)
    (ht : (t.toList == (v.extract (v.size - k) v.size).toList) = true) (hr : r.size ≤ 65536) (hr2 : r2.size ≤ 65536) (hj : ((r ++ r2).toList == t.toList) = true) :
    Calls Try.prog 5 #[.string v, .int .i64 o, .int .i64 l] w fun e w' => e = .returned (.bool true) ∧ w' = w := by
  go_enter Try.func5, Try.ntmps5
  go_wp2_with (go_at_call 12; refine (bytesB v o l _ hv).mono ?_; rintro e w' ⟨rfl, rfl⟩)
  refine (g1 _).mono ?_
  rintro e w1 ⟨rfl, rfl⟩
  go_wp2_with fail
  refine (g2 _).mono ?_
  rintro e w1 ⟨rfl, rfl⟩
  go_wp2_with fail
  refine (gt _).mono ?_
  rintro e w1 ⟨rfl, rfl⟩
  go_wp2_with fail
  refine (g3 _).mono ?_
  rintro e w1 ⟨rfl, rfl⟩
  go_wp2_with fail
  refine (g4 _).mono ?_
  rintro e w1 ⟨rfl, rfl⟩
  go_wp2
  go_ret
  exact ⟨rfl, rfl⟩

/-- too long a string: nothing is asked -/
theorem keepsF (v : ByteArray) (o l : Int) (w : World) (hv : v.size ≤ 9223372036854775807) (h : 65536 < v.size) :
    Calls Try.prog 5 #[.string v, .int .i64 o, .int .i64 l] w fun e w' => e = .returned (.bool true) ∧ w' = w := by
  go_enter Try.func5, Try.ntmps5
  go_wp2_with (go_at_call 12; go_in)
  all_goals
    go_ret
    exact ⟨rfl, rfl⟩

theorem keeps (v : ByteArray) (o l : Int) (w : World) (hv : v.size ≤ 9223372036854775807) (o1 : -9223372036854775808 ≤ o) (o2 : o ≤ 9223372036854775807) (l1 : -9223372036854775808 ≤ l) (l2 : l ≤ 9223372036854775807) :
    Calls Try.prog 5 #[.string v, .int .i64 o, .int .i64 l] w fun e w' => e = .returned (.bool true) ∧ w' = w := by
  by_cases k1 : 65536 < v.size
  · exact keepsF v o l w hv k1
  have hv2 : v.size ≤ 65536 := by omega
  have hst := Plain.st_le v.size o
  have hw := whole v o
  have hws := whole_size v o
  have g1 := gives v o l (by omega) o1 o2 l1 l2
  have g2 := gives v o (v.size : Int) (by omega) o1 o2 (by omega) (by omega)
  have ha := again v o l
  have hj := joined (v.extract (Plain.st v.size o) v.size) l
  rw [hw] at g2
  have g3 := gives (v.extract (Plain.st v.size o) v.size) 0 l (by omega) (by omega) (by omega) l1 l2
  have g4 := gives (v.extract (Plain.st v.size o) v.size) l ((v.extract (Plain.st v.size o) v.size).size : Int) (by omega) l1 l2 (by omega) (by omega)
  rw [ha] at g3 hj
  have hs1 : (sub v o l ++ sub (v.extract (Plain.st v.size o) v.size) l ((v.extract (Plain.st v.size o) v.size).size : Int)).size = v.size - Plain.st v.size o := by rw [hj, hws]
  rw [ByteArray.size_append] at hs1
  refine keepsA v _ _ _ (tl v.size o) o l w hv2 (by unfold tl; omega) g1 g2 g3 g4 (fun w => tail_any v.size o w hv2 o1 o2) ?_ (by omega) (by omega) (by rw [hj]; simp)
  rw [show v.size - tl v.size o = Plain.st v.size o from by unfold tl; omega]
  simp
end Tail
end Go.Proofs.Qxb6617327a
