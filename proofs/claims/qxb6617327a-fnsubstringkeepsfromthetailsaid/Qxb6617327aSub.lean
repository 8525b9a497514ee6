/-
  WALKS of the substring functions of seat b6617327a.
-/
import Derived.Test.Qxb6617327aProg
import Derived.Test.Qxb6617327aPlain
import Derived.WalkKit
import Derived.WalkSpells
import Derived.Deep.Light
import Derived.WalkLawsBesides
namespace Go.Proofs.Qxb6617327a
open Go.RowKit

theorem ret_str {a b : ByteArray} (h : a = b) : Ending.returned (.string a) = .returned (.string b) := by rw [h]

set_option maxHeartbeats 400000 in
theorem substring_any (v : ByteArray) (o l : Int) (w : World) (hv : v.size ≤ 281474976710656) (o1 : -9223372036854775808 ≤ o) (o2 : o ≤ 9223372036854775807) (l1 : -9223372036854775808 ≤ l) (l2 : l ≤ 9223372036854775807) :
    Calls Try.prog 18 #[.string v, .int .i64 o, .int .i64 l] w fun e w' => e = .returned (.string (v.extract (Plain.st v.size o) (Plain.st v.size o + Plain.kp (v.size - Plain.st v.size o) l))) ∧ w' = w := by
  go_enter Try.func18, Try.ntmps18
  go_wp2
  all_goals
    go_ret
    refine ⟨ret_str ?_, rfl⟩
    go_light
  · refine Plain.ex_none v ?_
    have hs := Plain.st_spec v.size o
    have hk := Plain.kp_spec (v.size - Plain.st v.size o) l
    have hm := Plain.max_spec ((v.size : Int) + o)
    generalize Plain.st v.size o = s at *
    generalize Plain.kp (v.size - s) l = k at *
    omega
  · refine Plain.ex_empty v ?_
    have hs := Plain.st_spec v.size o
    have hk := Plain.kp_spec (v.size - Plain.st v.size o) l
    have hm := Plain.max_spec ((v.size : Int) + o)
    generalize Plain.st v.size o = s at *
    generalize Plain.kp (v.size - s) l = k at *
    omega
  · refine Plain.ex_congr v ?_
    have hs := Plain.st_spec v.size o
    have hk := Plain.kp_spec (v.size - Plain.st v.size o) l
    have hm := Plain.max_spec ((v.size : Int) + o)
    generalize Plain.st v.size o = s at *
    generalize Plain.kp (v.size - s) l = k at *
    omega
  · refine Plain.ex_empty v ?_
    have hs := Plain.st_spec v.size o
    have hk := Plain.kp_spec (v.size - Plain.st v.size o) l
    have hm := Plain.max_spec ((v.size : Int) + o)
    generalize Plain.st v.size o = s at *
    generalize Plain.kp (v.size - s) l = k at *
    omega
  · refine Plain.ex_two v ?_
    have hs := Plain.st_spec v.size o
    have hk := Plain.kp_spec (v.size - Plain.st v.size o) l
    have hm := Plain.max_spec ((v.size : Int) + o)
    generalize Plain.st v.size o = s at *
    generalize Plain.kp (v.size - s) l = k at *
    omega
  · refine Plain.ex_whole v ?_
    have hs := Plain.st_spec v.size o
    have hk := Plain.kp_spec (v.size - Plain.st v.size o) l
    have hm := Plain.max_spec ((v.size : Int) + o)
    generalize Plain.st v.size o = s at *
    generalize Plain.kp (v.size - s) l = k at *
    omega
  · refine Plain.ex_congr v ?_
    have hs := Plain.st_spec v.size o
    have hk := Plain.kp_spec (v.size - Plain.st v.size o) l
    have hm := Plain.max_spec ((v.size : Int) + o)
    generalize Plain.st v.size o = s at *
    generalize Plain.kp (v.size - s) l = k at *
    omega
  · refine Plain.ex_two v ?_
    have hs := Plain.st_spec v.size o
    have hk := Plain.kp_spec (v.size - Plain.st v.size o) l
    have hm := Plain.max_spec ((v.size : Int) + o)
    generalize Plain.st v.size o = s at *
    generalize Plain.kp (v.size - s) l = k at *
    omega
  · refine Plain.ex_two v ?_
    have hs := Plain.st_spec v.size o
    have hk := Plain.kp_spec (v.size - Plain.st v.size o) l
    have hm := Plain.max_spec ((v.size : Int) + o)
    generalize Plain.st v.size o = s at *
    generalize Plain.kp (v.size - s) l = k at *
    omega
  · refine Plain.ex_none v ?_
    have hs := Plain.st_spec v.size o
    have hk := Plain.kp_spec (v.size - Plain.st v.size o) l
    have hm := Plain.max_spec ((v.size : Int) + o)
    generalize Plain.st v.size o = s at *
    generalize Plain.kp (v.size - s) l = k at *
    omega
  · refine Plain.ex_empty v ?_
    have hs := Plain.st_spec v.size o
    have hk := Plain.kp_spec (v.size - Plain.st v.size o) l
    have hm := Plain.max_spec ((v.size : Int) + o)
    generalize Plain.st v.size o = s at *
    generalize Plain.kp (v.size - s) l = k at *
    omega
  · refine Plain.ex_two v ?_
    have hs := Plain.st_spec v.size o
    have hk := Plain.kp_spec (v.size - Plain.st v.size o) l
    have hm := Plain.max_spec ((v.size : Int) + o)
    generalize Plain.st v.size o = s at *
    generalize Plain.kp (v.size - s) l = k at *
    omega
  · refine Plain.ex_two v ?_
    have hs := Plain.st_spec v.size o
    have hk := Plain.kp_spec (v.size - Plain.st v.size o) l
    have hm := Plain.max_spec ((v.size : Int) + o)
    generalize Plain.st v.size o = s at *
    generalize Plain.kp (v.size - s) l = k at *
    omega
  · refine Plain.ex_two v ?_
    have hs := Plain.st_spec v.size o
    have hk := Plain.kp_spec (v.size - Plain.st v.size o) l
    have hm := Plain.max_spec ((v.size : Int) + o)
    generalize Plain.st v.size o = s at *
    generalize Plain.kp (v.size - s) l = k at *
    omega

/-- what a substring comes to -/
def sub (v : ByteArray) (o l : Int) : ByteArray := v.extract (Plain.st v.size o) (Plain.st v.size o + Plain.kp (v.size - Plain.st v.size o) l)

theorem ZZsubstring_any (v : ByteArray) (o l : Int) (w : World) (hv : v.size ≤ 281474976710656) (o1 : -9223372036854775808 ≤ o) (o2 : o ≤ 9223372036854775807) (l1 : -9223372036854775808 ≤ l) (l2 : l ≤ 9223372036854775807) :
    Calls Try.prog 13 #[.string v, .int .i64 o, .int .i64 l] w fun e w' => e = .returned (.string (sub v o l)) ∧ w' = w := by
  go_enter Try.func13, Try.ntmps13
  go_wp2_with (go_at_call 18; refine (substring_any v o l _ hv o1 o2 l1 l2).mono ?_; rintro e w' ⟨rfl, rfl⟩)
  go_ret
  exact ⟨rfl, rfl⟩

end Go.Proofs.Qxb6617327a
