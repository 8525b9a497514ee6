/-
  WALKS of zzAtLeastTwoTo63 and zzLeadingModel.
-/
import Derived.Test.Qxb6617327aLead
import Derived.Deep.QuietTactic
import Derived.BigQuiet
namespace Go.Proofs.Qxb6617327a
open Go.RowKit Go.PlainAid
set_option linter.unusedVariables false

namespace Model
open Lead

theorem big_other (g : ByteArray) (w : World) (hg : g.size ≤ 9223372036854775807) (h : ((g.size : Int) != 19) = true) :
    Calls Try.prog 17 #[.string g] w fun e w' => e = .returned (.bool (decide (19 < (g.size : Int)))) ∧ w' = w := by
  go_enter Try.func17, Try.ntmps17
  go_wp2
  go_ret
  exact ⟨rfl, rfl⟩

/-- the text of 2^63 -/
def LIM : ByteArray := ⟨#[57, 50, 50, 51, 51, 55, 50, 48, 51, 54, 56, 53, 52, 55, 55, 53, 56, 48, 56]⟩
theorem lim_byte : ∀ k : Fin 19, bt LIM k = 48 + (Plain.limF k : Int) := by decide +kernel
/-- a byte of it, read -/
def lb (k : Nat) : Int := 48 + (Plain.limF k : Int)
theorem lim_index (k : Nat) (h : k < 19) (w : World) :
    (Instr.index 9 (.string ⟨#[57, 50, 50, 51, 51, 55, 50, 48, 51, 54, 56, 53, 52, 55, 55, 53, 56, 48, 56]⟩) (.int .i64 (k : Int))).run Try.prog w = .ok (.int .u8 (lb k)) w := by
  have hz : LIM.size = 19 := rfl
  have e := run_index_string (P := Try.prog) w 9 LIM .i64 (k : Int) Try.underlying9
  rw [dif_pos (show 0 ≤ (k : Int) ∧ (k : Int) < LIM.size by omega)] at e
  have e2 : (LIM[((k : Int)).toNat]'(by omega)).toNat = lb k := by
    have e3 := lim_byte ⟨k, h⟩
    have e4 := get_bt LIM k (by omega)
    unfold lb
    rw [← e3, ← e4]
    rfl
  rw [e2] at e
  exact e

/-- the answer at nineteen digits, by the first place where they part from the text of 2^63 -/
def bigB (g : ByteArray) : Bool := decide (Plain.L ≤ Plain.val (Plain.dg (bt g) 0) g.size)
theorem dg_all (g : ByteArray) (hd : ∀ m, m < g.size → Plain.isD (bt g m)) : ∀ m, Plain.dg (bt g) 0 m ≤ 9 := by
  intro m
  by_cases h : m < g.size
  · exact Plain.dg_le (by rw [Nat.zero_add]; exact hd m h)
  · unfold Plain.dg; rw [Nat.zero_add, bt_end g (by omega)]; omega
theorem dg_lim {g : ByteArray} {m : Nat} (h : bt g m = lb m) : Plain.dg (bt g) 0 m = Plain.limF m := by
  unfold Plain.dg; rw [Nat.zero_add, h]; unfold lb; omega
theorem bigB_all {g : ByteArray} (hg : g.size = 19) (h : ∀ m, m < 19 → bt g m = lb m) : bigB g = true := by
  unfold bigB; rw [hg]; exact decide_eq_true (Plain.same_ge fun m hm => dg_lim (h m hm))
theorem bigB_at {g : ByteArray} {k : Nat} (hg : g.size = 19) (hd : ∀ m, m < g.size → Plain.isD (bt g m)) (hk : k < 19) (h : ∀ m, m < k → bt g m = lb m) (hne : (bt g k != lb k) = true) :
    decide (lb k < bt g k) = bigB g := by
  have hne' : bt g k ≠ lb k := by simpa using hne
  have hdk : Plain.isD (bt g k) := hd k (by omega)
  unfold bigB
  rw [hg]
  by_cases hgt : lb k < bt g k
  · have := Plain.above_ge (f := Plain.dg (bt g) 0) hk (fun m hm => dg_lim (h m hm)) (by unfold Plain.dg; rw [Nat.zero_add]; unfold lb at hgt; omega)
    rw [decide_eq_true hgt, decide_eq_true this]
  · have := Plain.below_lt (f := Plain.dg (bt g) 0) (dg_all g hd) hk (fun m hm => dg_lim (h m hm)) (by unfold Plain.isD at hdk; unfold Plain.dg; rw [Nat.zero_add]; unfold lb at hgt hne'; omega)
    rw [decide_eq_false hgt, decide_eq_false (by omega)]
theorem bigB_len {g : ByteArray} (hg : ((g.size : Int) != 19) = true) (hd : ∀ m, m < g.size → Plain.isD (bt g m)) (h0 : 0 < g.size → bt g 0 ≠ 48) :
    decide (19 < (g.size : Int)) = bigB g := by
  have hg' : ¬ g.size = 19 := by intro e; rw [e] at hg; exact absurd hg (by decide)
  unfold bigB
  by_cases h : 19 < g.size
  · have h1 : 1 ≤ Plain.dg (bt g) 0 0 := by
      have a := hd 0 (by omega)
      have b := h0 (by omega)
      unfold Plain.isD at a; unfold Plain.dg; rw [Nat.zero_add]; omega
    rw [decide_eq_true (show 19 < (g.size : Int) by omega), decide_eq_true (Plain.long_ge h1 h)]
  · have h1 := Plain.short_lt (f := Plain.dg (bt g) 0) (n := g.size) (fun m _ => dg_all g hd m) (by omega)
    rw [decide_eq_false (show ¬ 19 < (g.size : Int) by omega), decide_eq_false (show ¬ Plain.L ≤ Plain.val (Plain.dg (bt g) 0) g.size by omega)]

theorem big_same (g : ByteArray) (w : World) (hg : g.size = 19) (hd : ∀ m, m < g.size → Plain.isD (bt g m)) :
    Calls Try.prog 17 #[.string g] w fun e w' => e = .returned (.bool (bigB g)) ∧ (∃ n, w' = w.drewN n) := by
  have h : ((g.size : Int) != 19) = false := by rw [hg]; rfl
  have g1 : g.size ≤ 19 := by omega
  have g2 : 19 ≤ g.size := by omega
  have F1 : Hid ((∀ m, m < 19 → bt g m = lb m) → bigB g = true) := bigB_all hg
  have F2 : Hid (∀ k, k < 19 → (∀ m, m < k → bt g m = lb m) → (bt g k != lb k) = true → decide (lb k < bt g k) = bigB g) := fun k => bigB_at hg hd
  clear hg hd
  generalize bigB g = b at *
  have hb := get_bt g
  go_enter Try.func17, Try.ntmps17
  go_wp2
  go_loopw [3] (fun i W => ∃ k nq : Nat, k ≤ 19 ∧ i = .int .i64 k ∧ W = w.drewN nq ∧ ∀ m, m < k → bt g m = lb m) (fun i _ => 19 - (intOf i).toNat)
  case atStart => exact ⟨0, 0, Nat.zero_le _, rfl, rfl, fun m hm => absurd hm (Nat.not_lt_zero m)⟩
  case round =>
    obtain ⟨k, nq, hk, rfl, rfl, hall⟩ := hrel
    have HA : Hid (∀ m, m < k → bt g m = lb m) := hall
    clear hall
    by_cases hlt : k < 19
    · have hix := lim_index k hlt
      cases hne : (bt g k != lb k) with
      | true =>
        have F : Hid (decide (lb k < bt g k) = b) := F2.out k hlt HA.out hne
        clear F1 F2 HA
        go_wp2
        go_quiet (fail)
        go_wp2
        go_quiet (fail)
        go_wp2
        go_ret
        exact ⟨congrArg (fun z => Ending.returned (.bool z)) F.out, ⟨_, by rw [World.drewN_drewN, World.drewN_drewN]⟩⟩
      | false =>
        have heq0 : bt g k = lb k := by simpa using hne
        have heq : Hid (bt g k = lb k) := heq0
        clear heq0
        go_wp2
        go_quiet (fail)
        go_wp2
        go_roundw
        case rel =>
          refine ⟨k + 1, _, by omega, by go_num, rfl, fun m hm => ?_⟩
          by_cases hmk : m < k
          · exact HA.out m hmk
          · obtain rfl : m = k := by omega
            exact heq.out
        case measure => simp [intOf]; omega
    · have F : Hid (b = true) := F1.out fun m hm => HA.out m (by omega)
      clear F1 F2 HA
      go_wp2
      go_ret
      exact ⟨congrArg (fun z => Ending.returned (.bool z)) F.out.symm, ⟨_, rfl⟩⟩

/-- 'zzAtLeastTwoTo63 of g comes to b', in whatever world -/
def Big (g : ByteArray) (b : Bool) : Prop :=
  ∀ w : World, Calls Try.prog 17 #[.string g] w fun e w' => e = .returned (.bool b) ∧ (∃ n, w' = w.drewN n)
theorem big_any (g : ByteArray) (hg : g.size ≤ 9223372036854775807) (hd : ∀ m, m < g.size → Plain.isD (bt g m)) (h0 : 0 < g.size → bt g 0 ≠ 48) : Big g (bigB g) := by
  intro w
  cases hq : ((g.size : Int) != 19) with
  | true =>
    refine (big_other g w hg hq).mono ?_
    rintro e w' ⟨rfl, rfl⟩
    exact ⟨by rw [bigB_len hq hd h0], ⟨0, rfl⟩⟩
  | false =>
    have e : (g.size : Int) = 19 := by simpa using hq
    exact big_same g w (by omega) hd

end Model
end Go.Proofs.Qxb6617327a
