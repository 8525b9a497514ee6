/-
  WALKS of typeName and what it calls.
-/
import Derived.Test.Qxb6617504aProg
import Derived.WalkKit
import Derived.WalkSpells
import Derived.WalkLawsBesides
import Derived.ProofKit
import Derived.KernelRfl
namespace Go.Proofs.Qxb6617504a
open Go.RowKit
set_option linter.unusedVariables false

namespace Names
theorem ix_probe1 (w : World) : (Instr.index 31 (.agg #[.string ⟨#[]⟩, .string ⟨#[80, 73, 78, 71]⟩, .string ⟨#[80, 79, 78, 71]⟩]) (.int .u8 1)).run Try.prog w = .ok (.string ⟨#[80, 73, 78, 71]⟩) w := by kernel_rfl
theorem probe1 (w : World) : Calls Try.prog 7 #[.int .u8 1] w fun e w' => e = .returned (.string ⟨#[80, 73, 78, 71]⟩) ∧ w' = w := by
  have hi := ix_probe1
  go_enter Try.func7, Try.ntmps7
  go_wp2
  go_ret
  exact ⟨rfl, rfl⟩
theorem ix_probe2 (w : World) : (Instr.index 31 (.agg #[.string ⟨#[]⟩, .string ⟨#[80, 73, 78, 71]⟩, .string ⟨#[80, 79, 78, 71]⟩]) (.int .u8 2)).run Try.prog w = .ok (.string ⟨#[80, 79, 78, 71]⟩) w := by kernel_rfl
theorem probe2 (w : World) : Calls Try.prog 7 #[.int .u8 2] w fun e w' => e = .returned (.string ⟨#[80, 79, 78, 71]⟩) ∧ w' = w := by
  have hi := ix_probe2
  go_enter Try.func7, Try.ntmps7
  go_wp2
  go_ret
  exact ⟨rfl, rfl⟩
theorem ix_dec1 (w : World) : (Instr.index 32 (.agg #[.string ⟨#[]⟩, .string ⟨#[69, 83, 84]⟩, .string ⟨#[69, 83, 84]⟩, .string ⟨#[69, 83, 84]⟩, .string ⟨#[84, 69, 76, 76]⟩, .string ⟨#[100, 101, 99, 105, 115, 105, 111, 110, 32, 110, 97, 109, 101]⟩, .string ⟨#[65, 83, 75]⟩, .string ⟨#[78, 79, 78, 69]⟩]) (.int .u8 1)).run Try.prog w = .ok (.string ⟨#[69, 83, 84]⟩) w := by kernel_rfl
theorem dec1 (w : World) : Calls Try.prog 8 #[.int .u8 1] w fun e w' => e = .returned (.string ⟨#[69, 83, 84]⟩) ∧ w' = w := by
  have hi := ix_dec1
  go_enter Try.func8, Try.ntmps8
  go_wp2
  go_ret
  exact ⟨rfl, rfl⟩
theorem ix_dec2 (w : World) : (Instr.index 32 (.agg #[.string ⟨#[]⟩, .string ⟨#[69, 83, 84]⟩, .string ⟨#[69, 83, 84]⟩, .string ⟨#[69, 83, 84]⟩, .string ⟨#[84, 69, 76, 76]⟩, .string ⟨#[100, 101, 99, 105, 115, 105, 111, 110, 32, 110, 97, 109, 101]⟩, .string ⟨#[65, 83, 75]⟩, .string ⟨#[78, 79, 78, 69]⟩]) (.int .u8 2)).run Try.prog w = .ok (.string ⟨#[69, 83, 84]⟩) w := by kernel_rfl
theorem dec2 (w : World) : Calls Try.prog 8 #[.int .u8 2] w fun e w' => e = .returned (.string ⟨#[69, 83, 84]⟩) ∧ w' = w := by
  have hi := ix_dec2
  go_enter Try.func8, Try.ntmps8
  go_wp2
  go_ret
  exact ⟨rfl, rfl⟩
theorem ix_dec3 (w : World) : (Instr.index 32 (.agg #[.string ⟨#[]⟩, .string ⟨#[69, 83, 84]⟩, .string ⟨#[69, 83, 84]⟩, .string ⟨#[69, 83, 84]⟩, .string ⟨#[84, 69, 76, 76]⟩, .string ⟨#[100, 101, 99, 105, 115, 105, 111, 110, 32, 110, 97, 109, 101]⟩, .string ⟨#[65, 83, 75]⟩, .string ⟨#[78, 79, 78, 69]⟩]) (.int .u8 3)).run Try.prog w = .ok (.string ⟨#[69, 83, 84]⟩) w := by kernel_rfl
theorem dec3 (w : World) : Calls Try.prog 8 #[.int .u8 3] w fun e w' => e = .returned (.string ⟨#[69, 83, 84]⟩) ∧ w' = w := by
  have hi := ix_dec3
  go_enter Try.func8, Try.ntmps8
  go_wp2
  go_ret
  exact ⟨rfl, rfl⟩
theorem ix_dec4 (w : World) : (Instr.index 32 (.agg #[.string ⟨#[]⟩, .string ⟨#[69, 83, 84]⟩, .string ⟨#[69, 83, 84]⟩, .string ⟨#[69, 83, 84]⟩, .string ⟨#[84, 69, 76, 76]⟩, .string ⟨#[100, 101, 99, 105, 115, 105, 111, 110, 32, 110, 97, 109, 101]⟩, .string ⟨#[65, 83, 75]⟩, .string ⟨#[78, 79, 78, 69]⟩]) (.int .u8 4)).run Try.prog w = .ok (.string ⟨#[84, 69, 76, 76]⟩) w := by kernel_rfl
theorem dec4 (w : World) : Calls Try.prog 8 #[.int .u8 4] w fun e w' => e = .returned (.string ⟨#[84, 69, 76, 76]⟩) ∧ w' = w := by
  have hi := ix_dec4
  go_enter Try.func8, Try.ntmps8
  go_wp2
  go_ret
  exact ⟨rfl, rfl⟩
theorem ix_dec5 (w : World) : (Instr.index 32 (.agg #[.string ⟨#[]⟩, .string ⟨#[69, 83, 84]⟩, .string ⟨#[69, 83, 84]⟩, .string ⟨#[69, 83, 84]⟩, .string ⟨#[84, 69, 76, 76]⟩, .string ⟨#[100, 101, 99, 105, 115, 105, 111, 110, 32, 110, 97, 109, 101]⟩, .string ⟨#[65, 83, 75]⟩, .string ⟨#[78, 79, 78, 69]⟩]) (.int .u8 5)).run Try.prog w = .ok (.string ⟨#[100, 101, 99, 105, 115, 105, 111, 110, 32, 110, 97, 109, 101]⟩) w := by kernel_rfl
theorem dec5 (w : World) : Calls Try.prog 8 #[.int .u8 5] w fun e w' => e = .returned (.string ⟨#[100, 101, 99, 105, 115, 105, 111, 110, 32, 110, 97, 109, 101]⟩) ∧ w' = w := by
  have hi := ix_dec5
  go_enter Try.func8, Try.ntmps8
  go_wp2
  go_ret
  exact ⟨rfl, rfl⟩
theorem ix_dec6 (w : World) : (Instr.index 32 (.agg #[.string ⟨#[]⟩, .string ⟨#[69, 83, 84]⟩, .string ⟨#[69, 83, 84]⟩, .string ⟨#[69, 83, 84]⟩, .string ⟨#[84, 69, 76, 76]⟩, .string ⟨#[100, 101, 99, 105, 115, 105, 111, 110, 32, 110, 97, 109, 101]⟩, .string ⟨#[65, 83, 75]⟩, .string ⟨#[78, 79, 78, 69]⟩]) (.int .u8 6)).run Try.prog w = .ok (.string ⟨#[65, 83, 75]⟩) w := by kernel_rfl
theorem dec6 (w : World) : Calls Try.prog 8 #[.int .u8 6] w fun e w' => e = .returned (.string ⟨#[65, 83, 75]⟩) ∧ w' = w := by
  have hi := ix_dec6
  go_enter Try.func8, Try.ntmps8
  go_wp2
  go_ret
  exact ⟨rfl, rfl⟩
theorem ix_dec7 (w : World) : (Instr.index 32 (.agg #[.string ⟨#[]⟩, .string ⟨#[69, 83, 84]⟩, .string ⟨#[69, 83, 84]⟩, .string ⟨#[69, 83, 84]⟩, .string ⟨#[84, 69, 76, 76]⟩, .string ⟨#[100, 101, 99, 105, 115, 105, 111, 110, 32, 110, 97, 109, 101]⟩, .string ⟨#[65, 83, 75]⟩, .string ⟨#[78, 79, 78, 69]⟩]) (.int .u8 7)).run Try.prog w = .ok (.string ⟨#[78, 79, 78, 69]⟩) w := by kernel_rfl
theorem dec7 (w : World) : Calls Try.prog 8 #[.int .u8 7] w fun e w' => e = .returned (.string ⟨#[78, 79, 78, 69]⟩) ∧ w' = w := by
  have hi := ix_dec7
  go_enter Try.func8, Try.ntmps8
  go_wp2
  go_ret
  exact ⟨rfl, rfl⟩
theorem ix_kind0 (w : World) : (Instr.index 33 (.agg #[.string ⟨#[87, 82, 73, 84, 69, 48]⟩, .string ⟨#[87, 82, 73, 84, 69, 49]⟩, .string ⟨#[82, 69, 65, 68]⟩, .string ⟨#[80, 82, 79, 67, 69, 69, 68]⟩]) (.int .u8 0)).run Try.prog w = .ok (.string ⟨#[87, 82, 73, 84, 69, 48]⟩) w := by kernel_rfl
theorem kind0 (w : World) : Calls Try.prog 9 #[.int .u8 0] w fun e w' => e = .returned (.string ⟨#[87, 82, 73, 84, 69, 48]⟩) ∧ w' = w := by
  have hi := ix_kind0
  go_enter Try.func9, Try.ntmps9
  go_wp2
  go_ret
  exact ⟨rfl, rfl⟩
theorem ix_kind1 (w : World) : (Instr.index 33 (.agg #[.string ⟨#[87, 82, 73, 84, 69, 48]⟩, .string ⟨#[87, 82, 73, 84, 69, 49]⟩, .string ⟨#[82, 69, 65, 68]⟩, .string ⟨#[80, 82, 79, 67, 69, 69, 68]⟩]) (.int .u8 1)).run Try.prog w = .ok (.string ⟨#[87, 82, 73, 84, 69, 49]⟩) w := by kernel_rfl
theorem kind1 (w : World) : Calls Try.prog 9 #[.int .u8 1] w fun e w' => e = .returned (.string ⟨#[87, 82, 73, 84, 69, 49]⟩) ∧ w' = w := by
  have hi := ix_kind1
  go_enter Try.func9, Try.ntmps9
  go_wp2
  go_ret
  exact ⟨rfl, rfl⟩
theorem ix_kind2 (w : World) : (Instr.index 33 (.agg #[.string ⟨#[87, 82, 73, 84, 69, 48]⟩, .string ⟨#[87, 82, 73, 84, 69, 49]⟩, .string ⟨#[82, 69, 65, 68]⟩, .string ⟨#[80, 82, 79, 67, 69, 69, 68]⟩]) (.int .u8 2)).run Try.prog w = .ok (.string ⟨#[82, 69, 65, 68]⟩) w := by kernel_rfl
theorem kind2 (w : World) : Calls Try.prog 9 #[.int .u8 2] w fun e w' => e = .returned (.string ⟨#[82, 69, 65, 68]⟩) ∧ w' = w := by
  have hi := ix_kind2
  go_enter Try.func9, Try.ntmps9
  go_wp2
  go_ret
  exact ⟨rfl, rfl⟩
theorem ix_kind3 (w : World) : (Instr.index 33 (.agg #[.string ⟨#[87, 82, 73, 84, 69, 48]⟩, .string ⟨#[87, 82, 73, 84, 69, 49]⟩, .string ⟨#[82, 69, 65, 68]⟩, .string ⟨#[80, 82, 79, 67, 69, 69, 68]⟩]) (.int .u8 3)).run Try.prog w = .ok (.string ⟨#[80, 82, 79, 67, 69, 69, 68]⟩) w := by kernel_rfl
theorem kind3 (w : World) : Calls Try.prog 9 #[.int .u8 3] w fun e w' => e = .returned (.string ⟨#[80, 82, 79, 67, 69, 69, 68]⟩) ∧ w' = w := by
  have hi := ix_kind3
  go_enter Try.func9, Try.ntmps9
  go_wp2
  go_ret
  exact ⟨rfl, rfl⟩
theorem zz_p1 (r z : Int) (k : Int) (n : Bool) (d : Int) (w : World) :
    Calls Try.prog 4 #[.int .i64 r, .int .u8 k, .bool n, .int .u8 1, .int .u8 d, .int .i64 z] w fun e w' => e = .returned (.string ⟨#[80, 73, 78, 71]⟩) ∧ (∃ cs t, w' = w.alloc (.cells cs t)) := by
  go_enter Try.func4, Try.ntmps4
  go_wp2_with (first | (go_at_call 7; refine (probe1 _).mono ?_; rintro e w' ⟨rfl, rfl⟩) | (go_at_call 6; go_in))
  go_ret
  exact ⟨rfl, ⟨_, _, rfl⟩⟩
theorem zz_p2 (r z : Int) (k : Int) (n : Bool) (d : Int) (w : World) :
    Calls Try.prog 4 #[.int .i64 r, .int .u8 k, .bool n, .int .u8 2, .int .u8 d, .int .i64 z] w fun e w' => e = .returned (.string ⟨#[80, 79, 78, 71]⟩) ∧ (∃ cs t, w' = w.alloc (.cells cs t)) := by
  go_enter Try.func4, Try.ntmps4
  go_wp2_with (first | (go_at_call 7; refine (probe2 _).mono ?_; rintro e w' ⟨rfl, rfl⟩) | (go_at_call 6; go_in))
  go_ret
  exact ⟨rfl, ⟨_, _, rfl⟩⟩
theorem zz_d1 (r z : Int) (k : Int) (n : Bool) (w : World) :
    Calls Try.prog 4 #[.int .i64 r, .int .u8 k, .bool n, .int .u8 0, .int .u8 1, .int .i64 z] w fun e w' => e = .returned (.string ⟨#[69, 83, 84]⟩) ∧ (∃ cs t, w' = w.alloc (.cells cs t)) := by
  go_enter Try.func4, Try.ntmps4
  go_wp2_with (first | (go_at_call 8; refine (dec1 _).mono ?_; rintro e w' ⟨rfl, rfl⟩) | (go_at_call 6; go_in))
  go_ret
  exact ⟨rfl, ⟨_, _, rfl⟩⟩
theorem zz_d2 (r z : Int) (k : Int) (n : Bool) (w : World) :
    Calls Try.prog 4 #[.int .i64 r, .int .u8 k, .bool n, .int .u8 0, .int .u8 2, .int .i64 z] w fun e w' => e = .returned (.string ⟨#[69, 83, 84]⟩) ∧ (∃ cs t, w' = w.alloc (.cells cs t)) := by
  go_enter Try.func4, Try.ntmps4
  go_wp2_with (first | (go_at_call 8; refine (dec2 _).mono ?_; rintro e w' ⟨rfl, rfl⟩) | (go_at_call 6; go_in))
  go_ret
  exact ⟨rfl, ⟨_, _, rfl⟩⟩
theorem zz_d3 (r z : Int) (k : Int) (n : Bool) (w : World) :
    Calls Try.prog 4 #[.int .i64 r, .int .u8 k, .bool n, .int .u8 0, .int .u8 3, .int .i64 z] w fun e w' => e = .returned (.string ⟨#[69, 83, 84]⟩) ∧ (∃ cs t, w' = w.alloc (.cells cs t)) := by
  go_enter Try.func4, Try.ntmps4
  go_wp2_with (first | (go_at_call 8; refine (dec3 _).mono ?_; rintro e w' ⟨rfl, rfl⟩) | (go_at_call 6; go_in))
  go_ret
  exact ⟨rfl, ⟨_, _, rfl⟩⟩
theorem zz_d4 (r z : Int) (k : Int) (n : Bool) (w : World) :
    Calls Try.prog 4 #[.int .i64 r, .int .u8 k, .bool n, .int .u8 0, .int .u8 4, .int .i64 z] w fun e w' => e = .returned (.string ⟨#[84, 69, 76, 76]⟩) ∧ (∃ cs t, w' = w.alloc (.cells cs t)) := by
  go_enter Try.func4, Try.ntmps4
  go_wp2_with (first | (go_at_call 8; refine (dec4 _).mono ?_; rintro e w' ⟨rfl, rfl⟩) | (go_at_call 6; go_in))
  go_ret
  exact ⟨rfl, ⟨_, _, rfl⟩⟩
theorem zz_d5 (r z : Int) (k : Int) (n : Bool) (w : World) :
    Calls Try.prog 4 #[.int .i64 r, .int .u8 k, .bool n, .int .u8 0, .int .u8 5, .int .i64 z] w fun e w' => e = .returned (.string ⟨#[100, 101, 99, 105, 115, 105, 111, 110, 32, 110, 97, 109, 101]⟩) ∧ (∃ cs t, w' = w.alloc (.cells cs t)) := by
  go_enter Try.func4, Try.ntmps4
  go_wp2_with (first | (go_at_call 8; refine (dec5 _).mono ?_; rintro e w' ⟨rfl, rfl⟩) | (go_at_call 6; go_in))
  go_ret
  exact ⟨rfl, ⟨_, _, rfl⟩⟩
theorem zz_d6 (r z : Int) (k : Int) (n : Bool) (w : World) :
    Calls Try.prog 4 #[.int .i64 r, .int .u8 k, .bool n, .int .u8 0, .int .u8 6, .int .i64 z] w fun e w' => e = .returned (.string ⟨#[65, 83, 75]⟩) ∧ (∃ cs t, w' = w.alloc (.cells cs t)) := by
  go_enter Try.func4, Try.ntmps4
  go_wp2_with (first | (go_at_call 8; refine (dec6 _).mono ?_; rintro e w' ⟨rfl, rfl⟩) | (go_at_call 6; go_in))
  go_ret
  exact ⟨rfl, ⟨_, _, rfl⟩⟩
theorem zz_d7 (r z : Int) (k : Int) (n : Bool) (w : World) :
    Calls Try.prog 4 #[.int .i64 r, .int .u8 k, .bool n, .int .u8 0, .int .u8 7, .int .i64 z] w fun e w' => e = .returned (.string ⟨#[78, 79, 78, 69]⟩) ∧ (∃ cs t, w' = w.alloc (.cells cs t)) := by
  go_enter Try.func4, Try.ntmps4
  go_wp2_with (first | (go_at_call 8; refine (dec7 _).mono ?_; rintro e w' ⟨rfl, rfl⟩) | (go_at_call 6; go_in))
  go_ret
  exact ⟨rfl, ⟨_, _, rfl⟩⟩
theorem zz_n (r z : Int) (k : Int) (w : World) :
    Calls Try.prog 4 #[.int .i64 r, .int .u8 k, .bool true, .int .u8 0, .int .u8 0, .int .i64 z] w fun e w' => e = .returned (.string ⟨#[110, 97, 109, 101]⟩) ∧ (∃ cs t, w' = w.alloc (.cells cs t)) := by
  go_enter Try.func4, Try.ntmps4
  go_wp2_with (go_at_call 6; go_in)
  go_ret
  exact ⟨rfl, ⟨_, _, rfl⟩⟩
theorem zz_k0 (r z : Int)  (w : World) :
    Calls Try.prog 4 #[.int .i64 r, .int .u8 0, .bool false, .int .u8 0, .int .u8 0, .int .i64 z] w fun e w' => e = .returned (.string ⟨#[87, 82, 73, 84, 69, 48]⟩) ∧ (∃ cs t, w' = w.alloc (.cells cs t)) := by
  go_enter Try.func4, Try.ntmps4
  go_wp2_with (first | (go_at_call 9; refine (kind0 _).mono ?_; rintro e w' ⟨rfl, rfl⟩) | (go_at_call 6; go_in))
  go_ret
  exact ⟨rfl, ⟨_, _, rfl⟩⟩
theorem zz_k1 (r z : Int)  (w : World) :
    Calls Try.prog 4 #[.int .i64 r, .int .u8 1, .bool false, .int .u8 0, .int .u8 0, .int .i64 z] w fun e w' => e = .returned (.string ⟨#[87, 82, 73, 84, 69, 49]⟩) ∧ (∃ cs t, w' = w.alloc (.cells cs t)) := by
  go_enter Try.func4, Try.ntmps4
  go_wp2_with (first | (go_at_call 9; refine (kind1 _).mono ?_; rintro e w' ⟨rfl, rfl⟩) | (go_at_call 6; go_in))
  go_ret
  exact ⟨rfl, ⟨_, _, rfl⟩⟩
theorem zz_k2 (r z : Int)  (w : World) :
    Calls Try.prog 4 #[.int .i64 r, .int .u8 2, .bool false, .int .u8 0, .int .u8 0, .int .i64 z] w fun e w' => e = .returned (.string ⟨#[82, 69, 65, 68]⟩) ∧ (∃ cs t, w' = w.alloc (.cells cs t)) := by
  go_enter Try.func4, Try.ntmps4
  go_wp2_with (first | (go_at_call 9; refine (kind2 _).mono ?_; rintro e w' ⟨rfl, rfl⟩) | (go_at_call 6; go_in))
  go_ret
  exact ⟨rfl, ⟨_, _, rfl⟩⟩
theorem zz_k3 (r z : Int)  (w : World) :
    Calls Try.prog 4 #[.int .i64 r, .int .u8 3, .bool false, .int .u8 0, .int .u8 0, .int .i64 z] w fun e w' => e = .returned (.string ⟨#[80, 82, 79, 67, 69, 69, 68]⟩) ∧ (∃ cs t, w' = w.alloc (.cells cs t)) := by
  go_enter Try.func4, Try.ntmps4
  go_wp2_with (first | (go_at_call 9; refine (kind3 _).mono ?_; rintro e w' ⟨rfl, rfl⟩) | (go_at_call 6; go_in))
  go_ret
  exact ⟨rfl, ⟨_, _, rfl⟩⟩
end Names
end Go.Proofs.Qxb6617504a
