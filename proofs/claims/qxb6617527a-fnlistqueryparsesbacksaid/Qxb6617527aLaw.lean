/-
  WALKS of ListQuery and of the law 'FnListQueryParsesBack'.
-/
import Derived.Test.Qxb6617527aEscape
import Derived.Test.Qxb6617527aParse
namespace Go.Proofs.Qxb6617527a
open Go.RowKit Go.PlainAid
set_option linter.unusedVariables false

namespace Law
open Parse

def Escs (p x : ByteArray) : Prop := ∀ w : World, Calls Try.prog 12 #[.string p] w fun e w' => e = .returned (.string x) ∧ Below w.heap.size w w'
def Lists (p a t q : ByteArray) : Prop := ∀ w : World, Calls Try.prog 6 #[.string p, .string a, .string t] w fun e w' => e = .returned (.string q) ∧ Below w.heap.size w w'

/-! ### ListQuery -/
theorem list11 (p a t x y z : ByteArray) (ea : a.toList.isEmpty = false) (et : t.toList.isEmpty = false) (hx : x.size ≤ 786432) (g1 : Escs p x) (hy : y.size ≤ 786432) (g2 : Escs a y) (hz : z.size ≤ 786432) (g3 : Escs t z) :
    Lists p a t ((⟨#[108, 105, 115, 116, 45, 116, 121, 112, 101, 61, 50, 38, 112, 114, 101, 102, 105, 120, 61]⟩ ++ x) ++ (⟨#[38, 115, 116, 97, 114, 116, 45, 97, 102, 116, 101, 114, 61]⟩ ++ y) ++ (⟨#[38, 99, 111, 110, 116, 105, 110, 117, 97, 116, 105, 111, 110, 45, 116, 111, 107, 101, 110, 61]⟩ ++ z)) := by
  intro w
  go_enter Try.func6, Try.ntmps6
  go_wp2_with fail
  refine (g1 _).mono ?_
  rintro e w1 ⟨rfl, b1⟩
  have B1 : Hid (Below w.heap.size w w1) := b1
  clear b1
  go_wp2_with fail
  refine (g2 _).mono ?_
  rintro e w2 ⟨rfl, b2⟩
  have B2 : Hid (Below w1.heap.size w1 w2) := b2
  clear b2
  go_wp2_with fail
  refine (g3 _).mono ?_
  rintro e w3 ⟨rfl, b3⟩
  have B3 : Hid (Below w2.heap.size w2 w3) := b3
  clear b3
  go_wp2
  go_ret
  have s1 := B1.out.size
  have s2 := B2.out.size
  exact ⟨rfl, (B1.out.trans (B2.out.mono s1)).trans (B3.out.mono (by omega))⟩
theorem list10 (p a x y : ByteArray) (ea : a.toList.isEmpty = false) (hx : x.size ≤ 786432) (g1 : Escs p x) (hy : y.size ≤ 786432) (g2 : Escs a y) :
    Lists p a ByteArray.empty ((⟨#[108, 105, 115, 116, 45, 116, 121, 112, 101, 61, 50, 38, 112, 114, 101, 102, 105, 120, 61]⟩ ++ x) ++ (⟨#[38, 115, 116, 97, 114, 116, 45, 97, 102, 116, 101, 114, 61]⟩ ++ y)) := by
  intro w
  go_enter Try.func6, Try.ntmps6
  go_wp2_with fail
  refine (g1 _).mono ?_
  rintro e w1 ⟨rfl, b1⟩
  have B1 : Hid (Below w.heap.size w w1) := b1
  clear b1
  go_wp2_with fail
  refine (g2 _).mono ?_
  rintro e w2 ⟨rfl, b2⟩
  have B2 : Hid (Below w1.heap.size w1 w2) := b2
  clear b2
  go_wp2
  go_ret
  exact ⟨rfl, B1.out.trans (B2.out.mono B1.out.size)⟩
theorem list01 (p t x z : ByteArray) (et : t.toList.isEmpty = false) (hx : x.size ≤ 786432) (g1 : Escs p x) (hz : z.size ≤ 786432) (g3 : Escs t z) :
    Lists p ByteArray.empty t ((⟨#[108, 105, 115, 116, 45, 116, 121, 112, 101, 61, 50, 38, 112, 114, 101, 102, 105, 120, 61]⟩ ++ x) ++ (⟨#[38, 99, 111, 110, 116, 105, 110, 117, 97, 116, 105, 111, 110, 45, 116, 111, 107, 101, 110, 61]⟩ ++ z)) := by
  intro w
  go_enter Try.func6, Try.ntmps6
  go_wp2_with fail
  refine (g1 _).mono ?_
  rintro e w1 ⟨rfl, b1⟩
  have B1 : Hid (Below w.heap.size w w1) := b1
  clear b1
  go_wp2_with fail
  refine (g3 _).mono ?_
  rintro e w2 ⟨rfl, b2⟩
  have B2 : Hid (Below w1.heap.size w1 w2) := b2
  clear b2
  go_wp2
  go_ret
  exact ⟨rfl, B1.out.trans (B2.out.mono B1.out.size)⟩
theorem list00 (p x : ByteArray) (hx : x.size ≤ 786432) (g1 : Escs p x) :
    Lists p ByteArray.empty ByteArray.empty (⟨#[108, 105, 115, 116, 45, 116, 121, 112, 101, 61, 50, 38, 112, 114, 101, 102, 105, 120, 61]⟩ ++ x) := by
  intro w
  go_enter Try.func6, Try.ntmps6
  go_wp2_with fail
  refine (g1 _).mono ?_
  rintro e w1 ⟨rfl, b1⟩
  have B1 : Hid (Below w.heap.size w w1) := b1
  clear b1
  go_wp2
  go_ret
  exact ⟨rfl, B1.out⟩

/-! ### the law, over the callees -/
theorem bytesL (p a t : ByteArray) (w : World) (hp : p.size ≤ 262144) (ha : a.size ≤ 262144) (ht : t.size ≤ 262144) :
    Calls Try.prog 5 #[.string p, .string a, .string t] w fun e w' => e = .returned (.bool true) ∧ w' = w := by
  go_enter Try.func5, Try.ntmps5
  go_wp2
  go_ret
  exact ⟨rfl, rfl⟩

theorem law11 (p a t q s0 r0 s1 r1 s2 r2 : ByteArray) (w : World) (hp : p.size ≤ 262144) (ha : a.size ≤ 262144) (ea : a.toList.isEmpty = false) (ht : t.size ≤ 262144) (et : t.toList.isEmpty = false)
    (hq : 19 ≤ q.size) (hq2 : q.size ≤ 9223372036854775807)
    (gq : Lists p a t q) (gh : Hasp q ⟨#[108, 105, 115, 116, 45, 116, 121, 112, 101, 61, 50, 38, 112, 114, 101, 102, 105, 120, 61]⟩) (gc0 : Cuts (q.extract 19 q.size) s0 r0 true) (gd : Decs s0 p)
    (gc1 : Cuts r0 s1 r1 true) (gp1 : Pars s1 ⟨#[115, 116, 97, 114, 116, 45, 97, 102, 116, 101, 114, 61]⟩ a)
    (gc2 : Cuts r1 s2 r2 false) (gp2 : Pars s2 ⟨#[99, 111, 110, 116, 105, 110, 117, 97, 116, 105, 111, 110, 45, 116, 111, 107, 101, 110, 61]⟩ t)
    :
    Calls Try.prog 3 #[.string p, .string a, .string t] w fun e w' => e = .returned (.bool true) ∧ Below w.heap.size w w' := by
  go_enter Try.func3, Try.ntmps3
  go_wp2_with (go_at_call 5; refine (bytesL p a t _ hp ha ht).mono ?_; rintro e w' ⟨rfl, rfl⟩)
  refine (gq _).mono ?_
  rintro e w1 ⟨rfl, b1⟩
  have B1 : Hid (Below w'.heap.size w' w1) := b1
  clear b1
  go_wp2_with fail
  refine (gh _).mono ?_
  rintro e w' ⟨rfl, ngh, rfl⟩
  go_wp2_with fail
  refine (gc0 _).mono ?_
  rintro e w' ⟨rfl, ngc0, rfl⟩
  go_wp2_with fail
  refine (gd _).mono ?_
  rintro e w' ⟨rfl, rfl⟩
  go_wp2_with fail
  refine (gc1 _).mono ?_
  rintro e w' ⟨rfl, ngc1, rfl⟩
  go_wp2_with fail
  refine (gp1 _).mono ?_
  rintro e w' ⟨rfl, ngp1, rfl⟩
  go_wp2_with fail
  refine (gc2 _).mono ?_
  rintro e w' ⟨rfl, ngc2, rfl⟩
  go_wp2_with fail
  refine (gp2 _).mono ?_
  rintro e w' ⟨rfl, ngp2, rfl⟩
  go_wp2_with fail
  go_ret
  exact ⟨rfl, by first | exact B1.out | exact below_drewN B1.out _⟩

theorem law10 (p a q s0 r0 s1 r1 : ByteArray) (w : World) (hp : p.size ≤ 262144) (ha : a.size ≤ 262144) (ea : a.toList.isEmpty = false)
    (hq : 19 ≤ q.size) (hq2 : q.size ≤ 9223372036854775807)
    (gq : Lists p a ByteArray.empty q) (gh : Hasp q ⟨#[108, 105, 115, 116, 45, 116, 121, 112, 101, 61, 50, 38, 112, 114, 101, 102, 105, 120, 61]⟩) (gc0 : Cuts (q.extract 19 q.size) s0 r0 true) (gd : Decs s0 p)
    (gc1 : Cuts r0 s1 r1 false) (gp1 : Pars s1 ⟨#[115, 116, 97, 114, 116, 45, 97, 102, 116, 101, 114, 61]⟩ a)
    :
    Calls Try.prog 3 #[.string p, .string a, .string ByteArray.empty] w fun e w' => e = .returned (.bool true) ∧ Below w.heap.size w w' := by
  go_enter Try.func3, Try.ntmps3
  go_wp2_with (go_at_call 5; refine (bytesL p a ByteArray.empty _ hp ha (by decide)).mono ?_; rintro e w' ⟨rfl, rfl⟩)
  refine (gq _).mono ?_
  rintro e w1 ⟨rfl, b1⟩
  have B1 : Hid (Below w'.heap.size w' w1) := b1
  clear b1
  go_wp2_with fail
  refine (gh _).mono ?_
  rintro e w' ⟨rfl, ngh, rfl⟩
  go_wp2_with fail
  refine (gc0 _).mono ?_
  rintro e w' ⟨rfl, ngc0, rfl⟩
  go_wp2_with fail
  refine (gd _).mono ?_
  rintro e w' ⟨rfl, rfl⟩
  go_wp2_with fail
  refine (gc1 _).mono ?_
  rintro e w' ⟨rfl, ngc1, rfl⟩
  go_wp2_with fail
  refine (gp1 _).mono ?_
  rintro e w' ⟨rfl, ngp1, rfl⟩
  go_wp2_with fail
  go_ret
  exact ⟨rfl, by first | exact B1.out | exact below_drewN B1.out _⟩

theorem law01 (p t q s0 r0 s2 r2 : ByteArray) (w : World) (hp : p.size ≤ 262144) (ht : t.size ≤ 262144) (et : t.toList.isEmpty = false)
    (hq : 19 ≤ q.size) (hq2 : q.size ≤ 9223372036854775807)
    (gq : Lists p ByteArray.empty t q) (gh : Hasp q ⟨#[108, 105, 115, 116, 45, 116, 121, 112, 101, 61, 50, 38, 112, 114, 101, 102, 105, 120, 61]⟩) (gc0 : Cuts (q.extract 19 q.size) s0 r0 true) (gd : Decs s0 p)
    (gc2 : Cuts r0 s2 r2 false) (gp2 : Pars s2 ⟨#[99, 111, 110, 116, 105, 110, 117, 97, 116, 105, 111, 110, 45, 116, 111, 107, 101, 110, 61]⟩ t)
    :
    Calls Try.prog 3 #[.string p, .string ByteArray.empty, .string t] w fun e w' => e = .returned (.bool true) ∧ Below w.heap.size w w' := by
  go_enter Try.func3, Try.ntmps3
  go_wp2_with (go_at_call 5; refine (bytesL p ByteArray.empty t _ hp (by decide) ht).mono ?_; rintro e w' ⟨rfl, rfl⟩)
  refine (gq _).mono ?_
  rintro e w1 ⟨rfl, b1⟩
  have B1 : Hid (Below w'.heap.size w' w1) := b1
  clear b1
  go_wp2_with fail
  refine (gh _).mono ?_
  rintro e w' ⟨rfl, ngh, rfl⟩
  go_wp2_with fail
  refine (gc0 _).mono ?_
  rintro e w' ⟨rfl, ngc0, rfl⟩
  go_wp2_with fail
  refine (gd _).mono ?_
  rintro e w' ⟨rfl, rfl⟩
  go_wp2_with fail
  refine (gc2 _).mono ?_
  rintro e w' ⟨rfl, ngc2, rfl⟩
  go_wp2_with fail
  refine (gp2 _).mono ?_
  rintro e w' ⟨rfl, ngp2, rfl⟩
  go_wp2_with fail
  go_ret
  exact ⟨rfl, by first | exact B1.out | exact below_drewN B1.out _⟩

theorem law00 (p q s0 r0 : ByteArray) (w : World) (hp : p.size ≤ 262144)
    (hq : 19 ≤ q.size) (hq2 : q.size ≤ 9223372036854775807)
    (gq : Lists p ByteArray.empty ByteArray.empty q) (gh : Hasp q ⟨#[108, 105, 115, 116, 45, 116, 121, 112, 101, 61, 50, 38, 112, 114, 101, 102, 105, 120, 61]⟩) (gc0 : Cuts (q.extract 19 q.size) s0 r0 false) (gd : Decs s0 p)
    :
    Calls Try.prog 3 #[.string p, .string ByteArray.empty, .string ByteArray.empty] w fun e w' => e = .returned (.bool true) ∧ Below w.heap.size w w' := by
  go_enter Try.func3, Try.ntmps3
  go_wp2_with (go_at_call 5; refine (bytesL p ByteArray.empty ByteArray.empty _ hp (by decide) (by decide)).mono ?_; rintro e w' ⟨rfl, rfl⟩)
  refine (gq _).mono ?_
  rintro e w1 ⟨rfl, b1⟩
  have B1 : Hid (Below w'.heap.size w' w1) := b1
  clear b1
  go_wp2_with fail
  refine (gh _).mono ?_
  rintro e w' ⟨rfl, ngh, rfl⟩
  go_wp2_with fail
  refine (gc0 _).mono ?_
  rintro e w' ⟨rfl, ngc0, rfl⟩
  go_wp2_with fail
  refine (gd _).mono ?_
  rintro e w' ⟨rfl, rfl⟩
  go_wp2_with fail
  go_ret
  exact ⟨rfl, by first | exact B1.out | exact below_drewN B1.out _⟩

/-- too long a string: nothing is asked -/
theorem long (p a t : ByteArray) (w : World) (hp : p.size ≤ 9223372036854775807) (ha : a.size ≤ 9223372036854775807) (ht : t.size ≤ 9223372036854775807) (h : 262144 < p.size ∨ 262144 < a.size ∨ 262144 < t.size) :
    Calls Try.prog 3 #[.string p, .string a, .string t] w fun e w' => e = .returned (.bool true) ∧ Below w.heap.size w w' := by
  go_enter Try.func3, Try.ntmps3
  go_wp2_with (go_at_call 5; go_in)
  all_goals
    go_ret
    exact ⟨rfl, Below.refl _ _⟩

/-! ### plain facts on strings as lists -/
theorem list_size (s : ByteArray) : s.data.toList.length = s.size := by simp
theorem list_append (a b : ByteArray) : (a ++ b).data.toList = a.data.toList ++ b.data.toList := by simp
theorem bt_of (s : ByteArray) (l : List UInt8) (h : s.data.toList = l) (i : Nat) : bt s i = Plain.bl l i := by rw [Parse.bt_bl, h]
theorem hasp_of (s p : ByteArray) (r : List UInt8) (hs : s.size ≤ 9223372036854775807) (h : s.data.toList = p.data.toList ++ r) : Hasp s p := by
  intro w
  have z1 := list_size s
  have z2 := list_size p
  rw [h, List.length_append] at z1
  refine hasp_any s p w hs (by omega) fun i hi => ?_
  rw [bt_of s _ h, bt_of p _ rfl, Plain.bl_left _ _ _ (by omega)]
theorem piece (s : ByteArray) (l : List UInt8) (h : s.data.toList = l) (a b : Nat) : (s.extract a b).data.toList = (l.drop a).take (b - a) := by rw [Lib.extract_data, h]
theorem cuts_of (s : ByteArray) (x y : List UInt8) (hs : s.size ≤ 9223372036854775807) (h : s.data.toList = x ++ 38 :: y) (hx : ∀ b ∈ x, b ≠ 38) :
    ∃ s0 r0, Cuts s s0 r0 true ∧ s0.data.toList = x ∧ r0.data.toList = y := by
  have z := list_size s
  rw [h, List.length_append, List.length_cons] at z
  refine ⟨s.extract 0 x.length, s.extract (x.length + 1) s.size, fun w => ?_, ?_, ?_⟩
  · refine cut_at s x.length w hs (by omega) (fun i hi => ?_) ?_
    · rw [bt_of s _ h, Plain.bl_left _ _ _ hi]; exact Plain.bl_no x hx i
    · rw [bt_of s _ h]
      have := Plain.bl_right x (38 :: y) 0
      rw [Nat.add_zero] at this
      rw [this]; rfl
  · rw [piece s _ h]; simp
  · rw [piece s _ h, ← z]
    have e : x ++ 38 :: y = (x ++ [38]) ++ y := by simp
    rw [e, List.drop_append_of_le_length (by simp)]
    simp
    exact List.take_of_length_le (by omega)
theorem cuts_end (s : ByteArray) (hs : s.size ≤ 9223372036854775807) (hx : ∀ b ∈ s.data.toList, b ≠ 38) : Cuts s s ⟨#[]⟩ false := fun w =>
  cut_none s w hs fun i => by rw [bt_of s _ rfl]; exact Plain.bl_no _ hx i
theorem decs_of (s t : ByteArray) (ht : t.size ≤ 262144) (h : s.data.toList = Plain.esc t.data.toList) : Decs s t := fun w => by
  have z1 := list_size s
  have z2 := list_size t
  have z3 := Plain.esc_len t.data.toList
  rw [h] at z1
  exact decodes s t w (by omega) (by omega) h
theorem pars_of (s n t : ByteArray) (ht : t.size ≤ 262144) (hs : s.size ≤ 9223372036854775807) (h : s.data.toList = n.data.toList ++ Plain.esc t.data.toList) : Pars s n t := by
  have z1 := list_size s
  have z2 := list_size n
  rw [h, List.length_append] at z1
  refine pars s n t hs (by omega) (hasp_of s n _ hs h) (decs_of _ t ht ?_)
  rw [piece s _ h, ← z1, ← z2]
  simp
theorem escs (p : ByteArray) (hp : p.size ≤ 262144) : Escs p (E p) := fun w => Escape_any p w hp
theorem E_list (p : ByteArray) : (E p).data.toList = Plain.esc p.data.toList := rfl
theorem E_size (p : ByteArray) (hp : p.size ≤ 262144) : (E p).size ≤ 786432 := by
  have z1 := list_size (E p)
  have z2 := list_size p
  have z3 := Plain.esc_len p.data.toList
  rw [E_list] at z1
  omega
theorem empty_of {a : ByteArray} (h : a.toList.isEmpty = true) : a = ByteArray.empty := by
  rw [List.isEmpty_iff, ByteArray.toList_eq] at h
  exact ByteArray.ext (Array.toList_inj.1 h)

/-- the texts of the query -/
def HD : ByteArray := ⟨#[108, 105, 115, 116, 45, 116, 121, 112, 101, 61, 50, 38, 112, 114, 101, 102, 105, 120, 61]⟩
def AN : ByteArray := ⟨#[115, 116, 97, 114, 116, 45, 97, 102, 116, 101, 114, 61]⟩
def TN : ByteArray := ⟨#[99, 111, 110, 116, 105, 110, 117, 97, 116, 105, 111, 110, 45, 116, 111, 107, 101, 110, 61]⟩
def AF : ByteArray := ⟨#[38, 115, 116, 97, 114, 116, 45, 97, 102, 116, 101, 114, 61]⟩
def TK : ByteArray := ⟨#[38, 99, 111, 110, 116, 105, 110, 117, 97, 116, 105, 111, 110, 45, 116, 111, 107, 101, 110, 61]⟩
theorem AF_list : AF.data.toList = 38 :: AN.data.toList := rfl
theorem TK_list : TK.data.toList = 38 :: TN.data.toList := rfl
theorem AN_no : ∀ b ∈ AN.data.toList, b ≠ 38 := by decide
theorem TN_no : ∀ b ∈ TN.data.toList, b ≠ 38 := by decide
theorem no_app {x y : List UInt8} (hx : ∀ b ∈ x, b ≠ 38) (hy : ∀ b ∈ y, b ≠ 38) : ∀ b ∈ x ++ y, b ≠ 38 := by
  intro b hb
  rcases List.mem_append.1 hb with h | h
  · exact hx b h
  · exact hy b h
theorem behind (q : ByteArray) (r : List UInt8) (h : q.data.toList = HD.data.toList ++ r) : (q.extract 19 q.size).data.toList = r ∧ q.size = 19 + r.length := by
  have z := list_size q
  have zh : HD.data.toList.length = 19 := rfl
  rw [h, List.length_append, zh] at z
  refine ⟨?_, z.symm⟩
  rw [piece q _ h, ← z, List.drop_append_of_le_length (by rw [zh]; exact Nat.le_refl _)]
  have : HD.data.toList.drop 19 = [] := rfl
  rw [this, List.nil_append]
  exact List.take_of_length_le (by omega)
theorem len_esc (a : ByteArray) (ha : a.size ≤ 262144) : (Plain.esc a.data.toList).length ≤ 786432 := by
  have z2 := list_size a
  have z3 := Plain.esc_len a.data.toList
  omega

theorem all11 (p a t : ByteArray) (w : World) (hp : p.size ≤ 262144) (ha : a.size ≤ 262144) (ht : t.size ≤ 262144) (ea : a.toList.isEmpty = false) (et : t.toList.isEmpty = false) :
    Calls Try.prog 3 #[.string p, .string a, .string t] w fun e w' => e = .returned (.bool true) ∧ Below w.heap.size w w' := by
  have gq : Lists p a t ((HD ++ E p) ++ (AF ++ E a) ++ (TK ++ E t)) := list11 p a t _ _ _ ea et (E_size p hp) (escs p hp) (E_size a ha) (escs a ha) (E_size t ht) (escs t ht)
  have hl : ((HD ++ E p) ++ (AF ++ E a) ++ (TK ++ E t)).data.toList = HD.data.toList ++ (Plain.esc p.data.toList ++ 38 :: ((AN.data.toList ++ Plain.esc a.data.toList) ++ 38 :: (TN.data.toList ++ Plain.esc t.data.toList))) := by
    rw [list_append, list_append, list_append, list_append, list_append, E_list, E_list, E_list, AF_list, TK_list]
    simp only [List.append_assoc, List.cons_append]
  generalize (HD ++ E p) ++ (AF ++ E a) ++ (TK ++ E t) = q at *
  have l1 := len_esc p hp
  have l2 := len_esc a ha
  have l3 := len_esc t ht
  have zA : AN.data.toList.length = 12 := rfl
  have zT : TN.data.toList.length = 19 := rfl
  obtain ⟨hr, zq⟩ := behind q _ hl
  have zr := list_size (q.extract 19 q.size)
  rw [hr] at zr
  simp only [List.length_append, List.length_cons, zA, zT] at zq zr
  obtain ⟨s0, r0, c0, e0, f0⟩ := cuts_of (q.extract 19 q.size) _ _ (by omega) hr (Plain.esc_no _)
  have z0 := list_size r0
  rw [f0] at z0
  simp only [List.length_append, List.length_cons, zA, zT] at z0
  obtain ⟨s1, r1, c1, e1, f1⟩ := cuts_of r0 _ _ (by omega) f0 (no_app AN_no (Plain.esc_no _))
  have z1 := list_size r1
  have z1' := list_size s1
  rw [f1] at z1
  rw [e1] at z1'
  simp only [List.length_append, zA, zT] at z1 z1'
  have c2 := cuts_end r1 (by omega) (by rw [f1]; exact no_app TN_no (Plain.esc_no _))
  exact law11 p a t q s0 r0 s1 r1 r1 _ w hp ha ea ht et (by omega) (by omega) gq (hasp_of q HD _ (by omega) hl) c0 (decs_of s0 p hp e0) c1 (pars_of s1 AN a ha (by omega) e1) c2 (pars_of r1 TN t ht (by omega) f1)

theorem all10 (p a : ByteArray) (w : World) (hp : p.size ≤ 262144) (ha : a.size ≤ 262144) (ea : a.toList.isEmpty = false) :
    Calls Try.prog 3 #[.string p, .string a, .string ByteArray.empty] w fun e w' => e = .returned (.bool true) ∧ Below w.heap.size w w' := by
  have gq : Lists p a ByteArray.empty ((HD ++ E p) ++ (AF ++ E a)) := list10 p a _ _ ea (E_size p hp) (escs p hp) (E_size a ha) (escs a ha)
  have hl : ((HD ++ E p) ++ (AF ++ E a)).data.toList = HD.data.toList ++ (Plain.esc p.data.toList ++ 38 :: (AN.data.toList ++ Plain.esc a.data.toList)) := by
    rw [list_append, list_append, list_append, E_list, E_list, AF_list]
    simp only [List.append_assoc, List.cons_append]
  generalize (HD ++ E p) ++ (AF ++ E a) = q at *
  have l1 := len_esc p hp
  have l2 := len_esc a ha
  have zA : AN.data.toList.length = 12 := rfl
  obtain ⟨hr, zq⟩ := behind q _ hl
  have zr := list_size (q.extract 19 q.size)
  rw [hr] at zr
  simp only [List.length_append, List.length_cons, zA] at zq zr
  obtain ⟨s0, r0, c0, e0, f0⟩ := cuts_of (q.extract 19 q.size) _ _ (by omega) hr (Plain.esc_no _)
  have z0 := list_size r0
  rw [f0] at z0
  simp only [List.length_append, zA] at z0
  have c1 := cuts_end r0 (by omega) (by rw [f0]; exact no_app AN_no (Plain.esc_no _))
  exact law10 p a q s0 r0 r0 _ w hp ha ea (by omega) (by omega) gq (hasp_of q HD _ (by omega) hl) c0 (decs_of s0 p hp e0) c1 (pars_of r0 AN a ha (by omega) f0)

theorem all01 (p t : ByteArray) (w : World) (hp : p.size ≤ 262144) (ht : t.size ≤ 262144) (et : t.toList.isEmpty = false) :
    Calls Try.prog 3 #[.string p, .string ByteArray.empty, .string t] w fun e w' => e = .returned (.bool true) ∧ Below w.heap.size w w' := by
  have gq : Lists p ByteArray.empty t ((HD ++ E p) ++ (TK ++ E t)) := list01 p t _ _ et (E_size p hp) (escs p hp) (E_size t ht) (escs t ht)
  have hl : ((HD ++ E p) ++ (TK ++ E t)).data.toList = HD.data.toList ++ (Plain.esc p.data.toList ++ 38 :: (TN.data.toList ++ Plain.esc t.data.toList)) := by
    rw [list_append, list_append, list_append, E_list, E_list, TK_list]
    simp only [List.append_assoc, List.cons_append]
  generalize (HD ++ E p) ++ (TK ++ E t) = q at *
  have l1 := len_esc p hp
  have l3 := len_esc t ht
  have zT : TN.data.toList.length = 19 := rfl
  obtain ⟨hr, zq⟩ := behind q _ hl
  have zr := list_size (q.extract 19 q.size)
  rw [hr] at zr
  simp only [List.length_append, List.length_cons, zT] at zq zr
  obtain ⟨s0, r0, c0, e0, f0⟩ := cuts_of (q.extract 19 q.size) _ _ (by omega) hr (Plain.esc_no _)
  have z0 := list_size r0
  rw [f0] at z0
  simp only [List.length_append, zT] at z0
  have c2 := cuts_end r0 (by omega) (by rw [f0]; exact no_app TN_no (Plain.esc_no _))
  exact law01 p t q s0 r0 r0 _ w hp ht et (by omega) (by omega) gq (hasp_of q HD _ (by omega) hl) c0 (decs_of s0 p hp e0) c2 (pars_of r0 TN t ht (by omega) f0)

theorem all00 (p : ByteArray) (w : World) (hp : p.size ≤ 262144) :
    Calls Try.prog 3 #[.string p, .string ByteArray.empty, .string ByteArray.empty] w fun e w' => e = .returned (.bool true) ∧ Below w.heap.size w w' := by
  have gq : Lists p ByteArray.empty ByteArray.empty (HD ++ E p) := list00 p _ (E_size p hp) (escs p hp)
  have hl : (HD ++ E p).data.toList = HD.data.toList ++ Plain.esc p.data.toList := by
    rw [list_append, E_list]
  generalize HD ++ E p = q at *
  have l1 := len_esc p hp
  obtain ⟨hr, zq⟩ := behind q _ hl
  have zr := list_size (q.extract 19 q.size)
  rw [hr] at zr
  have c0 := cuts_end (q.extract 19 q.size) (by omega) (by rw [hr]; exact Plain.esc_no _)
  exact law00 p q _ _ w hp (by omega) (by omega) gq (hasp_of q HD _ (by omega) hl) c0 (decs_of _ p hp hr)

theorem parses (p a t : ByteArray) (w : World) (hp : p.size ≤ 9223372036854775807) (ha : a.size ≤ 9223372036854775807) (ht : t.size ≤ 9223372036854775807) :
    Calls Try.prog 3 #[.string p, .string a, .string t] w fun e w' => e = .returned (.bool true) ∧ Below w.heap.size w w' := by
  by_cases h : 262144 < p.size ∨ 262144 < a.size ∨ 262144 < t.size
  · exact long p a t w hp ha ht h
  cases ea : a.toList.isEmpty with
  | true =>
    obtain rfl := empty_of ea
    cases et : t.toList.isEmpty with
    | true =>
      obtain rfl := empty_of et
      exact all00 p w (by omega)
    | false => exact all01 p t w (by omega) (by omega) et
  | false =>
    cases et : t.toList.isEmpty with
    | true =>
      obtain rfl := empty_of et
      exact all10 p a w (by omega) (by omega) ea
    | false => exact all11 p a t w (by omega) (by omega) (by omega) ea et
end Law
end Go.Proofs.Qxb6617527a
