/-
  WALKS of escape and Escape.
-/
import Derived.Test.Qxb6617527aPlain
import Derived.Test.Qxb6617527aBuild
import Derived.WalkSpells
import Derived.WalkLawsBesides
import Derived.PlainAid
namespace Go.Proofs.Qxb6617527a
open Go.Shelf Go.RowKit Go.PlainAid
set_option linter.unusedVariables false

/-! ### plain facts -/
theorem bt_bl (s : ByteArray) (k : Nat) : bt s k = Plain.bl s.data.toList k := by
  have hz : s.data.toList.length = s.size := by simp
  unfold bt
  by_cases h : k < s.size
  · rw [dif_pos h, Plain.bl_get _ _ (by omega)]
    rfl
  · rw [dif_neg h, Plain.bl_end _ _ (by omega)]
theorem cells_snoc (a : List UInt8) (x : UInt8) (c : Int) (h : c = x.toNat) : Lib.byteCells (a ++ [x]) = Lib.byteCells a ++ [.int .u8 c] := by
  subst h; simp [Lib.byteCells]
theorem next_plain (s : ByteArray) (k : Nat) (h : k < s.size) (hu : Plain.unr (bt s k).toNat = true) :
    Lib.byteCells (Plain.esc (s.data.toList.take (k + 1))) = Lib.byteCells (Plain.esc (s.data.toList.take k)) ++ [.int .u8 (bt s k)] := by
  have hz : s.data.toList.length = s.size := by simp
  have hk : k < s.data.toList.length := by omega
  have e := bt_bl s k
  rw [Plain.bl_get _ _ hk] at e
  rw [e, Int.toNat_natCast] at hu
  rw [List.take_succ_eq_append_getElem hk, Plain.esc_snoc, e]
  unfold Plain.ec
  rw [if_pos hu]
  exact cells_snoc _ _ _ rfl
theorem next_hex (s : ByteArray) (k : Nat) (h : k < s.size) (hu : Plain.unr (bt s k).toNat = false) :
    Lib.byteCells (Plain.esc (s.data.toList.take (k + 1))) = ((Lib.byteCells (Plain.esc (s.data.toList.take k)) ++ [.int .u8 37]) ++ [.int .u8 (Plain.hxN (bt s k / 16).toNat : Nat)]) ++ [.int .u8 (Plain.hxN (bt s k % 16).toNat : Nat)] := by
  have hz : s.data.toList.length = s.size := by simp
  have hk : k < s.data.toList.length := by omega
  have e := bt_bl s k
  rw [Plain.bl_get _ _ hk] at e
  rw [e, Int.toNat_natCast] at hu
  rw [e]
  have hb := Plain.byte_lt s.data.toList[k]
  rw [show ((s.data.toList[k].toNat : Int) / 16).toNat = s.data.toList[k].toNat / 16 from by omega, show ((s.data.toList[k].toNat : Int) % 16).toNat = s.data.toList[k].toNat % 16 from by omega]
  rw [List.take_succ_eq_append_getElem hk, Plain.esc_snoc]
  unfold Plain.ec
  rw [if_neg (by rw [hu]; decide)]
  have e2 : ∀ a : List UInt8, ∀ x y z : UInt8, a ++ [x, y, z] = ((a ++ [x]) ++ [y]) ++ [z] := by simp
  rw [e2, cells_snoc _ _ ((Plain.hx (s.data.toList[k].toNat % 16)).toNat : Int) rfl, cells_snoc _ _ ((Plain.hx (s.data.toList[k].toNat / 16)).toNat : Int) rfl, cells_snoc _ _ 37 rfl, Plain.hx_toNat _ (by omega), Plain.hx_toNat _ (by omega)]

/-- the text of the hex digits -/
def HEX : ByteArray := ⟨#[48, 49, 50, 51, 52, 53, 54, 55, 56, 57, 65, 66, 67, 68, 69, 70]⟩
theorem hex_byte : ∀ k : Fin 16, bt HEX k = (Plain.hxN k : Int) := by decide +kernel
theorem hex_index (n : Int) (h0 : 0 ≤ n) (h1 : n ≤ 15) (w : World) :
    (Instr.index 9 (.string ⟨#[48, 49, 50, 51, 52, 53, 54, 55, 56, 57, 65, 66, 67, 68, 69, 70]⟩) (.int .u8 n)).run Try.prog w = .ok (.int .u8 (Plain.hxN n.toNat : Nat)) w := by
  have hz : HEX.size = 16 := rfl
  have e := run_index_string (P := Try.prog) w 9 HEX .u8 n Try.underlying9
  rw [dif_pos (show 0 ≤ n ∧ n < HEX.size by omega)] at e
  have e2 : ((HEX[n.toNat]'(by omega)).toNat : Int) = (Plain.hxN n.toNat : Nat) := by
    have e3 := hex_byte ⟨n.toNat, by omega⟩
    have e4 := get_bt HEX n.toNat (by omega)
    rw [← e3, ← e4]
  rw [e2] at e
  exact e

set_option maxHeartbeats 4000000 in
set_option maxRecDepth 100000 in
theorem escape_any (s : ByteArray) (w : World) (hs : s.size ≤ 262144) :
    Calls Try.prog 15 #[.string s, .bool false] w fun e w' => e = .returned (.string ⟨(Plain.esc s.data.toList).toArray⟩) ∧ Below w.heap.size w w' := by
  have hb := get_bt s
  go_enter Try.func15, Try.ntmps15
  go_wp2
  go_loopw [6] (fun i W => ∃ (k : Nat) (bs : List Value), k ≤ s.size ∧ i = .int .i64 k ∧ bs = Lib.byteCells (Plain.esc (s.data.toList.take k)) ∧ Lib.IsBuilder 35 5 w.heap.size w.heap.size bs W ∧ Below w.heap.size w W) (fun i _ => s.size - (intOf i).toNat)
  case atStart =>
    refine ⟨0, [], Nat.zero_le _, rfl, rfl, Lib.fresh_isBuilder 35 5 w, (Below.refl _ w).alloc (Nat.le_refl _) _⟩
  case round =>
    obtain ⟨k, bs, hk, rfl, hbs, hI, hbw⟩ := hrel
    have hsz : w.heap.size ≤ wr.heap.size := hbw.size
    have hl : bs.length ≤ 786432 := by
      have e1 := Plain.esc_len (s.data.toList.take k)
      have e2 : (s.data.toList.take k).length ≤ k := List.length_take_le _ _
      rw [hbs, Lib.byteCells_length]; omega
    have HI : Hid (Lib.IsBuilder 35 5 w.heap.size w.heap.size bs wr) := hI
    have HW : Hid (Below w.heap.size w wr) := hbw
    clear hI hbw
    by_cases hlt : k < s.size
    · have c0 := bt_nonneg s k
      have c1 := bt_le s k
      cases hu : Plain.unr (bt s k).toNat with
      | true =>
        have HN : Hid (Lib.byteCells (Plain.esc (s.data.toList.take (k + 1))) = bs ++ [.int .u8 (bt s k)]) := by rw [hbs]; exact next_plain s k hlt hu
        have hr := (Plain.unr_iff _).1 hu
        have hr2 : (97 ≤ bt s k ∧ bt s k ≤ 122) ∨ (65 ≤ bt s k ∧ bt s k ≤ 90) ∨ (48 ≤ bt s k ∧ bt s k ≤ 57) ∨ (45 ≤ bt s k ∧ bt s k ≤ 45) ∨ (46 ≤ bt s k ∧ bt s k ≤ 46) ∨ (95 ≤ bt s k ∧ bt s k ≤ 95) ∨ (126 ≤ bt s k ∧ bt s k ≤ 126) := by omega
        clear hr hu hbs
        rcases hr2 with ⟨r1, r2⟩ | ⟨r1, r2⟩ | ⟨r1, r2⟩ | ⟨r1, r2⟩ | ⟨r1, r2⟩ | ⟨r1, r2⟩ | ⟨r1, r2⟩
        all_goals
          go_wp2_with fail
          refine (writeByte_any w.heap.size w.heap.size bs (bt s k) _ HI.out (by omega) hsz).mono ?_
          rintro e W1 ⟨rfl, h1, b1⟩
          go_wp2
          go_roundw
          case rel => exact ⟨k + 1, _, by omega, by go_num, HN.out.symm, Or.inr h1, HW.out.trans b1⟩
          case measure => simp [intOf]; omega
      | false =>
        have HN : Hid (Lib.byteCells (Plain.esc (s.data.toList.take (k + 1))) = ((bs ++ [.int .u8 37]) ++ [.int .u8 (Plain.hxN (bt s k / 16).toNat : Nat)]) ++ [.int .u8 (Plain.hxN (bt s k % 16).toNat : Nat)]) := by rw [hbs]; exact next_hex s k hlt hu
        have hr := mt (Plain.unr_iff _).2 (by rw [hu]; decide)
        have hr2 : (0 ≤ bt s k ∧ bt s k ≤ 44) ∨ (47 ≤ bt s k ∧ bt s k ≤ 47) ∨ (58 ≤ bt s k ∧ bt s k ≤ 64) ∨ (91 ≤ bt s k ∧ bt s k ≤ 94) ∨ (96 ≤ bt s k ∧ bt s k ≤ 96) ∨ (123 ≤ bt s k ∧ bt s k ≤ 125) ∨ (127 ≤ bt s k ∧ bt s k ≤ 255) := by omega
        clear hr hu hbs
        have i1 := hex_index (bt s k / 16) (by omega) (by omega)
        have i2 := hex_index (bt s k % 16) (by omega) (by omega)
        rcases hr2 with ⟨r1, r2⟩ | ⟨r1, r2⟩ | ⟨r1, r2⟩ | ⟨r1, r2⟩ | ⟨r1, r2⟩ | ⟨r1, r2⟩ | ⟨r1, r2⟩
        all_goals
          go_wp2_with fail
          refine (writeByte_any w.heap.size w.heap.size bs 37 _ HI.out (by omega) hsz).mono ?_
          rintro e W1 ⟨rfl, h1, b1⟩
          go_wp2_with fail
          refine (writeByte_any w.heap.size w.heap.size _ _ _ (Or.inr h1) (by simp; omega) (by have := b1.size; omega)).mono ?_
          rintro e W2 ⟨rfl, h2, b2⟩
          go_wp2_with fail
          refine (writeByte_any w.heap.size w.heap.size _ _ _ (Or.inr h2) (by simp; omega) (by have := b1.size; have := b2.size; omega)).mono ?_
          rintro e W3 ⟨rfl, h3, b3⟩
          go_wp2
          go_roundw
          case rel => exact ⟨k + 1, _, by omega, by go_num, HN.out.symm, Or.inr h3, ((HW.out.trans b1).trans b2).trans b3⟩
          case measure => simp [intOf]; omega
    · obtain rfl : k = s.size := by omega
      have hfull : s.data.toList.take s.size = s.data.toList := List.take_of_length_le (by simp)
      rw [hfull] at hbs
      subst hbs
      go_wp2_with fail
      refine (Builder_String_any w.heap.size w.heap.size _ _ HI.out hsz).mono ?_
      rintro e W1 ⟨rfl, b1⟩
      go_wp2
      go_ret
      exact ⟨rfl, HW.out.trans b1⟩

/-- the encoded text, as a string -/
def E (s : ByteArray) : ByteArray := ⟨(Plain.esc s.data.toList).toArray⟩
theorem Escape_any (s : ByteArray) (w : World) (hs : s.size ≤ 262144) :
    Calls Try.prog 12 #[.string s] w fun e w' => e = .returned (.string (E s)) ∧ Below w.heap.size w w' := by
  go_enter Try.func12, Try.ntmps12
  go_wp2_with fail
  refine (escape_any s _ hs).mono ?_
  rintro e w1 ⟨rfl, b1⟩
  go_wp2
  go_ret
  exact ⟨rfl, b1⟩
end Go.Proofs.Qxb6617527a
