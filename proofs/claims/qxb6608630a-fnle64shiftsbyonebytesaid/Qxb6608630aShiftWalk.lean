/-
  THE WALK OF FnLe64ShiftsByOneByte (f4).
-/
import Derived.Test.Qxb6608630aLe
import Derived.Lib.Strings
namespace Go.Proofs.Qxb6608630a
open Go.RowKit
set_option linter.unusedSimpArgs false
set_option linter.unusedVariables false

theorem bytes7 (s : ByteArray) (w : World) (hs : s.size ≤ 1048576) :
    Calls Try.prog 7 #[.string s] w fun e w' => e = .returned (.bool true) ∧ w' = w := by
  go_enter Try.func7, Try.ntmps7
  go_wp2
  go_ret
  exact ⟨rfl, rfl⟩

theorem bt_tail (s : ByteArray) (i : Nat) : bt (s.extract 1 s.size) i = bt s (i + 1) := by
  unfold bt
  have e : (s.extract 1 s.size).size = s.size - 1 := by simp
  by_cases h : i + 1 < s.size
  · have h' : i < (s.extract 1 s.size).size := by omega
    rw [dif_pos h, dif_pos h']
    have : (s.extract 1 s.size)[i] = s[i + 1] := by
      rw [ByteArray.getElem_extract]
      congr 1
      omega
    rw [this]
  · have h' : ¬ i < (s.extract 1 s.size).size := by omega
    rw [dif_neg h, dif_neg h']

theorem leV_low (s : ByteArray) : leV s % 256 = bt s 0 := by
  unfold leV
  have := bt_bd s 0
  omega

theorem leV_bd (s : ByteArray) : 0 ≤ leV s ∧ leV s < 18446744073709551616 := by
  have h0 := bt_bd s 0
  have h1 := bt_bd s 1
  have h2 := bt_bd s 2
  have h3 := bt_bd s 3
  have h4 := bt_bd s 4
  have h5 := bt_bd s 5
  have h6 := bt_bd s 6
  have h7 := bt_bd s 7
  unfold leV
  omega

theorem shift_law (s : ByteArray) : leV (s.extract 1 s.size) = bits BinOp.or IntKind.u64 (leV s / 256) (IntKind.u64.wrap (IntKind.u64.wrap (bt s 8) * 72057594037927936)) := by
  have h0 := bt_bd s 0
  have h1 := bt_bd s 1
  have h2 := bt_bd s 2
  have h3 := bt_bd s 3
  have h4 := bt_bd s 4
  have h5 := bt_bd s 5
  have h6 := bt_bd s 6
  have h7 := bt_bd s 7
  have h8 := bt_bd s 8
  have hd : leV s / 256 = bt s 1 + bt s 2 * 256 + bt s 3 * 65536 + bt s 4 * 16777216 + bt s 5 * 4294967296 + bt s 6 * 1099511627776 + bt s 7 * 281474976710656 := by
    unfold leV
    omega
  rw [hd]
  simp (disch := omega) only [u64_wrap_id, u64_or56]
  unfold leV
  rw [bt_tail, bt_tail, bt_tail, bt_tail, bt_tail, bt_tail, bt_tail, bt_tail]

theorem ret_true {b : Bool} (h : b = true) : Ending.returned (.bool b) = .returned (.bool true) := by rw [h]

set_option maxRecDepth 100000 in
set_option maxHeartbeats 4000000 in
theorem walk4 (s : ByteArray) (w : World) (hs : s.size ≤ 1048576) (h8 : 8 ≤ s.size) :
    Calls Try.prog 4 #[.string s] w fun e w' => e = .returned (.bool true) ∧ Grown w w' := by
  have q0 : 0 < s.size := by omega
  have hb0 : (leV s % (256 : Int) != (s[0].toNat : Int)) = false := by rw [leV_low, bt_of q0]; simp
  have q1 : 1 ≤ s.size := by omega
  have q1' : (1 : Int) ≤ (s.size : Int) := by omega
  by_cases h9 : s.size = 8
  · have d8 : ((s.size : Int) == 8) = true := by simp; omega
    clear h9
    go_enter Try.func4, Try.ntmps4
    go_wp2_with fail
    refine (bytes7 s _ hs).mono ?_
    rintro e w' ⟨rfl, rfl⟩
    rename World => w
    go_wp2_with fail
    refine (le6 s _ h8 (by omega)).mono ?_
    rintro e w1 ⟨rfl, n1, rfl⟩
    go_wp2_with fail
    go_ret
    exact ⟨rfl, Grown.refl _⟩
  · have d8 : ((s.size : Int) == 8) = false := by simp; omega
    have q8 : (8 : Int) < (s.size : Int) := by omega
    clear h9
    go_enter Try.func4, Try.ntmps4
    go_wp2_with fail
    refine (bytes7 s _ hs).mono ?_
    rintro e w' ⟨rfl, rfl⟩
    rename World => w
    go_wp2_with fail
    refine (le6 s _ h8 (by omega)).mono ?_
    rintro e w1 ⟨rfl, n1, hw1⟩
    have HW : Hid (w1 = w.drewN n1) := hw1
    clear hw1
    go_wp2_with fail
    go_quiet ((go_at_call 6; exact Calls.quiet_of (le6 _ _ (by simp; omega) (by simp; omega))))
    go_wp2
    go_ret
    refine ⟨ret_true ?_, ?_⟩
    · rw [beq_iff_eq, bt_of (s := s) (i := 8) (by omega)]
      exact shift_law s
    · rw [HW.out]
      exact Grown.refl w

/-- outside the law's own bounds the answer is 'true' at once -/
theorem walk4_out (s : ByteArray) (w : World) (hm : s.size ≤ maxLen) (h : 1048576 < s.size ∨ s.size < 8) :
    Calls Try.prog 4 #[.string s] w fun e w' => e = .returned (.bool true) ∧ Grown w w' := by
  unfold maxLen at hm
  by_cases h1 : 1048576 < s.size
  · clear h
    go_enter Try.func4, Try.ntmps4
    go_wp2
    all_goals
      go_ret
      exact ⟨rfl, Grown.refl _⟩
  · have h2 : s.size < 8 := by omega
    clear h
    go_enter Try.func4, Try.ntmps4
    go_wp2
    all_goals
      go_ret
      exact ⟨rfl, Grown.refl _⟩
end Go.Proofs.Qxb6608630a
