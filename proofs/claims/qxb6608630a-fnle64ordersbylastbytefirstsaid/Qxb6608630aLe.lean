/-
  le64 (f8), ZZle64 (f6): the word that the first eight bytes spell, the least byte first.
-/
import Derived.Test.Qxb6608630aRows
import Derived.WalkKit
import Derived.WalkLawsBesides
import Derived.WalkSpells
import Derived.Outline
import Derived.Lib.EndianBits
import Derived.Deep.QuietTactic
import Derived.BigQuiet
namespace Go.Proofs.Qxb6608630a
open Go.RowKit
set_option linter.unusedSimpArgs false
set_option linter.unusedVariables false

/-! ### the plain part: byte i of a text; the word that eight bytes spell -/
def bt (s : ByteArray) (i : Nat) : Int := if h : i < s.size then (s[i].toNat : Int) else 0

theorem bt_of {s : ByteArray} {i : Nat} (h : i < s.size) : (s[i].toNat : Int) = bt s i := by simp [bt, h]

theorem bt_bd (s : ByteArray) (i : Nat) : 0 ≤ bt s i ∧ bt s i < 256 := by
  unfold bt
  split
  · rename_i h
    have := s[i].toNat_lt
    omega
  · omega

def leV (s : ByteArray) : Int := bt s 0 + bt s 1 * 256 + bt s 2 * 65536 + bt s 3 * 16777216 + bt s 4 * 4294967296 + bt s 5 * 1099511627776 + bt s 6 * 281474976710656 + bt s 7 * 72057594037927936

/-- the word as the Go text reckons it -/
theorem join8 (b0 b1 b2 b3 b4 b5 b6 b7 : Int) (h0 : 0 ≤ b0 ∧ b0 < 256) (h1 : 0 ≤ b1 ∧ b1 < 256) (h2 : 0 ≤ b2 ∧ b2 < 256) (h3 : 0 ≤ b3 ∧ b3 < 256) (h4 : 0 ≤ b4 ∧ b4 < 256) (h5 : 0 ≤ b5 ∧ b5 < 256) (h6 : 0 ≤ b6 ∧ b6 < 256) (h7 : 0 ≤ b7 ∧ b7 < 256) :
    (bits BinOp.or IntKind.u64
              (bits BinOp.or IntKind.u64
                (bits BinOp.or IntKind.u64
                  (bits BinOp.or IntKind.u64
                    (bits BinOp.or IntKind.u64
                      (bits BinOp.or IntKind.u64
                        (bits BinOp.or IntKind.u64 (IntKind.u64.wrap b0)
                          (IntKind.u64.wrap (IntKind.u64.wrap b1 * 256)))
                        (IntKind.u64.wrap (IntKind.u64.wrap b2 * 65536)))
                      (IntKind.u64.wrap (IntKind.u64.wrap b3 * 16777216)))
                    (IntKind.u64.wrap (IntKind.u64.wrap b4 * 4294967296)))
                  (IntKind.u64.wrap (IntKind.u64.wrap b5 * 1099511627776)))
                (IntKind.u64.wrap (IntKind.u64.wrap b6 * 281474976710656)))
              (IntKind.u64.wrap (IntKind.u64.wrap b7 * 72057594037927936))) =
    b0 + b1 * 256 + b2 * 65536 + b3 * 16777216 + b4 * 4294967296 + b5 * 1099511627776 + b6 * 281474976710656 + b7 * 72057594037927936 := by
  simp (disch := omega) only [u64_wrap_id, u64_or8, u64_or16, u64_or24, u64_or32, u64_or40, u64_or48, u64_or56]

theorem ret_u64 {a b : Int} (h : a = b) : Ending.returned (.int .u64 a) = .returned (.int .u64 b) := by rw [h]

set_option maxRecDepth 100000 in
set_option maxHeartbeats 4000000 in
theorem le8 (s : ByteArray) (w : World) (hs : 8 ≤ s.size) (hm : s.size ≤ 2000000) :
    Calls Try.prog 8 #[.string s] w fun e w' => e = .returned (.int .u64 (leV s)) ∧ ∃ n, w' = w.drewN n := by
  have q0 : 0 < s.size := by omega
  have q1 : (1 : Int) < (s.size : Int) := by omega
  have q2 : (2 : Int) < (s.size : Int) := by omega
  have q3 : (3 : Int) < (s.size : Int) := by omega
  have q4 : (4 : Int) < (s.size : Int) := by omega
  have q5 : (5 : Int) < (s.size : Int) := by omega
  have q6 : (6 : Int) < (s.size : Int) := by omega
  have q7 : (7 : Int) < (s.size : Int) := by omega
  go_enter Try.func8, Try.ntmps8
  go_wp2
  go_quiet (fail)
  go_wp2
  go_ret
  refine ⟨ret_u64 ?_, nq, rfl⟩
  rw [bt_of (s := s) (i := 0) (by omega), bt_of (s := s) (i := 1) (by omega), bt_of (s := s) (i := 2) (by omega), bt_of (s := s) (i := 3) (by omega), bt_of (s := s) (i := 4) (by omega), bt_of (s := s) (i := 5) (by omega), bt_of (s := s) (i := 6) (by omega), bt_of (s := s) (i := 7) (by omega)]
  exact join8 _ _ _ _ _ _ _ _ (bt_bd s 0) (bt_bd s 1) (bt_bd s 2) (bt_bd s 3) (bt_bd s 4) (bt_bd s 5) (bt_bd s 6) (bt_bd s 7)

theorem le6 (s : ByteArray) (w : World) (hs : 8 ≤ s.size) (hm : s.size ≤ 2000000) :
    Calls Try.prog 6 #[.string s] w fun e w' => e = .returned (.int .u64 (leV s)) ∧ ∃ n, w' = w.drewN n := by
  go_enter Try.func6, Try.ntmps6
  go_wp2_with fail
  refine (le8 s _ hs hm).mono ?_
  rintro e w1 ⟨rfl, n, rfl⟩
  go_wp2
  go_ret
  exact ⟨rfl, n, rfl⟩
end Go.Proofs.Qxb6608630a
