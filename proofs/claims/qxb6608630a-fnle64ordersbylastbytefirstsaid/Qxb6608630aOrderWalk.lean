/-
  THE WALK OF FnLe64OrdersByLastByteFirst (f3).
-/
import Derived.Test.Qxb6608630aLe
namespace Go.Proofs.Qxb6608630a
open Go.RowKit
set_option linter.unusedSimpArgs false
set_option linter.unusedVariables false

theorem bytes5 (a b : ByteArray) (w : World) (ha : a.size ≤ 524288) (hb : b.size ≤ 524288) :
    Calls Try.prog 5 #[.string a, .string b] w fun e w' => e = .returned (.bool true) ∧ w' = w := by
  go_enter Try.func5, Try.ntmps5
  go_wp2
  go_ret
  exact ⟨rfl, rfl⟩

/-- the higher bytes are the same, and byte m is less: the word is less -/
theorem leV_lt (a b : ByteArray) (m : Nat) (hm : m ≤ 7) (h : ∀ j, m < j → j ≤ 7 → bt a j = bt b j) (hlt : bt a m < bt b m) : leV a < leV b := by
  have a0 := bt_bd a 0
  have a1 := bt_bd a 1
  have a2 := bt_bd a 2
  have a3 := bt_bd a 3
  have a4 := bt_bd a 4
  have a5 := bt_bd a 5
  have a6 := bt_bd a 6
  have b0 := bt_bd b 0
  have b1 := bt_bd b 1
  have b2 := bt_bd b 2
  have b3 := bt_bd b 3
  have b4 := bt_bd b 4
  have b5 := bt_bd b 5
  have b6 := bt_bd b 6
  unfold leV
  have e1 : m < 1 → bt a 1 = bt b 1 := fun h' => h 1 h' (by omega)
  have e2 : m < 2 → bt a 2 = bt b 2 := fun h' => h 2 h' (by omega)
  have e3 : m < 3 → bt a 3 = bt b 3 := fun h' => h 3 h' (by omega)
  have e4 : m < 4 → bt a 4 = bt b 4 := fun h' => h 4 h' (by omega)
  have e5 : m < 5 → bt a 5 = bt b 5 := fun h' => h 5 h' (by omega)
  have e6 : m < 6 → bt a 6 = bt b 6 := fun h' => h 6 h' (by omega)
  have e7 : m < 7 → bt a 7 = bt b 7 := fun h' => h 7 h' (by omega)
  clear h
  match m, hm with
  | 0, _ => omega
  | 1, _ => omega
  | 2, _ => omega
  | 3, _ => omega
  | 4, _ => omega
  | 5, _ => omega
  | 6, _ => omega
  | 7, _ => omega

theorem leV_eq (a b : ByteArray) (h : ∀ j, j ≤ 7 → bt a j = bt b j) : leV a = leV b := by
  unfold leV
  rw [h 0 (by omega), h 1 (by omega), h 2 (by omega), h 3 (by omega), h 4 (by omega), h 5 (by omega), h 6 (by omega), h 7 (by omega)]

set_option maxRecDepth 100000 in
set_option maxHeartbeats 4000000 in
theorem walk3 (a b : ByteArray) (w : World) (ha : a.size ≤ 524288) (hb : b.size ≤ 524288) (ha8 : 8 ≤ a.size) (hb8 : 8 ≤ b.size) :
    Calls Try.prog 3 #[.string a, .string b] w fun e w' => e = .returned (.bool true) ∧ Grown w w' := by
  go_enter Try.func3, Try.ntmps3
  go_wp2_with fail
  refine (bytes5 a b _ ha hb).mono ?_
  rintro e w' ⟨rfl, rfl⟩
  rename World => w
  go_wp2_with fail
  refine (le6 a _ ha8 (by omega)).mono ?_
  rintro e w1 ⟨rfl, n1, rfl⟩
  go_wp2_with fail
  refine (le6 b _ hb8 (by omega)).mono ?_
  rintro e w2 ⟨rfl, n2, rfl⟩
  go_wp2_with fail
  go_loopw [7, 8] (fun t i wr => t = .int .i64 0 ∧ Grown w wr ∧ ((∃ m : Nat, m ≤ 7 ∧ i = .int .i64 m ∧ ∀ j, m < j → j ≤ 7 → bt a j = bt b j) ∨ (i = .int .i64 (-1) ∧ ∀ j, j ≤ 7 → bt a j = bt b j)))
    (fun _ i _ => (intOf i + 1).toNat)
  case atStart => exact ⟨rfl, Grown.refl _, Or.inl ⟨7, Nat.le_refl _, rfl, fun j h1 h2 => by omega⟩⟩
  case round =>
    obtain ⟨rfl, hg, ⟨m, hm, rfl, heq⟩ | ⟨rfl, heq⟩⟩ := hrel
    · have qa : m < a.size := by omega
      have qb : m < b.size := by omega
      have qa' : (m : Int) < (a.size : Int) := by omega
      have qb' : (m : Int) < (b.size : Int) := by omega
      have ea : (a[m].toNat : Int) = bt a m := bt_of qa
      have eb : (b[m].toNat : Int) = bt b m := bt_of qb
      have HEA := ea
      have HEB := eb
      rcases Int.lt_trichotomy (bt a m) (bt b m) with hc | hc | hc
      · have hv := leV_lt a b m hm heq hc
        have t1 : ((a[m].toNat : Int) != (b[m].toNat : Int)) = true := by rw [ea, eb, bne_iff_ne]; omega
        have t2 : (a[m].toNat : Int) < (b[m].toNat : Int) := by rw [ea, eb]; exact hc
        have hv2 : ¬ leV b < leV a := by omega
        clear ea eb HEA HEB
        go_wp2_with fail
        go_quiet (fail)
        go_wp2_with fail
        go_quiet (fail)
        go_wp2_with fail
        go_ret
        exact ⟨rfl, hg⟩
      · have t1 : ((a[m].toNat : Int) != (b[m].toNat : Int)) = false := by rw [ea, eb, bne_eq_false_iff_eq]; exact hc
        clear ea eb HEA HEB
        go_wp2_with fail
        go_quiet (fail)
        go_wp2_with fail
        go_roundw
        case rel =>
          refine ⟨rfl, hg, ?_⟩
          cases m with
          | zero => exact Or.inr ⟨by go_num, fun j hj => by
              by_cases h0 : j = 0
              · subst h0; exact hc
              · exact heq j (by omega) hj⟩
          | succ m => exact Or.inl ⟨m, by omega, by go_num, fun j h1 h2 => by
              by_cases h0 : j = m + 1
              · subst h0; exact hc
              · exact heq j (by omega) h2⟩
        case measure => simp [intOf]
      · have hv := leV_lt b a m hm (fun j h1 h2 => (heq j h1 h2).symm) hc
        have t1 : ((a[m].toNat : Int) != (b[m].toNat : Int)) = true := by rw [ea, eb, bne_iff_ne]; omega
        have t2 : ¬ (a[m].toNat : Int) < (b[m].toNat : Int) := by rw [ea, eb]; omega
        have hv2 : ¬ leV a < leV b := by omega
        clear ea eb HEA HEB
        go_wp2_with fail
        go_quiet (fail)
        go_wp2_with fail
        go_quiet (fail)
        go_wp2_with fail
        go_ret
        exact ⟨rfl, hg⟩
    · have hv := leV_eq a b heq
      go_wp2_with fail
      go_ret
      exact ⟨rfl, hg⟩

/-- outside the law's own bounds the answer is 'true' at once -/
theorem walk3_out (a b : ByteArray) (w : World) (ha : a.size ≤ maxLen) (hb : b.size ≤ maxLen) (h : 524288 < a.size ∨ 524288 < b.size ∨ a.size < 8 ∨ b.size < 8) :
    Calls Try.prog 3 #[.string a, .string b] w fun e w' => e = .returned (.bool true) ∧ Grown w w' := by
  unfold maxLen at ha hb
  by_cases h1 : 524288 < a.size
  · clear h
    go_enter Try.func3, Try.ntmps3
    go_wp2
    all_goals
      go_ret
      exact ⟨rfl, Grown.refl _⟩
  · by_cases h2 : 524288 < b.size
    · clear h
      go_enter Try.func3, Try.ntmps3
      go_wp2
      all_goals
        go_ret
        exact ⟨rfl, Grown.refl _⟩
    · by_cases h3 : a.size < 8
      · clear h
        go_enter Try.func3, Try.ntmps3
        go_wp2
        all_goals
          go_ret
          exact ⟨rfl, Grown.refl _⟩
      · have h4 : b.size < 8 := by omega
        clear h
        go_enter Try.func3, Try.ntmps3
        go_wp2
        all_goals
          go_ret
          exact ⟨rfl, Grown.refl _⟩
end Go.Proofs.Qxb6608630a
