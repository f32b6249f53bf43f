/-
  THE WALK OF FnInterleavingAcceptsAtAnyCut (f5), and of zzAnyTrue (f15).
-/
import Derived.Test.Qxb6608610aPutWalk
namespace Go.Proofs.Qxb6608610a
open Go.RowKit
set_option linter.unusedSimpArgs false
set_option linter.unusedVariables false

theorem bytes13 (a : Option Addr) (n c : Nat) (hp pr : Bool) (msg cut : Int) (w : World) (hn : n ≤ 65536) :
    Calls Try.prog 13 #[.slice a n c, .bool hp, .bool pr, .int .i64 msg, .int .i64 cut] w fun e w' => e = .returned (.bool true) ∧ w' = w := by
  go_enter Try.func13, Try.ntmps13
  go_wp2
  go_ret
  exact ⟨rfl, rfl⟩

set_option maxRecDepth 100000 in
theorem any15 (oe : Option Addr) (ea : Addr) (n ce : Nat) (T : Nat → Bool) (w : World) (hn : n ≤ 100000) (hT : BoolsAt w oe ea n T) :
    Calls Try.prog 15 #[.slice oe n ce] w fun e w' => e = .returned (.bool (anyB T n)) ∧ w' = w := by
  go_enter Try.func15, Try.ntmps15
  go_wp2
  go_loop [3] (fun i => ∃ k : Nat, k ≤ n ∧ i = .int .i64 k ∧ anyB T k = false) (fun i => n - (intOf i).toNat)
  case atStart => exact ⟨0, Nat.zero_le _, rfl, rfl⟩
  case round =>
    obtain ⟨k, hk, rfl, hany⟩ := hrel
    by_cases hlt : k < n
    · have hx := ix40 ea oe n ce k hlt (hT.some (by omega)).1
      have hc := hT.cell k hlt
      cases hTk : T k with
      | true =>
        have hend := anyB_true hTk n hlt
        rw [hTk] at hc
        go_wp2
        go_ret
        exact ⟨by simp [hend], rfl⟩
      | false =>
        have HN : Hid (anyB T (k + 1) = false) := by show (anyB T k || T k) = false; rw [hany, hTk]; rfl
        rw [hTk] at hc
        go_wp2
        go_round
        case rel => exact ⟨k + 1, by omega, by go_num, HN.out⟩
        case measure => simp [intOf]; omega
    · obtain rfl : k = n := by omega
      clear hlt
      go_wp2
      go_ret
      exact ⟨by simp [hany], rfl⟩

theorem BoolsAt.front {w : World} {oe : Option Addr} {ea : Addr} {n : Nat} {T : Nat → Bool} (h : BoolsAt w oe ea n T) {c : Nat} (hc : c ≤ n) : BoolsAt w oe ea c T :=
  ⟨fun hp => h.some (by omega), fun i hi => h.cell i (by omega)⟩

theorem BoolsAt.congr0 {w : World} {oe : Option Addr} {ea : Addr} {T P : Nat → Bool} (h : BoolsAt w oe ea 0 T) : BoolsAt w oe ea 0 P :=
  ⟨h.some, fun i hi => absurd hi (Nat.not_lt_zero _)⟩

theorem Row.back {w : World} {b m : Nat} {P : Nat → Bool} (h : Row w b m P) (c : Nat) : BoolsAt w (some ⟨b, c, none⟩) ⟨b, c, none⟩ (m - c) (fun j => P (c + j)) :=
  ⟨fun _ => ⟨rfl, lt_of_block h⟩, fun i hi => by
    have e : (⟨b, c, none⟩ : Addr).add i = ⟨b, c + i, none⟩ := by unfold Addr.add; split <;> simp_all
    rw [e]
    exact h.cell (by omega)⟩

theorem anyB_split (T : Nat → Bool) (c : Nat) : ∀ m, anyB T (c + m) = (anyB T c || anyB (fun j => T (c + j)) m)
  | 0 => by simp [anyB]
  | m + 1 => by
    show (anyB T (c + m) || T (c + m)) = (anyB T c || (anyB (fun j => T (c + j)) m || T (c + m)))
    rw [anyB_split T c m, Bool.or_assoc]

/-- the three answers and the law's own reckoning come together -/
theorem cut_law (T : Nat → Bool) (n c : Nat) (hcn : c ≤ n) (p : Bool) : (anyB T n || p) = (anyB T c || (anyB (fun j => T (c + j)) (n - c) || p)) := by
  have := anyB_split T c (n - c)
  rw [show c + (n - c) = n by omega] at this
  rw [this, Bool.or_assoc]

set_option maxRecDepth 100000 in
set_option maxHeartbeats 1000000 in
theorem walk5_some (ad : Addr) (n ce : Nat) (T : Nat → Bool) (hp pr : Bool) (msg : Int) (c : Nat) (w : World) (hn : n ≤ 65536) (hcn : c ≤ n) (hT : BoolsAt w (some ad) ad n T) :
    Calls Try.prog 5 #[.slice (some ad) n ce, .bool hp, .bool pr, .int .i64 msg, .int .i64 c] w fun e w' => e = .returned (.bool true) ∧ Below w.heap.size w w' := by
  have hq := neq40
  obtain ⟨W2, hcp, hrow, hbel, hsz2⟩ := copy40 w ad n ce T hT
  have hmk := make40 n (by omega)
  by_cases hlt : c < n
  · go_enter Try.func5, Try.ntmps5
    go_wp2_with fail
    refine (bytes13 _ n ce hp pr msg _ _ hn).mono ?_
    rintro e w' ⟨rfl, rfl⟩
    rename World => w
    go_wp2_with fail
    refine (accepts14 _ _ n n T hp pr msg _ (by omega) hrow.bools).mono ?_
    rintro e w3 ⟨rfl, hb3⟩
    have hrow3 := hrow.below hb3
    go_wp2_with fail
    refine (accepts14 _ _ c n T false false msg _ (by omega) (hrow3.bools.front hcn)).mono ?_
    rintro e w4 ⟨rfl, hb4⟩
    have hrow4 := hrow3.below hb4
    simp only [Bool.false_and, Bool.or_false]
    go_wp2_with fail
    refine (accepts14 _ _ (n - c) (n - c) _ hp pr msg _ (by omega) (hrow4.back c)).mono ?_
    rintro e w5 ⟨rfl, hb5⟩
    have hrow5 := hrow4.below hb5
    go_wp2_with fail
    refine (any15 _ _ n n T _ (by omega) hrow5.bools).mono ?_
    rintro e w6 ⟨rfl, rfl⟩
    have hfin : Below w.heap.size w w6 := ((hbel.trans (hb3.mono hbel.size)).trans (hb4.mono (Nat.le_trans hbel.size hb3.size))).trans (hb5.mono (Nat.le_trans hbel.size (Nat.le_trans hb3.size hb4.size)))
    have hlaw : anyB T n = (anyB T c || anyB (fun j => T (c + j)) (n - c)) := by simpa using cut_law T n c hcn false
    rw [hlaw]
    clear hlaw
    generalize anyB T c = x
    generalize anyB (fun j => T (c + j)) (n - c) = y
    cases x <;> cases y <;> cases hp <;> cases pr <;> (go_wp2; go_ret; exact ⟨rfl, hfin⟩)
  · obtain rfl : c = n := by omega
    go_enter Try.func5, Try.ntmps5
    go_wp2_with fail
    refine (bytes13 _ c ce hp pr msg _ _ hn).mono ?_
    rintro e w' ⟨rfl, rfl⟩
    rename World => w
    go_wp2_with fail
    refine (accepts14 _ _ c c T hp pr msg _ (by omega) hrow.bools).mono ?_
    rintro e w3 ⟨rfl, hb3⟩
    have hrow3 := hrow.below hb3
    go_wp2_with fail
    refine (accepts14 _ _ c c T false false msg _ (by omega) (hrow3.bools.front hcn)).mono ?_
    rintro e w4 ⟨rfl, hb4⟩
    have hrow4 := hrow3.below hb4
    simp only [Bool.false_and, Bool.or_false]
    go_wp2_with fail
    refine (accepts14 _ _ 0 0 (fun _ => false) hp pr msg _ (by omega) (hrow4.bools.front (Nat.zero_le _) |>.congr0)).mono ?_
    rintro e w5 ⟨rfl, hb5⟩
    have hrow5 := hrow4.below hb5
    go_wp2_with fail
    refine (any15 _ _ c c T _ (by omega) hrow5.bools).mono ?_
    rintro e w6 ⟨rfl, rfl⟩
    have hfin : Below w.heap.size w w6 := ((hbel.trans (hb3.mono hbel.size)).trans (hb4.mono (Nat.le_trans hbel.size hb3.size))).trans (hb5.mono (Nat.le_trans hbel.size (Nat.le_trans hb3.size hb4.size)))
    have hlaw : anyB T c = anyB T c := by rfl
    clear hlaw
    have e0 : anyB (fun _ => false) 0 = false := rfl
    rw [e0]
    clear e0
    generalize anyB T c = x
    cases x <;> cases hp <;> cases pr <;> (go_wp2; go_ret; exact ⟨rfl, hfin⟩)
set_option maxRecDepth 100000 in
set_option maxHeartbeats 1000000 in
theorem walk5_nil (hp pr : Bool) (msg : Int) (w : World) :
    Calls Try.prog 5 #[.slice none 0 0, .bool hp, .bool pr, .int .i64 msg, .int .i64 0] w fun e w' => e = .returned (.bool true) ∧ Below w.heap.size w w' := by
  have hq := neq40
  have hb0 : BoolsAt w none ⟨0, 0, none⟩ 0 (fun _ => false) := ⟨fun h => absurd h (Nat.lt_irrefl _), fun i hi => absurd hi (Nat.not_lt_zero _)⟩
  have e0 : anyB (fun _ => false) 0 = false := rfl
  go_enter Try.func5, Try.ntmps5
  go_wp2_with fail
  refine (bytes13 _ 0 0 hp pr msg _ _ (by omega)).mono ?_
  rintro e w' ⟨rfl, rfl⟩
  rename World => w
  go_wp2_with fail
  refine (accepts14 none ⟨0, 0, none⟩ 0 0 (fun _ => false) hp pr msg _ (by omega) hb0).mono ?_
  rintro e w3 ⟨rfl, hb3⟩
  have hb03 := hb0.below hb3
  go_wp2_with fail
  refine (accepts14 none ⟨0, 0, none⟩ 0 0 (fun _ => false) false false msg _ (by omega) hb03).mono ?_
  rintro e w4 ⟨rfl, hb4⟩
  have hb04 := hb03.below hb4
  simp only [Bool.false_and, Bool.or_false]
  go_wp2_with fail
  refine (accepts14 none ⟨0, 0, none⟩ 0 0 (fun _ => false) hp pr msg _ (by omega) hb04).mono ?_
  rintro e w5 ⟨rfl, hb5⟩
  have hb05 := hb04.below hb5
  go_wp2_with fail
  refine (any15 none ⟨0, 0, none⟩ 0 0 (fun _ => false) _ (by omega) hb05).mono ?_
  rintro e w6 ⟨rfl, rfl⟩
  have hfin : Below w.heap.size w w6 := (hb3.trans (hb4.mono hb3.size)).trans (hb5.mono (Nat.le_trans hb3.size hb4.size))
  rw [e0]
  clear e0
  cases hp <;> cases pr <;> (go_wp2; go_ret; exact ⟨rfl, hfin⟩)

/-- over the law's own bounds the answer is 'true' at once -/
theorem walk5_long (a : Option Addr) (n ce : Nat) (hp pr : Bool) (msg : Int) (p : Int) (w : World) (hn : n ≤ maxLen) (h : 65536 < n ∨ p < 0 ∨ (n : Int) < p) :
    Calls Try.prog 5 #[.slice a n ce, .bool hp, .bool pr, .int .i64 msg, .int .i64 p] w fun e w' => e = .returned (.bool true) ∧ Below w.heap.size w w' := by
  unfold maxLen at hn
  by_cases h1 : 65536 < n
  · clear h
    go_enter Try.func5, Try.ntmps5
    go_wp2
    all_goals
      go_ret
      exact ⟨rfl, Below.refl _ _⟩
  · by_cases h2 : p < 0
    · clear h
      go_enter Try.func5, Try.ntmps5
      go_wp2
      go_ret
      exact ⟨rfl, Below.refl _ _⟩
    · have h3 : (n : Int) < p := by omega
      clear h
      go_enter Try.func5, Try.ntmps5
      go_wp2
      go_ret
      exact ⟨rfl, Below.refl _ _⟩

end Go.Proofs.Qxb6608610a
