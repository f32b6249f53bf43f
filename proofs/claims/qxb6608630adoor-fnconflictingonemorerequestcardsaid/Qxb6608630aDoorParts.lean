/-
  zzPartsCompatible (f10), zzConflicts (f29).
-/
import Derived.Test.Qxb6608630aDoorModes
namespace Go.Proofs.Qxb6608630aDoor
open Go.RowKit
set_option linter.unusedSimpArgs false
set_option linter.unusedVariables false

set_option maxHeartbeats 1000000 in
theorem parts10 (h r : Nat) (w : World) (hh : h < 10) (hr : r < 256) : Calls Tryd.prog 10 #[.int .u8 h, .int .u8 r] w fun e w' => e = .returned (.bool (prt h r)) ∧ w' = w := by
  by_cases h0 : h = 0
  · subst h0
    have e : prt 0 r = false := rfl
    rw [e]
    clear e
    go_enter Tryd.func10, Tryd.ntmps10
    go_wp2
    go_ret
    exact ⟨rfl, rfl⟩
  · by_cases r0 : r = 0
    · subst r0
      have e : prt h 0 = false := by simp [prt]
      have c0 : ((h : Int) == 0) = false := by simpa using h0
      rw [e]
      clear e
      go_enter Tryd.func10, Tryd.ntmps10
      go_wp2
      go_ret
      exact ⟨rfl, rfl⟩
    · by_cases r9 : 10 ≤ r
      · have e : prt h r = false := by simp [prt, r9]
        have c0 : ((h : Int) == 0) = false := by simpa using h0
        have c1 : ((r : Int) == 0) = false := by simpa using r0
        rw [e]
        clear e
        go_enter Tryd.func10, Tryd.ntmps10
        go_wp2
        go_ret
        exact ⟨rfl, rfl⟩
      · have hr10 : r < 10 := by omega
        have c0 : ((h : Int) == 0) = false := by simpa using h0
        have c1 : ((r : Int) == 0) = false := by simpa using r0
        have hk := keyV_lt h
        have kr := keyV_lt r
        have e : prt h r = (!(bits .and .u8 (scopeV h) (scopeV r) == 0) && agreeB (keyV h) (keyV r) && !(gapB h && r == 9)) := by
          have e1 : decide (10 ≤ h) = false := by simp; omega
          have e2 : decide (10 ≤ r) = false := by simp; omega
          have e3 : (h == 0) = false := by simpa using h0
          have e4 : (r == 0) = false := by simpa using r0
          unfold prt
          rw [e1, e2, e3, e4]
          rfl
        have HE : Hid (prt h r = (!(bits .and .u8 (scopeV h) (scopeV r) == 0) && agreeB (keyV h) (keyV r) && !(gapB h && r == 9))) := e
        clear e
        cases b1 : (bits .and .u8 (scopeV h) (scopeV r) == 0) with
        | true =>
          have e2 : prt h r = false := by rw [HE.out, b1]; rfl
          rw [e2]
          clear e2 HE
          go_enter Tryd.func10, Tryd.ntmps10
          go_wp2_with fail
          refine (scope31 h _ hh).mono ?_
          rintro e w' ⟨rfl, rfl⟩
          go_wp2_with fail
          refine (scope31 r _ hr10).mono ?_
          rintro e w' ⟨rfl, rfl⟩
          go_wp2_with fail
          go_ret
          exact ⟨rfl, rfl⟩
        | false =>
          cases b2 : agreeB (keyV h) (keyV r) with
          | false =>
            have e2 : prt h r = false := by rw [HE.out, b1, b2]; rfl
            rw [e2]
            clear e2 HE
            go_enter Tryd.func10, Tryd.ntmps10
            go_wp2_with fail
            refine (scope31 h _ hh).mono ?_
            rintro e w' ⟨rfl, rfl⟩
            go_wp2_with fail
            refine (scope31 r _ hr10).mono ?_
            rintro e w' ⟨rfl, rfl⟩
            go_wp2_with fail
            refine (key33 h _ hh).mono ?_
            rintro e w' ⟨rfl, rfl⟩
            go_wp2_with fail
            refine (key33 r _ hr10).mono ?_
            rintro e w' ⟨rfl, rfl⟩
            go_wp2_with fail
            refine (agree32 _ _ _ hk kr).mono ?_
            rintro e w' ⟨rfl, rfl⟩
            go_wp2_with fail
            go_ret
            exact ⟨rfl, rfl⟩
          | true =>
            cases b3 : gapB h with
            | false =>
              have e2 : prt h r = true := by rw [HE.out, b1, b2, b3]; rfl
              rw [e2]
              clear e2 HE
              go_enter Tryd.func10, Tryd.ntmps10
              go_wp2_with fail
              refine (scope31 h _ hh).mono ?_
              rintro e w' ⟨rfl, rfl⟩
              go_wp2_with fail
              refine (scope31 r _ hr10).mono ?_
              rintro e w' ⟨rfl, rfl⟩
              go_wp2_with fail
              refine (key33 h _ hh).mono ?_
              rintro e w' ⟨rfl, rfl⟩
              go_wp2_with fail
              refine (key33 r _ hr10).mono ?_
              rintro e w' ⟨rfl, rfl⟩
              go_wp2_with fail
              refine (agree32 _ _ _ hk kr).mono ?_
              rintro e w' ⟨rfl, rfl⟩
              go_wp2_with fail
              refine (gap34 h _ hh).mono ?_
              rintro e w' ⟨rfl, rfl⟩
              go_wp2_with fail
              go_ret
              exact ⟨rfl, rfl⟩
            | true =>
              by_cases r9' : r = 9
              · have e2 : prt h r = false := by rw [HE.out, b1, b2, b3, r9']; rfl
                have c9 : ((r : Int) == 9) = true := by simp; omega
                rw [e2]
                clear e2 HE r9'
                go_enter Tryd.func10, Tryd.ntmps10
                go_wp2_with fail
                refine (scope31 h _ hh).mono ?_
                rintro e w' ⟨rfl, rfl⟩
                go_wp2_with fail
                refine (scope31 r _ hr10).mono ?_
                rintro e w' ⟨rfl, rfl⟩
                go_wp2_with fail
                refine (key33 h _ hh).mono ?_
                rintro e w' ⟨rfl, rfl⟩
                go_wp2_with fail
                refine (key33 r _ hr10).mono ?_
                rintro e w' ⟨rfl, rfl⟩
                go_wp2_with fail
                refine (agree32 _ _ _ hk kr).mono ?_
                rintro e w' ⟨rfl, rfl⟩
                go_wp2_with fail
                refine (gap34 h _ hh).mono ?_
                rintro e w' ⟨rfl, rfl⟩
                go_wp2_with fail
                go_ret
                exact ⟨rfl, rfl⟩
              · have e2 : prt h r = true := by
                  have : (r == 9) = false := by simpa using r9'
                  rw [HE.out, b1, b2, b3, this]; rfl
                have c9 : ((r : Int) == 9) = false := by simp; omega
                rw [e2]
                clear e2 HE r9'
                go_enter Tryd.func10, Tryd.ntmps10
                go_wp2_with fail
                refine (scope31 h _ hh).mono ?_
                rintro e w' ⟨rfl, rfl⟩
                go_wp2_with fail
                refine (scope31 r _ hr10).mono ?_
                rintro e w' ⟨rfl, rfl⟩
                go_wp2_with fail
                refine (key33 h _ hh).mono ?_
                rintro e w' ⟨rfl, rfl⟩
                go_wp2_with fail
                refine (key33 r _ hr10).mono ?_
                rintro e w' ⟨rfl, rfl⟩
                go_wp2_with fail
                refine (agree32 _ _ _ hk kr).mono ?_
                rintro e w' ⟨rfl, rfl⟩
                go_wp2_with fail
                refine (gap34 h _ hh).mono ?_
                rintro e w' ⟨rfl, rfl⟩
                go_wp2_with fail
                go_ret
                exact ⟨rfl, rfl⟩

/-- zzConflicts: a request of plain data: its transaction, its mode, or nil -/
def cfl (t m : Nat) (nil : Bool) (rt rm : Nat) : Bool := !nil && !(t == rt) && !prt m rm

theorem conf29 (t m : Nat) (nil : Bool) (rt rm : Nat) (w : World) (ht : t < 256) (hm : m < 10) (hrt : rt < 256) (hrm : rm < 256) :
    Calls Tryd.prog 29 #[.agg #[.int .u8 t, .int .u8 m, .bool nil], .int .u8 rt, .int .u8 rm] w fun e w' => e = .returned (.bool (cfl t m nil rt rm)) ∧ w' = w.alloc (.cells #[.int .u8 t, .int .u8 m, .bool nil] 43) := by
  cases nil with
  | true =>
    have e : cfl t m true rt rm = false := rfl
    rw [e]
    clear e
    go_enter Tryd.func29, Tryd.ntmps29
    go_wp2
    go_ret
    exact ⟨rfl, rfl⟩
  | false =>
    by_cases h1 : t = rt
    · have e : cfl t m false rt rm = false := by simp [cfl, h1]
      have c1 : ((t : Int) != (rt : Int)) = false := by rw [bne_eq_false_iff_eq]; omega
      rw [e]
      clear e h1
      go_enter Tryd.func29, Tryd.ntmps29
      go_wp2
      go_ret
      exact ⟨rfl, rfl⟩
    · have HE : Hid (cfl t m false rt rm = !prt m rm) := by
        have : (t == rt) = false := by simpa using h1
        show (!false && !(t == rt) && !prt m rm) = _
        rw [this]; rfl
      have c1 : ((t : Int) != (rt : Int)) = true := by rw [bne_iff_ne]; omega
      clear h1
      go_enter Tryd.func29, Tryd.ntmps29
      go_wp2_with fail
      refine (parts10 m rm _ hm hrm).mono ?_
      rintro e w' ⟨rfl, rfl⟩
      go_wp2
      go_ret
      exact ⟨by rw [HE.out]; rfl, rfl⟩
end Go.Proofs.Qxb6608630aDoor
