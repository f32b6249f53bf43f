/-
  waitsFor (f46).
-/
import Derived.Test.Qxb6608630aDoorBuild
import Derived.Deep.QuietTactic
import Derived.BigQuiet
namespace Go.Proofs.Qxb6608630aDoor
open Go.RowKit
set_option linter.unusedSimpArgs false
set_option linter.unusedVariables false

theorem size92 : (Tryd.prog.info? 92).map (fun i => i.size == 0) = some false := by kernel_rfl
theorem size64 : (Tryd.prog.info? 64).map (fun i => i.size == 0) = some false := by kernel_rfl

theorem neqTx_same (t : Nat) (w : World) : (binOp .neq 36 (.pointer (some ⟨t, 0, none⟩)) (.pointer (some ⟨t, 0, none⟩))).run Tryd.prog w = .ok (.bool false) w := by
  obtain ⟨j, hj, _⟩ := Option.map_eq_some_iff.1 size92
  exact Lib.run_neq_ptr_same w _ Tryd.underlying36 hj

theorem neqTx_other {t u : Nat} {w : World} (hne : t ≠ u) (ht : IsTx w t) (hu : IsTx w u) : (binOp .neq 36 (.pointer (some ⟨t, 0, none⟩)) (.pointer (some ⟨u, 0, none⟩))).run Tryd.prog w = .ok (.bool true) w := by
  obtain ⟨j, hj, hs⟩ := Option.map_eq_some_iff.1 size92
  obtain ⟨c1, h1⟩ := ht
  obtain ⟨c2, h2⟩ := hu
  exact run_neq_ptr_other w Tryd.underlying36 hj (by simpa using hs) (by simp [hne]) h1 h2

theorem IsReq.c0 {w : World} {b t m : Nat} (h : IsReq w b t m) : w.cell? ⟨b, 0, none⟩ = some (.pointer (some ⟨t, 0, none⟩)) := by
  have h' : w.heap[b]? = some (.cells (reqCells t m) 64 (0, 0)) := h
  simp [World.cell?, h', reqCells]
theorem IsReq.c2 {w : World} {b t m : Nat} (h : IsReq w b t m) : w.cell? ⟨b, 2, none⟩ = some (.int .u8 m) := by
  have h' : w.heap[b]? = some (.cells (reqCells t m) 64 (0, 0)) := h
  simp [World.cell?, h', reqCells]

def waits (tr mr to' mo : Nat) : Bool := !(to' == tr) && !prt mo mr

set_option maxHeartbeats 1000000 in
theorem waits46 (rb b tr mr to' mo : Nat) (w : World) (hr : IsReq w rb tr mr) (ho : IsReq w b to' mo) (hTr : IsTx w tr) (hTo : IsTx w to') (hmo : mo < 10) (hmr : mr < 256) (hT : TabAt w) :
    Calls Tryd.prog 46 #[.pointer (some ⟨rb, 0, none⟩), .pointer (some ⟨b, 0, none⟩)] w fun e w' => e = .returned (.bool (waits tr mr to' mo)) ∧ ∃ n, w' = w.drewN n := by
  have r0 := hr.c0
  have r2 := hr.c2
  have o0 := ho.c0
  have o2 := ho.c2
  by_cases he : to' = tr
  · subst he
    have hw : waits to' mr to' mo = false := by simp [waits]
    have hq := neqTx_same to'
    rw [hw]
    clear hw
    go_enter Tryd.func46, Tryd.ntmps46
    go_wp2_with fail
    go_quiet (fail)
    go_wp2
    go_ret
    exact ⟨rfl, nq, rfl⟩
  · have HW : Hid (waits tr mr to' mo = !prt mo mr) := by
      have : (to' == tr) = false := by simpa using he
      show (!(to' == tr) && !prt mo mr) = _
      rw [this]; rfl
    have hq : ∀ n, (binOp .neq 36 (.pointer (some ⟨to', 0, none⟩)) (.pointer (some ⟨tr, 0, none⟩))).run Tryd.prog (w.drewN n) = .ok (.bool true) (w.drewN n) := fun n => neqTx_other (w := w.drewN n) he hTo hTr
    go_enter Tryd.func46, Tryd.ntmps46
    go_wp2_with fail
    go_quiet ((go_at_call 30; exact Calls.quiet_of_same (comp30 mo mr _ hmo hmr hT)))
    go_wp2
    go_ret
    exact ⟨by rw [HW.out]; rfl, nq, rfl⟩
end Go.Proofs.Qxb6608630aDoor
