/-
  What the listed variable gives the walks; slices of requests opened.
-/
import Derived.Test.Qxb6608630aDoorSame
import Derived.Test.Qxb6608630aDoorTie
import Derived.Test.Qxb6608630aDoorCards
import Derived.ProofKit
import Derived.LaidMore
import Derived.OpenShut
import Derived.OpenVars
import Derived.Stop.Joined
import Derived.ShutString
import Derived.ChangeOld
import Derived.Below
import Derived.Deep.Slices
import Derived.Deep.Strs
namespace Go.Proofs.Qxb6608630aDoor
open Go.ChangeShapes Go.WideShapes Go.ChangeAt Go.RowKit
set_option linter.unusedVariables false
set_option linter.unusedSimpArgs false

theorem own : ownKnob Tryd.prog.godebug = none := by kernel_rfl
theorem laidOut : laidOutB Tryd.prog = true := by kernel_rfl
/-- the listed variable's name, as the given row has it -/
abbrev nm : String := Rows.fnConflictingSameAtAnyCutSpec.vars.headD ""
theorem gRules : Tryd.prog.globalNamed nm = some 0 := by kernel_rfl
def lst : List (String × DataW Unit) := [(nm, Rows.laid_example_com_latchwork_latchwork_modeRules)]

/-- The door's own heap meets the condition. -/
theorem door_met (os : Os) (args : Array Value) : laidMetH Tryd.prog lst ((World.doorLaid Tryd.prog 2345 os).forCall (fun _ _ => 0) ⟨#[], args, []⟩).memory :=
  laidMetH_of_parts3 (fuel := 8) (laidMet_of_run' 8 (by kernel_rfl) (by kernel_rfl)) (by kernel_rfl) (by kernel_rfl)

theorem tRules : (Tryd.prog.globals[0]?).map (·.type) = some 74 := by kernel_rfl
theorem cells73 : Tryd.prog.cellsOf 73 = 4 := by kernel_rfl
theorem cells70 : Tryd.prog.cellsOf 70 = 1 := by kernel_rfl
theorem cells43 : Tryd.prog.cellsOf 43 = 3 := by kernel_rfl
theorem cells5 : Tryd.prog.cellsOf 5 = 1 := by kernel_rfl
theorem cells4 : Tryd.prog.cellsOf 4 = 1 := by kernel_rfl

set_option maxRecDepth 100000 in
/-- WHAT THE CONDITION GIVES THE WALKS: the table of compatible modes. -/
theorem of_laid {W : World} (h : laidMetH Tryd.prog lst W) : TabAt W := by
  rw [MakeChecks.laidMetH_plain _ _ _ (by kernel_rfl)] at h
  obtain ⟨ps, ⟨g0, t0, cs0, f0, p0, q0, hg0, ht0, hv0, hd0, _, _⟩, _, _⟩ := h
  obtain rfl := Option.some.inj (gRules.symm.trans hg0)
  obtain rfl := Option.some.inj (tRules.symm.trans ht0)
  obtain ⟨xs, m1, rfl, hx1, hlen, hn3, hel⟩ := DataW.trod_array Tryd.underlying74 hd0
  simp only [Prod.mk.injEq] at hx1
  have hx1' := hx1.1
  unfold Rows.laid_example_com_latchwork_latchwork_modeRules at hx1'
  simp only [DataW.agg.injEq] at hx1'
  intro i hi
  have hi1 := hel i hi
  rw [cells73] at hi1
  obtain ⟨y, hy⟩ : ∃ y, xs[i]? = some y := ⟨_, List.getElem?_eq_getElem (by omega)⟩
  rw [hy] at hi1
  obtain ⟨zs, m2, _, rfl, hl4, hzl, hf⟩ := DataW.trod_struct Tryd.underlying73 hi1
  have hz1 := hf 1 _ rfl
  obtain ⟨z1, hz1'⟩ : ∃ z, zs[1]? = some z := ⟨_, List.getElem?_eq_getElem (by rw [hzl]; decide)⟩
  rw [hz1'] at hz1
  obtain ⟨k, e1, e2, _⟩ := DataW.trod_int Tryd.underlying70 hz1
  have hk : k = tabv i := by
    have e3 : (xs.map (·.1))[i]? = some (.agg (zs.map (·.1))) := by simp [hy]
    rw [← hx1'] at e3
    have e4 : (zs.map (·.1))[1]? = some (.lit (.int .u16 k)) := by simp [hz1', e2]
    match i, hi with
    | 0, _ => simp at e3; rw [← e3] at e4; simp at e4; exact e4.symm
    | 1, _ => simp at e3; rw [← e3] at e4; simp at e4; exact e4.symm
    | 2, _ => simp at e3; rw [← e3] at e4; simp at e4; exact e4.symm
    | 3, _ => simp at e3; rw [← e3] at e4; simp at e4; exact e4.symm
    | 4, _ => simp at e3; rw [← e3] at e4; simp at e4; exact e4.symm
    | 5, _ => simp at e3; rw [← e3] at e4; simp at e4; exact e4.symm
    | 6, _ => simp at e3; rw [← e3] at e4; simp at e4; exact e4.symm
    | 7, _ => simp at e3; rw [← e3] at e4; simp at e4; exact e4.symm
    | 8, _ => simp at e3; rw [← e3] at e4; simp at e4; exact e4.symm
    | 9, _ => simp at e3; rw [← e3] at e4; simp at e4; exact e4.symm
  subst hk
  have hv := World.var?_cell hg0 hv0 (i * 4 + 1)
  rw [hv]
  have e1' : List.take (Tryd.prog.cellsOf 70) (List.drop 1 (List.take 4 (List.drop (i * 4) cs0.toList))) = [.int .u16 (tabv i)] := e1
  rw [cells70] at e1'
  have e5 := congrArg (fun l => l[0]?) e1'
  simpa [List.getElem?_take, List.getElem?_drop] using e5

theorem list3 {cs : List Value} (h : cs.length = 3) : ∃ a b c, cs = [a, b, c] := by
  match cs, h with
  | [a, b, c], _ => exact ⟨a, b, c, rfl⟩

set_option maxRecDepth 100000 in
/-- a slice of requests, opened -/
theorem open_reqs {H : Type} {enc : TypeId × Value → H} {W : World} {oe : Option Addr} {n ce : Nat} {d : DataW H} {p : List MemPlace}
    (h : DataW.Trod enc Tryd.prog W 0 (fun _ => true) true 32 (.slice oe n ce) d p) : ∃ a T M N, ReqsAt W oe a n T M N ∧ n ≤ maxLen := by
  obtain ⟨fuel, hf⟩ := h
  rcases Deep.open_slice Tryd.underlying32 hf with ⟨hcs, _⟩ | ⟨a, len, cap, m, k, D, Pl, hcs, _, hl, hm, hmm, _, hx⟩
  · simp [Value.cells] at hcs
    obtain ⟨rfl, rfl, rfl⟩ := hcs
    exact ⟨⟨0, 0, none⟩, fun _ => 0, fun _ => 0, fun _ => false, ⟨fun h => by omega, fun i hi => by omega, fun i hi => by omega, fun i hi => by omega, fun i hi => by omega, fun i hi => by omega⟩, Nat.zero_le _⟩
  · simp [Value.cells] at hcs
    obtain ⟨rfl, rfl, rfl⟩ := hcs
    simp only [if_true] at hmm
    subst hmm
    have each : ∀ i, i < n → ∃ q : Nat × Nat × Bool, (W.cell? (a.add (i * 3)) = some (.int .u8 q.1) ∧ W.cell? ⟨(a.add (i * 3)).block, (a.add (i * 3)).off + 1, none⟩ = some (.int .u8 q.2.1) ∧ W.cell? ⟨(a.add (i * 3)).block, (a.add (i * 3)).off + 2, none⟩ = some (.bool q.2.2)) ∧ q.1 < 256 ∧ q.2.1 < 256 := by
      intro i hi
      obtain ⟨cs', c0, t0⟩ := hx i (by omega)
      rw [cells43] at c0
      obtain ⟨_, hlen, hcell⟩ := World.cells?_some c0
      obtain ⟨y0, y1, y2, k2, _, _, s0, s1, s2⟩ := Deep.trod_struct3 Tryd.underlying43 t0
      obtain ⟨v0, v1, v2, rfl⟩ := list3 hlen
      simp [cells5, cells4] at s0 s1 s2
      obtain ⟨x0, e0, _, w0⟩ := DataW.trod_int Tryd.underlying5 s0
      obtain ⟨x1, e1, _, w1⟩ := DataW.trod_int Tryd.underlying5 s1
      obtain ⟨x2, e2, _⟩ := DataW.trod_bool Tryd.underlying4 s2
      simp only [List.cons.injEq, and_true] at e0 e1 e2
      subst e0 e1 e2
      have b0 : 0 ≤ x0 ∧ x0 < 256 := by
        have h : IntKind.u8.min ≤ x0 ∧ x0 ≤ IntKind.u8.max := by simpa [Lit.wf] using w0
        have e1 : IntKind.u8.min = 0 := rfl
        have e2 : IntKind.u8.max = 255 := rfl
        omega
      have b1 : 0 ≤ x1 ∧ x1 < 256 := by
        have h : IntKind.u8.min ≤ x1 ∧ x1 ≤ IntKind.u8.max := by simpa [Lit.wf] using w1
        have e1 : IntKind.u8.min = 0 := rfl
        have e2 : IntKind.u8.max = 255 := rfl
        omega
      obtain ⟨k0, rfl⟩ := Int.eq_ofNat_of_zero_le b0.1
      obtain ⟨k1, rfl⟩ := Int.eq_ofNat_of_zero_le b1.1
      have h0 := hcell 0 (by decide)
      have h1 := hcell 1 (by decide)
      have h2 := hcell 2 (by decide)
      simp [Addr.add] at h0
      refine ⟨(k0, k1, x2), ⟨?_, ?_, ?_⟩, by show k0 < 256; omega, by show k1 < 256; omega⟩
      · simpa [Addr.add] using hcell 0 (by decide)
      · simpa [Addr.add] using h1
      · simpa [Addr.add] using h2
    obtain ⟨Q, hQ⟩ := Deep.choose_lt each
    refine ⟨a, fun i => (Q i).1, fun i => (Q i).2.1, fun i => (Q i).2.2, ⟨fun hp => ⟨rfl, ?_⟩, fun i hi => (hQ i hi).1.1, fun i hi => (hQ i hi).1.2.1, fun i hi => (hQ i hi).1.2.2, fun i hi => (hQ i hi).2.1, fun i hi => (hQ i hi).2.2⟩, by omega⟩
    have := World.block_lt_of_cell? _ _ (hQ 0 hp).1.1
    rwa [add_blk] at this
end Go.Proofs.Qxb6608630aDoor
