/-
  'Rows.FnHoldsScriptCountsByModeSaid' PROVED. The frame is the guide's (howto/shells), the walk is Qxb6608610aHoldsWalk's 'walk4'.
-/
import Derived.Test.Qxb6608610aHoldsWalk
import Derived.ProofKit
import Derived.OpenShut
import Derived.ShutString
import Derived.ChangeOld
import Derived.Below
import Derived.Deep.SlicePairs
namespace Go.Proofs.Qxb6608610a
open Go.ChangeShapes Go.WideShapes Go.ChangeAt Go.RowKit
set_option linter.unusedVariables false
set_option linter.unusedSimpArgs false

theorem ownH : ownKnob Try.prog.godebug = none := by kernel_rfl
theorem laidOutH : laidOutB Try.prog = true := by kernel_rfl

/-- the entries, opened -/
theorem open_entriesH {H : Type} {enc : TypeId × Value → H} {W : World} {oe : Option Addr} {ne ce : Nat} {d : DataW H} {p : List MemPlace}
    (h : DataW.Trod enc Try.prog W 0 (fun _ => true) true 22 (.slice oe ne ce) d p) : ∃ ea K C, EntAt W oe ea ne ce K C ∧ ne ≤ maxLen := by
  obtain ⟨fuel, hf⟩ := h
  rcases Deep.open_slice_pairs Try.underlying22 Try.underlying31 (by kernel_rfl) rfl rfl (by kernel_rfl) (by kernel_rfl) hf with ⟨hcs, _⟩ | ⟨a, len, cap, m, n, V0, V1, D0, D1, P0, P1, hcs, _, hl, hm, hmm, _, hx⟩
  · simp [Value.cells] at hcs
    obtain ⟨rfl, rfl, rfl⟩ := hcs
    exact ⟨⟨0, 0, none⟩, fun _ => 0, fun _ => 0, ⟨fun h => absurd h (Nat.lt_irrefl _), fun _ => ⟨rfl, rfl⟩, fun i hi => absurd hi (Nat.not_lt_zero _), fun i hi => absurd hi (Nat.not_lt_zero _), fun i hi => absurd hi (Nat.not_lt_zero _), fun i hi => absurd hi (Nat.not_lt_zero _)⟩, by unfold maxLen; omega⟩
  · simp [Value.cells] at hcs
    obtain ⟨rfl, rfl, rfl⟩ := hcs
    simp only [if_true] at hmm
    subst hmm
    have each : ∀ i, i < ne → W.cell? (a.add (i * 2)) = some (.int .u64 (intOf (V0 i))) ∧ W.cell? (a.add (i * 2 + 1)) = some (.int .i64 (intOf (V1 i))) ∧ (Lit.int .u64 (intOf (V0 i))).wf = true ∧ (Lit.int .i64 (intOf (V1 i))).wf = true := by
      intro i hi
      obtain ⟨c0, c1, t0, t1⟩ := hx i (by omega)
      obtain ⟨x, e0, _, w0⟩ := DataW.trod_int Try.underlying27 t0
      obtain ⟨y, e1, _, w1⟩ := DataW.trod_int Try.underlying3 t1
      simp only [List.cons.injEq, and_true] at e0 e1
      rw [e0] at c0
      rw [e1] at c1
      rw [e0, e1]
      exact ⟨c0, c1, w0, w1⟩
    refine ⟨a, fun i => intOf (V0 i), fun i => intOf (V1 i), ⟨fun hp => ⟨rfl, ?_⟩, fun h => (by cases h), fun i hi => (each i hi).1, fun i hi => ?_, fun i hi => (each i hi).2.2.1, fun i hi => (each i hi).2.2.2⟩, by omega⟩
    · have := World.block_lt_of_cell? _ _ (each 0 hp).1
      rwa [add_block] at this
    · have := (each i hi).2.1
      rw [← Deep.add_add] at this
      exact this

/-- the script of steps, opened -/
theorem open_steps {H : Type} {enc : TypeId × Value → H} {W : World} {oe : Option Addr} {ne ce : Nat} {d : DataW H} {p : List MemPlace}
    (h : DataW.Trod enc Try.prog W 0 (fun _ => true) true 34 (.slice oe ne ce) d p) : ∃ ea M S, StpAt W oe ea ne M S ∧ ne ≤ maxLen := by
  obtain ⟨fuel, hf⟩ := h
  rcases Deep.open_slice_pairs Try.underlying34 Try.underlying38 (by kernel_rfl) rfl rfl (by kernel_rfl) (by kernel_rfl) hf with ⟨hcs, _⟩ | ⟨a, len, cap, m, n, V0, V1, D0, D1, P0, P1, hcs, _, hl, hm, hmm, _, hx⟩
  · simp [Value.cells] at hcs
    obtain ⟨rfl, rfl, rfl⟩ := hcs
    exact ⟨⟨0, 0, none⟩, fun _ => 0, fun _ => 0, ⟨fun h => absurd h (Nat.lt_irrefl _), fun i hi => absurd hi (Nat.not_lt_zero _), fun i hi => absurd hi (Nat.not_lt_zero _), fun i hi => absurd hi (Nat.not_lt_zero _)⟩, by unfold maxLen; omega⟩
  · simp [Value.cells] at hcs
    obtain ⟨rfl, rfl, rfl⟩ := hcs
    simp only [if_true] at hmm
    subst hmm
    have each : ∀ i, i < ne → W.cell? (a.add (i * 2)) = some (.int .i64 (intOf (V0 i))) ∧ W.cell? (a.add (i * 2 + 1)) = some (.int .u64 (intOf (V1 i))) ∧ (Lit.int .u64 (intOf (V1 i))).wf = true := by
      intro i hi
      obtain ⟨c0, c1, t0, t1⟩ := hx i (by omega)
      obtain ⟨x, e0, _, w0⟩ := DataW.trod_int Try.underlying36 t0
      obtain ⟨y, e1, _, w1⟩ := DataW.trod_int Try.underlying27 t1
      simp only [List.cons.injEq, and_true] at e0 e1
      rw [e0] at c0
      rw [e1] at c1
      rw [e0, e1]
      exact ⟨c0, c1, w1⟩
    refine ⟨a, fun i => intOf (V0 i), fun i => intOf (V1 i), ⟨fun hp => ⟨rfl, ?_⟩, fun i hi => (each i hi).1, fun i hi => ?_, fun i hi => (each i hi).2.2⟩, by omega⟩
    · have := World.block_lt_of_cell? _ _ (each 0 hp).1
      rwa [add_block] at this
    · have := (each i hi).2.1
      rw [← Deep.add_add] at this
      exact this

/-- over the law's own bounds the answer is 'true' at once -/
theorem walk4_long (all : Int) (oe os : Option Addr) (ne ce ns cs : Nat) (w : World) (hne : ne ≤ maxLen) (hns : ns ≤ maxLen) (h : 32768 < ne ∨ 32768 < ns) :
    Calls Try.prog 4 #[.int .i64 all, .slice oe ne ce, .slice os ns cs] w fun e w' => e = .returned (.bool true) ∧ Below w.heap.size w w' := by
  unfold maxLen at hne hns
  by_cases h1 : 32768 < ne
  · clear h
    go_enter Try.func4, Try.ntmps4
    go_wp2
    all_goals
      go_ret
      exact ⟨rfl, Below.refl _ _⟩
  · have h2 : 32768 < ns := by omega
    clear h
    go_enter Try.func4, Try.ntmps4
    go_wp2
    all_goals
      go_ret
      exact ⟨rfl, Below.refl _ _⟩

set_option maxRecDepth 100000 in
theorem holds_lifted (os : Os) (started : os.Started) (H : Type) (enc : TypeId × Value → H) :
    ReturnsInHanded {} Try.checked os 4 .any (Rows.fnHoldsScriptCountsByModeSpec.pre6 enc Try.prog Try.f4 Rows.fnHoldsScriptCountsByModeRow.domain false) (Rows.fnHoldsScriptCountsByModeSpec.post enc Try.prog Try.f4 false true false false) := by
  refine returnsInHanded_of_change (C := Try.checked) ownH started (by kernel_rfl) Try.func4
    (ChangeSpec.witness6 (enc := enc) (C := Try.checked) false ⟨#[], #[.int .i64 0, .slice none 0 0, .slice none 0 0], []⟩ 8 (by kernel_rfl) (by kernel_rfl) (by kernel_rfl) (by kernel_rfl)) ?_
  intro W base args ds gs before hval0 hW hcnd _
  have hval : ∀ (j : Nat) t v, Try.f4.params[j]? = some t → args[j]? = some v → Value.okWide Try.prog W .any base t v := hval0
  have hW' := hW
  obtain ⟨p, q, hA0, hV, rfl, hfz, hnd⟩ := hW
  have hA : DataW.TrodAll enc Try.prog W 0 (fun _ => true) true Try.f4.params.toList args.toList ds p := hA0
  rw [Try.params4] at hA hval
  obtain ⟨v0, vs0, d0, ds0, p0, q0, hargs, rfl, rfl, h0, r0⟩ := trodAll_cons hA
  obtain ⟨v1, vs1, d1, ds1, p1, q1, rfl, rfl, rfl, h1, r1⟩ := trodAll_cons r0
  obtain ⟨v2, vs2, d2, ds2, p2, q2, rfl, rfl, rfl, h2, r2⟩ := trodAll_cons r1
  obtain ⟨rfl, rfl, rfl⟩ := trodAll_nil r2
  obtain rfl : args = #[v0, v1, v2] := by cases args; simp_all
  obtain ⟨rfl, rfl⟩ := trodVars_none hV
  obtain ⟨a0, rfl, rfl, rfl, w0⟩ := open_int Try.underlying3 (hval 0 3 v0 rfl rfl) h0
  obtain ⟨a1, len1, cap1, rfl⟩ := okWide_slice Try.underlying22 (hval 1 22 v1 rfl rfl)
  have k1 := h1
  have lt1 : ∀ x ∈ p1, x.block < W.heap.size := by obtain ⟨m, hm⟩ := k1; exact DataW.trod_lt m _ _ _ hm
  obtain ⟨ea, K, C, hE, hne⟩ := open_entriesH h1
  obtain ⟨a2, len2, cap2, rfl⟩ := okWide_slice Try.underlying34 (hval 2 34 v2 rfl rfl)
  have k2 := h2
  have lt2 : ∀ x ∈ p2, x.block < W.heap.size := by obtain ⟨m, hm⟩ := k2; exact DataW.trod_lt m _ _ _ hm
  obtain ⟨sa, M, S, hS, hns⟩ := open_steps h2
  obtain ⟨b1, b2⟩ := bounds_i64 w0
  clear hA0 hval0
  have hwalk : Calls Try.prog 4 #[.int .i64 a0, .slice a1 len1 cap1, .slice a2 len2 cap2] W fun e w' => e = .returned (.bool true) ∧ Below W.heap.size W w' := by
    by_cases h : 32768 < len1 ∨ 32768 < len2
    · exact walk4_long a0 a1 a2 len1 cap1 len2 cap2 W hne hns h
    · exact walk4 a0 a1 a2 ea sa len1 cap1 len2 cap2 K C M S W (by omega) (by omega) b1 b2 hE hS
  refine hwalk.mono fun e W' ⟨he, bel⟩ => ?_
  subst he
  exact ⟨_, rfl, _, _, _, [], _, [], hW', trodAll_mk1 (shut_bool Try.underlying4 _), (trodAll_cons_mk (shut_int Try.underlying3 w0) (trodAll_cons_mk (Below.trod laidOutH (by kernel_rfl) (of_decide_eq_true (by kernel_rfl)) k1 bel lt1) (trodAll_cons_mk (Below.trod laidOutH (by kernel_rfl) (of_decide_eq_true (by kernel_rfl)) k2 bel lt2) trodAll_mk0))), rfl, bel.frame _, fun h => by cases h⟩

/-- ████ THE STATEMENT ████ -/
theorem holds_proved : Rows.FnHoldsScriptCountsByModeSaid :=
  OpenClaim.holds_of_wide 4 Try.f4 rfl rfl rfl rfl rfl rfl rfl ⟨rfl, rfl, rfl, rfl, rfl⟩ rfl rfl rfl rfl rfl (by kernel_rfl) Try.func4 (by kernel_rfl)
    (of_decide_eq_true (by kernel_rfl)) (by unfold Func.isWrapper; first | (rw [if_pos (by decide +kernel)]; kernel_rfl) | (rw [if_neg (by decide +kernel)]; exact ⟨rfl, rfl⟩))
    (fun os started H enc _ => holds_lifted os started H enc)
#print axioms holds_proved
end Go.Proofs.Qxb6608610a
