/-
  'Rows.FnConflictingOneMoreRequestCardSaid' PROVED: the row by the walks of Qxb6608630aDoorMore; the card by the builder over the given tie.
-/
import Derived.Test.Qxb6608630aDoorOpen
import Derived.Test.Qxb6608630aDoorMore
import Derived.SevenTiedAt
import Derived.Lib.SmallJoins
namespace Go.Proofs.Qxb6608630aDoor
open Go.ChangeShapes Go.WideShapes Go.ChangeAt Go.RowKit
set_option linter.unusedVariables false
set_option linter.unusedSimpArgs false

theorem byte_nat {x : Int} (h : (Lit.int .u8 x).wf = true) : ∃ n : Nat, x = n ∧ n < 256 := by
  have h : IntKind.u8.min ≤ x ∧ x ≤ IntKind.u8.max := by simpa [Lit.wf] using h
  have e1 : IntKind.u8.min = 0 := rfl
  have e2 : IntKind.u8.max = 255 := rfl
  obtain ⟨n, rfl⟩ := Int.eq_ofNat_of_zero_le (show 0 ≤ x by omega)
  exact ⟨n, rfl, by omega⟩

set_option maxRecDepth 100000 in
theorem more_lifted (os : Os) (started : os.Started) (H : Type) (enc : TypeId × Value → H) :
    ReturnsInHanded {} Tryd.checked os 8 .any (fun w args => (Rows.fnConflictingOneMoreRequestSpec.pre enc Tryd.prog Tryd.f8 [] false w args ∧ laidMetH Tryd.prog lst w) ∧ sizedMet enc Tryd.prog Tryd.f8 (OpenSpec.ofChange Rows.fnConflictingOneMoreRequestSpec) false w args)
      (Rows.fnConflictingOneMoreRequestSpec.post enc Tryd.prog Tryd.f8 false true false false) := by
  refine returnsInHanded_of_change_and (C := Tryd.checked) (X := fun w _ => laidMetH Tryd.prog lst w) (fun _ _ _ hh h => h.of_heap hh) own started (by kernel_rfl) Tryd.func8
    (ChangeSpec.witness_shaped (enc := enc) (C := Tryd.checked) (os := os) (X := fun w _ => laidMetH Tryd.prog lst w) false (World.doorLaid Tryd.prog 2345 os) #[.int .u8 0, .int .u8 0, .slice none 0 0, .slice none 0 0, .agg #[.int .u8 0, .int .u8 0, .bool false], .bool false, .int .i64 0] 8 rfl (World.shaped_of_RefB (by kernel_rfl) (by kernel_rfl)) (by kernel_rfl) (by kernel_rfl) (by kernel_rfl) (door_met os _)) ?_
  intro W base args ds gs before hval0 hW _ _ hL _
  have hval : ∀ (j : Nat) t v, Tryd.f8.params[j]? = some t → args[j]? = some v → Value.okWide Tryd.prog W .any base t v := hval0
  have hW' := hW
  obtain ⟨p, q, hA0, hV, rfl, hfz, hnd⟩ := hW
  have hA : DataW.TrodAll enc Tryd.prog W 0 (fun _ => true) true Tryd.f8.params.toList args.toList ds p := hA0
  rw [Tryd.params8] at hA hval
  obtain ⟨v0, vs0, d0, ds0, p0, q0, hargs, rfl, rfl, h0, r0⟩ := trodAll_cons hA
  obtain ⟨v1, vs1, d1, ds1, p1, q1, rfl, rfl, rfl, h1, r1⟩ := trodAll_cons r0
  obtain ⟨v2, vs2, d2, ds2, p2, q2, rfl, rfl, rfl, h2, r2⟩ := trodAll_cons r1
  obtain ⟨v3, vs3, d3, ds3, p3, q3, rfl, rfl, rfl, h3, r3⟩ := trodAll_cons r2
  obtain ⟨v4, vs4, d4, ds4, p4, q4, rfl, rfl, rfl, h4, r4⟩ := trodAll_cons r3
  obtain ⟨v5, vs5, d5, ds5, p5, q5, rfl, rfl, rfl, h5, r5⟩ := trodAll_cons r4
  obtain ⟨v6, vs6, d6, ds6, p6, q6, rfl, rfl, rfl, h6, r6⟩ := trodAll_cons r5
  obtain ⟨rfl, rfl, rfl⟩ := trodAll_nil r6
  obtain rfl : args = #[v0, v1, v2, v3, v4, v5, v6] := by cases args; simp_all
  have hV' := hV
  obtain ⟨g, t, cs, fuel, dg, pg, rfl, hgn, htn, hvn, hdn, rfl⟩ := trodVars_one hV
  obtain ⟨x0, rfl, rfl, rfl, w0⟩ := open_int Tryd.underlying5 (hval 0 5 v0 rfl rfl) h0
  obtain ⟨x1, rfl, rfl, rfl, w1⟩ := open_int Tryd.underlying5 (hval 1 5 v1 rfl rfl) h1
  obtain ⟨a2, len2, cap2, rfl⟩ := okWide_slice Tryd.underlying32 (hval 2 32 v2 rfl rfl)
  obtain ⟨a3, len3, cap3, rfl⟩ := okWide_slice Tryd.underlying32 (hval 3 32 v3 rfl rfl)
  obtain ⟨b5, rfl, rfl, rfl⟩ := open_bool Tryd.underlying4 (hval 5 4 v5 rfl rfl) h5
  obtain ⟨x6, rfl, rfl, rfl, w6⟩ := open_int Tryd.underlying3 (hval 6 3 v6 rfl rfl) h6
  have k2 := h2
  have k3 := h3
  have k4 := h4
  have lt2 : ∀ x ∈ p2, x.block < W.heap.size := by obtain ⟨m, hm⟩ := k2; exact DataW.trod_lt m _ _ _ hm
  have lt3 : ∀ x ∈ p3, x.block < W.heap.size := by obtain ⟨m, hm⟩ := k3; exact DataW.trod_lt m _ _ _ hm
  have lt4 : ∀ x ∈ p4, x.block < W.heap.size := by obtain ⟨m, hm⟩ := k4; exact DataW.trod_lt m _ _ _ hm
  obtain ⟨e2, T2, M2, N2, R2, L2⟩ := open_reqs h2
  obtain ⟨e3, T3, M3, N3, R3, L3⟩ := open_reqs h3
  obtain ⟨y0, rfl, hy0⟩ := byte_nat w0
  obtain ⟨y1, rfl, hy1⟩ := byte_nat w1
  obtain ⟨u0, u1, u2, z0, z1, z2, nn, rfl, _, _, t0, t1, t2⟩ := Joins.open_agg3 Tryd.underlying43 (by kernel_rfl) cells43 (hval 4 43 v4 rfl rfl) h4
  obtain ⟨g0, e0, _, wf0⟩ := DataW.trod_int Tryd.underlying5 t0
  obtain ⟨g1, e1, _, wf1⟩ := DataW.trod_int Tryd.underlying5 t1
  obtain ⟨g2, e2', _⟩ := DataW.trod_bool Tryd.underlying4 t2
  simp only [List.cons.injEq, and_true] at e0 e1 e2'
  subst e0 e1 e2'
  obtain ⟨xt, rfl, hxt⟩ := byte_nat wf0
  obtain ⟨xm, rfl, hxm⟩ := byte_nat wf1
  clear hA0 hval0
  have hwalk : Calls Tryd.prog 8 #[.int .u8 y0, .int .u8 y1, .slice a2 len2 cap2, .slice a3 len3 cap3, .agg #[.int .u8 xt, .int .u8 xm, .bool g2], .bool b5, .int .i64 x6] W fun e w' => e = .returned (.bool true) ∧ Below W.heap.size W w' := by
    cases b5 with
    | true => exact law8t a2 a3 e2 e3 len2 cap2 len3 cap3 y0 y1 xt xm g2 x6 T2 M2 T3 M3 N2 N3 W L2 L3 hy0 hy1 hxt R2 R3 (of_laid hL)
    | false => exact law8f a2 a3 e2 e3 len2 cap2 len3 cap3 y0 y1 xt xm g2 x6 T2 M2 T3 M3 N2 N3 W L2 L3 hy0 hy1 hxt R2 R3 (of_laid hL)
  refine hwalk.mono fun e W' ⟨he, bel⟩ => ?_
  subst he
  exact ⟨_, rfl, _, _, _, [], _, _, hW', trodAll_mk1 (shut_bool Tryd.underlying4 _), (trodAll_cons_mk (shut_int Tryd.underlying5 w0) (trodAll_cons_mk (shut_int Tryd.underlying5 w1) (trodAll_cons_mk (Below.trod laidOut (by kernel_rfl) (of_decide_eq_true (by kernel_rfl)) k2 bel lt2) (trodAll_cons_mk (Below.trod laidOut (by kernel_rfl) (of_decide_eq_true (by kernel_rfl)) k3 bel lt3) (trodAll_cons_mk (Below.trod laidOut (by kernel_rfl) (of_decide_eq_true (by kernel_rfl)) k4 bel lt4) (trodAll_cons_mk (shut_bool Tryd.underlying4 b5) (trodAll_cons_mk (shut_int Tryd.underlying3 w6) trodAll_mk0))))))), Below.trodVars laidOut bel (by kernel_rfl) hV', bel.frame _, fun h => by cases h⟩

theorem more_row : Rows.FnConflictingOneMoreRequestSaid :=
  OpenClaim.holds_of_wide 8 Tryd.f8 rfl rfl rfl rfl rfl rfl rfl ⟨rfl, rfl, rfl, rfl, rfl⟩ rfl rfl rfl rfl rfl (by kernel_rfl) Tryd.func8 (by kernel_rfl)
    (of_decide_eq_true (by kernel_rfl)) (by unfold Func.isWrapper; first | (rw [if_pos (by decide +kernel)]; kernel_rfl) | (rw [if_neg (by decide +kernel)]; exact ⟨rfl, rfl⟩))
    (fun os started H enc _ => more_lifted os started H enc)

/-- ████ THE STATEMENT ████ -/
theorem more_proved : Rows.FnConflictingOneMoreRequestCardSaid :=
  Claim7.holds_tied_plain_at .later [] [.called] true (true, "0d8c959aabb512fccceba814a2935d1a6de8118f8fd9c61352b288ca4774bb75") false
    more_row (fun _ h => by cases h) (by kernel_rfl) (fun _ h => by cases h) fnConflictingOneMoreRequest_row_tie rfl ⟨rfl, rfl⟩ (by kernel_rfl) rfl
    (fun f fn hf hfn => by
      obtain rfl : f = 8 := Option.some.inj ((show Tryd.prog.funcNamed Rows.fnConflictingOneMoreRequestRow.func = some 8 by kernel_rfl).symm.trans hf) |>.symm
      obtain rfl : fn = Tryd.f8 := (Option.some.inj (Tryd.func8.symm.trans hfn)).symm
      exact ⟨by kernel_rfl, fun j t ht => by
        rw [Tryd.params8] at ht
        have hm : t ∈ [5, 5, 32, 32, 43, 4, 3] := by simpa using Array.mem_of_getElem? ht
        have hall : ([5, 5, 32, 32, 43, 4, 3].all fun u => !Tryd.prog.wantsStandIn u) = true := by kernel_rfl
        exact (show Tryd.prog.wantsStandIn t = false by simpa using List.all_eq_true.1 hall t hm)⟩)
    (by kernel_rfl)
#print axioms more_proved
end Go.Proofs.Qxb6608630aDoor
