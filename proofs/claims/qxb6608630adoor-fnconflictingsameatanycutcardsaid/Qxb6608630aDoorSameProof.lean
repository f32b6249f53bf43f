/-
  'Rows.FnConflictingSameAtAnyCutCardSaid' PROVED: the row by the walk of Qxb6608630aDoorSame; the card by the builder over the given tie.
-/
import Derived.Test.Qxb6608630aDoorOpen
import Derived.SevenTiedAt
namespace Go.Proofs.Qxb6608630aDoor
open Go.ChangeShapes Go.WideShapes Go.ChangeAt Go.RowKit
set_option linter.unusedVariables false
set_option linter.unusedSimpArgs false

theorem u8_nat {x : Int} (h : (Lit.int .u8 x).wf = true) : ∃ n : Nat, x = n ∧ n < 256 := by
  have h : IntKind.u8.min ≤ x ∧ x ≤ IntKind.u8.max := by simpa [Lit.wf] using h
  have e1 : IntKind.u8.min = 0 := rfl
  have e2 : IntKind.u8.max = 255 := rfl
  obtain ⟨n, rfl⟩ := Int.eq_ofNat_of_zero_le (show 0 ≤ x by omega)
  exact ⟨n, rfl, by omega⟩

set_option maxRecDepth 100000 in
theorem same_lifted (os : Os) (started : os.Started) (H : Type) (enc : TypeId × Value → H) :
    ReturnsInHanded {} Tryd.checked os 7 .any (fun w args => (Rows.fnConflictingSameAtAnyCutSpec.pre enc Tryd.prog Tryd.f7 [] false w args ∧ laidMetH Tryd.prog lst w) ∧ sizedMet enc Tryd.prog Tryd.f7 (OpenSpec.ofChange Rows.fnConflictingSameAtAnyCutSpec) false w args)
      (Rows.fnConflictingSameAtAnyCutSpec.post enc Tryd.prog Tryd.f7 false true false false) := by
  refine returnsInHanded_of_change_and (C := Tryd.checked) (X := fun w _ => laidMetH Tryd.prog lst w) (fun _ _ _ hh h => h.of_heap hh) own started (by kernel_rfl) Tryd.func7
    (ChangeSpec.witness_shaped (enc := enc) (C := Tryd.checked) (os := os) (X := fun w _ => laidMetH Tryd.prog lst w) false (World.doorLaid Tryd.prog 2345 os) #[.int .u8 0, .int .u8 0, .slice none 0 0, .slice none 0 0, .int .i64 0] 8 rfl (World.shaped_of_RefB (by kernel_rfl) (by kernel_rfl)) (by kernel_rfl) (by kernel_rfl) (by kernel_rfl) (door_met os _)) ?_
  intro W base args ds gs before hval0 hW _ _ hL _
  have hval : ∀ (j : Nat) t v, Tryd.f7.params[j]? = some t → args[j]? = some v → Value.okWide Tryd.prog W .any base t v := hval0
  have hW' := hW
  obtain ⟨p, q, hA0, hV, rfl, hfz, hnd⟩ := hW
  have hA : DataW.TrodAll enc Tryd.prog W 0 (fun _ => true) true Tryd.f7.params.toList args.toList ds p := hA0
  rw [Tryd.params7] at hA hval
  obtain ⟨v0, vs0, d0, ds0, p0, q0, hargs, rfl, rfl, h0, r0⟩ := trodAll_cons hA
  obtain ⟨v1, vs1, d1, ds1, p1, q1, rfl, rfl, rfl, h1, r1⟩ := trodAll_cons r0
  obtain ⟨v2, vs2, d2, ds2, p2, q2, rfl, rfl, rfl, h2, r2⟩ := trodAll_cons r1
  obtain ⟨v3, vs3, d3, ds3, p3, q3, rfl, rfl, rfl, h3, r3⟩ := trodAll_cons r2
  obtain ⟨v4, vs4, d4, ds4, p4, q4, rfl, rfl, rfl, h4, r4⟩ := trodAll_cons r3
  obtain ⟨rfl, rfl, rfl⟩ := trodAll_nil r4
  obtain rfl : args = #[v0, v1, v2, v3, v4] := by cases args; simp_all
  have hV' := hV
  obtain ⟨g, t, cs, fuel, dg, pg, rfl, hgn, htn, hvn, hdn, rfl⟩ := trodVars_one hV
  obtain ⟨x0, rfl, rfl, rfl, w0⟩ := open_int Tryd.underlying5 (hval 0 5 v0 rfl rfl) h0
  obtain ⟨x1, rfl, rfl, rfl, w1⟩ := open_int Tryd.underlying5 (hval 1 5 v1 rfl rfl) h1
  obtain ⟨a2, len2, cap2, rfl⟩ := okWide_slice Tryd.underlying32 (hval 2 32 v2 rfl rfl)
  obtain ⟨a3, len3, cap3, rfl⟩ := okWide_slice Tryd.underlying32 (hval 3 32 v3 rfl rfl)
  obtain ⟨x4, rfl, rfl, rfl, w4⟩ := open_int Tryd.underlying3 (hval 4 3 v4 rfl rfl) h4
  have k2 := h2
  have k3 := h3
  have lt2 : ∀ x ∈ p2, x.block < W.heap.size := by obtain ⟨m, hm⟩ := k2; exact DataW.trod_lt m _ _ _ hm
  have lt3 : ∀ x ∈ p3, x.block < W.heap.size := by obtain ⟨m, hm⟩ := k3; exact DataW.trod_lt m _ _ _ hm
  obtain ⟨e2, T2, M2, N2, R2, L2⟩ := open_reqs h2
  obtain ⟨e3, T3, M3, N3, R3, L3⟩ := open_reqs h3
  obtain ⟨y0, rfl, hy0⟩ := u8_nat w0
  obtain ⟨y1, rfl, hy1⟩ := u8_nat w1
  clear hA0 hval0
  refine (law7 a2 a3 e2 e3 len2 cap2 len3 cap3 y0 y1 x4 T2 M2 T3 M3 N2 N3 W L2 L3 hy0 hy1 R2 R3 (of_laid hL)).mono fun e W' ⟨he, bel⟩ => ?_
  subst he
  exact ⟨_, rfl, _, _, _, [], _, _, hW', trodAll_mk1 (shut_bool Tryd.underlying4 _), (trodAll_cons_mk (shut_int Tryd.underlying5 w0) (trodAll_cons_mk (shut_int Tryd.underlying5 w1) (trodAll_cons_mk (Below.trod laidOut (by kernel_rfl) (of_decide_eq_true (by kernel_rfl)) k2 bel lt2) (trodAll_cons_mk (Below.trod laidOut (by kernel_rfl) (of_decide_eq_true (by kernel_rfl)) k3 bel lt3) (trodAll_cons_mk (shut_int Tryd.underlying3 w4) trodAll_mk0))))), Below.trodVars laidOut bel (by kernel_rfl) hV', bel.frame _, fun h => by cases h⟩

theorem same_row : Rows.FnConflictingSameAtAnyCutSaid :=
  OpenClaim.holds_of_wide 7 Tryd.f7 rfl rfl rfl rfl rfl rfl rfl ⟨rfl, rfl, rfl, rfl, rfl⟩ rfl rfl rfl rfl rfl (by kernel_rfl) Tryd.func7 (by kernel_rfl)
    (of_decide_eq_true (by kernel_rfl)) (by unfold Func.isWrapper; first | (rw [if_pos (by decide +kernel)]; kernel_rfl) | (rw [if_neg (by decide +kernel)]; exact ⟨rfl, rfl⟩))
    (fun os started H enc _ => same_lifted os started H enc)

/-- ████ THE STATEMENT ████ -/
theorem same_proved : Rows.FnConflictingSameAtAnyCutCardSaid :=
  Claim7.holds_tied_plain_at .later [] [.called] true (true, "0d8c959aabb512fccceba814a2935d1a6de8118f8fd9c61352b288ca4774bb75") false
    same_row (fun _ h => by cases h) (by kernel_rfl) (fun _ h => by cases h) fnConflictingSameAtAnyCut_row_tie rfl ⟨rfl, rfl⟩ (by kernel_rfl) rfl
    (fun f fn hf hfn => by
      obtain rfl : f = 7 := Option.some.inj ((show Tryd.prog.funcNamed Rows.fnConflictingSameAtAnyCutRow.func = some 7 by kernel_rfl).symm.trans hf) |>.symm
      obtain rfl : fn = Tryd.f7 := (Option.some.inj (Tryd.func7.symm.trans hfn)).symm
      exact ⟨by kernel_rfl, fun j t ht => by
        rw [Tryd.params7] at ht
        have hm : t ∈ [5, 5, 32, 32, 3] := by simpa using Array.mem_of_getElem? ht
        have hall : ([5, 5, 32, 32, 3].all fun u => !Tryd.prog.wantsStandIn u) = true := by kernel_rfl
        exact (show Tryd.prog.wantsStandIn t = false by simpa using List.all_eq_true.1 hall t hm)⟩)
    (by kernel_rfl)
#print axioms same_proved
end Go.Proofs.Qxb6608630aDoor
