/-
  'Rows.FnInterleavingAcceptsAtAnyCutSaid' PROVED. The frame is the guide's (howto/shells), the walk is Qxb6608610aCutWalk's.
-/
import Derived.Test.Qxb6608610aCutWalk
import Derived.ProofKit
import Derived.OpenShut
import Derived.ShutString
import Derived.ChangeOld
import Derived.Below
import Derived.Deep.Slices
namespace Go.Proofs.Qxb6608610a
open Go.ChangeShapes Go.WideShapes Go.ChangeAt Go.RowKit
set_option linter.unusedVariables false
set_option linter.unusedSimpArgs false

theorem ownC : ownKnob Try.prog.godebug = none := by kernel_rfl
theorem laidOutC : laidOutB Try.prog = true := by kernel_rfl

/-- a slice of bools, opened -/
theorem open_boolsC {H : Type} {enc : TypeId × Value → H} {W : World} {oe : Option Addr} {n ce : Nat} {d : DataW H} {p : List MemPlace}
    (h : DataW.Trod enc Try.prog W 0 (fun _ => true) true 40 (.slice oe n ce) d p) : (oe = none ∧ n = 0 ∧ ce = 0) ∨ ∃ a T, oe = some a ∧ BoolsAt W (some a) a n T ∧ n ≤ maxLen := by
  obtain ⟨fuel, hf⟩ := h
  rcases Deep.open_slice1 Try.underlying40 (by kernel_rfl) hf with ⟨hcs, _⟩ | ⟨a, len, cap, m, k, V, D, Pl, hcs, _, hl, hm, hmm, _, hx⟩
  · simp [Value.cells] at hcs
    exact Or.inl hcs
  · simp [Value.cells] at hcs
    obtain ⟨rfl, rfl, rfl⟩ := hcs
    simp only [if_true] at hmm
    subst hmm
    right
    have each : ∀ i, i < n → ∃ b : Bool, W.cell? (a.add i) = some (.bool b) := by
      intro i hi
      obtain ⟨c0, t0⟩ := hx i (by omega)
      obtain ⟨x, e0, _⟩ := DataW.trod_bool Try.underlying4 t0
      simp only [List.cons.injEq, and_true] at e0
      exact ⟨x, by rw [c0, e0]⟩
    obtain ⟨T, hTT⟩ := Deep.choose_lt each
    refine ⟨a, T, rfl, ⟨fun hp => ⟨rfl, ?_⟩, hTT⟩, by omega⟩
    have := World.block_lt_of_cell? _ _ (hTT 0 hp)
    rwa [add_blk] at this

set_option maxRecDepth 100000 in
theorem cut_lifted (os : Os) (started : os.Started) (H : Type) (enc : TypeId × Value → H) :
    ReturnsInHanded {} Try.checked os 5 .any (Rows.fnInterleavingAcceptsAtAnyCutSpec.pre6 enc Try.prog Try.f5 Rows.fnInterleavingAcceptsAtAnyCutRow.domain false) (Rows.fnInterleavingAcceptsAtAnyCutSpec.post enc Try.prog Try.f5 false true false false) := by
  refine returnsInHanded_of_change (C := Try.checked) ownC started (by kernel_rfl) Try.func5
    (ChangeSpec.witness6 (enc := enc) (C := Try.checked) false ⟨#[], #[.slice none 0 0, .bool false, .bool false, .int .i64 0, .int .i64 0], []⟩ 8 (by kernel_rfl) (by kernel_rfl) (by kernel_rfl) (by kernel_rfl)) ?_
  intro W base args ds gs before hval0 hW hcnd _
  have hval : ∀ (j : Nat) t v, Try.f5.params[j]? = some t → args[j]? = some v → Value.okWide Try.prog W .any base t v := hval0
  have hW' := hW
  obtain ⟨p, q, hA0, hV, rfl, hfz, hnd⟩ := hW
  have hA : DataW.TrodAll enc Try.prog W 0 (fun _ => true) true Try.f5.params.toList args.toList ds p := hA0
  rw [Try.params5] at hA hval
  obtain ⟨v0, vs0, d0, ds0, p0, q0, hargs, rfl, rfl, h0, r0⟩ := trodAll_cons hA
  obtain ⟨v1, vs1, d1, ds1, p1, q1, rfl, rfl, rfl, h1, r1⟩ := trodAll_cons r0
  obtain ⟨v2, vs2, d2, ds2, p2, q2, rfl, rfl, rfl, h2, r2⟩ := trodAll_cons r1
  obtain ⟨v3, vs3, d3, ds3, p3, q3, rfl, rfl, rfl, h3, r3⟩ := trodAll_cons r2
  obtain ⟨v4, vs4, d4, ds4, p4, q4, rfl, rfl, rfl, h4, r4⟩ := trodAll_cons r3
  obtain ⟨rfl, rfl, rfl⟩ := trodAll_nil r4
  obtain rfl : args = #[v0, v1, v2, v3, v4] := by cases args; simp_all
  obtain ⟨rfl, rfl⟩ := trodVars_none hV
  obtain ⟨a0, len0, cap0, rfl⟩ := okWide_slice Try.underlying40 (hval 0 40 v0 rfl rfl)
  have k0 := h0
  have lt0 : ∀ x ∈ p0, x.block < W.heap.size := by obtain ⟨m, hm⟩ := k0; exact DataW.trod_lt m _ _ _ hm
  obtain ⟨b1, rfl, rfl, rfl⟩ := open_bool Try.underlying4 (hval 1 4 v1 rfl rfl) h1
  obtain ⟨b2, rfl, rfl, rfl⟩ := open_bool Try.underlying4 (hval 2 4 v2 rfl rfl) h2
  obtain ⟨a3, rfl, rfl, rfl, w3⟩ := open_int Try.underlying3 (hval 3 3 v3 rfl rfl) h3
  obtain ⟨a4, rfl, rfl, rfl, w4⟩ := open_int Try.underlying3 (hval 4 3 v4 rfl rfl) h4
  clear hA0 hval0
  have hwalk : Calls Try.prog 5 #[.slice a0 len0 cap0, .bool b1, .bool b2, .int .i64 a3, .int .i64 a4] W fun e w' => e = .returned (.bool true) ∧ Below W.heap.size W w' := by
    rcases open_boolsC h0 with ⟨rfl, rfl, rfl⟩ | ⟨a, T, rfl, hT, hn⟩
    · by_cases h : a4 < 0 ∨ (0 : Int) < a4
      · exact walk5_long none 0 0 b1 b2 a3 a4 W (by unfold maxLen; omega) (by omega)
      · obtain rfl : a4 = 0 := by omega
        exact walk5_nil b1 b2 a3 W
    · by_cases h : 65536 < len0 ∨ a4 < 0 ∨ (len0 : Int) < a4
      · exact walk5_long _ len0 cap0 b1 b2 a3 a4 W hn h
      · obtain ⟨k, rfl⟩ : ∃ k : Nat, a4 = (k : Int) := Int.eq_ofNat_of_zero_le (by omega)
        exact walk5_some a len0 cap0 T b1 b2 a3 k W (by omega) (by omega) hT
  refine hwalk.mono fun e W' ⟨he, bel⟩ => ?_
  subst he
  exact ⟨_, rfl, _, _, _, [], _, [], hW', trodAll_mk1 (shut_bool Try.underlying4 _), (trodAll_cons_mk (Below.trod laidOutC (by kernel_rfl) (of_decide_eq_true (by kernel_rfl)) k0 bel lt0) (trodAll_cons_mk (shut_bool Try.underlying4 b1) (trodAll_cons_mk (shut_bool Try.underlying4 b2) (trodAll_cons_mk (shut_int Try.underlying3 w3) (trodAll_cons_mk (shut_int Try.underlying3 w4) trodAll_mk0))))), rfl, bel.frame _, fun h => by cases h⟩

/-- ████ THE STATEMENT ████ -/
theorem cut_proved : Rows.FnInterleavingAcceptsAtAnyCutSaid :=
  OpenClaim.holds_of_wide 5 Try.f5 rfl rfl rfl rfl rfl rfl rfl ⟨rfl, rfl, rfl, rfl, rfl⟩ rfl rfl rfl rfl rfl (by kernel_rfl) Try.func5 (by kernel_rfl)
    (of_decide_eq_true (by kernel_rfl)) (by unfold Func.isWrapper; first | (rw [if_pos (by decide +kernel)]; kernel_rfl) | (rw [if_neg (by decide +kernel)]; exact ⟨rfl, rfl⟩))
    (fun os started H enc _ => cut_lifted os started H enc)
#print axioms cut_proved
end Go.Proofs.Qxb6608610a
