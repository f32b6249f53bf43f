/-
  THE MAPS OF THE TWO SCRIPT LAWS IN THE MODEL's MEMORY: 'MA w ob n f L': the map value '.map ob' (nil where ob is none) holds just what f says. Its look-ups, its length, and the small callees: zzBytes, zzAfter, zzBuild, remove.
-/
import Derived.Test.Qxb6608610aRows
import Derived.Test.Qxb6608610aPlain
import Derived.WalkKit
import Derived.WalkLawsBesides
import Derived.WalkSpells
import Derived.Outline
import Derived.OpenShut
import Derived.Maps.OwnSet
import Derived.Maps.OwnOps
import Derived.Maps.RangeWalk
import Derived.Deep.Slices
import Derived.Lib.SliceRun
namespace Go.Proofs.Qxb6608610a
open Go.RowKit Go.Maps Go.Deep
set_option linter.unusedSimpArgs false
set_option linter.unusedVariables false

theorem run_makeMap_hint {P : Program} {t k e : TypeId} (ht : P.underlying t = some (.map k e)) (n : Int) (w : World) :
    (Instr.makeMap t (some (.int .i64 n))).run P w = .ok (.map (some w.heap.size)) (w.alloc (.map #[] 0)) := by
  simp [Instr.makeMap, run_underlying ht, asInt, asIntOf, Result.andThen]

theorem law27 : Keyed Try.prog 27 := int_keyed Try.underlying27
theorem zero3 (w : World) : (zeroValue 3).run Try.prog w = .ok (.int .i64 0) w := by kernel_rfl
theorem zero4 (w : World) : (zeroValue 4).run Try.prog w = .ok (.bool false) w := by kernel_rfl
theorem q22 (w : World) (a : Option Addr) (n c n' c' : Nat) : (binOp .eql 22 (.slice a n c) (.slice none n' c')).run Try.prog w = .ok (.bool a.isNone) w := Lib.run_eql_slice_nil w _ _ a n c n' c' Try.underlying22
theorem add_block (a : Addr) (n : Nat) : (a.add n).block = a.block := by unfold Addr.add; split <;> rfl

/-- THE MAP VALUE '.map ob' HOLDS f; its size is counted over L. -/
def MA (w : World) (ob : Option Nat) (n : Nat) (f : Int → Option Int) (L : List Int) : Prop :=
  match ob with
  | none => f = fun _ => none
  | some b => ∃ D, w.ownsMap Try.prog 27 (plainElem Try.prog 3) b n D ∧ MapIs D f ∧ Sized D f L

theorem MA.kept {w w' : World} {ob row : Option Nat} {n : Nat} {f : Int → Option Int} {L : List Int} (h : MA w ob n f L) (hg : w.grownBy w' row) (hne : ob = none ∨ ob ≠ row) : MA w' ob n f L := by
  cases ob with
  | none => exact h
  | some b =>
    obtain ⟨D, h1, h2, h3⟩ := h
    exact ⟨D, h1.kept hg (by rcases hne with h | h; cases h; exact h), h2, h3⟩

theorem MA.alloc {w : World} {ob : Option Nat} {n : Nat} {f : Int → Option Int} {L : List Int} (h : MA w ob n f L) (o : Obj) : MA (w.alloc o) ob n f L := by
  refine h.kept (World.grownBy_alloc w o none) ?_
  cases ob with
  | none => exact Or.inl rfl
  | some b => exact Or.inr (by simp)

theorem MA.drew {w : World} {ob : Option Nat} {n : Nat} {f : Int → Option Int} {L : List Int} (h : MA w ob n f L) : MA w.drew ob n f L := h

theorem MA.mono {w : World} {ob : Option Nat} {n n' : Nat} {f : Int → Option Int} {L : List Int} (h : MA w ob n f L) (hn : n ≤ n') : MA w ob n' f L := by
  cases ob with
  | none => exact h
  | some b =>
    obtain ⟨D, h1, h2, h3⟩ := h
    exact ⟨D, h1.mono hn, h2, h3⟩

theorem MA.lt {w : World} {ob : Option Nat} {n : Nat} {f : Int → Option Int} {L : List Int} (h : MA w ob n f L) : ∀ b, ob = some b → b < w.heap.size := by
  intro b hb
  subst hb
  obtain ⟨D, h1, _⟩ := h
  exact h1.lt

theorem MA.look {w : World} {ob : Option Nat} {n : Nat} {f : Int → Option Int} {L : List Int} (h : MA w ob n f L) {t : TypeId} (ht : Try.prog.underlying t = some (.map 27 3)) {k : Int} (wk : (Lit.int .u64 k).wf = true) :
    (Instr.lookup t (.map ob) (.int .u64 k) false).run Try.prog w = .ok (.int .i64 ((f k).getD 0)) w ∧ (Lit.int .i64 ((f k).getD 0)).wf = true := by
  cases ob with
  | none =>
    obtain rfl : f = fun _ => none := h
    exact ⟨Maps.look_nil (w := w) false law27 ht (zero3 w) (keyOf_int_mk Try.underlying27 wk), (by decide : (Lit.int .i64 0).wf = true)⟩
  | some b =>
    obtain ⟨D, h1, h2, h3⟩ := h
    obtain ⟨c, hrun, hat, hwc⟩ := h1.lookup_int law27 ht Try.underlying3 (zero3 w) (keyOf_int_mk Try.underlying27 wk)
    rw [← h2.get hat]
    exact ⟨hrun, hwc⟩

theorem MA.look_ok {w : World} {ob : Option Nat} {n : Nat} {f : Int → Option Int} {L : List Int} (h : MA w ob n f L) {t : TypeId} (ht : Try.prog.underlying t = some (.map 27 3)) {k : Int} (wk : (Lit.int .u64 k).wf = true) :
    (Instr.lookup t (.map ob) (.int .u64 k) true).run Try.prog w = .ok (.tuple #[.int .i64 ((f k).getD 0), .bool (f k).isSome]) w := by
  cases ob with
  | none =>
    obtain rfl : f = fun _ => none := h
    exact Maps.look_nil (w := w) true law27 ht (zero3 w) (keyOf_int_mk Try.underlying27 wk)
  | some b =>
    obtain ⟨D, h1, h2, h3⟩ := h
    obtain ⟨v, ps, hrun, hv⟩ := h1.look_ok law27 ht (zero3 w) (plainElem_int Try.underlying3 (by decide)) (keyOf_int_mk Try.underlying27 wk)
    obtain ⟨c, rfl, hc, hwc⟩ := plainElem_int_inv Try.underlying3 hv
    simp only [Prod.mk.injEq] at hc
    rw [← h2.get hc.1, ← h2.has k]
    exact hrun

theorem MA.len {w : World} {ob : Option Nat} {n : Nat} {f : Int → Option Int} {L : List Int} (h : MA w ob n f L) {t : TypeId} (ht : Try.prog.underlying t = some (.map 27 3)) (ty : TypeId) :
    (Builtin.len_ #[t] ty #[.map ob]).run Try.prog w = .ok (.int .i64 (cnt L f)) w := by
  cases ob with
  | none =>
    obtain rfl : f = fun _ => none := h
    rw [cnt_none]
    exact Maps.len_nil (w := w) ht ty
  | some b =>
    obtain ⟨D, h1, h2, h3⟩ := h
    rw [← h3.size]
    exact h1.len ht ty

/-! ### the small callees -/
theorem bytes7 (a b : Option Addr) (la ca lb cb : Nat) (w : World) (ha : la ≤ 32768) (hb : lb ≤ 32768) :
    Calls Try.prog 7 #[.slice a la ca, .slice b lb cb] w fun e w' => e = .returned (.bool true) ∧ w' = w := by
  go_enter Try.func7, Try.ntmps7
  go_wp2
  go_ret
  exact ⟨rfl, rfl⟩

def keepB (v c : Int) : Bool := decide (c ≤ 0) || decide (c < v)
def leftV (v c : Int) : Int := if c ≤ 0 then v else if c < v then v - c else 0

theorem after10 (v c : Int) (w : World) (hc : 0 ≤ c) (hc2 : c ≤ 32768) (hv : -9223372036854775808 ≤ v) (hv2 : v ≤ 9223372036854775807) :
    Calls Try.prog 10 #[.int .i64 v, .int .i64 c] w fun e w' => e = .returned (.tuple #[.int .i64 (leftV v c), .bool (keepB v c)]) ∧ w' = w := by
  by_cases h1 : c ≤ 0
  · have e1 : leftV v c = v := by simp [leftV, h1]
    have e2 : keepB v c = true := by simp [keepB, h1]
    rw [e1, e2]
    clear e1 e2
    go_enter Try.func10, Try.ntmps10
    go_wp2
    go_ret2
    exact ⟨rfl, rfl⟩
  · by_cases h2 : c < v
    · have e1 : leftV v c = v - c := by simp [leftV, h1, h2]
      have e2 : keepB v c = true := by simp [keepB, h1, h2]
      rw [e1, e2]
      clear e1 e2
      go_enter Try.func10, Try.ntmps10
      go_wp2
      go_ret2
      exact ⟨rfl, rfl⟩
    · have e1 : leftV v c = 0 := by simp [leftV, h1, h2]
      have e2 : keepB v c = false := by simp [keepB, h1, h2]
      rw [e1, e2]
      clear e1 e2
      go_enter Try.func10, Try.ntmps10
      go_wp2
      go_ret2
      exact ⟨rfl, rfl⟩

theorem build_nil (w : World) : Calls Try.prog 8 #[.slice none 0 0] w fun e w' => e = .returned (.map none) ∧ w' = w := by
  have hq := q22
  go_enter Try.func8, Try.ntmps8
  go_wp2
  go_ret
  exact ⟨rfl, rfl⟩

set_option maxRecDepth 100000 in
set_option maxHeartbeats 400000 in
theorem build_any (ad : Addr) (len cap : Nat) (K C : Nat → Int) (w : World) (hlen : len ≤ 32768) (had : 0 < len → ad.block < w.heap.size)
    (hk : ∀ i, i < len → w.cell? (ad.add (i * 2)) = some (.int .u64 (K i))) (hc : ∀ i, i < len → w.cell? ⟨(ad.add (i * 2)).block, (ad.add (i * 2)).off + 1, none⟩ = some (.int .i64 (C i)))
    (wk : ∀ i, i < len → (Lit.int .u64 (K i)).wf = true) (wc : ∀ i, i < len → (Lit.int .i64 (C i)).wf = true) :
    Calls Try.prog 8 #[.slice (some ad) len cap] w fun e w' => e = .returned (.map (some w.heap.size)) ∧ Below w.heap.size w w' ∧ MA w' (some w.heap.size) len (bld K C len) (dd K len) := by
  have hmm := fun n w => run_makeMap_hint (P := Try.prog) Try.underlying25 n w
  have hq := q22
  go_enter Try.func8, Try.ntmps8
  go_wp2
  go_loopw [4] (fun i wr => ∃ k : Nat, k ≤ len ∧ i = .int .i64 k ∧ Below w.heap.size w wr ∧
      ∃ D, wr.ownsMap Try.prog 27 (plainElem Try.prog 3) w.heap.size k D ∧ MapIs D (bld K C k) ∧ Sized D (bld K C k) (dd K len))
    (fun i _ => len - (intOf i).toNat)
  case atStart => exact ⟨0, Nat.zero_le _, rfl, (Below.refl _ _).alloc (Nat.le_refl _) _, _, World.ownsMap_made _ _ _ _, MapIs.nothing, Sized.nothing (dd_nodup _ _)⟩
  case round =>
    obtain ⟨k, hkl, rfl, hnx, D, hown, hmi, hsz⟩ := hrel
    by_cases hlt : k < len
    · have hck : wr.cell? (ad.add (k * 2)) = some (.int .u64 (K k)) := (hnx.cell (by simpa [add_block] using had (by omega))).trans (hk k hlt)
      have hcc : wr.cell? ⟨(ad.add (k * 2)).block, (ad.add (k * 2)).off + 1, none⟩ = some (.int .i64 (C k)) := (hnx.cell (by simpa [add_block] using had (by omega))).trans (hc k hlt)
      obtain ⟨w1, hrun, hown1, hgrow1⟩ := hown.drew.update law27 Try.underlying25 (by unfold maxLen; omega) (keyOf_int_mk Try.underlying27 (wk k hlt)) (plainElem_int Try.underlying3 (wc k hlt))
      go_wp2
      go_region
      go_wp2
      go_roundw
      case rel => exact ⟨k + 1, by omega, by go_num, (hnx.drew.grown hgrow1 hnx.size (fun j hj => by cases hj; exact Nat.le_refl _)), _, hown1, hmi.put _ _, hsz.put hmi ((mem_dd _ _ _).2 ⟨k, hlt, rfl⟩) _⟩
      case measure => simp [intOf]; omega
    · go_wp2
      have e : k = len := by omega
      subst e
      go_ret
      exact ⟨rfl, hnx, D, hown, hmi, hsz⟩

/-- '(*chainCounts).remove' -/
theorem remove17 (a : Addr) (ob : Option Nat) (n : Nat) (k : Int) (f : Int → Option Int) (L : List Int) (w : World) (ha : w.cell? a = some (.map ob)) (h : MA w ob n f L) (hn : n < 1000000) (wk : (Lit.int .u64 k).wf = true) :
    Calls Try.prog 17 #[.pointer (some a), .int .u64 k] w fun e w' => e = .returned (.tuple #[]) ∧ w.grownBy w' ob ∧ MA w' ob (n + 1) (upd f k (rem (f k))) L := by
  obtain ⟨hrun, hwf⟩ := h.look Try.underlying45 wk
  obtain ⟨b1, b2⟩ := bounds_i64 hwf
  generalize hc : (f k).getD 0 = c at hrun hwf b1 b2
  have Hc : Hid ((f k).getD 0 = c) := hc
  clear hc hwf
  by_cases h1 : 1 < c
  · have hr := rem_more Hc.out.symm h1
    rw [hr]
    clear hr
    cases ob with
    | none =>
      obtain rfl : f = fun _ => none := h
      have := Hc.out
      simp at this
      omega
    | some b =>
      obtain ⟨D, hown, hmi, hsz⟩ := h
      have hin : k ∈ L := hsz.all k (by
        have := Hc.out
        cases hf : f k with
        | none => rw [hf] at this; simp at this; omega
        | some v => rfl)
      obtain ⟨w1, hrun1, hown1, hturn1⟩ := hown.store law27 Try.underlying45 (by unfold maxLen; omega) (keyOf_int_mk Try.underlying27 wk) (plainElem_int Try.underlying3 (a := c - 1) (WalkArith.wf_i64 (by omega)))
      go_enter Try.func17, Try.ntmps17
      go_wp2
      go_end0
      exact ⟨rfl, hturn1.grown, _, hown1, hmi.put _ _, hsz.put hmi hin _⟩
  · have hr := rem_less Hc.out.symm h1
    rw [hr]
    clear hr
    cases ob with
    | none =>
      obtain rfl : f = fun _ => none := h
      have hdr := fun (w : World) ty => Maps.drop_nil (w := w) law27 Try.underlying45 (keyOf_int_mk Try.underlying27 wk) ty
      go_enter Try.func17, Try.ntmps17
      go_wp2
      go_end0
      exact ⟨rfl, World.grownBy.refl _ _, upd_idle _ _ rfl⟩
    | some b =>
      obtain ⟨D, hown, hmi, hsz⟩ := h
      go_enter Try.func17, Try.ntmps17
      go_wp2_with (at_delete; refine wpList_delete_own _ rfl _ _ 45 27 rfl 3 law27 Try.underlying45 _ b n D rfl hown _ _ rfl (keyOf_int_mk Try.underlying27 wk) ?_; intro w1 hown1 hturn1)
      go_end0
      exact ⟨rfl, hturn1.grown, _, hown1.mono (Nat.le_succ _), hmi.del _, hsz.del hmi _⟩

/-- 'ZZchainCountsRemove' -/
theorem remove9 (ob : Option Nat) (n : Nat) (k : Int) (f : Int → Option Int) (L : List Int) (w : World) (h : MA w ob n f L) (hn : n < 1000000) (wk : (Lit.int .u64 k).wf = true) :
    Calls Try.prog 9 #[.map ob, .int .u64 k] w fun e w' => e = .returned (.tuple #[]) ∧ w.grownBy w' ob ∧ MA w' ob (n + 1) (upd f k (rem (f k))) L := by
  go_enter Try.func9, Try.ntmps9
  go_wp2_with fail
  refine (remove17 _ ob n k f L _ (by simp) (h.alloc _) hn wk).mono ?_
  rintro e w1 ⟨rfl, hg, hm⟩
  go_wp2
  go_end0
  exact ⟨rfl, (World.grownBy_alloc _ _ _).trans hg, hm⟩
end Go.Proofs.Qxb6608610a
