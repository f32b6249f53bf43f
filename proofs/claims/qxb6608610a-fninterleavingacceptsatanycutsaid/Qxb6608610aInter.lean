/-
  THE CONTRACT OF ZZinterleavingAccepts (f14) AND OF WHAT IT CALLS (f19 zzConst, f21 its closure, f20 accepts): it answers whether one of the bools is true, or the predicate is set and says yes.
-/
import Derived.Test.Qxb6608610aRows
import Derived.WalkKit
import Derived.WalkLawsBesides
import Derived.WalkSpells
import Derived.Outline
import Derived.OpenShut
import Derived.Lib.SliceRun
import Derived.Laws.EntriesVeiled
import Derived.Deep.RegionHeld3
import Derived.Deep.AppendLies
import Derived.Deep.DrawnRows
import Derived.Deep.RegionLaw
namespace Go.Proofs.Qxb6608610a
open Go.RowKit
set_option linter.unusedSimpArgs false
set_option linter.unusedVariables false

/-- the function value that answers what block g holds -/
def clo (g : Nat) : Value := .func (.func 21) #[] #[.pointer (some ⟨g, 0, none⟩)]

theorem const21 (m : Value) (g : Nat) (b : Bool) (w : World) (h : w.cell? ⟨g, 0, none⟩ = some (.bool b)) :
    Calls Try.prog 21 #[m, .pointer (some ⟨g, 0, none⟩)] w fun e w' => e = .returned (.bool b) ∧ w' = w := by
  go_enter Try.func21, Try.ntmps21
  go_wp2
  go_ret
  exact ⟨rfl, rfl⟩

theorem const19 (b : Bool) (w : World) :
    Calls Try.prog 19 #[.bool b] w fun e w' => e = .returned (.func (.func 21) #[] #[.pointer (some ⟨w.heap.size, 0, none⟩)]) ∧ w' = w.alloc (.cells #[.bool b] 4) := by
  go_enter Try.func19, Try.ntmps19
  go_wp2
  go_ret
  exact ⟨rfl, rfl⟩

def anyB (T : Nat → Bool) : Nat → Bool
  | 0 => false
  | n + 1 => anyB T n || T n

theorem ix50 (ea : Addr) (oe : Option Addr) (ne ce k : Nat) (h : k < ne) (hoe : oe = some ea) (w : World) : (Instr.indexAt 50 (.slice oe ne ce) (.int .i64 k)).run Try.prog w = .ok (.pointer (some (ea.add k))) w := by
  subst hoe
  have hs : (sizeOf 51).run Try.prog w = .ok 1 w := by kernel_rfl
  simp [Instr.indexAt, asIntOf, run_underlying Try.underlying50, Result.andThen, hs, h]

/-- what lies in memory behind the slice of function values -/
structure Fns (w : World) (oa : Option Addr) (ad : Addr) (n : Nat) (T : Nat → Bool) (g : Nat → Nat) : Prop where
  some : 0 < n → oa = some ad
  fn : ∀ i, i < n → w.cell? (ad.add i) = Option.some (clo (g i))
  box : ∀ i, i < n → w.cell? ⟨g i, 0, none⟩ = Option.some (.bool (T i))

theorem anyB_true {T : Nat → Bool} {k : Nat} (h : T k = true) : ∀ n, k < n → anyB T n = true
  | 0, hk => absurd hk (Nat.not_lt_zero _)
  | n + 1, hk => by
    rcases Nat.lt_succ_iff_lt_or_eq.1 hk with h' | h'
    · show (anyB T n || T n) = true
      rw [anyB_true h n h']
      rfl
    · subst h'
      show (anyB T k || T k) = true
      rw [h]
      simp

theorem neq_nilFunc (w : World) : (binOp .neq 51 .nilFunc .nilFunc).run Try.prog w = .ok (.bool false) w := by kernel_rfl
theorem neq_clo (w : World) (g : Nat) : (binOp .neq 51 (.func (.func 21) #[] #[.pointer (some ⟨g, 0, none⟩)]) .nilFunc).run Try.prog w = .ok (.bool true) w := by kernel_rfl

set_option maxRecDepth 100000 in
theorem accepts20 (B : Nat) (m : Value) (oa : Option Addr) (ad : Addr) (n cap : Nat) (T : Nat → Bool) (g : Nat → Nat) (hp pr : Bool) (gp : Nat) (w : World) (hn : n ≤ 100000)
    (c0 : w.cell? ⟨B, 0, none⟩ = some (.slice oa n cap)) (c1 : w.cell? ⟨B, 1, none⟩ = some (if hp then clo gp else .nilFunc)) (c2 : hp = true → w.cell? ⟨gp, 0, none⟩ = some (.bool pr)) (h : Fns w oa ad n T g) :
    Calls Try.prog 20 #[.pointer (some ⟨B, 0, none⟩), m] w fun e w' => e = .returned (.bool (anyB T n || (hp && pr))) ∧ w' = w := by
  have hn0 := neq_nilFunc
  have hn1 := neq_clo
  go_enter Try.func20, Try.ntmps20
  go_wp2
  go_loop [12] (fun i => ∃ k : Nat, k ≤ n ∧ i = .int .i64 k ∧ anyB T k = false) (fun i => n - (intOf i).toNat)
  case atStart => exact ⟨0, Nat.zero_le _, rfl, rfl⟩
  case round =>
    obtain ⟨k, hk, rfl, hany⟩ := hrel
    by_cases hlt : k < n
    · have hx := ix50 ad oa n cap k hlt (h.some (by omega))
      have hf := h.fn k hlt
      have hb := h.box k hlt
      unfold clo at hf
      go_wp2_with fail
      refine (const21 _ (g k) (T k) _ hb).mono ?_
      rintro e w' ⟨rfl, rfl⟩
      cases hT : T k with
      | true =>
        have hend := anyB_true hT n hlt
        go_wp2_with fail
        go_ret
        exact ⟨by simp [hend], rfl⟩
      | false =>
        go_wp2_with fail
        go_round
        case rel => exact ⟨k + 1, by omega, by go_num, by show (anyB T k || T k) = false; rw [hany, hT]; rfl⟩
        case measure => simp [intOf]; omega
    · obtain rfl : k = n := by omega
      clear hlt
      cases hp with
      | false =>
        simp only [Bool.false_eq_true, if_false] at c1
        go_wp2_with fail
        go_ret
        exact ⟨by simp [hany], rfl⟩
      | true =>
        have c2' := c2 rfl
        simp only [if_true] at c1
        unfold clo at c1
        go_wp2_with fail
        refine (const21 _ gp pr _ c2').mono ?_
        rintro e w' ⟨rfl, rfl⟩
        go_wp2_with fail
        go_ret
        exact ⟨by simp [hany], rfl⟩
/-- a slice of bools as it lies in memory -/
structure BoolsAt (w : World) (oe : Option Addr) (ea : Addr) (n : Nat) (T : Nat → Bool) : Prop where
  some : 0 < n → oe = some ea ∧ ea.block < w.heap.size
  cell : ∀ i, i < n → w.cell? (ea.add i) = Option.some (.bool (T i))

theorem add_blk (a : Addr) (n : Nat) : (a.add n).block = a.block := by unfold Addr.add; split <;> rfl

theorem BoolsAt.below {w w' : World} {oe : Option Addr} {ea : Addr} {n : Nat} {T : Nat → Bool} (h : BoolsAt w oe ea n T) (hb : Below w.heap.size w w') : BoolsAt w' oe ea n T :=
  ⟨fun hp => ⟨(h.some hp).1, Nat.lt_of_lt_of_le (h.some hp).2 hb.size⟩,
   fun i hi => (hb.cell (by simpa [add_blk] using (h.some (by omega)).2)).trans (h.cell i hi)⟩

theorem ix40 (ea : Addr) (oe : Option Addr) (ne ce k : Nat) (h : k < ne) (hoe : oe = some ea) (w : World) : (Instr.indexAt 40 (.slice oe ne ce) (.int .i64 k)).run Try.prog w = .ok (.pointer (some (ea.add k))) w := by
  subst hoe
  have hs : (sizeOf 4).run Try.prog w = .ok 1 w := by kernel_rfl
  simp [Instr.indexAt, asIntOf, run_underlying Try.underlying40, Result.andThen, hs, h]

/-- the interleaving that is being built: its struct in block B, its slice of function values, each value's own box -/
structure Bld (wr : World) (B k : Nat) (oa : Option Addr) (cap : Nat) (T : Nat → Bool) (g : Nat → Nat) : Prop where
  blk : wr.heap[B]? = some (.cells #[.slice oa k cap, .nilFunc] 53 (0, 0))
  own : wr.ownsRow (B + 1) 51 1 (.slice oa k cap) k ((List.range k).map fun i => clo (g i))
  box : ∀ i, i < k → wr.heap[g i]? = some (.cells #[.bool (T i)] 4 (0, 0))

theorem info51 : (Try.prog.info? 51).map (fun i => (i.zero, i.size, i.bytes)) = some (some .nilFunc, 1, 8) := by kernel_rfl

theorem own_ne {w : World} {base e n : Nat} {v : Value} {xs : List Value} (h : w.ownsRow base e 1 v n xs) {b t : Nat} {cs : Array Value} {fr : Nat × Nat} (hb : w.heap[b]? = some (.cells cs t fr)) (ht : t ≠ e) : some b ≠ v.ownBlock := by
  intro e'
  rcases h.2 with ⟨rfl, _⟩ | ⟨g, cap, cur, rfl, _, hg, _⟩
  · simp [Value.ownBlock] at e'
  · simp only [Value.ownBlock, Option.some.injEq] at e'
    subst e'
    rw [hg] at hb
    simp only [Option.some.injEq, Obj.cells.injEq] at hb
    exact ht hb.2.1.symm

theorem two_setCell {w : World} {b : Nat} {v0 v1 u : Value} {t : TypeId} (h : w.heap[b]? = some (.cells #[v0, v1] t (0, 0))) : (w.setCell ⟨b, 0, none⟩ u).heap[b]? = some (.cells #[u, v1] t (0, 0)) := by
  have hlt := lt_of_block h
  have h' : w.heap[b] = .cells #[v0, v1] t (0, 0) := by simpa [Array.getElem?_eq_getElem hlt] using h
  show (w.heap.modify b _)[b]? = _
  rw [Array.getElem?_eq_getElem (by simpa using hlt), Array.getElem_modify_self, h']
  rfl

theorem two_setCell1 {w : World} {b : Nat} {v0 v1 u : Value} {t : TypeId} (h : w.heap[b]? = some (.cells #[v0, v1] t (0, 0))) : (w.setCell ⟨b, 1, none⟩ u).heap[b]? = some (.cells #[v0, u] t (0, 0)) := by
  have hlt := lt_of_block h
  have h' : w.heap[b] = .cells #[v0, v1] t (0, 0) := by simpa [Array.getElem?_eq_getElem hlt] using h
  show (w.heap.modify b _)[b]? = _
  rw [Array.getElem?_eq_getElem (by simpa using hlt), Array.getElem_modify_self, h']
  rfl

theorem alloc2_new (w : World) (o1 o2 : Obj) : ((w.alloc o1).alloc o2).drew.heap[w.heap.size + 1]? = some o2 := by
  have h := heap_alloc_new (w.alloc o1) o2
  rw [show (w.alloc o1).heap.size = w.heap.size + 1 by simp] at h
  exact h

theorem frozen_alloc {w : World} {a : Addr} (h : a.block < w.heap.size) (hf : w.frozen? a = false) (o : Obj) : (w.alloc o).frozen? a = false :=
  (World.frozen?_of_block (Below.heap_alloc w o a.block h)).trans hf

theorem fns_of {wr : World} {B k cap : Nat} {oa : Option Addr} {T : Nat → Bool} {g : Nat → Nat} (own : wr.ownsRow B 51 1 (.slice oa k cap) k ((List.range k).map fun i => clo (g i)))
    (box : ∀ i, i < k → wr.heap[g i]? = some (.cells #[.bool (T i)] 4 (0, 0))) : ∃ ad, Fns wr oa ad k T g := by
  rcases own.2 with ⟨_, h0⟩ | ⟨gg, cap', cur, hv, _, hg, hkc, _, hsz, htk⟩
  · subst h0
    exact ⟨⟨0, 0, none⟩, fun h => absurd h (Nat.lt_irrefl _), fun i hi => absurd hi (Nat.not_lt_zero _), fun i hi => absurd hi (Nat.not_lt_zero _)⟩
  · simp only [Value.slice.injEq] at hv
    refine ⟨⟨gg, 0, none⟩, fun _ => hv.1, fun i hi => ?_, fun i hi => cell_of_one (box i hi)⟩
    have e : (⟨gg, 0, none⟩ : Addr).add i = ⟨gg, i, none⟩ := by unfold Addr.add; split <;> simp_all
    rw [e]
    have h1 : (cur.toList.take (k * 1))[i]? = some (clo (g i)) := by rw [htk]; simp [hi]
    have h2 : cur[i]? = some (clo (g i)) := by
      rw [List.getElem?_take] at h1
      simpa [hi] using h1
    simp [World.cell?, hg, h2]

/-- the predicate set: its box is laid, and the struct's second cell leads to it -/
theorem Bld.pred {w wr : World} {k cap : Nat} {oa : Option Addr} {T : Nat → Bool} {g : Nat → Nat} (pr : Bool) (hnx : Below w.heap.size w wr) (hb : Bld wr w.heap.size k oa cap T g) :
    ∃ W2, W2 = (wr.setCell ⟨w.heap.size, 1, none⟩ (.func (.func 21) #[] #[.pointer (some ⟨wr.heap.size, 0, none⟩)])).alloc (.cells #[.bool pr] 4) ∧ Below w.heap.size w W2 ∧
      W2.cell? ⟨w.heap.size, 0, none⟩ = some (.slice oa k cap) ∧ W2.cell? ⟨w.heap.size, 1, none⟩ = some (clo wr.heap.size) ∧ W2.cell? ⟨wr.heap.size, 0, none⟩ = some (.bool pr) ∧ ∃ ad, Fns W2 oa ad k T g := by
  have hBlt := lt_of_block hb.blk
  have hsz : (wr.setCell ⟨w.heap.size, 1, none⟩ (.func (.func 21) #[] #[.pointer (some ⟨wr.heap.size, 0, none⟩)])).heap.size = wr.heap.size := by simp [World.setCell]
  have hbl := hnx.setCell (p := ⟨w.heap.size, 1, none⟩) (Nat.le_refl _) (.func (.func 21) #[] #[.pointer (some ⟨wr.heap.size, 0, none⟩)])
  refine ⟨_, rfl, hbl.alloc hbl.size _, ?_⟩
  have hblk2 : ((wr.setCell ⟨w.heap.size, 1, none⟩ (.func (.func 21) #[] #[.pointer (some ⟨wr.heap.size, 0, none⟩)])).alloc (.cells #[.bool pr] 4)).heap[w.heap.size]? = some (.cells #[.slice oa k cap, (.func (.func 21) #[] #[.pointer (some ⟨wr.heap.size, 0, none⟩)])] 53 (0, 0)) :=
    (Below.heap_alloc _ _ _ (by rw [hsz]; exact hBlt)).trans (two_setCell1 hb.blk)
  have hnew : ((wr.setCell ⟨w.heap.size, 1, none⟩ (.func (.func 21) #[] #[.pointer (some ⟨wr.heap.size, 0, none⟩)])).alloc (.cells #[.bool pr] 4)).heap[wr.heap.size]? = some (.cells #[.bool pr] 4 (0, 0)) := by
    have := heap_alloc_new (wr.setCell ⟨w.heap.size, 1, none⟩ (.func (.func 21) #[] #[.pointer (some ⟨wr.heap.size, 0, none⟩)])) (.cells #[.bool pr] 4)
    rwa [hsz] at this
  refine ⟨by simp [World.cell?, hblk2], by simp [World.cell?, hblk2, clo], cell_of_one hnew, ?_⟩
  refine fns_of ((ownsRow_setCell_below hb.own (Nat.lt_succ_self _) _).alloc _) fun i hi => ?_
  have hbx := hb.box i hi
  have h1 : g i ≠ w.heap.size := fun e => by
    rw [e, hb.blk] at hbx
    simp at hbx
  exact (Below.heap_alloc _ _ _ (by rw [hsz]; exact lt_of_block hbx)).trans ((Below.heap_setCell _ _ _ (g i) h1).trans hbx)

theorem Bld.step {w wr w1 : World} {k gg cap1 cap : Nat} {oa : Option Addr} {T : Nat → Bool} {g : Nat → Nat} (hnx : Below w.heap.size w wr) (hb : Bld wr w.heap.size k oa cap T g)
    (hown1 : w1.ownsRow (w.heap.size + 1) 51 1 (Value.slice (some ⟨gg, 0, none⟩) (k + 1) cap1) (k + 1) (List.map (fun i => clo (g i)) (List.range k) ++ [Value.func (Fn.func 21) #[] #[Value.pointer (some ⟨wr.heap.size, 0, none⟩)]]))
    (hgrow : ((wr.alloc (Obj.cells #[Value.bool (T k)] 4)).alloc (Obj.cells #[Value.func (Fn.func 21) #[] #[Value.pointer (some ⟨wr.heap.size, 0, none⟩)]] 51)).drew.grownBy w1 (Value.slice oa k cap).ownBlock) :
    Below w.heap.size w (w1.setCell ⟨w.heap.size, 0, none⟩ (Value.slice (some ⟨gg, 0, none⟩) (k + 1) cap1)) ∧
    Bld (w1.setCell ⟨w.heap.size, 0, none⟩ (Value.slice (some ⟨gg, 0, none⟩) (k + 1) cap1)) w.heap.size (k + 1) (some ⟨gg, 0, none⟩) cap1 T (fun i => if i < k then g i else wr.heap.size) := by
  have hsz := hnx.size
  have hBlt := lt_of_block hb.blk
  have hneB : some w.heap.size ≠ (Value.slice oa k cap).ownBlock := own_ne hb.own hb.blk (by decide)
  have old : ∀ b, b < wr.heap.size → some b ≠ (Value.slice oa k cap).ownBlock → w1.heap[b]? = wr.heap[b]? := fun b hlt hne =>
    (hgrow.block b (by show b < ((wr.alloc _).alloc _).heap.size; simp; omega) hne).trans ((Below.heap_alloc (wr.alloc _) _ b (by simp; omega)).trans (Below.heap_alloc wr _ b hlt))
  have hnew : w1.heap[wr.heap.size]? = some (.cells #[.bool (T k)] 4 (0, 0)) := by
    have e1 : some wr.heap.size ≠ (Value.slice oa k cap).ownBlock := fun e => by
      have := (hb.own.lt wr.heap.size e.symm).2
      omega
    refine (hgrow.block wr.heap.size (by show wr.heap.size < ((wr.alloc _).alloc _).heap.size; simp; omega) e1).trans ?_
    exact (Below.heap_alloc (wr.alloc _) _ wr.heap.size (by simp)).trans (heap_alloc_new wr _)
  have hblk1 : w1.heap[w.heap.size]? = some (.cells #[.slice oa k cap, .nilFunc] 53 (0, 0)) := (old _ hBlt hneB).trans hb.blk
  have hrow : ∀ j, (Value.slice oa k cap).ownBlock = some j → w.heap.size ≤ j := fun j hj => by
    have := (hb.own.lt j hj).1
    omega
  have hbel : Below w.heap.size w ((wr.alloc (Obj.cells #[Value.bool (T k)] 4)).alloc (Obj.cells #[Value.func (Fn.func 21) #[] #[Value.pointer (some ⟨wr.heap.size, 0, none⟩)]] 51)).drew :=
    ((hnx.alloc hsz _).alloc (by simp; omega) _).drew
  refine ⟨(hbel.grown hgrow hbel.size hrow).setCell (Nat.le_refl _) _, two_setCell hblk1, ?_, fun i hi => ?_⟩
  · have e : (List.range (k + 1)).map (fun i => clo ((fun i => if i < k then g i else wr.heap.size) i)) = List.map (fun i => clo (g i)) (List.range k) ++ [Value.func (Fn.func 21) #[] #[Value.pointer (some ⟨wr.heap.size, 0, none⟩)]] := by
      rw [List.range_succ, List.map_append]
      congr 1
      · refine List.map_congr_left fun i hi => ?_
        simp [List.mem_range.1 hi]
      · simp [clo]
    rw [e]
    exact ownsRow_setCell_below hown1 (Nat.lt_succ_self _) _
  · have hne : ∀ b, b ≠ w.heap.size → (w1.setCell ⟨w.heap.size, 0, none⟩ (Value.slice (some ⟨gg, 0, none⟩) (k + 1) cap1)).heap[b]? = w1.heap[b]? := fun b h => Below.heap_setCell _ _ _ b h
    by_cases hik : i < k
    · simp only [if_pos hik]
      have hbx := hb.box i hik
      have h1 : g i ≠ w.heap.size := fun e => by
        rw [e, hb.blk] at hbx
        simp at hbx
      rw [hne _ h1, old _ (lt_of_block hbx) (own_ne hb.own hbx (by decide))]
      exact hbx
    · obtain rfl : i = k := by omega
      simp only [if_neg hik]
      rw [hne _ (by omega)]
      exact hnew

attribute [local go_sem ↓] Go.wp_at_zero Go.wp_at_succ

set_option maxRecDepth 100000 in
set_option maxHeartbeats 1000000 in
theorem accepts14 (oe : Option Addr) (ea : Addr) (n ce : Nat) (T : Nat → Bool) (hp pr : Bool) (msg : Int) (w : World) (hn : n ≤ 100000) (hT : BoolsAt w oe ea n T) :
    Calls Try.prog 14 #[.slice oe n ce, .bool hp, .bool pr, .int .i64 msg] w fun e w' => e = .returned (.bool (anyB T n || (hp && pr))) ∧ Below w.heap.size w w' := by
  obtain ⟨i0, hi0, hz0, hz1, hz2⟩ := info_parts info51
  go_enter Try.func14, Try.ntmps14
  go_wp2
  go_loopw [15] (fun i wr => ∃ k : Nat, k ≤ n ∧ i = .int .i64 k ∧ Below w.heap.size w wr ∧ ∃ oa cap g, Bld wr w.heap.size k oa cap T g)
    (fun i _ => n - (intOf i).toNat)
  case atStart => exact ⟨0, Nat.zero_le _, rfl, (Below.refl _ _).alloc (Nat.le_refl _) _, none, 0, fun _ => 0, heap_alloc_new w _, World.ownsRow_nil _ _ _ _, fun i hi => absurd hi (Nat.not_lt_zero _)⟩
  case round =>
    obtain ⟨k, hk, rfl, hnx, oa, cap, g, hb⟩ := hrel
    by_cases hlt : k < n
    · have hx := ix40 ea oe n ce k hlt (hT.some (by omega)).1
      have hcell := (hT.below hnx).cell k hlt
      have hc0 : wr.cell? ⟨w.heap.size, 0, none⟩ = some (.slice oa k cap) := by simp [World.cell?, hb.blk]
      have hf0 : wr.frozen? ⟨w.heap.size, 0, none⟩ = false := by simp [World.frozen?, hb.blk]
      have hsz := hnx.size
      have hBlt := lt_of_block hb.blk
      go_wp2
      have hneB : some w.heap.size ≠ (Value.slice oa k cap).ownBlock := own_ne hb.own hb.blk (by decide)
      have hcb : ∀ o1 o2, ((wr.alloc o1).alloc o2).cell? ⟨w.heap.size, 0, none⟩ = some (.slice oa k cap) := fun o1 o2 => ((World.cell?_of_block (Below.heap_alloc (wr.alloc o1) o2 _ (by simp; omega))).trans (World.cell?_of_block (Below.heap_alloc wr o1 _ hBlt))).trans hc0
      have hca : ∀ o1, (wr.alloc o1).cell? ⟨w.heap.size, 0, none⟩ = some (.slice oa k cap) := fun o1 => (World.cell?_of_block (Below.heap_alloc wr o1 _ hBlt)).trans hc0
      have hfa := fun o => frozen_alloc hBlt hf0 o
      have hfb := fun o1 o2 => frozen_alloc (w := wr.alloc o1) (by simp; omega) (hfa o1) o2
      go_region_law
        ((first
          | (go_simp; go_at_call 19; refine (const19 (T k) _).mono ?_; rintro e w' ⟨rfl, rfl⟩; dsimp only)
          | (refine step_append_lies _ (by rfl) _ _ _ (by rfl) (w.heap.size + 1) 51 i0 _ 1 8 Try.underlying50 hi0 hz0 hz1 hz2 rfl (by omega) (.slice oa k cap) k _ (by rfl) (((hb.own.alloc _).alloc _).drew) ⟨wr.heap.size + 1, 0, none⟩ 1 1 [.func (.func 21) #[] #[.pointer (some ⟨wr.heap.size, 0, none⟩)]] (by rfl) (by rfl) (World.news_of_block (cs := #[.func (.func 21) #[] #[.pointer (some ⟨wr.heap.size, 0, none⟩)]]) (t := 51) (fr := (0, 0)) (alloc2_new wr _ _)) (by simp [Value.oneCell']) (by omega) (by unfold maxLen; omega) (by omega) (by simp; omega) (wr.heap.size + 2) (by simp) ?_; intro gg cap1 w1 hown1 hgrow hat hlt1; have hcw := (hgrow.cell_far ⟨w.heap.size, 0, none⟩ (by simp; omega) hneB).trans (hcb _ _); have hfw := (hgrow.frozen_far ⟨w.heap.size, 0, none⟩ (by simp; omega) hneB).trans (hfb _ _))))
      all_goals
        have hstep := Bld.step hnx hb hown1 hgrow
        clear hown1 hgrow hat hlt1 hcw hfw hcb hca hfa hfb hneB
        go_wp2
        go_roundw
        case rel => exact ⟨k + 1, by omega, by go_num, hstep.1, _, _, _, hstep.2⟩
        case measure => simp [intOf]; omega
    · obtain rfl : k = n := by omega
      clear hlt
      have hc0 : wr.cell? ⟨w.heap.size, 0, none⟩ = some (.slice oa k cap) := by simp [World.cell?, hb.blk]
      have hc1 : wr.cell? ⟨w.heap.size, 1, none⟩ = some .nilFunc := by simp [World.cell?, hb.blk]
      cases hp with
      | false =>
        obtain ⟨ad, hfn⟩ := fns_of hb.own hb.box
        go_wp2_with fail
        refine (accepts20 w.heap.size _ oa ad k cap T g false pr 0 _ hn hc0 hc1 (fun h => by cases h) hfn).mono ?_
        rintro e w' ⟨rfl, rfl⟩
        go_wp2
        go_ret
        exact ⟨by simp, hnx⟩
      | true =>
        have hBlt := lt_of_block hb.blk
        have hca : (wr.alloc (.cells #[.bool pr] 4)).cell? ⟨w.heap.size, 1, none⟩ = some .nilFunc := (World.cell?_of_block (Below.heap_alloc wr _ _ hBlt)).trans hc1
        have hfa : (wr.alloc (.cells #[.bool pr] 4)).frozen? ⟨w.heap.size, 1, none⟩ = false := frozen_alloc (by exact hBlt) (by simp [World.frozen?, hb.blk]) _
        obtain ⟨W2, hW2, hbel, p0, p1, p2, ad, hfn⟩ := hb.pred pr hnx
        have HW2 : Hid (W2 = (wr.setCell ⟨w.heap.size, 1, none⟩ (.func (.func 21) #[] #[.pointer (some ⟨wr.heap.size, 0, none⟩)])).alloc (.cells #[.bool pr] 4)) := hW2
        clear hW2
        go_wp2_with fail
        refine (const19 pr _).mono ?_
        rintro e w' ⟨rfl, rfl⟩
        go_wp2_with fail
        rw [← HW2.out]
        refine (accepts20 w.heap.size _ oa ad k cap T g true pr wr.heap.size _ hn p0 p1 (fun _ => p2) hfn).mono ?_
        rintro e w' ⟨rfl, rfl⟩
        go_wp2
        go_ret
        exact ⟨by simp, hbel⟩
end Go.Proofs.Qxb6608610a
