import Derived.Test.Qxb6608630aDoorIter
namespace Go.Proofs.Qxb6608630aDoor
open Go.RowKit Go.Shelf
set_option linter.unusedSimpArgs false
set_option linter.unusedVariables false

attribute [local go_sem] Oper.semAt_some

theorem Live.more {w : World} {n₀ n₁ rb tr mr : Nat} {tx md : Nat → Nat} {B : Nat → Prop} (h : Live w n₀ rb tr mr tx md B) (hn : n₀ ≤ n₁) : Live w n₁ rb tr mr tx md B :=
  ⟨h.tab, by have := h.pos; omega, ⟨h.r.1, by have := h.r.2.1; omega, h.r.2.2.1, by have := h.r.2.2.2; omega⟩, fun b hb => ⟨(h.o b hb).1, by have := (h.o b hb).2.1; omega, (h.o b hb).2.2.1, by have := (h.o b hb).2.2.2.1; omega, (h.o b hb).2.2.2.2⟩, h.hm⟩

set_option maxRecDepth 100000 in
set_option maxHeartbeats 1000000 in
theorem conf39_in (n : Nat) (o1 o2 : Option Addr) (n1 c1 n2 c2 rb : Nat) (w : World) :
    CallsIn Fence.wide n Tryd.prog 39 #[.pointer (some ⟨rb, 0, none⟩), .slice o1 n1 c1, .slice o2 n2 c2] w fun e w' =>
      e = .returned (.func (.func 45) #[] #[.pointer (some ⟨w.heap.size + 1, 0, none⟩), .pointer (some ⟨w.heap.size + 1 + 1, 0, none⟩), .pointer (some ⟨w.heap.size, 0, none⟩)]) ∧
      w' = ((w.alloc (.cells #[.pointer (some ⟨rb, 0, none⟩)] 39)).alloc (.cells #[.slice o1 n1 c1] 38)).alloc (.cells #[.slice o2 n2 c2] 38) := by
  refine callsIn_of_wp Tryd.func39 rfl trivial ?_ rfl
  simp only [Tryd.ntmps39, List.size_toArray, List.length_cons, List.length_nil, Nat.reduceAdd, Nat.reduceSub, Array.replicate_succ, Array.replicate_zero, List.push_toArray, List.append_toArray, List.nil_append, List.cons_append]
  gi_wp2
  go_ret
  exact ⟨rfl, rfl⟩

/-- what the function value does -/
theorem iter_stops (n : Nat) (Bg Ba Br n₀ rb tr mr : Nat) (tx md : Nat → Nat) (o1 o2 : Option Addr) (a1 a2 : Addr) (n1 c1 n2 c2 : Nat) (L1 L2 : Nat → Option Nat) (hn1 : n1 ≤ 200000) (hn2 : n2 ≤ 200000) (w : World) (hn₀ : n₀ ≤ w.heap.size)
    (hBg : w.cell? ⟨Bg, 0, none⟩ = some (.slice o1 n1 c1)) (hBa : w.cell? ⟨Ba, 0, none⟩ = some (.slice o2 n2 c2)) (hBr : w.cell? ⟨Br, 0, none⟩ = some (.pointer (some ⟨rb, 0, none⟩))) (hBrn : Br < n₀) (hBgn : Bg < n₀) (hBan : Ba < n₀)
    (h1 : PtrsAt w o1 a1 n1 L1) (h2 : PtrsAt w o2 a2 n2 L2) (l1 : 0 < n1 → a1.block < n₀) (l2 : 0 < n2 → a2.block < n₀)
    (hL : Live w n₀ rb tr mr tx md (fun b => (∃ i, i < n1 ∧ L1 i = some b) ∨ (∃ i, i < n2 ∧ L2 i = some b))) :
    SeqStopsK Fence.wide n Tryd.prog 45 #[.pointer (some ⟨Bg, 0, none⟩), .pointer (some ⟨Ba, 0, none⟩), .pointer (some ⟨Br, 0, none⟩)] (fun x : Nat => #[Value.pointer (some ⟨x, 0, none⟩)]) (Below n₀)
      (fun ys => ys = yl (fun b => waits tr mr (tx b) (md b)) L1 n1 ++ yl (fun b => waits tr mr (tx b) (md b)) L2 n2) (fun _ => True) (n1 + n2) w := fun l J Jx W hW hJ _ hY h0 => by
  have hW' := hW.mono hn₀
  exact iter45_in n l Bg Ba Br n₀ rb tr mr tx md o1 o2 a1 a2 n1 c1 n2 c2 L1 L2 hn1 hn2 J Jx _ hJ hY W ((hW'.cell (p := ⟨Bg, 0, none⟩) hBgn).trans hBg) ((hW'.cell (p := ⟨Ba, 0, none⟩) hBan).trans hBa) ((hW'.cell (p := ⟨Br, 0, none⟩) hBrn).trans hBr) hBrn (h1.below hW' l1) (h2.below hW' l2) l1 l2 (hL.below hW') h0

theorem info39 : (Tryd.prog.info? 39).map (fun i => (i.zero, i.size, i.bytes)) = some (some (.pointer none), 1, 8) := by kernel_rfl

theorem eqlFn (cap : Array Value) (w : World) : (binOp .eql 67 (.func (.func 45) #[] cap) .nilFunc).run Tryd.prog w = .ok (.bool false) w := by kernel_rfl

/-- the pointers to requests -/
def ptrs (ys : List Nat) : List Value := ys.map fun b => .pointer (some ⟨b, 0, none⟩)

set_option maxRecDepth 100000 in
set_option maxHeartbeats 4000000 in
theorem conf25 (rb tr mr : Nat) (tx md : Nat → Nat) (o1 o2 : Option Addr) (a1 a2 : Addr) (n1 c1 n2 c2 : Nat) (L1 L2 : Nat → Option Nat) (hn1 : n1 ≤ 200000) (hn2 : n2 ≤ 200000) (w : World)
    (h1 : PtrsAt w o1 a1 n1 L1) (h2 : PtrsAt w o2 a2 n2 L2)
    (hL : Live w w.heap.size rb tr mr tx md (fun b => (∃ i, i < n1 ∧ L1 i = some b) ∨ (∃ i, i < n2 ∧ L2 i = some b))) (ys : List Nat)
    (hys : ys = yl (fun b => waits tr mr (tx b) (md b)) L1 n1 ++ yl (fun b => waits tr mr (tx b) (md b)) L2 n2) :
    Calls Tryd.prog 25 #[.pointer (some ⟨rb, 0, none⟩), .slice o1 n1 c1, .slice o2 n2 c2] w fun e W' => ∃ v, e = .returned v ∧ W'.ownsRow (w.heap.size + 3) 39 1 v ys.length (ptrs ys) ∧ Below w.heap.size w W' := by
  refine (callsIn_wide (n := 5)).1 ?_
  obtain ⟨i0, hi, hz0, hz1, hz2⟩ := info_parts info39
  refine callsIn_of_wp_marks Tryd.func25 rfl trivial ?_ rfl
  simp only [Tryd.ntmps25, List.size_toArray, List.length_cons, List.length_nil, Nat.reduceAdd, Nat.reduceSub, Array.replicate_succ, Array.replicate_zero, List.push_toArray, List.append_toArray, List.nil_append, List.cons_append]
  have hfn := eqlFn
  gi_wp2
  refine ⟨trivial, (conf39_in 4 o1 o2 n1 c1 n2 c2 rb _).mono ?_⟩
  rintro e w' ⟨rfl, rfl⟩
  gi_wp2
  have bR := Boxed.new w 39 (.pointer (some ⟨rb, 0, none⟩))
  have bG := Boxed.new (w.alloc (.cells #[.pointer (some ⟨rb, 0, none⟩)] 39)) 38 (.slice o1 n1 c1)
  have bA := Boxed.new ((w.alloc (.cells #[.pointer (some ⟨rb, 0, none⟩)] 39)).alloc (.cells #[.slice o1 n1 c1] 38)) 38 (.slice o2 n2 c2)
  have bO := Boxed.new (((w.alloc (.cells #[.pointer (some ⟨rb, 0, none⟩)] 39)).alloc (.cells #[.slice o1 n1 c1] 38)).alloc (.cells #[.slice o2 n2 c2] 38)) 38 (.slice none 0 0)
  replace bR := ((bR.alloc (.cells #[.slice o1 n1 c1] 38)).alloc (.cells #[.slice o2 n2 c2] 38)).alloc (.cells #[.slice none 0 0] 38)
  replace bG := (bG.alloc (.cells #[.slice o2 n2 c2] 38)).alloc (.cells #[.slice none 0 0] 38)
  replace bA := bA.alloc (.cells #[.slice none 0 0] 38)
  have hB0 : Below w.heap.size w ((((w.alloc (.cells #[.pointer (some ⟨rb, 0, none⟩)] 39)).alloc (.cells #[.slice o1 n1 c1] 38)).alloc (.cells #[.slice o2 n2 c2] 38)).alloc (.cells #[.slice none 0 0] 38)) := ((((Below.refl _ w).alloc (Nat.le_refl _) _).alloc (by simp) _).alloc (by simp; omega) _).alloc (by simp; omega) _
  have hsz : ((((w.alloc (.cells #[.pointer (some ⟨rb, 0, none⟩)] 39)).alloc (.cells #[.slice o1 n1 c1] 38)).alloc (.cells #[.slice o2 n2 c2] 38)).alloc (.cells #[.slice none 0 0] 38)).heap.size = w.heap.size + 1 + 1 + 1 + 1 := by simp
  simp only [World.size_alloc] at bR bG bA bO
  have p1 := h1.below hB0 (fun h => (h1.some h).2)
  have p2 := h2.below hB0 (fun h => (h2.some h).2)
  have hL0 := hL.below hB0
  have q1 : 0 < n1 → a1.block < w.heap.size + 1 + 1 + 1 := fun h => by have := (h1.some h).2; omega
  have q2 : 0 < n2 → a2.block < w.heap.size + 1 + 1 + 1 := fun h => by have := (h2.some h).2; omega
  have hL1 := hL0.more (show w.heap.size ≤ w.heap.size + 1 + 1 + 1 by omega)
  generalize ((((w.alloc (.cells #[.pointer (some ⟨rb, 0, none⟩)] 39)).alloc (.cells #[.slice o1 n1 c1] 38)).alloc (.cells #[.slice o2 n2 c2] 38)).alloc (.cells #[.slice none 0 0] 38)) = wB at *
  refine wpIn_rangeFunc_ownG rfl (by decide) (gf := 45) (lb := #[.pointer (some ⟨w.heap.size + 1, 0, none⟩), .pointer (some ⟨w.heap.size + 1 + 1, 0, none⟩), .pointer (some ⟨w.heap.size, 0, none⟩)]) rfl trivial (enters_of Tryd.func45 (by kernel_rfl) rfl)
    (iter_stops 4 (w.heap.size + 1) (w.heap.size + 1 + 1) w.heap.size (w.heap.size + 1 + 1 + 1) rb tr mr tx md o1 o2 a1 a2 n1 c1 n2 c2 L1 L2 hn1 hn2 wB (by omega) bG.cell bA.cell bR.cell (by omega) (by omega) (by omega) p1 p2 q1 q2 hL1) belowK_t (belowK_b (by omega)) (Below.refl _ _) (fun _ => rfl)
    (fun pre W => (∃ v, Boxed W (w.heap.size + 1 + 1 + 1) 38 v ∧ W.ownsRow (w.heap.size + 1 + 1 + 1) 39 1 v pre.length (ptrs pre) ∧ True) ∧ Below (w.heap.size + 1 + 1 + 1) wB W)
    (fun _ _ _ => False)
    (OwnFrom.and (Own.from (holdsRow_own (w.heap.size + 1 + 1 + 1) (w.heap.size + 1 + 1 + 1) 38 39 1 (fun pre => pre.length) (fun pre => ptrs pre) (fun pre v => True)) _) (ownFrom_below (by omega) (by omega)))
    (fun _ _ _ _ _ hs _ _ => hs)
    ⟨⟨_, bO, World.ownsRow_nil _ _ _ _, trivial⟩, Below.refl _ _⟩
    (fun x => { tmps := #[.pointer (some ⟨rb, 0, none⟩), .slice o1 n1 c1, .slice o2 n2 c2, undef, undef, undef, .slice none 0 0,
      .func (.func 45) #[] #[.pointer (some ⟨w.heap.size + 1, 0, none⟩), .pointer (some ⟨w.heap.size + 1 + 1, 0, none⟩), .pointer (some ⟨w.heap.size, 0, none⟩)],
      .pointer (some ⟨w.heap.size + 1 + 1 + 1, 0, none⟩), .pointer (some ⟨x, 0, none⟩), .pointer (some ⟨rb, 0, none⟩), .slice o1 n1 c1, .slice o2 n2 c2,
      .func (.func 45) #[] #[.pointer (some ⟨w.heap.size + 1, 0, none⟩), .pointer (some ⟨w.heap.size + 1 + 1, 0, none⟩), .pointer (some ⟨w.heap.size, 0, none⟩)],
      .func (.func 45) #[] #[.pointer (some ⟨w.heap.size + 1, 0, none⟩), .pointer (some ⟨w.heap.size + 1 + 1, 0, none⟩), .pointer (some ⟨w.heap.size, 0, none⟩)], .bool false, undef,
      .func (.func 45) #[] #[.pointer (some ⟨w.heap.size + 1, 0, none⟩), .pointer (some ⟨w.heap.size + 1 + 1, 0, none⟩), .pointer (some ⟨w.heap.size, 0, none⟩)], .pointer (some ⟨x, 0, none⟩), undef, undef, undef, undef, undef], defers := [] }) ?assign ?body ?done ?stop
  case assign =>
    intro l x W K hK
    gi_wp2
    exact hK
  case body =>
    rintro l pre x W ⟨⟨v, hv, hrow, _⟩, hB⟩ hlt
    have hc := hv.cell
    have hml : (1000000 : Nat) ≤ maxLen := by decide
    gi_wp2_with (gi_at_builtin; refine wpListIn_append_own _ rfl _ _ 38 rfl (w.heap.size + 1 + 1 + 1) 39 i0 (.pointer none) 1 8 Tryd.underlying38 hi hz0 hz1 hz2 rfl (by decide) _ _ _ rfl (hrow.alloc _) ⟨W.heap.size, 0, none⟩ 1 1 [.pointer (some ⟨x, 0, none⟩)] rfl rfl (cell_one_new _ _ _) (by simp [Value.oneCell']) (by omega) (by omega) (by have := hB.size; simp; omega) ?_; intro v' w1 hown' hgrow _; obtain ⟨g', cap', rfl⟩ := ownsRow_succ hown'; obtain ⟨hv1, hv2, hr2, hk2, hb2⟩ := hv.appended (by decide) hrow (by have := hB.size; omega) (Nat.le_refl _) hown' hgrow; have hc1 := hv1.cell; have hf1 := hv1.frozen)
    exact ⟨hk2.from _, hb2, ⟨_, hv2, by simpa [ptrs] using hr2, trivial⟩, hB.trans hb2⟩
  case done =>
    rintro D zs W hD rfl ⟨⟨v, hv, hrow, _⟩, hB⟩ hK
    have hc := hv.cell
    gi_wp2
    refine ⟨by simp, .inl ⟨_, _, rfl, run_takeDeferred hK, ?_⟩⟩
    exact ⟨_, results_tmp rfl _ _ _, v, rfl, by rw [hys]; exact ownsRow_putObj hrow _ hK rfl, hB0.trans ((hB.mono (by omega)).trans (belowK_b (w := w) (Nat.le_refl _) W D _ _ (by omega) hK rfl rfl))⟩
  case stop =>
    rintro D c pre W _ _ h _
    exact h.elim
end Go.Proofs.Qxb6608630aDoor
