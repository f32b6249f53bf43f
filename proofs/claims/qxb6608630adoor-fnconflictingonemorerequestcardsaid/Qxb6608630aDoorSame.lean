import Derived.Test.Qxb6608630aDoorAsk
namespace Go.Proofs.Qxb6608630aDoor
open Go.RowKit
set_option linter.unusedSimpArgs false
set_option linter.unusedVariables false

theorem below_drew {B : Nat} {a w : World} (h : Below B a w) : Below B a w.drew := h.trans ⟨rfl, rfl, rfl, Nat.le_refl _, fun _ _ => rfl⟩

set_option maxRecDepth 100000 in
set_option maxHeartbeats 4000000 in
theorem same7 (o1 o2 : Option Addr) (a1 a2 : Addr) (n1 c1 n2 c2 rt rm : Nat) (T1 M1 T2 M2 : Nat → Nat) (N1 N2 : Nat → Bool) (w : World) (hl1 : n1 ≤ maxLen) (hl2 : n2 ≤ maxLen) (hrt : rt < 256) (hrm : rm < 256)
    (h1 : ReqsAt w o1 a1 n1 T1 M1 N1) (h2 : ReqsAt w o2 a2 n2 T2 M2 N2) (hT : TabAt w) (q1 : n1 ≤ 65536) (q2 : n2 ≤ 65536) (k : Nat) (hk : k ≤ n1 + n2) :
    Calls Tryd.prog 7 #[.int .u8 rt, .int .u8 rm, .slice o1 n1 c1, .slice o2 n2 c2, .int .i64 k] w fun e w' => e = .returned (.bool true) ∧ Below w.heap.size w w' := by
  have hv1 := valid20 o1 a1 n1 c1 T1 M1 N1 w q1 h1
  have hv2 := valid20 o2 a2 n2 c2 T2 M2 N2 w q2 h2
  have hmk := make38 (n1 + n2) (by omega)
  rw [show ((n1 + n2 : Nat) : Int) = (n1 : Int) + (n2 : Int) by omega] at hmk
  have hk' : (k : Int) ≤ (n1 : Int) + n2 := by omega
  go_enter Tryd.func7, Tryd.ntmps7
  go_wp2_with (first
    | (go_at_call 19; refine (bytes19 o1 o2 n1 c1 n2 c2 rt rm k w hl1 hl2).mono ?_; rintro e w' ⟨⟨b, rfl⟩, hw⟩; subst w'; cases b)
    | (go_at_call 20; with_reducible refine Calls.mono hv1 ?_; rintro e w' ⟨rfl, hw⟩; subst w'; cases hb1 : allLt M1 n1)
    | (go_at_call 20; with_reducible refine Calls.mono hv2 ?_; rintro e w' ⟨rfl, hw⟩; subst w'; cases hb2 : allLt M2 n2)
    | (go_at_call 21; refine (join21 o1 o2 a1 a2 n1 c1 n2 c2 T1 M1 T2 M2 N1 N2 _ q1 q2 h1 h2).mono ?_; rintro e w1 ⟨rfl, hbel, hq⟩))
  · go_ret
    exact ⟨rfl, Below.refl _ _⟩
  · go_ret
    exact ⟨rfl, Below.refl _ _⟩
  · go_ret
    exact ⟨rfl, Below.refl _ _⟩
  · have hM1 := (allLt_iff M1 n1).1 hb1
    have hM2 := (allLt_iff M2 n2).1 hb2
    have hMj : ∀ i, i < n1 + n2 → jn n1 M1 M2 i < 10 := fun i hi => by
      unfold jn
      by_cases h : i < n1
      · rw [if_pos h]; exact hM1 i h
      · rw [if_neg h]; exact hM2 _ (by omega)
    have hTj : ∀ i, i < n1 + n2 → jn n1 T1 T2 i < 256 := fun i hi => by
      unfold jn
      by_cases h : i < n1
      · rw [if_pos h]; exact h1.lt i h
      · rw [if_neg h]; exact h2.lt _ (by omega)
    clear hb1 hb2 hM1 hM2 hv1 hv2
    generalize jn n1 T1 T2 = T at *
    generalize jn n1 M1 M2 = M at *
    generalize jn n1 N1 N2 = N at *
    have hTab1 : TabAt w1 := fun x hx => (hbel.cell (p := ⟨0, x * 4 + 1, none⟩) (World.block_lt_of_cell? _ _ (hT x hx))).trans (hT x hx)
    go_loopw [14] (fun i wr => ∃ (j : Nat) (P L : Nat → Option Nat), j ≤ n1 + n2 ∧ i = .int .i64 j ∧ Below w1.heap.size w1 wr ∧ PRow wr (w1.heap.size + 1) (n1 + n2) (fun i => if i < j then L i else none) ∧ Built wr w1.heap.size P j T M N L (w1.heap.size + 1 + 1))
      (fun i _ => n1 + n2 - (intOf i).toNat)
    case atStart =>
      have p0 := PRow.made (w1.alloc (.cells Tryd.zeroCells37 37)) (n1 + n2)
      have t0 := (TxAt.zero w1).kept (World.grownBy_alloc (w1.alloc (.cells Tryd.zeroCells37 37)) (.cells (madeCells #[.pointer none] (n1 + n2)) 39) none) (by simp) (fun _ _ e => by cases e)
      rw [World.size_alloc] at p0
      exact ⟨0, _, fun _ => none, Nat.zero_le _, rfl, ((Below.refl _ _).alloc (Nat.le_refl _) _).alloc (by simp) _, p0.congr (fun i _ => by simp), Built.zero t0 _ _ _ _ _⟩
    case round =>
      obtain ⟨j, P, L, hj, rfl, hnx, hp, hbt⟩ := hrel
      have hQ := hq.kept (w' := wr) (hnx.block _ hq.lt)
      have hqs := hq.lt
      by_cases hlt : j < n1 + n2
      · obtain ⟨s1, s2, s3⟩ := hQ.cells hlt
        have hlt' : (j : Int) < (n1 : Int) + n2 := by omega
        go_wp2_with (go_at_call 22; refine (build22 _ P (T j) (M j) (N j) _ (hTj j hlt) hbt.tx).mono ?_; rintro e w2 ⟨R, P', rfl, hT2, hmono, hg2, hRn, hRs⟩; obtain ⟨rv, hrv⟩ : ∃ x, ptr R = .pointer x := ⟨_, rfl⟩; rw [hrv]; have hp2 := hp.kept (w' := w2) (hg2.block _ hp.lt (by simp)); have hc2 := hp2.cell hlt; have hf2 := hp2.free j; rw [if_neg (Nat.lt_irrefl j)] at hc2; change _ = some (Value.pointer none) at hc2)
        have hb2 := (hbt.grow (by omega) hT2 hmono hg2).snoc R hRn (fun e => by
          obtain ⟨b, τ, x1, x2, x3, x4⟩ := hRs e
          exact ⟨b, τ, x1, x2, x3, by have := hnx.size; have := hp.lt; omega⟩)
        have hb3 := hb2.other (w' := w2.setCell ⟨w1.heap.size + 1, j, none⟩ (ptr R)) (A := w1.heap.size + 1) (by omega) (by omega) hp2.not_tx (grownBy_setAt _ _ _ _)
        have hp3 := hp2.set hlt R
        rw [hrv] at hb3 hp3
        go_roundw
        case rel => exact ⟨j + 1, P', _, by omega, by go_num, (hnx.grown hg2 (by have := hnx.size; omega) (fun k e => by cases e; omega)).setCell (by show _ ≤ w1.heap.size + 1; omega) _, hp3.congr (fun i hi => by
          by_cases e : i = j
          · subst e; simp
          · by_cases e2 : i < j
            · have : i < j + 1 := by omega
              simp [e, e2, this]
            · have : ¬ i < j + 1 := by omega
              simp [e, e2, this]), hb3⟩
        case measure => simp [intOf]; omega
      · obtain rfl : j = n1 + n2 := by omega
        clear hlt hj
        go_wp2_with (first
          | (go_at_call 24; refine (txOf24 _ P rt _ hrt hbt.tx).mono ?_; rintro e w2 ⟨tr, P', rfl, hT2, hPr, hmono, hg2⟩)
          | (go_at_call 23; refine (newReq23 tr rm _).mono ?_; rintro e w3 ⟨rfl, rfl⟩))
        have hgA := World.grownBy_alloc w2 (.cells (reqCells tr rm) 64) (some w1.heap.size)
        have hgN := World.grownBy_alloc w2 (.cells (reqCells tr rm) 64) none
        have hrq : IsReq (w2.alloc (.cells (reqCells tr rm) 64)) w2.heap.size tr rm := heap_alloc_new w2 _
        have hb3 := (hbt.grow (by omega) hT2 hmono hg2).grow (by omega) (hT2.kept hgN (by simp) (fun _ _ _ => by simp)) (fun _ _ e => e) hgA
        have hp3 := ((hp.kept (w' := w2) (hg2.block _ hp.lt (by simp))).kept (w' := w2.alloc (.cells (reqCells tr rm) 64)) (hgN.block _ (Nat.lt_of_lt_of_le hp.lt hg2.size) (by simp))).congr (L' := L) (fun i hi => by simp [hi])
        have hnx3 : Below w1.heap.size w1 (w2.alloc (.cells (reqCells tr rm) 64)) := (hnx.grown hg2 (by have := hnx.size; omega) (fun k e => by cases e; omega)).alloc (by have := hnx.size; have := hg2.size; omega) _
        have hQ3 := hq.kept (hnx3.block _ hq.lt)
        have hT3 : TabAt (w2.alloc (.cells (reqCells tr rm) 64)) := fun x hx => (hnx3.cell (p := ⟨0, x * 4 + 1, none⟩) (World.block_lt_of_cell? _ _ (hTab1 x hx))).trans (hTab1 x hx)
        have hbw := hbel.trans (hnx3.mono hbel.size)
        generalize w2.alloc (.cells (reqCells tr rm) 64) = w3 at *
        generalize w2.heap.size = rb at *
        have hLv := hb3.live (rt := rt) hT3 hMj hrq hPr hrm
        have hcc := fun g hg w' hw => confLater (w1.heap.size + 1) (n1 + n2) rb tr rm _ _ L w3 (by omega) hp3 hLv g hg w' hw
        have hh := fun (i : Nat) (hi : i < n1 + n2) => hb3.hits (rm := rm) hPr hi
        have hir := fun (i b : Nat) (hi : i < n1 + n2) (e : L i = some b) => hb3.isreq hi e
        generalize (fun b => (txm w3 b).1) = tx at *
        have hcl := fun g hg => cutLow (w1.heap.size + 1) (n1 + n2) g hg
        have hch := fun g hg => cutHigh (w1.heap.size + 1) (n1 + n2) g hg
        have cl1 := hcl n1 (by omega)
        have ch1 := hch n1 (by omega)
        have cl2 := hcl k hk
        have ch2 := hch k hk
        clear hcl hch
        have hc1 := hcc n1 (by omega)
        have hc2 := hcc k hk
        rw [Nat.add_sub_cancel_left] at ch1 hc1
        clear hcc
        go_region_with (go_at_call 25; with_reducible refine Calls.mono (hc1 _ (⟨rfl, rfl, rfl, Nat.le_refl _, fun _ _ => rfl⟩)) ?_; rintro e w4 ⟨oo1, ga1, co1, rfl, hg1, hb4⟩)
        have hb34 : Below w3.heap.size w3 w4 := Below.trans (show Below w3.heap.size w3 w3.drew from ⟨rfl, rfl, rfl, Nat.le_refl _, fun _ _ => rfl⟩) hb4
        clear hb4 hc1 cl1 ch1
        go_wp2_with fail
        go_region_with (go_at_call 25; with_reducible refine Calls.mono (hc2 _ (below_drew hb34)) ?_; rintro e w5 ⟨oo2, ga2, co2, rfl, hg2', hb5⟩)
        have hb45 : Below w4.heap.size w4 w5 := Below.trans (show Below w4.heap.size w4 w4.drew from ⟨rfl, rfl, rfl, Nat.le_refl _, fun _ _ => rfl⟩) hb5
        have hb35 := hb34.trans (hb45.mono hb34.size)
        clear hb5 hc2 cl2 ch2
        have hG1 := hg1.below hb45 (fun h => (hg1.some h).2)
        have hp5 := hp3.kept (hb35.block _ hp3.lt)
        have hQ5 := hQ3.kept (hb35.block _ hQ3.lt)
        have hbw5 := hbw.trans (hb35.mono hbw.size)
        have hir5 : ∀ i b, i < n1 + n2 → L i = some b → ∃ x y, IsReq w5 b x y := fun i b hi e => by
          obtain ⟨x, y, hr⟩ := hir i b hi e
          exact ⟨x, y, hr.below hb35 (lt_of_block hr)⟩
        have hyl := yl_le (fun b => waits tr rm (txm w3 b).fst (txm w3 b).snd) L (n1 + n2)
        have hmem := fun b (hb : b ∈ yl (fun b => waits tr rm (txm w3 b).fst (txm w3 b).snd) L (n1 + n2)) => (yl_mem hb).2
        have hf26 := filter26 oo1 (some ⟨w1.heap.size + 1, 0, none⟩) (some ⟨w.heap.size, 0, none⟩) ga1 ⟨w1.heap.size + 1, 0, none⟩ ⟨w.heap.size, 0, none⟩ _ co1 (n1 + n2) (n1 + n2) (n1 + n2) _ L T M N rt rm _ w5 (by omega) hG1 (hp5.low (Nat.le_refl _)) (hQ5.reqs hTj (fun i hi => Nat.lt_trans (hMj i hi) (by decide))) hMj hrt hrm hh rfl (fun _ _ => rfl) hir5
        generalize yl (fun b => waits tr rm (txm w3 b).fst (txm w3 b).snd) L (n1 + n2) = ys at *
        have hs27 : ∀ w6, Below w5.heap.size w5 w6 → Calls Tryd.prog 27 #[.slice oo1 ys.length co1, .slice oo2 ys.length co2] w6 fun e w' => e = .returned (.bool true) ∧ Below w6.heap.size w6 w' := fun w6 h6 => by
          refine same27 oo1 oo2 ga1 ga2 ys.length co1 co2 (fun i => ys[i]?) w6 (by omega) (hG1.below h6 (fun h => (hG1.some h).2)) (hg2'.below h6 (fun h => (hg2'.some h).2)) fun i b hi e => ?_
          obtain ⟨i', hi', e'⟩ := hmem b (List.mem_of_getElem? e)
          obtain ⟨x, y, hr⟩ := hir5 i' b hi' e'
          exact ⟨x, y, hr.below h6 (lt_of_block hr)⟩
        go_wp2_with (first
          | (go_at_call 26; with_reducible refine Calls.mono hf26 ?_; rintro e w6 ⟨rfl, hb6⟩)
          | (go_at_call 27; with_reducible refine Calls.mono (hs27 _ hb6) ?_; rintro e w7 ⟨rfl, hb7⟩))
        go_ret
        exact ⟨rfl, (hbw5.trans (hb6.mono hbw5.size)).trans (hb7.mono (by have := hbw5.size; have := hb6.size; omega))⟩

set_option maxRecDepth 100000 in
set_option maxHeartbeats 1000000 in
theorem law7 (o1 o2 : Option Addr) (a1 a2 : Addr) (n1 c1 n2 c2 rt rm : Nat) (kk : Int) (T1 M1 T2 M2 : Nat → Nat) (N1 N2 : Nat → Bool) (w : World) (hl1 : n1 ≤ maxLen) (hl2 : n2 ≤ maxLen) (hrt : rt < 256) (hrm : rm < 256)
    (h1 : ReqsAt w o1 a1 n1 T1 M1 N1) (h2 : ReqsAt w o2 a2 n2 T2 M2 N2) (hT : TabAt w) :
    Calls Tryd.prog 7 #[.int .u8 rt, .int .u8 rm, .slice o1 n1 c1, .slice o2 n2 c2, .int .i64 kk] w fun e w' => e = .returned (.bool true) ∧ Below w.heap.size w w' := by
  have hby := bytes19 o1 o2 n1 c1 n2 c2 rt rm kk w hl1 hl2
  have hm1 := hl1
  have hm2 := hl2
  unfold maxLen at hm1 hm2
  by_cases q1 : n1 ≤ 65536
  · by_cases q2 : n2 ≤ 65536
    · by_cases q3 : 0 ≤ kk
      · by_cases q4 : kk ≤ (n1 : Int) + n2
        · obtain ⟨k, rfl⟩ := Int.eq_ofNat_of_zero_le q3
          exact same7 o1 o2 a1 a2 n1 c1 n2 c2 rt rm T1 M1 T2 M2 N1 N2 w hl1 hl2 hrt hrm h1 h2 hT q1 q2 k (by omega)
        · go_enter Tryd.func7, Tryd.ntmps7
          go_wp2_with (go_at_call 19; with_reducible refine Calls.mono hby ?_; rintro e w' ⟨⟨b, rfl⟩, hw⟩; subst w'; cases b)
          · go_ret
            exact ⟨rfl, Below.refl _ _⟩
          · go_ret
            exact ⟨rfl, Below.refl _ _⟩
      · go_enter Tryd.func7, Tryd.ntmps7
        go_wp2_with (go_at_call 19; with_reducible refine Calls.mono hby ?_; rintro e w' ⟨⟨b, rfl⟩, hw⟩; subst w'; cases b)
        · go_ret
          exact ⟨rfl, Below.refl _ _⟩
        · go_ret
          exact ⟨rfl, Below.refl _ _⟩
    · go_enter Tryd.func7, Tryd.ntmps7
      go_wp2_with (go_at_call 19; with_reducible refine Calls.mono hby ?_; rintro e w' ⟨⟨b, rfl⟩, hw⟩; subst w'; cases b)
      · go_ret
        exact ⟨rfl, Below.refl _ _⟩
      · go_ret
        exact ⟨rfl, Below.refl _ _⟩
  · go_enter Tryd.func7, Tryd.ntmps7
    go_wp2_with (go_at_call 19; with_reducible refine Calls.mono hby ?_; rintro e w' ⟨⟨b, rfl⟩, hw⟩; subst w'; cases b)
    · go_ret
      exact ⟨rfl, Below.refl _ _⟩
    · go_ret
      exact ⟨rfl, Below.refl _ _⟩
end Go.Proofs.Qxb6608630aDoor
