/-
  FnConflictingOneMoreRequest (f8), the request put into granted.
-/
import Derived.Test.Qxb6608630aDoorPut
namespace Go.Proofs.Qxb6608630aDoor
open Go.RowKit
set_option linter.unusedSimpArgs false
set_option linter.unusedVariables false

set_option maxRecDepth 100000 in
set_option maxHeartbeats 16000000 in
theorem more8f (o1 o2 : Option Addr) (a1 a2 : Addr) (n1 c1 n2 c2 rt rm xt xm : Nat) (xn : Bool) (T1 M1 T2 M2 : Nat → Nat) (N1 N2 : Nat → Bool) (w : World) (hl1 : n1 ≤ maxLen) (hl2 : n2 ≤ maxLen) (hrt : rt < 256) (hrm : rm < 256) (hxt : xt < 256)
    (h1 : ReqsAt w o1 a1 n1 T1 M1 N1) (h2 : ReqsAt w o2 a2 n2 T2 M2 N2) (hT : TabAt w) (q1 : n1 ≤ 65536) (q2 : n2 ≤ 65536) (hxm : xm < 10) (p : Nat) (hp0 : p ≤ n1) :
    Calls Tryd.prog 8 #[.int .u8 rt, .int .u8 rm, .slice o1 n1 c1, .slice o2 n2 c2, .agg #[.int .u8 xt, .int .u8 xm, .bool xn], .bool false, .int .i64 p] w fun e w' => e = .returned (.bool true) ∧ Below w.heap.size w w' := by
  have hpos : p ≤ n1 + n2 := by omega
  have hb0 : Below w.heap.size w ((w.alloc (.cells #[.int .u8 xt, .int .u8 xm, .bool xn] 43)).alloc (.cells #[.int .u8 xt, .int .u8 xm, .bool xn] 43)) := ((Below.refl _ w).alloc (Nat.le_refl _) _).alloc (by simp) _
  have hz0 : ((w.alloc (.cells #[.int .u8 xt, .int .u8 xm, .bool xn] 43)).alloc (.cells #[.int .u8 xt, .int .u8 xm, .bool xn] 43)).heap.size = w.heap.size + 1 + 1 := by simp
  have hblk : ((w.alloc (.cells #[.int .u8 xt, .int .u8 xm, .bool xn] 43)).alloc (.cells #[.int .u8 xt, .int .u8 xm, .bool xn] 43)).heap[w.heap.size]? = some (.cells #[.int .u8 xt, .int .u8 xm, .bool xn] 43 (0, 0)) := (Below.heap_alloc _ _ _ (by simp)).trans (heap_alloc_new w _)
  have hx0 : ((w.alloc (.cells #[.int .u8 xt, .int .u8 xm, .bool xn] 43)).alloc (.cells #[.int .u8 xt, .int .u8 xm, .bool xn] 43)).cell? ⟨w.heap.size, 0, none⟩ = some (.int .u8 xt) := by simp [World.cell?, hblk]
  have hx1 : ((w.alloc (.cells #[.int .u8 xt, .int .u8 xm, .bool xn] 43)).alloc (.cells #[.int .u8 xt, .int .u8 xm, .bool xn] 43)).cell? ⟨w.heap.size, 1, none⟩ = some (.int .u8 xm) := by simp [World.cell?, hblk]
  have hx2 : ((w.alloc (.cells #[.int .u8 xt, .int .u8 xm, .bool xn] 43)).alloc (.cells #[.int .u8 xt, .int .u8 xm, .bool xn] 43)).cell? ⟨w.heap.size, 2, none⟩ = some (.bool xn) := by simp [World.cell?, hblk]
  clear hblk
  have h1' := h1.below hb0
  have h2' := h2.below hb0
  have hT0 : TabAt ((w.alloc (.cells #[.int .u8 xt, .int .u8 xm, .bool xn] 43)).alloc (.cells #[.int .u8 xt, .int .u8 xm, .bool xn] 43)) := fun x hx => (hb0.cell (p := ⟨0, x * 4 + 1, none⟩) (World.block_lt_of_cell? _ _ (hT x hx))).trans (hT x hx)
  have hby := bytes28 o1 o2 n1 c1 n2 c2 rt rm xt xm xn false p (w.alloc (.cells #[.int .u8 xt, .int .u8 xm, .bool xn] 43)) hl1 hl2
  have hv1 := valid20 o1 a1 n1 c1 T1 M1 N1 ((w.alloc (.cells #[.int .u8 xt, .int .u8 xm, .bool xn] 43)).alloc (.cells #[.int .u8 xt, .int .u8 xm, .bool xn] 43)) q1 h1'
  have hv2 := valid20 o2 a2 n2 c2 T2 M2 N2 ((w.alloc (.cells #[.int .u8 xt, .int .u8 xm, .bool xn] 43)).alloc (.cells #[.int .u8 xt, .int .u8 xm, .bool xn] 43)) q2 h2'
  have hjn := join21 o1 o2 a1 a2 n1 c1 n2 c2 T1 M1 T2 M2 N1 N2 ((w.alloc (.cells #[.int .u8 xt, .int .u8 xm, .bool xn] 43)).alloc (.cells #[.int .u8 xt, .int .u8 xm, .bool xn] 43)) q1 q2 h1' h2'
  have hmk := make38 (n1 + n2) (by omega)
  rw [show ((n1 + n2 : Nat) : Int) = (n1 : Int) + (n2 : Int) by omega] at hmk
  have hp' : (p : Int) ≤ (n1 : Int) := by omega
  have hxmi : (xm : Int) < 10 := by omega
  go_enter Tryd.func8, Tryd.ntmps8
  go_wp2_with (first
    | (go_at_call 28; with_reducible refine Calls.mono hby ?_; rintro e w' ⟨⟨b, rfl⟩, hw⟩; subst w'; cases b)
    | (go_at_call 20; with_reducible refine Calls.mono hv1 ?_; rintro e w' ⟨rfl, hw⟩; subst w'; cases hb1 : allLt M1 n1)
    | (go_at_call 20; with_reducible refine Calls.mono hv2 ?_; rintro e w' ⟨rfl, hw⟩; subst w'; cases hb2 : allLt M2 n2)
    | (go_at_call 21; with_reducible refine Calls.mono hjn ?_; rintro e w1 ⟨rfl, hbel, hq⟩))
  · go_ret
    exact ⟨rfl, hb0⟩
  · go_ret
    exact ⟨rfl, hb0⟩
  · go_ret
    exact ⟨rfl, hb0⟩
  · have hM1 := (allLt_iff M1 n1).1 hb1
    have hM2 := (allLt_iff M2 n2).1 hb2
    have hMj : ∀ i, i < n1 + n2 → jn n1 M1 M2 i < 10 := fun i hi => by
      unfold jn
      by_cases h : i < n1
      · rw [if_pos h]; exact hM1 i h
      · rw [if_neg h]; exact hM2 _ (by omega)
    have hTj : ∀ i, i < n1 + n2 → jn n1 T1 T2 i < 256 := fun i hi => by
      unfold jn
      by_cases h : i < n1
      · rw [if_pos h]; exact h1.lt i h
      · rw [if_neg h]; exact h2.lt _ (by omega)
    obtain ⟨T, hTe, hTn⟩ : ∃ T : Nat → Nat, (∀ i, i < n1 + n2 → T i = jn n1 T1 T2 i) ∧ T (n1 + n2) = xt := ⟨fun i => if i < n1 + n2 then jn n1 T1 T2 i else xt, fun i hi => by simp [hi], by simp⟩
    obtain ⟨M, hMe, hMn⟩ : ∃ M : Nat → Nat, (∀ i, i < n1 + n2 → M i = jn n1 M1 M2 i) ∧ M (n1 + n2) = xm := ⟨fun i => if i < n1 + n2 then jn n1 M1 M2 i else xm, fun i hi => by simp [hi], by simp⟩
    obtain ⟨N, hNe, hNn⟩ : ∃ N : Nat → Bool, (∀ i, i < n1 + n2 → N i = jn n1 N1 N2 i) ∧ N (n1 + n2) = xn := ⟨fun i => if i < n1 + n2 then jn n1 N1 N2 i else xn, fun i hi => by simp [hi], by simp⟩
    replace hq := hq.congr (T' := T) (M' := M) (N' := N) (fun i hi => ⟨(hTe i hi).symm, (hMe i hi).symm, (hNe i hi).symm⟩)
    replace hTj : ∀ i, i < n1 + n2 → T i < 256 := fun i hi => by rw [hTe i hi]; exact hTj i hi
    replace hMj : ∀ i, i < n1 + n2 + 1 → M i < 10 := fun i hi => by
      by_cases h : i < n1 + n2
      · rw [hMe i h]; exact hMj i h
      · rw [show i = n1 + n2 by omega, hMn]; exact hxm
    clear hb1 hb2 hM1 hM2 hv1 hv2 hjn hby hTe hMe hNe
    have hwx : w.heap.size < ((w.alloc (.cells #[.int .u8 xt, .int .u8 xm, .bool xn] 43)).alloc (.cells #[.int .u8 xt, .int .u8 xm, .bool xn] 43)).heap.size := by omega
    have hTab1 : TabAt w1 := fun x hx => (hbel.cell (p := ⟨0, x * 4 + 1, none⟩) (World.block_lt_of_cell? _ _ (hT0 x hx))).trans (hT0 x hx)
    replace hx0 := (hbel.cell (p := ⟨w.heap.size, 0, none⟩) hwx).trans hx0
    replace hx1 := (hbel.cell (p := ⟨w.heap.size, 1, none⟩) hwx).trans hx1
    replace hx2 := (hbel.cell (p := ⟨w.heap.size, 2, none⟩) hwx).trans hx2
    replace hbel := hb0.trans (hbel.mono hb0.size)
    have hqs := hq.lt
    rw [hz0] at hq hqs
    clear hT0 h1' h2' hz0 hwx hb0
    have hxlt : w.heap.size < w1.heap.size := by omega
    go_loopw [19] (fun i wr => ∃ (j : Nat) (P L : Nat → Option Nat), j ≤ n1 + n2 ∧ i = .int .i64 j ∧ Below w1.heap.size w1 wr ∧ PRow wr (w1.heap.size + 1) (n1 + n2) (fun i => if i < j then L i else none) ∧ Built wr w1.heap.size P j T M N L (w1.heap.size + 1 + 1))
      (fun i _ => n1 + n2 - (intOf i).toNat)
    case atStart =>
      have p0 := PRow.made (w1.alloc (.cells Tryd.zeroCells37 37)) (n1 + n2)
      have t0 := (TxAt.zero w1).kept (World.grownBy_alloc (w1.alloc (.cells Tryd.zeroCells37 37)) (.cells (madeCells #[.pointer none] (n1 + n2)) 39) none) (by simp) (fun _ _ e => by cases e)
      rw [World.size_alloc] at p0
      exact ⟨0, _, fun _ => none, Nat.zero_le _, rfl, ((Below.refl _ _).alloc (Nat.le_refl _) _).alloc (by simp) _, p0.congr (fun i _ => by simp), Built.zero t0 _ _ _ _ _⟩
    case round =>
      obtain ⟨j, P, L, hj, rfl, hnx, hp, hbt⟩ := hrel
      have hQ := hq.kept (w' := wr) (hnx.block _ hqs)
      by_cases hlt : j < n1 + n2
      · obtain ⟨s1, s2, s3⟩ := hQ.cells hlt
        have hlt' : (j : Int) < (n1 : Int) + n2 := by omega
        go_wp2_with (go_at_call 22; refine (build22 _ P (T j) (M j) (N j) _ (hTj j hlt) hbt.tx).mono ?_; rintro e w2 ⟨R, P', rfl, hT2, hmono, hg2, hRn, hRs⟩; obtain ⟨rv, hrv⟩ : ∃ x, ptr R = .pointer x := ⟨_, rfl⟩; rw [hrv]; have hp2 := hp.kept (w' := w2) (hg2.block _ hp.lt (by simp)); have hc2 := hp2.cell hlt; have hf2 := hp2.free j; rw [if_neg (Nat.lt_irrefl j)] at hc2; change _ = some (Value.pointer none) at hc2)
        have hb2 := (hbt.grow (by omega) hT2 hmono hg2).snoc R hRn (fun e => by
          obtain ⟨b, τ, x1, x2, x3, x4⟩ := hRs e
          exact ⟨b, τ, x1, x2, x3, by have := hnx.size; have := hp.lt; omega⟩)
        have hb3 := hb2.other (w' := w2.setCell ⟨w1.heap.size + 1, j, none⟩ (ptr R)) (A := w1.heap.size + 1) (by omega) (by omega) hp2.not_tx (grownBy_setAt _ _ _ _)
        have hp3 := hp2.set hlt R
        rw [hrv] at hb3 hp3
        go_roundw
        case rel => exact ⟨j + 1, P', _, by omega, by go_num, (hnx.grown hg2 (by have := hnx.size; omega) (fun k e => by cases e; omega)).setCell (by show _ ≤ w1.heap.size + 1; omega) _, hp3.congr (fun i hi => by
          by_cases e : i = j
          · subst e; simp
          · by_cases e2 : i < j
            · have : i < j + 1 := by omega
              simp [e, e2, this]
            · have : ¬ i < j + 1 := by omega
              simp [e, e2, this]), hb3⟩
        case measure => simp [intOf]; omega
      · obtain rfl : j = n1 + n2 := by omega
        clear hlt hj
        have hX0 := (hnx.cell (p := ⟨w.heap.size, 0, none⟩) hxlt).trans hx0
        have hX1 := (hnx.cell (p := ⟨w.heap.size, 1, none⟩) hxlt).trans hx1
        have hX2 := (hnx.cell (p := ⟨w.heap.size, 2, none⟩) hxlt).trans hx2
        have hmk2 := make38 (n1 + n2 + 1) (by omega)
        rw [show ((n1 + n2 + 1 : Nat) : Int) = (n1 : Int) + (n2 : Int) + 1 by omega] at hmk2
        go_wp2_with (first
          | (go_at_call 22; refine (build22 _ P xt xm xn _ hxt hbt.tx).mono ?_; rintro e w2 ⟨R, P2, rfl, hT2, hmono2, hg2, hRn, hRs⟩; obtain ⟨rv, hrv⟩ : ∃ x, ptr R = .pointer x := ⟨_, rfl⟩; rw [hrv])
          | (go_at_call 24; refine (txOf24 _ P2 rt _ hrt hT2).mono ?_; rintro e w3 ⟨tr, P3, rfl, hT3, hPr, hmono3, hg3⟩)
          | (go_at_call 23; refine (newReq23 tr rm _).mono ?_; rintro e w4 ⟨rfl, rfl⟩))
        have hgA := World.grownBy_alloc w3 (.cells (reqCells tr rm) 64) (some w1.heap.size)
        have hgN := World.grownBy_alloc w3 (.cells (reqCells tr rm) 64) none
        have hrq : IsReq (w3.alloc (.cells (reqCells tr rm) 64)) w3.heap.size tr rm := heap_alloc_new w3 _
        have hb2 := (hbt.grow (by omega) hT2 hmono2 hg2).snoc R (by rw [hNn]; exact hRn) (by
          rw [hNn]
          intro e
          obtain ⟨b, τ, x1, x2, x3, x4⟩ := hRs e
          exact ⟨b, τ, x1, by rw [hMn]; exact x2, by rw [hTn]; exact x3, by have := hnx.size; have := hp.lt; omega⟩)
        have hb4 := (hb2.grow (by omega) hT3 hmono3 hg3).grow (by omega) (hT3.kept hgN (by simp) (fun _ _ _ => by simp)) (fun _ _ e => e) hgA
        have hs23 := hg2.size
        have hs34 := hg3.size
        have hp4 := (((hp.kept (w' := w2) (hg2.block _ hp.lt (by simp))).kept (w' := w3) (hg3.block _ (Nat.lt_of_lt_of_le hp.lt hg2.size) (by simp))).kept (w' := w3.alloc (.cells (reqCells tr rm) 64)) (hgN.block _ (by have := hp.lt; omega) (by simp))).congr (L' := L) (fun i hi => by simp [hi])
        have hnx4 : Below w1.heap.size w1 (w3.alloc (.cells (reqCells tr rm) 64)) := ((hnx.grown hg2 (by have := hnx.size; omega) (fun k e => by cases e; omega)).grown hg3 (by have := hnx.size; omega) (fun k e => by cases e; omega)).alloc (by have := hnx.size; omega) _
        have hE0 : (w3.alloc (.cells (reqCells tr rm) 64)).heap.size = w3.heap.size + 1 := by simp
        have hpE := PRow.made (w3.alloc (.cells (reqCells tr rm) 64)) (n1 + n2 + 1)
        rw [hE0] at hpE
        have hbE := (Below.refl (w3.alloc (.cells (reqCells tr rm) 64)).heap.size (w3.alloc (.cells (reqCells tr rm) 64))).alloc (Nat.le_refl _) (.cells (madeCells #[.pointer none] (n1 + n2 + 1)) 39)
        generalize w3.alloc (.cells (reqCells tr rm) 64) = w4 at *
        generalize w3.heap.size = rb at *
        have hQ4 := hq.kept (w' := w4) (hnx4.block _ hqs)
        have hT4 : TabAt w4 := fun x hx => (hnx4.cell (p := ⟨0, x * 4 + 1, none⟩) (World.block_lt_of_cell? _ _ (hTab1 x hx))).trans (hTab1 x hx)
        have hX0 := (hnx4.cell (p := ⟨w.heap.size, 0, none⟩) hxlt).trans hx0
        have hX1 := (hnx4.cell (p := ⟨w.heap.size, 1, none⟩) hxlt).trans hx1
        have hX2 := (hnx4.cell (p := ⟨w.heap.size, 2, none⟩) hxlt).trans hx2
        have hbw := hbel.trans (hnx4.mono hbel.size)
        have hxl4 : w.heap.size < w4.heap.size := Nat.lt_of_lt_of_le hxlt hnx4.size
        have hLv := hb4.live (rt := rt) hT4 hMj hrq hPr hrm
        have hh := fun (i : Nat) (hi : i < n1 + n2 + 1) => hb4.hits (rm := rm) hPr hi
        have hir := fun (i b : Nat) (hi : i < n1 + n2 + 1) e => hb4.isreq (i := i) (b := b) hi e
        have hAne : w1.heap.size + 1 < rb + 1 := by have := hp4.lt; omega
        clear hQ hnx hp hbt hX0 hX1 hX2 hT2 hmono2 hg2 hRn hRs hT3 hmono3 hg3 hgA hgN hb2 hb4 hs23 hs34
        have hX0 := (hnx4.cell (p := ⟨w.heap.size, 0, none⟩) hxlt).trans hx0
        have hX1 := (hnx4.cell (p := ⟨w.heap.size, 1, none⟩) hxlt).trans hx1
        have hX2 := (hnx4.cell (p := ⟨w.heap.size, 2, none⟩) hxlt).trans hx2
        go_loopw [25] (fun i wr => ∃ j : Nat, j ≤ p ∧ i = .int .i64 j ∧ Below w4.heap.size w4 wr ∧ PRow wr (rb + 1) (n1 + n2 + 1) (fun i => if i < j then L i else none)) (fun i _ => p - (intOf i).toNat)
        case atStart => exact ⟨0, Nat.zero_le _, rfl, hbE, hpE.congr (fun i _ => by simp)⟩
        case round =>
          obtain ⟨j, hj, rfl, hnj, hpj⟩ := hrel
          have hpA := hp4.kept (w' := wr) (hnj.block _ hp4.lt)
          by_cases hlt : j < p
          · have hlt' : (j : Int) < (p : Int) := by omega
            have hjn : j < n1 + n2 := by omega
            have hjn1 : j < n1 + n2 + 1 := by omega
            have c1 := hpA.cell hjn
            have c2 := hpj.cell hjn1
            have f2 := hpj.free j
            rw [if_neg (Nat.lt_irrefl j)] at c2
            change _ = some (Value.pointer none) at c2
            have hset := hpj.set hjn1 (L j)
            obtain ⟨rj, hrj⟩ : ∃ x, ptr (L j) = .pointer x := ⟨_, rfl⟩
            rw [hrj] at c1 hset
            go_wp2
            go_roundw
            case rel => exact ⟨j + 1, by omega, by go_num, hnj.setCell (by show _ ≤ rb + 1; omega) _, hset.congr (fun i hi => by
              by_cases e : i = j
              · subst e; simp
              · by_cases e2 : i < j
                · have : i < j + 1 := by omega
                  simp [e, e2, this]
                · have : ¬ i < j + 1 := by omega
                  simp [e, e2, this])⟩
            case measure => simp [intOf]; omega
          · have hjp : j = p := by omega
            subst j
            clear hlt hj
            have hpn : p < n1 + n2 + 1 := by omega
            have hpI : (p : Int) < (n1 : Int) + n2 + 1 := by omega
            have hixP := ix38 ⟨rb + 1, 0, none⟩ (some ⟨rb + 1, 0, none⟩) (n1 + n2 + 1) (n1 + n2 + 1) p hpn rfl
            rw [show (⟨rb + 1, 0, none⟩ : Addr).add p = ⟨rb + 1, p, none⟩ by simp [Addr.add]; omega] at hixP
            rw [show ((p : Nat) : Int) = (p : Int) by omega] at hixP
            have c2 := hpj.cell hpn
            have f2 := hpj.free p
            rw [if_neg (Nat.lt_irrefl _)] at c2
            change _ = some (Value.pointer none) at c2
            have hset := hpj.set hpn R
            rw [hrv] at hset
            go_wp2
            go_loopw [26] (fun i wr => ∃ j : Nat, p ≤ j ∧ j ≤ n1 + n2 ∧ i = .int .i64 j ∧ Below w4.heap.size w4 wr ∧ PRow wr (rb + 1) (n1 + n2 + 1) (fun i => if i < j + 1 then putIn L R p i else none)) (fun i _ => n1 + n2 - (intOf i).toNat)
            case atStart => exact ⟨p, Nat.le_refl _, hpos, by go_num, hnj.setCell (by show _ ≤ rb + 1; omega) _, hset.congr (fun i hi => by
              by_cases e : i = p
              · subst e; simp [putIn]
              · by_cases e2 : i < p
                · have : i < p + 1 := by omega
                  simp [e, e2, this, putIn]
                · have : ¬ i < p + 1 := by omega
                  simp [e, e2, this])⟩
            case round =>
              clear hnj hpj c2 f2 hset hpA
              obtain ⟨j, hj1, hj2, rfl, hnj, hpj⟩ := hrel
              have hpA := hp4.kept (w' := wr) (hnj.block _ hp4.lt)
              by_cases hlt : j < n1 + n2
              · have hlt' : (j : Int) < (n1 : Int) + n2 := by omega
                have hjn1 : j + 1 < n1 + n2 + 1 := by omega
                have c1 := hpA.cell hlt
                have c2 := hpj.cell hjn1
                have f2 := hpj.free (j + 1)
                rw [if_neg (Nat.lt_irrefl (j + 1))] at c2
                change _ = some (Value.pointer none) at c2
                have hset := hpj.set hjn1 (L j)
                have hixJ := ix38 ⟨rb + 1, 0, none⟩ (some ⟨rb + 1, 0, none⟩) (n1 + n2 + 1) (n1 + n2 + 1) (j + 1) hjn1 rfl
                rw [show (⟨rb + 1, 0, none⟩ : Addr).add (j + 1) = ⟨rb + 1, j + 1, none⟩ by simp [Addr.add]] at hixJ
                rw [show ((j + 1 : Nat) : Int) = (j : Int) + 1 by omega] at hixJ
                obtain ⟨rj, hrj⟩ : ∃ x, ptr (L j) = .pointer x := ⟨_, rfl⟩
                rw [hrj] at c1 hset
                go_wp2
                go_roundw
                case rel => exact ⟨j + 1, by omega, by omega, by go_num, hnj.setCell (by show _ ≤ rb + 1; omega) _, hset.congr (fun i hi => by
                  by_cases e : i = j + 1
                  · subst e
                    have : j + 1 < j + 1 + 1 := by omega
                    simp [this, putIn_hi hj1]
                  · by_cases e2 : i < j + 1
                    · have : i < j + 1 + 1 := by omega
                      simp [e, e2, this]
                    · have : ¬ i < j + 1 + 1 := by omega
                      simp [e, e2, this])⟩
                case measure => simp [intOf]; omega
              · obtain rfl : j = n1 + n2 := by omega
                clear hlt hj1 hj2 hpA
                replace hpj := hpj.congr (L' := putIn L R p) (fun i hi => by simp [hi])
                go_wp2
                have hEb : ∀ i b, i < n1 + n2 + 1 → putIn L R p i = some b → ∃ i', i' < n1 + n2 + 1 ∧ (if i' = n1 + n2 then R else L i') = some b := fun i b hi e => by
                  by_cases e1 : i < p
                  · rw [putIn_lo e1] at e
                    exact ⟨i, hi, by rw [if_neg (by omega)]; exact e⟩
                  · by_cases e2 : i = p
                    · subst e2
                      rw [putIn_at] at e
                      exact ⟨n1 + n2, by omega, by simpa using e⟩
                    · obtain ⟨i', rfl⟩ : ∃ i', i = i' + 1 := ⟨i - 1, by omega⟩
                      rw [putIn_hi (by omega)] at e
                      exact ⟨i', by omega, by rw [if_neg (by omega)]; exact e⟩
                have hLb : ∀ i b, i < n1 + n2 → L i = some b → ∃ i', i' < n1 + n2 + 1 ∧ (if i' = n1 + n2 then R else L i') = some b := fun i b hi e => ⟨i, by omega, by rw [if_neg (by omega)]; exact e⟩
                have hc0 := confLater (w1.heap.size + 1) (n1 + n2) rb tr rm _ _ L w4 (by omega) hp4 (hLv.sub (fun b ⟨i, hi, e⟩ => hLb i b hi e)) n1 (by omega)
                have hcE := confLater (rb + 1) (n1 + n2 + 1) rb tr rm _ _ (putIn L R p) wr (by omega) hpj (((hLv.sub (fun b ⟨i, hi, e⟩ => hEb i b hi e)).below hnj).more hnj.size) (n1 + 1) (by omega)
                have hx29 : cfl xt xm xn rt rm = hit (fun b => waits tr rm (txm w4 b).1 (txm w4 b).2) R := by
                  have := hh (n1 + n2) (by omega)
                  rwa [hTn, hMn, hNn, if_pos rfl] at this
                have hhL : ∀ i, i < n1 + n2 → cfl (T i) (M i) (N i) rt rm = hit (fun b => waits tr rm (txm w4 b).1 (txm w4 b).2) (L i) := fun i hi => by
                  have := hh i (by omega)
                  rwa [if_neg (by omega)] at this
                have hm1 := @put_miss (fun b => waits tr rm (txm w4 b).1 (txm w4 b).2) L R p (n1 + n2) hpos
                have hm2 := @put_hit (fun b => waits tr rm (txm w4 b).1 (txm w4 b).2) L R p (n1 + n2) hpos
                have hmem := fun b (hb : b ∈ yl (fun b => waits tr rm (txm w4 b).1 (txm w4 b).2) (putIn L R p) (n1 + n2 + 1)) => (yl_mem hb).2
                have hmem0 := fun b (hb : b ∈ yl (fun b => waits tr rm (txm w4 b).1 (txm w4 b).2) L (n1 + n2)) => (yl_mem hb).2
                have hlen0 := yl_le (fun b => waits tr rm (txm w4 b).1 (txm w4 b).2) L (n1 + n2)
                have hlenE := yl_le (fun b => waits tr rm (txm w4 b).1 (txm w4 b).2) (putIn L R p) (n1 + n2 + 1)
                have hcl0 := cutLow (w1.heap.size + 1) (n1 + n2) n1 (by omega)
                have hch0 := cutHigh (w1.heap.size + 1) (n1 + n2) n1 (by omega)
                have hclE := cutLow (rb + 1) (n1 + n2 + 1) (n1 + 1) (by omega)
                have hchE := cutHigh (rb + 1) (n1 + n2 + 1) (n1 + 1) (by omega)
                rw [Nat.add_sub_cancel_left] at hch0 hc0
                rw [show n1 + n2 + 1 - (n1 + 1) = n2 by omega] at hchE hcE
                rw [show (((n1 + 1) : Nat) : Int) = ((n1 : Int) + 1) by omega] at hclE hchE
                have hirW : ∀ w', Below w4.heap.size w4 w' → ∀ i' b, i' < n1 + n2 + 1 → (if i' = n1 + n2 then R else L i') = some b → ∃ x y, IsReq w' b x y := fun w' hw i' b hi e => by
                  obtain ⟨x, y, hr⟩ := hir i' b hi e
                  exact ⟨x, y, hr.below hw (lt_of_block hr)⟩
                generalize hpz : (fun b => waits tr rm (txm w4 b).1 (txm w4 b).2) = pz at *
                clear hLv hh hir hpz
                go_region_with (go_at_call 25; with_reducible refine Calls.mono (hc0 _ (below_drew hnj)) ?_; rintro e w5 ⟨oo0, ga0, co0, rfl, hg0, hb5⟩)
                have hb5' : Below wr.heap.size wr w5 := Below.trans (show Below wr.heap.size wr wr.drew from ⟨rfl, rfl, rfl, Nat.le_refl _, fun _ _ => rfl⟩) hb5
                clear hb5 hc0 hcl0 hch0
                go_wp2_with fail
                go_region_with (go_at_call 25; with_reducible refine Calls.mono (hcE _ (below_drew hb5')) ?_; rintro e w6 ⟨oo1, ga1, co1, rfl, hg1, hb6⟩)
                have hb6' : Below w5.heap.size w5 w6 := Below.trans (show Below w5.heap.size w5 w5.drew from ⟨rfl, rfl, rfl, Nat.le_refl _, fun _ _ => rfl⟩) hb6
                clear hb6 hcE hclE hchE
                replace hg0 := hg0.below hb6' (fun h => (hg0.some h).2)
                have hn46 : Below w4.heap.size w4 w6 := (hnj.trans (hb5'.mono hnj.size)).trans (hb6'.mono (by have := hnj.size; have := hb5'.size; omega))
                have hpA := hp4.kept (w' := w6) (hn46.block _ hp4.lt)
                have hQ6 := hQ4.kept (w' := w6) (hn46.block _ hQ4.lt)
                have hR6 := hQ6.reqs hTj (fun i hi => Nat.lt_trans (hMj i (by omega)) (by decide))
                have hbw6 := hbw.trans (hn46.mono hbw.size)
                have hX0 := (hn46.cell (p := ⟨w.heap.size, 0, none⟩) hxl4).trans hX0
                have hX1 := (hn46.cell (p := ⟨w.heap.size, 1, none⟩) hxl4).trans hX1
                have hX2 := (hn46.cell (p := ⟨w.heap.size, 2, none⟩) hxl4).trans hX2
                have hf26 := filter26 oo0 (some ⟨w1.heap.size + 1, 0, none⟩) (some ⟨w.heap.size + 1 + 1, 0, none⟩) ga0 ⟨w1.heap.size + 1, 0, none⟩ ⟨w.heap.size + 1 + 1, 0, none⟩ _ co0 (n1 + n2) (n1 + n2) (n1 + n2) _ L T M N rt rm _ w6 (by omega) hg0 (hpA.low (Nat.le_refl _)) hR6 (fun i hi => hMj i (by omega)) hrt hrm hhL rfl (fun _ _ => rfl) (fun i b hi e => by obtain ⟨i', hi', e'⟩ := hLb i b hi e; exact hirW w6 hn46 i' b hi' e')
                go_wp2_with (go_at_call 26; with_reducible refine Calls.mono hf26 ?_; rintro e w7 ⟨rfl, hb7⟩; have hY0 := (hb7.cell (p := ⟨w.heap.size, 0, none⟩) (Nat.lt_of_lt_of_le hxl4 hn46.size)).trans hX0; have hY1 := (hb7.cell (p := ⟨w.heap.size, 1, none⟩) (Nat.lt_of_lt_of_le hxl4 hn46.size)).trans hX1; have hY2 := (hb7.cell (p := ⟨w.heap.size, 2, none⟩) (Nat.lt_of_lt_of_le hxl4 hn46.size)).trans hX2)
                have hs27 : ∀ ww, Below w6.heap.size w6 ww → yl pz (putIn L R p) (n1 + n2 + 1) = yl pz L (n1 + n2) → Calls Tryd.prog 27 #[.slice oo0 (yl pz L (n1 + n2)).length co0, .slice oo1 (yl pz L (n1 + n2)).length co1] ww fun e w' => e = .returned (.bool true) ∧ Below ww.heap.size ww w' := fun ww hww he => by
                  rw [he] at hg1
                  refine same27 oo0 oo1 ga0 ga1 _ co0 co1 (fun i => (yl pz L (n1 + n2))[i]?) ww (by omega) (hg0.below hww (fun h => (hg0.some h).2)) (hg1.below hww (fun h => (hg1.some h).2)) fun i b hi e => ?_
                  obtain ⟨i1, hi1, e1⟩ := hmem0 b (List.mem_of_getElem? e)
                  obtain ⟨i2, hi2, e2⟩ := hLb i1 b hi1 e1
                  exact hirW ww (hn46.trans (hww.mono hn46.size)) i2 b hi2 e2
                refine (conf29 xt xm xn rt rm w7 hxt hxm hrt hrm).mono ?_
                rintro e w8 ⟨rfl, rfl⟩
                have hb8 : Below w6.heap.size w6 (w7.alloc (.cells #[.int .u8 xt, .int .u8 xm, .bool xn] 43)) := hb7.alloc hb7.size _
                rw [hx29]
                cases hhit : hit pz R with
                | false =>
                  have he := hm1 hhit
                  rw [he]
                  have hs := hs27 _ hb8 he
                  clear hs27 hm1 hm2 hmem hmem0 hg1 hg0 hhL hx29 hf26 hEb hLb hirW
                  go_wp2_with (go_at_call 27; with_reducible refine Calls.mono hs ?_; rintro e w9 ⟨rfl, hb9⟩)
                  go_ret
                  exact ⟨rfl, (hbw6.trans (hb8.mono hbw6.size)).trans (hb9.mono (by have := hbw6.size; have := hb8.size; omega))⟩
                | true =>
                  obtain ⟨hlE, hat, hne, hall⟩ := hm2 hhit
                  have hql := yl_mono pz L hpos
                  have hirq : ∀ ww, Below w6.heap.size w6 ww → ∀ b, b ∈ yl pz (putIn L R p) (n1 + n2 + 1) → ∃ x y, IsReq ww b x y := fun ww hww b hb => by
                    obtain ⟨i1, hi1, e1⟩ := hmem b hb
                    obtain ⟨i2, hi2, e2⟩ := hEb i1 b hi1 e1
                    exact hirW ww (hn46.trans (hww.mono hn46.size)) i2 b hi2 e2
                  clear hs27 hm1 hm2 hmem hmem0 hf26 hEb hLb hirW hx29
                  generalize yl pz (putIn L R p) (n1 + n2 + 1) = ys1 at *
                  rw [hlE] at hg1 ⊢
                  generalize hys0 : yl pz L (n1 + n2) = ys0 at *
                  clear hys0
                  go_wp2
                  go_loopw [30, 31] (fun q i wr => ∃ k : Nat, k ≤ p ∧ i = .int .i64 k ∧ q = .int .i64 ((yl pz L k).length : Nat) ∧ Below w6.heap.size w6 wr) (fun _ i _ => p - (intOf i).toNat)
                  case atStart => exact ⟨0, Nat.zero_le _, rfl, rfl, hb8⟩
                  case round =>
                    obtain ⟨k, hk, rfl, rfl, hnk⟩ := hrel
                    by_cases hlt : k < p
                    · have hlt' : (k : Int) < (p : Int) := by omega
                      have hkn : k < n1 + n2 := by omega
                      obtain ⟨s1, s2, s3⟩ := (hQ6.kept (w' := wr) (hnk.block _ hQ6.lt)).cells hkn
                      have HS : Hid ((yl pz L (k + 1)).length = (yl pz L k).length + (if hit pz (L k) then 1 else 0)) := yl_succ pz L k
                      have hyk := yl_le pz L k
                      have HC : Hid (cfl (T k) (M k) (N k) rt rm = hit pz (L k)) := hhL k hkn
                      go_wp2_with (go_at_call 29; refine (conf29 (T k) (M k) (N k) rt rm _ (hTj k hkn) (hMj k (by omega)) hrt hrm).mono ?_; rintro e w9 ⟨rfl, rfl⟩; cases hcf : cfl (T k) (M k) (N k) rt rm)
                      · go_roundw
                        case rel => exact ⟨k + 1, by omega, by go_num, by rw [HS.out, ← HC.out, hcf]; rfl, hnk.alloc hnk.size _⟩
                        case measure => simp [intOf]; omega
                      · go_roundw
                        case rel => exact ⟨k + 1, by omega, by go_num, by rw [HS.out, ← HC.out, hcf]; go_num, hnk.alloc hnk.size _⟩
                        case measure => simp [intOf]; omega
                    · have hkp : k = p := by omega
                      subst k
                      clear hlt hk hhL
                      have hqlt : (yl pz L p).length < ys0.length + 1 := by omega
                      have xq := ix38 ga1 oo1 (ys0.length + 1) co1 (yl pz L p).length hqlt (hg1.some (by omega)).1
                      have cq := (hg1.below hnk (fun h => (hg1.some h).2)).cell _ hqlt
                      simp only [hat] at cq
                      have nq : (binOp .neq 39 (ptr R) (ptr R)).run Tryd.prog wr = .ok (.bool false) wr := by
                        have hz : ∀ b, R = some b → ∃ x m, IsReq wr b x m := fun b e => hirq wr hnk b (List.mem_of_getElem? (hat.trans e))
                        simpa using neqReq R R wr hz hz
                      rw [hrv] at cq nq
                      have Hat : Hid (ys1[(yl pz L p).length]? = R) := hat
                      have Hall : Hid (∀ i, i < ys0.length → ys1[if (yl pz L p).length ≤ i then i + 1 else i]? = ys0[i]?) := hall
                      have Hir : Hid (∀ ww, Below w6.heap.size w6 ww → ∀ b, b ∈ ys1 → ∃ x y, IsReq ww b x y) := hirq
                      have HlE : Hid (ys1.length = ys0.length + 1) := hlE
                      clear hat hall hirq hne hlE
                      go_wp2
                      go_loopw [32] (fun i wr => ∃ k : Nat, k ≤ ys0.length ∧ i = .int .i64 k ∧ Below w6.heap.size w6 wr) (fun i _ => ys0.length - (intOf i).toNat)
                      case atStart => exact ⟨0, Nat.zero_le _, rfl, hnk⟩
                      case round =>
                        clear hnk xq cq nq
                        obtain ⟨k, hk, rfl, hnk⟩ := hrel
                        by_cases hlt : k < ys0.length
                        · have x0 := ix38 ga0 oo0 ys0.length co0 k hlt (hg0.some (by omega)).1
                          have p0 := (hg0.below hnk (fun h => (hg0.some h).2)).cell k hlt
                          have hal := Hall.out k hlt
                          by_cases hq : (yl pz L p).length ≤ k
                          · have x1 := ix38 ga1 oo1 (ys0.length + 1) co1 (k + 1) (by omega) (hg1.some (by omega)).1
                            have p1 := (hg1.below hnk (fun h => (hg1.some h).2)).cell (k + 1) (by omega)
                            rw [if_pos hq] at hal
                            simp only [hal] at p1
                            rw [show ((k + 1 : Nat) : Int) = (k : Int) + 1 by omega] at x1
                            rw [show ga1.add (k + 1) = ⟨ga1.block, ga1.off + (k + 1), none⟩ by simp [Addr.add]] at p1 x1
                            have hnq : ∀ q, (binOp .neq 39 (ptr (ys0[k]?)) (ptr (ys0[k]?))).run Tryd.prog (wr.drewN q) = .ok (.bool false) (wr.drewN q) := fun q => by
                              have hz : ∀ b, ys0[k]? = some b → ∃ x m, IsReq (wr.drewN q) b x m := fun b e => Hir.out _ (below_drewN hnk q) b (List.mem_of_getElem? (hal.trans e))
                              simpa using neqReq _ _ (wr.drewN q) hz hz
                            obtain ⟨rk, hrk⟩ : ∃ x, ptr (ys0[k]?) = .pointer x := ⟨_, rfl⟩
                            rw [hrk] at p0 p1 hnq
                            have hqi : ((yl pz L p).length : Int) ≤ (k : Int) := by omega
                            clear hal
                            go_wp2_with fail
                            go_quiet (fail)
                            go_wp2
                            go_roundw
                            case rel => exact ⟨k + 1, by omega, by go_num, below_drewN hnk _⟩
                            case measure => simp [intOf]; omega
                          · have x1 := ix38 ga1 oo1 (ys0.length + 1) co1 k (by omega) (hg1.some (by omega)).1
                            have p1 := (hg1.below hnk (fun h => (hg1.some h).2)).cell k (by omega)
                            rw [if_neg hq] at hal
                            simp only [hal] at p1
                            have hnq : ∀ q, (binOp .neq 39 (ptr (ys0[k]?)) (ptr (ys0[k]?))).run Tryd.prog (wr.drewN q) = .ok (.bool false) (wr.drewN q) := fun q => by
                              have hz : ∀ b, ys0[k]? = some b → ∃ x m, IsReq (wr.drewN q) b x m := fun b e => Hir.out _ (below_drewN hnk q) b (List.mem_of_getElem? (hal.trans e))
                              simpa using neqReq _ _ (wr.drewN q) hz hz
                            obtain ⟨rk, hrk⟩ : ∃ x, ptr (ys0[k]?) = .pointer x := ⟨_, rfl⟩
                            rw [hrk] at p0 p1 hnq
                            have hqi : (k : Int) < ((yl pz L p).length : Int) := by omega
                            clear hal
                            go_wp2_with fail
                            go_quiet (fail)
                            go_wp2
                            go_roundw
                            case rel => exact ⟨k + 1, by omega, by go_num, below_drewN hnk _⟩
                            case measure => simp [intOf]; omega
                        · have hkp : k = ys0.length := by omega
                          subst k
                          clear hlt hk
                          go_wp2
                          go_ret
                          exact ⟨rfl, hbw6.trans (hnk.mono hbw6.size)⟩

end Go.Proofs.Qxb6608630aDoor
