import Derived.Test.Qxb6608630aDoorFilter
namespace Go.Proofs.Qxb6608630aDoor
open Go.RowKit
set_option linter.unusedSimpArgs false
set_option linter.unusedVariables false

set_option maxRecDepth 100000 in
theorem bytes19 (o1 o2 : Option Addr) (n1 c1 n2 c2 : Nat) (rt rm : Nat) (kk : Int) (w : World) (h1 : n1 ≤ maxLen) (h2 : n2 ≤ maxLen) :
    Calls Tryd.prog 19 #[.int .u8 rt, .int .u8 rm, .slice o1 n1 c1, .slice o2 n2 c2, .int .i64 kk] w fun e w' => (∃ b, e = .returned (.bool b)) ∧ w' = w := by
  unfold maxLen at h1 h2
  by_cases q1 : n1 ≤ 1048576
  · by_cases q2 : n2 ≤ 1048576
    · by_cases q3 : n1 + n2 ≤ 1048576
      · go_enter Tryd.func19, Tryd.ntmps19
        go_wp2
        go_ret
        exact ⟨⟨_, rfl⟩, rfl⟩
      · go_enter Tryd.func19, Tryd.ntmps19
        go_wp2
        go_ret
        exact ⟨⟨_, rfl⟩, rfl⟩
    · go_enter Tryd.func19, Tryd.ntmps19
      go_wp2
      go_ret
      exact ⟨⟨_, rfl⟩, rfl⟩
  · go_enter Tryd.func19, Tryd.ntmps19
    go_wp2
    go_ret
    exact ⟨⟨_, rfl⟩, rfl⟩

set_option maxRecDepth 100000 in
theorem bytes28 (o1 o2 : Option Addr) (n1 c1 n2 c2 : Nat) (rt rm t m : Nat) (nil ia : Bool) (kk : Int) (w : World) (h1 : n1 ≤ maxLen) (h2 : n2 ≤ maxLen) :
    Calls Tryd.prog 28 #[.int .u8 rt, .int .u8 rm, .slice o1 n1 c1, .slice o2 n2 c2, .agg #[.int .u8 t, .int .u8 m, .bool nil], .bool ia, .int .i64 kk] w fun e w' => (∃ b, e = .returned (.bool b)) ∧ w' = w.alloc (.cells #[.int .u8 t, .int .u8 m, .bool nil] 43) := by
  unfold maxLen at h1 h2
  by_cases q1 : n1 ≤ 1048576
  · by_cases q2 : n2 ≤ 1048576
    · by_cases q3 : n1 + n2 ≤ 1048576
      · go_enter Tryd.func28, Tryd.ntmps28
        go_wp2
        go_ret
        exact ⟨⟨_, rfl⟩, rfl⟩
      · go_enter Tryd.func28, Tryd.ntmps28
        go_wp2
        go_ret
        exact ⟨⟨_, rfl⟩, rfl⟩
    · go_enter Tryd.func28, Tryd.ntmps28
      go_wp2
      go_ret
      exact ⟨⟨_, rfl⟩, rfl⟩
  · go_enter Tryd.func28, Tryd.ntmps28
    go_wp2
    go_ret
    exact ⟨⟨_, rfl⟩, rfl⟩

theorem make38 (n : Nat) (hn : n ≤ 400000) (w : World) : (Instr.makeSlice 38 (.int .i64 (n : Int)) (.int .i64 (n : Int))).run Tryd.prog w = .ok (.slice (some ⟨w.heap.size, 0, none⟩) n n) (w.alloc (.cells (madeCells #[.pointer none] n) 39)) := by
  obtain ⟨i0, hi0, hz0, hz1, hz2⟩ := info_parts info39
  have := run_make (P := Tryd.prog) w 38 39 i0 (.pointer none) Tryd.underlying38 hi0 hz0 .i64 .i64 n n (by omega) (Int.le_refl _) (by rw [hz2]; omega) (by omega)
  rw [hz1] at this
  simpa [Value.cells] using this

/-- a row of pointers to requests that the call itself made -/
def PRow (w : World) (b n : Nat) (L : Nat → Option Nat) : Prop := ∃ arr, w.heap[b]? = some (.cells arr 39 (0, 0)) ∧ arr.size = n ∧ ∀ i, i < n → arr[i]? = some (ptr (L i))

theorem PRow.lt {w : World} {b n : Nat} {L : Nat → Option Nat} (h : PRow w b n L) : b < w.heap.size := by
  obtain ⟨arr, h1, _⟩ := h
  exact lt_of_block h1
theorem PRow.cell {w : World} {b n : Nat} {L : Nat → Option Nat} (h : PRow w b n L) {i : Nat} (hi : i < n) : w.cell? ⟨b, i, none⟩ = some (ptr (L i)) := by
  obtain ⟨arr, h1, h2, h3⟩ := h
  simp [World.cell?, h1, h3 i hi]
theorem PRow.free {w : World} {b n : Nat} {L : Nat → Option Nat} (h : PRow w b n L) (j : Nat) : w.frozen? ⟨b, j, none⟩ = false := by
  obtain ⟨arr, h1, _⟩ := h
  simp [World.frozen?, h1]
theorem PRow.congr {w : World} {b n : Nat} {L L' : Nat → Option Nat} (h : PRow w b n L) (e : ∀ i, i < n → L i = L' i) : PRow w b n L' := by
  obtain ⟨arr, h1, h2, h3⟩ := h
  exact ⟨arr, h1, h2, fun i hi => by rw [← e i hi]; exact h3 i hi⟩
theorem PRow.set {w : World} {b n : Nat} {L : Nat → Option Nat} (h : PRow w b n L) {k : Nat} (hk : k < n) (o : Option Nat) : PRow (w.setCell ⟨b, k, none⟩ (ptr o)) b n (fun i => if i = k then o else L i) := by
  obtain ⟨arr, h1, h2, h3⟩ := h
  refine ⟨_, heap_setCell_same w b k arr 39 (ptr o) h1, by simpa using h2, fun i hi => ?_⟩
  by_cases e : i = k
  · subst e
    have : i < arr.size := by omega
    simp [Array.getElem?_setIfInBounds, this]
  · have e' : ¬ k = i := fun x => e x.symm
    simp [Array.getElem?_setIfInBounds, e, e', h3 i hi]
theorem PRow.made (w : World) (n : Nat) : PRow (w.alloc (.cells (madeCells #[.pointer none] n) 39)) w.heap.size n (fun _ => none) := by
  refine ⟨_, heap_alloc_new w _, by simp [madeCells], fun i hi => ?_⟩
  rw [getElem_made (by omega) (by decide)]
  have e1 : i % 1 = 0 := by omega
  simp [e1, ptr]
theorem PRow.kept {w w' : World} {b n : Nat} {L : Nat → Option Nat} (h : PRow w b n L) (e : w'.heap[b]? = w.heap[b]?) : PRow w' b n L := by
  obtain ⟨arr, h1, h2, h3⟩ := h
  exact ⟨arr, e.trans h1, h2, h3⟩

theorem grownBy_setAt (W : World) (b j : Nat) (v : Value) : W.grownBy (W.setCell ⟨b, j, none⟩ v) (some b) :=
  ⟨rfl, rfl, rfl, (KeepsWalks.setCell W _ v).size, fun k _ hk => Below.heap_setCell _ _ _ k (fun e => hk (by rw [e]))⟩

/-- the first k requests have been built -/
structure Built (w : World) (X : Nat) (P : Nat → Option Nat) (k : Nat) (T M : Nat → Nat) (N : Nat → Bool) (L : Nat → Option Nat) (lo : Nat) : Prop where
  tx : TxAt w X P
  nil : ∀ i, i < k → N i = true → L i = none
  req : ∀ i, i < k → N i = false → ∃ b τ, L i = some b ∧ IsReq w b τ (M i) ∧ P (T i) = some τ ∧ lo ≤ b

theorem Built.zero {w : World} {X : Nat} {P : Nat → Option Nat} (h : TxAt w X P) (T M : Nat → Nat) (N : Nat → Bool) (L : Nat → Option Nat) (lo : Nat) : Built w X P 0 T M N L lo :=
  ⟨h, fun i hi => absurd hi (Nat.not_lt_zero _), fun i hi => absurd hi (Nat.not_lt_zero _)⟩

/-- the table of transactions grows -/
theorem Built.grow {w w' : World} {X : Nat} {P P' : Nat → Option Nat} {k : Nat} {T M : Nat → Nat} {N : Nat → Bool} {L : Nat → Option Nat} {lo : Nat} (h : Built w X P k T M N L lo) (hX : X < lo)
    (hT : TxAt w' X P') (hm : ∀ j b, P j = some b → P' j = some b) (hg : w.grownBy w' (some X)) : Built w' X P' k T M N L lo :=
  ⟨hT, h.nil, fun i hi hn => by
    obtain ⟨b, τ, e, hr, hP, hl⟩ := h.req i hi hn
    exact ⟨b, τ, e, hr.kept hg (by simp; omega), hm _ _ hP, hl⟩⟩

/-- another row is written -/
theorem Built.other {w w' : World} {X : Nat} {P : Nat → Option Nat} {k : Nat} {T M : Nat → Nat} {N : Nat → Bool} {L : Nat → Option Nat} {lo A : Nat} (h : Built w X P k T M N L lo) (hA : A < lo) (hXA : X ≠ A) (hnt : ¬ IsTx w A)
    (hg : w.grownBy w' (some A)) : Built w' X P k T M N L lo :=
  ⟨h.tx.kept hg (by simpa using hXA) (fun i b e => by
    have := (h.tx.tx i b e).1
    intro e'
    cases e'
    exact hnt this), h.nil, fun i hi hn => by
    obtain ⟨b, τ, e, hr, hP, hl⟩ := h.req i hi hn
    exact ⟨b, τ, e, hr.kept hg (by simp; omega), hP, hl⟩⟩

theorem PRow.not_tx {w : World} {b n : Nat} {L : Nat → Option Nat} (h : PRow w b n L) : ¬ IsTx w b := by
  rintro ⟨cs, hc⟩
  obtain ⟨arr, h1, _⟩ := h
  rw [h1] at hc
  simp at hc

/-- one more -/
theorem Built.snoc {w : World} {X : Nat} {P : Nat → Option Nat} {k : Nat} {T M : Nat → Nat} {N : Nat → Bool} {L : Nat → Option Nat} {lo : Nat} (h : Built w X P k T M N L lo) (R : Option Nat)
    (hn : N k = true → R = none) (hr : N k = false → ∃ b τ, R = some b ∧ IsReq w b τ (M k) ∧ P (T k) = some τ ∧ lo ≤ b) : Built w X P (k + 1) T M N (fun i => if i = k then R else L i) lo :=
  ⟨h.tx, fun i hi e => by
    by_cases ik : i = k
    · subst ik; simpa using hn e
    · simpa [ik] using h.nil i (by omega) e, fun i hi e => by
    by_cases ik : i = k
    · subst ik; simpa using hr e
    · simpa [ik] using h.req i (by omega) e⟩

/-- a request's transaction and mode, read off the world -/
def txm (w : World) (b : Nat) : Nat × Nat := match w.heap[b]? with
  | some (Obj.cells cs _ _) => (match cs.getD 0 (Value.pointer none), cs.getD 2 (Value.pointer none) with
    | Value.pointer (some a), Value.int _ m => (a.block, m.toNat)
    | _, _ => (0, 0))
  | _ => (0, 0)

theorem txm_eq {w : World} {b t m : Nat} (h : IsReq w b t m) : txm w b = (t, m) := by
  have h4 : w.heap[b]? = _ := h
  simp [txm, h4, reqCells]

theorem QRow.reqs {w : World} {b n : Nat} {T M : Nat → Nat} {N : Nat → Bool} (h : QRow w b n T M N) (hT : ∀ i, i < n → T i < 256) (hM : ∀ i, i < n → M i < 256) : ReqsAt w (some ⟨b, 0, none⟩) ⟨b, 0, none⟩ n T M N := by
  have e : ∀ j, (Addr.add ⟨b, 0, none⟩ j) = ⟨b, j, none⟩ := fun j => by simp [Addr.add]; omega
  exact ⟨fun _ => ⟨rfl, h.lt⟩, fun i hi => by rw [e]; exact (h.cells hi).1, fun i hi => by rw [e]; exact (h.cells hi).2.1, fun i hi => by rw [e]; exact (h.cells hi).2.2, hT, hM⟩

theorem PRow.part {w : World} {b n : Nat} {L : Nat → Option Nat} (h : PRow w b n L) (o c : Nat) (hoc : o + c ≤ n) : PtrsAt w (some ⟨b, o, none⟩) ⟨b, o, none⟩ c (fun i => L (o + i)) := by
  have e : ∀ j, (Addr.add ⟨b, o, none⟩ j) = ⟨b, o + j, none⟩ := fun j => by simp [Addr.add]
  exact ⟨fun _ => ⟨rfl, h.lt⟩, fun i hi => by rw [e]; exact h.cell (by omega)⟩

theorem zero37 : Tryd.zeroCells37 = Array.replicate 256 (Value.pointer none) := by kernel_rfl

theorem TxAt.zero (w : World) : TxAt (w.alloc (.cells Tryd.zeroCells37 37)) w.heap.size (fun _ => none) :=
  ⟨⟨_, 37, heap_alloc_new w _, by rw [zero37]; simp, fun i hi => by rw [zero37]; simp [hi, ptr]⟩, fun i b e => (by cases e), fun i j b e => (by cases e)⟩

/-- where the second part of a cut list begins -/
def hiOff (n g : Nat) : Nat := if n = g then 0 else g

theorem cutLow (A n g : Nat) (h : g ≤ n) (w : World) : (Instr.slice 38 (.slice (some ⟨A, 0, none⟩) n n) none (some (.int .i64 (g : Int))) none).run Tryd.prog w = .ok (.slice (some ⟨A, 0, none⟩) g n) w := by
  have hs : (sizeOf (Tryd.prog.elem 38)).run Tryd.prog w = .ok 1 w := by kernel_rfl
  rw [run_slice_h w 38 _ _ _ (by kernel_rfl) .i64 (g : Int) (by omega) (by omega), hs]
  simp [Result.andThen, sliced, Addr.add]

theorem cutHigh (A n g : Nat) (h : g ≤ n) (w : World) : (Instr.slice 38 (.slice (some ⟨A, 0, none⟩) n n) (some (.int .i64 (g : Int))) none none).run Tryd.prog w = .ok (.slice (some ⟨A, hiOff n g, none⟩) (n - g) (n - g)) w := by
  have hs : (sizeOf (Tryd.prog.elem 38)).run Tryd.prog w = .ok 1 w := by kernel_rfl
  rw [run_slice_l w 38 _ _ _ (by kernel_rfl) .i64 (g : Int) (by omega) (by omega), hs]
  unfold hiOff
  by_cases e : n = g
  · simp [Result.andThen, sliced, Addr.add, e]
  · simp [Result.andThen, sliced, Addr.add, e]
    omega

theorem PRow.low {w : World} {b n : Nat} {L : Nat → Option Nat} (h : PRow w b n L) {g : Nat} (hg : g ≤ n) : PtrsAt w (some ⟨b, 0, none⟩) ⟨b, 0, none⟩ g L := by
  have e : ∀ j, (Addr.add ⟨b, 0, none⟩ j) = ⟨b, j, none⟩ := fun j => by simp [Addr.add]; omega
  exact ⟨fun _ => ⟨rfl, h.lt⟩, fun i hi => by rw [e]; exact h.cell (by omega)⟩
theorem PRow.high {w : World} {b n : Nat} {L : Nat → Option Nat} (h : PRow w b n L) {g : Nat} (hg : g ≤ n) : PtrsAt w (some ⟨b, hiOff n g, none⟩) ⟨b, hiOff n g, none⟩ (n - g) (fun i => L (g + i)) := by
  refine ⟨fun _ => ⟨rfl, h.lt⟩, fun i hi => ?_⟩
  unfold hiOff
  rw [if_neg (by omega)]
  have e : (Addr.add ⟨b, g, none⟩ i) = ⟨b, g + i, none⟩ := by simp [Addr.add]
  rw [e]
  exact h.cell (by omega)

theorem yl_cut (p : Nat → Bool) (L : Nat → Option Nat) (g : Nat) : ∀ d, yl p L (g + d) = yl p L g ++ yl p (fun i => L (g + i)) d
  | 0 => by simp [yl]
  | d + 1 => by
    show yl p L (g + d) ++ _ = yl p L g ++ (yl p (fun i => L (g + i)) d ++ _)
    rw [yl_cut p L g d, List.append_assoc]
    rfl

theorem got_of {w : World} {base n : Nat} {v : Value} {ys : List Nat} (h : w.ownsRow base 39 1 v n (ptrs ys)) (hn : n = ys.length) : ∃ o ga c, v = .slice o ys.length c ∧ PtrsAt w o ga ys.length (fun i => ys[i]?) := by
  subst hn
  rcases h.2 with ⟨rfl, h0⟩ | ⟨g, cap, cur, rfl, hb, hg, hcap, hmx, hsz, htk⟩
  · exact ⟨none, ⟨0, 0, none⟩, 0, by rw [h0], ⟨fun h => by omega, fun i hi => by omega⟩⟩
  · refine ⟨some ⟨g, 0, none⟩, ⟨g, 0, none⟩, cap, rfl, ⟨fun _ => ⟨rfl, lt_of_block hg⟩, fun i hi => ?_⟩⟩
    rw [World.ownsRow.cells h rfl i _ (show (ptrs ys)[i]? = some (ptr (ys[i]?)) by simp [ptrs, ptr, hi])]

/-- the lists as they are told at any cut -/
theorem confAt (A n rb tr rm : Nat) (tx md : Nat → Nat) (L : Nat → Option Nat) (w : World) (hn : n ≤ 200000) (hp : PRow w A n L) (hL : Live w w.heap.size rb tr rm tx md (fun b => ∃ i, i < n ∧ L i = some b)) (g : Nat) (hg : g ≤ n) (ys : List Nat)
    (hys : ys = yl (fun b => waits tr rm (tx b) (md b)) L n) :
    Calls Tryd.prog 25 #[.pointer (some ⟨rb, 0, none⟩), .slice (some ⟨A, 0, none⟩) g n, .slice (some ⟨A, hiOff n g, none⟩) (n - g) (n - g)] w fun e W' =>
      ∃ o ga c, e = .returned (.slice o ys.length c) ∧ PtrsAt W' o ga ys.length (fun i => ys[i]?) ∧ Below w.heap.size w W' := by
  refine (conf25 rb tr rm tx md _ _ _ _ g n (n - g) (n - g) L (fun i => L (g + i)) (by omega) (by omega) w (hp.low hg) (hp.high hg) ⟨hL.tab, hL.pos, hL.r, fun b hb => hL.o b ?_, hL.hm⟩ ys ?_).mono ?_
  · rcases hb with ⟨i, hi, e⟩ | ⟨i, hi, e⟩
    · exact ⟨i, by omega, e⟩
    · exact ⟨g + i, by omega, e⟩
  · rw [hys, ← yl_cut, show g + (n - g) = n by omega]
  · rintro e W' ⟨v, rfl, hown, hb⟩
    obtain ⟨o, ga, c, rfl, hpt⟩ := got_of hown rfl
    exact ⟨o, ga, c, rfl, hpt, hb⟩

/-- the lists told, in every later world -/
theorem confLater (A n rb tr rm : Nat) (tx md : Nat → Nat) (L : Nat → Option Nat) (w : World) (hn : n ≤ 200000) (hp : PRow w A n L) (hL : Live w w.heap.size rb tr rm tx md (fun b => ∃ i, i < n ∧ L i = some b)) (g : Nat) (hg : g ≤ n)
    (w' : World) (hw : Below w.heap.size w w') :
    Calls Tryd.prog 25 #[.pointer (some ⟨rb, 0, none⟩), .slice (some ⟨A, 0, none⟩) g n, .slice (some ⟨A, hiOff n g, none⟩) (n - g) (n - g)] w' fun e W' =>
      ∃ o ga c, e = .returned (.slice o (yl (fun b => waits tr rm (tx b) (md b)) L n).length c) ∧ PtrsAt W' o ga (yl (fun b => waits tr rm (tx b) (md b)) L n).length (fun i => (yl (fun b => waits tr rm (tx b) (md b)) L n)[i]?) ∧ Below w'.heap.size w' W' :=
  confAt A n rb tr rm tx md L w' hn (hp.kept (hw.block _ hp.lt)) ((hL.below hw).more hw.size) g hg _ rfl

/-- what stands when the asker's request is laid -/
theorem Built.live {w : World} {X : Nat} {P : Nat → Option Nat} {n : Nat} {T M : Nat → Nat} {N : Nat → Bool} {L : Nat → Option Nat} {lo rb tr rm rt : Nat} (h : Built w X P n T M N L lo) (hT : TabAt w) (hM : ∀ i, i < n → M i < 10) (hr : IsReq w rb tr rm) (hP : P rt = some tr) (hrm : rm < 256) :
    Live w w.heap.size rb tr rm (fun b => (txm w b).1) (fun b => (txm w b).2) (fun b => ∃ i, i < n ∧ L i = some b) :=
  ⟨hT, Nat.lt_of_le_of_lt (Nat.zero_le _) (lt_of_block hr), ⟨hr, lt_of_block hr, (h.tx.tx _ _ hP).1, by obtain ⟨cs, hc⟩ := (h.tx.tx _ _ hP).1; exact lt_of_block hc⟩, fun b hb => by
    obtain ⟨i, hi, e⟩ := hb
    cases hN : N i with
    | true => rw [h.nil i hi hN] at e; cases e
    | false =>
      obtain ⟨b', τ, e', hq, hτ, _⟩ := h.req i hi hN
      rw [e'] at e
      cases e
      rw [txm_eq hq]
      refine ⟨hq, lt_of_block hq, (h.tx.tx _ _ hτ).1, ?_, hM i hi⟩
      obtain ⟨cs, hc⟩ := (h.tx.tx _ _ hτ).1
      exact lt_of_block hc, hrm⟩

theorem Built.hits {w : World} {X : Nat} {P : Nat → Option Nat} {n : Nat} {T M : Nat → Nat} {N : Nat → Bool} {L : Nat → Option Nat} {lo tr rm rt : Nat} (h : Built w X P n T M N L lo) (hP : P rt = some tr) {i : Nat} (hi : i < n) :
    cfl (T i) (M i) (N i) rt rm = hit (fun b => waits tr rm (txm w b).1 (txm w b).2) (L i) := by
  cases hN : N i with
  | true => rw [h.nil i hi hN]; rfl
  | false =>
    obtain ⟨b, τ, e, hq, hτ, _⟩ := h.req i hi hN
    rw [e]
    show _ = waits tr rm (txm w b).1 (txm w b).2
    rw [txm_eq hq]
    unfold cfl waits
    have : (T i == rt) = (τ == tr) := by
      by_cases e2 : T i = rt
      · rw [e2] at hτ ⊢
        rw [hP] at hτ
        cases hτ
        simp
      · have : τ ≠ tr := fun e3 => e2 (h.tx.inj _ _ _ hτ (e3 ▸ hP))
        rw [show (T i == rt) = false by simpa using e2, show (τ == tr) = false by simpa using this]
    rw [this]
    simp

theorem Built.isreq {w : World} {X : Nat} {P : Nat → Option Nat} {n : Nat} {T M : Nat → Nat} {N : Nat → Bool} {L : Nat → Option Nat} {lo : Nat} (h : Built w X P n T M N L lo) {i b : Nat} (hi : i < n) (e : L i = some b) : ∃ x y, IsReq w b x y := by
  cases hN : N i with
  | true => rw [h.nil i hi hN] at e; cases e
  | false =>
    obtain ⟨b', τ, e', hq, hτ, _⟩ := h.req i hi hN
    rw [e'] at e
    cases e
    exact ⟨_, _, hq⟩
end Go.Proofs.Qxb6608630aDoor
