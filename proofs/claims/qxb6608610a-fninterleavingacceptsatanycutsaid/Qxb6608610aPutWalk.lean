/-
  THE WALK OF FnInterleavingAcceptsOneTypePutIn (f6).
-/
import Derived.Test.Qxb6608610aInter
import Derived.Laws.CopyOwn
namespace Go.Proofs.Qxb6608610a
open Go.RowKit
set_option linter.unusedSimpArgs false
set_option linter.unusedVariables false

theorem info4 : (Try.prog.info? 4).map (fun i => (i.zero, i.size, i.bytes)) = some (some (.bool false), 1, 1) := by kernel_rfl
theorem size4 : (Try.prog.info? 4).map (·.size) = some 1 := by kernel_rfl
theorem neq40 (w : World) (a : Option Addr) (n c n' c' : Nat) : (binOp .neq 40 (.slice a n c) (.slice none n' c')).run Try.prog w = .ok (.bool a.isSome) w := by
  have := run_neq_slice_nil_any w 40 4 a n c n' c' Try.underlying40
  simpa using this

/-- a row of bools of the call's own -/
def Row (w : World) (b m : Nat) (P : Nat → Bool) : Prop := w.heap[b]? = some (.cells ((List.range m).map fun j => Value.bool (P j)).toArray 4 (0, 0))

theorem Row.cell {w : World} {b m : Nat} {P : Nat → Bool} (h : Row w b m P) {j : Nat} (hj : j < m) : w.cell? ⟨b, j, none⟩ = some (.bool (P j)) := by
  have h' : w.heap[b]? = some (.cells ((List.range m).map fun j => Value.bool (P j)).toArray 4 (0, 0)) := h
  simp [World.cell?, h', hj]
theorem Row.free {w : World} {b m : Nat} {P : Nat → Bool} (h : Row w b m P) (j : Nat) : w.frozen? ⟨b, j, none⟩ = false := by
  have h' : w.heap[b]? = some (.cells ((List.range m).map fun j => Value.bool (P j)).toArray 4 (0, 0)) := h
  simp [World.frozen?, h']
theorem Row.congr {w : World} {b m : Nat} {P Q : Nat → Bool} (h : Row w b m P) (e : ∀ j, j < m → P j = Q j) : Row w b m Q := by
  unfold Row at h ⊢
  rw [h]
  congr 3
  exact List.map_congr_left fun j hj => by rw [e j (List.mem_range.1 hj)]
theorem Row.set {w : World} {b m : Nat} {P : Nat → Bool} (h : Row w b m P) (k : Nat) (x : Bool) : Row (w.setCell ⟨b, k, none⟩ (.bool x)) b m (fun j => if j = k then x else P j) := by
  unfold Row at h ⊢
  rw [heap_setCell_same w b k _ 4 _ h]
  congr 2
  apply Array.ext'
  rw [Array.toList_setIfInBounds]
  apply List.ext_getElem?
  intro j
  simp only [List.getElem?_set, List.length_map, List.length_range, List.getElem?_map]
  by_cases hjm : j < m
  · by_cases hjk : k = j
    · subst hjk
      simp [hjm]
    · have : ¬ j = k := fun e => hjk e.symm
      simp [hjm, hjk, this]
  · by_cases hjk : k = j
    · subst hjk
      simp [hjm]
    · simp [hjm, hjk]
theorem Row.other {w : World} {b m : Nat} {P : Nat → Bool} (h : Row w b m P) {a : Addr} (hne : b ≠ a.block) (u : Value) : Row (w.setCell a u) b m P := (Below.heap_setCell w a u b hne).trans h
theorem Row.alloc {w : World} {b m : Nat} {P : Nat → Bool} (h : Row w b m P) (o : Obj) : Row (w.alloc o) b m P := (Below.heap_alloc w o b (lt_of_block h)).trans h
theorem Row.below {w w' : World} {b m : Nat} {P : Nat → Bool} (h : Row w b m P) (hb : Below w.heap.size w w') : Row w' b m P := (hb.block b (lt_of_block h)).trans h
theorem Row.bools {w : World} {b m : Nat} {P : Nat → Bool} (h : Row w b m P) : BoolsAt w (some ⟨b, 0, none⟩) ⟨b, 0, none⟩ m P :=
  ⟨fun _ => ⟨rfl, lt_of_block h⟩, fun i hi => by
    have e : (⟨b, 0, none⟩ : Addr).add i = ⟨b, i, none⟩ := by unfold Addr.add; split <;> simp_all
    rw [e]
    exact h.cell hi⟩
theorem Row.made (w : World) (m : Nat) : Row (w.alloc (.cells (madeCells #[.bool false] m) 4)) w.heap.size m (fun _ => false) := by
  unfold Row
  rw [heap_alloc_new]
  congr 2
  apply Array.ext'
  rw [toList_madeCells_one]
  apply List.ext_getElem?
  intro j
  by_cases h : j < m <;> simp [h]

theorem Row.one (w : World) (put : Bool) : Row (w.alloc (.cells ((madeCells #[.bool false] 1).setIfInBounds 0 (.bool put)) 4)) w.heap.size 1 (fun _ => put) := by
  unfold Row
  rw [heap_alloc_new]
  congr 2
  apply Array.ext'
  rw [Array.toList_setIfInBounds, toList_madeCells_one]
  rfl

theorem make40 (n : Nat) (hn : n ≤ 100000) (w : World) : (Instr.makeSlice 40 (.int .i64 (n : Int)) (.int .i64 (n : Int))).run Try.prog w = .ok (.slice (some ⟨w.heap.size, 0, none⟩) n n) (w.alloc (.cells (madeCells #[.bool false] n) 4)) := by
  obtain ⟨i0, hi0, hz0, hz1, hz2⟩ := info_parts info4
  have := run_make (P := Try.prog) w 40 4 i0 (.bool false) Try.underlying40 hi0 hz0 .i64 .i64 n n (by omega) (Int.le_refl _) (by rw [hz2]; omega) (by omega)
  rw [hz1] at this
  simpa [Value.cells] using this

/-- 'copy(zzc, types)' into the row just made -/
theorem copy40 (w : World) (ad : Addr) (n ce : Nat) (T : Nat → Bool) (hT : BoolsAt w (some ad) ad n T) :
    ∃ W2, (Builtin.copy_ #[40, 40] 3 #[.slice (some ⟨w.heap.size, 0, none⟩) n n, .slice (some ad) n ce]).run Try.prog (w.alloc (.cells (madeCells #[.bool false] n) 4)) = .ok (.int .i64 n) W2 ∧
      Row W2 w.heap.size n T ∧ Below w.heap.size w W2 ∧ W2.heap.size = w.heap.size + 1 := by
  by_cases h0 : n = 0
  · subst h0
    refine ⟨_, run_copy_none (P := Try.prog) _ 40 40 3 4 _ _ 0 0 0 ce Try.underlying40 size4 rfl, ?_, (Below.refl _ _).alloc (Nat.le_refl _) _, by simp⟩
    exact (Row.made w 0).congr fun j hj => absurd hj (Nat.not_lt_zero _)
  · have hcell : ∀ j v, ((List.range n).map fun j => Value.bool (T j))[j]? = some v → (w.alloc (.cells (madeCells #[.bool false] n) 4)).cell? (ad.add j) = some v := by
      intro j v hv
      have hj : j < n := by
        rcases Nat.lt_or_ge j n with h | h
        · exact h
        · simp [h] at hv
      simp [hj] at hv
      subst hv
      refine (World.cell?_of_block (Below.heap_alloc w _ _ ?_)).trans (hT.cell j hj)
      rw [add_blk]
      exact (hT.some (by omega)).2
    have hrun := run_copy_row (P := Try.prog) (w.alloc (.cells (madeCells #[.bool false] n) 4)) 40 40 3 4 w.heap.size 0 n n ad n ce (madeCells #[.bool false] n) 4 ((List.range n).map fun j => Value.bool (T j)) Try.underlying40 size4 (heap_alloc_new w _) (by simp) hcell (by simp [madeCells]) (by simp [Value.oneCell'])
    have hlen : ((List.range n).map fun j => Value.bool (T j)).length = n := by simp
    rw [hlen] at hrun
    refine ⟨_, hrun, ?_, below_setRow ((Below.refl _ _).alloc (Nat.le_refl _) _) (Nat.le_refl _) _, by simp⟩
    refine (setRow_heap _ w.heap.size _ _ 4 _ (heap_alloc_new w _)).trans ?_
    congr 2
    apply Array.ext'
    simp [madeCells]

theorem anyB_congr {P Q : Nat → Bool} : ∀ n, (∀ j, j < n → P j = Q j) → anyB P n = anyB Q n
  | 0, _ => rfl
  | n + 1, h => by
    show (anyB P n || P n) = (anyB Q n || Q n)
    rw [anyB_congr n (fun j hj => h j (Nat.lt_succ_of_lt hj)), h n (Nat.lt_succ_self n)]

/-- the list with 'put' put in at p -/
def putIn (T : Nat → Bool) (p : Nat) (put : Bool) (j : Nat) : Bool := if j < p then T j else if j = p then put else T (j - 1)

theorem anyB_putIn (T : Nat → Bool) (p : Nat) (put : Bool) : ∀ n, p ≤ n → anyB (putIn T p put) (n + 1) = (put || anyB T n)
  | 0, h => by
    obtain rfl : p = 0 := by omega
    cases put <;> simp [anyB, putIn]
  | n + 1, h => by
    show (anyB (putIn T p put) (n + 1) || putIn T p put (n + 1)) = (put || (anyB T n || T n))
    by_cases hp : p ≤ n
    · rw [anyB_putIn T p put n hp]
      have e : putIn T p put (n + 1) = T n := by
        unfold putIn
        rw [if_neg (by omega), if_neg (by omega)]
        rfl
      rw [e, Bool.or_assoc]
    · obtain rfl : p = n + 1 := by omega
      have e : putIn T (n + 1) put (n + 1) = put := by
        unfold putIn
        rw [if_neg (by omega), if_pos rfl]
      have e2 : anyB (putIn T (n + 1) put) (n + 1) = anyB T (n + 1) := anyB_congr _ fun j hj => by
        unfold putIn
        rw [if_pos hj]
      rw [e, e2, Bool.or_comm]
      rfl

theorem bytes16 (a : Option Addr) (n c : Nat) (hp pr : Bool) (msg at' : Int) (put : Bool) (w : World) (hn : n ≤ 65536) :
    Calls Try.prog 16 #[.slice a n c, .bool hp, .bool pr, .int .i64 msg, .int .i64 at', .bool put] w fun e w' => e = .returned (.bool true) ∧ w' = w := by
  go_enter Try.func16, Try.ntmps16
  go_wp2
  go_ret
  exact ⟨rfl, rfl⟩

theorem splice_all {α : Type} (L cs : List α) (h : cs.length = L.length) : splice L 0 cs = cs := by
  simp [splice, h]

set_option maxRecDepth 100000 in
set_option maxHeartbeats 1000000 in
theorem walk6_some (ad : Addr) (n ce : Nat) (T : Nat → Bool) (hp pr : Bool) (msg : Int) (p : Nat) (put : Bool) (w : World) (hn : n ≤ 65536) (hpn : p ≤ n) (hT : BoolsAt w (some ad) ad n T) :
    Calls Try.prog 6 #[.slice (some ad) n ce, .bool hp, .bool pr, .int .i64 msg, .int .i64 p, .bool put] w fun e w' => e = .returned (.bool true) ∧ Below w.heap.size w w' := by
  have hq := neq40
  obtain ⟨W2, hcp, hrow, hbel, hsz2⟩ := copy40 w ad n ce T hT
  have hmk := make40 n (by omega)
  have hmk1 := make40 (n + 1) (by omega)
  rw [show ((n + 1 : Nat) : Int) = (n : Int) + 1 by omega] at hmk1
  go_enter Try.func6, Try.ntmps6
  go_wp2_with fail
  refine (bytes16 _ n ce hp pr msg _ put _ hn).mono ?_
  rintro e w' ⟨rfl, rfl⟩
  rename World => w
  go_wp2_with fail
  have hrow0 : Row (W2.alloc (.cells (madeCells #[.bool false] (n + 1)) 4)) w.heap.size n T := hrow.alloc _
  have hwith0 : Row (W2.alloc (.cells (madeCells #[.bool false] (n + 1)) 4)) (w.heap.size + 1) (n + 1) (fun j => if j < 0 then T j else false) := by
    have := Row.made W2 (n + 1)
    rw [hsz2] at this
    exact this.congr fun j _ => by simp
  have hbel0 : Below w.heap.size w (W2.alloc (.cells (madeCells #[.bool false] (n + 1)) 4)) := hbel.alloc (by omega) _
  go_loopw [15] (fun i wr => ∃ k : Nat, k ≤ p ∧ i = .int .i64 k ∧ Below w.heap.size w wr ∧ Row wr w.heap.size n T ∧ Row wr (w.heap.size + 1) (n + 1) (fun j => if j < k then T j else false))
    (fun i _ => p - (intOf i).toNat)
  case atStart => exact ⟨0, Nat.zero_le _, rfl, hbel0, hrow0, hwith0⟩
  case round =>
    clear hrow0 hwith0 hbel0 hrow hbel hcp
    obtain ⟨k, hk, rfl, hbel, hrow, hwith⟩ := hrel
    by_cases hlt : k < p
    · have hc1 := hrow.cell (j := k) (by omega)
      have hc2 := hwith.cell (j := k) (by omega)
      have hf2 := hwith.free k
      go_wp2
      go_roundw
      case rel => exact ⟨k + 1, by omega, by go_num, hbel.setCell (by simp) _, hrow.other (by simp) _, (hwith.set k (T k)).congr fun j hj => by
        by_cases h1 : j = k
        · subst h1; simp
        · by_cases h2 : j < k
          · have : j < k + 1 := by omega
            simp [h1, h2, this]
          · have : ¬ j < k + 1 := by omega
            simp [h1, h2, this]⟩
      case measure => simp [intOf]; omega
    · obtain rfl : k = p := by omega
      clear hlt hk
      have hc2 := hwith.cell (j := k) (by omega)
      have hf2 := hwith.free k
      have hwith1 := (hwith.set k put).congr (Q := fun j => if j < k then T j else if j = k then put else if j ≤ k then T (j - 1) else false) fun j hj => by
        by_cases h1 : j = k
        · subst h1; simp
        · by_cases h2 : j < k
          · simp [h1, h2]
          · have : ¬ j ≤ k := by omega
            simp [h1, h2, this]
      have hrow1 : Row (wr.setCell ⟨w.heap.size + 1, k, none⟩ (.bool put)) w.heap.size n T := hrow.other (by simp) _
      have hbel1 : Below w.heap.size w (wr.setCell ⟨w.heap.size + 1, k, none⟩ (.bool put)) := hbel.setCell (by simp) _
      go_wp2_with fail
      go_loopw [16] (fun i wr => ∃ q : Nat, k ≤ q ∧ q ≤ n ∧ i = .int .i64 q ∧ Below w.heap.size w wr ∧ Row wr w.heap.size n T ∧ Row wr (w.heap.size + 1) (n + 1) (fun j => if j < k then T j else if j = k then put else if j ≤ q then T (j - 1) else false))
        (fun i _ => n - (intOf i).toNat)
      case atStart => exact ⟨k, Nat.le_refl _, hpn, rfl, hbel1, hrow1, hwith1⟩
      case round =>
        clear hrow1 hwith1 hbel1 hrow hbel hwith hc2 hf2
        obtain ⟨q, hkq, hq1, rfl, hbel, hrow, hwith⟩ := hrel
        by_cases hlt : q < n
        · have hc1 := hrow.cell (j := q) (by omega)
          have hc2 := hwith.cell (j := q + 1) (by omega)
          have hf2 := hwith.free (q + 1)
          go_wp2
          go_roundw
          case rel => exact ⟨q + 1, by omega, by omega, by go_num, hbel.setCell (by simp) _, hrow.other (by simp) _, (hwith.set (q + 1) (T q)).congr fun j hj => by
            by_cases h1 : j = q + 1
            · subst h1
              have a1 : ¬ q + 1 < k := by omega
              have a2 : ¬ q + 1 = k := by omega
              simp [a1, a2]
            · by_cases h2 : j < k
              · simp [h1, h2]
              · by_cases h3 : j = k
                · subst h3; simp [h1]
                · by_cases h4 : j ≤ q
                  · have : j ≤ q + 1 := by omega
                    simp [h1, h2, h3, h4, this]
                  · have : ¬ j ≤ q + 1 := by omega
                    simp [h1, h2, h3, h4, this]⟩
          case measure => simp [intOf]; omega
        · obtain rfl : q = n := by omega
          clear hlt hq1
          have hwithP : Row wr (w.heap.size + 1) (q + 1) (putIn T k put) := hwith.congr fun j hj => by
            unfold putIn
            by_cases h2 : j < k
            · simp [h2]
            · by_cases h3 : j = k
              · simp [h3]
              · have : j ≤ q := by omega
                simp [h2, h3, this]
          clear hwith
          go_wp2_with fail
          refine (accepts14 _ _ q q T hp pr msg _ (by omega) hrow.bools).mono ?_
          rintro e w5 ⟨rfl, hb5⟩
          go_wp2_with fail
          refine (accepts14 _ _ (q + 1) (q + 1) _ hp pr msg _ (by omega) (hwithP.below hb5).bools).mono ?_
          rintro e w6 ⟨rfl, hb6⟩
          rw [anyB_putIn T k put q hpn]
          have hfin : Below w.heap.size w w6 := (hbel.trans (hb5.mono hbel.size)).trans (hb6.mono (Nat.le_trans hbel.size hb5.size))
          cases put with
          | true =>
            simp only [Bool.true_or]
            go_wp2
            go_ret
            exact ⟨rfl, hfin⟩
          | false =>
            simp only [Bool.false_or]
            generalize (anyB T q || hp && pr) = bb
            go_wp2
            go_ret
            exact ⟨rfl, hfin⟩

set_option maxRecDepth 100000 in
set_option maxHeartbeats 1000000 in
theorem walk6_nil (hp pr : Bool) (msg : Int) (put : Bool) (w : World) :
    Calls Try.prog 6 #[.slice none 0 0, .bool hp, .bool pr, .int .i64 msg, .int .i64 0, .bool put] w fun e w' => e = .returned (.bool true) ∧ Below w.heap.size w w' := by
  have hq := neq40
  have hmk1 : ∀ w : World, (Instr.makeSlice 40 (.int .i64 1) (.int .i64 1)).run Try.prog w = .ok (.slice (some ⟨w.heap.size, 0, none⟩) 1 1) (w.alloc (.cells (madeCells #[.bool false] 1) 4)) := make40 1 (by omega)
  have hc2 := (Row.made w 1).cell (j := 0) (by omega)
  have hf2 := (Row.made w 1).free 0
  have hb0 : BoolsAt w none ⟨0, 0, none⟩ 0 (fun _ => false) := ⟨fun h => absurd h (Nat.lt_irrefl _), fun i hi => absurd hi (Nat.not_lt_zero _)⟩
  go_enter Try.func6, Try.ntmps6
  go_wp2_with fail
  refine (bytes16 _ 0 0 hp pr msg _ put _ (by omega)).mono ?_
  rintro e w' ⟨rfl, rfl⟩
  rename World => w
  go_wp2_with fail
  refine wp_loop_rounds 1 ?_
  rw [rounds_succ]
  go_wp2_with fail
  refine wp_loop_rounds 1 ?_
  rw [rounds_succ]
  go_wp2_with fail
  have hrow : Row (w.alloc (.cells ((madeCells #[.bool false] 1).setIfInBounds 0 (.bool put)) 4)) w.heap.size 1 (fun _ => put) := Row.one w put
  have hbel : Below w.heap.size w (w.alloc (.cells ((madeCells #[.bool false] 1).setIfInBounds 0 (.bool put)) 4)) := (Below.refl _ _).alloc (Nat.le_refl _) _
  refine (accepts14 none ⟨0, 0, none⟩ 0 0 (fun _ => false) hp pr msg _ (by omega) (hb0.below hbel)).mono ?_
  rintro e w5 ⟨rfl, hb5⟩
  go_wp2_with fail
  refine (accepts14 _ _ 1 1 _ hp pr msg _ (by omega) (hrow.below hb5).bools).mono ?_
  rintro e w6 ⟨rfl, hb6⟩
  have hfin : Below w.heap.size w w6 := (hbel.trans (hb5.mono hbel.size)).trans (hb6.mono (Nat.le_trans hbel.size hb5.size))
  simp only [anyB, Bool.false_or]
  cases put with
  | true =>
    simp only [Bool.true_or]
    go_wp2
    go_ret
    exact ⟨rfl, hfin⟩
  | false =>
    simp only [Bool.false_or]
    generalize (hp && pr) = bb
    go_wp2
    go_ret
    exact ⟨rfl, hfin⟩

/-- over the law's own bounds the answer is 'true' at once -/
theorem walk6_long (a : Option Addr) (n ce : Nat) (hp pr : Bool) (msg : Int) (p : Int) (put : Bool) (w : World) (hn : n ≤ maxLen) (h : 65536 < n ∨ p < 0 ∨ (n : Int) < p) :
    Calls Try.prog 6 #[.slice a n ce, .bool hp, .bool pr, .int .i64 msg, .int .i64 p, .bool put] w fun e w' => e = .returned (.bool true) ∧ Below w.heap.size w w' := by
  unfold maxLen at hn
  by_cases h1 : 65536 < n
  · clear h
    go_enter Try.func6, Try.ntmps6
    go_wp2
    all_goals
      go_ret
      exact ⟨rfl, Below.refl _ _⟩
  · by_cases h2 : p < 0
    · clear h
      go_enter Try.func6, Try.ntmps6
      go_wp2
      go_ret
      exact ⟨rfl, Below.refl _ _⟩
    · have h3 : (n : Int) < p := by omega
      clear h
      go_enter Try.func6, Try.ntmps6
      go_wp2
      go_ret
      exact ⟨rfl, Below.refl _ _⟩
end Go.Proofs.Qxb6608610a
