/-
  zzModesValid (f20), zzJoin (f21); requests of plain data in memory.
-/
import Derived.Test.Qxb6608630aDoorParts
import Derived.OpenShut
import Derived.Lib.SliceRun
namespace Go.Proofs.Qxb6608630aDoor
open Go.RowKit
set_option linter.unusedSimpArgs false
set_option linter.unusedVariables false

/-- a slice of requests of plain data as it lies in memory -/
structure ReqsAt (w : World) (oe : Option Addr) (ea : Addr) (n : Nat) (T M : Nat → Nat) (N : Nat → Bool) : Prop where
  some : 0 < n → oe = some ea ∧ ea.block < w.heap.size
  tx : ∀ i, i < n → w.cell? (ea.add (i * 3)) = Option.some (.int .u8 (T i))
  md : ∀ i, i < n → w.cell? ⟨(ea.add (i * 3)).block, (ea.add (i * 3)).off + 1, none⟩ = Option.some (.int .u8 (M i))
  nil : ∀ i, i < n → w.cell? ⟨(ea.add (i * 3)).block, (ea.add (i * 3)).off + 2, none⟩ = Option.some (.bool (N i))
  lt : ∀ i, i < n → T i < 256
  lm : ∀ i, i < n → M i < 256

theorem add_blk (a : Addr) (n : Nat) : (a.add n).block = a.block := by unfold Addr.add; split <;> rfl

theorem ReqsAt.below {w w' : World} {oe : Option Addr} {ea : Addr} {n : Nat} {T M : Nat → Nat} {N : Nat → Bool} (h : ReqsAt w oe ea n T M N) (hb : Below w.heap.size w w') : ReqsAt w' oe ea n T M N :=
  ⟨fun hp => ⟨(h.some hp).1, Nat.lt_of_lt_of_le (h.some hp).2 hb.size⟩,
   fun i hi => (hb.cell (by simpa [add_blk] using (h.some (by omega)).2)).trans (h.tx i hi),
   fun i hi => (hb.cell (by simpa [add_blk] using (h.some (by omega)).2)).trans (h.md i hi),
   fun i hi => (hb.cell (by simpa [add_blk] using (h.some (by omega)).2)).trans (h.nil i hi), h.lt, h.lm⟩

theorem ix32 (ea : Addr) (oe : Option Addr) (ne ce k : Nat) (h : k < ne) (hoe : oe = some ea) (w : World) : (Instr.indexAt 32 (.slice oe ne ce) (.int .i64 k)).run Tryd.prog w = .ok (.pointer (some (ea.add (k * 3)))) w := by
  subst hoe
  have hs : (sizeOf 43).run Tryd.prog w = .ok 3 w := by kernel_rfl
  simp [Instr.indexAt, asIntOf, run_underlying Tryd.underlying32, Result.andThen, hs, h]

def allLt (M : Nat → Nat) : Nat → Bool
  | 0 => true
  | n + 1 => allLt M n && decide (M n < 10)

theorem allLt_iff (M : Nat → Nat) : ∀ n, allLt M n = true ↔ ∀ i, i < n → M i < 10
  | 0 => by simp [allLt]
  | n + 1 => by
    have ih := allLt_iff M n
    show (allLt M n && decide (M n < 10)) = true ↔ _
    rw [Bool.and_eq_true, ih, decide_eq_true_iff]
    constructor
    · rintro ⟨h1, h2⟩ i hi
      rcases Nat.lt_succ_iff_lt_or_eq.1 hi with h | h
      · exact h1 i h
      · exact h ▸ h2
    · intro h
      exact ⟨fun i hi => h i (by omega), h n (by omega)⟩

theorem allLt_false {M : Nat → Nat} {k n : Nat} (hk : k < n) (h : ¬ M k < 10) : allLt M n = false := by
  cases e : allLt M n with
  | false => rfl
  | true => exact absurd ((allLt_iff M n).1 e k hk) h

set_option maxRecDepth 100000 in
theorem valid20 (oe : Option Addr) (ea : Addr) (n ce : Nat) (T M : Nat → Nat) (N : Nat → Bool) (w : World) (hn : n ≤ 65536) (h : ReqsAt w oe ea n T M N) :
    Calls Tryd.prog 20 #[.slice oe n ce] w fun e w' => e = .returned (.bool (allLt M n)) ∧ w' = w := by
  go_enter Tryd.func20, Tryd.ntmps20
  go_wp2
  go_loop [3] (fun i => ∃ k : Nat, k ≤ n ∧ i = .int .i64 k ∧ allLt M k = true) (fun i => n - (intOf i).toNat)
  case atStart => exact ⟨0, Nat.zero_le _, rfl, rfl⟩
  case round =>
    obtain ⟨k, hk, rfl, hall⟩ := hrel
    by_cases hlt : k < n
    · have hx := ix32 ea oe n ce k hlt (h.some (by omega)).1
      have hc := h.md k hlt
      by_cases hm : M k < 10
      · have HN : Hid (allLt M (k + 1) = true) := by show (allLt M k && decide (M k < 10)) = true; rw [hall]; simp [hm]
        go_wp2
        go_round
        case rel => exact ⟨k + 1, by omega, by go_num, HN.out⟩
        case measure => simp [intOf]; omega
      · have hend := allLt_false hlt hm
        go_wp2
        go_ret
        exact ⟨by simp [hend], rfl⟩
    · obtain rfl : k = n := by omega
      clear hlt
      go_wp2
      go_ret
      exact ⟨by simp [hall], rfl⟩

theorem info43 : (Tryd.prog.info? 43).map (fun i => (i.zero, i.size, i.bytes)) = some (some (.agg #[.int .u8 0, .int .u8 0, .bool false]), 3, 3) := by kernel_rfl

theorem make32 (n : Nat) (hn : n ≤ 200000) (w : World) : (Instr.makeSlice 32 (.int .i64 (n : Int)) (.int .i64 (n : Int))).run Tryd.prog w = .ok (.slice (some ⟨w.heap.size, 0, none⟩) n n) (w.alloc (.cells (madeCells #[.int .u8 0, .int .u8 0, .bool false] (n * 3)) 43)) := by
  obtain ⟨i0, hi0, hz0, hz1, hz2⟩ := info_parts info43
  have := run_make (P := Tryd.prog) w 32 43 i0 (.agg #[.int .u8 0, .int .u8 0, .bool false]) Tryd.underlying32 hi0 hz0 .i64 .i64 n n (by omega) (Int.le_refl _) (by rw [hz2]; omega) (by omega)
  rw [hz1] at this
  simpa [Value.cells] using this

/-- a row of requests of plain data that the call itself made -/
def QRow (w : World) (b n : Nat) (T M : Nat → Nat) (N : Nat → Bool) : Prop := ∃ arr, w.heap[b]? = some (.cells arr 43 (0, 0)) ∧ arr.size = n * 3 ∧
  ∀ i, i < n → arr[i * 3]? = some (.int .u8 (T i)) ∧ arr[i * 3 + 1]? = some (.int .u8 (M i)) ∧ arr[i * 3 + 2]? = some (.bool (N i))

theorem QRow.lt {w : World} {b n : Nat} {T M : Nat → Nat} {N : Nat → Bool} (h : QRow w b n T M N) : b < w.heap.size := by
  obtain ⟨arr, h1, _⟩ := h
  exact lt_of_block h1

theorem QRow.cells {w : World} {b n : Nat} {T M : Nat → Nat} {N : Nat → Bool} (h : QRow w b n T M N) {i : Nat} (hi : i < n) :
    w.cell? ⟨b, i * 3, none⟩ = some (.int .u8 (T i)) ∧ w.cell? ⟨b, i * 3 + 1, none⟩ = some (.int .u8 (M i)) ∧ w.cell? ⟨b, i * 3 + 2, none⟩ = some (.bool (N i)) := by
  obtain ⟨arr, h1, h2, h3⟩ := h
  obtain ⟨e1, e2, e3⟩ := h3 i hi
  simp [World.cell?, h1, e1, e2, e3]

theorem QRow.free {w : World} {b n : Nat} {T M : Nat → Nat} {N : Nat → Bool} (h : QRow w b n T M N) (j : Nat) : w.frozen? ⟨b, j, none⟩ = false := by
  obtain ⟨arr, h1, _⟩ := h
  simp [World.frozen?, h1]

theorem QRow.congr {w : World} {b n : Nat} {T M T' M' : Nat → Nat} {N N' : Nat → Bool} (h : QRow w b n T M N) (e : ∀ i, i < n → T i = T' i ∧ M i = M' i ∧ N i = N' i) : QRow w b n T' M' N' := by
  obtain ⟨arr, h1, h2, h3⟩ := h
  refine ⟨arr, h1, h2, fun i hi => ?_⟩
  obtain ⟨e1, e2, e3⟩ := e i hi
  rw [← e1, ← e2, ← e3]
  exact h3 i hi

theorem QRow.set {w : World} {b n : Nat} {T M : Nat → Nat} {N : Nat → Bool} (h : QRow w b n T M N) {k : Nat} (hk : k < n) (t m : Nat) (x : Bool) :
    QRow (((w.setCell ⟨b, k * 3, none⟩ (.int .u8 t)).setCell ⟨b, k * 3 + 1, none⟩ (.int .u8 m)).setCell ⟨b, k * 3 + 2, none⟩ (.bool x)) b n
      (fun i => if i = k then t else T i) (fun i => if i = k then m else M i) (fun i => if i = k then x else N i) := by
  obtain ⟨arr, h1, h2, h3⟩ := h
  have g1 := heap_setCell_same w b (k * 3) arr 43 (.int .u8 t) h1
  have g2 := heap_setCell_same _ b (k * 3 + 1) _ 43 (.int .u8 m) g1
  have g3 := heap_setCell_same _ b (k * 3 + 2) _ 43 (.bool x) g2
  refine ⟨_, g3, by simpa using h2, fun i hi => ?_⟩
  obtain ⟨e1, e2, e3⟩ := h3 i hi
  by_cases hik : i = k
  · subst hik
    have s0 : i * 3 < arr.size := by omega
    have s1 : i * 3 + 1 < arr.size := by omega
    have s2 : i * 3 + 2 < arr.size := by omega
    simp [Array.getElem?_setIfInBounds, s0, s1, s2]
  · have n1 : ¬ k * 3 = i * 3 := by omega
    have n2 : ¬ k * 3 + 1 = i * 3 := by omega
    have n3 : ¬ k * 3 + 2 = i * 3 := by omega
    have n4 : ¬ k * 3 = i * 3 + 1 := by omega
    have n6 : ¬ k * 3 + 2 = i * 3 + 1 := by omega
    have n7 : ¬ k * 3 = i * 3 + 2 := by omega
    have n8 : ¬ k * 3 + 1 = i * 3 + 2 := by omega
    have n9 : ¬ k = i := fun e => hik e.symm
    simp only [Array.getElem?_setIfInBounds, if_neg hik, if_neg n1, if_neg n2, if_neg n3, if_neg n4, if_neg n6, if_neg n7, if_neg n8, if_neg (show ¬ k * 3 + 1 = i * 3 + 1 by omega), if_neg (show ¬ k * 3 + 2 = i * 3 + 2 by omega)]
    exact ⟨e1, e2, e3⟩

theorem getElem_made {z : Array Value} {m : Nat} {j : Nat} (h : j < m) (hz : 0 < z.size) : (madeCells z m)[j]? = z[j % z.size]? := by
  have hlt : j % z.size < z.size := Nat.mod_lt _ hz
  simp [madeCells, h, hlt]

theorem QRow.made (w : World) (n : Nat) : QRow (w.alloc (.cells (madeCells #[.int .u8 0, .int .u8 0, .bool false] (n * 3)) 43)) w.heap.size n (fun _ => 0) (fun _ => 0) (fun _ => false) := by
  refine ⟨_, heap_alloc_new w _, by simp [madeCells], fun i hi => ?_⟩
  rw [getElem_made (by omega) (by decide), getElem_made (by omega) (by decide), getElem_made (by omega) (by decide)]
  have e1 : i * 3 % 3 = 0 := by omega
  have e2 : (i * 3 + 1) % 3 = 1 := by omega
  have e3 : (i * 3 + 2) % 3 = 2 := by omega
  simp [e1, e2, e3]

theorem QRow.kept {w w' : World} {b n : Nat} {T M : Nat → Nat} {N : Nat → Bool} (h : QRow w b n T M N) (e : w'.heap[b]? = w.heap[b]?) : QRow w' b n T M N := by
  obtain ⟨arr, h1, h2, h3⟩ := h
  exact ⟨arr, e.trans h1, h2, h3⟩

/-- two lists, one behind the other -/
def jn {α : Type} (n1 : Nat) (f g : Nat → α) (i : Nat) : α := if i < n1 then f i else g (i - n1)

set_option maxRecDepth 100000 in
set_option maxHeartbeats 1000000 in
theorem join21 (o1 o2 : Option Addr) (a1 a2 : Addr) (n1 c1 n2 c2 : Nat) (T1 M1 T2 M2 : Nat → Nat) (N1 N2 : Nat → Bool) (w : World) (hn1 : n1 ≤ 65536) (hn2 : n2 ≤ 65536) (h1 : ReqsAt w o1 a1 n1 T1 M1 N1) (h2 : ReqsAt w o2 a2 n2 T2 M2 N2) :
    Calls Tryd.prog 21 #[.slice o1 n1 c1, .slice o2 n2 c2] w fun e w' => e = .returned (.slice (some ⟨w.heap.size, 0, none⟩) (n1 + n2) (n1 + n2)) ∧ Below w.heap.size w w' ∧
      QRow w' w.heap.size (n1 + n2) (jn n1 T1 T2) (jn n1 M1 M2) (jn n1 N1 N2) := by
  have hmk := make32 (n1 + n2) (by omega)
  rw [show ((n1 + n2 : Nat) : Int) = (n1 : Int) + (n2 : Int) by omega] at hmk
  go_enter Tryd.func21, Tryd.ntmps21
  go_wp2
  go_loopw [6] (fun i wr => ∃ k : Nat, k ≤ n1 ∧ i = .int .i64 k ∧ Below w.heap.size w wr ∧ QRow wr w.heap.size (n1 + n2) (fun i => if i < k then T1 i else 0) (fun i => if i < k then M1 i else 0) (fun i => if i < k then N1 i else false))
    (fun i _ => n1 - (intOf i).toNat)
  case atStart => exact ⟨0, Nat.zero_le _, rfl, (Below.refl _ _).alloc (Nat.le_refl _) _, (QRow.made w (n1 + n2)).congr fun i _ => by simp⟩
  case round =>
    obtain ⟨k, hk, rfl, hnx, hq⟩ := hrel
    by_cases hlt : k < n1
    · have hx := ix32 a1 o1 n1 c1 k hlt (h1.some (by omega)).1
      have t1 := (h1.below hnx).tx k hlt
      have t2 := (h1.below hnx).md k hlt
      have t3 := (h1.below hnx).nil k hlt
      obtain ⟨q1, q2, q3⟩ := hq.cells (i := k) (by omega)
      have f1 := hq.free (k * 3)
      have f2 := hq.free (k * 3 + 1)
      have f3 := hq.free (k * 3 + 2)
      go_wp2
      go_roundw
      case rel => exact ⟨k + 1, by omega, by go_num, ((hnx.setCell (Nat.le_refl _) _).setCell (Nat.le_refl _) _).setCell (Nat.le_refl _) _, (hq.set (k := k) (by omega) (T1 k) (M1 k) (N1 k)).congr fun i _ => by
        by_cases e : i = k
        · subst e; simp
        · by_cases e2 : i < k
          · have : i < k + 1 := by omega
            simp [e, e2, this]
          · have : ¬ i < k + 1 := by omega
            simp [e, e2, this]⟩
      case measure => simp [intOf]; omega
    · obtain rfl : k = n1 := by omega
      clear hlt hk
      go_wp2_with fail
      go_loopw [7] (fun i wr => ∃ j : Nat, j ≤ n2 ∧ i = .int .i64 j ∧ Below w.heap.size w wr ∧ QRow wr w.heap.size (k + n2) (fun i => if i < k then T1 i else if i < k + j then T2 (i - k) else 0) (fun i => if i < k then M1 i else if i < k + j then M2 (i - k) else 0) (fun i => if i < k then N1 i else if i < k + j then N2 (i - k) else false))
        (fun i _ => n2 - (intOf i).toNat)
      case atStart => exact ⟨0, Nat.zero_le _, rfl, hnx, hq.congr fun i _ => by
        by_cases e : i < k
        · simp [e]
        · simp [e]⟩
      case round =>
        clear hq hnx
        obtain ⟨j, hj, rfl, hnx, hq⟩ := hrel
        by_cases hlt : j < n2
        · have hx := ix32 a2 o2 n2 c2 j hlt (h2.some (by omega)).1
          have t1 := (h2.below hnx).tx j hlt
          have t2 := (h2.below hnx).md j hlt
          have t3 := (h2.below hnx).nil j hlt
          obtain ⟨q1, q2, q3⟩ := hq.cells (i := k + j) (by omega)
          have f1 := hq.free ((k + j) * 3)
          have f2 := hq.free ((k + j) * 3 + 1)
          have f3 := hq.free ((k + j) * 3 + 2)
          go_wp2
          go_roundw
          case rel => exact ⟨j + 1, by omega, by go_num, ((hnx.setCell (Nat.le_refl _) _).setCell (Nat.le_refl _) _).setCell (Nat.le_refl _) _, (hq.set (k := k + j) (by omega) (T2 j) (M2 j) (N2 j)).congr fun i _ => by
            by_cases e : i = k + j
            · subst e
              have a1 : ¬ k + j < k := by omega
              have a2 : k + j < k + (j + 1) := by omega
              simp [a1, a2]
            · by_cases e2 : i < k
              · simp [e, e2]
              · by_cases e3 : i < k + j
                · have : i < k + (j + 1) := by omega
                  simp [e, e2, e3, this]
                · have : ¬ i < k + (j + 1) := by omega
                  simp [e, e2, e3, this]⟩
          case measure => simp [intOf]; omega
        · obtain rfl : j = n2 := by omega
          clear hlt hj
          go_wp2
          go_ret
          exact ⟨rfl, hnx, hq.congr fun i hi => by
            unfold jn
            by_cases e : i < k
            · simp [e]
            · have : i < k + j := hi
              simp [e, this]⟩
end Go.Proofs.Qxb6608630aDoor
