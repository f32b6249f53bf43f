/-
  ZZnewTx (f38), ZZnewRequest (f23), zzTxOf (f24), zzBuild (f22): the table of transactions and the requests in memory.
-/
import Derived.Test.Qxb6608630aDoorJoin
import Derived.Deep.RegionWith
import Derived.LaidEqlPtr
import Derived.Lib.Builder
import Derived.Deep.RegionHeld3
import Derived.Deep.AppendLies
import Derived.Deep.DrawnRows
namespace Go.Proofs.Qxb6608630aDoor
open Go.RowKit
set_option linter.unusedSimpArgs false
set_option linter.unusedVariables false

theorem run_neq_ptr_other {P : Program} (w : World) {tp te : TypeId} {j : TypeInfo} {a b : Addr} {ca cb : Array Value} {ta tb : TypeId} (hp : P.underlying tp = some (.pointer te)) (hte : P.info? te = some j) (hsz : j.size ≠ 0)
    (hne : a ≠ b) (ha : w.heap[a.block]? = some (.cells ca ta (0, 0))) (hb : w.heap[b.block]? = some (.cells cb tb (0, 0))) :
    (binOp .neq tp (.pointer (some a)) (.pointer (some b))).run P w = .ok (.bool true) w := by
  have h : ∀ d : Nat, (Op.equalIn (d + 1) tp (.pointer (some a)) (.pointer (some b))).run P w = .ok false w := fun d => by
    simp [Op.equalIn, run_underlying hp, sizeOf, typeInfo, hte, hsz, run_sameAddr_other w hne ha hb]
  simp only [binOp]
  simp [Op.equal, Op.maxDepth, h 9999]

/-- a request's cells -/
def reqCells (t m : Nat) : Array Value := #[.pointer (some ⟨t, 0, none⟩), .pointer none, .int .u8 m, .bool false, .int .u8 0, .int .u8 0, .int .i32 0, .int .i32 0, .int .i32 0, .pointer none, .pointer none]

def IsReq (w : World) (b t m : Nat) : Prop := w.heap[b]? = some (.cells (reqCells t m) 64 (0, 0))
def IsTx (w : World) (b : Nat) : Prop := ∃ cs, w.heap[b]? = some (.cells cs 92 (0, 0))

theorem newTx38 (w : World) : Calls Tryd.prog 38 #[] w fun e w' => e = .returned (.pointer (some ⟨w.heap.size, 0, none⟩)) ∧ ∃ cs, w' = w.alloc (.cells cs 92) := by
  go_enter Tryd.func38, Tryd.ntmps38
  go_wp2
  go_ret
  exact ⟨rfl, _, rfl⟩

theorem newReq23 (t m : Nat) (w : World) : Calls Tryd.prog 23 #[.pointer (some ⟨t, 0, none⟩), .int .u8 m] w fun e w' => e = .returned (.pointer (some ⟨w.heap.size, 0, none⟩)) ∧ w' = w.alloc (.cells (reqCells t m) 64) := by
  go_enter Tryd.func23, Tryd.ntmps23
  go_wp2
  go_ret
  exact ⟨rfl, rfl⟩

def ptr (o : Option Nat) : Value := .pointer (o.map fun b => ⟨b, 0, none⟩)

/-- the table of transactions: one Tx an id -/
structure TxAt (w : World) (X : Nat) (P : Nat → Option Nat) : Prop where
  arr : ∃ arr ty, w.heap[X]? = some (.cells arr ty (0, 0)) ∧ arr.size = 256 ∧ ∀ i, i < 256 → arr[i]? = some (ptr (P i))
  tx : ∀ i b, P i = some b → IsTx w b ∧ b ≠ X
  inj : ∀ i j b, P i = some b → P j = some b → i = j

theorem TxAt.cell {w : World} {X : Nat} {P : Nat → Option Nat} (h : TxAt w X P) {i : Nat} (hi : i < 256) : w.cell? ⟨X, i, none⟩ = some (ptr (P i)) := by
  obtain ⟨arr, ty, h1, h2, h3⟩ := h.arr
  simp [World.cell?, h1, h3 i hi]
theorem TxAt.free {w : World} {X : Nat} {P : Nat → Option Nat} (h : TxAt w X P) (i : Nat) : w.frozen? ⟨X, i, none⟩ = false := by
  obtain ⟨arr, ty, h1, h2, h3⟩ := h.arr
  simp [World.frozen?, h1]
theorem TxAt.lt {w : World} {X : Nat} {P : Nat → Option Nat} (h : TxAt w X P) : X < w.heap.size := by
  obtain ⟨arr, ty, h1, h2, h3⟩ := h.arr
  exact lt_of_block h1

theorem IsTx.kept {w w' : World} {b : Nat} {row : Option Nat} (h : IsTx w b) (hg : w.grownBy w' row) (hne : some b ≠ row) : IsTx w' b := by
  obtain ⟨cs, h⟩ := h
  exact ⟨cs, (hg.block b (lt_of_block h) hne).trans h⟩
theorem IsReq.kept {w w' : World} {b t m : Nat} {row : Option Nat} (h : IsReq w b t m) (hg : w.grownBy w' row) (hne : some b ≠ row) : IsReq w' b t m := (hg.block b (lt_of_block h) hne).trans h

theorem TxAt.kept {w w' : World} {X : Nat} {P : Nat → Option Nat} {row : Option Nat} (h : TxAt w X P) (hg : w.grownBy w' row) (hX : some X ≠ row) (hb : ∀ i b, P i = some b → some b ≠ row) : TxAt w' X P := by
  obtain ⟨arr, ty, h1, h2, h3⟩ := h.arr
  exact ⟨⟨arr, ty, (hg.block X (lt_of_block h1) hX).trans h1, h2, h3⟩, fun i b e => ⟨(h.tx i b e).1.kept hg (hb i b e), (h.tx i b e).2⟩, h.inj⟩

theorem grownBy_drew (w : World) (row : Option Nat) : w.grownBy w.drew row := ⟨rfl, rfl, rfl, Nat.le_refl _, fun _ _ _ => rfl⟩
theorem TxAt.drew {w : World} {X : Nat} {P : Nat → Option Nat} (h : TxAt w X P) : TxAt w.drew X P := h.kept (grownBy_drew w none) (by simp) (fun _ _ _ => by simp)

def updP (P : Nat → Option Nat) (i b : Nat) : Nat → Option Nat := fun j => if j = i then some b else P j

/-- a new transaction is laid and set -/
theorem TxAt.put {w : World} {X : Nat} {P : Nat → Option Nat} (h : TxAt w X P) {i : Nat} (hi : i < 256) (hP : P i = none) (cs : Array Value) :
    TxAt ((w.setCell ⟨X, i, none⟩ (.pointer (some ⟨w.heap.size, 0, none⟩))).alloc (.cells cs 92)).drew X (updP P i w.heap.size) ∧ w.grownBy ((w.setCell ⟨X, i, none⟩ (.pointer (some ⟨w.heap.size, 0, none⟩))).alloc (.cells cs 92)).drew (some X) := by
  have hX := h.lt
  obtain ⟨arr, ty, h1, h2, h3⟩ := h.arr
  have hsz : (w.setCell ⟨X, i, none⟩ (.pointer (some ⟨w.heap.size, 0, none⟩))).heap.size = w.heap.size := by simp [World.setCell]
  have hold : ∀ b, b < w.heap.size → ((w.setCell ⟨X, i, none⟩ (.pointer (some ⟨w.heap.size, 0, none⟩))).alloc (.cells cs 92)).drew.heap[b]? = (w.setCell ⟨X, i, none⟩ (.pointer (some ⟨w.heap.size, 0, none⟩))).heap[b]? := fun b hb => Below.heap_alloc _ _ b (by rw [hsz]; exact hb)
  have hother : ∀ b, b < w.heap.size → b ≠ X → ((w.setCell ⟨X, i, none⟩ (.pointer (some ⟨w.heap.size, 0, none⟩))).alloc (.cells cs 92)).drew.heap[b]? = w.heap[b]? := fun b hb hne => (hold b hb).trans (Below.heap_setCell _ _ _ b hne)
  have hnew : ((w.setCell ⟨X, i, none⟩ (.pointer (some ⟨w.heap.size, 0, none⟩))).alloc (.cells cs 92)).drew.heap[w.heap.size]? = some (.cells cs 92 (0, 0)) := by
    have := heap_alloc_new (w.setCell ⟨X, i, none⟩ (.pointer (some ⟨w.heap.size, 0, none⟩))) (.cells cs 92)
    rw [hsz] at this
    exact this
  refine ⟨⟨⟨arr.setIfInBounds i (.pointer (some ⟨w.heap.size, 0, none⟩)), ty, (hold X hX).trans (heap_setCell_same w X i arr ty _ h1), by simpa using h2, fun j hj => ?_⟩, fun j b e => ?_, fun j k b ej ek => ?_⟩, ?_⟩
  · by_cases e : j = i
    · subst e
      have : j < arr.size := by omega
      simp [Array.getElem?_setIfInBounds, updP, ptr, this]
    · have e' : ¬ i = j := fun x => e x.symm
      simp [Array.getElem?_setIfInBounds, updP, e, e', h3 j hj]
  · unfold updP at e
    by_cases ej : j = i
    · rw [if_pos ej] at e
      cases e
      have hne : w.heap.size ≠ X := by omega
      exact ⟨⟨cs, hnew⟩, hne⟩
    · rw [if_neg ej] at e
      obtain ⟨⟨c, hc⟩, hne⟩ := h.tx j b e
      exact ⟨⟨c, (hother b (lt_of_block hc) hne).trans hc⟩, hne⟩
  · have old : ∀ j b, P j = some b → b < w.heap.size := fun j b e => by
      obtain ⟨⟨c, hc⟩, _⟩ := h.tx j b e
      exact lt_of_block hc
    unfold updP at ej ek
    by_cases e1 : j = i
    · by_cases e2 : k = i
      · rw [e1, e2]
      · rw [if_pos e1] at ej
        rw [if_neg e2] at ek
        cases ej
        have := old k _ ek
        omega
    · by_cases e2 : k = i
      · rw [if_neg e1] at ej
        rw [if_pos e2] at ek
        cases ek
        have := old j _ ej
        omega
      · rw [if_neg e1] at ej
        rw [if_neg e2] at ek
        exact h.inj j k b ej ek
  · refine ⟨rfl, rfl, rfl, ?_, fun b hb hne => hother b hb (fun e => hne (by rw [e]))⟩
    show w.heap.size ≤ ((w.setCell ⟨X, i, none⟩ (.pointer (some ⟨w.heap.size, 0, none⟩))).alloc (.cells cs 92)).heap.size
    simp [World.setCell]

set_option maxHeartbeats 1000000 in
theorem txOf24 (X : Nat) (P : Nat → Option Nat) (i : Nat) (w : World) (hi : i < 256) (h : TxAt w X P) :
    Calls Tryd.prog 24 #[.pointer (some ⟨X, 0, none⟩), .int .u8 i] w fun e w' => ∃ t P', e = .returned (.pointer (some ⟨t, 0, none⟩)) ∧ TxAt w' X P' ∧ P' i = some t ∧ (∀ j b, P j = some b → P' j = some b) ∧ w.grownBy w' (some X) := by
  have hc := h.cell hi
  have hi' : (i : Int) < 256 := by omega
  cases hP : P i with
  | some t =>
    rw [hP] at hc
    unfold ptr at hc
    simp only [Option.map_some] at hc
    go_enter Tryd.func24, Tryd.ntmps24
    go_wp2
    go_ret
    exact ⟨t, P, rfl, h, hP, fun _ _ e => e, World.grownBy.refl _ _⟩
  | none =>
    rw [hP] at hc
    unfold ptr at hc
    simp only [Option.map_none] at hc
    have hf := h.free i
    have hX := h.lt
    have hca : ∀ o, (w.alloc o).cell? ⟨X, i, none⟩ = some (.pointer none) := fun o => (World.cell?_of_block (Below.heap_alloc w o X hX)).trans hc
    have hfa : ∀ o, (w.alloc o).frozen? ⟨X, i, none⟩ = false := fun o => (World.frozen?_of_block (Below.heap_alloc w o X hX)).trans hf
    go_enter Tryd.func24, Tryd.ntmps24
    go_wp2_with fail
    go_region_with (go_at_call 38; refine (newTx38 _).mono ?_; rintro e w' ⟨rfl, cs, rfl⟩)
    all_goals
      obtain ⟨hT, hg⟩ := h.put hi hP cs
      have hct := hT.cell hi
      have ht : updP P i w.heap.size i = some w.heap.size := by simp [updP]
      rw [ht] at hct
      unfold ptr at hct
      simp only [Option.map_some] at hct
      have HT : Hid (TxAt ((w.setCell ⟨X, i, none⟩ (.pointer (some ⟨w.heap.size, 0, none⟩))).alloc (.cells cs 92)).drew X (updP P i w.heap.size)) := hT
      have HG : Hid (w.grownBy ((w.setCell ⟨X, i, none⟩ (.pointer (some ⟨w.heap.size, 0, none⟩))).alloc (.cells cs 92)).drew (some X)) := hg
      have Ht : Hid (updP P i w.heap.size i = some w.heap.size) := ht
      clear hT hg ht
      go_wp2
      go_ret
      refine ⟨w.heap.size, updP P i w.heap.size, rfl, HT.out, Ht.out, fun j b e => ?_, HG.out⟩
      unfold updP
      by_cases ej : j = i
      · subst ej; rw [hP] at e; cases e
      · rw [if_neg ej]; exact e
set_option maxHeartbeats 1000000 in
theorem build22 (X : Nat) (P : Nat → Option Nat) (t m : Nat) (nil : Bool) (w : World) (ht : t < 256) (h : TxAt w X P) :
    Calls Tryd.prog 22 #[.pointer (some ⟨X, 0, none⟩), .agg #[.int .u8 t, .int .u8 m, .bool nil]] w fun e w' => ∃ R P', e = .returned (ptr R) ∧ TxAt w' X P' ∧ (∀ j b, P j = some b → P' j = some b) ∧ w.grownBy w' (some X) ∧
      (nil = true → R = none) ∧ (nil = false → ∃ b τ, R = some b ∧ IsReq w' b τ m ∧ P' t = some τ ∧ w.heap.size ≤ b) := by
  have hX := h.lt
  cases nil with
  | true =>
    go_enter Tryd.func22, Tryd.ntmps22
    go_wp2
    go_ret
    have hg := World.grownBy_alloc w (.cells #[.int .u8 t, .int .u8 m, .bool true] 43) (some X)
    have hg0 := World.grownBy_alloc w (.cells #[.int .u8 t, .int .u8 m, .bool true] 43) none
    exact ⟨none, P, rfl, h.kept hg0 (by simp) (fun _ _ _ => by simp), fun _ _ e => e, hg, fun _ => rfl, fun e => by cases e⟩
  | false =>
    have hg0 := World.grownBy_alloc w (.cells #[.int .u8 t, .int .u8 m, .bool false] 43) none
    have h' : TxAt (w.alloc (.cells #[.int .u8 t, .int .u8 m, .bool false] 43)) X P := h.kept hg0 (by simp) (fun _ _ _ => by simp)
    clear hg0
    go_enter Tryd.func22, Tryd.ntmps22
    go_wp2_with fail
    go_region_held3 (fun w' => w'.cell? ⟨w.heap.size, 0, none⟩ = some (.int .u8 t) ∧ w'.cell? ⟨w.heap.size, 1, none⟩ = some (.int .u8 m))
      (first | go_keep | (go_split_ands; exact ⟨(hg1.cell_far _ (by simp) (by simp; omega)).trans (by simp), (hg1.cell_far _ (by simp) (by simp; omega)).trans (by simp)⟩))
      ((first | (go_at_call 24; refine (txOf24 X P t _ ht (by exact h'.drew)).mono ?_; rintro e w1 ⟨τ, P', rfl, hT1, hPt, hmono, hg1⟩) | (go_at_call 23; refine (newReq23 _ m _).mono ?_; rintro e w2 ⟨rfl, rfl⟩)))
    have hT2 : TxAt (w1.alloc (.cells (reqCells τ m) 64)) X P' := hT1.kept (World.grownBy_alloc w1 _ none) (by simp) (fun _ _ _ => by simp)
    have hg2 : w.grownBy (w1.alloc (.cells (reqCells τ m) 64)) (some X) := (World.grownBy_alloc w _ (some X)).trans ((grownBy_drew _ _).trans (hg1.trans (World.grownBy_alloc w1 _ _)))
    have hsz : w.heap.size ≤ w1.heap.size := by
      have := hg1.size
      have e : (w.alloc (Obj.cells #[Value.int IntKind.u8 ↑t, Value.int IntKind.u8 ↑m, Value.bool false] 43)).drew.heap.size = w.heap.size + 1 := World.size_alloc w _
      omega
    have hreq : IsReq (w1.alloc (.cells (reqCells τ m) 64)) w1.heap.size τ m := heap_alloc_new w1 _
    clear hg1 hT1 h' h
    have Hpt : Hid (P' t = some τ) := hPt
    clear hPt
    go_wp2
    go_ret
    exact ⟨some w1.heap.size, P', rfl, hT2, hmono, hg2, fun e => by simp at e, fun _ => ⟨w1.heap.size, τ, rfl, hreq, Hpt.out, hsz⟩⟩

end Go.Proofs.Qxb6608630aDoor
