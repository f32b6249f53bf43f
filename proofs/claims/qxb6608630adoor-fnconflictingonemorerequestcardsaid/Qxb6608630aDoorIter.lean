import Derived.RangeFuncBox
import Derived.RangeFuncLeaves
import Derived.Shelf.Abstract
import Derived.WalkKit
import Derived.OwnWalkIn
import Derived.TacticsInMore
import Derived.LoopNIn
import Derived.LoopIn
import Derived.Maps.AppendAt
import Derived.Test.Qxb6608630aDoorWaits
namespace Go.Proofs.Qxb6608630aDoor
open Go.RowKit Go.Shelf
set_option linter.unusedSimpArgs false
set_option linter.unusedVariables false

attribute [local go_sem] Oper.semAt_some

/-- a slice of pointers to requests as it lies in memory -/
structure PtrsAt (w : World) (oe : Option Addr) (ea : Addr) (n : Nat) (L : Nat → Option Nat) : Prop where
  some : 0 < n → oe = some ea ∧ ea.block < w.heap.size
  cell : ∀ i, i < n → w.cell? (ea.add i) = Option.some (ptr (L i))

theorem PtrsAt.below {w w' : World} {oe : Option Addr} {ea : Addr} {n n₀ : Nat} {L : Nat → Option Nat} (h : PtrsAt w oe ea n L) (hb : Below n₀ w w') (hlt : 0 < n → ea.block < n₀) : PtrsAt w' oe ea n L :=
  ⟨fun hp => ⟨(h.some hp).1, Nat.lt_of_lt_of_le (h.some hp).2 hb.size⟩, fun i hi => (hb.cell (by simpa [add_blk] using hlt (by omega))).trans (h.cell i hi)⟩

theorem ix38 (ea : Addr) (oe : Option Addr) (ne ce k : Nat) (h : k < ne) (hoe : oe = some ea) (w : World) : (Instr.indexAt 38 (.slice oe ne ce) (.int .i64 k)).run Tryd.prog w = .ok (.pointer (some (ea.add k))) w := by
  subst hoe
  have hs : (sizeOf 39).run Tryd.prog w = .ok 1 w := by kernel_rfl
  simp [Instr.indexAt, asIntOf, run_underlying Tryd.underlying38, Result.andThen, hs, h]

/-- what is yielded of the first k places -/
def yl (p : Nat → Bool) (L : Nat → Option Nat) : Nat → List Nat
  | 0 => []
  | k + 1 => yl p L k ++ (match L k with | some b => if p b then [b] else [] | none => [])

theorem yl_le (p : Nat → Bool) (L : Nat → Option Nat) : ∀ k, (yl p L k).length ≤ k
  | 0 => Nat.le_refl _
  | k + 1 => by
    have := yl_le p L k
    show (yl p L k ++ _).length ≤ _
    rw [List.length_append]
    cases L k with
    | none => simp; omega
    | some b =>
      show _ + (if p b then [b] else []).length ≤ _
      by_cases hp : p b = true
      · rw [if_pos hp]; simp; omega
      · rw [if_neg hp]; simp; omega

theorem yl_skip {p : Nat → Bool} {L : Nat → Option Nat} {k : Nat} (h : ∀ b, L k = some b → p b = false) : yl p L (k + 1) = yl p L k := by
  show yl p L k ++ _ = _
  cases e : L k with
  | none => simp
  | some b => simp [h b e]

theorem yl_take {p : Nat → Bool} {L : Nat → Option Nat} {k b : Nat} (e : L k = some b) (h : p b = true) : yl p L (k + 1) = yl p L k ++ [b] := by
  show yl p L k ++ _ = _
  rw [e]
  simp [h]

/-- the requests that the lists lead to, and the asker's, in a world -/
structure Live (w : World) (n₀ rb tr mr : Nat) (tx md : Nat → Nat) (B : Nat → Prop) : Prop where
  tab : TabAt w
  pos : 0 < n₀
  r : IsReq w rb tr mr ∧ rb < n₀ ∧ IsTx w tr ∧ tr < n₀
  o : ∀ b, B b → IsReq w b (tx b) (md b) ∧ b < n₀ ∧ IsTx w (tx b) ∧ tx b < n₀ ∧ md b < 10
  hm : mr < 256

theorem IsTx.below {w w' : World} {b n₀ : Nat} (h : IsTx w b) (hb : Below n₀ w w') (hlt : b < n₀) : IsTx w' b := by
  obtain ⟨cs, h⟩ := h
  exact ⟨cs, (hb.block b hlt).trans h⟩
theorem IsReq.below {w w' : World} {b t m n₀ : Nat} (h : IsReq w b t m) (hb : Below n₀ w w') (hlt : b < n₀) : IsReq w' b t m := (hb.block b hlt).trans h

theorem Live.below {w w' : World} {n₀ rb tr mr : Nat} {tx md : Nat → Nat} {B : Nat → Prop} (h : Live w n₀ rb tr mr tx md B) (hb : Below n₀ w w') : Live w' n₀ rb tr mr tx md B :=
  ⟨fun x hx => (hb.cell (p := ⟨0, x * 4 + 1, none⟩) h.pos).trans (h.tab x hx), h.pos, ⟨h.r.1.below hb h.r.2.1, h.r.2.1, h.r.2.2.1.below hb h.r.2.2.2, h.r.2.2.2⟩,
   fun b hB => ⟨(h.o b hB).1.below hb (h.o b hB).2.1, (h.o b hB).2.1, (h.o b hB).2.2.1.below hb (h.o b hB).2.2.2.1, (h.o b hB).2.2.2.1, (h.o b hB).2.2.2.2⟩, h.hm⟩


theorem grownBy_drewN (w : World) (n : Nat) (row : Option Nat) : w.grownBy (w.drewN n) row := ⟨rfl, rfl, rfl, Nat.le_refl _, fun _ _ _ => rfl⟩

theorem ix94 (o1 o2 : Option Addr) (n1 c1 n2 c2 : Nat) (w : World) : (Instr.index 94 (.agg #[.slice o1 n1 c1, .slice o2 n2 c2]) (.int .i64 ((0 : Nat) : Int))).run Tryd.prog w = .ok (.slice o1 n1 c1) w ∧ (Instr.index 94 (.agg #[.slice o1 n1 c1, .slice o2 n2 c2]) (.int .i64 ((1 : Nat) : Int))).run Tryd.prog w = .ok (.slice o2 n2 c2) w := by
  have hs : (sizeOf 38).run Tryd.prog w = .ok 1 w := by kernel_rfl
  constructor <;> simp [Instr.index, asIntOf, run_underlying Tryd.underlying94, Result.andThen, hs, Value.cells] <;> kernel_rfl
set_option maxRecDepth 100000 in
set_option maxHeartbeats 4000000 in
/-- the iterator's body -/
theorem iter45_in (n : Nat) (l Bg Ba Br n₀ rb tr mr : Nat) (tx md : Nat → Nat) (o1 o2 : Option Addr) (a1 a2 : Addr) (n1 c1 n2 c2 : Nat) (L1 L2 : Nat → Option Nat) (hn1 : n1 ≤ 200000) (hn2 : n2 ≤ 200000)
    (J Jx : List Nat → World → Prop) (W0 : Nat) (hJ : AbidesFrom W0 J)
    (hY : ∀ pre x W, J pre W → pre.length < n1 + n2 → YieldAt Fence.wide (n - 1) Tryd.prog l #[.pointer (some ⟨x, 0, none⟩)] W fun e W' =>
      (e = .returned (.bool true) ∧ J (pre ++ [x]) W' ∧ Below n₀ W W') ∨ (e = .returned (.bool false) ∧ Jx (pre ++ [x]) W'))
    (W : World) (hBg : W.cell? ⟨Bg, 0, none⟩ = some (.slice o1 n1 c1)) (hBa : W.cell? ⟨Ba, 0, none⟩ = some (.slice o2 n2 c2)) (hBr : W.cell? ⟨Br, 0, none⟩ = some (.pointer (some ⟨rb, 0, none⟩))) (hBrn : Br < n₀)
    (h1 : PtrsAt W o1 a1 n1 L1) (h2 : PtrsAt W o2 a2 n2 L2) (l1 : 0 < n1 → a1.block < n₀) (l2 : 0 < n2 → a2.block < n₀)
    (hL : Live W n₀ rb tr mr tx md (fun b => (∃ i, i < n1 ∧ L1 i = some b) ∨ (∃ i, i < n2 ∧ L2 i = some b))) (h0 : J [] W) :
    CallsIn Fence.wide n Tryd.prog 45 #[.func (.yield l) #[] #[], .pointer (some ⟨Bg, 0, none⟩), .pointer (some ⟨Ba, 0, none⟩), .pointer (some ⟨Br, 0, none⟩)] W fun e W' => (∃ v, e = .returned v) ∧
      ((∃ ys, ys = yl (fun b => waits tr mr (tx b) (md b)) L1 n1 ++ yl (fun b => waits tr mr (tx b) (md b)) L2 n2 ∧ J ys W') ∨ (∃ pre, True ∧ Jx pre W')) := by
  refine callsIn_of_wp Tryd.func45 rfl trivial ?_ rfl
  simp only [Tryd.ntmps45, List.size_toArray, List.length_cons, List.length_nil, Nat.reduceAdd, Nat.reduceSub, Array.replicate_succ, Array.replicate_zero, List.push_toArray, List.append_toArray, List.nil_append, List.cons_append]
  gi_wp2
  let p : Nat → Bool := fun b => waits tr mr (tx b) (md b)
  let part : Nat → List Nat := fun j => if j = 0 then [] else if j = 1 then yl p L1 n1 else yl p L1 n1 ++ yl p L2 n2
  gi_loopw [12] (fun i wr => ∃ j : Nat, j ≤ 2 ∧ i = .int .i64 j ∧ J (part j) wr ∧ Below n₀ W wr) (fun i _ => 2 - (intOf i).toNat)
  case atStart => exact ⟨0, Nat.zero_le _, rfl, h0, Below.refl _ _⟩
  case round =>
    obtain ⟨j, hj, rfl, hJs, hnx⟩ := hrel
    by_cases hj2 : j = 2
    · subst hj2
      gi_wp2
      go_end0
      exact ⟨⟨_, rfl⟩, .inl ⟨_, rfl, hJs⟩⟩
    · obtain ⟨o, m, c, ea, L, hidx, hP, hl, hm, hB, hout, hlen⟩ : ∃ (o : Option Addr) (m c : Nat) (ea : Addr) (L : Nat → Option Nat), (∀ w, (Instr.index 94 (.agg #[.slice o1 n1 c1, .slice o2 n2 c2]) (.int .i64 (j : Int))).run Tryd.prog w = .ok (.slice o m c) w) ∧ PtrsAt W o ea m L ∧ (0 < m → ea.block < n₀) ∧ m ≤ 200000 ∧ (∀ i b, i < m → L i = some b → (∃ i, i < n1 ∧ L1 i = some b) ∨ (∃ i, i < n2 ∧ L2 i = some b)) ∧ part (j + 1) = part j ++ yl p L m ∧ (part j).length + m ≤ n1 + n2 := by
        have := yl_le p L1 n1
        rcases (show j = 0 ∨ j = 1 by omega) with rfl | rfl
        · exact ⟨o1, n1, c1, a1, L1, fun w => (ix94 o1 o2 n1 c1 n2 c2 w).1, h1, l1, hn1, fun i b hi e => .inl ⟨i, hi, e⟩, by simp [part], by simp [part]⟩
        · exact ⟨o2, n2, c2, a2, L2, fun w => (ix94 o1 o2 n1 c1 n2 c2 w).2, h2, l2, hn2, fun i b hi e => .inr ⟨i, hi, e⟩, by simp [part], by simp [part]; omega⟩
      have hjlt : (j : Int) < 2 := by omega
      gi_wp2
      gi_loopw [17] (fun i wq => ∃ k : Nat, k ≤ m ∧ i = .int .i64 k ∧ J (part j ++ yl p L k) wq ∧ Below n₀ W wq) (fun i _ => m - (intOf i).toNat)
      case atStart => exact ⟨0, Nat.zero_le _, rfl, by simpa [yl] using hJs, hnx⟩
      case round =>
        clear hJs hnx
        obtain ⟨k, hk, rfl, hJs, hnx⟩ := hrel
        by_cases hlt : k < m
        · obtain ⟨ho, hea⟩ := hP.some (by omega)
          have hix := ix38 ea o m c k hlt ho
          clear ho hea
          have hcx : wr.cell? (ea.add k) = some (ptr (L k)) := ((hP.below hnx hl).cell k hlt)
          have hbr : wr.cell? ⟨Br, 0, none⟩ = some (.pointer (some ⟨rb, 0, none⟩)) := (hnx.cell (p := ⟨Br, 0, none⟩) hBrn).trans hBr
          cases hLk : L k with
          | none =>
            rw [hLk] at hcx
            change _ = some (Value.pointer none) at hcx
            gi_wp2
            refine ⟨trivial, ?_⟩
            gi_wp2
            refine ⟨fun _ _ => trivial, ?_⟩
            gi_wp2
            go_roundw
            case rel => exact ⟨k + 1, by omega, by simp, by rw [yl_skip (by rw [hLk]; intro b hb; cases hb)]; exact hJs, hnx⟩
            case measure => simp [intOf]; omega
          | some b =>
            rw [hLk] at hcx
            change _ = some (Value.pointer (some ⟨b, 0, none⟩)) at hcx
            have hL' := hL.below hnx
            obtain ⟨hob, hobn, htxb, htxn, hmd⟩ := hL'.o b (hB k b hlt hLk)
            obtain ⟨hrr, hrn, htr, htrn⟩ := hL'.r
            gi_wp2
            refine ⟨trivial, fun h => (by cases h), (callsIn_wide.2 (waits46 rb b tr mr (tx b) (md b) wr hrr hob htr htxb hmd hL'.hm hL'.tab)).mono ?_⟩
            rintro e w1 ⟨rfl, nn, rfl⟩
            cases hw : waits tr mr (tx b) (md b)
            · gi_wp2
              refine ⟨fun _ _ => trivial, ?_⟩
              gi_wp2
              go_roundw
              case rel => exact ⟨k + 1, by omega, by simp, by rw [yl_skip (by rw [hLk]; intro b' hb; cases hb; exact hw)]; exact hJ _ _ _ none hJs (grownBy_drewN _ _ _) (fun r e => by cases e), below_drewN hnx _⟩
              case measure => simp [intOf]; omega
            · obtain ⟨fn, tmps, assign, body, hy, hR⟩ := hY _ b (wr.drewN nn) (hJ _ _ _ none hJs (grownBy_drewN _ _ _) (fun r e => by cases e)) (by have := yl_le p L k; simp; omega)
              gi_wp2
              refine ⟨fun h => (by cases h), hR.mono ?_⟩
              rintro e W3 (⟨rfl, hJ3, hk3⟩ | ⟨rfl, hJx3⟩)
              · gi_wp2
                go_roundw
                case rel => exact ⟨k + 1, by omega, by simp, by rw [yl_take hLk hw, ← List.append_assoc]; exact hJ3, (below_drewN hnx _).trans hk3⟩
                case measure => simp [intOf]; omega
              · gi_wp2
                refine bodyPost_ret (results_none rfl _ _ _) rfl ?_
                exact ⟨⟨_, rfl⟩, .inr ⟨_, trivial, hJx3⟩⟩
        · obtain rfl : k = m := by omega
          gi_wp2
          go_roundw
          case rel => exact ⟨j + 1, by omega, by simp, by rw [hout]; exact hJs, hnx⟩
          case measure => simp [intOf]; omega
end Go.Proofs.Qxb6608630aDoor
