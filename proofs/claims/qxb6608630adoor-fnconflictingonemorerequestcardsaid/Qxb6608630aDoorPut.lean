/-
  One request put into a list of requests: what is told of the longer list.
-/
import Derived.Test.Qxb6608630aDoorSame
namespace Go.Proofs.Qxb6608630aDoor
open Go.RowKit
set_option linter.unusedSimpArgs false
set_option linter.unusedVariables false

theorem yl_congr {p : Nat → Bool} {L L' : Nat → Option Nat} : ∀ {k : Nat}, (∀ i, i < k → L i = L' i) → yl p L k = yl p L' k
  | 0, _ => rfl
  | k + 1, h => by
    show yl p L k ++ _ = yl p L' k ++ _
    rw [yl_congr (fun i hi => h i (by omega)), h k (by omega)]

/-- one put in at a place -/
def putIn (L : Nat → Option Nat) (R : Option Nat) (pos i : Nat) : Option Nat := if i < pos then L i else if i = pos then R else L (i - 1)

theorem putIn_lo {L : Nat → Option Nat} {R : Option Nat} {pos i : Nat} (h : i < pos) : putIn L R pos i = L i := by simp [putIn, h]
theorem putIn_at {L : Nat → Option Nat} {R : Option Nat} {pos : Nat} : putIn L R pos pos = R := by simp [putIn]
theorem putIn_hi {L : Nat → Option Nat} {R : Option Nat} {pos i : Nat} (h : pos ≤ i) : putIn L R pos (i + 1) = L i := by
  unfold putIn
  rw [if_neg (by omega), if_neg (by omega)]
  simp

theorem yl_one (p : Nat → Bool) (L : Nat → Option Nat) : yl p L 1 = (match L 0 with | some b => if p b then [b] else [] | none => []) := by
  cases h : L 0 <;> simp [yl, h]

theorem yl_putIn (p : Nat → Bool) (L : Nat → Option Nat) (R : Option Nat) {pos n : Nat} (h : pos ≤ n) :
    yl p (putIn L R pos) (n + 1) = yl p L pos ++ ((match R with | some b => if p b then [b] else [] | none => []) ++ yl p (fun i => L (pos + i)) (n - pos)) := by
  have e1 := yl_cut p (putIn L R pos) pos (n + 1 - pos)
  rw [show pos + (n + 1 - pos) = n + 1 by omega] at e1
  have e2 := yl_cut p (fun i => putIn L R pos (pos + i)) 1 (n - pos)
  rw [show 1 + (n - pos) = n + 1 - pos by omega] at e2
  rw [e1, e2, yl_congr (L := putIn L R pos) (L' := L) (fun i hi => putIn_lo hi), yl_one]
  rw [yl_congr (L := fun i => putIn L R pos (pos + (1 + i))) (L' := fun i => L (pos + i)) (fun i hi => by
    show putIn L R pos (pos + (1 + i)) = _
    rw [show pos + (1 + i) = (pos + i) + 1 by omega]
    exact putIn_hi (by omega))]
  show _ ++ ((match putIn L R pos (pos + 0) with | some b => if p b then [b] else [] | none => []) ++ _) = _
  rw [show pos + 0 = pos by omega, putIn_at]

theorem yl_split (p : Nat → Bool) (L : Nat → Option Nat) {pos n : Nat} (h : pos ≤ n) : yl p L n = yl p L pos ++ yl p (fun i => L (pos + i)) (n - pos) := by
  have e1 := yl_cut p L pos (n - pos)
  rwa [show pos + (n - pos) = n by omega] at e1

/-- it does not count: nothing more is told -/
theorem put_miss {p : Nat → Bool} {L : Nat → Option Nat} {R : Option Nat} {pos n : Nat} (h : pos ≤ n) (hR : hit p R = false) : yl p (putIn L R pos) (n + 1) = yl p L n := by
  rw [yl_putIn p L R h, yl_split p L h]
  cases R with
  | none => simp
  | some b =>
    have : p b = false := hR
    simp [this]

/-- it counts: it is told at its place -/
theorem put_hit {p : Nat → Bool} {L : Nat → Option Nat} {R : Option Nat} {pos n : Nat} (h : pos ≤ n) (hR : hit p R = true) :
    (yl p (putIn L R pos) (n + 1)).length = (yl p L n).length + 1 ∧ (yl p (putIn L R pos) (n + 1))[(yl p L pos).length]? = R ∧ R ≠ none ∧
      ∀ i, i < (yl p L n).length → (yl p (putIn L R pos) (n + 1))[if (yl p L pos).length ≤ i then i + 1 else i]? = (yl p L n)[i]? := by
  cases R with
  | none => cases hR
  | some b =>
    have hb : p b = true := hR
    rw [yl_putIn p L (some b) h, yl_split p L h]
    simp only [hb, if_true]
    refine ⟨by simp; omega, by simp, by simp, fun i hi => ?_⟩
    by_cases hq : (yl p L pos).length ≤ i
    · rw [if_pos hq, List.getElem?_append_right (by omega), List.getElem?_append_right hq]
      rw [show i + 1 - (yl p L pos).length = (i - (yl p L pos).length) + 1 by omega]
      simp
    · rw [if_neg hq, List.getElem?_append_left (by omega), List.getElem?_append_left (by omega)]

theorem Live.sub {w : World} {n₀ rb tr mr : Nat} {tx md : Nat → Nat} {B B' : Nat → Prop} (h : Live w n₀ rb tr mr tx md B) (hs : ∀ b, B' b → B b) : Live w n₀ rb tr mr tx md B' :=
  ⟨h.tab, h.pos, h.r, fun b hb => h.o b (hs b hb), h.hm⟩
end Go.Proofs.Qxb6608630aDoor
