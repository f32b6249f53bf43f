import Derived.Test.Qxb6608610aMaps
import Derived.Deep.RegionWith
namespace Go.Proofs.Qxb6608610a
open Go.RowKit Go.Maps Go.Deep
set_option linter.unusedSimpArgs false
set_option linter.unusedVariables false

theorem plainElem_bool_inv {P : Program} {e : TypeId} (he : P.underlying e = some .bool) {v : Value} {z : DataW Unit × List MemPlace} (h : plainElem P e v = some z) : ∃ x, v = .bool x ∧ z = (.lit (.bool x), []) := by
  unfold plainElem at h
  rw [he] at h
  cases v <;> simp at h
  case bool x => exact ⟨x, rfl, h.symm⟩

/-- the set 'seen' -/
def SA (w : World) (b n : Nat) (p : Int → Bool) : Prop := ∃ D, w.ownsMap Try.prog 27 (plainElem Try.prog 4) b n D ∧ SetIs D p

theorem SA.look {w : World} {b n : Nat} {p : Int → Bool} (h : SA w b n p) {k : Int} (wk : (Lit.int .u64 k).wf = true) :
    (Instr.lookup 29 (.map (some b)) (.int .u64 k) false).run Try.prog w = .ok (.bool (p k)) w := by
  obtain ⟨D, h1, h2⟩ := h
  obtain ⟨v, ps, hrun, hv⟩ := h1.lookup law27 Try.underlying29 (zero4 w) (plainElem_bool Try.underlying4 false) (keyOf_int_mk Try.underlying27 wk)
  obtain ⟨x, rfl, hx⟩ := plainElem_bool_inv Try.underlying4 hv
  simp only [Prod.mk.injEq] at hx
  rw [h2.val k] at hx
  have hx1 := hx.1
  injection hx1 with e1
  injection e1 with e2
  rw [e2]
  exact hrun

theorem SA.put {w : World} {b n : Nat} {p : Int → Bool} (h : SA w b n p) (hn : n < 1000000) {k : Int} (wk : (Lit.int .u64 k).wf = true) :
    ∃ w', (Instr.mapUpdate 29 (.map (some b)) (.int .u64 k) (.bool true)).run Try.prog w = .ok () w' ∧ w.grownBy w' (some b) ∧ SA w' b (n + 1) (fun x => decide (x = k) || p x) := by
  obtain ⟨D, h1, h2⟩ := h
  obtain ⟨w1, hrun, hown1, hg⟩ := h1.update law27 Try.underlying29 (by unfold maxLen; omega) (keyOf_int_mk Try.underlying27 wk) (plainElem_bool Try.underlying4 true)
  exact ⟨w1, hrun, hg, _, hown1, h2.put k⟩

theorem SA.kept {w w' : World} {b n : Nat} {p : Int → Bool} {row : Option Nat} (h : SA w b n p) (hg : w.grownBy w' row) (hne : some b ≠ row) : SA w' b n p := by
  obtain ⟨D, h1, h2⟩ := h
  exact ⟨D, h1.kept hg hne, h2⟩

theorem SA.mono {w : World} {b n n' : Nat} {p : Int → Bool} (h : SA w b n p) (hn : n ≤ n') : SA w b n' p := by
  obtain ⟨D, h1, h2⟩ := h
  exact ⟨D, h1.mono hn, h2⟩

theorem SA.congr {w : World} {b n : Nat} {p q : Int → Bool} (h : SA w b n p) (e : ∀ x, p x = q x) : SA w b n q := by
  have : p = q := funext e
  exact this ▸ h

theorem ixe (ea : Addr) (oe : Option Addr) (ne ce k : Nat) (h : k < ne) (hoe : oe = some ea) (w : World) : (Instr.indexAt 22 (.slice oe ne ce) (.int .i64 k)).run Try.prog w = .ok (.pointer (some (ea.add (k * 2)))) w := by
  subst hoe
  have hs : (sizeOf 31).run Try.prog w = .ok 2 w := by kernel_rfl
  simp [Instr.indexAt, asIntOf, run_underlying Try.underlying22, Result.andThen, hs, h]

theorem ixs (ea : Addr) (oe : Option Addr) (ne ce k : Nat) (h : k < ne) (hoe : oe = some ea) (w : World) : (Instr.indexAt 23 (.slice oe ne ce) (.int .i64 k)).run Try.prog w = .ok (.pointer (some (ea.add k))) w := by
  subst hoe
  have hs : (sizeOf 27).run Try.prog w = .ok 1 w := by kernel_rfl
  simp [Instr.indexAt, asIntOf, run_underlying Try.underlying23, Result.andThen, hs, h]

/-- the entries as they lie in memory -/
structure EntAt (w : World) (oe : Option Addr) (ea : Addr) (ne ce : Nat) (K C : Nat → Int) : Prop where
  some : 0 < ne → oe = some ea ∧ ea.block < w.heap.size
  none : oe = none → ne = 0 ∧ ce = 0
  key : ∀ i, i < ne → w.cell? (ea.add (i * 2)) = Option.some (.int .u64 (K i))
  val : ∀ i, i < ne → w.cell? ⟨(ea.add (i * 2)).block, (ea.add (i * 2)).off + 1, Option.none⟩ = Option.some (.int .i64 (C i))
  wk : ∀ i, i < ne → (Lit.int .u64 (K i)).wf = true
  wc : ∀ i, i < ne → (Lit.int .i64 (C i)).wf = true

theorem EntAt.below {w w' : World} {B : Nat} {oe : Option Addr} {ea : Addr} {ne ce : Nat} {K C : Nat → Int} (h : EntAt w oe ea ne ce K C) (hb : Below w.heap.size w w') : EntAt w' oe ea ne ce K C :=
  ⟨fun hp => ⟨(h.some hp).1, Nat.lt_of_lt_of_le (h.some hp).2 hb.size⟩, h.none,
   fun i hi => (hb.cell (by simpa [add_block] using (h.some (by omega)).2)).trans (h.key i hi),
   fun i hi => (hb.cell (by simpa [add_block] using (h.some (by omega)).2)).trans (h.val i hi), h.wk, h.wc⟩

theorem build8 {w : World} {oe : Option Addr} {ea : Addr} {ne ce : Nat} {K C : Nat → Int} (h : EntAt w oe ea ne ce K C) (hne : ne ≤ 32768) :
    Calls Try.prog 8 #[.slice oe ne ce] w fun e w' => ∃ ob, e = .returned (.map ob) ∧ Below w.heap.size w w' ∧ (ob = Option.none ∨ ob = Option.some w.heap.size) ∧ MA w' ob ne (bld K C ne) (dd K ne) := by
  cases oe with
  | none =>
    obtain ⟨rfl, rfl⟩ := h.none rfl
    refine (build_nil w).mono ?_
    rintro e w' ⟨rfl, rfl⟩
    exact ⟨_, rfl, Below.refl _ _, Or.inl rfl, rfl⟩
  | some ad =>
    have e : 0 < ne → ad = ea := fun hp => by
      have := (h.some hp).1
      injection this
    refine (build_any ad ne ce K C w hne (fun hp => by rw [e hp]; exact (h.some hp).2) (fun i hi => by rw [e (by omega)]; exact h.key i hi) (fun i hi => by rw [e (by omega)]; exact h.val i hi) h.wk h.wc).mono ?_
    rintro e w' ⟨rfl, hb, hm⟩
    exact ⟨_, rfl, hb, Or.inr rfl, hm⟩

/-- the script as it lies in memory -/
structure ScrAt (w : World) (os : Option Addr) (sa : Addr) (ns : Nat) (S : Nat → Int) : Prop where
  some : 0 < ns → os = some sa ∧ sa.block < w.heap.size
  cell : ∀ i, i < ns → w.cell? (sa.add i) = Option.some (.int .u64 (S i))
  ws : ∀ i, i < ns → (Lit.int .u64 (S i)).wf = true

theorem ScrAt.below {w w' : World} {os : Option Addr} {sa : Addr} {ns : Nat} {S : Nat → Int} (h : ScrAt w os sa ns S) (hb : Below w.heap.size w w') : ScrAt w' os sa ns S :=
  ⟨fun hp => ⟨(h.some hp).1, Nat.lt_of_lt_of_le (h.some hp).2 hb.size⟩,
   fun i hi => (hb.cell (by simpa [add_block] using (h.some (by omega)).2)).trans (h.cell i hi), h.ws⟩

/-- the map 'hits' -/
def HA (w : World) (b n : Nat) (f : Int → Option Int) : Prop := ∃ D, w.ownsMap Try.prog 27 (plainElem Try.prog 3) b n D ∧ MapIs D f

theorem HA.kept {w w' : World} {b n : Nat} {f : Int → Option Int} {row : Option Nat} (h : HA w b n f) (hg : w.grownBy w' row) (hne : some b ≠ row) : HA w' b n f := by
  obtain ⟨D, h1, h2⟩ := h
  exact ⟨D, h1.kept hg hne, h2⟩

theorem HA.look {w : World} {b n : Nat} {f : Int → Option Int} (h : HA w b n f) {k : Int} (wk : (Lit.int .u64 k).wf = true) :
    (Instr.lookup 25 (.map (some b)) (.int .u64 k) false).run Try.prog w = .ok (.int .i64 ((f k).getD 0)) w := by
  obtain ⟨D, h1, h2⟩ := h
  obtain ⟨c, hrun, hat, hwc⟩ := h1.lookup_int law27 Try.underlying25 Try.underlying3 (zero3 w) (keyOf_int_mk Try.underlying27 wk)
  rw [← h2.get hat]
  exact hrun

theorem HA.put {w : World} {b n : Nat} {f : Int → Option Int} (h : HA w b n f) (hn : n < 1000000) {k v : Int} (wk : (Lit.int .u64 k).wf = true) (wv : (Lit.int .i64 v).wf = true) :
    ∃ w', (Instr.mapUpdate 25 (.map (some b)) (.int .u64 k) (.int .i64 v)).run Try.prog w = .ok () w' ∧ w.grownBy w' (some b) ∧ HA w' b (n + 1) (upd f k (some v)) := by
  obtain ⟨D, h1, h2⟩ := h
  obtain ⟨w1, hrun, hown1, hg⟩ := h1.update law27 Try.underlying25 (by unfold maxLen; omega) (keyOf_int_mk Try.underlying27 wk) (plainElem_int Try.underlying3 wv)
  exact ⟨w1, hrun, hg, _, hown1, h2.put k v⟩

/-- where the three maps lie: apart from one another, above all that was there -/
structure Apart3 (B : Nat) (ob1 ob2 : Option Nat) (b3 : Nat) : Prop where
  lo1 : ∀ b, ob1 = some b → B ≤ b
  hi1 : ∀ b, ob1 = some b → b < b3
  hi2 : ∀ b, ob2 = some b → b < b3
  ne : ob1 = none ∨ ob1 ≠ ob2
  lo3 : B ≤ b3

theorem Apart3.ne13 {B : Nat} {ob1 ob2 : Option Nat} {b3 : Nat} (h : Apart3 B ob1 ob2 b3) : ob1 ≠ some b3 := fun e => by have := h.hi1 b3 e; omega
theorem Apart3.ne23 {B : Nat} {ob1 ob2 : Option Nat} {b3 : Nat} (h : Apart3 B ob1 ob2 b3) : ob2 ≠ some b3 := fun e => by have := h.hi2 b3 e; omega

/-- the three maps, and that nothing old has turned -/
structure St (w wr : World) (ob1 ob2 : Option Nat) (b3 n1 n2 n3 : Nat) (f1 f2 f3 : Int → Option Int) (L : List Int) : Prop where
  below : Below w.heap.size w wr
  m : MA wr ob1 n1 f1 L
  ref : MA wr ob2 n2 f2 L
  hits : HA wr b3 n3 f3

theorem St.of_hits {w wr w' : World} {ob1 ob2 : Option Nat} {b3 n1 n2 n3 n3' : Nat} {f1 f2 f3 f3' : Int → Option Int} {L : List Int} (ap : Apart3 w.heap.size ob1 ob2 b3) (h : St w wr ob1 ob2 b3 n1 n2 n3 f1 f2 f3 L) (hg : wr.grownBy w' (some b3)) (hh : HA w' b3 n3' f3') :
    St w w' ob1 ob2 b3 n1 n2 n3' f1 f2 f3' L :=
  ⟨h.below.grown hg h.below.size (fun j hj => by cases hj; exact ap.lo3), h.m.kept hg (Or.inr ap.ne13), h.ref.kept hg (Or.inr ap.ne23), hh⟩

theorem St.of_m {w wr w' : World} {ob1 ob2 : Option Nat} {b3 n1 n2 n3 n1' : Nat} {f1 f2 f3 f1' : Int → Option Int} {L : List Int} (ap : Apart3 w.heap.size ob1 ob2 b3) (h : St w wr ob1 ob2 b3 n1 n2 n3 f1 f2 f3 L) (hg : wr.grownBy w' ob1) (hh : MA w' ob1 n1' f1' L) :
    St w w' ob1 ob2 b3 n1' n2 n3 f1' f2 f3 L :=
  ⟨h.below.grown hg h.below.size (fun j hj => ap.lo1 j hj), hh, h.ref.kept hg (by
    rcases ap.ne with e | e
    · subst e
      cases ob2 with
      | none => exact Or.inl rfl
      | some b => exact Or.inr (by simp)
    · exact Or.inr (fun h => e h.symm)), h.hits.kept hg (fun e => ap.ne13 e.symm)⟩

/-- a fourth block is written, or laid -/
theorem St.of_other {w wr w' : World} {ob1 ob2 : Option Nat} {b3 n1 n2 n3 : Nat} {f1 f2 f3 : Int → Option Int} {L : List Int} (ap : Apart3 w.heap.size ob1 ob2 b3) (h : St w wr ob1 ob2 b3 n1 n2 n3 f1 f2 f3 L) {b4 : Nat} (h4 : b3 < b4) (hg : wr.grownBy w' (some b4)) :
    St w w' ob1 ob2 b3 n1 n2 n3 f1 f2 f3 L :=
  ⟨h.below.grown hg h.below.size (fun j hj => by cases hj; exact Nat.le_trans ap.lo3 (Nat.le_of_lt h4)), h.m.kept hg (Or.inr (fun e => by have := ap.hi1 b4 e; omega)),
   h.ref.kept hg (Or.inr (fun e => by have := ap.hi2 b4 e; omega)), h.hits.kept hg (fun e => by cases e; omega)⟩

theorem St.drew {w wr : World} {ob1 ob2 : Option Nat} {b3 n1 n2 n3 : Nat} {f1 f2 f3 : Int → Option Int} {L : List Int} (h : St w wr ob1 ob2 b3 n1 n2 n3 f1 f2 f3 L) : St w wr.drew ob1 ob2 b3 n1 n2 n3 f1 f2 f3 L :=
  ⟨h.below.drew, h.m, h.ref, h.hits⟩

theorem St.hits_lt {w wr : World} {ob1 ob2 : Option Nat} {b3 n1 n2 n3 : Nat} {f1 f2 f3 : Int → Option Int} {L : List Int} (h : St w wr ob1 ob2 b3 n1 n2 n3 f1 f2 f3 L) : b3 < wr.heap.size := by
  obtain ⟨D, h1, _⟩ := h.hits
  exact h1.lt

theorem apart_made {w w1 w2 : World} {ob1 ob2 : Option Nat} {n1 n2 : Nat} {f1 f2 : Int → Option Int} {L : List Int} (hb1 : Below w.heap.size w w1) (hb2 : Below w1.heap.size w1 w2) (h1 : ob1 = none ∨ ob1 = some w.heap.size) (h2 : ob2 = none ∨ ob2 = some w1.heap.size)
    (hm1 : MA w1 ob1 n1 f1 L) (hm2 : MA w2 ob2 n2 f2 L) : Apart3 w.heap.size ob1 ob2 w2.heap.size := by
  have s1 := hb1.size
  have s2 := hb2.size
  refine ⟨fun b hb => ?_, fun b hb => ?_, fun b hb => hm2.lt b hb, ?_, Nat.le_trans s1 s2⟩
  · rcases h1 with h | h
    · rw [h] at hb; cases hb
    · rw [h] at hb; cases hb; exact Nat.le_refl _
  · have := hm1.lt b hb; omega
  · rcases h1 with h | h
    · exact Or.inl h
    · right
      intro e
      have := hm1.lt _ h
      rw [h] at e
      rcases h2 with h2 | h2
      · rw [h2] at e; cases e
      · rw [h2] at e
        have e' := Option.some.inj e
        omega

theorem St_made {w w1 w2 : World} {ob1 ob2 : Option Nat} {n1 n2 : Nat} {f1 f2 : Int → Option Int} {L : List Int} (hb1 : Below w.heap.size w w1) (hb2 : Below w1.heap.size w1 w2)
    (hm1 : MA w1 ob1 n1 f1 L) (hm2 : MA w2 ob2 n2 f2 L) : St w (w2.alloc (.map #[] 0)) ob1 ob2 w2.heap.size n1 n2 0 f1 f2 (fun _ => none) L := by
  have hb : Below w.heap.size w w2 := hb1.trans (hb2.mono hb1.size)
  have g2 : w1.grownBy w2 none := ⟨hb2.os, hb2.tape, hb2.output, hb2.size, fun k hk _ => hb2.block k hk⟩
  have hm1' : MA w2 ob1 n1 f1 L := hm1.kept g2 (by
    cases ob1 with
    | none => exact Or.inl rfl
    | some b => exact Or.inr (by simp))
  exact ⟨hb.alloc hb.size _, hm1'.alloc _, hm2.alloc _, _, World.ownsMap_made _ _ _ _, MapIs.nothing⟩

def yes : Nat → Bool := fun _ => true

set_option maxRecDepth 100000 in
set_option maxHeartbeats 1000000 in
theorem walk3 (oe os : Option Addr) (ea sa : Addr) (ne ce ns cs : Nat) (K C S : Nat → Int) (w : World) (hne : ne ≤ 32768) (hns : ns ≤ 32768)
    (hE : EntAt w oe ea ne ce K C) (hS : ScrAt w os sa ns S) :
    Calls Try.prog 3 #[.slice oe ne ce, .slice os ns cs] w fun e w' => e = .returned (.bool true) ∧ Below w.heap.size w w' := by
  have hmm := fun n w => run_makeMap_hint (P := Try.prog) Try.underlying25 n w
  have hmm9 := fun n w => run_makeMap_hint (P := Try.prog) Try.underlying29 n w
  go_enter Try.func3, Try.ntmps3
  go_wp2_with fail
  refine (bytes7 _ _ _ _ _ _ _ hne hns).mono ?_
  rintro e w' ⟨rfl, rfl⟩
  rename World => w
  go_wp2_with fail
  refine (build8 hE hne).mono ?_
  rintro e w1 ⟨ob1, rfl, hb1, hob1, hm1⟩
  go_wp2_with fail
  refine (build8 (hE.below (B := 0) hb1) hne).mono ?_
  rintro e w2 ⟨ob2, rfl, hb2, hob2, hm2⟩
  go_wp2_with fail
  have ap := apart_made hb1 hb2 hob1 hob2 hm1 hm2
  have st := St_made hb1 hb2 hm1 hm2
  go_loopw [8] (fun i wr => ∃ k : Nat, k ≤ ns ∧ i = .int .i64 k ∧ St w wr ob1 ob2 w2.heap.size ne ne k (bld K C ne) (bld K C ne) (hitf yes S k) (dd K ne))
    (fun i _ => ns - (intOf i).toNat)
  case atStart => exact ⟨0, Nat.zero_le _, rfl, by rw [hitf_zero]; exact st⟩
  case round =>
    obtain ⟨k, hkl, rfl, hst⟩ := hrel
    by_cases hlt : k < ns
    · have hx := ixs sa os ns cs k hlt (hS.some (by omega)).1
      have hcell := (hS.below hst.below).cell k hlt
      have hlk := hst.drew.hits.look (hS.ws k hlt)
      rw [hitf_get] at hlk
      have hle := hc_le yes S (S k) k
      obtain ⟨w3, hrun, hg3, hh3⟩ := hst.drew.hits.put (by omega) (hS.ws k hlt) (v := (hc yes S k (S k) : Int) + 1) (WalkArith.wf_i64 (by omega))
      go_wp2
      go_region
      go_wp2
      go_roundw
      case rel => exact ⟨k + 1, by omega, by go_num, by rw [hitf_yes rfl] at hh3; exact hst.drew.of_hits ap hg3 hh3⟩
      case measure => simp [intOf]; omega
    · obtain rfl : k = ns := by omega
      clear hlt hkl
      go_wp2_with fail
      go_loopw [9] (fun i wr => ∃ j : Nat, j ≤ k ∧ i = .int .i64 j ∧ St w wr ob1 ob2 w2.heap.size (ne + j) ne k (left K C ne yes S j) (bld K C ne) (hitf yes S k) (dd K ne))
        (fun i _ => k - (intOf i).toNat)
      case atStart => exact ⟨0, Nat.zero_le _, rfl, by rw [left_zero]; exact hst⟩
      case round =>
        clear hst
        obtain ⟨j, hjl, rfl, hst⟩ := hrel
        by_cases hlt : j < k
        · have hx := ixs sa os k cs j hlt (hS.some (by omega)).1
          have hcell := (hS.below hst.below).cell j hlt
          go_wp2_with fail
          refine (remove9 ob1 (ne + j) (S j) _ _ _ hst.m (by omega) (hS.ws j hlt)).mono ?_
          rintro e w3 ⟨rfl, hg3, hm3⟩
          go_wp2
          go_roundw
          case rel => exact ⟨j + 1, by omega, by go_num, by rw [left_yes rfl] at hm3; exact hst.of_m ap hg3 hm3⟩
          case measure => simp [intOf]; omega
        · obtain rfl : j = k := by omega
          clear hlt hjl
          obtain ⟨wo, rfl⟩ : ∃ wo : World, wo = wr := ⟨_, rfl⟩
          have hlt4 : w2.heap.size < wo.heap.size := hst.hits_lt
          have st4 := hst.of_other ap hlt4 (World.grownBy_alloc wo (.map #[] 0) _)
          have sa4 : SA (wo.alloc (.map #[] 0)) wo.heap.size 0 (fun x => decide (x ∈ dd K 0)) := ⟨_, World.ownsMap_made _ _ _ _, SetIs.nothing⟩
          clear hst
          go_wp2_with fail
          go_loopw [11, 12] (fun t i wr => ∃ q : Nat, q ≤ ne ∧ i = .int .i64 q ∧ t = .int .i64 (cnt (dd K q) (left K C ne yes S j)) ∧ SA wr wo.heap.size q (fun x => decide (x ∈ dd K q)) ∧
              St w wr ob1 ob2 w2.heap.size (ne + j) ne j (left K C ne yes S j) (bld K C ne) (hitf yes S j) (dd K ne))
            (fun _ i _ => ne - (intOf i).toNat)
          case atStart => exact ⟨0, Nat.zero_le _, rfl, rfl, sa4, st4⟩
          case round =>
            clear st4 sa4
            obtain ⟨q, hql, rfl, rfl, hsa, hst⟩ := hrel
            have hcb := Nat.le_trans (cnt_le (dd K q) (left K C ne yes S j)) (dd_le K q)
            by_cases hlt : q < ne
            · have hx := ixe ea oe ne ce q hlt (hE.some (by omega)).1
              have hcell := (hE.below (B := 0) hst.below).key q hlt
              have wq := hE.wk q hlt
              have hse := hsa.look wq
              by_cases hin : K q ∈ dd K q
              · have hde : decide (K q ∈ dd K q) = true := by simpa using hin
                rw [hde] at hse
                go_wp2_with fail
                go_roundw
                case rel => exact ⟨q + 1, by omega, by go_num, by rw [dd_succ_in hin], by rw [dd_succ_in hin]; exact hsa.mono (Nat.le_succ _), hst⟩
                case measure => simp [intOf]; omega
              · have hde : decide (K q ∈ dd K q) = false := by simpa using hin
                rw [hde] at hse
                obtain ⟨w3, hrun, hg3, hsa3⟩ := hsa.put (by omega) wq
                have hst3 := hst.of_other ap hlt4 hg3
                have hsa4 := hsa3.congr (q := fun x => decide (x ∈ dd K (q + 1))) (fun x => by rw [dd_succ_out hin]; simp [Bool.or_comm])
                clear hsa3
                obtain ⟨v, hv⟩ := bld_mem K C ne q hlt
                obtain ⟨hlr, hwv⟩ := hst3.ref.look Try.underlying25 wq
                have hlh := hst3.hits.look wq
                have hlm := hst3.m.look_ok Try.underlying25 wq
                rw [hitf_get] at hlh
                rw [hv] at hlr hwv
                obtain ⟨ha1, ha2⟩ := aft_get v (hc yes S j (K q))
                have hlf : left K C ne yes S j (K q) = aft (some v) (hc yes S j (K q)) := by unfold left; rw [hv]
                rw [hlf] at hlm
                have hcl := hc_le yes S (K q) j
                obtain ⟨bv1, bv2⟩ := bounds_i64 hwv
                generalize hc yes S j (K q) = c at hlh hlm ha1 ha2 hcl hlf
                have HLF : Hid (left K C ne yes S j (K q) = aft (some v) c) := hlf
                clear hlf hwv hv
                simp only [Option.getD_some] at hlr bv1 bv2
                have hsn : cnt (dd K (q + 1)) (left K C ne yes S j) = cnt (dd K q) (left K C ne yes S j) + (if (aft (some v) c).isSome then 1 else 0) := by
                  rw [dd_succ_out hin, cnt_snoc, HLF.out]
                have HSN : Hid (cnt (dd K (q + 1)) (left K C ne yes S j) = cnt (dd K q) (left K C ne yes S j) + (if (aft (some v) c).isSome then 1 else 0)) := hsn
                clear hsn
                cases hkb : (aft (some v) c).isSome with
                | true =>
                  have hkk : keepB v c = true := by unfold keepB; rw [← ha1]; exact hkb
                  have hval := ha2 hkb
                  rw [hkb, hval] at hlm
                  have HSN2 : Hid (cnt (dd K (q + 1)) (left K C ne yes S j) = cnt (dd K q) (left K C ne yes S j) + 1) := by rw [HSN.out, hkb]; rfl
                  clear HSN hkb ha1 ha2 hval
                  change Sem.run Try.prog (Instr.lookup 25 (Value.map ob1) (Value.int IntKind.u64 (K q)) true) w3 = Result.ok (Value.tuple #[Value.int IntKind.i64 (leftV v c), Value.bool true]) w3 at hlm
                  go_wp2_with fail
                  refine (after10 v c _ (by omega) (by omega) bv1 bv2).mono ?_
                  rintro e w5 ⟨rfl, rfl⟩
                  go_wp2
                  go_roundw
                  case rel => exact ⟨q + 1, by omega, by go_num, by rw [HSN2.out]; go_num, hsa4, hst3⟩
                  case measure => simp [intOf]; omega
                | false =>
                  have hkk : keepB v c = false := by unfold keepB; rw [← ha1]; exact hkb
                  have HSN2 : Hid (cnt (dd K (q + 1)) (left K C ne yes S j) = cnt (dd K q) (left K C ne yes S j)) := by rw [HSN.out, hkb]; rfl
                  rw [hkb] at hlm
                  clear HSN hkb ha1 ha2
                  go_wp2_with fail
                  refine (after10 v c _ (by omega) (by omega) bv1 bv2).mono ?_
                  rintro e w5 ⟨rfl, rfl⟩
                  go_wp2
                  go_roundw
                  case rel => exact ⟨q + 1, by omega, by go_num, by rw [HSN2.out], hsa4, hst3⟩
                  case measure => simp [intOf]; omega
            · obtain rfl : q = ne := by omega
              have hln := hst.m.len Try.underlying25
              go_wp2
              go_ret
              exact ⟨rfl, hst.below⟩
end Go.Proofs.Qxb6608610a
