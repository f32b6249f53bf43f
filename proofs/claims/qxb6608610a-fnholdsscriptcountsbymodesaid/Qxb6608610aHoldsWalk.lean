/-
  THE WALK OF FnHoldsScriptCountsByMode (f4), and of ZZholdsRemove (f12), (*holds).remove (f18).
-/
import Derived.Test.Qxb6608610aChainWalk
import Derived.Deep.RegionWith
namespace Go.Proofs.Qxb6608610a
open Go.RowKit Go.Maps Go.Deep
set_option linter.unusedSimpArgs false
set_option linter.unusedVariables false

theorem bytes11 (all : Int) (a b : Option Addr) (la ca lb cb : Nat) (w : World) (ha : la ≤ 32768) (hb : lb ≤ 32768) :
    Calls Try.prog 11 #[.int .i64 all, .slice a la ca, .slice b lb cb] w fun e w' => e = .returned (.bool true) ∧ w' = w := by
  go_enter Try.func11, Try.ntmps11
  go_wp2
  go_ret
  exact ⟨rfl, rfl⟩

theorem HA.mono {w : World} {b n n' : Nat} {f : Int → Option Int} (h : HA w b n f) (hn : n ≤ n') : HA w b n' f := by
  obtain ⟨D, h1, h2⟩ := h
  exact ⟨D, h1.mono hn, h2⟩

/-- what is left of the field 'all' -/
def allNext (h md : Int) : Int := if md = 2 then wrap64 (h - 1) else h
/-- what is left of the chains -/
def chNext (f : Int → Option Int) (md k : Int) : Int → Option Int := if md = 3 then upd f k (rem (f k)) else f

theorem two_set0 {w : World} {b : Nat} {v0 v1 u : Value} {t : TypeId} (h : w.heap[b]? = some (.cells #[v0, v1] t (0, 0))) : (w.setCell ⟨b, 0, none⟩ u).heap[b]? = some (.cells #[u, v1] t (0, 0)) := by
  have hlt := lt_of_block h
  have h' : w.heap[b] = .cells #[v0, v1] t (0, 0) := by simpa [Array.getElem?_eq_getElem hlt] using h
  show (w.heap.modify b _)[b]? = _
  rw [Array.getElem?_eq_getElem (by simpa using hlt), Array.getElem_modify_self, h']
  rfl

/-- w' is w but for blocks B and ob, and new ones -/
structure Keeps (w w' : World) (B : Nat) (ob : Option Nat) : Prop where
  os : w'.os = w.os
  tape : w'.tape = w.tape
  output : w'.output = w.output
  size : w.heap.size ≤ w'.heap.size
  block : ∀ b, b < w.heap.size → b ≠ B → some b ≠ ob → w'.heap[b]? = w.heap[b]?

theorem Keeps.refl (w : World) (B : Nat) (ob : Option Nat) : Keeps w w B ob := ⟨rfl, rfl, rfl, Nat.le_refl _, fun _ _ _ _ => rfl⟩

/-- '(*holds).remove' -/
theorem remove18 (B : Nat) (h : Int) (ob : Option Nat) (md k : Int) (n : Nat) (f : Int → Option Int) (L : List Int) (w : World) (hblk : w.heap[B]? = some (.cells #[.int .i64 h, .map ob] 48 (0, 0))) (hne : some B ≠ ob) (hm : MA w ob n f L) (hn : n < 1000000) (wk : (Lit.int .u64 k).wf = true) :
    Calls Try.prog 18 #[.pointer (some ⟨B, 0, none⟩), .int .i64 md, .int .u64 k] w fun e w' => e = .returned (.tuple #[]) ∧ w'.cell? ⟨B, 0, none⟩ = some (.int .i64 (allNext h md)) ∧ Keeps w w' B ob ∧ MA w' ob (n + 1) (chNext f md k) L := by
  have c0 : w.cell? ⟨B, 0, none⟩ = some (.int .i64 h) := by simp [World.cell?, hblk]
  have c1 : w.cell? ⟨B, 1, none⟩ = some (.map ob) := by simp [World.cell?, hblk]
  have f0 : w.frozen? ⟨B, 0, none⟩ = false := by simp [World.frozen?, hblk]
  by_cases h2 : md = 2
  · subst h2
    have hc := two_set0 (u := .int .i64 (wrap64 (h - 1))) hblk
    have HC : Hid ((w.setCell ⟨B, 0, none⟩ (.int .i64 (wrap64 (h - 1)))).heap[B]? = some (.cells #[.int .i64 (wrap64 (h - 1)), .map ob] 48 (0, 0))) := hc
    have hg : w.grownBy (w.setCell ⟨B, 0, none⟩ (.int .i64 (wrap64 (h - 1)))) (some B) := ⟨rfl, rfl, rfl, by simp [World.setCell], fun b _ hb => Below.heap_setCell w _ _ b (fun e => hb (by rw [e]))⟩
    have hm' : MA (w.setCell ⟨B, 0, none⟩ (.int .i64 (wrap64 (h - 1)))) ob n f L := hm.kept hg (Or.inr (fun e => hne e.symm))
    have hfin : (w.setCell ⟨B, 0, none⟩ (.int .i64 (wrap64 (h - 1)))).cell? ⟨B, 0, none⟩ = some (.int .i64 (allNext h 2)) := by
      simp [World.cell?, HC.out, allNext]
    have hkp : Keeps w (w.setCell ⟨B, 0, none⟩ (.int .i64 (wrap64 (h - 1)))) B ob := ⟨rfl, rfl, rfl, hg.size, fun b hb h1 h2 => hg.block b hb (by simpa using h1)⟩
    clear hc hblk hg HC hm
    go_enter Try.func18, Try.ntmps18
    go_wp2
    go_end0
    exact ⟨rfl, hfin, hkp, hm'.mono (Nat.le_succ _)⟩
  · by_cases h3 : md = 3
    · subst h3
      go_enter Try.func18, Try.ntmps18
      go_wp2_with fail
      refine (remove17 ⟨B, 1, none⟩ ob n k f L _ c1 hm hn wk).mono ?_
      rintro e w1 ⟨rfl, hg, hm1⟩
      go_wp2
      go_end0
      exact ⟨rfl, (World.cell?_of_block (hg.block B (lt_of_block hblk) hne)).trans c0, ⟨hg.os, hg.tape, hg.output, hg.size, fun b hb _ h => hg.block b hb h⟩, hm1⟩
    · have e1 : allNext h md = h := by simp [allNext, h2]
      have e2 : chNext f md k = f := by simp [chNext, h3]
      have d2 : (md == 2) = false := by simpa using h2
      have d3 : (md == 3) = false := by simpa using h3
      rw [e1, e2]
      clear e1 e2
      go_enter Try.func18, Try.ntmps18
      go_wp2
      go_end0
      exact ⟨rfl, c0, Keeps.refl _ _ _, hm.mono (Nat.le_succ _)⟩

/-- 'ZZholdsRemove' -/
theorem remove12 (h : Int) (ob : Option Nat) (md k : Int) (n : Nat) (f : Int → Option Int) (L : List Int) (w : World) (hm : MA w ob n f L) (hn : n < 1000000) (wk : (Lit.int .u64 k).wf = true) :
    Calls Try.prog 12 #[.int .i64 h, .map ob, .int .i64 md, .int .u64 k] w fun e w' => e = .returned (.int .i64 (allNext h md)) ∧ w.grownBy w' ob ∧ MA w' ob (n + 1) (chNext f md k) L := by
  have hne : some w.heap.size ≠ ob := fun e => by
    have := hm.lt w.heap.size e.symm
    omega
  go_enter Try.func12, Try.ntmps12
  go_wp2_with fail
  refine (remove18 w.heap.size h ob md k n f L _ (heap_alloc_new w _) hne (hm.alloc _) hn wk).mono ?_
  rintro e w1 ⟨rfl, hc, hk, hm1⟩
  have hfin : w.grownBy w1 ob := ⟨hk.os, hk.tape, hk.output, Nat.le_trans (by simp) hk.size, fun b hb h => (hk.block b (by simp; omega) (by omega) h).trans (Below.heap_alloc w _ b hb)⟩
  clear hk hne
  go_wp2
  go_ret
  exact ⟨rfl, hfin, hm1⟩
/-- the script of steps as it lies in memory -/
structure StpAt (w : World) (os : Option Addr) (sa : Addr) (ns : Nat) (M S : Nat → Int) : Prop where
  some : 0 < ns → os = some sa ∧ sa.block < w.heap.size
  md : ∀ i, i < ns → w.cell? (sa.add (i * 2)) = Option.some (.int .i64 (M i))
  ch : ∀ i, i < ns → w.cell? ⟨(sa.add (i * 2)).block, (sa.add (i * 2)).off + 1, none⟩ = Option.some (.int .u64 (S i))
  ws : ∀ i, i < ns → (Lit.int .u64 (S i)).wf = true

theorem StpAt.below {w w' : World} {os : Option Addr} {sa : Addr} {ns : Nat} {M S : Nat → Int} (h : StpAt w os sa ns M S) (hb : Below w.heap.size w w') : StpAt w' os sa ns M S :=
  ⟨fun hp => ⟨(h.some hp).1, Nat.lt_of_lt_of_le (h.some hp).2 hb.size⟩,
   fun i hi => (hb.cell (by simpa [add_block] using (h.some (by omega)).2)).trans (h.md i hi),
   fun i hi => (hb.cell (by simpa [add_block] using (h.some (by omega)).2)).trans (h.ch i hi), h.ws⟩

theorem ix34 (ea : Addr) (oe : Option Addr) (ne ce k : Nat) (h : k < ne) (hoe : oe = some ea) (w : World) : (Instr.indexAt 34 (.slice oe ne ce) (.int .i64 k)).run Try.prog w = .ok (.pointer (some (ea.add (k * 2)))) w := by
  subst hoe
  have hs : (sizeOf 38).run Try.prog w = .ok 2 w := by kernel_rfl
  simp [Instr.indexAt, asIntOf, run_underlying Try.underlying34, Result.andThen, hs, h]

/-- how many of the first n steps are StashNonReentrant -/
def stc (M : Nat → Int) : Nat → Nat
  | 0 => 0
  | n + 1 => stc M n + (if M n = 2 then 1 else 0)

theorem stc_le (M : Nat → Int) : ∀ n, stc M n ≤ n
  | 0 => Nat.le_refl _
  | n + 1 => by
    have := stc_le M n
    show stc M n + _ ≤ _
    split <;> omega

theorem stc_yes {M : Nat → Int} {n : Nat} (h : M n = 2) : stc M (n + 1) = stc M n + 1 := by
  show stc M n + _ = _
  rw [if_pos h]

theorem stc_no {M : Nat → Int} {n : Nat} (h : ¬ M n = 2) : stc M (n + 1) = stc M n := by
  show stc M n + _ = _
  rw [if_neg h]
  rfl

theorem all_step (all : Int) (M : Nat → Int) (j : Nat) : allNext (wrap64 (all - stc M j)) (M j) = wrap64 (all - stc M (j + 1)) := by
  unfold allNext
  by_cases h : M j = 2
  · rw [if_pos h, stc_yes h]
    unfold wrap64
    omega
  · rw [if_neg h, stc_no h]

def isCh (M : Nat → Int) (i : Nat) : Bool := decide (M i = 3)

theorem ch_step (K C : Nat → Int) (ne : Nat) (M S : Nat → Int) (j : Nat) : chNext (left K C ne (isCh M) S j) (M j) (S j) = left K C ne (isCh M) S (j + 1) := by
  unfold chNext
  by_cases h : M j = 3
  · rw [if_pos h]
    exact left_yes (by simp [isCh, h])
  · rw [if_neg h]
    exact (left_no (by simp [isCh, h])).symm

theorem all_start {all : Int} (b1 : -9223372036854775808 ≤ all) (b2 : all ≤ 9223372036854775807) : all = wrap64 (all - (0 : Nat)) := by
  unfold wrap64
  omega

set_option maxRecDepth 100000 in
set_option maxHeartbeats 1000000 in
theorem walk4 (all : Int) (oe os : Option Addr) (ea sa : Addr) (ne ce ns cs : Nat) (K C M S : Nat → Int) (w : World) (hne : ne ≤ 32768) (hns : ns ≤ 32768)
    (b1 : -9223372036854775808 ≤ all) (b2 : all ≤ 9223372036854775807) (hE : EntAt w oe ea ne ce K C) (hS : StpAt w os sa ns M S) :
    Calls Try.prog 4 #[.int .i64 all, .slice oe ne ce, .slice os ns cs] w fun e w' => e = .returned (.bool true) ∧ Below w.heap.size w w' := by
  have hmm := fun n w => run_makeMap_hint (P := Try.prog) Try.underlying25 n w
  have hmm9 := fun n w => run_makeMap_hint (P := Try.prog) Try.underlying29 n w
  have Hst : Hid (all = wrap64 (all - (0 : Nat))) := all_start b1 b2
  go_enter Try.func4, Try.ntmps4
  go_wp2_with fail
  refine (bytes11 _ _ _ _ _ _ _ _ hne hns).mono ?_
  rintro e w' ⟨rfl, rfl⟩
  rename World => w
  go_wp2_with fail
  refine (build8 hE hne).mono ?_
  rintro e w1 ⟨ob1, rfl, hb1, hob1, hm1⟩
  go_wp2_with fail
  refine (build8 (hE.below (B := 0) hb1) hne).mono ?_
  rintro e w2 ⟨ob2, rfl, hb2, hob2, hm2⟩
  go_wp2_with fail
  have ap := apart_made hb1 hb2 hob1 hob2 hm1 hm2
  have st := St_made hb1 hb2 hm1 hm2
  go_loopw [10, 11] (fun t i wr => ∃ k : Nat, k ≤ ns ∧ i = .int .i64 k ∧ t = .int .i64 (stc M k) ∧ St w wr ob1 ob2 w2.heap.size ne ne k (bld K C ne) (bld K C ne) (hitf (isCh M) S k) (dd K ne))
    (fun _ i _ => ns - (intOf i).toNat)
  case atStart => exact ⟨0, Nat.zero_le _, rfl, rfl, by rw [hitf_zero]; exact st⟩
  case round =>
    obtain ⟨k, hkl, rfl, rfl, hst⟩ := hrel
    have hsl := stc_le M k
    by_cases hlt : k < ns
    · have hx := ix34 sa os ns cs k hlt (hS.some (by omega)).1
      have hmd := (hS.below hst.below).md k hlt
      have hch := (hS.below hst.below).ch k hlt
      by_cases h2 : M k = 2
      · have HS : Hid (stc M (k + 1) = stc M k + 1) := stc_yes h2
        have HH : Hid (hitf (isCh M) S (k + 1) = hitf (isCh M) S k) := hitf_no (by simp [isCh, h2])
        rw [h2] at hmd
        clear h2
        go_wp2
        go_roundw
        case rel => exact ⟨k + 1, by omega, by go_num, by rw [HS.out]; go_num, by rw [HH.out]; exact ⟨hst.below, hst.m, hst.ref, hst.hits.mono (Nat.le_succ _)⟩⟩
        case measure => simp [intOf]; omega
      · have HS : Hid (stc M (k + 1) = stc M k) := stc_no h2
        have d2 : (M k == 2) = false := by simpa using h2
        by_cases h3 : M k = 3
        · have hlk := hst.drew.hits.look (hS.ws k hlt)
          rw [hitf_get] at hlk
          have hle := hc_le (isCh M) S (S k) k
          obtain ⟨w3, hrun, hg3, hh3⟩ := hst.drew.hits.put (by omega) (hS.ws k hlt) (v := (hc (isCh M) S k (S k) : Int) + 1) (WalkArith.wf_i64 (by omega))
          have hy : isCh M k = true := by simp [isCh, h3]
          rw [hitf_yes hy] at hh3
          rw [h3] at hmd
          clear h3 hy d2 h2
          go_wp2
          go_region
          go_wp2
          go_roundw
          case rel => exact ⟨k + 1, by omega, by go_num, by rw [HS.out], hst.drew.of_hits ap hg3 hh3⟩
          case measure => simp [intOf]; omega
        · have HH : Hid (hitf (isCh M) S (k + 1) = hitf (isCh M) S k) := hitf_no (by simp [isCh, h3])
          have d3 : (M k == 3) = false := by simpa using h3
          go_wp2
          go_roundw
          case rel => exact ⟨k + 1, by omega, by go_num, by rw [HS.out], by rw [HH.out]; exact ⟨hst.below, hst.m, hst.ref, hst.hits.mono (Nat.le_succ _)⟩⟩
          case measure => simp [intOf]; omega
    · obtain rfl : k = ns := by omega
      clear hlt hkl
      go_wp2_with fail
      go_loopw [12, 13] (fun t i wr => ∃ j : Nat, j ≤ k ∧ i = .int .i64 j ∧ t = .int .i64 (wrap64 (all - (stc M j : Nat))) ∧ St w wr ob1 ob2 w2.heap.size (ne + j) ne k (left K C ne (isCh M) S j) (bld K C ne) (hitf (isCh M) S k) (dd K ne))
        (fun _ i _ => k - (intOf i).toNat)
      case atStart => exact ⟨0, Nat.zero_le _, rfl, congrArg (Value.int .i64) (all_start b1 b2), by rw [left_zero]; exact hst⟩
      case round =>
        clear hst
        obtain ⟨j, hjl, rfl, rfl, hst⟩ := hrel
        by_cases hlt : j < k
        · have hx := ix34 sa os k cs j hlt (hS.some (by omega)).1
          have hmd := (hS.below hst.below).md j hlt
          have hch := (hS.below hst.below).ch j hlt
          go_wp2_with fail
          go_region_with (go_at_call 12; refine (remove12 (wrap64 (all - (stc M j : Nat))) ob1 (M j) (S j) (ne + j) (left K C ne (isCh M) S j) (dd K ne) _ (by exact hst.drew.m) (by omega) (hS.ws j hlt)).mono ?_; rintro e w3 ⟨rfl, hg3, hm3⟩)
          all_goals
            rw [ch_step] at hm3
            have HA : Hid (allNext (wrap64 (all - (stc M j : Nat))) (M j) = wrap64 (all - (stc M (j + 1) : Nat))) := all_step all M j
            go_wp2
            go_roundw
            case rel => exact ⟨j + 1, by omega, by go_num, by rw [HA.out], hst.drew.of_m ap hg3 hm3⟩
            case measure => simp [intOf]; omega
        · obtain rfl : j = k := by omega
          clear hlt hjl
          obtain ⟨wo, rfl⟩ : ∃ wo : World, wo = wr := ⟨_, rfl⟩
          have hlt4 : w2.heap.size < wo.heap.size := hst.hits_lt
          have st4 := hst.of_other ap hlt4 (World.grownBy_alloc wo (.map #[] 0) _)
          have sa4 : SA (wo.alloc (.map #[] 0)) wo.heap.size 0 (fun x => decide (x ∈ dd K 0)) := ⟨_, World.ownsMap_made _ _ _ _, SetIs.nothing⟩
          clear hst
          go_wp2_with fail
          go_loopw [15, 16] (fun t i wr => ∃ q : Nat, q ≤ ne ∧ i = .int .i64 q ∧ t = .int .i64 (cnt (dd K q) (left K C ne (isCh M) S j)) ∧ SA wr wo.heap.size q (fun x => decide (x ∈ dd K q)) ∧
              St w wr ob1 ob2 w2.heap.size (ne + j) ne j (left K C ne (isCh M) S j) (bld K C ne) (hitf (isCh M) S j) (dd K ne))
            (fun _ i _ => ne - (intOf i).toNat)
          case atStart => exact ⟨0, Nat.zero_le _, rfl, rfl, sa4, st4⟩
          case round =>
            clear st4 sa4
            obtain ⟨q, hql, rfl, rfl, hsa, hst⟩ := hrel
            have hcb := Nat.le_trans (cnt_le (dd K q) (left K C ne (isCh M) S j)) (dd_le K q)
            by_cases hlt : q < ne
            · have hx := ixe ea oe ne ce q hlt (hE.some (by omega)).1
              have hcell := (hE.below (B := 0) hst.below).key q hlt
              have wq := hE.wk q hlt
              have hse := hsa.look wq
              by_cases hin : K q ∈ dd K q
              · have hde : decide (K q ∈ dd K q) = true := by simpa using hin
                rw [hde] at hse
                go_wp2_with fail
                go_roundw
                case rel => exact ⟨q + 1, by omega, by go_num, by rw [dd_succ_in hin], by rw [dd_succ_in hin]; exact hsa.mono (Nat.le_succ _), hst⟩
                case measure => simp [intOf]; omega
              · have hde : decide (K q ∈ dd K q) = false := by simpa using hin
                rw [hde] at hse
                obtain ⟨w3, hrun, hg3, hsa3⟩ := hsa.put (by omega) wq
                have hst3 := hst.of_other ap hlt4 hg3
                have hsa4 := hsa3.congr (q := fun x => decide (x ∈ dd K (q + 1))) (fun x => by rw [dd_succ_out hin]; simp [Bool.or_comm])
                clear hsa3
                obtain ⟨v, hv⟩ := bld_mem K C ne q hlt
                obtain ⟨hlr, hwv⟩ := hst3.ref.look Try.underlying25 wq
                have hlh := hst3.hits.look wq
                have hlm := hst3.m.look_ok Try.underlying25 wq
                rw [hitf_get] at hlh
                rw [hv] at hlr hwv
                obtain ⟨ha1, ha2⟩ := aft_get v (hc (isCh M) S j (K q))
                have hlf : left K C ne (isCh M) S j (K q) = aft (some v) (hc (isCh M) S j (K q)) := by unfold left; rw [hv]
                rw [hlf] at hlm
                have hcl := hc_le (isCh M) S (K q) j
                obtain ⟨bv1, bv2⟩ := bounds_i64 hwv
                generalize hc (isCh M) S j (K q) = c at hlh hlm ha1 ha2 hcl hlf
                have HLF : Hid (left K C ne (isCh M) S j (K q) = aft (some v) c) := hlf
                clear hlf hwv hv
                simp only [Option.getD_some] at hlr bv1 bv2
                have hsn : cnt (dd K (q + 1)) (left K C ne (isCh M) S j) = cnt (dd K q) (left K C ne (isCh M) S j) + (if (aft (some v) c).isSome then 1 else 0) := by
                  rw [dd_succ_out hin, cnt_snoc, HLF.out]
                have HSN : Hid (cnt (dd K (q + 1)) (left K C ne (isCh M) S j) = cnt (dd K q) (left K C ne (isCh M) S j) + (if (aft (some v) c).isSome then 1 else 0)) := hsn
                clear hsn
                cases hkb : (aft (some v) c).isSome with
                | true =>
                  have hkk : keepB v c = true := by unfold keepB; rw [← ha1]; exact hkb
                  have hval := ha2 hkb
                  rw [hkb, hval] at hlm
                  have HSN2 : Hid (cnt (dd K (q + 1)) (left K C ne (isCh M) S j) = cnt (dd K q) (left K C ne (isCh M) S j) + 1) := by rw [HSN.out, hkb]; rfl
                  clear HSN hkb ha1 ha2 hval
                  change Sem.run Try.prog (Instr.lookup 25 (Value.map ob1) (Value.int IntKind.u64 (K q)) true) w3 = Result.ok (Value.tuple #[Value.int IntKind.i64 (leftV v c), Value.bool true]) w3 at hlm
                  go_wp2_with fail
                  refine (after10 v c _ (by omega) (by omega) bv1 bv2).mono ?_
                  rintro e w5 ⟨rfl, rfl⟩
                  go_wp2
                  go_roundw
                  case rel => exact ⟨q + 1, by omega, by go_num, by rw [HSN2.out]; go_num, hsa4, hst3⟩
                  case measure => simp [intOf]; omega
                | false =>
                  have hkk : keepB v c = false := by unfold keepB; rw [← ha1]; exact hkb
                  have HSN2 : Hid (cnt (dd K (q + 1)) (left K C ne (isCh M) S j) = cnt (dd K q) (left K C ne (isCh M) S j)) := by rw [HSN.out, hkb]; rfl
                  rw [hkb] at hlm
                  clear HSN hkb ha1 ha2
                  go_wp2_with fail
                  refine (after10 v c _ (by omega) (by omega) bv1 bv2).mono ?_
                  rintro e w5 ⟨rfl, rfl⟩
                  go_wp2
                  go_roundw
                  case rel => exact ⟨q + 1, by omega, by go_num, by rw [HSN2.out], hsa4, hst3⟩
                  case measure => simp [intOf]; omega
            · obtain rfl : q = ne := by omega
              have hln := hst.m.len Try.underlying25
              go_wp2
              go_ret
              exact ⟨rfl, hst.below⟩
end Go.Proofs.Qxb6608610a
