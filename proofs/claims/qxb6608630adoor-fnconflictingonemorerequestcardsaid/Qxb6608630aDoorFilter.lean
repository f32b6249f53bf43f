import Derived.Test.Qxb6608630aDoorConf
namespace Go.Proofs.Qxb6608630aDoor
open Go.RowKit
set_option linter.unusedSimpArgs false
set_option linter.unusedVariables false

theorem neqReq_same (b : Nat) (w : World) : (binOp .neq 39 (.pointer (some ⟨b, 0, none⟩)) (.pointer (some ⟨b, 0, none⟩))).run Tryd.prog w = .ok (.bool false) w := by
  obtain ⟨j, hj, _⟩ := Option.map_eq_some_iff.1 size64
  exact Lib.run_neq_ptr_same w _ Tryd.underlying39 hj

theorem neqReq_other {t u : Nat} {w : World} (hne : t ≠ u) (ht : ∃ x m, IsReq w t x m) (hu : ∃ x m, IsReq w u x m) : (binOp .neq 39 (.pointer (some ⟨t, 0, none⟩)) (.pointer (some ⟨u, 0, none⟩))).run Tryd.prog w = .ok (.bool true) w := by
  obtain ⟨j, hj, hs⟩ := Option.map_eq_some_iff.1 size64
  obtain ⟨x1, m1, h1⟩ := ht
  obtain ⟨x2, m2, h2⟩ := hu
  exact run_neq_ptr_other w Tryd.underlying39 hj (by simpa using hs) (by simp [hne]) h1 h2

theorem neqReq_nil (b : Nat) (w : World) : (binOp .neq 39 (.pointer none) (.pointer (some ⟨b, 0, none⟩))).run Tryd.prog w = .ok (.bool true) w := by kernel_rfl
theorem neqReq_nils (w : World) : (binOp .neq 39 (.pointer none) (.pointer none)).run Tryd.prog w = .ok (.bool false) w := by kernel_rfl
theorem neqReq_nil' (b : Nat) (w : World) : (binOp .neq 39 (.pointer (some ⟨b, 0, none⟩)) (.pointer none)).run Tryd.prog w = .ok (.bool true) w := by kernel_rfl

/-- two pointers to requests, or nil -/
theorem neqReq (o u : Option Nat) (w : World) (ho : ∀ b, o = some b → ∃ x m, IsReq w b x m) (hu : ∀ b, u = some b → ∃ x m, IsReq w b x m) : (binOp .neq 39 (ptr o) (ptr u)).run Tryd.prog w = .ok (.bool (!(o == u))) w := by
  cases o with
  | none => cases u with
    | none => exact neqReq_nils w
    | some b => exact neqReq_nil b w
  | some a => cases u with
    | none => exact neqReq_nil' a w
    | some b =>
      by_cases e : a = b
      · subst e
        rw [show (some a == some a) = true by simp]
        exact neqReq_same a w
      · rw [show (some a == some b) = false by simpa using e]
        exact neqReq_other e (ho a rfl) (hu b rfl)

set_option maxRecDepth 100000 in
set_option maxHeartbeats 1000000 in
theorem same27 (o1 o2 : Option Addr) (a1 a2 : Addr) (n c1 c2 : Nat) (L : Nat → Option Nat) (w : World) (hn : n ≤ 400000) (h1 : PtrsAt w o1 a1 n L) (h2 : PtrsAt w o2 a2 n L) (hb : ∀ i b, i < n → L i = some b → ∃ x m, IsReq w b x m) :
    Calls Tryd.prog 27 #[.slice o1 n c1, .slice o2 n c2] w fun e w' => e = .returned (.bool true) ∧ Below w.heap.size w w' := by
  go_enter Tryd.func27, Tryd.ntmps27
  go_wp2
  go_loopw [5] (fun i wr => ∃ k : Nat, k ≤ n ∧ i = .int .i64 k ∧ Below w.heap.size w wr) (fun i _ => n - (intOf i).toNat)
  case atStart => exact ⟨0, Nat.zero_le _, rfl, Below.refl _ _⟩
  case round =>
    obtain ⟨k, hk, rfl, hnx⟩ := hrel
    by_cases hlt : k < n
    · have x1 := ix38 a1 o1 n c1 k hlt (h1.some (by omega)).1
      have x2 := ix38 a2 o2 n c2 k hlt (h2.some (by omega)).1
      have p1 := (h1.below hnx (fun h => (h1.some h).2)).cell k hlt
      have p2 := (h2.below hnx (fun h => (h2.some h).2)).cell k hlt
      have hq : ∀ q, (binOp .neq 39 (ptr (L k)) (ptr (L k))).run Tryd.prog (wr.drewN q) = .ok (.bool false) (wr.drewN q) := fun q => by
        have hx : ∀ b, L k = some b → ∃ x m, IsReq (wr.drewN q) b x m := fun b e => by
          obtain ⟨x, m, hr⟩ := hb k b hlt e
          exact ⟨x, m, hr.below (below_drewN hnx q) (lt_of_block hr)⟩
        have := neqReq (L k) (L k) (wr.drewN q) hx hx
        simpa using this
      obtain ⟨A, hA⟩ : ∃ A, ptr (L k) = .pointer A := ⟨_, rfl⟩
      rw [hA] at p1 p2 hq
      go_wp2_with fail
      go_quiet (fail)
      go_wp2
      go_roundw
      case rel => exact ⟨k + 1, by omega, by go_num, below_drewN hnx _⟩
      case measure => simp [intOf]; omega
    · obtain rfl : k = n := by omega
      clear hlt hk
      go_wp2
      go_ret
      exact ⟨rfl, hnx⟩

/-- whether a place counts -/
def hit (p : Nat → Bool) (o : Option Nat) : Bool := match o with | some b => p b | none => false

theorem yl_succ (p : Nat → Bool) (L : Nat → Option Nat) (k : Nat) : (yl p L (k + 1)).length = (yl p L k).length + (if hit p (L k) then 1 else 0) := by
  cases e : L k with
  | none => rw [yl_skip (by rw [e]; intro b hb; cases hb)]; simp [hit]
  | some b =>
    by_cases hp : p b = true
    · rw [yl_take e hp]; simp [hit, hp]
    · rw [yl_skip (by rw [e]; intro b' hb; cases hb; simpa using hp)]; simp [hit, hp]

theorem yl_prefix (p : Nat → Bool) (L : Nat → Option Nat) (k : Nat) : ∀ d, ∃ r, yl p L (k + d) = yl p L k ++ r
  | 0 => ⟨[], by simp⟩
  | d + 1 => by
    obtain ⟨r, hr⟩ := yl_prefix p L k d
    refine ⟨r ++ (match L (k + d) with | some b => if p b then [b] else [] | none => []), ?_⟩
    show yl p L (k + d) ++ _ = _
    rw [hr, List.append_assoc]
    rfl

/-- what lies at the next place -/
theorem yl_at {p : Nat → Bool} {L : Nat → Option Nat} {k n b : Nat} (hk : k < n) (e : L k = some b) (hp : p b = true) : (yl p L n)[(yl p L k).length]? = some b := by
  obtain ⟨r, hr⟩ := yl_prefix p L (k + 1) (n - (k + 1))
  rw [show k + 1 + (n - (k + 1)) = n by omega, yl_take e hp] at hr
  rw [hr]
  simp

theorem yl_mem {p : Nat → Bool} {L : Nat → Option Nat} : ∀ {n b : Nat}, b ∈ yl p L n → p b = true ∧ ∃ i, i < n ∧ L i = some b
  | 0, b, h => by cases h
  | n + 1, b, h => by
    have h' : b ∈ yl p L n ++ (match L n with | some b => if p b then [b] else [] | none => []) := h
    rcases List.mem_append.1 h' with h1 | h1
    · obtain ⟨hp, i, hi, e⟩ := yl_mem h1
      exact ⟨hp, i, by omega, e⟩
    · cases e : L n with
      | none => rw [e] at h1; cases h1
      | some c =>
        rw [e] at h1
        by_cases hp : p c = true
        · simp [hp] at h1
          subst h1
          exact ⟨hp, n, by omega, e⟩
        · simp [hp] at h1

theorem yl_mono (p : Nat → Bool) (L : Nat → Option Nat) {k n : Nat} (h : k ≤ n) : (yl p L k).length ≤ (yl p L n).length := by
  obtain ⟨r, hr⟩ := yl_prefix p L k (n - k)
  rw [show k + (n - k) = n by omega] at hr
  rw [hr]
  simp

set_option maxRecDepth 100000 in
set_option maxHeartbeats 4000000 in
theorem filter26 (og oa oe : Option Addr) (ga aa ea : Addr) (ng cg n ca ce : Nat) (G L : Nat → Option Nat) (T M : Nat → Nat) (N : Nat → Bool) (t m : Nat) (p : Nat → Bool) (w : World) (hn : n ≤ 200000)
    (hg : PtrsAt w og ga ng G) (ha : PtrsAt w oa aa n L) (he : ReqsAt w oe ea n T M N) (hM : ∀ i, i < n → M i < 10) (ht : t < 256) (hm : m < 256)
    (hc : ∀ i, i < n → cfl (T i) (M i) (N i) t m = hit p (L i)) (hng : ng = (yl p L n).length) (hG : ∀ i, i < ng → G i = (yl p L n)[i]?) (hb : ∀ i b, i < n → L i = some b → ∃ x y, IsReq w b x y) :
    Calls Tryd.prog 26 #[.slice og ng cg, .slice oa n ca, .slice oe n ce, .int .u8 t, .int .u8 m] w fun e w' => e = .returned (.bool true) ∧ Below w.heap.size w w' := by
  subst hng
  have hyn := yl_le p L n
  go_enter Tryd.func26, Tryd.ntmps26
  go_wp2
  go_loopw [11, 12] (fun c i wr => ∃ k : Nat, k ≤ n ∧ i = .int .i64 k ∧ c = .int .i64 ((yl p L k).length : Nat) ∧ Below w.heap.size w wr) (fun _ i _ => n - (intOf i).toNat)
  case atStart => exact ⟨0, Nat.zero_le _, rfl, rfl, Below.refl _ _⟩
  case round =>
    obtain ⟨k, hk, rfl, rfl, hnx⟩ := hrel
    by_cases hlt : k < n
    · have x1 := ix32 ea oe n ce k hlt (he.some (by omega)).1
      have he' := he.below hnx
      have t1 := he'.tx k hlt
      have t2 := he'.md k hlt
      have t3 := he'.nil k hlt
      have HS : Hid ((yl p L (k + 1)).length = (yl p L k).length + (if hit p (L k) then 1 else 0)) := yl_succ p L k
      have hyk := yl_le p L k
      have HC : Hid (cfl (T k) (M k) (N k) t m = hit p (L k)) := hc k hlt
      go_wp2_with (go_at_call 29; refine (conf29 (T k) (M k) (N k) t m _ (he.lt k hlt) (hM k hlt) ht hm).mono ?_; rintro e w1 ⟨rfl, rfl⟩; cases hcf : cfl (T k) (M k) (N k) t m)
      · go_roundw
        case rel => exact ⟨k + 1, by omega, by go_num, by rw [HS.out, ← HC.out, hcf]; rfl, hnx.alloc hnx.size _⟩
        case measure => simp [intOf]; omega
      · go_roundw
        case rel => exact ⟨k + 1, by omega, by go_num, by rw [HS.out, ← HC.out, hcf]; go_num, hnx.alloc hnx.size _⟩
        case measure => simp [intOf]; omega
    · obtain rfl : k = n := by omega
      clear hlt hk
      go_wp2
      go_loopw [13, 14] (fun j i wr => ∃ a x : Nat, a ≤ k ∧ x ≤ (yl p L k).length ∧ j = .int .i64 a ∧ i = .int .i64 x ∧ (yl p L a).length = x ∧ Below w.heap.size w wr) (fun _ i _ => (yl p L k).length - (intOf i).toNat)
      case atStart => exact ⟨0, 0, Nat.zero_le _, Nat.zero_le _, rfl, rfl, rfl, hnx⟩
      case round =>
        clear hnx
        obtain ⟨a, x, hak, hxl, rfl, rfl, hax, hnx⟩ := hrel
        by_cases hx : x < (yl p L k).length
        · go_wp2
          go_loopw [13] (fun j wr => ∃ a : Nat, a ≤ k ∧ j = .int .i64 a ∧ (yl p L a).length = x ∧ Below w.heap.size w wr) (fun j _ => k - (intOf j).toNat)
          case atStart => exact ⟨a, hak, rfl, hax, hnx⟩
          case round =>
            clear hnx hak hax
            obtain ⟨a, hak, rfl, hax, hnx⟩ := hrel
            have hlt : a < k := by
              rcases Nat.lt_or_ge a k with h | h
              · exact h
              · have := show a = k by omega
                subst this
                omega
            have x1 := ix38 aa oa k ca a hlt (ha.some (by omega)).1
            have x2 := ix38 ga og (yl p L k).length cg x hx (hg.some (by omega)).1
            have p1 := (ha.below hnx (fun h => (ha.some h).2)).cell a hlt
            have p2 := (hg.below hnx (fun h => (hg.some h).2)).cell x hx
            obtain ⟨y, hy⟩ : ∃ y, (yl p L k)[x]? = some y := ⟨_, List.getElem?_eq_getElem hx⟩
            have hGx : G x = some y := (hG x hx).trans hy
            obtain ⟨hpy, iy, hiy, hLy⟩ := yl_mem (List.mem_of_getElem? hy)
            have hq : ∀ q, (binOp .neq 39 (ptr (L a)) (ptr (G x))).run Tryd.prog (wr.drewN q) = .ok (.bool (!(L a == G x))) (wr.drewN q) := fun q => by
              have hz : ∀ i b, i < k → L i = some b → ∃ x m, IsReq (wr.drewN q) b x m := fun i b hi e => by
                obtain ⟨x, m, hr⟩ := hb i b hi e
                exact ⟨x, m, hr.below (below_drewN hnx q) (lt_of_block hr)⟩
              exact neqReq (L a) (G x) (wr.drewN q) (fun b e => hz a b hlt e) (fun b e => by rw [hGx] at e; cases e; exact hz iy y hiy hLy)
            have hlc : (a : Int) < k := by omega
            by_cases hLa : L a = some y
            · have e0 : (L a == G x) = false ∨ (L a == G x) = true := by cases (L a == G x) <;> simp
              have e1 : (L a == G x) = true := by rw [hLa, hGx]; simp
              rw [e1] at hq
              obtain ⟨A, hA⟩ : ∃ A, ptr (L a) = .pointer A := ⟨_, rfl⟩
              obtain ⟨B, hB⟩ : ∃ B, ptr (G x) = .pointer B := ⟨_, rfl⟩
              rw [hA, hB] at hq
              rw [hA] at p1
              rw [hB] at p2
              simp only [Bool.not_true] at hq
              clear e0 e1
              have HS : Hid ((yl p L (a + 1)).length = x + 1) := by
                have : (yl p L (a + 1)).length = _ := yl_succ p L a
                rw [hax, hLa] at this
                show (yl p L (a + 1)).length = x + 1
                simpa [hit, hpy] using this
              have HC : Hid (cfl (T a) (M a) (N a) t m = true) := by
                have : cfl (T a) (M a) (N a) t m = _ := hc a hlt
                rw [hLa] at this
                exact this.trans hpy
              have x3 := ix32 ea oe k ce a hlt (he.some (by omega)).1
              have he' := he.below hnx
              have t1 := he'.tx a hlt
              have t2 := he'.md a hlt
              have t3 := he'.nil a hlt
              have hka : ((a : Int) == k) = false := by simp; omega
              go_wp2_with fail
              go_quiet (fail)
              go_wp2_with (go_at_call 29; refine (conf29 (T a) (M a) (N a) t m _ (he.lt a hlt) (hM a hlt) ht hm).mono ?_; rintro e w1 ⟨rfl, rfl⟩; rw [HC.out])
              go_roundw
              case rel => exact ⟨a + 1, x + 1, by omega, by omega, by go_num, by go_num, HS.out, (below_drewN hnx _).alloc hnx.size _⟩
              case measure => simp [intOf]; omega
            · have e1 : (L a == G x) = false := by rw [hGx]; simpa using hLa
              rw [e1] at hq
              obtain ⟨A, hA⟩ : ∃ A, ptr (L a) = .pointer A := ⟨_, rfl⟩
              obtain ⟨B, hB⟩ : ∃ B, ptr (G x) = .pointer B := ⟨_, rfl⟩
              rw [hA, hB] at hq
              rw [hA] at p1
              rw [hB] at p2
              simp only [Bool.not_false] at hq
              clear e1
              have HS : Hid ((yl p L (a + 1)).length = x) := by
                have h1 := yl_succ p L a
                cases hh : hit p (L a) with
                | false => rw [hh] at h1; show (yl p L (a + 1)).length = x; simpa [hax] using h1
                | true =>
                  cases eL : L a with
                  | none => rw [eL] at hh; cases hh
                  | some b =>
                    rw [eL] at hh
                    have := yl_at hlt eL hh
                    rw [hax, hy] at this
                    exact absurd (eL.trans this.symm) hLa
              go_wp2_with fail
              go_quiet (fail)
              go_wp2
              go_roundw
              case rel => exact ⟨a + 1, by omega, by go_num, HS.out, below_drewN hnx _⟩
              case measure => simp [intOf]; omega
        · obtain rfl : x = (yl p L k).length := by omega
          clear hx hxl
          go_wp2
          go_ret
          exact ⟨rfl, hnx⟩
end Go.Proofs.Qxb6608630aDoor
