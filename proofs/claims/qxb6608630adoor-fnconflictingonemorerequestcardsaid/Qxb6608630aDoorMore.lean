/-
  FnConflictingOneMoreRequest (f8): every input.
-/
import Derived.Test.Qxb6608630aDoorMoreT
import Derived.Test.Qxb6608630aDoorMoreF
namespace Go.Proofs.Qxb6608630aDoor
open Go.RowKit
set_option linter.unusedSimpArgs false
set_option linter.unusedVariables false

set_option maxRecDepth 100000 in
set_option maxHeartbeats 4000000 in
theorem law8t (o1 o2 : Option Addr) (a1 a2 : Addr) (n1 c1 n2 c2 rt rm xt xm : Nat) (xn : Bool) (pp : Int) (T1 M1 T2 M2 : Nat → Nat) (N1 N2 : Nat → Bool) (w : World) (hl1 : n1 ≤ maxLen) (hl2 : n2 ≤ maxLen) (hrt : rt < 256) (hrm : rm < 256) (hxt : xt < 256)
    (h1 : ReqsAt w o1 a1 n1 T1 M1 N1) (h2 : ReqsAt w o2 a2 n2 T2 M2 N2) (hT : TabAt w) :
    Calls Tryd.prog 8 #[.int .u8 rt, .int .u8 rm, .slice o1 n1 c1, .slice o2 n2 c2, .agg #[.int .u8 xt, .int .u8 xm, .bool xn], .bool true, .int .i64 pp] w fun e w' => e = .returned (.bool true) ∧ Below w.heap.size w w' := by
  have hb0 : Below w.heap.size w ((w.alloc (.cells #[.int .u8 xt, .int .u8 xm, .bool xn] 43)).alloc (.cells #[.int .u8 xt, .int .u8 xm, .bool xn] 43)) := ((Below.refl _ w).alloc (Nat.le_refl _) _).alloc (by simp) _
  have hby := bytes28 o1 o2 n1 c1 n2 c2 rt rm xt xm xn true pp (w.alloc (.cells #[.int .u8 xt, .int .u8 xm, .bool xn] 43)) hl1 hl2
  have hm1 := hl1
  have hm2 := hl2
  unfold maxLen at hm1 hm2
  by_cases q1 : n1 ≤ 65536
  · by_cases q2 : n2 ≤ 65536
    · by_cases q3 : 0 ≤ pp
      · by_cases q4 : pp ≤ (n2 : Int)
        · obtain ⟨p, rfl⟩ := Int.eq_ofNat_of_zero_le q3
          by_cases q5 : xm < 10
          · exact more8t o1 o2 a1 a2 n1 c1 n2 c2 rt rm xt xm xn T1 M1 T2 M2 N1 N2 w hl1 hl2 hrt hrm hxt h1 h2 hT q1 q2 q5 p (by omega)
          · have hv1 := valid20 o1 a1 n1 c1 T1 M1 N1 ((w.alloc (.cells #[.int .u8 xt, .int .u8 xm, .bool xn] 43)).alloc (.cells #[.int .u8 xt, .int .u8 xm, .bool xn] 43)) q1 (h1.below hb0)
            have hv2 := valid20 o2 a2 n2 c2 T2 M2 N2 ((w.alloc (.cells #[.int .u8 xt, .int .u8 xm, .bool xn] 43)).alloc (.cells #[.int .u8 xt, .int .u8 xm, .bool xn] 43)) q2 (h2.below hb0)
            have hblk : ((w.alloc (.cells #[.int .u8 xt, .int .u8 xm, .bool xn] 43)).alloc (.cells #[.int .u8 xt, .int .u8 xm, .bool xn] 43)).heap[w.heap.size]? = some (.cells #[.int .u8 xt, .int .u8 xm, .bool xn] 43 (0, 0)) := (Below.heap_alloc _ _ _ (by simp)).trans (heap_alloc_new w _)
            have hx1 : ((w.alloc (.cells #[.int .u8 xt, .int .u8 xm, .bool xn] 43)).alloc (.cells #[.int .u8 xt, .int .u8 xm, .bool xn] 43)).cell? ⟨w.heap.size, 1, none⟩ = some (.int .u8 xm) := by simp [World.cell?, hblk]
            have hxi : (10 : Int) ≤ (xm : Int) := by omega
            clear hblk
            go_enter Tryd.func8, Tryd.ntmps8
            go_wp2_with (first
              | (go_at_call 28; with_reducible refine Calls.mono hby ?_; rintro e w' ⟨⟨b, rfl⟩, hw⟩; subst w'; cases b)
              | (go_at_call 20; with_reducible refine Calls.mono hv1 ?_; rintro e w' ⟨rfl, hw⟩; subst w'; cases hb1 : allLt M1 n1)
              | (go_at_call 20; with_reducible refine Calls.mono hv2 ?_; rintro e w' ⟨rfl, hw⟩; subst w'; cases hb2 : allLt M2 n2))
            · go_ret
              exact ⟨rfl, hb0⟩
            · go_ret
              exact ⟨rfl, hb0⟩
            · go_ret
              exact ⟨rfl, hb0⟩
            · go_ret
              exact ⟨rfl, hb0⟩
        · go_enter Tryd.func8, Tryd.ntmps8
          go_wp2_with (go_at_call 28; with_reducible refine Calls.mono hby ?_; rintro e w' ⟨⟨b, rfl⟩, hw⟩; subst w'; cases b)
          · go_ret
            exact ⟨rfl, hb0⟩
          · go_ret
            exact ⟨rfl, hb0⟩
      · go_enter Tryd.func8, Tryd.ntmps8
        go_wp2_with (go_at_call 28; with_reducible refine Calls.mono hby ?_; rintro e w' ⟨⟨b, rfl⟩, hw⟩; subst w'; cases b)
        · go_ret
          exact ⟨rfl, hb0⟩
        · go_ret
          exact ⟨rfl, hb0⟩
    · go_enter Tryd.func8, Tryd.ntmps8
      go_wp2_with (go_at_call 28; with_reducible refine Calls.mono hby ?_; rintro e w' ⟨⟨b, rfl⟩, hw⟩; subst w'; cases b)
      · go_ret
        exact ⟨rfl, hb0⟩
      · go_ret
        exact ⟨rfl, hb0⟩
  · go_enter Tryd.func8, Tryd.ntmps8
    go_wp2_with (go_at_call 28; with_reducible refine Calls.mono hby ?_; rintro e w' ⟨⟨b, rfl⟩, hw⟩; subst w'; cases b)
    · go_ret
      exact ⟨rfl, hb0⟩
    · go_ret
      exact ⟨rfl, hb0⟩

set_option maxRecDepth 100000 in
set_option maxHeartbeats 4000000 in
theorem law8f (o1 o2 : Option Addr) (a1 a2 : Addr) (n1 c1 n2 c2 rt rm xt xm : Nat) (xn : Bool) (pp : Int) (T1 M1 T2 M2 : Nat → Nat) (N1 N2 : Nat → Bool) (w : World) (hl1 : n1 ≤ maxLen) (hl2 : n2 ≤ maxLen) (hrt : rt < 256) (hrm : rm < 256) (hxt : xt < 256)
    (h1 : ReqsAt w o1 a1 n1 T1 M1 N1) (h2 : ReqsAt w o2 a2 n2 T2 M2 N2) (hT : TabAt w) :
    Calls Tryd.prog 8 #[.int .u8 rt, .int .u8 rm, .slice o1 n1 c1, .slice o2 n2 c2, .agg #[.int .u8 xt, .int .u8 xm, .bool xn], .bool false, .int .i64 pp] w fun e w' => e = .returned (.bool true) ∧ Below w.heap.size w w' := by
  have hb0 : Below w.heap.size w ((w.alloc (.cells #[.int .u8 xt, .int .u8 xm, .bool xn] 43)).alloc (.cells #[.int .u8 xt, .int .u8 xm, .bool xn] 43)) := ((Below.refl _ w).alloc (Nat.le_refl _) _).alloc (by simp) _
  have hby := bytes28 o1 o2 n1 c1 n2 c2 rt rm xt xm xn false pp (w.alloc (.cells #[.int .u8 xt, .int .u8 xm, .bool xn] 43)) hl1 hl2
  have hm1 := hl1
  have hm2 := hl2
  unfold maxLen at hm1 hm2
  by_cases q1 : n1 ≤ 65536
  · by_cases q2 : n2 ≤ 65536
    · by_cases q3 : 0 ≤ pp
      · by_cases q4 : pp ≤ (n1 : Int)
        · obtain ⟨p, rfl⟩ := Int.eq_ofNat_of_zero_le q3
          by_cases q5 : xm < 10
          · exact more8f o1 o2 a1 a2 n1 c1 n2 c2 rt rm xt xm xn T1 M1 T2 M2 N1 N2 w hl1 hl2 hrt hrm hxt h1 h2 hT q1 q2 q5 p (by omega)
          · have hv1 := valid20 o1 a1 n1 c1 T1 M1 N1 ((w.alloc (.cells #[.int .u8 xt, .int .u8 xm, .bool xn] 43)).alloc (.cells #[.int .u8 xt, .int .u8 xm, .bool xn] 43)) q1 (h1.below hb0)
            have hv2 := valid20 o2 a2 n2 c2 T2 M2 N2 ((w.alloc (.cells #[.int .u8 xt, .int .u8 xm, .bool xn] 43)).alloc (.cells #[.int .u8 xt, .int .u8 xm, .bool xn] 43)) q2 (h2.below hb0)
            have hblk : ((w.alloc (.cells #[.int .u8 xt, .int .u8 xm, .bool xn] 43)).alloc (.cells #[.int .u8 xt, .int .u8 xm, .bool xn] 43)).heap[w.heap.size]? = some (.cells #[.int .u8 xt, .int .u8 xm, .bool xn] 43 (0, 0)) := (Below.heap_alloc _ _ _ (by simp)).trans (heap_alloc_new w _)
            have hx1 : ((w.alloc (.cells #[.int .u8 xt, .int .u8 xm, .bool xn] 43)).alloc (.cells #[.int .u8 xt, .int .u8 xm, .bool xn] 43)).cell? ⟨w.heap.size, 1, none⟩ = some (.int .u8 xm) := by simp [World.cell?, hblk]
            have hxi : (10 : Int) ≤ (xm : Int) := by omega
            clear hblk
            go_enter Tryd.func8, Tryd.ntmps8
            go_wp2_with (first
              | (go_at_call 28; with_reducible refine Calls.mono hby ?_; rintro e w' ⟨⟨b, rfl⟩, hw⟩; subst w'; cases b)
              | (go_at_call 20; with_reducible refine Calls.mono hv1 ?_; rintro e w' ⟨rfl, hw⟩; subst w'; cases hb1 : allLt M1 n1)
              | (go_at_call 20; with_reducible refine Calls.mono hv2 ?_; rintro e w' ⟨rfl, hw⟩; subst w'; cases hb2 : allLt M2 n2))
            · go_ret
              exact ⟨rfl, hb0⟩
            · go_ret
              exact ⟨rfl, hb0⟩
            · go_ret
              exact ⟨rfl, hb0⟩
            · go_ret
              exact ⟨rfl, hb0⟩
        · go_enter Tryd.func8, Tryd.ntmps8
          go_wp2_with (go_at_call 28; with_reducible refine Calls.mono hby ?_; rintro e w' ⟨⟨b, rfl⟩, hw⟩; subst w'; cases b)
          · go_ret
            exact ⟨rfl, hb0⟩
          · go_ret
            exact ⟨rfl, hb0⟩
      · go_enter Tryd.func8, Tryd.ntmps8
        go_wp2_with (go_at_call 28; with_reducible refine Calls.mono hby ?_; rintro e w' ⟨⟨b, rfl⟩, hw⟩; subst w'; cases b)
        · go_ret
          exact ⟨rfl, hb0⟩
        · go_ret
          exact ⟨rfl, hb0⟩
    · go_enter Tryd.func8, Tryd.ntmps8
      go_wp2_with (go_at_call 28; with_reducible refine Calls.mono hby ?_; rintro e w' ⟨⟨b, rfl⟩, hw⟩; subst w'; cases b)
      · go_ret
        exact ⟨rfl, hb0⟩
      · go_ret
        exact ⟨rfl, hb0⟩
  · go_enter Tryd.func8, Tryd.ntmps8
    go_wp2_with (go_at_call 28; with_reducible refine Calls.mono hby ?_; rintro e w' ⟨⟨b, rfl⟩, hw⟩; subst w'; cases b)
    · go_ret
      exact ⟨rfl, hb0⟩
    · go_ret
      exact ⟨rfl, hb0⟩

end Go.Proofs.Qxb6608630aDoor
