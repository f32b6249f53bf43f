/-
  THE MODES: zzPartsCompatible (f10) and its helpers, compatible (f30) over the table modeRules, and that they agree.
-/
import Derived.Test.Qxb6608630aDoorRows
import Derived.WalkKit
import Derived.WalkLawsBesides
import Derived.WalkSpells
import Derived.Outline
namespace Go.Proofs.Qxb6608630aDoor
open Go.RowKit
set_option linter.unusedSimpArgs false
set_option linter.unusedVariables false

def scopeV : Nat → Int
  | 1 => 3 | 2 => 3 | 3 => 1 | 4 => 1 | 5 => 2 | 6 => 2 | 7 => 2 | 8 => 2 | 9 => 2 | _ => 0
def keyV : Nat → Nat
  | 1 => 1 | 7 => 1 | 2 => 2 | 8 => 2 | 3 => 3 | 4 => 4 | _ => 0
def agreeB (p q : Nat) : Bool := p == 0 || q == 0 || (!(p == 2 || q == 2) && !((p == 1 && q == 4) || (p == 4 && q == 1)))
def gapB (m : Nat) : Bool := decide (5 ≤ m) && decide (m ≤ 8)
/-- zzPartsCompatible -/
def prt (h r : Nat) : Bool := !(h == 0 || r == 0 || decide (10 ≤ h) || decide (10 ≤ r)) && !(bits .and .u8 (scopeV h) (scopeV r) == 0) && agreeB (keyV h) (keyV r) && !(gapB h && r == 9)
/-- what the table holds -/
def tabv : Nat → Int
  | 1 => 746 | 2 => 608 | 3 => 26 | 4 => 24 | 5 => 486 | 6 => 486 | 7 => 226 | 8 => 96 | 9 => 998 | _ => 0
/-- compatible -/
def cmpB (h r : Nat) : Bool := bits .and .u16 (tabv h) (IntKind.u16.wrap (2 ^ min r 16)) != 0

theorem cmp_all : ((List.range 10).all fun h => (List.range 256).all fun r => cmpB h r == prt h r) = true := by decide +kernel

theorem cmp_eq {h r : Nat} (hh : h < 10) (hr : r < 256) : cmpB h r = prt h r := by
  have h1 := List.all_eq_true.1 cmp_all h (List.mem_range.2 hh)
  have h2 := List.all_eq_true.1 h1 r (List.mem_range.2 hr)
  simpa using h2

theorem scope31 (m : Nat) (w : World) (hm : m < 10) : Calls Tryd.prog 31 #[.int .u8 m] w fun e w' => e = .returned (.int .u8 (scopeV m)) ∧ w' = w := by
  match m, hm with
  | 0, _ => go_enter Tryd.func31, Tryd.ntmps31; go_wp2; go_ret; exact ⟨rfl, rfl⟩
  | 1, _ => go_enter Tryd.func31, Tryd.ntmps31; go_wp2; go_ret; exact ⟨rfl, rfl⟩
  | 2, _ => go_enter Tryd.func31, Tryd.ntmps31; go_wp2; go_ret; exact ⟨rfl, rfl⟩
  | 3, _ => go_enter Tryd.func31, Tryd.ntmps31; go_wp2; go_ret; exact ⟨rfl, rfl⟩
  | 4, _ => go_enter Tryd.func31, Tryd.ntmps31; go_wp2; go_ret; exact ⟨rfl, rfl⟩
  | 5, _ => go_enter Tryd.func31, Tryd.ntmps31; go_wp2; go_ret; exact ⟨rfl, rfl⟩
  | 6, _ => go_enter Tryd.func31, Tryd.ntmps31; go_wp2; go_ret; exact ⟨rfl, rfl⟩
  | 7, _ => go_enter Tryd.func31, Tryd.ntmps31; go_wp2; go_ret; exact ⟨rfl, rfl⟩
  | 8, _ => go_enter Tryd.func31, Tryd.ntmps31; go_wp2; go_ret; exact ⟨rfl, rfl⟩
  | 9, _ => go_enter Tryd.func31, Tryd.ntmps31; go_wp2; go_ret; exact ⟨rfl, rfl⟩
theorem key33 (m : Nat) (w : World) (hm : m < 10) : Calls Tryd.prog 33 #[.int .u8 m] w fun e w' => e = .returned (.int .u8 (keyV m)) ∧ w' = w := by
  match m, hm with
  | 0, _ => go_enter Tryd.func33, Tryd.ntmps33; go_wp2; go_ret; exact ⟨rfl, rfl⟩
  | 1, _ => go_enter Tryd.func33, Tryd.ntmps33; go_wp2; go_ret; exact ⟨rfl, rfl⟩
  | 2, _ => go_enter Tryd.func33, Tryd.ntmps33; go_wp2; go_ret; exact ⟨rfl, rfl⟩
  | 3, _ => go_enter Tryd.func33, Tryd.ntmps33; go_wp2; go_ret; exact ⟨rfl, rfl⟩
  | 4, _ => go_enter Tryd.func33, Tryd.ntmps33; go_wp2; go_ret; exact ⟨rfl, rfl⟩
  | 5, _ => go_enter Tryd.func33, Tryd.ntmps33; go_wp2; go_ret; exact ⟨rfl, rfl⟩
  | 6, _ => go_enter Tryd.func33, Tryd.ntmps33; go_wp2; go_ret; exact ⟨rfl, rfl⟩
  | 7, _ => go_enter Tryd.func33, Tryd.ntmps33; go_wp2; go_ret; exact ⟨rfl, rfl⟩
  | 8, _ => go_enter Tryd.func33, Tryd.ntmps33; go_wp2; go_ret; exact ⟨rfl, rfl⟩
  | 9, _ => go_enter Tryd.func33, Tryd.ntmps33; go_wp2; go_ret; exact ⟨rfl, rfl⟩
theorem gap34 (m : Nat) (w : World) (hm : m < 10) : Calls Tryd.prog 34 #[.int .u8 m] w fun e w' => e = .returned (.bool (gapB m)) ∧ w' = w := by
  match m, hm with
  | 0, _ => go_enter Tryd.func34, Tryd.ntmps34; go_wp2; go_ret; exact ⟨rfl, rfl⟩
  | 1, _ => go_enter Tryd.func34, Tryd.ntmps34; go_wp2; go_ret; exact ⟨rfl, rfl⟩
  | 2, _ => go_enter Tryd.func34, Tryd.ntmps34; go_wp2; go_ret; exact ⟨rfl, rfl⟩
  | 3, _ => go_enter Tryd.func34, Tryd.ntmps34; go_wp2; go_ret; exact ⟨rfl, rfl⟩
  | 4, _ => go_enter Tryd.func34, Tryd.ntmps34; go_wp2; go_ret; exact ⟨rfl, rfl⟩
  | 5, _ => go_enter Tryd.func34, Tryd.ntmps34; go_wp2; go_ret; exact ⟨rfl, rfl⟩
  | 6, _ => go_enter Tryd.func34, Tryd.ntmps34; go_wp2; go_ret; exact ⟨rfl, rfl⟩
  | 7, _ => go_enter Tryd.func34, Tryd.ntmps34; go_wp2; go_ret; exact ⟨rfl, rfl⟩
  | 8, _ => go_enter Tryd.func34, Tryd.ntmps34; go_wp2; go_ret; exact ⟨rfl, rfl⟩
  | 9, _ => go_enter Tryd.func34, Tryd.ntmps34; go_wp2; go_ret; exact ⟨rfl, rfl⟩
theorem agree32 (p q : Nat) (w : World) (hp : p < 5) (hq : q < 5) : Calls Tryd.prog 32 #[.int .u8 p, .int .u8 q] w fun e w' => e = .returned (.bool (agreeB p q)) ∧ w' = w := by
  match p, hp, q, hq with
  | 0, _, 0, _ => go_enter Tryd.func32, Tryd.ntmps32; go_wp2; go_ret; exact ⟨rfl, rfl⟩
  | 0, _, 1, _ => go_enter Tryd.func32, Tryd.ntmps32; go_wp2; go_ret; exact ⟨rfl, rfl⟩
  | 0, _, 2, _ => go_enter Tryd.func32, Tryd.ntmps32; go_wp2; go_ret; exact ⟨rfl, rfl⟩
  | 0, _, 3, _ => go_enter Tryd.func32, Tryd.ntmps32; go_wp2; go_ret; exact ⟨rfl, rfl⟩
  | 0, _, 4, _ => go_enter Tryd.func32, Tryd.ntmps32; go_wp2; go_ret; exact ⟨rfl, rfl⟩
  | 1, _, 0, _ => go_enter Tryd.func32, Tryd.ntmps32; go_wp2; go_ret; exact ⟨rfl, rfl⟩
  | 1, _, 1, _ => go_enter Tryd.func32, Tryd.ntmps32; go_wp2; go_ret; exact ⟨rfl, rfl⟩
  | 1, _, 2, _ => go_enter Tryd.func32, Tryd.ntmps32; go_wp2; go_ret; exact ⟨rfl, rfl⟩
  | 1, _, 3, _ => go_enter Tryd.func32, Tryd.ntmps32; go_wp2; go_ret; exact ⟨rfl, rfl⟩
  | 1, _, 4, _ => go_enter Tryd.func32, Tryd.ntmps32; go_wp2; go_ret; exact ⟨rfl, rfl⟩
  | 2, _, 0, _ => go_enter Tryd.func32, Tryd.ntmps32; go_wp2; go_ret; exact ⟨rfl, rfl⟩
  | 2, _, 1, _ => go_enter Tryd.func32, Tryd.ntmps32; go_wp2; go_ret; exact ⟨rfl, rfl⟩
  | 2, _, 2, _ => go_enter Tryd.func32, Tryd.ntmps32; go_wp2; go_ret; exact ⟨rfl, rfl⟩
  | 2, _, 3, _ => go_enter Tryd.func32, Tryd.ntmps32; go_wp2; go_ret; exact ⟨rfl, rfl⟩
  | 2, _, 4, _ => go_enter Tryd.func32, Tryd.ntmps32; go_wp2; go_ret; exact ⟨rfl, rfl⟩
  | 3, _, 0, _ => go_enter Tryd.func32, Tryd.ntmps32; go_wp2; go_ret; exact ⟨rfl, rfl⟩
  | 3, _, 1, _ => go_enter Tryd.func32, Tryd.ntmps32; go_wp2; go_ret; exact ⟨rfl, rfl⟩
  | 3, _, 2, _ => go_enter Tryd.func32, Tryd.ntmps32; go_wp2; go_ret; exact ⟨rfl, rfl⟩
  | 3, _, 3, _ => go_enter Tryd.func32, Tryd.ntmps32; go_wp2; go_ret; exact ⟨rfl, rfl⟩
  | 3, _, 4, _ => go_enter Tryd.func32, Tryd.ntmps32; go_wp2; go_ret; exact ⟨rfl, rfl⟩
  | 4, _, 0, _ => go_enter Tryd.func32, Tryd.ntmps32; go_wp2; go_ret; exact ⟨rfl, rfl⟩
  | 4, _, 1, _ => go_enter Tryd.func32, Tryd.ntmps32; go_wp2; go_ret; exact ⟨rfl, rfl⟩
  | 4, _, 2, _ => go_enter Tryd.func32, Tryd.ntmps32; go_wp2; go_ret; exact ⟨rfl, rfl⟩
  | 4, _, 3, _ => go_enter Tryd.func32, Tryd.ntmps32; go_wp2; go_ret; exact ⟨rfl, rfl⟩
  | 4, _, 4, _ => go_enter Tryd.func32, Tryd.ntmps32; go_wp2; go_ret; exact ⟨rfl, rfl⟩

theorem keyV_lt (m : Nat) : keyV m < 5 := by
  unfold keyV
  split <;> omega

theorem has40 (s : Int) (r : Nat) (w : World) (hr : r < 256) : Calls Tryd.prog 40 #[.int .u16 s, .int .u8 r] w fun e w' => e = .returned (.bool (bits .and .u16 s (IntKind.u16.wrap (2 ^ min r 16)) != 0)) ∧ w' = w := by
  go_enter Tryd.func40, Tryd.ntmps40
  go_wp2
  go_ret
  exact ⟨by simp, rfl⟩

/-- the table modeRules as it lies in memory -/
def TabAt (w : World) : Prop := ∀ h, h < 10 → w.cell? ⟨0, h * 4 + 1, none⟩ = some (.int .u16 (tabv h))

theorem comp30 (h r : Nat) (w : World) (hh : h < 10) (hr : r < 256) (hT : TabAt w) : Calls Tryd.prog 30 #[.int .u8 h, .int .u8 r] w fun e w' => e = .returned (.bool (prt h r)) ∧ w' = w := by
  have hc := hT h hh
  have HE : Hid (cmpB h r = prt h r) := cmp_eq hh hr
  go_enter Tryd.func30, Tryd.ntmps30
  go_wp2_with fail
  refine (has40 (tabv h) r _ hr).mono ?_
  rintro e w' ⟨rfl, rfl⟩
  go_wp2
  go_ret
  exact ⟨by rw [← HE.out]; rfl, rfl⟩

end Go.Proofs.Qxb6608630aDoor
