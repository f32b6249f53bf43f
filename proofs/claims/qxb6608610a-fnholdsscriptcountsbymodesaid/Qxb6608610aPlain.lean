/-
  THE PLAIN LAW OF THE TWO SCRIPT LAWS: no Go in sight but the data of a map as the kit's views tell it.
-/
import Derived.Maps.OwnSet
namespace Go.Proofs.Qxb6608610a
open Go.Maps
set_option linter.unusedSimpArgs false

theorem ik (k : Int) : WideAt.IsKeyLit (.int .u64 k) := trivial

/-! ### what a count map holds -/
structure MapIs (D : DataW Unit) (f : Int → Option Int) : Prop where
  tidy : Tidy D
  has : ∀ k, Maps.has D (.int .u64 k) = (f k).isSome
  val : ∀ k v, f k = some v → ∀ z, D.atKey (.int .u64 k) z = .lit (.int .i64 v)

theorem key_ne {a b : Int} (h : a ≠ b) : (Lit.int .u64 a) ≠ (Lit.int .u64 b) := fun e => h (by injection e)

theorem MapIs.nothing : MapIs (.map []) (fun _ => none) :=
  ⟨tidy_empty, fun _ => rfl, fun _ _ h => by cases h⟩

def upd (f : Int → Option Int) (k : Int) (o : Option Int) : Int → Option Int := fun x => if x = k then o else f x

theorem MapIs.put {D : DataW Unit} {f : Int → Option Int} (h : MapIs D f) (k v : Int) :
    MapIs (D.put (.int .u64 k) (.lit (.int .i64 v))) (upd f k (some v)) := by
  refine ⟨h.tidy.put (ik _) _, fun x => ?_, fun x u hx z => ?_⟩
  · unfold upd
    by_cases e : x = k
    · subst e; rw [has_put_same h.tidy.isMap (ik _)]; simp
    · rw [has_put_other (key_ne e), if_neg e]; exact h.has x
  · unfold upd at hx
    by_cases e : x = k
    · subst e
      simp at hx
      subst hx
      exact atKey_put_same h.tidy.isMap (ik _) _ _
    · rw [if_neg e] at hx
      rw [atKey_put_other (key_ne e)]
      exact h.val x u hx z

theorem MapIs.del {D : DataW Unit} {f : Int → Option Int} (h : MapIs D f) (k : Int) :
    MapIs (D.del (.int .u64 k)) (upd f k none) := by
  refine ⟨h.tidy.del _, fun x => ?_, fun x u hx z => ?_⟩
  · unfold upd
    by_cases e : x = k
    · subst e; rw [has_del_same]; simp
    · rw [has_del_other (key_ne e), if_neg e]; exact h.has x
  · unfold upd at hx
    by_cases e : x = k
    · rw [if_pos e] at hx; cases hx
    · rw [if_neg e] at hx
      rw [atKey_del_other (key_ne e)]
      exact h.val x u hx z

theorem MapIs.get {D : DataW Unit} {f : Int → Option Int} (h : MapIs D f) {k c : Int}
    (hat : D.atKey (.int .u64 k) (.lit (.int .i64 0)) = .lit (.int .i64 c)) : c = (f k).getD 0 := by
  cases hf : f k with
  | none =>
    have hh := h.has k
    rw [hf] at hh
    rw [atKey_of_not_has (by simpa using hh)] at hat
    injection hat with e1
    injection e1 with _ e2
    simp [e2]
  | some v =>
    rw [h.val k v hf] at hat
    injection hat with e1
    injection e1 with _ e2
    simp [e2]

theorem MapIs.congr {D : DataW Unit} {f g : Int → Option Int} (h : MapIs D f) (e : ∀ x, f x = g x) : MapIs D g := by
  have : f = g := funext e
  exact this ▸ h

/-! ### its size, counted over a list of keys without repeats that holds all keys -/
def cnt (L : List Int) (f : Int → Option Int) : Nat := (L.filter fun k => (f k).isSome).length

theorem cnt_congr (L : List Int) (f g : Int → Option Int) (h : ∀ x, x ∈ L → (f x).isSome = (g x).isSome) : cnt L f = cnt L g := by
  unfold cnt
  rw [List.filter_congr h]

theorem cnt_add : ∀ (L : List Int), L.Nodup → ∀ (k v : Int) (f : Int → Option Int), k ∈ L → f k = none → cnt L (upd f k (some v)) = cnt L f + 1
  | [], _, _, _, _, hk, _ => by cases hk
  | a :: L, hn, k, v, f, hk, hf => by
    obtain ⟨h1, h2⟩ := List.nodup_cons.1 hn
    by_cases e : a = k
    · subst e
      have hc : cnt L (upd f a (some v)) = cnt L f := cnt_congr _ _ _ fun x hx => by
        unfold upd
        have hne : ¬ x = a := fun e => h1 (e ▸ hx)
        rw [if_neg hne]
      unfold cnt at hc ⊢
      have e1 : (upd f a (some v) a).isSome = true := by simp [upd]
      rw [List.filter_cons_of_pos (p := fun k => (upd f a (some v) k).isSome) e1, List.filter_cons_of_neg (p := fun k => (f k).isSome) (by simp [hf]), List.length_cons, hc]
    · have hk' : k ∈ L := by
        rcases List.mem_cons.1 hk with h | h
        · exact absurd h.symm e
        · exact h
      have ih := cnt_add L h2 k v f hk' hf
      unfold cnt at ih ⊢
      have e1 : (upd f k (some v) a).isSome = (f a).isSome := by simp [upd, e]
      cases hfa : (f a).isSome with
      | true =>
        rw [List.filter_cons_of_pos (p := fun k_1 => (upd f k (some v) k_1).isSome) (by rw [e1, hfa]), List.filter_cons_of_pos (p := fun k => (f k).isSome) hfa, List.length_cons, List.length_cons, ih]
      | false =>
        rw [List.filter_cons_of_neg (p := fun k_1 => (upd f k (some v) k_1).isSome) (by rw [e1, hfa]; simp), List.filter_cons_of_neg (p := fun k => (f k).isSome) (by rw [hfa]; simp), ih]

structure Sized (D : DataW Unit) (f : Int → Option Int) (L : List Int) : Prop where
  nodup : L.Nodup
  all : ∀ k, (f k).isSome = true → k ∈ L
  size : Maps.size D = cnt L f

theorem cnt_none (L : List Int) : cnt L (fun _ => none) = 0 := by simp [cnt]

theorem Sized.nothing {L : List Int} (h : L.Nodup) : Sized (.map []) (fun _ => none) L :=
  ⟨h, fun _ h => (by cases h), (cnt_none L).symm⟩

theorem cnt_same (L : List Int) (f : Int → Option Int) (k v u : Int) (h : f k = some u) : cnt L (upd f k (some v)) = cnt L f :=
  cnt_congr _ _ _ fun x _ => by
    unfold upd
    by_cases e : x = k
    · subst e; simp [h]
    · rw [if_neg e]

theorem Sized.put {D : DataW Unit} {f : Int → Option Int} {L : List Int} (h : Sized D f L) (hm : MapIs D f) {k : Int} (hk : k ∈ L) (v : Int) :
    Sized (D.put (.int .u64 k) (.lit (.int .i64 v))) (upd f k (some v)) L := by
  refine ⟨h.nodup, fun x hx => ?_, ?_⟩
  · unfold upd at hx
    by_cases e : x = k
    · exact e ▸ hk
    · rw [if_neg e] at hx; exact h.all x hx
  · rw [size_put hm.tidy, hm.has k, h.size]
    cases hf : f k with
    | none => rw [cnt_add L h.nodup k v f hk hf]; simp
    | some u => rw [cnt_same L f k v u hf]; simp

theorem upd_back (f : Int → Option Int) (k v : Int) (h : f k = some v) : f = upd (upd f k none) k (some v) := by
  funext x
  unfold upd
  by_cases e : x = k
  · subst e; simp [h]
  · simp [e]

theorem upd_idle (f : Int → Option Int) (k : Int) (h : f k = none) : upd f k none = f := by
  funext x
  unfold upd
  by_cases e : x = k
  · subst e; simp [h]
  · simp [e]

theorem Sized.del {D : DataW Unit} {f : Int → Option Int} {L : List Int} (h : Sized D f L) (hm : MapIs D f) (k : Int) :
    Sized (D.del (.int .u64 k)) (upd f k none) L := by
  refine ⟨h.nodup, fun x hx => ?_, ?_⟩
  · unfold upd at hx
    by_cases e : x = k
    · rw [if_pos e] at hx; cases hx
    · rw [if_neg e] at hx; exact h.all x hx
  · have hs := size_del (k := .int .u64 k) hm.tidy
    rw [hm.has k, h.size] at hs
    cases hf : f k with
    | none =>
      rw [hf] at hs
      rw [upd_idle f k hf]
      simpa using hs
    | some u =>
      rw [hf] at hs
      have := cnt_add L h.nodup k u (upd f k none) (h.all k (by simp [hf])) (by simp [upd])
      rw [← upd_back f k u hf] at this
      simp at hs
      omega

/-! ### a set kept as map[uint64]bool -/
structure SetIs (D : DataW Unit) (p : Int → Bool) : Prop where
  isMap : IsMap D
  val : ∀ k, D.atKey (.int .u64 k) (.lit (.bool false)) = .lit (.bool (p k))

theorem SetIs.nothing : SetIs (.map []) (fun _ => false) := ⟨isMap_empty, fun _ => rfl⟩

theorem SetIs.put {D : DataW Unit} {p : Int → Bool} (h : SetIs D p) (k : Int) :
    SetIs (D.put (.int .u64 k) (.lit (.bool true))) (fun x => decide (x = k) || p x) := by
  refine ⟨h.isMap.put _ _, fun x => ?_⟩
  by_cases e : x = k
  · subst e; rw [atKey_put_same h.isMap (ik _)]; simp
  · rw [atKey_put_other (key_ne e), h.val]; simp [e]

/-! ### the keys of the entries, each once, by its first place -/
def dd (K : Nat → Int) : Nat → List Int
  | 0 => []
  | n + 1 => if K n ∈ dd K n then dd K n else dd K n ++ [K n]

theorem dd_nodup (K : Nat → Int) : ∀ n, (dd K n).Nodup
  | 0 => List.nodup_nil
  | n + 1 => by
    unfold dd
    split
    · exact dd_nodup K n
    · rename_i h
      rw [List.nodup_append]
      exact ⟨dd_nodup K n, by simp, fun a ha b hb e => by
        rw [List.mem_singleton] at hb
        exact h (hb ▸ e ▸ ha)⟩

theorem mem_dd (K : Nat → Int) (x : Int) : ∀ n, x ∈ dd K n ↔ ∃ i, i < n ∧ K i = x
  | 0 => by simp [dd]
  | n + 1 => by
    have ih := mem_dd K x n
    have e : x ∈ dd K (n + 1) ↔ x ∈ dd K n ∨ x = K n := by
      show x ∈ (if K n ∈ dd K n then dd K n else dd K n ++ [K n]) ↔ _
      split
      · rename_i h
        constructor
        · exact Or.inl
        · rintro (h' | rfl)
          · exact h'
          · exact h
      · simp
    rw [e, ih]
    constructor
    · rintro (⟨i, hi, h⟩ | h)
      · exact ⟨i, by omega, h⟩
      · exact ⟨n, by omega, h.symm⟩
    · rintro ⟨i, hi, h⟩
      by_cases hin : i < n
      · exact Or.inl ⟨i, hin, h⟩
      · have : i = n := by omega
        subst this
        exact Or.inr h.symm

theorem dd_succ_in {K : Nat → Int} {n : Nat} (h : K n ∈ dd K n) : dd K (n + 1) = dd K n := by
  show (if K n ∈ dd K n then dd K n else dd K n ++ [K n]) = _
  rw [if_pos h]

theorem dd_succ_out {K : Nat → Int} {n : Nat} (h : K n ∉ dd K n) : dd K (n + 1) = dd K n ++ [K n] := by
  show (if K n ∈ dd K n then dd K n else dd K n ++ [K n]) = _
  rw [if_neg h]

theorem cnt_snoc (L : List Int) (k : Int) (f : Int → Option Int) : cnt (L ++ [k]) f = cnt L f + (if (f k).isSome then 1 else 0) := by
  unfold cnt
  rw [List.filter_append, List.length_append]
  cases h : (f k).isSome <;> simp [List.filter_cons, h]

theorem cnt_le (L : List Int) (f : Int → Option Int) : cnt L f ≤ L.length := List.length_filter_le _ _

theorem dd_le (K : Nat → Int) : ∀ n, (dd K n).length ≤ n
  | 0 => Nat.le_refl _
  | n + 1 => by
    have := dd_le K n
    by_cases h : K n ∈ dd K n
    · rw [dd_succ_in h]; omega
    · rw [dd_succ_out h, List.length_append]; simpa using this

/-! ### what the entries build -/
def bld (K C : Nat → Int) : Nat → Int → Option Int
  | 0 => fun _ => none
  | n + 1 => upd (bld K C n) (K n) (some (C n))

theorem bld_mem (K C : Nat → Int) : ∀ (n i : Nat), i < n → ∃ v, bld K C n (K i) = some v
  | 0, i, h => absurd h (Nat.not_lt_zero _)
  | n + 1, i, h => by
    show ∃ v, upd (bld K C n) (K n) (some (C n)) (K i) = some v
    unfold upd
    by_cases e : K i = K n
    · exact ⟨_, if_pos e⟩
    · rw [if_neg e]
      exact bld_mem K C n i (by
        rcases Nat.lt_succ_iff_lt_or_eq.1 h with h | h
        · exact h
        · exact absurd (h ▸ rfl) e)

/-- what holds of every count holds of every value -/
theorem bld_all (K C : Nat → Int) (p : Int → Prop) : ∀ (n : Nat), (∀ i, i < n → p (C i)) → ∀ x v, bld K C n x = some v → p v
  | 0, _, _, _, h => by cases h
  | n + 1, hc, x, v, h => by
    have h' : upd (bld K C n) (K n) (some (C n)) x = some v := h
    unfold upd at h'
    by_cases e : x = K n
    · rw [if_pos e] at h'
      cases h'
      exact hc n (Nat.lt_succ_self n)
    · rw [if_neg e] at h'
      exact bld_all K C p n (fun i hi => hc i (Nat.lt_succ_of_lt hi)) x v h'

/-! ### how often a script names a chain; the steps that count are told by 'p' -/
def hc (p : Nat → Bool) (S : Nat → Int) : Nat → Int → Nat
  | 0, _ => 0
  | n + 1, x => hc p S n x + (if p n = true ∧ S n = x then 1 else 0)

theorem hc_le (p : Nat → Bool) (S : Nat → Int) (x : Int) : ∀ n, hc p S n x ≤ n
  | 0 => Nat.le_refl _
  | n + 1 => by
    have := hc_le p S x n
    show hc p S n x + _ ≤ _
    split <;> omega

def hitf (p : Nat → Bool) (S : Nat → Int) (n : Nat) : Int → Option Int := fun x => if hc p S n x = 0 then none else some (hc p S n x : Int)

theorem hitf_zero (p : Nat → Bool) (S : Nat → Int) : hitf p S 0 = fun _ => none := by funext x; simp [hitf, hc]

theorem hitf_get (p : Nat → Bool) (S : Nat → Int) (n : Nat) (x : Int) : (hitf p S n x).getD 0 = (hc p S n x : Int) := by
  unfold hitf
  split
  · rename_i h; simp [h]
  · rfl

theorem hitf_yes {p : Nat → Bool} {S : Nat → Int} {n : Nat} (h : p n = true) : upd (hitf p S n) (S n) (some ((hc p S n (S n) : Int) + 1)) = hitf p S (n + 1) := by
  funext x
  unfold upd hitf
  by_cases e : x = S n
  · subst e
    simp [hc, h]
  · have e' : ¬ S n = x := fun h => e h.symm
    simp [hc, e, e']

theorem hitf_no {p : Nat → Bool} {S : Nat → Int} {n : Nat} (h : p n = false) : hitf p S (n + 1) = hitf p S n := by
  funext x
  simp [hitf, hc, h]

/-! ### removals -/
def rem : Option Int → Option Int
  | some v => if 1 < v then some (v - 1) else none
  | none => none

def aft (o : Option Int) (c : Nat) : Option Int :=
  match o with
  | none => none
  | some v => if c = 0 then some v else if (c : Int) < v then some (v - c) else none

theorem aft_zero (o : Option Int) : aft o 0 = o := by cases o <;> rfl

theorem rem_aft (o : Option Int) (c : Nat) : rem (aft o c) = aft o (c + 1) := by
  cases o with
  | none => rfl
  | some v =>
    unfold aft
    by_cases h0 : c = 0
    · subst h0; simp [rem]
    · by_cases h1 : (c : Int) < v
      · simp only [if_neg h0, if_pos h1]
        unfold rem
        by_cases h2 : 1 < v - c
        · have : ((c + 1 : Nat) : Int) < v := by omega
          simp only [if_pos h2, if_pos this]
          rw [if_neg (by omega)]
          congr 1
          omega
        · have : ¬ ((c + 1 : Nat) : Int) < v := by omega
          simp only [if_neg h2, if_neg this]
          rw [if_neg (by omega)]
      · have : ¬ ((c + 1 : Nat) : Int) < v := by omega
        simp only [if_neg h0, if_neg h1, if_neg this, rem]
        rw [if_neg (by omega)]

/-- what the map holds behind n steps of the script -/
def left (K C : Nat → Int) (ne : Nat) (p : Nat → Bool) (S : Nat → Int) (n : Nat) : Int → Option Int := fun x => aft (bld K C ne x) (hc p S n x)

theorem left_zero (K C : Nat → Int) (ne : Nat) (p : Nat → Bool) (S : Nat → Int) : left K C ne p S 0 = bld K C ne := by
  funext x
  exact aft_zero _

theorem left_yes {K C : Nat → Int} {ne : Nat} {p : Nat → Bool} {S : Nat → Int} {n : Nat} (h : p n = true) :
    upd (left K C ne p S n) (S n) (rem (left K C ne p S n (S n))) = left K C ne p S (n + 1) := by
  funext x
  unfold upd
  by_cases e : x = S n
  · subst e
    rw [if_pos rfl]
    unfold left
    rw [rem_aft]
    simp [hc, h]
  · rw [if_neg e]
    have e' : ¬ S n = x := fun h => e h.symm
    simp [left, hc, e']

theorem left_no {K C : Nat → Int} {ne : Nat} {p : Nat → Bool} {S : Nat → Int} {n : Nat} (h : p n = false) : left K C ne p S (n + 1) = left K C ne p S n := by
  funext x
  simp [left, hc, h]

/-- one removal, as the program does it: by the number that the look-up gives -/
theorem rem_more {o : Option Int} {c : Int} (h : c = o.getD 0) (h1 : 1 < c) : rem o = some (c - 1) := by
  cases o with
  | none => simp at h; omega
  | some v => simp at h; subst h; simp [rem, h1]

theorem rem_less {o : Option Int} {c : Int} (h : c = o.getD 0) (h1 : ¬ 1 < c) : rem o = none := by
  cases o with
  | none => rfl
  | some v => simp at h; subst h; simp [rem, h1]

/-- the value that is left, as zzAfter tells it -/
theorem aft_get (v : Int) (c : Nat) : (aft (some v) c).isSome = (decide ((c : Int) ≤ 0) || decide ((c : Int) < v)) ∧
    ((aft (some v) c).isSome = true → (aft (some v) c).getD 0 = (if (c : Int) ≤ 0 then v else if (c : Int) < v then v - c else 0)) := by
  unfold aft
  by_cases h0 : c = 0
  · subst h0; simp
  · by_cases h1 : (c : Int) < v
    · simp only [if_neg h0, if_pos h1]
      have : ¬ (c : Int) ≤ 0 := by omega
      simp [this, h1, h0]
    · simp only [if_neg h0, if_neg h1]
      have : ¬ (c : Int) ≤ 0 := by omega
      simp [h0, h1]

end Go.Proofs.Qxb6608610a
