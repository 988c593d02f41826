import PyProof.Rows.All
import Wide.All
import OpenK.AllK
import Wide.FinOn
import Lean
import PySem.Challenge.RW_mg0008_01
set_option Elab.async false

section
open PySem PySem.W PyProof.Rows
namespace Mine
set_option maxRecDepth 100000 in
set_option maxHeartbeats 8000000 in
open_top hd for PySem.Challenge.rw_mg0008_01
end Mine
end

section
namespace Mine
abbrev Key := List Int
/-- the order of tuples of ints -/
def klt : Key → Key → Bool
  | _, [] => false
  | [], _ :: _ => true
  | a :: as, b :: bs => if a = b then klt as bs else decide (a < b)

def sdLoop (new : Key) (start : Nat) (a : List Key) (pos : Nat) : List Key × Nat :=
  if start < pos then
    if klt new (a.getD ((pos - 1) / 2) []) then sdLoop new start (a.set pos (a.getD ((pos - 1) / 2) [])) ((pos - 1) / 2) else (a, pos)
  else (a, pos)
termination_by pos
decreasing_by omega
def siftdown (a : List Key) (start pos : Nat) : List Key :=
  let r := sdLoop (a.getD pos []) start a pos
  r.1.set r.2 (a.getD pos [])

def suPick (n : Nat) (a : List Key) (c : Nat) : Nat := if c + 1 < n ∧ klt (a.getD c []) (a.getD (c + 1) []) = false then c + 1 else c
theorem suPick_le (n : Nat) (a : List Key) (c : Nat) : c ≤ suPick n a c := by unfold suPick; split <;> omega
theorem suPick_lt {n : Nat} (a : List Key) {c : Nat} (h : c < n) : suPick n a c < n := by unfold suPick; split <;> omega
def suLoop (n : Nat) (a : List Key) (pos : Nat) : List Key × Nat :=
  if 2 * pos + 1 < n then suLoop n (a.set pos (a.getD (suPick n a (2 * pos + 1)) [])) (suPick n a (2 * pos + 1)) else (a, pos)
termination_by n - pos
decreasing_by have := suPick_le n a (2 * pos + 1); omega
def siftup (a : List Key) (pos : Nat) : List Key :=
  let r := suLoop a.length a pos
  siftdown (r.1.set r.2 (a.getD pos [])) pos r.2

theorem sdLoop_length (new : Key) (start : Nat) (a : List Key) (pos : Nat) : (sdLoop new start a pos).1.length = a.length := by
  induction pos using Nat.strongRecOn generalizing a with
  | ind pos ih =>
    rw [sdLoop]
    split
    · split
      · rw [ih _ (by omega)]; simp
      · rfl
    · rfl
theorem sdLoop_le (new : Key) (start : Nat) (a : List Key) (pos : Nat) : (sdLoop new start a pos).2 ≤ pos := by
  induction pos using Nat.strongRecOn generalizing a with
  | ind pos ih =>
    rw [sdLoop]
    split
    · split
      · have := ih ((pos - 1) / 2) (by omega) (a.set pos (a.getD ((pos - 1) / 2) [])); omega
      · exact Nat.le_refl _
    · exact Nat.le_refl _
theorem siftdown_length (a : List Key) (start pos : Nat) : (siftdown a start pos).length = a.length := by
  simp [siftdown, sdLoop_length]
theorem suLoop_length (n : Nat) (a : List Key) (pos : Nat) : (suLoop n a pos).1.length = a.length := by
  induction hk : n - pos using Nat.strongRecOn generalizing a pos with
  | ind k ih =>
    rw [suLoop]
    split
    · have := suPick_le n a (2 * pos + 1)
      rw [ih _ (by omega) _ _ rfl]; simp
    · rfl
theorem suLoop_lt {n : Nat} (a : List Key) {pos : Nat} (h : pos < n) : (suLoop n a pos).2 < n := by
  induction hk : n - pos using Nat.strongRecOn generalizing a pos with
  | ind k ih =>
    rw [suLoop]
    split
    · rename_i h'
      have := suPick_le n a (2 * pos + 1)
      exact ih _ (by omega) _ (suPick_lt a h') rfl
    · exact h
theorem siftup_length (a : List Key) (pos : Nat) : (siftup a pos).length = a.length := by
  simp [siftup, siftdown_length, suLoop_length]
end Mine
end

section
namespace Mine
/-! the order, and the heap functions keep the items and the heap's order -/
theorem klt_irrefl : ∀ a : Key, klt a a = false
  | [] => rfl
  | a :: r => by rw [klt, if_pos rfl]; exact klt_irrefl r
theorem klt_trans : ∀ {a b c : Key}, klt a b = true → klt b c = true → klt a c = true
  | _, [], _, h, _ => by simp [klt] at h
  | _, _ :: _, [], _, h => by simp [klt] at h
  | [], _ :: _, _ :: _, _, _ => rfl
  | a :: as, b :: bs, c :: cs, h1, h2 => by
    rw [klt] at h1 h2 ⊢
    split at h1 <;> split at h2
    · subst_vars; rw [if_pos rfl]; exact klt_trans h1 h2
    · subst_vars; rename_i h; rw [if_neg h]; exact h2
    · subst_vars; rename_i h; rw [if_neg h]; exact h1
    · simp at h1 h2; rw [if_neg (by omega)]; simp; omega
theorem klt_total : ∀ (a b : Key), klt a b = true ∨ a = b ∨ klt b a = true
  | [], [] => .inr (.inl rfl)
  | [], _ :: _ => .inl rfl
  | _ :: _, [] => .inr (.inr rfl)
  | a :: as, b :: bs => by
    by_cases e : a = b
    · subst e
      rcases klt_total as bs with h | h | h
      · left; rw [klt, if_pos rfl]; exact h
      · right; left; rw [h]
      · right; right; rw [klt, if_pos rfl]; exact h
    · by_cases h : a < b
      · left; rw [klt, if_neg e]; simp [h]
      · right; right; rw [klt, if_neg (fun x => e x.symm)]; simp; omega
/-- a ≤ b -/
def kle (a b : Key) : Prop := klt b a = false
theorem kle_refl (a : Key) : kle a a := klt_irrefl a
theorem kle_of_lt {a b : Key} (h : klt a b = true) : kle a b := by
  unfold kle
  cases e : klt b a with
  | false => rfl
  | true => have := klt_trans h e; rw [klt_irrefl] at this; cases this
theorem kle_trans {a b c : Key} (h1 : kle a b) (h2 : kle b c) : kle a c := by
  rcases klt_total a b with h | h | h
  · rcases klt_total b c with h' | h' | h'
    · exact kle_of_lt (klt_trans h h')
    · exact h' ▸ h1
    · rw [h2] at h'; cases h'
  · exact h ▸ h2
  · rw [h1] at h; cases h
theorem kle_total (a b : Key) : kle a b ∨ kle b a := by
  rcases klt_total a b with h | h | h
  · exact .inl (kle_of_lt h)
  · exact .inl (h ▸ kle_refl a)
  · exact .inr (kle_of_lt h)

/-- the item at i -/
abbrev at' (a : List Key) (i : Nat) : Key := a.getD i []
theorem at_set_eq {a : List Key} {i : Nat} (x : Key) (h : i < a.length) : at' (a.set i x) i = x := by simp [at', List.getD, h]
theorem at_set_ne {a : List Key} {i j : Nat} (x : Key) (h : i ≠ j) : at' (a.set i x) j = at' a j := by simp [at', List.getD, List.getElem?_set_ne h]
/-- heap order from the place st on: every child whose parent is at st or after it is not less than that parent -/
def HeapFrom (st : Nat) (a : List Key) : Prop := ∀ i, st ≤ (i - 1) / 2 → 0 < i → i < a.length → kle (at' a ((i - 1) / 2)) (at' a i)
theorem at_eq {a : List Key} {i : Nat} (h : i < a.length) : at' a i = a[i] := by simp [at', List.getD, h]
theorem swap_perm {a : List Key} {i j : Nat} (hi : i < a.length) (hj : j < a.length) : ((a.set i (at' a j)).set j (at' a i)).Perm a := by
  rw [at_eq hi, at_eq hj]; exact List.set_set_perm hi hj
inductive Desc (st : Nat) : Nat → Prop
  | refl : Desc st st
  | left {p : Nat} : Desc st p → Desc st (2 * p + 1)
  | right {p : Nat} : Desc st p → Desc st (2 * p + 2)
theorem Desc.le {st p : Nat} (h : Desc st p) : st ≤ p := by induction h <;> omega
theorem Desc.up {st p : Nat} (h : Desc st p) (hp : st < p) : Desc st ((p - 1) / 2) := by
  cases h with
  | refl => omega
  | @left q h => rw [show (2 * q + 1 - 1) / 2 = q by omega]; exact h
  | @right q h => rw [show (2 * q + 2 - 1) / 2 = q by omega]; exact h
theorem Desc.zero : ∀ p, Desc 0 p := fun p => by
  induction p using Nat.strongRecOn with
  | ind p ih =>
    by_cases h : p = 0
    · subst h; exact .refl
    · rcases Nat.mod_two_eq_zero_or_one p with e | e
      · have := Desc.right (ih ((p - 2) / 2) (by omega)); rwa [show 2 * ((p - 2) / 2) + 2 = p by omega] at this
      · have := Desc.left (ih ((p - 1) / 2) (by omega)); rwa [show 2 * ((p - 1) / 2) + 1 = p by omega] at this

theorem sd_spec {new : Key} {st : Nat} (pos : Nat) : ∀ (a : List Key), pos < a.length → Desc st pos →
    (∀ i, st ≤ (i - 1) / 2 → 0 < i → i < a.length → i ≠ pos → kle (at' (a.set pos new) ((i - 1) / 2)) (at' (a.set pos new) i)) →
    (∀ i, st < pos → 0 < i → i < a.length → (i - 1) / 2 = pos → kle (at' (a.set pos new) ((pos - 1) / 2)) (at' (a.set pos new) i)) →
    HeapFrom st ((sdLoop new st a pos).1.set (sdLoop new st a pos).2 new) ∧ ((sdLoop new st a pos).1.set (sdLoop new st a pos).2 new).Perm (a.set pos new) := by
  induction pos using Nat.strongRecOn with
  | ind pos ih =>
    intro a hp hD h1 h2
    have hle := hD.le
    have stop : (st < pos → kle (at' (a.set pos new) ((pos - 1) / 2)) (at' (a.set pos new) pos)) → HeapFrom st (a.set pos new) := by
      intro hs i a1 a2 a3
      rw [List.length_set] at a3
      by_cases e : i = pos
      · subst e; exact hs (by omega)
      · exact h1 i a1 a2 a3 e
    rw [sdLoop]
    by_cases hgt : st < pos
    · rw [if_pos hgt]
      have hpp : (pos - 1) / 2 < pos := by omega
      have hD' := hD.up hgt
      have hle' := hD'.le
      by_cases hk : klt new (a.getD ((pos - 1) / 2) []) = true
      · rw [if_pos hk]
        generalize hq : (pos - 1) / 2 = q at *
        have eb : (a.set pos (at' a q)).set q new = ((a.set pos new).set pos (at' (a.set pos new) q)).set q (at' (a.set pos new) pos) := by
          rw [at_set_ne _ (by omega), at_set_eq _ hp, List.set_set]
        have hP : ((a.set pos (at' a q)).set q new).Perm (a.set pos new) := by
          rw [eb]; exact swap_perm (by simpa using hp) (by simp; omega)
        have g : ∀ j, at' ((a.set pos (at' a q)).set q new) j = if j = q then new else if j = pos then at' a q else at' a j := by
          intro j
          by_cases e1 : j = q
          · subst e1; rw [if_pos rfl, at_set_eq _ (by simp; omega)]
          · rw [if_neg e1, at_set_ne _ (fun e => e1 e.symm)]
            by_cases e2 : j = pos
            · subst e2; rw [if_pos rfl, at_set_eq _ hp]
            · rw [if_neg e2, at_set_ne _ (fun e => e2 e.symm)]
        have gb : ∀ j, at' (a.set pos new) j = if j = pos then new else at' a j := by
          intro j
          by_cases e2 : j = pos
          · subst e2; rw [if_pos rfl, at_set_eq _ hp]
          · rw [if_neg e2, at_set_ne _ (fun e => e2 e.symm)]
        have hlt : kle new (at' a q) := kle_of_lt hk
        suffices H : HeapFrom st ((sdLoop new st (a.set pos (at' a q)) q).1.set (sdLoop new st (a.set pos (at' a q)) q).2 new) ∧ ((sdLoop new st (a.set pos (at' a q)) q).1.set (sdLoop new st (a.set pos (at' a q)) q).2 new).Perm ((a.set pos (at' a q)).set q new) from ⟨H.1, H.2.trans hP⟩
        apply ih q (by omega) (a.set pos (at' a q)) (by simp; omega) hD'
        · intro i a1 a2 a3 a4
          rw [List.length_set] at a3
          rw [g, g, if_neg a4]
          by_cases e : i = pos
          · subst e; rw [if_pos (by omega), if_pos rfl]; exact hlt
          · rw [if_neg e]
            have := h1 i a1 a2 a3 e
            rw [gb, gb, if_neg e] at this
            by_cases e2 : (i - 1) / 2 = q
            · rw [if_pos e2]; rw [if_neg (by omega), e2] at this; exact kle_trans hlt this
            · rw [if_neg e2]
              by_cases e3 : (i - 1) / 2 = pos
              · rw [if_pos e3]
                have := h2 i hgt a2 a3 e3
                rw [gb, gb, if_neg e, if_neg (by omega)] at this
                exact this
              · rw [if_neg e3]; rw [if_neg e3] at this; exact this
        · intro i b1 b2 b3 b4
          rw [List.length_set] at b3
          have hD2 := (hD'.up b1).le
          have up := h1 q hD2 (by omega) (by omega) (by omega)
          rw [gb, gb, if_neg (by omega), if_neg (by omega)] at up
          rw [g, g, if_neg (by omega), if_neg (by omega), if_neg (by omega)]
          by_cases e : i = pos
          · rw [if_pos e]; exact up
          · rw [if_neg e]
            have := h1 i (by omega) b2 b3 e
            rw [gb, gb, if_neg e, if_neg (by omega), b4] at this
            exact kle_trans up this
      · rw [if_neg hk]
        refine ⟨stop fun _ => ?_, List.Perm.refl _⟩
        rw [at_set_ne _ (by omega), at_set_eq _ hp]
        simpa [kle] using hk
    · rw [if_neg hgt]
      exact ⟨stop fun h => absurd h hgt, List.Perm.refl _⟩

theorem set_self {a : List Key} {i : Nat} : a.set i (at' a i) = a := by
  by_cases h : i < a.length
  · rw [at_eq h]; simp
  · rw [List.set_eq_of_length_le (by omega)]
theorem siftdown_spec {a : List Key} {st pos : Nat} (hp : pos < a.length) (hD : Desc st pos)
    (h1 : ∀ i, st ≤ (i - 1) / 2 → 0 < i → i < a.length → i ≠ pos → kle (at' a ((i - 1) / 2)) (at' a i))
    (h2 : ∀ i, st < pos → 0 < i → i < a.length → (i - 1) / 2 = pos → kle (at' a ((pos - 1) / 2)) (at' a i)) :
    HeapFrom st (siftdown a st pos) ∧ (siftdown a st pos).Perm a := by
  have H := sd_spec (new := at' a pos) (st := st) pos a hp hD (by rw [set_self]; exact h1) (by rw [set_self]; exact h2)
  rw [set_self] at H
  exact H
theorem suPick_kle {n : Nat} {a : List Key} {c i : Nat} (hc : c < n) (hi : i < n) (h : i = c ∨ i = c + 1) : kle (at' a (suPick n a c)) (at' a i) := by
  unfold suPick
  split
  · rename_i h'
    rcases h with rfl | rfl
    · exact h'.2
    · exact kle_refl _
  · rename_i h'
    rcases h with rfl | rfl
    · exact kle_refl _
    · refine kle_of_lt ?_
      rcases Bool.eq_false_or_eq_true (klt (a.getD c []) (a.getD (c + 1) [])) with e | e
      · exact e
      · exact absurd ⟨hi, e⟩ h'
theorem suPick_or (n : Nat) (a : List Key) (c : Nat) : suPick n a c = c ∨ suPick n a c = c + 1 := by unfold suPick; split <;> simp
theorem su_spec {n : Nat} {x : Key} {st : Nat} (k : Nat) : ∀ (pos : Nat) (a : List Key), n - pos = k → a.length = n → pos < n → Desc st pos →
    (∀ i, st ≤ (i - 1) / 2 → 0 < i → i < n → i ≠ pos → (i - 1) / 2 ≠ pos → kle (at' a ((i - 1) / 2)) (at' a i)) →
    (∀ i, st < pos → 0 < i → i < n → (i - 1) / 2 = pos → kle (at' a ((pos - 1) / 2)) (at' a i)) →
    ∃ q, (suLoop n a pos).2 = q ∧ (suLoop n a pos).1.length = n ∧ q < n ∧ n ≤ 2 * q + 1 ∧ Desc st q ∧
      (∀ i, st ≤ (i - 1) / 2 → 0 < i → i < n → i ≠ q → kle (at' ((suLoop n a pos).1) ((i - 1) / 2)) (at' ((suLoop n a pos).1) i)) ∧
      ((suLoop n a pos).1.set q x).Perm (a.set pos x) := by
  induction k using Nat.strongRecOn with
  | ind k ih =>
    intro pos a hk hlen hp hD h1 h2
    rw [suLoop]
    by_cases hc : 2 * pos + 1 < n
    · rw [if_pos hc]
      have hle := suPick_le n a (2 * pos + 1)
      have hlt := suPick_lt a hc
      have hor := suPick_or n a (2 * pos + 1)
      have hmin : ∀ i, i < n → i = 2 * pos + 1 ∨ i = 2 * pos + 1 + 1 → kle (at' a (suPick n a (2 * pos + 1))) (at' a i) := fun i hi h => suPick_kle hc hi h
      change ∃ q, (suLoop n (a.set pos (at' a (suPick n a (2 * pos + 1)))) (suPick n a (2 * pos + 1))).2 = q ∧ _
      generalize suPick n a (2 * pos + 1) = c at *
      have g : ∀ j, at' (a.set pos (at' a c)) j = if j = pos then at' a c else at' a j := by
        intro j
        by_cases e2 : j = pos
        · subst e2; rw [if_pos rfl, at_set_eq _ (by omega)]
        · rw [if_neg e2, at_set_ne _ (fun e => e2 e.symm)]
      have hDc : Desc st c := by
        rcases hor with e | e
        · rw [e]; exact hD.left
        · rw [e]; exact hD.right
      have hst := hD.le
      obtain ⟨q, q1, q2, q3, q4, q5, q6, q7⟩ := ih (n - c) (by omega) c (a.set pos (at' a c)) rfl (by simpa using hlen) hlt hDc
        (by
          intro i a1 a2 a3 a4 a5
          rw [g, g]
          by_cases e1 : i = pos
          · subst e1
            rw [if_neg (by omega), if_pos rfl]
            exact h2 c (by omega) (by omega) hlt (by omega)
          · rw [if_neg e1]
            by_cases e2 : (i - 1) / 2 = pos
            · rw [if_pos e2]; exact hmin i a3 (by omega)
            · rw [if_neg e2]; exact h1 i a1 a2 a3 e1 e2)
        (by
          intro i b1 b2 b3 b4
          rw [g, g, if_pos (by omega), if_neg (by omega)]
          have := h1 i (by omega) b2 b3 (by omega) (by omega)
          rw [b4] at this; exact this)
      refine ⟨q, q1, q2, q3, q4, q5, q6, q7.trans ?_⟩
      have eb : (a.set pos (at' a c)).set c x = ((a.set pos x).set pos (at' (a.set pos x) c)).set c (at' (a.set pos x) pos) := by
        rw [at_set_ne _ (by omega), at_set_eq _ (by omega), List.set_set]
      rw [eb]; exact swap_perm (by simp; omega) (by simp; omega)
    · rw [if_neg hc]
      refine ⟨pos, rfl, hlen, hp, by omega, hD, fun i a1 a2 a3 a4 => h1 i a1 a2 a3 a4 (by omega), List.Perm.refl _⟩
theorem siftup_spec {a : List Key} {st : Nat} (hp : st < a.length) (h : HeapFrom (st + 1) a) : HeapFrom st (siftup a st) ∧ (siftup a st).Perm a := by
  obtain ⟨q, q1, q2, q3, q4, q5, q6, q7⟩ := su_spec (n := a.length) (x := at' a st) (st := st) _ st a rfl rfl hp .refl
    (fun i a1 a2 a3 a4 a5 => h i (by omega) a2 a3) (fun i b1 _ _ _ => by omega)
  rw [set_self] at q7
  have e : siftup a st = siftdown ((suLoop a.length a st).1.set q (at' a st)) st q := by rw [← q1]; rfl
  rw [e]
  obtain ⟨r1, r2⟩ := siftdown_spec (a := (suLoop a.length a st).1.set q (at' a st)) (st := st) (pos := q) (by simp; omega) q5
    (by
      intro i a1 a2 a3 a4
      rw [List.length_set, q2] at a3
      rw [at_set_ne _ (by omega), at_set_ne _ (fun e => a4 e.symm)]
      exact q6 i a1 a2 a3 a4)
    (by
      intro i _ b2 b3 b4
      rw [List.length_set, q2] at b3
      omega)
  exact ⟨r1, r2.trans q7⟩
theorem heap_min {a : List Key} (h : HeapFrom 0 a) (i : Nat) : i < a.length → kle (at' a 0) (at' a i) := by
  induction i using Nat.strongRecOn with
  | ind i ih =>
    intro hi
    by_cases e : i = 0
    · subst e; exact kle_refl _
    · exact kle_trans (ih ((i - 1) / 2) (by omega) (by omega)) (h i (by omega) (by omega) hi)
end Mine
end

section
open PySem PySem.W PyProof.Rows PySem.Calls
set_option maxRecDepth 100000
namespace Mine

noncomputable abbrev KF (w : World) : Frag := Mine.hd.heap_39 w.params
abbrev prg : Program := PySem.Challenge.rw_mg0008_01.row.prog

def defNo (n : Nat) : Stmt := (PySem.Challenge.pw_mg0008_01.main.body)[n]?.getD (.Pass ⟨0, 0, 0, 0⟩)
def bodyOf : Stmt → List Stmt
  | .FunctionDef _ _ b _ _ _ _ _ _ _ => b
  | _ => []
def scopeOf : Stmt → Scope
  | .FunctionDef _ _ _ _ _ _ s _ _ _ => s
  | _ => { kind := .module, names := [], isGenerator := false, isCoroutine := false, more := [] }

def pushB : List Stmt := bodyOf (defNo 1)
def pushS : Scope := scopeOf (defNo 1)
def popB : List Stmt := bodyOf (defNo 2)
def popS : Scope := scopeOf (defNo 2)
def hfyB : List Stmt := bodyOf (defNo 3)
def hfyS : Scope := scopeOf (defNo 3)
def sdB : List Stmt := bodyOf (defNo 4)
def sdS : Scope := scopeOf (defNo 4)
def suB : List Stmt := bodyOf (defNo 5)
def suS : Scope := scopeOf (defNo 5)
def housesB : List Stmt := bodyOf (defNo 7)
def housesS : Scope := scopeOf (defNo 7)
def offB : List Stmt := bodyOf (defNo 8)
def offS : Scope := scopeOf (defNo 8)
def outB : List Stmt := bodyOf (defNo 9)
def outS : Scope := scopeOf (defNo 9)
def empB : List Stmt := bodyOf (defNo 10)
def empS : Scope := scopeOf (defNo 10)

/-- a place in a running def from which a def may be called: d more frames may be laid -/
structure Site (w : World) (A : Around) (env : Env) (L : Addr) (h₀ : Heap) (d : Nat) : Prop where
  cal : ∃ A₀ base outer, Below A₀ base outer h₀ ∧ A.frames = some (env :: outer)
  kin : (KF w).In h₀
  top : ∃ loose mean mg mb, Top Mine.hd.view_39 loose mean mg mb h₀
  frame : env.frame = some L
  kind : env.scope.kind = .function
  depth : A.depth + d ≤ 900
  units : A.units + 3 * d ≤ 900
  handled : A.handled = none

theorem Site.less {w : World} {A : Around} {env : Env} {L : Addr} {h₀ : Heap} {d d' : Nat} (S : Site w A env L h₀ d) (h : d' ≤ d) : Site w A env L h₀ d' :=
  ⟨S.cal, S.kin, S.top, S.frame, S.kind, by have := S.depth; omega, by have := S.units; omega, S.handled⟩
theorem cLine_val : cLine = 9900 := by decide +kernel
theorem Site.room {w : World} {A : Around} {env : Env} {L : Addr} {h₀ : Heap} {d : Nat} (S : Site w A env L h₀ d) : A.units + 64 < cLine := by
  have := S.units; rw [cLine_val]; omega
theorem Site.room0 {w : World} {A : Around} {env : Env} {L : Addr} {h₀ : Heap} {d : Nat} (S : Site w A env L h₀ d) : A.units < cLine := by
  have := S.units; rw [cLine_val]; omega

/-- a def of the text is called: its body runs in a frame of its own -/
theorem Site.call {w : World} {A : Around} {env : Env} {L : Addr} {h₀ : Heap} {d : Nat} {s : Shared} {m : Str → Option Value} {news : List (Addr × Obj)} {Q : Value → Shared → Prop} {E : Value → Shared → Prop}
    {name qual : Str} {params : Arguments} {body : List Stmt} {scope : Scope} {dV kV doc pm cdv ct oc : Value} {an od : Option Addr} {osl : Array (Option Value)} {f : Addr} {args : List Value} {binds : List (Str × Value)}
    (S : Site w A env L h₀ (d + 1)) (F : Fr h₀ L s.heap m) (N : News h₀ L s.heap news)
    (ho : (KF w).lookup f = some ⟨oc, od, .func (fnOf name qual params body scope dV kV doc pm an cdv ct), osl⟩) (hcd : codeIn (KF w) cdv qual = true)
    (hbind : BindsTo s (fnOf name qual params body scope dV kV doc pm an cdv ct) ⟨args, []⟩ binds) (hloc : ∀ y ∈ binds, scope.names.lookup y.1 = some .local)
    (h : ∀ g L' h₁ tk, Site w (A.deeper (envOf qual scope L' f cdv)) (envOf qual scope L' f cdv) L' g d → Fr g L' h₁ (fun y => binds.reverse.lookup y) → News g L' h₁ news →
      wpAny (model prg w) (A.deeper (envOf qual scope L' f cdv)) (execs body (envOf qual scope L' f cdv))
        (fun fl s' => ∃ h' tk' m' news', s' = { s with heap := h', toks := tk' } ∧ Fr g L' h' m' ∧ News g L' h' news' ∧
          (Fr h₀ L h' m → News h₀ L h' news' → Q (match fl with | .ret v => v | _ => .none) { s with heap := h', toks := tk' }))
        (fun _ _ => False) { s with heap := h₁, toks := tk })
    (hco : scope.isCoroutine = false := by rfl) (hgen : scope.isGenerator = false := by rfl) (hk : scope.kind = .function := by rfl)
    (hcell : ∀ x ∈ scope.names, x.2 ≠ .cell := by decide) : wpAny (model prg w) A (PySem.call (.ref f) args []) Q E s := by
  obtain ⟨A₀, base, outer, B, hA⟩ := S.cal
  obtain ⟨loose, mean, mg, mb, T⟩ := S.top
  have hd := S.depth
  have hu := S.units
  refine wpAny_call (code_def B F S.kin N T hA S.frame S.kind ho hcd (by show A.depth < 1000; omega) hbind hloc ?_ hco hgen hk hcell)
  intro g L' h₁ FG F' N' B' X' T'
  refine wpAny_mono (h g L' h₁ _ ⟨⟨A, base, env :: outer, B', ?_⟩, X', ⟨loose, mean, mg, mb, T'⟩, rfl, hk, ?_, ?_, S.handled⟩ F' N') ?_ (fun _ _ x => x.elim)
  · exact Around.frames_deeper B'.stack
  · show A.depth + 1 + d ≤ 900; omega
  · show A.units + 3 + 3 * d ≤ 900; omega
  · rintro fl s' ⟨h', tk', m', news', rfl, F₁, N₁, k⟩
    exact ⟨L', m', news', F₁, N₁, fun a b => k a b⟩

end Mine
end

section
open PySem PySem.W PyProof.Rows PySem.Calls
set_option maxRecDepth 100000
namespace Mine

section
variable {prog : Program} {w : World} {A : Around} {E : Value → Shared → Prop} {s : Shared}

theorem loop_lt {R : Option (Fin) × PUnit → Shared → Prop} {body : Value × Value → Option Fin × PUnit → Sem (ForInStep (Option Fin × PUnit))}
    (hb : ∀ (i j : Int) (t u : Tok) (s : Shared) (P : ForInStep (Option Fin × PUnit) → Shared → Prop),
      (if i = j then P (.yield (none, ⟨⟩)) s else P (.done (some (.done (.ret (.bool (decide (i < j))))), ⟨⟩)) s) → wpAny (model prog w) A (body (.int i t, .int j u) (none, ⟨⟩)) P E s) :
    ∀ {xs ys : List Value} {x y : Key}, IntsAre xs x → IntsAre ys y →
      (∀ b, klt x y = b → (∀ r, r = some (Fin.done (.ret (.bool b))) ∨ (r = none ∧ b = decide (xs.length < ys.length)) → R (r, ⟨⟩) s)) →
      wpAny (model prog w) A (forIn (xs.zip ys) (none, ⟨⟩) body) R E s := by
  intro xs ys x y hx hy
  induction hx generalizing ys y with
  | nil =>
    intro h
    rw [List.zip_nil_left, List.forIn_nil]
    refine wpAny_pure (h _ rfl _ (.inr ⟨rfl, ?_⟩))
    cases hy with
    | nil => simp [klt]
    | cons => simp [klt]
  | @cons i t xs x hx ih =>
    intro h
    cases hy with
    | nil =>
      rw [List.zip_nil_right, List.forIn_nil]
      exact wpAny_pure (h _ rfl _ (.inr ⟨rfl, by simp [klt]⟩))
    | @cons j u ys y hy =>
      rw [List.zip_cons_cons, List.forIn_cons]
      refine wpAny_bind (hb i j t u s _ ?_)
      by_cases e : i = j
      · rw [if_pos e]
        refine ih hy fun b hb' r hr => h b ?_ r ?_
        · rw [klt, if_pos e]; exact hb'
        · simpa using hr
      · rw [if_neg e]
        refine wpAny_pure (h _ ?_ _ (.inl rfl))
        rw [klt, if_neg e]

theorem tuple_lt_tree {x y : Key} {a b : Addr} {oa ob : Obj} {xs ys : List Value} {na nb : Nat} {P : Fin → Shared → Prop} (hoa : s.heap.get? a = some oa) (hda : oa.data = .seq xs.toArray na)
    (hob : s.heap.get? b = some ob) (hcb : ob.cls = .type "tuple") (hdb : ob.data = .seq ys.toArray nb) (hx : IntsAre xs x) (hy : IntsAre ys y) (h : P (.done (.ret (.bool (klt x y)))) s) :
    wpAny (model prog w) A (Builtin.«tuple.__lt__» ⟨[.ref a, .ref b], []⟩) P E s := by
  show wpAny _ _ (isInstance (.ref b) (.type "tuple") >>= _) _ _ s
  refine wpAny_bind (wpAny_isInstance (T := "tuple") ⟨ob, hob, hcb⟩ isSubtype_tuple_tuple ?_)
  simp only [Bool.not_true, Bool.false_eq_true, if_false]
  refine wpAny_bind (wpAny_tupleItemsOf hoa hda ?_)
  refine wpAny_bind (wpAny_tupleItemsOf hob hdb ?_)
  refine wpAny_bind ?_
  refine loop_lt (fun i j t u s' P' h' => ?_) hx hy (fun c hc r hr => ?_)
  · dsimp only
    refine wpAny_bind (wpAny_eqBool_int ?_)
    by_cases e : i = j
    · rw [if_pos e] at h'
      simp [e]
      exact wpAny_pure h'
    · rw [if_neg e] at h'
      simp [e]
      refine wpAny_bind (wpAny_rule (wpAny_bind ?_))
      refine lt_int (wpAny_bind (wpAny_pure (wpAny_pure h')))
  · subst hc
    rcases hr with rfl | ⟨rfl, e⟩
    · exact wpAny_pure h
    · refine wpAny_pure ?_
      show P (.done (.ret (.bool (decide (xs.toArray.size < ys.toArray.size))))) s
      simpa [← e] using h
theorem tup_lt {x y : Key} {a b : Addr} {oa ob : Obj} {xs ys : List Value} {na nb : Nat} {Q : Value → Shared → Prop} (hu : A.units < cLine) (hoa : s.heap.get? a = some oa) (hca : oa.cls = .type "tuple") (hda : oa.data = .seq xs.toArray na)
    (hob : s.heap.get? b = some ob) (hcb : ob.cls = .type "tuple") (hdb : ob.data = .seq ys.toArray nb) (hx : IntsAre xs x) (hy : IntsAre ys y) (h : Q (.bool (klt x y)) s) :
    wpAny (model prog w) A (compareOp .Lt (.ref a) (.ref b)) Q E s := by
  refine cmp_ofLt ?_
  have ta : s.TypeIs (.ref a) "tuple" := ⟨oa, hoa, hca⟩
  exact wpAny_richCompare_same_room (op := .Lt) ta ⟨ob, hob, hcb⟩ PySem.F.slot_tuple_lt
      (wpAny_call_entry PySem.F.slot_tuple_lt ta PySem.F.entry_tuple_lt (tuple_lt_tree hoa hda hob hcb hdb hx hy ⟨_, rfl, (fun e => nomatch e), h⟩) (PySem.F.args_tuple_lt_2 _ _)) hu
end
end Mine
end

section
open PySem PySem.W PyProof.Rows PySem.Calls
set_option maxRecDepth 100000
namespace Mine

def tupD (k : Key) : Dat := .tuple (k.map Dat.int)
theorem ints_of_dat {news : List (Addr × Obj)} : ∀ {vs : List Value} {k : Key}, DatAll news vs (k.map Dat.int) → IntsAre vs k
  | _, [], h => by cases h; exact .nil
  | _, i :: k, h => by
    cases h with
    | cons h r => cases h; exact .cons _ _ (ints_of_dat r)
theorem dat_of_ints {news : List (Addr × Obj)} {vs : List Value} {k : Key} (h : IntsAre vs k) : DatAll news vs (k.map Dat.int) := by
  induction h with
  | nil => exact .nil
  | cons n t _ ih => exact .cons (.int n t) ih
theorem dat_open {news : List (Addr × Obj)} {v : Value} {k : Key} (h : DatIn news v (tupD k)) :
    ∃ a vs n, v = .ref a ∧ (a, ({ cls := .type "tuple", data := .seq vs.toArray n } : Obj)) ∈ news ∧ IntsAre vs k := by
  unfold tupD at h
  generalize hd : Dat.tuple (k.map Dat.int) = d at h
  cases h with
  | tuple hm hr =>
    injection hd with hd
    subst hd
    exact ⟨_, _, _, rfl, hm, ints_of_dat hr⟩
  | _ => cases hd
theorem datAll_set {news : List (Addr × Obj)} {v : Value} {d : Dat} (hv : DatIn news v d) : ∀ {vs : List Value} {ds : List Dat}, DatAll news vs ds → ∀ i, DatAll news (vs.set i v) (ds.set i d)
  | _, _, .nil, _ => .nil
  | _, _, .cons _ r, 0 => .cons hv r
  | _, _, .cons h r, i + 1 => .cons h (datAll_set hv r i)

/-- the items of a list are tuples of ints, their keys ks -/
abbrev Its (news : List (Addr × Obj)) (vs : List Value) (ks : List Key) : Prop := DatAll news vs (ks.map tupD)
theorem Its.length {news : List (Addr × Obj)} {vs : List Value} {ks : List Key} (h : Its news vs ks) : vs.length = ks.length := by
  have := DatAll.length h; simpa using this
theorem Its.get {news : List (Addr × Obj)} {vs : List Value} {ks : List Key} (h : Its news vs ks) {i : Nat} (hi : i < ks.length) : ∃ v, vs[i]? = some v ∧ DatIn news v (tupD (ks.getD i [])) := by
  obtain ⟨v, h1, h2⟩ := DatAll.get h (k := i) (by simpa using hi)
  refine ⟨v, h1, ?_⟩
  have e : ks.getD i [] = ks[i] := by simp [List.getD, hi]
  rw [e]; simpa using h2
theorem Its.set {news : List (Addr × Obj)} {vs : List Value} {ks : List Key} (h : Its news vs ks) {v : Value} {k : Key} (hv : DatIn news v (tupD k)) (i : Nat) : Its news (vs.set i v) (ks.set i k) := by
  have := datAll_set hv h i
  unfold Its
  rw [List.map_set]; exact this

section
variable {prog : Program} {w : World} {A : Around} {E : Value → Shared → Prop} {s : Shared} {h₀ : Heap} {L l : Addr} {m : Str → Option Value} {news rest : List (Addr × Obj)}
theorem lt_items {u v : Value} {x y : Key} {Q : Value → Shared → Prop} (hr : A.units < cLine) (N : News h₀ L s.heap news) (hu : DatIn news u (tupD x)) (hv : DatIn news v (tupD y)) (h : Q (.bool (klt x y)) s) :
    wpAny (model prog w) A (compareOp .Lt u v) Q E s := by
  obtain ⟨a, xs, n, rfl, ma, ia⟩ := dat_open hu
  obtain ⟨b, ys, k, rfl, mb, ib⟩ := dat_open hv
  exact tup_lt hr (N _ ma).1 rfl rfl (N _ mb).1 rfl rfl ia ib h
theorem set_at {vs : List Value} {c : Nat} {k : Int} {t : Tok} {v : Value} {Q : Unit → Shared → Prop} (F : Fr h₀ L s.heap m) (N : News h₀ L s.heap ((l, listOf vs.toArray c) :: rest)) (hl : ∀ p ∈ rest, p.1 ≠ l)
    (h0 : 0 ≤ k) (hk : k < vs.length) (hfit : vs.length < 2 ^ 24)
    (h : ∀ h', Fr h₀ L h' m → News h₀ L h' ((l, listOf (vs.set k.toNat v).toArray c) :: rest) → Q () { s with heap := h' }) :
    wpAny (model prog w) A (setItem (.ref l) (.int k t) v) Q E s := by
  have z := N (l, listOf vs.toArray c) (.head _)
  refine ki_setAt (n := c) z.1 h0 (by omega) (by simpa using hk) (h _ (F.change (Heap.SameBut.update ..) z.2.1 z.2.2) (ki_turn (pre := []) _ N (fun _ h => nomatch h) hl ?_ ?_))
  · show vs.toArray.setIfInBounds k.toNat v = (vs.set k.toNat v).toArray
    apply Array.toList_inj.mp
    simp
  · simp
end

abbrev sdEnv (L : Addr) : Env := envOf (Str.ofString "_siftdown") sdS L 42 (.ref 41)
local macro_rules | `(tactic| walk_at "mine look") => `(tactic| first | with_reducible assumption | exact rfl | (refine (if_neg (by decide)).trans ?_; walk_at "mine look"))

set_option maxHeartbeats 1000000 in
theorem sd_body {w : World} {A : Around} {L l : Addr} {g : Heap} {s : Shared} {m : Str → Option Value} {rest base : List (Addr × Obj)} {vs : List Value} {c : Nat} {ks : List Key} {st p : Nat} {t0 t1 : Tok} {Q : Flow → Shared → Prop}
    (S : Site w A (sdEnv L) L g 0) (F : Fr g L s.heap m) (N : News g L s.heap ((l, listOf vs.toArray c) :: rest)) (hl : ∀ p ∈ rest, p.1 ≠ l) (hb : ∀ p ∈ base, p ∈ rest)
    (I : Its base vs ks) (hp : p < ks.length) (hfit : ks.length < 2 ^ 24)
    (m1 : m (Str.ofString "heap") = some (.ref l)) (m2 : m (Str.ofString "startpos") = some (.int st t0)) (m3 : m (Str.ofString "pos") = some (.int p t1))
    (h : ∀ h' tk m' vs', Fr g L h' m' → News g L h' ((l, listOf vs'.toArray c) :: rest) → Its base vs' (siftdown ks st p) → Q .next { s with heap := h', toks := tk }) :
    wpAny (model prg w) A (execs sdB (sdEnv L)) Q (fun _ _ => False) s := by
  obtain ⟨nv, hnv, dnv⟩ := I.get hp
  have hlen := I.length
  refine wpAny_execs_cons (wpAny_Assign_Name (Subscript_ (ld F m1 (ld F m3 (kim_list N (.head _) rfl rfl (by omega) (by omega) (by simpa using hnv) (stN F N fun h₁ F₁ N₁ => ?_)))))  (by with_unfolding_all rfl))
  generalize hnew : ks.getD p [] = new at dnv
  let J : Nat → (Str → Option Value) → List (Addr × Obj) → Prop := fun n m₁ nx => ∃ (vs₁ : List Value) (ks₁ : List Key) (t : Tok), nx = (l, listOf vs₁.toArray c) :: rest ∧ Its base vs₁ ks₁ ∧ ks₁.length = ks.length ∧ n < ks.length ∧
    m₁ (Str.ofString "heap") = some (.ref l) ∧ m₁ (Str.ofString "startpos") = some (.int st t0) ∧ m₁ (Str.ofString "newitem") = some nv ∧ m₁ (Str.ofString "pos") = some (.int n t) ∧ sdLoop new st ks₁ n = sdLoop new st ks p
  refine wpAny_execs_cons (While_inv2 J F₁ N₁ (n₀ := p) ⟨vs, ks, t1, rfl, I, rfl, hp, by walk_at "mine look", by walk_at "mine look", by walk_at "mine look", by walk_at "mine look", rfl⟩ ?_ PassesOwn.never)
  rintro n m₁ nx h₁ tk₁ F₁ N₁ ⟨vs₁, ks₁, t, rfl, I₁, hk₁, hn, a1, a2, a3, a4, hR⟩
  have hlen₁ := I₁.length
  have after : ∀ (s' : Shared) (m' : Str → Option Value) (h' : Heap) (tk' : Nat), s' = { s with heap := h', toks := tk' } → Fr g L h' m' → News g L h' ((l, listOf vs₁.toArray c) :: rest) → m' (Str.ofString "heap") = some (.ref l) → m' (Str.ofString "newitem") = some nv → m' (Str.ofString "pos") = some (.int n t) →
      sdLoop new st ks p = (ks₁, n) → wpAny (model prg w) A (execs (sdB.drop 2) (sdEnv L)) Q (fun _ _ => False) s' := by
    rintro _ m' h' tk' rfl F' N' b1 b2 b3 hr
    refine wpAny_execs_cons (wpAny_Assign_Subscript (ld F' b2 (ld F' b1 (ld F' b3 (set_at F' N' hl (by omega) (by omega) (by omega) fun h2 F2 N2 => ?_)))) (by with_unfolding_all rfl))
    refine wpAny_execs_nil (h h2 tk' m' _ F2 N2 ?_)
    have e : siftdown ks st p = ks₁.set n new := by unfold siftdown; rw [hnew, hr]
    rw [e]
    simpa using I₁.set dnv n
  rw [sdLoop] at hR
  refine wpAny_isTrue_Compare1 (ld F₁ a4 (ld F₁ a2 (gt_int (wpAny_truthy_bool ?_))))
  by_cases hgt : st < n
  · have hgt' : ((st : Int) < (n : Int)) := by omega
    rw [decide_eq_true hgt', if_pos rfl]
    rw [if_pos hgt] at hR
    have e : ((n : Int) - 1).fdiv (2 ^ (1 : Int).toNat) = (((n - 1) / 2 : Nat) : Int) := by
      rw [show (2 : Int) ^ (1 : Int).toNat = 2 from rfl, Int.fdiv_eq_ediv_of_nonneg _ (by omega)]; omega
    have hpp : (n - 1) / 2 < ks₁.length := by omega
    obtain ⟨pv, hpv, dpv⟩ := I₁.get hpp
    refine wpAny_execs_cons (wpAny_Assign_Name (wpAny_BinOp (wpAny_BinOp (ld F₁ a4 (wpAny_Constant_int (sub_int (wpAny_Constant_int (rshift_int (by decide) (stN F₁ N₁ fun h₂ F₂ N₂ => ?_)))))))) (by with_unfolding_all rfl))
    rw [e] at F₂
    refine wpAny_execs_cons (wpAny_Assign_Name (Subscript_ (ld F₂ (by walk_at "mine look") (ld F₂ (by walk_at "mine look") (kim_list N₂ (.head _) rfl rfl (by omega) (by omega) (by rw [Int.toNat_natCast]; exact hpv) (stN F₂ N₂ fun h₃ F₃ N₃ => ?_))))) (by with_unfolding_all rfl))
    refine wpAny_execs_cons (wpAny_If (wpAny_isTrue_Compare1 (ld F₃ (by walk_at "mine look") (ld F₃ (by walk_at "mine look") (lt_items S.room0 N₃ (dnv.mono fun _ h => .tail _ (hb _ h)) (dpv.mono fun _ h => .tail _ (hb _ h)) (wpAny_truthy_bool ?_))))))
    by_cases hlt : klt new (ks₁.getD ((n - 1) / 2) []) = true
    · rw [hlt, if_pos rfl]
      rw [if_pos hlt] at hR
      refine wpAny_execs_cons (wpAny_Assign_Subscript (ld F₃ (by walk_at "mine look") (ld F₃ (by walk_at "mine look") (ld F₃ (by walk_at "mine look") (set_at F₃ N₃ hl (by omega) (by omega) (by omega) fun h₄ F₄ N₄ => ?_)))) (by with_unfolding_all rfl))
      refine wpAny_execs_cons (wpAny_Assign_Name (ld F₄ (by walk_at "mine look") (stN F₄ N₄ fun h₅ F₅ N₅ => ?_)) (by with_unfolding_all rfl))
      refine wpAny_execs_cons (wpAny_Continue ?_)
      refine ⟨h₅, _, _, _, (n - 1) / 2, rfl, F₅, N₅, by omega, ?_⟩
      refine ⟨_, ks₁.set n (ks₁.getD ((n - 1) / 2) []), _, rfl, ?_, by simpa using hk₁, by omega, by walk_at "mine look", by walk_at "mine look", by walk_at "mine look", by walk_at "mine look", hR⟩
      simpa using I₁.set dpv n
    · rw [Bool.not_eq_true] at hlt
      rw [hlt, if_neg (by simp)]
      rw [hlt, if_neg (by simp)] at hR
      refine wpAny_execs_nil (wpAny_execs_cons (wpAny_Break ?_))
      exact after _ _ h₃ _ rfl F₃ N₃ (by walk_at "mine look") (by walk_at "mine look") (by walk_at "mine look") hR.symm
  · have hgt' : ¬ ((st : Int) < (n : Int)) := by omega
    rw [decide_eq_false hgt', if_neg (by simp)]
    rw [if_neg hgt] at hR
    exact after _ m₁ h₁ _ rfl F₁ N₁ a1 a3 a4 hR.symm
end Mine
end

section
open PySem PySem.W PyProof.Rows PySem.Calls

set_option maxRecDepth 100000

namespace Mine

set_option maxHeartbeats 1000000 in
theorem sd_call {w : World} {A : Around} {env : Env} {L l : Addr} {h₀ : Heap} {d : Nat} {s : Shared} {m : Str → Option Value} {rest base : List (Addr × Obj)} {vs : List Value} {c : Nat} {ks : List Key} {st p : Nat} {t0 t1 : Tok} {Q : Value → Shared → Prop} {E : Value → Shared → Prop}
    (S : Site w A env L h₀ (d + 1)) (F : Fr h₀ L s.heap m) (N : News h₀ L s.heap ((l, listOf vs.toArray c) :: rest)) (hl : ∀ p ∈ rest, p.1 ≠ l) (hb : ∀ p ∈ base, p ∈ rest)
    (I : Its base vs ks) (hp : p < ks.length) (hfit : ks.length < 2 ^ 24)
    (h : ∀ h' tk vs', Fr h₀ L h' m → News h₀ L h' ((l, listOf vs'.toArray c) :: rest) → Its base vs' (siftdown ks st p) → Q .none { s with heap := h', toks := tk }) :
    wpAny (model prg w) A (PySem.call (.ref 42) [.ref l, .int st t0, .int p t1] []) Q E s := by
  refine S.call (name := Str.ofString "_siftdown") (qual := Str.ofString "_siftdown") (body := sdB) (scope := sdS) (cdv := .ref 41)
    (binds := [(Str.ofString "heap", .ref l), (Str.ofString "startpos", .int st t0), (Str.ofString "pos", .int p t1)]) F N (by with_unfolding_all rfl) (by with_unfolding_all rfl) (BindsTo.of_eq rfl) (locs rfl) ?_
  intro g L' h₁ tk S' F' N'
  refine sd_body (S'.less (Nat.zero_le _)) F' N' hl hb I hp hfit rfl rfl rfl ?_
  intro h' tk' m' vs' F2 N2 I2
  exact ⟨h', tk', m', _, rfl, F2, N2, fun a b => h h' tk' vs' a b I2⟩

end Mine
end

section
open PySem PySem.W PyProof.Rows PySem.Calls
set_option maxRecDepth 100000
namespace Mine
local macro_rules | `(tactic| walk_at "mine look") => `(tactic| first | with_reducible assumption | exact rfl | (refine (if_neg (by decide)).trans ?_; walk_at "mine look"))

section
variable {w : World} {A : Around} {E : Value → Shared → Prop} {s : Shared} {h₀ : Heap} {L l a : Addr} {m : Str → Option Value} {news rest : List (Addr × Obj)} {d : Nat} {cn : Str} {cs : Scope} {ccd : Value}
theorem if_t {c : Prop} [Decidable c] {P R : Prop} (hc : c) (h : P) : (if decide c = true then P else R) := by rw [decide_eq_true hc, if_pos rfl]; exact h
theorem if_f {c : Prop} [Decidable c] {P R : Prop} (hc : ¬ c) (h : R) : (if decide c = true then P else R) := by rw [decide_eq_false hc, if_neg (by simp)]; exact h
theorem if_bt {b : Bool} {P R : Prop} (hb : b = true) (h : P) : (if b = true then P else R) := by rw [if_pos hb]; exact h
theorem if_bf {b : Bool} {P R : Prop} (hb : b = false) (h : R) : (if b = true then P else R) := by rw [if_neg (by simp [hb])]; exact h
/-- len of a list that the frame names -/
theorem Site.len {x : Str} {p1 p2 p3 : Pos} {vs : List Value} {c : Nat} {Q : Value → Shared → Prop} (S : Site w A (envOf cn cs L a ccd) L h₀ d) (F : Fr h₀ L s.heap m) (N : News h₀ L s.heap ((l, listOf vs.toArray c) :: rest))
    (hx : m x = some (.ref l)) (hfit : vs.length < 2 ^ 24) (h : ∀ te tk, Q (.int (vs.length : Int) te) { s with toks := tk })
    (hk : cs.kind = .function := by rfl) (hn : (envOf cn cs L a ccd).kindOf (Str.ofString "len") = some .globalImplicit := by rfl) (hl : (envOf cn cs L a ccd).kindOf x = some .local := by rfl) (hd : (x == ("__debug__" : Str)) = false := by decide)
    (he : starEach [Expr.Name x p2] (envOf cn cs L a ccd) = (false, eval (Expr.Name x p2) (envOf cn cs L a ccd)) :: starEach [] (envOf cn cs L a ccd) := by rfl) :
    wpAny (model prg w) A (eval (.Call (.Name (Str.ofString "len") p1) [.Name x p2] [] p3) (envOf cn cs L a ccd)) Q E s := by
  obtain ⟨loose, mean, mg, mb, T⟩ := S.top
  refine Call_ (name_B F S.kin (topRead_of T) (by with_unfolding_all rfl) boot_len (by decide) (PyProof.Rows.callWith_method1 (spliced_more (ld F hx (spliced_none ?_) hk hl hd) he) he) hk hn)
  exact len_list ⟨_, (N _ (.head _)).1, rfl, c, rfl⟩ (by rw [List.size_toArray]; omega) (by rw [List.size_toArray]; exact h _ _)
end

abbrev suEnv (L : Addr) : Env := envOf (Str.ofString "_siftup") suS L 49 (.ref 48)

set_option maxHeartbeats 400000 in
theorem su_body {w : World} {A : Around} {L l : Addr} {g : Heap} {s : Shared} {m : Str → Option Value} {rest base : List (Addr × Obj)} {vs : List Value} {c : Nat} {ks : List Key} {p : Nat} {t1 : Tok} {Q : Flow → Shared → Prop}
    (S : Site w A (suEnv L) L g 1) (F : Fr g L s.heap m) (N : News g L s.heap ((l, listOf vs.toArray c) :: rest)) (hl : ∀ p ∈ rest, p.1 ≠ l) (hb : ∀ p ∈ base, p ∈ rest)
    (I : Its base vs ks) (hp : p < ks.length) (hfit : ks.length < 2 ^ 24)
    (m1 : m (Str.ofString "heap") = some (.ref l)) (m3 : m (Str.ofString "pos") = some (.int p t1))
    (h : ∀ h' tk m' vs', Fr g L h' m' → News g L h' ((l, listOf vs'.toArray c) :: rest) → Its base vs' (siftup ks p) → Q .next { s with heap := h', toks := tk }) :
    wpAny (model prg w) A (execs suB (suEnv L)) Q (fun _ _ => False) s := by
  obtain ⟨loose, mean, mg, mb, T⟩ := S.top
  obtain ⟨nv, hnv, dnv⟩ := I.get hp
  have hlen := I.length
  refine wpAny_execs_cons (wpAny_Assign_Name (S.len F N m1 (by omega) fun te tke => stN F N fun h₁ F₁ N₁ => ?_) (by with_unfolding_all rfl))
  refine wpAny_execs_cons (wpAny_Assign_Name (ld F₁ (by walk_at "mine look") (stN F₁ N₁ fun h₂ F₂ N₂ => ?_)) (by with_unfolding_all rfl))
  refine wpAny_execs_cons (wpAny_Assign_Name (Subscript_ (ld F₂ (by walk_at "mine look") (ld F₂ (by walk_at "mine look") (kim_list N₂ (.head _) rfl rfl (by omega) (by omega) (by simpa using hnv) (stN F₂ N₂ fun h₃ F₃ N₃ => ?_))))) (by with_unfolding_all rfl))
  refine wpAny_execs_cons (wpAny_Assign_Name (wpAny_BinOp (wpAny_BinOp (wpAny_Constant_int (ld F₃ (by walk_at "mine look") (mul_int (wpAny_Constant_int (add_int (stN F₃ N₃ fun h₄ F₄ N₄ => ?_)))))))) (by with_unfolding_all rfl))
  generalize hnew : ks.getD p [] = new at dnv
  let J : Nat → (Str → Option Value) → List (Addr × Obj) → Prop := fun n m₁ nx => ∃ (q : Nat) (vs₁ : List Value) (ks₁ : List Key) (t t' : Tok), n = ks.length - q ∧ nx = (l, listOf vs₁.toArray c) :: rest ∧ Its base vs₁ ks₁ ∧ ks₁.length = ks.length ∧ q < ks.length ∧
    m₁ (Str.ofString "heap") = some (.ref l) ∧ m₁ (Str.ofString "startpos") = some (.int p t1) ∧ m₁ (Str.ofString "newitem") = some nv ∧ m₁ (Str.ofString "endpos") = some (.int vs.length te) ∧ m₁ (Str.ofString "pos") = some (.int q t) ∧ m₁ (Str.ofString "childpos") = some (.int (2 * q + 1) t') ∧ suLoop ks.length ks₁ q = suLoop ks.length ks p
  refine wpAny_execs_cons (While_inv2 J F₄ N₄ (n₀ := ks.length - p) ⟨p, vs, ks, t1, _, rfl, rfl, I, rfl, hp, by walk_at "mine look", by walk_at "mine look", by walk_at "mine look", by walk_at "mine look", by walk_at "mine look", by walk_at "mine look", rfl⟩ ?_ PassesOwn.never)
  clear F₁ F₂ F₃ F₄ N₁ N₂ N₃ N₄
  rintro n m₁ nx h₁ tk₁ F₁ N₁ ⟨q, vs₁, ks₁, t, t', rfl, rfl, I₁, hk₁, hq, a1, a2, a3, a4, a5, a6, hR⟩
  have hlen₁ := I₁.length
  rw [suLoop] at hR
  refine wpAny_isTrue_Compare1 (ld F₁ a6 (ld F₁ a4 (lt_int (wpAny_truthy_bool ?_))))
  by_cases hlt : 2 * q + 1 < ks.length
  · have hlt' : (2 * (q : Int) + 1 < (vs.length : Int)) := by omega
    refine if_t hlt' ?_
    rw [if_pos hlt] at hR
    obtain ⟨cv, hcv, dcv⟩ := I₁.get (i := 2 * q + 1) (by omega)
    have hpick := suPick_lt ks₁ hlt
    obtain ⟨pv, hpv, dpv⟩ := I₁.get (i := suPick ks.length ks₁ (2 * q + 1)) (by omega)
    have hple := suPick_le ks.length ks₁ (2 * q + 1)
    have hget : ∃ rv, 2 * q + 1 + 1 < ks.length → vs₁[2 * q + 1 + 1]? = some rv ∧ DatIn base rv (tupD (ks₁.getD (2 * q + 1 + 1) [])) := by
      by_cases h : 2 * q + 1 + 1 < ks.length
      · obtain ⟨v, h1, h2⟩ := I₁.get (i := 2 * q + 1 + 1) (by omega)
        exact ⟨v, fun _ => ⟨h1, h2⟩⟩
      · exact ⟨.none, fun h' => absurd h' h⟩
    obtain ⟨rv, hget⟩ := hget
    refine wpAny_execs_cons (wpAny_Assign_Name (wpAny_BinOp (ld F₁ a6 (wpAny_Constant_int (add_int (stN F₁ N₁ fun h₂ F₂ N₂ => ?_))))) (by with_unfolding_all rfl))
    refine wpAny_execs_cons (wpAny_mono (Q := fun fl s' => fl = .next ∧ ∃ h' tk' m' t'', s' = { s with heap := h', toks := tk' } ∧ Fr g L h' m' ∧ News g L h' ((l, listOf vs₁.toArray c) :: rest) ∧
        m' (Str.ofString "heap") = some (.ref l) ∧ m' (Str.ofString "startpos") = some (.int p t1) ∧ m' (Str.ofString "newitem") = some nv ∧ m' (Str.ofString "endpos") = some (.int vs.length te) ∧ m' (Str.ofString "pos") = some (.int q t) ∧ ∃ x : Int, x = (suPick ks.length ks₁ (2 * q + 1) : Nat) ∧ m' (Str.ofString "childpos") = some (.int x t'')) ?_ ?_ (fun _ _ x => x))
    · refine wpAny_If (isTrue_and (wpAny_isTrue_Compare1 (ld F₂ (by walk_at "mine look") (ld F₂ (by walk_at "mine look") (lt_int (wpAny_truthy_bool ?_))))))
      by_cases hr : 2 * q + 1 + 1 < ks.length
      · have hr' : (2 * (q : Int) + 1 + 1 < (vs.length : Int)) := by omega
        refine if_t hr' ?_
        have hrv := (hget hr).1
        have drv := (hget hr).2
        refine isTrue_and (isTrue_not (wpAny_isTrue_Compare1 (Subscript_ (ld F₂ (by walk_at "mine look") (ld F₂ (by walk_at "mine look") (kim_list N₂ (.head _) rfl rfl (by omega) (by omega) (by rw [show (2 * (q : Int) + 1).toNat = 2 * q + 1 by omega]; exact hcv) (Subscript_ (ld F₂ (by walk_at "mine look") (ld F₂ (by walk_at "mine look") (kim_list N₂ (.head _) rfl rfl (by omega) (by omega) (by rw [show (2 * (q : Int) + 1 + 1).toNat = 2 * q + 1 + 1 by omega]; exact hrv)
          (lt_items S.room0 N₂ (dcv.mono fun _ h => .tail _ (hb _ h)) (drv.mono fun _ h => .tail _ (hb _ h)) (wpAny_truthy_bool ?_))))))))))))
        by_cases hb : klt (ks₁.getD (2 * q + 1) []) (ks₁.getD (2 * q + 1 + 1) []) = true
        · refine if_bf (by rw [hb]; rfl) (if_bf rfl ?_)
          have e : suPick ks.length ks₁ (2 * q + 1) = 2 * q + 1 := by unfold suPick; rw [hb]; simp
          exact wpAny_execs_nil ⟨rfl, h₂, _, _, t', rfl, F₂, N₂, by walk_at "mine look", by walk_at "mine look", by walk_at "mine look", by walk_at "mine look", by walk_at "mine look", 2 * (q : Int) + 1, by omega, by walk_at "mine look"⟩
        · rw [Bool.not_eq_true] at hb
          refine if_bt (by rw [hb]; rfl) ?_
          have e : suPick ks.length ks₁ (2 * q + 1) = 2 * q + 1 + 1 := by unfold suPick; rw [hb]; simp; omega
          refine isTrue_and_nil (if_bt rfl (wpAny_execs_cons (wpAny_Assign_Name (ld F₂ (by walk_at "mine look") (stN F₂ N₂ fun h₃ F₃ N₃ => ?_)) (by with_unfolding_all rfl))))
          exact wpAny_execs_nil ⟨rfl, h₃, _, _, _, rfl, F₃, N₃, by walk_at "mine look", by walk_at "mine look", by walk_at "mine look", by walk_at "mine look", by walk_at "mine look", 2 * (q : Int) + 1 + 1, by omega, by walk_at "mine look"⟩
      · have hr' : ¬ (2 * (q : Int) + 1 + 1 < (vs.length : Int)) := by omega
        refine if_f hr' (if_bf rfl ?_)
        have e : suPick ks.length ks₁ (2 * q + 1) = 2 * q + 1 := by unfold suPick; rw [if_neg (fun h => hr h.1)]
        exact wpAny_execs_nil ⟨rfl, h₂, _, _, t', rfl, F₂, N₂, by walk_at "mine look", by walk_at "mine look", by walk_at "mine look", by walk_at "mine look", by walk_at "mine look", 2 * (q : Int) + 1, by omega, by walk_at "mine look"⟩
    · clear F₂ N₂
      rintro _ _ ⟨rfl, h₂, tk₂, m₂, t₂, rfl, F₂, N₂, b1, b2, b3, b4, b5, _, rfl, b6⟩
      refine wpAny_execs_cons (wpAny_Assign_Subscript (Subscript_ (ld F₂ b1 (ld F₂ b6 (kim_list N₂ (.head _) rfl rfl (by omega) (by omega) (by rw [Int.toNat_natCast]; exact hpv) (ld F₂ b1 (ld F₂ b5 (set_at F₂ N₂ hl (by omega) (by omega) (by omega) fun h₃ F₃ N₃ => ?_))))))) (by with_unfolding_all rfl))
      refine wpAny_execs_cons (wpAny_Assign_Name (ld F₃ b6 (stN F₃ N₃ fun h₄ F₄ N₄ => ?_)) (by with_unfolding_all rfl))
      refine wpAny_execs_cons (wpAny_Assign_Name (wpAny_BinOp (wpAny_BinOp (wpAny_Constant_int (ld F₄ (by walk_at "mine look") (mul_int (wpAny_Constant_int (add_int (stN F₄ N₄ fun h₅ F₅ N₅ => ?_)))))))) (by with_unfolding_all rfl))
      refine wpAny_execs_nil ⟨h₅, _, _, _, ks.length - suPick ks.length ks₁ (2 * q + 1), rfl, F₅, N₅, by omega, ?_⟩
      refine ⟨suPick ks.length ks₁ (2 * q + 1), _, ks₁.set q (ks₁.getD (suPick ks.length ks₁ (2 * q + 1)) []), _, _, rfl, rfl, ?_, by simpa using hk₁, hpick, by walk_at "mine look", by walk_at "mine look", by walk_at "mine look", by walk_at "mine look", by walk_at "mine look", by walk_at "mine look", hR⟩
      simpa using I₁.set dpv q
  · have hlt' : ¬ (2 * (q : Int) + 1 < (vs.length : Int)) := by omega
    refine if_f hlt' ?_
    rw [if_neg hlt] at hR
    refine wpAny_execs_cons (wpAny_Assign_Subscript (ld F₁ a3 (ld F₁ a1 (ld F₁ a5 (set_at F₁ N₁ hl (by omega) (by omega) (by omega) fun h₂ F₂ N₂ => ?_)))) (by with_unfolding_all rfl))
    have I₂ : Its base (vs₁.set q nv) (ks₁.set q new) := I₁.set dnv q
    refine wpAny_execs_cons (wpAny_Expr (Call_ (name_K F₂ S.kin (topRead_of T) (by with_unfolding_all rfl) (callWith_K S.kin (by with_unfolding_all rfl) (spliced_more (ld F₂ a1 (spliced_more (ld F₂ a2 (spliced_more (ld F₂ a5 (spliced_none ⟨S.kin.keeps F₂.keep, ?_⟩)))))))))))
    refine sd_call (d := 0) S F₂ N₂ hl hb (by simpa using I₂) (by simpa using (by omega : q < ks₁.length)) (by simpa using (by omega : ks₁.length < 2 ^ 24)) fun h' tk vs' F₃ N₃ I₃ => ?_
    refine wpAny_execs_nil (h h' tk _ vs' F₃ N₃ ?_)
    have e : siftup ks p = siftdown (ks₁.set q new) p q := by unfold siftup; rw [← hR, hnew]
    rw [e]; exact I₃

theorem su_call {w : World} {A : Around} {env : Env} {L l : Addr} {h₀ : Heap} {d : Nat} {s : Shared} {m : Str → Option Value} {rest base : List (Addr × Obj)} {vs : List Value} {c : Nat} {ks : List Key} {p : Nat} {t1 : Tok} {Q : Value → Shared → Prop} {E : Value → Shared → Prop}
    (S : Site w A env L h₀ (d + 2)) (F : Fr h₀ L s.heap m) (N : News h₀ L s.heap ((l, listOf vs.toArray c) :: rest)) (hl : ∀ p ∈ rest, p.1 ≠ l) (hb : ∀ p ∈ base, p ∈ rest)
    (I : Its base vs ks) (hp : p < ks.length) (hfit : ks.length < 2 ^ 24)
    (h : ∀ h' tk vs', Fr h₀ L h' m → News h₀ L h' ((l, listOf vs'.toArray c) :: rest) → Its base vs' (siftup ks p) → Q .none { s with heap := h', toks := tk }) :
    wpAny (model prg w) A (PySem.call (.ref 49) [.ref l, .int p t1] []) Q E s := by
  refine S.call (name := Str.ofString "_siftup") (qual := Str.ofString "_siftup") (body := suB) (scope := suS) (cdv := .ref 48)
    (binds := [(Str.ofString "heap", .ref l), (Str.ofString "pos", .int p t1)]) F N (by with_unfolding_all rfl) (by with_unfolding_all rfl) (BindsTo.of_eq rfl) (locs rfl) ?_
  intro g L' h₁ tk S' F' N'
  refine su_body (S'.less (Nat.le_add_left 1 d)) F' N' hl hb I hp hfit rfl rfl ?_
  intro h' tk' m' vs' F2 N2 I2
  exact ⟨h', tk', m', _, rfl, F2, N2, fun a b => h h' tk' vs' a b I2⟩
end Mine
end

section
open PySem PySem.W PyProof.Rows PySem.Calls
set_option maxRecDepth 100000
namespace Mine
local macro_rules | `(tactic| walk_at "mine look") => `(tactic| first | with_reducible assumption | exact rfl | (refine (if_neg (by decide)).trans ?_; walk_at "mine look"))

def hpush (ks : List Key) (k : Key) : List Key := siftdown (ks ++ [k]) 0 ks.length
/-- what heappop leaves of a non-empty list -/
def hpop (ks : List Key) : List Key := if ks.dropLast = [] then [] else siftup (ks.dropLast.set 0 (ks.getLastD [])) 0
theorem Its.append {news : List (Addr × Obj)} {v : Value} {k : Key} (hv : DatIn news v (tupD k)) : ∀ {vs : List Value} {ks : List Key}, Its news vs ks → Its news (vs ++ [v]) (ks ++ [k])
  | _, [], h => by cases h; exact .cons hv .nil
  | _, _ :: _, h => by
    cases h with
    | cons h r => exact .cons h (Its.append hv r)
theorem Its.dropLast {news : List (Addr × Obj)} : ∀ {vs : List Value} {ks : List Key}, Its news vs ks → Its news vs.dropLast ks.dropLast
  | _, [], h => by cases h; exact .nil
  | _, [_], h => by
    cases h with
    | cons h r => cases r; exact .nil
  | _, _ :: b :: r, h => by
    cases h with
    | cons h r =>
      cases r with
      | cons h2 r2 => exact .cons h (Its.dropLast (ks := b :: _) (.cons h2 r2))

theorem sd_call' {w : World} {A : Around} {env : Env} {L l : Addr} {h₀ : Heap} {d : Nat} {s : Shared} {m : Str → Option Value} {rest base : List (Addr × Obj)} {vs : List Value} {c : Nat} {ks : List Key} {st p : Nat} {pi : Int} {t0 t1 : Tok} {Q : Value → Shared → Prop} {E : Value → Shared → Prop}
    (e : pi = (p : Nat)) (S : Site w A env L h₀ (d + 1)) (F : Fr h₀ L s.heap m) (N : News h₀ L s.heap ((l, listOf vs.toArray c) :: rest)) (hl : ∀ p ∈ rest, p.1 ≠ l) (hb : ∀ p ∈ base, p ∈ rest)
    (I : Its base vs ks) (hp : p < ks.length) (hfit : ks.length < 2 ^ 24)
    (h : ∀ h' tk vs', Fr h₀ L h' m → News h₀ L h' ((l, listOf vs'.toArray c) :: rest) → Its base vs' (siftdown ks st p) → Q .none { s with heap := h', toks := tk }) :
    wpAny (model prg w) A (PySem.call (.ref 42) [.ref l, .int st t0, .int pi t1] []) Q E s := by
  subst e; exact sd_call S F N hl hb I hp hfit h
theorem last_eq : ∀ (vs : List Value) (h : vs ≠ []), kl_last vs = some (vs.dropLast, vs.getLast h)
  | [], h => absurd rfl h
  | [x], _ => rfl
  | x :: y :: r, _ => by
    rw [kl_last, last_eq (y :: r) (by simp)]; rfl

abbrev pushEnv (L : Addr) : Env := envOf (Str.ofString "heappush") pushS L 21 (.ref 20)
abbrev popEnv (L : Addr) : Env := envOf (Str.ofString "heappop") popS L 28 (.ref 27)

set_option maxHeartbeats 400000 in
theorem push_body {w : World} {A : Around} {L l : Addr} {g : Heap} {s : Shared} {m : Str → Option Value} {rest base : List (Addr × Obj)} {vs : List Value} {c : Nat} {ks : List Key} {k : Key} {v : Value} {Q : Flow → Shared → Prop}
    (S : Site w A (pushEnv L) L g 1) (F : Fr g L s.heap m) (N : News g L s.heap ((l, listOf vs.toArray c) :: rest)) (hl : ∀ p ∈ rest, p.1 ≠ l) (hb : ∀ p ∈ base, p ∈ rest)
    (I : Its base vs ks) (hv : DatIn base v (tupD k)) (hfit : ks.length < 1000)
    (m1 : m (Str.ofString "heap") = some (.ref l)) (m3 : m (Str.ofString "item") = some v)
    (h : ∀ h' tk m' vs', Fr g L h' m' → News g L h' ((l, listOf vs'.toArray (c + 1)) :: rest) → Its base vs' (hpush ks k) → Q .next { s with heap := h', toks := tk }) :
    wpAny (model prg w) A (execs pushB (pushEnv L)) Q (fun _ _ => False) s := by
  obtain ⟨loose, mean, mg, mb, T⟩ := S.top
  have hlen := I.length
  have I₂ := I.append hv
  refine wpAny_execs_cons (wpAny_Expr (MethodCall_ (ld F m1 (kl_method N (.head _) PySem.F.slot_list_append PySem.F.type_list_append (PyProof.Rows.callWith_method1 (spliced_more (ld F m3 (spliced_none ?_))))))))
  refine append_K F N (.head hl) (fun h₁ F₁ N₁ => ?_) (by rw [List.size_toArray]; unfold sizeLine; omega)
  rw [List.push_toArray] at N₁
  refine wpAny_execs_cons (wpAny_Expr (Call_ (name_K F₁ S.kin (topRead_of T) (by with_unfolding_all rfl) (callWith_K S.kin (by with_unfolding_all rfl) (spliced_more (ld F₁ m1 (spliced_more (wpAny_Constant_int (spliced_more (wpAny_BinOp (S.len F₁ N₁ m1 (by simp; omega) fun te tke => wpAny_Constant_int (sub_int (spliced_none ⟨S.kin.keeps F₁.keep, ?_⟩)))))))))))))
  have e : ((vs ++ [v]).length : Int) - 1 = (ks.length : Nat) := by simp; omega
  refine sd_call' (d := 0) (st := 0) e S F₁ N₁ hl hb I₂ (by simp) (by simp; omega) fun h' tk vs' F₃ N₃ I₃ => ?_
  exact wpAny_execs_nil (h h' tk _ vs' F₃ N₃ I₃)

theorem push_call {w : World} {A : Around} {env : Env} {L l : Addr} {h₀ : Heap} {d : Nat} {s : Shared} {m : Str → Option Value} {rest base : List (Addr × Obj)} {vs : List Value} {c : Nat} {ks : List Key} {k : Key} {v : Value} {Q : Value → Shared → Prop} {E : Value → Shared → Prop}
    (S : Site w A env L h₀ (d + 2)) (F : Fr h₀ L s.heap m) (N : News h₀ L s.heap ((l, listOf vs.toArray c) :: rest)) (hl : ∀ p ∈ rest, p.1 ≠ l) (hb : ∀ p ∈ base, p ∈ rest)
    (I : Its base vs ks) (hv : DatIn base v (tupD k)) (hfit : ks.length < 1000)
    (h : ∀ h' tk vs', Fr h₀ L h' m → News h₀ L h' ((l, listOf vs'.toArray (c + 1)) :: rest) → Its base vs' (hpush ks k) → Q .none { s with heap := h', toks := tk }) :
    wpAny (model prg w) A (PySem.call (.ref 21) [.ref l, v] []) Q E s := by
  refine S.call (name := Str.ofString "heappush") (qual := Str.ofString "heappush") (body := pushB) (scope := pushS) (cdv := .ref 20)
    (binds := [(Str.ofString "heap", .ref l), (Str.ofString "item", v)]) F N (by with_unfolding_all rfl) (by with_unfolding_all rfl) (BindsTo.of_eq rfl) (locs rfl) ?_
  intro g L' h₁ tk S' F' N'
  refine push_body (S'.less (Nat.le_add_left 1 d)) F' N' hl hb I hv hfit rfl rfl ?_
  intro h' tk' m' vs' F2 N2 I2
  exact ⟨h', tk', m', _, rfl, F2, N2, fun a b => h h' tk' vs' a b I2⟩

set_option maxHeartbeats 400000 in
theorem pop_body {w : World} {A : Around} {L l : Addr} {g : Heap} {s : Shared} {m : Str → Option Value} {rest base : List (Addr × Obj)} {vs : List Value} {c : Nat} {ks : List Key} {v : Value} {Q : Flow → Shared → Prop}
    (S : Site w A (popEnv L) L g 2) (F : Fr g L s.heap m) (N : News g L s.heap ((l, listOf vs.toArray c) :: rest)) (hl : ∀ p ∈ rest, p.1 ≠ l) (hb : ∀ p ∈ base, p ∈ rest)
    (I : Its base vs ks) (hv : vs[0]? = some v) (hfit : ks.length < 1000)
    (m1 : m (Str.ofString "heap") = some (.ref l))
    (h : ∀ h' tk m' vs', Fr g L h' m' → News g L h' ((l, listOf vs'.toArray (c + 1)) :: rest) → Its base vs' (hpop ks) → Q (.ret v) { s with heap := h', toks := tk }) :
    wpAny (model prg w) A (execs popB (popEnv L)) Q (fun _ _ => False) s := by
  obtain ⟨loose, mean, mg, mb, T⟩ := S.top
  have hlen := I.length
  have hne : vs ≠ [] := by rintro rfl; cases hv
  have hpos : 0 < ks.length := by
    have := List.length_pos_iff.mpr hne; omega
  obtain ⟨y, hy, dy⟩ := I.get (i := ks.length - 1) (by omega)
  have ey : vs.getLast hne = y := by
    rw [List.getLast_eq_getElem]
    have : vs.length - 1 < vs.length := by omega
    rw [← hlen, List.getElem?_eq_getElem this] at hy
    exact Option.some.inj hy
  have ek : ks.getD (ks.length - 1) [] = ks.getLastD [] := by
    cases ks with
    | nil => rfl
    | cons a r => simp [List.getLastD_eq_getLast?, List.getLast?_eq_getElem?]
  rw [ek] at dy
  have hlast : kl_last vs.toArray.toList = some (vs.dropLast, y) := by
    rw [← ey]; exact last_eq vs hne
  have I₂ := I.dropLast
  have I₃ : Its base (vs.dropLast.set 0 y) (ks.dropLast.set 0 (ks.getLastD [])) := I₂.set dy 0
  have hl₂ := I₂.length
  have hl₃ : ks.dropLast.length = ks.length - 1 := by simp
  refine wpAny_execs_cons (wpAny_Assign_Name (MethodCall_ (ld F m1 (kl_method N (.head _) PySem.F.slot_list_pop PySem.F.type_list_pop (PyProof.Rows.callWith_method0 (kl_pop F N hlast (.head hl) (by unfold sizeLine; simp; omega) fun h₁ F₁ N₁ => stN F₁ N₁ fun h₂ F₂ N₂ => ?_))))) (by with_unfolding_all rfl))
  refine wpAny_execs_cons (wpAny_If (isTrue_plain (ld F₂ (by walk_at "mine look") (kgr_truthy N₂ (.head _) rfl rfl (by simp; omega) ?_))))
  by_cases hd : ks.dropLast = []
  · have hv0 : vs.dropLast = [] := by rw [hd] at hl₂; exact List.length_eq_zero_iff.mp hl₂
    refine if_bf (by rw [hv0]; rfl) ?_
    have eyv : y = v := by
      have : vs.length = 1 := by
        have := congrArg List.length hv0; simp at this; omega
      have h1 := hy
      rw [show ks.length - 1 = 0 by omega, hv] at h1
      exact (Option.some.inj h1).symm
    refine wpAny_execs_nil (wpAny_execs_cons (wpAny_Return_some (ld F₂ (by walk_at "mine look") ?_)))
    rw [eyv]
    refine h h₂ _ _ _ F₂ N₂ ?_
    have e : hpop ks = [] := by unfold hpop; rw [if_pos hd]
    rw [e, hv0]; exact .nil
  · have hv0 : vs.dropLast ≠ [] := by
      intro e; rw [e] at hl₂; exact hd (List.length_eq_zero_iff.mp hl₂.symm)
    have hv1 : vs.dropLast[0]? = some v := by
      match vs, hv0, hv with
      | a :: b :: r, _, hv => simpa using hv
    have hv2 := List.length_pos_iff.mpr hv0
    refine if_bt (by cases hx : vs.dropLast with | nil => exact absurd hx hv0 | cons _ _ => rfl) ?_
    refine wpAny_execs_cons (wpAny_Assign_Name (Subscript_ (ld F₂ (by walk_at "mine look") (wpAny_Constant_int (kim_list N₂ (.head _) rfl rfl (by omega) (by omega) hv1 (stN F₂ N₂ fun h₃ F₃ N₃ => ?_))))) (by with_unfolding_all rfl))
    refine wpAny_execs_cons (wpAny_Assign_Subscript (ld F₃ (by walk_at "mine look") (ld F₃ (by walk_at "mine look") (wpAny_Constant_int (set_at F₃ N₃ hl (by omega) (by omega) (by omega) fun h₄ F₄ N₄ => ?_)))) (by with_unfolding_all rfl))
    refine wpAny_execs_cons (wpAny_Expr (Call_ (name_K F₄ S.kin (topRead_of T) (by with_unfolding_all rfl) (callWith_K S.kin (by with_unfolding_all rfl) (spliced_more (ld F₄ (by walk_at "mine look") (spliced_more (wpAny_Constant_int (spliced_none ⟨S.kin.keeps F₄.keep, ?_⟩)))))))))
    refine su_call (d := 0) (p := 0) S F₄ N₄ hl hb I₃ (by simp; omega) (by simp; omega) fun h' tk vs' F₅ N₅ I₅ => ?_
    refine wpAny_execs_cons (wpAny_Return_some (ld F₅ (by walk_at "mine look") ?_))
    refine h h' _ _ vs' F₅ N₅ ?_
    have e : hpop ks = siftup (ks.dropLast.set 0 (ks.getLastD [])) 0 := by unfold hpop; rw [if_neg hd]
    rw [e]; exact I₅

theorem pop_call {w : World} {A : Around} {env : Env} {L l : Addr} {h₀ : Heap} {d : Nat} {s : Shared} {m : Str → Option Value} {rest base : List (Addr × Obj)} {vs : List Value} {c : Nat} {ks : List Key} {v : Value} {Q : Value → Shared → Prop} {E : Value → Shared → Prop}
    (S : Site w A env L h₀ (d + 3)) (F : Fr h₀ L s.heap m) (N : News h₀ L s.heap ((l, listOf vs.toArray c) :: rest)) (hl : ∀ p ∈ rest, p.1 ≠ l) (hb : ∀ p ∈ base, p ∈ rest)
    (I : Its base vs ks) (hv : vs[0]? = some v) (hfit : ks.length < 1000)
    (h : ∀ h' tk vs', Fr h₀ L h' m → News h₀ L h' ((l, listOf vs'.toArray (c + 1)) :: rest) → Its base vs' (hpop ks) → Q v { s with heap := h', toks := tk }) :
    wpAny (model prg w) A (PySem.call (.ref 28) [.ref l] []) Q E s := by
  refine S.call (name := Str.ofString "heappop") (qual := Str.ofString "heappop") (body := popB) (scope := popS) (cdv := .ref 27)
    (binds := [(Str.ofString "heap", .ref l)]) F N (by with_unfolding_all rfl) (by with_unfolding_all rfl) (BindsTo.of_eq rfl) (locs rfl) ?_
  intro g L' h₁ tk S' F' N'
  refine pop_body (S'.less (Nat.le_add_left 2 d)) F' N' hl hb I hv hfit rfl ?_
  intro h' tk' m' vs' F2 N2 I2
  exact ⟨h', tk', m', _, rfl, F2, N2, fun a b => h h' tk' vs' a b I2⟩
end Mine
end

section
open PySem PySem.W PyProof.Rows PySem.Calls
set_option maxRecDepth 100000
namespace Mine
section
variable {prog : Program} {w : World} {A : Around} {E : Value → Shared → Prop} {s : Shared}
theorem sub_rit_reversed : isSubtype (.type "range_iterator") (.type "reversed") = pure false := by rw [isSubtype_type]; kernel_rfl
def ritObj (x left step : Int) : Obj := { cls := .type "range_iterator", data := .fields #[rawInt x, rawInt left, rawInt step] }
theorem rsize (n : Nat) : Builtin.Range.rangeSize 0 (n : Int) 1 = (n : Int) := by
  unfold Builtin.Range.rangeSize
  rw [if_pos (by decide)]
  split
  · rw [Int.ediv_one]; omega
  · omega
theorem call_range_rev {r : Addr} {n : Nat} {t u v : Tok} {Q : Value → Shared → Prop} (hr : IsRange s.heap r 0 (n : Int) 1 t u v) (hn : n < 1000)
    (h : Q (.ref s.heap.objs.size) { s with heap := s.heap.push (ritObj ((n : Int) - 1) n (-1)) }) : wpAny (model prog w) A (call (.builtin "range.__reversed__") [.ref r]) Q E s := by
  have hT : s.TypeIs (.ref r) "range" := ⟨_, hr, rfl⟩
  refine wpAny_call_entry PySem.F.slot_range_reversed hT PySem.F.entry_range_reversed ?_ (PySem.F.args_range_reversed_1 _)
  unfold Builtin.«range.__reversed__»
  refine wpAny_bind (wpAny_of_eq (a := Value.ref r) rfl ?_)
  have hs : (Builtin.Range.rangeFitsLong 0 && Builtin.Range.rangeFitsLong (n : Int) && Builtin.Range.rangeFitsLong 1 && Builtin.Range.rangeFitsLong (-1) && Builtin.Range.rangeFitsLong (0 - 1) && Builtin.Range.rangeFitsLong (n : Int)) = true := by
    unfold Builtin.Range.rangeFitsLong
    simp only [Bool.and_eq_true, decide_eq_true_eq]
    omega
  have e : ritObj ((n : Int) - 1) n (-1) = ritObj (0 + ((n : Int) - 1) * 1) n (-1) := by
    rw [Int.mul_one, Int.zero_add]
  refine wpAny_bind (wpAny_mono (Q := fun x s₁ => x = (0, (n : Int), 1) ∧ s₁ = s) ?_ ?_ (fun _ _ x => x))
  · unfold Builtin.Range.rangeFields
    refine wpAny_bind (wpAny_field hr rfl rfl (wpAny_bind (wpAny_of_eq (a := some 0) rfl ?_)))
    refine wpAny_bind (wpAny_field hr rfl rfl (wpAny_bind (wpAny_of_eq (a := some (n : Int)) rfl ?_)))
    refine wpAny_bind (wpAny_field hr rfl rfl (wpAny_bind (wpAny_of_eq (a := some 1) rfl ?_)))
    exact wpAny_pure ⟨rfl, rfl⟩
  · rintro _ _ ⟨rfl, rfl⟩
    dsimp only
    rw [rsize, hs]
    simp only [Bool.not_true, Bool.false_eq_true, if_false, if_true]
    rw [e] at h
    exact wpAny_bind (wpAny_newObj_type (wpAny_pure ⟨_, rfl, h⟩))
theorem code_rev_range {r : Addr} {n : Nat} {t u v : Tok} {Q₁ : Value → Shared → Prop} (hr : IsRange s.heap r 0 (n : Int) 1 t u v) (hn : n < 1000)
    (h : Q₁ (.ref s.heap.objs.size) { s with heap := s.heap.push (ritObj ((n : Int) - 1) n (-1)) }) :
    codeAny (model prog w) A (.call (.builtin "reversed.__new__") ⟨[.type "reversed", .ref r], []⟩) (wants Q₁ E) s := by
  have hT : s.TypeIs (.ref r) "range" := ⟨_, hr, rfl⟩
  refine codeAny_of_tree ?_
  show wpAny _ A.in1 (do checkBuiltinCall "reversed.__new__" ⟨[.type "reversed", .ref r], []⟩; again (.builtin "reversed.__new__" ⟨[.type "reversed", .ref r], []⟩)) _ _ s
  refine wpAny_bind (wpAny_of_eq (PySem.F.newCall_reversed_1 _) (wpAny_pure ⟨plainId_quiet PySem.F.plain_reversed_new _, codeAny_builtin PySem.F.entry_reversed_new ?_⟩))
  rw [Around.under_plainId PySem.F.plain_reversed_new _]
  unfold Builtin.«reversed.__new__»
  refine wpAny_bind (wpAny_of_eq (newClass_reversed _) ?_)
  try dsimp only
  refine wpAny_bind (wpAny_of_eq (a := ()) (by first | rfl | kernel_rfl) ?_)
  refine wpAny_bind (wpAny_of_eq (a := ()) (by first | rfl | kernel_rfl) ?_)
  try dsimp only
  refine wpAny_bind (wpAny_specialOf hT PySem.F.slot_range_reversed.lookup ?_)
  try dsimp only
  refine wpAny_bind (wpAny_of_eq (PySem.F.slot_range_reversed.bind _) ?_)
  try dsimp only
  first
  | rw [if_neg (show ¬ ((Value.builtin "range.__reversed__" == Value.none) = true) from Bool.false_ne_true)]
  | (show wpAny _ _ (if (Value.builtin "range.__reversed__" == Value.none) = true then _ else _) _ _ _; rw [if_neg (show ¬ ((Value.builtin "range.__reversed__" == Value.none) = true) from Bool.false_ne_true)])
  refine wpAny_bind (wpAny_rule ?_)
  refine wpAny_bind (m := runValue (.call (.builtin "range.__reversed__") ⟨[.ref r], []⟩)) (show wpAny _ _ (call (.builtin "range.__reversed__") [.ref r]) _ _ _ from call_range_rev hr hn ?_)
  first
  | exact wpAny_pure h
  | exact wpAny_bind (wpAny_pure (wpAny_pure h))
theorem rev_range {r : Addr} {n : Nat} {t u v : Tok} {Q : Value → Shared → Prop} (hr : IsRange s.heap r 0 (n : Int) 1 t u v) (hn : n < 1000)
    (h : Q (.ref s.heap.objs.size) { s with heap := s.heap.push (ritObj ((n : Int) - 1) n (-1)) }) : wpAny (model prog w) A (call (.type "reversed") [.ref r]) Q E s := by
  refine callType_other (U := "range_iterator") (Q₁ := fun obj s₁ => obj = .ref s.heap.objs.size ∧ s₁ = { s with heap := s.heap.push (ritObj ((n : Int) - 1) n (-1)) }) (by decide +kernel) PySem.F.create_reversed ⟨_, _, PySem.F.mro_reversed⟩ PySem.F.made_reversed sub_rit_reversed (PySem.F.typeCall_reversed_1 _) (code_rev_range hr hn ⟨rfl, rfl⟩) ?_
  rintro obj s₁ ⟨rfl, rfl⟩
  exact ⟨⟨_, Heap.get?_push_size _ rfl, rfl⟩, h⟩
end

section
variable {prog : Program} {w : World} {A : Around} {E : Value → Shared → Prop} {s : Shared} {env : Env} {h₀ : Heap} {x : Str} {body : List Stmt} {Q : Flow → Shared → Prop}
theorem news_push {L : Addr} {h : Heap} {news : List (Addr × Obj)} (N : News h₀ L h news) (o : Obj) : News h₀ L (h.push o) news := fun p hp => ⟨Heap.get?_push_of_some _ (N p hp).1, (N p hp).2⟩
/-- a loop over the numbers of a range iterator just laid -/
theorem rit_loop {n : Nat} {a c : Int} {h₁ : Heap} {m₀ : Str → Option Value} {news : List (Addr × Obj)} (J : Nat → (Str → Option Value) → List (Addr × Obj) → Prop)
    (hh : A.handled = none) (es : s.heap = h₁.push (ritObj a n c)) (F : Fr h₀ env.locals h₁ m₀) (N : News h₀ env.locals h₁ news) (hj : J 0 m₀ news)
    (turn : ∀ i t m₁ nx h tk own, i < n → OwnOff own (nx.map (·.1)) → J i m₁ nx → Fr h₀ env.locals h (fun y => if y = x then some (.int (a + (i : Nat) * c) t) else m₁ y) → News h₀ env.locals h (nx ++ own) →
      wpAny (model prog w) A (execs body env) (InvPostG h₀ env.locals (J (i + 1)) own { s with heap := h, toks := tk } Q) E { s with heap := h, toks := tk })
    (done : ∀ m₁ nx h tk, J n m₁ nx → Fr h₀ env.locals h m₁ → News h₀ env.locals h nx → Q .next { s with heap := h, toks := tk }) :
    LoopAtV prog w A h₀ env x body Q E (.ref h₁.objs.size) s := by
  have W : Walks prog w A h₁.objs.size [h₁.objs.size] [h₁.objs.size] n (fun i v => i < n ∧ ∃ t, v = .int (a + i * c) t)
      (fun i h => IsRangeIter h h₁.objs.size (a + (i : Nat) * c) ((n : Int) - (i : Nat)) c) := (Walks.range hh _ a c n).bound
  refine kdr_loop J W (fun _ h => h) (fun _ h => h) ?_ ?_ ?_ ?_ ?_ (es ▸ F.push _) (es ▸ news_push N _) hj ?_ done
  · intro i h hi b hb
    rw [List.mem_singleton.mp hb]
    exact ⟨_, hi⟩
  · intro hm
    exact absurd F.ns.lt ((List.mem_singleton.mp hm) ▸ Nat.lt_irrefl _)
  · intro b hb
    rw [List.mem_singleton.mp hb]
    exact next_is_new F
  · intro p hp hI
    exact absurd (Heap.lt_size (N p hp).1) ((List.mem_singleton.mp hI) ▸ Nat.lt_irrefl _)
  · show IsRangeIter _ _ _ _ _
    have e1 : a + ((0 : Nat) : Int) * c = a := by simp
    have e2 : (n : Int) - ((0 : Nat) : Int) = n := by simp
    rw [es, e1, e2]; exact Heap.get?_push_size _ rfl
  · rintro i v m₁ nx h tk own hi ⟨_, t, rfl⟩ hoff hJ F₁ N₁
    exact turn i t m₁ nx h tk own hi hoff hJ F₁ N₁

theorem small_of {n : Nat} (hn : n < 1000) : Builtin.Range.small 0 (n : Int) 1 = true := by
  unfold Builtin.Range.small
  rw [rsize]
  unfold Builtin.Range.rangeFitsLong
  simp only [Bool.and_eq_true, decide_eq_true_eq]
  refine ⟨⟨⟨?_, ?_⟩, ?_⟩, ?_⟩ <;> (first | omega | decide | (constructor <;> omega) | skip)
  rw [if_pos (by decide)]
  simp only [Bool.or_eq_true, Bool.and_eq_true, decide_eq_true_eq]
  exact Or.inr ⟨by omega, by omega⟩
/-- for x in range(n) -/
theorem rng_loop {n : Nat} {t : Tok} {m₀ : Str → Option Value} {news : List (Addr × Obj)} (J : Nat → (Str → Option Value) → List (Addr × Obj) → Prop)
    (hh : A.handled = none) (hn : n < 1000) (F : Fr h₀ env.locals s.heap m₀) (N : News h₀ env.locals s.heap news) (hj : J 0 m₀ news)
    (turn : ∀ i t m₁ nx h tk own, i < n → OwnOff own (nx.map (·.1)) → J i m₁ nx → Fr h₀ env.locals h (fun y => if y = x then some (.int (i : Nat) t) else m₁ y) → News h₀ env.locals h (nx ++ own) →
      wpAny (model prog w) A (execs body env) (InvPostG h₀ env.locals (J (i + 1)) own { s with heap := h, toks := tk } Q) E { s with heap := h, toks := tk })
    (done : ∀ m₁ nx h tk, J n m₁ nx → Fr h₀ env.locals h m₁ → News h₀ env.locals h nx → Q .next { s with heap := h, toks := tk }) :
    wpAny (model prog w) A (call (.type "range") [.int n t]) (fun xv s₁ => wpAny (model prog w) A (pyIter xv) (fun it s₂ => LoopAtV prog w A h₀ env x body Q E it s₂) E s₁) E s := by
  refine call_range_1 (wpAny_pyIter_range (IsRange.new _ _ _ _ _ _ _) (small_of hn) ?_)
  refine rit_loop J hh (a := 0) (c := 1) (by rw [rsize]; rfl) (F.push _) (news_push N _) hj ?_ ?_
  · intro i t m₁ nx h tk own hi hoff hJ F₁ N₁
    have e1 : 0 + (i : Int) * 1 = (i : Int) := by omega
    rw [e1] at F₁
    exact turn i t m₁ nx h tk own hi hoff hJ F₁ N₁
  · exact fun m₁ nx h tk hJ F₁ N₁ => done m₁ nx h tk hJ F₁ N₁
/-- for x in reversed(range(n)) -/
theorem rev_loop {n : Nat} {r : Addr} {t u v : Tok} {m₀ : Str → Option Value} {news : List (Addr × Obj)} (J : Nat → (Str → Option Value) → List (Addr × Obj) → Prop)
    (hh : A.handled = none) (hn : n < 1000) (hr : IsRange s.heap r 0 (n : Int) 1 t u v) (F : Fr h₀ env.locals s.heap m₀) (N : News h₀ env.locals s.heap news) (hj : J 0 m₀ news)
    (turn : ∀ i t m₁ nx h tk own, i < n → OwnOff own (nx.map (·.1)) → J i m₁ nx → Fr h₀ env.locals h (fun y => if y = x then some (.int ((n - 1 - i : Nat) : Int) t) else m₁ y) → News h₀ env.locals h (nx ++ own) →
      wpAny (model prog w) A (execs body env) (InvPostG h₀ env.locals (J (i + 1)) own { s with heap := h, toks := tk } Q) E { s with heap := h, toks := tk })
    (done : ∀ m₁ nx h tk, J n m₁ nx → Fr h₀ env.locals h m₁ → News h₀ env.locals h nx → Q .next { s with heap := h, toks := tk }) :
    wpAny (model prog w) A (call (.type "reversed") [.ref r]) (fun xv s₁ => wpAny (model prog w) A (pyIter xv) (fun it s₂ => LoopAtV prog w A h₀ env x body Q E it s₂) E s₁) E s := by
  refine rev_range hr hn (wpAny_pyIter_rangeiter (Heap.get?_push_size _ rfl) ?_)
  refine rit_loop J hh (a := (n : Int) - 1) (c := -1) rfl F N hj ?_ ?_
  · intro i t m₁ nx h tk own hi hoff hJ F₁ N₁
    have e1 : (n : Int) - 1 + (i : Int) * -1 = ((n - 1 - i : Nat) : Int) := by omega
    rw [e1] at F₁
    exact turn i t m₁ nx h tk own hi hoff hJ F₁ N₁
  · exact fun m₁ nx h tk hJ F₁ N₁ => done m₁ nx h tk hJ F₁ N₁
end
end Mine
end

section
open PySem PySem.W PyProof.Rows PySem.Calls
set_option maxRecDepth 100000
namespace Mine
local macro_rules | `(tactic| walk_at "mine look") => `(tactic| first | with_reducible assumption | exact rfl | (refine (if_neg (by decide)).trans ?_; walk_at "mine look"))
def hfyR : Nat → List Key → List Key
  | 0, a => a
  | n + 1, a => hfyR n (siftup a n)
abbrev hfyEnv (L : Addr) : Env := envOf (Str.ofString "heapify") hfyS L 35 (.ref 34)
theorem boot_reversed : bootBuiltins "reversed" = some (.type "reversed") := by decide +kernel
theorem boot_range' : bootBuiltins "range" = some (.type "range") := by decide +kernel

theorem range_at {prog : Program} {w : World} {A : Around} {E : Value → Shared → Prop} {s : Shared} {z : Int} {n : Nat} {t : Tok} {Q : Value → Shared → Prop} (e : z = (n : Nat))
    (h : Q (.ref s.heap.objs.size) { s with heap := s.heap.push { cls := .type "range", data := .fields #[.int 0 s.toks, .int (n : Nat) t, .int 1 (s.toks + 1)] }, toks := s.toks + 1 + 1 }) :
    wpAny (model prog w) A (call (.type "range") [.int z t]) Q E s := by subst e; exact call_range_1 h

set_option maxHeartbeats 400000 in
theorem hfy_body {w : World} {A : Around} {L l : Addr} {g : Heap} {s : Shared} {m : Str → Option Value} {rest base : List (Addr × Obj)} {vs : List Value} {c : Nat} {ks : List Key} {Q : Flow → Shared → Prop}
    (S : Site w A (hfyEnv L) L g 2) (F : Fr g L s.heap m) (N : News g L s.heap ((l, listOf vs.toArray c) :: rest)) (hl : ∀ p ∈ rest, p.1 ≠ l) (hb : ∀ p ∈ base, p ∈ rest)
    (I : Its base vs ks) (hfit : ks.length < 1000)
    (m1 : m (Str.ofString "x") = some (.ref l))
    (h : ∀ h' tk m' vs', Fr g L h' m' → News g L h' ((l, listOf vs'.toArray c) :: rest) → Its base vs' (hfyR (ks.length / 2) ks) → Q .next { s with heap := h', toks := tk }) :
    wpAny (model prg w) A (execs hfyB (hfyEnv L)) Q (fun _ _ => False) s := by
  obtain ⟨loose, mean, mg, mb, T⟩ := S.top
  have hlen := I.length
  refine wpAny_execs_cons (wpAny_Assign_Name (S.len F N m1 (by omega) fun te tke => stN F N fun h₁ F₁ N₁ => ?_) (by with_unfolding_all rfl))
  have hd : ((vs.length : Int)).fdiv 2 = ((ks.length / 2 : Nat) : Int) := by
    rw [Int.fdiv_eq_ediv_of_nonneg _ (by omega)]; omega
  refine wpAny_execs_cons (For_invVF F₁ rfl rfl (Call_ (name_B F₁ S.kin (topRead_of T) (by with_unfolding_all rfl) boot_reversed (by decide) (Pv.callWith_type1 (spliced_more (Call_ (name_B F₁ S.kin (topRead_of T) (by with_unfolding_all rfl) boot_range' (by decide) (Pv.callWith_type1 (spliced_more (wpAny_BinOp (ld F₁ (by walk_at "mine look") (wpAny_Constant_int (floordiv_int (by decide) (spliced_none (range_at hd (spliced_none ?_))))))))))))))) (hE := PassesOwn.never))
  let J : Nat → (Str → Option Value) → List (Addr × Obj) → Prop := fun i m₁ nx => ∃ (vs₁ : List Value) (ks₁ : List Key), nx = (l, listOf vs₁.toArray c) :: rest ∧ Its base vs₁ ks₁ ∧ ks₁.length = ks.length ∧ hfyR (ks.length / 2 - i) ks₁ = hfyR (ks.length / 2) ks ∧ m₁ (Str.ofString "x") = some (.ref l)
  refine rev_loop J S.handled (by omega) (IsRange.new _ _ _ _ _ _ _) (F₁.push _) (news_push N₁ _) ⟨vs, ks, rfl, I, rfl, rfl, by walk_at "mine look"⟩ ?_ ?_
  · rintro i t m₁ nx h₂ tk own hi hoff ⟨vs₁, ks₁, rfl, I₁, hk₁, hR, a1⟩ F₂ N₂
    have hl' : ∀ p ∈ rest ++ own, p.1 ≠ l := by
      intro p hp
      rcases List.mem_append.mp hp with hp | hp
      · exact hl p hp
      · exact hoff p hp l (by simp)
    refine wpAny_execs_cons (wpAny_Expr (Call_ (name_K F₂ S.kin (topRead_of T) (by with_unfolding_all rfl) (callWith_K S.kin (by with_unfolding_all rfl) (spliced_more (ld F₂ (by walk_at "mine look") (spliced_more (ld F₂ (by walk_at "mine look") (spliced_none ⟨S.kin.keeps F₂.keep, ?_⟩)))))))))
    refine su_call (d := 0) S F₂ N₂ hl' (fun p hp => List.mem_append.mpr (.inl (hb p hp))) I₁ (by omega) (by omega) fun h' tk' vs' F₃ N₃ I₃ => wpAny_execs_nil ?_
    refine InvEndG.intro (s₁ := { s with heap := h₂, toks := tk }) (nx := (l, listOf vs'.toArray c) :: rest) F₃ N₃ ⟨vs', _, rfl, I₃, by rw [siftup_length]; exact hk₁, ?_, by walk_at "mine look"⟩ ?_ ?_ ?_
    · rw [← hR, show ks.length / 2 - i = (ks.length / 2 - (i + 1)) + 1 by omega, hfyR, show ks.length / 2 - (i + 1) = ks.length / 2 - 1 - i by omega]
    · exact hoff
    · intro p hp
      rcases List.mem_cons.mp hp with rfl | hp
      · exact .head _
      · exact .tail _ (List.mem_append.mpr (.inl hp))
    · exact fun p hp => .tail _ (List.mem_append.mpr (.inr hp))
  · rintro m₁ nx h₂ tk ⟨vs₁, ks₁, rfl, I₁, hk₁, hR, a1⟩ F₂ N₂
    rw [Nat.sub_self, hfyR] at hR
    exact wpAny_execs_nil (h h₂ tk m₁ vs₁ F₂ N₂ (hR ▸ I₁))

theorem hfy_call {w : World} {A : Around} {env : Env} {L l : Addr} {h₀ : Heap} {d : Nat} {s : Shared} {m : Str → Option Value} {rest base : List (Addr × Obj)} {vs : List Value} {c : Nat} {ks : List Key} {Q : Value → Shared → Prop} {E : Value → Shared → Prop}
    (S : Site w A env L h₀ (d + 3)) (F : Fr h₀ L s.heap m) (N : News h₀ L s.heap ((l, listOf vs.toArray c) :: rest)) (hl : ∀ p ∈ rest, p.1 ≠ l) (hb : ∀ p ∈ base, p ∈ rest)
    (I : Its base vs ks) (hfit : ks.length < 1000)
    (h : ∀ h' tk vs', Fr h₀ L h' m → News h₀ L h' ((l, listOf vs'.toArray c) :: rest) → Its base vs' (hfyR (ks.length / 2) ks) → Q .none { s with heap := h', toks := tk }) :
    wpAny (model prg w) A (PySem.call (.ref 35) [.ref l] []) Q E s := by
  refine S.call (name := Str.ofString "heapify") (qual := Str.ofString "heapify") (body := hfyB) (scope := hfyS) (cdv := .ref 34)
    (binds := [(Str.ofString "x", .ref l)]) F N (by with_unfolding_all rfl) (by with_unfolding_all rfl) (BindsTo.of_eq rfl) (locs rfl) ?_
  intro g L' h₁ tk S' F' N'
  refine hfy_body (S'.less (Nat.le_add_left 2 d)) F' N' hl hb I hfit rfl ?_
  intro h' tk' m' vs' F2 N2 I2
  exact ⟨h', tk', m', _, rfl, F2, N2, fun a b => h h' tk' vs' a b I2⟩
end Mine
end

section
namespace Mine
theorem hfy_spec : ∀ (k : Nat) (a : List Key), k ≤ a.length → HeapFrom k a → HeapFrom 0 (hfyR k a) ∧ (hfyR k a).Perm a
  | 0, a, _, h => ⟨h, List.Perm.refl _⟩
  | k + 1, a, hk, h => by
    obtain ⟨h1, h2⟩ := siftup_spec (a := a) (st := k) (by omega) h
    obtain ⟨h3, h4⟩ := hfy_spec k (siftup a k) (by rw [siftup_length]; omega) h1
    exact ⟨h3, h4.trans h2⟩
theorem heapify_spec (a : List Key) : HeapFrom 0 (hfyR (a.length / 2) a) ∧ (hfyR (a.length / 2) a).Perm a :=
  hfy_spec _ a (by omega) (fun i h1 h2 h3 => by omega)
theorem push_spec {a : List Key} {x : Key} (h : HeapFrom 0 a) : HeapFrom 0 (hpush a x) ∧ (hpush a x).Perm (x :: a) := by
  have e : ∀ i, i < a.length → at' (a ++ [x]) i = at' a i := by
    intro i hi; simp [at', List.getD, List.getElem?_append_left hi]
  obtain ⟨h1, h2⟩ := siftdown_spec (a := a ++ [x]) (st := 0) (pos := a.length) (by simp) (Desc.zero _)
    (by
      intro i a1 a2 a3 a4
      simp at a3
      rw [e _ (by omega), e _ (by omega)]
      exact h i a1 a2 (by omega))
    (by
      intro i b1 b2 b3 b4
      simp at b3
      omega)
  exact ⟨h1, h2.trans (List.perm_append_singleton x a)⟩
theorem pop_spec {a : List Key} (hne : a ≠ []) (h : HeapFrom 0 a) : HeapFrom 0 (hpop a) ∧ (at' a 0 :: hpop a).Perm a := by
  unfold hpop
  have hlast := List.dropLast_concat_getLast hne
  have hgl : a.getLastD [] = a.getLast hne := by
    rw [List.getLastD_eq_getLast?, List.getLast?_eq_some_getLast hne]; rfl
  split
  · rename_i hd
    rw [hd] at hlast
    refine ⟨fun i h1 h2 h3 => by simp at h3, ?_⟩
    rw [← hlast]; exact List.Perm.refl _
  · rename_i hd
    have hpos := List.length_pos_iff.mpr hd
    have hl : a.dropLast.length = a.length - 1 := by simp
    have e : ∀ i, i < a.dropLast.length → at' a.dropLast i = at' a i := by
      intro i hi
      rw [at_eq hi, at_eq (by omega)]; simp
    obtain ⟨h1, h2⟩ := siftup_spec (a := a.dropLast.set 0 (a.getLastD [])) (st := 0) (by simpa using hpos)
      (by
        intro i a1 a2 a3
        rw [List.length_set] at a3
        rw [at_set_ne _ (by omega), at_set_ne _ (by omega), e _ (by omega), e _ (by omega)]
        exact h i (by omega) a2 (by omega))
    refine ⟨h1, (List.Perm.cons _ h2).trans ?_⟩
    rw [hgl, ← e 0 hpos]
    match hx : a.dropLast, hd with
    | y :: r, _ =>
      rw [hx] at hlast
      rw [List.set_cons_zero]
      generalize a.getLast hne = z at hlast
      subst hlast
      show (y :: z :: r).Perm (y :: (r ++ [z]))
      exact List.Perm.cons _ (List.perm_append_singleton _ _).symm
end Mine
end

section
open PySem PySem.W PyProof.Rows PySem.Calls PyProof.Rows.LCg
set_option maxRecDepth 100000
namespace Mine
section
variable {prog : Program} {w : World} {A : Around} {E : Value → Shared → Prop} {s : Shared} {h₀ : Heap} {L : Addr} {m : Str → Option Value} {env : Env}

/-- a turn of a comprehension behind its target: the test, if there is one, and the element -/
def Step (prog : Program) (w : World) (A : Around) (ifs : List PySem.Expr) (elt : PySem.Expr) (env : Env) (Y : Value → Shared → Prop) (K : Shared → Prop) (E : Value → Shared → Prop) (s : Shared) : Prop :=
  match ifs with
  | [] => wpAny (model prog w) A (eval elt env) Y E s
  | [c] => wpAny (model prog w) A (isTrue c env (eval c env)) (fun ok s₃ => if ok = true then wpAny (model prog w) A (eval elt env) Y E s₃ else K s₃) E s
  | _ => False

theorem Step.mono {ifs : List PySem.Expr} {elt : PySem.Expr} {Y Y' : Value → Shared → Prop} {K K' : Shared → Prop} {E : Value → Shared → Prop} (h : Step prog w A ifs elt env Y K E s) (hy : ∀ y s, Y y s → Y' y s) (hk : ∀ s, K s → K' s) : Step prog w A ifs elt env Y' K' E s := by
  match ifs, h with
  | [], h => exact wpAny_mono h hy fun _ _ e => e
  | [c], h =>
    refine wpAny_mono h (fun ok s₃ h₃ => ?_) fun _ _ e => e
    cases ok with
    | false => exact hk _ h₃
    | true => exact wpAny_mono h₃ hy fun _ _ e => e

theorem loop_step {ifs : List PySem.Expr} {elt target iter : PySem.Expr} {scope : Scope} {pos : Pos} {it acc : Value} {env : Env} {R : Result → Shared → Prop} (hif : ifs.length ≤ 1) (I : Nat → Shared → Prop)
    (turn : ∀ n s, I n s → wpAny (model prog w) A (pyNext it) (fun r s₁ => match r with
      | none => R (.ok .next) s₁
      | some v => wpAny (model prog w) A (letOwnedTupleGo target it v) (fun _ s₀ => wpAny (model prog w) A (assign target env v) (fun _ s₂ =>
          Step prog w A ifs elt env (fun x s₄ => wpAny (model prog w) A (call (.builtin "list.append") [acc, x]) (fun _ s₅ => ∃ m, m < n ∧ I m s₅) (notedBy (model prog w) A env fun e s' => R (.error e) s') s₄)
            (fun s₃ => ∃ m, m < n ∧ I m s₃) (notedBy (model prog w) A env fun e s' => R (.error e) s') s₂)
          (notedBy (model prog w) A env fun e s' => R (.error e) s') s₀) (notedBy (model prog w) A env fun e s' => R (.error e) s') s₁) (notedBy (model prog w) A env fun e s' => R (.error e) s') s)
    (n : Nat) (h : I n s) : codeAny (model prog w) A (.compLoop (.ListComp elt [⟨target, iter, ifs, 0⟩] scope pos) 0 it acc env) R s := by
  match ifs, hif, turn with
  | [], _, turn => exact kcp_loop I turn n h
  | [c], _, turn => exact kct_loop I turn n h
  | _ :: _ :: _, hif, _ => simp at hif

/-- what a turn leaves -/
def TurnEnd (h₀ : Heap) (L : Addr) (m : Str → Option Value) (s₂ : Shared) (I : Addr) (oI : Obj) (C : Addr) (oC : Obj) (D : Addr) (ys : List Value) (P : List (Addr × Obj) → Prop) (s' : Shared) : Prop :=
  ∃ h' tk' nw, s' = { s₂ with heap := h', toks := tk' } ∧ Fr h₀ L h' m ∧ News h₀ L h' ((I, oI) :: (C, oC) :: (D, lst ys) :: nw) ∧ Off3 I C D nw ∧ P nw

/-- the block of a comprehension over a list of triples that the ledger bears -/
theorem blk3 {ifs : List PySem.Expr} {elt iter : PySem.Expr} {x y z : Str} {px py pz tp : Pos} {kk : Nat} {scope : Scope} {cl : List (Str × Addr)} {pos : Pos} {s₂ : Shared} {I ax : Addr} {its : Array Value} {cax : Nat} {news : List (Addr × Obj)}
    {RR : Value → Addr → Result → Shared → Prop} (J : Nat → List Value → List (Addr × Obj) → Prop) (hif : ifs.length ≤ 1)
    (hsz : its.size ≤ sizeLine) (hJS : ∀ i ys nw, J i ys nw → (ax, listOf its cax) ∈ nw) (hh : A.handled = none) (hne : ax ≠ I)
    (hcell : ∀ y ∈ scope.names, y.2 ≠ .cell) (hkind : scope.kind = .function) (hx : scope.names.lookup x = some .local) (hy : scope.names.lookup y = some .local) (hz : scope.names.lookup z = some .local) (hxy : x ≠ y) (hxz : x ≠ z) (hyz : y ≠ z)
    (hit : s₂.heap.IsListIter I ax 0)
    (F : Fr h₀ L s₂.heap m) (N : News h₀ L s₂.heap news) (hIL : L ≠ I) (hI₀ : h₀.get? I = none) (off : ∀ p ∈ news, p.1 ≠ I) (hj : J 0 [] news)
    (turn : ∀ i v ys nw, its[i]? = some v → J i ys nw → ∃ (t : Addr) (v₁ v₂ v₃ : Value) (nt : Nat), v = .ref t ∧ (t, ({ cls := .type "tuple", data := .seq #[v₁, v₂, v₃] nt } : Obj)) ∈ nw ∧
      ∀ oI C oC D m₂ h tk (E' : Value → Shared → Prop), NsObj oC m₂ → m₂ x = some v₁ → m₂ y = some v₂ → m₂ z = some v₃ → Fr h₀ L h m → News h₀ L h ((I, oI) :: (C, oC) :: (D, lst ys) :: nw) → Off3 I C D nw →
        Step prog w A ifs elt (compEnvC scope cl C env) (fun u s' => TurnEnd h₀ L m s₂ I oI C oC D ys (J (i + 1) (ys ++ [u])) s') (fun s' => TurnEnd h₀ L m s₂ I oI C oC D ys (J (i + 1) ys) s') E' { s₂ with heap := h, toks := tk })
    (hRR : ∀ D C h tk m' ys nw, Fr h₀ L h m → News h₀ L h ((D, lst ys) :: nw) → Off1 D nw → h.Ns C m' → h₀.get? C = none → h₀.get? D = none → C ≠ L → D ≠ L → C ≠ D → (∀ p ∈ nw, p.1 ≠ C) → J its.size ys nw → RR (.ref D) C (.ok .next) { s₂ with heap := h, toks := tk }) :
    wpAny (model prog w) A (newList []) (fun acc s₃ => wpAny (model prog w) A (newFunctionEnv scope env.globals cl [] env.qual none .none (some env)) (fun cenv s₄ =>
      codeAny (model prog w) A (.compStart (.ListComp elt [⟨.Tuple [.Name x px, .Name y py, .Name z pz] kk tp, iter, ifs, 0⟩] scope pos) 0 (.ref I) acc { cenv with scope := relabel scope env }) (RR acc cenv.locals) s₄) E s₃) E s₂ := by
  refine wpAny_newObj_type (wpAny_newFunctionEnv hcell (by intro y hy; simp at hy) (fun h₁ hns₁ hsb₁ => ?_) hkind)
  dsimp only at hns₁ hsb₁ ⊢
  generalize hH2 : s₂.heap.push { cls := .type "list", dict := none, data := .seq ([] : List Value).toArray } = H2 at hns₁ hsb₁ ⊢
  have W := Walks.list (prog := prog) (w := w) hh I ax hne its
  have hC : H2.objs.size = s₂.heap.objs.size + 1 := by rw [← hH2, Heap.size_push]
  have hIlt : @LT.lt Nat _ I s₂.heap.objs.size := by obtain ⟨o, e, _⟩ := hit; exact Heap.lt_size e
  have hlist : ∀ {h : Heap} {nw : List (Addr × Obj)} {i : Nat} {ys : List Value}, News h₀ L h nw → J i ys nw → h.IsList ax its := fun N j => ⟨_, (N _ (hJS _ _ _ j)).1, rfl, cax, rfl⟩
  have hLlt : @LT.lt Nat _ L s₂.heap.objs.size := F.ns.lt
  have hDC : s₂.heap.objs.size ≠ H2.objs.size := neN (by omega)
  have hCI : I ≠ H2.objs.size := neN (by omega)
  have hDI : I ≠ s₂.heap.objs.size := neN (by omega)
  have hDL : s₂.heap.objs.size ≠ L := neN (by omega)
  have hCL : H2.objs.size ≠ L := neN (by omega)
  have old : ∀ b o, s₂.heap.get? b = some o → h₁.get? b = some o := fun b o e => hsb₁.extBut b o (neN (by have : @LT.lt Nat _ b _ := Heap.lt_size e; omega)) (Heap.get?_push_of_some _ (hH2 ▸ Heap.get?_push_of_some _ e))
  have hacc : h₁.get? s₂.heap.objs.size = some (lst []) := hsb₁.extBut _ _ hDC (Heap.get?_push_of_some _ (hH2 ▸ Heap.get?_push_size _ rfl))
  have fresh₀ : ∀ a, s₂.heap.objs.size ≤ a → h₀.get? a = none := fun a ha => by
    cases e : h₀.get? a with
    | none => rfl
    | some o' => exact absurd (Heap.lt_size (F.keep a o' e)) (Nat.not_lt.mpr ha)
  have hD₀ := fresh₀ _ (Nat.le_refl _)
  have hC₀ : h₀.get? H2.objs.size = none := fresh₀ _ (by omega)
  have off₀ : Off3 I H2.objs.size s₂.heap.objs.size news := Off3.of fun p hp => by
    have : @LT.lt Nat _ p.1 _ := Heap.lt_size (N p hp).1
    exact ⟨off p hp, neN (by omega), neN (by omega)⟩
  have hit₁ : h₁.IsListIter I ax 0 := hit.at fun o e => old _ o e
  generalize hCC : H2.objs.size = C at *
  generalize hDD : s₂.heap.objs.size = D at *
  have hxx : (compEnvC scope cl C env).kindOf x = some .local := lookup_relabel_local hx
  have loop : ∀ s₃ : Shared, s₃ = { s₂ with heap := h₁, toks := s₂.toks + ([] : List (Str × Value)).length } →
      codeAny (model prog w) A (.compLoop (.ListComp elt [⟨.Tuple [.Name x px, .Name y py, .Name z pz] kk tp, iter, ifs, 0⟩] scope pos) 0 (.ref I) (.ref D) (compEnvC scope cl C env)) (RR (.ref D) C) s₃ := by
    rintro s₃ rfl
    refine loop_step hif (fun k s' => ∃ h' tk i ys m' nw, s' = { s₂ with heap := h', toks := tk } ∧ i ≤ its.size ∧ k = its.size + 1 - i ∧ ys.length ≤ i ∧ h'.IsListIter I ax i ∧ Fr h₀ L h' m ∧ h'.Ns C m' ∧
        News h₀ L h' ((D, lst ys) :: nw) ∧ Off3 I C D nw ∧ J i ys nw) ?_ (its.size + 1) ⟨h₁, _, 0, [], _, news, rfl, Nat.zero_le _, rfl, Nat.le_refl _, hit₁, F.keeps old, hns₁, fun p hp => ?_, off₀, hj⟩
    · rintro k s' ⟨h', tk, i, ys, m', nw, rfl, hi, rfl, hyl, hit', F', hn', N', off', hJ⟩
      have off3 := off'.mem
      have Nw : News h₀ L h' nw := fun p hp => N' p (.tail _ hp)
      by_cases hlt : i < its.size
      · refine W.item i _ _ _ hlt ⟨hit', hlist Nw hJ⟩ fun v h₂ tk₂ hPv hst₂ hk₂ => ?_
        obtain ⟨t, v₁, v₂, v₃, nt, rfl, hmt, tn⟩ := turn i v ys nw hPv hJ
        have up₂ : ∀ b o, b ≠ I → h'.get? b = some o → h₂.get? b = some o := fun b o hb e => hk₂ b o (by simpa using hb) e
        have ht : IsTup h₂ t #[v₁, v₂, v₃] := ⟨_, up₂ _ _ (off3 _ hmt).1 (Nw _ hmt).1, rfl, nt, rfl⟩
        refine wpAny_letOwnedTupleGo_listiter hst₂.1 ?_
        refine assign_Tuple_tuple hh ht rfl rfl fun h₃ he => ?_
        have he' : ∀ b o, h₂.get? b = some o → h₃.get? b = some o := fun b o e => he b o (Nat.ne_of_lt (Heap.lt_size e)) e
        have hn₃ : h₃.Ns C m' := (hn'.at' fun o e => up₂ _ o (Ne.symm hCI) e).at' fun o e => he' _ o e
        have hp : ((compEnvC scope cl C env).scope.kind == .class || ((compEnvC scope cl C env).scope.kind == .module && (compEnvC scope cl C env).locals != (compEnvC scope cl C env).globals)) = false := by simp [compEnvC, relabel, hkind]
        refine assignInOrder_cons (wpAny_assign_Name (wpAny_storeName_local (lookup_relabel_local hx) hn₃ (fun h₄ hn₄ hs₄ => ?_) hp))
        refine assignInOrder_cons (wpAny_assign_Name (wpAny_storeName_local (lookup_relabel_local hy) hn₄ (fun h₅ hn₅ hs₅ => ?_) hp))
        refine assignInOrder_cons (wpAny_assign_Name (wpAny_storeName_local (lookup_relabel_local hz) hn₅ (fun h₆ hn₆ hs₆ => ?_) hp))
        refine assignInOrder_nil ?_
        have up : ∀ b o, b ≠ I → b ≠ C → h'.get? b = some o → h₆.get? b = some o := fun b o h1 h2 e => hs₆.extBut b o h2 (hs₅.extBut b o h2 (hs₄.extBut b o h2 (he' b o (up₂ b o h1 e))))
        have upI : ∀ o, h₂.get? I = some o → h₆.get? I = some o := fun o e => hs₆.extBut I o hCI (hs₅.extBut I o hCI (hs₄.extBut I o hCI (he' I o e)))
        have hit₆ : h₆.IsListIter I ax (i + 1) := hst₂.1.at upI
        obtain ⟨oI, heI, hoI⟩ : ∃ oI : Obj, h₆.get? I = some oI ∧ ∀ h : Heap, h.get? I = some oI → h.IsListIter I ax (i + 1) := by
          obtain ⟨o, e, r⟩ := hit₆
          exact ⟨o, e, fun h q => ⟨o, q, r⟩⟩
        obtain ⟨oC, heC, hoC⟩ := ns_obj hn₆
        have F₆ : Fr h₀ L h₆ m := ⟨F'.ns.at' fun o e => up _ o hIL (Ne.symm hCL) e, fun b o e => up b o (fun q => by rw [q, hI₀] at e; cases e) (fun q => by rw [q, hC₀] at e; cases e) (F'.keep b o e), F'.above⟩
        have N₆ : News h₀ L h₆ ((I, oI) :: (C, oC) :: (D, lst ys) :: nw) := fun p hp => by
          rcases List.mem_cons.mp hp with rfl | hp
          · exact ⟨heI, Ne.symm hIL, hI₀⟩
          · rcases List.mem_cons.mp hp with rfl | hp
            · exact ⟨heC, hCL, hC₀⟩
            · have zz := N' p hp
              refine ⟨up _ _ ?_ ?_ zz.1, zz.2⟩
              · rcases List.mem_cons.mp hp with rfl | hp
                · exact Ne.symm hDI
                · exact (off3 p hp).1
              · rcases List.mem_cons.mp hp with rfl | hp
                · exact hDC
                · exact (off3 p hp).2.1
        refine Step.mono (tn oI C oC D _ h₆ _ _ hoC ?_ ?_ ?_ F₆ N₆ off') ?_ ?_
        · simp [hxy, hxz]
        · simp [hyz]
        · simp
        · rintro u _ ⟨h₇, tk₇, nw₇, rfl, F₇, N₇, off₇, J₇⟩
          have zI := (N₇ (I, oI) List.mem_cons_self).1
          have zC := (N₇ (C, oC) (List.mem_cons_of_mem _ List.mem_cons_self)).1
          have zD := (N₇ (D, lst ys) (List.mem_cons_of_mem _ (List.mem_cons_of_mem _ List.mem_cons_self))).1
          have Nw₇ : News h₀ L h₇ nw₇ := fun p hp => N₇ p (List.mem_cons_of_mem _ (List.mem_cons_of_mem _ (List.mem_cons_of_mem _ hp)))
          refine append_at (hsz := by show ys.toArray.size ≤ sizeLine; rw [List.size_toArray]; omega) zD fun h₈ hs₈ hD₈ => ?_
          have off4 := off₇.mem
          refine ⟨its.size + 1 - (i + 1), by omega, h₈, tk₇, i + 1, ys ++ [u], _, nw₇, rfl, hlt, rfl, by rw [List.length_append, List.length_singleton]; omega, (hoI _ zI).at fun o e => hs₈.extBut I o hDI e, F₇.change hs₈ hDL hD₀,
            (hoC.ns zC).sameBut hs₈ (Ne.symm hDC), fun p hp => ?_, off₇, J₇⟩
          rcases List.mem_cons.mp hp with rfl | hp
          · exact ⟨hD₈.trans (congrArg some (lst_snoc ys u)), hDL, hD₀⟩
          · exact ⟨hs₈.extBut _ _ (off4 p hp).2.2 (Nw₇ p hp).1, (Nw₇ p hp).2⟩
        · rintro _ ⟨h₇, tk₇, nw₇, rfl, F₇, N₇, off₇, J₇⟩
          have zI := (N₇ (I, oI) List.mem_cons_self).1
          have zC := (N₇ (C, oC) (List.mem_cons_of_mem _ List.mem_cons_self)).1
          exact ⟨its.size + 1 - (i + 1), by omega, h₇, tk₇, i + 1, ys, _, nw₇, rfl, hlt, rfl, by omega, hoI _ zI, F₇, hoC.ns zC, fun p hp => N₇ p (List.mem_cons_of_mem _ (List.mem_cons_of_mem _ hp)), off₇, J₇⟩
      · obtain rfl : i = its.size := Nat.le_antisymm hi (Nat.not_lt.mp hlt)
        refine W.done _ _ _ ⟨hit', hlist Nw hJ⟩ fun h₂ tk₂ hk₂ => ?_
        exact hRR _ _ h₂ tk₂ _ ys nw (fr_but F' hk₂ hIL hI₀) (news_but N' hk₂ fun p hp => by
          rcases List.mem_cons.mp hp with rfl | hp
          · exact Ne.symm hDI
          · exact (off3 p hp).1) off'.one (hn'.at' fun o e => hk₂ _ o (by simpa using Ne.symm hCI) e) hC₀ hD₀ hCL hDL (Ne.symm hDC) (fun p hp => (off3 p hp).2.1) hJ
    · rcases List.mem_cons.mp hp with rfl | hp
      · exact ⟨hacc, hDL, hD₀⟩
      · exact ⟨old _ _ (N p hp).1, (N p hp).2⟩
  have hl₁ : h₁.IsList ax its := ⟨_, old _ _ (N _ (hJS _ _ _ hj)).1, rfl, cax, rfl⟩
  exact codeAny_compStart_list (loop _ rfl) (W.self 0 _ _ _ ⟨hit₁, hl₁⟩ (loop _ rfl))
end
end Mine
end

section
open PySem PySem.W PyProof.Rows PySem.Calls PyProof.Rows.LCg
set_option maxRecDepth 100000
namespace Mine
section
variable {prog : Program} {w : World} {A : Around} {E : Value → Shared → Prop} {s : Shared} {h₀ : Heap} {L : Addr} {m : Str → Option Value} {env : Env}

/-- [elt for x, y, z in xs if c], xs a list of triples of the ledger -/
theorem comp3 {ifs : List PySem.Expr} {elt iter : PySem.Expr} {x y z : Str} {px py pz tp : Pos} {kk : Nat} {scope : Scope} {cl : List (Str × Addr)} {pos : Pos} {ax : Addr} {its : Array Value} {cax : Nat} {news : List (Addr × Obj)} {Q : Value → Shared → Prop}
    (J : Nat → List Value → List (Addr × Obj) → Prop) (hif : ifs.length ≤ 1)
    (hsz : its.size ≤ sizeLine) (hJS : ∀ i ys nw, J i ys nw → (ax, listOf its cax) ∈ nw) (hh : A.handled = none)
    (F : Fr h₀ L s.heap m) (N : News h₀ L s.heap news) (hj : J 0 [] news)
    (hiter : ∀ (Q' : Value → Shared → Prop), Q' (.ref ax) s → wpAny (model prog w) A (eval iter env) Q' E s)
    (turn : ∀ g i v ys nw I, its[i]? = some v → J i ys nw → ∃ (t : Addr) (v₁ v₂ v₃ : Value) (nt : Nat), v = .ref t ∧ (t, ({ cls := .type "tuple", data := .seq #[v₁, v₂, v₃] nt } : Obj)) ∈ nw ∧
      ∀ oI C oC D m₂ h tk (E' : Value → Shared → Prop), NsObj oC m₂ → m₂ x = some v₁ → m₂ y = some v₂ → m₂ z = some v₃ → Fr h₀ L h m → News h₀ L h ((I, oI) :: (C, oC) :: (D, lst ys) :: nw) → Off3 I C D nw →
        Step prog w A ifs elt (compEnvC scope cl C env) (fun u s' => TurnEnd h₀ L m { s with heap := g } I oI C oC D ys (J (i + 1) (ys ++ [u])) s') (fun s' => TurnEnd h₀ L m { s with heap := g } I oI C oC D ys (J (i + 1) ys) s') E' { s with heap := h, toks := tk })
    (done : ∀ D h tk ys nw, J its.size ys nw → Fr h₀ L h m → News h₀ L h ((D, lst ys) :: nw) → Off1 D nw → Q (.ref D) { s with heap := h, toks := tk })
    (hclos : closureFor scope env = pure cl) (hcell : ∀ y ∈ scope.names, y.2 ≠ .cell) (hkind : scope.kind = .function)
    (hnames : ∀ y ∈ scope.names, y.2 = .local → scope.names.lookup y.1 = some .local)
    (hx : scope.names.lookup x = some .local) (hy : scope.names.lookup y = some .local) (hz : scope.names.lookup z = some .local) (hxy : x ≠ y) (hxz : x ≠ z) (hyz : y ≠ z)
    (hs : ∀ x, foldedSetIterable iter env x = pure x := by intro _; rfl) :
    wpAny (model prog w) A (eval (.ListComp elt [⟨.Tuple [.Name x px, .Name y py, .Name z pz] kk tp, iter, ifs, 0⟩] scope pos) env) Q E s := by
  rw [eval_ListComp]
  refine wpAny_comprehension_free (use := none) rfl hs hclos hkind hnames (hiter _ ?_)
  have hl : s.heap.IsList ax its := ⟨_, (N _ (hJS _ _ _ hj)).1, rfl, cax, rfl⟩
  have hlt : ax < s.heap.objs.size := by obtain ⟨_, e, _⟩ := hl; exact Heap.lt_size e
  refine wpAny_pyIter_list hl ?_
  have up : ∀ b o, s.heap.get? b = some o → (s.heap.push { cls := .type "list_iterator", data := .fields #[.ref ax, .int 0 0] }).get? b = some o := fun b o e => Heap.get?_push_of_some _ e
  refine blk3 J hif hsz hJS hh (Nat.ne_of_lt hlt) hcell hkind hx hy hz hxy hxz hyz ⟨_, Heap.get?_push_size _ rfl, rfl, rfl⟩ (F.keeps up) (N.grown up) (Nat.ne_of_lt F.ns.lt) (next_is_new F) (fun p hp => Nat.ne_of_lt (Heap.lt_size (N p hp).1)) hj (fun i v ys nw hv hJ => turn _ i v ys nw _ hv hJ) ?_
  intro D C h tk m' ys nw F' N' o1 hn hC₀ hD₀ hCL hDL hCD offC fin
  refine ⟨m', hn, fun h'' hs'' => done D h'' tk ys nw fin (F'.change hs'' hCL hC₀) (fun p hp => ?_) o1⟩
  refine ⟨hs''.extBut _ _ ?_ (N' p hp).1, (N' p hp).2⟩
  rcases List.mem_cons.mp hp with rfl | hp
  · exact Ne.symm hCD
  · exact offC p hp

/-- u = [elt for x, y, z in xs if c] -/
theorem acomp3 {ifs : List PySem.Expr} {elt iter : PySem.Expr} {x y z u : Str} {px py pz tp pu : Pos} {kk : Nat} {scope : Scope} {cl : List (Str × Addr)} {pos spos : Pos} {ax : Addr} {its : Array Value} {cax : Nat} {news : List (Addr × Obj)} {Q : Flow → Shared → Prop}
    (J : Nat → List Value → List (Addr × Obj) → Prop) (hif : ifs.length ≤ 1)
    (hsz : its.size ≤ sizeLine) (hJS : ∀ i ys nw, J i ys nw → (ax, listOf its cax) ∈ nw) (hh : A.handled = none) (hLe : env.locals = L)
    (F : Fr h₀ L s.heap m) (N : News h₀ L s.heap news) (hj : J 0 [] news)
    (hiter : ∀ (Q' : Value → Shared → Prop), Q' (.ref ax) s → wpAny (model prog w) A (eval iter env) Q' E s)
    (turn : ∀ g i v ys nw I, its[i]? = some v → J i ys nw → ∃ (t : Addr) (v₁ v₂ v₃ : Value) (nt : Nat), v = .ref t ∧ (t, ({ cls := .type "tuple", data := .seq #[v₁, v₂, v₃] nt } : Obj)) ∈ nw ∧
      ∀ oI C oC D m₂ h tk (E' : Value → Shared → Prop), NsObj oC m₂ → m₂ x = some v₁ → m₂ y = some v₂ → m₂ z = some v₃ → Fr h₀ L h m → News h₀ L h ((I, oI) :: (C, oC) :: (D, lst ys) :: nw) → Off3 I C D nw →
        Step prog w A ifs elt (compEnvC scope cl C env) (fun u s' => TurnEnd h₀ L m { s with heap := g } I oI C oC D ys (J (i + 1) (ys ++ [u])) s') (fun s' => TurnEnd h₀ L m { s with heap := g } I oI C oC D ys (J (i + 1) ys) s') E' { s with heap := h, toks := tk })
    (done : ∀ D h tk ys nw, J its.size ys nw → Fr h₀ L h (fun n => if n = u then some (.ref D) else m n) → News h₀ L h ((D, lst ys) :: nw) → Off1 D nw → Q .next { s with heap := h, toks := tk })
    (hsw : swapsWith (.ListComp elt [⟨.Tuple [.Name x px, .Name y py, .Name z pz] kk tp, iter, ifs, 0⟩] scope pos) (some (.Name u pu)) spos.line env = pure true)
    (hclos : closureFor scope env = pure cl) (hcell : ∀ y ∈ scope.names, y.2 ≠ .cell) (hkind : scope.kind = .function)
    (hnames : ∀ y ∈ scope.names, y.2 = .local → scope.names.lookup y.1 = some .local)
    (hx : scope.names.lookup x = some .local) (hy : scope.names.lookup y = some .local) (hz : scope.names.lookup z = some .local) (hxy : x ≠ y) (hxz : x ≠ z) (hyz : y ≠ z)
    (hu : env.kindOf u = some .local) (hp : (env.scope.kind == .class || (env.scope.kind == .module && env.locals != env.globals)) = false)
    (hs : ∀ x, foldedSetIterable iter env x = pure x := by intro _; rfl) :
    wpAny (model prog w) A (exec (.Assign [.Name u pu] (.ListComp elt [⟨.Tuple [.Name x px, .Name y py, .Name z pz] kk tp, iter, ifs, 0⟩] scope pos) spos) env) Q E s := by
  subst hLe
  rw [exec_Assign_Name_used _ _ _ _ hsw]
  refine wpAny_bind (wpAny_standAt (wpAny_bind ?_))
  show wpAny _ A (do let _ ← comprehension (.ListComp elt [⟨.Tuple [.Name x px, .Name y py, .Name z pz] kk tp, iter, ifs, 0⟩] scope pos) scope env _ (newList []) false (eval iter env) (some (assign (.Name u pu) env))) _ _ s
  refine wpAny_bind (wpAny_mono (wpAny_comprehension_free (use := some (assign (.Name u pu) env)) (Q := fun _ s' => Q .next s') rfl hs hclos hkind hnames (hiter _ ?_)) (fun _ s' hq => wpAny_pure (wpAny_pure hq)) fun _ _ e => e)
  have hl : s.heap.IsList ax its := ⟨_, (N _ (hJS _ _ _ hj)).1, rfl, cax, rfl⟩
  have hlt : ax < s.heap.objs.size := by obtain ⟨_, e, _⟩ := hl; exact Heap.lt_size e
  refine wpAny_pyIter_list hl ?_
  have up : ∀ b o, s.heap.get? b = some o → (s.heap.push { cls := .type "list_iterator", data := .fields #[.ref ax, .int 0 0] }).get? b = some o := fun b o e => Heap.get?_push_of_some _ e
  refine blk3 J hif hsz hJS hh (Nat.ne_of_lt hlt) hcell hkind hx hy hz hxy hxz hyz ⟨_, Heap.get?_push_size _ rfl, rfl, rfl⟩ (F.keeps up) (N.grown up) (Nat.ne_of_lt F.ns.lt) (next_is_new F) (fun p hp => Nat.ne_of_lt (Heap.lt_size (N p hp).1)) hj (fun i v ys nw hv hJ => turn _ i v ys nw _ hv hJ) ?_
  intro D C h' tk m' ys nw F' N' o1 hn hC₀ hD₀ hCL hDL hCD offC fin
  show wpAny _ A (assign (.Name u pu) env (.ref D)) _ _ _
  refine wpAny_assign_Name (wpAny_storeName_local hu F'.ns (fun h₂ hn₂ hs₂ => ?_) hp)
  have hL₀ : h₀.get? env.locals = none := Heap.get?_none_of_le F'.above
  have F₂ : Fr h₀ env.locals h₂ (fun n => if n = u then some (.ref D) else m n) := ⟨hn₂, fun b o e => hs₂.extBut b o (fun q => by rw [q, hL₀] at e; cases e) (F'.keep b o e), F'.above⟩
  refine ⟨m', hn.sameBut hs₂ hCL, fun h'' hs'' => done D h'' _ ys nw fin (F₂.change hs'' hCL hC₀) (fun p hp => ?_) o1⟩
  have zz : h₂.get? p.1 = some p.2 := hs₂.extBut _ _ (N' p hp).2.1 (N' p hp).1
  refine ⟨hs''.extBut _ _ ?_ zz, (N' p hp).2⟩
  rcases List.mem_cons.mp hp with rfl | hp
  · exact Ne.symm hCD
  · exact offC p hp
end
end Mine
end

section
open PySem PySem.W PyProof.Rows PySem.Calls
set_option maxRecDepth 100000
namespace Mine
local macro_rules | `(tactic| walk_at "mine look") => `(tactic| first | with_reducible assumption | exact rfl | (refine (if_neg (by decide)).trans ?_; walk_at "mine look"))

theorem tup_ok (n : Nat) (k : Key) : kqdOk (n + 1) (tupD k) = true := by
  unfold tupD
  rw [kqdOk]
  simp only [List.all_map, List.all_eq_true]
  intro x _
  cases n <;> rfl
theorem its_ok {ks : List Key} : ∀ d ∈ ks.map tupD, kqdOk 8 d = true := by
  intro d hd
  obtain ⟨k, _, rfl⟩ := List.mem_map.mp hd
  exact tup_ok 7 k

section
variable {prog : Program} {w : World} {A : Around} {E : Value → Shared → Prop} {s : Shared} {h₀ : Heap} {L l : Addr} {m : Str → Option Value} {news base : List (Addr × Obj)}
theorem eq_self {v : Value} {k : Key} {Q : Value → Shared → Prop} (hr : A.units + 64 < cLine) (N : News h₀ L s.heap news) (hv : DatIn news v (tupD k)) (h : Q (.bool true) s) :
    wpAny (model prog w) A (compareOp .Eq v v) Q E s := by
  obtain ⟨as, ra⟩ := kqd_in N 8 hv (tup_ok 7 k)
  have la := kqd_lay 8 (tupD k) (tup_ok 7 k)
  have e : PyData.eqv (kqdP (tupD k)) (kqdP (tupD k)) = true := (kqd_eqv 8 (tupD k) (tupD k) 8 (tup_ok 7 k) (tup_ok 7 k)).mpr rfl
  refine eq_dataH ra ra ?_ ?_ hr (by rw [e]; exact h)
  · unfold SeqAt.shaped; rw [la.1, Bool.true_and]; exact decide_eq_true (Nat.le_trans la.2 (by decide))
  · unfold SeqAt.shaped; rw [la.1, Bool.true_and]; exact decide_eq_true (Nat.le_trans la.2 (by decide))

theorem nil_dec {ks : List Key} {i : Decidable (ks.map tupD = ([] : List Dat))} : @decide (ks.map tupD = ([] : List Dat)) i = ks.isEmpty := by
  cases ks with
  | nil => exact @decide_eq_true _ i rfl
  | cons a r => exact @decide_eq_false _ i (fun e => by cases e)

/-- a list of tuples against a new empty list -/
theorem ne_nil {name : Str} {scope : Scope} {a : Addr} {cd : Value} {x : Str} {p1 p2 p3 : Pos} {vs : List Value} {c : Nat} {ks : List Key} {Q : Bool → Shared → Prop} (hr : A.units + 64 < cLine) (F : Fr h₀ L s.heap m) (N : News h₀ L s.heap news) (hm : (l, listOf vs.toArray c) ∈ news) (hb : ∀ p ∈ base, p ∈ news) (I : Its base vs ks)
    (mx : m x = some (.ref l)) (h : ∀ h', Fr h₀ L h' m → News h₀ L h' news → Q (!ks.isEmpty) { s with heap := h' })
    (hk : scope.kind = .function := by rfl) (hl : (envOf name scope L a cd).kindOf x = some .local := by rfl) (hd : (x == ("__debug__" : Str)) = false := by decide) :
    wpAny (model prog w) A (isTrue (.Compare (.Name x p1) [.NotEq] [.List [] p2] p3) (envOf name scope L a cd) (eval (.Compare (.Name x p1) [.NotEq] [.List [] p2] p3) (envOf name scope L a cd))) Q E s := by
  refine wpAny_isTrue_Compare1 (ld F mx (List_ (spliced_none (newList_N F N fun h' F' N' => ?_ ))) hk hl hd)
  refine kqd_ne (n₁ := base) (n₂ := []) (es := []) N' (.tail _ hm) rfl rfl I (fun p hp => .tail _ (hb p hp)) (.head _) rfl rfl .nil (fun _ h => nomatch h) its_ok (fun _ h => nomatch h) hr ?_
  rw [nil_dec]
  exact wpAny_truthy_bool (h h' F' fun p hp => N' p (.tail _ hp))
theorem eq_nil {name : Str} {scope : Scope} {a : Addr} {cd : Value} {x : Str} {p1 p2 p3 : Pos} {vs : List Value} {c : Nat} {ks : List Key} {Q : Bool → Shared → Prop} (hr : A.units + 64 < cLine) (F : Fr h₀ L s.heap m) (N : News h₀ L s.heap news) (hm : (l, listOf vs.toArray c) ∈ news) (hb : ∀ p ∈ base, p ∈ news) (I : Its base vs ks)
    (mx : m x = some (.ref l)) (h : ∀ h', Fr h₀ L h' m → News h₀ L h' news → Q ks.isEmpty { s with heap := h' })
    (hk : scope.kind = .function := by rfl) (hl : (envOf name scope L a cd).kindOf x = some .local := by rfl) (hd : (x == ("__debug__" : Str)) = false := by decide) :
    wpAny (model prog w) A (isTrue (.Compare (.Name x p1) [.Eq] [.List [] p2] p3) (envOf name scope L a cd) (eval (.Compare (.Name x p1) [.Eq] [.List [] p2] p3) (envOf name scope L a cd))) Q E s := by
  refine wpAny_isTrue_Compare1 (ld F mx (List_ (spliced_none (newList_N F N fun h' F' N' => ?_ ))) hk hl hd)
  refine kqd_eq (n₁ := base) (n₂ := []) (es := []) N' (.tail _ hm) rfl rfl I (fun p hp => .tail _ (hb p hp)) (.head _) rfl rfl .nil (fun _ h => nomatch h) its_ok (fun _ h => nomatch h) hr ?_
  rw [nil_dec]
  exact wpAny_truthy_bool (h h' F' fun p hp => N' p (.tail _ hp))
end

abbrev offEnv (L : Addr) : Env := envOf (Str.ofString "_law_off") offS L 63 (.ref 62)

set_option maxHeartbeats 400000 in
theorem off_body {w : World} {A : Around} {L l : Addr} {g : Heap} {s : Shared} {m : Str → Option Value} {rest base : List (Addr × Obj)} {vs : List Value} {c : Nat} {ks : List Key} {v : Value} {k : Key} {Q : Flow → Shared → Prop}
    (S : Site w A (offEnv L) L g 3) (F : Fr g L s.heap m) (N : News g L s.heap ((l, listOf vs.toArray c) :: rest)) (hl : ∀ p ∈ rest, p.1 ≠ l) (hb : ∀ p ∈ base, p ∈ rest)
    (I : Its base vs ks) (hv : vs[0]? = some v) (dv : DatIn base v (tupD k)) (hfit : ks.length < 1000)
    (m1 : m (Str.ofString "heap") = some (.ref l))
    (h : ∀ h' tk m' vs', Fr g L h' m' → News g L h' ((l, listOf vs'.toArray (c + 1)) :: rest) → Its base vs' (hpop ks) → Q (.ret v) { s with heap := h', toks := tk }) :
    wpAny (model prg w) A (execs offB (offEnv L)) Q (fun _ _ => False) s := by
  obtain ⟨loose, mean, mg, mb, T⟩ := S.top
  have hlen := I.length
  have hpos : 0 < vs.length := by
    cases vs with
    | nil => cases hv
    | cons _ _ => simp
  refine wpAny_execs_cons (wpAny_Assign_Name (Subscript_ (ld F m1 (wpAny_Constant_int (kim_list N (.head _) rfl rfl (by omega) (by omega) hv (stN F N fun h₁ F₁ N₁ => ?_))))) (by with_unfolding_all rfl))
  refine wpAny_execs_cons (wpAny_Assign_Name (Call_ (name_K F₁ S.kin (topRead_of T) (by with_unfolding_all rfl) (callWith_K S.kin (by with_unfolding_all rfl) (spliced_more (ld F₁ (by walk_at "mine look") (spliced_none ⟨S.kin.keeps F₁.keep, ?_⟩)))))) (by with_unfolding_all rfl))
  refine pop_call (d := 0) S F₁ N₁ hl hb I hv hfit fun h' tk vs' F₂ N₂ I₂ => stN F₂ N₂ fun h₃ F₃ N₃ => ?_
  refine wpAny_execs_cons (wpAny_Return_some (IfExp_ (wpAny_isTrue_Compare1 (ld F₃ (by walk_at "mine look") (ld F₃ (by walk_at "mine look") (eq_self S.room N₃ (dv.mono fun p hp => .tail _ (hb p hp)) (wpAny_truthy_bool (if_bt rfl (ld F₃ (by walk_at "mine look") ?_)))))))))
  exact h h₃ _ _ vs' F₃ N₃ I₂

theorem off_call {w : World} {A : Around} {env : Env} {L l : Addr} {h₀ : Heap} {d : Nat} {s : Shared} {m : Str → Option Value} {rest base : List (Addr × Obj)} {vs : List Value} {c : Nat} {ks : List Key} {v : Value} {k : Key} {Q : Value → Shared → Prop} {E : Value → Shared → Prop}
    (S : Site w A env L h₀ (d + 4)) (F : Fr h₀ L s.heap m) (N : News h₀ L s.heap ((l, listOf vs.toArray c) :: rest)) (hl : ∀ p ∈ rest, p.1 ≠ l) (hb : ∀ p ∈ base, p ∈ rest)
    (I : Its base vs ks) (hv : vs[0]? = some v) (dv : DatIn base v (tupD k)) (hfit : ks.length < 1000)
    (h : ∀ h' tk vs', Fr h₀ L h' m → News h₀ L h' ((l, listOf vs'.toArray (c + 1)) :: rest) → Its base vs' (hpop ks) → Q v { s with heap := h', toks := tk }) :
    wpAny (model prg w) A (PySem.call (.ref 63) [.ref l] []) Q E s := by
  refine S.call (name := Str.ofString "_law_off") (qual := Str.ofString "_law_off") (body := offB) (scope := offS) (cdv := .ref 62)
    (binds := [(Str.ofString "heap", .ref l)]) F N (by with_unfolding_all rfl) (by with_unfolding_all rfl) (BindsTo.of_eq rfl) (locs rfl) ?_
  intro g L' h₁ tk S' F' N'
  refine off_body (S'.less (Nat.le_add_left 3 d)) F' N' hl hb I hv dv hfit rfl ?_
  intro h' tk' m' vs' F2 N2 I2
  exact ⟨h', tk', m', _, rfl, F2, N2, fun a b => h h' tk' vs' a b I2⟩
end Mine
end

section
open PySem PySem.W PyProof.Rows PySem.Calls
set_option maxRecDepth 100000
namespace Mine
local macro_rules | `(tactic| walk_at "mine look") => `(tactic| first | with_reducible assumption | exact rfl | (refine (if_neg (by decide)).trans ?_; walk_at "mine look"))

/-- Site.call with the callee's ground over the caller's -/
theorem Site.callS {w : World} {A : Around} {env : Env} {L : Addr} {h₀ : Heap} {d : Nat} {s : Shared} {m : Str → Option Value} {news : List (Addr × Obj)} {Q : Value → Shared → Prop} {E : Value → Shared → Prop}
    {name qual : Str} {params : Arguments} {body : List Stmt} {scope : Scope} {dV kV doc pm cdv ct oc : Value} {an od : Option Addr} {osl : Array (Option Value)} {f : Addr} {args : List Value} {binds : List (Str × Value)}
    (S : Site w A env L h₀ (d + 1)) (F : Fr h₀ L s.heap m) (N : News h₀ L s.heap news)
    (ho : (KF w).lookup f = some ⟨oc, od, .func (fnOf name qual params body scope dV kV doc pm an cdv ct), osl⟩) (hcd : codeIn (KF w) cdv qual = true)
    (hbind : BindsTo s (fnOf name qual params body scope dV kV doc pm an cdv ct) ⟨args, []⟩ binds) (hloc : ∀ y ∈ binds, scope.names.lookup y.1 = some .local)
    (h : ∀ g L' h₁ tk, (∀ b o, h₀.get? b = some o → g.get? b = some o) → Site w (A.deeper (envOf qual scope L' f cdv)) (envOf qual scope L' f cdv) L' g d → Fr g L' h₁ (fun y => binds.reverse.lookup y) → News g L' h₁ news →
      wpAny (model prg w) (A.deeper (envOf qual scope L' f cdv)) (execs body (envOf qual scope L' f cdv))
        (fun fl s' => ∃ h' tk' m' news', s' = { s with heap := h', toks := tk' } ∧ Fr g L' h' m' ∧ News g L' h' news' ∧
          (Fr h₀ L h' m → News h₀ L h' news' → Q (match fl with | .ret v => v | _ => .none) { s with heap := h', toks := tk' }))
        (fun _ _ => False) { s with heap := h₁, toks := tk })
    (hco : scope.isCoroutine = false := by rfl) (hgen : scope.isGenerator = false := by rfl) (hk : scope.kind = .function := by rfl)
    (hcell : ∀ x ∈ scope.names, x.2 ≠ .cell := by decide) : wpAny (model prg w) A (PySem.call (.ref f) args []) Q E s := by
  obtain ⟨A₀, base, outer, B, hA⟩ := S.cal
  obtain ⟨loose, mean, mg, mb, T⟩ := S.top
  have hd := S.depth
  have hu := S.units
  refine wpAny_call (code_def B F S.kin N T hA S.frame S.kind ho hcd (by show A.depth < 1000; omega) hbind hloc ?_ hco hgen hk hcell)
  intro g L' h₁ FG F' N' B' X' T'
  refine wpAny_mono (h g L' h₁ _ FG.keep ⟨⟨A, base, env :: outer, B', ?_⟩, X', ⟨loose, mean, mg, mb, T'⟩, rfl, hk, ?_, ?_, S.handled⟩ F' N') ?_ (fun _ _ x => x.elim)
  · exact Around.frames_deeper B'.stack
  · show A.depth + 1 + d ≤ 900; omega
  · show A.units + 3 + 3 * d ≤ 900; omega
  · rintro fl s' ⟨h', tk', m', news', rfl, F₁, N₁, k⟩
    exact ⟨L', m', news', F₁, N₁, fun a b => k a b⟩

theorem ints_get : ∀ {vs : List Value} {ns : List Int}, IntsAre vs ns → ∀ {i : Nat} {v : Value}, vs[i]? = some v → ∃ n t, v = .int n t ∧ ns[i]? = some n := by
  intro vs ns h
  induction h with
  | nil => intro i v hv; simp at hv
  | cons n t _ ih =>
    intro i v hv
    cases i with
    | zero => simp at hv; subst hv; exact ⟨n, t, rfl, rfl⟩
    | succ i => exact ih (by simpa using hv)

def houseOf (n : Int) : Key := [n.fmod 10, n.fmod 10 + 1 + (n.fdiv 10).fmod 5, n.fdiv 50]
def numsOf (ns : List Int) : List Int := ns.take 8 ++ [322, 106, 475, 238]
theorem its_nil {b : List (Addr × Obj)} : Its b [] [] := .nil
theorem Its.mono {b b' : List (Addr × Obj)} {vs : List Value} {ks : List Key} (I : Its b vs ks) (h : ∀ p ∈ b, p ∈ b') : Its b' vs ks := DatAll.mono h I

theorem Slice_to {M : Model} {A : Around} {E : Value → Shared → Prop} {s : Shared} {env : Env} {e : PySem.Expr} {p : Pos} {Q : Value → Shared → Prop}
    (h : wpAny M A (eval e env) (fun u s₂ => Q (.ref s₂.heap.objs.size) { s₂ with heap := s₂.heap.push { cls := .type "slice", data := .fields #[.none, u, .none] } }) E s) : wpAny M A (eval (.Slice none (some e) none p) env) Q E s :=
  wpAny_Slice (wpAny_pure (show wpAny M A (eval e env) _ E s from wpAny_mono h (fun _ _ h => wpAny_pure h) fun _ _ e => e))

abbrev housesEnv (L : Addr) : Env := envOf (Str.ofString "_law_houses") housesS L 56 (.ref 55)

def forBody : Stmt → List Stmt
  | .For _ _ b _ _ => b
  | _ => []
def housesT : List Stmt := forBody ((housesB[1]?).getD (.Pass ⟨0, 0, 0, 0⟩))

set_option maxHeartbeats 400000 in
theorem houses_elt {w : World} {A : Around} {L : Addr} {g : Heap} {s : Shared} {m : Str → Option Value} {news : List (Addr × Obj)} {n : Int} {t t' : Tok} {Q : Value → Shared → Prop}
    (F₃ : Fr g L s.heap m) (N₃ : News g L s.heap news) (a1 : m (Str.ofString "left") = some (.int (n.fmod 10) t)) (a2 : m (Str.ofString "number") = some (.int n t'))
    (h : ∀ h' tk ob, Fr g L h' m → News g L h' ((s.heap.objs.size, ob) :: news) → DatIn [(s.heap.objs.size, ob)] (.ref s.heap.objs.size) (tupD (houseOf n)) → Q (.ref s.heap.objs.size) { s with heap := h', toks := tk }) :
    wpAny (model prg w) A (eval (.Tuple [.Name (Str.ofString "left") ⟨47, 23, 47, 27⟩, .BinOp (.BinOp (.Name (Str.ofString "left") ⟨47, 29, 47, 33⟩) .Add (.Constant (.int 1) 0 ⟨47, 36, 47, 37⟩) ⟨47, 29, 47, 37⟩) .Add
      (.BinOp (.BinOp (.Name (Str.ofString "number") ⟨47, 40, 47, 46⟩) .FloorDiv (.Constant (.int 10) 0 ⟨47, 50, 47, 52⟩) ⟨47, 40, 47, 52⟩) .Mod (.Constant (.int 5) 0 ⟨47, 55, 47, 56⟩) ⟨47, 40, 47, 56⟩) ⟨47, 29, 47, 56⟩,
      .BinOp (.Name (Str.ofString "number") ⟨47, 58, 47, 64⟩) .FloorDiv (.Constant (.int 50) 0 ⟨47, 68, 47, 70⟩) ⟨47, 58, 47, 70⟩] 0 ⟨47, 22, 47, 71⟩) (housesEnv L)) Q (fun _ _ => False) s := by
  refine Tuple_ (spliced_more (ld F₃ a1 (spliced_more ?_)))
  refine wpAny_BinOp (wpAny_BinOp (ld F₃ a1 (wpAny_Constant_int (add_int ?_))))
  refine wpAny_BinOp (wpAny_BinOp (ld F₃ a2 (wpAny_Constant_int (floordiv_int (by decide) (hp := .inl (PyProof.noPylong_small (by decide))) ?_))))
  refine wpAny_Constant_int (mod_int' (by decide) (add_int (spliced_more ?_)))
  refine wpAny_BinOp (ld F₃ a2 (wpAny_Constant_int (floordiv_int (by decide) (hp := .inl (PyProof.noPylong_small (by decide))) (spliced_none ?_))))
  refine newTuple_N F₃ N₃ (fun h₄ F₄ N₄ => ?_) (by unfold sizeLine; simp)
  exact h h₄ _ _ F₄ N₄ (.tuple (.head _) (.cons (.int _ _) (.cons (.int _ _) (.cons (.int _ _) .nil))))

set_option maxHeartbeats 400000 in
theorem houses_turn {w : World} {A : Around} {L H : Addr} {g : Heap} {s : Shared} {m₁ : Str → Option Value} {rest : List (Addr × Obj)} {us : List Value} {i : Nat} {v : Value} {n : Int} {t : Tok} {Q : Flow → Shared → Prop}
    (S : Site w A (housesEnv L) L g 0) (hv : v = .int n t) (F₂ : Fr g L s.heap (fun y => if y = Str.ofString "number" then some v else m₁ y)) (N₂ : News g L s.heap ((H, listOf us.toArray i) :: rest)) (hne : ∀ p ∈ rest, p.1 ≠ H) (hul : us.length < 1000)
    (a1 : m₁ (Str.ofString "houses") = some (.ref H))
    (h : ∀ h' tk m' t₃ ob, Fr g L h' m' → News g L h' ((H, listOf (us ++ [Value.ref t₃]).toArray (i + 1)) :: (t₃, ob) :: rest) → m' (Str.ofString "houses") = some (.ref H) → (∀ p ∈ (H, listOf us.toArray i) :: rest, p.1 ≠ t₃) → DatIn [(t₃, ob)] (.ref t₃) (tupD (houseOf n)) →
      Q .next { s with heap := h', toks := tk }) :
    wpAny (model prg w) A (execs housesT (housesEnv L)) Q (fun _ _ => False) s := by
  subst hv
  refine wpAny_execs_cons (wpAny_Assign_Name (wpAny_BinOp (ld F₂ (by walk_at "mine look") (wpAny_Constant_int (mod_int' (by decide) (stN F₂ N₂ fun h₃ F₃ N₃ => ?_))))) (by with_unfolding_all rfl))
  refine wpAny_execs_cons (wpAny_Expr (MethodCall_ (ld F₃ (by walk_at "mine look") (kl_method N₃ (.head _) PySem.F.slot_list_append PySem.F.type_list_append (PyProof.Rows.callWith_method1 (spliced_more ?_))))))
  refine houses_elt F₃ N₃ (by walk_at "mine look") (by walk_at "mine look") (fun h₄ tk₄ ob F₄ N₄ dt => spliced_none ?_)
  have hfresh : ∀ p ∈ (H, listOf us.toArray i) :: rest, p.1 ≠ h₃.objs.size := fun p hp => Nat.ne_of_lt (Heap.lt_size (N₃ p hp).1)
  refine append_K F₄ N₄ (.tail (hfresh _ (.head _)).symm (.head hne)) (fun h₅ F₅ N₅ => ?_) (by rw [List.size_toArray]; unfold sizeLine; omega)
  rw [List.push_toArray] at N₅
  refine wpAny_execs_nil (h h₅ _ _ _ _ F₅ (fun p hp => ?_) (by walk_at "mine look") hfresh dt)
  exact N₅ p (by
      rcases List.mem_cons.mp hp with rfl | hp
      · exact .tail _ (.head _)
      · rcases List.mem_cons.mp hp with rfl | hp
        · exact .head _
        · exact .tail _ (.tail _ hp))

set_option maxHeartbeats 400000 in
theorem houses_loop {w : World} {A : Around} {L H ax : Addr} {g : Heap} {s : Shared} {m : Str → Option Value} {news : List (Addr × Obj)} {zs : List Value} {ns : List Int} {Q : Flow → Shared → Prop}
    (S : Site w A (housesEnv L) L g 0) (F₅ : Fr g L s.heap m) (N₆ : News g L s.heap ((H, listOf ([] : List Value).toArray 0) :: ([] ++ ((ax, listOf zs.toArray 0) :: news)))) (i₅ : IntsAre zs (numsOf ns)) (hax : ax ≠ H) (hH : ∀ p ∈ news, p.1 ≠ H)
    (m1 : m (Str.ofString "houses") = some (.ref H))
    (h : ∀ h' tk m' us bs, Fr g L h' m' → News g L h' ((H, listOf us.toArray (numsOf ns).length) :: (bs ++ news)) → Its bs us ((numsOf ns).map houseOf) → m' (Str.ofString "houses") = some (.ref H) → Q .next { s with heap := h', toks := tk }) :
    wpAny (model prg w) A (pyIter (.ref ax)) (fun it s₂ => LoopAtV prg w A g (housesEnv L) (Str.ofString "number") housesT Q (fun _ _ => False) it s₂) (fun _ _ => False) s := by
  have hzl := i₅.length
  have hnl : (numsOf ns).length < 100 := by unfold numsOf; simp; omega
  let J : Nat → (Str → Option Value) → List (Addr × Obj) → Prop := fun i m₁ nx => ∃ (us : List Value) (bs : List (Addr × Obj)), nx = (H, listOf us.toArray i) :: (bs ++ ((ax, listOf zs.toArray 0) :: news)) ∧ (∀ p ∈ bs ++ ((ax, listOf zs.toArray 0) :: news), p.1 ≠ H) ∧
    Its bs us (((numsOf ns).take i).map houseOf) ∧ i ≤ (numsOf ns).length ∧ m₁ (Str.ofString "houses") = some (.ref H)
  refine kdl_iter (l := ax) (vs := zs) (nn := 0) J S.handled (.tail _ (.head _)) F₅ N₆ ⟨[], [], rfl, ?_, its_nil, Nat.zero_le _, m1⟩ ?_ ?_
  · intro p hp
    rcases List.mem_cons.mp hp with rfl | hp
    · exact hax
    · exact hH p hp
  · rintro i v m₁ nx h₂ tk own hv hoff hmem ⟨us, bs, rfl, hne, I₁, hile, a1⟩ F₂ N₂
    obtain ⟨n, t, hvn, hn⟩ := ints_get i₅ hv
    rw [List.cons_append] at N₂
    have hilt : i < (numsOf ns).length := (List.getElem?_eq_some_iff.mp hn).1
    have hul := I₁.length
    have htl : ((numsOf ns).take i).length ≤ i := by simp; omega
    have hul' : us.length < 1000 := by rw [hul, List.length_map]; omega
    have hne' : ∀ p ∈ bs ++ ((ax, listOf zs.toArray 0) :: news) ++ own, p.1 ≠ H := by
      intro p hp
      rcases List.mem_append.mp hp with hp | hp
      · exact hne p hp
      · exact hoff p hp H (.head _)
    refine houses_turn S hvn F₂ N₂ hne' hul' a1 ?_
    intro h' tk' m' t₃ ob F₃ N₃ b1 hfr dt
    refine InvEndG.intro (s₁ := { s with heap := h₂, toks := tk }) (nx := (H, listOf (us ++ [Value.ref t₃]).toArray (i + 1)) :: (((t₃, ob) :: bs) ++ ((ax, listOf zs.toArray 0) :: news))) F₃ N₃ ⟨?_, us ++ [Value.ref t₃], (t₃, ob) :: bs, rfl, ?_, ?_, hilt, b1⟩ ?_ ?_ ?_
    · exact .tail _ (.tail _ (List.mem_append.mpr (.inr (.head _))))
    · intro p hp
      rcases List.mem_cons.mp hp with rfl | hp
      · exact fun e => hfr _ (.head _) e.symm
      · exact hne p hp
    · have e : (numsOf ns).take (i + 1) = (numsOf ns).take i ++ [n] := by simp [List.take_add_one, hn]
      rw [e, List.map_append]
      exact Its.append (dt.mono fun p hp => by rcases List.mem_singleton.mp hp with rfl; exact .head _) (I₁.mono fun p hp => .tail _ hp)
    · intro p hp b hb
      rcases List.mem_cons.mp hb with rfl | hb
      · exact hoff p hp _ (.head _)
      · rcases List.mem_cons.mp hb with rfl | hb
        · exact hfr p (.tail _ (List.mem_append.mpr (.inr hp)))
        · exact hoff p hp b (.tail _ hb)
    · intro p hp
      rcases List.mem_cons.mp hp with rfl | hp
      · exact .head _
      · rcases List.mem_cons.mp hp with rfl | hp
        · exact .tail _ (.head _)
        · exact .tail _ (.tail _ (List.mem_append.mpr (.inl hp)))
    · exact fun p hp => .tail _ (.tail _ (List.mem_append.mpr (.inr hp)))
  · rintro m₁ nx h₂ tk ⟨us, bs, rfl, hne, I₁, hile, a1⟩ F₂ N₂
    rw [hzl, List.take_length] at I₁
    rw [hzl] at N₂
    refine h h₂ _ m₁ us bs F₂ (fun p hp => N₂ p ?_) I₁ a1
    rcases List.mem_cons.mp hp with rfl | hp
    · exact .head _
    · rcases List.mem_append.mp hp with hp | hp
      · exact .tail _ (List.mem_append.mpr (.inl hp))
      · exact .tail _ (List.mem_append.mpr (.inr (.tail _ hp)))

set_option maxHeartbeats 400000 in
theorem houses_body {w : World} {A : Around} {L l : Addr} {g : Heap} {s : Shared} {m : Str → Option Value} {news : List (Addr × Obj)} {vs : List Value} {ns : List Int} {Q : Flow → Shared → Prop}
    (S : Site w A (housesEnv L) L g 0) (F : Fr g L s.heap m) (N : News g L s.heap news) (hl : g.IsList l vs.toArray) (hi : IntsAre vs ns) (hfit : ns.length < 1000)
    (m1 : m (Str.ofString "script") = some (.ref l))
    (h : ∀ h' tk m' H us c bs, Fr g L h' m' → News g L h' ((H, listOf us.toArray c) :: (bs ++ news)) → Its bs us ((numsOf ns).map houseOf) → Q (.ret (.ref H)) { s with heap := h', toks := tk }) :
    wpAny (model prg w) A (execs housesB (housesEnv L)) Q (fun _ _ => False) s := by
  obtain ⟨loose, mean, mg, mb, T⟩ := S.top
  have hvl := hi.length
  refine wpAny_execs_cons (wpAny_Assign_Name (List_ (spliced_none (newList_N F N fun h₁ F₁ N₁ => stN F₁ N₁ fun h₂ F₂ N₂ => ?_))) (by with_unfolding_all rfl))
  have hH : ∀ p ∈ news, p.1 ≠ s.heap.objs.size := fun p hp => Nat.ne_of_lt (Heap.lt_size (N p hp).1)
  generalize s.heap.objs.size = H at *
  have hl₂ : h₂.IsList l vs.toArray := hl.at fun o e => F₂.keep l o e
  refine wpAny_execs_cons (For_invVF F₂ rfl rfl ?_ (hE := PassesOwn.never))
  refine wpAny_BinOp (Subscript_ (ld F₂ (by walk_at "mine look") (Slice_to (wpAny_Constant_int ?_))))
  refine slice_list F₂ N₂ hl₂ .none (.int _ _) (fun h₃ F₃ N₃ => ?_) (hsz := by unfold sizeLine; simp; omega)
  have i₈ : IntsAre (slicePick vs.toArray none (some 8) none).toList (ns.take 8) := kmk_upto hi (by decide)
  refine List_ (spliced_more (wpAny_Constant_int (spliced_more (wpAny_Constant_int (spliced_more (wpAny_Constant_int (spliced_more (wpAny_Constant_int (spliced_none ?_)))))))))
  refine newList_N F₃ N₃ (fun h₄ F₄ N₄ => ?_) (by unfold sizeLine; simp)
  refine add_arrays_ints F₄ N₄ ⟨_, (N₄ _ (.tail _ (.head _))).1, rfl, _, rfl⟩ ⟨_, (N₄ _ (.head _)).1, rfl, _, rfl⟩ i₈ (.cons _ _ (.cons _ _ (.cons _ _ (.cons _ _ .nil)))) (fun h₅ F₅ N₅ i₅ => ?_) (by unfold sizeLine; simp; omega)
  have hax : h₄.objs.size ≠ H := fun e => by
    have := Heap.lt_size (N₄ _ (.tail _ (.tail _ (.head _)))).1
    exact Nat.lt_irrefl _ (e ▸ this)
  refine houses_loop (ns := ns) (news := news) (H := H) S F₅ (fun p hp => ?_) i₅ hax hH (by walk_at "mine look") ?_
  · rcases List.mem_cons.mp hp with rfl | hp
    · exact N₅ _ (.tail _ (.tail _ (.tail _ (.head _))))
    · rcases List.mem_cons.mp hp with rfl | hp
      · exact N₅ _ (.head _)
      · exact N₅ _ (.tail _ (.tail _ (.tail _ (.tail _ hp))))
  · intro h' tk m' us bs F₆ N₆ I₆ a1
    exact wpAny_execs_cons (wpAny_Return_some (ld F₆ a1 (h h' _ m' H us _ bs F₆ N₆ I₆)))

theorem houses_call {w : World} {A : Around} {env : Env} {L l : Addr} {h₀ : Heap} {d : Nat} {s : Shared} {m : Str → Option Value} {news : List (Addr × Obj)} {vs : List Value} {ns : List Int} {Q : Value → Shared → Prop} {E : Value → Shared → Prop}
    (S : Site w A env L h₀ (d + 1)) (F : Fr h₀ L s.heap m) (N : News h₀ L s.heap news) (hl : h₀.IsList l vs.toArray) (hi : IntsAre vs ns) (hfit : ns.length < 1000)
    (h : ∀ h' tk H us c bs, Fr h₀ L h' m → News h₀ L h' ((H, listOf us.toArray c) :: (bs ++ news)) → Its bs us ((numsOf ns).map houseOf) → Q (.ref H) { s with heap := h', toks := tk }) :
    wpAny (model prg w) A (PySem.call (.ref 56) [.ref l] []) Q E s := by
  refine S.callS (name := Str.ofString "_law_houses") (qual := Str.ofString "_law_houses") (body := housesB) (scope := housesS) (cdv := .ref 55)
    (binds := [(Str.ofString "script", .ref l)]) F N (by with_unfolding_all rfl) (by with_unfolding_all rfl) (BindsTo.of_eq rfl) (locs rfl) ?_
  intro g L' h₁ tk hst S' F' N'
  refine houses_body (S'.less (Nat.zero_le d)) F' N' (hl.at fun o e => hst _ o e) hi hfit rfl ?_
  intro h' tk' m' H us c bs F2 N2 I2
  exact ⟨h', tk', m', _, rfl, F2, N2, fun a b => h h' tk' H us c bs a b I2⟩
end Mine
end

section
namespace Mine
/-- the houses: where they begin, where they end, how high -/
def Good (H : List Key) : Prop := ∀ k ∈ H, ∃ l r h : Int, k = [l, r, h] ∧ 0 ≤ l ∧ l < 10 ∧ r ≤ 15
theorem good_houses (ns : List Int) : Good (ns.map houseOf) := by
  intro k hk
  obtain ⟨n, _, rfl⟩ := List.mem_map.mp hk
  refine ⟨_, _, _, rfl, ?_, ?_, ?_⟩
  · exact Int.fmod_nonneg_of_pos _ (by decide)
  · exact Int.fmod_lt_of_pos _ (by decide)
  · have h1 := Int.fmod_lt_of_pos n (show (0:Int) < 10 by decide)
    have h2 := Int.fmod_lt_of_pos (n.fdiv 10) (show (0:Int) < 5 by decide)
    omega
def waitOf (k : Key) : Key := [k.getD 0 0, -(k.getD 2 0), k.getD 1 0]

structure InvA (H : List Key) (p : Int) (W S : List Key) : Prop where
  hw : HeapFrom 0 W
  hs : HeapFrom 0 S
  len : W.length + S.length ≤ H.length
  w1 : ∀ k ∈ W, ∃ l r h : Int, k = [l, -h, r] ∧ [l, r, h] ∈ H ∧ p ≤ l
  w2 : ∀ l r h : Int, [l, r, h] ∈ H → p < l → [l, -h, r] ∈ W
  s1 : ∀ k ∈ S, ∃ l r h : Int, k = [-h, r] ∧ [l, r, h] ∈ H ∧ l ≤ p
  s2 : ∀ l r h : Int, [l, r, h] ∈ H → l ≤ p → p < r → [-h, r] ∈ S ∨ (l = p ∧ [l, -h, r] ∈ W)
structure InvB (H : List Key) (p : Int) (W S : List Key) : Prop where
  hw : HeapFrom 0 W
  hs : HeapFrom 0 S
  len : W.length + S.length ≤ H.length
  w1 : ∀ k ∈ W, ∃ l r h : Int, k = [l, -h, r] ∧ [l, r, h] ∈ H ∧ p < l
  w2 : ∀ l r h : Int, [l, r, h] ∈ H → p < l → [l, -h, r] ∈ W
  s1 : ∀ k ∈ S, ∃ l r h : Int, k = [-h, r] ∧ [l, r, h] ∈ H ∧ l ≤ p
  s2 : ∀ l r h : Int, [l, r, h] ∈ H → l ≤ p → p < r → [-h, r] ∈ S

theorem invB_start {H : List Key} (g : Good H) : InvB H (-1) (hfyR ((H.map waitOf).length / 2) (H.map waitOf)) [] := by
  obtain ⟨h1, h2⟩ := heapify_spec (H.map waitOf)
  refine ⟨h1, fun i a b c => by simp at c, ?_, ?_, ?_, (fun k hk => nomatch hk), ?_⟩
  · rw [h2.length_eq]; simp
  · intro k hk
    obtain ⟨x, hx, rfl⟩ := List.mem_map.mp (h2.mem_iff.mp hk)
    obtain ⟨l, r, h, rfl, a, b, c⟩ := g x hx
    exact ⟨l, r, h, rfl, hx, by omega⟩
  · intro l r h hm _
    exact h2.mem_iff.mpr (List.mem_map.mpr ⟨_, hm, rfl⟩)
  · intro l r h hm hl
    obtain ⟨l', r', h', e, a, b, c⟩ := g _ hm
    injection e with e1 _
    omega
theorem invA_next {H : List Key} {p : Int} {W S : List Key} (I : InvB H (p - 1) W S) : InvA H p W S := by
  refine ⟨I.hw, I.hs, I.len, ?_, fun l r h a b => I.w2 l r h a (by omega), ?_, ?_⟩
  · intro k hk
    obtain ⟨l, r, h, e, a, b⟩ := I.w1 k hk
    exact ⟨l, r, h, e, a, by omega⟩
  · intro k hk
    obtain ⟨l, r, h, e, a, b⟩ := I.s1 k hk
    exact ⟨l, r, h, e, a, by omega⟩
  · intro l r h a b c
    by_cases e : l = p
    · exact .inr ⟨e, I.w2 l r h a (by omega)⟩
    · exact .inl (I.s2 l r h a (by omega) (by omega))
theorem at_mem {W : List Key} (h : W ≠ []) : at' W 0 ∈ W := by
  cases W with
  | nil => exact absurd rfl h
  | cons a r => exact .head _
theorem hpop_length {W : List Key} (hne : W ≠ []) (h : HeapFrom 0 W) : (hpop W).length + 1 = W.length := by
  have := (pop_spec hne h).2.length_eq
  simpa using this
theorem invA_step {H : List Key} {p l h r : Int} {W S : List Key} (I : InvA H p W S) (hne : W ≠ []) (e : at' W 0 = [l, h, r]) (hl : l = p) : InvA H p (hpop W) (hpush S [h, r]) := by
  subst hl
  obtain ⟨a1, a2⟩ := pop_spec hne I.hw
  obtain ⟨b1, b2⟩ := push_spec (x := [h, r]) I.hs
  obtain ⟨l', r', h', e', hH, hp⟩ := I.w1 _ (at_mem hne)
  rw [e] at e'
  injection e' with e1 e'
  injection e' with e2 e'
  injection e' with e3 _
  subst e1 e2 e3
  have hmem : ∀ k, k ∈ W → k = at' W 0 ∨ k ∈ hpop W := fun k hk => by
    have := a2.mem_iff.mpr hk
    simpa using this
  refine ⟨a1, b1, ?_, fun k hk => I.w1 k (a2.mem_iff.mp (.tail _ hk)), ?_, ?_, ?_⟩
  · have c1 := a2.length_eq
    have c2 := b2.length_eq
    have := I.len
    simp at c1 c2
    omega
  · intro x r h'' hx hlt
    rcases hmem _ (I.w2 x r h'' hx hlt) with q | q
    · rw [e] at q; injection q with q _; omega
    · exact q
  · intro k hk
    rcases List.mem_cons.mp (b2.mem_iff.mp hk) with rfl | hk
    · exact ⟨_, _, _, rfl, hH, Int.le_refl _⟩
    · exact I.s1 k hk
  · intro x y z hx h1 h2
    rcases I.s2 x y z hx h1 h2 with q | ⟨q1, q2⟩
    · exact .inl (b2.mem_iff.mpr (.tail _ q))
    · rcases hmem _ q2 with q | q
      · rw [e] at q
        injection q with _ q
        rw [q]
        exact .inl (b2.mem_iff.mpr (.head _))
      · exact .inr ⟨q1, q⟩
theorem kle_head {a b : Int} {x y : Key} (h : kle (a :: x) (b :: y)) : a ≤ b := by
  unfold kle at h
  rw [klt] at h
  split at h
  · omega
  · simp at h; omega
theorem top_le {W : List Key} (h : HeapFrom 0 W) {k : Key} (hk : k ∈ W) : kle (at' W 0) k := by
  obtain ⟨i, hi, rfl⟩ := List.getElem_of_mem hk
  rw [← at_eq hi]
  exact heap_min h i hi
theorem invA_exit {H : List Key} {p : Int} {W S : List Key} (I : InvA H p W S) (hx : ∀ l h r, W ≠ [] → at' W 0 = [l, h, r] → l ≠ p) : InvB H p W S := by
  have w1 : ∀ k ∈ W, ∃ l r h : Int, k = [l, -h, r] ∧ [l, r, h] ∈ H ∧ p < l := by
    intro k hk
    have hne : W ≠ [] := fun q => by rw [q] at hk; cases hk
    obtain ⟨l, r, h, rfl, a, b⟩ := I.w1 k hk
    obtain ⟨l', r', h', e', _, b'⟩ := I.w1 _ (at_mem hne)
    have := hx _ _ _ hne e'
    have q := top_le I.hw hk
    rw [e'] at q
    have := kle_head q
    exact ⟨l, r, h, rfl, a, by omega⟩
  refine ⟨I.hw, I.hs, I.len, w1, I.w2, I.s1, ?_⟩
  intro l r h a b c
  rcases I.s2 l r h a b c with q | ⟨q1, q2⟩
  · exact q
  · obtain ⟨l', r', h', e', _, b'⟩ := w1 _ q2
    injection e' with e1 _
    omega
theorem invB_step {H : List Key} {p x r : Int} {W S : List Key} (I : InvB H p W S) (hne : S ≠ []) (e : at' S 0 = [x, r]) (hr : r ≤ p) : InvB H p W (hpop S) := by
  obtain ⟨a1, a2⟩ := pop_spec hne I.hs
  refine ⟨I.hw, a1, ?_, I.w1, I.w2, fun k hk => I.s1 k (a2.mem_iff.mp (.tail _ hk)), ?_⟩
  · have c1 := a2.length_eq
    have := I.len
    simp at c1
    omega
  · intro l r' h a b c
    have q := a2.mem_iff.mpr (I.s2 l r' h a b c)
    rcases List.mem_cons.mp q with q | q
    · rw [e] at q
      injection q with _ q
      injection q with q _
      omega
    · exact q
/-- what is due at a place -/
def cov (p : Int) (k : Key) : Bool := decide (k.getD 0 0 ≤ p) && decide (p < k.getD 1 0)
def dueAt (H : List Key) (p : Int) : Int := ((H.filter (cov p)).map fun k => k.getD 2 0).foldl max 0
theorem foldl_max_ge : ∀ (l : List Int) (a : Int), a ≤ l.foldl max a ∧ ∀ x ∈ l, x ≤ l.foldl max a
  | [], a => ⟨Int.le_refl _, fun _ h => nomatch h⟩
  | y :: l, a => by
    obtain ⟨h1, h2⟩ := foldl_max_ge l (max a y)
    rw [List.foldl_cons]
    refine ⟨by omega, fun x hx => ?_⟩
    rcases List.mem_cons.mp hx with rfl | hx
    · omega
    · exact h2 x hx
theorem foldl_max_le : ∀ (l : List Int) (a b : Int), a ≤ b → (∀ x ∈ l, x ≤ b) → l.foldl max a ≤ b
  | [], _, _, h, _ => h
  | y :: l, a, b, h, hl => by
    rw [List.foldl_cons]
    exact foldl_max_le l _ b (by have := hl y (.head _); omega) fun x hx => hl x (.tail _ hx)
theorem invB_due {H : List Key} {p x r : Int} {W S : List Key} (I : InvB H p W S) (g : Good H) (hne : S ≠ []) (e : at' S 0 = [x, r]) (hr : p < r) : (if -x > 0 then -x else 0) = dueAt H p := by
  obtain ⟨l', r', h', e', hH, hl⟩ := I.s1 _ (at_mem hne)
  rw [e] at e'
  injection e' with e1 e'
  injection e' with e2 _
  subst e2
  have hx : -x = h' := by omega
  have hin : h' ∈ (H.filter (cov p)).map fun k => k.getD 2 0 := by
    refine List.mem_map.mpr ⟨_, List.mem_filter.mpr ⟨hH, ?_⟩, rfl⟩
    show (decide (l' ≤ p) && decide (p < r)) = true
    simp [hl, hr]
  obtain ⟨c1, c2⟩ := foldl_max_ge ((H.filter (cov p)).map fun k => k.getD 2 0) 0
  have hle : dueAt H p ≤ max 0 h' := by
    refine foldl_max_le _ 0 _ (by omega) fun y hy => ?_
    obtain ⟨k, hk, rfl⟩ := List.mem_map.mp hy
    obtain ⟨k1, k2⟩ := List.mem_filter.mp hk
    obtain ⟨l, r₂, h, rfl, _, _, _⟩ := g k k1
    have k3 : (decide (l ≤ p) && decide (p < r₂)) = true := k2
    simp at k3
    have q := top_le I.hs (I.s2 l r₂ h k1 k3.1 k3.2)
    rw [e] at q
    have := kle_head q
    show h ≤ max 0 h'
    omega
  have := c2 _ hin
  unfold dueAt at *
  rw [hx]
  split <;> omega
theorem invB_due0 {H : List Key} {p : Int} {W : List Key} (I : InvB H p W []) (g : Good H) : 0 = dueAt H p := by
  have : H.filter (cov p) = [] := by
    rw [List.filter_eq_nil_iff]
    intro k hk
    obtain ⟨l, r, h, rfl, _, _, _⟩ := g k hk
    show ¬ (decide (l ≤ p) && decide (p < r)) = true
    intro q
    simp at q
    exact nomatch I.s2 l r h hk q.1 q.2
  unfold dueAt
  rw [this]; rfl
theorem invB_endW {H : List Key} {p : Int} {W S : List Key} (I : InvB H p W S) (g : Good H) (hp : 9 ≤ p) : W = [] := by
  cases W with
  | nil => rfl
  | cons k r =>
    obtain ⟨l, r, h, rfl, a, b⟩ := I.w1 k (.head _)
    obtain ⟨l', r', h', e', a', b', _⟩ := g _ a
    injection e' with e1 _
    omega
theorem invB_endS {H : List Key} {p : Int} {W S : List Key} (I : InvB H p W S) (g : Good H) (hp : 15 ≤ p) (hx : ∀ x r, S ≠ [] → at' S 0 = [x, r] → p < r) : S = [] := by
  cases S with
  | nil => rfl
  | cons k q =>
    obtain ⟨l, r, h, e, a, b⟩ := I.s1 k (.head _)
    obtain ⟨l', r', h', e', a', b', c'⟩ := g _ a
    injection e' with e1 e'
    injection e' with e2 _
    have := hx (-h) r (by simp) e
    omega
end Mine
end

section
open PySem PySem.W PyProof.Rows PySem.Calls
set_option maxRecDepth 100000
namespace Mine
local macro_rules | `(tactic| walk_at "mine look") => `(tactic| first | with_reducible assumption | exact rfl | (refine (if_neg (by decide)).trans ?_; walk_at "mine look"))
theorem pop_raise {prog : Program} {w : World} {A : Around} {E : Value → Shared → Prop} {s : Shared} {l : Addr} {c : Nat} {Q : Value → Shared → Prop} (hh : A.handled = none) (z : s.heap.get? l = some (listOf ([] : List Value).toArray c))
    (h : ∀ h' tk e, Heap.NewExc s.heap h' e "IndexError" → E (.ref e) { s with heap := h', toks := tk }) : wpAny (model prog w) A (call (.builtin "list.pop") [.ref l]) Q E s :=
  call_meets PySem.F.slot_list_pop ⟨_, z, rfl⟩ PySem.F.entry_list_pop (PySem.F.args_list_pop_1 _) (PySem.AutoSeq1.list_pop_list_0 l _ c rfl) ⟨z, hh, h⟩

abbrev empEnv (L : Addr) : Env := envOf (Str.ofString "_law_empty") empS L 75 (.ref 74)

/-- heappop of an empty list, from a frame whose outer frames are known -/
theorem pop_empty {w : World} {A A₀ : Around} {env : Env} {L l : Addr} {g base : Heap} {outer : List Env} {s : Shared} {m : Str → Option Value} {rest : List (Addr × Obj)} {c : Nat} {loose : List Str} {mean : ExcName → Option Value} {mg mb : Str → Option Value} {Q : Value → Shared → Prop} {E : Value → Shared → Prop}
    (B : Below A₀ base outer g) (hA : A.frames = some (env :: outer)) (hf : env.frame = some L) (hk : env.scope.kind = .function) (X : (KF w).In g) (T : Top Mine.hd.view_39 loose mean mg mb g) (hd : A.depth < 900) (hh : A.handled = none)
    (F : Fr g L s.heap m) (N : News g L s.heap ((l, listOf ([] : List Value).toArray c) :: rest))
    (h : ∀ G h' tk e, Fr g L G m → RaisedSN base G (env :: outer) e (.type "IndexError") ((l, listOf ([] : List Value).toArray c) :: rest) h' → G.UpToSlots h' → E (.ref e) { s with heap := h', toks := tk }) :
    wpAny (model prg w) A (PySem.call (.ref 28) [.ref l] []) Q E s := by
  refine wpAny_call (code_def (name := Str.ofString "heappop") (qual := Str.ofString "heappop") (body := popB) (scope := popS) (cdv := .ref 27) (binds := [(Str.ofString "heap", .ref l)]) B F X N T hA hf hk (by with_unfolding_all rfl) (by with_unfolding_all rfl) (by show A.depth < 1000; omega) (BindsTo.of_eq rfl) (locs rfl) ?_ rfl rfl rfl (by decide))
  intro g' L' h₁ FG F' N' B' X' T'
  refine wpAny_execs_cons (wpAny_Assign_Name (MethodCall_ (ld F' rfl (kl_method N' (.head _) PySem.F.slot_list_pop PySem.F.type_list_pop (PyProof.Rows.callWith_method0 (pop_raise hh (N' _ (.head _)).1 fun h' tk e hx => ?_))))) (by with_unfolding_all rfl))
  refine leave_newS B' hx F' N' fun h₂ R _ U => h g' h₂ tk e FG R U

section
variable {prog : Program} {w : World} {A : Around} {E : Value → Shared → Prop} {s : Shared} {h₀ : Heap} {L l : Addr} {m : Str → Option Value} {news base : List (Addr × Obj)}
theorem eq_nil_val {name : Str} {scope : Scope} {a : Addr} {cd : Value} {x : Str} {p1 p2 p3 : Pos} {c : Nat} {Q : Value → Shared → Prop} (hr : A.units + 64 < cLine) (F : Fr h₀ L s.heap m) (N : News h₀ L s.heap news) (hm : (l, listOf ([] : List Value).toArray c) ∈ news)
    (mx : m x = some (.ref l)) (h : ∀ h', Fr h₀ L h' m → News h₀ L h' news → Q (.bool true) { s with heap := h' })
    (hk : scope.kind = .function := by rfl) (hl : (envOf name scope L a cd).kindOf x = some .local := by rfl) (hd : (x == ("__debug__" : Str)) = false := by decide) :
    wpAny (model prog w) A (eval (.Compare (.Name x p1) [.Eq] [.List [] p2] p3) (envOf name scope L a cd)) Q E s := by
  refine wpAny_Compare1 (ld F mx (List_ (spliced_none (newList_N F N fun h' F' N' => ?_ ))) hk hl hd)
  refine kqd_eq (n₁ := []) (n₂ := []) (ds := []) (es := []) N' (.tail _ hm) rfl rfl .nil (fun _ h => nomatch h) (.head _) rfl rfl .nil (fun _ h => nomatch h) (fun _ h => nomatch h) (fun _ h => nomatch h) hr ?_
  rw [decide_eq_true rfl]
  exact h h' F' fun p hp => N' p (.tail _ hp)
end

set_option maxHeartbeats 400000 in
theorem emp_body {w : World} {A : Around} {L l : Addr} {g base : Heap} {outer : List Env} {s : Shared} {m : Str → Option Value} {rest : List (Addr × Obj)} {c : Nat} {loose : List Str} {mean : ExcName → Option Value} {mg mb : Str → Option Value} {Q : Flow → Shared → Prop}
    (B : Below A base outer g) (X : (KF w).In g) (T : Top Mine.hd.view_39 loose mean mg mb g) (XB : (KF w).In base) (TB : Top Mine.hd.view_39 loose mean mg mb base) (D : KtsDicts (outer.filterMap (·.frame)) g)
    (hd : A.depth + 1 < 900) (hu : A.units + 70 < cLine) (hh : A.handled = none)
    (F : Fr g L s.heap m) (N : News g L s.heap ((l, listOf ([] : List Value).toArray c) :: rest)) (m1 : m (Str.ofString "heap") = some (.ref l))
    (h : ∀ h' tk g', KtsTurn (outer.filterMap (·.frame)) g g' → Fr g' L h' m → News g' L h' ((l, listOf ([] : List Value).toArray c) :: rest) → Q (.ret (.bool true)) { s with heap := h', toks := tk }) :
    wpAny (model prg w) (A.deeper (empEnv L)) (execs empB (empEnv L)) Q (fun _ _ => False) s := by
  have hu' : (A.deeper (empEnv L)).units + 64 < cLine := by show A.units + 3 + 64 < cLine; omega
  refine wpAny_execs_cons (wpAny_If (ne_nil (base := []) (ks := []) hu' F N (.head _) (fun _ h => nomatch h) its_nil m1 fun h₁ F₁ N₁ => if_bf rfl (wpAny_execs_nil ?_)))
  refine wpAny_execs_cons (wpAny_Try_except ?_)
  refine wpAny_execs_cons (wpAny_Expr (Call_ (name_K F₁ X (topRead_of T) (by with_unfolding_all rfl) (callWith_K X (by with_unfolding_all rfl) (spliced_more (ld F₁ m1 (spliced_none ⟨X.keeps F₁.keep, ?_⟩)))))))
  refine pop_empty B (Around.frames_deeper B.stack) rfl rfl X T hd hh F₁ N₁ fun G h₂ tk₂ e FG R U => ?_
  refine caught_SN0 (X := "IndexError") (T' := "IndexError") R FG B U XB TB D KtsTurn.refl (by with_unfolding_all rfl) PyProof.Rows.Boot.«IndexError» (by decide) PySem.F.isExc_IndexError PySem.F.notTuple_IndexError (by rw [isSubtype_type]; kernel_rfl) ?_ (hE := PassesOwnAt.never)
  intro h₃ g' K₃ F₃ N₃ B₃ X₃ T₃ D₃
  have hu'' : ((A.deeper (empEnv L)).mark (some (.ref e))).units + 64 < cLine := hu'
  refine wpAny_execs_cons (wpAny_Return_some (eq_nil_val hu'' F₃ N₃ (.head _) m1 fun h₄ F₄ N₄ => ?_))
  exact h h₄ _ g' K₃ F₄ N₄

/-- _law_empty of an empty list -/
theorem emp_call {w : World} {A A₀ : Around} {L l a : Addr} {cn : Str} {cs : Scope} {ccd : Value} {h₀ base : Heap} {outer : List Env} {s : Shared} {m : Str → Option Value} {rest : List (Addr × Obj)} {c : Nat} {loose : List Str} {mean : ExcName → Option Value} {mg mb : Str → Option Value} {Q : Value → Shared → Prop} {E : Value → Shared → Prop}
    (B : Below A₀ base outer h₀) (hA : A.frames = some (envOf cn cs L a ccd :: outer)) (hck : cs.kind = .function) (X : (KF w).In h₀) (T : Top Mine.hd.view_39 loose mean mg mb h₀) (XB : (KF w).In base) (TB : Top Mine.hd.view_39 loose mean mg mb base) (D : KtsDicts (outer.filterMap (·.frame)) h₀)
    (hd : A.depth + 1 < 900) (hu : A.units + 70 < cLine) (hh : A.handled = none)
    (F : Fr h₀ L s.heap m) (N : News h₀ L s.heap ((l, listOf ([] : List Value).toArray c) :: rest))
    (h : ∀ h' tk h₀', KtsTurn (outer.filterMap (·.frame)) h₀ h₀' → Fr h₀' L h' m → News h₀' L h' ((l, listOf ([] : List Value).toArray c) :: rest) → Below A₀ base outer h₀' → (KF w).In h₀' → Top Mine.hd.view_39 loose mean mg mb h₀' → KtsDicts (outer.filterMap (·.frame)) h₀' →
      Q (.bool true) { s with heap := h', toks := tk }) :
    wpAny (model prg w) A (PySem.call (.ref 75) [.ref l] []) Q E s := by
  refine wpAny_call (code_defS (g₀ := h₀) (name := Str.ofString "_law_empty") (qual := Str.ofString "_law_empty") (body := empB) (scope := empS) (cdv := .ref 74) (binds := [(Str.ofString "heap", .ref l)]) B F X N T XB TB D KtsTurn.refl hA (by with_unfolding_all rfl) (by with_unfolding_all rfl) (by show A.depth < 1000; omega) (BindsTo.of_eq rfl) (locs rfl) ?_ hck rfl rfl rfl (by decide))
  intro g L' h₁ FG F' N' B' X' T' D'
  refine wpAny_mono (emp_body (Q := fun fl s' => fl = .ret (.bool true) ∧ ∃ h' tk g' m', s' = { s with heap := h', toks := tk } ∧ KtsTurn ((envOf cn cs L a ccd :: outer).filterMap (·.frame)) g g' ∧ Fr g' L' h' m' ∧ News g' L' h' ((l, listOf ([] : List Value).toArray c) :: rest)) B' X' T' XB TB D' hd hu hh F' N' rfl ?_) ?_ (fun _ _ x => x.elim)
  · exact fun h' tk g' K₂ F₂ N₂ => ⟨rfl, h', tk, g', _, rfl, K₂, F₂, N₂⟩
  · rintro _ _ ⟨rfl, h', tk, g', m', rfl, K₂, F₂, N₂⟩
    exact leaveS_r F₂ N₂ K₂ fun h₀' a b c d e f i => h h' tk h₀' a b c d e f i

/-- a call from the outermost frame, whatever its environment, of a def behind whose try that frame's slots may have turned -/
theorem call_S0 {w : World} {A A₀ : Around} {env : Env} {L : Addr} {h₀ base : Heap} {s : Shared} {m : Str → Option Value} {news : List (Addr × Obj)} {loose : List Str} {mean : ExcName → Option Value} {mg mb : Str → Option Value} {Q : Value → Shared → Prop} {E : Value → Shared → Prop}
    {name qual : Str} {params : Arguments} {body : List Stmt} {scope : Scope} {dV kV doc pm cdv ct oc : Value} {an od : Option Addr} {osl : Array (Option Value)} {f : Addr} {args : List Value} {binds : List (Str × Value)}
    (B : Below A₀ base [] h₀) (hA : A.frames = some [env]) (hf : env.frame = some L) (hke : env.scope.kind = .function) (X₀ : (KF w).In h₀) (T : Top Mine.hd.view_39 loose mean mg mb h₀) (F : Fr h₀ L s.heap m) (N : News h₀ L s.heap news)
    (ho : (KF w).lookup f = some ⟨oc, od, .func (fnOf name qual params body scope dV kV doc pm an cdv ct), osl⟩) (hcd : codeIn (KF w) cdv qual = true) (hroom : A.depth < 900)
    (hbind : BindsTo s (fnOf name qual params body scope dV kV doc pm an cdv ct) ⟨args, []⟩ binds) (hloc : ∀ y ∈ binds, scope.names.lookup y.1 = some .local)
    (h : ∀ g L' h₁ tk, Fr g L' h₁ (fun y => binds.reverse.lookup y) → News g L' h₁ news → Below A base [env] g → (KF w).In g → Top Mine.hd.view_39 loose mean mg mb g → KtsDicts ([env].filterMap (·.frame)) g →
      wpAny (model prg w) (A.deeper (envOf qual scope L' f cdv)) (execs body (envOf qual scope L' f cdv))
        (fun fl s' => ∃ h' tk' g' m' news', s' = { s with heap := h', toks := tk' } ∧ KtsTurn ([env].filterMap (·.frame)) g g' ∧ Fr g' L' h' m' ∧ News g' L' h' news' ∧
          (Fr h₀ L h' m → News h₀ L h' news' → Q (match fl with | .ret v => v | _ => .none) { s with heap := h', toks := tk' }))
        (fun _ _ => False) { s with heap := h₁, toks := tk })
    (hco : scope.isCoroutine = false := by rfl) (hgen : scope.isGenerator = false := by rfl) (hk : scope.kind = .function := by rfl)
    (hcell : ∀ x ∈ scope.names, x.2 ≠ .cell := by decide) : wpAny (model prg w) A (PySem.call (.ref f) args []) Q E s := by
  have X := X₀.keeps F.keep
  refine wpAny_call (codeAny_call_def (fd := fnOf name qual params body scope dV kV doc pm an cdv ct) (body := body) (binds := binds) (by show A.depth < 1000; omega) (X _ _ ho) rfl (T.nolimit.keeps F.keep) (codeRec_of X hcd) rfl hbind hcell hloc (fun h₁ hns hk₁ => ?_) hco hgen hk)
  obtain ⟨oL, es, ep, hL, hLd, hLk, hLf⟩ := F.ns
  have nm : ∀ b o, h₀.get? b = some o → b ∉ news.map (·.1) := fun b o e q => by
    obtain ⟨p, hp, rfl⟩ := List.mem_map.mp q
    rw [(N p hp).2.2] at e; cases e
  have nL : L ∉ news.map (·.1) := fun q => by
    obtain ⟨p, hp, e⟩ := List.mem_map.mp q
    exact (N p hp).2.1 e
  have st : h₀.StaysIn (hideAll s.heap (news.map (·.1))) := fun b o e => hideAll_get _ (F.keep b o e) (nm b o e)
  have hLg := hideAll_get (news.map (·.1)) hL nL
  have nL₀ : h₀.get? L = none := kts_self F
  have hnew : base.get? L = none := fresh_of_stays B.stays nL₀
  have hfs : ∀ b, b ∈ [env].filterMap (·.frame) → b = L := fun b hb => by simp [hf] at hb; exact hb
  have B₂ : Below A base [env] (hideAll s.heap (news.map (·.1))) := ⟨hA, fun b o e => st b o (B.stays b o e), ⟨by rw [hke]; decide, ⟨L, oL, hf, hnew, hLg, fun vs q => by rw [hLd] at q; cases q⟩, trivial⟩⟩
  refine wpAny_mono (h _ s.heap.objs.size h₁ _ ⟨hns, fun b o e => hk₁ b o (of_hideAll _ e), Nat.le_of_eq (hideAll_size _ _)⟩
    (fun p hp => ⟨hk₁ _ _ (N p hp).1, Nat.ne_of_lt (Heap.lt_size (N p hp).1), hideAll_none _ (List.mem_map_of_mem hp)⟩) B₂ (X₀.keeps st) (T.keeps st) (fun b hb => by rw [hfs b hb]; exact ⟨oL, es, ep, hLg, hLd⟩)) (fun fl s' hl => ?_) fun _ _ y => y.elim
  obtain ⟨h', tk', g', m', news', rfl, T', F', N', k⟩ := hl
  obtain ⟨sl, hs⟩ := T'.up hLg
  refine k ⟨⟨_, es, ep, F'.keep _ _ hs, hLd, hLk, hLf⟩, fun b o e => F'.keep b o (T'.other b o (st b o e) (fun q => by rw [hfs b q, nL₀] at e; cases e)), F.above⟩ (fun p hp => ⟨(N' p hp).1, fun q => ?_, ?_⟩)
  · have := (N' p hp).2.2
    rw [q, hs] at this; cases this
  · cases e : h₀.get? p.1 with
    | none => rfl
    | some o =>
      have := T'.other _ _ (st _ _ e) (fun q => by rw [hfs _ q, nL₀] at e; cases e)
      rw [(N' p hp).2.2] at this; cases this
end Mine
end

section
open PySem PySem.W PyProof.Rows PySem.Calls
set_option maxRecDepth 100000
namespace Mine
local macro_rules | `(tactic| walk_at "mine look") => `(tactic| first | with_reducible assumption | exact rfl | (refine (if_neg (by decide)).trans ?_; walk_at "mine look"))

abbrev outEnv (L : Addr) : Env := envOf (Str.ofString "_law_outline") outS L 68 (.ref 67)
def stAt (l : List Stmt) (i : Nat) : Stmt := (l[i]?).getD (.Pass ⟨0, 0, 0, 0⟩)
def outT : List Stmt := forBody (stAt outB 4)
def whTest : Stmt → PySem.Expr
  | .While t _ _ _ => t
  | _ => .Name "x" ⟨0, 0, 0, 0⟩
def whBody : Stmt → List Stmt
  | .While _ b _ _ => b
  | _ => []
def tA : PySem.Expr := whTest (stAt outT 0)
def bA : List Stmt := whBody (stAt outT 0)
def tB : PySem.Expr := whTest (stAt outT 1)
def bB : List Stmt := whBody (stAt outT 1)

theorem tri_open {news : List (Addr × Obj)} {v : Value} {x y z : Int} (d : DatIn news v (tupD [x, y, z])) :
    ∃ a t1 t2 t3 n, v = .ref a ∧ (a, ({ cls := .type "tuple", data := .seq [Value.int x t1, .int y t2, .int z t3].toArray n } : Obj)) ∈ news := by
  obtain ⟨a, vs, n, rfl, hm, hi⟩ := dat_open d
  cases hi with
  | cons _ t1 h1 =>
    cases h1 with
    | cons _ t2 h2 =>
      cases h2 with
      | cons _ t3 h3 => cases h3; exact ⟨a, t1, t2, t3, n, rfl, hm⟩
theorem pair_open {news : List (Addr × Obj)} {v : Value} {x y : Int} (d : DatIn news v (tupD [x, y])) :
    ∃ a t1 t2 n, v = .ref a ∧ (a, ({ cls := .type "tuple", data := .seq [Value.int x t1, .int y t2].toArray n } : Obj)) ∈ news := by
  obtain ⟨a, vs, n, rfl, hm, hi⟩ := dat_open d
  cases hi with
  | cons _ t1 h1 =>
    cases h1 with
    | cons _ t2 h2 => cases h2; exact ⟨a, t1, t2, n, rfl, hm⟩

/-- the three lists of _law_outline and the tuples under them -/
structure OS (Wl Sl Ol : Addr) (ov : List Value) (co : Nat) (b₀ r₀ : List (Addr × Obj)) (p : Int) (tp : Tok) (m : Str → Option Value) (nx bs : List (Addr × Obj)) (ws : List Value) (cw : Nat) (ss : List Value) (cs : Nat) (W S : List Key) : Prop where
  led : nx = (Wl, listOf ws.toArray cw) :: (Sl, listOf ss.toArray cs) :: (Ol, listOf ov.toArray co) :: (bs ++ r₀)
  hb : ∀ q ∈ b₀, q ∈ r₀
  dWS : Wl ≠ Sl
  dWO : Wl ≠ Ol
  dSO : Sl ≠ Ol
  dW : ∀ q ∈ bs ++ r₀, q.1 ≠ Wl
  dS : ∀ q ∈ bs ++ r₀, q.1 ≠ Sl
  dO : ∀ q ∈ bs ++ r₀, q.1 ≠ Ol
  dB : ∀ q ∈ bs, ∀ r ∈ r₀, q.1 ≠ r.1
  iW : Its (bs ++ b₀) ws W
  iS : Its (bs ++ b₀) ss S
  mW : m (Str.ofString "waiting") = some (.ref Wl)
  mS : m (Str.ofString "standing") = some (.ref Sl)
  mO : m (Str.ofString "outline") = some (.ref Ol)
  mP : m (Str.ofString "place") = some (.int p tp)

section
variable {w : World} {A : Around} {L Wl Sl Ol : Addr} {g : Heap} {s : Shared} {m : Str → Option Value} {ov : List Value} {co : Nat} {b₀ r₀ nx bs : List (Addr × Obj)} {p : Int} {tp : Tok} {ws : List Value} {cw : Nat} {ss : List Value} {cs : Nat} {W S : List Key}
theorem OS.sub (O : OS Wl Sl Ol ov co b₀ r₀ p tp m nx bs ws cw ss cs W S) : ∀ q ∈ bs ++ b₀, q ∈ bs ++ r₀ := fun q hq => by
  rcases List.mem_append.mp hq with hq | hq
  · exact List.mem_append.mpr (.inl hq)
  · exact List.mem_append.mpr (.inr (O.hb q hq))
theorem OS.subN (O : OS Wl Sl Ol ov co b₀ r₀ p tp m nx bs ws cw ss cs W S) : ∀ q ∈ bs ++ b₀, q ∈ nx := fun q hq => by
  rw [O.led]; exact .tail _ (.tail _ (.tail _ (O.sub q hq)))
theorem OS.memW (O : OS Wl Sl Ol ov co b₀ r₀ p tp m nx bs ws cw ss cs W S) : (Wl, listOf ws.toArray cw) ∈ nx := by rw [O.led]; exact .head _
theorem OS.memS (O : OS Wl Sl Ol ov co b₀ r₀ p tp m nx bs ws cw ss cs W S) : (Sl, listOf ss.toArray cs) ∈ nx := by rw [O.led]; exact .tail _ (.head _)
theorem OS.memO (O : OS Wl Sl Ol ov co b₀ r₀ p tp m nx bs ws cw ss cs W S) : (Ol, listOf ov.toArray co) ∈ nx := by rw [O.led]; exact .tail _ (.tail _ (.head _))

set_option maxHeartbeats 400000 in
theorem testA {Q : Bool → Shared → Prop} {E : Value → Shared → Prop} (hu : A.units + 64 < cLine) (F : Fr g L s.heap m) (N : News g L s.heap nx) (O : OS Wl Sl Ol ov co b₀ r₀ p tp m nx bs ws cw ss cs W S)
    (w1 : ∀ k ∈ W, ∃ l h r : Int, k = [l, h, r])
    (ht : ∀ h' tk l h r, W ≠ [] → at' W 0 = [l, h, r] → l = p → Fr g L h' m → News g L h' nx → Q true { s with heap := h', toks := tk })
    (hf : ∀ h' tk, (∀ l h r, W ≠ [] → at' W 0 = [l, h, r] → l ≠ p) → Fr g L h' m → News g L h' nx → Q false { s with heap := h', toks := tk }) :
    wpAny (model prg w) A (isTrue tA (outEnv L) (eval tA (outEnv L))) Q E s := by
  by_cases hW : W = []
  · refine isTrue_and (ne_nil hu F N O.memW O.subN O.iW O.mW fun h₁ F₁ N₁ => if_bf (by rw [hW]; rfl) ?_)
    exact hf h₁ _ (fun _ _ _ q => absurd hW q) F₁ N₁
  · obtain ⟨l, h, r, e⟩ := w1 _ (at_mem hW)
    obtain ⟨v, hv, dv⟩ := O.iW.get (i := 0) (List.length_pos_iff.mpr hW)
    have e' : W.getD 0 [] = [l, h, r] := e
    rw [e'] at dv
    obtain ⟨a, t1, t2, t3, n, rfl, hm⟩ := tri_open dv
    refine isTrue_and (ne_nil hu F N O.memW O.subN O.iW O.mW fun h₁ F₁ N₁ => if_bt (by cases W with | nil => exact absurd rfl hW | cons _ _ => rfl) ?_)
    refine isTrue_and (wpAny_isTrue_Compare1 (Subscript_ (Subscript_ (ld F₁ O.mW (wpAny_Constant_int (kim_list N₁ O.memW rfl rfl (by decide) (by decide) hv ?_))))))
    refine wpAny_Constant_int (item_tupleT ⟨_, (N₁ _ (O.subN _ hm)).1, rfl, n, rfl⟩ (by decide) (by decide) (j := 0) rfl rfl ?_)
    refine ld F₁ O.mP (eq_int (wpAny_truthy_bool ?_))
    by_cases hl : l = p
    · exact if_bt (by simp [hl]) (isTrue_and_nil (ht h₁ _ l h r hW e hl F₁ N₁))
    · refine if_bf (by simp [hl]) (hf h₁ _ (fun l' h' r' _ q => ?_) F₁ N₁)
      rw [e] at q; injection q with q _; omega
set_option maxHeartbeats 400000 in
theorem testB {Q : Bool → Shared → Prop} {E : Value → Shared → Prop} (hu : A.units + 64 < cLine) (F : Fr g L s.heap m) (N : News g L s.heap nx) (O : OS Wl Sl Ol ov co b₀ r₀ p tp m nx bs ws cw ss cs W S)
    (w1 : ∀ k ∈ S, ∃ x r : Int, k = [x, r])
    (ht : ∀ h' tk x r, S ≠ [] → at' S 0 = [x, r] → r ≤ p → Fr g L h' m → News g L h' nx → Q true { s with heap := h', toks := tk })
    (hf : ∀ h' tk, (∀ x r, S ≠ [] → at' S 0 = [x, r] → p < r) → Fr g L h' m → News g L h' nx → Q false { s with heap := h', toks := tk }) :
    wpAny (model prg w) A (isTrue tB (outEnv L) (eval tB (outEnv L))) Q E s := by
  by_cases hW : S = []
  · refine isTrue_and (ne_nil hu F N O.memS O.subN O.iS O.mS fun h₁ F₁ N₁ => if_bf (by rw [hW]; rfl) ?_)
    exact hf h₁ _ (fun _ _ q => absurd hW q) F₁ N₁
  · obtain ⟨x, r, e⟩ := w1 _ (at_mem hW)
    obtain ⟨v, hv, dv⟩ := O.iS.get (i := 0) (List.length_pos_iff.mpr hW)
    have e' : S.getD 0 [] = [x, r] := e
    rw [e'] at dv
    obtain ⟨a, t1, t2, n, rfl, hm⟩ := pair_open dv
    refine isTrue_and (ne_nil hu F N O.memS O.subN O.iS O.mS fun h₁ F₁ N₁ => if_bt (by cases S with | nil => exact absurd rfl hW | cons _ _ => rfl) ?_)
    refine isTrue_and (wpAny_isTrue_Compare1 (Subscript_ (Subscript_ (ld F₁ O.mS (wpAny_Constant_int (kim_list N₁ O.memS rfl rfl (by decide) (by decide) hv ?_))))))
    refine wpAny_Constant_int (item_tupleT ⟨_, (N₁ _ (O.subN _ hm)).1, rfl, n, rfl⟩ (by decide) (by decide) (j := 1) rfl rfl ?_)
    refine ld F₁ O.mP (le_int (wpAny_truthy_bool ?_))
    by_cases hl : r ≤ p
    · exact if_bt (by simp [hl]) (isTrue_and_nil (ht h₁ _ x r hW e hl F₁ N₁))
    · refine if_bf (by simp [hl]) (hf h₁ _ (fun x' r' _ q => ?_) F₁ N₁)
      rw [e] at q; injection q with _ q; injection q with q _; omega
end
end Mine
end

section
open PySem PySem.W PyProof.Rows PySem.Calls
set_option maxRecDepth 100000
namespace Mine
local macro_rules | `(tactic| walk_at "mine look") => `(tactic| first | with_reducible assumption | exact rfl | (refine (if_neg (by decide)).trans ?_; walk_at "mine look"))
section
variable {w : World} {A : Around} {L Wl Sl Ol : Addr} {g : Heap} {s : Shared} {m : Str → Option Value} {ov : List Value} {co : Nat} {b₀ r₀ nx bs : List (Addr × Obj)} {p : Int} {tp : Tok} {ws : List Value} {cw : Nat} {ss : List Value} {cs : Nat} {W S : List Key}

/-- (one[1], one[2]) -/
theorem eltA {a : Addr} {x y z : Int} {t1 t2 t3 : Tok} {n : Nat} {Q : Value → Shared → Prop} {E : Value → Shared → Prop} (F : Fr g L s.heap m) (N : News g L s.heap nx)
    (hm : (a, ({ cls := .type "tuple", data := .seq [Value.int x t1, .int y t2, .int z t3].toArray n } : Obj)) ∈ nx) (m1 : m (Str.ofString "one") = some (.ref a))
    (h : ∀ h' tk ob, Fr g L h' m → News g L h' ((s.heap.objs.size, ob) :: nx) → DatIn [(s.heap.objs.size, ob)] (.ref s.heap.objs.size) (tupD [y, z]) → Q (.ref s.heap.objs.size) { s with heap := h', toks := tk }) :
    wpAny (model prg w) A (eval (.Tuple [.Subscript (.Name (Str.ofString "one") ⟨62, 50, 62, 53⟩) (.Constant (.int 1) 0 ⟨62, 54, 62, 55⟩) ⟨62, 50, 62, 56⟩, .Subscript (.Name (Str.ofString "one") ⟨62, 58, 62, 61⟩) (.Constant (.int 2) 0 ⟨62, 62, 62, 63⟩) ⟨62, 58, 62, 64⟩] 0 ⟨62, 49, 62, 65⟩) (outEnv L)) Q E s := by
  refine Tuple_ (spliced_more (Subscript_ (ld F m1 (wpAny_Constant_int (item_tupleT ⟨_, (N _ hm).1, rfl, n, rfl⟩ (by decide) (by decide) (j := 1) rfl rfl ?_)))))
  refine spliced_more (Subscript_ (ld F m1 (wpAny_Constant_int (item_tupleT ⟨_, (N _ hm).1, rfl, n, rfl⟩ (by decide) (by decide) (j := 2) rfl rfl (spliced_none ?_)))))
  refine newTuple_N F N (fun h₄ F₄ N₄ => ?_) (by unfold sizeLine; simp)
  exact h h₄ _ _ F₄ N₄ (.tuple (.head _) (.cons (.int _ _) (.cons (.int _ _) .nil)))

theorem mem4 {a b c d : Addr × Obj} {R : List (Addr × Obj)} : ∀ q ∈ a :: b :: c :: d :: R, q ∈ c :: a :: d :: b :: R := fun q hq => by
  rcases List.mem_cons.mp hq with rfl | hq
  · exact .tail _ (.head _)
  · rcases List.mem_cons.mp hq with rfl | hq
    · exact .tail _ (.tail _ (.tail _ (.head _)))
    · rcases List.mem_cons.mp hq with rfl | hq
      · exact .head _
      · rcases List.mem_cons.mp hq with rfl | hq
        · exact .tail _ (.tail _ (.head _))
        · exact .tail _ (.tail _ (.tail _ (.tail _ hq)))
theorem mem4' {a b c d : Addr × Obj} {R : List (Addr × Obj)} : ∀ q ∈ c :: a :: d :: b :: R, q ∈ a :: b :: c :: d :: R := fun q hq => by
  rcases List.mem_cons.mp hq with rfl | hq
  · exact .tail _ (.tail _ (.head _))
  · rcases List.mem_cons.mp hq with rfl | hq
    · exact .head _
    · rcases List.mem_cons.mp hq with rfl | hq
      · exact .tail _ (.tail _ (.tail _ (.head _)))
      · rcases List.mem_cons.mp hq with rfl | hq
        · exact .tail _ (.head _)
        · exact .tail _ (.tail _ (.tail _ (.tail _ hq)))
theorem mem2 {a b : Addr × Obj} {R : List (Addr × Obj)} : ∀ q ∈ a :: b :: R, q ∈ b :: a :: R := fun q hq => by
  rcases List.mem_cons.mp hq with rfl | hq
  · exact .tail _ (.head _)
  · rcases List.mem_cons.mp hq with rfl | hq
    · exact .head _
    · exact .tail _ (.tail _ hq)

set_option maxHeartbeats 400000 in
/-- a turn of the first while -/
theorem turnA {l h r : Int} {Q : Flow → Shared → Prop} (Si : Site w A (outEnv L) L g 4) (F : Fr g L s.heap m) (N : News g L s.heap nx) (O : OS Wl Sl Ol ov co b₀ r₀ p tp m nx bs ws cw ss cs W S)
    (hW : W ≠ []) (e : at' W 0 = [l, h, r]) (hfit : W.length < 500) (hfit2 : S.length < 500)
    (hQ : ∀ h' tk m' nx' bs' ws' cw' ss' cs', Fr g L h' m' → News g L h' nx' → OS Wl Sl Ol ov co b₀ r₀ p tp m' nx' bs' ws' cw' ss' cs' (hpop W) (hpush S [h, r]) → Q .next { s with heap := h', toks := tk }) :
    wpAny (model prg w) A (execs bA (outEnv L)) Q (fun _ _ => False) s := by
  obtain ⟨loose, mean, mg, mb, T⟩ := Si.top
  obtain ⟨v, hv, dv⟩ := O.iW.get (i := 0) (List.length_pos_iff.mpr hW)
  have e' : W.getD 0 [] = [l, h, r] := e
  rw [e'] at dv
  have dv' := dv
  obtain ⟨a, t1, t2, t3, n, hva, hm⟩ := tri_open dv
  subst hva
  obtain ⟨hb, dWS, dWO, dSO, dW, dS, dO, dB, iW, iS, mW, mS, mO, mP⟩ := (⟨O.hb, O.dWS, O.dWO, O.dSO, O.dW, O.dS, O.dO, O.dB, O.iW, O.iS, O.mW, O.mS, O.mO, O.mP⟩ : _ ∧ _ ∧ _ ∧ _ ∧ _ ∧ _ ∧ _ ∧ _ ∧ _ ∧ _ ∧ _ ∧ _ ∧ _ ∧ _)
  have hsub := O.sub
  have led := O.led
  clear O
  subst led
  have hne : ∀ q ∈ (Sl, listOf ss.toArray cs) :: (Ol, listOf ov.toArray co) :: (bs ++ r₀), q.1 ≠ Wl := by
    intro q hq
    rcases List.mem_cons.mp hq with rfl | hq
    · exact dWS.symm
    · rcases List.mem_cons.mp hq with rfl | hq
      · exact dWO.symm
      · exact dW q hq
  refine wpAny_execs_cons (wpAny_Assign_Name (Call_ (name_K F Si.kin (topRead_of T) (by with_unfolding_all rfl) (callWith_K Si.kin (by with_unfolding_all rfl) (spliced_more (ld F mW (spliced_none ⟨Si.kin.keeps F.keep, ?_⟩)))))) (by with_unfolding_all rfl))
  refine off_call (d := 0) Si F N hne (fun q hq => .tail _ (.tail _ (hsub q hq))) iW hv dv' (by omega) fun h₁ tk₁ ws' F₁ N₁ I₁ => stN F₁ N₁ fun h₂ F₂ N₂ => ?_
  refine wpAny_execs_cons (wpAny_If (isTrue_or (wpAny_isTrue_Compare1 (ld (v := Value.ref a) F₂ (by walk_at "mine look") (wpAny_Constant_none (wpAny_is_other rfl (fun q => nomatch q) (wpAny_truthy_bool (if_bf rfl ?_))))))))
  refine isTrue_or (wpAny_isTrue_Compare1 (Call_ (name_K F₂ Si.kin (topRead_of T) (by with_unfolding_all rfl) (callWith_K Si.kin (by with_unfolding_all rfl) (spliced_more (ld F₂ (by walk_at "mine look") (spliced_more ?_)))))))
  refine eltA F₂ N₂ (.tail _ (.tail _ (.tail _ (hsub _ hm)))) (by walk_at "mine look") fun h₃ tk₃ ob F₃ N₃ d₃ => spliced_none ⟨Si.kin.keeps F₃.keep, ?_⟩
  have hfr : ∀ q ∈ (Wl, listOf ws'.toArray (cw + 1)) :: (Sl, listOf ss.toArray cs) :: (Ol, listOf ov.toArray co) :: (bs ++ r₀), q.1 ≠ h₂.objs.size := fun q hq => Nat.ne_of_lt (Heap.lt_size (N₂ q hq).1)
  have N₄ : News g L h₃ ((Sl, listOf ss.toArray cs) :: (h₂.objs.size, ob) :: (Wl, listOf ws'.toArray (cw + 1)) :: (Ol, listOf ov.toArray co) :: (bs ++ r₀)) := fun q hq => N₃ q (by
    have := mem4 q hq
    rcases List.mem_cons.mp this with rfl | h'
    · exact .tail _ (.head _)
    · rcases List.mem_cons.mp h' with rfl | h'
      · exact .tail _ (.tail _ (.head _))
      · rcases List.mem_cons.mp h' with rfl | h'
        · exact .tail _ (.tail _ (.tail _ (.head _)))
        · rcases List.mem_cons.mp h' with rfl | h'
          · exact .head _
          · exact .tail _ (.tail _ (.tail _ (.tail _ h'))))
  have hne2 : ∀ q ∈ (h₂.objs.size, ob) :: (Wl, listOf ws'.toArray (cw + 1)) :: (Ol, listOf ov.toArray co) :: (bs ++ r₀), q.1 ≠ Sl := by
    intro q hq
    rcases List.mem_cons.mp hq with rfl | hq
    · exact (hfr _ (.tail _ (.head _))).symm
    · rcases List.mem_cons.mp hq with rfl | hq
      · exact dWS
      · rcases List.mem_cons.mp hq with rfl | hq
        · exact dSO.symm
        · exact dS q hq
  have hsub2 : ∀ q ∈ (h₂.objs.size, ob) :: (bs ++ b₀), q ∈ (h₂.objs.size, ob) :: (Wl, listOf ws'.toArray (cw + 1)) :: (Ol, listOf ov.toArray co) :: (bs ++ r₀) := by
    intro q hq
    rcases List.mem_cons.mp hq with rfl | hq
    · exact .head _
    · exact .tail _ (.tail _ (.tail _ (hsub q hq)))
  refine push_call (d := 2) (base := (h₂.objs.size, ob) :: (bs ++ b₀)) (k := [h, r]) Si F₃ N₄ hne2 hsub2 (iS.mono fun q hq => .tail _ hq) (d₃.mono fun q hq => by rcases List.mem_singleton.mp hq with rfl; exact .head _) (by omega) fun h₅ tk₅ ss' F₅ N₅ I₅ => ?_
  refine wpAny_Constant_none (wpAny_isNot_self rfl (wpAny_truthy_bool (if_bf rfl (isTrue_or_nil (if_bf rfl (wpAny_execs_nil (wpAny_execs_nil ?_)))))))
  refine hQ h₅ _ _ _ ((h₂.objs.size, ob) :: bs) ws' (cw + 1) ss' (cs + 1) F₅ (fun q hq => N₅ q (mem4' q hq)) ⟨rfl, hb, dWS, dWO, dSO, ?_, ?_, ?_, ?_, I₁.mono fun q hq => .tail _ hq, I₅, by walk_at "mine look", by walk_at "mine look", by walk_at "mine look", by walk_at "mine look"⟩
  · intro q hq
    rcases List.mem_cons.mp hq with rfl | hq
    · exact (hfr _ (.head _)).symm
    · exact dW q hq
  · intro q hq
    rcases List.mem_cons.mp hq with rfl | hq
    · exact (hfr _ (.tail _ (.head _))).symm
    · exact dS q hq
  · intro q hq
    rcases List.mem_cons.mp hq with rfl | hq
    · exact (hfr _ (.tail _ (.tail _ (.head _)))).symm
    · exact dO q hq
  · intro q hq r hr
    rcases List.mem_cons.mp hq with rfl | hq
    · exact (hfr r (.tail _ (.tail _ (.tail _ (List.mem_append.mpr (.inr hr)))))).symm
    · exact dB q hq r hr
end
end Mine
end

section
open PySem PySem.W PyProof.Rows PySem.Calls
set_option maxRecDepth 100000
namespace Mine
local macro_rules | `(tactic| walk_at "mine look") => `(tactic| first | with_reducible assumption | exact rfl | (refine (if_neg (by decide)).trans ?_; walk_at "mine look"))
section
variable {w : World} {A : Around} {L Wl Sl Ol : Addr} {g : Heap} {s : Shared} {m : Str → Option Value} {ov : List Value} {co : Nat} {b₀ r₀ nx bs : List (Addr × Obj)} {p : Int} {tp : Tok} {ws : List Value} {cw : Nat} {ss : List Value} {cs : Nat} {W S : List Key} {H : List Key}

set_option maxHeartbeats 400000 in
/-- a turn of the second while -/
theorem turnB {x r : Int} {Q : Flow → Shared → Prop} (Si : Site w A (outEnv L) L g 4) (F : Fr g L s.heap m) (N : News g L s.heap nx) (O : OS Wl Sl Ol ov co b₀ r₀ p tp m nx bs ws cw ss cs W S)
    (hS : S ≠ []) (e : at' S 0 = [x, r]) (hfit2 : S.length < 500)
    (hQ : ∀ h' tk nx' ss' cs', Fr g L h' m → News g L h' nx' → OS Wl Sl Ol ov co b₀ r₀ p tp m nx' bs ws cw ss' cs' W (hpop S) → Q .next { s with heap := h', toks := tk }) :
    wpAny (model prg w) A (execs bB (outEnv L)) Q (fun _ _ => False) s := by
  obtain ⟨loose, mean, mg, mb, T⟩ := Si.top
  obtain ⟨v, hv, dv⟩ := O.iS.get (i := 0) (List.length_pos_iff.mpr hS)
  have e' : S.getD 0 [] = [x, r] := e
  rw [e'] at dv
  have dv' := dv
  obtain ⟨a, t1, t2, n, hva, hm⟩ := pair_open dv
  subst hva
  have hsub := O.sub
  obtain ⟨led, hb, dWS, dWO, dSO, dW, dS, dO, dB, iW, iS, mW, mS, mO, mP⟩ := O
  subst led
  have hne : ∀ q ∈ (Wl, listOf ws.toArray cw) :: (Ol, listOf ov.toArray co) :: (bs ++ r₀), q.1 ≠ Sl := by
    intro q hq
    rcases List.mem_cons.mp hq with rfl | hq
    · exact dWS
    · rcases List.mem_cons.mp hq with rfl | hq
      · exact dSO.symm
      · exact dS q hq
  refine wpAny_execs_cons (wpAny_If (wpAny_isTrue_Compare1 (Call_ (name_K F Si.kin (topRead_of T) (by with_unfolding_all rfl) (callWith_K Si.kin (by with_unfolding_all rfl) (spliced_more (ld F mS (spliced_none ⟨Si.kin.keeps F.keep, ?_⟩))))))))
  refine off_call (d := 0) Si F (fun q hq => N q (mem2 q hq)) hne (fun q hq => .tail _ (.tail _ (hsub q hq))) iS hv dv' (by omega) fun h₁ tk₁ ss' F₁ N₁ I₁ => ?_
  refine wpAny_Constant_none (wpAny_is_other rfl (fun q => nomatch q) (wpAny_truthy_bool (if_bf rfl (wpAny_execs_nil (wpAny_execs_nil ?_)))))
  exact hQ h₁ _ _ ss' (cs + 1) F₁ (fun q hq => N₁ q (mem2 q hq)) ⟨rfl, hb, dWS, dWO, dSO, dW, dS, dO, dB, iW, I₁, mW, mS, mO, mP⟩

set_option maxHeartbeats 400000 in
theorem loopA {Q : Flow → Shared → Prop} (Si : Site w A (outEnv L) L g 4) (F : Fr g L s.heap m) (N : News g L s.heap nx) (O : OS Wl Sl Ol ov co b₀ r₀ p tp m nx bs ws cw ss cs W S) (I : InvA H p W S) (hH : H.length < 400)
    (hQ : ∀ h' tk m' nx' bs' ws' cw' ss' cs' W' S', Fr g L h' m' → News g L h' nx' → OS Wl Sl Ol ov co b₀ r₀ p tp m' nx' bs' ws' cw' ss' cs' W' S' → InvB H p W' S' → Q .next { s with heap := h', toks := tk }) :
    wpAny (model prg w) A (exec (stAt outT 0) (outEnv L)) Q (fun _ _ => False) s := by
  let J : Nat → (Str → Option Value) → List (Addr × Obj) → Prop := fun n m₁ nx => ∃ bs ws cw ss cs W S, OS Wl Sl Ol ov co b₀ r₀ p tp m₁ nx bs ws cw ss cs W S ∧ n = W.length ∧ InvA H p W S
  refine While_inv2 J F N (n₀ := W.length) ⟨bs, ws, cw, ss, cs, W, S, O, rfl, I⟩ ?_ PassesOwn.never
  clear F N O I
  rintro n m₁ nx₁ h₁ tk₁ F₁ N₁ ⟨bs, ws, cw, ss, cs, W, S, O, rfl, I⟩
  have hlen := I.len
  refine testA Si.room F₁ N₁ O (fun k hk => ?_) ?_ ?_
  · obtain ⟨l, r, h, e, _⟩ := I.w1 k hk
    exact ⟨l, -h, r, e⟩
  · intro h₂ tk₂ l h r hW e hl F₂ N₂
    refine if_bt rfl (turnA Si F₂ N₂ O hW e (by omega) (by omega) ?_)
    intro h₃ tk₃ m₃ nx₃ bs₃ ws₃ cw₃ ss₃ cs₃ F₃ N₃ O₃
    have := hpop_length hW I.hw
    exact ⟨h₃, tk₃, m₃, nx₃, (hpop W).length, rfl, F₃, N₃, by omega, bs₃, ws₃, cw₃, ss₃, cs₃, _, _, O₃, rfl, invA_step I hW e hl⟩
  · intro h₂ tk₂ hx F₂ N₂
    exact if_bf rfl (hQ h₂ _ m₁ nx₁ bs ws cw ss cs W S F₂ N₂ O (invA_exit I hx))

set_option maxHeartbeats 400000 in
theorem loopB {Q : Flow → Shared → Prop} (Si : Site w A (outEnv L) L g 4) (F : Fr g L s.heap m) (N : News g L s.heap nx) (O : OS Wl Sl Ol ov co b₀ r₀ p tp m nx bs ws cw ss cs W S) (I : InvB H p W S) (hH : H.length < 400)
    (hQ : ∀ h' tk m' nx' bs' ws' cw' ss' cs' W' S', Fr g L h' m' → News g L h' nx' → OS Wl Sl Ol ov co b₀ r₀ p tp m' nx' bs' ws' cw' ss' cs' W' S' → InvB H p W' S' → (∀ x r, S' ≠ [] → at' S' 0 = [x, r] → p < r) → Q .next { s with heap := h', toks := tk }) :
    wpAny (model prg w) A (exec (stAt outT 1) (outEnv L)) Q (fun _ _ => False) s := by
  let J : Nat → (Str → Option Value) → List (Addr × Obj) → Prop := fun n m₁ nx => ∃ bs ws cw ss cs W S, OS Wl Sl Ol ov co b₀ r₀ p tp m₁ nx bs ws cw ss cs W S ∧ n = S.length ∧ InvB H p W S
  refine While_inv2 J F N (n₀ := S.length) ⟨bs, ws, cw, ss, cs, W, S, O, rfl, I⟩ ?_ PassesOwn.never
  clear F N O I
  rintro n m₁ nx₁ h₁ tk₁ F₁ N₁ ⟨bs, ws, cw, ss, cs, W, S, O, rfl, I⟩
  have hlen := I.len
  refine testB Si.room F₁ N₁ O (fun k hk => ?_) ?_ ?_
  · obtain ⟨l, r, h, e, _⟩ := I.s1 k hk
    exact ⟨-h, r, e⟩
  · intro h₂ tk₂ x r hS e hl F₂ N₂
    refine if_bt rfl (turnB Si F₂ N₂ O hS e (by omega) ?_)
    intro h₃ tk₃ nx₃ ss₃ cs₃ F₃ N₃ O₃
    have := hpop_length hS I.hs
    exact ⟨h₃, tk₃, m₁, nx₃, (hpop S).length, rfl, F₃, N₃, by omega, bs, ws, cw, ss₃, cs₃, _, _, O₃, rfl, invB_step I hS e hl⟩
  · intro h₂ tk₂ hx F₂ N₂
    exact if_bf rfl (hQ h₂ _ m₁ nx₁ bs ws cw ss cs W S F₂ N₂ O I hx)
end
end Mine
end

section
open PySem PySem.W PyProof.Rows PySem.Calls
set_option maxRecDepth 100000
namespace Mine
local macro_rules | `(tactic| walk_at "mine look") => `(tactic| first | with_reducible assumption | exact rfl | (refine (if_neg (by decide)).trans ?_; walk_at "mine look"))
theorem ints_append {vs : List Value} {ns : List Int} (h : IntsAre vs ns) (n : Int) (t : Tok) : IntsAre (vs ++ [.int n t]) (ns ++ [n]) := by
  induction h with
  | nil => exact .cons n t .nil
  | cons k u _ ih => exact .cons k u ih
theorem boot_max' : bootBuiltins "max" = some (.builtin "max") := by decide +kernel
section
variable {w : World} {A : Around} {L Wl Sl Ol : Addr} {g : Heap} {s : Shared} {m : Str → Option Value} {ov : List Value} {co : Nat} {b₀ r₀ nx bs : List (Addr × Obj)} {p : Int} {tp : Tok} {ws : List Value} {cw : Nat} {ss : List Value} {cs : Nat} {W S : List Key} {H : List Key}

/-- outline.append of a value -/
theorem appV {y : Int} {t : Tok} {Q : Value → Shared → Prop} {E : Value → Shared → Prop} (F : Fr g L s.heap m) (N : News g L s.heap nx) (O : OS Wl Sl Ol ov co b₀ r₀ p tp m nx bs ws cw ss cs W S) (hov : ov.length < 500)
    (hQ : ∀ h' nx', Fr g L h' m → News g L h' nx' → OS Wl Sl Ol (ov ++ [.int y t]) (co + 1) b₀ r₀ p tp m nx' bs ws cw ss cs W S → Q .none { s with heap := h' }) :
    wpAny (model prg w) A (call (.builtin "list.append") [.ref Ol, .int y t]) Q E s := by
  obtain ⟨led, hb, dWS, dWO, dSO, dW, dS, dO, dB, iW, iS, mW, mS, mO, mP⟩ := O
  subst led
  refine append_K F N (.tail dWO (.tail dSO (.head dO))) (fun h₁ F₁ N₁ => ?_) (by rw [List.size_toArray]; unfold sizeLine; omega)
  rw [List.push_toArray] at N₁
  exact hQ h₁ _ F₁ N₁ ⟨rfl, hb, dWS, dWO, dSO, dW, dS, dO, dB, iW, iS, mW, mS, mO, mP⟩

set_option maxHeartbeats 400000 in
theorem appO {Q : Flow → Shared → Prop} (Si : Site w A (outEnv L) L g 4) (F : Fr g L s.heap m) (N : News g L s.heap nx) (O : OS Wl Sl Ol ov co b₀ r₀ p tp m nx bs ws cw ss cs W S) (I : InvB H p W S) (gd : Good H)
    (hx : ∀ x r, S ≠ [] → at' S 0 = [x, r] → p < r) (hov : ov.length < 500)
    (hQ : ∀ h' tk y t nx', y = dueAt H p → Fr g L h' m → News g L h' nx' → OS Wl Sl Ol (ov ++ [.int y t]) (co + 1) b₀ r₀ p tp m nx' bs ws cw ss cs W S → Q .next { s with heap := h', toks := tk }) :
    wpAny (model prg w) A (exec (stAt outT 2) (outEnv L)) Q (fun _ _ => False) s := by
  obtain ⟨loose, mean, mg, mb, T⟩ := Si.top
  by_cases hS : S = []
  · refine wpAny_Expr (MethodCall_ (ld F O.mO (kl_method N O.memO PySem.F.slot_list_append PySem.F.type_list_append (PyProof.Rows.callWith_method1 (spliced_more (IfExp_ (eq_nil Si.room F N O.memS O.subN O.iS O.mS fun h₁ F₁ N₁ => if_bt (by rw [hS]; rfl) ?_)))))))
    refine wpAny_Constant_int (spliced_none (appV F₁ N₁ O hov fun h₂ nx₂ F₂ N₂ O₂ => ?_))
    exact hQ h₂ _ _ _ nx₂ (invB_due0 (hS ▸ I) gd) F₂ N₂ O₂
  · have w1 : ∃ x r : Int, at' S 0 = [x, r] := by
      obtain ⟨l, r, h, e, _⟩ := I.s1 _ (at_mem hS)
      exact ⟨-h, r, e⟩
    obtain ⟨x, r, e⟩ := w1
    obtain ⟨v, hv, dv⟩ := O.iS.get (i := 0) (List.length_pos_iff.mpr hS)
    have e' : S.getD 0 [] = [x, r] := e
    rw [e'] at dv
    obtain ⟨a, t1, t2, n, rfl, hm⟩ := pair_open dv
    have hdue := invB_due I gd hS e (hx x r hS e)
    refine wpAny_Expr (MethodCall_ (ld F O.mO (kl_method N O.memO PySem.F.slot_list_append PySem.F.type_list_append (PyProof.Rows.callWith_method1 (spliced_more (IfExp_ (eq_nil Si.room F N O.memS O.subN O.iS O.mS fun h₁ F₁ N₁ => if_bf (by cases S with | nil => exact absurd rfl hS | cons _ _ => rfl) ?_)))))))
    refine Call_ (name_B F₁ Si.kin (topRead_of T) (by with_unfolding_all rfl) boot_max' (by decide) ?_)
    refine PyProof.Rows.callWith_method1 (spliced_more (wpAny_Constant_int (spliced_more (UnaryOp_ ?_))))
    refine Subscript_ (Subscript_ (ld F₁ O.mS (wpAny_Constant_int (kim_list N₁ O.memS rfl rfl (by decide) (by decide) hv ?_))))
    refine wpAny_Constant_int (item_tupleT ⟨_, (N₁ _ (O.subN _ hm)).1, rfl, n, rfl⟩ (by decide) (by decide) (j := 0) rfl rfl (neg_int (spliced_none ?_)))
    refine max_two_N Si.handled F₁ N₁ fun h₂ tk₂ F₂ N₂ => spliced_none (appV F₂ N₂ O hov fun h₃ nx₃ F₃ N₃ O₃ => ?_)
    exact hQ h₃ _ _ _ nx₃ hdue F₃ N₃ O₃

theorem OS.place (O : OS Wl Sl Ol ov co b₀ r₀ p tp m nx bs ws cw ss cs W S) (p' : Int) (tp' : Tok) : OS Wl Sl Ol ov co b₀ r₀ p' tp' (fun y => if y = Str.ofString "place" then some (.int p' tp') else m y) nx bs ws cw ss cs W S := by
  obtain ⟨led, hb, dWS, dWO, dSO, dW, dS, dO, dB, iW, iS, mW, mS, mO, mP⟩ := O
  exact ⟨led, hb, dWS, dWO, dSO, dW, dS, dO, dB, iW, iS, (if_neg (by decide)).trans mW, (if_neg (by decide)).trans mS, (if_neg (by decide)).trans mO, rfl⟩

set_option maxHeartbeats 400000 in
/-- a turn of the for, at the place p -/
theorem turnF {Q : Flow → Shared → Prop} (Si : Site w A (outEnv L) L g 4) (F : Fr g L s.heap m) (N : News g L s.heap nx) (O : OS Wl Sl Ol ov co b₀ r₀ p tp m nx bs ws cw ss cs W S) (I : InvB H (p - 1) W S) (gd : Good H) (hH : H.length < 400) (hov : ov.length < 500)
    (hQ : ∀ h' tk y t m' nx' bs' ws' cw' ss' cs' W' S', y = dueAt H p → Fr g L h' m' → News g L h' nx' → OS Wl Sl Ol (ov ++ [.int y t]) (co + 1) b₀ r₀ p tp m' nx' bs' ws' cw' ss' cs' W' S' → InvB H p W' S' → (∀ x r, S' ≠ [] → at' S' 0 = [x, r] → p < r) → Q .next { s with heap := h', toks := tk }) :
    wpAny (model prg w) A (execs outT (outEnv L)) Q (fun _ _ => False) s := by
  refine wpAny_execs_cons (loopA Si F N O (invA_next I) hH ?_)
  intro h₁ tk₁ m₁ nx₁ bs₁ ws₁ cw₁ ss₁ cs₁ W₁ S₁ F₁ N₁ O₁ I₁
  refine wpAny_execs_cons (loopB Si F₁ N₁ O₁ I₁ hH ?_)
  intro h₂ tk₂ m₂ nx₂ bs₂ ws₂ cw₂ ss₂ cs₂ W₂ S₂ F₂ N₂ O₂ I₂ hx
  refine wpAny_execs_cons (appO Si F₂ N₂ O₂ I₂ gd hx hov ?_)
  intro h₃ tk₃ y t nx₃ hy F₃ N₃ O₃
  exact wpAny_execs_nil (hQ h₃ _ y t m₂ nx₃ bs₂ ws₂ cw₂ ss₂ cs₂ W₂ S₂ hy F₃ N₃ O₃ I₂ hx)

/-- what the for leaves -/
def forEnd (H : List Key) (n : Nat) : List Int := (List.range n).map fun j : Nat => dueAt H (j : Int)
theorem forEnd_succ (H : List Key) (n : Nat) : forEnd H (n + 1) = forEnd H n ++ [dueAt H (n : Int)] := by
  unfold forEnd; rw [List.range_succ, List.map_append]; rfl

/-- out of a turn: the loop's own objects go back -/
theorem OS.out {own : List (Addr × Obj)} {bs₂ : List (Addr × Obj)} (O : OS Wl Sl Ol ov co (bs ++ b₀) ((bs ++ r₀) ++ own) p tp m nx bs₂ ws cw ss cs W S) (hb : ∀ q ∈ b₀, q ∈ r₀) (dB : ∀ q ∈ bs, ∀ r ∈ r₀, q.1 ≠ r.1) :
    OS Wl Sl Ol ov co b₀ r₀ p tp m ((Wl, listOf ws.toArray cw) :: (Sl, listOf ss.toArray cs) :: (Ol, listOf ov.toArray co) :: ((bs₂ ++ bs) ++ r₀)) (bs₂ ++ bs) ws cw ss cs W S := by
  have e : ∀ q ∈ (bs₂ ++ bs) ++ r₀, q ∈ bs₂ ++ ((bs ++ r₀) ++ own) := fun q hq => by
    rw [List.append_assoc] at hq
    rcases List.mem_append.mp hq with hq | hq
    · exact List.mem_append.mpr (.inl hq)
    · exact List.mem_append.mpr (.inr (List.mem_append.mpr (.inl hq)))
  obtain ⟨led, hb', dWS, dWO, dSO, dW, dS, dO, dB', iW, iS, mW, mS, mO, mP⟩ := O
  refine ⟨rfl, hb, dWS, dWO, dSO, fun q hq => dW q (e q hq), fun q hq => dS q (e q hq), fun q hq => dO q (e q hq), ?_, ?_, ?_, mW, mS, mO, mP⟩
  · intro q hq r hr
    rcases List.mem_append.mp hq with hq | hq
    · exact dB' q hq r (List.mem_append.mpr (.inl (List.mem_append.mpr (.inr hr))))
    · exact dB q hq r hr
  · rw [List.append_assoc]; exact iW
  · rw [List.append_assoc]; exact iS
theorem OS.into {own : List (Addr × Obj)} (O : OS Wl Sl Ol ov co b₀ r₀ p tp m nx bs ws cw ss cs W S) (hoff : OwnOff own (nx.map (·.1))) :
    OS Wl Sl Ol ov co (bs ++ b₀) ((bs ++ r₀) ++ own) p tp m (nx ++ own) [] ws cw ss cs W S := by
  have hsub := O.sub
  obtain ⟨led, hb', dWS, dWO, dSO, dW, dS, dO, dB', iW, iS, mW, mS, mO, mP⟩ := O
  subst led
  have oW : ∀ q ∈ own, q.1 ≠ Wl := fun q hq => hoff q hq _ (.head _)
  have oS : ∀ q ∈ own, q.1 ≠ Sl := fun q hq => hoff q hq _ (.tail _ (.head _))
  have oO : ∀ q ∈ own, q.1 ≠ Ol := fun q hq => hoff q hq _ (.tail _ (.tail _ (.head _)))
  refine ⟨rfl, fun q hq => List.mem_append.mpr (.inl (hsub q hq)), dWS, dWO, dSO, ?_, ?_, ?_, (fun q hq => nomatch hq), iW, iS, mW, mS, mO, mP⟩
  · exact fun q hq => (List.mem_append.mp (show q ∈ (bs ++ r₀) ++ own from hq)).elim (dW q) (oW q)
  · exact fun q hq => (List.mem_append.mp (show q ∈ (bs ++ r₀) ++ own from hq)).elim (dS q) (oS q)
  · exact fun q hq => (List.mem_append.mp (show q ∈ (bs ++ r₀) ++ own from hq)).elim (dO q) (oO q)

set_option maxHeartbeats 400000 in
theorem loopF {Q : Flow → Shared → Prop} (Si : Site w A (outEnv L) L g 4) (F : Fr g L s.heap m) (N : News g L s.heap nx) (O : ∀ p tp, OS Wl Sl Ol [] 0 b₀ r₀ p tp (fun y => if y = Str.ofString "place" then some (.int p tp) else m y) nx bs ws cw ss cs W S) (I : InvB H (-1) W S) (gd : Good H) (hH : H.length < 400)
    (hQ : ∀ h' tk m' nx' bs' ws' cw' ss' cs' ov' co' W' S', Fr g L h' m' → News g L h' nx' → (∀ p tp, OS Wl Sl Ol ov' co' b₀ r₀ p tp (fun y => if y = Str.ofString "place" then some (.int p tp) else m' y) nx' bs' ws' cw' ss' cs' W' S') → IntsAre ov' (forEnd H 16) → W' = [] → S' = [] → Q .next { s with heap := h', toks := tk }) :
    wpAny (model prg w) A (call (.type "range") [.int (16 : Nat) tp]) (fun xv s₁ => wpAny (model prg w) A (pyIter xv) (fun it s₂ => LoopAtV prg w A g (outEnv L) (Str.ofString "place") outT Q (fun _ _ => False) it s₂) (fun _ _ => False) s₁) (fun _ _ => False) s := by
  let J : Nat → (Str → Option Value) → List (Addr × Obj) → Prop := fun i m₁ nx => ∃ bs ws cw ss cs ov co W S, (∀ p tp, OS Wl Sl Ol ov co b₀ r₀ p tp (fun y => if y = Str.ofString "place" then some (.int p tp) else m₁ y) nx bs ws cw ss cs W S) ∧
    IntsAre ov (forEnd H i) ∧ i ≤ 16 ∧ InvB H ((i : Int) - 1) W S ∧ (i = 0 ∨ ∀ x r, S ≠ [] → at' S 0 = [x, r] → (i : Int) - 1 < r)
  refine rng_loop (n := 16) (env := outEnv L) J Si.handled (by decide) F N ⟨bs, ws, cw, ss, cs, [], 0, W, S, O, .nil, by decide, I, .inl rfl⟩ ?_ ?_
  · clear F N O I
    rintro i t m₁ nx₁ h₁ tk₁ own hi hoff ⟨bs, ws, cw, ss, cs, ov, co, W, S, O, iO, hi', I, _⟩ F₁ N₁
    have hol := iO.length
    have hol' : ov.length < 500 := by rw [hol]; unfold forEnd; simp; omega
    have O' := O (i : Int) t
    have led := O'.led
    refine turnF Si F₁ N₁ (O'.into hoff) I gd hH hol' ?_
    intro h₂ tk₂ y t₂ m₂ nx₂ bs₂ ws₂ cw₂ ss₂ cs₂ W₂ S₂ hy F₂ N₂ O₂ I₂ hx
    have hown : ∀ q ∈ own, q ∈ (bs ++ r₀) ++ own := fun q hq => List.mem_append.mpr (.inr hq)
    have O₃ := O₂.out O'.hb O'.dB
    have hsub : ∀ q ∈ bs₂ ++ bs ++ r₀, q ∈ bs₂ ++ ((bs ++ r₀) ++ own) := fun q hq => by
      rw [List.append_assoc] at hq
      rcases List.mem_append.mp hq with hq | hq
      · exact List.mem_append.mpr (.inl hq)
      · exact List.mem_append.mpr (.inr (List.mem_append.mpr (.inl hq)))
    have led₂ := O₂.led
    refine InvEndG.intro (nx := (Wl, listOf ws₂.toArray cw₂) :: (Sl, listOf ss₂.toArray cs₂) :: (Ol, listOf (ov ++ [Value.int y t₂]).toArray (co + 1)) :: ((bs₂ ++ bs) ++ r₀)) F₂ N₂ ⟨bs₂ ++ bs, ws₂, cw₂, ss₂, cs₂, ov ++ [.int y t₂], co + 1, W₂, S₂, fun p tp => O₃.place p tp, ?_, hi, ?_, ?_⟩ ?_ ?_ ?_
    · rw [forEnd_succ, ← hy]; exact ints_append iO y t₂
    · have : (((i + 1 : Nat) : Int) - 1) = (i : Int) := by omega
      rw [this]; exact I₂
    · have : (((i + 1 : Nat) : Int) - 1) = (i : Int) := by omega
      rw [this]; exact .inr hx
    · intro q hq b hb
      rcases List.mem_cons.mp hb with rfl | hb
      · exact O₂.dW q (List.mem_append.mpr (.inr (hown q hq)))
      · rcases List.mem_cons.mp hb with rfl | hb
        · exact O₂.dS q (List.mem_append.mpr (.inr (hown q hq)))
        · rcases List.mem_cons.mp hb with rfl | hb
          · exact O₂.dO q (List.mem_append.mpr (.inr (hown q hq)))
          · rw [List.append_assoc, List.map_append] at hb
            rcases List.mem_append.mp hb with hb | hb
            · obtain ⟨z, hz, rfl⟩ := List.mem_map.mp hb
              exact (O₂.dB z hz q (hown q hq)).symm
            · refine hoff q hq b ?_
              rw [led]
              exact .tail _ (.tail _ (.tail _ hb))
    · intro q hq
      rw [led₂]
      rcases List.mem_cons.mp hq with rfl | hq
      · exact .head _
      · rcases List.mem_cons.mp hq with rfl | hq
        · exact .tail _ (.head _)
        · rcases List.mem_cons.mp hq with rfl | hq
          · exact .tail _ (.tail _ (.head _))
          · exact .tail _ (.tail _ (.tail _ (hsub q hq)))
    · intro q hq
      rw [led₂]
      exact .tail _ (.tail _ (.tail _ (List.mem_append.mpr (.inr (hown q hq)))))
  · rintro m₁ nx₁ h₁ tk₁ ⟨bs, ws, cw, ss, cs, ov, co, W, S, O, iO, hi', I, hx⟩ F₁ N₁
    have hW := invB_endW I gd (by decide)
    have hS := invB_endS I gd (by decide) (fun x r a b => by
      rcases hx with q | q
      · cases q
      · exact q x r a b)
    exact hQ h₁ _ m₁ nx₁ bs ws cw ss cs ov co W S F₁ N₁ O iO hW hS
end
end Mine
end

section
open PySem PySem.W PyProof.Rows PySem.Calls PyProof.Rows.LCg
set_option maxRecDepth 100000
namespace Mine
local macro_rules | `(tactic| walk_at "mine look") => `(tactic| first | with_reducible assumption | exact rfl | (refine (if_neg (by decide)).trans ?_; walk_at "mine look"))
section
variable {w : World} {A₁ : Around} {env₁ : Env} {base : Heap} {L Wl Sl Ol : Addr} {g : Heap} {s : Shared} {m : Str → Option Value} {ov : List Value} {co : Nat} {b₀ r₀ nx bs : List (Addr × Obj)} {ws : List Value} {cw : Nat} {ss : List Value} {cs : Nat} {W S : List Key} {H : List Key} {loose : List Str} {mean : ExcName → Option Value} {mg mb : Str → Option Value}

set_option maxHeartbeats 400000 in
theorem outTail2 {Q : Flow → Shared → Prop} (B : Below A₁ base [env₁] g) (X : (KF w).In g) (T : Top Mine.hd.view_39 loose mean mg mb g) (XB : (KF w).In base) (TB : Top Mine.hd.view_39 loose mean mg mb base) (D : KtsDicts ([env₁].filterMap (·.frame)) g)
    (hd : A₁.depth ≤ 400) (hu : A₁.units ≤ 100) (hh : A₁.handled = none)
    (F : Fr g L s.heap m) (N : News g L s.heap nx) (O : ∀ p tp, OS Wl Sl Ol ov co b₀ r₀ p tp (fun y => if y = Str.ofString "place" then some (.int p tp) else m y) nx bs ws cw ss cs W S) (hW : W = []) (hS : S = [])
    (hQ : ∀ h' tk g', KtsTurn ([env₁].filterMap (·.frame)) g g' → Fr g' L h' m → News g' L h' ((Ol, listOf ov.toArray co) :: r₀) → Q (.ret (.ref Ol)) { s with heap := h', toks := tk }) :
    wpAny (model prg w) (A₁.deeper (outEnv L)) (execs (outB.drop 5) (outEnv L)) Q (fun _ _ => False) s := by
  have O' := O 0 0
  have mW : m (Str.ofString "waiting") = some (.ref Wl) := (if_neg (by decide)).symm.trans O'.mW
  have mS : m (Str.ofString "standing") = some (.ref Sl) := (if_neg (by decide)).symm.trans O'.mS
  have mO : m (Str.ofString "outline") = some (.ref Ol) := (if_neg (by decide)).symm.trans O'.mO
  have eW : ws = [] := List.length_eq_zero_iff.mp (by rw [O'.iW.length, hW]; rfl)
  have eS : ss = [] := List.length_eq_zero_iff.mp (by rw [O'.iS.length, hS]; rfl)
  have led := O'.led
  clear O O'
  subst eW eS led
  have hA : (A₁.deeper (outEnv L)).frames = some (outEnv L :: [env₁]) := Around.frames_deeper B.stack
  have hd' : (A₁.deeper (outEnv L)).depth + 1 < 900 := by show A₁.depth + 1 + 1 < 900; omega
  have hu' : (A₁.deeper (outEnv L)).units + 70 < cLine := by rw [cLine_val]; show A₁.units + 3 + 70 < 9900; omega
  refine wpAny_execs_cons (wpAny_If (isTrue_or (isTrue_not (isTrue_plain (Call_ (name_K F X (topRead_of T) (by with_unfolding_all rfl) (callWith_K X (by with_unfolding_all rfl) (spliced_more (ld F mW (spliced_none ⟨X.keeps F.keep, ?_⟩))))))))))
  refine emp_call B hA rfl X T XB TB D hd' hu' hh F N fun h₁ tk₁ g₁ K₁ F₁ N₁ B₁ X₁ T₁ D₁ => wpAny_truthy_bool (if_bf rfl ?_)
  refine isTrue_or (isTrue_not (isTrue_plain (Call_ (name_K F₁ X₁ (topRead_of T₁) (by with_unfolding_all rfl) (callWith_K X₁ (by with_unfolding_all rfl) (spliced_more (ld F₁ mS (spliced_none ⟨X₁.keeps F₁.keep, ?_⟩))))))))
  refine emp_call B₁ hA rfl X₁ T₁ XB TB D₁ hd' hu' hh F₁ (fun q hq => N₁ q (mem2 q hq)) fun h₂ tk₂ g₂ K₂ F₂ N₂ B₂ X₂ T₂ D₂ => wpAny_truthy_bool (if_bf rfl (isTrue_or_nil (if_bf rfl (wpAny_execs_nil ?_))))
  refine wpAny_execs_cons (wpAny_Return_some (ld F₂ mO (hQ h₂ _ g₂ (K₁.trans K₂) F₂ fun q hq => N₂ q ?_)))
  rcases List.mem_cons.mp hq with rfl | hq
  · exact .tail _ (.tail _ (.head _))
  · exact .tail _ (.tail _ (.tail _ (List.mem_append.mpr (.inr hq))))

set_option maxHeartbeats 400000 in
theorem outTail1 {Q : Flow → Shared → Prop} (B : Below A₁ base [env₁] g) (X : (KF w).In g) (T : Top Mine.hd.view_39 loose mean mg mb g) (XB : (KF w).In base) (TB : Top Mine.hd.view_39 loose mean mg mb base) (D : KtsDicts ([env₁].filterMap (·.frame)) g)
    (hd : A₁.depth ≤ 400) (hu : A₁.units ≤ 100) (hh : A₁.handled = none) (gd : Good H) (hH : H.length < 400)
    (F : Fr g L s.heap m) (N : News g L s.heap ((Wl, listOf ws.toArray cw) :: r₀)) (hWl : ∀ q ∈ r₀, q.1 ≠ Wl) (hb : ∀ q ∈ b₀, q ∈ r₀) (I : Its b₀ ws (H.map waitOf)) (m1 : m (Str.ofString "waiting") = some (.ref Wl))
    (hQ : ∀ h' tk g' m' Ol ov co, IntsAre ov (forEnd H 16) → KtsTurn ([env₁].filterMap (·.frame)) g g' → Fr g' L h' m' → News g' L h' ((Ol, listOf ov.toArray co) :: r₀) → Q (.ret (.ref Ol)) { s with heap := h', toks := tk }) :
    wpAny (model prg w) (A₁.deeper (outEnv L)) (execs (outB.drop 1) (outEnv L)) Q (fun _ _ => False) s := by
  have Si : Site w (A₁.deeper (outEnv L)) (outEnv L) L g 4 := ⟨⟨A₁, base, [env₁], B, Around.frames_deeper B.stack⟩, X, ⟨loose, mean, mg, mb, T⟩, rfl, rfl, by show A₁.depth + 1 + 4 ≤ 900; omega, by show A₁.units + 3 + 3 * 4 ≤ 900; omega, hh⟩
  refine wpAny_execs_cons (wpAny_Assign_Name (List_ (spliced_none (newList_N F N fun h₁ F₁ N₁ => stN F₁ N₁ fun h₂ F₂ N₂ => ?_))) (by with_unfolding_all rfl))
  have f1 : ∀ q ∈ (Wl, listOf ws.toArray cw) :: r₀, q.1 ≠ s.heap.objs.size := fun q hq => Nat.ne_of_lt (Heap.lt_size (N q hq).1)
  generalize s.heap.objs.size = Sl at *
  refine wpAny_execs_cons (wpAny_If (wpAny_isTrue_Compare1 (Call_ (name_K F₂ X (topRead_of T) (by with_unfolding_all rfl) (callWith_K X (by with_unfolding_all rfl) (spliced_more (ld F₂ (by walk_at "mine look") (spliced_none ⟨X.keeps F₂.keep, ?_⟩))))))))
  refine hfy_call (d := 1) (rest := (Sl, listOf ([] : List Value).toArray 0) :: r₀) Si F₂ (fun q hq => N₂ q (mem2 q hq)) (fun q hq => ?_) (fun q hq => .tail _ (hb q hq)) I (by simp; omega) fun h₃ tk₃ ws₃ F₃ N₃ I₃ => ?_
  · rcases List.mem_cons.mp hq with rfl | hq
    · exact (f1 _ (.head _)).symm
    · exact hWl q hq
  refine wpAny_Constant_none (wpAny_isNot_self rfl (wpAny_truthy_bool (if_bf rfl (wpAny_execs_nil ?_))))
  refine wpAny_execs_cons (wpAny_Assign_Name (List_ (spliced_none (newList_N F₃ N₃ fun h₄ F₄ N₄ => stN F₄ N₄ fun h₅ F₅ N₅ => ?_))) (by with_unfolding_all rfl))
  have f2 : ∀ q ∈ (Wl, listOf ws₃.toArray cw) :: (Sl, listOf ([] : List Value).toArray 0) :: r₀, q.1 ≠ h₃.objs.size := fun q hq => Nat.ne_of_lt (Heap.lt_size (N₃ q hq).1)
  refine wpAny_execs_cons (For_invVF F₅ rfl rfl (Call_ (name_B F₅ X (topRead_of T) (by with_unfolding_all rfl) boot_range' (by decide) (Pv.callWith_type1 (spliced_more (wpAny_Constant_int (spliced_none ?_)))))) (hE := PassesOwn.never))
  refine loopF (Wl := Wl) (Sl := Sl) (Ol := h₃.objs.size) (b₀ := b₀) (r₀ := r₀) (bs := []) (ws := ws₃) (cw := cw) (ss := []) (cs := 0) (S := []) Si F₅ (fun q hq => N₅ q ?_) (fun p tp => ⟨rfl, hb, (f1 _ (.head _)), f2 _ (.head _), f2 _ (.tail _ (.head _)), hWl, fun q hq => f1 q (.tail _ hq), fun q hq => f2 q (.tail _ (.tail _ hq)), (fun q hq => nomatch hq), I₃, its_nil, by walk_at "mine look", by walk_at "mine look", by walk_at "mine look", rfl⟩) (invB_start gd) gd hH ?_
  · rcases List.mem_cons.mp hq with rfl | hq
    · exact .tail _ (.head _)
    · rcases List.mem_cons.mp hq with rfl | hq
      · exact .tail _ (.tail _ (.head _))
      · rcases List.mem_cons.mp hq with rfl | hq
        · exact .head _
        · exact .tail _ (.tail _ (.tail _ hq))
  · intro h₆ tk₆ m₆ nx₆ bs₆ ws₆ cw₆ ss₆ cs₆ ov₆ co₆ W₆ S₆ F₆ N₆ O₆ i₆ hW₆ hS₆
    refine outTail2 B X T XB TB D hd hu hh F₆ N₆ O₆ hW₆ hS₆ ?_
    intro h₇ tk₇ g₇ K₇ F₇ N₇
    exact hQ h₇ tk₇ g₇ m₆ _ ov₆ co₆ i₆ K₇ F₇ N₇
end
end Mine
end

section
open PySem PySem.W PyProof.Rows PySem.Calls PyProof.Rows.LCg
set_option maxRecDepth 100000
namespace Mine
local macro_rules | `(tactic| walk_at "mine look") => `(tactic| first | with_reducible assumption | exact rfl | (refine (if_neg (by decide)).trans ?_; walk_at "mine look"))
theorem off1_mem {D : Addr} : ∀ {l : List (Addr × Obj)}, Off1 D l → ∀ p ∈ l, p.1 ≠ D
  | [], _, _, h => nomatch h
  | _ :: _, x, p, h => by
    rcases List.mem_cons.mp h with rfl | h
    · exact x.1
    · exact off1_mem x.2 p h
/-- a local name of a comprehension's block -/
theorem cname {M : Model} {A : Around} {E : Value → Shared → Prop} {s : Shared} {scope : Scope} {cl : List (Str × Addr)} {C : Addr} {env : Env} {x : Str} {pos : Pos} {v : Value} {m₂ : Str → Option Value} {Q : Value → Shared → Prop}
    (hkind : scope.kind = .function) (hx : scope.names.lookup x = some .local) (hn : s.heap.Ns C m₂) (hv : m₂ x = some v) (h : Q v s) (hd : (x == ("__debug__" : Str)) = false := by decide) :
    wpAny M A (eval (.Name x pos) (compEnvC scope cl C env)) Q E s :=
  wpAny_Name (wpAny_loadName_local (by simp [compEnvC, relabel, hkind]) (lookup_relabel_local hx) hn hv h) hd

section
variable {w : World} {A A₁ : Around} {env₁ : Env} {base : Heap} {L Hl : Addr} {g : Heap} {s : Shared} {m : Str → Option Value} {b₀ nn news : List (Addr × Obj)} {us : List Value} {ch : Nat} {H : List Key} {loose : List Str} {mean : ExcName → Option Value} {mg mb : Str → Option Value}

theorem ctup {scope : Scope} {cl : List (Str × Addr)} {C : Addr} {oC : Obj} {env : Env} {m₂ : Str → Option Value} {p1 p2 p3 p4 p5 : Pos} {x y z : Int} {t1 t2 t3 : Tok} {Q : Value → Shared → Prop} {E : Value → Shared → Prop}
    (hkind : scope.kind = .function) (h1 : scope.names.lookup (Str.ofString "left") = some .local) (h2 : scope.names.lookup (Str.ofString "right") = some .local) (h3 : scope.names.lookup (Str.ofString "height") = some .local)
    (F : Fr g L s.heap m) (N : News g L s.heap nn) (hC : (C, oC) ∈ nn) (hoC : NsObj oC m₂) (a1 : m₂ (Str.ofString "left") = some (.int x t1)) (a2 : m₂ (Str.ofString "right") = some (.int y t2)) (a3 : m₂ (Str.ofString "height") = some (.int z t3))
    (h : ∀ h' tk ob, Fr g L h' m → News g L h' ((s.heap.objs.size, ob) :: nn) → DatIn [(s.heap.objs.size, ob)] (.ref s.heap.objs.size) (tupD [x, -z, y]) → Q (.ref s.heap.objs.size) { s with heap := h', toks := tk }) :
    wpAny (model prg w) A (eval (.Tuple [.Name (Str.ofString "left") p1, .UnaryOp .USub (.Name (Str.ofString "height") p2) p3, .Name (Str.ofString "right") p4] 0 p5) (compEnvC scope cl C env)) Q E s := by
  have hn : s.heap.Ns C m₂ := hoC.ns (N _ hC).1
  refine Tuple_ (spliced_more (cname hkind h1 hn a1 (spliced_more (UnaryOp_ (cname hkind h3 hn a3 (neg_int (spliced_more (cname hkind h2 hn a2 (spliced_none ?_)))))))))
  refine newTuple_N F N (fun h₄ F₄ N₄ => ?_) (by unfold sizeLine; simp)
  exact h h₄ _ _ F₄ N₄ (.tuple (.head _) (.cons (.int _ _) (.cons (.int _ _) (.cons (.int _ _) .nil))))

set_option maxHeartbeats 400000 in
theorem out_body {Q : Flow → Shared → Prop} (B : Below A₁ base [env₁] g) (X : (KF w).In g) (T : Top Mine.hd.view_39 loose mean mg mb g) (XB : (KF w).In base) (TB : Top Mine.hd.view_39 loose mean mg mb base) (D : KtsDicts ([env₁].filterMap (·.frame)) g)
    (hd : A₁.depth ≤ 400) (hu : A₁.units ≤ 100) (hh : A₁.handled = none) (gd : Good H) (hH : H.length < 400)
    (F : Fr g L s.heap m) (N : News g L s.heap ((Hl, listOf us.toArray ch) :: news)) (hb : ∀ q ∈ b₀, q ∈ news) (I : Its b₀ us H) (m1 : m (Str.ofString "houses") = some (.ref Hl))
    (hQ : ∀ h' tk g' m' Ol ov co, IntsAre ov (forEnd H 16) → KtsTurn ([env₁].filterMap (·.frame)) g g' → Fr g' L h' m' → News g' L h' ((Ol, listOf ov.toArray co) :: news) → Q (.ret (.ref Ol)) { s with heap := h', toks := tk }) :
    wpAny (model prg w) (A₁.deeper (outEnv L)) (execs outB (outEnv L)) Q (fun _ _ => False) s := by
  have hul := I.length
  let J : Nat → List Value → List (Addr × Obj) → Prop := fun i ys nw => ∃ bs, nw = bs ++ ((Hl, listOf us.toArray ch) :: news) ∧ Its bs ys ((H.take i).map waitOf)
  refine wpAny_execs_cons (acomp3 (ax := Hl) (its := us.toArray) (cax := ch) (cl := []) J (by decide) (by rw [List.size_toArray]; unfold sizeLine; omega) ?_ hh rfl F N ⟨[], rfl, its_nil⟩ (fun Q' h => ld F m1 h) ?_ ?_ (by with_unfolding_all rfl) (by with_unfolding_all rfl) (by decide) rfl (by decide) rfl rfl rfl (by decide) (by decide) (by decide) rfl rfl)
  · rintro i ys nw ⟨bs, rfl, _⟩
    exact List.mem_append.mpr (.inr (.head _))
  · rintro g' i v ys nw I' hv ⟨bs, rfl, Iy⟩
    have hv' : us[i]? = some v := by simpa using hv
    have hi : i < H.length := by
      have := (List.getElem?_eq_some_iff.mp hv').1
      omega
    obtain ⟨v', hv2, dv⟩ := I.get hi
    rw [hv'] at hv2
    obtain rfl := Option.some.inj hv2
    have hk : H.getD i [] ∈ H := by simp [List.getD, hi]
    have hk2 : H[i]? = some (H.getD i []) := by simp [List.getD, hi]
    generalize H.getD i [] = k at *
    obtain ⟨l, r, h, rfl, _⟩ := gd k hk
    obtain ⟨a, t1, t2, t3, n, rfl, hm⟩ := tri_open dv
    refine ⟨a, .int l t1, .int r t2, .int h t3, n, rfl, List.mem_append.mpr (.inr (.tail _ (hb _ hm))), ?_⟩
    intro oI C oC D m₂ h₁ tk₁ E' hoC a1 a2 a3 F₁ N₁ off
    refine ctup rfl rfl rfl rfl F₁ N₁ (.tail _ (.head _)) hoC a1 a2 a3 fun h₂ tk₂ ob F₂ N₂ d₂ => ?_
    have hfr : ∀ q ∈ (I', oI) :: (C, oC) :: (D, lst ys) :: (bs ++ ((Hl, listOf us.toArray ch) :: news)), q.1 ≠ h₁.objs.size := fun q hq => Nat.ne_of_lt (Heap.lt_size (N₁ q hq).1)
    refine ⟨h₂, tk₂, ((h₁.objs.size, ob) :: bs) ++ ((Hl, listOf us.toArray ch) :: news), rfl, F₂, fun q hq => N₂ q ?_, ⟨⟨(hfr _ (.head _)).symm, (hfr _ (.tail _ (.head _))).symm, (hfr _ (.tail _ (.tail _ (.head _)))).symm⟩, off⟩, (h₁.objs.size, ob) :: bs, rfl, ?_⟩
    · rcases List.mem_cons.mp hq with rfl | hq
      · exact .tail _ (.head _)
      · rcases List.mem_cons.mp hq with rfl | hq
        · exact .tail _ (.tail _ (.head _))
        · rcases List.mem_cons.mp hq with rfl | hq
          · exact .tail _ (.tail _ (.tail _ (.head _)))
          · rcases List.mem_cons.mp hq with rfl | hq
            · exact .head _
            · exact .tail _ (.tail _ (.tail _ (.tail _ hq)))
    · have e : H.take (i + 1) = H.take i ++ [[l, r, h]] := by simp [List.take_add_one, hk2]
      rw [e, List.map_append]
      exact Its.append (d₂.mono fun p hp => by rcases List.mem_singleton.mp hp with rfl; exact .head _) (Iy.mono fun p hp => .tail _ hp)
  · rintro D h₁ tk₁ ys nw ⟨bs, rfl, Iy⟩ F₁ N₁ off
    rw [List.size_toArray, hul, List.take_length] at Iy
    refine outTail1 B X T XB TB (by assumption) hd hu hh gd hH F₁ N₁ (off1_mem off) (fun q hq => List.mem_append.mpr (.inl hq)) Iy (by walk_at "mine look") ?_
    intro h₂ tk₂ g₂ m₂ Ol ov co i₂ K₂ F₂ N₂
    refine hQ h₂ tk₂ g₂ m₂ Ol ov co i₂ K₂ F₂ fun q hq => N₂ q ?_
    rcases List.mem_cons.mp hq with rfl | hq
    · exact .head _
    · exact .tail _ (List.mem_append.mpr (.inr (.tail _ hq)))

/-- _law_outline, called from the law's own frame -/
theorem out_call {env : Env} {A₀ : Around} {h₀ : Heap} {Q : Value → Shared → Prop} {E : Value → Shared → Prop} (B : Below A₀ base [] h₀) (hA : A.frames = some [env]) (hf : env.frame = some L) (hke : env.scope.kind = .function) (X : (KF w).In h₀) (T : Top Mine.hd.view_39 loose mean mg mb h₀) (XB : (KF w).In base) (TB : Top Mine.hd.view_39 loose mean mg mb base)
    (hd : A.depth ≤ 400) (hu : A.units ≤ 100) (hh : A.handled = none) (gd : Good H) (hH : H.length < 400)
    (F : Fr h₀ L s.heap m) (N : News h₀ L s.heap ((Hl, listOf us.toArray ch) :: news)) (hb : ∀ q ∈ b₀, q ∈ news) (I : Its b₀ us H)
    (hQ : ∀ h' tk Ol ov co, IntsAre ov (forEnd H 16) → Fr h₀ L h' m → News h₀ L h' ((Ol, listOf ov.toArray co) :: news) → Q (.ref Ol) { s with heap := h', toks := tk }) :
    wpAny (model prg w) A (PySem.call (.ref 68) [.ref Hl] []) Q E s := by
  refine call_S0 (name := Str.ofString "_law_outline") (qual := Str.ofString "_law_outline") (body := outB) (scope := outS) (cdv := .ref 67) (binds := [(Str.ofString "houses", .ref Hl)]) B hA hf hke X T F N (by with_unfolding_all rfl) (by with_unfolding_all rfl) (by omega) (BindsTo.of_eq rfl) (locs rfl) ?_
  intro g L' h₁ tk F' N' B' X' T' D'
  refine out_body B' X' T' XB TB D' hd hu hh gd hH F' N' hb I rfl ?_
  intro h' tk' g' m' Ol ov co i₂ K₂ F₂ N₂
  exact ⟨h', tk', g', m', _, rfl, K₂, F₂, N₂, fun a b => hQ h' tk' Ol ov co i₂ a b⟩
end
end Mine
end

section
open PySem PySem.W PyProof.Rows PySem.Calls PyProof.Rows.LCg
set_option maxRecDepth 100000
namespace Mine
local macro_rules | `(tactic| walk_at "mine look") => `(tactic| first | with_reducible assumption | exact rfl | (refine (if_neg (by decide)).trans ?_; walk_at "mine look"))
def lawB : List Stmt := bodyOf (defNo 11)
def lawS : Scope := scopeOf (defNo 11)
abbrev lawEnv (L a : Addr) (cd : Value) : Env := envX (Str.ofString "law") lawS L a cd [(Str.ofString "place", L + 1)]
def lawT : List Stmt := forBody (stAt lawB 2)
def callArg : PySem.Expr → PySem.Expr
  | .Call _ (a :: _) _ _ => a
  | e => e
def exprOf : Stmt → PySem.Expr
  | .Expr e _ => e
  | _ => .Name "x" ⟨0, 0, 0, 0⟩
def maxE : PySem.Expr := callArg (exprOf (stAt lawT 0))
def binE : PySem.Expr := callArg maxE

section
variable {w : World} {A : Around} {L Hl Dl a : Addr} {cd : Value} {g : Heap} {s : Shared} {m : Str → Option Value} {b₀ nn rest : List (Addr × Obj)} {us : List Value} {ch : Nat} {H : List Key} {E : Value → Shared → Prop}

theorem ctest {scope : Scope} {cl : List (Str × Addr)} {C c : Addr} {oC oc : Obj} {env : Env} {m₂ : Str → Option Value} {p1 p2 p3 p4 : Pos} {x y p : Int} {t1 t2 tp : Tok} {whole : Sem Value} {Q : Bool → Shared → Prop}
    (hkind : scope.kind = .function) (h1 : scope.names.lookup (Str.ofString "left") = some .local) (h2 : scope.names.lookup (Str.ofString "right") = some .local)
    (N : News g L s.heap nn) (hC : (C, oC) ∈ nn) (hoC : NsObj oC m₂) (a1 : m₂ (Str.ofString "left") = some (.int x t1)) (a2 : m₂ (Str.ofString "right") = some (.int y t2))
    (hc : cl.lookup (Str.ofString "place") = some c) (hcm : (c, oc) ∈ nn) (hcd : oc.data = .cell (some (.int p tp)))
    (hk : (compEnvC scope cl C env).scope.kind = .function) (hx : (compEnvC scope cl C env).kindOf (Str.ofString "place") = some .cell)
    (h : Q (decide (x ≤ p) && decide (p < y)) s) :
    wpAny (model prg w) A (isTrue (.Compare (.Name (Str.ofString "left") p1) [.LtE, .Lt] [.Name (Str.ofString "place") p2, .Name (Str.ofString "right") p3] p4) (compEnvC scope cl C env) whole) Q E s := by
  have hn : s.heap.Ns C m₂ := hoC.ns (N _ hC).1
  refine isTrue_chain (cname hkind h1 hn a1 (test_link (lcf_cell N hc hcm hcd (le_int (wpAny_truthy_bool ?_)) hk hx)))
  by_cases hl : x ≤ p
  · refine if_bt (by simp [hl]) (test_last (cname hkind h2 hn a2 (lt_int (wpAny_truthy_bool ?_))))
    simpa [hl] using h
  · refine if_bf (by simp [hl]) ?_
    simpa [hl] using h

set_option maxHeartbeats 400000 in
/-- [0] + [height for left, right, height in houses if left <= place < right] -/
theorem law_list {oc : Obj} {p : Int} {tp : Tok} {Q : Value → Shared → Prop} (hh : A.handled = none) (F : Fr g L s.heap m) (N : News g L s.heap nn) (hm : (Hl, listOf us.toArray ch) ∈ nn) (hb : ∀ q ∈ b₀, q ∈ nn) (I : Its b₀ us H) (gd : Good H) (hH : H.length < 400)
    (hcm : (L + 1, oc) ∈ nn) (hcd : oc.data = .cell (some (.int p tp))) (m1 : m (Str.ofString "houses") = some (.ref Hl))
    (hQ : ∀ h' tk D ys, Fr g L h' m → News g L h' ((D, listOf ys.toArray 0) :: nn) → IntsAre ys (0 :: (H.filter (cov p)).map fun k => k.getD 2 0) → Q (.ref D) { s with heap := h', toks := tk }) :
    wpAny (model prg w) A (eval binE (lawEnv L a cd)) Q E s := by
  have hul := I.length
  refine wpAny_BinOp (List_ (spliced_more (wpAny_Constant_int (spliced_none (newList_N F N (fun h₁ F₁ N₁ => ?_) (by unfold sizeLine; simp))))))
  let nw₀ := (s.heap.objs.size, ({ cls := .type "list", data := .seq [Value.int 0 s.toks].toArray } : Obj)) :: nn
  let J : Nat → List Value → List (Addr × Obj) → Prop := fun i ys nw => nw = nw₀ ∧ IntsAre ys (((H.take i).filter (cov p)).map fun k => k.getD 2 0)
  refine comp3 (ax := Hl) (its := us.toArray) (cax := ch) (cl := [(Str.ofString "place", L + 1)]) J (by decide) (by rw [List.size_toArray]; unfold sizeLine; omega) ?_ hh F₁ N₁ ⟨rfl, .nil⟩ (fun Q' h => nameX_L F₁ m1 h) ?_ ?_ (by with_unfolding_all rfl) (by decide) rfl (by decide) rfl rfl rfl (by decide) (by decide) (by decide)
  · rintro i ys nw ⟨rfl, _⟩
    exact .tail _ hm
  · rintro g' i v ys nw I' hv ⟨rfl, Iy⟩
    have hv' : us[i]? = some v := by simpa using hv
    have hi : i < H.length := by
      have := (List.getElem?_eq_some_iff.mp hv').1
      omega
    obtain ⟨v', hv2, dv⟩ := I.get hi
    rw [hv'] at hv2
    obtain rfl := Option.some.inj hv2
    have hk : H.getD i [] ∈ H := by simp [List.getD, hi]
    have hk2 : H[i]? = some (H.getD i []) := by simp [List.getD, hi]
    generalize H.getD i [] = k at *
    obtain ⟨l, r, h, rfl, _⟩ := gd k hk
    obtain ⟨ad, t1, t2, t3, n, rfl, hmt⟩ := tri_open dv
    have e : H.take (i + 1) = H.take i ++ [[l, r, h]] := by simp [List.take_add_one, hk2]
    have ecov : cov p [l, r, h] = (decide (l ≤ p) && decide (p < r)) := rfl
    refine ⟨ad, .int l t1, .int r t2, .int h t3, n, rfl, .tail _ (hb _ hmt), ?_⟩
    intro oI C oC D m₂ h₂ tk₂ E' hoC a1 a2 a3 F₂ N₂ off
    refine ctest rfl rfl rfl N₂ (.tail _ (.head _)) hoC a1 a2 (c := L + 1) rfl (.tail _ (.tail _ (.tail _ (.tail _ hcm)))) hcd rfl rfl ?_
    by_cases hc : (decide (l ≤ p) && decide (p < r)) = true
    · refine if_bt hc (cname rfl rfl (hoC.ns (N₂ _ (.tail _ (.head _))).1) a3 ?_)
      refine ⟨h₂, _, nw₀, rfl, F₂, N₂, off, rfl, ?_⟩
      rw [e, List.filter_append, List.map_append]
      have e2 : [([l, r, h] : Key)].filter (cov p) = [[l, r, h]] := by rw [List.filter_cons, ecov, if_pos hc]; rfl
      rw [e2]
      exact ints_append Iy h t3
    · rw [Bool.not_eq_true] at hc
      refine if_bf hc ?_
      refine ⟨h₂, _, nw₀, rfl, F₂, N₂, off, rfl, ?_⟩
      rw [e, List.filter_append, List.map_append]
      have e2 : [([l, r, h] : Key)].filter (cov p) = [] := by rw [List.filter_cons, ecov, if_neg (by rw [hc]; simp)]; rfl
      rw [e2]
      simpa using Iy
  · rintro D h₂ tk₂ ys nw ⟨rfl, Iy⟩ F₂ N₂ off
    rw [List.size_toArray, hul, List.take_length] at Iy
    refine add_arrays_ints F₂ N₂ ⟨_, (N₂ _ (.tail _ (.head _))).1, rfl, _, rfl⟩ ⟨_, (N₂ _ (.head _)).1, rfl, _, rfl⟩ (.cons 0 _ .nil) Iy (fun h₃ F₃ N₃ i₃ => ?_) ?_
    · refine hQ h₃ _ _ _ F₃ (fun q hq => N₃ q ?_) i₃
      rcases List.mem_cons.mp hq with rfl | hq
      · exact .head _
      · exact .tail _ (.tail _ (.tail _ hq))
    · have hf := List.length_filter_le (cov p) H
      unfold sizeLine; simp; omega
end
end Mine
end

section
open PySem PySem.W PyProof.Rows PySem.Calls PyProof.Rows.LCg
set_option maxRecDepth 100000
namespace Mine
local macro_rules | `(tactic| walk_at "mine look") => `(tactic| first | with_reducible assumption | exact rfl | (refine (if_neg (by decide)).trans ?_; walk_at "mine look"))
theorem max_is {l : List Int} {M : Int} (h1 : M ∈ 0 :: l) (h2 : ∀ a, a ∈ 0 :: l → a ≤ M) : M = l.foldl max 0 := by
  obtain ⟨c1, c2⟩ := foldl_max_ge l 0
  have c3 := foldl_max_le l 0 M (h2 0 (.head _)) fun x hx => h2 x (.tail _ hx)
  have c4 : M ≤ l.foldl max 0 := by
    rcases List.mem_cons.mp h1 with rfl | h1
    · exact c1
    · exact c2 M h1
  omega
section
variable {w : World} {A : Around} {L Hl Dl a : Addr} {cd : Value} {g : Heap} {s : Shared} {m : Str → Option Value} {b₀ nn rest : List (Addr × Obj)} {us : List Value} {ch : Nat} {H : List Key} {loose : List Str} {mean : ExcName → Option Value} {mg mb : Str → Option Value}

set_option maxHeartbeats 400000 in
/-- a turn of the law's loop -/
theorem law_turn {oc : Obj} {p : Int} {tp : Tok} {ov : List Value} {co : Nat} {Q : Flow → Shared → Prop} (X : (KF w).In g) (T : Top Mine.hd.view_39 loose mean mg mb g) (hh : A.handled = none) (F : Fr g L s.heap m) (N : News g L s.heap ((Dl, listOf ov.toArray co) :: rest)) (hD : ∀ q ∈ rest, q.1 ≠ Dl)
    (hm : (Hl, listOf us.toArray ch) ∈ rest) (hb : ∀ q ∈ b₀, q ∈ rest) (I : Its b₀ us H) (gd : Good H) (hH : H.length < 400)
    (hcm : (L + 1, oc) ∈ rest) (hcd : oc.data = .cell (some (.int p tp))) (m1 : m (Str.ofString "houses") = some (.ref Hl)) (m2 : m (Str.ofString "due") = some (.ref Dl)) (hov : ov.length < 500)
    (hQ : ∀ h' tk y t, y = dueAt H p → Fr g L h' m → News g L h' ((Dl, listOf (ov ++ [Value.int y t]).toArray (co + 1)) :: rest) → Q .next { s with heap := h', toks := tk }) :
    wpAny (model prg w) A (execs lawT (lawEnv L a cd)) Q (fun _ _ => False) s := by
  refine wpAny_execs_cons (wpAny_Expr (MethodCall_ (nameX_L F m2 (kl_method N (.head _) PySem.F.slot_list_append PySem.F.type_list_append (PyProof.Rows.callWith_method1 (spliced_more ?_))))))
  refine Call_ (nameX_B F X (topRead_of T) (by with_unfolding_all rfl) boot_max' (by decide) (PyProof.Rows.callWith_method1 (spliced_more ?_)))
  refine law_list hh F N (.tail _ hm) (fun q hq => .tail _ (hb q hq)) I gd hH (.tail _ hcm) hcd m1 fun h₁ tk₁ D ys F₁ N₁ i₁ => spliced_none ?_
  refine max_list_N hh F₁ N₁ ⟨_, (N₁ _ (.head _)).1, rfl, _, rfl⟩ i₁ (by simp) fun h₂ M t tk₂ F₂ N₂ hM1 hM2 => spliced_none ?_
  refine append_K F₂ (fun q hq => N₂ q (.tail _ hq)) (.head hD) (fun h₃ F₃ N₃ => ?_) (by rw [List.size_toArray]; unfold sizeLine; omega)
  rw [List.push_toArray] at N₃
  exact wpAny_execs_nil (hQ h₃ _ M t (max_is hM1 hM2) F₃ N₃)

set_option maxHeartbeats 400000 in
/-- for place in range(16), place a cell -/
theorem law_loop {Ir : Addr} {oc : Obj} {v₀ : Option Value} {px : Pos} {R : Result → Shared → Prop} (X : (KF w).In g) (T : Top Mine.hd.view_39 loose mean mg mb g) (hh : A.handled = none) (hI : s.heap.get? Ir = some (ritObj 0 16 1)) (F : Fr g L s.heap m)
    (N : News g L s.heap ((L + 1, oc) :: (Dl, listOf ([] : List Value).toArray 0) :: rest)) (hoc : oc.data = .cell v₀) (dC : ∀ q ∈ rest, q.1 ≠ L + 1) (dCD : Dl ≠ L + 1) (dD : ∀ q ∈ rest, q.1 ≠ Dl) (dIC : Ir ≠ L + 1) (dID : Ir ≠ Dl) (dI : ∀ q ∈ rest, q.1 ≠ Ir) (dIL : Ir ≠ L) (hI₀ : g.get? Ir = none)
    (hm : (Hl, listOf us.toArray ch) ∈ rest) (hb : ∀ q ∈ b₀, q ∈ rest) (I : Its b₀ us H) (gd : Good H) (hH : H.length < 400) (m1 : m (Str.ofString "houses") = some (.ref Hl)) (m2 : m (Str.ofString "due") = some (.ref Dl))
    (hR : ∀ h' tk ov co, IntsAre ov (forEnd H 16) → Fr g L h' m → News g L h' ((Dl, listOf ov.toArray co) :: rest) → R (.ok .next) { s with heap := h', toks := tk }) :
    codeAny (model prg w) A (.forLoop (.Name (Str.ofString "place") px) (.ref Ir) lawT [] (lawEnv L a cd)) R s := by
  have W : Walks prg w A Ir [Ir] [Ir] 16 (fun i v => i < 16 ∧ ∃ t, v = .int (0 + i * 1) t) (fun i h => IsRangeIter h Ir (0 + (i : Nat) * 1) (((16 : Nat) : Int) - (i : Nat)) 1) := (Walks.range hh Ir 0 1 16).bound
  refine codeAny_forLoop (fun k s' => ∃ h' tk ov co oc' v' i, s' = { s with heap := h', toks := tk } ∧ i ≤ 16 ∧ k = 17 - i ∧ IsRangeIter h' Ir (0 + (i : Nat) * 1) (((16 : Nat) : Int) - (i : Nat)) 1 ∧ Fr g L h' m ∧
    News g L h' ((L + 1, oc') :: (Dl, listOf ov.toArray co) :: rest) ∧ oc'.data = .cell v' ∧ IntsAre ov (forEnd H i)) ?_ 17 ⟨s.heap, s.toks, [], 0, oc, v₀, 0, rfl, by decide, rfl, hI, F, N, hoc, .nil⟩
  rintro k _ ⟨h', tk, ov, co, oc', v', i, rfl, hi, rfl, hit, F', N', hoc', iO⟩
  have hol := iO.length
  have hov : ov.length < 500 := by rw [hol]; unfold forEnd; simp; omega
  by_cases hlt : i < 16
  · refine W.item i _ _ _ hlt hit fun v h₁ tk₁ hP hst₁ hk₁ => ?_
    have up : ∀ b o, b ≠ Ir → h'.get? b = some o → h₁.get? b = some o := fun b o hb e => hk₁ b o (by simpa using hb) e
    have F₁ : Fr g L h₁ m := ⟨F'.ns.at' fun o e => up _ o (Ne.symm dIL) e, fun b o e => up b o (fun q => by rw [q, hI₀] at e; cases e) (F'.keep b o e), F'.above⟩
    have N₁ : News g L h₁ ((L + 1, oc') :: (Ir, ritObj (0 + ((i + 1 : Nat) : Int) * 1) (((16 : Nat) : Int) - ((i + 1 : Nat) : Int)) 1) :: (Dl, listOf ov.toArray co) :: rest) := by
      intro q hq
      rcases List.mem_cons.mp hq with rfl | hq
      · exact ⟨up _ _ (Ne.symm dIC) (N' _ (.head _)).1, (N' _ (.head _)).2⟩
      · rcases List.mem_cons.mp hq with rfl | hq
        · exact ⟨hst₁, dIL, hI₀⟩
        · rcases List.mem_cons.mp hq with rfl | hq
          · exact ⟨up _ _ (Ne.symm dID) (N' _ (.tail _ (.head _))).1, (N' _ (.tail _ (.head _))).2⟩
          · exact ⟨up _ _ (dI q hq) (N' _ (.tail _ (.tail _ hq))).1, (N' _ (.tail _ (.tail _ hq))).2⟩
    obtain ⟨_, t, rfl⟩ := hP
    have e0 : (0 : Int) + (i : Nat) * 1 = (i : Int) := by omega
    refine wpAny_assign_Name (storeX_C F₁ N₁ (c := L + 1) rfl (.head fun q hq => ?_) hoc' fun h₂ o₂ F₂ N₂ hd₂ => ?_)
    · rcases List.mem_cons.mp hq with rfl | hq
      · exact dIC
      · rcases List.mem_cons.mp hq with rfl | hq
        · exact dCD
        · exact dC q hq
    refine wpAny_mono (law_turn (Q := fun fl s' => fl = .next ∧ ∃ h₃ tk₃ y t₃, s' = { s with heap := h₃, toks := tk₃ } ∧ y = dueAt H (0 + (i : Nat) * 1) ∧ Fr g L h₃ m ∧ News g L h₃ ((Dl, listOf (ov ++ [Value.int y t₃]).toArray (co + 1)) :: (L + 1, o₂) :: (Ir, ritObj (0 + ((i + 1 : Nat) : Int) * 1) (((16 : Nat) : Int) - ((i + 1 : Nat) : Int)) 1) :: rest))
      (ov := ov) (co := co) (rest := (L + 1, o₂) :: (Ir, ritObj (0 + ((i + 1 : Nat) : Int) * 1) (((16 : Nat) : Int) - ((i + 1 : Nat) : Int)) 1) :: rest) X T hh F₂ (fun q hq => N₂ q ?_) (fun q hq => ?_) (.tail _ (.tail _ hm)) (fun q hq => .tail _ (.tail _ (hb q hq))) I gd hH (.head _) hd₂ m1 m2 hov ?_) ?_ (fun _ _ x => x.elim)
    · rcases List.mem_cons.mp hq with rfl | hq
      · exact .tail _ (.tail _ (.head _))
      · rcases List.mem_cons.mp hq with rfl | hq
        · exact .head _
        · rcases List.mem_cons.mp hq with rfl | hq
          · exact .tail _ (.head _)
          · exact .tail _ (.tail _ (.tail _ hq))
    · rcases List.mem_cons.mp hq with rfl | hq
      · exact Ne.symm dCD
      · rcases List.mem_cons.mp hq with rfl | hq
        · exact dID
        · exact dD q hq
    · intro h₃ tk₃ y t₃ hy F₃ N₃
      exact ⟨rfl, h₃, tk₃, y, t₃, rfl, hy, F₃, N₃⟩
    · rintro _ _ ⟨rfl, h₃, tk₃, y, t₃, rfl, hy, F₃, N₃⟩
      rw [e0] at hy
      refine ⟨17 - (i + 1), by omega, h₃, tk₃, ov ++ [Value.int y t₃], co + 1, o₂, _, i + 1, rfl, hlt, rfl, (N₃ _ (.tail _ (.tail _ (.head _)))).1, F₃, fun q hq => N₃ q ?_, hd₂, ?_⟩
      · rcases List.mem_cons.mp hq with rfl | hq
        · exact .tail _ (.head _)
        · rcases List.mem_cons.mp hq with rfl | hq
          · exact .head _
          · exact .tail _ (.tail _ (.tail _ hq))
      · rw [forEnd_succ, ← hy]; exact ints_append iO y t₃
  · obtain rfl : i = 16 := by omega
    refine W.done _ _ _ hit fun h₁ tk₁ hk₁ => wpAny_execs_nil ?_
    have up : ∀ b o, b ≠ Ir → h'.get? b = some o → h₁.get? b = some o := fun b o hb e => hk₁ b o (by simpa using hb) e
    refine hR h₁ tk₁ ov co iO ⟨F'.ns.at' fun o e => up _ o (Ne.symm dIL) e, fun b o e => up b o (fun q => by rw [q, hI₀] at e; cases e) (F'.keep b o e), F'.above⟩ fun q hq => ?_
    rcases List.mem_cons.mp hq with rfl | hq
    · exact ⟨up _ _ (Ne.symm dID) (N' _ (.tail _ (.head _))).1, (N' _ (.tail _ (.head _))).2⟩
    · exact ⟨up _ _ (dI q hq) (N' _ (.tail _ (.tail _ hq))).1, (N' _ (.tail _ (.tail _ hq))).2⟩
end
end Mine
end

section
open PySem PySem.W PyProof.Rows PySem.Calls PyProof.Rows.LCg
set_option maxRecDepth 100000
namespace Mine
local macro_rules | `(tactic| walk_at "mine look") => `(tactic| first | with_reducible assumption | exact rfl | (refine (if_neg (by decide)).trans ?_; walk_at "mine look"))
theorem its_filter {bs : List (Addr × Obj)} {f : Addr × Obj → Bool} (h : ∀ a vs n, (a, ({ cls := .type "tuple", data := .seq vs n } : Obj)) ∈ bs → f (a, ({ cls := .type "tuple", data := .seq vs n } : Obj)) = true) :
    ∀ {vs : List Value} {ks : List Key}, Its bs vs ks → Its (bs.filter f) vs ks
  | _, [], I => by cases I; exact .nil
  | _, k :: ks, I => by
    cases I with
    | cons d r =>
      refine .cons ?_ (its_filter h r)
      obtain ⟨a, us, n, rfl, hm, hi⟩ := dat_open d
      exact .tuple (List.mem_filter.mpr ⟨hm, h _ _ _ hm⟩) (dat_of_ints hi)
theorem dec_self {α : Type} {x : α} {i : Decidable (x = x)} : @decide (x = x) i = true := @decide_eq_true _ i rfl
theorem int_ok {l : List Int} : ∀ d ∈ l.map Dat.int, kqdOk 8 d = true := by
  intro d hd
  obtain ⟨k, _, rfl⟩ := List.mem_map.mp hd
  rfl
section
variable {w : World} {L Hl Dl a : Addr} {cd : Value} {g : Heap} {s : Shared} {m : Str → Option Value} {b₀ nn rest : List (Addr × Obj)} {us : List Value} {ch : Nat} {H : List Key} {loose : List Str} {mean : ExcName → Option Value} {mg mb : Str → Option Value}

set_option maxHeartbeats 400000 in
theorem law_for {A : Around} {oc : Obj} {v₀ : Option Value} {Q : Flow → Shared → Prop} (X : (KF w).In g) (T : Top Mine.hd.view_39 loose mean mg mb g) (hh : A.handled = none) (F : Fr g L s.heap m)
    (N : News g L s.heap ((L + 1, oc) :: (Dl, listOf ([] : List Value).toArray 0) :: rest)) (hoc : oc.data = .cell v₀) (dC : ∀ q ∈ rest, q.1 ≠ L + 1) (dCD : Dl ≠ L + 1) (dD : ∀ q ∈ rest, q.1 ≠ Dl)
    (hm : (Hl, listOf us.toArray ch) ∈ rest) (hb : ∀ q ∈ b₀, q ∈ rest) (I : Its b₀ us H) (gd : Good H) (hH : H.length < 400) (m1 : m (Str.ofString "houses") = some (.ref Hl)) (m2 : m (Str.ofString "due") = some (.ref Dl))
    (hQ : ∀ h' tk ov co, IntsAre ov (forEnd H 16) → Fr g L h' m → News g L h' ((Dl, listOf ov.toArray co) :: rest) → Q .next { s with heap := h', toks := tk }) :
    wpAny (model prg w) A (exec (stAt lawB 2) (lawEnv L a cd)) Q (fun _ _ => False) s := by
  refine wpAny_For (Call_ (nameX_B F X (topRead_of T) (by with_unfolding_all rfl) boot_range' (by decide) (Pv.callWith_type1 (spliced_more (wpAny_Constant_int (spliced_none ?_))))))
  refine call_range_1 (wpAny_pyIter_range (IsRange.new _ _ _ _ _ _ _) (small_of (n := 16) (by decide)) ?_)
  refine law_loop X T hh (Heap.get?_push_size _ rfl) ((F.push _).push _) (news_push (news_push N _) _) hoc dC dCD dD ?_ ?_ ?_ ?_ ?_ hm hb I gd hH m1 m2 ?_
  · exact Nat.ne_of_gt (Heap.lt_size (news_push N _ _ (.head _)).1)
  · exact Nat.ne_of_gt (Heap.lt_size (news_push N _ _ (.tail _ (.head _))).1)
  · exact fun q hq => Nat.ne_of_lt (Heap.lt_size (news_push N _ _ (.tail _ (.tail _ hq))).1)
  · exact Nat.ne_of_gt (F.push _).ns.lt
  · exact next_is_new (F.push _)
  · intro h' tk ov co iO F' N'
    exact hQ h' tk ov co iO F' N'

set_option maxHeartbeats 400000 in
theorem law_main {l : Addr} {vs : List Value} {ns : List Int} {oc : Obj} {v₀ : Option Value} {Q : Flow → Shared → Prop} {E : Value → Shared → Prop} (B : Below callerA g [] g) (X : (KF w).In g) (T : Top Mine.hd.view_39 loose mean mg mb g) (F : Fr g L s.heap m) (N : News g L s.heap [(L + 1, oc)]) (hoc : oc.data = .cell v₀)
    (hl : g.IsList l vs.toArray) (hi : IntsAre vs ns) (hlen : ns.length < 1000) (m1 : m (Str.ofString "script") = some (.ref l))
    (hQ : ∀ h' tk m', Fr g L h' m' → Q (.ret (.bool true)) { s with heap := h', toks := tk }) :
    wpAny (model prg w) (callerA.deeper (lawEnv L a cd)) (execs lawB (lawEnv L a cd)) Q E s := by
  refine wpAny_mono (Q := Q) (E := fun _ _ => False) ?_ (fun _ _ x => x) (fun _ _ x => x.elim)
  have hh : (callerA.deeper (lawEnv L a cd)).handled = none := rfl
  have hA : (callerA.deeper (lawEnv L a cd)).frames = some [lawEnv L a cd] := Around.frames_deeper B.stack
  have hdp : (callerA.deeper (lawEnv L a cd)).depth ≤ 400 := by show 1 + claimMargin + 1 ≤ 400; decide
  have hun : (callerA.deeper (lawEnv L a cd)).units ≤ 100 := by show 4 + 3 ≤ 100; decide
  have Si : Site w (callerA.deeper (lawEnv L a cd)) (lawEnv L a cd) L g 1 := ⟨⟨callerA, g, [], B, hA⟩, X, ⟨loose, mean, mg, mb, T⟩, rfl, rfl, by omega, by omega, hh⟩
  have gd := good_houses (numsOf ns)
  have hH : ((numsOf ns).map houseOf).length < 400 := by unfold numsOf; simp; omega
  generalize callerA.deeper (lawEnv L a cd) = A at *
  refine wpAny_execs_cons (wpAny_Assign_Name (Call_ (nameX_K F X (topRead_of T) (by with_unfolding_all rfl) (callWith_K X (by with_unfolding_all rfl) (spliced_more (nameX_L F m1 (spliced_none ⟨X.keeps F.keep, ?_⟩)))))) (by with_unfolding_all rfl))
  refine houses_call (d := 0) Si F N hl hi hlen fun h₁ tk₁ Hl us ch bs F₁ N₁ I₁ => storeX_L F₁ N₁ fun h₂ F₂ N₂ => ?_
  generalize hHH : (numsOf ns).map houseOf = H at *
  refine wpAny_execs_cons (wpAny_Assign_Name (List_ (spliced_none (newList_N F₂ N₂ fun h₃ F₃ N₃ => storeX_L F₃ N₃ fun h₄ F₄ N₄ => ?_))) (by with_unfolding_all rfl))
  have f2 : ∀ q ∈ (Hl, listOf us.toArray ch) :: (bs ++ [(L + 1, oc)]), q.1 ≠ h₂.objs.size := fun q hq => Nat.ne_of_lt (Heap.lt_size (N₂ q hq).1)
  have hc2 : h₂.get? (L + 1) = some oc := (N₂ (L + 1, oc) (.tail _ (List.mem_append.mpr (.inr (.head _))))).1
  have hne : ∀ b o xs n, (b, o) ∈ (Hl, listOf us.toArray ch) :: (bs ++ [(L + 1, oc)]) → o.data = .seq xs n → b ≠ L + 1 := by
    intro b o xs n hm hd e
    have := (N₂ _ hm).1
    dsimp only at this
    rw [e, hc2] at this
    injection this with this
    rw [← this, hoc] at hd
    cases hd
  have I' : Its (bs.filter fun q => decide (q.1 ≠ L + 1)) us H := its_filter (fun b xs n hm => decide_eq_true (hne b _ xs n (.tail _ (List.mem_append.mpr (.inl hm))) rfl)) I₁
  have hHl : Hl ≠ L + 1 := hne Hl _ _ _ (.head _) rfl
  have hsubf : ∀ q ∈ (Hl, listOf us.toArray ch) :: (bs.filter fun q => decide (q.1 ≠ L + 1)), q ∈ (Hl, listOf us.toArray ch) :: (bs ++ [(L + 1, oc)]) := by
    intro q hq
    rcases List.mem_cons.mp hq with rfl | hq
    · exact .head _
    · exact .tail _ (List.mem_append.mpr (.inl (List.mem_filter.mp hq).1))
  have dC : ∀ q ∈ (Hl, listOf us.toArray ch) :: (bs.filter fun q => decide (q.1 ≠ L + 1)), q.1 ≠ L + 1 := by
    intro q hq
    rcases List.mem_cons.mp hq with rfl | hq
    · exact hHl
    · exact of_decide_eq_true (List.mem_filter.mp hq).2
  have dCD : h₂.objs.size ≠ L + 1 := (f2 (L + 1, oc) (.tail _ (List.mem_append.mpr (.inr (.head _))))).symm
  generalize (bs.filter fun q => decide (q.1 ≠ L + 1)) = bf at *
  refine wpAny_execs_cons (law_for (rest := (Hl, listOf us.toArray ch) :: bf) (b₀ := bf) (oc := oc) X T hh F₄ (fun q hq => N₄ q ?_) hoc dC dCD (fun q hq => f2 q (hsubf q hq)) (.head _) (fun q hq => .tail _ hq) I' gd hH (by walk_at "mine look") (by walk_at "mine look") ?_)
  · rcases List.mem_cons.mp hq with rfl | hq
    · exact .tail _ (.tail _ (List.mem_append.mpr (.inr (.head _))))
    · rcases List.mem_cons.mp hq with rfl | hq
      · exact .head _
      · exact .tail _ (hsubf q hq)
  · intro h₅ tk₅ ov co iO F₅ N₅
    refine wpAny_execs_cons (wpAny_Return_some (wpAny_Compare1 (Call_ (nameX_K F₅ X (topRead_of T) (by with_unfolding_all rfl) (callWith_K X (by with_unfolding_all rfl) (spliced_more (nameX_L F₅ (by walk_at "mine look") (spliced_none ⟨X.keeps F₅.keep, ?_⟩))))))))
    refine out_call B hA rfl rfl X T X T hdp hun hh gd hH F₅ (fun q hq => N₅ q (mem2 q hq)) (fun q hq => .tail _ hq) I' fun h₆ tk₆ Ol ov₆ co₆ i₆ F₆ N₆ => ?_
    refine nameX_L F₆ (by walk_at "mine look") ?_
    refine kqd_eq (n₁ := []) (n₂ := []) (ds := (forEnd H 16).map Dat.int) (es := (forEnd H 16).map Dat.int) N₆ (.head _) rfl rfl (dat_of_ints i₆) (fun _ h => nomatch h) (.tail _ (.head _)) rfl rfl (dat_of_ints iO) (fun _ h => nomatch h) int_ok int_ok Si.room ?_
    rw [dec_self]
    exact hQ h₆ _ _ F₆
end
end Mine
end

section
open PySem PySem.W PyProof.Rows PySem.Calls
set_option maxRecDepth 100000 in
set_option maxHeartbeats 8000000 in
theorem PySem.Challenge.cw_mg0008_01_holds : PySem.Challenge.rw_mg0008_01.Holds := by
  refine Mine.hd ?_
  w_strict (k_go0)
  with_unfolding_all refine' Mine.law_main ?B ?X ?T ?F ?N ?hoc ?hl ?hi ?hlen ?m1 ?hQ
  case F => assumption
  case B => assumption
  case X => assumption
  case T => assumption
  case N => assumption
  case hoc => assumption
  case hl => assumption
  case hi => assumption
  case hlen => omega
  case m1 => with_unfolding_all rfl
  case hQ =>
    intro h' tk m' F'
    refine goodW_bool F' (by assumption) (fun _ => rfl) ?_ rfl
    first | (with_unfolding_all rfl) | kc_post | wrow_post
end
