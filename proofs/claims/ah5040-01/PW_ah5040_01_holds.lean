import PyProof.Rows.All
import Wide.All
import OpenK.AllK
import Wide.FinOn
import PySem.Challenge.RW_ah5040_01
set_option Elab.async false
set_option linter.unusedVariables false
set_option linter.deprecated false
-- HD
section
open PySem PySem.W PyProof.Rows
namespace Mine
set_option maxRecDepth 100000
set_option maxHeartbeats 8000000
open_top hd for PySem.Challenge.rw_ah5040_01
end Mine
end
-- D0
section
namespace Mine
def levD (eqb : Nat → Nat → Bool) : Nat → Nat → Nat
  | 0, c => c
  | r + 1, 0 => r + 1
  | r + 1, c + 1 => min (levD eqb r c + (if eqb r c then 0 else 1)) (min (levD eqb r (c + 1) + 1) (levD eqb (r + 1) c + 1))
def lastIn (f : Nat → Bool) : Nat → Nat
  | 0 => 0
  | n + 1 => if f n then n + 1 else lastIn f n
theorem lastIn_le (f : Nat → Bool) : ∀ n, lastIn f n ≤ n
  | 0 => Nat.le_refl _
  | n + 1 => by unfold lastIn; split; exact Nat.le_refl _; exact Nat.le_succ_of_le (lastIn_le f n)
def dlF (eq : Nat → Nat → Bool) (M : Nat) : Nat → Nat → Nat
  | 0, j => j
  | i + 1, 0 => i + 1
  | i + 1, j + 1 =>
    have h1 := lastIn_le (fun k => eq k j) i
    have h2 := lastIn_le (fun k => eq i k) j
    min (min (dlF eq M i j + (if eq i j then 0 else 1)) (dlF eq M (i + 1) j + 1))
      (min (dlF eq M i (j + 1) + 1)
        ((if lastIn (fun k => eq k j) i = 0 ∨ lastIn (fun k => eq i k) j = 0 then M else dlF eq M (lastIn (fun k => eq k j) i - 1) (lastIn (fun k => eq i k) j - 1)) + (i - lastIn (fun k => eq k j) i) + (j - lastIn (fun k => eq i k) j) + 1))
termination_by i j => i + j
theorem dlF_succ (eq : Nat → Nat → Bool) (M i j : Nat) : dlF eq M (i + 1) (j + 1) = min (min (dlF eq M i j + (if eq i j then 0 else 1)) (dlF eq M (i + 1) j + 1))
      (min (dlF eq M i (j + 1) + 1)
        ((if lastIn (fun k => eq k j) i = 0 ∨ lastIn (fun k => eq i k) j = 0 then M else dlF eq M (lastIn (fun k => eq k j) i - 1) (lastIn (fun k => eq i k) j - 1)) + (i - lastIn (fun k => eq k j) i) + (j - lastIn (fun k => eq i k) j) + 1)) := by
  rw [dlF]
theorem dlF_zero (eq : Nat → Nat → Bool) (M j : Nat) : dlF eq M 0 j = j := by rw [dlF]
theorem dlF_col (eq : Nat → Nat → Bool) (M i : Nat) : dlF eq M i 0 = i := by cases i <;> rw [dlF]
end Mine
end
-- P1
section
namespace Mine.P
section
variable {α β : Type}
/-- one row turned into another: letters kept, put otherwise, taken out, put in -/
inductive Al : List α → List α → Nat → Prop
  | nil : Al [] [] 0
  | keep (a : α) {xs ys : List α} {n : Nat} : Al xs ys n → Al (a :: xs) (a :: ys) n
  | sub (a b : α) {xs ys : List α} {n : Nat} : Al xs ys n → Al (a :: xs) (b :: ys) (n + 1)
  | del (a : α) {xs ys : List α} {n : Nat} : Al xs ys n → Al (a :: xs) ys (n + 1)
  | ins (b : α) {xs ys : List α} {n : Nat} : Al xs ys n → Al xs (b :: ys) (n + 1)
theorem Al.cast {xs ys : List α} {n m : Nat} (h : Al xs ys n) (e : n = m) : Al xs ys m := e ▸ h
theorem Al.append {xs ys xs' ys' : List α} {n m : Nat} (h : Al xs ys n) (k : Al xs' ys' m) : Al (xs ++ xs') (ys ++ ys') (n + m) := by
  induction h with
  | nil => simpa using k
  | keep a _ ih => exact .keep a ih
  | sub a b _ ih => exact (Al.sub a b ih).cast (by omega)
  | del a _ ih => exact (Al.del a ih).cast (by omega)
  | ins b _ ih => exact (Al.ins b ih).cast (by omega)
theorem Al.refl : ∀ xs : List α, Al xs xs 0
  | [] => .nil
  | a :: xs => .keep a (Al.refl xs)
theorem Al.reverse {xs ys : List α} {n : Nat} (h : Al xs ys n) : Al xs.reverse ys.reverse n := by
  induction h with
  | nil => exact .nil
  | keep a _ ih => rw [List.reverse_cons, List.reverse_cons]; exact ih.append (.keep a .nil)
  | sub a b _ ih => rw [List.reverse_cons, List.reverse_cons]; exact ih.append (.sub a b .nil)
  | del a _ ih => rw [List.reverse_cons]; simpa using ih.append (Al.del a .nil)
  | ins b _ ih => rw [List.reverse_cons]; simpa using ih.append (Al.ins b .nil)
theorem Al.symm {xs ys : List α} {n : Nat} (h : Al xs ys n) : Al ys xs n := by
  induction h with
  | nil => exact .nil
  | keep a _ ih => exact .keep a ih
  | sub a b _ ih => exact .sub b a ih
  | del a _ ih => exact .ins a ih
  | ins b _ ih => exact .del b ih
theorem Al.map (f : α → β) {xs ys : List α} {n : Nat} (h : Al xs ys n) : Al (xs.map f) (ys.map f) n := by
  induction h with
  | nil => exact .nil
  | keep a _ ih => exact .keep _ ih
  | sub a b _ ih => exact .sub _ _ ih
  | del a _ ih => exact .del _ ih
  | ins b _ ih => exact .ins _ ih
/-- at most n -/
def AlLe (xs ys : List α) (n : Nat) : Prop := ∃ m, m ≤ n ∧ Al xs ys m
theorem AlLe.mono {xs ys : List α} {n m : Nat} (h : AlLe xs ys n) (k : n ≤ m) : AlLe xs ys m := let ⟨a, b, c⟩ := h; ⟨a, Nat.le_trans b k, c⟩
theorem Al.le {xs ys : List α} {n : Nat} (h : Al xs ys n) : AlLe xs ys n := ⟨n, Nat.le_refl _, h⟩
theorem AlLe.append {xs ys xs' ys' : List α} {n m : Nat} (h : AlLe xs ys n) (k : AlLe xs' ys' m) : AlLe (xs ++ xs') (ys ++ ys') (n + m) :=
  let ⟨a, b, c⟩ := h; let ⟨a', b', c'⟩ := k; ⟨a + a', Nat.add_le_add b b', c.append c'⟩
theorem AlLe.symm {xs ys : List α} {n : Nat} (h : AlLe xs ys n) : AlLe ys xs n := let ⟨a, b, c⟩ := h; ⟨a, b, c.symm⟩
theorem AlLe.any : ∀ xs ys : List α, AlLe xs ys (max xs.length ys.length)
  | [], [] => Al.nil.le
  | a :: xs, [] => let ⟨m, h, k⟩ := AlLe.any xs []; ⟨m + 1, by simp at h ⊢; omega, .del a k⟩
  | [], b :: ys => let ⟨m, h, k⟩ := AlLe.any [] ys; ⟨m + 1, by simp at h ⊢; omega, .ins b k⟩
  | a :: xs, b :: ys => let ⟨m, h, k⟩ := AlLe.any xs ys; ⟨m + 1, by simp at h ⊢; omega, .sub a b k⟩
/-- the triangle -/
theorem Al.trans {xs ys : List α} {n : Nat} (h : Al xs ys n) : ∀ {zs : List α} {m : Nat}, Al ys zs m → AlLe xs zs (n + m) := by
  induction h with
  | nil => intro zs m k; exact ⟨m, by omega, k⟩
  | del a _ ih =>
    intro zs m k
    obtain ⟨l, h1, h2⟩ := ih k
    exact ⟨l + 1, by omega, .del a h2⟩
  | @keep a xs ys n h ih =>
    intro zs m k
    generalize e : a :: ys = ys' at k
    induction k with
    | nil => cases e
    | keep b k _ => cases e; obtain ⟨l, h1, h2⟩ := ih k; exact ⟨l, by omega, .keep _ h2⟩
    | sub b c k _ => cases e; obtain ⟨l, h1, h2⟩ := ih k; exact ⟨l + 1, by omega, .sub _ _ h2⟩
    | del b k _ => cases e; obtain ⟨l, h1, h2⟩ := ih k; exact ⟨l + 1, by omega, .del _ h2⟩
    | ins c k ih' => obtain ⟨l, h1, h2⟩ := ih' e; exact ⟨l + 1, by omega, .ins c h2⟩
  | @sub a a' xs ys n h ih =>
    intro zs m k
    generalize e : a' :: ys = ys' at k
    induction k with
    | nil => cases e
    | keep b k _ => cases e; obtain ⟨l, h1, h2⟩ := ih k; exact ⟨l + 1, by omega, .sub _ _ h2⟩
    | sub b c k _ => cases e; obtain ⟨l, h1, h2⟩ := ih k; exact ⟨l + 1, by omega, .sub _ _ h2⟩
    | del b k _ => cases e; obtain ⟨l, h1, h2⟩ := ih k; exact ⟨l + 1, by omega, .del _ h2⟩
    | ins c k ih' => obtain ⟨l, h1, h2⟩ := ih' e; exact ⟨l + 1, by omega, .ins c h2⟩
  | @ins a' xs ys n h ih =>
    intro zs m k
    generalize e : a' :: ys = ys' at k
    induction k with
    | nil => cases e
    | keep b k _ => cases e; obtain ⟨l, h1, h2⟩ := ih k; exact ⟨l + 1, by omega, .ins _ h2⟩
    | sub b c k _ => cases e; obtain ⟨l, h1, h2⟩ := ih k; exact ⟨l + 1, by omega, .ins _ h2⟩
    | del b k _ => cases e; obtain ⟨l, h1, h2⟩ := ih k; exact ⟨l, by omega, h2⟩
    | ins c k ih' => obtain ⟨l, h1, h2⟩ := ih' e; exact ⟨l + 1, by omega, .ins c h2⟩
theorem AlLe.trans {xs ys zs : List α} {n m : Nat} (h : AlLe xs ys n) (k : AlLe ys zs m) : AlLe xs zs (n + m) := by
  obtain ⟨a, b, c⟩ := h
  obtain ⟨a', b', c'⟩ := k
  exact (c.trans c').mono (by omega)
theorem Al.zero {xs ys : List α} (h : Al xs ys 0) : xs = ys := by
  generalize e : 0 = n at h
  induction h with
  | nil => rfl
  | keep a _ ih => rw [ih e]
  | sub a b _ ih => cases e
  | del a _ ih => cases e
  | ins b _ ih => cases e
/-- what is nearer than the longer row's length keeps some letter -/
theorem Al.kept {xs ys : List α} {n : Nat} (h : Al xs ys n) : max xs.length ys.length ≤ n ∨ ∃ x xs1 xs2 ys1 ys2 n1 n2, xs = xs1 ++ x :: xs2 ∧ ys = ys1 ++ x :: ys2 ∧ Al xs1 ys1 n1 ∧ Al xs2 ys2 n2 ∧ n = n1 + n2 := by
  induction h with
  | nil => exact .inl (by simp)
  | @keep a xs ys n h _ => exact .inr ⟨a, [], xs, [], ys, 0, n, rfl, rfl, .nil, h, by omega⟩
  | sub a b _ ih =>
    rcases ih with ih | ⟨x, xs1, xs2, ys1, ys2, n1, n2, rfl, rfl, h1, h2, rfl⟩
    · exact .inl (by simp only [List.length_cons]; omega)
    · exact .inr ⟨x, a :: xs1, xs2, b :: ys1, ys2, n1 + 1, n2, rfl, rfl, .sub a b h1, h2, by omega⟩
  | del a _ ih =>
    rcases ih with ih | ⟨x, xs1, xs2, ys1, ys2, n1, n2, rfl, rfl, h1, h2, rfl⟩
    · exact .inl (by simp only [List.length_cons]; omega)
    · exact .inr ⟨x, a :: xs1, xs2, ys1, ys2, n1 + 1, n2, rfl, rfl, .del a h1, h2, by omega⟩
  | ins b _ ih =>
    rcases ih with ih | ⟨x, xs1, xs2, ys1, ys2, n1, n2, rfl, rfl, h1, h2, rfl⟩
    · exact .inl (by simp only [List.length_cons]; omega)
    · exact .inr ⟨x, xs1, xs2, b :: ys1, ys2, n1 + 1, n2, rfl, rfl, .ins b h1, h2, by omega⟩

theorem levD_col (eqb : Nat → Nat → Bool) (r : Nat) : levD eqb r 0 = r := by cases r <;> rw [levD]
theorem levD_down (eqb : Nat → Nat → Bool) (r c : Nat) : levD eqb (r + 1) c ≤ levD eqb r c + 1 := by
  cases c with
  | zero => rw [levD_col, levD_col]; omega
  | succ c => rw [levD]; omega
theorem levD_right (eqb : Nat → Nat → Bool) (r c : Nat) : levD eqb r (c + 1) ≤ levD eqb r c + 1 := by
  cases r with
  | zero => rw [levD, levD]; omega
  | succ c => rw [levD]; omega
/-- the letters' equality by places -/
def EqAt (eqb : Nat → Nat → Bool) (xs ys : List α) : Prop := ∀ i j x y, xs[i]? = some x → ys[j]? = some y → (eqb i j = true ↔ x = y)
theorem rev_take_succ {xs : List α} {i : Nat} (h : i < xs.length) : (xs.take (i + 1)).reverse = xs[i] :: (xs.take i).reverse := by
  rw [List.take_succ_eq_append_getElem h, List.reverse_append]; rfl
theorem al_levD {eqb : Nat → Nat → Bool} {xs ys : List α} (he : EqAt eqb xs ys) : ∀ r c, r ≤ xs.length → c ≤ ys.length → Al (xs.take r).reverse (ys.take c).reverse (levD eqb r c)
  | 0, c, _, hc => by
    rw [levD]
    simp only [List.take_zero, List.reverse_nil]
    induction c with
    | zero => exact .nil
    | succ c ih => rw [rev_take_succ (by omega)]; exact .ins _ (ih (by omega))
  | r + 1, 0, hr, hc => by
    rw [levD, rev_take_succ (by omega)]
    have := al_levD he r 0 (by omega) hc
    rw [levD_col] at this
    exact .del _ this
  | r + 1, c + 1, hr, hc => by
    have h1 := al_levD he r c (by omega) (by omega)
    have h2 := al_levD he r (c + 1) (by omega) hc
    have h3 := al_levD he (r + 1) c hr (by omega)
    rw [levD]
    rcases Nat.le_total (levD eqb r c + (if eqb r c then 0 else 1)) (min (levD eqb r (c + 1) + 1) (levD eqb (r + 1) c + 1)) with q | q
    · rw [Nat.min_eq_left q, rev_take_succ (by omega), rev_take_succ (by omega)]
      by_cases e : eqb r c = true
      · have := (he r c _ _ (List.getElem?_eq_getElem (by omega)) (List.getElem?_eq_getElem (by omega))).mp e
        rw [if_pos e, this]; exact .keep _ h1
      · rw [if_neg e]; exact .sub _ _ h1
    · rw [Nat.min_eq_right q]
      rcases Nat.le_total (levD eqb r (c + 1) + 1) (levD eqb (r + 1) c + 1) with q | q
      · rw [Nat.min_eq_left q, rev_take_succ (by omega : r < xs.length)]; exact .del _ h2
      · rw [Nat.min_eq_right q, rev_take_succ (by omega : c < ys.length)]; exact .ins _ h3
theorem rev_take_cons {xs : List α} {i : Nat} {a : α} {zs : List α} (h : i ≤ xs.length) (e : a :: zs = (xs.take i).reverse) : ∃ k, i = k + 1 ∧ xs[k]? = some a ∧ zs = (xs.take k).reverse := by
  cases i with
  | zero => simp at e
  | succ k =>
    rw [rev_take_succ (by omega)] at e
    cases e
    exact ⟨k, rfl, List.getElem?_eq_getElem (by omega), rfl⟩
theorem levD_le {eqb : Nat → Nat → Bool} {xs ys : List α} (he : EqAt eqb xs ys) {us vs : List α} {n : Nat} (h : Al us vs n) : ∀ r c, r ≤ xs.length → c ≤ ys.length → us = (xs.take r).reverse → vs = (ys.take c).reverse → levD eqb r c ≤ n := by
  induction h with
  | nil =>
    intro r c hr hc e1 e2
    have e1 : (xs.take r).length = 0 := by simpa using congrArg List.length e1.symm
    have e2 : (ys.take c).length = 0 := by simpa using congrArg List.length e2.symm
    rw [List.length_take] at e1 e2
    obtain rfl : r = 0 := by omega
    obtain rfl : c = 0 := by omega
    simp [levD]
  | keep a _ ih =>
    intro r c hr hc e1 e2
    obtain ⟨r', rfl, f1, e1⟩ := rev_take_cons hr e1
    obtain ⟨c', rfl, f2, e2⟩ := rev_take_cons hc e2
    have := ih r' c' (by omega) (by omega) e1 e2
    rw [levD, if_pos ((he _ _ _ _ f1 f2).mpr rfl)]; omega
  | sub a b _ ih =>
    intro r c hr hc e1 e2
    obtain ⟨r', rfl, f1, e1⟩ := rev_take_cons hr e1
    obtain ⟨c', rfl, f2, e2⟩ := rev_take_cons hc e2
    have := ih r' c' (by omega) (by omega) e1 e2
    rw [levD]; split <;> omega
  | del a _ ih =>
    intro r c hr hc e1 e2
    obtain ⟨r', rfl, f1, e1⟩ := rev_take_cons hr e1
    have := ih r' c (by omega) hc e1 e2
    have := levD_down eqb r' c
    omega
  | ins b _ ih =>
    intro r c hr hc e1 e2
    obtain ⟨c', rfl, f2, e2⟩ := rev_take_cons hc e2
    have := ih r c' hr (by omega) e1 e2
    have := levD_right eqb r c'
    omega
theorem lev_al {eqb : Nat → Nat → Bool} {xs ys : List α} (he : EqAt eqb xs ys) : Al xs ys (levD eqb xs.length ys.length) := by
  have := (al_levD he xs.length ys.length (Nat.le_refl _) (Nat.le_refl _)).reverse
  simpa using this
theorem lev_min {eqb : Nat → Nat → Bool} {xs ys : List α} (he : EqAt eqb xs ys) {n : Nat} (h : AlLe xs ys n) : levD eqb xs.length ys.length ≤ n := by
  obtain ⟨m, hm, h⟩ := h
  exact Nat.le_trans (levD_le he h.reverse _ _ (Nat.le_refl _) (Nat.le_refl _) (by simp) (by simp)) hm
end
end Mine.P
end
-- P2
section
namespace Mine.P
section
variable {α : Type}
/-- a deed that is no swap -/
inductive E1 : List α → List α → Prop
  | same (xs : List α) : E1 xs xs
  | ins (p : List α) (x : α) (s : List α) : E1 (p ++ s) (p ++ x :: s)
  | del (p : List α) (x : α) (s : List α) : E1 (p ++ x :: s) (p ++ s)
  | sub (p : List α) (x y : α) (s : List α) : E1 (p ++ x :: s) (p ++ y :: s)
inductive Sw : List α → List α → Prop
  | same (xs : List α) : Sw xs xs
  | sw (p : List α) (x y : α) (s : List α) : Sw (p ++ x :: y :: s) (p ++ y :: x :: s)
inductive Reach : List α → List α → Nat → Nat → Prop
  | refl (xs : List α) : Reach xs xs 0 0
  | one {xs ys zs : List α} {d s : Nat} : Reach xs ys d s → E1 ys zs → Reach xs zs (d + 1) s
  | swap {xs ys zs : List α} {d s : Nat} : Reach xs ys d s → Sw ys zs → Reach xs zs (d + 1) (s + 1)
theorem Reach.cast {xs ys : List α} {d s d' s' : Nat} (h : Reach xs ys d s) (e : d = d') (e' : s = s') : Reach xs ys d' s' := e ▸ e' ▸ h
theorem Reach.trans {xs ys zs : List α} {d s d' s' : Nat} (h : Reach xs ys d s) (k : Reach ys zs d' s') : Reach xs zs (d + d') (s + s') := by
  induction k with
  | refl => exact h
  | one _ e ih => exact (Reach.one ih e).cast (by omega) (by omega)
  | swap _ e ih => exact (Reach.swap ih e).cast (by omega) (by omega)
theorem E1.cons (a : α) {xs ys : List α} (h : E1 xs ys) : E1 (a :: xs) (a :: ys) := by
  cases h with
  | same => exact .same _
  | ins p x s => exact .ins (a :: p) x s
  | del p x s => exact .del (a :: p) x s
  | sub p x y s => exact .sub (a :: p) x y s
theorem Sw.cons (a : α) {xs ys : List α} (h : Sw xs ys) : Sw (a :: xs) (a :: ys) := by
  cases h with
  | same => exact .same _
  | sw p x y s => exact .sw (a :: p) x y s
theorem Reach.cons (a : α) {xs ys : List α} {d s : Nat} (h : Reach xs ys d s) : Reach (a :: xs) (a :: ys) d s := by
  induction h with
  | refl => exact .refl _
  | one _ e ih => exact .one ih (e.cons a)
  | swap _ e ih => exact .swap ih (e.cons a)
theorem Reach.pre (p : List α) {xs ys : List α} {d s : Nat} (h : Reach xs ys d s) : Reach (p ++ xs) (p ++ ys) d s := by
  induction p with
  | nil => exact h
  | cons a p ih => exact ih.cons a
theorem Reach.one' {xs ys : List α} (h : E1 xs ys) : Reach xs ys 1 0 := .one (.refl _) h
theorem Reach.dels : ∀ (u s : List α), Reach (u ++ s) s u.length 0
  | [], s => .refl _
  | a :: u, s => ((Reach.one' (E1.del [] a (u ++ s))).trans (Reach.dels u s)).cast (by simp; omega) (by omega)
theorem Reach.inss : ∀ (u s : List α), Reach s (u ++ s) u.length 0
  | [], s => .refl _
  | a :: u, s => ((Reach.inss u s).trans (Reach.one' (E1.ins [] a (u ++ s)))).cast (by simp) (by omega)
theorem Al.reach {xs ys : List α} {n : Nat} (h : Al xs ys n) : Reach xs ys n 0 := by
  induction h with
  | nil => exact .refl _
  | keep a _ ih => exact ih.cons a
  | @sub a b xs ys n _ ih => exact ((ih.cons a).one (.sub [] a b ys)).cast rfl rfl
  | @del a xs ys n _ ih => exact ((Reach.one' (.del [] a xs)).trans ih).cast (by omega) rfl
  | @ins b xs ys n _ ih => exact .one ih (.ins [] b ys)
theorem E1.al {xs ys : List α} (h : E1 xs ys) : AlLe xs ys 1 := by
  cases h with
  | same => exact (Al.refl _).le.mono (by omega)
  | ins p x s => exact ((Al.refl p).append (.ins x (Al.refl s))).le
  | del p x s => exact ((Al.refl p).append (.del x (Al.refl s))).le
  | sub p x y s => exact ((Al.refl p).append (.sub x y (Al.refl s))).le
theorem Sw.al {xs ys : List α} (h : Sw xs ys) : AlLe xs ys 2 := by
  cases h with
  | same => exact (Al.refl _).le.mono (by omega)
  | sw p x y s => exact ((Al.refl p).append (.sub x y (.sub y x (Al.refl s)))).le
theorem Reach.al {xs ys : List α} {d s : Nat} (h : Reach xs ys d s) : AlLe xs ys (d + s) := by
  induction h with
  | refl => exact (Al.refl _).le
  | one _ e ih => exact (ih.trans e.al).mono (by omega)
  | swap _ e ih => exact (ih.trans e.al).mono (by omega)

/-- the runs of q neighbours -/
def gr (q : Nat) : List α → List (List α)
  | [] => []
  | x :: xs => if q ≤ xs.length + 1 then (x :: xs).take q :: gr q xs else []
theorem gr_nil {q : Nat} {xs : List α} (h : xs.length < q) : gr q xs = [] := by
  cases xs with
  | nil => rfl
  | cons x xs => rw [gr, if_neg (by simp at h; omega)]
theorem gr_cons {q : Nat} {x : α} {xs : List α} (h : q ≤ xs.length + 1) : gr q (x :: xs) = (x :: xs).take q :: gr q xs := by rw [gr, if_pos h]
theorem gr_len {q : Nat} (hq : 0 < q) : ∀ xs : List α, (gr q xs).length = xs.length + 1 - q
  | [] => by simp [gr]; omega
  | x :: xs => by
    by_cases h : q ≤ xs.length + 1
    · rw [gr_cons h, List.length_cons, gr_len hq xs, List.length_cons]; omega
    · rw [gr_nil (by simp; omega)]; simp; omega
theorem gr_at {q : Nat} (hq : 0 < q) : ∀ (xs : List α) (k : Nat), k < xs.length + 1 - q → (gr q xs)[k]? = some ((xs.drop k).take q)
  | [], k, h => by simp at h; omega
  | x :: xs, k, h => by
    simp only [List.length_cons] at h
    rw [gr_cons (by omega)]
    cases k with
    | zero => simp
    | succ k => rw [List.getElem?_cons_succ, gr_at hq xs k (by omega)]; simp
theorem gr_range {q : Nat} (hq : 0 < q) (xs : List α) : gr q xs = (List.range (xs.length + 1 - q)).map fun k => (xs.drop k).take q := by
  apply List.ext_getElem?
  intro k
  by_cases h : k < xs.length + 1 - q
  · rw [gr_at hq xs k h, List.getElem?_map, List.getElem?_range h]; rfl
  · rw [List.getElem?_eq_none (by rw [gr_len hq]; omega), List.getElem?_eq_none (by simp; omega)]
theorem gr_pre {q : Nat} (hq : 0 < q) : ∀ (p s : List α), ∃ b, gr q (p ++ s) = gr q p ++ b
  | [], s => ⟨gr q s, rfl⟩
  | x :: p, s => by
    by_cases h : q ≤ p.length + 1
    · obtain ⟨b, e⟩ := gr_pre hq p s
      refine ⟨b, ?_⟩
      rw [List.cons_append, gr_cons (by simp; omega), gr_cons h, e, List.cons_append]
      congr 1
      rw [← List.cons_append, List.take_append_of_le_length (by simp; omega)]
    · exact ⟨gr q (x :: p ++ s), by rw [gr_nil (xs := x :: p) (by simp; omega)]; rfl⟩
theorem gr_suf {q : Nat} (hq : 0 < q) : ∀ (p s : List α), ∃ b, gr q (p ++ s) = b ++ gr q s
  | [], s => ⟨[], rfl⟩
  | x :: p, s => by
    obtain ⟨b, e⟩ := gr_suf hq p s
    by_cases h : q ≤ (p ++ s).length + 1
    · exact ⟨(x :: (p ++ s)).take q :: b, by rw [List.cons_append, gr_cons h, e]; rfl⟩
    · refine ⟨[], ?_⟩
      rw [gr_nil (by simp at h ⊢; omega), gr_nil (xs := s) (by simp at h; omega)]; rfl
theorem gr_mid {q : Nat} (hq : 0 < q) (p m s : List α) : ∃ b, gr q (p ++ (m ++ s)) = gr q p ++ (b ++ gr q s) ∧ b.length ≤ q - 1 + m.length := by
  obtain ⟨b, e1⟩ := gr_pre hq p (m ++ s)
  obtain ⟨c, e2⟩ := gr_suf hq (p ++ m) s
  have l := gr_len hq (p ++ (m ++ s))
  have lp := gr_len hq p
  have ls := gr_len hq s
  have e3 : gr q p ++ b = c ++ gr q s := by rw [← e1, ← e2, List.append_assoc]
  rw [e1] at l
  simp only [List.length_append] at l
  have h1 : (gr q s).length ≤ b.length := by omega
  have e4 := congrArg (List.drop (gr q p).length) e3
  rw [List.drop_left] at e4
  have e5 : (gr q p).length ≤ c.length := by
    have := congrArg List.length e3
    simp only [List.length_append] at this
    omega
  rw [List.drop_append_of_le_length e5] at e4
  refine ⟨c.drop (gr q p).length, by rw [e1, e4], ?_⟩
  have := congrArg List.length e4
  simp only [List.length_append] at this
  omega
theorem al_mid {p m m' s : List α} : AlLe (p ++ (m ++ s)) (p ++ (m' ++ s)) (max m.length m'.length) :=
  ((Al.refl p).le.append ((AlLe.any m m').append (Al.refl s).le)).mono (by omega)
theorem gr_al {q : Nat} (hq : 0 < q) {p m m' s : List α} : AlLe (gr q (p ++ (m ++ s))) (gr q (p ++ (m' ++ s))) (q - 1 + max m.length m'.length) := by
  obtain ⟨b, e, l⟩ := gr_mid hq p m s
  obtain ⟨b', e', l'⟩ := gr_mid hq p m' s
  rw [e, e']
  exact al_mid.mono (by omega)
theorem E1.gr {q : Nat} (hq : 0 < q) {xs ys : List α} (h : E1 xs ys) : AlLe (gr q xs) (gr q ys) q := by
  cases h with
  | same => exact (Al.refl _).le.mono (by omega)
  | ins p x s => exact (gr_al (m := []) (m' := [x]) hq).mono (by simp; omega)
  | del p x s => exact (gr_al (m := [x]) (m' := []) hq).mono (by simp; omega)
  | sub p x y s => exact (gr_al (m := [x]) (m' := [y]) hq).mono (by simp; omega)
theorem Sw.gr {q : Nat} (hq : 0 < q) {xs ys : List α} (h : Sw xs ys) : AlLe (gr q xs) (gr q ys) (q + 1) := by
  cases h with
  | same => exact (Al.refl _).le.mono (by omega)
  | sw p x y s => exact (gr_al (m := [x, y]) (m' := [y, x]) hq).mono (by simp; omega)
theorem Reach.gr {q : Nat} (hq : 0 < q) {xs ys : List α} {d s : Nat} (h : Reach xs ys d s) : AlLe (gr q xs) (gr q ys) (q * d + s) := by
  induction h with
  | refl => exact (Al.refl _).le
  | one _ e ih => exact (ih.trans (e.gr hq)).mono (by rw [Nat.mul_add]; omega)
  | swap _ e ih => exact (ih.trans (e.gr hq)).mono (by rw [Nat.mul_add]; omega)
/-- the letters out of the pieces -/
theorem gr_split {q : Nat} (hq : 0 < q) (d : α) : ∀ (xs : List α) (A B : List (List α)) (g : List α), gr q xs = A ++ g :: B → xs = A.map (·.headD d) ++ (g ++ B.map (·.getLastD d))
  | [], A, B, g, e => by simp [gr] at e
  | x :: xs, A, B, g, e => by
    by_cases h : q ≤ xs.length + 1
    · rw [gr_cons h] at e
      cases A with
      | nil =>
        rw [List.nil_append] at e
        obtain ⟨eg, e2⟩ := List.cons.inj e
        clear e
        have e := e2
        clear e2
        subst eg
        rw [List.map_nil, List.nil_append]
        cases B with
        | nil =>
          have l := congrArg List.length e
          rw [gr_len hq] at l
          simp at l
          rw [List.take_of_length_le (by simp; omega)]; simp
        | cons b B =>
          have ih := gr_split hq d xs [] B b (by simpa using e)
          have hb : (gr q xs)[0]? = some b := by rw [e]; rfl
          have lb : 0 < xs.length + 1 - q := by
            have := congrArg List.length e; rw [gr_len hq] at this; simp at this; omega
          rw [gr_at hq xs 0 lb] at hb
          simp only [List.drop_zero, Option.some.injEq] at hb
          simp only [List.map_nil, List.nil_append] at ih
          have e3 : (x :: xs).take q ++ [b.getLastD d] = x :: b := by
            obtain ⟨q', rfl⟩ : ∃ q', q = q' + 1 := ⟨q - 1, by omega⟩
            subst hb
            rw [List.take_succ_cons, List.cons_append]
            have lx : q' < xs.length := by omega
            rw [List.take_succ_eq_append_getElem lx]
            rw [List.getLastD_concat]
          rw [List.map_cons, ← List.singleton_append (l := B.map _), ← List.append_assoc, e3, List.cons_append, ← ih]
      | cons a A =>
        rw [List.cons_append] at e
        obtain ⟨ea, e2⟩ := List.cons.inj e
        clear e
        have e := e2
        clear e2
        subst ea
        have ih := gr_split hq d xs A B g e
        rw [List.map_cons, List.cons_append, ← ih]
        congr 1
        obtain ⟨q', rfl⟩ : ∃ q', q = q' + 1 := ⟨q - 1, by omega⟩
        simp
    · rw [gr_nil (by simp; omega)] at e
      simp at e
theorem gr_heads {q : Nat} (hq : 0 < q) (d : α) (xs : List α) (h : q ≤ xs.length) : ∃ t, t.length = q - 1 ∧ xs = (gr q xs).map (·.headD d) ++ t := by
  refine ⟨xs.drop (xs.length + 1 - q), by simp; omega, ?_⟩
  have e : (gr q xs).map (·.headD d) = xs.take (xs.length + 1 - q) := by
    apply List.ext_getElem?
    intro k
    rw [List.getElem?_map]
    by_cases hk : k < xs.length + 1 - q
    · rw [gr_at hq xs k hk, List.getElem?_take, if_pos hk]
      obtain ⟨q', rfl⟩ : ∃ q', q = q' + 1 := ⟨q - 1, by omega⟩
      have hl : k < xs.length := by omega
      rw [List.getElem?_eq_getElem hl, List.drop_eq_getElem_cons hl, List.take_succ_cons]; rfl
    · rw [List.getElem?_eq_none (by rw [gr_len hq]; omega), List.getElem?_take, if_neg hk]; rfl
  rw [e, List.take_append_drop]
/-- the letters are no farther than the pieces and a piece's length less one -/
theorem letters_pieces {q : Nat} (hq : 0 < q) {xs ys : List α} {n : Nat} (h : AlLe (gr q xs) (gr q ys) n) : AlLe xs ys (n + (q - 1)) := by
  by_cases hx : q ≤ xs.length
  · by_cases hy : q ≤ ys.length
    · have d : α := xs.head (by intro e; rw [e] at hx; simp at hx; omega)
      obtain ⟨t, l, e⟩ := gr_heads hq d xs hx
      obtain ⟨t', l', e'⟩ := gr_heads hq d ys hy
      rw [e, e']
      obtain ⟨m, hm, h⟩ := h
      exact ((h.map _).le.append (AlLe.any t t')).mono (by omega)
    · rw [gr_nil (xs := ys) (by omega)] at h
      have l := gr_len hq xs
      have : (gr q xs).length ≤ n := by
        obtain ⟨m, hm, h⟩ := h
        have : ∀ {zs : List (List α)} {m : Nat}, Al zs [] m → zs.length ≤ m := by
          intro zs m h
          generalize e : ([] : List (List α)) = ws at h
          induction h with
          | nil => simp
          | keep => cases e
          | sub => cases e
          | del a _ ih => have := ih e; simp; omega
          | ins => cases e
        exact Nat.le_trans (this h) hm
      exact (AlLe.any xs ys).mono (by omega)
  · rw [gr_nil (xs := xs) (by omega)] at h
    have l := gr_len hq ys
    have : (gr q ys).length ≤ n := by
      obtain ⟨m, hm, h⟩ := h
      have : ∀ {zs : List (List α)} {m : Nat}, Al [] zs m → zs.length ≤ m := by
        intro zs m h
        generalize e : ([] : List (List α)) = ws at h
        induction h with
        | nil => simp
        | keep => cases e
        | sub => cases e
        | del => cases e
        | ins a _ ih => have := ih e; simp; omega
      exact Nat.le_trans (this h) hm
    exact (AlLe.any xs ys).mono (by omega)
/-- where some piece is kept -/
theorem letters_kept {q : Nat} (hq : 0 < q) {xs ys : List α} {n : Nat} (h : Al (gr q xs) (gr q ys) n) (hn : n < max (gr q xs).length (gr q ys).length) : AlLe xs ys n := by
  rcases h.kept with h | ⟨g, A1, A2, B1, B2, n1, n2, e1, e2, h1, h2, rfl⟩
  · omega
  · have d : α := xs.head (by intro e; rw [e] at e1; simp [gr] at e1)
    rw [gr_split hq d xs A1 A2 g e1, gr_split hq d ys B1 B2 g e2]
    exact ((h1.map _).append ((Al.refl g).append (h2.map _))).le.mono (by omega)
theorem gr_inj {q : Nat} (hq : 0 < q) {xs ys : List α} (h : gr q xs = gr q ys) (hne : gr q xs ≠ []) : xs = ys := by
  cases e : gr q xs with
  | nil => exact absurd e hne
  | cons g B =>
    have d : α := xs.head (by intro e'; rw [e'] at e; simp [gr] at e)
    have e' : gr q ys = [] ++ g :: B := by rw [← h, e]; rfl
    rw [gr_split hq d xs [] B g e, gr_split hq d ys [] B g e']
end
end Mine.P
end
-- P3
section
namespace Mine.P
section
variable {α : Type}
/-- letters kept, put otherwise, taken out, put in; two swapped, with what lies between taken out and put in -/
inductive T : List α → List α → Nat → Prop
  | nil : T [] [] 0
  | keep (a : α) {xs ys : List α} {n : Nat} : T xs ys n → T (a :: xs) (a :: ys) n
  | sub (a b : α) {xs ys : List α} {n : Nat} : T xs ys n → T (a :: xs) (b :: ys) (n + 1)
  | del (a : α) {xs ys : List α} {n : Nat} : T xs ys n → T (a :: xs) ys (n + 1)
  | ins (b : α) {xs ys : List α} {n : Nat} : T xs ys n → T xs (b :: ys) (n + 1)
  | swap (a b : α) (u v : List α) {xs ys : List α} {n : Nat} : T xs ys n → T (a :: (u ++ b :: xs)) (b :: (v ++ a :: ys)) (n + u.length + v.length + 1)
theorem T.cast {xs ys : List α} {n m : Nat} (h : T xs ys n) (e : n = m) : T xs ys m := e ▸ h
theorem T.append {xs ys xs' ys' : List α} {n m : Nat} (h : T xs ys n) (k : T xs' ys' m) : T (xs ++ xs') (ys ++ ys') (n + m) := by
  induction h with
  | nil => simpa using k
  | keep a _ ih => exact .keep a ih
  | sub a b _ ih => exact (T.sub a b ih).cast (by omega)
  | del a _ ih => exact (T.del a ih).cast (by omega)
  | ins b _ ih => exact (T.ins b ih).cast (by omega)
  | swap a b u v _ ih => simpa using (T.swap a b u v ih).cast (by omega)
theorem T.refl : ∀ xs : List α, T xs xs 0
  | [] => .nil
  | a :: xs => .keep a (T.refl xs)
theorem T.reverse {xs ys : List α} {n : Nat} (h : T xs ys n) : T xs.reverse ys.reverse n := by
  induction h with
  | nil => exact .nil
  | keep a _ ih => rw [List.reverse_cons, List.reverse_cons]; exact ih.append (.keep a .nil)
  | sub a b _ ih => rw [List.reverse_cons, List.reverse_cons]; exact ih.append (.sub a b .nil)
  | del a _ ih => rw [List.reverse_cons]; simpa using ih.append (T.del a .nil)
  | ins b _ ih => rw [List.reverse_cons]; simpa using ih.append (T.ins b .nil)
  | swap a b u v _ ih =>
    have := ih.append (T.swap b a u.reverse v.reverse .nil)
    simpa using this.cast (by simp; omega)
theorem T.reach {xs ys : List α} {n : Nat} (h : T xs ys n) : ∃ s, s ≤ n ∧ Reach xs ys n s := by
  induction h with
  | nil => exact ⟨0, by omega, .refl _⟩
  | keep a _ ih => obtain ⟨s, h1, h2⟩ := ih; exact ⟨s, h1, h2.cons a⟩
  | @sub a b xs ys n _ ih => obtain ⟨s, h1, h2⟩ := ih; exact ⟨s, by omega, (h2.cons a).one (.sub [] a b ys)⟩
  | @del a xs ys n _ ih => obtain ⟨s, h1, h2⟩ := ih; exact ⟨s, by omega, ((Reach.one' (.del [] a xs)).trans h2).cast (by omega) (by omega)⟩
  | @ins b xs ys n _ ih => obtain ⟨s, h1, h2⟩ := ih; exact ⟨s, by omega, .one h2 (.ins [] b ys)⟩
  | @swap a b u v xs ys n _ ih =>
    obtain ⟨s, h1, h2⟩ := ih
    have r1 : Reach (a :: (u ++ b :: xs)) (a :: b :: xs) u.length 0 := (Reach.dels u (b :: xs)).cons a
    have r2 : Reach (a :: b :: xs) (b :: a :: xs) 1 1 := .swap (.refl _) (.sw [] a b xs)
    have r3 : Reach (b :: a :: xs) (b :: (v ++ a :: xs)) v.length 0 := (Reach.inss v (a :: xs)).cons b
    have r4 : Reach (b :: (v ++ a :: xs)) (b :: (v ++ a :: ys)) n s := ((h2.cons a).pre v).cons b
    exact ⟨s + 1, by omega, (((r1.trans r2).trans r3).trans r4).cast (by omega) (by omega)⟩
def TLe (xs ys : List α) (n : Nat) : Prop := ∃ m, m ≤ n ∧ T xs ys m
theorem T.le {xs ys : List α} {n m : Nat} (h : T xs ys n) (e : n ≤ m) : TLe xs ys m := ⟨n, e, h⟩
theorem T.dels : ∀ (u : List α) {xs ys : List α} {n : Nat}, T xs ys n → T (u ++ xs) ys (n + u.length)
  | [], _, _, _, h => h
  | a :: u, _, _, _, h => (T.del a (T.dels u h)).cast (by simp; omega)
theorem T.inss : ∀ (u : List α) {xs ys : List α} {n : Nat}, T xs ys n → T xs (u ++ ys) (n + u.length)
  | [], _, _, _, h => h
  | a :: u, _, _, _, h => (T.ins a (T.inss u h)).cast (by simp; omega)
theorem TLe.keep (a : α) {xs ys : List α} {n : Nat} (h : TLe xs ys n) : TLe (a :: xs) (a :: ys) n := let ⟨m, e, k⟩ := h; ⟨m, e, .keep a k⟩
theorem TLe.sub (a b : α) {xs ys : List α} {n k : Nat} (h : TLe xs ys n) (q : n + 1 ≤ k) : TLe (a :: xs) (b :: ys) k := let ⟨m, e, k⟩ := h; ⟨m + 1, by omega, .sub a b k⟩
theorem TLe.del (a : α) {xs ys : List α} {n k : Nat} (h : TLe xs ys n) (q : n + 1 ≤ k) : TLe (a :: xs) ys k := let ⟨m, e, k⟩ := h; ⟨m + 1, by omega, .del a k⟩
theorem TLe.ins (b : α) {xs ys : List α} {n k : Nat} (h : TLe xs ys n) (q : n + 1 ≤ k) : TLe xs (b :: ys) k := let ⟨m, e, k⟩ := h; ⟨m + 1, by omega, .ins b k⟩
theorem TLe.swap (a b : α) (u v : List α) {xs ys : List α} {n k : Nat} (h : TLe xs ys n) (q : n + u.length + v.length + 1 ≤ k) : TLe (a :: (u ++ b :: xs)) (b :: (v ++ a :: ys)) k :=
  let ⟨m, e, k⟩ := h; ⟨m + u.length + v.length + 1, by omega, .swap a b u v k⟩
theorem TLe.dels (u : List α) {xs ys : List α} {n k : Nat} (h : TLe xs ys n) (q : n + u.length ≤ k) : TLe (u ++ xs) ys k := let ⟨m, e, k⟩ := h; ⟨m + u.length, by omega, T.dels u k⟩
theorem TLe.inss (u : List α) {xs ys : List α} {n k : Nat} (h : TLe xs ys n) (q : n + u.length ≤ k) : TLe xs (u ++ ys) k := let ⟨m, e, k⟩ := h; ⟨m + u.length, by omega, T.inss u k⟩
theorem TLe.mono {xs ys : List α} {n m : Nat} (h : TLe xs ys n) (k : n ≤ m) : TLe xs ys m := let ⟨a, b, c⟩ := h; ⟨a, Nat.le_trans b k, c⟩

/-- a letter in a longer row lies ahead, is the very one, or lies behind -/
theorem split3 {p v s r : List α} {x y : α} (e : p ++ x :: s = v ++ y :: r) :
    (∃ v', v = p ++ x :: v' ∧ s = v' ++ y :: r) ∨ (p = v ∧ x = y ∧ s = r) ∨ (∃ p', p = v ++ y :: p' ∧ r = p' ++ x :: s) := by
  induction p generalizing v with
  | nil =>
    cases v with
    | nil => cases e; exact .inr (.inl ⟨rfl, rfl, rfl⟩)
    | cons z v => cases e; exact .inl ⟨v, rfl, rfl⟩
  | cons z p ih =>
    cases v with
    | nil => cases e; exact .inr (.inr ⟨p, rfl, rfl⟩)
    | cons z' v =>
      rw [List.cons_append, List.cons_append] at e
      obtain ⟨rfl, e2⟩ := List.cons.inj e
      rcases ih e2 with ⟨v', rfl, rfl⟩ | ⟨rfl, rfl, rfl⟩ | ⟨p', rfl, rfl⟩
      · exact .inl ⟨v', rfl, rfl⟩
      · exact .inr (.inl ⟨rfl, rfl, rfl⟩)
      · exact .inr (.inr ⟨p', rfl, rfl⟩)
/-- what becomes of the row's first letter -/
theorem T.first {xs ys : List α} {y : α} {n : Nat} (h : T xs (y :: ys) n) :
    ∃ w, (∃ xs' m, xs = w ++ xs' ∧ T xs' ys m ∧ n = w.length + m + 1) ∨
      (∃ e xs' m, xs = w ++ e :: xs' ∧ T xs' ys m ∧ (n = w.length + m + 1 ∨ (e = y ∧ n = w.length + m))) ∨
      (∃ a u v xs' ys' m, xs = w ++ a :: (u ++ y :: xs') ∧ ys = v ++ a :: ys' ∧ T xs' ys' m ∧ n = w.length + (m + u.length + v.length + 1)) := by
  generalize e : y :: ys = zs at h
  induction h with
  | nil => cases e
  | @keep a xs ys n h _ => cases e; exact ⟨[], .inr (.inl ⟨y, xs, n, rfl, h, .inr ⟨rfl, by simp⟩⟩)⟩
  | @sub a b xs ys n h _ => cases e; exact ⟨[], .inr (.inl ⟨a, xs, n, rfl, h, .inl (by simp)⟩)⟩
  | @ins b xs ys n h _ => cases e; exact ⟨[], .inl ⟨xs, n, rfl, h, by simp⟩⟩
  | @swap a b u v xs ys n h _ => cases e; exact ⟨[], .inr (.inr ⟨a, u, v, xs, ys, n, rfl, rfl, h, by simp⟩)⟩
  | @del a xs ys n h0 ih =>
    obtain ⟨w, h⟩ := ih e
    refine ⟨a :: w, ?_⟩
    rcases h with ⟨xs', m, e1, k, e2⟩ | ⟨b, xs', m, e1, k, q⟩ | ⟨b, u, v, xs', ys', m, e1, e3, k, e2⟩
    · exact .inl ⟨xs', m, by rw [e1]; rfl, k, by simp; omega⟩
    · exact .inr (.inl ⟨b, xs', m, by rw [e1]; rfl, k, by rcases q with e2 | ⟨rfl, e2⟩ <;> simp <;> omega⟩)
    · exact .inr (.inr ⟨b, u, v, xs', ys', m, by rw [e1]; rfl, e3, k, by simp; omega⟩)
end
end Mine.P
end
-- P4
section
namespace Mine.P
section
variable {α : Type}
theorem T.opIns {xs ys : List α} {n : Nat} (h : T xs ys n) (x : α) : ∀ p s, ys = p ++ s → TLe xs (p ++ x :: s) (n + 1) := by
  have base : ∀ {xs ys : List α} {n : Nat}, T xs ys n → TLe xs ([] ++ x :: ys) (n + 1) := fun h => ⟨_, Nat.le_refl _, .ins x h⟩
  induction h with
  | nil => intro p s e; obtain ⟨rfl, rfl⟩ := List.append_eq_nil_iff.mp e.symm; exact base .nil
  | keep a h ih =>
    intro p s e
    cases p with
    | nil => subst e; exact base (.keep a h)
    | cons c p => obtain ⟨rfl, e2⟩ := List.cons.inj e; exact (ih p s e2).keep a
  | sub a b h ih =>
    intro p s e
    cases p with
    | nil => subst e; exact base (.sub a b h)
    | cons c p => obtain ⟨rfl, e2⟩ := List.cons.inj e; exact (ih p s e2).sub a b (by omega)
  | del a h ih => intro p s e; exact (ih p s e).del a (by omega)
  | ins b h ih =>
    intro p s e
    cases p with
    | nil => subst e; exact base (.ins b h)
    | cons c p => obtain ⟨rfl, e2⟩ := List.cons.inj e; exact (ih p s e2).ins b (by omega)
  | @swap a b u v xs ys n h ih =>
    intro p s e
    cases p with
    | nil => subst e; exact base (.swap a b u v h)
    | cons c p =>
      obtain ⟨rfl, e2⟩ := List.cons.inj e
      rcases List.append_eq_append_iff.mp e2 with ⟨r, rfl, er⟩ | ⟨r, rfl, er⟩
      · cases r with
        | nil =>
          simp only [List.nil_append] at er
          subst er
          have := (h.le (Nat.le_refl _)).swap a b u (v ++ [x]) (Nat.le_refl _)
          simpa using this.mono (by simp; omega)
        | cons d r =>
          obtain ⟨rfl, e3⟩ := List.cons.inj er
          have := (ih r s e3).swap a b u v (Nat.le_refl _)
          simpa using this.mono (by omega)
      · subst er
        have := (h.le (Nat.le_refl _)).swap a b u (p ++ x :: r) (Nat.le_refl _)
        simpa using this.mono (by simp; omega)
theorem T.opDel {xs ys : List α} {n : Nat} (h : T xs ys n) (x : α) : ∀ p s, ys = p ++ x :: s → TLe xs (p ++ s) (n + 1) := by
  induction h with
  | nil => intro p s e; simp at e
  | keep a h ih =>
    intro p s e
    cases p with
    | nil => obtain ⟨rfl, rfl⟩ := List.cons.inj e; exact (h.le (Nat.le_refl _)).del a (Nat.le_refl _)
    | cons c p => obtain ⟨rfl, e2⟩ := List.cons.inj e; exact (ih p s e2).keep a
  | sub a b h ih =>
    intro p s e
    cases p with
    | nil => obtain ⟨rfl, rfl⟩ := List.cons.inj e; exact (h.le (Nat.le_refl _)).del a (by omega)
    | cons c p => obtain ⟨rfl, e2⟩ := List.cons.inj e; exact (ih p s e2).sub a b (by omega)
  | del a h ih => intro p s e; exact (ih p s e).del a (by omega)
  | ins b h ih =>
    intro p s e
    cases p with
    | nil => obtain ⟨rfl, rfl⟩ := List.cons.inj e; exact h.le (by omega)
    | cons c p => obtain ⟨rfl, e2⟩ := List.cons.inj e; exact (ih p s e2).ins b (by omega)
  | @swap a b u v xs ys n h ih =>
    intro p s e
    have h' := h.le (Nat.le_refl _)
    cases p with
    | nil =>
      obtain ⟨rfl, rfl⟩ := List.cons.inj e
      exact ((((h'.del b (Nat.le_refl _)).dels u (Nat.le_refl _)).keep a).inss v (Nat.le_refl _)).mono (by omega)
    | cons c p =>
      obtain ⟨rfl, e2⟩ := List.cons.inj e
      rcases split3 e2.symm with ⟨v', rfl, rfl⟩ | ⟨rfl, rfl, rfl⟩ | ⟨p', rfl, rfl⟩
      · have := h'.swap a b u (p ++ v') (Nat.le_refl _)
        simpa using this.mono (by simp; omega)
      · exact ((((h'.inss p (Nat.le_refl _)).keep b).dels u (Nat.le_refl _)).del x (Nat.le_refl _)).mono (by omega)
      · have := (ih p' s rfl).swap a b u v (Nat.le_refl _)
        simpa using this.mono (by omega)
theorem T.opSub {xs ys : List α} {n : Nat} (h : T xs ys n) (x y : α) : ∀ p s, ys = p ++ x :: s → TLe xs (p ++ y :: s) (n + 1) := by
  induction h with
  | nil => intro p s e; simp at e
  | keep a h ih =>
    intro p s e
    cases p with
    | nil => obtain ⟨rfl, rfl⟩ := List.cons.inj e; exact (h.le (Nat.le_refl _)).sub a y (Nat.le_refl _)
    | cons c p => obtain ⟨rfl, e2⟩ := List.cons.inj e; exact (ih p s e2).keep a
  | sub a b h ih =>
    intro p s e
    cases p with
    | nil => obtain ⟨rfl, rfl⟩ := List.cons.inj e; exact (h.le (Nat.le_refl _)).sub a y (by omega)
    | cons c p => obtain ⟨rfl, e2⟩ := List.cons.inj e; exact (ih p s e2).sub a b (by omega)
  | del a h ih => intro p s e; exact (ih p s e).del a (by omega)
  | ins b h ih =>
    intro p s e
    cases p with
    | nil => obtain ⟨rfl, rfl⟩ := List.cons.inj e; exact (h.le (Nat.le_refl _)).ins y (by omega)
    | cons c p => obtain ⟨rfl, e2⟩ := List.cons.inj e; exact (ih p s e2).ins b (by omega)
  | @swap a b u v xs ys n h ih =>
    intro p s e
    have h' := h.le (Nat.le_refl _)
    cases p with
    | nil =>
      obtain ⟨rfl, rfl⟩ := List.cons.inj e
      exact (((((h'.del b (Nat.le_refl _)).dels u (Nat.le_refl _)).keep a).inss v (Nat.le_refl _)).ins y (Nat.le_refl _)).mono (by omega)
    | cons c p =>
      obtain ⟨rfl, e2⟩ := List.cons.inj e
      rcases split3 e2.symm with ⟨v', rfl, rfl⟩ | ⟨rfl, rfl, rfl⟩ | ⟨p', rfl, rfl⟩
      · have := h'.swap a b u (p ++ y :: v') (Nat.le_refl _)
        simpa using this.mono (by simp)
      · exact (((((h'.ins y (Nat.le_refl _)).inss p (Nat.le_refl _)).keep b).dels u (Nat.le_refl _)).del x (Nat.le_refl _)).mono (by omega)
      · have := (ih p' s rfl).swap a b u v (Nat.le_refl _)
        simpa using this.mono (by omega)
theorem T.opSwap {xs ys : List α} {n : Nat} (h : T xs ys n) (x y : α) : ∀ p s, ys = p ++ x :: y :: s → TLe xs (p ++ y :: x :: s) (n + 1) := by
  induction h with
  | nil => intro p s e; simp at e
  | @keep a xs ys n h ih =>
    intro p s e
    cases p with
    | nil =>
      obtain ⟨rfl, rfl⟩ := List.cons.inj e
      obtain ⟨w, ⟨xs', m, rfl, k, rfl⟩ | ⟨e0, xs', m, rfl, k, q⟩ | ⟨a', u, v, xs', ys', m, rfl, rfl, k, rfl⟩⟩ := h.first
      · exact ((((k.le (Nat.le_refl _)).dels w (Nat.le_refl _)).keep a).ins y (Nat.le_refl _)).mono (by omega)
      · rcases q with rfl | ⟨rfl, rfl⟩
        · exact ((((k.le (Nat.le_refl _)).sub e0 a (Nat.le_refl _)).dels w (Nat.le_refl _)).sub a y (Nat.le_refl _)).mono (by omega)
        · exact ((k.le (Nat.le_refl _)).swap a e0 w [] (Nat.le_refl _)).mono (by simp; omega)
      · exact ((((((((k.le (Nat.le_refl _)).del y (Nat.le_refl _)).dels u (Nat.le_refl _)).keep a').inss v (Nat.le_refl _)).dels w (Nat.le_refl _)).keep a).ins y (Nat.le_refl _)).mono (by omega)
    | cons c p => obtain ⟨rfl, e2⟩ := List.cons.inj e; exact (ih p s e2).keep a
  | @sub c b xs ys n h ih =>
    intro p s e
    cases p with
    | nil =>
      obtain ⟨rfl, rfl⟩ := List.cons.inj e
      obtain ⟨w, ⟨xs', m, rfl, k, rfl⟩ | ⟨e0, xs', m, rfl, k, q⟩ | ⟨a', u, v, xs', ys', m, rfl, rfl, k, rfl⟩⟩ := h.first
      · exact ((((k.le (Nat.le_refl _)).dels w (Nat.le_refl _)).sub c b (Nat.le_refl _)).ins y (Nat.le_refl _)).mono (by omega)
      · exact ((((k.le (Nat.le_refl _)).sub e0 b (Nat.le_refl _)).dels w (Nat.le_refl _)).sub c y (Nat.le_refl _)).mono (by rcases q with rfl | ⟨rfl, rfl⟩ <;> omega)
      · exact ((((((((k.le (Nat.le_refl _)).del y (Nat.le_refl _)).dels u (Nat.le_refl _)).keep a').inss v (Nat.le_refl _)).dels w (Nat.le_refl _)).sub c b (Nat.le_refl _)).ins y (Nat.le_refl _)).mono (by omega)
    | cons c p => obtain ⟨rfl, e2⟩ := List.cons.inj e; exact (ih p s e2).sub _ _ (by omega)
  | del a h ih => intro p s e; exact (ih p s e).del a (by omega)
  | @ins b xs ys n h ih =>
    intro p s e
    cases p with
    | nil =>
      obtain ⟨rfl, rfl⟩ := List.cons.inj e
      obtain ⟨w, ⟨xs', m, rfl, k, rfl⟩ | ⟨e0, xs', m, rfl, k, q⟩ | ⟨a', u, v, xs', ys', m, rfl, rfl, k, rfl⟩⟩ := h.first
      · exact ((((k.le (Nat.le_refl _)).dels w (Nat.le_refl _)).ins b (Nat.le_refl _)).ins y (Nat.le_refl _)).mono (by omega)
      · rcases q with rfl | ⟨rfl, rfl⟩
        · exact ((((k.le (Nat.le_refl _)).ins b (Nat.le_refl _)).sub e0 y (Nat.le_refl _)).dels w (Nat.le_refl _)).mono (by omega)
        · exact ((((k.le (Nat.le_refl _)).ins b (Nat.le_refl _)).keep e0).dels w (Nat.le_refl _)).mono (by omega)
      · exact (((k.le (Nat.le_refl _)).swap a' y u (b :: v) (Nat.le_refl _)).dels w (Nat.le_refl _)).mono (by simp; omega)
    | cons c p => obtain ⟨rfl, e2⟩ := List.cons.inj e; exact (ih p s e2).ins _ (by omega)
  | @swap a b u v xs ys n h ih =>
    intro p s e
    have h' := h.le (Nat.le_refl _)
    cases p with
    | nil =>
      obtain ⟨rfl, e2⟩ := List.cons.inj e
      cases v with
      | nil =>
        obtain ⟨rfl, rfl⟩ := List.cons.inj e2
        exact (((h'.keep b).dels u (Nat.le_refl _)).keep a).mono (by simp; omega)
      | cons z v =>
        obtain ⟨rfl, rfl⟩ := List.cons.inj e2
        exact ((h'.swap a b u v (Nat.le_refl _)).ins z (Nat.le_refl _)).mono (by simp <;> omega)
    | cons c p =>
      obtain ⟨rfl, e2⟩ := List.cons.inj e
      rcases split3 e2.symm with ⟨v', rfl, e3⟩ | ⟨rfl, rfl, e3⟩ | ⟨p', rfl, rfl⟩
      · cases v' with
        | nil =>
          obtain ⟨rfl, rfl⟩ := List.cons.inj e3
          have := (h'.ins x (Nat.le_refl _)).swap y b u p (Nat.le_refl _)
          simpa using this.mono (by simp; omega)
        | cons z v' =>
          obtain ⟨rfl, rfl⟩ := List.cons.inj e3
          have := h'.swap a b u (p ++ y :: x :: v') (Nat.le_refl _)
          simpa using this.mono (by simp)
      · subst e3
        obtain ⟨w, ⟨xs', m, rfl, k, rfl⟩ | ⟨e0, xs', m, rfl, k, q⟩ | ⟨a', u', v', xs', ys', m, rfl, rfl, k, rfl⟩⟩ := h.first
        · have := ((k.le (Nat.le_refl _)).dels w (Nat.le_refl _)).swap x b u (p ++ [y]) (Nat.le_refl _)
          simpa using this.mono (by simp; omega)
        · rcases q with rfl | ⟨rfl, rfl⟩
          · exact (((((((k.le (Nat.le_refl _)).ins x (Nat.le_refl _)).sub e0 y (Nat.le_refl _)).dels w (Nat.le_refl _)).inss p (Nat.le_refl _)).keep b).dels u (Nat.le_refl _) |>.del x (Nat.le_refl _)).mono (by omega)
          · exact (((((((k.le (Nat.le_refl _)).ins x (Nat.le_refl _)).keep e0).dels w (Nat.le_refl _)).inss p (Nat.le_refl _)).keep b).dels u (Nat.le_refl _) |>.del x (Nat.le_refl _)).mono (by omega)
        · have := (((((((k.le (Nat.le_refl _)).del y (Nat.le_refl _)).dels u' (Nat.le_refl _)).keep a').inss v' (Nat.le_refl _)).dels w (Nat.le_refl _))).swap x b u (p ++ [y]) (Nat.le_refl _)
          simpa using this.mono (by simp; omega)
      · have := (ih p' s rfl).swap a b u v (Nat.le_refl _)
        simpa using this.mono (by omega)
theorem T.e1 {xs ys zs : List α} {n : Nat} (h : T xs ys n) (k : E1 ys zs) : TLe xs zs (n + 1) := by
  cases k with
  | same => exact h.le (by omega)
  | ins p x s => exact h.opIns x p s rfl
  | del p x s => exact h.opDel x p s rfl
  | sub p x y s => exact h.opSub x y p s rfl
theorem T.sw {xs ys zs : List α} {n : Nat} (h : T xs ys n) (k : Sw ys zs) : TLe xs zs (n + 1) := by
  cases k with
  | same => exact h.le (by omega)
  | sw p x y s => exact h.opSwap x y p s rfl
theorem Reach.t {xs ys : List α} {d s : Nat} (h : Reach xs ys d s) : TLe xs ys d := by
  induction h with
  | refl => exact (T.refl _).le (Nat.le_refl _)
  | one _ k ih => obtain ⟨m, hm, ih⟩ := ih; exact (ih.e1 k).mono (by omega)
  | swap _ k ih => obtain ⟨m, hm, ih⟩ := ih; exact (ih.sw k).mono (by omega)

/- the table of the free Damerau distance -/
theorem dlF_down (eq : Nat → Nat → Bool) (M i j : Nat) : dlF eq M (i + 1) j ≤ dlF eq M i j + 1 := by
  cases j with
  | zero => rw [dlF_col, dlF_col]; omega
  | succ j => rw [dlF_succ]; omega
theorem dlF_right (eq : Nat → Nat → Bool) (M i j : Nat) : dlF eq M i (j + 1) ≤ dlF eq M i j + 1 := by
  cases i with
  | zero => rw [dlF_zero, dlF_zero]; omega
  | succ j => rw [dlF_succ]; omega
theorem dlF_downs (eq : Nat → Nat → Bool) (M i j : Nat) : ∀ k, dlF eq M (i + k) j ≤ dlF eq M i j + k
  | 0 => Nat.le_refl _
  | k + 1 => by have := dlF_downs eq M i j k; have := dlF_down eq M (i + k) j; rw [show i + (k + 1) = i + k + 1 by omega]; omega
theorem dlF_rights (eq : Nat → Nat → Bool) (M i j : Nat) : ∀ k, dlF eq M i (j + k) ≤ dlF eq M i j + k
  | 0 => Nat.le_refl _
  | k + 1 => by have := dlF_rights eq M i j k; have := dlF_right eq M i (j + k); rw [show j + (k + 1) = j + k + 1 by omega]; omega
theorem lastIn_spec (f : Nat → Bool) : ∀ n, lastIn f n ≠ 0 → f (lastIn f n - 1) = true
  | 0, h => absurd rfl h
  | n + 1, h => by
    rw [lastIn] at h ⊢
    split
    · assumption
    · rename_i q; rw [if_neg q] at h; exact lastIn_spec f n h
theorem lastIn_ge (f : Nat → Bool) : ∀ n k, k < n → f k = true → k + 1 ≤ lastIn f n
  | n + 1, k, h, hk => by
    rw [lastIn]
    split
    · omega
    · rename_i q
      have : k ≠ n := fun e => q (e ▸ hk)
      exact lastIn_ge f n k (by omega) hk
theorem rev_take_split {xs : List α} : ∀ {i k : Nat}, i ≤ xs.length → k < i → ∃ (hk : k < xs.length), ∃ u, u.length = i - k - 1 ∧ (xs.take i).reverse = u ++ xs[k] :: (xs.take k).reverse
  | i + 1, k, hi, hk => by
    rw [rev_take_succ (by omega)]
    by_cases e : k = i
    · subst e; exact ⟨by omega, [], by simp, rfl⟩
    · obtain ⟨h1, u, h2, h3⟩ := rev_take_split (xs := xs) (i := i) (k := k) (by omega) (by omega)
      exact ⟨h1, xs[i] :: u, by simp; omega, by rw [h3]; rfl⟩
theorem t_all {xs ys : List α} {n : Nat} (h : xs.length + ys.length ≤ n) : TLe xs ys n := by
  have h1 := ((T.nil (α := α)).le (Nat.le_refl _)).dels xs (Nat.le_refl _)
  have h2 := h1.inss ys (Nat.le_refl _)
  simpa using h2.mono (by omega)
theorem t_dlF {eqb : Nat → Nat → Bool} {xs ys : List α} {M : Nat} (he : EqAt eqb xs ys) (hM : xs.length + ys.length ≤ M) : ∀ N i j, i + j ≤ N → i ≤ xs.length → j ≤ ys.length → TLe (xs.take i).reverse (ys.take j).reverse (dlF eqb M i j) := by
  intro N
  induction N with
  | zero =>
    intro i j h hi hj
    obtain rfl : i = 0 := by omega
    obtain rfl : j = 0 := by omega
    exact t_all (by simp)
  | succ N ih =>
    intro i j h hi hj
    cases i with
    | zero => rw [dlF_zero]; exact t_all (by simp; omega)
    | succ i =>
      cases j with
      | zero => rw [dlF_col]; exact t_all (by simp; omega)
      | succ j =>
        have a1 := ih i j (by omega) (by omega) (by omega)
        have a2 := ih (i + 1) j (by omega) (by omega) (by omega)
        have a3 := ih i (j + 1) (by omega) (by omega) (by omega)
        rw [dlF_succ]
        generalize e4 : (if lastIn (fun k => eqb k j) i = 0 ∨ lastIn (fun k => eqb i k) j = 0 then M else dlF eqb M (lastIn (fun k => eqb k j) i - 1) (lastIn (fun k => eqb i k) j - 1)) + (i - lastIn (fun k => eqb k j) i) + (j - lastIn (fun k => eqb i k) j) + 1 = D4
        have a4 : TLe (xs.take (i + 1)).reverse (ys.take (j + 1)).reverse D4 := by
          by_cases z : lastIn (fun k => eqb k j) i = 0 ∨ lastIn (fun k => eqb i k) j = 0
          · rw [if_pos z] at e4
            exact t_all (by simp; omega)
          · rw [if_neg z] at e4
            have z1 : lastIn (fun k => eqb k j) i ≠ 0 := fun q => z (.inl q)
            have z2 : lastIn (fun k => eqb i k) j ≠ 0 := fun q => z (.inr q)
            have l1 := lastIn_le (fun k => eqb k j) i
            have l2 := lastIn_le (fun k => eqb i k) j
            have s1 := lastIn_spec _ _ z1
            have s2 := lastIn_spec _ _ z2
            generalize lastIn (fun k => eqb k j) i = i1 at *
            generalize lastIn (fun k => eqb i k) j = j1 at *
            have a5 := ih (i1 - 1) (j1 - 1) (by omega) (by omega) (by omega)
            obtain ⟨q1, u, lu, eu⟩ := rev_take_split (xs := xs) (i := i) (k := i1 - 1) (by omega) (by omega)
            obtain ⟨q2, v, lv, ev⟩ := rev_take_split (xs := ys) (i := j) (k := j1 - 1) (by omega) (by omega)
            rw [rev_take_succ (by omega), rev_take_succ (by omega), eu, ev]
            have t1 := (he _ _ _ _ (List.getElem?_eq_getElem q1) (List.getElem?_eq_getElem (show j < ys.length by omega))).mp s1
            have t2 := (he _ _ _ _ (List.getElem?_eq_getElem (show i < xs.length by omega)) (List.getElem?_eq_getElem q2)).mp s2
            rw [t1, ← t2]
            exact a5.swap _ _ u v (by omega)
        rw [rev_take_succ (by omega : i < xs.length), rev_take_succ (by omega : j < ys.length)] at a4 ⊢
        rw [rev_take_succ (by omega : i < xs.length)] at a2
        rw [rev_take_succ (by omega : j < ys.length)] at a3
        have b1 : TLe (xs[i] :: (xs.take i).reverse) (ys[j] :: (ys.take j).reverse) (dlF eqb M i j + (if eqb i j then 0 else 1)) := by
          by_cases e : eqb i j = true
          · have := (he i j _ _ (List.getElem?_eq_getElem (by omega)) (List.getElem?_eq_getElem (by omega))).mp e
            rw [if_pos e, this]; exact a1.keep _
          · rw [if_neg e]; exact a1.sub _ _ (Nat.le_refl _)
        have b2 := a2.ins ys[j] (Nat.le_refl _)
        have b3 := a3.del xs[i] (Nat.le_refl _)
        have mn : ∀ {p q : Nat}, TLe (xs[i] :: (xs.take i).reverse) (ys[j] :: (ys.take j).reverse) p → TLe (xs[i] :: (xs.take i).reverse) (ys[j] :: (ys.take j).reverse) q → TLe (xs[i] :: (xs.take i).reverse) (ys[j] :: (ys.take j).reverse) (min p q) := by
          intro p q hp hq
          rcases Nat.le_total p q with r | r
          · rw [Nat.min_eq_left r]; exact hp
          · rw [Nat.min_eq_right r]; exact hq
        exact mn (mn b1 b2) (mn b3 a4)
theorem rev_take_drop {xs u zs : List α} : ∀ {i : Nat}, i ≤ xs.length → u ++ zs = (xs.take i).reverse → u.length ≤ i ∧ zs = (xs.take (i - u.length)).reverse := by
  induction u with
  | nil => intro i h e; exact ⟨Nat.zero_le _, by simpa using e⟩
  | cons a u ih =>
    intro i h e
    obtain ⟨k, rfl, _, e2⟩ := rev_take_cons h (show a :: (u ++ zs) = _ from e)
    obtain ⟨h1, h2⟩ := ih (by omega) e2
    exact ⟨by simp; omega, by rw [h2]; congr 2; simp⟩
theorem dlF_le {eqb : Nat → Nat → Bool} {xs ys : List α} {M : Nat} (he : EqAt eqb xs ys) {us vs : List α} {n : Nat} (h : T us vs n) : ∀ i j, i ≤ xs.length → j ≤ ys.length → us = (xs.take i).reverse → vs = (ys.take j).reverse → dlF eqb M i j ≤ n := by
  induction h with
  | nil =>
    intro r c hr hc e1 e2
    have e1 : (xs.take r).length = 0 := by simpa using congrArg List.length e1.symm
    have e2 : (ys.take c).length = 0 := by simpa using congrArg List.length e2.symm
    rw [List.length_take] at e1 e2
    obtain rfl : r = 0 := by omega
    obtain rfl : c = 0 := by omega
    rw [dlF_zero]; omega
  | keep a _ ih =>
    intro r c hr hc e1 e2
    obtain ⟨r', rfl, f1, e1⟩ := rev_take_cons hr e1
    obtain ⟨c', rfl, f2, e2⟩ := rev_take_cons hc e2
    have := ih r' c' (by omega) (by omega) e1 e2
    rw [dlF_succ, if_pos ((he _ _ _ _ f1 f2).mpr rfl)]; omega
  | sub a b _ ih =>
    intro r c hr hc e1 e2
    obtain ⟨r', rfl, f1, e1⟩ := rev_take_cons hr e1
    obtain ⟨c', rfl, f2, e2⟩ := rev_take_cons hc e2
    have := ih r' c' (by omega) (by omega) e1 e2
    have : (if eqb r' c' = true then 0 else 1) ≤ 1 := by split <;> omega
    rw [dlF_succ]; omega
  | del a _ ih =>
    intro r c hr hc e1 e2
    obtain ⟨r', rfl, f1, e1⟩ := rev_take_cons hr e1
    have := ih r' c (by omega) hc e1 e2
    have := dlF_down eqb M r' c
    omega
  | ins b _ ih =>
    intro r c hr hc e1 e2
    obtain ⟨c', rfl, f2, e2⟩ := rev_take_cons hc e2
    have := ih r c' hr (by omega) e1 e2
    have := dlF_right eqb M r c'
    omega
  | @swap a b u v us vs n _ ih =>
    intro r c hr hc e1 e2
    obtain ⟨i, rfl, f1, e1⟩ := rev_take_cons hr e1
    obtain ⟨j, rfl, f2, e2⟩ := rev_take_cons hc e2
    obtain ⟨l1, e1⟩ := rev_take_drop (by omega) e1
    obtain ⟨l2, e2⟩ := rev_take_drop (by omega) e2
    obtain ⟨i', q1, f3, e1⟩ := rev_take_cons (by omega) e1
    obtain ⟨j', q2, f4, e2⟩ := rev_take_cons (by omega) e2
    have := ih i' j' (by omega) (by omega) e1 e2
    have c1 : eqb i' j = true := (he _ _ _ _ f3 f2).mpr rfl
    have c2 : eqb i j' = true := (he _ _ _ _ f1 f4).mpr rfl
    have g1 := lastIn_ge (fun k => eqb k j) i i' (by omega) c1
    have g2 := lastIn_ge (fun k => eqb i k) j j' (by omega) c2
    have l3 := lastIn_le (fun k => eqb k j) i
    have l4 := lastIn_le (fun k => eqb i k) j
    rw [dlF_succ]
    generalize lastIn (fun k => eqb k j) i = i1 at *
    generalize lastIn (fun k => eqb i k) j = j1 at *
    rw [if_neg (show ¬ (i1 = 0 ∨ j1 = 0) by omega)]
    have d1 := dlF_downs eqb M i' (j1 - 1) (i1 - 1 - i')
    have d2 := dlF_rights eqb M i' j' (j1 - 1 - j')
    rw [show i' + (i1 - 1 - i') = i1 - 1 by omega] at d1
    rw [show j' + (j1 - 1 - j') = j1 - 1 by omega] at d2
    omega
theorem dl_t {eqb : Nat → Nat → Bool} {xs ys : List α} {M : Nat} (he : EqAt eqb xs ys) (hM : xs.length + ys.length ≤ M) : TLe xs ys (dlF eqb M xs.length ys.length) := by
  obtain ⟨m, h, k⟩ := t_dlF he hM _ xs.length ys.length (Nat.le_refl _) (Nat.le_refl _) (Nat.le_refl _)
  exact ⟨m, h, by simpa using k.reverse⟩
theorem dl_min {eqb : Nat → Nat → Bool} {xs ys : List α} {M : Nat} (he : EqAt eqb xs ys) {n : Nat} (h : TLe xs ys n) : dlF eqb M xs.length ys.length ≤ n := by
  obtain ⟨m, hm, h⟩ := h
  exact Nat.le_trans (dlF_le he h.reverse _ _ (Nat.le_refl _) (Nat.le_refl _) (by simp) (by simp)) hm
end
end Mine.P
end
-- P5
section
namespace Mine.P
section
variable {α : Type} [DecidableEq α]
/-- what is left of the one when like items are struck out of both -/
def alone : List α → List α → Nat
  | [], _ => 0
  | x :: xs, ys => if x ∈ ys then alone xs (ys.erase x) else alone xs ys + 1
def sumd (ks xs ys : List α) : Nat := (ks.map fun k => xs.count k - ys.count k).sum
theorem sum_one {f g : α → Nat} {x : α} (h : ∀ k, k ≠ x → f k = g k) (hx : f x = g x + 1) : ∀ {ks : List α}, ks.Nodup → x ∈ ks → (ks.map f).sum = (ks.map g).sum + 1
  | k :: ks, hn, hm => by
    rw [List.nodup_cons] at hn
    rw [List.map_cons, List.map_cons, List.sum_cons, List.sum_cons]
    by_cases e : k = x
    · subst e
      have : ks.map f = ks.map g := List.map_congr_left fun y hy => h y fun q => hn.1 (q ▸ hy)
      rw [this, hx]; omega
    · have hm' : x ∈ ks := by rcases List.mem_cons.mp hm with q | q; exact absurd q.symm e; exact q
      rw [sum_one h hx hn.2 hm', h k e]; omega
theorem sum_le_one {f g : α → Nat} {x : α} (h : ∀ k, f k ≤ g k + if k = x then 1 else 0) : ∀ {ks : List α}, ks.Nodup → (ks.map f).sum ≤ (ks.map g).sum + (if x ∈ ks then 1 else 0)
  | [], _ => by simp
  | k :: ks, hn => by
    rw [List.nodup_cons] at hn
    rw [List.map_cons, List.map_cons, List.sum_cons, List.sum_cons]
    have ih := sum_le_one h hn.2
    have hk := h k
    by_cases e : k = x
    · subst e
      rw [if_neg hn.1] at ih
      rw [if_pos rfl] at hk
      rw [if_pos (List.mem_cons_self)]; omega
    · rw [if_neg e] at hk
      have : (x ∈ k :: ks) = (x ∈ ks) := by simp [Ne.symm e]
      rw [show (if x ∈ k :: ks then 1 else 0) = if x ∈ ks then 1 else 0 by simp [Ne.symm e]]; omega
theorem alone_sum {ks : List α} (hn : ks.Nodup) : ∀ (xs ys : List α), (∀ x ∈ xs, x ∈ ks) → alone xs ys = sumd ks xs ys
  | [], ys, _ => by
    rw [alone, sumd]
    induction ks with
    | nil => rfl
    | cons k ks ih => rw [List.map_cons, List.sum_cons, ← ih (List.nodup_cons.mp hn).2 (fun _ h => nomatch h)]; simp
  | x :: xs, ys, hc => by
    have ih := fun ys => alone_sum hn xs ys fun z hz => hc z (.tail _ hz)
    rw [alone]
    by_cases hm : x ∈ ys
    · rw [if_pos hm, ih]
      unfold sumd
      congr 1
      refine List.map_congr_left fun k _ => ?_
      have hp : 0 < ys.count x := List.count_pos_iff.mpr hm
      by_cases e : x = k
      · subst e; rw [List.count_erase_self, List.count_cons_self]; omega
      · rw [List.count_erase_of_ne (Ne.symm e), List.count_cons_of_ne e]
    · rw [if_neg hm, ih]
      unfold sumd
      refine (sum_one (x := x) (fun k hk => ?_) ?_ hn (hc x (.head _))).symm
      · rw [List.count_cons_of_ne (Ne.symm hk)]
      · rw [List.count_cons_self, List.count_eq_zero_of_not_mem hm]; omega
theorem cover : ∀ xs : List α, ∃ ks : List α, ks.Nodup ∧ ∀ x ∈ xs, x ∈ ks
  | [] => ⟨[], List.nodup_nil, fun _ h => nomatch h⟩
  | x :: xs => by
    obtain ⟨ks, h1, h2⟩ := cover xs
    by_cases e : x ∈ ks
    · exact ⟨ks, h1, fun z hz => by rcases List.mem_cons.mp hz with rfl | hz; exact e; exact h2 z hz⟩
    · exact ⟨x :: ks, List.nodup_cons.mpr ⟨e, h1⟩, fun z hz => by rcases List.mem_cons.mp hz with rfl | hz; exact .head _; exact .tail _ (h2 z hz)⟩
omit [DecidableEq α] in
theorem E1.symm {xs ys : List α} (h : E1 xs ys) : E1 ys xs := by
  cases h with
  | same => exact .same _
  | ins p x s => exact .del p x s
  | del p x s => exact .ins p x s
  | sub p x y s => exact .sub p y x s
theorem E1.count {xs ys : List α} (h : E1 xs ys) : (∀ k, xs.count k ≤ ys.count k) ∨ ∃ x, ∀ k, xs.count k ≤ ys.count k + if k = x then 1 else 0 := by
  cases h with
  | same => exact .inl fun k => Nat.le_refl _
  | ins p x s => exact .inl fun k => by simp only [List.count_append, List.count_cons]; omega
  | del p x s => exact .inr ⟨x, fun k => by
      simp only [List.count_append, List.count_cons]
      by_cases e : x = k
      · subst e; simp; omega
      · simp [e]⟩
  | sub p x y s => exact .inr ⟨x, fun k => by
      simp only [List.count_append, List.count_cons]
      by_cases e : x = k
      · subst e; simp; omega
      · simp [e]; omega⟩
theorem Sw.count {xs ys : List α} (h : Sw xs ys) (k : α) : xs.count k = ys.count k := by
  cases h with
  | same => rfl
  | sw p x y s => simp only [List.count_append, List.count_cons]; omega
theorem E1.alone {ys zs : List α} (h : E1 ys zs) (xs : List α) : alone xs zs ≤ alone xs ys + 1 ∧ alone zs xs ≤ alone ys xs + 1 := by
  obtain ⟨ks, hn, hc⟩ := cover (xs ++ (ys ++ zs))
  have hx : ∀ x ∈ xs, x ∈ ks := fun x hx => hc x (by simp [hx])
  have hy : ∀ x ∈ ys, x ∈ ks := fun x hx => hc x (by simp [hx])
  have hz : ∀ x ∈ zs, x ∈ ks := fun x hx => hc x (by simp [hx])
  rw [alone_sum hn _ _ hx, alone_sum hn _ _ hx, alone_sum hn _ _ hy, alone_sum hn _ _ hz]
  have le1 : ∀ (a : α) , (if a ∈ ks then 1 else 0) ≤ 1 := fun a => by split <;> omega
  have go : ∀ {f g : α → Nat}, ((∀ k, f k ≤ g k) ∨ ∃ x, ∀ k, f k ≤ g k + if k = x then 1 else 0) → (ks.map f).sum ≤ (ks.map g).sum + 1 := by
    intro f g h
    rcases h with h | ⟨x, h⟩
    · clear hn hc hx hy hz le1
      induction ks with
      | nil => simp
      | cons k ks ih => rw [List.map_cons, List.map_cons, List.sum_cons, List.sum_cons]; have := h k; omega
    · have := sum_le_one h hn; have := le1 x; omega
  unfold sumd
  refine ⟨go ?_, go ?_⟩
  · rcases h.count with h | ⟨x, h⟩
    · exact .inl fun k => by have := h k; omega
    · exact .inr ⟨x, fun k => by have := h k; omega⟩
  · rcases h.symm.count with h | ⟨x, h⟩
    · exact .inl fun k => by have := h k; omega
    · exact .inr ⟨x, fun k => by have := h k; omega⟩
theorem alone_congr {xs xs' ys ys' : List α} (h1 : ∀ k, xs.count k = xs'.count k) (h2 : ∀ k, ys.count k = ys'.count k) : alone xs ys = alone xs' ys' := by
  obtain ⟨ks, hn, hc⟩ := cover (xs ++ xs')
  rw [alone_sum hn _ _ (fun x hx => hc x (by simp [hx])), alone_sum hn _ _ (fun x hx => hc x (by simp [hx]))]
  unfold sumd
  congr 1
  exact List.map_congr_left fun k _ => by rw [h1, h2]
theorem Reach.alone {xs ys : List α} {d s : Nat} (h : Reach xs ys d s) : alone xs ys ≤ d ∧ alone ys xs ≤ d := by
  induction h with
  | refl =>
    rename_i xs
    obtain ⟨ks, hn, hc⟩ := cover xs
    rw [alone_sum hn _ _ hc, sumd]
    have : ∀ ks : List α, (ks.map fun k => xs.count k - xs.count k).sum = 0 := fun ks => by induction ks with | nil => rfl | cons k ks ih => rw [List.map_cons, List.sum_cons, ih]; omega
    rw [this]; exact ⟨Nat.le_refl _, Nat.le_refl _⟩
  | one _ e ih => rename_i xs ys zs _ _ _; have := e.alone xs; omega
  | swap _ e ih =>
    rename_i xs ys zs _ _ _
    rw [alone_congr (xs := xs) (xs' := xs) (ys := zs) (ys' := ys) (fun _ => rfl) (fun k => (e.count k).symm), alone_congr (xs := zs) (xs' := ys) (ys := xs) (ys' := xs) (fun k => (e.count k).symm) (fun _ => rfl)]
    omega
theorem alone_le {xs ys : List α} {n : Nat} (h : AlLe xs ys n) : max (alone xs ys) (alone ys xs) ≤ n := by
  obtain ⟨m, hm, h⟩ := h
  have := h.reach.alone
  omega

/-- the law: of two rows with a run of deeds between -/
theorem law {q : Nat} (hq : 0 < q) {xs ys : List α} {d s lt fr pc bg pl : Nat} (h : Reach xs ys d s)
    (hlt : Al xs ys lt) (hlt' : ∀ n, AlLe xs ys n → lt ≤ n) (hfr : TLe xs ys fr) (hfr' : ∀ n, TLe xs ys n → fr ≤ n) (hpc : Al (gr q xs) (gr q ys) pc) (hpc' : ∀ n, AlLe (gr q xs) (gr q ys) n → pc ≤ n)
    (hbg : bg = max (alone (gr q xs) (gr q ys)) (alone (gr q ys) (gr q xs))) (hpl : pl = max (alone xs ys) (alone ys xs)) :
    bg ≤ pc ∧ pc ≤ q * lt ∧ pc ≤ (q + 1) * fr ∧ pl ≤ fr ∧ lt ≤ 2 * fr ∧ lt + 1 ≤ pc + q ∧ (pc = max (gr q xs).length (gr q ys).length ∨ lt ≤ pc ∧ pc < max (gr q xs).length (gr q ys).length) ∧
      (pc = 0 ↔ xs = ys ∨ max (gr q xs).length (gr q ys).length = 0) ∧ fr ≤ d ∧ lt ≤ d + s ∧ pc ≤ q * d + s := by
  obtain ⟨f, hf, ht⟩ := hfr
  obtain ⟨sf, hsf, hr⟩ := ht.reach
  refine ⟨?_, ?_, ?_, ?_, ?_, ?_, ?_, ?_, hfr' _ h.t, hlt' _ h.al, hpc' _ (h.gr hq)⟩
  · rw [hbg]; exact alone_le hpc.le
  · exact hpc' _ ((hlt.reach.gr hq).mono (by omega))
  · refine hpc' _ ((hr.gr hq).mono ?_)
    have := Nat.mul_le_mul_left (q + 1) hf
    have e : (q + 1) * f = q * f + f := by rw [Nat.add_mul, Nat.one_mul]
    omega
  · rw [hpl]; have := hr.alone; omega
  · have := hlt' _ hr.al; omega
  · have := hlt' _ (letters_pieces hq hpc.le); omega
  · have h1 := hpc' _ (AlLe.any _ _)
    by_cases e : pc = max (gr q xs).length (gr q ys).length
    · exact .inl e
    · have h2 : pc < max (gr q xs).length (gr q ys).length := by omega
      exact .inr ⟨hlt' _ (letters_kept hq hpc h2), h2⟩
  · constructor
    · rintro rfl
      have e := hpc.zero
      by_cases z : gr q xs = []
      · right; rw [← e, z]; rfl
      · exact .inl (gr_inj hq e z)
    · rintro (rfl | z)
      · have := hpc' 0 (Al.refl _).le; omega
      · have := hpc' _ (AlLe.any _ _); omega
end
end Mine.P
end
-- S0
section
open PySem PySem.W PySem.W.X PyProof.Rows PySem.Calls
set_option maxRecDepth 100000
set_option maxHeartbeats 8000000
namespace Mine

theorem of_attempt {α : Type} {M : Model} {A : Around} {m : Sem α} {Q : Except Value α → Shared → Prop} {E : Value → Shared → Prop} {s : Shared}
   (h : wpAny M A m.attempt Q E s) : wpAny M A m (fun v => Q (.ok v)) (fun e => Q (.error e)) s := by
  intro Γ p hΓ
  have := h Γ p hΓ
  unfold Sem.attempt at this
  rw [Sem.wp_tryCatch, Sem.wp_bind] at this
  simpa only [Sem.wp_pure] using this

theorem in_le {Γ : Ctx} {A : Around} {D U : Nat} (hd : A.depth ≤ D) (hu : A.units ≤ U) (h : Γ.In A) : Γ.In { A with depth := D, units := U } :=
  ⟨h.1, Nat.le_trans h.2.1 hd, h.2.2.1, h.2.2.2.1, Nat.le_trans h.2.2.2.2 hu⟩
theorem wpAny_le {α : Type} {M : Model} {A : Around} {t : Sem α} {Q : α → Shared → Prop} {E : Value → Shared → Prop} {s : Shared} {D U : Nat}
    (h : wpAny M { A with depth := D, units := U } t Q E s) (hd : A.depth ≤ D) (hu : A.units ≤ U) : wpAny M A t Q E s :=
  fun Γ p hΓ => h Γ p (in_le hd hu hΓ)

theorem fr_stays {h₀ h h' : Heap} {L : Addr} {m : Str → Option Value} (F : Fr h₀ L h m) (k : h.StaysIn h') : Fr h₀ L h' m := by
  obtain ⟨⟨o, es, ep, ho, r⟩, kp, ab⟩ := F
  exact ⟨⟨o, es, ep, k _ _ ho, r⟩, fun b o e => k _ _ (kp b o e), ab⟩
theorem news_stays {h₀ h h' : Heap} {L : Addr} {news : List (Addr × Obj)} (N : News h₀ L h news) (k : h.StaysIn h') : News h₀ L h' news :=
  fun p hp => ⟨k _ _ (N p hp).1, (N p hp).2.1, (N p hp).2.2⟩

abbrev QD (n : Nat) (fs : List Env) (gd : Option (List Code)) : Around := { handled := none, depth := 400 + n, frames := some fs, guards := gd, units := 4 * n }

section
variable {w : World} {prog : Program} {A A₀ : Around} {s : Shared} {base : Heap} {outer : List Env} {K : Frag} {p : Program} {loose : List Str} {mg mb : Str → Option Value}
  {R : Result → Shared → Prop} {name qual : Str} {params : Arguments} {body : List Stmt} {scope : Scope} {dV kV doc pm cdv ct oc : Value} {an od : Option Addr} {osl : Array (Option Value)} {f : Addr} {args : Args} {binds : List (Str × Value)}

theorem enterS (X : K.In s.heap) (T : TopRead p loose mg mb s.heap)
    (ho : K.lookup f = some ⟨oc, od, .func (fnOf name qual params body scope dV kV doc pm an cdv ct), osl⟩) (hcd : codeIn K cdv qual = true) (hroom : A.depth < recursionLimit)
    (hbind : BindsTo s (fnOf name qual params body scope dV kV doc pm an cdv ct) args binds) (hloc : ∀ y ∈ binds, scope.names.lookup y.1 = some .local)
    (h : ∀ L' h₁, Fr s.heap L' h₁ (fun y => binds.reverse.lookup y) → News s.heap L' h₁ [] →
      wpAny (model prog w) (A.deeper (envOf qual scope L' f cdv)) (execs body (envOf qual scope L' f cdv))
        (fun fl s' => R (.ok (.ret (match fl with | .ret v => v | _ => .none))) s')
        (fun e s' => wpAny (model prog w) (A.deeper (envOf qual scope L' f cdv)) (leaving (envOf qual scope L' f cdv) e) (fun _ s'' => R (.error e) s'') (fun e' s'' => R (.error e') s'') s')
        { s with heap := h₁, toks := s.toks + binds.length })
    (hco : scope.isCoroutine = false) (hgen : scope.isGenerator = false) (hk : scope.kind = .function)
    (hcell : ∀ x ∈ scope.names, x.2 ≠ .cell) : codeAny (model prog w) A (.call (.ref f) args) R s := by
  refine codeAny_call_def (fd := fnOf name qual params body scope dV kV doc pm an cdv ct) (body := body) (binds := binds) hroom (X _ _ ho) rfl T.nolimit (codeRec_of X hcd) rfl hbind hcell hloc (fun h₁ hns hk₁ => ?_) hco hgen hk
  exact h s.heap.objs.size h₁ ⟨hns, hk₁, Nat.le_refl _⟩ News.nil

theorem wp_of_peek1S {α : Type} {K : Frag} {M : Model} {A : Around} {E : Value → Shared → Prop} {Q : α → Shared → Prop} {s : Shared} {o : Obj} {r : Addr → α}
    (X : K.In s.heap) (hf : o.isFreed = false)
    (q : ∀ D h', s.heap.StaysIn h' → h'.get? D = some o → s.heap.get? D = none → s.heap.objs.size ≤ h'.objs.size → Q (r D) { s with heap := h' }) :
    ∀ (t : Sem α) (g : Addr → Option α), peek1 K ⟨M.prog, M.w.params⟩ t = some (o, g) → (∀ D, g D = some (r D)) → wpAny M A t Q E s := by
  intro t
  induction t with
  | rule _ k ih => intro g e hg Γ p hΓ; exact ih () g e hg Γ p hΓ
  | point _ k ih => intro g e hg Γ p hΓ; exact ih () g e hg Γ p hΓ
  | ask k ih => intro g e hg Γ p hΓ; exact ih _ g e hg Γ p hΓ
  | load a _ k ih =>
    intro g e hg Γ p hΓ
    simp only [peek1] at e
    split at e
    · rename_i ob ho; exact ⟨ob, X _ _ ho, ih ob g e hg Γ p hΓ⟩
    · cases e
  | alloc ob k _ =>
    intro g e hg
    have e : some (ob, fun D => peek K ⟨M.prog, M.w.params⟩ (k D)) = some (o, g) := e
    obtain ⟨e1, e2⟩ := Prod.mk.inj (Option.some.inj e)
    subst e1
    subst e2
    have X' : K.In (s.heap.push ob) := X.keeps fun b x hb => Heap.get?_push_of_some _ hb
    show wpAny M A (alloc ob >>= k) Q E s
    refine wpAny_bind (wpAny_alloc ?_)
    refine (Looks.of_peek (M := M) (h := s.heap.push ob) X' (hg s.heap.objs.size)).here (s := { s with heap := s.heap.push ob }) (q _ _ (fun b x hb => Heap.get?_push_of_some _ hb) (Heap.get?_push_size _ hf) ?_ ?_)
    · cases e : s.heap.get? s.heap.objs.size with
      | none => rfl
      | some x => exact absurd (Heap.lt_size e) (Nat.lt_irrefl _)
    · rw [Heap.size_push]; exact Nat.le_succ _
  | _ => intro g e; cases e

theorem enterV {vs : List Value} {g₁ : Addr → Option (List (Str × Value))} {binds : Addr → List (Str × Value)} (X : K.In s.heap) (T : TopRead p loose mg mb s.heap)
    (ho : K.lookup f = some ⟨oc, od, .func (fnOf name qual params body scope dV kV doc pm an cdv ct), osl⟩) (hcd : codeIn K cdv qual = true) (hroom : A.depth < recursionLimit)
    (hp : peek1 K ⟨prog, w.params⟩ (bindArgs (fnOf name qual params body scope dV kV doc pm an cdv ct) args) = some (({ cls := .type "tuple", data := .seq vs.toArray } : Obj), g₁))
    (hg : ∀ D, g₁ D = some (binds D)) (hloc : ∀ D, ∀ y ∈ binds D, scope.names.lookup y.1 = some .local)
    (h : ∀ D L' h₁, Fr s.heap L' h₁ (fun y => (binds D).reverse.lookup y) → News s.heap L' h₁ [(D, ({ cls := .type "tuple", data := .seq vs.toArray } : Obj))] →
      wpAny (model prog w) (A.deeper (envOf qual scope L' f cdv)) (execs body (envOf qual scope L' f cdv))
        (fun fl s' => R (.ok (.ret (match fl with | .ret v => v | _ => .none))) s')
        (fun e s' => wpAny (model prog w) (A.deeper (envOf qual scope L' f cdv)) (leaving (envOf qual scope L' f cdv) e) (fun _ s'' => R (.error e) s'') (fun e' s'' => R (.error e') s'') s')
        { s with heap := h₁, toks := s.toks + (binds D).length })
    (hco : scope.isCoroutine = false) (hgen : scope.isGenerator = false) (hk : scope.kind = .function)
    (hcell : ∀ x ∈ scope.names, x.2 ≠ .cell) : codeAny (model prog w) A (.call (.ref f) args) R s := by
  refine codeAny_call_function (fd := fnOf name qual params body scope dV kV doc pm an cdv ct) (body := body) hroom (X _ _ ho) rfl hco hgen rfl (codeRec_of X hcd) ?_
  refine wp_of_peek1S (o := ({ cls := .type "tuple", data := .seq vs.toArray } : Obj)) X rfl (r := binds) (fun D h' st hD hn hsz => ?_) _ g₁ hp hg
  refine wpAny_newFunctionEnv hcell (hloc D) (fun h₁ hns hsb => ⟨(T.nolimit.keeps st).fresh _ hsb, codeAny_func ?_⟩) hk
  have hk₁ : ∀ b o, h'.get? b = some o → h₁.get? b = some o := fun b o e => hsb.extBut b o (Nat.ne_of_lt (Heap.lt_size e)) (Heap.get?_push_of_some _ e)
  exact h D h'.objs.size h₁ ⟨hns, fun b o e => hk₁ b o (st b o e), hsz⟩ (fun p hp => by
    rw [List.mem_singleton] at hp; subst hp
    exact ⟨hk₁ _ _ hD, Nat.ne_of_lt (Heap.lt_size hD), hn⟩)
end
end Mine
end
-- S1
section
open PySem PySem.W PySem.W.X PyProof.Rows PySem.Calls
set_option maxRecDepth 100000
set_option maxHeartbeats 8000000
namespace Mine
theorem sub_tuple_set : isSubtype (.type "tuple") (.type "set") = pure false := by rw [isSubtype_type]; kernel_rfl
theorem sub_tuple_frozenset : isSubtype (.type "tuple") (.type "frozenset") = pure false := by rw [isSubtype_type]; kernel_rfl

section
variable {prog : Program} {w : World} {A : Around} {E : Value → Shared → Prop} {s : Shared}

def AddStep (prog : Program) (w : World) (E : Value → Shared → Prop) (U : Nat) (h₀ : Heap) (x : Value) (σ σ' : Obj → Prop) : Prop :=
  ∀ (A' : Around) (s₁ : Shared) (S : Addr) (o : Obj) (Q : Shared → Prop), A'.handled = none → A'.units ≤ U → h₀.StaysIn s₁.heap → h₀.get? S = none → s₁.heap.get? S = some o → σ o →
    (∀ h' tk' o', Heap.SameBut S s₁.heap h' → h'.get? S = some o' → σ' o' → Q { s₁ with heap := h', toks := tk' }) →
    wpAny (model prog w) A' (setAdd S x) (fun _ s' => Q s') E s₁

theorem set_turn {S I t : Addr} {items : Array Value} {i : Nat} {x : Value} {R : Result → Shared → Prop} {h₀ : Heap} {σ σ' : Obj → Prop} {o : Obj} {U : Nat}
    (hh : A.handled = none) (hu : A.units + 1 ≤ U) (st : h₀.StaysIn s.heap) (hS0 : h₀.get? S = none) (hI0 : h₀.get? I = none) (hIS : I ≠ S) (hit : s.heap.IsTupleIter I t i) (ht : h₀.IsTuple t items) (hx : items[i]? = some x)
    (ho : s.heap.get? S = some o) (hσ : σ o) (hadd : AddStep prog w (fun e s' => R (.error e) s') U h₀ x σ σ')
    (h : ∀ h' tk' o', h₀.StaysIn h' → h'.IsTupleIter I t (i + 1) → h'.get? S = some o' → σ' o' → codeAny (model prog w) A (.builtin "set.update.loop" ⟨[.ref S, .ref I], []⟩) R { s with heap := h', toks := tk' }) :
    codeAny (model prog w) A (.builtin "set.update.loop" ⟨[.ref S, .ref I], []⟩) R s := by
  have ht' : s.heap.IsTuple t items := let ⟨ob, hb, r⟩ := ht; ⟨ob, st _ _ hb, r⟩
  refine codeAny_builtin PyProof.Rows.F.entry_set_update_loop ?_
  rw [Around.under_plainId PyProof.Rows.F.plain_set_update_loop _]
  show wpAny _ A.in1 (pyNext (.ref I) >>= _) _ _ s
  refine wpAny_bind (wpAny_pyNext_tuple_item hit ht' hx fun h₁ hit₁ sb₁ => ?_)
  have st₁ : h₀.StaysIn h₁ := fun b ob e => sb₁.extBut b ob (fun q => by rw [q, hI0] at e; cases e) (st b ob e)
  have hS₁ : h₁.get? S = some o := sb₁.extBut _ _ (Ne.symm hIS) ho
  show wpAny _ A.in1 (holding [x] (setAdd S x) >>= _) _ _ _
  refine wpAny_bind (wpAny_holding (hadd A.in1 _ S o _ hh hu st₁ hS0 hS₁ hσ fun h₂ tk₂ o₂ sb₂ ho₂ hσ₂ => ?_))
  refine wpAny_pure ⟨plainId_quiet PyProof.Rows.F.plain_set_update_loop _, h h₂ tk₂ o₂ (fun b ob e => sb₂.extBut b ob (fun q => by rw [q, hS0] at e; cases e) (st₁ b ob e)) (hit₁.extBut sb₂.extBut hIS) ho₂ hσ₂⟩

theorem set_turn_end {S I t : Addr} {items : Array Value} {i : Nat} {R : Result → Shared → Prop} {h₀ : Heap} {o : Obj}
    (hh : A.handled = none) (st : h₀.StaysIn s.heap) (hI0 : h₀.get? I = none) (hIS : I ≠ S) (hit : s.heap.IsTupleIter I t i) (ht : h₀.IsTuple t items) (hx : items[i]? = none)
    (ho : s.heap.get? S = some o)
    (h : ∀ h', h₀.StaysIn h' → h'.get? S = some o → R (.ok (.ret .none)) { s with heap := h' }) :
    codeAny (model prog w) A (.builtin "set.update.loop" ⟨[.ref S, .ref I], []⟩) R s := by
  have ht' : s.heap.IsTuple t items := let ⟨ob, hb, r⟩ := ht; ⟨ob, st _ _ hb, r⟩
  refine codeAny_builtin PyProof.Rows.F.entry_set_update_loop ?_
  rw [Around.under_plainId PyProof.Rows.F.plain_set_update_loop _]
  show wpAny _ A.in1 (pyNext (.ref I) >>= _) _ _ s
  refine wpAny_bind (wpAny_pyNext_tuple_end (by simpa using hh) hit ht' hx fun h₁ sb₁ => ?_)
  show wpAny _ A.in1 (ret Value.none) _ _ _
  exact wpAny_pure (h h₁ (fun b ob e => sb₁ b ob (fun q => by rw [q, hI0] at e; cases e) (st b ob e)) (sb₁ _ _ (Ne.symm hIS) ho))

abbrev freshSet (led : Bool) : Obj := { cls := .type "set", dict := none, data := .set #[] 0 (.fresh 0 0 led) }

set_option maxRecDepth 100000 in
set_option maxHeartbeats 3200000 in
theorem call_set_tup2 {t : Addr} {x y : Value} {σ₀ σ₁ σ₂ : Obj → Prop} {Q : Value → Shared → Prop}
    (hh : A.handled = none) (ht : s.heap.IsTuple t #[x, y]) (h0 : ∀ led, σ₀ (freshSet led))
    (ha : AddStep prog w E (A.units + 8) s.heap x σ₀ σ₁) (hb : AddStep prog w E (A.units + 8) s.heap y σ₁ σ₂)
    (h : ∀ (h' : Heap) (tk : Nat) o, s.heap.StaysIn h' → h'.get? s.heap.objs.size = some o → σ₂ o → Q (.ref s.heap.objs.size) { s with heap := h', toks := tk }) :
    wpAny (model prog w) A (call (.type "set") [.ref t]) Q E s := by
  obtain ⟨c, tl, hmro⟩ := PySem.F.called_set.mro
  have hmade := PySem.F.called_set.made
  have hsub := PySem.F.called_set.sub
  refine wpAny_call (codeAny_of_tree ?_)
  show wpAny _ _ (callAny (.type "set") _) _ _ _
  refine wpAny_pure ⟨Code.quiet_builtin _ (by decide +kernel), codeAny_builtin F.entry_type_call ?_⟩
  rw [Around.under_plain (weight_type_call_type "set" [.ref t] []) rfl]
  have h1 := PySem.F.called_set.notType
  have h2 := PySem.F.called_set.canCreate
  have hct := PySem.F.typeCall_set_1 (.ref t)
  repeat (any_goals (first | assumption | wp_step))
  refine codeAny_mono (code_set_new_1 (.ref t) (E := E) (Q₁ := fun obj s₁ => ∃ led : Bool, obj = .ref s.heap.objs.size ∧ s₁ = { s with heap := s.heap.push (freshSet led) }) fun led => ⟨led, rfl, rfl⟩) fun r s₁ hr => ?_
  cases r with
  | error e => exact hr
  | ok fl =>
    cases fl with
    | ret obj =>
      obtain ⟨led, rfl, rfl⟩ := hr
      have hS : (s.heap.push (freshSet led)).get? s.heap.objs.size = some (freshSet led) := Heap.get?_push_size _ rfl
      have hT : Shared.TypeIs { s with heap := s.heap.push (freshSet led) } (.ref s.heap.objs.size) "set" := ⟨_, hS, rfl⟩
      have hli := PySem.F.called_set.init.lookup
      have hbi := PySem.F.called_set.init.bind (.ref s.heap.objs.size)
      repeat (any_goals (first | assumption | wp_step))
      refine codeAny_mono (codeAny_call_builtin (R := wants (fun r s₂ => r = .none ∧ ∃ h' tk o, s₂ = { s with heap := h', toks := tk } ∧ s.heap.StaysIn h' ∧ h'.get? s.heap.objs.size = some o ∧ σ₂ o) E) PySem.F.called_set.init.plain F.entry_set_init (check_set_init_1 hT ?_)) fun r₂ s₂ hr₂ => ?_
      · obtain ⟨ol, hol, hcl, nl, hdl⟩ := id ht
        obtain ⟨ocls, odict, odata, oslots⟩ := ol
        simp only at hcl hdl
        subst hcl; subst hdl
        have hol' : (s.heap.push (freshSet led)).get? t = some { cls := .type "tuple", dict := odict, data := .seq #[x, y] nl, slots := oslots } := Heap.get?_push_of_some _ hol
        have hsls := sub_tuple_set
        have hslf := sub_tuple_frozenset
        have hne : (Value.type "tuple" == Value.type "dict") = false := by decide
        have hl1 : (s.heap.push (freshSet led)).IsTuple t #[x, y] := ⟨_, hol', rfl, nl, rfl⟩
        unfold Builtin.«set.__init__» noKeywords Builtin.Frozenset.updateFrom
        generalize hPI : pyIter = PI
        wp_walk
        subst hPI
        refine wpAny_pyIter_tuple hl1 ?_
        refine wpAny_bind (wpAny_runValue ?_)
        have hfresh : ∀ a, s.heap.objs.size ≤ a → s.heap.get? a = none := fun a ha => by
          cases e : s.heap.get? a with
          | none => rfl
          | some o' => exact absurd (Heap.lt_size e) (Nat.not_lt.mpr ha)
        have hIsz : (s.heap.push (freshSet led)).objs.size = s.heap.objs.size + 1 := Heap.size_push ..
        have hI0 : s.heap.get? (s.heap.push (freshSet led)).objs.size = none := hfresh _ (by rw [hIsz]; exact Nat.le_succ _)
        have hIS : (s.heap.push (freshSet led)).objs.size ≠ s.heap.objs.size := by rw [hIsz]; exact Nat.succ_ne_self _
        have hS0 : s.heap.get? s.heap.objs.size = none := hfresh _ (Nat.le_refl _)
        refine set_turn (i := 0) (x := x) (σ := σ₀) (σ' := σ₁) (o := freshSet led) (h₀ := s.heap) (U := A.units + 8) (by simpa using hh) (by simp only [Around.in1_units]; omega) (fun b ob e => Heap.get?_push_of_some _ (Heap.get?_push_of_some _ e)) hS0 hI0 hIS
          ⟨_, Heap.get?_push_size _ rfl, rfl, rfl⟩ ht rfl (Heap.get?_push_of_some _ hS) (h0 led) ?ha ?_
        case ha => exact ha
        intro h₂ tk₂ o₂ st₂ it₂ ho₂ q₂
        refine set_turn (i := 1) (x := y) (σ := σ₁) (σ' := σ₂) (o := o₂) (h₀ := s.heap) (U := A.units + 8) (by simpa using hh) (by simp only [Around.in1_units]; omega) st₂ hS0 hI0 hIS it₂ ht rfl ho₂ q₂ ?hb ?_
        case hb => exact hb
        intro h₃ tk₃ o₃ st₃ it₃ ho₃ q₃
        refine set_turn_end (i := 2) (h₀ := s.heap) (by simpa using hh) st₃ hI0 hIS it₃ ht rfl ho₃ ?_
        intro h₄ st₄ ho₄
        show wpAny _ _ _ _ _ _
        refine wpAny_pure ?_
        show wpAny _ _ (ret Value.none) _ _ _
        exact wpAny_pure ⟨rfl, h₄, _, o₃, rfl, st₄, ho₄, q₃⟩
      · cases r₂ with
        | error e => exact hr₂
        | ok fl₂ =>
          cases fl₂ with
          | ret r =>
            obtain ⟨rfl, h', tk, o, rfl, st', ho', q'⟩ := hr₂
            repeat (any_goals (first | assumption | wp_step))
            exact h _ _ _ st' ho' q'
          | _ => exact hr₂.elim
    | _ => exact hr.elim
end
end Mine
end
-- S2
section
open PySem PySem.W PySem.W.X PyProof.Rows PySem.Calls
set_option maxRecDepth 100000
set_option maxHeartbeats 8000000
namespace Mine
def SetLen (o : Obj) (n : Nat) : Prop := o.ExactSet ∧ ∃ es ep t, o.data = .set es ep t ∧ t.fits es.size = true ∧ es.size = n
section
variable {prog : Program} {w : World} {A : Around} {E : Value → Shared → Prop} {s : Shared}
theorem addStep_str {U : Nat} {h₀ : Heap} {b : Str} {tb : Tok} {S : Str → Bool} {n : Nat} (hn : n + 1 < scanBound) :
    AddStep prog w E U h₀ (.str b tb) (fun o => o.SetObjOf (strKind prog w) S n) (fun o => o.SetObjOf (strKind prog w) (fun k => S k || decide (k = b)) (if S b then n else n + 1)) := by
  intro A' s₁ S' o Q hh hu st hS0 ho hσ h
  unfold setAdd
  refine wpAny_holding ?_
  refine wpAny_bind ((strKind prog w).pyHash (k := b) (strKind_is _ _ _ _) ?_)
  refine wpAny_setAddHashed_of (knd := strKind prog w) (s := { s₁ with toks := s₁.toks + 1 }) (strKind_is _ _ _ _) rfl (hσ.setOf ho (by omega)) hn fun h' hsb hS2 => ?_
  obtain ⟨o', ho', q⟩ := hS2.objOf
  exact h h' _ o' hsb ho' q
theorem set_strs {t : Addr} {a b : Str} {ta tb : Tok} {Q : Value → Shared → Prop} (hh : A.handled = none) (ht : s.heap.IsTuple t #[.str a ta, .str b tb])
    (h : ∀ (h' : Heap) (tk : Nat) o, s.heap.StaysIn h' → h'.get? s.heap.objs.size = some o → SetLen o (if a = b then 1 else 2) → Q (.ref s.heap.objs.size) { s with heap := h', toks := tk }) :
    wpAny (model prog w) A (call (.type "set") [.ref t]) Q E s := by
  refine call_set_tup2 hh ht (fun led => setObjOf_fresh (knd := strKind prog w) led) (addStep_str (by decide)) (addStep_str (by decide)) fun h' tk o st ho q => h h' tk o st ho ?_
  obtain ⟨hex, es, ep, t, hd, _, _, hn, hf⟩ := q
  refine ⟨hex, es, ep, t, hd, hf, ?_⟩
  rw [hn]
  by_cases e : a = b
  · subst e; simp
  · simp [e, Ne.symm e]
end
end Mine
end
-- S3
section
open PySem PySem.W PySem.W.X PyProof.Rows PySem.Calls
set_option maxRecDepth 100000
set_option maxHeartbeats 8000000
namespace Mine
abbrev tab1 (j : Nat) (led : Bool) : SetTable := { mask := 7, place := #[j], dummies := #[], finger := 0, led := led, moves := 0, plain := false }

theorem below1 (j i : Nat) : SetTable.below #[j] i = if j < i then 1 else 0 := by
  simp only [SetTable.below, SetTable.below.go, List.size_toArray, List.length_cons, List.length_nil]
  by_cases h : j < i <;> simp [h, SetTable.below.go]
theorem slot1 (j i : Nat) (led : Bool) : (tab1 j led).slot i = if i = j then .live 0 else .empty := by
  unfold SetTable.slot
  simp only [below1]
  by_cases h : i = j
  · subst h; simp
  · by_cases h2 : j < i
    · simp [h, h2, SetTable.has, SetTable.below, SetTable.below.go]
    · simp [h, h2, SetTable.has, SetTable.below, SetTable.below.go, Ne.symm h]

structure PO (p : SetTable.Probe) : Prop where
  more : p.more = 0
  ji : p.j = p.i
  lt : p.i < 8
  dm : p.dummy = none
theorem runEnd7 (i : Nat) : SetTable.runEnd 7 i = i := by
  unfold SetTable.runEnd
  rw [if_neg (by omega)]
theorem po_start (t : SetTable) (ht : t.mask = 7) (h : Int) : PO (t.probeStart h) := by
  refine ⟨?_, rfl, ?_, rfl⟩
  · simp only [SetTable.probeStart, ht]; rw [runEnd7]; omega
  · simp only [SetTable.probeStart, ht]; omega
theorem advance7 {t : SetTable} (ht : t.mask = 7) {p : SetTable.Probe} (h : PO p) : t.advance p = { j := (p.i * 5 + 1 + p.perturb / 32) % 8, more := 0, i := (p.i * 5 + 1 + p.perturb / 32) % 8, perturb := p.perturb / 32, dummy := none } := by
  unfold SetTable.advance
  rw [h.more, if_neg (by omega), ht]
  simp only [SetTable.leap, runEnd7, h.dm]
  congr 1; omega
theorem po_advance {t : SetTable} (ht : t.mask = 7) {p : SetTable.Probe} (h : PO p) : PO (t.advance p) := by
  rw [advance7 ht h]
  exact ⟨rfl, rfl, by simp only; omega, rfl⟩
theorem bits_lt (h : Int) : SetTable.bits h < 32 ^ 13 := by
  unfold SetTable.bits
  have h1 := Int.emod_lt_of_pos h (b := 2 ^ 64) (by decide)
  have h2 := Int.emod_nonneg h (b := 2 ^ 64) (by decide)
  have : (h % 2 ^ 64).toNat < 2 ^ 64 := by omega
  exact Nat.lt_of_lt_of_le this (by decide)

/-- a walk over the table with one element whose hash is another -/
theorem go_free {j₁ : Nat} {led : Bool} {ha : Nat → Int} {h : Int} (hne : (ha 0 == h) = false) : ∀ (n : Nat) (p : SetTable.Probe) (fuel : Nat), PO p → p.perturb < 32 ^ n → n + 2 ≤ fuel →
    ∃ j, j ≠ j₁ ∧ j < 8 ∧ SetTable.probe.go (tab1 j₁ led) ha h fuel p = some (.empty j none) := by
  intro n
  induction n with
  | zero =>
    intro p fuel hp hl hf
    obtain ⟨f, rfl⟩ : ∃ f, fuel = f + 2 := ⟨fuel - 2, by omega⟩
    by_cases e : p.i = j₁
    · have hpz : p.perturb = 0 := by simpa using hl
      refine ⟨(p.i * 5 + 1) % 8, by have := hp.lt; omega, by omega, ?_⟩
      rw [SetTable.probe.go, slot1, hp.ji, if_pos e]
      simp only [hne, Bool.false_eq_true, if_false]
      rw [advance7 rfl hp, SetTable.probe.go, slot1]
      simp only [hpz, Nat.zero_div, Nat.add_zero]
      rw [if_neg (by have := hp.lt; omega)]
    · refine ⟨p.i, e, hp.lt, ?_⟩
      rw [SetTable.probe.go, slot1, hp.ji, if_neg e]
      simp only [hp.dm]
  | succ n ih =>
    intro p fuel hp hl hf
    obtain ⟨f, rfl⟩ : ∃ f, fuel = f + 1 := ⟨fuel - 1, by omega⟩
    by_cases e : p.i = j₁
    · obtain ⟨j, h1, h2, h3⟩ := ih ((tab1 j₁ led).advance p) f (po_advance rfl hp) (by rw [advance7 rfl hp]; simp only; rw [Nat.pow_succ] at hl; omega) (by omega)
      refine ⟨j, h1, h2, ?_⟩
      rw [SetTable.probe.go, slot1, hp.ji, if_pos e]
      simp only [hne, Bool.false_eq_true, if_false]
      exact h3
    · refine ⟨p.i, e, hp.lt, ?_⟩
      rw [SetTable.probe.go, slot1, hp.ji, if_neg e]
      simp only [hp.dm]

abbrev setObj1 (j : Nat) (led : Bool) (ep : Nat) (h : Int) (a : Addr) : Obj := { cls := .type "set", dict := none, data := .set #[(h, .ref a)] ep (tab1 j led) }

section
variable {prog : Program} {w : World} {K : Type} [DecidableEq K] {knd : KeyKind prog w K} {A : Around} {E : Value → Shared → Prop} {s : Shared}

theorem wpAny_setState_at {a : Addr} {o : Obj} {es : Array (Int × Value)} {ep : Nat} {t : SetTable} {Q : (Array (Int × Value) × Nat × SetTable) → Shared → Prop}
    (ho : s.heap.get? a = some o) (hd : o.data = .set es ep t) (hf : t.fits es.size = true) (h : Q (es, ep, t) s) :
    wpAny (model prog w) A (setState a) Q E s := wpAny_setState_of ho hd hf h

theorem notClassStatement {xs : List K} {a : Addr} {Q : Bool → Shared → Prop} (hk : IsTupleKey knd s.heap xs a) (h : Q false s) :
    wpAny (model prog w) A (ofAClassStatement 8 (.ref a)) Q E s := by
  have hT := hk.typeIs
  obtain ⟨o, items, n, ho, _, hd, hi⟩ := hk
  unfold ofAClassStatement
  refine wpAny_bind (wpAny_typeOf hT ?_)
  dsimp only
  refine wpAny_bind ?_
  refine wpAny_pure ?_
  simp only [Bool.not_true, Bool.false_eq_true, if_false]
  refine wpAny_bind (wpAny_seqItems ho hd ?_)
  dsimp only
  refine wpAny_bind ?_
  show wpAny _ _ (forIn items _ _) _ _ s
  rw [← Array.forIn_toList]
  refine wpAny_forIn_list _ (fun rest r s' => r.1 = none ∧ s' = s ∧ ∀ v ∈ rest, carriedByValue v = true) _ ?_ ?_ _ _ ⟨rfl, rfl, hi.byValue⟩
  · rintro v rest r s' ⟨hr, rfl, hall⟩
    have hv := hall v List.mem_cons_self
    have e : ofAClassStatement 7 v = pure false := by
      cases v <;> first | rfl | (simp [carriedByValue] at hv)
    rw [e]
    refine wpAny_bind (wpAny_pure ?_)
    simp only [Bool.false_eq_true, if_false]
    exact wpAny_pure ⟨rfl, rfl, fun u hu' => hall u (List.mem_cons_of_mem _ hu')⟩
  · rintro ⟨r1, r2⟩ s' ⟨hr, rfl, _⟩
    simp only at hr
    subst hr
    exact wpAny_pure h

theorem notSeen {xs ys : List K} {a b : Addr} {Q : Bool → Shared → Prop} (hx : IsTupleKey knd s.heap xs a) (hy : IsTupleKey knd s.heap ys b) (h : Q false s) :
    wpAny (model prog w) A (searchCouldBeSeen (.ref b) [.ref a]) Q E s := by
  unfold searchCouldBeSeen
  refine wpAny_bind ?_
  simp only [List.forIn_cons, List.forIn_nil]
  refine wpAny_bind ?_
  dsimp only [carriedByValue]
  by_cases e : (b == a) = true
  · simp only [e, Bool.true_or, if_true]
    exact wpAny_pure (wpAny_pure (wpAny_pure h))
  · have e' : (b == a) = false := by simpa using e
    simp only [e', Bool.false_and, Bool.or_false, Bool.false_eq_true, if_false]
    refine wpAny_bind (wpAny_eqIsQuiet_tuple hy ?_)
    simp only [Bool.not_true, Bool.false_eq_true, if_false]
    refine wpAny_bind (wpAny_eqIsQuiet_tuple hx ?_)
    simp only [Bool.not_true, Bool.false_eq_true, if_false]
    refine wpAny_bind (notClassStatement hy ?_)
    simp only [Bool.false_eq_true, if_false]
    refine wpAny_bind (notClassStatement hx ?_)
    simp only [Bool.false_eq_true, if_false]
    exact wpAny_pure (wpAny_pure (wpAny_pure h))

theorem tab1_fits (j : Nat) (led : Bool) : (tab1 j led).fits (#[(h₁, v₁)] : Array (Int × Value)).size = true := rfl


theorem probe_cand {j₁ : Nat} {led : Bool} {ha : Nat → Int} {h : Int} {p : SetTable.Probe} (hp : PO p) (e : p.i = j₁) (hh : (ha 0 == h) = true) :
    (tab1 j₁ led).probe ha h p = some (.candidate p.j 0 ((tab1 j₁ led).advance p)) := by
  unfold SetTable.probe
  rw [show 10 * SetTable.turns (tab1 j₁ led).mask = 219 + 1 from rfl, SetTable.probe.go, slot1, hp.ji, if_pos e]
  simp only [hh, if_true]
theorem probe_other {j₁ : Nat} {led : Bool} {ha : Nat → Int} {h : Int} {p : SetTable.Probe} (hp : PO p) (e : ¬ p.i = j₁) :
    (tab1 j₁ led).probe ha h p = some (.empty p.i none) := by
  unfold SetTable.probe
  rw [show 10 * SetTable.turns (tab1 j₁ led).mask = 219 + 1 from rfl, SetTable.probe.go, slot1, hp.ji, if_neg e]
  simp only [hp.dm]
theorem put1 (j₁ j : Nat) (led : Bool) : ∃ pl p, (tab1 j₁ led).put j = ({ mask := 7, place := pl, dummies := #[], finger := 0, led := led, moves := 0, plain := false }, p) ∧ pl.size = 2 ∧ (p = 0 ∨ p = 1) := by
  refine ⟨SetTable.insertAt #[j₁] (if j₁ < j then 1 else 0) j, if j₁ < j then 1 else 0, ?_, ?_, ?_⟩
  · simp only [SetTable.put, below1]
    have : SetTable.has #[] j = false := by simp [SetTable.has]
    rw [this]; rfl
  · split <;> rfl
  · split <;> simp
theorem probe_empty {led : Bool} {ha : Nat → Int} {h : Int} :
    (SetTable.fresh 0 0 led).probe ha h ((SetTable.fresh 0 0 led).probeStart h) = some (.empty (SetTable.bits h % 8) none) := by
  unfold SetTable.probe
  rw [show 10 * SetTable.turns (SetTable.fresh 0 0 led).mask = 219 + 1 from rfl, SetTable.probe.go]
  have : (SetTable.fresh 0 0 led).slot ((SetTable.fresh 0 0 led).probeStart h).j = .empty := by
    simp [SetTable.slot, SetTable.fresh, SetTable.below, SetTable.below.go, SetTable.has]
  rw [this]
  rfl
theorem probe_free {j₁ : Nat} {led : Bool} {h : Int} {p : SetTable.Probe} (hp : PO p) (hl : p.perturb < 32 ^ 13) (ha : Nat → Int) (hne : (ha 0 == h) = false) :
    ∃ j, j ≠ j₁ ∧ j < 8 ∧ (tab1 j₁ led).probe ha h p = some (.empty j none) := go_free hne 13 p 220 hp hl (by omega)
theorem probe_free_fn {j₁ : Nat} {led : Bool} {h : Int} {p : SetTable.Probe} (hp : PO p) (hl : p.perturb < 32 ^ 13) :
    ∃ jf : (Nat → Int) → Nat, ∀ ha, (ha 0 == h) = false → jf ha ≠ j₁ ∧ jf ha < 8 ∧ (tab1 j₁ led).probe ha h p = some (.empty (jf ha) none) :=
  ⟨fun ha => match (tab1 j₁ led).probe ha h p with | some (.empty j _) => j | _ => 0, fun ha hne => by
    obtain ⟨j, h1, h2, h3⟩ := probe_free (j₁ := j₁) (led := led) hp hl ha hne
    dsimp only
    rw [h3]
    exact ⟨h1, h2, rfl⟩⟩
theorem tab1_odd (j : Nat) (led : Bool) : ¬ ((tab1 j led).gaveWay = true) := by
  show ¬ ((7 % 2 == 0) = true)
  decide
theorem led_wp {α : Type} {led : Bool} {m : Sem Bool} {X R : Sem α} {Q : α → Shared → Prop} (hm : wpAny (model prog w) A m (fun b s' => b = false ∧ s' = s) E s) (hR : wpAny (model prog w) A R Q E s) :
    wpAny (model prog w) A (if (!led) = true then (m >>= fun b => if b = true then X else R) else R) Q E s := by
  cases led
  · refine wpAny_bind (wpAny_mono hm (fun b s' hb => ?_) fun _ _ e => e)
    obtain ⟨rfl, rfl⟩ := hb
    exact hR
  · exact hR
theorem search_step {xs ys : List K} {S a b : Addr} {j₁ ep : Nat} {led : Bool} {Q : SetFound → Shared → Prop} (hu : A.units < cLine) (hx : IsTupleKey knd s.heap xs a) (hy : IsTupleKey knd s.heap ys b) (hxy : xs ≠ ys)
    (ho : s.heap.get? S = some (setObj1 j₁ led ep (tupleKeyHash knd xs) a))
    (hQ : ∀ j, j ≠ j₁ → j < 8 → Q (.free j false) s) {st : Option SetTable.Probe} {f : Nat} {p : SetTable.Probe} (hst : st.getD ((tab1 j₁ led).probeStart (tupleKeyHash knd ys)) = p)
    (hp : PO p) (hl : p.perturb < 32 ^ 13) (hrec : p.i = j₁ → tupleKeyHash knd xs = tupleKeyHash knd ys → wpAny (model prog w) A (setSearchFrom S (.ref b) (tupleKeyHash knd ys) true f (some ((tab1 j₁ led).advance p))) Q E s) :
    wpAny (model prog w) A (setSearchFrom S (.ref b) (tupleKeyHash knd ys) true (f + 1) st) Q E s := by
  rw [setSearchFrom]
  refine wpAny_bind (wpAny_setState_at ho rfl rfl ?_)
  dsimp only
  rw [if_neg (tab1_odd _ _), hst]
  by_cases e : p.i = j₁
  · by_cases hh : tupleKeyHash knd xs = tupleKeyHash knd ys
    · rw [probe_cand hp e]
      rotate_left
      · show (tupleKeyHash knd xs == tupleKeyHash knd ys) = true
        simpa using hh
      have ef : (Array.filter (fun x : Int × Value => x.1 == tupleKeyHash knd ys) #[(tupleKeyHash knd xs, Value.ref a)]).toList.map (fun x => x.2) = [Value.ref a] := by
        simp [hh]
      dsimp only
      rw [ef]
      refine led_wp (notSeen hx hy ⟨rfl, rfl⟩) ?_
      show wpAny _ _ (holding [Value.ref a] (eqBool (Value.ref a) (Value.ref b)) >>= _) _ _ _
      refine wpAny_bind (wpAny_holding (wpAny_eqBool_tuple hu hx hy ?_))
      rw [decide_eq_false hxy]
      refine wpAny_bind (wpAny_setState_at ho rfl rfl ?_)
      dsimp only
      have hs : (tab1 j₁ led).sameMemory 0 7 = some true := by simp [SetTable.sameMemory]
      simp only [Bool.and_false, Bool.false_eq_true, if_false]
      rw [hs]
      dsimp only
      simp only [if_true]
      rw [slot1, hp.ji, if_pos e]
      dsimp only
      show wpAny _ _ (isSame (Value.ref a) (Value.ref a) >>= _) _ _ _
      refine wpAny_bind (wpAny_isSame_ref_self (wpAny_bind (wpAny_pure ?_)))
      simp only [if_true, Bool.false_eq_true, if_false]
      exact hrec e hh
    · have hhb : (tupleKeyHash knd xs == tupleKeyHash knd ys) = false := by simpa using hh
      obtain ⟨jf, hjf⟩ := probe_free_fn (j₁ := j₁) (led := led) (h := tupleKeyHash knd ys) hp hl
      have h3 := fun ha hne => (hjf ha hne).2.2
      rw [h3 _ hhb]
      exact wpAny_pure (hQ _ (hjf _ hhb).1 (hjf _ hhb).2.1)
  · rw [probe_other hp e]
    exact wpAny_pure (hQ p.i e hp.lt)
theorem search_free {xs ys : List K} {S a b : Addr} {j₁ ep : Nat} {led : Bool} {Q : SetFound → Shared → Prop} (hu : A.units < cLine) (hx : IsTupleKey knd s.heap xs a) (hy : IsTupleKey knd s.heap ys b) (hxy : xs ≠ ys)
    (ho : s.heap.get? S = some (setObj1 j₁ led ep (tupleKeyHash knd xs) a))
    (hQ : ∀ j, j ≠ j₁ → j < 8 → Q (.free j false) s) :
    ∀ (n : Nat) (st : Option SetTable.Probe) (f : Nat) (p : SetTable.Probe), st.getD ((tab1 j₁ led).probeStart (tupleKeyHash knd ys)) = p → PO p → p.perturb < 32 ^ n → n ≤ 13 → n + 2 ≤ f →
      wpAny (model prog w) A (setSearchFrom S (.ref b) (tupleKeyHash knd ys) true f st) Q E s := by
  intro n
  induction n with
  | zero =>
    intro st f p hst hp hl _ hf
    obtain ⟨f, rfl⟩ : ∃ g, f = g + 2 := ⟨f - 2, by omega⟩
    refine search_step hu hx hy hxy ho hQ hst hp (Nat.lt_of_lt_of_le hl (by decide)) fun e hh => ?_
    have hpz : p.perturb = 0 := by simpa using hl
    refine search_step hu hx hy hxy ho hQ rfl (po_advance rfl hp) ?_ fun e' _ => ?_
    · show ((tab1 j₁ led).advance p).perturb < _
      rw [advance7 rfl hp, hpz]; show 0 / 32 < 32 ^ 13; decide
    · exfalso
      have e2 : ((tab1 j₁ led).advance p).i = j₁ := e'
      rw [advance7 rfl hp, hpz] at e2
      simp only at e2
      have := hp.lt
      omega
  | succ n ih =>
    intro st f p hst hp hl hn hf
    obtain ⟨f, rfl⟩ : ∃ g, f = g + 1 := ⟨f - 1, by omega⟩
    refine search_step hu hx hy hxy ho hQ hst hp (Nat.lt_of_lt_of_le hl (Nat.pow_le_pow_right (by decide) hn)) fun e hh => ?_
    exact ih _ _ _ rfl (po_advance rfl hp) (by show ((tab1 j₁ led).advance p).perturb < _; rw [advance7 rfl hp]; simp only; rw [Nat.pow_succ] at hl; omega) (by omega) (by omega)

theorem search_same {xs : List K} {S a b : Addr} {j₁ ep f : Nat} {led : Bool} {Q : SetFound → Shared → Prop} (hu : A.units < cLine) (hx : IsTupleKey knd s.heap xs a) (hy : IsTupleKey knd s.heap xs b)
    (ho : s.heap.get? S = some (setObj1 j₁ led ep (tupleKeyHash knd xs) a)) (hj : j₁ = SetTable.bits (tupleKeyHash knd xs) % 8)
    (hQ : Q (.there none) s) : wpAny (model prog w) A (setSearchFrom S (.ref b) (tupleKeyHash knd xs) true (f + 1) none) Q E s := by
  rw [setSearchFrom]
  refine wpAny_bind (wpAny_setState_at ho rfl rfl ?_)
  dsimp only [Option.getD]
  rw [if_neg (tab1_odd _ _)]
  rw [probe_cand (po_start (tab1 j₁ led) rfl _) hj.symm]
  rotate_left
  · show (tupleKeyHash knd xs == tupleKeyHash knd xs) = true
    simp
  have ef : (Array.filter (fun x : Int × Value => x.1 == tupleKeyHash knd xs) #[(tupleKeyHash knd xs, Value.ref a)]).toList.map (fun x => x.2) = [Value.ref a] := by
    simp
  dsimp only
  rw [ef]
  refine led_wp (notSeen hx hy ⟨rfl, rfl⟩) ?_
  show wpAny _ _ (holding [Value.ref a] (eqBool (Value.ref a) (Value.ref b)) >>= _) _ _ _
  refine wpAny_bind (wpAny_holding (wpAny_eqBool_tuple hu hx hy ?_))
  rw [decide_eq_true rfl]
  refine wpAny_bind (wpAny_setState_at ho rfl rfl ?_)
  dsimp only
  simp only [Bool.and_self, if_true]
  exact wpAny_pure hQ

theorem hashByValue_tuple {xs : List Str} {a : Addr} {Q : Bool → Shared → Prop} (hne : xs ≠ []) (hk : IsTupleKey (strKind prog w) s.heap xs a) (h : Q false s) :
    wpAny (model prog w) A (hashByValue 8 (.ref a)) Q E s := by
  have hT := hk.typeIs
  obtain ⟨o, items, n, ho, _, hd, hi⟩ := hk
  unfold hashByValue
  refine wpAny_bind (wpAny_specialOf hT F.slot_tuple_hash.lookup ?_)
  dsimp only
  refine wpAny_bind (wpAny_seqItems ho hd ?_)
  dsimp only [Option.getD]
  refine wpAny_bind ?_
  show wpAny _ _ (forIn items _ _) _ _ s
  rw [← Array.forIn_toList]
  generalize items.toList = vs at hi
  cases hi with
  | nil => exact absurd rfl hne
  | @cons k v ks vs hv hr =>
    rw [List.forIn_cons]
    have e : hashByValue 7 v = pure false := by
      cases v <;> first | rfl | (simp [PySem.strKind, Value.isStrOf] at hv)
    rw [e]
    refine wpAny_bind (wpAny_bind (wpAny_pure ?_))
    exact wpAny_pure (wpAny_pure (wpAny_pure h))
end

section
variable {prog : Program} {w : World} {E : Value → Shared → Prop}
def Tup1 (w : World) (prog : Program) (h₀ : Heap) (xs : List Str) (o : Obj) : Prop := ∃ led ep a, IsTupleKey (strKind prog w) h₀ xs a ∧ o = setObj1 (SetTable.bits (tupleKeyHash (strKind prog w) xs) % 8) led ep (tupleKeyHash (strKind prog w) xs) a

theorem IsTupleKey_stays {K : Type} [DecidableEq K] {knd : KeyKind prog w K} {h h' : Heap} {xs : List K} {a : Addr} (hk : IsTupleKey knd h xs a) (st : h.StaysIn h') : IsTupleKey knd h' xs a :=
  let ⟨o, items, n, ho, r⟩ := hk; ⟨o, items, n, st _ _ ho, r⟩

theorem addStep_tup0 {U : Nat} {h₀ : Heap} {xs : List Str} {a : Addr} (hne : xs ≠ []) (hU : U < cLine) (hx : IsTupleKey (strKind prog w) h₀ xs a) :
    AddStep prog w E U h₀ (.ref a) (fun o => ∃ led, o = freshSet led) (Tup1 w prog h₀ xs) := by
  rintro A' s₁ S o Q hh hu st hS0 ho ⟨led, rfl⟩ h
  have hx₁ := IsTupleKey_stays hx st
  unfold setAdd
  refine wpAny_holding ?_
  refine wpAny_bind (wpAny_pyHash_tuple (by omega) hx₁ ?_)
  unfold setAddHashed setAddHashedIn
  refine wpAny_holding (wpAny_bind (wpAny_setState_at ho rfl rfl ?_))
  dsimp only
  rw [show byScan (Value.ref a) #[] = false from rfl]
  simp only [Bool.false_eq_true, if_false]
  unfold setSearch
  rw [setSearchFrom]
  refine wpAny_bind (wpAny_bind (wpAny_setState_at ho rfl rfl ?_))
  dsimp only [Option.getD]
  rw [if_neg (show ¬ ((SetTable.fresh 0 0 led).gaveWay = true) from by show ¬ ((7 % 2 == 0) = true); decide)]
  have hp := po_start (SetTable.fresh 0 0 led) rfl (tupleKeyHash (strKind prog w) xs)
  rw [probe_empty]
  refine wpAny_pure ?_
  dsimp only
  refine wpAny_bind (wpAny_setState_at ho rfl rfl ?_)
  dsimp only
  have e1 : (SetTable.fresh 0 0 led).put (SetTable.bits (tupleKeyHash (strKind prog w) xs) % 8) = ({ mask := 7, place := #[SetTable.bits (tupleKeyHash (strKind prog w) xs) % 8], dummies := #[], finger := 0, led := led, moves := 0, plain := true }, 0) := by
    simp [SetTable.put, SetTable.fresh, SetTable.below, SetTable.below.go, SetTable.has, SetTable.insertAt]
  rw [e1]
  dsimp only
  rw [if_pos rfl]
  refine wpAny_bind (hashByValue_tuple hne hx₁ ?_)
  simp only [Bool.false_eq_true, if_false]
  refine wpAny_bind (wpAny_storeSet_of ho rfl ?_ (show 1 ≤ sizeLine by decide))
  rw [if_neg (show ¬ ((!false && (SetTable.tooFull { mask := 7, place := #[SetTable.bits (tupleKeyHash (strKind prog w) xs) % 8], dummies := #[], finger := 0, led := led, moves := 0, plain := false })) = true) from Bool.false_ne_true)]
  refine wpAny_pure ?_
  refine h _ _ (setObj1 (SetTable.bits (tupleKeyHash (strKind prog w) xs) % 8) led 1 (tupleKeyHash (strKind prog w) xs) a) (Heap.SameBut.update ..) ?_ ⟨led, 1, a, hx, rfl⟩
  rw [Heap.get?_update_self _ ho rfl]
  rfl

theorem addStep_tup1 {U : Nat} {h₀ : Heap} {xs ys : List Str} {b : Addr} (hU : U < cLine) (hy : IsTupleKey (strKind prog w) h₀ ys b) :
    AddStep prog w E U h₀ (.ref b) (Tup1 w prog h₀ xs) (fun o => SetLen o (if xs = ys then 1 else 2)) := by
  rintro A' s₁ S o Q hh hu st hS0 ho ⟨led, ep, a, hx, rfl⟩ h
  have hx₁ := IsTupleKey_stays hx st
  have hy₁ := IsTupleKey_stays hy st
  unfold setAdd
  refine wpAny_holding ?_
  refine wpAny_bind (wpAny_pyHash_tuple (by omega) hy₁ ?_)
  unfold setAddHashed setAddHashedIn
  refine wpAny_holding (wpAny_bind (wpAny_setState_at ho rfl rfl ?_))
  dsimp only
  rw [show byScan (Value.ref b) #[(tupleKeyHash (strKind prog w) xs, Value.ref a)] = false from rfl]
  simp only [Bool.false_eq_true, if_false]
  unfold setSearch
  by_cases e : xs = ys
  · subst e
    have hu' : A'.units < cLine := by omega
    refine wpAny_bind (search_same (f := 99999) hu' hx₁ hy₁ ho rfl ?_)
    dsimp only
    refine wpAny_pure (h _ _ _ (Heap.SameBut.refl _ _) ho ?_)
    rw [if_pos rfl]
    exact ⟨⟨rfl, rfl, rfl⟩, _, _, _, rfl, rfl, rfl⟩
  · have hu' : A'.units < cLine := by omega
    refine wpAny_bind (search_free (s := { s₁ with toks := s₁.toks + (ys.length + 1) }) hu' hx₁ hy₁ e ho (fun j hj hj8 => ?_) 13 none 100000 _ rfl (po_start _ rfl _) (bits_lt _) (by omega) (by omega))
    dsimp only
    refine wpAny_bind (wpAny_setState_at ho rfl rfl ?_)
    dsimp only
    obtain ⟨pl, p, e1, hpl, hp⟩ := put1 (SetTable.bits (tupleKeyHash (strKind prog w) xs) % 8) j led
    rw [e1]
    dsimp only
    rw [if_neg Bool.false_ne_true]
    refine wpAny_bind (wpAny_pure ?_)
    simp only [if_true]
    have hsz : (SetTable.insertAt #[(tupleKeyHash (strKind prog w) xs, Value.ref a)] p (tupleKeyHash (strKind prog w) ys, Value.ref b)).size = 2 := by
      rcases hp with rfl | rfl <;> rfl
    refine wpAny_bind (wpAny_storeSet_of ho rfl ?_ (by rw [hsz]; decide))
    rw [if_neg (show ¬ ((!false && (SetTable.tooFull { mask := 7, place := pl, dummies := #[], finger := 0, led := led, moves := 0, plain := false })) = true) from by
      simp [SetTable.tooFull, SetTable.fill, hpl])]
    refine wpAny_pure ?_
    refine h _ _ _ (Heap.SameBut.update ..) (by rw [Heap.get?_update_self _ ho rfl]) ?_
    rw [if_neg e]
    refine ⟨⟨rfl, rfl, rfl⟩, _, _, _, rfl, ?_, hsz⟩
    simp [SetTable.fits, SetTable.fill, hpl, hsz]

theorem set_tups {A : Around} {s : Shared} {t a b : Addr} {xs ys : List Str} {Q : Value → Shared → Prop} (hh : A.handled = none) (hu : A.units + 8 < cLine) (ht : s.heap.IsTuple t #[.ref a, .ref b])
    (hne : xs ≠ []) (hx : IsTupleKey (strKind prog w) s.heap xs a) (hy : IsTupleKey (strKind prog w) s.heap ys b)
    (h : ∀ (h' : Heap) (tk : Nat) o, s.heap.StaysIn h' → h'.get? s.heap.objs.size = some o → SetLen o (if xs = ys then 1 else 2) → Q (.ref s.heap.objs.size) { s with heap := h', toks := tk }) :
    wpAny (model prog w) A (call (.type "set") [.ref t]) Q E s :=
  call_set_tup2 hh ht (fun led => ⟨led, rfl⟩) (addStep_tup0 hne hu hx) (addStep_tup1 (xs := xs) hu hy) h
end
end Mine
end
-- S4
section
open PySem PySem.W PySem.W.X PyProof.Rows PySem.Calls
set_option maxRecDepth 100000
set_option maxHeartbeats 8000000
namespace Mine
theorem fill4 : PySem.Challenge.rw_ah5040_01 = PySem.Challenge.rw_ah5040_01 ∧ Mine.hd.heap_39 = Mine.hd.heap_39 := by
  k_fill
  exact ⟨rfl, rfl⟩
theorem fr_news_set {h₀ h h' : Heap} {L S : Addr} {m : Str → Option Value} {news : List (Addr × Obj)} {o : Obj} (F : Fr h₀ L h m) (N : News h₀ L h news) (st : h.StaysIn h') (hS : h'.get? S = some o) (hn : h.get? S = none) :
    Fr h₀ L h' m ∧ News h₀ L h' ((S, o) :: news) := by
  refine ⟨fr_stays F st, fun p hp => ?_⟩
  rcases List.mem_cons.mp hp with rfl | hp
  · refine ⟨hS, fun q => ?_, ?_⟩
    · obtain ⟨oL, _, _, hL, _⟩ := F.ns
      rw [show S = L from q, hL] at hn; cases hn
    · cases e : h₀.get? S with
      | none => rfl
      | some ob => rw [F.keep _ _ e] at hn; cases hn
  · exact news_stays N st p hp
theorem get_size_none (h : Heap) : h.get? h.objs.size = none := by
  cases e : h.get? h.objs.size with
  | none => rfl
  | some o => exact absurd (Heap.lt_size e) (Nat.lt_irrefl _)
theorem setlen_len {prog : Program} {w : World} {A : Around} {s : Shared} {E Q : _} {a : Addr} {o : Obj} {n : Nat} (ho : s.heap.get? a = some o) (hl : SetLen o n) (hn : n < 1000)
    (h : Q (.int n (s.toks + 1)) { s with toks := s.toks + 1 + 1 }) : wpAny (model prog w) A (call (.builtin "len") [.ref a]) Q E s := by
  obtain ⟨hex, es, ep, t, hd, hf, he⟩ := hl
  subst he
  exact call_len_set ho hex hd hf (by omega) h
-- entering a def: a line for plain parameters, one for a starred one
local macro_rules | `(tactic| walk_at "my S") => `(tactic| (refine wpAny_call ?_; refine' enterS ?k3 ?k5 ?k6 ?k7 ?k8 ?k9 ?kB ?_ ?c2 ?c3 ?c4 ?c5; (case k3 => k_asm); (case k5 => k_asm); (case k6 => k_is); (case k7 => k_is); (case k8 => k_room); (case k9 => first | exact BindsTo.of_eq rfl | exact binds_K (by k_in) rfl (by k_is) rfl rfl rfl); (case kB => exact locs rfl); (case c5 => decide); (case c2 => exact rfl); (case c3 => exact rfl); (case c4 => exact rfl)))
local macro_rules | `(tactic| walk_at "my V") => `(tactic| (refine wpAny_call ?_; refine' enterV ?k3 ?k5 ?k6 ?k7 ?k8 ?kP ?kG ?kB ?_ ?c2 ?c3 ?c4 ?c5; (case k3 => k_asm); (case k5 => k_asm); (case k6 => k_is); (case k7 => k_is); (case k8 => k_room); (case kP => exact rfl); (case kG => exact fun _ => rfl); (case kB => exact fun _ => locs rfl); (case c5 => decide); (case c2 => exact rfl); (case c3 => exact rfl); (case c4 => exact rfl)))

section
variable {w : World} {s : Shared} {p : Program} {loose : List Str} {mg mb : Str → Option Value} {base : Heap} {outer : List Env} {gd : Option (List Code)} {A₀ : Around} {Q E : Value → Shared → Prop}

theorem identS {a b : Str} {ta tb : Tok}
    (X : (Mine.hd.heap_39 w.params).In s.heap) (T : TopRead p loose mg mb s.heap)
    (h : ∀ h' tk', s.heap.StaysIn h' → Q (.bool (decide (a = b))) { s with heap := h', toks := tk' }) :
    wpAny (model PySem.Challenge.rw_ah5040_01.prog w) (QD 60 outer gd) (call (.ref 157) [.str a ta, .str b tb]) Q E s := by
  walk_at "my V"
  intro D' L' h' F' N'
  (try dsimp only); k_fold
  k_steps
  refine set_strs (by rfl) ⟨_, (N' _ (.head _)).1, rfl, 0, rfl⟩ fun h₁ tk₁ o₁ st₁ ho₁ hl₁ => ?_
  obtain ⟨F₁, N₁⟩ := fr_news_set F' N' st₁ ho₁ (get_size_none _)
  clear F' N'
  k_steps
  refine setlen_len ho₁ hl₁ (by split <;> decide) ?_
  k_steps
  have e : ((((if a = b then 1 else 2 : Nat)) : Int) == 1) = decide (a = b) := by by_cases q : a = b <;> simp [q]
  rw [e]
  exact h _ _ F₁.keep

theorem identT {a b : Addr} {xs ys : List Str}
    (X : (Mine.hd.heap_39 w.params).In s.heap) (T : TopRead p loose mg mb s.heap)
    (hne : xs ≠ []) (hx : IsTupleKey (PySem.strKind PySem.Challenge.rw_ah5040_01.prog w) s.heap xs a) (hy : IsTupleKey (PySem.strKind PySem.Challenge.rw_ah5040_01.prog w) s.heap ys b)
    (h : ∀ h' tk', s.heap.StaysIn h' → Q (.bool (decide (xs = ys))) { s with heap := h', toks := tk' }) :
    wpAny (model PySem.Challenge.rw_ah5040_01.prog w) (QD 60 outer gd) (call (.ref 157) [.ref a, .ref b]) Q E s := by
  walk_at "my V"
  intro D' L' h' F' N'
  (try dsimp only); k_fold
  k_steps
  refine set_tups (by rfl) (show 251 < cLine by decide) ⟨_, (N' _ (.head _)).1, rfl, 0, rfl⟩ hne (IsTupleKey_stays hx F'.keep) (IsTupleKey_stays hy F'.keep) fun h₁ tk₁ o₁ st₁ ho₁ hl₁ => ?_
  obtain ⟨F₁, N₁⟩ := fr_news_set F' N' st₁ ho₁ (get_size_none _)
  clear F' N'
  k_steps
  refine setlen_len ho₁ hl₁ (by split <;> decide) ?_
  k_steps
  have e : ((((if xs = ys then 1 else 2 : Nat)) : Int) == 1) = decide (xs = ys) := by by_cases q : xs = ys <;> simp [q]
  rw [e]
  exact h _ _ F₁.keep
end
end Mine
end
-- S5
section
open PySem PySem.W PySem.W.X PyProof.Rows PySem.Calls
set_option maxRecDepth 100000
set_option maxHeartbeats 8000000
namespace Mine
section
variable {prog : Program} {w : World} {A : Around} {E : Value → Shared → Prop} {s : Shared}

abbrev rgObj (x left : Int) : Obj := { cls := .type "range_iterator", dict := none, data := .fields #[rawInt x, rawInt left, rawInt 1], slots := #[] }

theorem news_but {g h h' : Heap} {L I : Addr} {news : List (Addr × Obj)} (N : News g L h news) (hs : Heap.SameBut I h h') (hI : ∀ p ∈ news, p.1 ≠ I) : News g L h' news :=
  fun p hp => ⟨(hs.2 p.1 (hI p hp)).trans (N p hp).1, (N p hp).2⟩
theorem news_ext {g h h' : Heap} {L I : Addr} {news : List (Addr × Obj)} (N : News g L h news) (hs : Heap.ExtBut I h h') (hI : ∀ p ∈ news, p.1 ≠ I) : News g L h' news :=
  fun p hp => ⟨hs p.1 _ (hI p hp) (N p hp).1, (N p hp).2⟩
theorem fr_but {g h h' : Heap} {L I : Addr} {m : Str → Option Value} (F : Fr g L h m) (hs : Heap.ExtBut I h h') (hL : L ≠ I) (hI : g.get? I = none) : Fr g L h' m := by
  obtain ⟨⟨o, es, ep, ho, r⟩, kp, ab⟩ := F
  exact ⟨⟨o, es, ep, hs _ _ hL ho, r⟩, fun b o e => hs _ _ (fun q => by rw [q, hI] at e; cases e) (kp b o e), ab⟩
theorem news_sub {g h : Heap} {L : Addr} {news news' : List (Addr × Obj)} (N : News g L h news) (hs : ∀ p ∈ news', p ∈ news) : News g L h news' := fun p hp => N p (hs p hp)

theorem loop_range {R : Result → Shared → Prop} {env : Env} {x : Str} {px : Pos} {body : List Stmt} {I : Addr} {a : Int} {N : Nat} {g : Heap} {m₀ : Str → Option Value} {news₀ : List (Addr × Obj)}
    (hh : A.handled = none) (hx : env.kindOf x = some .local) (hp : (env.scope.kind == .class || (env.scope.kind == .module && env.locals != env.globals)) = false)
    (J : Nat → (Str → Option Value) → List (Addr × Obj) → Prop)
    (F₀ : Fr g env.locals s.heap m₀) (N₀ : News g env.locals s.heap ((I, rgObj a N) :: news₀)) (hI₀ : ∀ p ∈ news₀, p.1 ≠ I) (hJ₀ : J 0 m₀ news₀)
    (turn : ∀ i m news h tk t, i < N → J i m news → (∀ p ∈ news, p.1 ≠ I) → Fr g env.locals h (fun y => if y = x then some (.int (a + i) t) else m y) → News g env.locals h ((I, rgObj (a + i + 1) ((N : Int) - i - 1)) :: news) →
      wpAny (model prog w) A (execs body env) (fun f s₃ => match f with
        | .next | .cont => ∃ h' tk' m' news', s₃ = { s with heap := h', toks := tk' } ∧ Fr g env.locals h' m' ∧ News g env.locals h' ((I, rgObj (a + i + 1) ((N : Int) - i - 1)) :: news') ∧ (∀ p ∈ news', p.1 ≠ I) ∧ J (i + 1) m' news'
        | .brk => R (.ok .next) s₃
        | .ret v => R (.ok (.ret v)) s₃) (notedBy (model prog w) A env fun e s' => R (.error e) s') { s with heap := h, toks := tk })
    (done : ∀ m news h tk, J N m news → Fr g env.locals h m → News g env.locals h news → R (.ok .next) { s with heap := h, toks := tk }) :
    codeAny (model prog w) A (.forLoop (.Name x px) (.ref I) body [] env) R s := by
  refine codeAny_forLoop_any (fun k s' => ∃ i h tk m news, k = N + 1 - i ∧ i ≤ N ∧ s' = { s with heap := h, toks := tk } ∧ J i m news ∧ (∀ p ∈ news, p.1 ≠ I) ∧ Fr g env.locals h m ∧ News g env.locals h ((I, rgObj (a + i) ((N : Int) - i)) :: news)) ?_ (N + 1)
    ⟨0, s.heap, s.toks, m₀, news₀, rfl, Nat.zero_le _, rfl, hJ₀, hI₀, F₀, by simpa using N₀⟩
  rintro k s' ⟨i, h, tk, m, news, rfl, hi, rfl, hJ, hI, F, Nw⟩
  have hIt := (Nw _ (.head _)).1
  have hIL := (Nw _ (.head _)).2.1
  have hIg := (Nw _ (.head _)).2.2
  have Nr : News g env.locals h news := news_sub Nw fun p hp => .tail _ hp
  by_cases hlt : i < N
  · refine wpAny_pyNext_range_item (step := 1) hIt (by omega) fun h₁ hit₁ hs₁ => ?_
    have F₁ := fr_but F hs₁.extBut (Ne.symm hIL) hIg
    have N₁ : News g env.locals h₁ ((I, rgObj (a + i + 1) ((N : Int) - i - 1)) :: news) := fun p hp => by
      rcases List.mem_cons.mp hp with rfl | hp
      · exact ⟨hit₁, hIL, hIg⟩
      · exact news_but Nr hs₁ hI p hp
    show wpAny _ _ (letOwnedTupleGo (.Name x px) _ _) _ _ _
    unfold letOwnedTupleGo
    refine wpAny_pure ?_
    refine wpAny_assign_Name (wpAny_storeName_local hx F₁.ns (fun h₂ hn₂ hs₂ => ?_) hp)
    have F₂ := F₁.set hn₂ hs₂
    have N₂ := News.set N₁ hs₂
    refine wpAny_mono (turn i m news h₂ _ _ hlt hJ hI F₂ N₂) (fun f s₃ h₃ => ?_) fun _ _ e => e
    cases f with
    | brk => exact h₃
    | ret v => exact h₃
    | next =>
      obtain ⟨h', tk', m', news', rfl, F', N', hI', hJ'⟩ := h₃
      refine ⟨N + 1 - (i + 1), by omega, i + 1, h', tk', m', news', rfl, hlt, rfl, hJ', hI', F', ?_⟩
      have e1 : a + ((i + 1 : Nat) : Int) = a + i + 1 := by omega
      have e2 : (N : Int) - ((i + 1 : Nat) : Int) = (N : Int) - i - 1 := by omega
      rw [e1, e2]; exact N'
    | cont =>
      obtain ⟨h', tk', m', news', rfl, F', N', hI', hJ'⟩ := h₃
      refine ⟨N + 1 - (i + 1), by omega, i + 1, h', tk', m', news', rfl, hlt, rfl, hJ', hI', F', ?_⟩
      have e1 : a + ((i + 1 : Nat) : Int) = a + i + 1 := by omega
      have e2 : (N : Int) - ((i + 1 : Nat) : Int) = (N : Int) - i - 1 := by omega
      rw [e1, e2]; exact N'
  · have hin : i = N := by omega
    subst hin
    refine wpAny_pyNext_range_end (step := 1) hh hIt (by omega) fun h₁ he₁ => wpAny_execs_nil ?_
    exact done m news h₁ _ hJ (fr_but F he₁ (Ne.symm hIL) hIg) (news_ext Nr he₁ hI)

theorem for_range {R : Result → Shared → Prop} {env : Env} {x : Str} {px : Pos} {body : List Stmt} {a b : Int} {ta tb : Tok} {g : Heap} {m₀ : Str → Option Value} {news₀ : List (Addr × Obj)}
    (hh : A.handled = none) (hx : env.kindOf x = some .local) (hp : (env.scope.kind == .class || (env.scope.kind == .module && env.locals != env.globals)) = false)
    (J : Nat → (Str → Option Value) → List (Addr × Obj) → Prop)
    (F₀ : Fr g env.locals s.heap m₀) (N₀ : News g env.locals s.heap news₀) (hJ₀ : J 0 m₀ news₀) (ha : -1000000 ≤ a ∧ a < 1000000) (hb : -1000000 ≤ b ∧ b < 1000000)
    (turn : ∀ (I : Addr) (i : Nat) m news h tk t, a + (i : Int) < b → J i m news → (∀ p ∈ news, p.1 ≠ I) → (∀ p ∈ news₀, p.1 < I) → Fr g env.locals h (fun y => if y = x then some (.int (a + i) t) else m y) → News g env.locals h ((I, rgObj (a + i + 1) (((b - a).toNat : Int) - i - 1)) :: news) →
      wpAny (model prog w) A (execs body env) (fun f s₃ => match f with
        | .next | .cont => ∃ h' tk' m' news', s₃ = { s with heap := h', toks := tk' } ∧ Fr g env.locals h' m' ∧ News g env.locals h' ((I, rgObj (a + i + 1) (((b - a).toNat : Int) - i - 1)) :: news') ∧ (∀ p ∈ news', p.1 ≠ I) ∧ J (i + 1) m' news'
        | .brk => R (.ok .next) s₃
        | .ret v => R (.ok (.ret v)) s₃) (notedBy (model prog w) A env fun e s' => R (.error e) s') { s with heap := h, toks := tk })
    (done : ∀ m news h tk, J (b - a).toNat m news → Fr g env.locals h m → News g env.locals h news → R (.ok .next) { s with heap := h, toks := tk }) :
    wpAny (model prog w) A (call (.type "range") [.int a ta, .int b tb]) (fun xv s₁ => wpAny (model prog w) A (pyIter xv) (fun it s₂ =>
      codeAny (model prog w) A (.forLoop (.Name x px) it body [] env) R s₂) E s₁) E s := by
  refine call_range_2 ?_
  refine wpAny_pyIter_range (IsRange.new _ _ _ _ _ _ _) (small_one (by omega) (by omega) (by omega) (by omega)) ?_
  have hIg : g.get? (s.heap.objs.size + 1) = none := by
    cases e : g.get? (s.heap.objs.size + 1) with
    | none => rfl
    | some o => exact absurd (Nat.lt_of_succ_lt (Heap.lt_size (F₀.keep _ _ e))) (Nat.lt_irrefl _)
  have hsz : (s.heap.push { cls := .type "range", data := .fields #[.int a ta, .int b tb, .int 1 s.toks] }).objs.size = s.heap.objs.size + 1 := Heap.size_push ..
  have hrs : Builtin.Range.rangeSize a b 1 = ((b - a).toNat : Int) := by rw [rangeSize_one]; split <;> omega
  have hlt : ∀ p ∈ news₀, p.1 < s.heap.objs.size := fun p hp => Heap.lt_size (N₀ p hp).1
  obtain ⟨oL, _, _, hoL, _⟩ := F₀.ns
  have hLlt := Heap.lt_size hoL
  dsimp only
  rw [hsz]
  refine loop_range (s := { s with heap := (s.heap.push { cls := .type "range", data := .fields #[.int a ta, .int b tb, .int 1 s.toks] }).push { cls := .type "range_iterator", data := .fields #[rawInt a, rawInt (Builtin.Range.rangeSize a b 1), rawInt 1] }, toks := s.toks + 1 }) (I := s.heap.objs.size + 1) (a := a) (N := (b - a).toNat) hh hx hp J ((F₀.push _).push _) ?_ (fun p hp => by have h1 := hlt p hp; show @Ne Nat p.1 _; have h1 : @LT.lt Nat _ p.1 s.heap.objs.size := h1; omega) hJ₀
    (fun i m news h tk t hi hJ hI F N => turn _ i m news h tk t (by omega) hJ hI (fun p hp => Nat.lt_succ_of_lt (hlt p hp)) F N) done
  intro p hp
  rcases List.mem_cons.mp hp with rfl | hp
  · refine ⟨?_, Nat.ne_of_gt (Nat.lt_succ_of_lt hLlt), hIg⟩
    show Heap.get? _ (s.heap.objs.size + 1) = _
    rw [hrs, ← hsz]
    exact Heap.get?_push_size _ rfl
  · exact ⟨Heap.get?_push_of_some _ (Heap.get?_push_of_some _ (N₀ p hp).1), (N₀ p hp).2⟩

/-- a sequence that the def reads: its length, its items -/
structure SeqV (prog : Program) (w : World) (h₀ : Heap) (v : Value) (n : Nat) (It : Nat → Value → Prop) : Prop where
  len : ∀ (A : Around) (s : Shared) (E Q : Value → Shared → Prop), h₀.StaysIn s.heap → (∀ t tk', Q (.int n t) { s with toks := tk' }) → wpAny (model prog w) A (call (.builtin "len") [v]) Q E s
  item : ∀ (A : Around) (s : Shared) (E Q : Value → Shared → Prop) (value slice : Expr) (k : Int) (t : Tok), h₀.StaysIn s.heap → 0 ≤ k → k < n →
    (subscripted slice false v (.int k t) = operate [v, .int k t] (getItem v (.int k t))) → (∀ x tk', It k.toNat x → Q x { s with toks := tk' }) → wpAny (model prog w) A (subscriptTail value slice v (.int k t)) Q E s
theorem SeqV.item' {prog : Program} {w : World} {h₀ : Heap} {v : Value} {n : Nat} {It : Nat → Value → Prop} (S : SeqV prog w h₀ v n It) {A : Around} {s : Shared} {E Q : Value → Shared → Prop} {value slice : Expr} {k : Int} {t : Tok}
    (hk : h₀.StaysIn s.heap) (h0 : 0 ≤ k) (h1 : k < n) (h : ∀ x tk', It k.toNat x → Q x { s with toks := tk' }) (hs : subscripted slice false v (.int k t) = operate [v, .int k t] (getItem v (.int k t)) := by with_unfolding_all rfl) :
    wpAny (model prog w) A (subscriptTail value slice v (.int k t)) Q E s := S.item _ _ _ _ _ _ _ _ hk h0 h1 hs h
end

end Mine
end
-- S6
section
open PySem PySem.W PySem.W.X PyProof.Rows PySem.Calls
set_option maxRecDepth 100000
set_option maxHeartbeats 8000000
namespace Mine
theorem fill6 : PySem.Challenge.rw_ah5040_01 = PySem.Challenge.rw_ah5040_01 ∧ Mine.hd.heap_39 = Mine.hd.heap_39 := by
  k_fill
  exact ⟨rfl, rfl⟩
local macro_rules | `(tactic| walk_at "my S") => `(tactic| (refine wpAny_call ?_; refine' enterS ?k3 ?k5 ?k6 ?k7 ?k8 ?k9 ?kB ?_ ?c2 ?c3 ?c4 ?c5; (case k3 => k_asm); (case k5 => k_asm); (case k6 => k_is); (case k7 => k_is); (case k8 => k_room); (case k9 => first | exact BindsTo.of_eq rfl | exact binds_K (by k_in) rfl (by k_is) rfl rfl rfl); (case kB => exact locs rfl); (case c5 => decide); (case c2 => exact rfl); (case c3 => exact rfl); (case c4 => exact rfl)))
theorem InstAt_of_get {h : Heap} {x C dx : Addr} {od : Obj} {sl : Array (Option Value)} (h1 : h.get? x = some ⟨.ref C, some dx, .plain, sl⟩) (h2 : h.get? dx = some od) : InstAt h x ⟨.ref C, some dx, .plain, sl⟩ C (some od) := ⟨h1, rfl, rfl, h2⟩
local macro_rules | `(tactic| k_inst) => `(tactic| (refine' InstAt_of_get ?a ?b; (case a => exact Fr.keep (by k_asm) _ _ (by assumption)); (case b => exact Fr.keep (by k_asm) _ _ (by assumption))))
-- a name whose value is a fact of its own
local macro_rules | `(tactic| walk_at "eval Name") => `(tactic| (k_here; k_dflt (refine' ld ?k1 ?k2 ?_; (case k1 => k_asm); (case k2 => first | exact rfl | assumption); k_whole)))
theorem ne_of_lt' {a b : Addr} (h : a < b) : a ≠ b := Nat.ne_of_lt h
def rowL (n : Nat) (f : Nat → Int) : List Int := (List.range (n + 1)).map f
theorem rowL_len {n : Nat} {f : Nat → Int} : (rowL n f).length = n + 1 := by simp [rowL]
theorem rowL_get {n : Nat} {f : Nat → Int} {k : Nat} (h : k ≤ n) : (rowL n f)[k]? = some (f k) := by
  have : k < n + 1 := by omega
  simp [rowL, this]
theorem rowL_ext {n : Nat} {f : Nat → Int} {l : List Int} (hl : l.length = n + 1) (h : ∀ k, k ≤ n → l[k]? = some (f k)) : l = rowL n f := by
  apply List.ext_getElem?
  intro k
  by_cases q : k ≤ n
  · rw [h k q, rowL_get q]
  · rw [List.getElem?_eq_none (by omega), List.getElem?_eq_none (by rw [rowL_len]; omega)]
abbrev levRow (eqb : Nat → Nat → Bool) (n r : Nat) : List Int := rowL n fun k => (levD eqb r k : Int)
abbrev levPart (eqb : Nat → Nat → Bool) (n r j : Nat) : List Int := rowL n fun k => if k ≤ j then (levD eqb r k : Int) else 0
section
variable {prog : Program} {w : World} {A : Around} {E : Value → Shared → Prop} {s : Shared} {h₀ : Heap} {L D : Addr} {m : Str → Option Value} {news news' : List (Addr × Obj)}
theorem row_item {l : Addr} {vs : List Value} {n : Nat} {f : Nat → Int} {j : Int} {u : Tok} {value slice : Expr} {Q : Value → Shared → Prop} (hl : s.heap.IsList l vs.toArray) (hi : IntsAre vs (rowL n f)) (h0 : 0 ≤ j) (hk : j ≤ n) (hn : n < 1000)
    (h : ∀ t, Q (.int (f j.toNat) t) s) (hs : subscripted slice false (.ref l) (.int j u) = operate [.ref l, .int j u] (getItem (.ref l) (.int j u)) := by with_unfolding_all rfl) :
    wpAny (model prog w) A (subscriptTail value slice (.ref l) (.int j u)) Q E s := by
  refine item_anyK hl hi h0 (by rw [rowL_len]; omega) (by omega) (fun t => ?_) hs
  rw [List.getD_eq_getElem?_getD, rowL_get (by omega)]; exact h t
theorem min3 {a b c : Int} {t u x : Tok} {Q : Value → Shared → Prop} (hh : A.handled = none)
    (h : ∀ h' tk t, s.heap.StaysIn h' → Q (.int (min (min a b) c) t) { s with heap := h', toks := tk }) : wpAny (model prog w) A (call (.builtin "min") [.int a t, .int b u, .int c x]) Q E s := by
  refine min_three_ints hh fun h' tk st => ?_
  have key := fun tok => h h' tk tok st
  by_cases hba : b < a <;> by_cases hc1 : c < b <;> by_cases hc2 : c < a <;> simp only [hba, hc1, hc2, if_true, if_false]
  all_goals first
    | (rw [show min (min a b) c = a by omega] at key; exact key _)
    | (rw [show min (min a b) c = b by omega] at key; exact key _)
    | (rw [show min (min a b) c = c by omega] at key; exact key _)
theorem ints_set {x : Int} {t : Tok} : ∀ {vs : List Value} {ns : List Int} (k : Nat), IntsAre vs ns → IntsAre (vs.set k (.int x t)) (ns.set k x)
  | _, _, k, .nil => by simpa using IntsAre.nil
  | _, _, 0, .cons n t' h => .cons x t h
  | _, _, k + 1, .cons n t' h => .cons n t' (ints_set k h)
theorem rowL_congr {n : Nat} {f f' : Nat → Int} (h : ∀ k, k ≤ n → f k = f' k) : rowL n f = rowL n f' := by
  refine rowL_ext rowL_len fun k hk => ?_
  rw [rowL_get hk, h k hk]
theorem row_last {l : Addr} {vs : List Value} {n : Nat} {f : Nat → Int} {u : Tok} {value slice : Expr} {Q : Value → Shared → Prop} (hl : s.heap.IsList l vs.toArray) (hi : IntsAre vs (rowL n f)) (hn : n < 1000)
    (h : ∀ t, Q (.int (f n) t) s) (hs : subscripted slice false (.ref l) (.int (-1) u) = operate [.ref l, .int (-1) u] (getItem (.ref l) (.int (-1) u)) := by with_unfolding_all rfl) :
    wpAny (model prog w) A (subscriptTail value slice (.ref l) (.int (-1) u)) Q E s := by
  obtain ⟨t, ht⟩ := hi.get n _ (rowL_get (Nat.le_refl n))
  have hz := hi.length
  rw [rowL_len] at hz
  refine tail_any hl.typeIs slot_list_getitem.lookup (wpAny_getItem_list_neg hl (by omega) (by simp only [List.size_toArray, hz]; omega) (by omega) ?_ (h t)) hs
  simp only [List.size_toArray, hz]
  rw [show (-1 + ((n + 1 : Nat) : Int)).toNat = n by omega]
  simpa using ht
theorem upd_mid {x y z : Addr} {o o1 o2 o3 : Obj} (h1 : x ≠ D) (h2 : y ≠ D) (h3 : z ≠ D) : UpdF D o [(x, o1), (D, o), (y, o2), (z, o3)] (fun o' => [(x, o1), (D, o'), (y, o2), (z, o3)]) := by
  refine .tail h1 (.head ?_)
  intro p hp
  simp only [List.mem_cons, List.not_mem_nil, or_false] at hp
  rcases hp with rfl | rfl
  · exact h2
  · exact h3
theorem row_set {g : Obj → List (Addr × Obj)} {vs : List Value} {n c : Nat} {f : Nat → Int} {j x : Int} {u t : Tok} {Q : Unit → Shared → Prop} (F : Fr h₀ L s.heap m) (N : News h₀ L s.heap news) (U : UpdF D (listOf vs.toArray c) news g) (hi : IntsAre vs (rowL n f)) (h0 : 0 ≤ j) (hk : j ≤ n) (hn : n < 1000)
    (h : ∀ h' vs', Fr h₀ L h' m → News h₀ L h' (g (listOf vs'.toArray c)) → IntsAre vs' (rowL n fun i => if i = j.toNat then x else f i) → Q () { s with heap := h' }) :
    wpAny (model prog w) A (setItem (.ref D) (.int j u) (.int x t)) Q E s := by
  obtain ⟨pre, post, rfl, hg, a, b⟩ := U.split
  have z := N (D, listOf vs.toArray c) (List.mem_append.mpr (.inr (.head _)))
  have hl := hi.length
  rw [rowL_len] at hl
  refine ki_setAt z.1 (by omega) (by omega) (by simp; omega) (h _ (vs.set j.toNat (.int x t)) (F.change (Heap.SameBut.update ..) z.2.1 z.2.2) ?_ ?_)
  · rw [hg]; refine ki_turn _ N a b ?_ ?_
    · simp
    · simp
  · have := ints_set (x := x) (t := t) j.toNat hi
    rwa [show (rowL n f).set j.toNat x = rowL n (fun i => if i = j.toNat then x else f i) from rowL_ext (by simp [rowL_len]) (fun i hi' => by
      rw [List.getElem?_set]
      by_cases q : j.toNat = i
      · subst q; simp [rowL_len, Nat.lt_succ_of_le hi']
      · rw [if_neg q, rowL_get hi', if_neg (Ne.symm q)])] at this
end
local macro_rules | `(tactic| walk_at "my row") => `(tactic| (refine row_item (by is_list) (by assumption) (by omega) (by omega) (by omega) (fun _ => ?_); dsimp only))
local macro_rules | `(tactic| walk_at "my item") => `(tactic| (refine SeqV.item' (by assumption) (Fr.keep (by assumption)) (by omega) (by omega) (fun _ _ _ => ?_); dsimp only))
-- the walk, to a loop or to what has no line
local macro_rules | `(tactic| walk_at "my walk") => `(tactic| (repeat' ((fail_if_success (with_reducible show wpAny _ _ (call (Value.type _) _) (fun xv s₁ => wpAny _ _ (pyIter xv) _ _ s₁) _ _)); (fail_if_success (with_reducible show wpAny _ _ (exec (PySem.Stmt.For _ _ _ _ _) _) _ _ _)); (fail_if_success (with_reducible show wpAny _ _ (call (Value.ref 157) _) _ _ _)); (fail_if_success (with_reducible show wpAny _ _ (subscriptTail _ _ _ _) _ _ _)); (fail_if_success (with_reducible show wpAny _ _ (call (Value.builtin "min") _) _ _ _)); (fail_if_success (with_reducible show wpAny _ _ (setItem (Value.ref _) _ _) _ _ _)); first | (k_unfold; (try dsimp only)) | walk1 | (dsimp only; walk1) | (leave1; walk_say "STEP leave1"; try dsimp only))))
section
variable {w : World} {s : Shared} {p : Program} {loose : List Str} {mg mb : Str → Option Value} {base : Heap} {outer : List Env} {gd : Option (List Code)} {A₀ : Around} {Q E : Value → Shared → Prop}
theorem cycled {se dse : Addr} {v1 v2 : Value} {n1 n2 : Nat} {It1 It2 : Nat → Value → Prop} {q1 q2 q3 : Int} {t1 t2 t3 : Tok} {vq vx : Value} {ep : Nat} {eqb : Nat → Nat → Bool}
    (X : (Mine.hd.heap_39 w.params).In s.heap) (T : TopRead p loose mg mb s.heap)
    (h0 : s.heap.get? se = some ⟨.ref 244, some dse, .plain, #[]⟩) (h9 : s.heap.get? dse = some (dictOf [⟨q1, .str (Str.ofString "qval") t1, vq⟩, ⟨q2, .str (Str.ofString "test_func") t2, .ref 157⟩, ⟨q3, .str (Str.ofString "external") t3, vx⟩] ep))
    (S1 : SeqV PySem.Challenge.rw_ah5040_01.prog w s.heap v1 n1 It1) (S2 : SeqV PySem.Challenge.rw_ah5040_01.prog w s.heap v2 n2 It2) (hn1 : n1 < 1000) (hn2 : n2 < 1000)
    (htest : ∀ (fs : List Env) (i j : Nat) (x y : Value) (s' : Shared) (Q E : Value → Shared → Prop), i < n1 → j < n2 → It1 i x → It2 j y → s.heap.StaysIn s'.heap → (∀ h' tk', s'.heap.StaysIn h' → Q (.bool (eqb i j)) { s' with heap := h', toks := tk' }) →
      wpAny (model PySem.Challenge.rw_ah5040_01.prog w) (QD 60 fs gd) (call (.ref 157) [x, y]) Q E s') 
    (h : ∀ h' tk' t, s.heap.StaysIn h' → Q (.int (levD eqb n1 n2) t) { s with heap := h', toks := tk' }) :
    wpAny (model PySem.Challenge.rw_ah5040_01.prog w) (QD 50 outer gd) (call (.ref 234) [.ref se, v1, v2]) Q E s := by
  walk_at "my S"
  intro L' h' F' N'
  (try dsimp only); k_fold
  walk_at "my walk"
  refine S1.len _ _ _ _ F'.keep fun tl tk₁ => ?_
  walk_at "my walk"
  refine S2.len _ _ _ _ (Fr.keep (by assumption)) fun tl' tk₂ => ?_
  walk_at "my walk"
  rename IntsAre _ _ => hI0
  refine wpAny_For ?_
  walk_at "my walk"
  rename Fr _ _ _ _ => F0
  rename News _ _ _ _ => N0
  refine for_range (by rfl) (by rfl) (by rfl) (fun i m news => m (Str.ofString "self") = some (.ref se) ∧ m (Str.ofString "s1") = some v1 ∧ m (Str.ofString "s2") = some v2 ∧ (∃ t, m (Str.ofString "cols") = some (.int (n2 + 1) t)) ∧
    ∃ C c vs, m (Str.ofString "cur") = some (.ref C) ∧ news = [(C, listOf vs.toArray c)] ∧ IntsAre vs (levRow eqb n2 i)) F0 N0 ⟨rfl, rfl, rfl, ⟨_, rfl⟩, _, _, _, rfl, rfl, ?_⟩ (by omega) (by omega) ?_ ?_
  · rwa [show rangeKs 0 ((n2 : Int) + 1 - 0).toNat = levRow eqb n2 0 from by
      unfold rangeKs levRow rowL
      rw [show ((n2 : Int) + 1 - 0).toNat = n2 + 1 by omega]
      simp [levD]] at hI0
  · rintro I i m news h₁ tk t hi ⟨m1, m2, m3, ⟨tc, m4⟩, C, c, vs, m5, rfl, hvs⟩ hI hlt F N
    clear F0 N0
    walk_at "my walk"
    rename IntsAre _ ([(1 : Int) + _] ++ _) => hI1
    refine wpAny_For ?_
    walk_at "my walk"
    rename Fr _ _ _ _ => F1
    rename News _ _ _ _ => N1
    rename (_ < _ ∧ _ < _ ∧ _ < _ ∧ I < _ ∧ C < _) => hl1
    have e : ([(1 : Int) + i] ++ (List.replicate ((n2 : Int) + 1 - 1).toNat [(0 : Int)]).flatten) = levPart eqb n2 (i + 1) 0 := rowL_ext (by rw [krep_flat]; simp) fun k hk => by
      rw [krep_flat]
      cases k with
      | zero => simp [levD]; omega
      | succ k => 
        have : k < n2 := by omega
        have e3 : (n2 : Int) + 1 - 1 = n2 := by omega
        simp [this, e3]
    have hI2 := hI1
    rw [e] at hI2
    refine for_range (by rfl) (by rfl) (by rfl) (fun j m' news => (m' (Str.ofString "self") = some (.ref se) ∧ m' (Str.ofString "s1") = some v1 ∧ m' (Str.ofString "s2") = some v2 ∧ (∃ t, m' (Str.ofString "cols") = some (.int (n2 + 1) t)) ∧ (∃ t, m' (Str.ofString "r") = some (.int (1 + i) t)) ∧
      m' (Str.ofString "prev") = some (.ref C)) ∧ ∃ C' c' vs', C ≠ C' ∧ I ≠ C' ∧ m' (Str.ofString "cur") = some (.ref C') ∧ news = [(C', listOf vs'.toArray c'), (C, listOf vs.toArray c), (I, rgObj (1 + i + 1) (((n1 + 1 - 1 : Int).toNat : Int) - i - 1))] ∧ IntsAre vs' (levPart eqb n2 (i + 1) j)) F1
      (news_sub N1 ?_) ⟨⟨m1, m2, m3, ⟨_, m4⟩, ⟨_, rfl⟩, rfl⟩, _, 0, _, ne_of_lt' hl1.2.2.2.2, ne_of_lt' hl1.2.2.2.1, rfl, rfl, hI2⟩ (by omega) (by omega) ?_ ?_
    · intro p hp; simp only [List.mem_cons, List.not_mem_nil, or_false] at hp ⊢; rcases hp with rfl | rfl | rfl <;> simp
    · rintro I' j m' news h₂ tk₂ t₂ hj ⟨⟨p1, p2, p3, ⟨tc', p4⟩, ⟨tr, p5⟩, p6⟩, C', c', vs', hC, hIC, p7, rfl, hvs'⟩ hI' hlt' F N
      clear F1 N1
      walk_at "my walk"
      walk_at "my row"
      walk_at "my walk"
      walk_at "my row"
      walk_at "my walk"
      walk_at "my item"
      walk_at "my walk"
      walk_at "my item"
      walk_at "my walk"
      rename It1 _ _ => hx
      rename It2 _ _ => hy
      rw [show ((1 : Int) + i - 1).toNat = i by omega] at hx
      rw [show ((1 : Int) + j - 1).toNat = j by omega] at hy
      rename Fr _ _ _ _ => F1
      rename News _ _ _ _ => N1
      refine wpAny_le (htest _ i j _ _ _ _ _ (by omega) (by omega) hx hy F1.keep (fun h3 tk3 st => ?_)) (Nat.le_of_ble_eq_true rfl) (Nat.le_of_ble_eq_true rfl)
      have F2 := fr_stays F1 st
      have N2 := news_stays N1 st
      clear F1 N1
      dsimp only
      walk_at "my walk"
      walk_at "my row"
      walk_at "my walk"
      rename Fr _ _ _ _ => F3
      rename News _ _ _ _ => N3
      refine min3 rfl fun h5 tk5 t5 st5 => ?_
      have F4 := fr_stays F3 st5
      have N4 := news_stays N3 st5
      clear F3 N3
      dsimp only
      walk_at "my walk"
      refine row_set F4 N4 (upd_mid (Ne.symm (hI' _ (.head _))) hC hIC) hvs' (by omega) (by omega) (by omega) (fun h6 ws F6 N6 hws => ?_)
      refine wpAny_execs_nil ?_
      refine ⟨h6, _, _, _, rfl, F6, N6, ?_, ⟨p1, p2, p3, ⟨_, p4⟩, ⟨_, p5⟩, p6⟩, C', c', ws, hC, hIC, p7, rfl, ?_⟩
      · intro p hp
        rcases List.mem_cons.mp hp with rfl | hp
        · exact hI' (C', listOf vs'.toArray c') (.head _)
        · exact hI' p (.tail _ hp)
      · rwa [rowL_congr (n := n2) (f' := fun k => if k ≤ j + 1 then (levD eqb (i + 1) k : Int) else 0)] at hws
        intro k hk
        simp only [show (1 + (j : Int)).toNat = j + 1 by omega, show (1 + (j : Int) - 1).toNat = j by omega]
        by_cases q : k = j + 1
        · subst q
          simp only [levD, Nat.le_refl, if_true]
          cases eqb i j <;> simp <;> omega
        · by_cases q' : k ≤ j
          · simp [q, q', show k ≤ j + 1 by omega]
          · simp [q, q', show ¬ k ≤ j + 1 by omega]
    · clear F1 N1
      rintro m' news h₂ tk₂ ⟨⟨p1, p2, p3, ⟨tc', p4⟩, ⟨tr, p5⟩, p6⟩, C', c', vs', hC, hIC, p7, rfl, hvs'⟩ F N
      dsimp only
      refine wpAny_execs_nil ?_
      refine ⟨h₂, _, _, _, rfl, F, news_sub (news' := [(I, rgObj (1 + i + 1) (((n1 + 1 - 1 : Int).toNat : Int) - i - 1)), (C', listOf vs'.toArray c')]) N ?_, ?_, ⟨p1, p2, p3, ⟨_, p4⟩, C', c', vs', p7, rfl, ?_⟩⟩
      · intro p hp; simp only [List.mem_cons, List.not_mem_nil, or_false] at hp ⊢; rcases hp with rfl | rfl <;> simp
      · intro p hp; simp only [List.mem_cons, List.not_mem_nil, or_false] at hp; rcases hp with rfl; exact Ne.symm hIC
      · rwa [show levPart eqb n2 (i + 1) ((n2 : Int) + 1 - 1).toNat = levRow eqb n2 (i + 1) from rowL_congr fun k hk => by rw [if_pos (by omega)]] at hvs'
  · rintro m news h₁ tk ⟨m1, m2, m3, ⟨tc, m4⟩, C, c, vs, m5, rfl, hvs⟩ F N
    clear F0 N0
    dsimp only
    walk_at "my walk"
    rw [show ((n1 : Int) + 1 - 1).toNat = n1 by omega] at hvs
    refine row_last (by is_list) hvs hn2 (fun _ => ?_)
    dsimp only
    walk_at "my walk"
    exact h _ _ _ F.keep
end
end Mine
end
-- S7
section
open PySem PySem.W PySem.W.X PyProof.Rows PySem.Calls
set_option maxRecDepth 100000
set_option maxHeartbeats 8000000
namespace Mine
theorem fill7 : PySem.Challenge.rw_ah5040_01 = PySem.Challenge.rw_ah5040_01 ∧ Mine.hd.heap_39 = Mine.hd.heap_39 := by
  k_fill
  exact ⟨rfl, rfl⟩
theorem Mem.stays {h₀ h : Heap} {news : List (Addr × Obj)} (D : Mem h₀ h [] news) : h₀.StaysIn h := fun b o e => D.keep b o e (by simp [away])
def Ends (P : Value → Prop) (Q : Value → Shared → Prop) (s : Shared) : Prop := ∀ v h' tk', s.heap.StaysIn h' → P v → Q v { s with heap := h', toks := tk' }
theorem Ends.use {P : Value → Prop} {Q : Value → Shared → Prop} {s : Shared} (H : Ends P Q s) {v : Value} {h' : Heap} {tk' : Nat} {news : List (Addr × Obj)} (D : Mem s.heap h' [] news) (p : P v) : Q v { s with heap := h', toks := tk' } := H v h' tk' (Mem.stays D) p
section
local macro_rules | `(tactic| x_close) => `(tactic| (refine Ends.use (by assumption) (by assumption) ?_; simp only [Value.bool.injEq, exists_eq_left', Bool.false_eq_true, false_iff, true_iff]; omega))
theorem all2 {prog : Program} {w : World} {s : Shared} {fr : Option (List Env)} {gd : Option (List Code)} {a b : Str} {ta tb : Tok} {l : Addr} (hl : s.heap.get? l = some ⟨.type "tuple", none, .seq #[.str a ta, .str b tb] 0, #[]⟩) 
    (ha : a.length < 1000) (hb : b.length < 1000) (Q : Value → Shared → Prop) (E : Value → Shared → Prop)
    (hq : Ends (fun v => ∃ r, v = .bool r ∧ (r = true ↔ 0 < a.length ∧ 0 < b.length)) Q s) :
  wpAny (model prog w) {depth := 460, units := 300, frames := fr, guards := gd} (call (.builtin "all") [.ref l]) Q E s := by
  x_run
end
theorem starMethod {M : Model} {A : Around} {E : Value → Shared → Prop} {s : Shared} {env : Env} {o : Expr} {name : Str} {apos pos : Pos} {args : List Expr} {Q : Value → Shared → Prop}
    (h : wpAny M A (eval o env) (fun ov s₁ => wpAny M A (getAttr ov name true) (fun f s₂ => wpAny M A (callWith pos f [] (backTo pos (starEach args env)) []) Q E s₂) E s₁) E s)
    (he : eval (.Call (.Attribute o name apos) args [] pos) env = (do
      let ov ← eval o env
      standAt apos.atName
      let (f, first) ← holding [ov] (do pure (← getAttr ov name true, []))
      callWith pos f first (backTo pos (starEach args env)) []) := by rfl) :
    wpAny M A (eval (.Call (.Attribute o name apos) args [] pos) env) Q E s := by
  rw [he]
  refine wpAny_bind (wpAny_mono h (fun ov s₁ h₁ => wpAny_bind (wpAny_standAt (wpAny_bind (wpAny_holding (wpAny_bind (wpAny_mono h₁ (fun fx s₂ h₂ => wpAny_pure ?_) fun _ _ x => x)))))) fun _ _ x => x)
  exact h₂
local macro_rules | `(tactic| walk_at "eval Call Attribute") => `(tactic| (k_here; (with_reducible show wpAny _ _ (eval (Expr.Call (Expr.Attribute _ _ _) [Expr.Starred _ _] [] _) _) _ _ _); refine starMethod ?_))
section
variable {prog : Program} {w : World} {A : Around} {E : Value → Shared → Prop} {s : Shared} {K : Frag} {x C p L f : Addr} {ox : Obj} {od : Option Obj} {name : Str} {h₀ : Heap} {m : Str → Option Value} {news : List (Addr × Obj)} {es : List DictEntry} {n : Nat} {fv : Value} {rest : List Value} {env : Env} {pos pp : Pos} {first : List Value} {Q : Value → Shared → Prop} {e : Expr}
theorem attr_sm {expr : Bool} (F : Fr h₀ L s.heap m) (X₀ : K.In h₀) (I : InstAt s.heap x ox C (some (dictOf es n))) (hg : plainGet K C name = true) (hh : hasDictIn K C = true) (ha : findIn K (.ref C) name = some (some (.ref p)))
    (hgf : specialIn K (.ref p) "__get__" = some (some (.builtin "staticmethod.__get__"))) (hts : takesIn K (.ref p) = some false) (hc : copiedNames.contains name = false) (hl : getL name es = some none) (hp : recIn K p "staticmethod" = some (fv :: rest)) (hv : handedIn fv = true)
    (h : Q fv { s with toks := s.toks + 1 }) : wpAny (model prog w) A (getAttr (.ref x) name expr) Q E s :=
  get_bind (X₀.keeps F.keep) I (plainGet_of hg).1 (findObj_fn hh ha hgf hts hc (by show lookIn name (dictOf es n) = _; rw [lookIn_dict, hl])) (plainGet_of hg).2
    (wpAny_call (sm_get (s := { s with toks := s.toks + 1 }) (X₀.keeps F.keep) hp (handed_on hv h)))
theorem callWith_SM {M : Model} {q g : Addr} {self : Value} (_X : K.In h₀) (_N : News h₀ L s.heap news) (_q : (q, methodObj (.ref g) self) ∈ news) (hf : fnIn K g = true)
    (h : wpAny M A (eval e env) (fun v s₁ => StarOf M A E v (fun vs s₂ => MethP K q g self s₂.heap ∧ wpAny M A (call (.ref q) (first ++ vs)) Q E s₂) s₁) E s)
    (he : starEach [.Starred e pp] env = [(true, eval e env)] := by rfl) :
    wpAny M A (callWith pos (.ref q) first (backTo pos (starEach [.Starred e pp] env)) []) Q E s := by
  rw [he]
  exact ks_call rfl (keeps_M hf) (ks_lone h)
theorem callWith_SI (_X : K.In s.heap) (_I : InstAt s.heap x ox C od) (hd : ox.data = .plain) (_hs : findIn K (.ref C) "__call__" = some (some (.ref f)))
    {M : Model} (h : wpAny M A (eval e env) (fun v s₁ => StarOf M A E v (fun vs s₂ => kco_P K x C ox od s₂.heap ∧ wpAny M A (call (.ref x) (first ++ vs)) Q E s₂) s₁) E s)
    (he : starEach [.Starred e pp] env = [(true, eval e env)] := by rfl) :
    wpAny M A (callWith pos (.ref x) first (backTo pos (starEach [.Starred e pp] env)) []) Q E s := by
  rw [he]
  have h := ks_lone (f := .ref x) (pos := pos) (Q := fun a s₂ => kco_P K x C ox od s₂.heap ∧ wpAny M A (call (.ref x) (first ++ a.pos) a.kw) Q E s₂) h
  unfold callWith
  refine wpAny_bind (wpAny_holding (wpAny_mono h (fun a s₁ h₁ => wpAny_bind (wpAny_standAt ?_)) fun _ _ y => y))
  have L := kco_keeper (M := M) h₁.1.2 hd
  have tail : ∀ {t : Sem Value}, wpAny M A t Q E s₁ → wpAny M A (t >>= fun r => holding [r] point >>= fun _ => pure r) Q E s₁ :=
    fun ht => wpAny_bind (wpAny_mono ht (fun r s₂ hr => wpAny_bind (wpAny_holding (wpAny_point (wpAny_pure hr)))) fun _ _ y => y)
  refine wpAny_bind (L.here ?_)
  exact tail (wpAny_operateT h₁.2)
end
local macro_rules | `(tactic| walk_at "getAttr ref") => `(tactic| (k_here; k_dflt (refine' attr_sm ?k1 ?k2 ?k4 ?k5 ?k6 ?k7 ?k9 ?k10 ?k11 ?k12 ?k13 ?k14 ?_; (case k1 => k_asm); (case k2 => k_asm); (case k4 => k_inst); (case k5 => k_is); (case k6 => k_is); (case k7 => k_is); (case k9 => k_is); (case k10 => k_is); (case k11 => decide +kernel); (case k12 => k_get); (case k13 => k_is); (case k14 => k_handed); k_whole)))
local macro_rules | `(tactic| walk_at "callWith ref") => `(tactic| (k_here; (with_reducible show wpAny _ _ (callWith _ (Value.ref _) _ (backTo _ (starEach [Expr.Starred _ _] _)) []) _ _ _); k_dflt (refine' callWith_SM ?k1 ?k2 ?k3 ?k4 ?_; (case k1 => k_asm); (case k2 => k_asm); (case k3 => k_mem); (case k4 => k_is); k_whole)))
local macro_rules | `(tactic| walk_at "my V") => `(tactic| (refine wpAny_call ?_; refine' enterV ?k3 ?k5 ?k6 ?k7 ?k8 ?kP ?kG ?kB ?_ ?c2 ?c3 ?c4 ?c5; (case k3 => k_asm); (case k5 => k_asm); (case k6 => k_is); (case k7 => k_is); (case k8 => k_room); (case kP => exact rfl); (case kG => exact fun _ => rfl); (case kB => exact fun _ => locs rfl); (case c5 => decide); (case c2 => exact rfl); (case c3 => exact rfl); (case c4 => exact rfl)))
local macro_rules | `(tactic| k_inst) => `(tactic| (refine' InstAt_of_get ?a ?b; (case a => exact Fr.keep (by k_asm) _ _ (by assumption)); (case b => exact Fr.keep (by k_asm) _ _ (by assumption))))
local macro_rules | `(tactic| walk_at "my walk") => `(tactic| (repeat' ((fail_if_success (with_reducible show wpAny _ _ (call (Value.builtin "all") _) _ _ _)); (fail_if_success (with_reducible show wpAny _ _ (call (Value.builtin "max") _) _ _ _)); (fail_if_success (with_reducible show wpAny _ _ (call (Value.ref 157) _) _ _ _)); (fail_if_success (with_reducible show wpAny _ _ (call (Value.type "map") _) _ _ _)); first | (k_unfold; (try dsimp only)) | walk1 | (dsimp only; walk1) | (leave1; walk_say "STEP leave1"; try dsimp only))))
section
variable {w : World} {s : Shared} {p : Program} {loose : List Str} {mg mb : Str → Option Value} {base : Heap} {outer : List Env} {gd : Option (List Code)} {A₀ : Around} {Q E : Value → Shared → Prop}
end
end Mine
end
-- S8
section
open PySem PySem.W PySem.W.X PyProof.Rows PySem.Calls
set_option maxRecDepth 100000
set_option maxHeartbeats 200000
namespace Mine
section
variable {prog : Program} {w : World} {A : Around} {E : Value → Shared → Prop} {s : Shared}
theorem nextOf_tuple_item {it l : Addr} {i : Nat} {items} {x : Value} {Q : Value → Shared → Prop} (hit : s.heap.IsTupleIter it l i)
    (hl : s.heap.IsTuple l items) (hx : items[i]? = some x)
    (hQ : ∀ h', h'.IsTupleIter it l (i + 1) → Heap.SameBut it s.heap h' → Q x { s with heap := h' }) :
    wpAny (model prog w) A (Builtin.SmallTypes.nextOf (.ref it)) Q E s := by
  obtain ⟨o, ho, hc, hd⟩ := id hit
  obtain ⟨ol, hol, _, nl, hdl⟩ := hl
  unfold Builtin.SmallTypes.nextOf
  refine wpAny_bind (wpAny_callSpecial?_slot (name := Str.ofString "__next__") hit.typeIs F.slot_tuple_iterator_next
    (wpAny_call_entry F.slot_tuple_iterator_next hit.typeIs F.entry_tuple_iterator_next ?_ (F.args_tuple_iterator_next_1 _)))
  show wpAny _ _ (field (.ref it) 0 >>= _) _ _ s
  refine wpAny_bind (wpAny_field ho hd (x := .ref l) rfl ?_)
  show wpAny _ _ (if (Value.ref l == Value.none) = true then _ else _) _ _ s
  rw [if_neg (show ¬ ((Value.ref l == Value.none) = true) from Bool.false_ne_true)]
  show wpAny _ _ (field (.ref it) 1 >>= _) _ _ s
  refine wpAny_bind (wpAny_field ho hd (x := .int i 0) rfl ?_)
  show wpAny _ _ (seqItems? (.ref l) >>= _) _ _ s
  refine wpAny_bind (wpAny_seqItems hol hdl ?_)
  simp only [Int.toNat_natCast, hx]
  refine wpAny_bind (wpAny_setField ho hd (by simp) (wpAny_pure ⟨x, rfl, wpAny_pure (hQ _ ?_ (Heap.SameBut.update ..))⟩))
  exact ⟨_, Heap.get?_update_self _ ho (Obj.isFreed_of_fields (Obj.data_mapFields hd _)), (Obj.cls_mapFields ..).trans hc, by
    rw [Obj.data_mapFields hd]; simp [rawInt]⟩
theorem nextOf_tuple_end {it l : Addr} {i : Nat} {items} {Q : Value → Shared → Prop} (hh : A.handled = none)
    (hit : s.heap.IsTupleIter it l i) (hl : s.heap.IsTuple l items) (hx : items[i]? = none)
    (hE : ∀ h' e, Heap.ExtBut it s.heap h' → (∃ o, h'.get? e = some o ∧ o.cls = .type "StopIteration") → E (.ref e) { s with heap := h' }) :
    wpAny (model prog w) A (Builtin.SmallTypes.nextOf (.ref it)) Q E s := by
  obtain ⟨o, ho, hc, hd⟩ := id hit
  obtain ⟨ol, hol, _, nl, hdl⟩ := hl
  unfold Builtin.SmallTypes.nextOf
  refine wpAny_bind (wpAny_callSpecial?_slot (name := Str.ofString "__next__") hit.typeIs F.slot_tuple_iterator_next
    (wpAny_call_entry F.slot_tuple_iterator_next hit.typeIs F.entry_tuple_iterator_next ?_ (F.args_tuple_iterator_next_1 _)))
  show wpAny _ _ (field (.ref it) 0 >>= _) _ _ s
  refine wpAny_bind (wpAny_field ho hd (x := .ref l) rfl ?_)
  show wpAny _ _ (if (Value.ref l == Value.none) = true then _ else _) _ _ s
  rw [if_neg (show ¬ ((Value.ref l == Value.none) = true) from Bool.false_ne_true)]
  show wpAny _ _ (field (.ref it) 1 >>= _) _ _ s
  refine wpAny_bind (wpAny_field ho hd (x := .int i 0) rfl ?_)
  show wpAny _ _ (seqItems? (.ref l) >>= _) _ _ s
  refine wpAny_bind (wpAny_seqItems hol hdl ?_)
  simp only [Int.toNat_natCast, hx]
  refine wpAny_bind (wpAny_rule (wpAny_bind (wpAny_setField ho hd (by simp) ?_)))
  show wpAny _ _ (newExc (.type "StopIteration") [] >>= _) _ _ _
  refine wpAny_bind ?_
  simp only [newExc, newTuple]
  refine wpAny_bind (wpAny_newObj_type ?_ (by size_fits))
  refine wpAny_bind (m := firstArgMember _ _) (wpAny_of_eq (a := Value.none) (by first | rfl | (simp only [firstArgMember]; rfl)) ?_)
  refine wpAny_newObj_type ?_ (by size_fits)
  simp only [raiseNew]
  refine wpAny_bind (wpAny_handled ?_)
  first | rw [show A.in1.handled = none from hh] | rw [hh]
  refine wpAny_bind (wpAny_pure (wpAny_throw ?_))
  exact hE _ _ (((Heap.SameBut.update ..).extBut.push _).push _) ⟨_, Heap.get?_push_size _ rfl, rfl⟩
end
namespace FM
theorem owner_map : True := trivial
theorem slot_map_next : Slot "map" "__next__" "map.__next__" :=
  .of (owner := "map") (n := "__next__") (by rw [typeLookup_type, builtinLookup_eq_fast]; kernel_rfl) (by decide +kernel) (by decide +kernel) (by decide +kernel)
    (by first | exact .inl (by decide +kernel) | exact .inr (by decide +kernel)) (by rw [isSubtype_type]; kernel_rfl)
theorem entry_map_next : entryFor table "map.__next__" = some Builtin.«map.__next__» := entryFor_of_tree (by kernel_rfl)
theorem slot_map_iter : Slot "map" "__iter__" "map.__iter__" :=
  .of (owner := "map") (n := "__iter__") (by rw [typeLookup_type, builtinLookup_eq_fast]; kernel_rfl) (by decide +kernel) (by decide +kernel) (by decide +kernel)
    (by first | exact .inl (by decide +kernel) | exact .inr (by decide +kernel)) (by rw [isSubtype_type]; kernel_rfl)
theorem entry_map_iter : entryFor table "map.__iter__" = some Builtin.«dict_keyiterator.__iter__» :=
  entryFor_alias (id' := "dict_keyiterator.__iter__") (by kernel_rfl) (by first | rfl | decide +kernel | (unfold String.splitOn; simp +decide [String.splitOnAux])) (by decide +kernel) (by kernel_rfl)
theorem args_map_next_1 (a : Value) : argsOk "map.__next__" ⟨[a], []⟩ := by
  unfold argsOk; kernel_rfl
theorem args_map_iter_1 (a : Value) : argsOk "map.__iter__" ⟨[a], []⟩ := by
  unfold argsOk; kernel_rfl
end FM

/-- the length of a text or a list -/
def LenV (h : Heap) (v : Value) (n : Nat) : Prop := (∃ x t, v = .str x t ∧ x.length = n) ∨ ∃ a items, v = .ref a ∧ h.IsList a items ∧ items.size = n
def addrOf : Value → List Addr
  | .ref a => [a]
  | _ => []
theorem LenV.at {h h' : Heap} {v : Value} {n : Nat} (x : LenV h v n) (k : ∀ b ∈ addrOf v, ∀ o, h.get? b = some o → h'.get? b = some o) : LenV h' v n := by
  rcases x with x | ⟨a, items, rfl, hl, hn⟩
  · exact .inl x
  · obtain ⟨o, ho, r⟩ := hl
    exact .inr ⟨a, items, rfl, ⟨o, k a (by simp [addrOf]) o ho, r⟩, hn⟩
section
variable {prog : Program} {w : World} {A : Around} {E : Value → Shared → Prop} {s : Shared}
theorem LenV.len {v : Value} {n : Nat} {Q : Value → Shared → Prop} (x : LenV s.heap v n) (hn : n < 1000) (h : ∀ t tk', Q (.int n t) { s with toks := tk' }) : wpAny (model prog w) A (call (.builtin "len") [v]) Q E s := by
  rcases x with ⟨x, t, rfl, rfl⟩ | ⟨a, items, rfl, hl, rfl⟩
  · exact PyProof.Rows.len_str (by omega) (h _ _)
  · exact call_len_list hl (by omega) (h _ _)
abbrev mapObj (T : Addr) (f : Value) : Obj := { cls := .type "map", data := .fields #[.ref T, f] }
theorem pyIter_map {m T : Addr} {f : Value} {Q : Value → Shared → Prop} (hm : s.heap.get? m = some (mapObj T f)) (h : Q (.ref m) s) : wpAny (model prog w) A (pyIter (.ref m)) Q E s := by
  have hT : s.TypeIs (.ref m) "map" := ⟨_, hm, rfl⟩
  refine wpAny_pyIter_slot hT FM.slot_map_iter (wpAny_call_entry FM.slot_map_iter hT FM.entry_map_iter ?_ (FM.args_map_iter_1 _))
  show wpAny _ _ (ret (.ref m)) _ _ s
  exact wpAny_pure ⟨_, rfl, "map", _, hT, FM.slot_map_next.lookup, h⟩
theorem pyNext_mapLen_item {m T it tup : Addr} {i n : Nat} {items : Array Value} {v : Value} {Q : Option Value → Shared → Prop} (hm : s.heap.get? m = some (mapObj T (.builtin "len"))) (hT : s.heap.IsTuple T #[.ref it])
    (hit : s.heap.IsTupleIter it tup i) (ht : s.heap.IsTuple tup items) (hx : items[i]? = some v) (hv : LenV s.heap v n) (hn : n < 1000) (hiv : it ∉ addrOf v)
    (hQ : ∀ t h' tk', h'.IsTupleIter it tup (i + 1) → Heap.SameBut it s.heap h' → Q (some (.int n t)) { s with heap := h', toks := tk' }) :
    wpAny (model prog w) A (pyNext (.ref m)) Q E s := by
  have hTy : s.TypeIs (.ref m) "map" := ⟨_, hm, rfl⟩
  obtain ⟨oT, hoT, _, nT, hdT⟩ := id hT
  unfold pyNext
  refine wpAny_bind (wpAny_attempt (wpAny_callSpecial?_slot (name := Str.ofString "__next__") hTy FM.slot_map_next
    (wpAny_call_entry FM.slot_map_next hTy FM.entry_map_next ?_ (FM.args_map_next_1 _))))
  show wpAny _ _ (field (.ref m) 0 >>= _) _ _ s
  refine wpAny_bind (wpAny_field hm rfl (x := .ref T) rfl ?_)
  refine wpAny_bind (wpAny_seqItems hoT hdT ?_)
  show wpAny _ _ (forIn #[Value.ref it] _ _ >>= _) _ _ _
  simp only [List.forIn_toArray, List.forIn_cons, List.forIn_nil]
  refine wpAny_bind (wpAny_bind (wpAny_bind (wpAny_holding (nextOf_tuple_item hit ht hx fun h₁ hit₁ hs₁ => wpAny_pure (wpAny_pure ?_)))))
  have hne : m ≠ it := fun e => by subst e; obtain ⟨o, ho, hc, _⟩ := hit; rw [hm] at ho; cases ho; simp at hc
  have hm₁ := hs₁.extBut _ _ hne hm
  refine wpAny_bind (wpAny_field hm₁ rfl (x := .builtin "len") rfl ?_)
  refine wpAny_bind (wpAny_holding ?_)
  show wpAny _ _ (call (.builtin "len") [v]) _ _ _
  refine LenV.len (hv.at fun b hb o e => hs₁.extBut _ _ (fun q => hiv (q ▸ hb)) e) hn fun t tk' => ?_
  refine wpAny_bind (wpAny_letGo ?_)
  exact wpAny_pure ⟨_, rfl, wpAny_pure (hQ t h₁ tk' hit₁ hs₁)⟩
theorem pyNext_map_end {m T it tup : Addr} {f : Value} {i : Nat} {items : Array Value} {Q : Option Value → Shared → Prop} (hh : A.handled = none) (hm : s.heap.get? m = some (mapObj T f)) (hT : s.heap.IsTuple T #[.ref it])
    (hit : s.heap.IsTupleIter it tup i) (ht : s.heap.IsTuple tup items) (hx : items[i]? = none)
    (hQ : ∀ h', Heap.ExtBut it s.heap h' → Q none { s with heap := h' }) :
    wpAny (model prog w) A (pyNext (.ref m)) Q E s := by
  have hTy : s.TypeIs (.ref m) "map" := ⟨_, hm, rfl⟩
  obtain ⟨oT, hoT, _, nT, hdT⟩ := id hT
  unfold pyNext
  refine wpAny_bind (wpAny_attempt (wpAny_callSpecial?_slot (name := Str.ofString "__next__") hTy FM.slot_map_next
    (wpAny_call_entry FM.slot_map_next hTy FM.entry_map_next ?_ (FM.args_map_next_1 _))))
  show wpAny _ _ (field (.ref m) 0 >>= _) _ _ s
  refine wpAny_bind (wpAny_field hm rfl (x := .ref T) rfl ?_)
  refine wpAny_bind (wpAny_seqItems hoT hdT ?_)
  show wpAny _ _ (forIn #[Value.ref it] _ _ >>= _) _ _ _
  simp only [List.forIn_toArray, List.forIn_cons, List.forIn_nil]
  refine wpAny_bind (wpAny_bind (wpAny_bind (wpAny_holding (nextOf_tuple_end hh hit ht hx fun h' e hs he => ?_))))
  refine wpAny_bind (wpAny_isInstance (T := "StopIteration") (b := true) he isSubtype_stop ?_)
  exact wpAny_pure (hQ _ hs)
theorem Walks.mapLen2 (hh : A.handled = none) {m T it tup : Addr} {v1 v2 : Value} {n : Nat → Nat} (hn : ∀ i, n i < 1000) (h0 : m ≠ it) (h1 : T ≠ it) (h2 : tup ≠ it) (h3 : it ∉ addrOf v1) (h4 : it ∉ addrOf v2) :
    Walks prog w A m (m :: T :: it :: tup :: (addrOf v1 ++ addrOf v2)) [it] 2 (fun i v => ∃ t, v = .int (n i) t)
      (fun i h => h.get? m = some (mapObj T (.builtin "len")) ∧ h.IsTuple T #[.ref it] ∧ h.IsTupleIter it tup i ∧ h.IsTuple tup #[v1, v2] ∧ LenV h v1 (n 0) ∧ LenV h v2 (n 1)) where
  sub := fun b hb => by simp at hb; simp [hb]
  frame := fun _ _ _ st hk => ⟨hk m (by simp) _ st.1, st.2.1.at fun o e => hk T (by simp) o e, st.2.2.1.at fun o e => hk it (by simp) o e, st.2.2.2.1.at fun o e => hk tup (by simp) o e,
    st.2.2.2.2.1.at fun b hb o e => hk b (by simp [hb]) o e, st.2.2.2.2.2.at fun b hb o e => hk b (by simp [hb]) o e⟩
  item := fun i s Q E hi st hQ => by
    obtain ⟨s1, s2, s3, s4, s5, s6⟩ := st
    have up : ∀ {h'}, Heap.SameBut it s.heap h' → h'.IsTupleIter it tup (i + 1) → h'.get? m = some (mapObj T (.builtin "len")) ∧ h'.IsTuple T #[.ref it] ∧ h'.IsTupleIter it tup (i + 1) ∧ h'.IsTuple tup #[v1, v2] ∧ LenV h' v1 (n 0) ∧ LenV h' v2 (n 1) :=
      fun hs hit => ⟨hs.extBut _ _ h0 s1, s2.extBut hs.extBut h1, hit, s4.extBut hs.extBut h2, s5.at fun b hb o e => hs.extBut _ _ (fun q => h3 (q ▸ hb)) e, s6.at fun b hb o e => hs.extBut _ _ (fun q => h4 (q ▸ hb)) e⟩
    have hi' : i = 0 ∨ i = 1 := by omega
    rcases hi' with rfl | rfl
    · exact pyNext_mapLen_item s1 s2 s3 s4 (v := v1) (by simp) s5 (hn 0) h3 fun t h' tk' hit hs => hQ _ h' tk' ⟨t, rfl⟩ (up hs hit) fun b o hb e => hs.extBut _ _ (fun q => hb (by simp [q])) e
    · exact pyNext_mapLen_item s1 s2 s3 s4 (v := v2) (by simp) s6 (hn 1) h4 fun t h' tk' hit hs => hQ _ h' tk' ⟨t, rfl⟩ (up hs hit) fun b o hb e => hs.extBut _ _ (fun q => hb (by simp [q])) e
  done := fun s Q E st hQ => by
    obtain ⟨s1, s2, s3, s4, s5, s6⟩ := st
    exact pyNext_map_end hh s1 s2 s3 s4 (by simp) fun h' hs => hQ h' s.toks fun b o hb e => hs _ _ (fun q => hb (by simp [q])) e
  self := fun i s Q E st hQ => pyIter_map st.1 hQ
end
def PEnds (P : Heap → List (Addr × Obj) → Value → Prop) (Q : Value → Shared → Prop) (s : Shared) : Prop := ∀ v h' tk' news, Mem s.heap h' [] news → P s.heap news v → Q v { s with heap := h', toks := tk' }
theorem PEnds.use {P : Heap → List (Addr × Obj) → Value → Prop} {Q : Value → Shared → Prop} {s : Shared} (H : PEnds P Q s) {v : Value} {h' : Heap} {tk' : Nat} {news : List (Addr × Obj)} (D : Mem s.heap h' [] news) (p : P s.heap news v) : Q v { s with heap := h', toks := tk' } := H v h' tk' news D p
section
local macro_rules | `(tactic| x_close) => `(tactic| (refine PEnds.use (by assumption) (by assumption) ?_; exact ⟨_, _, _, rfl, rfl⟩))
theorem mapMake {prog : Program} {w : World} {s : Shared} {fr : Option (List Env)} {gd : Option (List Code)} {its : Array Value} {l : Addr} (hl : s.heap.get? l = some ⟨.type "tuple", none, .seq its 0, #[]⟩) {Q : Value → Shared → Prop} {E : Value → Shared → Prop}
    (hq : PEnds (fun _ news v => ∃ a b c, v = .ref a ∧ news = [(a, mapObj b (.builtin "len")), (b, { cls := .type "tuple", data := .seq #[.ref c] }), (c, { cls := .type "tuple_iterator", data := .fields #[.ref l, .int 0 0] })]) Q s) :
  wpAny (model prog w) {depth := 460, units := 300, frames := fr, guards := gd} (call (.type "map") [.builtin "len", .ref l]) Q E s := by
  x_run
end
end Mine
end
-- S9
section
open PySem PySem.W PySem.W.X PyProof.Rows PySem.Calls
set_option maxRecDepth 100000
set_option maxHeartbeats 8000000
namespace Mine
theorem fill9 : PySem.Challenge.rw_ah5040_01 = PySem.Challenge.rw_ah5040_01 ∧ Mine.hd.heap_39 = Mine.hd.heap_39 := by
  k_fill
  exact ⟨rfl, rfl⟩
local macro_rules | `(tactic| walk_at "my V") => `(tactic| (refine wpAny_call ?_; refine' enterV ?k3 ?k5 ?k6 ?k7 ?k8 ?kP ?kG ?kB ?_ ?c2 ?c3 ?c4 ?c5; (case k3 => k_asm); (case k5 => k_asm); (case k6 => k_is); (case k7 => k_is); (case k8 => k_room); (case kP => exact rfl); (case kG => exact fun _ => rfl); (case kB => exact fun _ => locs rfl); (case c5 => decide); (case c2 => exact rfl); (case c3 => exact rfl); (case c4 => exact rfl)))
local macro_rules | `(tactic| k_inst) => `(tactic| (refine' InstAt_of_get ?a ?b; (case a => exact Fr.keep (by k_asm) _ _ (by assumption)); (case b => exact Fr.keep (by k_asm) _ _ (by assumption))))
local macro_rules | `(tactic| walk_at "eval Call Attribute") => `(tactic| (k_here; (with_reducible show wpAny _ _ (eval (Expr.Call (Expr.Attribute _ _ _) [Expr.Starred _ _] [] _) _) _ _ _); refine starMethod ?_))
local macro_rules | `(tactic| walk_at "getAttr ref") => `(tactic| (k_here; k_dflt (refine' attr_sm ?k1 ?k2 ?k4 ?k5 ?k6 ?k7 ?k9 ?k10 ?k11 ?k12 ?k13 ?k14 ?_; (case k1 => k_asm); (case k2 => k_asm); (case k4 => k_inst); (case k5 => k_is); (case k6 => k_is); (case k7 => k_is); (case k9 => k_is); (case k10 => k_is); (case k11 => decide +kernel); (case k12 => k_get); (case k13 => k_is); (case k14 => k_handed); k_whole)))
local macro_rules | `(tactic| walk_at "callWith ref") => `(tactic| (k_here; (with_reducible show wpAny _ _ (callWith _ (Value.ref _) _ (backTo _ (starEach [Expr.Starred _ _] _)) []) _ _ _); k_dflt (refine' callWith_SM ?k1 ?k2 ?k3 ?k4 ?_; (case k1 => k_asm); (case k2 => k_asm); (case k3 => k_mem); (case k4 => k_is); k_whole)))
local macro_rules | `(tactic| walk_at "my stops") => `(tactic| ((fail_if_success (with_reducible show wpAny _ _ (call (Value.builtin "all") _) _ _ _)); (fail_if_success (with_reducible show wpAny _ _ (call (Value.builtin "max") _) _ _ _)); (fail_if_success (with_reducible show wpAny _ _ (call (Value.ref 157) _) _ _ _)); (fail_if_success (with_reducible show wpAny _ _ (call (Value.ref 112) _) _ _ _)); (fail_if_success (with_reducible show wpAny _ _ (call (Value.type "map") _) _ _ _))))
local macro_rules | `(tactic| walk_at "my walk") => `(tactic| (repeat' (walk_at "my stops"; first | (k_unfold; (try dsimp only)) | walk1 | (dsimp only; first | walk1 | (k_unfold; try dsimp only)) | (leave1; walk_say "STEP leave1"; try dsimp only))))
section
variable {w : World} {s : Shared} {p : Program} {loose : List Str} {mg mb : Str → Option Value} {base : Heap} {outer : List Env} {gd : Option (List Code)} {A₀ : Around} {Q E : Value → Shared → Prop}
theorem not_in_addrs {h : Heap} {v : Value} {n : Nat} {a : Addr} (l : LenV h v n) (ha : h.get? a = none) : a ∉ addrOf v := by
  intro hm
  rcases l with ⟨x, t, rfl, _⟩ | ⟨b, items, rfl, ⟨o, ho, _⟩, _⟩
  · simp [addrOf] at hm
  · simp [addrOf] at hm; subst hm; rw [ha] at ho; cases ho
theorem in_addrs {h : Heap} {v : Value} {n : Nat} {a : Addr} (l : LenV h v n) (hm : a ∈ addrOf v) : ∃ o, h.get? a = some o := by
  cases e : h.get? a with
  | none => exact absurd hm (not_in_addrs l e)
  | some o => exact ⟨o, rfl⟩
theorem maxMap {prog : Program} {A : Around} {v1 v2 : Value} {n1 n2 : Nat} {a b c tup : Addr} (hh : A.handled = none) (ht : s.heap.get? tup = some ⟨.type "tuple", none, .seq #[v1, v2] 0, #[]⟩)
    (ha : s.heap.get? a = some (mapObj b (.builtin "len"))) (hb : s.heap.get? b = some { cls := .type "tuple", data := .seq #[.ref c] }) (hc : s.heap.get? c = some { cls := .type "tuple_iterator", data := .fields #[.ref tup, .int 0 0] })
    (l1 : LenV s.heap v1 n1) (l2 : LenV s.heap v2 n2) (hn1 : n1 < 1000) (hn2 : n2 < 1000) (h3 : c ∉ addrOf v1) (h4 : c ∉ addrOf v2) (h : ∀ t h' tk', (∀ d o, d ≠ c → s.heap.get? d = some o → h'.get? d = some o) → Q (.int (max n1 n2 : Nat) t) { s with heap := h', toks := tk' }) :
    wpAny (model prog w) A (call (.builtin "max") [.ref a]) Q E s := by
  have h0 : a ≠ c := fun e => by subst e; rw [ha] at hc; simp at hc
  have h1 : b ≠ c := fun e => by subst e; rw [hb] at hc; simp at hc
  have h2 : tup ≠ c := fun e => by subst e; rw [ht] at hc; simp at hc
  refine call_max_walk (pyIter_map ha ⟨a, _, _, 2, _, _, _, rfl, Walks.mapLen2 (A := A.in1) hh (n := fun i => if i = 0 then n1 else n2) (fun i => by by_cases q : i = 0 <;> simp [q, hn1, hn2]) h0 h1 h2 h3 h4,
    ⟨ha, ⟨_, hb, rfl, 0, rfl⟩, ⟨_, hc, rfl, rfl⟩, ⟨_, ht, rfl, 0, rfl⟩, by simpa using l1, by simpa using l2⟩, fun d hd => ?_, by decide, CmpOf.ints_gt (fun i => ((if i = 0 then n1 else n2 : Nat) : Int)) (fun i v hv => hv), fun v h' tk hP hk => ?_⟩)
  · simp only [List.mem_cons, List.mem_append] at hd
    rcases hd with rfl | rfl | rfl | rfl | hd | hd
    · exact Heap.lt_size ha
    · exact Heap.lt_size hb
    · exact Heap.lt_size hc
    · exact Heap.lt_size ht
    · obtain ⟨o, ho⟩ := in_addrs l1 hd; exact Heap.lt_size ho
    · obtain ⟨o, ho⟩ := in_addrs l2 hd; exact Heap.lt_size ho
  · obtain ⟨t, rfl⟩ := hP
    have := h t h' tk (fun d o hd e => hk d o (by simp [hd]) e)
    have e : ((if argBest (fun i j => decide (((if i = 0 then n1 else n2 : Nat) : Int) > ((if j = 0 then n1 else n2 : Nat) : Int))) (2 - 1) = 0 then n1 else n2 : Nat) : Int) = ((max n1 n2 : Nat) : Int) := by
      simp only [argBest, Nat.reduceSub, Nat.max_def]
      by_cases q : n1 < n2
      · simp [q]; split <;> omega
      · simp [q]; split <;> omega
    rwa [← e] at this
theorem maximumS {v1 v2 : Value} {n1 n2 : Nat}
    (X : (Mine.hd.heap_39 w.params).In s.heap) (T : TopRead p loose mg mb s.heap) (l1 : LenV s.heap v1 n1) (l2 : LenV s.heap v2 n2) (hn1 : n1 < 1000) (hn2 : n2 < 1000)
    (h : ∀ t h' tk', s.heap.StaysIn h' → Q (.int (max n1 n2 : Nat) t) { s with heap := h', toks := tk' }) :
    wpAny (model PySem.Challenge.rw_ah5040_01.prog w) (QD 50 outer gd) (call (.ref 112) [v1, v2]) Q E s := by
  walk_at "my V"
  intro D' L' h' F' N'
  (try dsimp only); k_fold
  replace N' : News s.heap L' h' [(D', { cls := .type "tuple", data := .seq #[v1, v2] })] := N'
  walk_at "my walk"
  have l1' := l1.at (fun b _ o e => F'.keep b o e)
  have l2' := l2.at (fun b _ o e => F'.keep b o e)
  refine wpAny_le (mapMake (N' _ (.head _)).1 ?_) (Nat.le_of_ble_eq_true rfl) (Nat.le_of_ble_eq_true rfl)
  rintro v h1 tk1 news D ⟨a, b, c, rfl, rfl⟩
  have st := Mem.stays D
  have ha := (D.nw _ (.head _))
  have hb := (D.nw _ (.tail _ (.head _)))
  have hc := (D.nw _ (.tail _ (.tail _ (.head _))))
  have F1 := fr_stays F' st
  have N1 := news_stays N' st
  dsimp only at ha hb hc ⊢
  clear D
  walk_at "my walk"
  refine maxMap rfl (N1 _ (.head _)).1 ha.1 hb.1 hc.1 (l1'.at fun b _ o e => st b o e) (l2'.at fun b _ o e => st b o e) hn1 hn2 (not_in_addrs l1' hc.2) (not_in_addrs l2' hc.2) fun t h2 tk2 st2 => ?_
  walk_at "my walk"
  exact h _ _ _ (fun b o e => st2 _ _ (fun q => by rw [q] at e; have e := F'.keep _ _ e; rw [hc.2] at e; cases e) (st _ _ (F'.keep _ _ e)))
theorem quickS {se dse : Addr} {q1 q2 q3 : Int} {t1 t2 t3 ta tb : Tok} {vq vx : Value} {ep : Nat} {a b : Str}
    (X : (Mine.hd.heap_39 w.params).In s.heap) (T : TopRead p loose mg mb s.heap)
    (h0 : s.heap.get? se = some ⟨.ref 244, some dse, .plain, #[]⟩) (h9 : s.heap.get? dse = some (dictOf [⟨q1, .str (Str.ofString "qval") t1, vq⟩, ⟨q2, .str (Str.ofString "test_func") t2, .ref 157⟩, ⟨q3, .str (Str.ofString "external") t3, vx⟩] ep))
    (ha : a.length < 1000) (hb : b.length < 1000)
    (h : ∀ v h' tk', s.heap.StaysIn h' → (if a = b then ∃ t, v = .int 0 t else if 0 < a.length ∧ 0 < b.length then v = .none else ∃ t, v = .int (max a.length b.length : Nat) t) → Q v { s with heap := h', toks := tk' }) :
    wpAny (model PySem.Challenge.rw_ah5040_01.prog w) (QD 40 outer gd) (call (.ref 150) [.ref se, .str a ta, .str b tb]) Q E s := by
  walk_at "my V"
  intro D' L' h' F' N'
  (try dsimp only); k_fold
  replace N' : News s.heap L' h' [(D', { cls := .type "tuple", data := .seq #[.str a ta, .str b tb] })] := N'
  walk_at "my walk"
  refine wpAny_le (identS (X.keeps (Fr.keep (by assumption))) (T.keeps (Fr.keep (by assumption))) fun h1 tk1 st => ?_) (Nat.le_of_ble_eq_true rfl) (Nat.le_of_ble_eq_true rfl)
  rename Fr _ _ _ _ => F1
  rename News _ _ _ _ => N1
  have F2 := fr_stays F1 st
  have N2 := news_stays N1 st
  clear F1 N1
  dsimp only
  by_cases hab : a = b
  · rw [decide_eq_true hab]
    walk_at "my walk"
    exact h _ _ _ F2.keep (by rw [if_pos hab]; exact ⟨_, rfl⟩)
  · rw [decide_eq_false hab]
    walk_at "my walk"
    refine wpAny_le (all2 (N2 _ (.head _)).1 ha hb _ _ ?_) (Nat.le_of_ble_eq_true rfl) (Nat.le_of_ble_eq_true rfl)
    rintro v h3 tk3 st3 ⟨r, rfl, hr⟩
    have F3 := fr_stays F2 st3
    have N3 := news_stays N2 st3
    clear F2 N2
    dsimp only
    by_cases hr' : 0 < a.length ∧ 0 < b.length
    · rw [hr.mpr hr']
      walk_at "my walk"
      exact h _ _ _ F3.keep (by rw [if_neg hab, if_pos hr'])
    · rw [show r = false from by cases r with | false => rfl | true => exact absurd (hr.mp rfl) hr']
      walk_at "my walk"
      rename Fr _ _ _ _ => F4
      refine wpAny_le (maximumS (X.keeps F4.keep) (T.keeps F4.keep) (.inl ⟨_, _, rfl, rfl⟩) (.inl ⟨_, _, rfl, rfl⟩) ha hb fun t h5 tk5 st5 => ?_) (Nat.le_of_ble_eq_true rfl) (Nat.le_of_ble_eq_true rfl)
      dsimp only
      walk_at "my walk"
      exact h _ _ _ (fun b o e => st5 _ _ (F4.keep _ _ e)) (by rw [if_neg hab, if_neg hr']; exact ⟨_, rfl⟩)
theorem quickD {se dse : Addr} {q1 q2 q3 q4 : Int} {t1 t2 t3 t4 ta tb : Tok} {vq vx vr : Value} {ep : Nat} {a b : Str}
    (X : (Mine.hd.heap_39 w.params).In s.heap) (T : TopRead p loose mg mb s.heap)
    (h0 : s.heap.get? se = some ⟨.ref 285, some dse, .plain, #[]⟩) (h9 : s.heap.get? dse = some (dictOf [⟨q1, .str (Str.ofString "qval") t1, vq⟩, ⟨q2, .str (Str.ofString "test_func") t2, .ref 157⟩, ⟨q3, .str (Str.ofString "external") t3, vx⟩, ⟨q4, .str (Str.ofString "restricted") t4, vr⟩] ep))
    (ha : a.length < 1000) (hb : b.length < 1000)
    (h : ∀ v h' tk', s.heap.StaysIn h' → (if a = b then ∃ t, v = .int 0 t else if 0 < a.length ∧ 0 < b.length then v = .none else ∃ t, v = .int (max a.length b.length : Nat) t) → Q v { s with heap := h', toks := tk' }) :
    wpAny (model PySem.Challenge.rw_ah5040_01.prog w) (QD 40 outer gd) (call (.ref 150) [.ref se, .str a ta, .str b tb]) Q E s := by
  walk_at "my V"
  intro D' L' h' F' N'
  (try dsimp only); k_fold
  replace N' : News s.heap L' h' [(D', { cls := .type "tuple", data := .seq #[.str a ta, .str b tb] })] := N'
  walk_at "my walk"
  refine wpAny_le (identS (X.keeps (Fr.keep (by assumption))) (T.keeps (Fr.keep (by assumption))) fun h1 tk1 st => ?_) (Nat.le_of_ble_eq_true rfl) (Nat.le_of_ble_eq_true rfl)
  rename Fr _ _ _ _ => F1
  rename News _ _ _ _ => N1
  have F2 := fr_stays F1 st
  have N2 := news_stays N1 st
  clear F1 N1
  dsimp only
  by_cases hab : a = b
  · rw [decide_eq_true hab]
    walk_at "my walk"
    exact h _ _ _ F2.keep (by rw [if_pos hab]; exact ⟨_, rfl⟩)
  · rw [decide_eq_false hab]
    walk_at "my walk"
    refine wpAny_le (all2 (N2 _ (.head _)).1 ha hb _ _ ?_) (Nat.le_of_ble_eq_true rfl) (Nat.le_of_ble_eq_true rfl)
    rintro v h3 tk3 st3 ⟨r, rfl, hr⟩
    have F3 := fr_stays F2 st3
    have N3 := news_stays N2 st3
    clear F2 N2
    dsimp only
    by_cases hr' : 0 < a.length ∧ 0 < b.length
    · rw [hr.mpr hr']
      walk_at "my walk"
      exact h _ _ _ F3.keep (by rw [if_neg hab, if_pos hr'])
    · rw [show r = false from by cases r with | false => rfl | true => exact absurd (hr.mp rfl) hr']
      walk_at "my walk"
      rename Fr _ _ _ _ => F4
      refine wpAny_le (maximumS (X.keeps F4.keep) (T.keeps F4.keep) (.inl ⟨_, _, rfl, rfl⟩) (.inl ⟨_, _, rfl, rfl⟩) ha hb fun t h5 tk5 st5 => ?_) (Nat.le_of_ble_eq_true rfl) (Nat.le_of_ble_eq_true rfl)
      dsimp only
      walk_at "my walk"
      exact h _ _ _ (fun b o e => st5 _ _ (F4.keep _ _ e)) (by rw [if_neg hab, if_neg hr']; exact ⟨_, rfl⟩)
end
end Mine
end
-- S10
section
open PySem PySem.W PySem.W.X PyProof.Rows PySem.Calls
set_option maxRecDepth 100000
set_option maxHeartbeats 8000000
namespace Mine
theorem fill10 : PySem.Challenge.rw_ah5040_01 = PySem.Challenge.rw_ah5040_01 ∧ Mine.hd.heap_39 = Mine.hd.heap_39 := by
  k_fill
  exact ⟨rfl, rfl⟩
section
variable {w : World} {prog : Program} {A A₀ : Around} {s : Shared} {base : Heap} {outer : List Env} {K : Frag} {p : Program} {loose : List Str} {mg mb : Str → Option Value}
  {R : Result → Shared → Prop} {name qual : Str} {params : Arguments} {body : List Stmt} {scope : Scope} {dV kV doc pm cdv ct oc : Value} {an od : Option Addr} {osl : Array (Option Value)} {f : Addr} {args : Args} {binds : List (Str × Value)}
theorem enterC (X : K.In s.heap) (T : TopRead p loose mg mb s.heap)
    (ho : K.lookup f = some ⟨oc, od, .func (fnOf name qual params body scope dV kV doc pm an cdv ct), osl⟩) (hcd : codeIn K cdv qual = true) (hroom : A.depth < recursionLimit)
    (hbind : BindsTo s (fnOf name qual params body scope dV kV doc pm an cdv ct) args binds) (hkind : (binds.all fun y => scope.names.lookup y.1 == some .local || scope.names.lookup y.1 == some .cell) = true)
    (hnd : ((cellsFrom 0 scope.names []).map (·.1)).Nodup)
    (h : ∀ L' h₁ tk cells, Fr s.heap L' h₁ (bindL (envOfC qual scope L' f cdv).kindOf binds fun _ => none) → News s.heap L' h₁ cells →
      CellsAre (bindC (envOfC qual scope L' f cdv).kindOf binds fun _ => none) (cellsFrom (L' + 1) scope.names []) cells →
      wpAny (model prog w) (A.deeper (envOfC qual scope L' f cdv)) (execs body (envOfC qual scope L' f cdv))
        (fun fl s' => R (.ok (.ret (match fl with | .ret v => v | _ => .none))) s')
        (fun e s' => wpAny (model prog w) (A.deeper (envOfC qual scope L' f cdv)) (leaving (envOfC qual scope L' f cdv) e) (fun _ s'' => R (.error e) s'') (fun e' s'' => R (.error e') s'') s')
        { s with heap := h₁, toks := tk })
    (hco : scope.isCoroutine = false) (hgen : scope.isGenerator = false) (hk : scope.kind = .function) : codeAny (model prog w) A (.call (.ref f) args) R s := by
  refine codeAny_call_function (fd := fnOf name qual params body scope dV kV doc pm an cdv ct) (body := body) hroom (X _ _ ho) rfl hco hgen rfl (codeRec_of X hcd) (hbind _ _ _ _ ?_)
  refine wpAny_newFunctionEnv_cells hk (kindsX hkind _) fun env' he s' x => ?_
  subst he
  refine ⟨T.nolimit.keeps x.toInCall.keep, codeAny_func ?_⟩
  obtain ⟨h₁, tk, rfl, _⟩ := x.done
  obtain ⟨cells, NC, Y⟩ := Cl.news (h₀ := s.heap) (Nat.le_refl _) fun n c hm => ⟨x.cell n c (lookup_of_mem_nodup (cellsFrom_names scope.names 0 (s.heap.objs.size + 1) [] [] rfl ▸ hnd) hm), x.above n c hm⟩
  exact h s.heap.objs.size h₁ tk cells ⟨x.toInCall.ns, x.toInCall.keep, Nat.le_refl _⟩ NC Y
theorem enterVC {vs : List Value} {g₁ : Addr → Option (List (Str × Value))} {binds : Addr → List (Str × Value)} (X : K.In s.heap) (T : TopRead p loose mg mb s.heap)
    (ho : K.lookup f = some ⟨oc, od, .func (fnOf name qual params body scope dV kV doc pm an cdv ct), osl⟩) (hcd : codeIn K cdv qual = true) (hroom : A.depth < recursionLimit)
    (hp : peek1 K ⟨prog, w.params⟩ (bindArgs (fnOf name qual params body scope dV kV doc pm an cdv ct) args) = some (({ cls := .type "tuple", data := .seq vs.toArray } : Obj), g₁))
    (hg : ∀ D, g₁ D = some (binds D)) (hkind : ∀ D, ((binds D).all fun y => scope.names.lookup y.1 == some .local || scope.names.lookup y.1 == some .cell) = true)
    (hnd : ((cellsFrom 0 scope.names []).map (·.1)).Nodup)
    (h : ∀ D L' h₁ tk cells, Fr s.heap L' h₁ (bindL (envOfC qual scope L' f cdv).kindOf (binds D) fun _ => none) → News s.heap L' h₁ (cells ++ [(D, ({ cls := .type "tuple", data := .seq vs.toArray } : Obj))]) →
      CellsAre (bindC (envOfC qual scope L' f cdv).kindOf (binds D) fun _ => none) (cellsFrom (L' + 1) scope.names []) cells → D < L' →
      wpAny (model prog w) (A.deeper (envOfC qual scope L' f cdv)) (execs body (envOfC qual scope L' f cdv))
        (fun fl s' => R (.ok (.ret (match fl with | .ret v => v | _ => .none))) s')
        (fun e s' => wpAny (model prog w) (A.deeper (envOfC qual scope L' f cdv)) (leaving (envOfC qual scope L' f cdv) e) (fun _ s'' => R (.error e) s'') (fun e' s'' => R (.error e') s'') s')
        { s with heap := h₁, toks := tk })
    (hco : scope.isCoroutine = false) (hgen : scope.isGenerator = false) (hk : scope.kind = .function) : codeAny (model prog w) A (.call (.ref f) args) R s := by
  refine codeAny_call_function (fd := fnOf name qual params body scope dV kV doc pm an cdv ct) (body := body) hroom (X _ _ ho) rfl hco hgen rfl (codeRec_of X hcd) ?_
  refine wp_of_peek1S (o := ({ cls := .type "tuple", data := .seq vs.toArray } : Obj)) X rfl (r := binds) (fun D h' st hD hn hsz => ?_) _ g₁ hp hg
  refine wpAny_newFunctionEnv_cells (s := { s with heap := h' }) hk (kindsX (hkind D) _) fun env' he s' x => ?_
  subst he
  refine ⟨(T.nolimit.keeps st).keeps x.toInCall.keep, codeAny_func ?_⟩
  obtain ⟨h₁, tk, rfl, _⟩ := x.done
  obtain ⟨cells, NC, Y⟩ := Cl.news (h₀ := s.heap) hsz fun n c hm => ⟨x.cell n c (lookup_of_mem_nodup (cellsFrom_names scope.names 0 (h'.objs.size + 1) [] [] rfl ▸ hnd) hm), x.above n c hm⟩
  refine h D h'.objs.size h₁ tk cells ⟨x.toInCall.ns, fun b o e => x.toInCall.keep _ _ (st b o e), hsz⟩ (fun p hp => ?_) Y (Heap.lt_size hD)
  rcases List.mem_append.mp hp with hp | hp
  · exact NC p hp
  · rw [List.mem_singleton] at hp; subst hp
    exact ⟨x.toInCall.keep _ _ hD, Nat.ne_of_lt (Heap.lt_size hD), hn⟩
end
local macro_rules | `(tactic| walk_at "my VC") => `(tactic| (refine wpAny_call ?_; refine' enterVC ?k3 ?k5 ?k6 ?k7 ?k8 ?kP ?kG ?kB ?kD ?_ ?c2 ?c3 ?c4; (case k3 => k_asm); (case k5 => k_asm); (case k6 => k_is); (case k7 => k_is); (case k8 => k_room); (case kP => exact rfl); (case kG => exact fun _ => rfl); (case kB => exact fun _ => rfl); (case kD => decide +kernel); (case c2 => exact rfl); (case c3 => exact rfl); (case c4 => exact rfl); intro D' L' h' tk' cells' F' N' Y' l1; k_cells Y'; (try simp only [List.cons_append, List.nil_append] at N'); (try dsimp only); (show wpAny _ _ _ _ _ _); k_fold))
local macro_rules | `(tactic| walk_at "my S") => `(tactic| (refine wpAny_call ?_; refine' enterS ?k3 ?k5 ?k6 ?k7 ?k8 ?k9 ?kB ?_ ?c2 ?c3 ?c4 ?c5; (case k3 => k_asm); (case k5 => k_asm); (case k6 => k_is); (case k7 => k_is); (case k8 => k_room); (case k9 => first | exact BindsTo.of_eq rfl | exact binds_K (by k_in) rfl (by k_is) rfl rfl rfl); (case kB => exact locs rfl); (case c5 => decide); (case c2 => exact rfl); (case c3 => exact rfl); (case c4 => exact rfl)))
local macro_rules | `(tactic| walk_at "my V") => `(tactic| (refine wpAny_call ?_; refine' enterV ?k3 ?k5 ?k6 ?k7 ?k8 ?kP ?kG ?kB ?_ ?c2 ?c3 ?c4 ?c5; (case k3 => k_asm); (case k5 => k_asm); (case k6 => k_is); (case k7 => k_is); (case k8 => k_room); (case kP => exact rfl); (case kG => exact fun _ => rfl); (case kB => exact fun _ => locs rfl); (case c5 => decide); (case c2 => exact rfl); (case c3 => exact rfl); (case c4 => exact rfl)))
local macro_rules | `(tactic| k_inst) => `(tactic| (refine' InstAt_of_get ?a ?b; (case a => exact Fr.keep (by k_asm) _ _ (by assumption)); (case b => exact Fr.keep (by k_asm) _ _ (by assumption))))
local macro_rules | `(tactic| walk_at "eval Call Attribute") => `(tactic| (k_here; (with_reducible show wpAny _ _ (eval (Expr.Call (Expr.Attribute _ _ _) [Expr.Starred _ _] [] _) _) _ _ _); refine starMethod ?_))
local macro_rules | `(tactic| walk_at "getAttr ref") => `(tactic| (k_here; k_dflt (refine' attr_sm ?k1 ?k2 ?k4 ?k5 ?k6 ?k7 ?k9 ?k10 ?k11 ?k12 ?k13 ?k14 ?_; (case k1 => k_asm); (case k2 => k_asm); (case k4 => k_inst); (case k5 => k_is); (case k6 => k_is); (case k7 => k_is); (case k9 => k_is); (case k10 => k_is); (case k11 => decide +kernel); (case k12 => k_get); (case k13 => k_is); (case k14 => k_handed); k_whole)))
local macro_rules | `(tactic| walk_at "callWith ref") => `(tactic| (k_here; (with_reducible show wpAny _ _ (callWith _ (Value.ref _) _ (backTo _ (starEach [Expr.Starred _ _] _)) []) _ _ _); k_dflt (refine' callWith_SM ?k1 ?k2 ?k3 ?k4 ?_; (case k1 => k_asm); (case k2 => k_asm); (case k3 => k_mem); (case k4 => k_is); k_whole)))
local macro_rules | `(tactic| walk_at "my stops") => `(tactic| ((fail_if_success (with_reducible show wpAny _ _ (call (Value.builtin "all") _) _ _ _)); (fail_if_success (with_reducible show wpAny _ _ (call (Value.builtin "max") _) _ _ _)); (fail_if_success (with_reducible show wpAny _ _ (call (Value.ref _) _) _ _ _)); (fail_if_success (with_reducible show wpAny _ _ (call (Value.type "map") _) _ _ _)); (fail_if_success (with_reducible show wpAny _ _ (exec (PySem.Stmt.For _ _ _ _ _) _) _ _ _))))
local macro_rules | `(tactic| walk_at "my walk") => `(tactic| (repeat' (walk_at "my stops"; first | (k_unfold; (try dsimp only)) | walk1 | (dsimp only; first | walk1 | (k_unfold; try dsimp only)) | (leave1; walk_say "STEP leave1"; try dsimp only))))
section
variable {w : World} {s : Shared} {p : Program} {loose : List Str} {mg mb : Str → Option Value} {base : Heap} {outer : List Env} {gd : Option (List Code)} {A₀ : Around} {Q E : Value → Shared → Prop}
theorem getSeqL {se dse : Addr} {q1 q2 q3 : Int} {t1 t2 t3 tq : Tok} {vx v1 v2 : Value} {ep : Nat}
    (X : (Mine.hd.heap_39 w.params).In s.heap) (T : TopRead p loose mg mb s.heap)
    (h0 : s.heap.get? se = some ⟨.ref 244, some dse, .plain, #[]⟩) (h9 : s.heap.get? dse = some (dictOf [⟨q1, .str (Str.ofString "qval") t1, .int 1 tq⟩, ⟨q2, .str (Str.ofString "test_func") t2, .ref 157⟩, ⟨q3, .str (Str.ofString "external") t3, vx⟩] ep))
    (h : ∀ L c h' tk', s.heap.StaysIn h' → s.heap.get? L = none → h'.get? L = some (listOf #[v1, v2] c) → Q (.ref L) { s with heap := h', toks := tk' }) :
    wpAny (model PySem.Challenge.rw_ah5040_01.prog w) (QD 50 outer gd) (call (.ref 165) [.ref se, v1, v2]) Q E s := by
  walk_at "my VC"
  rename News _ _ _ _ => N1
  rename Fr _ _ _ _ => F1
  walk_at "my walk"
  rename News _ _ _ _ => N2
  rename Fr _ _ _ _ => F2
  have n := N2 _ (.head _)
  exact h _ _ _ _ F2.keep n.2.2 n.1
theorem getSeqD {se dse : Addr} {q1 q2 q3 q4 : Int} {t1 t2 t3 t4 tq : Tok} {vx v1 v2 : Value} {ep : Nat}
    (X : (Mine.hd.heap_39 w.params).In s.heap) (T : TopRead p loose mg mb s.heap)
    (h0 : s.heap.get? se = some ⟨.ref 285, some dse, .plain, #[]⟩) (h9 : s.heap.get? dse = some (dictOf [⟨q1, .str (Str.ofString "qval") t1, .int 1 tq⟩, ⟨q2, .str (Str.ofString "test_func") t2, .ref 157⟩, ⟨q3, .str (Str.ofString "external") t3, vx⟩, ⟨q4, .str (Str.ofString "restricted") t4, .bool false⟩] ep))
    (h : ∀ L c h' tk', s.heap.StaysIn h' → s.heap.get? L = none → h'.get? L = some (listOf #[v1, v2] c) → Q (.ref L) { s with heap := h', toks := tk' }) :
    wpAny (model PySem.Challenge.rw_ah5040_01.prog w) (QD 50 outer gd) (call (.ref 165) [.ref se, v1, v2]) Q E s := by
  walk_at "my VC"
  rename News _ _ _ _ => N1
  rename Fr _ _ _ _ => F1
  walk_at "my walk"
  rename News _ _ _ _ => N2
  rename Fr _ _ _ _ => F2
  have n := N2 _ (.head _)
  exact h _ _ _ _ F2.keep n.2.2 n.1
local macro_rules | `(tactic| walk_at "my VD") => `(tactic| (refine' enterVC ?k3 ?k5 ?k6 ?k7 ?k8 ?kP ?kG ?kB ?kD ?_ ?c2 ?c3 ?c4; (case k3 => k_asm); (case k5 => k_asm); (case k6 => k_is); (case k7 => k_is); (case k8 => k_room); (case kP => exact rfl); (case kG => exact fun _ => rfl); (case kB => exact fun _ => rfl); (case kD => decide +kernel); (case c2 => exact rfl); (case c3 => exact rfl); (case c4 => exact rfl); intro D' L' h' tk' cells' F' N' Y' l1; k_cells Y'; (try simp only [List.cons_append, List.nil_append] at N'); (try dsimp only); (show wpAny _ _ _ _ _ _); k_fold))
theorem getSeqB {RR : Result → Shared → Prop} {se dse : Addr} {q1 q3 : Int} {t1 t3 tq : Tok} {vx v1 v2 : Value} {ep : Nat}
    (X : (Mine.hd.heap_39 w.params).In s.heap) (T : TopRead p loose mg mb s.heap)
    (h0 : s.heap.get? se = some ⟨.ref 304, some dse, .plain, #[]⟩) (h9 : s.heap.get? dse = some (dictOf [⟨q1, .str (Str.ofString "qval") t1, .int 1 tq⟩, ⟨q3, .str (Str.ofString "external") t3, vx⟩] ep))
    (h : ∀ L c h' tk', s.heap.StaysIn h' → s.heap.get? L = none → h'.get? L = some (listOf #[v1, v2] c) → RR (.ok (.ret (.ref L))) { s with heap := h', toks := tk' }) :
    codeAny (model PySem.Challenge.rw_ah5040_01.prog w) (QD 50 outer gd) (.call (.ref 165) ⟨[.ref se, v1, v2], []⟩) RR s := by
  walk_at "my VD"
  rename News _ _ _ _ => N1
  rename Fr _ _ _ _ => F1
  walk_at "my walk"
  rename News _ _ _ _ => N2
  rename Fr _ _ _ _ => F2
  have n := N2 _ (.head _)
  exact h _ _ _ _ F2.keep n.2.2 n.1
end
end Mine
end
-- S11
section
open PySem PySem.W PySem.W.X PyProof.Rows PySem.Calls
set_option maxRecDepth 100000
set_option maxHeartbeats 8000000
namespace Mine
theorem fill11 : PySem.Challenge.rw_ah5040_01 = PySem.Challenge.rw_ah5040_01 ∧ Mine.hd.heap_39 = Mine.hd.heap_39 := by
  k_fill
  exact ⟨rfl, rfl⟩
local macro_rules | `(tactic| walk_at "my S") => `(tactic| ((try refine wpAny_call ?_); refine' enterS ?k3 ?k5 ?k6 ?k7 ?k8 ?k9 ?kB ?_ ?c2 ?c3 ?c4 ?c5; (case k3 => k_asm); (case k5 => k_asm); (case k6 => k_is); (case k7 => k_is); (case k8 => k_room); (case k9 => first | exact BindsTo.of_eq rfl | exact binds_K (by k_in) rfl (by k_is) rfl rfl rfl); (case kB => exact locs rfl); (case c5 => decide); (case c2 => exact rfl); (case c3 => exact rfl); (case c4 => exact rfl)))
local macro_rules | `(tactic| walk_at "my V") => `(tactic| (refine wpAny_call ?_; refine' enterV ?k3 ?k5 ?k6 ?k7 ?k8 ?kP ?kG ?kB ?_ ?c2 ?c3 ?c4 ?c5; (case k3 => k_asm); (case k5 => k_asm); (case k6 => k_is); (case k7 => k_is); (case k8 => k_room); (case kP => exact rfl); (case kG => exact fun _ => rfl); (case kB => exact fun _ => locs rfl); (case c5 => decide); (case c2 => exact rfl); (case c3 => exact rfl); (case c4 => exact rfl)))
local macro_rules | `(tactic| k_inst) => `(tactic| (refine' InstAt_of_get ?a ?b; (case a => exact Fr.keep (by k_asm) _ _ (by assumption)); (case b => exact Fr.keep (by k_asm) _ _ (by assumption))))
local macro_rules | `(tactic| walk_at "eval Call Attribute") => `(tactic| (k_here; (with_reducible show wpAny _ _ (eval (Expr.Call (Expr.Attribute _ _ _) [Expr.Starred _ _] [] _) _) _ _ _); refine starMethod ?_))
local macro_rules | `(tactic| walk_at "getAttr ref") => `(tactic| (k_here; k_dflt (refine' attr_sm ?k1 ?k2 ?k4 ?k5 ?k6 ?k7 ?k9 ?k10 ?k11 ?k12 ?k13 ?k14 ?_; (case k1 => k_asm); (case k2 => k_asm); (case k4 => k_inst); (case k5 => k_is); (case k6 => k_is); (case k7 => k_is); (case k9 => k_is); (case k10 => k_is); (case k11 => decide +kernel); (case k12 => k_get); (case k13 => k_is); (case k14 => k_handed); k_whole)))
local macro_rules | `(tactic| walk_at "callWith ref") => `(tactic| (k_here; (with_reducible show wpAny _ _ (callWith _ (Value.ref _) _ (backTo _ (starEach [Expr.Starred _ _] _)) []) _ _ _); k_dflt (refine' callWith_SM ?k1 ?k2 ?k3 ?k4 ?_; (case k1 => k_asm); (case k2 => k_asm); (case k3 => k_mem); (case k4 => k_is); k_whole)))
local macro_rules | `(tactic| walk_at "callWith ref") => `(tactic| (k_here; (with_reducible show wpAny _ _ (callWith _ (Value.ref _) _ (backTo _ (starEach [Expr.Starred _ _] _)) []) _ _ _); k_dflt (refine' callWith_SI ?k1 ?k2 ?k3 ?k4 ?_; (case k1 => k_in); (case k2 => k_inst); (case k3 => rfl); (case k4 => k_is); k_whole)))
local macro_rules | `(tactic| walk_at "my stops") => `(tactic| ((fail_if_success (with_reducible show wpAny _ _ (call (Value.builtin "all") _) _ _ _)); (fail_if_success (with_reducible show wpAny _ _ (call (Value.builtin "max") _) _ _ _)); (fail_if_success (with_reducible show wpAny _ _ (call (Value.ref _) _) _ _ _)); (fail_if_success (with_reducible show wpAny _ _ (call (Value.type "map") _) _ _ _)); (fail_if_success (with_reducible show wpAny _ _ (exec (PySem.Stmt.For _ _ _ _ _) _) _ _ _))))
local macro_rules | `(tactic| walk_at "my walk") => `(tactic| (repeat' (walk_at "my stops"; first | (k_unfold; (try dsimp only)) | walk1 | (dsimp only; first | walk1 | (k_unfold; try dsimp only)) | (leave1; walk_say "STEP leave1"; try dsimp only))))
section
variable {w : World} {s : Shared} {p : Program} {loose : List Str} {mg mb : Str → Option Value} {base : Heap} {outer : List Env} {gd : Option (List Code)} {A₀ : Around} {Q E : Value → Shared → Prop}

local macro_rules | `(tactic| walk_at "my after") => `(tactic| ((rename Fr _ _ _ _ => F1); (rename News _ _ _ _ => N1)))
theorem seqV_str {prog : Program} {h : Heap} {a : Str} {t : Tok} (ha : a.length < 1000) : SeqV prog w h (.str a t) a.length (fun i v => ∃ u, v = .str ⟨#[a.cps.getD i 0]⟩ u) where
  len := fun A s E Q _ hQ => PyProof.Rows.len_str (by omega) (hQ _ _)
  item := fun A s E Q value slice k t' _ h0 h1 hs hQ => by
    refine tail_any (typeIs_str s a t) F.slot_str_getitem.lookup ?_ hs
    have hl : a.length = a.cps.size := rfl
    have hk : k.toNat < a.cps.size := by omega
    refine PyProof.Rows.getItem_str (c := a.cps.getD k.toNat 0) ?_ ?_ (hQ _ _ ⟨_, rfl⟩)
    · simp; omega
    · have e : seqIndex? k a.length = some k.toNat := by
        simp [seqIndex?, Int.not_lt.mpr h0, h0, h1]
      rw [e]
      simp [hk]
def eqS (a b : Str) (i j : Nat) : Bool := decide (a.cps.getD i 0 = b.cps.getD j 0)
def levQ (a b : Str) : Int := if a = b then 0 else if 0 < a.length ∧ 0 < b.length then levD (eqS a b) a.length b.length else (max a.length b.length : Nat)
theorem below_le {Γ : Ctx} {A : Around} {D U : Nat} (hd : A.depth ≤ D) (hu : A.units ≤ U) (h : Γ.Below A) : Γ.Below { A with depth := D, units := U } :=
  ⟨h.1, Nat.le_trans h.2.1 hd, h.2.2.1, h.2.2.2.1, Nat.le_trans h.2.2.2.2 hu⟩
theorem codeAny_le {M : Model} {A : Around} {c : Code} {R : Result → Shared → Prop} {s : Shared} {D U : Nat} (h : codeAny M { A with depth := D, units := U } c R s) (hd : A.depth ≤ D) (hu : A.units ≤ U) : codeAny M A c R s :=
  fun Γ p hc hΓ => h Γ p hc (below_le hd hu hΓ)
theorem callL1 {se dse : Addr} {q1 q2 q3 : Int} {t1 t2 t3 tq ta tb : Tok} {vx : Value} {ep : Nat} {a b : Str} {R : Result → Shared → Prop}
    (X : (Mine.hd.heap_39 w.params).In s.heap) (T : TopRead p loose mg mb s.heap)
    (h0 : s.heap.get? se = some ⟨.ref 244, some dse, .plain, #[]⟩) (h9 : s.heap.get? dse = some (dictOf [⟨q1, .str (Str.ofString "qval") t1, .int 1 tq⟩, ⟨q2, .str (Str.ofString "test_func") t2, .ref 157⟩, ⟨q3, .str (Str.ofString "external") t3, vx⟩] ep))
    (ha : a.length < 1000) (hb : b.length < 1000)
    (h : ∀ t h' tk', s.heap.StaysIn h' → R (.ok (.ret (.int (levQ a b) t))) { s with heap := h', toks := tk' }) :
    codeAny (model PySem.Challenge.rw_ah5040_01.prog w) (QD 30 outer gd) (.call (.ref 241) ⟨[.ref se, .str a ta, .str b tb], []⟩) R s := by
  walk_at "my S"
  intro L' h' F' N'
  (try dsimp only); (show wpAny _ _ _ _ _ _); k_fold
  walk_at "my walk"
  rename Fr _ _ _ _ => F1
  refine wpAny_le (getSeqL (X.keeps F1.keep) (T.keeps F1.keep) (F1.keep _ _ h0) (F1.keep _ _ h9) fun L c h1 tk1 st nl hl => ?_) (Nat.le_of_ble_eq_true rfl) (Nat.le_of_ble_eq_true rfl)
  obtain ⟨F2, N2⟩ := fr_news_set F1 News.nil st hl nl
  clear F1
  dsimp only
  walk_at "my walk"
  rename Fr _ _ _ _ => F3
  refine wpAny_le (quickS (X.keeps F3.keep) (T.keeps F3.keep) (F3.keep _ _ h0) (F3.keep _ _ h9) ha hb fun v h3 tk3 st3 hv => ?_) (Nat.le_of_ble_eq_true rfl) (Nat.le_of_ble_eq_true rfl)
  have F4 := fr_stays F3 st3
  have N4 : News s.heap L' h3 [] := News.nil
  dsimp only
  by_cases hab : a = b
  · rw [if_pos hab] at hv
    obtain ⟨t, rfl⟩ := hv
    walk_at "my walk"
    have e : levQ a b = 0 := by rw [levQ, if_pos hab]
    rw [← e]
    exact h _ _ _ (Fr.keep (by assumption))
  · rw [if_neg hab] at hv
    by_cases hz : 0 < a.length ∧ 0 < b.length
    · rw [if_pos hz] at hv
      subst hv
      walk_at "my walk"
      rename Fr _ _ _ _ => F5
      refine wpAny_le (cycled (X.keeps F5.keep) (T.keeps F5.keep) (F5.keep _ _ h0) (F5.keep _ _ h9) (seqV_str ha) (seqV_str hb) ha hb (eqb := eqS a b) (fun fs i j x y s' Q' E' hi hj hx hy st hq => ?_) fun h6 tk6 t st6 => ?_) (Nat.le_of_ble_eq_true rfl) (Nat.le_of_ble_eq_true rfl)
      · obtain ⟨u, rfl⟩ := hx
        obtain ⟨u', rfl⟩ := hy
        refine identS (X.keeps fun b o e => st _ _ (F5.keep _ _ e)) (T.keeps fun b o e => st _ _ (F5.keep _ _ e)) fun h' tk' st' => ?_
        rw [show decide ((⟨#[a.cps.getD i 0]⟩ : Str) = ⟨#[b.cps.getD j 0]⟩) = eqS a b i j by simp [eqS]]
        exact hq _ _ st'
      · dsimp only
        walk_at "my walk"
        have e : levQ a b = levD (eqS a b) a.length b.length := by rw [levQ, if_neg hab, if_pos hz]
        rw [← e]
        exact h _ _ _ fun b o e => st6 _ _ (F5.keep _ _ e)
    · rw [if_neg hz] at hv
      obtain ⟨t, rfl⟩ := hv
      walk_at "my walk"
      have e : levQ a b = (max a.length b.length : Nat) := by rw [levQ, if_neg hab, if_neg hz]
      rw [← e]
      exact h _ _ _ (Fr.keep (by assumption))
theorem distL1 {se dse : Addr} {q1 q2 q3 : Int} {t1 t2 t3 tq ta tb : Tok} {vx : Value} {ep : Nat} {a b : Str}
    (X : (Mine.hd.heap_39 w.params).In s.heap) (T : TopRead p loose mg mb s.heap)
    (h0 : s.heap.get? se = some ⟨.ref 244, some dse, .plain, #[]⟩) (h9 : s.heap.get? dse = some (dictOf [⟨q1, .str (Str.ofString "qval") t1, .int 1 tq⟩, ⟨q2, .str (Str.ofString "test_func") t2, .ref 157⟩, ⟨q3, .str (Str.ofString "external") t3, vx⟩] ep))
    (ha : a.length < 1000) (hb : b.length < 1000)
    (h : ∀ t h' tk', s.heap.StaysIn h' → Q (.int (levQ a b) t) { s with heap := h', toks := tk' }) :
    wpAny (model PySem.Challenge.rw_ah5040_01.prog w) (QD 20 outer gd) (call (.ref 122) [.ref se, .str a ta, .str b tb]) Q E s := by
  walk_at "my V"
  intro D' L' h' F' N'
  (try dsimp only); (show wpAny _ _ _ _ _ _); k_fold
  replace N' : News s.heap L' h' [(D', { cls := .type "tuple", data := .seq #[.str a ta, .str b tb] })] := N'
  walk_at "my walk"
  rename Fr _ _ _ _ => F1
  refine wpAny_call (kco_code (X.keeps F1.keep) (by k_inst) rfl (by k_is) (by k_is) (by k_is) ?_)
  refine codeAny_le (callL1 (X.keeps F1.keep) (T.keeps F1.keep) (F1.keep _ _ h0) (F1.keep _ _ h9) ha hb fun t h2 tk2 st => ?_) (Nat.le_of_ble_eq_true rfl) (Nat.le_of_ble_eq_true rfl)
  exact h _ _ _ fun b o e => st _ _ (F1.keep _ _ e)
end
end Mine
end
-- L1
section
open PySem PySem.W PySem.W.X PyProof.Rows PySem.Calls
set_option maxRecDepth 100000
set_option maxHeartbeats 2000000
namespace Mine
/-- an iterator whose own objects are written out; `fr` are the objects that an item brings along -/
structure ItX (prog : Program) (w : World) (A : Around) (target : Expr) (g : Heap) (I : Addr) (wr : List Addr) (Own : Nat → List (Addr × Obj) → Prop) (n : Nat) (P : Nat → Value → List (Addr × Obj) → Prop) : Prop where
  addrs : ∀ i own, Own i own → own.map (·.1) = wr
  item : ∀ i (s : Shared) (Q : Value → Shared → Prop) (E₁ E : Value → Shared → Prop) (own : List (Addr × Obj)), i < n → Own i own → (∀ p ∈ own, s.heap.get? p.1 = some p.2) → g.StaysIn s.heap →
    (∀ v fr own' h' tk, P i v fr → Own (i + 1) own' → (∀ p ∈ own', h'.get? p.1 = some p.2) → (∀ p ∈ fr, h'.get? p.1 = some p.2 ∧ s.heap.get? p.1 = none) → (∀ b o, b ∉ wr → s.heap.get? b = some o → h'.get? b = some o) → Q v { s with heap := h', toks := tk }) →
    wpAny (model prog w) A (pyNext (.ref I)) (fun r s₁ => ∃ v, r = some v ∧ wpAny (model prog w) A (letOwnedTupleGo target (.ref I) v) (fun _ s₂ => Q v s₂) E₁ s₁) E s
  done : ∀ (s : Shared) (Q : Option Value → Shared → Prop) (E : Value → Shared → Prop) (own : List (Addr × Obj)), Own n own → (∀ p ∈ own, s.heap.get? p.1 = some p.2) → g.StaysIn s.heap →
    (∀ h' tk, (∀ b o, b ∉ wr → s.heap.get? b = some o → h'.get? b = some o) → Q none { s with heap := h', toks := tk }) → wpAny (model prog w) A (pyNext (.ref I)) Q E s
section
variable {prog : Program} {w : World} {A : Around} {E : Value → Shared → Prop} {s : Shared}
theorem fr_wr {g h h' : Heap} {L : Addr} {m : Str → Option Value} {wr : List Addr} (F : Fr g L h m) (hL : L ∉ wr) (hg : ∀ b ∈ wr, g.get? b = none) (hk : ∀ b o, b ∉ wr → h.get? b = some o → h'.get? b = some o) : Fr g L h' m := by
  obtain ⟨⟨o, es, ep, ho, r⟩, kp, ab⟩ := F
  exact ⟨⟨o, es, ep, hk _ _ hL ho, r⟩, fun b o e => hk _ _ (fun q => by rw [hg b q] at e; cases e) (kp b o e), ab⟩
theorem loop_itX {R : Result → Shared → Prop} {env : Env} {target : Expr} {body : List Stmt} {I : Addr} {g : Heap} {wr : List Addr} {Own : Nat → List (Addr × Obj) → Prop} {n : Nat} {P : Nat → Value → List (Addr × Obj) → Prop} {m₀ : Str → Option Value} {news₀ own₀ : List (Addr × Obj)}
    (W : ItX prog w A target g I wr Own n P)
    (J : Nat → (Str → Option Value) → List (Addr × Obj) → Prop) (hO : Own 0 own₀)
    (F₀ : Fr g env.locals s.heap m₀) (N₀ : News g env.locals s.heap (own₀ ++ news₀)) (hI₀ : ∀ p ∈ news₀, p.1 ∉ wr) (hJ₀ : J 0 m₀ news₀)
    (turn : ∀ i m news h tk v fr own, i < n → P i v fr → Own (i + 1) own → J i m news → (∀ p ∈ news, p.1 ∉ wr) → (∀ p ∈ fr, p.1 ∉ wr) → (∀ p ∈ fr, ∀ q ∈ news, p.1 ≠ q.1) → Fr g env.locals h m → News g env.locals h (own ++ (fr ++ news)) →
      wpAny (model prog w) A (assign target env v) (fun _ s₂ => wpAny (model prog w) A (execs body env) (fun f s₃ => match f with
        | .next | .cont => ∃ h' tk' m' news', s₃ = { s with heap := h', toks := tk' } ∧ Fr g env.locals h' m' ∧ News g env.locals h' (own ++ news') ∧ (∀ p ∈ news', p.1 ∉ wr) ∧ J (i + 1) m' news'
        | .brk => R (.ok .next) s₃
        | .ret v => R (.ok (.ret v)) s₃) (notedBy (model prog w) A env fun e s' => R (.error e) s') s₂) (notedBy (model prog w) A env fun e s' => R (.error e) s') { s with heap := h, toks := tk })
    (done : ∀ m news h tk, J n m news → Fr g env.locals h m → News g env.locals h news → R (.ok .next) { s with heap := h, toks := tk }) :
    codeAny (model prog w) A (.forLoop target (.ref I) body [] env) R s := by
  have hown : ∀ {i own}, Own i own → ∀ b ∈ wr, ∃ p ∈ own, p.1 = b := fun ho b hb => by rw [← W.addrs _ _ ho] at hb; exact List.mem_map.mp hb
  have hwr : (env.locals ∉ wr) ∧ ∀ b ∈ wr, g.get? b = none := by
    refine ⟨fun hb => ?_, fun b hb => ?_⟩
    · obtain ⟨p, hp, e⟩ := hown hO _ hb
      exact (N₀ p (List.mem_append_left _ hp)).2.1 e
    · obtain ⟨p, hp, rfl⟩ := hown hO _ hb
      exact (N₀ p (List.mem_append_left _ hp)).2.2
  have own_wr : ∀ {i own}, Own i own → ∀ p ∈ own, p.1 ∈ wr := fun ho p hp => by rw [← W.addrs _ _ ho]; exact List.mem_map_of_mem hp
  refine codeAny_forLoop_any (fun k s' => ∃ i h tk m news own, k = n + 1 - i ∧ i ≤ n ∧ s' = { s with heap := h, toks := tk } ∧ J i m news ∧ Own i own ∧ (∀ p ∈ news, p.1 ∉ wr) ∧ Fr g env.locals h m ∧ News g env.locals h (own ++ news)) ?_ (n + 1)
    ⟨0, s.heap, s.toks, m₀, news₀, own₀, rfl, Nat.zero_le _, rfl, hJ₀, hO, hI₀, F₀, N₀⟩
  rintro k s' ⟨i, h, tk, m, news, own, rfl, hi, rfl, hJ, ho, hI, F, Nw⟩
  by_cases hlt : i < n
  · refine wpAny_mono (W.item i _ (fun v s₂ => _) _ _ own hlt ho (fun p hp => (Nw p (List.mem_append_left _ hp)).1) F.keep fun v fr own' h₁ tk₁ hP ho' hown₁ hfr hk => ?_) (fun r s₁ hr => by obtain ⟨v, rfl, hr⟩ := hr; exact hr) (fun _ _ e => e)
    have F₁ := fr_wr F hwr.1 hwr.2 hk
    obtain ⟨oL, _, _, hoL, _⟩ := F.ns
    have N₁ : News g env.locals h₁ (own' ++ (fr ++ news)) := fun p hp => by
      rcases List.mem_append.mp hp with hp | hp
      · exact ⟨hown₁ p hp, fun q => hwr.1 (q ▸ own_wr ho' p hp), hwr.2 _ (own_wr ho' p hp)⟩
      · rcases List.mem_append.mp hp with hp | hp
        · refine ⟨(hfr p hp).1, fun q => ?_, ?_⟩
          · have := (hfr p hp).2; rw [q] at this; rw [hoL] at this; cases this
          · cases e : g.get? p.1 with
            | none => rfl
            | some o => have := F.keep _ _ e; rw [(hfr p hp).2] at this; cases this
        · have := Nw p (List.mem_append_right _ hp)
          exact ⟨hk _ _ (hI p hp) this.1, this.2⟩
    refine wpAny_mono (turn i m news h₁ _ v fr own' hlt hP ho' hJ hI (fun p hp hb => ?_) (fun p hp q hq e => ?_) F₁ N₁) (fun _ s₂ h₂ => wpAny_mono h₂ (fun f s₃ h₃ => ?_) fun _ _ e => e) fun _ _ e => e
    · obtain ⟨q, hq, e⟩ := hown ho _ hb
      have h1 := (Nw q (List.mem_append_left _ hq)).1
      have := (hfr p hp).2
      rw [← e, h1] at this; cases this
    · have h1 := (Nw q (List.mem_append_right _ hq)).1
      have := (hfr p hp).2
      rw [e, h1] at this; cases this
    cases f with
    | brk => exact h₃
    | ret v => exact h₃
    | next =>
      obtain ⟨h', tk', m', news', rfl, F', N', hI', hJ'⟩ := h₃
      exact ⟨n + 1 - (i + 1), by omega, i + 1, h', tk', m', news', own', rfl, hlt, rfl, hJ', ho', hI', F', N'⟩
    | cont =>
      obtain ⟨h', tk', m', news', rfl, F', N', hI', hJ'⟩ := h₃
      exact ⟨n + 1 - (i + 1), by omega, i + 1, h', tk', m', news', own', rfl, hlt, rfl, hJ', ho', hI', F', N'⟩
  · have hin : i = n := by omega
    subst hin
    refine W.done _ _ _ own ho (fun p hp => (Nw p (List.mem_append_left _ hp)).1) F.keep fun h₁ tk₁ hk => wpAny_execs_nil ?_
    exact done m news h₁ _ hJ (fr_wr F hwr.1 hwr.2 hk) fun p hp => ⟨hk _ _ (hI p hp) (Nw p (List.mem_append_right _ hp)).1, (Nw p (List.mem_append_right _ hp)).2⟩

/-- the enumerating of a text, from 1 on -/
def EnOwn (it e : Addr) (T : String) (x : Str) (t : Tok) (i : Nat) (own : List (Addr × Obj)) : Prop :=
  ∃ o₁ o₂ old, own = [(e, o₁), (it, o₂)] ∧ o₁ = { cls := .type "enumerate", dict := none, data := .fields #[.none, .bool false, .ref it, rawInt ((i : Int) + 1), .none, old], slots := #[] } ∧ o₂.cls = .type T ∧ o₂.data = .fields #[.str x t, .int i 0]
theorem Draws.shift {it : Addr} {fp : List Addr} {n : Nat} {P : Nat → Value → Prop} {St : Nat → Heap → Prop} (D : Draws prog w A it fp n P St) : Draws prog w A it fp (n + 1) (fun j v => P (j - 1) v) (fun j h => 1 ≤ j ∧ St (j - 1) h) where
  live := fun i h st => D.live _ _ st.2
  frame := fun i h h' st hk => ⟨st.1, D.frame _ _ _ st.2 hk⟩
  item := fun i s Q E hi st hQ => D.item (i - 1) s Q E (by omega) st.2 fun x h' tk hP hs hb => hQ x h' tk hP ⟨by omega, by rwa [show i + 1 - 1 = i - 1 + 1 by omega]⟩ hb
  done := fun s Q E st hE => D.done s Q E st.2 hE
theorem itX_enum {x : Str} {t : Tok} {T : String} {it e : Addr} {elts : List Expr} {k : Nat} {pos : Pos} {g : Heap} (hh : A.handled = none) (hT : T = strIterType x) (hne : e ≠ it) :
    ItX prog w A (.Tuple elts k pos) g e [e, it] (EnOwn it e T x t) x.cps.size (fun i v fr => ∃ a tk u, v = .ref a ∧ fr = [(a, { cls := .type "tuple", data := .seq #[.int ((i : Int) + 1) tk, .str ⟨#[x.cps.getD i 0]⟩ u] })]) := by
  have hD : Draws prog w A.in1 it [it] x.cps.size (fun i v => ∃ c u, x.cps[i]? = some c ∧ v = Value.str ⟨#[c]⟩ u) (fun i h => h.IsStrIter it T x t i) := by
    subst hT
    unfold strIterType
    by_cases q : x.cps.all (· < 128) = true
    · simp only [q, if_true]
      exact Draws.strAscii (A := A.in1) hh it x t
    · simp only [q]
      exact Draws.strWide (A := A.in1) hh it x t
  have D := Mine.Draws.shift hD
  have hci : ∀ i : Nat, ((i + 1 : Nat) : Int) = (i : Int) + 1 := fun i => by omega
  refine ⟨fun i own h => ?_, fun i s Q E₁ E own hi ho hs _ hQ => ?_, fun s Q E own ho hs _ hQ => ?_⟩
  · obtain ⟨_, _, _, rfl, _⟩ := h; rfl
  · obtain ⟨o₁, o₂, old, rfl, rfl, hc, hd⟩ := ho
    have h1 := hs _ (.head _)
    have h2 := hs _ (.tail _ (.head _))
    refine wpAny_pyNext_enum_itemD (i := i + 1) D (by rw [hci]; exact h1) ⟨by omega, ⟨o₂, h2, hc, hd⟩⟩ (by omega) hne (by simpa using hne) fun y h' tk hP hout hst hT' hsz hk => ?_
    refine ⟨_, rfl, wpAny_letOwnedTupleGo_enum hout fun h'' he'' hs'' => ?_⟩
    obtain ⟨c, u, hc', rfl⟩ := hP
    have e1 : x.cps[i]? = some c := by simpa using hc'
    have e2 : x.cps.getD i 0 = c := by rw [Array.getD_eq_getD_getElem?, e1]; rfl
    obtain ⟨o', ho', hcc, hdd⟩ := hst.2
    have hel : e < s.heap.objs.size := Heap.lt_size h1
    refine hQ (.ref s.heap.objs.size) [(s.heap.objs.size, { cls := .type "tuple", data := .seq #[.int ((i : Int) + 1) tk, .str ⟨#[x.cps.getD i 0]⟩ u] })] [(e, { cls := .type "enumerate", dict := none, data := .fields #[.none, .bool false, .ref it, rawInt (((i + 1 : Nat) : Int) + 1), .none, .str ⟨#[c]⟩ u], slots := #[] }), (it, o')] h'' _ ⟨_, tk, u, rfl, rfl⟩ ⟨_, _, _, rfl, rfl, hcc, by simpa using hdd⟩ (fun p hp => ?_) (fun p hp => ?_) fun b o hb ho => ?_
    · simp only [List.mem_cons, List.not_mem_nil, or_false] at hp
      rcases hp with rfl | rfl
      · exact he''
      · exact (hs''.2 _ (Ne.symm hne)).trans ho'
    · simp only [List.mem_cons, List.not_mem_nil, or_false] at hp
      subst hp
      refine ⟨?_, get_size_none _⟩
      rw [hci] at hT'
      rw [e2]
      exact (hs''.2 _ (Nat.ne_of_gt hel)).trans hT'
    · simp only [List.mem_cons, List.not_mem_nil, or_false, not_or] at hb
      exact (hs''.2 _ hb.1).trans (hk b o hb.1 hb.2 ho)
  · obtain ⟨o₁, o₂, old, rfl, rfl, hc, hd⟩ := ho
    have h1 := hs _ (.head _)
    have h2 := hs _ (.tail _ (.head _))
    refine wpAny_pyNext_enum_endD D h1 ⟨by omega, ⟨o₂, h2, hc, by simpa using hd⟩⟩ fun h' hx => hQ h' s.toks fun b o hb ho => ?_
    simp only [List.mem_cons, List.not_mem_nil, or_false, not_or] at hb
    exact hx b o hb.2 ho
end
end Mine
end
-- Z1
section
open PySem PySem.W PySem.W.X PyProof.Rows PySem.Calls
set_option maxRecDepth 100000
set_option maxHeartbeats 2000000
namespace Mine
section
variable {prog : Program} {w : World} {A : Around} {E : Value → Shared → Prop} {s : Shared}
theorem forIn_inv {M : Model} {α β : Type} {f : α → β → Sem (ForInStep β)} {Q : β → Shared → Prop} (I : List α → β → Shared → Prop)
    (turn : ∀ x rest b s, I (x :: rest) b s → wpAny M A (f x b) (fun r s' => match r with | .yield b' => I rest b' s' | .done b' => Q b' s') E s)
    (fin : ∀ b s, I [] b s → Q b s) : ∀ xs b s, I xs b s → wpAny M A (forIn xs b f) Q E s
  | [], b, s, h => by
    rw [List.forIn_nil]; exact wpAny_pure (fin b s h)
  | x :: xs, b, s, h => by
    rw [List.forIn_cons]
    refine wpAny_bind (wpAny_mono (turn x xs b s h) (fun r s' hr => ?_) fun _ _ e => e)
    cases r with
    | done b' => exact wpAny_pure hr
    | yield b' => exact forIn_inv I turn fin xs b' s' hr

theorem wpAny_alive {M : Model} {a : Addr} {Q : Option Obj → Shared → Prop} (h : Q (s.heap.get? a) s) : wpAny M A (loadIfAlive a) Q E s := fun Γ p hΓ => by
  unfold loadIfAlive
  rw [Sem.wp_loadIfAlive]
  exact wpAny_pure h Γ p hΓ
theorem freeOrNot {z : Addr} {f0 : Value} {b : Bool} {TI TO : Addr} {Q : Bool → Shared → Prop} (hz : s.heap.get? z = some { cls := .type "zip", dict := none, data := .fields #[f0, .bool b, .bool false, .ref TI, .ref TO], slots := #[] }) (hf : f0 = .none ∨ ∃ T : Addr, f0 = rawInt (T : Nat))
    (h : ∀ r b' h', h'.get? z = some { cls := .type "zip", dict := none, data := .fields #[f0, .bool b', .bool false, .ref TI, .ref TO], slots := #[] } → Heap.SameBut z s.heap h' → Q r { s with heap := h' }) :
    wpAny (model prog w) A (Builtin.SmallTypes.ownedTupleIsFree (.ref z)) Q E s := by
  unfold Builtin.SmallTypes.ownedTupleIsFree
  rcases hf with rfl | ⟨T, rfl⟩
  · exact wpAny_bind (wpAny_field hz rfl (x := .none) rfl (wpAny_pure (h true b s.heap hz (Heap.SameBut.refl ..))))
  · refine wpAny_bind (wpAny_field hz rfl (x := rawInt (T : Nat)) rfl ?_)
    show wpAny _ _ (loadIfAlive (Int.toNat (T : Nat)) >>= _) _ _ _
    refine wpAny_bind (wpAny_alive ?_)
    cases s.heap.get? (Int.toNat ((T : Nat) : Int)) with
    | none => exact wpAny_pure (h true b s.heap hz (Heap.SameBut.refl ..))
    | some o =>
      show wpAny _ _ (field (.ref z) 1 >>= _) _ _ _
      refine wpAny_bind (wpAny_field hz rfl (x := .bool b) rfl ?_)
      cases b with
      | true => exact wpAny_pure (h false true s.heap hz (Heap.SameBut.refl ..))
      | false =>
        show wpAny _ _ (setField (.ref z) 1 (.bool true) >>= _) _ _ _
        exact wpAny_bind (wpAny_setField_rec hz (by simp) fun h' hz' hs => wpAny_pure (h false true h' hz' hs))
/-- iterators side by side -/
structure Fam (prog : Program) (w : World) (A : Around) (its : List Addr) (fp : Nat → List Addr) (n : Nat → Nat) (P : Nat → Nat → Value → Prop) (St : Nat → Nat → Heap → Prop) : Prop where
  draws : ∀ k a, its[k]? = some a → Draws prog w A a (fp k) (n k) (P k) (St k)
  own : ∀ k a, its[k]? = some a → a ∈ fp k
  apart : ∀ k k' a, its[k]? = some a → k ≠ k' → k' < its.length → a ∉ fp k'
abbrev zipObj (f0 f1 : Value) (TI TO : Addr) : Obj := { cls := .type "zip", dict := none, data := .fields #[f0, f1, .bool false, .ref TI, .ref TO], slots := #[] }
abbrev tupO (vs : Array Value) (n : Nat) : Obj := { cls := .type "tuple", data := .seq vs n }
/-- the zip's state before the i-th drawing -/
def ZSt (z TI TO : Addr) (its : List Addr) (St : Nat → Nat → Heap → Prop) (i : Nat) (h : Heap) : Prop :=
  (∃ f0 f1, h.get? z = some (zipObj f0 f1 TI TO) ∧ (f0 = .none ∨ ∃ T : Addr, f0 = rawInt (T : Nat)) ∧ ∃ b, f1 = .bool b) ∧ h.get? TI = some (tupO ((its.map Value.ref).toArray) 0) ∧ (∃ ws, h.get? TO = some (tupO ws 0) ∧ ws.size = its.length) ∧ ∀ k, k < its.length → St k i h

theorem zipN_item {z TI TO : Addr} {its : List Addr} {fp : Nat → List Addr} {n : Nat → Nat} {P : Nat → Nat → Value → Prop} {St : Nat → Nat → Heap → Prop} {i : Nat} {Q : Value → Shared → Prop}
    (Fm : Fam prog w A its fp n P St) (hz : ∀ k, k < its.length → z ∉ fp k) (hTO : ∀ k, k < its.length → TO ∉ fp k) (hTI : ∀ k, k < its.length → TI ∉ fp k) (h1 : z ≠ TI) (h2' : z ≠ TO) (h3 : TI ≠ TO) (hne : its ≠ []) (hle : its.length ≤ 1000)
    (hst : ZSt z TI TO its St i s.heap) (hi : ∀ k, k < its.length → i < n k)
    (hQ : ∀ T xs h' tk, h'.get? T = some (tupO xs 0) → s.heap.get? T = none → xs.size = its.length → (∀ k v, xs[k]? = some v → P k i v) → ZSt z TI TO its St (i + 1) h' →
      (∀ b o, b ≠ z → b ≠ TO → (b ∉ its) → s.heap.get? b = some o → h'.get? b = some o) → Q (.ref T) { s with heap := h', toks := tk }) :
    wpAny (model prog w) A (Builtin.«zip.__next__» ⟨[.ref z], []⟩) (fun fin s' => ∃ v, fin = .done (.ret v) ∧ Q v s') E s := by
  obtain ⟨⟨f0, f1, hzo, hf0, b, rfl⟩, hTIo, ⟨ws, hTOo, hws⟩, hS⟩ := hst
  show wpAny _ _ (field (.ref z) 2 >>= _) _ _ _
  refine wpAny_bind (wpAny_field hzo rfl (x := .bool false) rfl ?_)
  show wpAny _ _ (field (.ref z) 3 >>= _) _ _ _
  refine wpAny_bind (wpAny_field hzo rfl (x := .ref TI) rfl ?_)
  refine wpAny_bind (wpAny_seqItems hTIo rfl ?_)
  obtain ⟨a0, its', rfl⟩ := List.exists_cons_of_ne_nil hne
  show wpAny _ _ (Builtin.SmallTypes.ownedTupleIsFree (.ref z) >>= _) _ _ _
  refine wpAny_bind (freeOrNot hzo hf0 fun r b' h' hz' hs' => ?_)
  generalize hits : a0 :: its' = its at *
  have hS' : ∀ k, k < its.length → St k i h' := fun k hk => by
    have hk' : its[k]? = some its[k] := List.getElem?_eq_getElem hk
    exact (Fm.draws k _ hk').frame _ _ _ (hS k hk) fun b hb o e => hs'.extBut _ _ (fun q => hz k hk (q ▸ hb)) e
  have hTI' := hs'.extBut _ _ (Ne.symm h1) hTIo
  have hTO' := hs'.extBut _ _ (Ne.symm h2') hTOo
  cases r with
  | true =>
    simp only [if_true]
    refine wpAny_bind (wpAny_rule ?_)
    refine wpAny_bind (wpAny_field hz' rfl (x := .ref TO) rfl ?_)
    refine wpAny_bind (wpAny_setField_rec hz' (by simp) fun h₁ hz₁ hs₁ => ?_)
    replace hz₁ : h₁.get? z = some (zipObj .ellipsis (.bool b') TI TO) := hz₁
    refine wpAny_bind (forIn_inv (fun rest st s' => ∃ k h tk ws, rest = ((its.map Value.ref).zipIdx).drop k ∧ k ≤ its.length ∧ st.1 = none ∧ s' = { s with heap := h, toks := tk } ∧
      h.get? z = some (zipObj .ellipsis (.bool b') TI TO) ∧ h.get? TI = some (tupO ((its.map Value.ref).toArray) 0) ∧ h.get? TO = some (tupO ws 0) ∧ ws.size = its.length ∧ (∀ j v, j < k → ws[j]? = some v → P j i v) ∧
      (∀ j, j < its.length → St j (if j < k then i + 1 else i) h) ∧ (∀ b o, b ≠ z → b ≠ TO → (b ∉ its) → s.heap.get? b = some o → h.get? b = some o) ∧ h.objs.size = s.heap.objs.size) ?_ ?_ _ _ _
      ⟨0, h₁, s.toks, ws, ?_⟩)
    · rintro x rest bst s₁ ⟨k, hp, tk, wk, hr, hk, hb, rfl, hzz, hTT, hTOO, hsz, hPk, hSt, hkeep, hsize⟩
      have hlen : ((its.map Value.ref).zipIdx).length = its.length := by simp
      have hlt : k < its.length := by
        rcases Nat.lt_or_ge k its.length with q | q
        · exact q
        · rw [List.drop_eq_nil_of_le (by omega)] at hr; cases hr
      rw [List.drop_eq_getElem_cons (by omega)] at hr
      obtain ⟨rfl, rfl⟩ := List.cons.inj hr
      have hka : its[k]? = some its[k] := List.getElem?_eq_getElem hlt
      have hmemk : its[k] ∈ its := List.getElem_mem hlt
      have hx : ((its.map Value.ref).zipIdx)[k]'(by omega) = (Value.ref its[k], k) := by simp
      rw [hx]
      refine wpAny_bind (wpAny_onRaise ?_)
      show wpAny _ _ (Builtin.SmallTypes.nextOf (.ref its[k]) >>= _) _ _ _
      refine wpAny_bind ((Fm.draws k _ hka).item i _ _ _ (hi k hlt) (by simpa using hSt k hlt) fun v h2 tk2 hPv hst2 hs2 => wpAny_pure ?_)
      have kz : z ≠ its[k] := fun q => hz k hlt (q ▸ Fm.own k _ hka)
      have kTI : TI ≠ its[k] := fun q => hTI k hlt (q ▸ Fm.own k _ hka)
      have kTO : TO ≠ its[k] := fun q => hTO k hlt (q ▸ Fm.own k _ hka)
      have hTO2 := hs2.extBut _ _ kTO hTOO
      refine wpAny_bind (wpAny_seqItems hTO2 rfl ?_)
      refine wpAny_bind (wpAny_updateSeq hTO2 rfl ?_ (by rw [sizeLine_eq]; omega) (by rw [sizeLine_eq, Array.size_setIfInBounds]; omega))
      refine wpAny_bind (wpAny_letGo (wpAny_pure ?_))
      have sb : Heap.SameBut TO h2 (h2.update TO (Obj.mapSeq (·.setIfInBounds k v))) := Heap.SameBut.update ..
      refine ⟨k + 1, h2.update TO (Obj.mapSeq (·.setIfInBounds k v)), tk2, wk.setIfInBounds k v, rfl, hlt, rfl, rfl, sb.extBut _ _ h2' (hs2.extBut _ _ kz hzz), sb.extBut _ _ h3 (hs2.extBut _ _ kTI hTT), ?_, by simp [hsz], fun j v' hj hv' => ?_, fun j hj => ?_,
        fun b o b1 b2 b3 e => sb.extBut b o b2 (hs2.extBut b o (fun q => b3 (q ▸ hmemk)) (hkeep b o b1 b2 b3 e)), sb.1.trans (hs2.1.trans hsize)⟩
      · rw [Heap.get?_update_self _ hTO2 rfl]
        simp [Obj.mapSeq]
      · by_cases q : j = k
        · subst q
          rw [Array.getElem?_setIfInBounds_self_of_lt (by omega)] at hv'
          cases hv'; exact hPv
        · rw [Array.getElem?_setIfInBounds_ne (Ne.symm q)] at hv'
          exact hPk j v' (by omega) hv'
      · have hk' : its[j]? = some its[j] := List.getElem?_eq_getElem hj
        by_cases q : j = k
        · subst q
          rw [if_pos (Nat.lt_succ_self _)]
          exact (Fm.draws j _ hk').frame _ _ _ hst2 fun b hb o e => sb.extBut _ _ (fun q => hTO j hj (q ▸ hb)) e
        · have e2 : (if j < k + 1 then i + 1 else i) = if j < k then i + 1 else i := by
            by_cases c : j < k
            · rw [if_pos c, if_pos (by omega)]
            · rw [if_neg c, if_neg (by omega)]
          rw [e2]
          exact (Fm.draws j _ hk').frame _ _ _ (hSt j hj) fun b hb o e => sb.extBut _ _ (fun q => hTO j hj (q ▸ hb)) (hs2.extBut _ _ (fun q' => Fm.apart k j _ hka (fun c => q c.symm) hj (q' ▸ hb)) e)
    · rintro bst s₁ ⟨k, hp, tk, wk, hr, hk, hb, rfl, hzz, hTT, hTOO, hsz, hPk, hSt, hkeep, hsize⟩
      have hlen : ((its.map Value.ref).zipIdx).length = its.length := by simp
      have hke : k = its.length := by
        rcases Nat.lt_or_ge k its.length with q | q
        · rw [List.drop_eq_getElem_cons (by omega)] at hr; cases hr
        · omega
      subst hke
      simp only [hb]
      refine wpAny_bind (wpAny_seqItems hTOO rfl ?_)
      refine wpAny_bind (wpAny_newTuple ?_ (by rw [sizeLine_eq, Array.length_toList]; omega))
      show wpAny _ _ (Builtin.SmallTypes.ownedTupleHandOut (.ref z) (.ref hp.objs.size) >>= _) _ _ _
      refine wpAny_bind ?_
      unfold Builtin.SmallTypes.ownedTupleHandOut
      have z6 : (hp.push { cls := .type "tuple", data := .seq wk.toList.toArray }).get? z = some (zipObj .ellipsis (.bool b') TI TO) := Heap.get?_push_of_some _ hzz
      refine wpAny_bind (wpAny_setField_rec z6 (by simp) fun h7 hz7 hs7 => ?_)
      replace hz7 : h7.get? z = some (zipObj (rawInt hp.objs.size) (.bool b') TI TO) := hz7
      refine wpAny_setField_rec hz7 (by simp) fun h8 hz8 hs8 => ?_
      replace hz8 : h8.get? z = some (zipObj (rawInt hp.objs.size) (.bool false) TI TO) := hz8
      have up : ∀ c o, c ≠ z → hp.get? c = some o → h8.get? c = some o := fun c o c1 e => hs8.extBut _ _ c1 (hs7.extBut _ _ c1 (Heap.get?_push_of_some _ e))
      have nz : hp.objs.size ≠ z := Nat.ne_of_gt (Heap.lt_size hzz)
      have hT8 : h8.get? hp.objs.size = some (tupO wk 0) := by
        have e1 := hs8.extBut _ _ nz (hs7.extBut _ _ nz (Heap.get?_push_size hp (o := { cls := .type "tuple", data := .seq wk.toList.toArray }) rfl))
        simpa using e1
      refine wpAny_pure ⟨_, rfl, ?_⟩
      refine hQ hp.objs.size wk h8 tk hT8 (by rw [hsize]; exact get_size_none _) hsz (fun j v hv => hPk j v (by have := (Array.getElem?_eq_some_iff.mp hv).1; omega) hv)
        ⟨⟨_, _, hz8, .inr ⟨_, rfl⟩, _, rfl⟩, up _ _ (Ne.symm h1) hTT, ⟨wk, up _ _ (Ne.symm h2') hTOO, hsz⟩, fun j hj => ?_⟩ fun b o b1 b2 b3 e => up _ _ b1 (hkeep b o b1 b2 b3 e)
      have := hSt j hj
      rw [if_pos hj] at this
      exact (Fm.draws j _ (List.getElem?_eq_getElem hj)).frame _ _ _ this fun b hb o e => up _ _ (fun q => hz j hj (q ▸ hb)) e
    · exact ⟨by simp, Nat.zero_le _, rfl, rfl, hz₁, hs₁.extBut _ _ (Ne.symm h1) hTI', hs₁.extBut _ _ (Ne.symm h2') hTO', hws, fun j v hj => absurd hj (Nat.not_lt_zero _),
        fun j hj => by
          simp only [Nat.not_lt_zero, if_false]
          have hk' : its[j]? = some its[j] := List.getElem?_eq_getElem hj
          exact (Fm.draws j _ hk').frame _ _ _ (hS' j hj) fun b hb o e => hs₁.extBut _ _ (fun q => hz j hj (q ▸ hb)) e,
        fun b o b1 _ _ e => hs₁.extBut _ _ b1 (hs'.extBut _ _ b1 e), hs₁.1.trans hs'.1⟩
  | false =>
    simp only [Bool.false_eq_true, if_false, List.forIn_toArray]
    refine wpAny_bind (forIn_inv (fun rest st s' => ∃ k h tk, rest = (its.map Value.ref).drop k ∧ k ≤ its.length ∧ st.1 = none ∧ st.2.size = k ∧ s' = { s with heap := h, toks := tk } ∧
      h.get? z = some (zipObj f0 (.bool b') TI TO) ∧ h.get? TI = some (tupO ((its.map Value.ref).toArray) 0) ∧ h.get? TO = some (tupO ws 0) ∧ (∀ (j : Nat) v, st.2[j]? = some v → P j i v) ∧
      (∀ j, j < its.length → St j (if j < k then i + 1 else i) h) ∧ (∀ b o, b ≠ z → b ≠ TO → (b ∉ its) → s.heap.get? b = some o → h.get? b = some o) ∧ h.objs.size = s.heap.objs.size) ?_ ?_ _ _ _
      ⟨0, h', s.toks, rfl, Nat.zero_le _, rfl, rfl, rfl, hz', hTI', hTO', fun j v hv => by simp at hv, fun j hj => by simpa using hS' j hj, fun b o b1 _ _ e => hs'.extBut _ _ b1 e, hs'.1⟩)
    · rintro x rest bst s₁ ⟨k, hp, tk, hr, hk, hb, hbs, rfl, hzz, hTT, hTOO, hPk, hSt, hkeep, hsize⟩
      have hlen : (its.map Value.ref).length = its.length := by simp
      have hlt : k < its.length := by
        rcases Nat.lt_or_ge k its.length with q | q
        · exact q
        · rw [List.drop_eq_nil_of_le (by omega)] at hr; cases hr
      rw [List.drop_eq_getElem_cons (by omega)] at hr
      obtain ⟨rfl, rfl⟩ := List.cons.inj hr
      have hka : its[k]? = some its[k] := List.getElem?_eq_getElem hlt
      have hmemk : its[k] ∈ its := List.getElem_mem hlt
      have hx : (its.map Value.ref)[k]'(by omega) = Value.ref its[k] := by simp
      rw [hx]
      refine wpAny_bind (wpAny_holding ?_)
      show wpAny _ _ (Builtin.SmallTypes.nextOf (.ref its[k]) >>= _) _ _ _
      refine wpAny_bind ((Fm.draws k _ hka).item i _ _ _ (hi k hlt) (by simpa using hSt k hlt) fun v h2 tk2 hPv hst2 hs2 => wpAny_pure (wpAny_pure ?_))
      have kz : z ≠ its[k] := fun q => hz k hlt (q ▸ Fm.own k _ hka)
      have kTI : TI ≠ its[k] := fun q => hTI k hlt (q ▸ Fm.own k _ hka)
      have kTO : TO ≠ its[k] := fun q => hTO k hlt (q ▸ Fm.own k _ hka)
      refine ⟨k + 1, h2, tk2, rfl, hlt, rfl, by simp [hbs], rfl, hs2.extBut _ _ kz hzz, hs2.extBut _ _ kTI hTT, hs2.extBut _ _ kTO hTOO, fun j v' hv' => ?_, fun j hj => ?_,
        fun b o b1 b2 b3 e => hs2.extBut b o (fun q => b3 (q ▸ hmemk)) (hkeep b o b1 b2 b3 e), hs2.1.trans hsize⟩
      · rw [Array.getElem?_push] at hv'
        split at hv'
        · rename_i q; rw [hbs] at q; subst q; cases hv'; exact hPv
        · exact hPk j v' hv'
      · have hk' : its[j]? = some its[j] := List.getElem?_eq_getElem hj
        by_cases q : j = k
        · subst q
          rw [if_pos (Nat.lt_succ_self _)]
          exact hst2
        · have e2 : (if j < k + 1 then i + 1 else i) = if j < k then i + 1 else i := by
            by_cases c : j < k
            · rw [if_pos c, if_pos (by omega)]
            · rw [if_neg c, if_neg (by omega)]
          rw [e2]
          exact (Fm.draws j _ hk').frame _ _ _ (hSt j hj) fun b hb o e => hs2.extBut _ _ (fun q' => Fm.apart k j _ hka (fun c => q c.symm) hj (q' ▸ hb)) e
    · rintro bst s₁ ⟨k, hp, tk, hr, hk, hb, hbs, rfl, hzz, hTT, hTOO, hPk, hSt, hkeep, hsize⟩
      have hlen : (its.map Value.ref).length = its.length := by simp
      have hke : k = its.length := by
        rcases Nat.lt_or_ge k its.length with q | q
        · rw [List.drop_eq_getElem_cons (by omega)] at hr; cases hr
        · omega
      subst hke
      simp only [hb]
      refine wpAny_bind (wpAny_newTuple ?_ (by rw [sizeLine_eq, Array.length_toList]; omega))
      have up : ∀ c o, hp.get? c = some o → (hp.push { cls := .type "tuple", data := .seq bst.2.toList.toArray }).get? c = some o := fun c o e => Heap.get?_push_of_some _ e
      have hT8 : (hp.push { cls := .type "tuple", data := .seq bst.2.toList.toArray }).get? hp.objs.size = some (tupO bst.2 0) := by
        have e1 := Heap.get?_push_size hp (o := { cls := .type "tuple", data := .seq bst.2.toList.toArray }) rfl
        simpa using e1
      refine wpAny_pure ⟨_, rfl, ?_⟩
      refine hQ hp.objs.size bst.2 _ tk hT8 (by rw [hsize]; exact get_size_none _) hbs hPk
        ⟨⟨_, _, up _ _ hzz, hf0, _, rfl⟩, up _ _ hTT, ⟨ws, up _ _ hTOO, hws⟩, fun j hj => ?_⟩ fun b o b1 b2 b3 e => up _ _ (hkeep b o b1 b2 b3 e)
      have := hSt j hj
      rw [if_pos hj] at this
      exact (Fm.draws j _ (List.getElem?_eq_getElem hj)).frame _ _ _ this fun b hb o e => up _ _ e
theorem zipN_end {z TI TO : Addr} {its : List Addr} {fp : Nat → List Addr} {n : Nat → Nat} {P : Nat → Nat → Value → Prop} {St : Nat → Nat → Heap → Prop} {i k0 : Nat} {Q : Fin → Shared → Prop}
    (Fm : Fam prog w A its fp n P St) (hz : ∀ k, k < its.length → z ∉ fp k) (hTO : ∀ k, k < its.length → TO ∉ fp k) (hTI : ∀ k, k < its.length → TI ∉ fp k) (h1 : z ≠ TI) (h2' : z ≠ TO) (h3 : TI ≠ TO) (hle : its.length ≤ 1000)
    (hst : ZSt z TI TO its St i s.heap) (hk0 : k0 < its.length) (hi0 : n k0 = i) (hi : ∀ k, k < k0 → i < n k)
    (hE : ∀ h' e tk, (∀ b o, b ≠ z → b ≠ TO → (b ∉ its) → s.heap.get? b = some o → h'.get? b = some o) → (∃ o, h'.get? e = some o ∧ o.cls = .type "StopIteration") → E (.ref e) { s with heap := h', toks := tk }) :
    wpAny (model prog w) A (Builtin.«zip.__next__» ⟨[.ref z], []⟩) Q E s := by
  obtain ⟨⟨f0, f1, hzo, hf0, b, rfl⟩, hTIo, ⟨ws, hTOo, hws⟩, hS⟩ := hst
  have hne : its ≠ [] := fun q => by rw [q] at hk0; exact absurd hk0 (Nat.not_lt_zero _)
  show wpAny _ _ (field (.ref z) 2 >>= _) _ _ _
  refine wpAny_bind (wpAny_field hzo rfl (x := .bool false) rfl ?_)
  show wpAny _ _ (field (.ref z) 3 >>= _) _ _ _
  refine wpAny_bind (wpAny_field hzo rfl (x := .ref TI) rfl ?_)
  refine wpAny_bind (wpAny_seqItems hTIo rfl ?_)
  obtain ⟨a0, its', rfl⟩ := List.exists_cons_of_ne_nil hne
  show wpAny _ _ (Builtin.SmallTypes.ownedTupleIsFree (.ref z) >>= _) _ _ _
  refine wpAny_bind (freeOrNot hzo hf0 fun r b' h' hz' hs' => ?_)
  generalize hits : a0 :: its' = its at *
  have hS' : ∀ k, k < its.length → St k i h' := fun k hk => by
    have hk' : its[k]? = some its[k] := List.getElem?_eq_getElem hk
    exact (Fm.draws k _ hk').frame _ _ _ (hS k hk) fun b hb o e => hs'.extBut _ _ (fun q => hz k hk (q ▸ hb)) e
  have hTI' := hs'.extBut _ _ (Ne.symm h1) hTIo
  have hTO' := hs'.extBut _ _ (Ne.symm h2') hTOo
  cases r with
  | true =>
    simp only [if_true]
    refine wpAny_bind (wpAny_rule ?_)
    refine wpAny_bind (wpAny_field hz' rfl (x := .ref TO) rfl ?_)
    refine wpAny_bind (wpAny_setField_rec hz' (by simp) fun h₁ hz₁ hs₁ => ?_)
    replace hz₁ : h₁.get? z = some (zipObj .ellipsis (.bool b') TI TO) := hz₁
    refine wpAny_bind (forIn_inv (fun rest st s' => ∃ k h tk ws, rest = ((its.map Value.ref).zipIdx).drop k ∧ k ≤ k0 ∧ s' = { s with heap := h, toks := tk } ∧
      h.get? z = some (zipObj .ellipsis (.bool b') TI TO) ∧ h.get? TI = some (tupO ((its.map Value.ref).toArray) 0) ∧ h.get? TO = some (tupO ws 0) ∧ ws.size = its.length ∧
      (∀ j, j < its.length → k ≤ j → St j i h) ∧ (∀ b o, b ≠ z → b ≠ TO → (b ∉ its) → s.heap.get? b = some o → h.get? b = some o)) ?_ ?_ _ _ _
      ⟨0, h₁, s.toks, ws, by simp, Nat.zero_le _, rfl, hz₁, hs₁.extBut _ _ (Ne.symm h1) hTI', hs₁.extBut _ _ (Ne.symm h2') hTO', hws,
        fun j hj _ => by
          have hk' : its[j]? = some its[j] := List.getElem?_eq_getElem hj
          exact (Fm.draws j _ hk').frame _ _ _ (hS' j hj) fun b hb o e => hs₁.extBut _ _ (fun q => hz j hj (q ▸ hb)) e,
        fun b o b1 _ _ e => hs₁.extBut _ _ b1 (hs'.extBut _ _ b1 e)⟩)
    · rintro x rest bst s₁ ⟨k, hp, tk, wk, hr, hk, rfl, hzz, hTT, hTOO, hsz, hSt, hkeep⟩
      have hlen : ((its.map Value.ref).zipIdx).length = its.length := by simp
      have hlt : k < its.length := by omega
      rw [List.drop_eq_getElem_cons (by omega)] at hr
      obtain ⟨rfl, rfl⟩ := List.cons.inj hr
      have hka : its[k]? = some its[k] := List.getElem?_eq_getElem hlt
      have hmemk : its[k] ∈ its := List.getElem_mem hlt
      have hx : ((its.map Value.ref).zipIdx)[k]'(by omega) = (Value.ref its[k], k) := by simp
      rw [hx]
      have kz : z ≠ its[k] := fun q => hz k hlt (q ▸ Fm.own k _ hka)
      have kTI : TI ≠ its[k] := fun q => hTI k hlt (q ▸ Fm.own k _ hka)
      have kTO : TO ≠ its[k] := fun q => hTO k hlt (q ▸ Fm.own k _ hka)
      refine wpAny_bind (wpAny_onRaise ?_)
      show wpAny _ _ (Builtin.SmallTypes.nextOf (.ref its[k]) >>= _) _ _ _
      by_cases hkk : k = k0
      · subst hkk
        refine wpAny_bind ((Fm.draws k _ hka).done _ _ _ (by rw [hi0]; exact hSt k hlt (Nat.le_refl _)) fun h2 e hs2 he => ?_)
        obtain ⟨oe, hoe, hce⟩ := he
        have hz2 := hs2 _ _ kz hzz
        have hez : e ≠ z := fun x => by subst x; rw [hz2] at hoe; cases hoe; simp at hce
        refine wpAny_setField_rec hz2 (by simp) fun h3 _ hs3 => hE h3 e tk (fun b o b1 b2 b3 x => hs3.extBut _ _ b1 (hs2 _ _ (fun q => b3 (q ▸ hmemk)) (hkeep b o b1 b2 b3 x))) ⟨oe, hs3.extBut _ _ hez hoe, hce⟩
      · refine wpAny_bind ((Fm.draws k _ hka).item i _ _ _ (hi k (by omega)) (hSt k hlt (Nat.le_refl _)) fun v h2 tk2 hPv hst2 hs2 => wpAny_pure ?_)
        have hTO2 := hs2.extBut _ _ kTO hTOO
        refine wpAny_bind (wpAny_seqItems hTO2 rfl ?_)
        refine wpAny_bind (wpAny_updateSeq hTO2 rfl ?_ (by rw [sizeLine_eq]; omega) (by rw [sizeLine_eq, Array.size_setIfInBounds]; omega))
        refine wpAny_bind (wpAny_letGo (wpAny_pure ?_))
        have sb : Heap.SameBut TO h2 (h2.update TO (Obj.mapSeq (·.setIfInBounds k v))) := Heap.SameBut.update ..
        refine ⟨k + 1, h2.update TO (Obj.mapSeq (·.setIfInBounds k v)), tk2, wk.setIfInBounds k v, rfl, by omega, rfl, sb.extBut _ _ h2' (hs2.extBut _ _ kz hzz), sb.extBut _ _ h3 (hs2.extBut _ _ kTI hTT), ?_, by simp [hsz], fun j hj hkj => ?_,
          fun b o b1 b2 b3 e => sb.extBut b o b2 (hs2.extBut b o (fun q => b3 (q ▸ hmemk)) (hkeep b o b1 b2 b3 e))⟩
        · rw [Heap.get?_update_self _ hTO2 rfl]
          simp [Obj.mapSeq]
        · have hk' : its[j]? = some its[j] := List.getElem?_eq_getElem hj
          exact (Fm.draws j _ hk').frame _ _ _ (hSt j hj (by omega)) fun b hb o e => sb.extBut _ _ (fun q => hTO j hj (q ▸ hb)) (hs2.extBut _ _ (fun q' => Fm.apart k j _ hka (by omega) hj (q' ▸ hb)) e)
    · rintro bst s₁ ⟨k, hp, tk, wk, hr, hk, _⟩
      have hlen : ((its.map Value.ref).zipIdx).length = its.length := by simp
      rw [List.drop_eq_getElem_cons (by omega)] at hr; cases hr
  | false =>
    simp only [Bool.false_eq_true, if_false, List.forIn_toArray]
    refine wpAny_bind (forIn_inv (fun rest st s' => ∃ k h tk, rest = (its.map Value.ref).drop k ∧ k ≤ k0 ∧ s' = { s with heap := h, toks := tk } ∧
      (∀ j, j < its.length → k ≤ j → St j i h) ∧ (∀ b o, b ≠ z → b ≠ TO → (b ∉ its) → s.heap.get? b = some o → h.get? b = some o)) ?_ ?_ _ _ _
      ⟨0, h', s.toks, rfl, Nat.zero_le _, rfl, fun j hj _ => hS' j hj, fun b o b1 _ _ e => hs'.extBut _ _ b1 e⟩)
    · rintro x rest bst s₁ ⟨k, hp, tk, hr, hk, rfl, hSt, hkeep⟩
      have hlen : (its.map Value.ref).length = its.length := by simp
      have hlt : k < its.length := by omega
      rw [List.drop_eq_getElem_cons (by omega)] at hr
      obtain ⟨rfl, rfl⟩ := List.cons.inj hr
      have hka : its[k]? = some its[k] := List.getElem?_eq_getElem hlt
      have hmemk : its[k] ∈ its := List.getElem_mem hlt
      have hx : (its.map Value.ref)[k]'(by omega) = Value.ref its[k] := by simp
      rw [hx]
      refine wpAny_bind (wpAny_holding ?_)
      show wpAny _ _ (Builtin.SmallTypes.nextOf (.ref its[k]) >>= _) _ _ _
      by_cases hkk : k = k0
      · subst hkk
        refine wpAny_bind ((Fm.draws k _ hka).done _ _ _ (by rw [hi0]; exact hSt k hlt (Nat.le_refl _)) fun h2 e hs2 he => ?_)
        exact hE h2 e tk (fun b o b1 b2 b3 x => hs2 _ _ (fun q => b3 (q ▸ hmemk)) (hkeep b o b1 b2 b3 x)) he
      · refine wpAny_bind ((Fm.draws k _ hka).item i _ _ _ (hi k (by omega)) (hSt k hlt (Nat.le_refl _)) fun v h2 tk2 hPv hst2 hs2 => wpAny_pure (wpAny_pure ?_))
        refine ⟨k + 1, h2, tk2, rfl, by omega, rfl, fun j hj hkj => ?_, fun b o b1 b2 b3 e => hs2.extBut b o (fun q => b3 (q ▸ hmemk)) (hkeep b o b1 b2 b3 e)⟩
        have hk' : its[j]? = some its[j] := List.getElem?_eq_getElem hj
        exact (Fm.draws j _ hk').frame _ _ _ (hSt j hj (by omega)) fun b hb o e => hs2.extBut _ _ (fun q' => Fm.apart k j _ hka (by omega) hj (q' ▸ hb)) e
    · rintro bst s₁ ⟨k, hp, tk, hr, hk, _⟩
      have hlen : (its.map Value.ref).length = its.length := by simp
      rw [List.drop_eq_getElem_cons (by omega)] at hr; cases hr
end
end Mine
end
-- Z2
section
open PySem PySem.W PySem.W.X PyProof.Rows PySem.Calls
set_option maxRecDepth 100000
set_option maxHeartbeats 2000000
namespace Mine
theorem zip_no_len : typeLookup (.type "zip") "__len__" = pure none := by rw [typeLookup_type, builtinLookup_eq_fast]; kernel_rfl
theorem zip_no_hint : typeLookup (.type "zip") "__length_hint__" = pure none := by rw [typeLookup_type, builtinLookup_eq_fast]; kernel_rfl
section
variable {prog : Program} {w : World} {A : Around} {E : Value → Shared → Prop} {s : Shared} {z TI TO : Addr} {its : List Addr} {fp : Nat → List Addr} {n : Nat → Nat} {P : Nat → Nat → Value → Prop} {St : Nat → Nat → Heap → Prop}
structure ZApart (z TI TO : Addr) (its : List Addr) (fp : Nat → List Addr) : Prop where
  az : ∀ k, k < its.length → z ∉ fp k
  aO : ∀ k, k < its.length → TO ∉ fp k
  aI : ∀ k, k < its.length → TI ∉ fp k
  h1 : z ≠ TI
  h2 : z ≠ TO
  h3 : TI ≠ TO
  le : its.length ≤ 1000
theorem pyNext_zipN_item {i : Nat} {Q : Option Value → Shared → Prop} (Fm : Fam prog w A.in1 its fp n P St) (Z : ZApart z TI TO its fp) (hne : its ≠ []) (hst : ZSt z TI TO its St i s.heap) (hi : ∀ k, k < its.length → i < n k)
    (hQ : ∀ T xs h' tk, h'.get? T = some (tupO xs 0) → s.heap.get? T = none → xs.size = its.length → (∀ k v, xs[k]? = some v → P k i v) → ZSt z TI TO its St (i + 1) h' →
      (∀ b o, b ≠ z → b ≠ TO → (b ∉ its) → s.heap.get? b = some o → h'.get? b = some o) → Q (some (.ref T)) { s with heap := h', toks := tk }) :
    wpAny (model prog w) A (pyNext (.ref z)) Q E s := by
  have hT : s.TypeIs (.ref z) "zip" := by obtain ⟨⟨f0, f1, hz, _⟩, _⟩ := hst; exact ⟨_, hz, rfl⟩
  unfold pyNext
  exact wpAny_bind (wpAny_attempt (wpAny_callSpecial?_slot (name := Str.ofString "__next__") hT F.slot_zip_next
    (wpAny_call_entry F.slot_zip_next hT F.entry_zip_next
      (zipN_item Fm Z.az Z.aO Z.aI Z.h1 Z.h2 Z.h3 hne Z.le hst hi fun T xs h' tk a1 a2 a3 a4 a5 a6 => wpAny_pure (hQ T xs h' tk a1 a2 a3 a4 a5 a6)) (F.args_zip_next_1 _))))
theorem pyNext_zipN_end {i k0 : Nat} {Q : Option Value → Shared → Prop} (Fm : Fam prog w A.in1 its fp n P St) (Z : ZApart z TI TO its fp) (hst : ZSt z TI TO its St i s.heap) (hk0 : k0 < its.length) (hi0 : n k0 = i) (hi : ∀ k, k < k0 → i < n k)
    (hQ : ∀ h' tk, (∀ b o, b ≠ z → b ≠ TO → (b ∉ its) → s.heap.get? b = some o → h'.get? b = some o) → Q none { s with heap := h', toks := tk }) :
    wpAny (model prog w) A (pyNext (.ref z)) Q E s := by
  have hT : s.TypeIs (.ref z) "zip" := by obtain ⟨⟨f0, f1, hz, _⟩, _⟩ := hst; exact ⟨_, hz, rfl⟩
  unfold pyNext
  refine wpAny_bind (wpAny_attempt (wpAny_callSpecial?_slot (name := Str.ofString "__next__") hT F.slot_zip_next
    (wpAny_call_entry F.slot_zip_next hT F.entry_zip_next (zipN_end Fm Z.az Z.aO Z.aI Z.h1 Z.h2 Z.h3 Z.le hst hk0 hi0 hi fun h' e tk hk he => ?_) (F.args_zip_next_1 _))))
  refine wpAny_bind (wpAny_isInstance (T := "StopIteration") (b := true) he isSubtype_stop ?_)
  exact wpAny_pure (hQ _ _ hk)
theorem pyIter_zipN {i : Nat} {Q : Value → Shared → Prop} (hst : ZSt z TI TO its St i s.heap) (h : Q (.ref z) s) : wpAny (model prog w) A (pyIter (.ref z)) Q E s := by
  have hT : s.TypeIs (.ref z) "zip" := by obtain ⟨⟨f0, f1, hz, _⟩, _⟩ := hst; exact ⟨_, hz, rfl⟩
  refine wpAny_pyIter_slot hT F.slot_zip_iter (wpAny_call_entry F.slot_zip_iter hT F.entry_zip_iter ?_ (F.args_zip_iter_1 _))
  show wpAny _ _ (ret (.ref z)) _ _ s
  exact wpAny_pure ⟨_, rfl, "zip", _, hT, F.slot_zip_next.lookup, h⟩
/-- what list(zip(..)) has gathered -/
def ZGot (g : Heap) (z TI TO S : Addr) (its : List Addr) (P : Nat → Nat → Value → Prop) (acc : Array Value) (h : Heap) : Prop :=
  ∀ (j : Nat) v, acc[j]? = some v → ∃ T xs, v = .ref T ∧ h.get? T = some (tupO xs 0) ∧ xs.size = its.length ∧ (∀ (k : Nat) x, xs[k]? = some x → P k j x) ∧ T ≠ z ∧ T ≠ TO ∧ T ∉ its ∧ T ≠ S ∧ g.get? T = none
theorem zip_loop {R : Result → Shared → Prop} {N k0 : Nat} {g : Heap} (Fm : Fam prog w A.in1.in1 its fp n P St) (Z : ZApart z TI TO its fp) (hne : its ≠ []) (hk0 : k0 < its.length) (hN : n k0 = N) (hmin : ∀ k, k < its.length → N ≤ n k) (hfirst : ∀ k, k < k0 → N < n k) (hNl : N ≤ 1000)
    (S : Addr) (hSf : ∀ k, k < its.length → S ∉ fp k) (hSz : S ≠ z) (hSO : S ≠ TO) (hSI : S ≠ TI) (res : Value) (gz : g.get? z = none) (gO : g.get? TO = none) (gi : ∀ it ∈ its, g.get? it = none) (gS : g.get? S = none) :
    ∀ (m i : Nat) (s : Shared) (acc : Array Value) (c : Nat), N - i = m → i ≤ N → g.StaysIn s.heap → ZSt z TI TO its St i s.heap → s.heap.get? S = some { cls := .type "list", dict := none, data := .seq acc c, slots := #[] } → acc.size = i → ZGot g z TI TO S its P acc s.heap →
      (∀ h' acc' c' tk, (∀ b o, b ≠ z → b ≠ TO → (b ∉ its) → b ≠ S → s.heap.get? b = some o → h'.get? b = some o) → h'.get? S = some { cls := .type "list", dict := none, data := .seq acc' c', slots := #[] } → acc'.size = N → ZGot g z TI TO S its P acc' h' → R (.ok (.ret res)) { s with heap := h', toks := tk }) →
      codeAny (model prog w) A (.builtin "list.extend.loop" ⟨[.ref S, .ref z, res], []⟩) R s := by
  have hSits : S ∉ its := fun hm => by
    obtain ⟨k, hk, e⟩ := List.getElem_of_mem hm
    exact hSf k hk (e ▸ Fm.own k _ (List.getElem?_eq_getElem hk))
  intro m
  induction m with
  | zero =>
    intro i s acc c hk hi hgk hst hS hacc hG hR
    have hin : i = N := by omega
    subst hin
    refine codeAny_builtin F.entry_extend_loop ?_
    rw [Around.under_plainId F.plain_extend_loop _]
    show wpAny _ A.in1 (pyNext (.ref z) >>= _) _ _ s
    refine wpAny_bind (pyNext_zipN_end Fm Z hst hk0 hN hfirst fun h' tk hkp => ?_)
    refine wpAny_pure (hR h' acc c tk (fun b o b1 b2 b3 _ e => hkp b o b1 b2 b3 e) (hkp _ _ hSz hSO hSits hS) hacc fun j v hv => ?_)
    obtain ⟨T, xs, e1, e2, e3, e4, e5, e6, e7, e8⟩ := hG j v hv
    exact ⟨T, xs, e1, hkp _ _ e5 e6 e7 e2, e3, e4, e5, e6, e7, e8⟩
  | succ m ih =>
    intro i s acc c hk hi hgk hst hS hacc hG hR
    have hlt : i < N := by omega
    refine codeAny_builtin F.entry_extend_loop ?_
    rw [Around.under_plainId F.plain_extend_loop _]
    show wpAny _ A.in1 (pyNext (.ref z) >>= _) _ _ s
    refine wpAny_bind (pyNext_zipN_item Fm Z hne hst (fun k hk => Nat.lt_of_lt_of_le hlt (hmin k hk)) fun T xs h' tk hT hTn hxs hPx hst' hkp => ?_)
    have hS' := hkp _ _ hSz hSO hSits hS
    have hTg : g.get? T = none := by
      cases e : g.get? T with
      | none => rfl
      | some o => rw [hgk _ _ e] at hTn; cases hTn
    have hTS : T ≠ S := fun q => by rw [q, hS] at hTn; cases hTn
    have hTz : T ≠ z := fun q => by obtain ⟨⟨f0, f1, hz, _⟩, _⟩ := hst; rw [q, hz] at hTn; cases hTn
    have hTO : T ≠ TO := fun q => by obtain ⟨_, _, ⟨ws, hw, _⟩, _⟩ := hst; rw [q, hw] at hTn; cases hTn
    have hTi : T ∉ its := fun hm => by
      obtain ⟨k, hk, e⟩ := List.getElem_of_mem hm
      obtain ⟨o, ho⟩ := (Fm.draws k _ (List.getElem?_eq_getElem hk)).live _ _ (hst.2.2.2 k hk)
      rw [e, hTn] at ho; cases ho
    show wpAny _ A.in1 (updateSeq S (·.push (.ref T)) >>= _) _ _ _
    refine wpAny_bind ?_
    have ext : ∀ b o, b ≠ S → h'.get? b = some o → (h'.update S (Obj.mapSeq (·.push (Value.ref T)))).get? b = some o := fun b o hb e => (Heap.get?_update_other _ _ (Ne.symm hb)).trans e
    refine wpAny_updateSeq hS' rfl (wpAny_pure ⟨plainId_quiet F.plain_extend_loop _, ih (i + 1) _ (acc.push (.ref T)) _ (by omega) hlt (fun b o e => ext b o (fun q => by rw [q, gS] at e; cases e) (hkp b o (fun q => by rw [q, gz] at e; cases e) (fun q => by rw [q, gO] at e; cases e) (fun q => by rw [gi b q] at e; cases e) (hgk b o e))) ?_ (Heap.get?_update_self _ hS' rfl) (by rw [Array.size_push, hacc]) (fun j v hv => ?_) fun h'' acc' c' tk' hkp' hS'' hacc' hG' => ?_⟩)
      (by rw [sizeLine_eq, hacc]; omega) (by show (acc.push (Value.ref T)).size ≤ sizeLine + 1; rw [Array.size_push, hacc, sizeLine_eq]; omega)
    · obtain ⟨⟨f0, f1, hz, r⟩, hTI, ⟨ws, hw, hws⟩, hSt⟩ := hst'
      exact ⟨⟨f0, f1, ext _ _ (Ne.symm hSz) hz, r⟩, ext _ _ (Ne.symm hSI) hTI, ⟨ws, ext _ _ (Ne.symm hSO) hw, hws⟩, fun k hk => (Fm.draws k _ (List.getElem?_eq_getElem hk)).frame _ _ _ (hSt k hk) fun b hb o e => ext _ _ (fun q => hSf k hk (q ▸ hb)) e⟩
    · rw [Array.getElem?_push] at hv
      split at hv
      · rename_i q
        cases hv
        rw [hacc] at q; subst q
        exact ⟨T, xs, rfl, ext _ _ hTS hT, hxs, hPx, hTz, hTO, hTi, hTS, hTg⟩
      · obtain ⟨T', xs', e1, e2, e3, e4, e5, e6, e7, e8⟩ := hG j v hv
        exact ⟨T', xs', e1, ext _ _ e8.1 (hkp _ _ e5 e6 e7 e2), e3, e4, e5, e6, e7, e8⟩
    · exact hR h'' acc' c' tk' (fun b o b1 b2 b3 b4 e => hkp' b o b1 b2 b3 b4 (ext _ _ b4 (hkp b o b1 b2 b3 e))) hS'' hacc' hG'
theorem call_list_zip {N k0 : Nat} {Q : Value → Shared → Prop} {g : Heap} (gk : g.StaysIn s.heap) (gz : g.get? z = none) (gO : g.get? TO = none) (gi : ∀ it ∈ its, g.get? it = none) (Fm : Fam prog w A.in1.in1.in1 its fp n P St) (Z : ZApart z TI TO its fp) (hne : its ≠ []) (hk0 : k0 < its.length) (hN : n k0 = N) (hmin : ∀ k, k < its.length → N ≤ n k) (hfirst : ∀ k, k < k0 → N < n k) (hNl : N ≤ 1000)
    (hst : ZSt z TI TO its St 0 s.heap) (hfp : ∀ k, k < its.length → ∀ b ∈ fp k, b < s.heap.objs.size)
    (hQ : ∀ S h' acc c tk, s.heap.get? S = none → (∀ b o, b ≠ z → b ≠ TO → (b ∉ its) → s.heap.get? b = some o → h'.get? b = some o) → h'.get? S = some { cls := .type "list", dict := none, data := .seq acc c, slots := #[] } → acc.size = N →
      ZGot g z TI TO S its P acc h' → Q (.ref S) { s with heap := h', toks := tk }) :
    wpAny (model prog w) A (call (.type "list") [.ref z]) Q E s := by
  obtain ⟨⟨f0, f1, hz, hf⟩, hTI, ⟨ws, hw, hws⟩, hSt⟩ := id hst
  have hTz : s.TypeIs (.ref z) "zip" := ⟨_, hz, rfl⟩
  have lz := Heap.lt_size hz
  have lI := Heap.lt_size hTI
  have lO := Heap.lt_size hw
  have hSf : ∀ k, k < its.length → s.heap.objs.size ∉ fp k := fun k hk hm => Nat.lt_irrefl _ (hfp k hk _ hm)
  have hSz : s.heap.objs.size ≠ z := Nat.ne_of_gt lz
  have hSI : s.heap.objs.size ≠ TI := Nat.ne_of_gt lI
  have hSO : s.heap.objs.size ≠ TO := Nat.ne_of_gt lO
  refine callType_codes (Q₁ := fun obj s₁ => obj = .ref s.heap.objs.size ∧ s₁ = { s with heap := s.heap.push { cls := .type "list", data := .seq #[] } }) F.called_list (F.typeCall_list_1 _) F.entry_list_init
    (code_list_new _ ⟨rfl, rfl⟩) fun obj s₁ h₁ => ?_
  obtain ⟨rfl, rfl⟩ := h₁
  generalize hSS : s.heap.objs.size = S at *
  have hS : (s.heap.push { cls := .type "list", data := .seq #[] }).get? S = some { cls := .type "list", data := .seq #[] } := by rw [← hSS]; exact Heap.get?_push_size _ rfl
  refine ⟨⟨_, hS, rfl⟩, F.args_list_init_2 _ _, ?_⟩
  have stk : ∀ {h : Heap}, (∀ b o, b ≠ S → s.heap.get? b = some o → h.get? b = some o) → ZSt z TI TO its St 0 h := fun hk =>
    ⟨⟨f0, f1, hk _ _ (Ne.symm hSz) hz, hf⟩, hk _ _ (Ne.symm hSI) hTI, ⟨ws, hk _ _ (Ne.symm hSO) hw, hws⟩, fun k hkl => (Fm.draws k _ (List.getElem?_eq_getElem hkl)).frame _ _ _ (hSt k hkl) fun b hb o e => hk _ _ (fun q => hSf k hkl (q ▸ hb)) e⟩
  have push : ∀ b o, s.heap.get? b = some o → (s.heap.push { cls := .type "list", data := .seq #[] }).get? b = some o := fun b o e => Heap.get?_push_of_some _ e
  show wpAny _ A.in1.in1 (do let old ← Builtin.List.listItems (.ref S); Builtin.List.listUpdate (.ref S) (fun _ => #[]); letGo old.toList.reverse; Builtin.List.listExtendWith (.ref S) (.ref z) .none) _ _ _
  refine wpAny_bind ?_
  unfold Builtin.List.listItems
  refine wpAny_bind (wpAny_seqItems hS rfl (wpAny_pure ?_))
  show wpAny _ A.in1.in1 (updateSeq S (fun _ => #[]) >>= fun _ => letGo (#[] : Array Value).toList.reverse >>= fun _ => Builtin.List.listExtendWith (.ref S) (.ref z) .none) _ _ _
  refine wpAny_bind (wpAny_updateSeq hS rfl ?_)
  have hS₂ := Heap.get?_update_self (Obj.mapSeq (fun _ => (#[] : Array Value))) hS rfl
  have oth : ∀ b o, b ≠ S → s.heap.get? b = some o → ((s.heap.push { cls := .type "list", data := .seq #[] }).update S (Obj.mapSeq (fun _ => (#[] : Array Value)))).get? b = some o :=
    fun b o hb e => (Heap.get?_update_other _ _ (Ne.symm hb)).trans (push b o e)
  refine wpAny_bind (wpAny_letGo ?_)
  generalize (s.heap.push { cls := .type "list", data := .seq #[] }).update S (Obj.mapSeq (fun _ => (#[] : Array Value))) = h₂ at hS₂ oth
  have st₂ := stk oth
  have hT₂ : ({ s with heap := h₂ } : Shared).TypeIs (.ref z) "zip" := ⟨_, oth _ _ (Ne.symm hSz) hz, rfl⟩
  unfold Builtin.List.listExtendWith
  refine wpAny_bind (wpAny_typeOf hT₂ ?_)
  have h1 : Builtin.List.listSameRef (.ref S) (.ref z) = false := by simp [Builtin.List.listSameRef, hSz]
  have h2 : (Value.type "zip" == Value.type "list") = false := by decide
  have h3 : (Value.type "zip" == Value.type "tuple") = false := by decide
  simp only [h1, h2, h3, Bool.or_false, Bool.false_eq_true, if_false]
  refine wpAny_bind (pyIter_zipN st₂ ?_)
  refine wpAny_bind (wpAny_holding ?_)
  unfold Builtin.List.listLengthHint
  refine wpAny_bind (wpAny_specialOf hT₂ zip_no_len ?_)
  show wpAny _ A.in1.in1 (specialOf (Value.ref z) (Str.ofString "__length_hint__") >>= _) _ _ _
  refine wpAny_bind (wpAny_specialOf hT₂ zip_no_hint ?_)
  refine wpAny_pure ?_
  show wpAny _ A.in1.in1 (rule "list.extend.makes-room" >>= fun _ => Builtin.List.listTouch (.ref S) >>= fun _ =>
    again (.builtin "list.extend.loop" ⟨[.ref S, .ref z, .none], []⟩)) _ _ _
  refine wpAny_bind (wpAny_rule ?_)
  refine wpAny_bind ?_
  show wpAny _ A.in1.in1 (updateSeq S (·.push .none) >>= fun _ => updateSeq S (·.pop)) _ _ _
  refine wpAny_bind (wpAny_updateSeq hS₂ rfl ?_)
  have hS₃ := Heap.get?_update_self (Obj.mapSeq (·.push Value.none)) hS₂ rfl
  refine wpAny_updateSeq (hz := by seq_fits) hS₃ rfl ?_
  have hS₄ := Heap.get?_update_self (Obj.mapSeq (·.pop)) hS₃ rfl
  have oth4 : ∀ b o, b ≠ S → s.heap.get? b = some o → ((h₂.update S (Obj.mapSeq (·.push Value.none))).update S (Obj.mapSeq (·.pop))).get? b = some o :=
    fun b o hb e => (Heap.get?_update_other _ _ (Ne.symm hb)).trans ((Heap.get?_update_other _ _ (Ne.symm hb)).trans (oth b o hb e))
  have gS : g.get? S = none := by
    cases e : g.get? S with
    | none => rfl
    | some o => have h1 := gk _ _ e; rw [← hSS, get_size_none] at h1; cases h1
  refine wpAny_pure ⟨plainId_quiet F.plain_extend_loop _, zip_loop Fm Z hne hk0 hN hmin hfirst hNl S hSf hSz hSO hSI .none gz gO gi gS N 0 _ _ _ (by omega) (Nat.zero_le _) (fun b o e => oth4 b o (fun q => by rw [q, gS] at e; cases e) (gk b o e)) (stk oth4) hS₄ rfl (fun j v hv => by simp at hv) fun h' acc' c' tk hkp hS' hacc hG => ?_⟩
  have hSn : s.heap.get? S = none := by rw [← hSS]; exact get_size_none _
  exact ⟨rfl, hQ S h' acc' c' tk hSn (fun b o b1 b2 b3 e => hkp b o b1 b2 b3 (fun q => by rw [q, hSn] at e; cases e) (oth4 b o (fun q => by rw [q, hSn] at e; cases e) e)) hS' hacc hG⟩
end
end Mine
end
-- Z3
section
open PySem PySem.W PySem.W.X PyProof.Rows PySem.Calls
set_option maxRecDepth 100000
set_option maxHeartbeats 2000000
namespace Mine
section
variable {prog : Program} {w : World} {A : Around} {E : Value → Shared → Prop} {s : Shared}
def ItO : Value → Obj
  | .str x t => { cls := .type (strIterType x), data := .fields #[.str x t, .int 0 0] }
  | v => { cls := .type "list_iterator", data := .fields #[v, .int 0 0] }
def Src (h : Heap) (v : Value) (o : Obj) : Prop := (∃ x t, v = .str x t ∧ o = { cls := .type (strIterType x), data := .fields #[v, .int 0 0] }) ∨ (∃ l items, v = .ref l ∧ h.IsList l items ∧ o = { cls := .type "list_iterator", data := .fields #[v, .int 0 0] }) ∨
  ∃ l items, v = .ref l ∧ h.IsTuple l items ∧ o = { cls := .type "tuple_iterator", data := .fields #[v, .int 0 0] }
theorem Src.keeps {h h' : Heap} {v : Value} {o : Obj} (x : Src h v o) (k : ∀ b o, h.get? b = some o → h'.get? b = some o) : Src h' v o := by
  rcases x with x | ⟨l, items, rfl, ⟨o, ho, r⟩, e⟩ | ⟨l, items, rfl, ⟨o, ho, r⟩, e⟩
  · exact .inl x
  · exact .inr (.inl ⟨l, items, rfl, ⟨o, k _ _ ho, r⟩, e⟩)
  · exact .inr (.inr ⟨l, items, rfl, ⟨o, k _ _ ho, r⟩, e⟩)
theorem Src.live {h : Heap} {v : Value} {o : Obj} (x : Src h v o) : o.isFreed = false := by
  rcases x with ⟨x, t, rfl, rfl⟩ | ⟨l, items, rfl, _, rfl⟩ | ⟨l, items, rfl, _, rfl⟩ <;> rfl
theorem pyIter_src {v : Value} {o : Obj} {Q : Value → Shared → Prop} (x : Src s.heap v o) (h : Q (.ref s.heap.objs.size) { s with heap := s.heap.push o }) : wpAny (model prog w) A (pyIter v) Q E s := by
  rcases x with ⟨x, t, rfl, rfl⟩ | ⟨l, items, rfl, hl, rfl⟩ | ⟨l, items, rfl, hl, rfl⟩
  · exact wpAny_pyIter_strU h
  · exact wpAny_pyIter_list hl h
  · exact wpAny_pyIter_tuple hl h
theorem iterAllN {vs : List Value} {O : Nat → Obj} {Q : List Value → Shared → Prop} (hv : ∀ (k : Nat) v, vs[k]? = some v → Src s.heap v (O k))
    (h : ∀ h', (∀ b o, s.heap.get? b = some o → h'.get? b = some o) → h'.objs.size = s.heap.objs.size + vs.length → (∀ k, k < vs.length → h'.get? (s.heap.objs.size + k) = some (O k)) →
      Q ((List.range vs.length).map fun k => Value.ref (s.heap.objs.size + k)) { s with heap := h' }) :
    wpAny (model prog w) A (Builtin.SmallTypes.iterAll vs) Q E s := by
  unfold Builtin.SmallTypes.iterAll
  refine wpAny_bind (forIn_inv (fun rest (st : Array Value) s' => ∃ k hp, rest = vs.drop k ∧ k ≤ vs.length ∧ st.toList = (List.range k).map (fun k => Value.ref (s.heap.objs.size + k)) ∧ s' = { s with heap := hp } ∧
    (∀ b o, s.heap.get? b = some o → hp.get? b = some o) ∧ hp.objs.size = s.heap.objs.size + k ∧ (∀ j, j < k → hp.get? (s.heap.objs.size + j) = some (O j))) ?_ ?_ _ _ _
    ⟨0, s.heap, rfl, Nat.zero_le _, rfl, rfl, fun _ _ e => e, rfl, fun j hj => absurd hj (Nat.not_lt_zero _)⟩)
  · rintro x rest st s₁ ⟨k, hp, hr, hk, hst, rfl, hkeep, hsz, hit⟩
    have hlt : k < vs.length := by
      rcases Nat.lt_or_ge k vs.length with q | q
      · exact q
      · rw [List.drop_eq_nil_of_le q] at hr; cases hr
    rw [List.drop_eq_getElem_cons hlt] at hr
    obtain ⟨rfl, rfl⟩ := List.cons.inj hr
    refine wpAny_bind (wpAny_holding (pyIter_src ((hv k _ (List.getElem?_eq_getElem hlt)).keeps hkeep) (wpAny_pure ?_)))
    refine ⟨k + 1, hp.push (O k), rfl, hlt, ?_, rfl, fun b o e => Heap.get?_push_of_some _ (hkeep b o e), by rw [Heap.size_push, hsz]; rfl, fun j hj => ?_⟩
    · show (st.push (.ref hp.objs.size)).toList = _
      rw [Array.toList_push, hst, List.range_succ, List.map_append, hsz]; rfl
    · by_cases q : j = k
      · subst q
        rw [← hsz]
        exact Heap.get?_push_size _ (hv j _ (List.getElem?_eq_getElem hlt)).live
      · exact Heap.get?_push_of_some _ (hit j (by omega))
  · rintro st s₁ ⟨k, hp, hr, hk, hst, rfl, hkeep, hsz, hit⟩
    have hke : k = vs.length := by
      rcases Nat.lt_or_ge k vs.length with q | q
      · rw [List.drop_eq_getElem_cons q] at hr; cases hr
      · omega
    subst hke
    refine wpAny_pure ?_
    rw [hst]
    exact h hp hkeep hsz fun j hj => hit j hj
theorem typeCall_zip (vs : List Value) (hl : vs.length = 2 ∨ vs.length = 3 ∨ vs.length = 4) : checkTypeCall "zip" ⟨vs, []⟩ = pure () := by
  match vs, hl with
  | [a, b], _ => kernel_rfl
  | [a, b, c], _ => kernel_rfl
  | [a, b, c, d], _ => kernel_rfl
theorem newCall_zip (vs : List Value) (hl : vs.length = 2 ∨ vs.length = 3 ∨ vs.length = 4) : checkBuiltinCall "zip.__new__" ⟨.type "zip" :: vs, []⟩ = pure () := by
  match vs, hl with
  | [a, b], _ => kernel_rfl
  | [a, b, c], _ => kernel_rfl
  | [a, b, c, d], _ => kernel_rfl
theorem args_init_zip (o : Value) (vs : List Value) (hl : vs.length = 2 ∨ vs.length = 3 ∨ vs.length = 4) : argsOk "object.__init__" ⟨o :: vs, []⟩ := by
  match vs, hl with
  | [a, b], _ => unfold argsOk; kernel_rfl
  | [a, b, c], _ => unfold argsOk; kernel_rfl
  | [a, b, c, d], _ => unfold argsOk; kernel_rfl
theorem call_zipN {vs : List Value} {O : Nat → Obj} {Q : Value → Shared → Prop} (hl : vs.length = 2 ∨ vs.length = 3 ∨ vs.length = 4) (hv : ∀ (k : Nat) v, vs[k]? = some v → Src s.heap v (O k))
    (h : ∀ h', (∀ b o, s.heap.get? b = some o → h'.get? b = some o) → (∀ k, k < vs.length → h'.get? (s.heap.objs.size + k) = some (O k)) →
      h'.get? (s.heap.objs.size + vs.length) = some (tupO (((List.range vs.length).map fun k => Value.ref (s.heap.objs.size + k)).toArray) 0) →
      (∃ ws, h'.get? (s.heap.objs.size + vs.length + 1) = some (tupO ws 0) ∧ ws.size = vs.length) →
      h'.get? (s.heap.objs.size + vs.length + 2) = some (zipObj .none (.bool false) (s.heap.objs.size + vs.length) (s.heap.objs.size + vs.length + 1)) → Q (.ref (s.heap.objs.size + vs.length + 2)) { s with heap := h' }) :
    wpAny (model prog w) A (call (.type "zip") vs) Q E s := by
  refine callType_codes (Q₁ := fun obj s₁ => s₁.TypeIs obj "zip" ∧ Q obj s₁) F.called_zip (typeCall_zip vs hl) F.entry_object_init (codeAny_call_builtin F.called_zip.plain F.entry_zip_new (wpAny_of_eq (newCall_zip vs hl) ?_)) fun obj s₁ h₁ => ?_
  · have hsub := sub_zip
    obtain ⟨hp, g, d, tk', os⟩ := s
    have hI : ∀ (A' : Around) (E' : Value → Shared → Prop) (Q' : List Value → Shared → Prop), (∀ h', (∀ b o, hp.get? b = some o → h'.get? b = some o) → h'.objs.size = hp.objs.size + vs.length → (∀ k, k < vs.length → h'.get? (hp.objs.size + k) = some (O k)) →
      Q' ((List.range vs.length).map fun k => Value.ref (hp.objs.size + k)) ⟨h', g, d, tk', os⟩) → wpAny (model prog w) A' (Builtin.SmallTypes.iterAll vs) Q' E' ⟨hp, g, d, tk', os⟩ := fun A' E' Q' hq => iterAllN hv hq
    wp_walk using hI
    intro h' hk hsz hits
    have hle : vs.length ≤ 4 := by omega
    refine wpAny_bind (wpAny_newTuple ?_ (by simp [sizeLine_eq]; omega))
    refine wpAny_bind (wpAny_newTuple ?_ (by simp [sizeLine_eq]; omega))
    unfold Builtin.SmallTypes.newRecord
    refine wpAny_bind (wpAny_newObj_type ?_ (by first | trivial | simp [sizeOk, Builtin.SmallTypes.ownedTupleFields, sizeLine_eq]))
    dsimp only
    rw [show ((h'.push { cls := .type "tuple", data := .seq (List.map (fun k => Value.ref (hp.objs.size + k)) (List.range vs.length)).toArray }).push { cls := .type "tuple", data := .seq (List.map (fun _ => Value.none) (List.map (fun k => Value.ref (hp.objs.size + k)) (List.range vs.length))).toArray }).objs.size = hp.objs.size + vs.length + 2 by rw [Heap.size_push, Heap.size_push, hsz]]
    have z1 : (h'.push { cls := .type "tuple", data := .seq (List.map (fun k => Value.ref (hp.objs.size + k)) (List.range vs.length)).toArray }).objs.size = hp.objs.size + vs.length + 1 := by rw [Heap.size_push, hsz]
    have z2 : ((h'.push { cls := .type "tuple", data := .seq (List.map (fun k => Value.ref (hp.objs.size + k)) (List.range vs.length)).toArray }).push { cls := .type "tuple", data := .seq (List.map (fun _ => Value.none) (List.map (fun k => Value.ref (hp.objs.size + k)) (List.range vs.length))).toArray }).objs.size = hp.objs.size + vs.length + 2 := by rw [Heap.size_push, z1]
    rw [z1]
    rw [hsz]
    refine wpAny_pure ?_
    have g2 := Heap.get?_push_size (h'.push { cls := .type "tuple", data := .seq (List.map (fun k => Value.ref (hp.objs.size + k)) (List.range vs.length)).toArray }) (o := { cls := .type "tuple", data := .seq (List.map (fun _ => Value.none) (List.map (fun k => Value.ref (hp.objs.size + k)) (List.range vs.length))).toArray }) rfl
    rw [z1] at g2
    have g1 := Heap.get?_push_size h' (o := { cls := .type "tuple", data := .seq (List.map (fun k => Value.ref (hp.objs.size + k)) (List.range vs.length)).toArray }) rfl
    rw [hsz] at g1
    have g3 := Heap.get?_push_size ((h'.push { cls := .type "tuple", data := .seq (List.map (fun k => Value.ref (hp.objs.size + k)) (List.range vs.length)).toArray }).push { cls := .type "tuple", data := .seq (List.map (fun _ => Value.none) (List.map (fun k => Value.ref (hp.objs.size + k)) (List.range vs.length))).toArray }) (o := { cls := .type "zip", data := .fields (Builtin.SmallTypes.ownedTupleFields ++ [Value.bool false, Value.ref (hp.objs.size + vs.length), Value.ref (hp.objs.size + vs.length + 1)]).toArray }) rfl
    rw [z2] at g3
    exact ⟨⟨_, g3, rfl⟩, h _ (fun b o e => Heap.get?_push_of_some _ (Heap.get?_push_of_some _ (Heap.get?_push_of_some _ (hk b o e)))) (fun k hk' => Heap.get?_push_of_some _ (Heap.get?_push_of_some _ (Heap.get?_push_of_some _ (hits k hk'))))
      (Heap.get?_push_of_some _ (Heap.get?_push_of_some _ g1)) ⟨_, Heap.get?_push_of_some _ g2, by simp⟩ g3⟩
  · obtain ⟨hT, hq⟩ := h₁
    refine ⟨hT, args_init_zip _ _ hl, ?_⟩
    have hli := F.called_zip.init.lookup
    have hm := F.called_zip.made
    have hne : (some "zip.__new__" != some "object.__new__") = true := by decide
    match vs, hl with
    | [a, b], _ => (repeat (any_goals (first | assumption | wp_step))); exact ⟨rfl, hq⟩
    | [a, b, c], _ => (repeat (any_goals (first | assumption | wp_step))); exact ⟨rfl, hq⟩
    | [a, b, c, d], _ => (repeat (any_goals (first | assumption | wp_step))); exact ⟨rfl, hq⟩
end
end Mine
end
-- U1
section
open PySem PySem.W PySem.W.X PyProof.Rows PySem.Calls PySem.Builtin PySem.Builtin.Str
set_option maxRecDepth 100000
namespace Mine
theorem ix_ss (i j n : Nat) : strSliceIndices (some (i : Int)) (some (j : Int)) 1 n = strSliceIndices (some ((min i n : Nat) : Int)) (some ((min j n : Nat) : Int)) 1 n := by
  have h2 : (1 : Int) > 0 := by decide
  have a0 : ¬ (i : Int) < 0 := by omega
  have a1 : ¬ (j : Int) < 0 := by omega
  have a2 : ¬ ((min i n : Nat) : Int) < 0 := by omega
  have a3 : ¬ ((min j n : Nat) : Int) < 0 := by omega
  simp only [strSliceIndices, a0, a1, a2, a3, h2, if_false, if_true]
  congr 1 <;> omega
theorem ix_s (i n : Nat) : strSliceIndices (some (i : Int)) none 1 n = strSliceIndices (some ((min i n : Nat) : Int)) (some (n : Int)) 1 n := by
  have h2 : (1 : Int) > 0 := by decide
  have a0 : ¬ (i : Int) < 0 := by omega
  have a1 : ¬ (n : Int) < 0 := by omega
  have a2 : ¬ ((min i n : Nat) : Int) < 0 := by omega
  simp only [strSliceIndices, a0, a1, a2, h2, if_false, if_true]
  congr 1 <;> omega
theorem ix_n (j n : Nat) : strSliceIndices none (some (j : Int)) 1 n = strSliceIndices (some ((0 : Nat) : Int)) (some ((min j n : Nat) : Int)) 1 n := by
  have h2 : (1 : Int) > 0 := by decide
  have a0 : ¬ (j : Int) < 0 := by omega
  have a1 : ¬ ((0 : Nat) : Int) < 0 := by omega
  have a2 : ¬ ((min j n : Nat) : Int) < 0 := by omega
  simp only [strSliceIndices, a0, a1, a2, h2, if_false, if_true]
  congr 1 <;> omega
theorem slice_in {x : Str} {i j : Nat} (h : i ≤ j) (h' : j ≤ x.length) : (Txt.slice x (some (i : Int)) (some (j : Int))).cps.toList = (x.cps.toList.drop i).take (j - i) := by
  have e := beq_iff_eq.mp (slice_closes (x := x) (i := i) (j := j) ⟨by omega, by omega, by rw [Array.length_toList]; exact Int.ofNat_le.mpr h'⟩)
  rw [e]
  show List.take ((j : Int) - i).toNat (List.drop (i : Int).toNat x.cps.toList) = _
  rw [show ((j : Int) - i).toNat = j - i by omega, show (i : Int).toNat = i by omega]
theorem Txt_congr {x : Str} {l u l' u' : Option Int} (h : strSliceIndices l u 1 x.length = strSliceIndices l' u' 1 x.length) : Txt.slice x l u = Txt.slice x l' u' := by
  unfold Txt.slice; rw [h]
theorem str_len_list (x : Str) : x.cps.toList.length = x.length := by rw [Array.length_toList]; rfl
theorem slice_ss (x : Str) (i j : Nat) : (Txt.slice x (some (i : Int)) (some (j : Int))).cps.toList = (x.cps.toList.drop i).take (j - i) := by
  have hl := str_len_list x
  rw [Txt_congr (ix_ss i j x.length)]
  by_cases h : min i x.length ≤ min j x.length
  · rw [slice_in h (Nat.min_le_right ..)]
    apply List.ext_getElem?
    intro k
    simp only [List.getElem?_take, List.getElem?_drop]
    by_cases c : k < min j x.length - min i x.length
    · rw [if_pos c, if_pos (by omega)]; congr 1; omega
    · rw [if_neg c]
      by_cases c' : k < j - i
      · rw [if_pos c', List.getElem?_eq_none (by omega)]
      · rw [if_neg c']
  · have e : (x.cps.toList.drop i).take (j - i) = [] := by
      rw [show j - i = 0 by omega, List.take_zero]
    rw [e]
    have h2 : (1 : Int) > 0 := by decide
    have a2 : ¬ ((min i x.length : Nat) : Int) < 0 := by omega
    have a3 : ¬ ((min j x.length : Nat) : Int) < 0 := by omega
    have ez : strSliceIndices (some ((min i x.length : Nat) : Int)) (some ((min j x.length : Nat) : Int)) 1 x.length = [] := by
      simp only [strSliceIndices, a2, a3, h2, if_false, if_true, sliceRange]
      rw [if_neg (by omega)]
      simp
    unfold Txt.slice
    rw [ez]
    split
    · rename_i q
      have : x.cps.toList.length = 0 := by
        rw [hl]; simp at q; exact q.symm
      exact List.length_eq_zero_iff.mp this
    · rfl
theorem slice_s (x : Str) (i : Nat) : (Txt.slice x (some (i : Int)) none).cps.toList = x.cps.toList.drop i := by
  have hl := str_len_list x
  rw [Txt_congr (ix_s i x.length), slice_in (Nat.min_le_right ..) (Nat.le_refl _)]
  rw [List.take_of_length_le (by rw [List.length_drop]; omega)]
  by_cases h : i ≤ x.length
  · rw [Nat.min_eq_left h]
  · rw [Nat.min_eq_right (by omega), List.drop_of_length_le (by omega), List.drop_of_length_le (by omega)]
theorem slice_n (x : Str) (j : Nat) : (Txt.slice x none (some (j : Int))).cps.toList = x.cps.toList.take j := by
  have hl := str_len_list x
  rw [Txt_congr (ix_n j x.length), slice_in (Nat.zero_le _) (Nat.min_le_right ..)]
  rw [List.drop_zero, Nat.sub_zero]
  by_cases h : j ≤ x.length
  · rw [Nat.min_eq_left h]
  · rw [Nat.min_eq_right (by omega), List.take_of_length_le (by omega), List.take_of_length_le (by omega)]
theorem str_ext {x y : Str} (h : x.cps.toList = y.cps.toList) : x = y := by
  obtain ⟨x⟩ := x; obtain ⟨y⟩ := y
  congr 1
  exact Array.toList_inj.mp h
theorem pick_s (its : Array Value) (i : Nat) : (slicePick its (some (i : Int)) none none).toList = its.toList.drop i := by
  rw [kms_pick_eq]
  unfold kms_pick
  have e1 : kms_lo (some (i : Int)) its.toList.length = min i its.toList.length := by
    unfold kms_lo; simp only; rw [if_neg (by omega)]; simp
  have e2 : kms_hi none its.toList.length = its.toList.length := rfl
  rw [e1, e2]
  have hl : its.toList.length = its.size := Array.length_toList
  show List.take _ (List.drop _ _) = _
  rw [hl, List.take_of_length_le (by rw [List.length_drop]; omega)]
  by_cases h : i ≤ its.size
  · rw [Nat.min_eq_left h]
  · rw [Nat.min_eq_right (by omega), List.drop_of_length_le (by omega), List.drop_of_length_le (by omega)]
end Mine
end
-- Z4
section
open PySem PySem.W PySem.W.X PyProof.Rows PySem.Calls
set_option maxRecDepth 100000
set_option maxHeartbeats 2000000
namespace Mine
/-- a text or a list whose items are the letters cs, each as a text of its own -/
def Letters (h : Heap) (v : Value) (cs : List Nat) : Prop :=
  (∃ x t, v = .str x t ∧ x.cps.toList = cs) ∨ ∃ l items, v = .ref l ∧ h.IsList l items ∧ items.size = cs.length ∧ ∀ (i : Nat) c, cs[i]? = some c → ∃ u, items[i]? = some (.str ⟨#[c]⟩ u)
theorem Letters.stays {h h' : Heap} {v : Value} {cs : List Nat} (x : Letters h v cs) (k : h.StaysIn h') : Letters h' v cs := by
  rcases x with x | ⟨l, items, e, ⟨o, ho, r⟩, r'⟩
  · exact .inl x
  · exact .inr ⟨l, items, e, ⟨o, k _ _ ho, r⟩, r'⟩
theorem Letters.src {h : Heap} {v : Value} {cs : List Nat} (x : Letters h v cs) : Src h v (ItO v) := by
  rcases x with ⟨x, t, e, _⟩ | ⟨l, items, e, hl, _⟩
  · exact .inl ⟨x, t, e, by rw [e]; rfl⟩
  · exact .inr (.inl ⟨l, items, e, hl, by rw [e]; rfl⟩)
section
variable {prog : Program} {w : World} {A : Around} {E : Value → Shared → Prop} {s : Shared}
def OneLetter (cs : List Nat) (i : Nat) (v : Value) : Prop := ∃ c u, cs[i]? = some c ∧ v = .str ⟨#[c]⟩ u
theorem Draws.imp {it : Addr} {fp : List Addr} {n n' : Nat} {P P' : Nat → Value → Prop} {St : Nat → Heap → Prop} (D : Draws prog w A it fp n P St) (hn : n = n') (hP : ∀ i v, i < n → P i v → P' i v) : Draws prog w A it fp n' P' St := by
  subst hn
  exact { live := D.live, frame := D.frame, done := D.done, item := fun i s Q E hi st hQ => D.item i s Q E hi st fun x h' tk hp => hQ x h' tk (hP i x hi hp) }
structure Dr (prog : Program) (w : World) (h : Heap) (it : Addr) (v : Value) (cs : List Nat) (fp : List Addr) (St : Nat → Heap → Prop) : Prop where
  draws : ∀ A : Around, A.handled = none → Draws prog w A it fp cs.length (OneLetter cs) St
  st : St 0 h
  own : it ∈ fp
  rest : ∀ b ∈ fp, b = it ∨ b ∈ addrOf v
theorem dr_of {h h' : Heap} {it : Addr} {v : Value} {cs : List Nat} (x : Letters h v cs) (hk : h.StaysIn h') (hi : h'.get? it = some (ItO v)) (hn : h.get? it = none) : ∃ fp St, Dr prog w h' it v cs fp St := by
  rcases x with ⟨x, t, rfl, rfl⟩ | ⟨l, items, rfl, hl, hsz, hit⟩
  · have e : ∀ i (v : Value), (∃ c u, x.cps[i]? = some c ∧ v = Value.str ⟨#[c]⟩ u) → OneLetter x.cps.toList i v := fun i v ⟨c, u, h1, h2⟩ => ⟨c, u, by rw [Array.getElem?_toList]; exact h1, h2⟩
    by_cases q : x.cps.all (· < 128) = true
    · refine ⟨[it], fun i h => h.IsStrIter it "str_ascii_iterator" x t i, fun A hh => Draws.imp (Draws.strAscii hh it x t) (by simp) fun i v _ => e i v, ?_, by simp, fun b hb => .inl (by simpa using hb)⟩
      exact ⟨_, hi, by simp [ItO, strIterType, q], rfl⟩
    · refine ⟨[it], fun i h => h.IsStrIter it "str_iterator" x t i, fun A hh => Draws.imp (Draws.strWide hh it x t) (by simp) fun i v _ => e i v, ?_, by simp, fun b hb => .inl (by simpa using hb)⟩
      exact ⟨_, hi, by simp [ItO, strIterType, q], rfl⟩
  · have hne : l ≠ it := fun q => by obtain ⟨o, ho, _⟩ := hl; rw [q, hn] at ho; cases ho
    refine ⟨[it, l], fun i h => h.IsListIter it l i ∧ h.IsList l items, fun A hh => Draws.imp (Draws.list hh it l hne items) hsz fun i v hlt hv => ?_, ⟨⟨_, hi, rfl, rfl⟩, let ⟨o, ho, r⟩ := hl; ⟨o, hk _ _ ho, r⟩⟩, by simp, fun b hb => ?_⟩
    · obtain ⟨u, hu⟩ := hit i cs[i] (List.getElem?_eq_getElem (by omega))
      rw [hu] at hv; cases hv
      exact ⟨_, u, List.getElem?_eq_getElem (by omega), rfl⟩
    · simp only [List.mem_cons, List.not_mem_nil, or_false] at hb
      rcases hb with rfl | rfl
      · exact .inl rfl
      · exact .inr (by simp [addrOf])
/-- a zip that stands before its first drawing -/
def ZReady (prog : Program) (w : World) (g h : Heap) (z : Addr) (css : List (List Nat)) : Prop :=
  ∃ TI TO its fp St, (∀ A : Around, A.handled = none → Fam prog w A its fp (fun k => (css.getD k []).length) (fun k => OneLetter (css.getD k [])) St) ∧ ZApart z TI TO its fp ∧ its.length = css.length ∧ ZSt z TI TO its St 0 h ∧
    (∀ k, k < its.length → ∀ b ∈ fp k, ∃ o, h.get? b = some o) ∧ g.get? z = none ∧ g.get? TO = none ∧ ∀ it ∈ its, g.get? it = none
theorem ZReady.stays {g h h' : Heap} {z : Addr} {css : List (List Nat)} (x : ZReady prog w g h z css) (k : h.StaysIn h') : ZReady prog w g h' z css := by
  obtain ⟨TI, TO, its, fp, St, a1, a2, a3, ⟨⟨f0, f1, b1, b2⟩, b3, ⟨ws, b4, b5⟩, b6⟩, a5, a6⟩ := x
  have Fm := a1 { handled := none, depth := 0, frames := none, guards := none, units := 0 } rfl
  exact ⟨TI, TO, its, fp, St, a1, a2, a3, ⟨⟨f0, f1, k _ _ b1, b2⟩, k _ _ b3, ⟨ws, k _ _ b4, b5⟩, fun j hj => (Fm.draws j _ (List.getElem?_eq_getElem hj)).frame _ _ _ (b6 j hj) fun b _ o e => k b o e⟩,
    fun j hj b hb => let ⟨o, ho⟩ := a5 j hj b hb; ⟨o, k _ _ ho⟩, a6⟩
theorem zip_ready {g : Heap} {vs : List Value} {css : List (List Nat)} {Q : Value → Shared → Prop} (hl : vs.length = 2 ∨ vs.length = 3 ∨ vs.length = 4) (hlen : css.length = vs.length) (hL : ∀ (k : Nat) v cs, vs[k]? = some v → css[k]? = some cs → Letters s.heap v cs)
    (hg : g.StaysIn s.heap) (h : ∀ z h', s.heap.StaysIn h' → ZReady prog w g h' z css → Q (.ref z) { s with heap := h' }) :
    wpAny (model prog w) A (call (.type "zip") vs) Q E s := by
  have cs_of : ∀ (k : Nat) v, vs[k]? = some v → ∃ cs, css[k]? = some cs := fun k v hv => ⟨css[k]'(by rw [hlen]; exact (List.getElem?_eq_some_iff.mp hv).1), List.getElem?_eq_getElem _⟩
  refine call_zipN (O := fun k => ItO (vs.getD k .none)) hl (fun k v hv => ?_) fun h' hk hits hTI ⟨ws, hTO, hws⟩ hz => ?_
  · obtain ⟨cs, hc⟩ := cs_of k _ hv
    have := (hL k _ _ hv hc).src
    rwa [List.getD_eq_getElem?_getD, hv]
  · refine h _ h' hk ?_
    have hfresh : ∀ a, s.heap.objs.size ≤ a → s.heap.get? a = none := fun a ha => by
      cases e : s.heap.get? a with
      | none => rfl
      | some o' => exact absurd (Heap.lt_size e) (Nat.not_lt.mpr ha)
    have gn : ∀ a, s.heap.get? a = none → g.get? a = none := fun a ha => by
      cases e : g.get? a with
      | none => rfl
      | some o => rw [hg _ _ e] at ha; cases ha
    have : ∀ k, ∃ y : List Addr × (Nat → Heap → Prop), k < vs.length → Dr prog w h' (s.heap.objs.size + k) (vs.getD k .none) (css.getD k []) y.1 y.2 := fun k => by
      by_cases hkl : k < vs.length
      · have hv : vs[k]? = some vs[k] := List.getElem?_eq_getElem hkl
        obtain ⟨cs, hc⟩ := cs_of k _ hv
        obtain ⟨fp, St, D⟩ := dr_of (prog := prog) (w := w) (hL k _ _ hv hc) hk (by have := hits k hkl; rwa [List.getD_eq_getElem?_getD, hv] at this) (hfresh _ (Nat.le_add_right _ _))
        refine ⟨(fp, St), fun _ => ?_⟩
        rw [List.getD_eq_getElem?_getD, List.getD_eq_getElem?_getD, hv, hc]; exact D
      · exact ⟨([], fun _ _ => True), fun q => absurd q hkl⟩
    obtain ⟨f, hf⟩ := Classical.skolem.mp this
    have ilen : ((List.range vs.length).map fun k => s.heap.objs.size + k).length = vs.length := by simp
    have iat : ∀ k a, ((List.range vs.length).map fun k => s.heap.objs.size + k)[k]? = some a → k < vs.length ∧ a = s.heap.objs.size + k := fun k a ha => by
      rw [List.getElem?_map] at ha
      by_cases q : k < vs.length
      · rw [List.getElem?_range q] at ha
        exact ⟨q, (Option.some.inj ha).symm⟩
      · rw [List.getElem?_eq_none (by simpa using q)] at ha; cases ha
    have addr_lt : ∀ k, k < vs.length → ∀ b ∈ addrOf (vs.getD k .none), ∃ o, s.heap.get? b = some o := fun k hkl b hb => by
      have hv : vs[k]? = some vs[k] := List.getElem?_eq_getElem hkl
      obtain ⟨cs, hc⟩ := cs_of k _ hv
      rw [List.getD_eq_getElem?_getD, hv] at hb
      rcases hL k _ _ hv hc with ⟨x, t, e, _⟩ | ⟨l, items, e, ⟨o, ho, _⟩, _⟩
      · simp only [Option.getD_some, e, addrOf, List.not_mem_nil] at hb
      · simp only [Option.getD_some, e, addrOf, List.mem_singleton] at hb
        exact ⟨o, hb ▸ ho⟩
    have lo : ∀ k, k < vs.length → ∀ b ∈ (f k).1, b = s.heap.objs.size + k ∨ b < s.heap.objs.size := fun k hkl b hb => by
      rcases (hf k hkl).rest b hb with h | h
      · exact .inl h
      · obtain ⟨o, ho⟩ := addr_lt k hkl b h; exact .inr (Heap.lt_size ho)
    refine ⟨s.heap.objs.size + vs.length, s.heap.objs.size + vs.length + 1, (List.range vs.length).map fun k => s.heap.objs.size + k, fun k => (f k).1, fun k => (f k).2, fun A hh => ?_, ?_, by rw [ilen, hlen], ?_, ?_, gn _ (hfresh _ (by omega)), gn _ (hfresh _ (by omega)), ?_⟩
    · refine ⟨fun k a ha => ?_, fun k a ha => ?_, fun k k' a ha hne hk' => ?_⟩
      · obtain ⟨q, rfl⟩ := iat k a ha
        exact (hf k q).draws A hh
      · obtain ⟨q, rfl⟩ := iat k a ha
        exact (hf k q).own
      · obtain ⟨q, rfl⟩ := iat k a ha
        rw [ilen] at hk'
        intro hm
        rcases lo k' hk' _ hm with e | e
        · exact hne (Nat.add_left_cancel e)
        · exact absurd e (Nat.not_lt.mpr (Nat.le_add_right _ _))
    · have big : ∀ c, vs.length ≤ c → ∀ k, k < ((List.range vs.length).map fun k => s.heap.objs.size + k).length → s.heap.objs.size + c ∉ (f k).1 := fun c hc k hk' hm => by
        rw [ilen] at hk'
        rcases lo k hk' _ hm with e | e
        · have := Nat.add_left_cancel e; omega
        · exact absurd e (Nat.not_lt.mpr (Nat.le_add_right _ _))
      refine ⟨fun k hk' => big (vs.length + 2) (by omega) k hk', fun k hk' => big (vs.length + 1) (by omega) k hk', fun k hk' => big vs.length (Nat.le_refl _) k hk', ?_, ?_, ?_, by rw [ilen]; omega⟩
      · show @Ne Nat _ _; omega
      · show @Ne Nat _ _; omega
      · show @Ne Nat _ _; omega
    · refine ⟨⟨_, _, hz, .inl rfl, _, rfl⟩, ?_, ⟨ws, hTO, by rw [hws, ilen]⟩, fun k hk' => (hf k (by rw [ilen] at hk'; exact hk')).st⟩
      rw [hTI, List.map_map]; rfl
    · intro k hk' b hb
      rw [ilen] at hk'
      rcases (hf k hk').rest b hb with rfl | hb
      · obtain ⟨o, ho⟩ := ((hf k hk').draws { handled := none, depth := 0, frames := none, guards := none, units := 0 } rfl).live _ _ (hf k hk').st
        exact ⟨o, ho⟩
      · obtain ⟨o, ho⟩ := addr_lt k hk' b hb
        exact ⟨o, hk _ _ ho⟩
    · intro it hit
      obtain ⟨k, hk', e⟩ := List.getElem_of_mem hit
      obtain ⟨_, rfl⟩ := iat k it (by rw [List.getElem?_eq_getElem hk', e])
      exact gn _ (hfresh _ (Nat.le_add_right _ _))
/-- a list of tuples: the pieces -/
def PieceL (g h : Heap) (css : List (List Nat)) (acc : Array Value) : Prop :=
  ∀ (j : Nat) v, acc[j]? = some v → ∃ T xs, v = .ref T ∧ h.get? T = some (tupO xs 0) ∧ g.get? T = none ∧ xs.size = css.length ∧ ∀ (k : Nat) x, xs[k]? = some x → OneLetter (css.getD k []) j x
theorem list_ready {g : Heap} {z : Addr} {css : List (List Nat)} {N k0 : Nat} {Q : Value → Shared → Prop} (hh : A.handled = none) (Z : ZReady prog w g s.heap z css) (hg : g.StaysIn s.heap) (hne : css ≠ []) (hk0 : k0 < css.length) (hN : (css.getD k0 []).length = N) (hmin : ∀ k, k < css.length → N ≤ (css.getD k []).length) (hfirst : ∀ k, k < k0 → N < (css.getD k []).length) (hNl : N ≤ 1000)
    (h : ∀ S h' acc c tk, s.heap.get? S = none → g.StaysIn h' → h'.get? S = some { cls := .type "list", dict := none, data := .seq acc c, slots := #[] } → acc.size = N → PieceL g h' css acc → Q (.ref S) { s with heap := h', toks := tk }) :
    wpAny (model prog w) A (call (.type "list") [.ref z]) Q E s := by
  obtain ⟨TI, TO, its, fp, St, a1, a2, a3, a4, a5, a6, a7, a8⟩ := Z
  have hne' : its ≠ [] := fun q => hne (by rw [q] at a3; exact List.length_eq_zero_iff.mp a3.symm)
  refine call_list_zip hg a6 a7 a8 (a1 _ (by simpa using hh)) a2 hne' (by rw [a3]; exact hk0) hN (fun k hk => hmin k (by rw [← a3]; exact hk)) hfirst hNl a4 (fun k hk b hb => let ⟨o, ho⟩ := a5 k hk b hb; Heap.lt_size ho) fun S h' acc c tk hS hkp hS' hsz hG => ?_
  refine h S h' acc c tk hS (fun b o e => hkp b o (fun q => by rw [q, a6] at e; cases e) (fun q => by rw [q, a7] at e; cases e) (fun q => by rw [a8 b q] at e; cases e) (hg b o e)) hS' hsz fun j v hv => ?_
  obtain ⟨T, xs, e1, e2, e3, e4, _, _, _, _, e5⟩ := hG j v hv
  exact ⟨T, xs, e1, e2, e5, by rw [e3, a3], e4⟩
end
end Mine
end
-- C1
section
open PySem PySem.W PySem.W.X PyProof.Rows PySem.Calls
set_option maxRecDepth 100000
set_option maxHeartbeats 2000000
namespace Mine
section
variable {prog : Program} {w : World} {A : Around} {E : Value → Shared → Prop} {s : Shared} {h₀ : Heap} {L : Addr} {m : Str → Option Value} {env : Env}
/-- a comprehension's source, met by an iterator -/
def CompIt (prog : Program) (w : World) (A : Around) (h₀ : Heap) (L : Addr) (m : Str → Option Value) (env : Env) (elt : Expr) (x : Str) (scope : Scope) (cl : List (Str × Addr)) (Fin : Shared → List Value → List (Addr × Obj) → Prop) (it : Value) (s₂ : Shared) : Prop :=
  ∃ I fp n P St S news, it = .ref I ∧ Walks prog w A I fp [I] n P St ∧ n ≤ sizeLine ∧ (∀ i h, St i h → ∃ o, h.get? I = some o) ∧
    (∀ i h h' o nw, St i h → h.get? I = some o → h'.get? I = some o → (∀ b o, h₀.get? b = some o → h'.get? b = some o) → News h₀ L h' nw → S nw → St i h') ∧ St 0 s₂.heap ∧ (∀ b ∈ fp, b < s₂.heap.objs.size) ∧
    Fr h₀ L s₂.heap m ∧ News h₀ L s₂.heap news ∧ L ≠ I ∧ h₀.get? I = none ∧ (∀ p ∈ news, p.1 ≠ I) ∧ S news ∧ LCg.CompRest prog w A h₀ L m env elt x scope cl s₂ S P (Fin s₂) n 0 [] news
theorem ListComp_W {elt iter : Expr} {x : Str} {px : Pos} {scope : Scope} {cl : List (Str × Addr)} {pos : Pos} {Q : Value → Shared → Prop} (_F₀ : Fr h₀ L s.heap m)
    (hclos : closureFor scope env = pure cl) (hcell : ∀ y ∈ scope.names, y.2 ≠ .cell) (hkind : scope.kind = .function)
    (hnames : ∀ y ∈ scope.names, y.2 = .local → scope.names.lookup y.1 = some .local) (hx : scope.names.lookup x = some .local)
    (h : wpAny (model prog w) A (eval iter env) (fun xv s₁ => wpAny (model prog w) A (pyIter xv) (CompIt prog w A h₀ L m env elt x scope cl (fun s₂ => LCg.FinE h₀ L m s₂ Q)) E s₁) E s)
    (hs : ∀ x, foldedSetIterable iter env x = pure x := by intro _; rfl) :
    wpAny (model prog w) A (eval (.ListComp elt [⟨.Name x px, iter, [], 0⟩] scope pos) env) Q E s := by
  rw [eval_ListComp]
  refine wpAny_comprehension_free (use := none) rfl hs hclos hkind hnames (wpAny_mono h (fun xv s₁ h₁ => wpAny_mono h₁ (fun it s₂ h₂ => ?_) fun _ _ e => e) fun _ _ e => e)
  obtain ⟨I, fp, n, P, St, S, news, rfl, W, hsz, hIo, hSt, st0, hfp, F, N, hIL, hI0, off, hS, R⟩ := h₂
  refine LCg.block_U W hsz hIo hSt hcell hkind hx st0 hfp F N hIL hI0 off hS R ?_
  intro D C h tk m' ys news' F' N' o1 hn hC₀ hD₀ hCL hDL hCD offC fin
  refine ⟨m', hn, fun h'' hs'' => fin D h'' tk (F'.change hs'' hCL hC₀) (fun p hp => ?_) o1⟩
  refine ⟨hs''.extBut _ _ ?_ (N' p hp).1, (N' p hp).2⟩
  rcases List.mem_cons.mp hp with rfl | hp
  · exact Ne.symm hCD
  · exact offC p hp
theorem Assign_ListComp_W {elt iter : Expr} {x y : Str} {px py : Pos} {scope : Scope} {cl : List (Str × Addr)} {pos spos : Pos} {Q : Flow → Shared → Prop} (_F₀ : Fr h₀ L s.heap m) (hLe : env.locals = L)
    (hsw : swapsWith (.ListComp elt [⟨.Name x px, iter, [], 0⟩] scope pos) (some (.Name y py)) spos.line env = pure true)
    (hclos : closureFor scope env = pure cl) (hcell : ∀ z ∈ scope.names, z.2 ≠ .cell) (hkind : scope.kind = .function)
    (hnames : ∀ z ∈ scope.names, z.2 = .local → scope.names.lookup z.1 = some .local) (hx : scope.names.lookup x = some .local)
    (hy : env.kindOf y = some .local) (hp : (env.scope.kind == .class || (env.scope.kind == .module && env.locals != env.globals)) = false)
    (h : wpAny (model prog w) A (eval iter env) (fun xv s₁ => wpAny (model prog w) A (pyIter xv) (CompIt prog w A h₀ L m env elt x scope cl (fun s₂ => LCg.FinA h₀ L m s₂ y Q)) E s₁) E s)
    (hs : ∀ x, foldedSetIterable iter env x = pure x := by intro _; rfl) :
    wpAny (model prog w) A (exec (.Assign [.Name y py] (.ListComp elt [⟨.Name x px, iter, [], 0⟩] scope pos) spos) env) Q E s := by
  subst hLe
  rw [exec_Assign_Name_used _ _ _ _ hsw]
  refine wpAny_bind (wpAny_standAt (wpAny_bind ?_))
  show wpAny _ A (do let _ ← comprehension (.ListComp elt [⟨.Name x px, iter, [], 0⟩] scope pos) scope env _ (newList []) false (eval iter env) (some (assign (.Name y py) env))) _ _ s
  refine wpAny_bind (wpAny_mono (wpAny_comprehension_free (use := some (assign (.Name y py) env)) (Q := fun _ s' => Q .next s') rfl hs hclos hkind hnames
    (wpAny_mono h (fun xv s₁ h₁ => wpAny_mono h₁ (fun it s₂ h₂ => ?_) fun _ _ e => e) fun _ _ e => e)) (fun _ s' hq => wpAny_pure (wpAny_pure hq)) fun _ _ e => e)
  obtain ⟨I, fp, n, P, St, S, news, rfl, W, hsz, hIo, hSt, st0, hfp, F, N, hIL, hI0, off, hS, R⟩ := h₂
  refine LCg.block_U W hsz hIo hSt hcell hkind hx st0 hfp F N hIL hI0 off hS R ?_
  intro D C h' tk m' ys news' F' N' o1 hn hC₀ hD₀ hCL hDL hCD offC fin
  show wpAny _ A (assign (.Name y py) env (.ref D)) _ _ _
  refine wpAny_assign_Name (wpAny_storeName_local hy F'.ns (fun h₂ hn₂ hs₂ => ?_) hp)
  have hL₀ : h₀.get? env.locals = none := Heap.get?_none_of_le F'.above
  have F₂ : Fr h₀ env.locals h₂ (fun z => if z = y then some (.ref D) else m z) := ⟨hn₂, fun b o e => hs₂.extBut b o (fun q => by rw [q, hL₀] at e; cases e) (F'.keep b o e), F'.above⟩
  refine ⟨m', hn.sameBut hs₂ hCL, fun h'' hs'' => fin D h'' _ (F₂.change hs'' hCL hC₀) (fun p hp => ?_) o1⟩
  have z : h₂.get? p.1 = some p.2 := hs₂.extBut _ _ (N' p hp).2.1 (N' p hp).1
  refine ⟨hs''.extBut _ _ ?_ z, (N' p hp).2⟩
  rcases List.mem_cons.mp hp with rfl | hp
  · exact Ne.symm hCD
  · exact offC p hp

theorem CompRest.ind {elt : Expr} {x : Str} {scope : Scope} {cl : List (Str × Addr)} {S : List (Addr × Obj) → Prop} {P : Nat → Value → Prop} {Fin : List Value → List (Addr × Obj) → Prop} {n : Nat}
    (Inv : Nat → List Value → List (Addr × Obj) → Prop)
    (step : ∀ i ys news, i < n → Inv i ys news → ∀ v I oI C oC D m₂ h tk (E' : Value → Shared → Prop), P i v → LCg.NsObj oC m₂ → m₂ x = some v → Fr h₀ L h m → News h₀ L h ((I, oI) :: (C, oC) :: (D, LCg.lst ys) :: news) → LCg.Off3 I C D news → ((@Ne Nat I C) ∧ (@Ne Nat I D) ∧ (@Ne Nat C D)) →
      wpAny (model prog w) A (eval elt (compEnvC scope cl C env)) (LCg.CompEnd h₀ L m { s with heap := h, toks := tk } I oI C oC D (LCg.lst ys) S (fun y news' => Inv (i + 1) (ys ++ [y]) news')) E' { s with heap := h, toks := tk })
    (fin : ∀ ys news, Inv n ys news → Fin ys news) : ∀ k i ys news, i + k = n → Inv i ys news → LCg.CompRest prog w A h₀ L m env elt x scope cl s S P Fin k i ys news
  | 0, i, ys, news, e, hI => LCg.CompRest.zero (fin ys news (by rw [show n = i by omega]; exact hI))
  | k + 1, i, ys, news, e, hI => LCg.CompRest.succ fun v I oI C oC D m₂ h tk E' a1 a2 a3 a4 a5 a6 a7 =>
      wpAny_mono (step i ys news (by omega) hI v I oI C oC D m₂ h tk E' a1 a2 a3 a4 a5 a6 a7) (fun y s₂ h₂ => by
        obtain ⟨h', tk, news', e1, b1, b2, b3, b4, b5⟩ := h₂
        exact ⟨h', tk, news', e1, b1, b2, b3, b4, CompRest.ind Inv step fin k (i + 1) _ _ (by omega) b5⟩) fun _ _ e => e
theorem comp_range1 {elt : Expr} {x : Str} {scope : Scope} {cl : List (Str × Addr)} {Fin : Shared → List Value → List (Addr × Obj) → Prop} {b : Int} {tb : Tok} {n : Nat} {news : List (Addr × Obj)}
    (hh : A.handled = none) (F : Fr h₀ L s.heap m) (N : News h₀ L s.heap news) (hb : b = (n : Int)) (hn : n < 1000000)
    (h : ∀ g tk, LCg.CompRest prog w A h₀ L m env elt x scope cl { s with heap := g, toks := tk } (fun _ => True) (fun i v => ∃ t, v = .int (0 + (i : Int)) t) (Fin { s with heap := g, toks := tk }) n 0 [] news) :
    wpAny (model prog w) A (call (.type "range") [.int b tb]) (LCg.CompSrc prog w A h₀ L m env elt x scope cl Fin) E s := by
  subst hb
  refine call_range_1 (LCg.CompSrc.range hh (F.push _) (N.grown fun _ _ e => Heap.get?_push_of_some _ e) (IsRange.new _ _ _ _ _ _ _) (small_one (by omega) (by omega) (by omega) (by omega)) ?_ (by rw [sizeLine_eq]; omega) fun g => h g _)
  rw [rangeSize_one]; split <;> omega
theorem comp_range1' {elt : Expr} {x : Str} {scope : Scope} {cl : List (Str × Addr)} {Fin : Shared → List Value → List (Addr × Obj) → Prop} {b : Int} {tb : Tok} {n : Nat} {news : List (Addr × Obj)}
    (hh : A.handled = none) (F : Fr h₀ L s.heap m) (N : News h₀ L s.heap news) (hb : b.toNat = n) (hbl : -1000000 ≤ b) (hn : n < 1000000)
    (h : ∀ g tk, LCg.CompRest prog w A h₀ L m env elt x scope cl { s with heap := g, toks := tk } (fun _ => True) (fun i v => ∃ t, v = .int (0 + (i : Int)) t) (Fin { s with heap := g, toks := tk }) n 0 [] news) :
    wpAny (model prog w) A (call (.type "range") [.int b tb]) (LCg.CompSrc prog w A h₀ L m env elt x scope cl Fin) E s := by
  refine call_range_1 (LCg.CompSrc.range hh (F.push _) (N.grown fun _ _ e => Heap.get?_push_of_some _ e) (IsRange.new _ _ _ _ _ _ _) (small_one (by omega) (by omega) (by omega) (by omega)) ?_ (by rw [sizeLine_eq]; omega) fun g => h g _)
  rw [rangeSize_one]; split <;> omega
theorem next_none {h : Heap} (F : Fr h₀ L h m) : h₀.get? h.objs.size = none := next_is_new F
/-- a tuple of the ledger as the source -/
theorem comp_tuple {elt : Expr} {x : Str} {scope : Scope} {cl : List (Str × Addr)} {Fin : Shared → List Value → List (Addr × Obj) → Prop} {D : Addr} {its : Array Value} {c : Nat} {news : List (Addr × Obj)}
    (hh : A.handled = none) (F : Fr h₀ L s.heap m) (N : News h₀ L s.heap news) (hD : (D, tupO its c) ∈ news) (hn : its.size ≤ 1000)
    (h : ∀ g, LCg.CompRest prog w A h₀ L m env elt x scope cl { s with heap := g } (fun nw => (D, tupO its c) ∈ nw) (fun i v => its[i]? = some v) (Fin { s with heap := g }) its.size 0 [] news) :
    wpAny (model prog w) A (pyIter (.ref D)) (CompIt prog w A h₀ L m env elt x scope cl Fin) E s := by
  have hT : s.heap.IsTuple D its := ⟨_, (N _ hD).1, rfl, _, rfl⟩
  have hlt := Heap.lt_size (N _ hD).1
  refine wpAny_pyIter_tuple hT ?_
  have up : ∀ b o, s.heap.get? b = some o → (s.heap.push { cls := .type "tuple_iterator", data := .fields #[.ref D, .int 0 0] }).get? b = some o := fun b o e => Heap.get?_push_of_some _ e
  refine ⟨s.heap.objs.size, [s.heap.objs.size, D], its.size, _, _, fun nw => (D, tupO its c) ∈ nw, news, rfl, Walks.tuple hh s.heap.objs.size D (Nat.ne_of_lt hlt) its, by rw [sizeLine_eq]; omega, fun i h st => by obtain ⟨o, e, _⟩ := st.1; exact ⟨o, e⟩, ?_,
    ⟨⟨_, Heap.get?_push_size _ rfl, rfl, rfl⟩, let ⟨o, ho, r⟩ := hT; ⟨o, up _ _ ho, r⟩⟩, fun b hb => ?_, F.keeps up, N.grown up, Nat.ne_of_lt F.ns.lt, next_is_new F, fun p hp => Nat.ne_of_lt (Heap.lt_size (N p hp).1), hD, h _⟩
  · intro i h h' o nw st e e' k N S
    exact ⟨by obtain ⟨o', q, r⟩ := st.1; rw [e] at q; cases q; exact ⟨o, e', r⟩, ⟨_, (N _ S).1, rfl, _, rfl⟩⟩
  · rw [Heap.size_push]
    simp only [List.mem_cons, List.not_mem_nil, or_false] at hb
    rcases hb with rfl | rfl
    · exact Nat.lt_succ_self _
    · exact Nat.lt_succ_of_lt hlt
/-- a text as the source -/
theorem comp_text {elt : Expr} {x : Str} {scope : Scope} {cl : List (Str × Addr)} {Fin : Shared → List Value → List (Addr × Obj) → Prop} {z : Str} {t : Tok} {news : List (Addr × Obj)}
    (hh : A.handled = none) (F : Fr h₀ L s.heap m) (N : News h₀ L s.heap news) (hn : z.length ≤ 1000)
    (h : ∀ g, LCg.CompRest prog w A h₀ L m env elt x scope cl { s with heap := g } (fun _ => True) (OneLetter z.cps.toList) (Fin { s with heap := g }) z.cps.toList.length 0 [] news) :
    wpAny (model prog w) A (pyIter (.str z t)) (CompIt prog w A h₀ L m env elt x scope cl Fin) E s := by
  refine wpAny_pyIter_strU ?_
  have up : ∀ (o' : Obj) b o, s.heap.get? b = some o → (s.heap.push o').get? b = some o := fun o' b o e => Heap.get?_push_of_some _ e
  have hl := str_len_list z
  have cv : ∀ i (v : Value), (∃ c u, z.cps[i]? = some c ∧ v = Value.str ⟨#[c]⟩ u) → OneLetter z.cps.toList i v := fun i v ⟨c, u, h1, h2⟩ => ⟨c, u, by rw [Array.getElem?_toList]; exact h1, h2⟩
  have stI : ∀ {T : String} i (h h' : Heap) (o : Obj) (nw : List (Addr × Obj)), h.IsStrIter s.heap.objs.size T z t i → h.get? s.heap.objs.size = some o → h'.get? s.heap.objs.size = some o → (∀ b o, h₀.get? b = some o → h'.get? b = some o) → News h₀ L h' nw → True → h'.IsStrIter s.heap.objs.size T z t i :=
    fun i h h' o nw st e e' _ _ _ => by obtain ⟨o', q, r⟩ := st; rw [e] at q; cases q; exact ⟨o, e', r⟩
  have conv : ∀ {P : Nat → Value → Prop} {St : Nat → Heap → Prop}, Walks prog w A s.heap.objs.size [s.heap.objs.size] [s.heap.objs.size] z.cps.size P St → (∀ i v, P i v → OneLetter z.cps.toList i v) → Walks prog w A s.heap.objs.size [s.heap.objs.size] [s.heap.objs.size] z.cps.toList.length (OneLetter z.cps.toList) St := fun W hP => by
    have e : z.cps.toList.length = z.cps.size := Array.length_toList
    rw [e]
    exact { sub := W.sub, frame := W.frame, done := W.done, self := W.self, item := fun i s Q E hi st hQ => W.item i s Q E hi st fun v h' tk hp => hQ v h' tk (hP i v hp) }
  by_cases q : z.cps.all (· < 128) = true
  · refine ⟨s.heap.objs.size, [s.heap.objs.size], z.cps.toList.length, _, _, fun _ => True, news, rfl, conv (Walks.strAscii hh s.heap.objs.size z t) cv, by rw [sizeLine_eq]; omega, fun i h st => by obtain ⟨o, e, _⟩ := st; exact ⟨o, e⟩, stI, ⟨_, Heap.get?_push_size _ rfl, by simp [strIterType, q], rfl⟩, fun b hb => ?_, F.keeps (up _), N.grown (up _), Nat.ne_of_lt F.ns.lt, next_is_new F, fun p hp => Nat.ne_of_lt (Heap.lt_size (N p hp).1), trivial, h _⟩
    rw [Heap.size_push, List.mem_singleton.mp hb]; exact Nat.lt_succ_self _
  · refine ⟨s.heap.objs.size, [s.heap.objs.size], z.cps.toList.length, _, _, fun _ => True, news, rfl, conv (Walks.strWide hh s.heap.objs.size z t) cv, by rw [sizeLine_eq]; omega, fun i h st => by obtain ⟨o, e, _⟩ := st; exact ⟨o, e⟩, stI, ⟨_, Heap.get?_push_size _ rfl, by simp [strIterType, q], rfl⟩, fun b hb => ?_, F.keeps (up _), N.grown (up _), Nat.ne_of_lt F.ns.lt, next_is_new F, fun p hp => Nat.ne_of_lt (Heap.lt_size (N p hp).1), trivial, h _⟩
    rw [Heap.size_push, List.mem_singleton.mp hb]; exact Nat.lt_succ_self _
end
section
variable {M : Model} {A : Around} {E : Value → Shared → Prop} {s : Shared} {K : Frag} {h₀ : Heap} {L C : Addr} {m m₂ mg mb : Str → Option Value} {news : List (Addr × Obj)} {scope : Scope} {cl : List (Str × Addr)} {env : Env} {p : Program} {loose : List Str} {x : Str} {pos : Pos} {v : Value} {Q : Value → Shared → Prop}
theorem cn_glob (F : Fr h₀ L s.heap m) (X : K.In h₀) (T : TopRead p loose mg mb h₀) (e : nsIn K mainGlobals x = some (some v)) (h : Q v s) (hg : env.globals = mainGlobals := by rfl)
    (hk : (compEnvC scope cl C env).scope.kind = .function := by rfl) (hx : (compEnvC scope cl C env).kindOf x = some .globalImplicit := by rfl) (hd : (x == ("__debug__" : Str)) = false := by decide) :
    wpAny M A (eval (.Name x pos) (compEnvC scope cl C env)) Q E s :=
  Name_function_global hk hx (loadGlobal_global (env := compEnvC scope cl C env) (show s.heap.Ns env.globals mg from hg ▸ T.g.keeps F.keep) (mg_of X T.g e) h) hd
theorem cn_built (F : Fr h₀ L s.heap m) (X : K.In h₀) (T : TopRead p loose mg mb h₀) (e : nsIn K mainGlobals x = some none) (hv : bootBuiltins x = some v) (hn : x ≠ "__name__") (h : Q v s) (hg : env.globals = mainGlobals := by rfl) (hb : env.builtins = builtinsNs := by rfl)
    (hk : (compEnvC scope cl C env).scope.kind = .function := by rfl) (hx : (compEnvC scope cl C env).kindOf x = some .globalImplicit := by rfl) (hd : (x == ("__debug__" : Str)) = false := by decide) :
    wpAny M A (eval (.Name x pos) (compEnvC scope cl C env)) Q E s :=
  Name_function_global hk hx (loadGlobal_builtin (env := compEnvC scope cl C env) (show s.heap.Ns env.globals mg from hg ▸ T.g.keeps F.keep) (mg_none_of X T.g e) (show s.heap.Ns env.builtins mb from hb ▸ T.b.keeps F.keep) ((T.builtins x hn).trans hv) h) hd
end
end Mine
end
-- K1
section
open PySem PySem.W PySem.W.X PyProof.Rows PySem.Calls
set_option maxRecDepth 100000
set_option maxHeartbeats 1000000
namespace Mine
/-- a dict's content: keys, their values in the heap, what stands at them -/
abbrev Con (K : Type) := List (K × Value × Value)
section
variable {K : Type} [DecidableEq K]
def cAt (xs : Con K) (k : K) : Option Value := (xs.find? fun x => decide (x.1 = k)).map (·.2.2)
def cPut (xs : Con K) (k : K) (key v : Value) : Con K :=
  if (cAt xs k).isSome then xs.map fun x => if x.1 = k then (x.1, x.2.1, v) else x else xs ++ [(k, key, v)]
theorem cAt_nil (k : K) : cAt ([] : Con K) k = none := rfl
theorem cAt_of_get {xs : Con K} (hn : (xs.map (·.1)).Nodup) {j : Nat} {k : K} {p : Value × Value} (h : xs[j]? = some (k, p)) : cAt xs k = some p.2 := by
  induction xs generalizing j with
  | nil => simp at h
  | cons x xs ih =>
    rw [List.map_cons, List.nodup_cons] at hn
    cases j with
    | zero => simp at h; subst h; simp [cAt]
    | succ j =>
      simp only [List.getElem?_cons_succ] at h
      have hmem : k ∈ xs.map (·.1) := List.mem_map.mpr ⟨(k, p), List.mem_of_getElem? h, rfl⟩
      have hne : ¬ x.1 = k := fun e => hn.1 (e ▸ hmem)
      have := ih hn.2 h
      simpa [cAt, List.find?_cons, hne] using this
theorem cAt_none {xs : Con K} {k : K} (h : ∀ (j : Nat) (p : Value × Value), xs[j]? ≠ some (k, p)) : cAt xs k = none := by
  have : (xs.find? fun x => decide (x.1 = k)) = none := by
    rw [List.find?_eq_none]
    intro x hx hk
    obtain ⟨j, hj⟩ := List.mem_iff_getElem?.mp hx
    have hk' : x.1 = k := of_decide_eq_true hk
    exact h j x.2 (by rw [hj, ← hk'])
  simp [cAt, this]
theorem cAt_some_iff {xs : Con K} {k : K} : (cAt xs k).isSome = true ↔ k ∈ xs.map (·.1) := by
  induction xs with
  | nil => simp [cAt]
  | cons x xs ih =>
    by_cases e : x.1 = k
    · simp [cAt, List.find?_cons, e]
    · have : cAt (x :: xs) k = cAt xs k := by simp [cAt, List.find?_cons, e]
      rw [this, ih, List.map_cons, List.mem_cons]
      exact ⟨.inr, fun h => h.resolve_left (Ne.symm e)⟩
theorem cPut_keys (xs : Con K) (k : K) (key v : Value) : (cPut xs k key v).map (·.1) = if k ∈ xs.map (·.1) then xs.map (·.1) else xs.map (·.1) ++ [k] := by
  unfold cPut
  by_cases h : (cAt xs k).isSome = true
  · rw [if_pos h, if_pos (cAt_some_iff.mp h), List.map_map]
    exact List.map_congr_left fun x _ => by simp only [Function.comp]; split <;> rfl
  · rw [if_neg h, if_neg (fun q => h (cAt_some_iff.mpr q)), List.map_append]; rfl
theorem cPut_at (xs : Con K) (k k' : K) (key v : Value) : cAt (cPut xs k key v) k' = if k' = k then some v else cAt xs k' := by
  unfold cPut
  by_cases h : (cAt xs k).isSome = true
  · rw [if_pos h]
    induction xs with
    | nil => simp [cAt] at h
    | cons x xs ih =>
      by_cases e : x.1 = k
      · by_cases e' : k' = k
        · subst e'; simp [cAt, List.find?_cons, e]
        · have ne : ¬ x.1 = k' := fun q => e' (q ▸ e)
          rw [if_neg e']
          simp only [cAt, List.map_cons, List.find?_cons, e, if_true]
          have ne2 : ¬ k = k' := fun q => e' q.symm
          simp only [ne2, decide_false]
          clear ih h
          induction xs with
          | nil => rfl
          | cons y ys ih2 =>
            simp only [List.map_cons, List.find?_cons]
            by_cases e3 : y.1 = k
            · simp only [e3, if_true, ne2, decide_false]; exact ih2
            · simp only [e3, if_false]
              by_cases e4 : y.1 = k'
              · simp [e4]
              · simp only [e4, decide_false]; exact ih2
      · have h' : (cAt xs k).isSome = true := by simpa [cAt, List.find?_cons, e] using h
        have ih := ih h'
        simp only [cAt, List.map_cons, List.find?_cons, e, if_false] at ih ⊢
        by_cases e3 : x.1 = k'
        · have : ¬ k' = k := fun q => e (e3.trans q)
          simp [e3, this]
        · simp only [e3, decide_false]; exact ih
  · rw [if_neg h]
    by_cases e' : k' = k
    · subst e'
      have : cAt xs k' = none := by cases q : cAt xs k' with | none => rfl | some _ => rw [q] at h; simp at h
      have : xs.find? (fun x => decide (x.1 = k')) = none := by simpa [cAt] using this
      simp [cAt, List.find?_append, this]
    · simp only [cAt, List.find?_append, if_neg e']
      cases xs.find? (fun x => decide (x.1 = k')) <;> simp [Ne.symm e']
theorem cPut_nodup {xs : Con K} (hn : (xs.map (·.1)).Nodup) (k : K) (key v : Value) : ((cPut xs k key v).map (·.1)).Nodup := by
  rw [cPut_keys]
  split
  · exact hn
  · rename_i h
    rw [List.nodup_append]
    refine ⟨hn, by simp, fun a ha b hb e => ?_⟩
    simp at hb
    exact h (hb ▸ e ▸ ha)
theorem cPut_len (xs : Con K) (k : K) (key v : Value) : (cPut xs k key v).length ≤ xs.length + 1 := by
  unfold cPut
  split
  · simp
  · simp
theorem cPut_mem {xs : Con K} {k : K} {key v : Value} {x : K × Value × Value} (h : x ∈ cPut xs k key v) : (∃ y ∈ xs, y.1 = x.1 ∧ y.2.1 = x.2.1 ∧ (y.2.2 = x.2.2 ∨ x.2.2 = v)) ∨ x = (k, key, v) := by
  unfold cPut at h
  split at h
  · obtain ⟨y, hy, rfl⟩ := List.mem_map.mp h
    refine .inl ⟨y, hy, ?_⟩
    split
    · exact ⟨rfl, rfl, .inr rfl⟩
    · exact ⟨rfl, rfl, .inl rfl⟩
  · rcases List.mem_append.mp h with h | h
    · exact .inl ⟨x, h, rfl, rfl, .inl rfl⟩
    · exact .inr (by simpa using h)
end
/-- a kind of keys -/
structure KK (prog : Program) (w : World) (K : Type) [DecidableEq K] where
  is : Heap → K → Value → Prop
  hash : K → Int
  mono : ∀ {h h' : Heap} {k : K} {v : Value}, is h k v → (∀ b o vs n, h.get? b = some o → o.data = .seq vs n → h'.get? b = some o) → is h' k v
  pyHash : ∀ {A : Around} {E : Value → Shared → Prop} {s : Shared} {k : K} {v : Value} {Q : Int → Shared → Prop}, A.units < 9800 → is s.heap k v → (∀ tk', Q (hash k) { s with toks := tk' }) → wpAny (model prog w) A (PySem.pyHash v) Q E s
  find : ∀ {A : Around} {E : Value → Shared → Prop} {s : Shared} {d : Addr} {o : Obj} {es : Array DictEntry} {ep : Nat} {xs : Con K} {k : K} {key : Value} {Q : Option Nat → Shared → Prop}, A.units < 9800 → is s.heap k key → s.heap.get? d = some o → o.data = .dict es ep →
    es.toList = xs.map (fun x => ⟨hash x.1, x.2.1, x.2.2⟩) → (∀ x ∈ xs, is s.heap x.1 x.2.1) → (xs.map (·.1)).Nodup → ((∀ (j : Nat) (p : Value × Value), xs[j]? ≠ some (k, p)) → Q none s) → (∀ (j : Nat) (p : Value × Value), xs[j]? = some (k, p) → Q (some j) s) →
    wpAny (model prog w) A (dictFind d key (hash k)) Q E s
/-- letters, each a text -/
def strKK (prog : Program) (w : World) : KK prog w Str where
  is := fun _ k v => (PySem.strKind prog w).is k v = true
  hash := (PySem.strKind prog w).hash
  mono := fun h _ => h
  pyHash := fun _ h hQ => (PySem.strKind prog w).pyHash h (hQ _)
  find := fun {A E s d o es ep xs k key Q} _ hk ho hd he his hn hnone hsome => by
    have hkeys : KeysOf (PySem.strKind prog w) es := fun e hm => by
      have hm' : e ∈ es.toList := by simpa using hm
      rw [he] at hm'
      obtain ⟨x, hx, rfl⟩ := List.mem_map.mp hm'
      exact ⟨x.1, his x hx, rfl⟩
    refine wpAny_dictFind_of hk ho hd hkeys ?_
    have hat : ∀ (j : Nat), es[j]? = (xs[j]?).map (fun x => (⟨(PySem.strKind prog w).hash x.1, x.2.1, x.2.2⟩ : DictEntry)) := fun j => by rw [← Array.getElem?_toList, he, List.getElem?_map]
    cases hi : es.findIdx? fun e => (PySem.strKind prog w).is k e.key with
    | none =>
      refine hnone fun j p hj => ?_
      have := hat j
      rw [hj] at this
      have hm : (⟨(PySem.strKind prog w).hash k, p.1, p.2⟩ : DictEntry) ∈ es := Array.mem_of_getElem? this
      have h1 := Array.findIdx?_eq_none_iff.mp hi _ hm
      have h2 := his (k, p) (List.mem_of_getElem? hj)
      simp only at h1 h2
      rw [h2] at h1; cases h1
    | some i =>
      obtain ⟨hlt, h1, _⟩ := Array.findIdx?_eq_some_iff_getElem.mp hi
      have h2 := hat i
      rw [Array.getElem?_eq_getElem hlt] at h2
      cases hx : xs[i]? with
      | none => rw [hx] at h2; cases h2
      | some x =>
        rw [hx] at h2
        have h3 := Option.some.inj h2
        have h4 := his x (List.mem_of_getElem? hx)
        rw [h3] at h1
        have h5 : x.1 = k := (PySem.strKind prog w).inj _ _ _ h4 h1
        refine hsome i x.2 ?_
        rw [hx, ← h5]
/-- pieces, each a tuple of texts -/
def tupKK (prog : Program) (w : World) : KK prog w (List Str) where
  is := fun h k v => ∃ a, v = .ref a ∧ IsTupleKey (PySem.strKind prog w) h k a
  hash := (PySem.tupleKind (PySem.strKind prog w)).hash
  mono := fun ⟨a, e, o, items, n, ho, hc, hd, hi⟩ k => ⟨a, e, o, items, n, k _ _ _ _ ho hd, hc, hd, hi⟩
  pyHash := fun hu ⟨a, e, h⟩ hQ => by subst e; exact (PySem.tupleKind (PySem.strKind prog w)).pyHash (show _ < cLine by unfold cLine; omega) h (hQ _)
  find := fun {A E s d o es ep xs k key Q} hu hk ho hd he his hn hnone hsome => by
    obtain ⟨a, rfl, hk⟩ := hk
    have hx : ∃ ys : List (List Str × Addr × Value), xs = ys.map (fun y => (y.1, Value.ref y.2.1, y.2.2)) ∧ ∀ y ∈ ys, IsTupleKey (PySem.strKind prog w) s.heap y.1 y.2.1 := by
      clear he hn hnone hsome
      induction xs with
      | nil => exact ⟨[], rfl, fun _ h => nomatch h⟩
      | cons x xs ih =>
        obtain ⟨ys, e, hy⟩ := ih fun x hx => his x (.tail _ hx)
        obtain ⟨b, e1, h1⟩ := his x (.head _)
        refine ⟨(x.1, b, x.2.2) :: ys, ?_, fun y hy' => ?_⟩
        · rw [List.map_cons, ← e]
          have : x = (x.1, Value.ref b, x.2.2) := by rw [← e1]
          rw [← this]
        · rcases List.mem_cons.mp hy' with rfl | hy'
          · exact h1
          · exact hy y hy'
    obtain ⟨ys, rfl, hy⟩ := hx
    refine wpAny_dictFind_heap (knd := PySem.tupleKind (PySem.strKind prog w)) (xs := ys) (show _ < cLine by unfold cLine; omega) hk ho hd (by rw [he, List.map_map]; rfl) hy (by rw [List.map_map] at hn; exact hn) (fun hno => hnone fun j p hj => ?_) fun j p hj => hsome j (.ref p.1, p.2) (by rw [List.getElem?_map, hj]; rfl)
    rw [List.getElem?_map] at hj
    cases q : ys[j]? with
    | none => rw [q] at hj; cases hj
    | some y =>
      rw [q] at hj
      have hj2 : (y.1, Value.ref y.2.1, y.2.2) = (k, p) := Option.some.inj hj
      have e1 : y.1 = k := congrArg (·.1) hj2
      exact hno j y.2 (by rw [q, ← e1])
section
variable {prog : Program} {w : World} {K : Type} [DecidableEq K] (kk : KK prog w K)
/-- the content of the dict at d -/
def DictIn (h : Heap) (d : Addr) (xs : Con K) : Prop :=
  ∃ o es ep, h.get? d = some o ∧ o.data = .dict es ep ∧ es.toList = xs.map (fun x => (⟨kk.hash x.1, x.2.1, x.2.2⟩ : DictEntry)) ∧ (∀ x ∈ xs, kk.is h x.1 x.2.1) ∧ (xs.map (·.1)).Nodup
variable {kk} {A : Around} {E : Value → Shared → Prop} {s : Shared}
theorem dictGetD {d : Addr} {xs : Con K} {k : K} {key : Value} {Q : Option Value → Shared → Prop} (hu : A.units < 9800) (hk : kk.is s.heap k key) (hd : DictIn kk s.heap d xs) (h : ∀ tk', Q (cAt xs k) { s with toks := tk' }) :
    wpAny (model prog w) A (dictGet d key) Q E s := by
  obtain ⟨o, es, ep, ho, hdd, he, his, hn⟩ := hd
  unfold dictGet
  try with_reducible refine wpAny_holding ?_
  refine wpAny_bind (kk.pyHash hu hk fun tk' => wpAny_bind (kk.find (s := { s with toks := tk' }) hu hk ho hdd he his hn (fun hno => ?_) fun j p hj => ?_))
  · rw [cAt_none hno] at h; exact wpAny_pure (h _)
  · rw [cAt_of_get hn hj] at h
    refine wpAny_bind (wpAny_dictEntries (s := { s with toks := tk' }) ho hdd (wpAny_pure ?_))
    have : es[j]? = some ⟨kk.hash k, p.1, p.2⟩ := by rw [← Array.getElem?_toList, he, List.getElem?_map, hj]; rfl
    rw [this]; exact h _
theorem modify_put {xs : Con K} (hn : (xs.map (·.1)).Nodup) {j : Nat} {k : K} {p : Value × Value} (hj : xs[j]? = some (k, p)) (v : Value) (f : K → Int) :
    (xs.map (fun x => (⟨f x.1, x.2.1, x.2.2⟩ : DictEntry))).modify j (fun e => { e with val := v }) = (xs.map fun x => if x.1 = k then (x.1, x.2.1, v) else x).map (fun x => (⟨f x.1, x.2.1, x.2.2⟩ : DictEntry)) := by
  induction xs generalizing j with
  | nil => simp at hj
  | cons x xs ih =>
    rw [List.map_cons, List.nodup_cons] at hn
    cases j with
    | zero =>
      simp at hj; subst hj
      have : xs.map (fun x => if x.1 = k then (x.1, x.2.1, v) else x) = xs := by
        conv => rhs; rw [← List.map_id xs]
        exact List.map_congr_left fun y hy => if_neg fun e => hn.1 (List.mem_map.mpr ⟨y, hy, e⟩)
      simp only [List.map_cons, List.modify_zero_cons, if_true, this]
    | succ j =>
      simp only [List.getElem?_cons_succ] at hj
      have hmem : k ∈ xs.map (·.1) := List.mem_map.mpr ⟨(k, p), List.mem_of_getElem? hj, rfl⟩
      have hne : ¬ x.1 = k := fun e => hn.1 (e ▸ hmem)
      simp only [List.map_cons, List.modify_succ_cons, if_neg hne]
      rw [ih hn.2 hj]
theorem dictSetD {d : Addr} {xs : Con K} {k : K} {key v : Value} {Q : Unit → Shared → Prop} (hu : A.units < 9800) (hk : kk.is s.heap k key) (hd : DictIn kk s.heap d xs) (hl : xs.length < 100000)
    (hQ : ∀ h' tk' o o', Heap.SameBut d s.heap h' → s.heap.get? d = some o → h'.get? d = some o' → o'.cls = o.cls → o'.dict = o.dict → o'.slots = o.slots → DictIn kk h' d (cPut xs k key v) → Q () { s with heap := h', toks := tk' }) :
    wpAny (model prog w) A (dictSet d key v) Q E s := by
  obtain ⟨o, es, ep, ho, hdd, he, his, hn⟩ := hd
  have dseq : ∀ {h' : Heap}, Heap.SameBut d s.heap h' → ∀ b x vs n, s.heap.get? b = some x → x.data = .seq vs n → h'.get? b = some x := fun hs b x vs n hb hx => hs.extBut b x (fun q => by rw [q, ho] at hb; cases hb; rw [hdd] at hx; cases hx) hb
  have his' : ∀ {h' : Heap}, Heap.SameBut d s.heap h' → ∀ x ∈ cPut xs k key v, kk.is h' x.1 x.2.1 := fun hs x hx => by
    rcases cPut_mem hx with ⟨y, hy, e1, e2, _⟩ | rfl
    · rw [← e1, ← e2]; exact kk.mono (his y hy) (dseq hs)
    · exact kk.mono hk (dseq hs)
  have hsz : es.size = xs.length := by rw [← Array.length_toList, he, List.length_map]
  unfold dictSet
  try with_reducible refine wpAny_holding ?_
  refine wpAny_bind (kk.pyHash hu hk fun tk' => ?_)
  unfold dictSetHashed
  try with_reducible refine wpAny_holding ?_
  refine wpAny_bind (kk.find (s := { s with toks := tk' }) hu hk ho hdd he his hn (fun hno => ?_) fun j p hj => ?_)
  · have hno' : cPut xs k key v = xs ++ [(k, key, v)] := by unfold cPut; rw [cAt_none hno]; rfl
    refine wpAny_bind (wpAny_rule (wpAny_updateDictKeys (hz := by show es.size ≤ sizeLine; rw [sizeLine_eq]; omega) (s := { s with toks := tk' }) ho hdd ?_))
    have sb : Heap.SameBut d s.heap (s.heap.update d (Obj.mapDictKeys fun x => x.push ⟨kk.hash k, key, v⟩)) := Heap.SameBut.update ..
    have hd' := Obj.data_mapDictKeys hdd (fun x => x.push ⟨kk.hash k, key, v⟩)
    have hg := Heap.get?_update_self (Obj.mapDictKeys fun x => x.push ⟨kk.hash k, key, v⟩) ho (Obj.isFreed_of_dict hd')
    refine hQ _ _ o _ sb ho hg ?_ ?_ ?_ ⟨_, _, _, hg, hd', ?_, his' sb, cPut_nodup hn _ _ _⟩
    · obtain ⟨c, dd, dt, sl⟩ := o; simp only at hdd; subst hdd; rfl
    · obtain ⟨c, dd, dt, sl⟩ := o; simp only at hdd; subst hdd; rfl
    · obtain ⟨c, dd, dt, sl⟩ := o; simp only at hdd; subst hdd; rfl
    · rw [hno', Array.toList_push, he, List.map_append]; rfl
  · have hy : cPut xs k key v = xs.map fun x => if x.1 = k then (x.1, x.2.1, v) else x := by unfold cPut; rw [cAt_of_get hn hj]; rfl
    refine wpAny_bind (wpAny_rule (wpAny_bind (wpAny_updateDict (s := { s with toks := tk' }) ho hdd (wpAny_point ?_))))
    have sb : Heap.SameBut d s.heap (s.heap.update d (Obj.mapDict fun x => x.modify j fun e => { e with val := v })) := Heap.SameBut.update ..
    have hd' := Obj.data_mapDict hdd (fun x => x.modify j fun e => { e with val := v })
    have hg := Heap.get?_update_self (Obj.mapDict fun x => x.modify j fun e => { e with val := v }) ho (Obj.isFreed_of_dict hd')
    refine hQ _ _ o _ sb ho hg ?_ ?_ ?_ ⟨_, _, _, hg, hd', ?_, his' sb, cPut_nodup hn _ _ _⟩
    · obtain ⟨c, dd, dt, sl⟩ := o; simp only at hdd; subst hdd; rfl
    · obtain ⟨c, dd, dt, sl⟩ := o; simp only at hdd; subst hdd; rfl
    · obtain ⟨c, dd, dt, sl⟩ := o; simp only at hdd; subst hdd; rfl
    · rw [hy, Array.toList_modify, he, modify_put hn hj]
end
end Mine
end
-- K2
section
open PySem PySem.W PySem.W.X PyProof.Rows PySem.Calls
set_option maxRecDepth 100000
set_option maxHeartbeats 1000000
namespace Mine
/-- a class whose objects hold a dict's content -/
structure DCls (M : Model) (h : Heap) (t : Value) : Prop where
  gi : Looks M h (typeLookup t "__getitem__") (some (.builtin "dict.__getitem__"))
  si : Looks M h (typeLookup t "__setitem__") (some (.builtin "dict.__setitem__"))
  it : Looks M h (typeLookup t "__iter__") (some (.builtin "dict.__iter__"))
  co : Looks M h (typeLookup t "__contains__") (some (.builtin "dict.__contains__"))
  sub : Looks M h (isSubtype t (.type "dict")) true
  ord : Looks M h (isSubtype t (.type "collections.OrderedDict")) false
  sq : ∀ {A : Around} {E : Value → Shared → Prop} {s : Shared} {Q : Value → Shared → Prop} {x : Addr} {o : Obj} {k : Value} {name : Str}, (∀ b o, h.get? b = some o → s.heap.get? b = some o) → s.heap.get? x = some o → o.cls = t → Q k s → wpAny M A (sequenceKey (.ref x) k name) Q E s
section
variable {prog : Program} {w : World} {M : Model} {A : Around} {E : Value → Shared → Prop} {s : Shared} {h₀ : Heap}
theorem typeOf_at {x : Addr} {o : Obj} {Q : Value → Shared → Prop} (ho : s.heap.get? x = some o) (hQ : Q o.cls s) : wpAny M A (typeOf (.ref x)) Q E s := by
  simp only [typeOf]; exact wpAny_bind (wpAny_load ho (wpAny_pure hQ))
theorem isInst_at {x : Addr} {o : Obj} {T : String} {b : Bool} {Q : Bool → Shared → Prop} (ho : s.heap.get? x = some o) (hl : Looks M h₀ (isSubtype o.cls (.type T)) b) (k : ∀ b o, h₀.get? b = some o → s.heap.get? b = some o) (hQ : Q b s) : wpAny M A (isInstance (.ref x) (.type T)) Q E s := by
  simp only [isInstance]; exact wpAny_bind (typeOf_at ho (hl _ _ _ _ k hQ))
theorem dcls_dict : DCls M h₀ (.type "dict") where
  gi := .of_pure PySem.slot_dict_getitem.lookup
  si := .of_pure PySem.slot_dict_setitem.lookup
  it := .of_pure PySem.F.slot_dict_iter.lookup
  co := .of_pure PySem.slot_dict_contains.lookup
  sub := .of_pure (by rw [isSubtype_type]; kernel_rfl)
  ord := .of_pure (by rw [isSubtype_type]; kernel_rfl)
  sq := fun _ ho hc hQ => wpAny_sequenceKey (T := "dict") ⟨_, ho, hc⟩ (by decide) hQ
theorem dcls_K {K : Frag} {C : Addr} (X : K.In h₀) (hq : noSeq K C = true) (a1 : findIn K (.ref C) "__getitem__" = some (some (.builtin "dict.__getitem__"))) (a2 : findIn K (.ref C) "__setitem__" = some (some (.builtin "dict.__setitem__")))
    (a3 : findIn K (.ref C) "__iter__" = some (some (.builtin "dict.__iter__"))) (a4 : findIn K (.ref C) "__contains__" = some (some (.builtin "dict.__contains__"))) (a5 : subIn K (.ref C) (.type "dict") = some true) (a6 : subIn K (.ref C) (.type "collections.OrderedDict") = some false) : DCls M h₀ (.ref C) where
  gi := looks_findIn X a1
  si := looks_findIn X a2
  it := looks_findIn X a3
  co := looks_findIn X a4
  sub := looks_subIn X a5
  ord := looks_subIn X a6
  sq := fun k ho hc hQ => by
    unfold sequenceKey
    refine wpAny_bind (typeOf_at ho ?_)
    rw [hc]
    refine wpAny_bind ((anyM_none (X.keeps k) hq).here ?_)
    rw [if_pos (show (!false) = true from rfl)]
    exact wpAny_pure hQ
theorem special_D {x : Addr} {o : Obj} {name : Str} {id : String} {args : List Value} {Q : Option Value → Shared → Prop} (ho : s.heap.get? x = some o) (k : ∀ b o, h₀.get? b = some o → s.heap.get? b = some o) (hl : Looks M h₀ (typeLookup o.cls name) (some (.builtin id)))
    (hb : bindSpecial (.builtin id) (.ref x) = pure (.builtin id, [.ref x])) (hc : wpAny M A (call (.builtin id) (.ref x :: args)) (fun v => Q (some v)) E s) : wpAny M A (callSpecial? (.ref x) name args) Q E s := by
  simp only [callSpecial?, specialOf]
  refine wpAny_bind (wpAny_bind (typeOf_at ho (hl _ _ _ _ k ?_)))
  simp only [hb]
  exact wpAny_holding (wpAny_bind (wpAny_pure (wpAny_bind (wpAny_mono hc (fun v s' h' => wpAny_pure h') fun _ _ h' => h'))))
theorem check_D {x : Addr} {o : Obj} {id owner n : String} {rest : List Value} {kw : List (Str × Value)} {Q : Unit → Shared → Prop} (ho : s.heap.get? x = some o) (k : ∀ b o, h₀.get? b = some o → s.heap.get? b = some o) (hsub : Looks M h₀ (isSubtype o.cls (.type owner)) true)
    (hsplit : splitId id = some (owner, n)) (hkind : (Manifest.find? owner).bind (·.attrs.lookup n) = some .slot ∨ (Manifest.find? owner).bind (·.attrs.lookup n) = some .method)
    (ha : argsOk id ⟨.ref x :: rest, kw⟩) (hQ : Q () s) : wpAny M A (checkBuiltinCall id ⟨.ref x :: rest, kw⟩) Q E s := by
  have hk : builtinKind id = (Manifest.find? owner).bind (·.attrs.lookup n) := by simp only [builtinKind, hsplit]
  rcases hkind with h | h <;>
  · simp only [checkBuiltinCall, hk, h, hsplit]
    refine wpAny_bind (isInst_at ho hsub k ?_)
    simp only [Bool.not_true, Bool.false_eq_true, if_false]
    cases hsig : Manifest.signature? id with
    | none => exact wpAny_pure hQ
    | some sig =>
      simp only [argsOk, hsig] at ha
      have h2 : Bind.checkArgs id sig ⟨.ref x :: rest, kw⟩ = pure () := ha
      show wpAny M A (Bind.checkArgs id sig ⟨.ref x :: rest, kw⟩) Q E s
      rw [h2]; exact wpAny_pure hQ
theorem call_D {x : Addr} {o : Obj} {id n : String} {b : Builtin} {rest : List Value} {Q : Value → Shared → Prop} (ho : s.heap.get? x = some o) (k : ∀ b o, h₀.get? b = some o → s.heap.get? b = some o) (hsub : Looks (model prog w) h₀ (isSubtype o.cls (.type "dict")) true)
    (hb : entryFor table id = some b) (hsplit : splitId id = some ("dict", n)) (hkind : (Manifest.find? "dict").bind (·.attrs.lookup n) = some .slot ∨ (Manifest.find? "dict").bind (·.attrs.lookup n) = some .method)
    (hp : plainId id = true) (ha : argsOk id ⟨.ref x :: rest, []⟩)
    (hc : wpAny (model prog w) A.in1 (b ⟨.ref x :: rest, []⟩) (fun fin s' => ∃ v, fin = .done (.ret v) ∧ Q v s') E s) :
    wpAny (model prog w) A (call (.builtin id) (.ref x :: rest)) Q E s := by
  refine wpAny_call (codeAny_call_builtin hp hb (check_D ho k hsub hsplit hkind ha (wpAny_mono hc (fun fin s' h' => ?_) fun _ _ h' => h')))
  obtain ⟨v, rfl, hv⟩ := h'; exact hv
theorem notOrd_D {x : Addr} {o : Obj} {name : String} {args : List Value} {Q : Unit → Shared → Prop} (ho : s.heap.get? x = some o) (k : ∀ b o, h₀.get? b = some o → s.heap.get? b = some o) (hl : Looks M h₀ (isSubtype o.cls (.type "collections.OrderedDict")) false) (hQ : Q () s) :
    wpAny M A (Builtin.Dict.notOrdered name ⟨.ref x :: args, []⟩) Q E s := by
  unfold Builtin.Dict.notOrdered
  split
  · refine wpAny_bind (typeOf_at ho ?_)
    split
    · refine wpAny_bind (isInst_at ho hl k ?_)
      exact wpAny_pure hQ
    · exact wpAny_pure hQ
  · exact wpAny_pure hQ
section
variable {K : Type} [DecidableEq K] {kk : KK prog w K}
/-- `d[key]` -/
theorem getItemK {d : Addr} {o : Obj} {xs : Con K} {k : K} {key v : Value} {Q : Value → Shared → Prop} (hu : A.in1.units < 9800) (ho : s.heap.get? d = some o) (D : DCls (model prog w) h₀ o.cls) (kp : ∀ b o, h₀.get? b = some o → s.heap.get? b = some o)
    (hk : kk.is s.heap k key) (hd : DictIn kk s.heap d xs) (hv : cAt xs k = some v) (h : ∀ tk', Q v { s with toks := tk' }) : wpAny (model prog w) A (getItem (.ref d) key) Q E s := by
  unfold getItem
  try with_reducible refine wpAny_holding ?_
  refine wpAny_bind (D.sq kp ho rfl ?_)
  refine wpAny_bind (special_D ho kp D.gi (PySem.slot_dict_getitem.bind _) (call_D ho kp D.sub entry_dict_getitem (n := "__getitem__") (by decide +kernel) (by first | exact .inl (by decide +kernel) | exact .inr (by decide +kernel)) PySem.slot_dict_getitem.plain (args_dict_getitem _ _) ?_))
  show wpAny _ _ (dictGet d key >>= _) _ _ s
  refine wpAny_bind (dictGetD hu hk hd fun tk' => ?_)
  rw [hv]
  exact wpAny_pure ⟨v, rfl, wpAny_pure (h _)⟩
/-- `d[key]` as an expression -/
theorem subTailK {value slice : PySem.Expr} {d : Addr} {o : Obj} {xs : Con K} {k : K} {key v : Value} {Q : Value → Shared → Prop} (hu : A.in1.units < 9800) (ho : s.heap.get? d = some o) (D : DCls (model prog w) h₀ o.cls) (kp : ∀ b o, h₀.get? b = some o → s.heap.get? b = some o)
    (hk : kk.is s.heap k key) (hd : DictIn kk s.heap d xs) (hv : cAt xs k = some v) (h : ∀ tk', Q v { s with toks := tk' })
    (hs : subscripted slice false (.ref d) key = operate [.ref d, key] (getItem (.ref d) key) := by with_unfolding_all rfl) (ht : ∀ r, letTemporaryGo value (.ref d) r = pure () := by intro _; with_unfolding_all rfl) : wpAny (model prog w) A (subscriptTail value slice (.ref d) key) Q E s := by
  unfold subscriptTail getitemInPython specialOf
  refine wpAny_bind (wpAny_bind (wpAny_bind (typeOf_at ho (D.gi _ _ _ _ kp ?_))))
  refine wpAny_pure ?_
  show wpAny _ _ (subscripted slice false (.ref d) key >>= _) _ _ _
  rw [hs]
  refine wpAny_bind ?_
  refine wpAny_operating (wpAny_mono (getItemK hu ho D kp hk hd hv (Q := Q) h) (fun r s₃ h₃ => ?_) fun _ _ x => x)
  exact wpAny_bind (wpAny_of_eq (ht r) (wpAny_pure h₃))
/-- `d[key] = v` -/
theorem setItemK {d : Addr} {o : Obj} {xs : Con K} {k : K} {key v : Value} {Q : Unit → Shared → Prop} (hu : A.in1.units < 9800) (ho : s.heap.get? d = some o) (D : DCls (model prog w) h₀ o.cls) (kp : ∀ b o, h₀.get? b = some o → s.heap.get? b = some o)
    (hk : kk.is s.heap k key) (hd : DictIn kk s.heap d xs) (hl : xs.length < 100000)
    (hQ : ∀ h' tk' o', Heap.SameBut d s.heap h' → h'.get? d = some o' → o'.cls = o.cls → o'.dict = o.dict → o'.slots = o.slots → DictIn kk h' d (cPut xs k key v) → Q () { s with heap := h', toks := tk' }) : wpAny (model prog w) A (setItem (.ref d) key v) Q E s := by
  unfold setItem
  try with_reducible refine wpAny_holding ?_
  refine wpAny_bind (D.sq kp ho rfl ?_)
  refine wpAny_bind (special_D ho kp D.si (PySem.slot_dict_setitem.bind _) (call_D ho kp D.sub entry_dict_setitem (n := "__setitem__") (by decide +kernel) (by first | exact .inl (by decide +kernel) | exact .inr (by decide +kernel)) PySem.slot_dict_setitem.plain (args_dict_setitem _ _ _) ?_))
  show wpAny _ _ (Builtin.Dict.notOrdered "__setitem__" ⟨[.ref d, key, v], []⟩ >>= _) _ _ s
  refine wpAny_bind (notOrd_D ho kp D.ord ?_)
  show wpAny _ _ (dictSet d key v >>= _) _ _ s
  refine wpAny_bind (dictSetD hu hk hd hl fun h' tk' o₁ o' hs e1 e2 e3 e4 e5 hd' => ?_)
  rw [ho] at e1; cases e1
  exact wpAny_pure ⟨.none, rfl, wpAny_pure (hQ h' tk' o' hs e2 e3 e4 e5 hd')⟩
/-- `key in d` -/
theorem containsK {d : Addr} {o : Obj} {xs : Con K} {k : K} {key : Value} {Q : Bool → Shared → Prop} (hu : A.in1.units < 9800) (ho : s.heap.get? d = some o) (D : DCls (model prog w) h₀ o.cls) (kp : ∀ b o, h₀.get? b = some o → s.heap.get? b = some o)
    (lo : (d == sysModules) = false) (hk : kk.is s.heap k key) (hd : DictIn kk s.heap d xs) (h : ∀ tk', Q (cAt xs k).isSome { s with toks := tk' }) : wpAny (model prog w) A (contains (.ref d) key) Q E s := by
  unfold contains
  try with_reducible refine wpAny_holding ?_
  simp only [specialOf]
  refine wpAny_bind (wpAny_bind (typeOf_at ho (D.co _ _ _ _ kp ?_)))
  show wpAny _ _ (if (some (Value.builtin "dict.__contains__") == some Value.none) = true then _ else _) _ E s
  rw [if_neg (by rw [beq_builtin_none]; exact Bool.false_ne_true)]
  refine wpAny_bind ?_
  simp only [callSpecialUnlessNone?, specialOf]
  refine wpAny_bind (wpAny_bind (typeOf_at ho (D.co _ _ _ _ kp ?_)))
  simp only [PySem.slot_dict_contains.bind]
  refine wpAny_holding (wpAny_bind (wpAny_pure ?_))
  simp only [builtin_beq_none, Bool.false_eq_true, if_false]
  refine wpAny_bind (call_D ho kp D.sub entry_dict_contains (n := "__contains__") (by decide +kernel) (by first | exact .inl (by decide +kernel) | exact .inr (by decide +kernel)) PySem.slot_dict_contains.plain (args_dict_contains _ _) ?_)
  show wpAny _ _ (dictGet d key >>= _) _ _ s
  refine wpAny_bind (dictGetD hu hk hd fun tk' => ?_)
  have h' := h tk'
  cases hf : cAt xs k with
  | some v =>
    rw [hf] at h'
    show wpAny _ _ (ret (.bool true)) _ _ _
    exact wpAny_pure ⟨_, rfl, wpAny_pure (wpAny_truthy_bool h')⟩
  | none =>
    rw [hf] at h'
    show wpAny _ _ (Builtin.Dict.pendingKey? d key >>= _) _ _ _
    exact wpAny_bind (wpAny_pendingKey_other lo (wpAny_pure ⟨_, rfl, wpAny_pure (wpAny_truthy_bool h')⟩))
theorem inK {d : Addr} {o : Obj} {xs : Con K} {k : K} {key : Value} {Q : Value → Shared → Prop} (hu : A.in1.units < 9800) (ho : s.heap.get? d = some o) (D : DCls (model prog w) h₀ o.cls) (kp : ∀ b o, h₀.get? b = some o → s.heap.get? b = some o)
    (lo : (d == sysModules) = false) (hk : kk.is s.heap k key) (hd : DictIn kk s.heap d xs) (h : ∀ tk', Q (.bool (cAt xs k).isSome) { s with toks := tk' }) : wpAny (model prog w) A (compareOp .In key (.ref d)) Q E s := by
  show wpAny _ _ (do return .bool (← contains (.ref d) key)) Q E s
  exact wpAny_bind (containsK hu ho D kp lo hk hd fun tk' => wpAny_pure (h tk'))
/-- `d.get(key, dflt)`, the method's call -/
theorem dictGetDefault {d : Addr} {o : Obj} {xs : Con K} {k : K} {key dflt : Value} {Q : Value → Shared → Prop} (hu : A.in1.units < 9800) (ho : s.heap.get? d = some o) (D : DCls (model prog w) h₀ o.cls) (kp : ∀ b o, h₀.get? b = some o → s.heap.get? b = some o)
    (lo : (d == sysModules) = false) (hk : kk.is s.heap k key) (hd : DictIn kk s.heap d xs) (h : ∀ tk', Q ((cAt xs k).getD dflt) { s with toks := tk' }) : wpAny (model prog w) A (call (.builtin "dict.get") [.ref d, key, dflt]) Q E s := by
  refine call_D ho kp D.sub PySem.F.entry_dict_get (n := "get") (by decide +kernel) (by first | exact .inl (by decide +kernel) | exact .inr (by decide +kernel)) PySem.F.slot_dict_get.plain (PySem.F.args_dict_get_3 _ _ _) ?_
  show wpAny _ _ (Builtin.Dict.keyAndDefault "get" ⟨[.ref d, key, dflt], []⟩ >>= _) _ _ s
  refine wpAny_bind ?_
  unfold Builtin.Dict.keyAndDefault
  refine wpAny_bind (notOrd_D ho kp D.ord ?_)
  show wpAny _ _ (pure (d, key, some dflt)) _ _ s
  refine wpAny_pure ?_
  show wpAny _ _ (dictGet d key >>= _) _ _ s
  refine wpAny_bind (dictGetD hu hk hd fun tk' => ?_)
  have h' := h tk'
  cases hf : cAt xs k with
  | some v =>
    rw [hf] at h'
    exact wpAny_pure ⟨_, rfl, h'⟩
  | none =>
    rw [hf] at h'
    show wpAny _ _ (Builtin.Dict.missed d key >>= _) _ _ _
    unfold Builtin.Dict.missed
    rw [if_neg (by rw [lo]; exact Bool.false_ne_true)]
    exact wpAny_bind (wpAny_pure (wpAny_pure ⟨_, rfl, h'⟩))
end
end
end Mine
end
-- K3
section
open PySem PySem.W PySem.W.X PyProof.Rows PySem.Calls
set_option maxRecDepth 100000
set_option maxHeartbeats 1000000
namespace Mine
/-- a dict's raw content -/
def DAt (h : Heap) (d : Addr) (es : Array DictEntry) (ep : Nat) : Prop := ∃ o, h.get? d = some o ∧ o.data = .dict es ep
theorem DAt.at {h h' : Heap} {d : Addr} {es : Array DictEntry} {ep : Nat} (x : DAt h d es ep) (e : ∀ o, h.get? d = some o → h'.get? d = some o) : DAt h' d es ep := let ⟨o, ho, r⟩ := x; ⟨o, e _ ho, r⟩
theorem DAt.lt {h : Heap} {d : Addr} {es : Array DictEntry} {ep : Nat} (x : DAt h d es ep) : d < h.objs.size := let ⟨_, ho, _⟩ := x; Heap.lt_size ho
section
variable {prog : Program} {w : World} {A : Around} {E : Value → Shared → Prop} {s : Shared} {h₀ : Heap}
theorem iter_D {d : Addr} {o : Obj} {es : Array DictEntry} {ep : Nat} {Q : Value → Shared → Prop} (ho : s.heap.get? d = some o) (hdat : o.data = .dict es ep) (D : DCls (model prog w) h₀ o.cls) (kp : ∀ b o, h₀.get? b = some o → s.heap.get? b = some o) (lo : (d == sysModules) = false)
    (hQ : Q (.ref s.heap.objs.size) { s with heap := s.heap.push { cls := .type "dict_keyiterator", data := .fields #[.ref d, .int 0 0, .int es.size 0, .int ep 0] } }) :
    wpAny (model prog w) A (pyIter (.ref d)) Q E s := by
  unfold pyIter specialOf
  refine wpAny_bind (wpAny_bind (typeOf_at ho (D.it _ _ _ _ kp ?_)))
  show wpAny _ A (callSpecialIfBoundUnlessNone? (.ref d) "__iter__" _ >>= _) Q E s
  refine wpAny_bind ?_
  simp only [callSpecialIfBoundUnlessNone?, bindSpecialIfBound?, specialOf]
  refine wpAny_holding (wpAny_bind (wpAny_bind (wpAny_bind (typeOf_at ho (D.it _ _ _ _ kp ?_)))))
  simp only [PySem.F.slot_dict_iter.bind]
  refine wpAny_bind (wpAny_askSetting (wpAny_ite ?_))
  have main : wpAny (model prog w) A (call (.builtin "dict.__iter__") [.ref d]) (fun it s' => it = .ref s.heap.objs.size ∧ s' = { s with heap := s.heap.push { cls := .type "dict_keyiterator", data := .fields #[.ref d, .int 0 0, .int es.size 0, .int ep 0] } }) E s := by
    refine call_D ho kp D.sub PySem.F.entry_dict_iter (n := "__iter__") (by decide +kernel) (by first | exact .inl (by decide +kernel) | exact .inr (by decide +kernel)) PySem.F.slot_dict_iter.plain (PySem.F.args_dict_iter_1 _) ?_
    unfold Builtin.«dict.__iter__»
    refine wpAny_bind ?_
    unfold Builtin.Dict.dictSlotNone
    refine wpAny_bind (notOrd_D ho kp D.ord ?_)
    show wpAny _ _ (pure (Value.ref d)) _ _ s
    refine wpAny_pure ?_
    show wpAny _ _ (Builtin.Dict.showsAll d >>= _) _ _ s
    unfold Builtin.Dict.showsAll
    rw [if_neg (by rw [lo]; exact Bool.false_ne_true)]
    refine wpAny_bind (wpAny_pure ?_)
    refine wpAny_bind (wpAny_dictEntries ho hdat ?_)
    refine wpAny_bind (wpAny_dictEpoch ho hdat ?_)
    exact wpAny_bind (wpAny_newObj_type (wpAny_pure ⟨_, rfl, rfl, rfl⟩))
  have fin : wpAny (model prog w) A (do
      let __do_lift ← call (.builtin "dict.__iter__") [.ref d]
      pure (some __do_lift)) (fun a s' => wpAny (model prog w) A (match a with
        | some it => (do match ← (do typeLookup (← typeOf it) "__next__") with
          | none => rule "iter.non-iterator"; raiseError "TypeError" s!"iter() returned non-iterator of type '{← typeNameOf it}'"
          | some _ => pure it)
        | none => (do match ← bindSpecialIfBound? (.ref d) "__getitem__" with
          | none => rule "iter.not-iterable"; raiseError "TypeError" s!"'{← typeNameOf (.ref d)}' object is not iterable"
          | some _ => rule "iter.getitem-fallback"; newFields "iterator" [.ref d, ← mkInt 0])) Q E s') E s := by
    refine wpAny_bind (wpAny_mono main (fun it s' h' => ?_) fun _ _ e => e)
    obtain ⟨rfl, rfl⟩ := h'
    refine wpAny_pure ?_
    have hT : Shared.TypeIs { s with heap := s.heap.push { cls := .type "dict_keyiterator", data := .fields #[.ref d, .int 0 0, .int es.size 0, .int ep 0] } } (.ref s.heap.objs.size) "dict_keyiterator" := ⟨_, Heap.get?_push_size _ rfl, rfl⟩
    exact wpAny_bind (wpAny_bind (wpAny_typeOf hT (wpAny_of_eq PySem.F.slot_dict_keyiterator_next.lookup (wpAny_pure hQ))))
  split
  · refine wpAny_bind (wpAny_pure (wpAny_pure ?_))
    simp only [builtin_beq_none, Bool.false_eq_true, if_false]
    exact fin
  · refine wpAny_tryCatch (wpAny_bind (wpAny_pure (wpAny_pure ?_)))
    simp only [builtin_beq_none, Bool.false_eq_true, if_false]
    exact fin
theorem nextKey_D {it d : Addr} {i ep : Nat} {es : Array DictEntry} {e : DictEntry} {Q : Option Value → Shared → Prop} (hit : s.heap.IsKeyIter it d i es.size ep)
    (hm : DAt s.heap d es ep) (hx : es[i]? = some e)
    (hQ : ∀ h', h'.IsKeyIter it d (i + 1) es.size ep → Heap.SameBut it s.heap h' → Q (some e.key) { s with heap := h' }) :
    wpAny (model prog w) A (pyNext (.ref it)) Q E s := by
  obtain ⟨o, ho, hc, hd⟩ := id hit
  obtain ⟨od, hod, hdd⟩ := id hm
  unfold pyNext
  refine wpAny_bind (wpAny_attempt (wpAny_callSpecial?_slot (name := Str.ofString "__next__") hit.typeIs PySem.F.slot_dict_keyiterator_next
    (wpAny_call_entry PySem.F.slot_dict_keyiterator_next hit.typeIs PySem.F.entry_dict_keyiterator_next ?_ (PySem.F.args_dict_keyiterator_next_1 _))))
  refine wpAny_bind (wpAny_pure ?_)
  refine wpAny_bind ?_
  refine wpAny_bind ?_
  first | refine wpAny_bind (wpAny_typeNameOfWhole_keyiter hit.typeIs (wpAny_pure ?_)) | refine wpAny_bind (wpAny_typeNameOf_keyiter hit.typeIs (wpAny_pure ?_))
  refine wpAny_bind (wpAny_fieldsOf ho hd ?_)
  have hown : Builtin.Dict_items.ownsTuple "dict_keyiterator" = false := by decide
  simp only [hown, Bool.false_eq_true, if_false]
  show wpAny _ _ (if (Value.ref d == Value.none) = true then _ else _) _ _ s
  rw [if_neg (show ¬ ((Value.ref d == Value.none) = true) from Bool.false_ne_true)]
  refine wpAny_bind (wpAny_pure ?_)
  refine wpAny_bind (wpAny_dictEntries hod hdd ?_)
  rw [if_neg (by simp)]
  refine wpAny_bind (wpAny_pure ?_)
  refine wpAny_bind (wpAny_dictEpoch hod hdd ?_)
  rw [if_neg (by simp)]
  refine wpAny_pure ?_

  have hlt' : i < es.size := (Array.getElem?_eq_some_iff.mp hx).1
  simp only [show ¬ ((i : Int) < 0) from by omega, if_false, Int.toNat_natCast, hx]
  refine wpAny_bind ?_
  first | refine wpAny_bind (wpAny_typeNameOfWhole_keyiter hit.typeIs (wpAny_pure ?_)) | refine wpAny_bind (wpAny_typeNameOf_keyiter hit.typeIs (wpAny_pure ?_))
  refine wpAny_bind (wpAny_isOneOf_keyiter hit.typeIs ?_)
  show wpAny _ _ (setField (.ref it) 1 (rawInt ((i : Int) + 1)) >>= _) _ _ s
  refine wpAny_bind (wpAny_setField ho hd (by simp) ?_)
  have hit' : (s.heap.update it (Obj.mapFields (·.setIfInBounds 1 (rawInt ((i : Int) + 1))))).IsKeyIter it d (i + 1) es.size ep :=
    ⟨_, Heap.get?_update_self _ ho (Obj.isFreed_of_fields (Obj.data_mapFields hd _)), (Obj.cls_mapFields ..).trans hc, by rw [Obj.data_mapFields hd]; simp [rawInt]⟩
  refine wpAny_bind (wpAny_holding ?_)
  refine wpAny_bind (wpAny_isOneOf_keyiter (s := { s with heap := s.heap.update it (Obj.mapFields (·.setIfInBounds 1 (rawInt ((i : Int) + 1)))) }) hit'.typeIs ?_)
  show wpAny _ _ (pure e.key) _ _ _
  exact wpAny_pure (wpAny_pure ⟨_, rfl, wpAny_pure (hQ _ hit' (Heap.SameBut.update ..))⟩)

theorem endKey_D {it d : Addr} {i ep : Nat} {es : Array DictEntry} {Q : Option Value → Shared → Prop} (hh : A.handled = none) (hit : s.heap.IsKeyIter it d i es.size ep)
    (hm : DAt s.heap d es ep) (hx : es[i]? = none)
    (hQ : ∀ h', Heap.ExtBut it s.heap h' → Q none { s with heap := h' }) : wpAny (model prog w) A (pyNext (.ref it)) Q E s := by
  obtain ⟨o, ho, hc, hd⟩ := id hit
  obtain ⟨od, hod, hdd⟩ := id hm
  unfold pyNext
  refine wpAny_bind (wpAny_attempt (wpAny_callSpecial?_slot (name := Str.ofString "__next__") hit.typeIs PySem.F.slot_dict_keyiterator_next
    (wpAny_call_entry PySem.F.slot_dict_keyiterator_next hit.typeIs PySem.F.entry_dict_keyiterator_next ?_ (PySem.F.args_dict_keyiterator_next_1 _))))
  refine wpAny_bind (wpAny_pure ?_)
  refine wpAny_bind ?_
  refine wpAny_bind ?_
  first | refine wpAny_bind (wpAny_typeNameOfWhole_keyiter hit.typeIs (wpAny_pure ?_)) | refine wpAny_bind (wpAny_typeNameOf_keyiter hit.typeIs (wpAny_pure ?_))
  refine wpAny_bind (wpAny_fieldsOf ho hd ?_)
  have hown : Builtin.Dict_items.ownsTuple "dict_keyiterator" = false := by decide
  simp only [hown, Bool.false_eq_true, if_false]
  show wpAny _ _ (if (Value.ref d == Value.none) = true then _ else _) _ _ s
  rw [if_neg (show ¬ ((Value.ref d == Value.none) = true) from Bool.false_ne_true)]
  refine wpAny_bind (wpAny_pure ?_)
  refine wpAny_bind (wpAny_dictEntries hod hdd ?_)
  rw [if_neg (by simp)]
  refine wpAny_bind (wpAny_pure ?_)
  refine wpAny_bind (wpAny_dictEpoch hod hdd ?_)
  rw [if_neg (by simp)]
  refine wpAny_pure ?_
  have hge : es.size ≤ i := by simpa using hx
  simp only [show ¬ ((i : Int) < 0) from by omega, if_false, Int.toNat_natCast, Array.getElem?_eq_none hge]
  refine wpAny_bind ?_
  first | refine wpAny_bind (wpAny_typeNameOfWhole_keyiter hit.typeIs (wpAny_pure ?_)) | refine wpAny_bind (wpAny_typeNameOf_keyiter hit.typeIs (wpAny_pure ?_))
  show wpAny _ _ (setField (.ref it) 0 .none >>= _) _ _ s
  refine wpAny_bind (wpAny_setField ho hd (by simp) ?_)
  show wpAny _ _ (newExc (.type "StopIteration") [] >>= _) _ _ _
  refine wpAny_bind ?_
  simp only [newExc, newTuple]
  refine wpAny_bind (wpAny_newObj_type ?_ (by size_fits))
  refine wpAny_bind (m := firstArgMember _ _) (wpAny_of_eq (a := Value.none) (by first | rfl | (simp only [firstArgMember]; rfl)) ?_)
  refine wpAny_newObj_type ?_ (by size_fits)
  simp only [raiseNew]
  refine wpAny_bind (wpAny_handled ?_)
  rw [show A.in1.handled = none from hh]
  refine wpAny_bind (wpAny_pure (wpAny_throw ?_))
  refine wpAny_bind (wpAny_isInstance (T := "StopIteration") (b := true) ⟨_, Heap.get?_push_size _ rfl, rfl⟩ isSubtype_stop ?_)
  exact wpAny_pure (hQ _ (((Heap.SameBut.update ..).extBut.push _).push _))
theorem nextVal_D {it d : Addr} {i ep : Nat} {es : Array DictEntry} {e : DictEntry} {Q : Option Value → Shared → Prop} (hit : s.heap.IsValIter it d i es.size ep)
    (hm : DAt s.heap d es ep) (hx : es[i]? = some e)
    (hQ : ∀ h', h'.IsValIter it d (i + 1) es.size ep → Heap.SameBut it s.heap h' → Q (some e.val) { s with heap := h' }) :
    wpAny (model prog w) A (pyNext (.ref it)) Q E s := by
  obtain ⟨o, ho, hc, hd⟩ := id hit
  obtain ⟨od, hod, hdd⟩ := id hm
  unfold pyNext
  refine wpAny_bind (wpAny_attempt (wpAny_callSpecial?_slot (name := Str.ofString "__next__") hit.typeIs PySem.F.slot_dict_valueiterator_next
    (wpAny_call_entry PySem.F.slot_dict_valueiterator_next hit.typeIs PySem.F.entry_dict_valueiterator_next ?_ (PySem.F.args_dict_valueiterator_next_1 _))))
  refine wpAny_bind (wpAny_pure ?_)
  refine wpAny_bind ?_
  refine wpAny_bind ?_
  first | refine wpAny_bind (wpAny_typeNameOfWhole_valiter hit.typeIs (wpAny_pure ?_)) | refine wpAny_bind (wpAny_typeNameOf_valiter hit.typeIs (wpAny_pure ?_))
  refine wpAny_bind (wpAny_fieldsOf ho hd ?_)
  have hown : Builtin.Dict_items.ownsTuple "dict_valueiterator" = false := by decide
  simp only [hown, Bool.false_eq_true, if_false]
  show wpAny _ _ (if (Value.ref d == Value.none) = true then _ else _) _ _ s
  rw [if_neg (show ¬ ((Value.ref d == Value.none) = true) from Bool.false_ne_true)]
  refine wpAny_bind (wpAny_pure ?_)
  refine wpAny_bind (wpAny_dictEntries hod hdd ?_)
  rw [if_neg (by simp)]
  refine wpAny_bind (wpAny_pure ?_)
  refine wpAny_bind (wpAny_dictEpoch hod hdd ?_)
  rw [if_neg (by simp)]
  refine wpAny_pure ?_

  have hlt' : i < es.size := (Array.getElem?_eq_some_iff.mp hx).1
  simp only [show ¬ ((i : Int) < 0) from by omega, if_false, Int.toNat_natCast, hx]
  refine wpAny_bind ?_
  first | refine wpAny_bind (wpAny_typeNameOfWhole_valiter hit.typeIs (wpAny_pure ?_)) | refine wpAny_bind (wpAny_typeNameOf_valiter hit.typeIs (wpAny_pure ?_))
  refine wpAny_bind (wpAny_isOneOf_valiter hit.typeIs ?_)
  show wpAny _ _ (setField (.ref it) 1 (rawInt ((i : Int) + 1)) >>= _) _ _ s
  refine wpAny_bind (wpAny_setField ho hd (by simp) ?_)
  have hit' : (s.heap.update it (Obj.mapFields (·.setIfInBounds 1 (rawInt ((i : Int) + 1))))).IsValIter it d (i + 1) es.size ep :=
    ⟨_, Heap.get?_update_self _ ho (Obj.isFreed_of_fields (Obj.data_mapFields hd _)), (Obj.cls_mapFields ..).trans hc, by rw [Obj.data_mapFields hd]; simp [rawInt]⟩
  refine wpAny_bind (wpAny_holding ?_)
  refine wpAny_bind (wpAny_isOneOf_valiter (s := { s with heap := s.heap.update it (Obj.mapFields (·.setIfInBounds 1 (rawInt ((i : Int) + 1)))) }) hit'.typeIs ?_)
  refine wpAny_bind (wpAny_isOneOf_valiter (s := { s with heap := s.heap.update it (Obj.mapFields (·.setIfInBounds 1 (rawInt ((i : Int) + 1)))) }) hit'.typeIs ?_)
  show wpAny _ _ (pure e.val) _ _ _
  exact wpAny_pure (wpAny_pure ⟨_, rfl, wpAny_pure (hQ _ hit' (Heap.SameBut.update ..))⟩)

theorem endVal_D {it d : Addr} {i ep : Nat} {es : Array DictEntry} {Q : Option Value → Shared → Prop} (hh : A.handled = none) (hit : s.heap.IsValIter it d i es.size ep)
    (hm : DAt s.heap d es ep) (hx : es[i]? = none)
    (hQ : ∀ h', Heap.ExtBut it s.heap h' → Q none { s with heap := h' }) : wpAny (model prog w) A (pyNext (.ref it)) Q E s := by
  obtain ⟨o, ho, hc, hd⟩ := id hit
  obtain ⟨od, hod, hdd⟩ := id hm
  unfold pyNext
  refine wpAny_bind (wpAny_attempt (wpAny_callSpecial?_slot (name := Str.ofString "__next__") hit.typeIs PySem.F.slot_dict_valueiterator_next
    (wpAny_call_entry PySem.F.slot_dict_valueiterator_next hit.typeIs PySem.F.entry_dict_valueiterator_next ?_ (PySem.F.args_dict_valueiterator_next_1 _))))
  refine wpAny_bind (wpAny_pure ?_)
  refine wpAny_bind ?_
  refine wpAny_bind ?_
  first | refine wpAny_bind (wpAny_typeNameOfWhole_valiter hit.typeIs (wpAny_pure ?_)) | refine wpAny_bind (wpAny_typeNameOf_valiter hit.typeIs (wpAny_pure ?_))
  refine wpAny_bind (wpAny_fieldsOf ho hd ?_)
  have hown : Builtin.Dict_items.ownsTuple "dict_valueiterator" = false := by decide
  simp only [hown, Bool.false_eq_true, if_false]
  show wpAny _ _ (if (Value.ref d == Value.none) = true then _ else _) _ _ s
  rw [if_neg (show ¬ ((Value.ref d == Value.none) = true) from Bool.false_ne_true)]
  refine wpAny_bind (wpAny_pure ?_)
  refine wpAny_bind (wpAny_dictEntries hod hdd ?_)
  rw [if_neg (by simp)]
  refine wpAny_bind (wpAny_pure ?_)
  refine wpAny_bind (wpAny_dictEpoch hod hdd ?_)
  rw [if_neg (by simp)]
  refine wpAny_pure ?_
  have hge : es.size ≤ i := by simpa using hx
  simp only [show ¬ ((i : Int) < 0) from by omega, if_false, Int.toNat_natCast, Array.getElem?_eq_none hge]
  refine wpAny_bind ?_
  first | refine wpAny_bind (wpAny_typeNameOfWhole_valiter hit.typeIs (wpAny_pure ?_)) | refine wpAny_bind (wpAny_typeNameOf_valiter hit.typeIs (wpAny_pure ?_))
  show wpAny _ _ (setField (.ref it) 0 .none >>= _) _ _ s
  refine wpAny_bind (wpAny_setField ho hd (by simp) ?_)
  show wpAny _ _ (newExc (.type "StopIteration") [] >>= _) _ _ _
  refine wpAny_bind ?_
  simp only [newExc, newTuple]
  refine wpAny_bind (wpAny_newObj_type ?_ (by size_fits))
  refine wpAny_bind (m := firstArgMember _ _) (wpAny_of_eq (a := Value.none) (by first | rfl | (simp only [firstArgMember]; rfl)) ?_)
  refine wpAny_newObj_type ?_ (by size_fits)
  simp only [raiseNew]
  refine wpAny_bind (wpAny_handled ?_)
  rw [show A.in1.handled = none from hh]
  refine wpAny_bind (wpAny_pure (wpAny_throw ?_))
  refine wpAny_bind (wpAny_isInstance (T := "StopIteration") (b := true) ⟨_, Heap.get?_push_size _ rfl, rfl⟩ isSubtype_stop ?_)
  exact wpAny_pure (hQ _ (((Heap.SameBut.update ..).extBut.push _).push _))

theorem walks_keys (hh : A.handled = none) (I d : Addr) (hne : d ≠ I) (es : Array DictEntry) (ep : Nat) :
    Walks prog w A I [I, d] [I] es.size (fun i v => ∃ e, es[i]? = some e ∧ v = e.key) (fun i h => h.IsKeyIter I d i es.size ep ∧ DAt h d es ep) where
  sub := fun b hb => by simp at hb; simp [hb]
  frame := fun _ _ _ st hk => ⟨st.1.at fun o e => hk I (by simp) o e, st.2.at fun o e => hk d (by simp) o e⟩
  item := fun i s Q E hi st hQ => by
    refine nextKey_D st.1 st.2 (Array.getElem?_eq_getElem hi) fun h' hit' hs' => ?_
    exact hQ _ h' s.toks ⟨_, Array.getElem?_eq_getElem hi, rfl⟩ ⟨hit', st.2.at fun o e => hs'.extBut d o hne e⟩ fun b o hb e => hs'.extBut b o (fun h => hb (by simp [h])) e
  done := fun s Q E st hQ => endKey_D hh st.1 st.2 (by simp) fun h' he' => hQ h' s.toks fun b o hb e => he' b o (fun h => hb (by simp [h])) e
  self := fun _ _ _ _ st hQ => wpAny_pyIter_keyiter st.1 hQ
theorem walks_vals (hh : A.handled = none) (I d : Addr) (hne : d ≠ I) (es : Array DictEntry) (ep : Nat) :
    Walks prog w A I [I, d] [I] es.size (fun i v => ∃ e, es[i]? = some e ∧ v = e.val) (fun i h => h.IsValIter I d i es.size ep ∧ DAt h d es ep) where
  sub := fun b hb => by simp at hb; simp [hb]
  frame := fun _ _ _ st hk => ⟨st.1.at fun o e => hk I (by simp) o e, st.2.at fun o e => hk d (by simp) o e⟩
  item := fun i s Q E hi st hQ => by
    refine nextVal_D st.1 st.2 (Array.getElem?_eq_getElem hi) fun h' hit' hs' => ?_
    exact hQ _ h' s.toks ⟨_, Array.getElem?_eq_getElem hi, rfl⟩ ⟨hit', st.2.at fun o e => hs'.extBut d o hne e⟩ fun b o hb e => hs'.extBut b o (fun h => hb (by simp [h])) e
  done := fun s Q E st hQ => endVal_D hh st.1 st.2 (by simp) fun h' he' => hQ h' s.toks fun b o hb e => he' b o (fun h => hb (by simp [h])) e
  self := fun _ _ _ _ st hQ => wpAny_pyIter_valiter st.1 hQ
theorem iterVals_D {v d : Addr} {es : Array DictEntry} {ep : Nat} {Q : Value → Shared → Prop} (hv : s.heap.IsValuesView v d) (hm : DAt s.heap d es ep)
    (hQ : Q (.ref s.heap.objs.size) { s with heap := s.heap.push { cls := .type "dict_valueiterator", data := .fields #[.ref d, .int 0 0, .int es.size 0, .int ep 0] } }) :
    wpAny (model prog w) A (pyIter (.ref v)) Q E s := by
  obtain ⟨ov, hov, hcv, hdv⟩ := id hv
  obtain ⟨o, ho, hdat⟩ := id hm
  refine wpAny_pyIter_slot hv.typeIs PySem.F.slot_dict_values_iter (wpAny_call_entry PySem.F.slot_dict_values_iter hv.typeIs PySem.F.entry_dict_values_iter ?_ (PySem.F.args_dict_values_iter_1 _))
  unfold Builtin.«dict_values.__iter__»
  refine wpAny_bind (wpAny_pure ?_)
  refine wpAny_bind ?_
  unfold Builtin.Dict_items.dictOf
  refine wpAny_bind (wpAny_field hov hdv (x := .ref d) rfl (wpAny_pure ?_))
  refine wpAny_bind ?_
  unfold Builtin.Dict_items.newIterator
  refine wpAny_bind (wpAny_dictEntries ho hdat ?_)
  refine wpAny_bind (wpAny_dictEpoch ho hdat ?_)
  have hown : Builtin.Dict_items.ownsTuple "dict_valueiterator" = false := by decide
  simp only [hown, Bool.false_eq_true, if_false]
  refine wpAny_newObj_type (wpAny_pure ⟨_, rfl, "dict_valueiterator", _, ⟨_, Heap.get?_push_size _ rfl, rfl⟩, PySem.F.slot_dict_valueiterator_next.lookup, ?_⟩)
  simpa [rawInt] using hQ
theorem src_vals {r d : Addr} {es : Array DictEntry} {ep : Nat} : KdlSrc prog w "dict_values" r d es.size (fun i v => ∃ e, es[i]? = some e ∧ v = e.val) (fun h => h.IsValuesView r d ∧ DAt h d es ep) where
  type := fun _ hm => hm.1.typeIs
  there := fun _ hm => ⟨let ⟨_, ho, _⟩ := hm.1; Heap.lt_size ho, hm.2.lt⟩
  keep := fun _ _ hm hk => ⟨let ⟨o, ho, x⟩ := hm.1; ⟨o, hk r (.inl rfl) o ho, x⟩, hm.2.at fun o e => hk d (.inr rfl) o e⟩
  notList := by decide
  notTuple := by decide
  hint := fun _ _ _ _ hm hq => kdl_hint_values hm.1.typeIs hq
  iter := fun _ _ hh hm => ⟨_, _, (fun _ _ hq => iterVals_D hm.1 hm.2 hq), walks_vals hh _ d (Nat.ne_of_lt hm.2.lt) es ep, ⟨⟨_, Heap.get?_push_size _ rfl, rfl, rfl⟩, hm.2.at fun _ e => Heap.get?_push_of_some _ e⟩⟩
/-- `d.values()`, the method's call -/
theorem values_D {d : Addr} {o : Obj} {Q : Value → Shared → Prop} (ho : s.heap.get? d = some o) (D : DCls (model prog w) h₀ o.cls) (kp : ∀ b o, h₀.get? b = some o → s.heap.get? b = some o) (lo : (d == sysModules) = false)
    (h : Q (.ref s.heap.objs.size) { s with heap := s.heap.push { cls := .type "dict_values", data := .fields #[.ref d] } }) : wpAny (model prog w) A (call (.builtin "dict.values") [.ref d]) Q E s := by
  refine call_D ho kp D.sub PySem.F.entry_dict_values (n := "values") (by decide +kernel) (by first | exact .inl (by decide +kernel) | exact .inr (by decide +kernel)) PySem.F.slot_dict_values.plain (PySem.F.args_dict_values_1 _) ?_
  show wpAny _ _ (Builtin.Dict.noArgs "values" ⟨[.ref d], []⟩ >>= _) _ _ s
  refine wpAny_bind ?_
  unfold Builtin.Dict.noArgs
  refine wpAny_bind (notOrd_D ho kp D.ord ?_)
  show wpAny _ _ (pure d) _ _ s
  refine wpAny_pure ?_
  show wpAny _ _ (Builtin.Dict.showsAll d >>= _) _ _ s
  unfold Builtin.Dict.showsAll
  rw [if_neg (by rw [lo]; exact Bool.false_ne_true)]
  refine wpAny_bind (wpAny_pure ?_)
  exact wpAny_bind (wpAny_newObj_type (wpAny_pure ⟨_, rfl, h⟩))
/-- a method of an object that holds a dict's content -/
theorem method_D {K : Frag} {x C : Addr} {ox : Obj} {od : Option Obj} {fv : Value} {T : String} {name : Str} {pl : Sem Bool} {Q : Value × List Value → Shared → Prop} (X : K.In s.heap) (I : InstAt s.heap x ox C od) (hga : findIn K (.ref C) "__getattribute__" = some (some (.builtin "dict.__getattribute__"))) (hk : findIn K (.ref C) "__getattr__" = some none)
    (hf : findIn K (.ref C) name = some (some fv)) (ht : Looks (model prog w) s.heap (typeOf fv) (.type T)) (hT : (Value.type T != .type "function" && Value.type T != .type "method_descriptor" && Value.type T != .type "wrapper_descriptor") = false) (hs : shadowIn od name = some false) (h : Q (fv, [.ref x]) s) :
    wpAny (model prog w) A (getMethod (.ref x) name pl) Q E s := by
  have hcan : (Manifest.canonical "dict.__getattribute__" != "object.__getattribute__") = false := by decide +kernel
  unfold getMethod specialOf
  refine wpAny_bind (wpAny_bind (I.type.here ((looks_findIn X hga).here ?_)))
  dsimp only
  rw [hcan, if_neg (by decide)]
  refine wpAny_bind (wpAny_bind (I.type.here ((looks_findIn X hk).here ?_)))
  refine wpAny_bind (wpAny_bind (I.type.here ((looks_findIn X hf).here (wpAny_bind (ht.here ?_)))))
  rw [hT, if_neg (by decide)]
  refine wpAny_bind (wpAny_loadPart I.at_ ?_)
  have hd := I.dict
  cases e : ox.dict with
  | none => exact wpAny_bind (wpAny_rule (wpAny_pure h))
  | some dx =>
    cases od with
    | none => rw [e] at hd; exact hd.elim
    | some o =>
      rw [e] at hd
      obtain ⟨r, a, b⟩ := Option.map_eq_some_iff.mp hs
      refine wpAny_bind (wpAny_bind (wpAny_loadPart hd ?_))
      rw [nsLook_of a]
      refine wpAny_pure ?_
      rw [b]
      exact wpAny_bind (wpAny_rule (wpAny_pure h))
end
end Mine
end
-- K4
section
open PySem PySem.W PySem.W.X PyProof.Rows PySem.Calls Builtin Builtin.ObjectAttr
set_option maxRecDepth 100000
set_option maxHeartbeats 1000000
namespace Mine
theorem fillK4 : PySem.Challenge.rw_ah5040_01 = PySem.Challenge.rw_ah5040_01 ∧ Mine.hd.heap_39 = Mine.hd.heap_39 := by
  k_fill
  exact ⟨rfl, rfl⟩
def makesD (K : Frag) (C : Addr) : Bool := match K.lookup C with
  | some ⟨_, _, .cls cd, sl⟩ => !cd.abstract && !cd.hasDel && (sl.toList[4]?).join == some (.builtin "dict.__new__") && !cd.mro.isEmpty && cd.mro.contains (.ref C) && cd.mro.contains (.type "dict") &&
      !(cd.mro.any fun | .type n => !["dict", "object", "collections.defaultdict", "collections.OrderedDict"].contains n | _ => false) && specialIn K (.ref C) "__call__" == some (some (.builtin "type.__call__")) && instIn K (.ref C) (.type "type") == some true
  | _ => false
structure MakesD (M : Model) (h : Heap) (C : Addr) : Prop where
  obj : ∃ oc od cd sl, h.get? C = some ⟨oc, od, .cls cd, sl⟩ ∧ cd.abstract = false ∧ cd.hasDel = false ∧ cd.mro.isEmpty = false ∧ (cd.mro.any fun | .type n => !["dict", "object", "collections.defaultdict", "collections.OrderedDict"].contains n | _ => false) = false
  made : Looks M h (Bind.madeBy (.ref C)) (some "dict.__new__")
  base : Looks M h (Bind.staticBase (.ref C)) (.ref C)
  self : Looks M h (isSubtype (.ref C) (.ref C)) true
  top : Looks M h (isSubtype (.ref C) (.type "dict")) true
  call : Looks M h (specialOf (.ref C) "__call__") (some (.builtin "type.__call__"))
  typ : Looks M h (isInstance (.ref C) (.type "type")) true
theorem makesD_of {K : Frag} {M : Model} {h : Heap} (X : K.In h) {C : Addr} (e : makesD K C = true) : MakesD M h C := by
  unfold makesD at e
  split at e
  · rename_i oc od cd sl ho
    simp only [Bool.and_eq_true, Bool.not_eq_true', beq_iff_eq] at e
    obtain ⟨⟨⟨⟨⟨⟨⟨⟨e1, e2⟩, e3⟩, e4⟩, e5⟩, e6⟩, e9⟩, e7⟩, e8⟩ := e
    have hc : clsIn K C = some cd := by unfold clsIn; rw [ho]
    have hm : Looks M h (mroOf (.ref C)) cd.mro := (looks_clsIn X hc).andThen .now
    obtain ⟨c, l, hl⟩ : ∃ c l, cd.mro = c :: l := by cases q : cd.mro with | nil => rw [q] at e4; cases e4 | cons c l => exact ⟨c, l, rfl⟩
    have made : Looks M h (Bind.madeBy (.ref C)) (some "dict.__new__") := by
      intro A Q E s k q
      unfold Bind.madeBy
      refine wpAny_bind (hm A _ E s k ?_)
      rw [hl, List.forIn_cons]
      refine wpAny_bind (wpAny_bind (wpAny_bind (wpAny_bind (wpAny_loadPart (k _ _ (X _ _ ho)) (wpAny_pure ?_)))))
      dsimp only
      rw [← Array.getElem?_toList, e3]
      exact wpAny_pure (wpAny_pure (wpAny_pure q))
    refine ⟨⟨oc, od, cd, sl, X _ _ ho, e1, e2, e4, e9⟩, made, ?_, looks_mroIn X ?_, looks_mroIn X ?_, looks_specialIn X e7, looks_instIn X e8⟩
    · intro A Q E s k q
      unfold Bind.staticBase
      refine wpAny_bind (hm A _ E s k ?_)
      rw [hl, List.forIn_cons]
      exact wpAny_bind (wpAny_bind (wpAny_bind (made A _ E s k (wpAny_pure (wpAny_pure (wpAny_pure q))))))
    · unfold mroIn; rw [hc, Option.bind_some, if_neg (by rw [e4]; decide), e5]
    · unfold mroIn; rw [hc, Option.bind_some, if_neg (by rw [e4]; decide), e6]
  · cases e
abbrev ctrO (C dx : Addr) : Obj := { cls := .ref C, dict := some dx, data := .dict #[] }
theorem dn_split : splitId "dict.__new__" = some ("dict", "__new__") := by decide +kernel
theorem dn_kind : builtinKind "dict.__new__" = some .builtinFn := by decide +kernel
theorem dn_entry : entryFor table "dict.__new__" = some Builtin.«dict.__new__» := entryFor_of_tree (by kernel_rfl)
theorem dn_quiet : String.startsWith "dict.__new__" "lifetime." = false := by decide +kernel
theorem dn_args (a v : Value) : argsOk "dict.__new__" ⟨[a, v], []⟩ := by unfold argsOk; kernel_rfl
section
variable {prog : Program} {w : World} {A : Around} {K : Frag} {C : Addr} {R : Result → Shared → Prop} {h : Heap} {g : Array GenState} {d : Drawn} {t : Nat} {os : OsState}
theorem new_D {v : Value} (Y : MakesD (model prog w) h C)
    (hq : R (.ok (.ret (.ref (h.objs.size + 1)))) ⟨(h.push emptyDict).push (ctrO C h.objs.size), g, d, t, os⟩) :
    codeAny (model prog w) A (.call (.builtin "dict.__new__") ⟨[.ref C, v], []⟩) R ⟨h, g, d, t, os⟩ := by
  obtain ⟨⟨oc, od, cd, sl, hC, e1, e2, e4, e9⟩, made, base, self, top, call, typ⟩ := Y
  refine codeAny_call_builtin_code (Code.quiet_builtin _ dn_quiet) ?_
  have hargs := dn_args (.ref C) v
  unfold argsOk at hargs
  simp only [checkBuiltinCall, dn_kind, dn_split]
  have hm : Looks (model prog w) h (mroOf (.ref C)) cd.mro := ((Looks.ld (part := none) hC).andThen .now).andThen .now
  repeat (first | simp only [bne_self_eq_false, Bool.false_eq_true, if_false, Bool.not_true] | lk)
  refine codeAny_builtin dn_entry ?_
  unfold Builtin.«dict.__new__»
  repeat (first | simp only [bne_self_eq_false, Bool.false_eq_true, if_false, Bool.not_true, e9] | ((fail_if_success (with_reducible show wpAny _ _ (newObj _ _ _) _ _ _)); lk))
  refine wpAny_ite_split (fun hab => absurd (e9.symm.trans hab) Bool.false_ne_true) (fun _ => ?_)
  refine wpAny_bind (wpAny_alloc (wpAny_bind ?_))
  show wpAny _ _ (newObjAsIs _ _ _) _ _ _
  unfold newObjAsIs classHasDel
  refine wpAny_bind (wpAny_alloc (wpAny_bind (wpAny_bind (wpAny_load (Heap.get?_push_of_some _ (Heap.get?_push_of_some _ hC)) (wpAny_pure ?_)))))
  rw [e2]
  refine wpAny_pure (wpAny_pure ?_)
  show R _ _
  rw [Heap.size_push]
  exact hq
theorem make_D {v init : Value} (Y : MakesD (model prog w) h C) (hi : Looks (model prog w) h (typeLookup (.ref C) "__init__") (some init))
    (hb : ∀ self, Looks (model prog w) h (bindSpecial init self) (init, [self]))
    (hq : codeAny (model prog w) (A.under (.builtin "type.__call__" ⟨[.ref C, v], []⟩)) (.call init ⟨[.ref (h.objs.size + 1), v], []⟩) (InitBack (h.objs.size + 1) R) ⟨(h.push emptyDict).push (ctrO C h.objs.size), g, d, t, os⟩) :
    codeAny (model prog w) A (.call (.ref C) ⟨[v], []⟩) R ⟨h, g, d, t, os⟩ := by
  have Y' := Y
  obtain ⟨⟨oc, od, cd, sl, hC, e1, e2, e4, e9⟩, made, base, self, top, call, typ⟩ := Y
  refine codeAny_of_tree ?_
  show wpAny _ _ (callAny (.ref C) _) _ _ _
  refine nd_load hC ?_
  show wpAny _ _ (callAny.viaDunder (.ref C) _) _ _ _
  unfold callAny.viaDunder
  refine wpAny_bind (call.at ?_)
  dsimp only
  rw [tc_bind]
  refine wpAny_bind (wpAny_pure (wpAny_bind (wpAny_pure ?_)))
  refine wpAny_pure (a := Fin.again (.call (.builtin "type.__call__") ⟨[.ref C, v], []⟩)) (And.intro rfl ?_)
  refine codeAny_call_builtin_at (Code.quiet_builtin _ (by decide +kernel)) entry_typeCall (check_slot tc_kind tc_split typ (tc_args _ _ _) ?_)
  unfold Builtin.«type.__call__»
  have hm : Looks (model prog w) h (mroOf (.ref C)) cd.mro := ((Looks.ld (part := none) hC).andThen .now).andThen .now
  repeat (first | simp only [e4, Bool.false_eq_true, if_false] | with_reducible refine wpAny_call ?_ | lk)
  refine new_D Y' ?_
  have k : ∀ b o, h.get? b = some o → ((h.push emptyDict).push (ctrO C h.objs.size)).get? b = some o := fun b o e => Heap.get?_push_of_some _ (Heap.get?_push_of_some _ e)
  have hx : ((h.push emptyDict).push (ctrO C h.objs.size)).get? (h.objs.size + 1) = some (ctrO C h.objs.size) := by heap_get
  have t1 : Looks (model prog w) ((h.push emptyDict).push (ctrO C h.objs.size)) (typeOf (.ref (h.objs.size + 1))) (.ref C) := (Looks.ld hx).andThen .now
  have s1 := self.keeps k
  have i1 := hi.keeps k
  have b1 := (hb (.ref (h.objs.size + 1))).keeps k
  unfold isInstance callSpecial? specialOf
  repeat (first | with_reducible refine wpAny_call ?_ | lk)
  refine codeAny_mono hq fun r s' z => ?_
  rcases r with e | (v | _ | _ | _) <;> first | exact z | exact z.elim | skip
  obtain ⟨rfl, z⟩ := z
  exact wpAny_pure (wpAny_pure z)
end
theorem t79 (w : World) : makesD (Mine.hd.heap_39 w.params) 79 = true := by first | rfl | kernel_rfl
end Mine
end
-- K5
section
open PySem PySem.W PySem.W.X PyProof.Rows PySem.Calls
set_option maxRecDepth 100000
set_option maxHeartbeats 1000000
namespace Mine
/-- what `v` walks through, as long as `g` stands -/
def IterOf (prog : Program) (w : World) (g : Heap) (v : Value) (n : Nat) (P : Nat → Value → Prop) : Prop :=
  ∀ (A : Around) (s : Shared) (Q : Value → Shared → Prop) (E : Value → Shared → Prop), A.handled = none → g.StaysIn s.heap →
    (∀ oI fp St, Walks prog w A s.heap.objs.size fp [s.heap.objs.size] n P St → St 0 (s.heap.push oI) → (∀ b ∈ fp, b = s.heap.objs.size ∨ ∃ o, g.get? b = some o) → (∀ i h, St i h → ∃ o, h.get? s.heap.objs.size = some o) → Q (.ref s.heap.objs.size) { s with heap := s.heap.push oI }) →
    wpAny (model prog w) A (pyIter v) Q E s
section
variable {prog : Program} {w : World} {A : Around} {E : Value → Shared → Prop} {s : Shared} {g : Heap}
theorem IterOf.imp {v : Value} {n : Nat} {P P' : Nat → Value → Prop} (x : IterOf prog w g v n P) (hP : ∀ i v, i < n → P i v → P' i v) : IterOf prog w g v n P' := fun A s Q E hh hg hQ =>
  x A s Q E hh hg fun oI fp St W st hfp hl => hQ oI fp St { sub := W.sub, frame := W.frame, done := W.done, self := W.self, item := fun i s Q E hi st hQ => W.item i s Q E hi st fun v h' tk hp => hQ v h' tk (hP i v hi hp) } st hfp hl
theorem IterOf.stays {g' : Heap} {v : Value} {n : Nat} {P : Nat → Value → Prop} (x : IterOf prog w g v n P) (k : g.StaysIn g') : IterOf prog w g' v n P := fun A s Q E hh hg hQ =>
  x A s Q E hh (fun b o e => hg b o (k b o e)) fun oI fp St W st hfp hl => hQ oI fp St W st (fun b hb => (hfp b hb).imp id fun ⟨o, e⟩ => ⟨o, k b o e⟩) hl
theorem iter_text (z : Str) (t : Tok) : IterOf prog w g (.str z t) z.cps.toList.length (OneLetter z.cps.toList) := fun A s Q E hh hg hQ => by
  have e : z.cps.toList.length = z.cps.size := Array.length_toList
  have cv : ∀ i (v : Value), (∃ c u, z.cps[i]? = some c ∧ v = Value.str ⟨#[c]⟩ u) → OneLetter z.cps.toList i v := fun i v ⟨c, u, h1, h2⟩ => ⟨c, u, by rw [Array.getElem?_toList]; exact h1, h2⟩
  refine wpAny_pyIter_strU ?_
  rw [e] at hQ
  have conv : ∀ {P : Nat → Value → Prop} {St : Nat → Heap → Prop}, Walks prog w A s.heap.objs.size [s.heap.objs.size] [s.heap.objs.size] z.cps.size P St → (∀ i v, P i v → OneLetter z.cps.toList i v) → Walks prog w A s.heap.objs.size [s.heap.objs.size] [s.heap.objs.size] z.cps.size (OneLetter z.cps.toList) St := fun W hP =>
    { sub := W.sub, frame := W.frame, done := W.done, self := W.self, item := fun i s Q E hi st hQ => W.item i s Q E hi st fun v h' tk hp => hQ v h' tk (hP i v hp) }
  by_cases q : z.cps.all (· < 128) = true
  · exact hQ _ _ _ (conv (Walks.strAscii hh s.heap.objs.size z t) cv) ⟨_, Heap.get?_push_size _ rfl, by simp [strIterType, q], rfl⟩ (fun b hb => .inl (List.mem_singleton.mp hb)) fun i h st => by obtain ⟨o, e, _⟩ := st; exact ⟨o, e⟩
  · exact hQ _ _ _ (conv (Walks.strWide hh s.heap.objs.size z t) cv) ⟨_, Heap.get?_push_size _ rfl, by simp [strIterType, q], rfl⟩ (fun b hb => .inl (List.mem_singleton.mp hb)) fun i h st => by obtain ⟨o, e, _⟩ := st; exact ⟨o, e⟩
theorem iter_list {l : Addr} {items : Array Value} (hl : g.IsList l items) : IterOf prog w g (.ref l) items.size (fun i v => items[i]? = some v) := fun A s Q E hh hg hQ => by
  have hl' : s.heap.IsList l items := let ⟨o, ho, r⟩ := hl; ⟨o, hg _ _ ho, r⟩
  have hlt : l < s.heap.objs.size := by obtain ⟨o, ho, _⟩ := hl'; exact Heap.lt_size ho
  refine wpAny_pyIter_list hl' (hQ _ _ _ (Walks.list hh s.heap.objs.size l (Nat.ne_of_lt hlt) items) ⟨⟨_, Heap.get?_push_size _ rfl, rfl, rfl⟩, let ⟨o, ho, r⟩ := hl'; ⟨o, Heap.get?_push_of_some _ ho, r⟩⟩ (fun b hb => ?_) fun i h st => by obtain ⟨o, e, _⟩ := st.1; exact ⟨o, e⟩)
  simp only [List.mem_cons, List.not_mem_nil, or_false] at hb
  rcases hb with rfl | rfl
  · exact .inl rfl
  · obtain ⟨o, ho, _⟩ := hl; exact .inr ⟨o, ho⟩
theorem iter_dict {d : Addr} {o : Obj} {es : Array DictEntry} {ep : Nat} (ho : g.get? d = some o) (hd : o.data = .dict es ep) (D : DCls (model prog w) g o.cls) (lo : (d == sysModules) = false) : IterOf prog w g (.ref d) es.size (fun i v => ∃ e, es[i]? = some e ∧ v = e.key) := fun A s Q E hh hg hQ => by
  have hlt : d < s.heap.objs.size := Heap.lt_size (hg _ _ ho)
  refine iter_D (hg _ _ ho) hd D hg lo (hQ _ _ _ (walks_keys hh s.heap.objs.size d (Nat.ne_of_lt hlt) es ep) ⟨⟨_, Heap.get?_push_size _ rfl, rfl, rfl⟩, ⟨o, Heap.get?_push_of_some _ (hg _ _ ho), hd⟩⟩ (fun b hb => ?_) fun i h st => by obtain ⟨o, e, _⟩ := st.1; exact ⟨o, e⟩)
  simp only [List.mem_cons, List.not_mem_nil, or_false] at hb
  rcases hb with rfl | rfl
  · exact .inl rfl
  · exact .inr ⟨o, ho⟩
/-- a `for` over what walks -/
theorem for_iter {R : Result → Shared → Prop} {env : Env} {x : Str} {px : Pos} {body : List Stmt} {v : Value} {n : Nat} {P : Nat → Value → Prop} {m₀ : Str → Option Value} {news₀ : List (Addr × Obj)}
    (W : IterOf prog w g v n P) (hh : A.handled = none) (hx : env.kindOf x = some .local) (hp : (env.scope.kind == .class || (env.scope.kind == .module && env.locals != env.globals)) = false)
    (J : Nat → (Str → Option Value) → List (Addr × Obj) → Prop)
    (F₀ : Fr g env.locals s.heap m₀) (N₀ : News g env.locals s.heap news₀) (hJ₀ : J 0 m₀ news₀)
    (turn : ∀ (I : Addr) (oI : Obj) (i : Nat) (u : Value) m news h tk, i < n → P i u → J i m news → (∀ p ∈ news, p.1 ≠ I) → Fr g env.locals h (fun y => if y = x then some u else m y) → News g env.locals h ((I, oI) :: news) →
      wpAny (model prog w) A (execs body env) (fun f s₃ => match f with
        | .next | .cont => ∃ h' tk' m' news', s₃ = { s with heap := h', toks := tk' } ∧ Fr g env.locals h' m' ∧ News g env.locals h' ((I, oI) :: news') ∧ (∀ p ∈ news', p.1 ≠ I) ∧ J (i + 1) m' news'
        | .brk => R (.ok .next) s₃
        | .ret v => R (.ok (.ret v)) s₃) (notedBy (model prog w) A env fun e s' => R (.error e) s') { s with heap := h, toks := tk })
    (done : ∀ m news h tk, J n m news → Fr g env.locals h m → News g env.locals h news → R (.ok .next) { s with heap := h, toks := tk }) :
    wpAny (model prog w) A (pyIter v) (fun it s₂ => codeAny (model prog w) A (.forLoop (.Name x px) it body [] env) R s₂) E s := by
  refine W A s _ E hh F₀.keep fun oI fp St W st hfp hlive => ?_
  have up : ∀ b o, s.heap.get? b = some o → (s.heap.push oI).get? b = some o := fun b o e => Heap.get?_push_of_some _ e
  obtain ⟨oI', hoI'⟩ := hlive _ _ st
  have gI : g.get? s.heap.objs.size = none := next_is_new F₀
  have hIL : s.heap.objs.size ≠ env.locals := Nat.ne_of_gt F₀.ns.lt
  have stay : ∀ i (h h' : Heap) o, St i h → g.StaysIn h → g.StaysIn h' → h.get? s.heap.objs.size = some o → h'.get? s.heap.objs.size = some o → St i h' := fun i h h' o st k k' e e' => W.frame _ _ _ st fun b hb o₂ e₂ => by
    rcases hfp b hb with rfl | ⟨o₃, e₃⟩
    · rw [e] at e₂; cases e₂; exact e'
    · rw [k _ _ e₃] at e₂; cases e₂; exact k' _ _ e₃
  have X : ItX prog w A (.Name x px) g s.heap.objs.size [s.heap.objs.size] (fun i own => ∃ o, own = [(s.heap.objs.size, o)] ∧ ∃ h, g.StaysIn h ∧ h.get? s.heap.objs.size = some o ∧ St i h) n (fun i v fr => P i v ∧ fr = []) := by
    refine ⟨fun i own h => ?_, fun i s' Q E₁ E own hi ho hs hg hQ => ?_, fun s' Q E own ho hs hg hQ => ?_⟩
    · obtain ⟨o, rfl, _⟩ := h; rfl
    · obtain ⟨o, rfl, h, k, e, st⟩ := ho
      have st' := stay _ _ _ _ st k hg e (hs _ (.head _))
      refine W.item i s' _ _ hi st' fun v h' tk hP hst hk => ⟨v, rfl, ?_⟩
      obtain ⟨o', e'⟩ := hlive _ _ hst
      refine wpAny_of_eq (show letOwnedTupleGo (.Name x px) (.ref s.heap.objs.size) v = pure () from rfl) ?_
      refine hQ v [] [(s.heap.objs.size, o')] h' tk ⟨hP, rfl⟩ ⟨o', rfl, h', fun b o₂ e₂ => hk b o₂ (fun hb => by rw [List.mem_singleton.mp hb, gI] at e₂; cases e₂) (hg _ _ e₂), e', hst⟩ (fun p hp => by rw [List.mem_singleton.mp hp]; exact e') (fun p hp => nomatch hp) hk
    · obtain ⟨o, rfl, h, k, e, st⟩ := ho
      exact W.done s' _ _ (stay _ _ _ _ st k hg e (hs _ (.head _))) hQ
  refine loop_itX (s := { s with heap := s.heap.push oI }) (own₀ := [(s.heap.objs.size, oI')]) (news₀ := news₀) X J ⟨oI', rfl, _, fun b o e => up _ _ (F₀.keep _ _ e), hoI', st⟩ (F₀.keeps up) ?_ (fun p hp hb => ?_) hJ₀ (fun i m news h tk v fr own hi hP hO hJ hI hf hfn F N => ?_) done
  · intro p hp
    rcases List.mem_append.mp hp with hp | hp
    · rw [List.mem_singleton.mp hp]; exact ⟨hoI', hIL, gI⟩
    · exact ⟨up _ _ (N₀ p hp).1, (N₀ p hp).2⟩
  · exact Nat.ne_of_lt (Heap.lt_size (N₀ p hp).1) (List.mem_singleton.mp hb)
  · obtain ⟨hP, rfl⟩ := hP
    obtain ⟨o, rfl, _⟩ := hO
    simp only [List.singleton_append, List.nil_append] at N
    have hI' : ∀ p ∈ news, p.1 ≠ s.heap.objs.size := fun p hp e => hI p hp (by rw [e]; exact List.mem_singleton.mpr rfl)
    refine wpAny_assign_Name (wpAny_storeName_local hx F.ns (fun h₂ hn₂ hs₂ => ?_) hp)
    have hL₀ : g.get? env.locals = none := Heap.get?_none_of_le F.above
    have F₂ : Fr g env.locals h₂ (fun z => if z = x then some v else m z) := ⟨hn₂, fun b o e => hs₂.extBut b o (fun q => by rw [q, hL₀] at e; cases e) (F.keep b o e), F.above⟩
    have N₂ : News g env.locals h₂ ((s.heap.objs.size, o) :: news) := fun p hp => ⟨hs₂.extBut _ _ (N p hp).2.1 (N p hp).1, (N p hp).2⟩
    refine wpAny_mono (turn _ o i v m news h₂ _ hi hP hJ hI' F₂ N₂) (fun f s₃ h₃ => ?_) fun _ _ e => e
    cases f with
    | brk => exact h₃
    | ret v => exact h₃
    | next =>
      obtain ⟨h', tk', m', news', rfl, F', N', hI', hJ'⟩ := h₃
      exact ⟨h', tk', m', news', rfl, F', N', fun p hp hb => hI' p hp (List.mem_singleton.mp hb), hJ'⟩
    | cont =>
      obtain ⟨h', tk', m', news', rfl, F', N', hI', hJ'⟩ := h₃
      exact ⟨h', tk', m', news', rfl, F', N', fun p hp hb => hI' p hp (List.mem_singleton.mp hb), hJ'⟩
end
section
variable {prog : Program} {w : World} {K : Type} [DecidableEq K] (kk : KK prog w K)
/-- an object with this content -/
def EO (o : Obj) (xs : Con K) : Prop := ∃ es ep, o.data = .dict es ep ∧ es.toList = xs.map (fun x => (⟨kk.hash x.1, x.2.1, x.2.2⟩ : DictEntry)) ∧ (xs.map (·.1)).Nodup
theorem EO.at {h : Heap} {d : Addr} {o : Obj} {xs : Con K} (x : EO kk o xs) (ho : h.get? d = some o) (hk : ∀ y ∈ xs, kk.is h y.1 y.2.1) : DictIn kk h d xs :=
  let ⟨es, ep, h1, h2, h3⟩ := x; ⟨o, es, ep, ho, h1, h2, hk, h3⟩
theorem EO.of {h : Heap} {d : Addr} {o : Obj} {xs : Con K} (x : DictIn kk h d xs) (ho : h.get? d = some o) : EO kk o xs := by
  obtain ⟨o', es, ep, h1, h2, h3, _, h4⟩ := x
  rw [ho] at h1; cases h1
  exact ⟨es, ep, h2, h3, h4⟩
theorem iter_con {g : Heap} {d : Addr} {o : Obj} {xs : Con K} (ho : g.get? d = some o) (hd : EO kk o xs) (D : DCls (model prog w) g o.cls) (lo : (d == sysModules) = false) : IterOf prog w g (.ref d) xs.length (fun i v => ∃ y, xs[i]? = some y ∧ v = y.2.1) := by
  obtain ⟨es, ep, h1, h2, h3⟩ := hd
  have e : xs.length = es.size := by rw [← Array.length_toList, h2, List.length_map]
  rw [e]
  refine (iter_dict ho h1 D lo).imp fun i v hi ⟨en, he, hv⟩ => ?_
  rw [← Array.getElem?_toList, h2, List.getElem?_map] at he
  cases q : xs[i]? with
  | none => rw [q] at he; cases he
  | some y => rw [q] at he; cases he; exact ⟨y, rfl, hv⟩
end
end Mine
end
-- K6
section
open PySem PySem.W PySem.W.X PyProof.Rows PySem.Calls
set_option maxRecDepth 100000
set_option maxHeartbeats 1000000
namespace Mine
section
variable {prog : Program} {w : World} {K : Type} [DecidableEq K] {kk : KK prog w K} {A : Around} {E : Value → Shared → Prop} {s : Shared} {env : Env}
/-- what a dict comprehension over keys computes, turn by turn, nothing of the heap being changed -/
structure QuietK (prog : Program) (w : World) (A : Around) (env : Env) (scope : Scope) (cl : List (Str × Addr)) (x : Str) (ifs : List Expr) (kx vx : Expr) (g : Heap) (xs : Con K) (p : K → Bool) (FV : K → Value → Prop) (s₁ : Shared) : Prop where
  tests : ∀ C y h tk m₃ E', y ∈ xs → g.StaysIn h → g.get? C = none → h.Ns C m₃ → m₃ x = some y.2.1 →
    wpAny (model prog w) A (forIn ifs true fun c r => if r = true then do let ok ← isTrue c (compEnvC scope cl C env) (eval c (compEnvC scope cl C env)); pure (ForInStep.yield ok) else pure (ForInStep.yield r))
      (fun ok s₄ => ok = p y.1 ∧ Keeps { s₁ with heap := h, toks := tk } s₄) E' { s₁ with heap := h, toks := tk }
  key : ∀ C y h tk m₃ E', y ∈ xs → p y.1 = true → g.StaysIn h → g.get? C = none → h.Ns C m₃ → m₃ x = some y.2.1 →
    wpAny (model prog w) A (eval kx (compEnvC scope cl C env)) (fun key s₄ => key = y.2.1 ∧ Keeps { s₁ with heap := h, toks := tk } s₄) E' { s₁ with heap := h, toks := tk }
  val : ∀ C y h tk m₃ E', y ∈ xs → p y.1 = true → g.StaysIn h → g.get? C = none → h.Ns C m₃ → m₃ x = some y.2.1 →
    wpAny (model prog w) A (eval vx (compEnvC scope cl C env)) (fun v s₄ => FV y.1 v ∧ Keeps { s₁ with heap := h, toks := tk } s₄) E' { s₁ with heap := h, toks := tk }
theorem cPut_new {ys : Con K} {k : K} {key v : Value} (h : k ∉ ys.map (·.1)) : cPut ys k key v = ys ++ [(k, key, v)] := by
  unfold cPut
  rw [if_neg (fun q => h (cAt_some_iff.mp q))]
def keysOf (xs : Con K) : List (K × Value) := xs.map fun y => (y.1, y.2.1)
theorem keysOf_fst (xs : Con K) : xs.map (·.1) = (keysOf xs).map (·.1) := by simp [keysOf]
theorem DictComp_K {kx vx iter : Expr} {x : Str} {px : Pos} {ifs : List Expr} {scope : Scope} {cl : List (Str × Addr)} {pos : Pos} {Q : Value → Shared → Prop}
    (hclos : closureFor scope env = pure cl) (hcell : ∀ y ∈ scope.names, y.2 ≠ .cell) (hkind : scope.kind = .function)
    (hnames : ∀ y ∈ scope.names, y.2 = .local → scope.names.lookup y.1 = some .local) (hx : scope.names.lookup x = some .local)
    (h : wpAny (model prog w) A (eval iter env) (fun xv s₁ => ∃ xs p FV, IterOf prog w s₁.heap xv xs.length (fun i v => ∃ y, xs[i]? = some y ∧ v = y.2.1) ∧ A.handled = none ∧ A.units < 9800 ∧ xs.length ≤ 90000 ∧ (xs.map (·.1)).Nodup ∧ (∀ y ∈ xs, kk.is s₁.heap y.1 y.2.1) ∧
      QuietK prog w A env scope cl x ifs kx vx s₁.heap xs p FV s₁ ∧
      (∀ D o ys h' tk, s₁.heap.StaysIn h' → s₁.heap.objs.size ≤ D → s₁.heap.get? D = none → h'.get? D = some o → o.cls = .type "dict" → EO kk o ys → keysOf ys = keysOf (xs.filter fun y => p y.1) → (∀ y ∈ ys, FV y.1 y.2.2) → Q (.ref D) { s₁ with heap := h', toks := tk })) E s)
    (hs : ∀ x, foldedSetIterable iter env x = pure x := by intro _; rfl) :
    wpAny (model prog w) A (eval (.DictComp kx vx [⟨.Name x px, iter, ifs, 0⟩] scope pos) env) Q E s := by
  rw [arm_eval_DictComp]
  refine wpAny_comprehension_free (use := none) rfl hs hclos hkind hnames (wpAny_mono h (fun xv s₁ h₁ => ?_) fun _ _ e => e)
  obtain ⟨xs, p, FV, W, hh, hu, hsz, hnd, hks, hq, hQ⟩ := h₁
  refine W A s₁ _ E hh (fun _ _ e => e) fun oI fp St W st hfp hlive => ?_
  generalize hI : s₁.heap.objs.size = I at W st hfp hlive
  have hnI : s₁.heap.get? I = none := hI ▸ get_size_none _
  refine wpAny_newObj_type (wpAny_newFunctionEnv hcell (by intro y hy; simp at hy) (fun h₁ hns₁ hsb₁ => ?_) hkind)
  dsimp only at hns₁ hsb₁ ⊢
  have hDs : (s₁.heap.push oI).objs.size = I + 1 := by rw [Heap.size_push, hI]
  generalize hH2 : (s₁.heap.push oI).push { cls := .type "dict", dict := none, data := .dict #[] } = H2 at hns₁ hsb₁ ⊢
  have hC : H2.objs.size = I + 2 := by rw [← hH2, Heap.size_push, hDs]
  rw [hDs]
  rw [hC] at hns₁ hsb₁ ⊢
  have n1 : ∀ b o, s₁.heap.get? b = some o → b ≠ I ∧ b ≠ I + 1 ∧ b ≠ I + 2 := fun b o e => by
    have := Heap.lt_size e
    rw [hI] at this
    exact ⟨Nat.ne_of_lt this, Nat.ne_of_lt (Nat.lt_succ_of_lt this), Nat.ne_of_lt (Nat.lt_succ_of_lt (Nat.lt_succ_of_lt this))⟩
  have old : s₁.heap.StaysIn h₁ := fun b o e => hsb₁.extBut b o (n1 b o e).2.2 (Heap.get?_push_of_some _ (hH2 ▸ Heap.get?_push_of_some _ (Heap.get?_push_of_some _ e)))
  have fresh : ∀ a, I ≤ a → s₁.heap.get? a = none := fun a ha => by
    cases e : s₁.heap.get? a with
    | none => rfl
    | some o' => exact absurd (Heap.lt_size e) (by rw [hI]; exact Nat.not_lt.mpr ha)
  have hIC : I ≠ I + 2 := by omega
  have hDC : I + 1 ≠ I + 2 := by omega
  have hDI : I + 1 ≠ I := by omega
  have hacc : h₁.get? (I + 1) = some { cls := .type "dict", dict := none, data := .dict #[] } := hsb₁.extBut _ _ hDC (Heap.get?_push_of_some _ (by rw [← hH2, ← hDs]; exact Heap.get?_push_size _ rfl))
  have fpn : ∀ b ∈ fp, b ≠ I + 2 ∧ b ≠ I + 1 := fun b hb => by
    rcases hfp b hb with rfl | ⟨o, e⟩
    · exact ⟨hIC, Ne.symm hDI⟩
    · exact ⟨(n1 b o e).2.2, (n1 b o e).2.1⟩
  have hst₁ : St 0 h₁ := W.frame _ _ _ st fun b hb o e => hsb₁.extBut b o (fpn b hb).1 (Heap.get?_push_of_some _ (hH2 ▸ Heap.get?_push_of_some _ e))
  have loop : ∀ tk, codeAny (model prog w) A (.compLoop (.DictComp kx vx [⟨.Name x px, iter, ifs, 0⟩] scope pos) 0 (.ref I) (.ref (I + 1)) (compEnvC scope cl (I + 2) env))
        (compPost (model prog w) A E none Q (.ref (I + 1)) (I + 2)) { s₁ with heap := h₁, toks := tk } := by
    intro tk
    refine codeAny_compLoop_testsD (fun k s' => ∃ i h' tk o ys m', s' = { s₁ with heap := h', toks := tk } ∧ k = xs.length + 1 - i ∧ i ≤ xs.length ∧ St i h' ∧ s₁.heap.StaysIn h' ∧ h'.Ns (I + 2) m' ∧ h'.get? (I + 1) = some o ∧ o.cls = .type "dict" ∧ EO kk o ys ∧
      keysOf ys = keysOf ((xs.take i).filter fun y => p y.1) ∧ ∀ y ∈ ys, FV y.1 y.2.2) ?_ (xs.length + 1) ⟨0, h₁, tk, _, [], _, rfl, rfl, Nat.zero_le _, hst₁, old, hns₁, hacc, rfl, ⟨#[], 0, rfl, rfl, List.nodup_nil⟩, by simp, fun y hy => nomatch hy⟩
    rintro k s' ⟨i, h', tk', o, ys, m', rfl, rfl, hi, hst, kp, hn, ho, hc, hE, hke, hfv⟩
    by_cases hlt : i < xs.length
    · refine W.item i _ _ _ hlt hst fun v h2 tk2 ⟨y, hy, hv⟩ hst2 hk2 => ?_
      subst hv
      have hym : y ∈ xs := List.mem_of_getElem? hy
      have nw : ∀ b, b ≠ I → b ∉ [I] := fun b hb hm => hb (List.mem_singleton.mp hm)
      refine wpAny_assign_Name (wpAny_storeName_local (lookup_relabel_local hx) (hn.at' fun o e => hk2 _ o (nw _ (Ne.symm hIC)) e) (fun h3 hn3 hs3 => ?_) (by simp [compEnvC, relabel, hkind]))
      have kp3 : s₁.heap.StaysIn h3 := fun b o e => hs3.extBut b o (n1 b o e).2.2 (hk2 b o (nw _ (n1 b o e).1) (kp b o e))
      have hst3 : St (i + 1) h3 := W.frame _ _ _ hst2 fun b hb o e => hs3.extBut b o (fpn b hb).1 e
      have ho3 : h3.get? (I + 1) = some o := hs3.extBut _ _ hDC (hk2 _ _ (nw _ hDI) ho)
      have hx3 : ∀ y' ∈ (xs.take i).filter (fun y => p y.1), y'.1 ≠ y.1 := fun y' hy' e => by
        have h1 := (List.mem_filter.mp hy').1
        obtain ⟨j, hj⟩ := List.mem_iff_getElem?.mp h1
        have hji : j < i := by
          have := (List.getElem?_eq_some_iff.mp hj).1
          simp at this; omega
        rw [List.getElem?_take, if_pos hji] at hj
        have e1 : (xs.map (·.1))[j]? = some y.1 := by rw [List.getElem?_map, hj]; exact congrArg some e
        have e2 : (xs.map (·.1))[i]? = some y.1 := by rw [List.getElem?_map, hy]; rfl
        have := (List.getElem?_inj (by have := (List.getElem?_eq_some_iff.mp e1).1; exact this) hnd).mp (e1.trans e2.symm)
        omega
      have htake : (xs.take (i + 1)) = xs.take i ++ [y] := by rw [List.take_add_one, hy]; rfl
      refine wpAny_mono (hq.tests (I + 2) y h3 _ _ _ hym kp3 (fresh _ (by omega)) hn3 (by simp)) (fun ok s4 h4 => ?_) fun _ _ e => e
      obtain ⟨rfl, h4, tk4, rfl, k4⟩ := h4
      have kp4 : s₁.heap.StaysIn h4 := fun b o e => k4 _ _ (kp3 b o e)
      cases hpv : p y.1 with
      | false =>
        simp only [Bool.false_eq_true, if_false]
        refine ⟨_, ?_, i + 1, h4, tk4, o, ys, _, rfl, rfl, hlt, W.frame _ _ _ hst3 fun b _ o e => k4 _ _ e, kp4, hn3.keeps k4, k4 _ _ ho3, hc, hE, ?_, hfv⟩
        · omega
        · rw [htake, List.filter_append]; simpa [hpv] using hke
      | true =>
        simp only [if_true]
        refine wpAny_mono (hq.key (I + 2) y h4 _ _ _ hym hpv kp4 (fresh _ (by omega)) (hn3.keeps k4) (by simp)) (fun key s5 h5 => ?_) fun _ _ e => e
        obtain ⟨rfl, h5, tk5, rfl, k5⟩ := h5
        have kp5 : s₁.heap.StaysIn h5 := fun b o e => k5 _ _ (kp4 b o e)
        refine wpAny_mono (hq.val (I + 2) y h5 _ _ _ hym hpv kp5 (fresh _ (by omega)) ((hn3.keeps k4).keeps k5) (by simp)) (fun v s6 h6 => ?_) fun _ _ e => e
        obtain ⟨hv, h6, tk6, rfl, k6⟩ := h6
        have kp6 : s₁.heap.StaysIn h6 := fun b o e => k6 _ _ (kp5 b o e)
        have ho6 : h6.get? (I + 1) = some o := k6 _ _ (k5 _ _ (k4 _ _ ho3))
        have kis : ∀ z ∈ xs, kk.is h6 z.1 z.2.1 := fun z hz => kk.mono (hks z hz) fun b o _ _ e _ => kp6 b o e
        have ysx : ∀ z ∈ ys, ∃ z' ∈ xs, z'.1 = z.1 ∧ z'.2.1 = z.2.1 := fun z hz => by
          have : (z.1, z.2.1) ∈ keysOf ys := List.mem_map.mpr ⟨z, hz, rfl⟩
          rw [hke] at this
          obtain ⟨z', hz', e⟩ := List.mem_map.mp this
          exact ⟨z', List.mem_of_mem_take (List.mem_filter.mp hz').1, congrArg (·.1) e, congrArg (·.2) e⟩
        have hD : DictIn kk h6 (I + 1) ys := hE.at kk ho6 fun z hz => by
          obtain ⟨z', hz', e1, e2⟩ := ysx z hz
          rw [← e1, ← e2]; exact kis z' hz'
        have hlen : ys.length ≤ xs.length := by
          have : (keysOf ys).length = (keysOf ((xs.take i).filter fun y => p y.1)).length := by rw [hke]
          simp only [keysOf, List.length_map] at this
          rw [this]
          exact Nat.le_trans (List.length_filter_le _ _) (by rw [List.length_take]; exact Nat.min_le_right _ _)
        refine dictSetD (s := { s₁ with heap := h6, toks := tk6 }) hu (kis y hym) hD (by omega) fun h7 tk7 o₁ o' hs7 e1 e2 e3 _ _ hd' => ?_
        rw [ho6] at e1; cases e1
        have hnew : y.1 ∉ ys.map (·.1) := fun hm => by
          rw [keysOf_fst, hke, ← keysOf_fst] at hm
          obtain ⟨z, hz, e⟩ := List.mem_map.mp hm
          exact hx3 z hz e
        rw [cPut_new hnew] at hd'
        refine ⟨_, ?_, i + 1, h7, tk7, o', _, _, rfl, rfl, hlt, ?_, fun b o e => hs7.extBut b o (n1 b o e).2.1 (kp6 b o e), (((hn3.keeps k4).keeps k5).keeps k6).sameBut hs7 (Ne.symm hDC), e2, e3.trans hc, EO.of kk hd' e2, ?_, fun z hz => ?_⟩
        · omega
        · exact W.frame _ _ _ hst3 fun b hb o e => hs7.extBut b o (fpn b hb).2 (k6 _ _ (k5 _ _ (k4 _ _ e)))
        · rw [htake, List.filter_append]
          simp only [keysOf, List.map_append] at hke ⊢
          rw [hke]; simp [hpv]
        · rcases List.mem_append.mp hz with hz | hz
          · exact hfv z hz
          · rw [List.mem_singleton.mp hz]; exact hv
    · have hin : i = xs.length := by omega
      subst hin
      refine W.done _ _ _ hst fun h2 tk2 hk2 => ?_
      have nw : ∀ b, b ≠ I → b ∉ [I] := fun b hb hm => hb (List.mem_singleton.mp hm)
      have hn2 : h2.Ns (I + 2) m' := hn.at' fun o e => hk2 _ o (nw _ (Ne.symm hIC)) e
      refine ⟨m', hn2, fun h'' hs'' => ?_⟩
      rw [List.take_length] at hke
      exact hQ (I + 1) o ys h'' _ (fun b o e => hs''.extBut b o (n1 b o e).2.2 (hk2 b o (nw _ (n1 b o e).1) (kp b o e))) (hI ▸ Nat.le_succ _) (fresh _ (by omega)) (hs''.extBut _ _ hDC (hk2 _ _ (nw _ hDI) ho)) hc hE hke hfv
  exact codeAny_compStart_dict (loop _) (W.self 0 _ _ _ hst₁ (loop _))
end
end Mine
end
-- K7
section
open PySem PySem.W PySem.W.X PyProof.Rows PySem.Calls
set_option maxRecDepth 100000
set_option maxHeartbeats 1000000
namespace Mine
theorem fillK7 : PySem.Challenge.rw_ah5040_01 = PySem.Challenge.rw_ah5040_01 ∧ Mine.hd.heap_39 = Mine.hd.heap_39 := by
  k_fill
  exact ⟨rfl, rfl⟩
local macro_rules | `(tactic| walk_at "my S") => `(tactic| (refine' enterS ?k3 ?k5 ?k6 ?k7 ?k8 ?k9 ?kB ?_ ?c2 ?c3 ?c4 ?c5; (case k3 => k_asm); (case k5 => k_asm); (case k6 => k_is); (case k7 => k_is); (case k8 => k_room); (case k9 => first | exact BindsTo.of_eq rfl | exact binds_K (by k_in) rfl (by k_is) rfl rfl rfl); (case kB => exact locs rfl); (case c5 => decide); (case c2 => exact rfl); (case c3 => exact rfl); (case c4 => exact rfl)))
local macro_rules | `(tactic| walk_at "my V") => `(tactic| (refine wpAny_call ?_; refine' enterV ?k3 ?k5 ?k6 ?k7 ?k8 ?kP ?kG ?kB ?_ ?c2 ?c3 ?c4 ?c5; (case k3 => k_asm); (case k5 => k_asm); (case k6 => k_is); (case k7 => k_is); (case k8 => k_room); (case kP => exact rfl); (case kG => exact fun _ => rfl); (case kB => exact fun _ => locs rfl); (case c5 => decide); (case c2 => exact rfl); (case c3 => exact rfl); (case c4 => exact rfl)))
local macro_rules | `(tactic| k_inst) => `(tactic| (refine' InstAt_of_get ?a ?b; (case a => exact Fr.keep (by k_asm) _ _ (by assumption)); (case b => exact Fr.keep (by k_asm) _ _ (by assumption))))
local macro_rules | `(tactic| walk_at "eval Call Attribute") => `(tactic| (k_here; (with_reducible show wpAny _ _ (eval (Expr.Call (Expr.Attribute _ _ _) [Expr.Starred _ _] [] _) _) _ _ _); refine starMethod ?_))
local macro_rules | `(tactic| walk_at "getAttr ref") => `(tactic| (k_here; k_dflt (refine' attr_sm ?k1 ?k2 ?k4 ?k5 ?k6 ?k7 ?k9 ?k10 ?k11 ?k12 ?k13 ?k14 ?_; (case k1 => k_asm); (case k2 => k_asm); (case k4 => k_inst); (case k5 => k_is); (case k6 => k_is); (case k7 => k_is); (case k9 => k_is); (case k10 => k_is); (case k11 => decide +kernel); (case k12 => k_get); (case k13 => k_is); (case k14 => k_handed); k_whole)))
local macro_rules | `(tactic| walk_at "callWith ref") => `(tactic| (k_here; (with_reducible show wpAny _ _ (callWith _ (Value.ref _) _ (backTo _ (starEach [Expr.Starred _ _] _)) []) _ _ _); k_dflt (refine' callWith_SM ?k1 ?k2 ?k3 ?k4 ?_; (case k1 => k_asm); (case k2 => k_asm); (case k3 => k_mem); (case k4 => k_is); k_whole)))
local macro_rules | `(tactic| walk_at "callWith ref") => `(tactic| (k_here; (with_reducible show wpAny _ _ (callWith _ (Value.ref _) _ (backTo _ (starEach [Expr.Starred _ _] _)) []) _ _ _); k_dflt (refine' callWith_SI ?k1 ?k2 ?k3 ?k4 ?_; (case k1 => k_in); (case k2 => k_inst); (case k3 => rfl); (case k4 => k_is); k_whole)))
local macro_rules | `(tactic| walk_at "my drop") => `(tactic| (repeat (first | ((rename News _ _ _ _ => Nx); clear Nx) | ((rename Fr _ _ _ _ => Fx); clear Fx))))
local macro_rules | `(tactic| walk_at "my stops") => `(tactic| ((fail_if_success (with_reducible show wpAny _ _ (call (Value.builtin "all") _) _ _ _)); (fail_if_success (with_reducible show wpAny _ _ (call (Value.builtin "max") _) _ _ _)); (fail_if_success (with_reducible show wpAny _ _ (call (Value.ref _) _) _ _ _)); (fail_if_success (with_reducible show wpAny _ _ (call (Value.type "map") _) _ _ _)); (fail_if_success (with_reducible show wpAny _ _ (exec (PySem.Stmt.For _ _ _ _ _) _) _ _ _)); (fail_if_success (with_reducible show wpAny _ _ (setItem _ _ _) _ _ _)); (fail_if_success (with_reducible show wpAny _ _ (subscriptTail _ _ _ _) _ _ _)); (fail_if_success (with_reducible show wpAny _ _ (call (Value.builtin "isinstance") _) _ _ _)); (fail_if_success (with_reducible show wpAny _ _ (call (Value.builtin "dict.__init__") _) _ _ _)); (fail_if_success (with_reducible show wpAny _ _ (getMethod (Value.type "dict") _ _) _ _ _)); (fail_if_success (with_reducible show wpAny _ _ (getMethod (Value.ref _) _ _) _ _ _)); (fail_if_success (with_reducible show wpAny _ _ (call (Value.builtin "dict.get") _) _ _ _)); (fail_if_success (with_reducible show Exists _))))
local macro_rules | `(tactic| walk_at "my walk") => `(tactic| (repeat' (walk_at "my stops"; first | (k_unfold; (try dsimp only)) | walk1 | (dsimp only; first | walk1 | (k_unfold; try dsimp only)) | (leave1; walk_say "STEP leave1"; try dsimp only))))
section
variable {w : World} {s : Shared} {p : Program} {loose : List Str} {mg mb : Str → Option Value} {base : Heap} {outer : List Env} {gd : Option (List Code)} {A₀ : Around} {Q E : Value → Shared → Prop}

theorem Fr.down {h₀ g h : Heap} {L : Addr} {m : Str → Option Value} (F : Fr g L h m) (k : h₀.StaysIn g) (hz : h₀.objs.size ≤ g.objs.size) : Fr h₀ L h m :=
  ⟨F.ns, fun b o e => F.keep b o (k b o e), Nat.le_trans hz F.above⟩
theorem ctr_cls {M : Model} {h : Heap} (X : (Mine.hd.heap_39 w.params).In h) : DCls M h (.ref 79) :=
  dcls_K X (by k_is) (by k_is) (by k_is) (by k_is) (by k_is) (by k_is) (by k_is)
theorem ctr_makes {M : Model} {h : Heap} (X : (Mine.hd.heap_39 w.params).In h) : MakesD M h 79 := makesD_of X (by first | rfl | kernel_rfl)
theorem ctr_get {prog : Program} {A : Around} {h : Heap} {x dx : Addr} {ox : Obj} {pl : Sem Bool} {Q : Value × List Value → Shared → Prop} (X : (Mine.hd.heap_39 w.params).In h) (k : h.StaysIn s.heap) (hx : s.heap.get? x = some ox) (hc : ox.cls = .ref 79) (hd : ox.dict = some dx) (hn : notCls ox = true) (hdx : s.heap.get? dx = some emptyDict) (hQ : Q (.builtin "dict.get", [.ref x]) s) :
    wpAny (model prog w) A (getMethod (.ref x) (Str.ofString "get") pl) Q E s :=
  method_D (X.keeps k) (od := some emptyDict) ⟨hx, hc, hn, by rw [hd]; exact hdx⟩ (by k_is) (by k_is) (by k_is) (Looks.of_pure PySem.F.type_dict_get) (by decide) (by rfl) hQ
theorem ctr_values {prog : Program} {A : Around} {h : Heap} {x dx : Addr} {ox : Obj} {pl : Sem Bool} {Q : Value × List Value → Shared → Prop} (X : (Mine.hd.heap_39 w.params).In h) (k : h.StaysIn s.heap) (hx : s.heap.get? x = some ox) (hc : ox.cls = .ref 79) (hd : ox.dict = some dx) (hn : notCls ox = true) (hdx : s.heap.get? dx = some emptyDict) (hQ : Q (.builtin "dict.values", [.ref x]) s) :
    wpAny (model prog w) A (getMethod (.ref x) (Str.ofString "values") pl) Q E s :=
  method_D (X.keeps k) (od := some emptyDict) ⟨hx, hc, hn, by rw [hd]; exact hdx⟩ (by k_is) (by k_is) (by k_is) (Looks.of_pure PySem.F.type_dict_values) (by decide) (by rfl) hQ
theorem ctr_copy {prog : Program} {A : Around} {h : Heap} {x dx : Addr} {ox : Obj} {pl : Sem Bool} {Q : Value × List Value → Shared → Prop} (X : (Mine.hd.heap_39 w.params).In h) (k : h.StaysIn s.heap) (hx : s.heap.get? x = some ox) (hc : ox.cls = .ref 79) (hd : ox.dict = some dx) (hn : notCls ox = true) (hdx : s.heap.get? dx = some emptyDict) (hQ : Q (.ref 49, [.ref x]) s) :
    wpAny (model prog w) A (getMethod (.ref x) (Str.ofString "copy") pl) Q E s :=
  method_D (T := "function") (X.keeps k) (od := some emptyDict) ⟨hx, hc, hn, by rw [hd]; exact hdx⟩ (by k_is) (by k_is) (by k_is) (looks_typeIn (X.keeps k) (by k_is)) (by decide) (by rfl) hQ
theorem dict_init {prog : Program} {A : Around} {h : Heap} {x : Addr} {o : Obj} {Q : Value → Shared → Prop} (ho : s.heap.get? x = some o) (D : DCls (model prog w) h o.cls) (k : h.StaysIn s.heap) (hQ : Q .none s) :
    wpAny (model prog w) A (call (.builtin "dict.__init__") [.ref x]) Q E s := by
  refine call_D ho k D.sub PySem.F.entry_dict_init (n := "__init__") (by decide +kernel) (by first | exact .inl (by decide +kernel) | exact .inr (by decide +kernel)) PySem.F.slot_dict_init.plain (PySem.F.args_dict_init_1 _) ?_
  show wpAny _ _ (Builtin.Dict.selfAndRest "__init__" ⟨[.ref x], []⟩ >>= _) _ _ s
  refine wpAny_bind ?_
  unfold Builtin.Dict.selfAndRest
  refine wpAny_bind (notOrd_D ho k D.ord ?_)
  show wpAny _ _ (pure (x, ([] : List Value))) _ _ s
  refine wpAny_pure ?_
  show wpAny _ _ (ret .none) _ _ s
  exact wpAny_pure ⟨_, rfl, hQ⟩
/-- `isinstance(v, dict)` -/
def IsD (prog : Program) (w : World) (g : Heap) (v : Value) (b : Bool) : Prop := ∀ (A : Around) (E Q : Value → Shared → Prop) (s : Shared), g.StaysIn s.heap → (∀ tk', Q (.bool b) { s with toks := tk' }) → wpAny (model prog w) A (call (.builtin "isinstance") [v, .type "dict"]) Q E s
theorem isD_of {prog : Program} {K : Frag} {g : Heap} {x t : Value} {H : Heap → Prop} {b : Bool} (Z : KitX K x t H) (X : K.In g) (hH : ∀ h, g.StaysIn h → H h) (e : kitOne K t (.type "dict") = some b) (hx : x ≠ .builtin "__main__.__loader__#opaque") : IsD prog w g x b := fun A E Q s k h =>
  kia_one Z (X.keeps k) (hH _ k) e hx fun tk => h tk
/-- a content that counts -/
def CntOf {K : Type} [DecidableEq K] (xs : Con K) (f : K → Nat) : Prop := ∀ k, (f k = 0 → cAt xs k = none) ∧ (0 < f k → ∃ t, cAt xs k = some (.int (f k : Nat) t))
theorem CntOf.nil {K : Type} [DecidableEq K] : CntOf ([] : Con K) (fun _ => 0) := fun k => ⟨fun _ => rfl, fun h => absurd h (Nat.lt_irrefl 0)⟩
theorem CntOf.put {K : Type} [DecidableEq K] {xs : Con K} {f f' : K → Nat} {k : K} {key : Value} {t : Tok} (h : CntOf xs f) (hk : f' k = f k + 1) (hk' : ∀ k', k' ≠ k → f' k' = f k') : CntOf (cPut xs k key (.int ((f k : Nat) + 1) t)) f' := fun k' => by
  rw [cPut_at]
  by_cases e : k' = k
  · subst e
    rw [if_pos rfl, hk]
    exact ⟨fun h => absurd h (Nat.succ_ne_zero _), fun _ => ⟨t, by congr 2⟩⟩
  · rw [if_neg e, hk' _ e]; exact h k'
/-- where a Counter's keys come from -/
inductive CSrc (prog : Program) (w : World) {K : Type} [DecidableEq K] (kk : KK prog w K) (g : Heap) (v : Value) (R : Con K → Prop) : Prop
  | keys (ks : List K) (KP : K → Value → Prop) (it : IterOf prog w g v ks.length (fun i u => ∃ k, ks[i]? = some k ∧ kk.is g k u ∧ KP k u)) (is : IsD prog w g v false) (hn : ks.length ≤ 1000) (hR : ∀ xs, xs.length ≤ ks.length → (∀ y ∈ xs, kk.is g y.1 y.2.1 ∧ KP y.1 y.2.1) → CntOf xs (fun k => ks.count k) → R xs)
  | copy (d : Addr) (o : Obj) (ys : Con K) (hv : v = .ref d) (ho : g.get? d = some o) (hE : EO kk o ys) (D : DCls (model prog w) g o.cls) (lo : (d == sysModules) = false) (is : IsD prog w g v true) (hk : ∀ y ∈ ys, kk.is g y.1 y.2.1) (hn : ys.length ≤ 1000) (hR : R ys)
theorem initC {K : Type} [DecidableEq K] {kk : KK PySem.Challenge.rw_ah5040_01.prog w K} {g : Heap} {x dx : Addr} {v : Value} {R : Con K → Prop} {RR : Result → Shared → Prop}
    (X : (Mine.hd.heap_39 w.params).In g) (T : TopRead p loose mg mb g) (hg : g.StaysIn s.heap) (hz : g.objs.size ≤ s.heap.objs.size) (hx : s.heap.get? x = some (ctrO 79 dx)) (hdx : s.heap.get? dx = some emptyDict) (hxd : x ≠ dx) (gx : g.get? x = none) (gdx : g.get? dx = none) (lo : (x == sysModules) = false)
    (S : CSrc _ w kk g v R)
    (h : ∀ h' tk' o xs, g.StaysIn h' → h'.get? x = some o → o.cls = .ref 79 → o.dict = some dx → o.slots = #[] → h'.get? dx = some emptyDict → EO kk o xs → R xs → RR (.ok (.ret .none)) { s with heap := h', toks := tk' }) :
    codeAny (model PySem.Challenge.rw_ah5040_01.prog w) (QD 70 outer gd) (.call (.ref 42) ⟨[.ref x, v], []⟩) RR s := by
  have X0 := X.keeps hg
  have T0 := T.keeps hg
  walk_at "my S"
  intro L' h' F' N'
  (try dsimp only); (show wpAny _ _ _ _ _ _); k_fold
  walk_at "my walk"
  refine method_type (K := Mine.hd.heap_39 w.params) (T := "dict") (v := .builtin "dict.__init__") F' X0 (by first | rfl | kernel_rfl) (by decide +kernel) (by first | rfl | kernel_rfl) (by decide +kernel) ?_
  dsimp only
  walk_at "my walk"
  refine dict_init (F'.keep _ _ hx) (ctr_cls X0) F'.keep ?_
  (try dsimp only)
  walk_at "my walk"
  have F1 := Fr.down F' hg hz
  have hm0 : ∃ m0 : Str → Option Value, (fun y => List.lookup y (List.filterMap (fun n => ([(Str.ofString "self", Value.ref x), (Str.ofString "items", v)].lookup n).map fun v => (n, v)) [Str.ofString "self", Str.ofString "items"]).reverse) = m0 := ⟨_, rfl⟩
  replace F1 : Fr g L' h' (fun y => [(Str.ofString "items", v), (Str.ofString "self", Value.ref x)].lookup y) := F1
  have N1 : News g L' h' [(x, ctrO 79 dx), (dx, emptyDict)] := by
    intro p hp
    have hL : ∀ b o, s.heap.get? b = some o → b ≠ L' := fun b o e q => by
      have := Heap.get?_none_of_le F'.above
      rw [← q, e] at this; cases this
    simp only [List.mem_cons, List.not_mem_nil, or_false] at hp
    rcases hp with rfl | rfl
    · exact ⟨F'.keep _ _ hx, hL _ _ hx, gx⟩
    · exact ⟨F'.keep _ _ hdx, hL _ _ hdx, gdx⟩
  clear F' N' hm0
  have hfr : ∀ (m : Str → Option Value) (u : Value), (∀ y, y ≠ Str.ofString "key" → m y = [(Str.ofString "items", v), (Str.ofString "self", Value.ref x)].lookup y) →
      (fun y => if y = Str.ofString "key" then some u else m y) = (fun y => if y = Str.ofString "key" then some u else [(Str.ofString "items", v), (Str.ofString "self", Value.ref x)].lookup y) := fun m u hm => funext fun y => by
    by_cases e : y = Str.ofString "key"
    · rw [if_pos e, if_pos e]
    · rw [if_neg e, if_neg e, hm y e]
  cases S with
  | keys ks KP it is hn hR =>
    refine is _ _ _ _ F1.keep fun tk1 => ?_
    walk_at "my walk"
    refine wpAny_For ?_
    walk_at "my walk"
    refine for_iter (x := Str.ofString "key") (P := fun i u => ∃ k, ks[i]? = some k ∧ kk.is g k u ∧ KP k u) it rfl rfl rfl (fun i m news => (∀ y, y ≠ Str.ofString "key" → m y = [(Str.ofString "items", v), (Str.ofString "self", Value.ref x)].lookup y) ∧ ∃ o xs, news = [(x, o), (dx, emptyDict)] ∧ o.cls = .ref 79 ∧ o.dict = some dx ∧ o.slots = #[] ∧ EO kk o xs ∧ xs.length ≤ i ∧ (∀ y ∈ xs, kk.is g y.1 y.2.1 ∧ KP y.1 y.2.1) ∧ CntOf xs (fun k => (ks.take i).count k))
      F1 N1 ⟨fun _ _ => rfl, _, [], rfl, rfl, rfl, rfl, ⟨#[], 0, rfl, rfl, List.nodup_nil⟩, Nat.le_refl _, (fun y hy => nomatch hy), CntOf.nil⟩ ?_ ?_
    · rintro I oI i u m news h2 tk2 hi ⟨k, hk, hku, hkp⟩ ⟨hm, o, xs, rfl, hc, hd, hsl, hE, hlen, hkeys, hcnt⟩ hI F2 N2
      rw [hfr m u hm] at F2
      replace F2 : Fr g L' h2 (fun y => if y = Str.ofString "key" then some u else [(Str.ofString "items", v), (Str.ofString "self", Value.ref x)].lookup y) := F2
      replace N2 : News g L' h2 [(I, oI), (x, o), (dx, emptyDict)] := N2
      have hnc : notCls o = true := by obtain ⟨es, ep, e, _⟩ := hE; unfold notCls; rw [e]
      have DC : DCls (model PySem.Challenge.rw_ah5040_01.prog w) g o.cls := hc ▸ ctr_cls X
      dsimp only
      walk_at "my walk"
      refine ctr_get X F2.keep (N2 _ (.tail _ (.head _))).1 hc hd hnc (N2 _ (.tail _ (.tail _ (.head _)))).1 ?_
      dsimp only
      walk_at "my walk"
      rename Fr _ _ _ _ => F3
      rename News _ _ _ _ => N3
      refine dictGetDefault (kk := kk) (k := k) (Nat.le_of_ble_eq_true rfl) (N3 _ (.tail _ (.head _))).1 DC F3.keep lo (kk.mono hku fun b o _ _ e _ => F3.keep b o e) (hE.at kk (N3 _ (.tail _ (.head _))).1 fun y hy => kk.mono (hkeys y hy).1 fun b o _ _ e _ => F3.keep b o e) fun tk4 => ?_
      have hval : ∀ t0 : Tok, ∃ t, (cAt xs k).getD (.int 0 t0) = .int (((ks.take i).count k : Nat) : Int) t := fun t0 => by
        rcases Nat.eq_zero_or_pos ((ks.take i).count k) with c | c
        · rw [(hcnt k).1 c, c]; exact ⟨t0, rfl⟩
        · obtain ⟨t, e⟩ := (hcnt k).2 c
          rw [e]; exact ⟨t, rfl⟩
      generalize hr : (cAt xs k).getD _ = r
      obtain ⟨t5, rfl⟩ : ∃ t, r = .int (((ks.take i).count k : Nat) : Int) t := by rw [← hr]; exact hval _
      clear hr hval
      dsimp only
      walk_at "my walk"
      refine setItemK (kk := kk) (k := k) (xs := xs) (Nat.le_of_ble_eq_true rfl) (N3 _ (.tail _ (.head _))).1 DC F3.keep (kk.mono hku fun b o _ _ e _ => F3.keep b o e) (hE.at kk (N3 _ (.tail _ (.head _))).1 fun y hy => kk.mono (hkeys y hy).1 fun b o _ _ e _ => F3.keep b o e) (by omega) fun h6 tk6 o6 hs6 ho6 hc6 hd6 hsl6 hD6 => ?_
      have F6 := F3.change hs6 (N3 _ (.tail _ (.head _))).2.1 gx
      have N6 : News g L' h6 [(I, oI), (x, o6), (dx, emptyDict)] := fun p hp => by
        have q := N3 p
        simp only [List.mem_cons, List.not_mem_nil, or_false] at hp q
        have hxI : x ≠ I := hI (x, o) (.head _)
        rcases hp with rfl | rfl | rfl
        · exact ⟨hs6.extBut _ _ (Ne.symm hxI) (q (.inl rfl)).1, (q (.inl rfl)).2⟩
        · exact ⟨ho6, (N3 _ (.tail _ (.head _))).2⟩
        · exact ⟨hs6.extBut _ _ (Ne.symm hxd) (q (.inr (.inr rfl))).1, (q (.inr (.inr rfl))).2⟩
      clear F3 N3
      dsimp only
      walk_at "my walk"
      refine ⟨h6, _, _, _, rfl, F6, N6, fun p hp => ?_, fun y hy => by rw [if_neg hy], o6, _, rfl, hc6.trans hc, hd6.trans hd, hsl6.trans hsl, EO.of kk hD6 ho6, Nat.le_trans (cPut_len _ _ _ _) (Nat.succ_le_succ hlen), fun y hy => ?_, hcnt.put (k := k) ?_ fun k' hk' => ?_⟩
      · simp only [List.mem_cons, List.not_mem_nil, or_false] at hp
        rcases hp with rfl | rfl
        · exact hI (x, o) (.head _)
        · exact hI (dx, emptyDict) (.tail _ (.head _))
      · rcases cPut_mem hy with ⟨z, hz, e1, e2, _⟩ | rfl
        · rw [← e1, ← e2]; exact hkeys z hz
        · exact ⟨hku, hkp⟩
      · rw [List.take_add_one, hk, List.count_append]; simp
      · rw [List.take_add_one, hk, List.count_append]; simp [Ne.symm hk']
    · rintro m news h2 tk2 ⟨hm, o, xs, rfl, hc, hd, hsl, hE, hlen, hkeys, hcnt⟩ F2 N2
      rw [List.take_length] at hcnt
      replace F2 : Fr g L' h2 m := F2
      dsimp only
      walk_at "my walk"
      exact h _ _ o xs F2.keep (N2 _ (.head _)).1 hc hd hsl (N2 _ (.tail _ (.head _))).1 hE (hR xs hlen hkeys hcnt)
  | copy d od ys hv ho hE0 D lo' is hk hn hR =>
    subst hv
    refine is _ _ _ _ F1.keep fun tk1 => ?_
    walk_at "my walk"
    refine wpAny_For ?_
    walk_at "my walk"
    refine for_iter (x := Str.ofString "key") (iter_con kk ho hE0 D lo') rfl rfl rfl (fun i m news => (∀ y, y ≠ Str.ofString "key" → m y = [(Str.ofString "items", Value.ref d), (Str.ofString "self", Value.ref x)].lookup y) ∧ ∃ o, news = [(x, o), (dx, emptyDict)] ∧ o.cls = .ref 79 ∧ o.dict = some dx ∧ o.slots = #[] ∧ EO kk o (ys.take i))
      F1 N1 ⟨fun _ _ => rfl, _, rfl, rfl, rfl, rfl, ⟨#[], 0, rfl, rfl, List.nodup_nil⟩⟩ ?_ ?_
    · rintro I oI i u m news h2 tk2 hi ⟨y, hy, rfl⟩ ⟨hm, o, rfl, hc, hd, hsl, hE⟩ hI F2 N2
      rw [hfr m y.2.1 hm] at F2
      replace F2 : Fr g L' h2 (fun z => if z = Str.ofString "key" then some y.2.1 else [(Str.ofString "items", .ref d), (Str.ofString "self", Value.ref x)].lookup z) := F2
      replace N2 : News g L' h2 [(I, oI), (x, o), (dx, emptyDict)] := N2
      have hnc : notCls o = true := by obtain ⟨es, ep, e, _⟩ := hE; unfold notCls; rw [e]
      have DC : DCls (model PySem.Challenge.rw_ah5040_01.prog w) g o.cls := hc ▸ ctr_cls X
      have hym : y ∈ ys := List.mem_of_getElem? hy
      have hnd : (ys.map (·.1)).Nodup := let ⟨_, _, _, _, n⟩ := hE0; n
      dsimp only
      walk_at "my walk"
      rename Fr _ _ _ _ => F3
      rename News _ _ _ _ => N3
      have up : ∀ {h'' : Heap}, g.StaysIn h'' → ∀ z ∈ ys, kk.is h'' z.1 z.2.1 := fun st z hz => kk.mono (hk z hz) fun b o _ _ e _ => st b o e
      refine subTailK (kk := kk) (k := y.1) (Nat.le_of_ble_eq_true rfl) (F3.keep _ _ ho) D F3.keep (up F3.keep y hym) (hE0.at kk (F3.keep _ _ ho) (up F3.keep)) (cAt_of_get hnd (j := i) (p := y.2) hy) fun tk4 => ?_
      dsimp only
      walk_at "my walk"
      refine setItemK (kk := kk) (k := y.1) (xs := ys.take i) (Nat.le_of_ble_eq_true rfl) (N3 _ (.tail _ (.head _))).1 DC F3.keep (up F3.keep y hym) (hE.at kk (N3 _ (.tail _ (.head _))).1 fun z hz => up F3.keep z (List.mem_of_mem_take hz)) (by rw [List.length_take]; omega) fun h6 tk6 o6 hs6 ho6 hc6 hd6 hsl6 hD6 => ?_
      have F6 := F3.change hs6 (N3 _ (.tail _ (.head _))).2.1 gx
      have N6 : News g L' h6 [(I, oI), (x, o6), (dx, emptyDict)] := fun p hp => by
        have q := N3 p
        simp only [List.mem_cons, List.not_mem_nil, or_false] at hp q
        have hxI : x ≠ I := hI (x, o) (.head _)
        rcases hp with rfl | rfl | rfl
        · exact ⟨hs6.extBut _ _ (Ne.symm hxI) (q (.inl rfl)).1, (q (.inl rfl)).2⟩
        · exact ⟨ho6, (N3 _ (.tail _ (.head _))).2⟩
        · exact ⟨hs6.extBut _ _ (Ne.symm hxd) (q (.inr (.inr rfl))).1, (q (.inr (.inr rfl))).2⟩
      clear F3 N3
      dsimp only
      walk_at "my walk"
      have hnew : y.1 ∉ (ys.take i).map (·.1) := fun hm' => by
        obtain ⟨z, hz, e⟩ := List.mem_map.mp hm'
        obtain ⟨j, hj⟩ := List.mem_iff_getElem?.mp hz
        have hji : j < i := by
          have := (List.getElem?_eq_some_iff.mp hj).1
          simp at this; omega
        rw [List.getElem?_take, if_pos hji] at hj
        have e1 : (ys.map (·.1))[j]? = some y.1 := by rw [List.getElem?_map, hj]; exact congrArg some e
        have e2 : (ys.map (·.1))[i]? = some y.1 := by rw [List.getElem?_map, hy]; rfl
        have := (List.getElem?_inj (by have := (List.getElem?_eq_some_iff.mp e1).1; exact this) hnd).mp (e1.trans e2.symm)
        omega
      rw [cPut_new hnew] at hD6
      have hE6 := EO.of kk hD6 ho6
      refine ⟨h6, _, _, _, rfl, F6, N6, fun p hp => ?_, fun z hz => by rw [if_neg hz], o6, rfl, hc6.trans hc, hd6.trans hd, hsl6.trans hsl, ?_⟩
      · simp only [List.mem_cons, List.not_mem_nil, or_false] at hp
        rcases hp with rfl | rfl
        · exact hI (x, o) (.head _)
        · exact hI (dx, emptyDict) (.tail _ (.head _))
      · rw [List.take_add_one, hy]; exact hE6
    · rintro m news h2 tk2 ⟨hm, o, rfl, hc, hd, hsl, hE⟩ F2 N2
      rw [List.take_length] at hE
      replace F2 : Fr g L' h2 m := F2
      dsimp only
      walk_at "my walk"
      exact h _ _ o ys F2.keep (N2 _ (.head _)).1 hc hd hsl (N2 _ (.tail _ (.head _))).1 hE hR
theorem makeC {K : Type} [DecidableEq K] {kk : KK PySem.Challenge.rw_ah5040_01.prog w K} {v : Value} {R : Con K → Prop}
    (X : (Mine.hd.heap_39 w.params).In s.heap) (T : TopRead p loose mg mb s.heap) (S : CSrc _ w kk s.heap v R)
    (h : ∀ x dx o xs h' tk', s.heap.StaysIn h' → s.heap.get? x = none → s.heap.get? dx = none → x ≠ dx → (x == sysModules) = false → h'.get? x = some o → o.cls = .ref 79 → o.dict = some dx → o.slots = #[] → h'.get? dx = some emptyDict → EO kk o xs → R xs → Q (.ref x) { s with heap := h', toks := tk' }) :
    wpAny (model PySem.Challenge.rw_ah5040_01.prog w) (QD 60 outer gd) (call (.ref 79) [v]) Q E s := by
  refine wpAny_call ?_
  obtain ⟨hh, gg, dd, tt, os⟩ := s
  dsimp only at X T S h
  have hlo : ((hh.objs.size + 1) == sysModules) = false := by
    have := modules_low T.nolimit
    exact beq_eq_false_iff_ne.mpr (Nat.ne_of_gt (Nat.lt_succ_of_lt this))
  refine make_D (ctr_makes X) (looks_findIn X (by k_is)) (fun self => bind_fn X self (by k_is)) ?_
  have e1 : ((hh.push emptyDict).push (ctrO 79 hh.objs.size)).get? (hh.objs.size + 1) = some (ctrO 79 hh.objs.size) := by heap_get
  have e2 : ((hh.push emptyDict).push (ctrO 79 hh.objs.size)).get? hh.objs.size = some emptyDict := by heap_get
  refine codeAny_le (initC (x := hh.objs.size + 1) (dx := hh.objs.size) (v := v) X T (fun b o e => Heap.get?_push_of_some _ (Heap.get?_push_of_some _ e)) ?_ e1 e2 (Nat.succ_ne_self _) ?_ (get_size_none _) hlo S fun h' tk' o xs st a1 a2 a3 a4 a5 a6 a7 => ?_) (Nat.le_of_ble_eq_true rfl) (Nat.le_of_ble_eq_true rfl)
  · rw [Heap.size_push, Heap.size_push]; exact Nat.le_succ_of_le (Nat.le_succ _)
  · exact Heap.get?_none_of_le (Nat.le_succ _)
  · exact ⟨rfl, h _ _ o xs h' tk' st (Heap.get?_none_of_le (Nat.le_succ _)) (get_size_none _) (Nat.succ_ne_self _) hlo a1 a2 a3 a4 a5 a6 a7⟩
end
end Mine
end
-- K8
section
open PySem PySem.W PySem.W.X PyProof.Rows PySem.Calls
set_option maxRecDepth 100000
set_option maxHeartbeats 1000000
namespace Mine
theorem fillK8 : PySem.Challenge.rw_ah5040_01 = PySem.Challenge.rw_ah5040_01 ∧ Mine.hd.heap_39 = Mine.hd.heap_39 := by
  k_fill
  exact ⟨rfl, rfl⟩
local macro_rules | `(tactic| walk_at "my S") => `(tactic| (refine wpAny_call ?_; refine' enterS ?k3 ?k5 ?k6 ?k7 ?k8 ?k9 ?kB ?_ ?c2 ?c3 ?c4 ?c5; (case k3 => k_asm); (case k5 => k_asm); (case k6 => k_is); (case k7 => k_is); (case k8 => k_room); (case k9 => first | exact BindsTo.of_eq rfl | exact binds_K (by k_in) rfl (by k_is) rfl rfl rfl); (case kB => exact locs rfl); (case c5 => decide); (case c2 => exact rfl); (case c3 => exact rfl); (case c4 => exact rfl)))
local macro_rules | `(tactic| walk_at "my V") => `(tactic| (refine wpAny_call ?_; refine' enterV ?k3 ?k5 ?k6 ?k7 ?k8 ?kP ?kG ?kB ?_ ?c2 ?c3 ?c4 ?c5; (case k3 => k_asm); (case k5 => k_asm); (case k6 => k_is); (case k7 => k_is); (case k8 => k_room); (case kP => exact rfl); (case kG => exact fun _ => rfl); (case kB => exact fun _ => locs rfl); (case c5 => decide); (case c2 => exact rfl); (case c3 => exact rfl); (case c4 => exact rfl)))
local macro_rules | `(tactic| k_inst) => `(tactic| (refine' InstAt_of_get ?a ?b; (case a => exact Fr.keep (by k_asm) _ _ (by assumption)); (case b => exact Fr.keep (by k_asm) _ _ (by assumption))))
local macro_rules | `(tactic| walk_at "eval Call Attribute") => `(tactic| (k_here; (with_reducible show wpAny _ _ (eval (Expr.Call (Expr.Attribute _ _ _) [Expr.Starred _ _] [] _) _) _ _ _); refine starMethod ?_))
local macro_rules | `(tactic| walk_at "getAttr ref") => `(tactic| (k_here; k_dflt (refine' attr_sm ?k1 ?k2 ?k4 ?k5 ?k6 ?k7 ?k9 ?k10 ?k11 ?k12 ?k13 ?k14 ?_; (case k1 => k_asm); (case k2 => k_asm); (case k4 => k_inst); (case k5 => k_is); (case k6 => k_is); (case k7 => k_is); (case k9 => k_is); (case k10 => k_is); (case k11 => decide +kernel); (case k12 => k_get); (case k13 => k_is); (case k14 => k_handed); k_whole)))
local macro_rules | `(tactic| walk_at "callWith ref") => `(tactic| (k_here; (with_reducible show wpAny _ _ (callWith _ (Value.ref _) _ (backTo _ (starEach [Expr.Starred _ _] _)) []) _ _ _); k_dflt (refine' callWith_SM ?k1 ?k2 ?k3 ?k4 ?_; (case k1 => k_asm); (case k2 => k_asm); (case k3 => k_mem); (case k4 => k_is); k_whole)))
local macro_rules | `(tactic| walk_at "callWith ref") => `(tactic| (k_here; (with_reducible show wpAny _ _ (callWith _ (Value.ref _) _ (backTo _ (starEach [Expr.Starred _ _] _)) []) _ _ _); k_dflt (refine' callWith_SI ?k1 ?k2 ?k3 ?k4 ?_; (case k1 => k_in); (case k2 => k_inst); (case k3 => rfl); (case k4 => k_is); k_whole)))
local macro_rules | `(tactic| walk_at "my drop") => `(tactic| (repeat (first | ((rename News _ _ _ _ => Nx); clear Nx) | ((rename Fr _ _ _ _ => Fx); clear Fx))))
local macro_rules | `(tactic| walk_at "my stops") => `(tactic| ((fail_if_success (with_reducible show wpAny _ _ (call (Value.builtin "all") _) _ _ _)); (fail_if_success (with_reducible show wpAny _ _ (call (Value.builtin "max") _) _ _ _)); (fail_if_success (with_reducible show wpAny _ _ (call (Value.ref _) _) _ _ _)); (fail_if_success (with_reducible show wpAny _ _ (call (Value.type "map") _) _ _ _)); (fail_if_success (with_reducible show wpAny _ _ (exec (PySem.Stmt.For _ _ _ _ _) _) _ _ _)); (fail_if_success (with_reducible show wpAny _ _ (setItem _ _ _) _ _ _)); (fail_if_success (with_reducible show wpAny _ _ (subscriptTail _ _ _ _) _ _ _)); (fail_if_success (with_reducible show wpAny _ _ (getMethod (Value.ref _) _ _) _ _ _)); (fail_if_success (with_reducible show wpAny _ _ (call (Value.builtin "dict.get") _) _ _ _)); (fail_if_success (with_reducible show wpAny _ _ (call (Value.builtin "dict.values") _) _ _ _)); (fail_if_success (with_reducible show wpAny _ _ (call (Value.builtin "sum") _) _ _ _)); (fail_if_success (with_reducible show wpAny _ _ (eval (PySem.Expr.DictComp _ _ _ _ _) _) _ _ _)); (fail_if_success (with_reducible show Exists _))))
local macro_rules | `(tactic| walk_at "my walk") => `(tactic| (repeat' (walk_at "my stops"; first | (k_unfold; (try dsimp only)) | walk1 | (dsimp only; first | walk1 | (k_unfold; try dsimp only)) | (leave1; walk_say "STEP leave1"; try dsimp only))))
section
variable {w : World} {s : Shared} {p : Program} {loose : List Str} {mg mb : Str → Option Value} {base : Heap} {outer : List Env} {gd : Option (List Code)} {A₀ : Around} {Q E : Value → Shared → Prop}

theorem isD_ctr {g : Heap} {x : Addr} {o : Obj} (X : (Mine.hd.heap_39 w.params).In g) (ho : g.get? x = some o) (hc : o.cls = .ref 79) : IsD PySem.Challenge.rw_ah5040_01.prog w g (.ref x) true := fun A E Q s k h => by
  have X' := X.keeps k
  refine call_isinstance_of ?_ (fun e => by cases e)
  unfold Builtin.«isinstance.nested»
  refine wpAny_bind (typeOf_at (k _ _ ho) ?_)
  rw [hc, if_neg (by decide)]
  refine wpAny_bind (m := typeOf (.type "dict")) (wpAny_of_eq (a := .type "type") (by first | rfl | kernel_rfl) ?_)
  rw [if_pos (by decide)]
  k_delta "plainIsInstance"
  refine wpAny_bind (wpAny_bind (m := isType (.type "dict")) (wpAny_pure (a := true) ?_))
  simp only [Bool.not_true, Bool.false_eq_true, if_false]
  refine wpAny_bind (isInst_at (h₀ := g) (k _ _ ho) (b := true) (by rw [hc]; exact looks_subIn X (by k_is)) k ?_)
  simp only [if_true]
  exact wpAny_pure (wpAny_pure (h _))
/-- a Counter in the heap -/
structure Ctr {K : Type} [DecidableEq K] (kk : KK PySem.Challenge.rw_ah5040_01.prog w K) (h : Heap) (x dx : Addr) (o : Obj) (xs : Con K) : Prop where
  at_ : h.get? x = some o
  cls : o.cls = .ref 79
  dict : o.dict = some dx
  slots : o.slots = #[]
  dx : h.get? dx = some emptyDict
  eo : EO kk o xs
  keys : ∀ y ∈ xs, kk.is h y.1 y.2.1
  lo : (x == sysModules) = false
theorem Ctr.stays {K : Type} [DecidableEq K] {kk : KK PySem.Challenge.rw_ah5040_01.prog w K} {h h' : Heap} {x dx : Addr} {o : Obj} {xs : Con K} (c : Ctr kk h x dx o xs) (k : h.StaysIn h') : Ctr kk h' x dx o xs :=
  ⟨k _ _ c.at_, c.cls, c.dict, c.slots, k _ _ c.dx, c.eo, fun y hy => kk.mono (c.keys y hy) fun b o _ _ e _ => k b o e, c.lo⟩
theorem Ctr.no {K : Type} [DecidableEq K] {kk : KK PySem.Challenge.rw_ah5040_01.prog w K} {h : Heap} {x dx : Addr} {o : Obj} {xs : Con K} (c : Ctr kk h x dx o xs) : notCls o = true := by
  obtain ⟨es, ep, e, _⟩ := c.eo; unfold notCls; rw [e]
theorem Ctr.din {K : Type} [DecidableEq K] {kk : KK PySem.Challenge.rw_ah5040_01.prog w K} {h : Heap} {x dx : Addr} {o : Obj} {xs : Con K} (c : Ctr kk h x dx o xs) : DictIn kk h x xs := c.eo.at kk c.at_ c.keys
theorem Ctr.cl {K : Type} [DecidableEq K] {kk : KK PySem.Challenge.rw_ah5040_01.prog w K} {h g : Heap} {x dx : Addr} {o : Obj} {xs : Con K} (c : Ctr kk h x dx o xs) (X : (Mine.hd.heap_39 w.params).In g) : DCls (model PySem.Challenge.rw_ah5040_01.prog w) g o.cls := c.cls ▸ ctr_cls X
theorem Ctr.src {K : Type} [DecidableEq K] {kk : KK PySem.Challenge.rw_ah5040_01.prog w K} {h : Heap} {x dx : Addr} {o : Obj} {xs : Con K} (c : Ctr kk h x dx o xs) (X : (Mine.hd.heap_39 w.params).In h) (hn : xs.length ≤ 1000) : CSrc _ w kk h (.ref x) (fun ys => ys = xs) :=
  .copy x o xs rfl c.at_ c.eo (c.cl X) c.lo (isD_ctr X c.at_ c.cls) c.keys hn rfl
theorem copyC {K : Type} [DecidableEq K] {kk : KK PySem.Challenge.rw_ah5040_01.prog w K} {x dx : Addr} {o : Obj} {xs : Con K}
    (X : (Mine.hd.heap_39 w.params).In s.heap) (T : TopRead p loose mg mb s.heap) (c : Ctr kk s.heap x dx o xs) (hn : xs.length ≤ 1000)
    (h : ∀ x' dx' o' h' tk', s.heap.StaysIn h' → s.heap.get? x' = none → s.heap.get? dx' = none → x' ≠ dx' → Ctr kk h' x' dx' o' xs → Q (.ref x') { s with heap := h', toks := tk' }) :
    wpAny (model PySem.Challenge.rw_ah5040_01.prog w) (QD 50 outer gd) (call (.ref 49) [.ref x]) Q E s := by
  walk_at "my S"
  intro L' h' F' N'
  (try dsimp only); (show wpAny _ _ _ _ _ _); k_fold
  walk_at "my walk"
  have c1 := c.stays F'.keep
  refine wpAny_le (makeC (X.keeps F'.keep) (T.keeps F'.keep) (c1.src (X.keeps F'.keep) hn) fun x2 dx2 o2 xs2 h2 tk2 st n1 n2 ne lo a1 a2 a3 a4 a5 a6 a7 => ?_) (Nat.le_of_ble_eq_true rfl) (Nat.le_of_ble_eq_true rfl)
  subst a7
  have F2 := fr_stays F' st
  dsimp only
  walk_at "my walk"
  have up : ∀ {b : Addr}, h'.get? b = none → s.heap.get? b = none := fun {b} e => by
    cases q : s.heap.get? b with
    | none => rfl
    | some o => rw [F'.keep _ _ q] at e; cases e
  exact h x2 dx2 o2 h2 _ F2.keep (up n1) (up n2) ne ⟨a1, a2, a3, a4, a5, a6, (c1.stays st).keys, lo⟩
end
end Mine
end
-- K9
section
open PySem PySem.W PySem.W.X PyProof.Rows PySem.Calls
set_option maxRecDepth 100000
set_option maxHeartbeats 1000000
namespace Mine
theorem fillK9 : PySem.Challenge.rw_ah5040_01 = PySem.Challenge.rw_ah5040_01 ∧ Mine.hd.heap_39 = Mine.hd.heap_39 := by
  k_fill
  exact ⟨rfl, rfl⟩
local macro_rules | `(tactic| walk_at "my S") => `(tactic| (refine wpAny_call ?_; refine' enterS ?k3 ?k5 ?k6 ?k7 ?k8 ?k9 ?kB ?_ ?c2 ?c3 ?c4 ?c5; (case k3 => k_asm); (case k5 => k_asm); (case k6 => k_is); (case k7 => k_is); (case k8 => k_room); (case k9 => first | exact BindsTo.of_eq rfl | exact binds_K (by k_in) rfl (by k_is) rfl rfl rfl); (case kB => exact locs rfl); (case c5 => decide); (case c2 => exact rfl); (case c3 => exact rfl); (case c4 => exact rfl)))
local macro_rules | `(tactic| walk_at "my V") => `(tactic| (refine wpAny_call ?_; refine' enterV ?k3 ?k5 ?k6 ?k7 ?k8 ?kP ?kG ?kB ?_ ?c2 ?c3 ?c4 ?c5; (case k3 => k_asm); (case k5 => k_asm); (case k6 => k_is); (case k7 => k_is); (case k8 => k_room); (case kP => exact rfl); (case kG => exact fun _ => rfl); (case kB => exact fun _ => locs rfl); (case c5 => decide); (case c2 => exact rfl); (case c3 => exact rfl); (case c4 => exact rfl)))
local macro_rules | `(tactic| k_inst) => `(tactic| (refine' InstAt_of_get ?a ?b; (case a => exact Fr.keep (by k_asm) _ _ (by assumption)); (case b => exact Fr.keep (by k_asm) _ _ (by assumption))))
local macro_rules | `(tactic| walk_at "eval Call Attribute") => `(tactic| (k_here; (with_reducible show wpAny _ _ (eval (Expr.Call (Expr.Attribute _ _ _) [Expr.Starred _ _] [] _) _) _ _ _); refine starMethod ?_))
local macro_rules | `(tactic| walk_at "getAttr ref") => `(tactic| (k_here; k_dflt (refine' attr_sm ?k1 ?k2 ?k4 ?k5 ?k6 ?k7 ?k9 ?k10 ?k11 ?k12 ?k13 ?k14 ?_; (case k1 => k_asm); (case k2 => k_asm); (case k4 => k_inst); (case k5 => k_is); (case k6 => k_is); (case k7 => k_is); (case k9 => k_is); (case k10 => k_is); (case k11 => decide +kernel); (case k12 => k_get); (case k13 => k_is); (case k14 => k_handed); k_whole)))
local macro_rules | `(tactic| walk_at "callWith ref") => `(tactic| (k_here; (with_reducible show wpAny _ _ (callWith _ (Value.ref _) _ (backTo _ (starEach [Expr.Starred _ _] _)) []) _ _ _); k_dflt (refine' callWith_SM ?k1 ?k2 ?k3 ?k4 ?_; (case k1 => k_asm); (case k2 => k_asm); (case k3 => k_mem); (case k4 => k_is); k_whole)))
local macro_rules | `(tactic| walk_at "callWith ref") => `(tactic| (k_here; (with_reducible show wpAny _ _ (callWith _ (Value.ref _) _ (backTo _ (starEach [Expr.Starred _ _] _)) []) _ _ _); k_dflt (refine' callWith_SI ?k1 ?k2 ?k3 ?k4 ?_; (case k1 => k_in); (case k2 => k_inst); (case k3 => rfl); (case k4 => k_is); k_whole)))
local macro_rules | `(tactic| walk_at "my drop") => `(tactic| (repeat (first | ((rename News _ _ _ _ => Nx); clear Nx) | ((rename Fr _ _ _ _ => Fx); clear Fx))))
local macro_rules | `(tactic| walk_at "my stops") => `(tactic| ((fail_if_success (with_reducible show wpAny _ _ (call (Value.builtin "all") _) _ _ _)); (fail_if_success (with_reducible show wpAny _ _ (call (Value.builtin "max") _) _ _ _)); (fail_if_success (with_reducible show wpAny _ _ (call (Value.ref _) _) _ _ _)); (fail_if_success (with_reducible show wpAny _ _ (call (Value.type "map") _) _ _ _)); (fail_if_success (with_reducible show wpAny _ _ (exec (PySem.Stmt.For _ _ _ _ _) _) _ _ _)); (fail_if_success (with_reducible show wpAny _ _ (setItem _ _ _) _ _ _)); (fail_if_success (with_reducible show wpAny _ _ (subscriptTail _ _ _ _) _ _ _)); (fail_if_success (with_reducible show wpAny _ _ (getMethod (Value.ref _) _ _) _ _ _)); (fail_if_success (with_reducible show wpAny _ _ (call (Value.builtin "dict.get") _) _ _ _)); (fail_if_success (with_reducible show wpAny _ _ (call (Value.builtin "dict.values") _) _ _ _)); (fail_if_success (with_reducible show wpAny _ _ (call (Value.builtin "sum") _) _ _ _)); (fail_if_success (with_reducible show wpAny _ _ (eval (PySem.Expr.DictComp _ _ _ _ _) _) _ _ _)); (fail_if_success (with_reducible show wpAny _ _ (compareOp CmpOp.In _ _) _ _ _)); (fail_if_success (with_reducible show wpAny _ _ (call (Value.builtin "min") _) _ _ _)); (fail_if_success (with_reducible show Exists _))))
local macro_rules | `(tactic| walk_at "my walk") => `(tactic| (repeat' (walk_at "my stops"; first | (k_unfold; (try dsimp only)) | walk1 | (dsimp only; first | walk1 | (k_unfold; try dsimp only)) | (leave1; walk_say "STEP leave1"; try dsimp only))))
section
variable {w : World} {s : Shared} {p : Program} {loose : List Str} {mg mb : Str → Option Value} {base : Heap} {outer : List Env} {gd : Option (List Code)} {A₀ : Around} {Q E : Value → Shared → Prop}
local macro_rules | `(tactic| walk_at "eval Name") => `(tactic| (k_here; (with_reducible show wpAny _ _ (eval (Expr.Name (Str.ofString "key") _) (compEnvC _ _ _ _)) _ _ _); k_dflt (refine LCgL.ld_own (by assumption) (.head _) (by assumption) (by assumption) ?_)))
local macro_rules | `(tactic| walk_at "eval Name") => `(tactic| (k_here; (with_reducible show wpAny _ _ (eval (Expr.Name (Str.ofString "self") _) (compEnvC _ _ _ _)) _ _ _); k_dflt (refine lcf_cell (by assumption) rfl (.tail _ (by k_mem)) (by assumption) ?_ rfl rfl)))
local macro_rules | `(tactic| walk_at "eval Name") => `(tactic| (k_here; (with_reducible show wpAny _ _ (eval (Expr.Name (Str.ofString "other") _) (compEnvC _ _ _ _)) _ _ _); k_dflt (refine lcf_cell (by assumption) rfl (.tail _ (by k_mem)) (by assumption) ?_ rfl rfl)))
local macro_rules | `(tactic| walk_at "eval Name") => `(tactic| (k_here; (with_reducible show wpAny _ _ (eval (Expr.Name (Str.ofString "min") _) (compEnvC _ _ _ _)) _ _ _); k_dflt (refine cn_built (by assumption) (by assumption) (by assumption) (by k_is) (by boot_by_name) (by decide) ?_)))

theorem min2 {prog : Program} {A : Around} {a b : Nat} {t u : Tok} (hh : A.handled = none)
    (h : ∀ h' tk t, s.heap.StaysIn h' → Q (.int (min a b : Nat) t) { s with heap := h', toks := tk }) : wpAny (model prog w) A (call (.builtin "min") [.int a t, .int b u]) Q E s := by
  refine min_two_ints hh fun h' tk st => ?_
  by_cases q : b < a
  · rw [if_pos (by omega)]
    have := h h' tk u (fun b o e => st b o e)
    rwa [show min a b = b by omega] at this
  · rw [if_neg (by omega)]
    have := h h' tk t (fun b o e => st b o e)
    rwa [show min a b = a by omega] at this
/-- the keys come from there -/
def KSub {K : Type} (zs xs : Con K) : Prop := ∀ z ∈ zs, ∃ z' ∈ xs, z'.1 = z.1 ∧ z'.2.1 = z.2.1
theorem andC {K : Type} [DecidableEq K] {kk : KK PySem.Challenge.rw_ah5040_01.prog w K} {x dx y dy : Addr} {o o' : Obj} {xs ys : Con K} {f f' : K → Nat}
    (X : (Mine.hd.heap_39 w.params).In s.heap) (T : TopRead p loose mg mb s.heap) (c : Ctr kk s.heap x dx o xs) (c' : Ctr kk s.heap y dy o' ys) (hn : xs.length ≤ 1000) (hf : CntOf xs f) (hf' : CntOf ys f')
    (h : ∀ x' dx' o' zs h' tk', s.heap.StaysIn h' → s.heap.get? x' = none → s.heap.get? dx' = none → x' ≠ dx' → Ctr kk h' x' dx' o' zs → CntOf zs (fun k => min (f k) (f' k)) → zs.length ≤ 1000 → KSub zs xs → Q (.ref x') { s with heap := h', toks := tk' }) :
    wpAny (model PySem.Challenge.rw_ah5040_01.prog w) (QD 50 outer gd) (call (.ref 54) [.ref x, .ref y]) Q E s := by
  refine wpAny_call ?_
  refine' enterC (binds := [(Str.ofString "self", .ref x), (Str.ofString "other", .ref y)]) ?k3 ?k5 ?k6 ?k7 ?k8 ?k9 ?kB ?kD ?_ ?c2 ?c3 ?c4
  case k3 => k_asm
  case k5 => k_asm
  case k6 => k_is
  case k7 => k_is
  case k8 => k_room
  case k9 => exact BindsTo.of_eq rfl
  case kB => rfl
  case kD => decide +kernel
  case c2 => exact rfl
  case c3 => exact rfl
  case c4 => exact rfl
  intro L' h' tk' cells' F' N' Y'
  k_cells Y'
  rename_i oc2 oc1 hoc2 hoc1
  replace hoc2 : oc2.data = .cell (some (.ref y)) := hoc2
  replace hoc1 : oc1.data = .cell (some (.ref x)) := hoc1
  replace F' : Fr s.heap L' h' (fun _ => none) := F'
  have F0 := F'
  have N0 := N'
  have X1 := X.keeps F'.keep
  have T1 := T.keeps F'.keep
  have c1 := c.stays F'.keep
  have c1' := c'.stays F'.keep
  have prep : ∀ (C : Addr) (z : K × Value × Value) (h2 : Heap) (m₃ : Str → Option Value), h'.StaysIn h2 → h'.get? C = none → h2.Ns C m₃ → m₃ (Str.ofString "key") = some z.2.1 → ∃ oC, LCg.NsObj oC m₃ ∧ Fr s.heap L' h2 (fun _ => none) ∧ News s.heap L' h2 [(C, oC), (L' + 1 + 1, oc2), (L' + 1, oc1)] := fun C z h2 m₃ st gC hn hm => by
    obtain ⟨oC, hC, hNs⟩ := LCg.ns_obj hn
    refine ⟨oC, hNs, fr_stays F0 st, fun p hp => ?_⟩
    simp only [List.mem_cons, List.not_mem_nil, or_false] at hp
    rcases hp with rfl | hp
    · refine ⟨hC, fun e => ?_, ?_⟩
      · have e : C = L' := e
        obtain ⟨oL, _, _, hoL, _⟩ := F0.ns; rw [← e, gC] at hoL; cases hoL
      · show s.heap.get? C = none
        cases e : s.heap.get? C with
        | none => rfl
        | some o => have q := F0.keep _ _ e; rw [gC] at q; cases q
    · have q := N0 p (by simpa using hp)
      exact ⟨st _ _ q.1, q.2⟩
  have pos : ∀ z ∈ xs, 0 < f z.1 := fun z hz => by
    rcases Nat.eq_zero_or_pos (f z.1) with e | e
    · have h1 := (hf z.1).1 e
      have h2 : (cAt xs z.1).isSome = true := cAt_some_iff.mpr (List.mem_map.mpr ⟨z, hz, rfl⟩)
      rw [h1] at h2; cases h2
    · exact e
  (try dsimp only); (show wpAny _ _ _ _ _ _); k_fold
  walk_at "my walk"
  refine DictComp_K (kk := kk) (by with_unfolding_all rfl) (by decide) (by rfl) (by decide) (by rfl) ?_
  walk_at "my walk"
  refine ⟨xs, fun k => decide (0 < f' k), fun k v => ∃ t, v = .int (min (f k) (f' k) : Nat) t, iter_con kk c1.at_ c1.eo (c1.cl X1) c1.lo, rfl, Nat.le_of_ble_eq_true rfl, Nat.le_trans hn (by decide), (let ⟨_, _, _, _, n⟩ := c1.eo; n), c1.keys, ⟨?_, ?_, ?_⟩, ?_⟩
  · intro C z h2 tk2 m₃ E' hz st gC hn hm
    obtain ⟨oC, hNs, F2, N2⟩ := prep C z h2 m₃ st gC hn hm
    clear F' N'
    refine wpAny_tests_one ?_
    walk_at "my walk"
    have c3 := (c1.stays st)
    have c3' := (c1'.stays st)
    refine inK (kk := kk) (k := z.1) (Nat.le_of_ble_eq_true rfl) c3'.at_ (c3'.cl X1) st c3'.lo (c3.keys z hz) c3'.din fun tk3 => ?_
    have hsome : (cAt ys z.1).isSome = decide (0 < f' z.1) := by
      rcases Nat.eq_zero_or_pos (f' z.1) with e | e
      · rw [(hf' z.1).1 e, e]; rfl
      · obtain ⟨t, e2⟩ := (hf' z.1).2 e
        rw [e2, decide_eq_true e]; rfl
    rw [hsome]
    by_cases hz' : 0 < f' z.1
    · rw [decide_eq_true hz']
      walk_at "my walk"
      obtain ⟨t1, e1⟩ := (hf z.1).2 (pos z hz)
      refine subTailK (kk := kk) (k := z.1) (Nat.le_of_ble_eq_true rfl) c3.at_ (c3.cl X1) st (c3.keys z hz) c3.din e1 fun tk4 => ?_
      walk_at "my walk"
      obtain ⟨t2, e2⟩ := (hf' z.1).2 hz'
      refine subTailK (kk := kk) (k := z.1) (Nat.le_of_ble_eq_true rfl) c3'.at_ (c3'.cl X1) st (c3.keys z hz) c3'.din e2 fun tk5 => ?_
      walk_at "my walk"
      refine min2 rfl fun h6 tk6 t6 st6 => ?_
      have F6 := fr_stays F2 st6
      have N6 := news_stays N2 st6
      clear F2 N2
      have hpos : 0 < min (f z.1) (f' z.1) := by have := pos z hz; omega
      dsimp only
      walk_at "my walk"
      exact ⟨_, _, rfl, fun b o e => st6 _ _ e⟩
    · rw [decide_eq_false hz']
      walk_at "my walk"
      exact ⟨_, _, rfl, fun b o e => e⟩
  · intro C z h2 tk2 m₃ E' hz hp st gC hn hm
    obtain ⟨oC, hNs, F2, N2⟩ := prep C z h2 m₃ st gC hn hm
    clear F' N'
    walk_at "my walk"
    exact ⟨_, _, rfl, fun b o e => e⟩
  · intro C z h2 tk2 m₃ E' hz hp st gC hn hm
    obtain ⟨oC, hNs, F2, N2⟩ := prep C z h2 m₃ st gC hn hm
    have hz' : 0 < f' z.1 := of_decide_eq_true hp
    have c3 := (c1.stays st)
    have c3' := (c1'.stays st)
    clear F' N'
    walk_at "my walk"
    obtain ⟨t1, e1⟩ := (hf z.1).2 (pos z hz)
    refine subTailK (kk := kk) (k := z.1) (Nat.le_of_ble_eq_true rfl) c3.at_ (c3.cl X1) st (c3.keys z hz) c3.din e1 fun tk4 => ?_
    walk_at "my walk"
    obtain ⟨t2, e2⟩ := (hf' z.1).2 hz'
    refine subTailK (kk := kk) (k := z.1) (Nat.le_of_ble_eq_true rfl) c3'.at_ (c3'.cl X1) st (c3.keys z hz) c3'.din e2 fun tk5 => ?_
    walk_at "my walk"
    refine min2 rfl fun h6 tk6 t6 st6 => ?_
    exact ⟨⟨_, rfl⟩, h6, tk6, rfl, st6⟩
  · intro D oD zs h2 tk2 st hsD gD hD hcD hED hke hfv
    clear F' N'
    have F2 := fr_stays F0 st
    have N2 := news_stays N0 st
    have zx : ∀ z ∈ zs, ∃ z' ∈ xs, z'.1 = z.1 ∧ z'.2.1 = z.2.1 ∧ 0 < f' z.1 := fun z hz => by
      have : (z.1, z.2.1) ∈ keysOf zs := List.mem_map.mpr ⟨z, hz, rfl⟩
      rw [hke] at this
      obtain ⟨z', hz', e⟩ := List.mem_map.mp this
      obtain ⟨m1, m2⟩ := List.mem_filter.mp hz'
      have e1 : z'.1 = z.1 := congrArg (·.1) e
      exact ⟨z', m1, e1, congrArg (·.2) e, by rw [← e1]; exact of_decide_eq_true m2⟩
    have hzl : zs.length ≤ 1000 := by
      have : (keysOf zs).length = (keysOf (xs.filter fun y => decide (0 < f' y.1))).length := by rw [hke]
      simp only [keysOf, List.length_map] at this
      rw [this]
      exact Nat.le_trans (List.length_filter_le _ _) hn
    have hnd : (zs.map (·.1)).Nodup := let ⟨_, _, _, _, n⟩ := hED; n
    have hcnt : CntOf zs (fun k => min (f k) (f' k)) := fun k => by
      refine ⟨fun e => ?_, fun e => ?_⟩
      · cases q : cAt zs k with
        | none => rfl
        | some v =>
          have q2 : (cAt zs k).isSome = true := by rw [q]; rfl
          obtain ⟨z, hz, rfl⟩ := List.mem_map.mp (cAt_some_iff.mp q2)
          obtain ⟨z', hz', e1, _, e3⟩ := zx z hz
          have := pos z' hz'
          rw [e1] at this
          dsimp only at e
          omega
      · have h1 : 0 < f k ∧ 0 < f' k := by dsimp only at e; omega
        obtain ⟨t, ht⟩ := (hf k).2 h1.1
        have q2 : (cAt xs k).isSome = true := by rw [ht]; rfl
        obtain ⟨y', hy', rfl⟩ := List.mem_map.mp (cAt_some_iff.mp q2)
        have m1 : (y'.1, y'.2.1) ∈ keysOf (xs.filter fun y => decide (0 < f' y.1)) := List.mem_map.mpr ⟨y', List.mem_filter.mpr ⟨hy', decide_eq_true h1.2⟩, rfl⟩
        rw [← hke] at m1
        obtain ⟨z, hz, e4⟩ := List.mem_map.mp m1
        have e5 : z.1 = y'.1 := congrArg (·.1) e4
        obtain ⟨j, hj⟩ := List.mem_iff_getElem?.mp hz
        obtain ⟨t', ht'⟩ := hfv z hz
        refine ⟨t', ?_⟩
        rw [← e5, cAt_of_get hnd (j := j) (k := z.1) (p := z.2) hj]
        exact congrArg some ht'
    have zk : ∀ z ∈ zs, kk.is h2 z.1 z.2.1 := fun z hz => by
      obtain ⟨z', hz', e1, e2, _⟩ := zx z hz
      rw [← e1, ← e2]; exact (c1.stays st).keys z' hz'
    have loD : (D == sysModules) = false := beq_eq_false_iff_ne.mpr (Nat.ne_of_gt (Nat.lt_of_lt_of_le (modules_low T1.nolimit) hsD))
    dsimp only
    walk_at "my walk"
    have S : CSrc _ w kk h2 (.ref D) (fun ws => ws = zs) := .copy D oD zs rfl hD hED (hcD ▸ dcls_dict) loD (isD_of kitx_dict (X1.keeps st) (fun h k => ⟨oD, k _ _ hD, hcD⟩) (by kit_is) (fun e => by cases e)) zk hzl rfl
    refine wpAny_le (makeC (X1.keeps st) (T1.keeps st) S fun x2 dx2 o2 xs2 h3 tk3 st3 n1 n2 ne lo a1 a2 a3 a4 a5 a6 a7 => ?_) (Nat.le_of_ble_eq_true rfl) (Nat.le_of_ble_eq_true rfl)
    subst a7
    have F3 := fr_stays F2 st3
    dsimp only
    walk_at "my walk"
    have up : ∀ {b : Addr}, h2.get? b = none → s.heap.get? b = none := fun {b} e => by
      cases q : s.heap.get? b with
      | none => rfl
      | some o => rw [F2.keep _ _ q] at e; cases e
    exact h x2 dx2 o2 _ h3 _ F3.keep (up n1) (up n2) ne ⟨a1, a2, a3, a4, a5, a6, (fun z hz => kk.mono (zk z hz) fun b o _ _ e _ => st3 b o e), lo⟩ hcnt hzl fun z hz => let ⟨z', a, b, c, _⟩ := zx z hz; ⟨z', a, b, c⟩
end
end Mine
end
-- K10
section
open PySem PySem.W PySem.W.X PyProof.Rows PySem.Calls
set_option maxRecDepth 100000
set_option maxHeartbeats 1000000
namespace Mine
theorem fillK10 : PySem.Challenge.rw_ah5040_01 = PySem.Challenge.rw_ah5040_01 ∧ Mine.hd.heap_39 = Mine.hd.heap_39 := by
  k_fill
  exact ⟨rfl, rfl⟩
local macro_rules | `(tactic| walk_at "my S") => `(tactic| (refine wpAny_call ?_; refine' enterS ?k3 ?k5 ?k6 ?k7 ?k8 ?k9 ?kB ?_ ?c2 ?c3 ?c4 ?c5; (case k3 => k_asm); (case k5 => k_asm); (case k6 => k_is); (case k7 => k_is); (case k8 => k_room); (case k9 => first | exact BindsTo.of_eq rfl | exact binds_K (by k_in) rfl (by k_is) rfl rfl rfl); (case kB => exact locs rfl); (case c5 => decide); (case c2 => exact rfl); (case c3 => exact rfl); (case c4 => exact rfl)))
local macro_rules | `(tactic| walk_at "my V") => `(tactic| (refine wpAny_call ?_; refine' enterV ?k3 ?k5 ?k6 ?k7 ?k8 ?kP ?kG ?kB ?_ ?c2 ?c3 ?c4 ?c5; (case k3 => k_asm); (case k5 => k_asm); (case k6 => k_is); (case k7 => k_is); (case k8 => k_room); (case kP => exact rfl); (case kG => exact fun _ => rfl); (case kB => exact fun _ => locs rfl); (case c5 => decide); (case c2 => exact rfl); (case c3 => exact rfl); (case c4 => exact rfl)))
local macro_rules | `(tactic| k_inst) => `(tactic| (refine' InstAt_of_get ?a ?b; (case a => exact Fr.keep (by k_asm) _ _ (by assumption)); (case b => exact Fr.keep (by k_asm) _ _ (by assumption))))
local macro_rules | `(tactic| walk_at "eval Call Attribute") => `(tactic| (k_here; (with_reducible show wpAny _ _ (eval (Expr.Call (Expr.Attribute _ _ _) [Expr.Starred _ _] [] _) _) _ _ _); refine starMethod ?_))
local macro_rules | `(tactic| walk_at "getAttr ref") => `(tactic| (k_here; k_dflt (refine' attr_sm ?k1 ?k2 ?k4 ?k5 ?k6 ?k7 ?k9 ?k10 ?k11 ?k12 ?k13 ?k14 ?_; (case k1 => k_asm); (case k2 => k_asm); (case k4 => k_inst); (case k5 => k_is); (case k6 => k_is); (case k7 => k_is); (case k9 => k_is); (case k10 => k_is); (case k11 => decide +kernel); (case k12 => k_get); (case k13 => k_is); (case k14 => k_handed); k_whole)))
local macro_rules | `(tactic| walk_at "callWith ref") => `(tactic| (k_here; (with_reducible show wpAny _ _ (callWith _ (Value.ref _) _ (backTo _ (starEach [Expr.Starred _ _] _)) []) _ _ _); k_dflt (refine' callWith_SM ?k1 ?k2 ?k3 ?k4 ?_; (case k1 => k_asm); (case k2 => k_asm); (case k3 => k_mem); (case k4 => k_is); k_whole)))
local macro_rules | `(tactic| walk_at "callWith ref") => `(tactic| (k_here; (with_reducible show wpAny _ _ (callWith _ (Value.ref _) _ (backTo _ (starEach [Expr.Starred _ _] _)) []) _ _ _); k_dflt (refine' callWith_SI ?k1 ?k2 ?k3 ?k4 ?_; (case k1 => k_in); (case k2 => k_inst); (case k3 => rfl); (case k4 => k_is); k_whole)))
local macro_rules | `(tactic| walk_at "my drop") => `(tactic| (repeat (first | ((rename News _ _ _ _ => Nx); clear Nx) | ((rename Fr _ _ _ _ => Fx); clear Fx))))
local macro_rules | `(tactic| walk_at "my stops") => `(tactic| ((fail_if_success (with_reducible show wpAny _ _ (call (Value.builtin "all") _) _ _ _)); (fail_if_success (with_reducible show wpAny _ _ (call (Value.builtin "max") _) _ _ _)); (fail_if_success (with_reducible show wpAny _ _ (call (Value.ref _) _) _ _ _)); (fail_if_success (with_reducible show wpAny _ _ (call (Value.type "map") _) _ _ _)); (fail_if_success (with_reducible show wpAny _ _ (exec (PySem.Stmt.For _ _ _ _ _) _) _ _ _)); (fail_if_success (with_reducible show wpAny _ _ (setItem _ _ _) _ _ _)); (fail_if_success (with_reducible show wpAny _ _ (subscriptTail _ _ _ _) _ _ _)); (fail_if_success (with_reducible show wpAny _ _ (getMethod (Value.ref _) _ _) _ _ _)); (fail_if_success (with_reducible show wpAny _ _ (call (Value.builtin "dict.get") _) _ _ _)); (fail_if_success (with_reducible show wpAny _ _ (call (Value.builtin "dict.values") _) _ _ _)); (fail_if_success (with_reducible show wpAny _ _ (call (Value.builtin "sum") _) _ _ _)); (fail_if_success (with_reducible show wpAny _ _ (eval (PySem.Expr.DictComp _ _ _ _ _) _) _ _ _)); (fail_if_success (with_reducible show wpAny _ _ (compareOp CmpOp.In _ _) _ _ _)); (fail_if_success (with_reducible show wpAny _ _ (call (Value.builtin "min") _) _ _ _)); (fail_if_success (with_reducible show Exists _))))
local macro_rules | `(tactic| walk_at "my walk") => `(tactic| (repeat' (walk_at "my stops"; first | (k_unfold; (try dsimp only)) | walk1 | (dsimp only; first | walk1 | (k_unfold; try dsimp only)) | (leave1; walk_say "STEP leave1"; try dsimp only))))
section
variable {w : World} {s : Shared} {p : Program} {loose : List Str} {mg mb : Str → Option Value} {base : Heap} {outer : List Env} {gd : Option (List Code)} {A₀ : Around} {Q E : Value → Shared → Prop}
local macro_rules | `(tactic| walk_at "eval Name") => `(tactic| (k_here; (with_reducible show wpAny _ _ (eval (Expr.Name (Str.ofString "key") _) (compEnvC _ _ _ _)) _ _ _); k_dflt (refine LCgL.ld_own (by assumption) (.head _) (by assumption) (by assumption) ?_)))
local macro_rules | `(tactic| walk_at "eval Name") => `(tactic| (k_here; (with_reducible show wpAny _ _ (eval (Expr.Name (Str.ofString "self") _) (compEnvC _ _ _ _)) _ _ _); k_dflt (refine lcf_cell (by assumption) rfl (.tail _ (by k_mem)) (by assumption) ?_ rfl rfl)))
local macro_rules | `(tactic| walk_at "eval Name") => `(tactic| (k_here; (with_reducible show wpAny _ _ (eval (Expr.Name (Str.ofString "other") _) (compEnvC _ _ _ _)) _ _ _); k_dflt (refine lcf_cell (by assumption) rfl (.tail _ (by k_mem)) (by assumption) ?_ rfl rfl)))
local macro_rules | `(tactic| walk_at "eval Name") => `(tactic| (k_here; (with_reducible show wpAny _ _ (eval (Expr.Name (Str.ofString "rows") _) (compEnvC _ _ _ _)) _ _ _); k_dflt (refine lcf_cell (by assumption) rfl (.tail _ (by k_mem)) (by assumption) ?_ rfl rfl)))

theorem CntOf.of_filter {K : Type} [DecidableEq K] {xs zs : Con K} {f g : K → Nat} {p : K → Bool} (hf : CntOf xs f) (hke : keysOf zs = keysOf (xs.filter fun y => p y.1)) (hfv : ∀ z ∈ zs, ∃ t, z.2.2 = .int (g z.1 : Nat) t) (hnd : (zs.map (·.1)).Nodup)
    (hp : ∀ k, 0 < f k → (p k = true ↔ 0 < g k)) (h0 : ∀ k, f k = 0 → g k = 0) : CntOf zs g := fun k => by
  have pos : ∀ z ∈ xs, 0 < f z.1 := fun z hz => by
    rcases Nat.eq_zero_or_pos (f z.1) with e | e
    · have h1 := (hf z.1).1 e
      have h2 : (cAt xs z.1).isSome = true := cAt_some_iff.mpr (List.mem_map.mpr ⟨z, hz, rfl⟩)
      rw [h1] at h2; cases h2
    · exact e
  refine ⟨fun e => ?_, fun e => ?_⟩
  · cases q : cAt zs k with
    | none => rfl
    | some v =>
      have q2 : (cAt zs k).isSome = true := by rw [q]; rfl
      obtain ⟨z, hz, rfl⟩ := List.mem_map.mp (cAt_some_iff.mp q2)
      have : (z.1, z.2.1) ∈ keysOf zs := List.mem_map.mpr ⟨z, hz, rfl⟩
      rw [hke] at this
      obtain ⟨z', hz', e'⟩ := List.mem_map.mp this
      obtain ⟨m1, m2⟩ := List.mem_filter.mp hz'
      have e1 : z'.1 = z.1 := congrArg (·.1) e'
      have h1 := pos z' m1
      rw [e1] at h1 m2
      have := (hp z.1 h1).mp m2
      omega
  · have h1 : 0 < f k := by
      rcases Nat.eq_zero_or_pos (f k) with c | c
      · have := h0 k c; omega
      · exact c
    obtain ⟨t, ht⟩ := (hf k).2 h1
    have q2 : (cAt xs k).isSome = true := by rw [ht]; rfl
    obtain ⟨y', hy', rfl⟩ := List.mem_map.mp (cAt_some_iff.mp q2)
    have m1 : (y'.1, y'.2.1) ∈ keysOf (xs.filter fun y => p y.1) := List.mem_map.mpr ⟨y', List.mem_filter.mpr ⟨hy', (hp _ h1).mpr e⟩, rfl⟩
    rw [← hke] at m1
    obtain ⟨z, hz, e4⟩ := List.mem_map.mp m1
    have e5 : z.1 = y'.1 := congrArg (·.1) e4
    obtain ⟨j, hj⟩ := List.mem_iff_getElem?.mp hz
    obtain ⟨t', ht'⟩ := hfv z hz
    refine ⟨t', ?_⟩
    rw [← e5, cAt_of_get hnd (j := j) (k := z.1) (p := z.2) hj]
    exact congrArg some ht'
theorem prepC {g hA h2 : Heap} {L C : Addr} {m m₃ : Str → Option Value} {cells : List (Addr × Obj)} (F0 : Fr g L hA m) (N0 : News g L hA cells) (st : hA.StaysIn h2) (gC : hA.get? C = none) (hn : h2.Ns C m₃) :
    ∃ oC, LCg.NsObj oC m₃ ∧ Fr g L h2 m ∧ News g L h2 ((C, oC) :: cells) := by
  obtain ⟨oC, hC, hNs⟩ := LCg.ns_obj hn
  refine ⟨oC, hNs, fr_stays F0 st, fun p hp => ?_⟩
  rcases List.mem_cons.mp hp with rfl | hp
  · refine ⟨hC, fun e => ?_, ?_⟩
    · have e : C = L := e
      obtain ⟨oL, _, _, hoL, _⟩ := F0.ns; rw [← e, gC] at hoL; cases hoL
    · show g.get? C = none
      cases e : g.get? C with
      | none => rfl
      | some o => have q := F0.keep _ _ e; rw [gC] at q; cases q
  · have q := N0 p hp
    exact ⟨st _ _ q.1, q.2⟩
theorem CntOf.pos {K : Type} [DecidableEq K] {xs : Con K} {f : K → Nat} (hf : CntOf xs f) : ∀ z ∈ xs, 0 < f z.1 := fun z hz => by
  rcases Nat.eq_zero_or_pos (f z.1) with e | e
  · have h1 := (hf z.1).1 e
    have h2 : (cAt xs z.1).isSome = true := cAt_some_iff.mpr (List.mem_map.mpr ⟨z, hz, rfl⟩)
    rw [h1] at h2; cases h2
  · exact e
theorem subC {K : Type} [DecidableEq K] {kk : KK PySem.Challenge.rw_ah5040_01.prog w K} {x dx y dy : Addr} {o o' : Obj} {xs ys : Con K} {f f' : K → Nat}
    (X : (Mine.hd.heap_39 w.params).In s.heap) (T : TopRead p loose mg mb s.heap) (c : Ctr kk s.heap x dx o xs) (c' : Ctr kk s.heap y dy o' ys) (hn : xs.length ≤ 1000) (hf : CntOf xs f) (hf' : CntOf ys f')
    (h : ∀ x' dx' o' zs h' tk', s.heap.StaysIn h' → s.heap.get? x' = none → s.heap.get? dx' = none → x' ≠ dx' → Ctr kk h' x' dx' o' zs → CntOf zs (fun k => f k - f' k) → zs.length ≤ 1000 → KSub zs xs → Q (.ref x') { s with heap := h', toks := tk' }) :
    wpAny (model PySem.Challenge.rw_ah5040_01.prog w) (QD 50 outer gd) (call (.ref 76) [.ref x, .ref y]) Q E s := by
  refine wpAny_call ?_
  refine' enterC (binds := [(Str.ofString "self", .ref x), (Str.ofString "other", .ref y)]) ?k3 ?k5 ?k6 ?k7 ?k8 ?k9 ?kB ?kD ?_ ?c2 ?c3 ?c4
  case k3 => k_asm
  case k5 => k_asm
  case k6 => k_is
  case k7 => k_is
  case k8 => k_room
  case k9 => exact BindsTo.of_eq rfl
  case kB => rfl
  case kD => decide +kernel
  case c2 => exact rfl
  case c3 => exact rfl
  case c4 => exact rfl
  intro L' h' tk' cells' F' N' Y'
  k_cells Y'
  rename_i oc3 oc2 oc1 hoc3 hoc2 hoc1
  replace hoc3 : oc3.data = .cell none := hoc3
  replace hoc2 : oc2.data = .cell (some (.ref y)) := hoc2
  replace hoc1 : oc1.data = .cell (some (.ref x)) := hoc1
  replace F' : Fr s.heap L' h' (fun _ => none) := F'
  have F0 := F'
  have N0 := N'
  have X1 := X.keeps F'.keep
  have T1 := T.keeps F'.keep
  have c1 := c.stays F'.keep
  have c1' := c'.stays F'.keep
  (try dsimp only); (show wpAny _ _ _ _ _ _); k_fold
  walk_at "my walk"
  refine DictComp_K (kk := kk) (by with_unfolding_all rfl) (by decide) (by rfl) (by decide) (by rfl) ?_
  walk_at "my walk"
  refine ⟨xs, fun k => true, fun k v => ∃ t, v = .int ((f k : Nat) - (f' k : Nat) : Int) t, iter_con kk c1.at_ c1.eo (c1.cl X1) c1.lo, rfl, Nat.le_of_ble_eq_true rfl, Nat.le_trans hn (by decide), (let ⟨_, _, _, _, n⟩ := c1.eo; n), c1.keys, ⟨?_, ?_, ?_⟩, ?_⟩
  · intro C z h2 tk2 m₃ E' hz st gC hn hm
    refine wpAny_tests_nil ?_
    exact ⟨rfl, _, _, rfl, fun b o e => e⟩
  · intro C z h2 tk2 m₃ E' hz hp st gC hn hm
    obtain ⟨oC, hNs, F2, N2⟩ := prepC F0 N0 st gC hn
    clear F' N'
    walk_at "my walk"
    exact ⟨_, _, rfl, fun b o e => e⟩
  · intro C z h2 tk2 m₃ E' hz hp st gC hn hm
    obtain ⟨oC, hNs, F2, N2⟩ := prepC F0 N0 st gC hn
    have c3 := (c1.stays st)
    have c3' := (c1'.stays st)
    clear F' N'
    walk_at "my walk"
    obtain ⟨t1, e1⟩ := (hf z.1).2 (hf.pos z hz)
    refine subTailK (kk := kk) (k := z.1) (Nat.le_of_ble_eq_true rfl) c3.at_ (c3.cl X1) st (c3.keys z hz) c3.din e1 fun tk4 => ?_
    walk_at "my walk"
    refine ctr_get X1 st c3'.at_ c3'.cls c3'.dict c3'.no c3'.dx ?_
    dsimp only
    walk_at "my walk"
    refine dictGetDefault (kk := kk) (k := z.1) (Nat.le_of_ble_eq_true rfl) c3'.at_ (c3'.cl X1) st c3'.lo (c3.keys z hz) c3'.din fun tk5 => ?_
    have hval : ∀ t0 : Tok, ∃ t, (cAt ys z.1).getD (.int 0 t0) = .int ((f' z.1 : Nat) : Int) t := fun t0 => by
      rcases Nat.eq_zero_or_pos (f' z.1) with c | c
      · rw [(hf' z.1).1 c, c]; exact ⟨t0, rfl⟩
      · obtain ⟨t, e⟩ := (hf' z.1).2 c
        rw [e]; exact ⟨t, rfl⟩
    generalize hr : (cAt ys z.1).getD _ = r
    obtain ⟨t5, rfl⟩ : ∃ t, r = .int ((f' z.1 : Nat) : Int) t := by rw [← hr]; exact hval _
    clear hr hval
    (try dsimp only)
    walk_at "my walk"
    · exact ⟨_, rfl⟩
    · exact ⟨_, _, rfl, fun b o e => e⟩
  · intro D oD zs h2 tk2 st hsD gD hD hcD hED hke hfv
    clear F' N'
    have F2 := fr_stays F0 st
    have N2 : News s.heap L' h2 ((D, oD) :: [(L' + 1 + 1 + 1, oc3), (L' + 1 + 1, oc2), (L' + 1, oc1)]) := fun p hp => by
      rcases List.mem_cons.mp hp with rfl | hp
      · refine ⟨hD, fun e => ?_, ?_⟩
        · have e : D = L' := e
          obtain ⟨oL, _, _, hoL, _⟩ := F0.ns; rw [← e] at hoL; rw [show h'.get? D = none from gD] at hoL; cases hoL
        · show s.heap.get? D = none
          cases e : s.heap.get? D with
          | none => rfl
          | some o => have q := F0.keep _ _ e; rw [show h'.get? D = none from gD] at q; cases q
      · exact ⟨st _ _ (N0 p hp).1, (N0 p hp).2⟩
    have loD : (D == sysModules) = false := beq_eq_false_iff_ne.mpr (Nat.ne_of_gt (Nat.lt_of_lt_of_le (modules_low T1.nolimit) hsD))
    have zx : ∀ z ∈ zs, ∃ z' ∈ xs, z'.1 = z.1 ∧ z'.2.1 = z.2.1 := fun z hz => by
      have : (z.1, z.2.1) ∈ keysOf zs := List.mem_map.mpr ⟨z, hz, rfl⟩
      rw [hke] at this
      obtain ⟨z', hz', e⟩ := List.mem_map.mp this
      exact ⟨z', (List.mem_filter.mp hz').1, congrArg (·.1) e, congrArg (·.2) e⟩
    have hzl : zs.length ≤ 1000 := by
      have : (keysOf zs).length = (keysOf (xs.filter fun y => true)).length := by rw [hke]
      simp only [keysOf, List.length_map] at this
      rw [this]
      exact Nat.le_trans (List.length_filter_le _ _) hn
    have hnd : (zs.map (·.1)).Nodup := let ⟨_, _, _, _, n⟩ := hED; n
    have zk : ∀ {h3 : Heap}, s.heap.StaysIn h3 → ∀ z ∈ zs, kk.is h3 z.1 z.2.1 := fun st3 z hz => by
      obtain ⟨z', hz', e1, e2⟩ := zx z hz
      rw [← e1, ← e2]; exact (c.stays st3).keys z' hz'
    have zat : ∀ z ∈ zs, ∃ t, cAt zs z.1 = some (.int ((f z.1 : Nat) - (f' z.1 : Nat) : Int) t) := fun z hz => by
      obtain ⟨j, hj⟩ := List.mem_iff_getElem?.mp hz
      obtain ⟨t, e⟩ := hfv z hz
      exact ⟨t, by rw [cAt_of_get hnd (j := j) (k := z.1) (p := z.2) hj]; exact congrArg some e⟩
    have l1 : ∀ p ∈ [(L' + 1 + 1 + 1, oc3), (L' + 1 + 1, oc2), (L' + 1, oc1)], p.1 < D := fun p hp => Nat.lt_of_lt_of_le (Heap.lt_size (N0 p hp).1) hsD
    k_lt l1
    clear c1 c1' X1
    dsimp only
    walk_at "my walk"
    rename Fr _ _ _ _ => F3
    rename News _ _ _ _ => N3
    rename_i h3 oc4 hoc4 tk3
    have X3 := X.keeps F3.keep
    have hD3 := (N3 _ (.head _)).1
    have F3' := F3
    have N3' := N3
    refine DictComp_K (kk := kk) (by with_unfolding_all rfl) (by decide) (by rfl) (by decide) (by rfl) ?_
    walk_at "my walk"
    refine ⟨zs, fun k => decide (f' k < f k), fun k v => ∃ t, v = .int ((f k - f' k : Nat) : Int) t, iter_con kk hD3 hED (hcD ▸ dcls_dict) loD, rfl, Nat.le_of_ble_eq_true rfl, Nat.le_trans hzl (by decide), hnd, zk F3.keep, ⟨?_, ?_, ?_⟩, ?_⟩
    · intro C z h4 tk4 m₃ E' hz st4 gC hn hm
      obtain ⟨oC, hNs, F4, N4⟩ := prepC F3' N3' st4 gC hn
      clear F3 N3
      refine wpAny_tests_one ?_
      walk_at "my walk"
      obtain ⟨t1, e1⟩ := zat z hz
      refine subTailK (kk := kk) (k := z.1) (h₀ := h4) (Nat.le_of_ble_eq_true rfl) (st4 _ _ hD3) (hcD ▸ dcls_dict) (fun _ _ e => e) (zk F4.keep z hz) (hED.at kk (st4 _ _ hD3) (zk F4.keep)) e1 fun tk5 => ?_
      walk_at "my walk"
      · exact decide_eq_decide.mpr (by omega)
      · exact ⟨_, _, rfl, fun b o e => e⟩
    · intro C z h4 tk4 m₃ E' hz hp st4 gC hn hm
      obtain ⟨oC, hNs, F4, N4⟩ := prepC F3' N3' st4 gC hn
      clear F3 N3
      walk_at "my walk"
      exact ⟨_, _, rfl, fun b o e => e⟩
    · intro C z h4 tk4 m₃ E' hz hp st4 gC hn hm
      obtain ⟨oC, hNs, F4, N4⟩ := prepC F3' N3' st4 gC hn
      have q : f' z.1 < f z.1 := of_decide_eq_true hp
      clear F3 N3
      walk_at "my walk"
      obtain ⟨t1, e1⟩ := zat z hz
      refine subTailK (kk := kk) (k := z.1) (h₀ := h4) (Nat.le_of_ble_eq_true rfl) (st4 _ _ hD3) (hcD ▸ dcls_dict) (fun _ _ e => e) (zk F4.keep z hz) (hED.at kk (st4 _ _ hD3) (zk F4.keep)) e1 fun tk5 => ?_
      exact ⟨⟨_, by rw [Int.ofNat_sub (Nat.le_of_lt q)]⟩, _, _, rfl, fun b o e => e⟩
    · intro D2 oD2 ws h4 tk4 st4 hsD2 gD2 hD2 hcD2 hED2 hke2 hfv2
      have T3 := T.keeps F3'.keep
      clear F3 N3
      have F4 := fr_stays F3' st4
      have N4 := news_stays N3' st4
      have loD2 : (D2 == sysModules) = false := beq_eq_false_iff_ne.mpr (Nat.ne_of_gt (Nat.lt_of_lt_of_le (modules_low T3.nolimit) hsD2))
      have wz : ∀ v ∈ ws, ∃ z' ∈ zs, z'.1 = v.1 ∧ z'.2.1 = v.2.1 := fun v hv => by
        have : (v.1, v.2.1) ∈ keysOf ws := List.mem_map.mpr ⟨v, hv, rfl⟩
        rw [hke2] at this
        obtain ⟨z', hz', e⟩ := List.mem_map.mp this
        exact ⟨z', (List.mem_filter.mp hz').1, congrArg (·.1) e, congrArg (·.2) e⟩
      have hwl : ws.length ≤ 1000 := by
        have : (keysOf ws).length = (keysOf (zs.filter fun y => decide (f' y.1 < f y.1))).length := by rw [hke2]
        simp only [keysOf, List.length_map] at this
        rw [this]
        exact Nat.le_trans (List.length_filter_le _ _) hzl
      have hke3 : keysOf ws = keysOf (xs.filter fun y => decide (f' y.1 < f y.1)) := by
        have fk : ∀ us : Con K, keysOf (us.filter fun y => decide (f' y.1 < f y.1)) = (keysOf us).filter fun y => decide (f' y.1 < f y.1) := fun us => by
          simp only [keysOf, List.filter_map]; rfl
        rw [hke2, fk, fk, hke, show (xs.filter fun y => (fun _ : K => true) y.1) = xs from List.filter_eq_self.mpr fun _ _ => rfl]
      have wk : ∀ v ∈ ws, kk.is h4 v.1 v.2.1 := fun v hv => by
        obtain ⟨z', hz', e1, e2⟩ := wz v hv
        rw [← e1, ← e2]; exact zk F4.keep z' hz'
      have hcnt : CntOf ws (fun k => f k - f' k) := hf.of_filter hke3 hfv2 (let ⟨_, _, _, _, n⟩ := hED2; n) (fun k _ => by show decide (f' k < f k) = true ↔ 0 < f k - f' k; rw [decide_eq_true_iff]; omega) (fun k e => by show f k - f' k = 0; omega)
      dsimp only
      walk_at "my walk"
      have S : CSrc _ w kk h4 (.ref D2) (fun us => us = ws) := .copy D2 oD2 ws rfl hD2 hED2 (hcD2 ▸ dcls_dict) loD2 (isD_of kitx_dict (X3.keeps st4) (fun h k => ⟨oD2, k _ _ hD2, hcD2⟩) (by kit_is) (fun e => by cases e)) wk hwl rfl
      refine wpAny_le (makeC (X3.keeps st4) (T3.keeps st4) S fun x2 dx2 o2 xs2 h5 tk5 st5 n1 n2 ne lo a1 a2 a3 a4 a5 a6 a7 => ?_) (Nat.le_of_ble_eq_true rfl) (Nat.le_of_ble_eq_true rfl)
      subst a7
      have F5 := fr_stays F4 st5
      dsimp only
      walk_at "my walk"
      have up : ∀ {b : Addr}, h4.get? b = none → s.heap.get? b = none := fun {b} e => by
        cases q : s.heap.get? b with
        | none => rfl
        | some o => rw [F4.keep _ _ q] at e; cases e
      exact h x2 dx2 o2 _ h5 _ F5.keep (up n1) (up n2) ne ⟨a1, a2, a3, a4, a5, a6, (fun z hz => kk.mono (wk z hz) fun b o _ _ e _ => st5 b o e), lo⟩ hcnt hwl fun v hv => by
        obtain ⟨z', hz', e1, e2⟩ := wz v hv
        obtain ⟨z'', hz'', e3, e4⟩ := zx z' hz'
        exact ⟨z'', hz'', e3.trans e1, e4.trans e2⟩
end
end Mine
end
-- K11
section
open PySem PySem.W PySem.W.X PyProof.Rows PySem.Calls
set_option maxRecDepth 100000
set_option maxHeartbeats 1000000
namespace Mine
theorem fillK11 : PySem.Challenge.rw_ah5040_01 = PySem.Challenge.rw_ah5040_01 ∧ Mine.hd.heap_39 = Mine.hd.heap_39 := by
  k_fill
  exact ⟨rfl, rfl⟩
local macro_rules | `(tactic| walk_at "my S") => `(tactic| (refine wpAny_call ?_; refine' enterS ?k3 ?k5 ?k6 ?k7 ?k8 ?k9 ?kB ?_ ?c2 ?c3 ?c4 ?c5; (case k3 => k_asm); (case k5 => k_asm); (case k6 => k_is); (case k7 => k_is); (case k8 => k_room); (case k9 => first | exact BindsTo.of_eq rfl | exact binds_K (by k_in) rfl (by k_is) rfl rfl rfl); (case kB => exact locs rfl); (case c5 => decide); (case c2 => exact rfl); (case c3 => exact rfl); (case c4 => exact rfl)))
local macro_rules | `(tactic| walk_at "my V") => `(tactic| (refine wpAny_call ?_; refine' enterV ?k3 ?k5 ?k6 ?k7 ?k8 ?kP ?kG ?kB ?_ ?c2 ?c3 ?c4 ?c5; (case k3 => k_asm); (case k5 => k_asm); (case k6 => k_is); (case k7 => k_is); (case k8 => k_room); (case kP => exact rfl); (case kG => exact fun _ => rfl); (case kB => exact fun _ => locs rfl); (case c5 => decide); (case c2 => exact rfl); (case c3 => exact rfl); (case c4 => exact rfl)))
local macro_rules | `(tactic| k_inst) => `(tactic| (refine' InstAt_of_get ?a ?b; (case a => exact Fr.keep (by k_asm) _ _ (by assumption)); (case b => exact Fr.keep (by k_asm) _ _ (by assumption))))
local macro_rules | `(tactic| walk_at "eval Call Attribute") => `(tactic| (k_here; (with_reducible show wpAny _ _ (eval (Expr.Call (Expr.Attribute _ _ _) [Expr.Starred _ _] [] _) _) _ _ _); refine starMethod ?_))
local macro_rules | `(tactic| walk_at "getAttr ref") => `(tactic| (k_here; k_dflt (refine' attr_sm ?k1 ?k2 ?k4 ?k5 ?k6 ?k7 ?k9 ?k10 ?k11 ?k12 ?k13 ?k14 ?_; (case k1 => k_asm); (case k2 => k_asm); (case k4 => k_inst); (case k5 => k_is); (case k6 => k_is); (case k7 => k_is); (case k9 => k_is); (case k10 => k_is); (case k11 => decide +kernel); (case k12 => k_get); (case k13 => k_is); (case k14 => k_handed); k_whole)))
local macro_rules | `(tactic| walk_at "callWith ref") => `(tactic| (k_here; (with_reducible show wpAny _ _ (callWith _ (Value.ref _) _ (backTo _ (starEach [Expr.Starred _ _] _)) []) _ _ _); k_dflt (refine' callWith_SM ?k1 ?k2 ?k3 ?k4 ?_; (case k1 => k_asm); (case k2 => k_asm); (case k3 => k_mem); (case k4 => k_is); k_whole)))
local macro_rules | `(tactic| walk_at "callWith ref") => `(tactic| (k_here; (with_reducible show wpAny _ _ (callWith _ (Value.ref _) _ (backTo _ (starEach [Expr.Starred _ _] _)) []) _ _ _); k_dflt (refine' callWith_SI ?k1 ?k2 ?k3 ?k4 ?_; (case k1 => k_in); (case k2 => k_inst); (case k3 => rfl); (case k4 => k_is); k_whole)))
local macro_rules | `(tactic| walk_at "my drop") => `(tactic| (repeat (first | ((rename News _ _ _ _ => Nx); clear Nx) | ((rename Fr _ _ _ _ => Fx); clear Fx))))
local macro_rules | `(tactic| walk_at "my stops") => `(tactic| ((fail_if_success (with_reducible show wpAny _ _ (call (Value.builtin "all") _) _ _ _)); (fail_if_success (with_reducible show wpAny _ _ (call (Value.builtin "max") _) _ _ _)); (fail_if_success (with_reducible show wpAny _ _ (call (Value.ref _) _) _ _ _)); (fail_if_success (with_reducible show wpAny _ _ (call (Value.type "map") _) _ _ _)); (fail_if_success (with_reducible show wpAny _ _ (exec (PySem.Stmt.For _ _ _ _ _) _) _ _ _)); (fail_if_success (with_reducible show wpAny _ _ (setItem _ _ _) _ _ _)); (fail_if_success (with_reducible show wpAny _ _ (subscriptTail _ _ _ _) _ _ _)); (fail_if_success (with_reducible show wpAny _ _ (getMethod (Value.ref _) _ _) _ _ _)); (fail_if_success (with_reducible show wpAny _ _ (call (Value.builtin "dict.get") _) _ _ _)); (fail_if_success (with_reducible show wpAny _ _ (call (Value.builtin "dict.values") _) _ _ _)); (fail_if_success (with_reducible show wpAny _ _ (call (Value.builtin "sum") _) _ _ _)); (fail_if_success (with_reducible show Exists _))))
local macro_rules | `(tactic| walk_at "my walk") => `(tactic| (repeat' (walk_at "my stops"; first | (k_unfold; (try dsimp only)) | walk1 | (dsimp only; first | walk1 | (k_unfold; try dsimp only)) | (leave1; walk_say "STEP leave1"; try dsimp only))))
section
variable {w : World} {s : Shared} {p : Program} {loose : List Str} {mg mb : Str → Option Value} {base : Heap} {outer : List Env} {gd : Option (List Code)} {A₀ : Around} {Q E : Value → Shared → Prop}

theorem preSum_con {K : Type} [DecidableEq K] (xs : Con K) (f : K → Nat) : ∀ n, n ≤ xs.length → preSum (fun i => match xs[i]? with | some y => ((f y.1 : Nat) : Int) | none => 0) n = ((((xs.take n).map fun y => f y.1).sum : Nat) : Int)
  | 0, _ => rfl
  | n + 1, h => by
    have ih := preSum_con xs f n (by omega)
    have hn : n < xs.length := by omega
    rw [List.take_add_one, List.getElem?_eq_getElem hn, List.map_append, List.sum_append]
    show preSum _ n + _ = _
    rw [ih]
    simp [List.getElem?_eq_getElem hn]
theorem ga_args3 (a b c : Value) : argsOk "getattr" ⟨[a, b, c], []⟩ := by unfold argsOk; kernel_rfl
def nameFits (K : Frag) (C : Addr) : Bool := (clsIn K C).any fun cd => decide (cd.name.cps.foldl (fun k c => k + (Str.utf8Of c).length) 0 ≤ 100) && decide ((s!"'{cd.name.toString}' object has no attribute '").length ≤ 90)
theorem getattr_miss {prog : Program} {A : Around} {K : Frag} {x C : Addr} {ox : Obj} {od : Option Obj} {name : Str} {t : Tok} {dflt : Value} (X : K.In s.heap) (I : InstAt s.heap x ox C od) (hga : findIn K (.ref C) "__getattribute__" = some (some (.builtin "object.__getattribute__")))
    (hf : findObj K C od name = some .missing) (hk : findIn K (.ref C) "__getattr__" = some none) (hn : nameFits K C = true) (hm : subIn K (.ref C) (.type "module") = some false) (hh : A.handled = none) (hg : (name != ("get_source" : Str)) = true) (hsz : name.length + 100 ≤ sizeLine)
    (ht : ∀ v : Value, someArgs "getattr" 2 3 ⟨[.ref x, .str name t, v], []⟩ = pure [.ref x, .str name t, v])
    (h : ∀ h' tk, s.heap.StaysIn h' → Q dflt { s with heap := h', toks := tk }) : wpAny (model prog w) A (call (.builtin "getattr") [.ref x, .str name t, dflt]) Q E s := by
  obtain ⟨hp, g, d, tk, os⟩ := s
  obtain ⟨cd, hcd, hn2⟩ := any_some hn
  rw [Bool.and_eq_true, decide_eq_true_iff, decide_eq_true_iff] at hn2
  have L0 := I.type (M := model prog w)
  have L1 := looks_findIn (M := model prog w) X hga
  have L2 := looks_findIn (M := model prog w) X hk
  have L3 := looks_find (M := model prog w) X I hf
  have LC := looks_clsIn (M := model prog w) X hcd
  have LM : Looks (model prog w) hp (isInstance (.ref x) (.type "module")) false := L0.andThen (looks_subIn X hm)
  refine Calls.call_function_entry KB.kind_getattr KB.plain_getattr KB.entry_getattr (ga_args3 _ _ _) ?_
  unfold Builtin.«getattr»
  refine wpAny_bind (wpAny_of_eq (ht dflt) ?_)
  dsimp only
  refine wpAny_bind (wpAny_of_eq (a := ()) (by first | rfl | kernel_rfl) ?_)
  refine wpAny_bind ?_
  k_node
  (try dsimp only)
  rw [if_pos hg]
  refine wpAny_pure ?_
  (try dsimp only)
  refine wpAny_bind ?_
  k_delta "optionalOnAModule"
  (try dsimp only)
  refine wpAny_bind (wpAny_of_eq (a := some name) (by first | rfl | kernel_rfl) ?_)
  (try dsimp only)
  refine wpAny_bind (LM.at ?_)
  simp only [Bool.not_false, if_true]
  refine wpAny_pure ?_
  simp only [show ((0 : Nat) == 1) = false from rfl, Bool.false_eq_true, if_false]
  refine wpAny_bind ?_
  unfold getAttrBy?
  refine wpAny_bind (wpAny_attempt ?_)
  unfold getAttrBy
  refine wpAny_holding (wpAny_bind (L0.at (wpAny_bind (L1.at ?_))))
  show wpAny _ _ (getAttrEveryday _ _ _) _ _ _
  have err : ∀ (A' : Around), A'.handled = none → ∀ (Q' : Fin → Shared → Prop), wpAny (model prog w) A' (Builtin.«proto.getattr_hooked» ⟨[.ref x, .str name t], []⟩) Q' (fun e s' => ∃ a h' tk', e = .ref a ∧ s' = ⟨h', g, d, tk', os⟩ ∧ Heap.NewAttrErr hp h' a (.ref x) name) ⟨hp, g, d, tk, os⟩ := by
    intro A' hA Q'
    unfold Builtin.«proto.getattr_hooked»
    refine wpAny_bind (wpAny_pure (wpAny_bind (L0.at (wpAny_bind (L3.at ?_)))))
    refine wpAny_bind (L2.at ?_)
    show wpAny _ _ (Builtin.ObjectAttr.noSuchAttribute (.ref x) name) _ _ _
    unfold Builtin.ObjectAttr.noSuchAttribute
    refine wpAny_bind ?_
    unfold typeNameOfCut shownTypeOf
    refine wpAny_bind (wpAny_bind (L0.at ?_))
    rw [if_neg (fun q => by cases beq_iff_eq.mp q)]
    refine wpAny_pure ?_
    unfold typeNameCut
    (try dsimp only)
    refine wpAny_bind (LC.at ?_)
    rw [if_pos hn2.1]
    refine wpAny_pure ?_
    exact wpAny_raiseAttrError hA (fun h' tk' e ne => ⟨e, h', tk', rfl, rfl, ne⟩) (attrMsg_fits hn2.2 hsz)
  unfold getAttrEveryday
  refine wpAny_bind (wpAny_onRaise (wpAny_runValue (codeAny_builtin PySem.F.plainObj_entry_getattr_hooked (wpAny_mono (err _ (by exact hh) (fun _ _ => False)) (fun _ _ z => z.elim) fun e s' z => ?_))))
  obtain ⟨a, h', tk', rfl, rfl, ne⟩ := z
  refine wpAny_pure ?_
  obtain ⟨t', u', he⟩ := ne.there
  show wpAny _ _ (isInstance (.ref a) (.type "AttributeError") >>= _) _ _ _
  refine wpAny_bind (wpAny_isInstance (T := "AttributeError") (b := true) ⟨_, he, rfl⟩ sub_AttributeError ?_)
  simp only [if_true]
  refine wpAny_pure ?_
  (try dsimp only)
  simp only [show ((0 : Nat) == 2) = false from rfl, Bool.false_eq_true, if_false]
  exact wpAny_pure ⟨_, rfl, h _ _ ne.keeps⟩
theorem countC {K : Type} [DecidableEq K] {kk : KK PySem.Challenge.rw_ah5040_01.prog w K} {se dse x dx : Addr} {q1 q3 : Int} {t1 t3 tq : Tok} {vx : Value} {ep q : Nat} {o : Obj} {xs : Con K} {f : K → Nat}
    (X : (Mine.hd.heap_39 w.params).In s.heap) (T : TopRead p loose mg mb s.heap) (c : Ctr kk s.heap x dx o xs) (hf : CntOf xs f)
    (h0 : s.heap.get? se = some ⟨.ref 304, some dse, .plain, #[]⟩) (h9 : s.heap.get? dse = some (dictOf [⟨q1, .str (Str.ofString "qval") t1, .int (q : Nat) tq⟩, ⟨q3, .str (Str.ofString "external") t3, vx⟩] ep))
    (h : ∀ t h' tk', s.heap.StaysIn h' → Q (.int (((xs.map fun y => f y.1).sum : Nat) : Int) t) { s with heap := h', toks := tk' }) :
    wpAny (model PySem.Challenge.rw_ah5040_01.prog w) (QD 50 outer gd) (call (.ref 198) [.ref se, .ref x]) Q E s := by
  walk_at "my S"
  intro L' h' F' N'
  (try dsimp only); (show wpAny _ _ _ _ _ _); k_fold
  walk_at "my walk"
  have X1 := X.keeps F'.keep
  have c1 := c.stays F'.keep
  refine getattr_miss (K := Mine.hd.heap_39 w.params) (od := some (dictOf [⟨q1, .str (Str.ofString "qval") t1, .int (q : Nat) tq⟩, ⟨q3, .str (Str.ofString "external") t3, vx⟩] ep)) (C := 304) X1 ⟨F'.keep _ _ h0, rfl, rfl, F'.keep _ _ h9⟩ (by k_is) (by first | rfl | kernel_rfl | with_unfolding_all rfl) (by k_is) (by first | rfl | kernel_rfl) (by k_is) rfl (by decide +kernel) (by rw [sizeLine_eq]; decide) (fun v => by first | rfl | kernel_rfl) fun h2 tk2 st2 => ?_
  have F2 := fr_stays F' st2
  have c2 := c1.stays st2
  dsimp only
  walk_at "my walk"
  refine ctr_values X F2.keep c2.at_ c2.cls c2.dict c2.no c2.dx ?_
  dsimp only
  walk_at "my walk"
  refine values_D c2.at_ (c2.cl X) F2.keep c2.lo ?_
  have hv : (h2.push { cls := .type "dict_values", data := .fields #[.ref x] }).get? h2.objs.size = some { cls := .type "dict_values", data := .fields #[.ref x] } := Heap.get?_push_size _ rfl
  have F3 := F2.push { cls := .type "dict_values", data := .fields #[.ref x] }
  have N3 : News s.heap L' (h2.push { cls := .type "dict_values", data := .fields #[.ref x] }) [] := News.nil
  have k3 : h2.StaysIn (h2.push { cls := .type "dict_values", data := .fields #[.ref x] }) := fun b o e => Heap.get?_push_of_some _ e
  have c3 := c2.stays k3
  generalize h2.push { cls := .type "dict_values", data := .fields #[.ref x] } = h3 at hv F3 N3 k3 c3
  dsimp only
  walk_at "my walk"
  obtain ⟨es, ep', hdat, hes, hnd⟩ := c3.eo
  have hlen : es.size = xs.length := by rw [← Array.length_toList, hes, List.length_map]
  refine kdu_sum (src_vals (r := h2.objs.size) (d := x) (es := es) (ep := ep')) rfl F3 N3 ⟨⟨_, hv, rfl, rfl⟩, ⟨o, c3.at_, hdat⟩⟩ (fun i => match xs[i]? with | some y => ((f y.1 : Nat) : Int) | none => 0) (fun i v ⟨e, he, hv⟩ => ?_) fun h4 tk4 t4 F4 N4 => ?_
  · rw [← Array.getElem?_toList, hes, List.getElem?_map] at he
    cases q : xs[i]? with
    | none => rw [q] at he; cases he
    | some y =>
      rw [q] at he; cases he
      obtain ⟨t, ht⟩ := (hf y.1).2 (hf.pos y (List.mem_of_getElem? q))
      rw [cAt_of_get hnd (j := i) (k := y.1) (p := y.2) q] at ht
      exact ⟨t, by rw [hv]; exact Option.some.inj ht⟩
  · rw [hlen, preSum_con xs f _ (Nat.le_refl _), List.take_length]
    dsimp only
    walk_at "my walk"
    exact h _ _ _ F4.keep
end
end Mine
end
-- G1
section
open PySem PySem.W PySem.W.X PyProof.Rows PySem.Calls
set_option maxRecDepth 100000
set_option maxHeartbeats 1000000
namespace Mine
theorem genCode_any {M : Model} {A : Around} {E : Value → Shared → Prop} {s : Shared} {env : Env} {c P : Addr} {ps : Array Value} {pos : Pos} {qualname : Str} {scope : Scope}
    {Q : Value → Shared → Prop} (hc : env.code = .ref c) (hok : s.heap.IsCode c P ps) (htab : s.heap.TableAt c P ps)
    (hQ : ∀ code h' tk more, Heap.ExtBut P s.heap h' → s.heap.objs.size ≤ h'.objs.size → h'.IsCode c P (ps ++ more) → h'.TableAt c P (ps ++ more) → Q code { s with heap := h', toks := tk }) :
    wpAny M A (genexprCode env pos qualname scope) Q E s := by
  cases hnf : codeAmong pos ps.toList with
  | none => exact wpAny_genexprCodeX hc hok htab hnf fun c' h' tk hx hge hlt hcode _ ht _ => hQ _ h' tk _ hx (Nat.le_trans hge (Nat.le_of_lt hlt)) hcode ht
  | some cv =>
    obtain ⟨o, vs, file, tf, flags, tg, inF, text, tt, op, ho, hd, h11, h2, h7, h9, h10, hop, hpd, htr, hne⟩ := id hok
    unfold genexprCode codeAt
    rw [hc, if_neg (show ¬ ((Value.ref c == Value.none) = true) from Bool.false_ne_true)]
    refine wpAny_bind (wpAny_fieldsOf ho hd ?_)
    rw [h11]
    refine wpAny_bind (wpAny_fieldsOf hop hpd ?_)
    rw [hnf]
    exact wpAny_pure (hQ cv s.heap s.toks #[] (Heap.ExtBut.refl _ _) (Nat.le_refl _) (by rw [Array.append_empty]; exact hok) (by rw [Array.append_empty]; exact htab))
section
variable {prog : Program} {w : World} {A : Around} {E : Value → Shared → Prop} {s : Shared} {h₁ h₀ : Heap} {c P L : Addr} {ps : Array Value} {m mg : Str → Option Value} {bm : Addr} {ob : Obj}

theorem genExp_any {env : Env} {elt iter : Expr} {x : Str} {px : Pos} {ifs : List Expr} {scope : Scope} {cl : List (Str × Addr)} {pos : Pos} {Q : Value → Shared → Prop}
    (B : Based h₁ h₀ c P ps) (M : BMod h₀ env.globals mg bm ob) (hcode : env.code = .ref c) 
    (hh : A.handled = none) (hco : scope.isCoroutine = false) (hclos : closureFor scope env = pure cl) (hcell : ∀ y ∈ scope.names, y.2 ≠ .cell) (h0 : scope.names.lookup (".0" : Str) = some NameKind.local)
    (hx : scope.names.lookup x = some .local) (hkind : scope.kind = .function) (hroom : A.depth < recursionLimit)
    (h : wpAny (model prog w) A (eval iter env) (fun xv s₁ => wpAny (model prog w) A (pyIter xv) (fun it s₂ => Fr h₀ L s₂.heap m ∧ AllBare s₂.gens ∧ s₂.heap.NoLimit ∧
      ∃ K I fp wr n₀ Pi St₀, ∃ (pz : Nat → Bool) (F : Nat → Value → Prop), L ≤ K ∧ K < s₂.heap.objs.size ∧ it = .ref I ∧ (∀ A' : Around, A'.handled = none → Walks prog w A' I fp wr n₀ Pi St₀) ∧ St₀ 0 s₂.heap ∧ (∀ b ∈ fp, b < s₂.heap.objs.size) ∧ P ∉ fp ∧ (∀ b ∈ wr, K < b) ∧
        (∀ (code : Value) (more : Array Value) (C : Addr) (A' : Around) E' i v (t : Shared) m₂, A'.handled = none → A'.depth ≤ A.depth + 1 → A'.units ≤ A.units + 8 → Pi i v → Fr (regrown h₀ P (ps ++ more)) C t.heap m₂ → m₂ x = some v → L < C →
          (∀ b o, b ≠ P → b ∉ wr → s₂.heap.get? b = some o → t.heap.get? b = some o) →
          wpAny (model prog w) A' (forIn ifs true fun c r => if r = true then do let ok ← isTrue c (genEnv scope cl C code builtinsNs env) (eval c (genEnv scope cl C code builtinsNs env)); pure (ForInStep.yield ok) else pure (ForInStep.yield r))
            (fun ok s₃ => ok = pz i ∧ Keeps t s₃) E' t) ∧
        (∀ (code : Value) (more : Array Value) (C : Addr) (A' : Around) E' i v (t : Shared) m₂, A'.handled = none → A'.depth ≤ A.depth + 1 → A'.units ≤ A.units + 8 → Pi i v → pz i = true → Fr (regrown h₀ P (ps ++ more)) C t.heap m₂ → m₂ x = some v → L < C →
          (∀ b o, b ≠ P → b ∉ wr → s₂.heap.get? b = some o → t.heap.get? b = some o) →
          wpAny (model prog w) A' (eval elt (genEnv scope cl C code builtinsNs env)) (fun y s₃ => F i y ∧ Keeps t s₃) E' t) ∧
        (∀ (code : Value) (more : Array Value) (a : Addr) (s₅ : Shared), Based h₁ (regrown h₀ P (ps ++ more)) c P (ps ++ more) →
          Fr (regrown h₀ P (ps ++ more)) L s₅.heap m → AllBare s₅.gens → s₅.os = s₂.os → (∀ b o, b ≠ P → s₂.heap.get? b = some o → s₅.heap.get? b = some o) →
          Gen prog w A K a (passing pz n₀ 0).length (fun j y => ∃ i, (passing pz n₀ 0)[j]? = some i ∧ F i y) s₅ → Q (.ref a) s₅)) E s₁) E s)
    (hs : ∀ x, genFold iter env x = pure x) :
    wpAny (model prog w) A (eval (.GeneratorExp elt [⟨.Name x px, iter, ifs, 0⟩] scope pos) env) Q E s := by
  refine wpAny_GeneratorExp_walksQD hh hco hclos hcell h0 hx hkind hroom (wpAny_mono h (fun xv s₁ h₁' => wpAny_mono h₁' (fun it s₂ h₂ => ?_) fun _ _ e => e) fun _ _ e => e) hs
  obtain ⟨F₂, G₂, hlim, K, I, fp, wr, n₀, Pi, St₀, pz, F, hKL, hLlt, rfl, W₀, hst, hfp, hPf, hwr, hq1, hq2, hQ⟩ := h₂
  refine ⟨hlim, genCode_any hcode (B.codeAt F₂) (B.tabAt F₂) fun code h₃ tk₃ more hx₃ hsz hcode₃ htab₃ => ?_⟩
  obtain ⟨B₃, F₃⟩ := B.grow F₂ hx₃ hcode₃ htab₃
  have M₃ : BMod h₃ env.globals mg bm ob := (M.keeps F₂.keep).extBut (B.tabAt F₂) hx₃
  have hcP : cStatics ≠ P := fun e => by
    obtain ⟨_, hns, _⟩ := hlim
    obtain ⟨o, es, ep, ho, hd, _⟩ := hns
    rw [e, (B.tabAt F₂).2] at ho; cases ho; cases hd
  have hl₃ : h₃.NoLimit := hlim.extBut hx₃ hcP
  have hcw : cStatics ∉ wr := fun hm => by
    have h1 : L < cStatics := Nat.lt_of_le_of_lt hKL (hwr _ hm)
    have hL : L ≤ 1 := Nat.le_of_lt_succ h1
    have hb : bm < 1 := Nat.lt_of_lt_of_le (Heap.lt_size M.obj) (Nat.le_trans F₂.above hL)
    exact M.ne (Nat.lt_one_iff.mp hb)
  refine wpAny_builtinsFor M₃.ns M₃.name M₃.ne M₃.obj M₃.cls M₃.dict M₃.data ?_
  refine ⟨I, fp, wr, n₀, Pi, St₀, pz, F, rfl, W₀, (W₀ A hh).frame _ _ _ hst (fun b hb o e => hx₃ b o (fun e' => hPf (e' ▸ hb)) e), (fun b hb => Nat.lt_of_lt_of_le (hfp b hb) hsz), hl₃, hcw,
    (fun href hhref => ?_), fun a h₅ tk gs hgb hag hsz₅ hk₅ W hat => ?_⟩
  ·
    have hLC : L < h₃.objs.size := Nat.lt_of_lt_of_le F₂.ns.lt hsz
    have inB : ∀ (t : Shared) m₂, t.heap.Ns h₃.objs.size m₂ → (∀ b ∈ List.range h₃.objs.size, b ∉ wr → ∀ o, href.get? b = some o → t.heap.get? b = some o) →
        Fr (regrown h₀ P (ps ++ more)) h₃.objs.size t.heap m₂ ∧ ∀ b o, b ≠ P → b ∉ wr → s₂.heap.get? b = some o → t.heap.get? b = some o := fun t m₂ hn hkp =>
      ⟨⟨hn, fun b o e => hkp b (List.mem_range.mpr (Heap.lt_size (F₃.keep b o e))) (fun hm => Nat.lt_irrefl _ (Nat.lt_trans (Nat.lt_of_lt_of_le (Heap.lt_size e) F₃.above) (Nat.lt_of_le_of_lt hKL (hwr b hm)))) o (hhref b o (F₃.keep b o e)),
          Nat.le_trans F₃.above (Nat.le_of_lt hLC)⟩,
        fun b o hbP hbw e => hkp b (List.mem_range.mpr (Heap.lt_size (hx₃ b o hbP e))) hbw o (hhref b o (hx₃ b o hbP e))⟩
    exact ⟨fun A' E' i v t m₂ hA hD hU hP hn hm hkp => hq1 code more _ A' E' i v t m₂ hA hD hU hP (inB t m₂ hn hkp).1 hm hLC (inB t m₂ hn hkp).2,
      fun A' E' i v t m₂ hA hD hU hP hp hn hm hkp => hq2 code more _ A' E' i v t m₂ hA hD hU hP hp (inB t m₂ hn hkp).1 hm hLC (inB t m₂ hn hkp).2⟩
  refine hQ code more a _ B₃ (F₃.keeps hk₅) (G₂.push hgb) rfl (fun b o hb e => hk₅ b o (hx₃ b o hb e)) ⟨_, _, _, _, W, hat, (fun i s' st => st.1.typeIs), List.mem_cons_self, ?_, ?_⟩
  · intro b hb
    show b < h₅.objs.size
    rw [hsz₅]
    rcases List.mem_cons.mp hb with rfl | hb
    · exact Nat.lt_succ_self _
    · rcases List.mem_cons.mp hb with rfl | hb
      · exact Nat.lt_succ_of_lt hag
      · exact Nat.lt_succ_of_lt (Nat.lt_trans (List.mem_range.mp hb) hag)
  · intro b hb
    rcases List.mem_cons.mp hb with rfl | hb
    · exact Nat.lt_of_lt_of_le hLlt hsz
    · exact hwr b hb


end
end Mine
end
-- G2
section
open PySem PySem.W PySem.W.X PyProof.Rows PySem.Calls
set_option maxRecDepth 100000
set_option maxHeartbeats 1000000
namespace Mine
/-- a code and its table of places -/
def Tab (h : Heap) (c P : Addr) : Prop := ∃ ps, h.IsCode c P ps ∧ h.TableAt c P ps
theorem Tab.stays {h h' : Heap} {c P : Addr} (x : Tab h c P) (k : h.StaysIn h') : Tab h' c P := let ⟨ps, a, b⟩ := x; ⟨ps, a.keeps k, b.keeps k⟩
theorem Tab.but {h h' : Heap} {c P R : Addr} (x : Tab h c P) (k : ∀ b o, b ≠ R → h.get? b = some o → h'.get? b = some o) (h1 : c ≠ R) (h2 : P ≠ R) : Tab h' c P := by
  obtain ⟨ps, ⟨o, vs, file, tf, flags, tg, inF, text, tt, op, a, r1, r2, r3, r4, r5, r6, b, r⟩, ⟨⟨o', vs', a', r'⟩, b'⟩⟩ := x
  exact ⟨ps, ⟨o, vs, file, tf, flags, tg, inF, text, tt, op, k _ _ h1 a, r1, r2, r3, r4, r5, r6, k _ _ h2 b, r⟩, ⟨⟨o', vs', k _ _ h1 a', r'⟩, k _ _ h2 b'⟩⟩
/-- what the walk needs to know of a heap -/
structure Gr (w : World) (p : Program) (loose : List Str) (mg mb : Str → Option Value) (h : Heap) : Prop where
  X : (Mine.hd.heap_39 w.params).In h
  T : TopRead p loose mg mb h
  M : ∃ bm ob, BMod h mainGlobals mg bm ob
  t1 : Tab h 169 167
  t2 : Tab h 300 296
section
variable {w : World} {p : Program} {loose : List Str} {mg mb : Str → Option Value} {h h' h₁ : Heap}
theorem Gr.stays (x : Gr w p loose mg mb h) (k : h.StaysIn h') : Gr w p loose mg mb h' :=
  ⟨x.X.keeps k, x.T.keeps k, let ⟨bm, ob, m⟩ := x.M; ⟨bm, ob, m.keeps k⟩, x.t1.stays k, x.t2.stays k⟩
theorem cls39 (w : World) : kb_classed (Mine.hd.heap_39 w.params) = true := by first | rfl | kernel_rfl
theorem Gr.grown {L : Addr} {m : Str → Option Value} {hh : Heap} {c P : Addr} {ps ps' : Array Value} (x : Gr w p loose mg mb h) (B : Based h₁ h c P ps) (B' : Based h₁ (regrown h P ps') c P ps') (F : Fr (regrown h P ps') L hh m) (hc : (c = 169 ∧ P = 167) ∨ (c = 300 ∧ P = 296)) : Gr w p loose mg mb (regrown h P ps') := by
  have ho : ∀ b o, b ≠ P → h.get? b = some o → (regrown h P ps').get? b = some o := fun b o hb e => (Heap.get?_update_other _ _ (Ne.symm hb)).trans e
  refine ⟨kb_in_regrown B x.X x.T.g (cls39 w), LGe.top_regrown F x.T B, let ⟨bm, ob, m⟩ := x.M; ⟨bm, ob, m.regrown B⟩, ?_, ?_⟩
  · rcases hc with ⟨rfl, rfl⟩ | ⟨rfl, rfl⟩
    · exact ⟨_, B'.code, B'.tab⟩
    · exact x.t1.but ho (by decide) (by decide)
  · rcases hc with ⟨rfl, rfl⟩ | ⟨rfl, rfl⟩
    · exact x.t2.but ho (by decide) (by decide)
    · exact ⟨_, B'.code, B'.tab⟩
theorem Gr.based (x : Gr w p loose mg mb h) {c P : Addr} (t : Tab h c P) (hP : P ≠ cStatics) : ∃ ps, Based h h c P ps := let ⟨ps, a, b⟩ := t; ⟨ps, .start a b hP⟩
end
end Mine
end
-- G3
section
open PySem PySem.W PySem.W.X PyProof.Rows PySem.Calls
set_option maxRecDepth 100000
set_option maxHeartbeats 1000000
namespace Mine
section
variable {prog : Program} {w : World} {A : Around} {E : Value → Shared → Prop} {s : Shared} {h₁ h₀ : Heap} {c P L : Addr} {ps : Array Value} {m mg : Str → Option Value} {bm : Addr} {ob : Obj}
theorem passing_all (n : Nat) : passing (fun _ => true) n 0 = List.range n := by simp [passing]
/-- a generator expression over a tuple or a list, its body calling what it likes as long as it keeps the heap -/
theorem genExp_seq {env : Env} {elt iter : Expr} {x : Str} {px : Pos} {scope : Scope} {cl : List (Str × Addr)} {pos : Pos} {Q : Value → Shared → Prop}
    (_F : Fr h₀ L s.heap m) (B : Based h₁ h₀ c P ps) (M : BMod h₀ env.globals mg bm ob) (hcode : env.code = .ref c)
    (hh : A.handled = none) (hco : scope.isCoroutine = false) (hclos : closureFor scope env = pure cl) (hcell : ∀ y ∈ scope.names, y.2 ≠ .cell) (h0 : scope.names.lookup (".0" : Str) = some NameKind.local)
    (hx : scope.names.lookup x = some .local) (hkind : scope.kind = .function) (hroom : A.depth < recursionLimit)
    (h : wpAny (model prog w) A (eval iter env) (fun xv s₁ => ∃ l items F, xv = .ref l ∧ (s₁.heap.IsTuple l items ∨ s₁.heap.IsList l items) ∧ Fr h₀ L s₁.heap m ∧ AllBare s₁.gens ∧ s₁.heap.NoLimit ∧
        (∀ (code : Value) (more : Array Value) (C : Addr) (A' : Around) E' i v (t : Shared) m₂, A'.handled = none → A'.depth ≤ A.depth + 1 → A'.units ≤ A.units + 8 → items[i]? = some v → Fr (regrown h₀ P (ps ++ more)) C t.heap m₂ → m₂ x = some v → L < C →
          (∀ b o, b ≠ P → s₁.heap.get? b = some o → t.heap.get? b = some o) →
          wpAny (model prog w) A' (eval elt (genEnv scope cl C code builtinsNs env)) (fun y s₃ => F i y ∧ Keeps t s₃) E' t) ∧
        (∀ (code : Value) (more : Array Value) (a : Addr) (s₅ : Shared), Based h₁ (regrown h₀ P (ps ++ more)) c P (ps ++ more) →
          Fr (regrown h₀ P (ps ++ more)) L s₅.heap m → AllBare s₅.gens → s₅.os = s₁.os → (∀ b o, b ≠ P → s₁.heap.get? b = some o → s₅.heap.get? b = some o) →
          Gen prog w A (s₁.heap.objs.size - 1) a items.size F s₅ → Q (.ref a) s₅)) E s)
    (hs : ∀ x, genFold iter env x = pure x) :
    wpAny (model prog w) A (eval (.GeneratorExp elt [⟨.Name x px, iter, [], 0⟩] scope pos) env) Q E s := by
  refine genExp_any (L := L) (m := m) B M hcode hh hco hclos hcell h0 hx hkind hroom (wpAny_mono h (fun xv s₁ h₂ => ?_) fun _ _ e => e) hs
  obtain ⟨l, items, F, rfl, hsrc, F₁, G₁, hlim, hbody, hQ⟩ := h₂
  have hPlt : P < s₁.heap.objs.size := Heap.lt_size (B.tabAt F₁).2
  have hlP : l ≠ P := fun e => by
    have h2 := (B.tabAt F₁).2
    rcases hsrc with ⟨o, ho, hc, _⟩ | ⟨o, ho, hc, _⟩ <;>
    · rw [e, h2] at ho; cases ho; exact absurd hc (by simp)
  have main : ∀ (T : String) (fp : List Addr) (St : Nat → Heap → Prop), (∀ A' : Around, A'.handled = none → Walks prog w A' s₁.heap.objs.size fp [s₁.heap.objs.size] items.size (fun i v => items[i]? = some v) St) →
      St 0 (s₁.heap.push { cls := .type T, data := .fields #[.ref l, .int 0 0] }) → fp = [s₁.heap.objs.size, l] →
      (Fr h₀ L (s₁.heap.push { cls := .type T, data := .fields #[.ref l, .int 0 0] }) m ∧ AllBare s₁.gens ∧ (s₁.heap.push { cls := .type T, data := .fields #[.ref l, .int 0 0] }).NoLimit ∧
      ∃ K I fp wr n₀ Pi St₀, ∃ (pz : Nat → Bool) (F' : Nat → Value → Prop), L ≤ K ∧ K < (s₁.heap.push { cls := .type T, data := .fields #[.ref l, .int 0 0] }).objs.size ∧ Value.ref s₁.heap.objs.size = .ref I ∧ (∀ A' : Around, A'.handled = none → Walks prog w A' I fp wr n₀ Pi St₀) ∧ St₀ 0 (s₁.heap.push { cls := .type T, data := .fields #[.ref l, .int 0 0] }) ∧ (∀ b ∈ fp, b < (s₁.heap.push { cls := .type T, data := .fields #[.ref l, .int 0 0] }).objs.size) ∧ P ∉ fp ∧ (∀ b ∈ wr, K < b) ∧
        (∀ (code : Value) (more : Array Value) (C : Addr) (A' : Around) E' i v (t : Shared) m₂, A'.handled = none → A'.depth ≤ A.depth + 1 → A'.units ≤ A.units + 8 → Pi i v → Fr (regrown h₀ P (ps ++ more)) C t.heap m₂ → m₂ x = some v → L < C →
          (∀ b o, b ≠ P → b ∉ wr → (s₁.heap.push { cls := .type T, data := .fields #[.ref l, .int 0 0] }).get? b = some o → t.heap.get? b = some o) →
          wpAny (model prog w) A' (forIn ([] : List Expr) true fun c r => if r = true then do let ok ← isTrue c (genEnv scope cl C code builtinsNs env) (eval c (genEnv scope cl C code builtinsNs env)); pure (ForInStep.yield ok) else pure (ForInStep.yield r))
            (fun ok s₃ => ok = pz i ∧ Keeps t s₃) E' t) ∧
        (∀ (code : Value) (more : Array Value) (C : Addr) (A' : Around) E' i v (t : Shared) m₂, A'.handled = none → A'.depth ≤ A.depth + 1 → A'.units ≤ A.units + 8 → Pi i v → pz i = true → Fr (regrown h₀ P (ps ++ more)) C t.heap m₂ → m₂ x = some v → L < C →
          (∀ b o, b ≠ P → b ∉ wr → (s₁.heap.push { cls := .type T, data := .fields #[.ref l, .int 0 0] }).get? b = some o → t.heap.get? b = some o) →
          wpAny (model prog w) A' (eval elt (genEnv scope cl C code builtinsNs env)) (fun y s₃ => F' i y ∧ Keeps t s₃) E' t) ∧
        (∀ (code : Value) (more : Array Value) (a : Addr) (s₅ : Shared), Based h₁ (regrown h₀ P (ps ++ more)) c P (ps ++ more) →
          Fr (regrown h₀ P (ps ++ more)) L s₅.heap m → AllBare s₅.gens → s₅.os = s₁.os → (∀ b o, b ≠ P → (s₁.heap.push { cls := .type T, data := .fields #[.ref l, .int 0 0] }).get? b = some o → s₅.heap.get? b = some o) →
          Gen prog w A K a (passing pz n₀ 0).length (fun j y => ∃ i, (passing pz n₀ 0)[j]? = some i ∧ F' i y) s₅ → Q (.ref a) s₅)) := by
    rintro T fp St W st rfl
    have hlt : l < s₁.heap.objs.size := by rcases hsrc with ⟨o, ho, _⟩ | ⟨o, ho, _⟩ <;> exact Heap.lt_size ho
    have up : ∀ b o, s₁.heap.get? b = some o → (s₁.heap.push { cls := .type T, data := .fields #[.ref l, .int 0 0] }).get? b = some o := fun b o e => Heap.get?_push_of_some _ e
    have nin : ∀ b o, s₁.heap.get? b = some o → b ∉ [s₁.heap.objs.size] := fun b o e hm => Nat.lt_irrefl _ (List.mem_singleton.mp hm ▸ Heap.lt_size e)
    have hL1 : L ≤ s₁.heap.objs.size - 1 := Nat.le_sub_one_of_lt F₁.ns.lt
    have hpos : 0 < s₁.heap.objs.size := Nat.lt_of_le_of_lt (Nat.zero_le _) hlt
    refine ⟨F₁.keeps up, G₁, hlim.push _, s₁.heap.objs.size - 1, s₁.heap.objs.size, [s₁.heap.objs.size, l], [s₁.heap.objs.size], items.size, _, St, fun _ => true, F, hL1, (by rw [Heap.size_push]; exact Nat.lt_succ_of_le (Nat.sub_le _ _)), rfl, W, st, fun b hb => ?_, fun hb => ?_, fun b hb => (by rw [List.mem_singleton.mp hb]; exact Nat.sub_lt hpos Nat.one_pos), fun code more C A' E' i v t m₂ _ _ _ _ _ _ _ _ => wpAny_tests_nil ⟨rfl, t.heap, t.toks, rfl, fun _ _ e => e⟩, fun code more C A' E' i v t m₂ a1 a2 a3 a4 _ a6 a7 a8 a9 => hbody code more C A' E' i v t m₂ a1 a2 a3 a4 a6 a7 a8 fun b o hb e => a9 b o hb (nin b o e) (up b o e), fun code more a s₅ b1 b2 b3 b4 b5 b6 => hQ code more a s₅ b1 b2 b3 b4 (fun b o hb e => b5 b o hb (up b o e)) ?_⟩
    · rw [Heap.size_push]
      simp only [List.mem_cons, List.not_mem_nil, or_false] at hb
      rcases hb with rfl | rfl
      · exact Nat.lt_succ_self _
      · exact Nat.lt_succ_of_lt hlt
    · simp only [List.mem_cons, List.not_mem_nil, or_false] at hb
      rcases hb with e | e
      · exact absurd (e ▸ hPlt) (Nat.lt_irrefl _)
      · exact hlP e.symm
    · rw [passing_all, List.length_range] at b6
      refine b6.imp fun j y ⟨i, hi, hy⟩ => ?_
      obtain ⟨h1, h2⟩ := List.getElem?_eq_some_iff.mp hi
      rw [List.getElem_range] at h2
      exact h2 ▸ hy
  rcases hsrc with ht | hl
  · have hlt : l < s₁.heap.objs.size := by obtain ⟨o, ho, _⟩ := ht; exact Heap.lt_size ho
    exact wpAny_pyIter_tuple ht (main "tuple_iterator" _ _ (fun A' hA => Walks.tuple hA _ _ (Nat.ne_of_lt hlt) items) ⟨⟨_, Heap.get?_push_size _ rfl, rfl, rfl⟩, ht.push _⟩ rfl)
  · have hlt : l < s₁.heap.objs.size := by obtain ⟨o, ho, _⟩ := hl; exact Heap.lt_size ho
    exact wpAny_pyIter_list hl (main "list_iterator" _ _ (fun A' hA => Walks.list hA _ _ (Nat.ne_of_lt hlt) items) ⟨⟨_, Heap.get?_push_size _ rfl, rfl, rfl⟩, hl.push _⟩ rfl)
end
end Mine
end
-- F1
section
open PySem PySem.W PySem.W.X PyProof.Rows PySem.Calls
set_option maxRecDepth 100000
set_option maxHeartbeats 600000
namespace Mine
theorem fillF1 : PySem.Challenge.rw_ah5040_01 = PySem.Challenge.rw_ah5040_01 ∧ Mine.hd.heap_39 = Mine.hd.heap_39 := by
  k_fill
  exact ⟨rfl, rfl⟩
local macro_rules | `(tactic| walk_at "my S") => `(tactic| (refine wpAny_call ?_; refine' enterS ?k3 ?k5 ?k6 ?k7 ?k8 ?k9 ?kB ?_ ?c2 ?c3 ?c4 ?c5; (case k3 => k_asm); (case k5 => k_asm); (case k6 => k_is); (case k7 => k_is); (case k8 => k_room); (case k9 => first | exact BindsTo.of_eq rfl | exact binds_K (by k_in) rfl (by k_is) rfl rfl rfl); (case kB => exact locs rfl); (case c5 => decide); (case c2 => exact rfl); (case c3 => exact rfl); (case c4 => exact rfl)))
local macro_rules | `(tactic| walk_at "my V") => `(tactic| (refine wpAny_call ?_; refine' enterV ?k3 ?k5 ?k6 ?k7 ?k8 ?kP ?kG ?kB ?_ ?c2 ?c3 ?c4 ?c5; (case k3 => k_asm); (case k5 => k_asm); (case k6 => k_is); (case k7 => k_is); (case k8 => k_room); (case kP => exact rfl); (case kG => exact fun _ => rfl); (case kB => exact fun _ => locs rfl); (case c5 => decide); (case c2 => exact rfl); (case c3 => exact rfl); (case c4 => exact rfl)))
local macro_rules | `(tactic| k_inst) => `(tactic| (refine' InstAt_of_get ?a ?b; (case a => exact Fr.keep (by k_asm) _ _ (by assumption)); (case b => exact Fr.keep (by k_asm) _ _ (by assumption))))
local macro_rules | `(tactic| walk_at "eval Call Attribute") => `(tactic| (k_here; (with_reducible show wpAny _ _ (eval (Expr.Call (Expr.Attribute _ _ _) [Expr.Starred _ _] [] _) _) _ _ _); refine starMethod ?_))
local macro_rules | `(tactic| walk_at "getAttr ref") => `(tactic| (k_here; k_dflt (refine' attr_sm ?k1 ?k2 ?k4 ?k5 ?k6 ?k7 ?k9 ?k10 ?k11 ?k12 ?k13 ?k14 ?_; (case k1 => k_asm); (case k2 => k_asm); (case k4 => k_inst); (case k5 => k_is); (case k6 => k_is); (case k7 => k_is); (case k9 => k_is); (case k10 => k_is); (case k11 => decide +kernel); (case k12 => k_get); (case k13 => k_is); (case k14 => k_handed); k_whole)))
local macro_rules | `(tactic| walk_at "callWith ref") => `(tactic| (k_here; (with_reducible show wpAny _ _ (callWith _ (Value.ref _) _ (backTo _ (starEach [Expr.Starred _ _] _)) []) _ _ _); k_dflt (refine' callWith_SM ?k1 ?k2 ?k3 ?k4 ?_; (case k1 => k_asm); (case k2 => k_asm); (case k3 => k_mem); (case k4 => k_is); k_whole)))
local macro_rules | `(tactic| walk_at "callWith ref") => `(tactic| (k_here; (with_reducible show wpAny _ _ (callWith _ (Value.ref _) _ (backTo _ (starEach [Expr.Starred _ _] _)) []) _ _ _); k_dflt (refine' callWith_SI ?k1 ?k2 ?k3 ?k4 ?_; (case k1 => k_in); (case k2 => k_inst); (case k3 => rfl); (case k4 => k_is); k_whole)))
local macro_rules | `(tactic| walk_at "my drop") => `(tactic| (repeat (first | ((rename News _ _ _ _ => Nx); clear Nx) | ((rename Fr _ _ _ _ => Fx); clear Fx))))
local macro_rules | `(tactic| walk_at "my stops") => `(tactic| ((fail_if_success (with_reducible show wpAny _ _ (call (Value.builtin "all") _) _ _ _)); (fail_if_success (with_reducible show wpAny _ _ (call (Value.builtin "max") _) _ _ _)); (fail_if_success (with_reducible show wpAny _ _ (call (Value.ref _) _) _ _ _)); (fail_if_success (with_reducible show wpAny _ _ (call (Value.type "map") _) _ _ _)); (fail_if_success (with_reducible show wpAny _ _ (exec (PySem.Stmt.For _ _ _ _ _) _) _ _ _)); (fail_if_success (with_reducible show wpAny _ _ (call (Value.type "zip") _) _ _ _)); (fail_if_success (with_reducible show wpAny _ _ (call (Value.type "list") _) _ _ _)); (fail_if_success (with_reducible show wpAny _ _ (eval (PySem.Expr.ListComp _ _ _ _) _) _ _ _)); (fail_if_success (with_reducible show wpAny _ _ (callWith _ (Value.type "zip") _ _ _) _ _ _)); (fail_if_success (with_reducible show wpAny _ _ (call (Value.type "range") _) _ _ _)); (fail_if_success (with_reducible show wpAny _ _ (subscriptTail _ _ _ _) _ _ _)); (fail_if_success (with_reducible show LCg.CompSrc _ _ _ _ _ _ _ _ _ _ _ _ _ _))))
local macro_rules | `(tactic| walk_at "my walk") => `(tactic| (repeat' (walk_at "my stops"; first | (k_unfold; (try dsimp only)) | walk1 | (dsimp only; first | walk1 | (k_unfold; try dsimp only)) | (leave1; walk_say "STEP leave1"; try dsimp only))))
section
variable {w : World} {s : Shared} {p : Program} {loose : List Str} {mg mb : Str → Option Value} {base : Heap} {outer : List Env} {gd : Option (List Code)} {A₀ : Around} {Q E : Value → Shared → Prop}

/-- letters of a made list or a text -/
def LettersN (news : List (Addr × Obj)) (y : Value) (cs : List Nat) : Prop :=
  (∃ x t, y = .str x t ∧ x.cps.toList = cs) ∨ ∃ l items c, y = .ref l ∧ (l, listOf items c) ∈ news ∧ items.size = cs.length ∧ ∀ (i : Nat) c, cs[i]? = some c → ∃ u, items[i]? = some (.str ⟨#[c]⟩ u)
theorem LettersN.mono {news news' : List (Addr × Obj)} {y : Value} {cs : List Nat} (x : LettersN news y cs) (k : ∀ p ∈ news, p ∈ news') : LettersN news' y cs := by
  rcases x with x | ⟨l, items, c, e, hm, r⟩
  · exact .inl x
  · exact .inr ⟨l, items, c, e, k _ hm, r⟩
theorem LettersN.at {g h : Heap} {L : Addr} {news : List (Addr × Obj)} {y : Value} {cs : List Nat} (x : LettersN news y cs) (N : News g L h news) : Letters h y cs := by
  rcases x with x | ⟨l, items, c, e, hm, r⟩
  · exact .inl x
  · exact .inr ⟨l, items, e, ⟨_, (N _ hm).1, rfl, _, rfl⟩, r⟩
theorem callWith_ST {M : Model} {A : Around} {T : String} {first : List Value} {pos pp : Pos} {e : Expr} {env : Env}
    (h : wpAny M A (eval e env) (fun v s₁ => StarOf M A E v (fun vs s₂ => True ∧ wpAny M A (call (.type T) (first ++ vs)) Q E s₂) s₁) E s)
    (he : starEach [.Starred e pp] env = [(true, eval e env)] := by rfl) :
    wpAny M A (callWith pos (.type T) first (backTo pos (starEach [.Starred e pp] env)) []) Q E s := by
  rw [he]
  exact ks_call (P := fun _ => True) rfl (fun h _ => ⟨.machine, .inr (.inl rfl), Looks.now⟩) (ks_lone h)
/-- a list of pieces, each a tuple of q letters, out of a ledger -/
def PiecesN (ps : List (Addr × Obj)) (S : Addr) (cs : List Nat) (q : Nat) : Prop :=
  ∃ acc c, (S, { cls := .type "list", dict := none, data := .seq acc c, slots := #[] }) ∈ ps ∧ acc.size = cs.length + 1 - q ∧
    ∀ (j : Nat) v, acc[j]? = some v → ∃ T xs, v = .ref T ∧ (T, tupO xs 0) ∈ ps ∧ xs.size = q ∧ ∀ (k : Nat) x, xs[k]? = some x → ∃ c u, cs[j + k]? = some c ∧ x = .str ⟨#[c]⟩ u
theorem PiecesN.mono {ps ps' : List (Addr × Obj)} {S : Addr} {cs : List Nat} {q : Nat} (x : PiecesN ps S cs q) (k : ∀ p ∈ ps, p ∈ ps') : PiecesN ps' S cs q := by
  obtain ⟨acc, c, h1, h2, h3⟩ := x
  exact ⟨acc, c, k _ h1, h2, fun j v hv => let ⟨T, xs, e1, e2, r⟩ := h3 j v hv; ⟨T, xs, e1, k _ e2, r⟩⟩
/-- new objects -/
def Fresh (h₀ h : Heap) (ps : List (Addr × Obj)) : Prop := ∀ p ∈ ps, h.get? p.1 = some p.2 ∧ h₀.get? p.1 = none
theorem pieces_fresh {h₀ h : Heap} {S : Addr} {cs : List Nat} {q : Nat} {acc : Array Value} {c : Nat} (hS : h.get? S = some { cls := .type "list", dict := none, data := .seq acc c, slots := #[] }) (hS0 : h₀.get? S = none) (hn : acc.size = cs.length + 1 - q)
    (hp : ∀ (j : Nat) v, acc[j]? = some v → ∃ T xs, v = .ref T ∧ h.get? T = some (tupO xs 0) ∧ h₀.get? T = none ∧ xs.size = q ∧ ∀ (k : Nat) x, xs[k]? = some x → ∃ c u, cs[j + k]? = some c ∧ x = .str ⟨#[c]⟩ u) :
    ∃ ps, Fresh h₀ h ps ∧ PiecesN ps S cs q := by
  refine ⟨(S, { cls := .type "list", dict := none, data := .seq acc c, slots := #[] }) :: acc.toList.filterMap (fun v => match v with | .ref T => (h.get? T).map fun o => (T, o) | _ => none), fun p hp' => ?_, acc, c, .head _, hn, fun j v hv => ?_⟩
  · rcases List.mem_cons.mp hp' with rfl | hp'
    · exact ⟨hS, hS0⟩
    · obtain ⟨v, hv, e⟩ := List.mem_filterMap.mp hp'
      obtain ⟨j, hj⟩ := List.mem_iff_getElem?.mp hv
      rw [Array.getElem?_toList] at hj
      obtain ⟨T, xs, rfl, h1, h2, _⟩ := hp j v hj
      simp only [h1, Option.map_some, Option.some.injEq] at e
      subst e
      exact ⟨h1, h2⟩
  · obtain ⟨T, xs, rfl, h1, h2, r⟩ := hp j v hv
    refine ⟨T, xs, rfl, .tail _ (List.mem_filterMap.mpr ⟨.ref T, ?_, ?_⟩), r⟩
    · exact List.mem_iff_getElem?.mpr ⟨j, by rw [Array.getElem?_toList]; exact hv⟩
    · simp only [h1, Option.map_some]
theorem ngrams {v : Value} {q : Nat} {tq : Tok} {cs : List Nat} (hq : q = 2 ∨ q = 3 ∨ q = 4) (hcs : cs.length ≤ 900)
    (X : (Mine.hd.heap_39 w.params).In s.heap) (T : TopRead p loose mg mb s.heap) (hv : Letters s.heap v cs)
    (h : ∀ S ps h' tk', s.heap.StaysIn h' → Fresh s.heap h' ps → PiecesN ps S cs q → Q (.ref S) { s with heap := h', toks := tk' }) :
    wpAny (model PySem.Challenge.rw_ah5040_01.prog w) (QD 60 outer gd) (call (.ref 26) [v, .int q tq]) Q E s := by
  refine wpAny_call ?_
  refine' enterC (binds := [(Str.ofString "input_list", v), (Str.ofString "n", .int q tq)]) ?k3 ?k5 ?k6 ?k7 ?k8 ?k9 ?kB ?kD ?_ ?c2 ?c3 ?c4
  case k3 => k_asm
  case k5 => k_asm
  case k6 => k_is
  case k7 => k_is
  case k8 => k_room
  case k9 => exact BindsTo.of_eq rfl
  case kB => rfl
  case kD => decide +kernel
  case c2 => exact rfl
  case c3 => exact rfl
  case c4 => exact rfl
  intro L' h' tk' cells' F' N' Y'
  k_cells Y'
  rename_i oc hoc
  replace hoc : oc.data = .cell (some v) := hoc
  replace F' : Fr s.heap L' h' (fun y => if y = Str.ofString "n" then some (.int q tq) else none) := F'
  (try dsimp only); (show wpAny _ _ _ _ _ _); k_fold
  walk_at "my walk"
  refine callWith_ST ?_
  rename Fr _ _ _ _ => F0
  rename News _ _ _ _ => N0
  refine LCg.ListComp_U (F₀ := F0) (by with_unfolding_all rfl) (by decide) (by rfl) (by decide) (by rfl) ?_
  walk_at "my walk"
  refine comp_range1 (n := q) rfl F0 N0 rfl (by omega) fun g tk => ?_
  refine CompRest.ind (n := q) (fun i ys news => ys.length = i ∧ (L' + 1, oc) ∈ news ∧ ∀ (k : Nat) y, ys[k]? = some y → LettersN news y (cs.drop k)) ?_ ?_ q 0 [] _ (by omega) ⟨rfl, .head _, fun k y h => by simp at h⟩
  · rintro i ys news hi ⟨hl, hmc, hys⟩ v' I oI C oC D m₂ h₁ tk E' ⟨t, rfl⟩ hC hm F N off nes
    walk1
    refine lcf_cell N rfl (.tail _ (.tail _ (.tail _ hmc))) hoc ?_ rfl rfl
    walk_at "my walk"
    have hv' := hv
    have ei : (0 : Int) + (i : Int) = (i : Int) := by omega
    rcases hv with ⟨x, tx, rfl, hx⟩ | ⟨l, items, rfl, hli, hsz, hit⟩
    · refine slice_strN_sn F N (fun h2 t' k F2 N2 => ?_) (hsz := by rw [sizeLine_eq, ← str_len_list, hx]; omega)
      refine ⟨h2, _, news, rfl, F2, N2, off, trivial, by rw [List.length_append, hl]; rfl, hmc, fun k y hy => ?_⟩
      rcases Nat.lt_or_ge k ys.length with c | c
      · rw [List.getElem?_append_left c] at hy; exact hys k y hy
      · rw [List.getElem?_append_right c] at hy
        have : k = i := by
          have := (List.getElem?_eq_some_iff.mp hy).1
          simp at this; omega
        subst this
        rw [show k - ys.length = 0 by omega] at hy
        cases hy
        exact .inl ⟨_, _, rfl, by rw [ei, slice_s, hx]⟩
    · refine kmk_slice (lo := some ((0 : Int) + i)) (hi := none) F N (its := items) (let ⟨o, ho, r⟩ := hli; ⟨o, F.keep _ _ ho, r⟩) (by kmk_part) (by kmk_part) (fun D2 h2 F2 N2 hlt => ?_) (by with_unfolding_all rfl) (by kmk_pure) (by rw [sizeLine_eq, hsz]; omega)
      refine ⟨h2, _, (D2, listOf (slicePick items (some ((0 : Int) + i)) none none) 0) :: news, rfl, F2, fun p hp => N2 p ?_, ?_, trivial, by rw [List.length_append, hl]; rfl, .tail _ hmc, fun k y hy => ?_⟩
      · simp only [List.mem_cons] at hp ⊢
        rcases hp with hp | hp | hp | hp | hp <;> simp [hp]
      · refine ⟨⟨?_, ?_, ?_⟩, off⟩
        · exact Nat.ne_of_gt (hlt _ (.head _))
        · exact Nat.ne_of_gt (hlt _ (.tail _ (.head _)))
        · exact Nat.ne_of_gt (hlt _ (.tail _ (.tail _ (.head _))))
      · rcases Nat.lt_or_ge k ys.length with c | c
        · rw [List.getElem?_append_left c] at hy; exact (hys k y hy).mono fun p hp => .tail _ hp
        · rw [List.getElem?_append_right c] at hy
          have : k = i := by
            have := (List.getElem?_eq_some_iff.mp hy).1
            simp at this; omega
          subst this
          rw [show k - ys.length = 0 by omega] at hy
          cases hy
          have e := pick_s items k
          rw [← ei] at e
          refine .inr ⟨D2, _, 0, rfl, .head _, ?_, fun j c hc => ?_⟩
          · rw [← Array.length_toList, e, List.length_drop, List.length_drop, Array.length_toList, hsz]
          · rw [List.getElem?_drop] at hc
            obtain ⟨u, hu⟩ := hit _ _ hc
            refine ⟨u, ?_⟩
            rw [← Array.getElem?_toList, e, List.getElem?_drop, Array.getElem?_toList]; exact hu
  · rintro ys news ⟨hl, hmc, hys⟩ D h₁ tk₁ F N off
    refine star_seq F N (.head _) rfl rfl (.inl rfl) rfl (by simp [hl, sizeLine_eq]; omega) fun h₂ F2 N2 => ?_
    refine ⟨trivial, ?_⟩
    have N3 : News s.heap L' h₂ news := fun p hp => N2 p (.tail _ hp)
    refine zip_ready (g := s.heap) (css := (List.range q).map fun k => cs.drop k) ?_ ?_ (fun k y cs' hy hc => ?_) F2.keep fun z h₃ st₃ hz => ?_
    · simp [hl]; omega
    · simp [hl]
    · rw [List.getElem?_map] at hc
      by_cases c : k < q
      · rw [List.getElem?_range c] at hc
        cases hc
        exact (hys k y (by simpa using hy)).at N3
      · rw [List.getElem?_eq_none (by simpa using c)] at hc; cases hc
    · have F3 := fr_stays F2 st₃
      have N4 := news_stays N2 st₃
      clear F2 N2 F N N3
      dsimp only
      walk_at "my walk"
      have gd : ∀ k, k < q → ((List.range q).map fun k => cs.drop k).getD k [] = cs.drop k := fun k hk => by
        rw [List.getD_eq_getElem?_getD, List.getElem?_map, List.getElem?_range hk]; rfl
      have ln : ((List.range q).map fun k => cs.drop k).length = q := by simp
      refine list_ready (g := s.heap) (k0 := min (q - 1) cs.length) (N := cs.length + 1 - q) rfl hz F3.keep (fun e => by rw [e] at ln; simp at ln; omega) (by rw [ln]; omega) ?_ (fun k hk => ?_) (fun k hk => ?_) (by omega) fun S h₄ acc c tk₄ hS st₄ hacc hsz hP => ?_
      · rw [gd _ (by omega), List.length_drop]; omega
      · rw [gd _ (by rw [ln] at hk; exact hk), List.length_drop]; rw [ln] at hk; omega
      · rw [gd _ (by omega), List.length_drop]; omega
      · have S0 : s.heap.get? S = none := by
          cases e : s.heap.get? S with
          | none => rfl
          | some o => rw [F3.keep _ _ e] at hS; cases hS
        have hpp : ∀ (j : Nat) v, acc[j]? = some v → ∃ T xs, v = .ref T ∧ h₄.get? T = some (tupO xs 0) ∧ s.heap.get? T = none ∧ xs.size = q ∧ ∀ (k : Nat) x, xs[k]? = some x → ∃ c u, cs[j + k]? = some c ∧ x = .str ⟨#[c]⟩ u := fun j v hv => by
          obtain ⟨T, xs, e1, e2, e5, e3, e4⟩ := hP j v hv
          rw [ln] at e3
          refine ⟨T, xs, e1, e2, e5, e3, fun k x hx => ?_⟩
          have := e4 k x hx
          rw [gd k (by have := (Array.getElem?_eq_some_iff.mp hx).1; omega)] at this
          obtain ⟨c', u, h1, h2⟩ := this
          rw [List.getElem?_drop] at h1
          exact ⟨c', u, by rw [Nat.add_comm]; exact h1, h2⟩
        obtain ⟨ps, fr, pn⟩ := pieces_fresh hacc S0 hsz hpp
        exact h S ps h₄ tk₄ st₄ fr pn
end
end Mine
end
-- F2
section
open PySem PySem.W PySem.W.X PyProof.Rows PySem.Calls
set_option maxRecDepth 100000
set_option maxHeartbeats 1000000
namespace Mine
theorem fillF2 : PySem.Challenge.rw_ah5040_01 = PySem.Challenge.rw_ah5040_01 ∧ Mine.hd.heap_39 = Mine.hd.heap_39 := by
  k_fill
  exact ⟨rfl, rfl⟩
local macro_rules | `(tactic| walk_at "my S") => `(tactic| (refine wpAny_call ?_; refine' enterS ?k3 ?k5 ?k6 ?k7 ?k8 ?k9 ?kB ?_ ?c2 ?c3 ?c4 ?c5; (case k3 => k_asm); (case k5 => k_asm); (case k6 => k_is); (case k7 => k_is); (case k8 => k_room); (case k9 => first | exact BindsTo.of_eq rfl | exact binds_K (by k_in) rfl (by k_is) rfl rfl rfl); (case kB => exact locs rfl); (case c5 => decide); (case c2 => exact rfl); (case c3 => exact rfl); (case c4 => exact rfl)))
local macro_rules | `(tactic| walk_at "my V") => `(tactic| (refine wpAny_call ?_; refine' enterV ?k3 ?k5 ?k6 ?k7 ?k8 ?kP ?kG ?kB ?_ ?c2 ?c3 ?c4 ?c5; (case k3 => k_asm); (case k5 => k_asm); (case k6 => k_is); (case k7 => k_is); (case k8 => k_room); (case kP => exact rfl); (case kG => exact fun _ => rfl); (case kB => exact fun _ => locs rfl); (case c5 => decide); (case c2 => exact rfl); (case c3 => exact rfl); (case c4 => exact rfl)))
local macro_rules | `(tactic| k_inst) => `(tactic| (refine' InstAt_of_get ?a ?b; (case a => exact Fr.keep (by k_asm) _ _ (by assumption)); (case b => exact Fr.keep (by k_asm) _ _ (by assumption))))
local macro_rules | `(tactic| walk_at "eval Call Attribute") => `(tactic| (k_here; (with_reducible show wpAny _ _ (eval (Expr.Call (Expr.Attribute _ _ _) [Expr.Starred _ _] [] _) _) _ _ _); refine starMethod ?_))
local macro_rules | `(tactic| walk_at "getAttr ref") => `(tactic| (k_here; k_dflt (refine' attr_sm ?k1 ?k2 ?k4 ?k5 ?k6 ?k7 ?k9 ?k10 ?k11 ?k12 ?k13 ?k14 ?_; (case k1 => k_asm); (case k2 => k_asm); (case k4 => k_inst); (case k5 => k_is); (case k6 => k_is); (case k7 => k_is); (case k9 => k_is); (case k10 => k_is); (case k11 => decide +kernel); (case k12 => k_get); (case k13 => k_is); (case k14 => k_handed); k_whole)))
local macro_rules | `(tactic| walk_at "callWith ref") => `(tactic| (k_here; (with_reducible show wpAny _ _ (callWith _ (Value.ref _) _ (backTo _ (starEach [Expr.Starred _ _] _)) []) _ _ _); k_dflt (refine' callWith_SM ?k1 ?k2 ?k3 ?k4 ?_; (case k1 => k_asm); (case k2 => k_asm); (case k3 => k_mem); (case k4 => k_is); k_whole)))
local macro_rules | `(tactic| walk_at "callWith ref") => `(tactic| (k_here; (with_reducible show wpAny _ _ (callWith _ (Value.ref _) _ (backTo _ (starEach [Expr.Starred _ _] _)) []) _ _ _); k_dflt (refine' callWith_SI ?k1 ?k2 ?k3 ?k4 ?_; (case k1 => k_in); (case k2 => k_inst); (case k3 => rfl); (case k4 => k_is); k_whole)))
local macro_rules | `(tactic| walk_at "my drop") => `(tactic| (repeat (first | ((rename News _ _ _ _ => Nx); clear Nx) | ((rename Fr _ _ _ _ => Fx); clear Fx))))
local macro_rules | `(tactic| walk_at "my stops") => `(tactic| ((fail_if_success (with_reducible show wpAny _ _ (call (Value.builtin "all") _) _ _ _)); (fail_if_success (with_reducible show wpAny _ _ (call (Value.builtin "max") _) _ _ _)); (fail_if_success (with_reducible show wpAny _ _ (call (Value.ref _) _) _ _ _)); (fail_if_success (with_reducible show wpAny _ _ (call (Value.type "map") _) _ _ _)); (fail_if_success (with_reducible show wpAny _ _ (exec (PySem.Stmt.For _ _ _ _ _) _) _ _ _)); (fail_if_success (with_reducible show wpAny _ _ (call (Value.type "zip") _) _ _ _)); (fail_if_success (with_reducible show wpAny _ _ (call (Value.type "list") _) _ _ _)); (fail_if_success (with_reducible show wpAny _ _ (eval (PySem.Expr.ListComp _ _ _ _) _) _ _ _)); (fail_if_success (with_reducible show wpAny _ _ (callWith _ (Value.type "zip") _ _ _) _ _ _)); (fail_if_success (with_reducible show wpAny _ _ (call (Value.type "range") _) _ _ _)); (fail_if_success (with_reducible show wpAny _ _ (subscriptTail _ _ _ _) _ _ _)); (fail_if_success (with_reducible show wpAny _ _ (pyIter _) _ _ _)); (fail_if_success (with_reducible show LCg.CompSrc _ _ _ _ _ _ _ _ _ _ _ _ _ _)); (fail_if_success (with_reducible show CompIt _ _ _ _ _ _ _ _ _ _ _ _ _ _))))
local macro_rules | `(tactic| walk_at "my walk") => `(tactic| (repeat' (walk_at "my stops"; first | (k_unfold; (try dsimp only)) | walk1 | (dsimp only; first | walk1 | (k_unfold; try dsimp only)) | (leave1; walk_say "STEP leave1"; try dsimp only))))
section
variable {w : World} {s : Shared} {p : Program} {loose : List Str} {mg mb : Str → Option Value} {base : Heap} {outer : List Env} {gd : Option (List Code)} {A₀ : Around} {Q E : Value → Shared → Prop}
local macro_rules | `(tactic| walk_at "eval Name") => `(tactic| (k_here; (with_reducible show wpAny _ _ (eval (Expr.Name (Str.ofString "s") _) (compEnvC _ _ _ _)) _ _ _); k_dflt (refine LCgL.ld_own (by assumption) (.tail _ (.head _)) (by assumption) (by assumption) ?_)))
local macro_rules | `(tactic| walk_at "eval Name") => `(tactic| (k_here; (with_reducible show wpAny _ _ (eval (Expr.Name (Str.ofString "self") _) (compEnvC _ _ _ _)) _ _ _); k_dflt (refine lcf_cell (by assumption) rfl (.tail _ (.tail _ (.tail _ (by assumption)))) (by assumption) ?_ rfl rfl)))
local macro_rules | `(tactic| walk_at "eval Name") => `(tactic| (k_here; (with_reducible show wpAny _ _ (eval (Expr.Name (Str.ofString "find_ngrams") _) (compEnvC _ _ _ _)) _ _ _); k_dflt (refine cn_glob (by assumption) (by assumption) (by assumption) (by k_is) ?_)))

theorem fr_fresh {h₀ h h' : Heap} {L : Addr} {m : Str → Option Value} {news ps : List (Addr × Obj)} (F : Fr h₀ L h m) (N : News h₀ L h news) (st : h.StaysIn h') (fr : Fresh h h' ps) :
    Fr h₀ L h' m ∧ News h₀ L h' (ps ++ news) ∧ ∀ p ∈ ps, ∀ q ∈ news, p.1 ≠ q.1 := by
  refine ⟨fr_stays F st, fun p hp => ?_, fun p hp q hq e => ?_⟩
  · rcases List.mem_append.mp hp with hp | hp
    · obtain ⟨h1, h2⟩ := fr p hp
      refine ⟨h1, fun q => ?_, ?_⟩
      · obtain ⟨o, _, _, ho, _⟩ := F.ns
        rw [q, ho] at h2; cases h2
      · cases e : h₀.get? p.1 with
        | none => rfl
        | some o => rw [F.keep _ _ e] at h2; cases h2
    · exact news_stays N st p hp
  · have := (N q hq).1
    rw [← e, (fr p hp).2] at this; cases this
theorem off3_app {I C D : Addr} {a b : List (Addr × Obj)} (ha : ∀ p ∈ a, p.1 ≠ I ∧ p.1 ≠ C ∧ p.1 ≠ D) (hb : LCg.Off3 I C D b) : LCg.Off3 I C D (a ++ b) :=
  LCg.Off3.of fun p hp => by
    rcases List.mem_append.mp hp with hp | hp
    · exact ha p hp
    · exact hb.mem p hp
theorem getSeqPL {se dse : Addr} {q1 q2 q3 : Int} {t1 t2 t3 tq : Tok} {vx v1 v2 : Value} {ep q : Nat} {cs1 cs2 : List Nat} (hq : q = 2 ∨ q = 3 ∨ q = 4) (hc1 : cs1.length ≤ 900) (hc2 : cs2.length ≤ 900)
    (X : (Mine.hd.heap_39 w.params).In s.heap) (T : TopRead p loose mg mb s.heap) (hv1 : Letters s.heap v1 cs1) (hv2 : Letters s.heap v2 cs2)
    (h0 : s.heap.get? se = some ⟨.ref 244, some dse, .plain, #[]⟩) (h9 : s.heap.get? dse = some (dictOf [⟨q1, .str (Str.ofString "qval") t1, .int (q : Nat) tq⟩, ⟨q2, .str (Str.ofString "test_func") t2, .ref 157⟩, ⟨q3, .str (Str.ofString "external") t3, vx⟩] ep))
    (h : ∀ L c S1 S2 ps h' tk', s.heap.StaysIn h' → Fresh s.heap h' ((L, listOf #[.ref S1, .ref S2] c) :: ps) → PiecesN ps S1 cs1 q → PiecesN ps S2 cs2 q → Q (.ref L) { s with heap := h', toks := tk' }) :
    wpAny (model PySem.Challenge.rw_ah5040_01.prog w) (QD 50 outer gd) (call (.ref 165) [.ref se, v1, v2]) Q E s := by
  refine wpAny_call ?_
  refine' enterVC (binds := fun D => [(Str.ofString "self", .ref se), (Str.ofString "sequences", .ref D)]) ?k3 ?k5 ?k6 ?k7 ?k8 ?kP ?kG ?kB ?kD ?_ ?c2 ?c3 ?c4
  case k3 => k_asm
  case k5 => k_asm
  case k6 => k_is
  case k7 => k_is
  case k8 => k_room
  case kP => exact rfl
  case kG => exact fun _ => rfl
  case kB => exact fun _ => rfl
  case kD => decide +kernel
  case c2 => exact rfl
  case c3 => exact rfl
  case c4 => exact rfl
  intro D' L' h' tk' cells' F' N' Y' l1
  k_cells Y'
  rename_i oc hoc
  replace hoc : oc.data = .cell (some (.ref se)) := hoc
  simp only [List.cons_append, List.nil_append] at N'
  replace F' : Fr s.heap L' h' (fun y => if y = Str.ofString "sequences" then some (.ref D') else none) := F'
  replace N' : News s.heap L' h' [(L' + 1, oc), (D', { cls := .type "tuple", data := .seq #[v1, v2] })] := N'
  (try dsimp only); (show wpAny _ _ _ _ _ _); k_fold
  have hq2 : 2 ≤ q := by omega
  walk_at "my walk"
  all_goals first | (exfalso; omega) | skip
  rename Fr _ _ _ _ => F0
  rename News _ _ _ _ => N0
  refine ListComp_W F0 (by with_unfolding_all rfl) (by decide) (by rfl) (by decide) (by rfl) ?_
  walk_at "my walk"
  refine comp_tuple rfl F0 N0 (.tail _ (.head _)) (Nat.le_of_ble_eq_true rfl) fun g => ?_
  refine CompRest.ind (n := 2) (fun i ys news => (L' + 1, oc) ∈ news ∧ (D', tupO #[v1, v2] 0) ∈ news ∧ ((i = 0 ∧ ys = []) ∨ ∃ S1, PiecesN news S1 cs1 q ∧ (i = 1 ∧ ys = [.ref S1] ∨ ∃ S2, PiecesN news S2 cs2 q ∧ i = 2 ∧ ys = [.ref S1, .ref S2]))) ?_ ?_ 2 0 [] _ rfl ⟨.head _, .tail _ (.head _), .inl ⟨rfl, rfl⟩⟩
  · rintro i ys news hi ⟨hmc, hmd, hys⟩ v' I oI C oC D m₂ h₁ tk E' hv hC hm F N off nes
    obtain ⟨cs, hc, hl, hI⟩ : ∃ cs : List Nat, cs.length ≤ 900 ∧ Letters s.heap v' cs ∧ ∀ S ps, PiecesN (ps ++ news) S cs q → (L' + 1, oc) ∈ ps ++ news ∧ (D', tupO #[v1, v2] 0) ∈ ps ++ news ∧ ((i + 1 = 0 ∧ ys ++ [.ref S] = []) ∨ ∃ S1, PiecesN (ps ++ news) S1 cs1 q ∧ (i + 1 = 1 ∧ ys ++ [.ref S] = [.ref S1] ∨ ∃ S2, PiecesN (ps ++ news) S2 cs2 q ∧ i + 1 = 2 ∧ ys ++ [.ref S] = [.ref S1, .ref S2])) := by
      rcases hys with ⟨rfl, rfl⟩ | ⟨S1, p1, ⟨rfl, rfl⟩ | ⟨S2, p2, rfl, rfl⟩⟩
      · obtain rfl : v1 = v' := by simpa using hv
        exact ⟨cs1, hc1, hv1, fun S ps hp => ⟨List.mem_append_right _ hmc, List.mem_append_right _ hmd, .inr ⟨S, hp, .inl ⟨rfl, rfl⟩⟩⟩⟩
      · obtain rfl : v2 = v' := by simpa using hv
        exact ⟨cs2, hc2, hv2, fun S ps hp => ⟨List.mem_append_right _ hmc, List.mem_append_right _ hmd, .inr ⟨S1, p1.mono fun p hp => List.mem_append_right _ hp, .inr ⟨S, hp, rfl, rfl⟩⟩⟩⟩
      · omega
    walk_at "my walk"
    refine wpAny_le (ngrams hq hc (X.keeps F.keep) (T.keeps F.keep) (hl.stays F.keep) fun S ps h2 tk2 st fr hP => ?_) (Nat.le_of_ble_eq_true rfl) (Nat.le_of_ble_eq_true rfl)
    obtain ⟨F2, N2, ap⟩ := fr_fresh F N st fr
    refine ⟨h2, tk2, ps ++ news, rfl, F2, fun p hp => N2 p ?_, off3_app (fun p hp => ⟨ap p hp _ (.head _), ap p hp _ (.tail _ (.head _)), ap p hp _ (.tail _ (.tail _ (.head _)))⟩) off, List.mem_append_right _ hmd, hI S ps (hP.mono fun p hp => List.mem_append_left _ hp)⟩
    simp only [List.mem_cons, List.mem_append] at hp ⊢
    rcases hp with hp | hp | hp | hp | hp <;> simp [hp]
  · rintro ys news ⟨hmc, hmd, hys⟩ D h₁ tk₁ F N off
    rcases hys with ⟨q, _⟩ | ⟨S1, p1, ⟨q, _⟩ | ⟨S2, p2, _, rfl⟩⟩
    · cases q
    · cases q
    · walk_at "my walk"
      refine h D 2 S1 S2 news h₁ tk₁ F.keep (fun p hp => ?_) p1 p2
      exact ⟨(N p hp).1, (N p hp).2.2⟩
theorem getSeqPB {RR : Result → Shared → Prop} {se dse : Addr} {q1 q2 q3 : Int} {t1 t2 t3 tq : Tok} {vx v1 v2 : Value} {ep q : Nat} {cs1 cs2 : List Nat} (hq : q = 2 ∨ q = 3 ∨ q = 4) (hc1 : cs1.length ≤ 900) (hc2 : cs2.length ≤ 900)
    (X : (Mine.hd.heap_39 w.params).In s.heap) (T : TopRead p loose mg mb s.heap) (hv1 : Letters s.heap v1 cs1) (hv2 : Letters s.heap v2 cs2)
    (h0 : s.heap.get? se = some ⟨.ref 304, some dse, .plain, #[]⟩) (h9 : s.heap.get? dse = some (dictOf [⟨q1, .str (Str.ofString "qval") t1, .int (q : Nat) tq⟩, ⟨q3, .str (Str.ofString "external") t3, vx⟩] ep))
    (h : ∀ L c S1 S2 ps h' tk', s.heap.StaysIn h' → Fresh s.heap h' ((L, listOf #[.ref S1, .ref S2] c) :: ps) → PiecesN ps S1 cs1 q → PiecesN ps S2 cs2 q → RR (.ok (.ret (.ref L))) { s with heap := h', toks := tk' }) :
    codeAny (model PySem.Challenge.rw_ah5040_01.prog w) (QD 50 outer gd) (.call (.ref 165) ⟨[.ref se, v1, v2], []⟩) RR s := by
  refine' enterVC (binds := fun D => [(Str.ofString "self", .ref se), (Str.ofString "sequences", .ref D)]) ?k3 ?k5 ?k6 ?k7 ?k8 ?kP ?kG ?kB ?kD ?_ ?c2 ?c3 ?c4
  case k3 => k_asm
  case k5 => k_asm
  case k6 => k_is
  case k7 => k_is
  case k8 => k_room
  case kP => exact rfl
  case kG => exact fun _ => rfl
  case kB => exact fun _ => rfl
  case kD => decide +kernel
  case c2 => exact rfl
  case c3 => exact rfl
  case c4 => exact rfl
  intro D' L' h' tk' cells' F' N' Y' l1
  k_cells Y'
  rename_i oc hoc
  replace hoc : oc.data = .cell (some (.ref se)) := hoc
  simp only [List.cons_append, List.nil_append] at N'
  replace F' : Fr s.heap L' h' (fun y => if y = Str.ofString "sequences" then some (.ref D') else none) := F'
  replace N' : News s.heap L' h' [(L' + 1, oc), (D', { cls := .type "tuple", data := .seq #[v1, v2] })] := N'
  (try dsimp only); (show wpAny _ _ _ _ _ _); k_fold
  have hq2 : 2 ≤ q := by omega
  walk_at "my walk"
  all_goals first | (exfalso; omega) | skip
  rename Fr _ _ _ _ => F0
  rename News _ _ _ _ => N0
  refine ListComp_W F0 (by with_unfolding_all rfl) (by decide) (by rfl) (by decide) (by rfl) ?_
  walk_at "my walk"
  refine comp_tuple rfl F0 N0 (.tail _ (.head _)) (Nat.le_of_ble_eq_true rfl) fun g => ?_
  refine CompRest.ind (n := 2) (fun i ys news => (L' + 1, oc) ∈ news ∧ (D', tupO #[v1, v2] 0) ∈ news ∧ ((i = 0 ∧ ys = []) ∨ ∃ S1, PiecesN news S1 cs1 q ∧ (i = 1 ∧ ys = [.ref S1] ∨ ∃ S2, PiecesN news S2 cs2 q ∧ i = 2 ∧ ys = [.ref S1, .ref S2]))) ?_ ?_ 2 0 [] _ rfl ⟨.head _, .tail _ (.head _), .inl ⟨rfl, rfl⟩⟩
  · rintro i ys news hi ⟨hmc, hmd, hys⟩ v' I oI C oC D m₂ h₁ tk E' hv hC hm F N off nes
    obtain ⟨cs, hc, hl, hI⟩ : ∃ cs : List Nat, cs.length ≤ 900 ∧ Letters s.heap v' cs ∧ ∀ S ps, PiecesN (ps ++ news) S cs q → (L' + 1, oc) ∈ ps ++ news ∧ (D', tupO #[v1, v2] 0) ∈ ps ++ news ∧ ((i + 1 = 0 ∧ ys ++ [.ref S] = []) ∨ ∃ S1, PiecesN (ps ++ news) S1 cs1 q ∧ (i + 1 = 1 ∧ ys ++ [.ref S] = [.ref S1] ∨ ∃ S2, PiecesN (ps ++ news) S2 cs2 q ∧ i + 1 = 2 ∧ ys ++ [.ref S] = [.ref S1, .ref S2])) := by
      rcases hys with ⟨rfl, rfl⟩ | ⟨S1, p1, ⟨rfl, rfl⟩ | ⟨S2, p2, rfl, rfl⟩⟩
      · obtain rfl : v1 = v' := by simpa using hv
        exact ⟨cs1, hc1, hv1, fun S ps hp => ⟨List.mem_append_right _ hmc, List.mem_append_right _ hmd, .inr ⟨S, hp, .inl ⟨rfl, rfl⟩⟩⟩⟩
      · obtain rfl : v2 = v' := by simpa using hv
        exact ⟨cs2, hc2, hv2, fun S ps hp => ⟨List.mem_append_right _ hmc, List.mem_append_right _ hmd, .inr ⟨S1, p1.mono fun p hp => List.mem_append_right _ hp, .inr ⟨S, hp, rfl, rfl⟩⟩⟩⟩
      · omega
    walk_at "my walk"
    refine wpAny_le (ngrams hq hc (X.keeps F.keep) (T.keeps F.keep) (hl.stays F.keep) fun S ps h2 tk2 st fr hP => ?_) (Nat.le_of_ble_eq_true rfl) (Nat.le_of_ble_eq_true rfl)
    obtain ⟨F2, N2, ap⟩ := fr_fresh F N st fr
    refine ⟨h2, tk2, ps ++ news, rfl, F2, fun p hp => N2 p ?_, off3_app (fun p hp => ⟨ap p hp _ (.head _), ap p hp _ (.tail _ (.head _)), ap p hp _ (.tail _ (.tail _ (.head _)))⟩) off, List.mem_append_right _ hmd, hI S ps (hP.mono fun p hp => List.mem_append_left _ hp)⟩
    simp only [List.mem_cons, List.mem_append] at hp ⊢
    rcases hp with hp | hp | hp | hp | hp <;> simp [hp]
  · rintro ys news ⟨hmc, hmd, hys⟩ D h₁ tk₁ F N off
    rcases hys with ⟨q, _⟩ | ⟨S1, p1, ⟨q, _⟩ | ⟨S2, p2, _, rfl⟩⟩
    · cases q
    · cases q
    · walk_at "my walk"
      refine h D 2 S1 S2 news h₁ tk₁ F.keep (fun p hp => ?_) p1 p2
      exact ⟨(N p hp).1, (N p hp).2.2⟩
end
end Mine
end
-- H1
section
open PySem PySem.W PySem.W.X PyProof.Rows PySem.Calls
set_option maxRecDepth 100000
set_option maxHeartbeats 1000000
namespace Mine
theorem list_hash_none : typeLookup (.type "list") "__hash__" = pure (some Value.none) := by rw [typeLookup_type, builtinLookup_eq_fast]; kernel_rfl
section
variable {prog : Program} {w : World} {A : Around} {E : Value → Shared → Prop} {s : Shared}
theorem hash_list {l : Addr} {items : Array Value} {Q : Int → Shared → Prop} (hl : s.heap.IsList l items) (hh : A.handled = none) (hu : A.units < cLine)
    (h : ∀ h' tk e, Heap.NewExc s.heap h' e "TypeError" → E (.ref e) { s with heap := h', toks := tk }) : wpAny (model prog w) A (pyHash (.ref l)) Q E s := by
  have hT := hl.typeIs
  show wpAny _ _ (pyHashByItsType (.ref l)) _ _ _
  unfold pyHashByItsType
  refine wpAny_bind (wpAny_cRoomFor hu ?_)
  refine wpAny_bind (wpAny_specialOf hT list_hash_none ?_)
  rw [if_pos (by decide)]
  refine wpAny_bind (wpAny_rule (wpAny_bind (wpAny_typeNameOf' hT (by decide) ?_)))
  refine wpAny_bind (wpAny_raiseErrorMade plainExc_TypeError hh h (by rw [sizeLine_eq]; decide +kernel))
theorem set_turn_raise {S I t l : Addr} {items its : Array Value} {i : Nat} {R : Result → Shared → Prop} {h₀ : Heap}
    (hh : A.handled = none) (hu : A.units + 1 < cLine) (st : h₀.StaysIn s.heap) (hI0 : h₀.get? I = none) (hit : s.heap.IsTupleIter I t i) (ht : h₀.IsTuple t items) (hx : items[i]? = some (.ref l)) (hl : h₀.IsList l its)
    (h : ∀ h' tk e, Heap.NewExc h₀ h' e "TypeError" → R (.error (.ref e)) { s with heap := h', toks := tk }) :
    codeAny (model prog w) A (.builtin "set.update.loop" ⟨[.ref S, .ref I], []⟩) R s := by
  have ht' : s.heap.IsTuple t items := let ⟨ob, hb, r⟩ := ht; ⟨ob, st _ _ hb, r⟩
  refine codeAny_builtin PyProof.Rows.F.entry_set_update_loop ?_
  rw [Around.under_plainId PyProof.Rows.F.plain_set_update_loop _]
  show wpAny _ A.in1 (pyNext (.ref I) >>= _) _ _ s
  refine wpAny_bind (wpAny_pyNext_tuple_item hit ht' hx fun h₁ hit₁ sb₁ => ?_)
  have st₁ : h₀.StaysIn h₁ := fun b ob e => sb₁.extBut b ob (fun q => by rw [q, hI0] at e; cases e) (st b ob e)
  show wpAny _ A.in1 (holding [.ref l] (setAdd S (.ref l)) >>= _) _ _ _
  refine wpAny_bind (wpAny_holding ?_)
  unfold setAdd
  refine wpAny_holding (wpAny_bind (hash_list (let ⟨o, ho, r⟩ := hl; ⟨o, st₁ _ _ ho, r⟩) (by simpa using hh) (by simpa using hu) fun h' tk e hx => ?_))
  have hn : h₀.get? e = none := by
    cases q : h₀.get? e with
    | none => rfl
    | some o => have h1 := st₁ _ _ q; rw [hx.new] at h1; cases h1
  exact h h' tk e ⟨fun b o q => hx.keeps b o (st₁ b o q), hn, hx.there⟩
set_option maxHeartbeats 3200000 in
theorem call_set_raise {t l : Addr} {items its : Array Value} {Q : Value → Shared → Prop}
    (hh : A.handled = none) (hu : A.units + 8 < cLine) (ht : s.heap.IsTuple t items) (hx : items[0]? = some (.ref l)) (hl : s.heap.IsList l its)
    (h : ∀ h' tk e, Heap.NewExc s.heap h' e "TypeError" → E (.ref e) { s with heap := h', toks := tk }) :
    wpAny (model prog w) A (call (.type "set") [.ref t]) Q E s := by
  obtain ⟨c, tl, hmro⟩ := PySem.F.called_set.mro
  have hmade := PySem.F.called_set.made
  have hsub := PySem.F.called_set.sub
  refine wpAny_call (codeAny_of_tree ?_)
  show wpAny _ _ (callAny (.type "set") _) _ _ _
  refine wpAny_pure ⟨Code.quiet_builtin _ (by decide +kernel), codeAny_builtin F.entry_type_call ?_⟩
  rw [Around.under_plain (weight_type_call_type "set" [.ref t] []) rfl]
  have h1 := PySem.F.called_set.notType
  have h2 := PySem.F.called_set.canCreate
  have hct := PySem.F.typeCall_set_1 (.ref t)
  repeat (any_goals (first | assumption | wp_step))
  refine codeAny_mono (code_set_new_1 (.ref t) (E := E) (Q₁ := fun obj s₁ => ∃ led : Bool, obj = .ref s.heap.objs.size ∧ s₁ = { s with heap := s.heap.push (freshSet led) }) fun led => ⟨led, rfl, rfl⟩) fun r s₁ hr => ?_
  cases r with
  | error e => exact hr
  | ok fl =>
    cases fl with
    | ret obj =>
      obtain ⟨led, rfl, rfl⟩ := hr
      have hS : (s.heap.push (freshSet led)).get? s.heap.objs.size = some (freshSet led) := Heap.get?_push_size _ rfl
      have hT : Shared.TypeIs { s with heap := s.heap.push (freshSet led) } (.ref s.heap.objs.size) "set" := ⟨_, hS, rfl⟩
      have hli := PySem.F.called_set.init.lookup
      have hbi := PySem.F.called_set.init.bind (.ref s.heap.objs.size)
      repeat (any_goals (first | assumption | wp_step))
      refine codeAny_mono (codeAny_call_builtin (R := wants (fun _ _ => False) E) PySem.F.called_set.init.plain F.entry_set_init (check_set_init_1 hT ?_)) fun r₂ s₂ hr₂ => ?_
      · obtain ⟨ol, hol, hcl, nl, hdl⟩ := id ht
        obtain ⟨ocls, odict, odata, oslots⟩ := ol
        simp only at hcl hdl
        subst hcl; subst hdl
        have hol' : (s.heap.push (freshSet led)).get? t = some { cls := .type "tuple", dict := odict, data := .seq items nl, slots := oslots } := Heap.get?_push_of_some _ hol
        have hsls := sub_tuple_set
        have hslf := sub_tuple_frozenset
        have hne : (Value.type "tuple" == Value.type "dict") = false := by decide
        have hl1 : (s.heap.push (freshSet led)).IsTuple t items := ⟨_, hol', rfl, nl, rfl⟩
        unfold Builtin.«set.__init__» noKeywords Builtin.Frozenset.updateFrom
        generalize hPI : pyIter = PI
        wp_walk
        subst hPI
        refine wpAny_pyIter_tuple hl1 ?_
        refine wpAny_bind (wpAny_runValue ?_)
        have hfresh : ∀ a, s.heap.objs.size ≤ a → s.heap.get? a = none := fun a ha => by
          cases e : s.heap.get? a with
          | none => rfl
          | some o' => exact absurd (Heap.lt_size e) (Nat.not_lt.mpr ha)
        have hIsz : (s.heap.push (freshSet led)).objs.size = s.heap.objs.size + 1 := Heap.size_push ..
        have hI0 : s.heap.get? (s.heap.push (freshSet led)).objs.size = none := hfresh _ (by rw [hIsz]; exact Nat.le_succ _)
        refine set_turn_raise (i := 0) (items := items) (its := its) (h₀ := s.heap) (by simpa using hh) (by simp only [Around.in1_units]; omega) (fun b ob e => Heap.get?_push_of_some _ (Heap.get?_push_of_some _ e)) hI0
          ⟨_, Heap.get?_push_size _ rfl, rfl, rfl⟩ ht hx hl ?_
        exact h
      · cases r₂ with
        | error e => exact hr₂
        | ok fl₂ =>
          cases fl₂ with
          | ret r => exact hr₂.elim
          | _ => exact hr₂.elim
    | _ => exact hr.elim
end
end Mine
end
-- H2
section
open PySem PySem.W PySem.W.X PyProof.Rows PySem.Calls
set_option maxRecDepth 100000
set_option maxHeartbeats 1000000
namespace Mine
/-- the frames outside turn their slots alone; all else stays -/
def Moved (outer : List Env) (h h' : Heap) : Prop := ∃ g', KtsTurn (outer.filterMap (·.frame)) h g' ∧ g'.StaysIn h'
theorem Moved.of_stays {outer : List Env} {h h' : Heap} (k : h.StaysIn h') : Moved outer h h' := ⟨h, KtsTurn.refl, k⟩
theorem Moved.stays {outer : List Env} {h h' h'' : Heap} (m : Moved outer h h') (k : h'.StaysIn h'') : Moved outer h h'' := let ⟨g, t, s⟩ := m; ⟨g, t, fun b o e => k _ _ (s b o e)⟩
/-- the ground of a call: the frames outside lie above the base -/
structure Grd (base : Heap) (outer : List Env) (h : Heap) : Prop where
  stays : base.StaysIn h
  frames : h.FunFrames base outer
  dicts : KtsDicts (outer.filterMap (·.frame)) h
theorem Grd.alive {base h : Heap} {outer : List Env} (G : Grd base outer h) : ∀ b ∈ outer.filterMap (·.frame), base.get? b = none ∧ ∃ o, h.get? b = some o := fun b hb =>
  let ⟨h1, o, h2, _⟩ := G.frames.mem hb; ⟨h1, o, h2⟩
section
variable {base g h1 h2 : Heap} {outer : List Env} {env : Env} {L : Addr} {m : Str → Option Value} {news : List (Addr × Obj)}
theorem Grd.push (G : Grd base outer g) (F : Fr g L h1 m) (hf : env.frame = some L) (hk : env.scope.kind ≠ .module) : Grd base (env :: outer) h1 := by
  have hb : ∀ b o, base.get? b = some o → h1.get? b = some o := fun b o e => F.keep _ _ (G.stays b o e)
  have hn : base.get? L = none := by
    cases e : base.get? L with
    | none => rfl
    | some o => have := G.stays _ _ e; rw [kts_self F] at this; cases this
  refine ⟨hb, Heap.FunFrames.cons hk hf F.ns hn (G.frames.of_keeps fun b o e _ => ⟨o, F.keep _ _ e, rfl⟩), fun b hm => ?_⟩
  rw [List.filterMap_cons, hf] at hm
  rcases List.mem_cons.mp hm with rfl | hm
  · obtain ⟨o, es, ep, ho, hd, _⟩ := F.ns
    exact ⟨o, es, ep, ho, hd⟩
  · obtain ⟨o, es, n, ho, hd⟩ := G.dicts b hm
    exact ⟨o, es, n, F.keep _ _ ho, hd⟩
theorem Grd.self (h : Heap) : Grd h [] h := ⟨fun _ _ e => e, trivial, ktsDicts_nil⟩
/-- what holds a sequence or fields is no frame -/
theorem Grd.no_seq {outer : List Env} {base h : Heap} (G : Grd base outer h) {b : Addr} {o : Obj} {vs : Array Value} {n : Nat} (ho : h.get? b = some o) (hd : o.data = .seq vs n) : b ∉ outer.filterMap (·.frame) := fun hm => by
  obtain ⟨o', es, n', ho', hd'⟩ := G.dicts b hm
  rw [ho] at ho'
  obtain rfl := Option.some.inj ho'
  rw [hd] at hd'; cases hd'
theorem ns_slots {h h' : Heap} {L : Addr} {m : Str → Option Value} (n : h.Ns L m) (k : ∀ o, h.get? L = some o → ∃ sl, h'.get? L = some { o with slots := sl }) : h'.Ns L m := by
  obtain ⟨o, es, ep, ho, hd, r⟩ := n
  obtain ⟨sl, hs⟩ := k o ho
  exact ⟨_, es, ep, hs, hd, r⟩
/-- what is known of a frame after its frames' slots have turned -/
theorem turned (G : Grd base outer g) (F : Fr g L h1 m) (N : News g L h1 news) (hL : ∀ o, h1.get? L = some o → ∃ sl, h2.get? L = some { o with slots := sl })
    (ho : ∀ b o, b ∉ outer.filterMap (·.frame) → b ≠ L → h1.get? b = some o → h2.get? b = some o) (hs : ∀ b o, b ∈ outer.filterMap (·.frame) → h1.get? b = some o → ∃ sl, h2.get? b = some { o with slots := sl }) :
    ∃ g', KtsTurn (outer.filterMap (·.frame)) g g' ∧ Fr g' L h2 m ∧ News g' L h2 news ∧ base.StaysIn g' := by
  obtain ⟨T, S⟩ := kts_turn_at (h := h2) (fs := outer.filterMap (·.frame)) (g := g) (fun b hb => (G.alive b hb).2)
    (fun b o e nm => ho b o nm (fun q => by rw [q, kts_self F] at e; cases e) (F.keep _ _ e)) (fun b o e hm => hs b o hm (F.keep _ _ e))
  refine ⟨_, T, ⟨ns_slots F.ns hL, S, by rw [T.size]; exact F.above⟩, fun p hp => ?_, fun b o e => T.other b o (G.stays b o e) fun hm => by rw [(G.alive b hm).1] at e; cases e⟩
  obtain ⟨n1, n2, n3⟩ := N p hp
  exact ⟨ho _ _ (fun hm => by obtain ⟨_, o, ho⟩ := G.alive _ hm; rw [n3] at ho; cases ho) n2 n1, n2, T.none_ _ n3⟩
theorem moved_on (G : Grd base outer g) (F : Fr g L h1 m) (N : News g L h1 news) (hf : env.frame = some L) (M : Moved (env :: outer) h1 h2) :
    ∃ g', KtsTurn (outer.filterMap (·.frame)) g g' ∧ Fr g' L h2 m ∧ News g' L h2 news ∧ base.StaysIn g' := by
  obtain ⟨gM, TM, sM⟩ := M
  have hfs : (env :: outer).filterMap (·.frame) = L :: outer.filterMap (·.frame) := by rw [List.filterMap_cons, hf]
  rw [hfs] at TM
  refine turned G F N (fun o e => ?_) (fun b o hb hl e => sM _ _ (TM.other b o e (by simp [hb]; exact hl))) (fun b o hb e => ?_)
  · obtain ⟨sl, hs⟩ := TM.frame L o e (.head _)
    exact ⟨sl, sM _ _ hs⟩
  · obtain ⟨sl, hs⟩ := TM.frame b o e (.tail _ hb)
    exact ⟨sl, sM _ _ hs⟩
theorem moved_end {g' h3 : Heap} (T : KtsTurn (outer.filterMap (·.frame)) g g') (k : g'.StaysIn h3) : Moved outer g h3 := ⟨g', T, k⟩
theorem Grd.turn {g' : Heap} (G : Grd base outer g) (T : KtsTurn (outer.filterMap (·.frame)) g g') : Grd base outer g' :=
  ⟨fun b o e => T.other b o (G.stays b o e) fun hm => (by rw [(G.alive b hm).1] at e; cases e), G.frames.of_keeps fun b o e _ => let ⟨sl, hs⟩ := T.up e; ⟨_, hs, rfl⟩, G.dicts.turn T⟩
end
section
variable {prog : Program} {w : World} {A₀ : Around} {E : Value → Shared → Prop} {s' : Shared} {base g h : Heap} {outer : List Env} {L a e : Addr} {m : Str → Option Value} {name : Str} {scope : Scope} {cd : Value}
  {b₀ : Stmt} {suite : List Stmt} {pos np : Pos} {rest : List ExceptHandler} {Q : Flow → Shared → Prop} {news : List (Addr × Obj)} {KF : Frag} {p : Program} {loose : List Str} {mg mb : Str → Option Value} {x : Str} {X T' : String}
/-- an exception that a builtin raises in the frame itself, caught there -/
theorem caught_own (hfr : A₀.frames = some outer) (G : Grd base outer g) (hx : Heap.NewExc h s'.heap e X) (F : Fr g L h m) (N : News g L h news) (XB : KF.In base) (TB : TopRead p loose mg mb base)
    (ex : nsIn KF mainGlobals x = some none) (hv : bootBuiltins x = some (.type T')) (hn' : x ≠ "__name__")
    (hexc : isSubtype (.type T') (.type "BaseException") = pure true) (hnt : isSubtype (.type ((Manifest.find? T').elim "type" fun y => y.metatype)) (.type "tuple") = pure false) (hsub : isSubtype (.type X) (.type T') = pure true)
    (k : ∀ h' g' oe ws E', KtsTurn (outer.filterMap (·.frame)) g g' → Fr g' L h' m → News g' L h' news → Grd base outer g' → (∀ b o, b ≠ e → b ≠ L → b ∉ outer.filterMap (·.frame) → s'.heap.get? b = some o → h'.get? b = some o) →
      h'.get? e = some oe → oe.data = .fields ws → ws[2]? = some .none → 2 < ws.size → g'.get? e = none →
      wpAny (model prog w) ((A₀.deeper (envOf name scope L a cd)).mark (some (.ref e))) (execs (b₀ :: suite) (envOf name scope L a cd)) Q E' { s' with heap := h' })
    (hk : scope.kind = .function := by rfl) (hkn : (envOf name scope L a cd).kindOf x = some .globalImplicit := by rfl) (hd : (x == ("__debug__" : Str)) = false := by decide) :
    wpAny (model prog w) (A₀.deeper (envOf name scope L a cd)) (noteFrame (.ref e) (envOf name scope L a cd))
      (fun _ s₂ => wpAny (model prog w) (A₀.deeper (envOf name scope L a cd)) (setFlight (.ref e) none) (fun _ s₃ =>
        wpAny (model prog w) (A₀.deeper (envOf name scope L a cd)) (handleBy (.ref e) (envOf name scope L a cd) (.ExceptHandler (some (.Name x np)) none (b₀ :: suite) pos :: rest)) Q E s₃) E s₂) E s' := by
  obtain ⟨ob, tp, he, hcls, hdat⟩ := hx.there
  have hkind : (envOf name scope L a cd).scope.kind ≠ .module := by
    show scope.kind ≠ .module
    rw [hk]; decide
  have G1 : Grd base (envOf name scope L a cd :: outer) h := G.push F rfl hkind
  have hl : s'.heap.FunFrames base (envOf name scope L a cd :: outer) := G1.frames.of_keeps fun b o e _ => ⟨o, hx.keeps _ _ e, rfl⟩
  have hfs : (envOf name scope L a cd :: outer).filterMap (·.frame) = L :: outer.filterMap (·.frame) := rfl
  have hef : e ∉ L :: outer.filterMap (·.frame) := fun hm => by
    obtain ⟨_, o, ho⟩ := G1.alive e hm
    rw [hx.new] at ho; cases ho
  have hge : g.get? e = none := by
    cases q : g.get? e with
    | none => rfl
    | some o => have := F.keep _ _ q; rw [hx.new] at this; cases this
  unfold noteFrame
  simp only [show (envOf name scope L a cd).frame = some L from rfl]
  refine wpAny_bind (wpAny_field he hdat (x := .none) rfl ?_)
  rw [if_neg (by decide)]
  refine wpAny_bind (wpAny_frameOf_fun (Around.frames_deeper hfr) hl rfl fun h₁ hs₁ => ?_)
  refine wpAny_bind (wpAny_entryPlaceOf fun pl hpl => ?_)
  unfold EntryCells.newEntry newFields
  refine wpAny_bind (wpAny_newObj_type ?_ (hpl.sizeOk5 _ _ _ _ _))
  have he₁ : h₁.get? e = some ob := (hs₁.2.1 e hef).trans he
  have he₂ := Heap.get?_push_of_some (h := h₁) { cls := .type "traceback", dict := none, data := .fields ([.none, .ref L, .none, rawInt L, .none] ++ (if pl.isEmpty then List.replicate 6 Value.none else pl)).toArray } he₁
  refine wpAny_setField he₂ hdat (by simp) ?_
  have hTe : h₁.objs.size ≠ e := Nat.ne_of_gt (Heap.lt_size he₁)
  have hd₃ := Obj.data_mapFields hdat (·.setIfInBounds 1 (Value.ref h₁.objs.size))
  have he₃ := Heap.get?_update_self (Obj.mapFields (·.setIfInBounds 1 (Value.ref h₁.objs.size))) he₂ (Obj.isFreed_of_fields hd₃)
  have hT₃ := (Heap.get?_update_other (h₁.push { cls := .type "traceback", dict := none, data := .fields ([.none, .ref L, .none, rawInt L, .none] ++ (if pl.isEmpty then List.replicate 6 Value.none else pl)).toArray })
    (Obj.mapFields (·.setIfInBounds 1 (Value.ref h₁.objs.size))) (Ne.symm hTe)).trans (Heap.get?_push_size h₁ rfl)
  have keep₃ : ∀ b o, b ≠ e → h₁.get? b = some o →
      ((h₁.push { cls := .type "traceback", dict := none, data := .fields ([.none, .ref L, .none, rawInt L, .none] ++ (if pl.isEmpty then List.replicate 6 Value.none else pl)).toArray }).update e (Obj.mapFields (·.setIfInBounds 1 (Value.ref h₁.objs.size)))).get? b = some o :=
    fun b o hbe hb => by
      rw [Heap.get?_update_other _ _ (Ne.symm hbe)]
      exact Heap.get?_push_of_some _ hb
  generalize (h₁.push { cls := .type "traceback", dict := none, data := .fields ([.none, .ref L, .none, rawInt L, .none] ++ (if pl.isEmpty then List.replicate 6 Value.none else pl)).toArray }).update e (Obj.mapFields (·.setIfInBounds 1 (Value.ref h₁.objs.size))) = h₃ at he₃ hT₃ keep₃ ⊢
  have hTn : ∀ b o, s'.heap.get? b = some o → b ≠ h₁.objs.size := fun b o hb q => by
    obtain ⟨sl, hs⟩ := hs₁.2.2 b o hb
    exact Nat.lt_irrefl _ (q ▸ Heap.lt_size hs)
  -- the flight's place is wiped, twice
  have flight : ∀ {A' : Around} {Q' : Unit → Shared → Prop} {E' : Value → Shared → Prop} {hh : Heap} {tts : Array Value}, hh.get? e = some (ob.mapFields (·.setIfInBounds 1 (Value.ref h₁.objs.size))) → hh.get? h₁.objs.size = some { cls := .type "traceback", dict := none, data := .fields tts } → 3 < tts.size →
      (∀ hh' tts', Heap.SameBut h₁.objs.size hh hh' → hh'.get? h₁.objs.size = some { cls := .type "traceback", dict := none, data := .fields tts' } → 3 < tts'.size → Q' () { s' with heap := hh' }) → wpAny (model prog w) A' (setFlight (.ref e) none) Q' E' { s' with heap := hh } := by
    intro A' Q' E' hh tts h1 h2 h3 hq
    unfold setFlight
    refine wpAny_bind (wpAny_field h1 hd₃ (x := .ref h₁.objs.size) (by simp) ?_)
    rw [if_pos (by simp)]
    refine wpAny_setField h2 rfl h3 (hq _ (tts.setIfInBounds 3 .none) (Heap.SameBut.update ..) ?_ (by simpa using h3))
    rw [Heap.get?_update_self _ h2 rfl]
    rfl
  refine flight he₃ hT₃ (by first | (simp; done) | (rcases hpl with rfl | ⟨_, _, _, _, _, _, _, rfl⟩ <;> simp)) fun h₄ tts₄ hs₄ hT₄ hz₄ => ?_
  have toN : ∀ {hh : Heap}, Heap.SameBut h₁.objs.size h₃ hh → (∀ b o, b ≠ e → b ≠ L → b ∉ outer.filterMap (·.frame) → s'.heap.get? b = some o → hh.get? b = some o) ∧ (∀ b o, b ∈ L :: outer.filterMap (·.frame) → s'.heap.get? b = some o → ∃ sl, hh.get? b = some { o with slots := sl }) := fun hsb =>
    ⟨fun b o n1 n2 n3 hb => hsb.extBut b o (hTn b o hb) (keep₃ b o n1 ((hs₁.2.1 b (by rw [hfs]; simp [n3]; exact n2)).trans hb)), fun b o hm hb => by
      obtain ⟨sl, hs⟩ := hs₁.2.2 b o hb
      exact ⟨sl, hsb.extBut b _ (hTn b o hb) (keep₃ b _ (fun q => hef (q ▸ hm)) hs)⟩⟩
  have mk : ∀ {hh : Heap}, Heap.SameBut h₁.objs.size h₃ hh → ∃ g', KtsTurn (outer.filterMap (·.frame)) g g' ∧ Fr g' L hh m ∧ News g' L hh news ∧ base.StaysIn g' := fun hsb => by
    obtain ⟨t1, t2⟩ := toN hsb
    exact turned G F N (fun o ho => t2 L o (.head _) (hx.keeps _ _ ho)) (fun b o nb nl ho => t1 b o (fun q => by rw [q, hx.new] at ho; cases ho) nl nb (hx.keeps _ _ ho)) (fun b o hb ho => t2 b o (.tail _ hb) (hx.keeps _ _ ho))
  obtain ⟨g4, T4, F4, N4, B4⟩ := mk hs₄
  have he₄ := hs₄.extBut _ _ (Ne.symm hTe) he₃
  refine wpAny_handleBy_builtin (X := X) (T := T') (b := true) hexc hnt hsub (name_B F4 (XB.keeps B4) (TB.keeps B4) ex hv hn' ⟨rfl, ⟨_, he₄, by rw [Obj.cls_mapFields]; exact hcls⟩, ?_⟩ hk hkn hd)
  rw [if_pos rfl]
  refine flight he₄ hT₄ hz₄ fun h₅ tts₅ hs₅ hT₅ hz₅ => ?_
  have hs35 : Heap.SameBut h₁.objs.size h₃ h₅ := ⟨hs₅.1.trans hs₄.1, fun b hb => (hs₅.2 b hb).trans (hs₄.2 b hb)⟩
  obtain ⟨g5, T5, F5, N5, B5⟩ := mk hs35
  have he₅ := hs₅.extBut _ _ (Ne.symm hTe) he₄
  exact k h₅ g5 _ _ _ T5 F5 N5 (G.turn T5) (toN hs35).1 he₅ hd₃ (by simp) (by simp) (T5.none_ _ hge)
end
end Mine
end
-- H3
section
open PySem PySem.W PySem.W.X PyProof.Rows PySem.Calls
set_option maxRecDepth 100000
set_option maxHeartbeats 1000000
namespace Mine
theorem plain_unchain : plainId "proto.unchain" = true := by decide +kernel
theorem entry_unchain : entryFor table "proto.unchain" = some Builtin.«proto.unchain» := entryFor_of_tree (by kernel_rfl)
section
variable {prog : Program} {w : World} {A : Around} {E : Value → Shared → Prop} {s : Shared}
theorem raiseNew_in {α : Type} {e e0 : Addr} {oe o0 : Obj} {ws vs : Array Value} {Q : α → Shared → Prop} (hh : A.handled = some (.ref e0)) (hne : e0 ≠ e) (h0 : s.heap.get? e0 = some o0) (hd0 : o0.data = .fields ws) (hw : ws[2]? = some .none)
    (he : s.heap.get? e = some oe) (hd : oe.data = .fields vs) (hsz : 2 < vs.size) (h : ∀ h' o', Heap.SameBut e s.heap h' → h'.get? e = some o' → o'.cls = oe.cls → E (.ref e) { s with heap := h' }) :
    wpAny (model prog w) A (raiseNew (.ref e) : Sem α) Q E s := by
  unfold raiseNew
  refine wpAny_bind (wpAny_handled ?_)
  rw [hh]
  simp only
  rw [if_pos (by simp [hne])]
  refine wpAny_bind (wpAny_holding (wpAny_runValue (codeAny_builtin entry_unchain ?_)))
  rw [Around.under_plainId plain_unchain _]
  show wpAny _ _ (field (.ref e0) 2 >>= _) _ _ _
  refine wpAny_bind (wpAny_field h0 hd0 hw ?_)
  show wpAny _ _ (ret Value.none) _ _ _
  refine wpAny_pure ?_
  show wpAny _ _ (updateField e 2 (.ref e0) >>= fun _ => throw (.ref e)) _ _ _
  refine wpAny_bind ?_
  unfold updateField
  refine wpAny_bind (wpAny_load he ?_)
  simp only [hd, if_pos hsz]
  refine wpAny_update he (wpAny_throw ?_)
  have hd' := Obj.data_mapFields hd (·.setIfInBounds 2 (Value.ref e0))
  exact h _ _ (Heap.SameBut.update ..) (Heap.get?_update_self _ he (Obj.isFreed_of_fields hd')) (Obj.cls_mapFields _ _)
/-- the exception that is being handled -/
def Handled (h : Heap) (e0 : Addr) : Prop := ∃ o ws, h.get? e0 = some o ∧ o.data = .fields ws ∧ ws[2]? = some .none
theorem nextOf_tuple_end_in {it l e0 : Addr} {i : Nat} {items} {Q : Value → Shared → Prop} (hh : A.handled = some (.ref e0)) (hH : Handled s.heap e0) (hne : e0 ≠ it)
    (hit : s.heap.IsTupleIter it l i) (hl : s.heap.IsTuple l items) (hx : items[i]? = none)
    (hE : ∀ h' e, Heap.ExtBut it s.heap h' → (∃ o, h'.get? e = some o ∧ o.cls = .type "StopIteration") → E (.ref e) { s with heap := h' }) :
    wpAny (model prog w) A (Builtin.SmallTypes.nextOf (.ref it)) Q E s := by
  obtain ⟨o, ho, hc, hd⟩ := id hit
  obtain ⟨ol, hol, _, nl, hdl⟩ := hl
  obtain ⟨o0, ws, h0, hd0, hw⟩ := hH
  unfold Builtin.SmallTypes.nextOf
  refine wpAny_bind (wpAny_callSpecial?_slot (name := Str.ofString "__next__") hit.typeIs F.slot_tuple_iterator_next
    (wpAny_call_entry F.slot_tuple_iterator_next hit.typeIs F.entry_tuple_iterator_next ?_ (F.args_tuple_iterator_next_1 _)))
  show wpAny _ _ (field (.ref it) 0 >>= _) _ _ s
  refine wpAny_bind (wpAny_field ho hd (x := .ref l) rfl ?_)
  show wpAny _ _ (if (Value.ref l == Value.none) = true then _ else _) _ _ s
  rw [if_neg (show ¬ ((Value.ref l == Value.none) = true) from Bool.false_ne_true)]
  show wpAny _ _ (field (.ref it) 1 >>= _) _ _ s
  refine wpAny_bind (wpAny_field ho hd (x := .int i 0) rfl ?_)
  show wpAny _ _ (seqItems? (.ref l) >>= _) _ _ s
  refine wpAny_bind (wpAny_seqItems hol hdl ?_)
  simp only [Int.toNat_natCast, hx]
  refine wpAny_bind (wpAny_rule (wpAny_bind (wpAny_setField ho hd (by simp) ?_)))
  show wpAny _ _ (newExc (.type "StopIteration") [] >>= _) _ _ _
  refine wpAny_bind ?_
  simp only [newExc, newTuple]
  refine wpAny_bind (wpAny_newObj_type ?_ (by size_fits))
  refine wpAny_bind (m := firstArgMember _ _) (wpAny_of_eq (a := Value.none) (by first | rfl | (simp only [firstArgMember]; rfl)) ?_)
  refine wpAny_newObj_type ?_ (by size_fits)
  generalize hH3 : (s.heap.update it (Obj.mapFields fun x => x.setIfInBounds 0 Value.none)) = H3
  have sb : Heap.SameBut it s.heap H3 := by rw [← hH3]; exact Heap.SameBut.update ..
  have up : ∀ b x, H3.get? b = some x → ((H3.push { cls := .type "tuple", dict := none, data := .seq ([] : List Value).toArray })).get? b = some x := fun b x e => Heap.get?_push_of_some _ e
  have h0' : ((H3.push { cls := .type "tuple", dict := none, data := .seq ([] : List Value).toArray })).get? e0 = some o0 := up _ _ (sb.extBut _ _ hne h0)
  refine raiseNew_in (e0 := e0) (by simpa using hh) (Nat.ne_of_lt (Heap.lt_size h0')) (Heap.get?_push_of_some _ h0') hd0 hw (Heap.get?_push_size _ rfl) rfl (by simp; omega) fun h' o' hs ho' hc' => ?_
  refine hE h' _ (fun b x hb e => hs.extBut b x (Nat.ne_of_lt (Heap.lt_size (up _ _ (sb.extBut b x hb e)))) (Heap.get?_push_of_some _ (up _ _ (sb.extBut b x hb e)))) ⟨o', ho', hc'⟩
theorem Draws.tupleIn {e0 : Addr} (hh : A.handled = some (.ref e0)) (it l : Addr) (hne : l ≠ it) (h0 : e0 ≠ it) (items : Array Value) :
    Draws prog w A it [it, l, e0] items.size (fun i v => items[i]? = some v) (fun i h => h.IsTupleIter it l i ∧ h.IsTuple l items ∧ Handled h e0) where
  live := fun _ _ st => let ⟨o, ho, _⟩ := st.1; ⟨o, ho⟩
  frame := fun _ _ _ st hk => ⟨st.1.at fun o e => hk it (by simp) o e, st.2.1.at fun o e => hk l (by simp) o e, let ⟨o, ws, a, b⟩ := st.2.2; ⟨o, ws, hk e0 (by simp) o a, b⟩⟩
  item := fun i s Q E hi st hQ => nextOf_tuple_item st.1 st.2.1 (x := items[i]) (by simp [hi]) fun h' hit' hs' =>
    hQ _ h' s.toks (by simp [hi]) ⟨hit', st.2.1.extBut hs'.extBut hne, let ⟨o, ws, a, b⟩ := st.2.2; ⟨o, ws, hs'.extBut _ _ h0 a, b⟩⟩ hs'
  done := fun s Q E st hE => nextOf_tuple_end_in hh st.2.2 h0 st.1 st.2.1 (by simp) hE
theorem letOwned_zipN {elts : List Expr} {x1} {pos : Pos} {z TI TO T : Addr} {f0 f1 : Value} {Q : Unit → Shared → Prop} (hz : s.heap.get? z = some (zipObj f0 f1 TI TO))
    (hQ : ∀ h' f0', h'.get? z = some (zipObj f0' f1 TI TO) → (f0' = f0 ∨ f0' = .none) → Heap.SameBut z s.heap h' → Q () { s with heap := h' }) :
    wpAny (model prog w) A (letOwnedTupleGo (.Tuple elts x1 pos) (.ref z) (.ref T)) Q E s := by
  unfold letOwnedTupleGo
  refine wpAny_bind (wpAny_load hz ?_)
  show wpAny _ _ (if (["enumerate", "zip", "dict_itemiterator", "dict_reverseitemiterator", "odict_iterator", "itertools.zip_longest", "itertools.pairwise"].contains "zip" &&
      (#[f0, f1, .bool false, .ref TI, .ref TO] : Array Value)[0]? == some (rawInt T)) = true then _ else _) Q E s
  split
  · refine wpAny_bind (wpAny_rule ?_)
    show wpAny _ _ (setField (.ref z) 0 .none) Q E s
    exact wpAny_setField_rec hz (by simp) fun h' hz' hs' => hQ h' _ hz' (.inr rfl) hs'
  · exact wpAny_pure (hQ s.heap f0 hz (.inl rfl) (Heap.SameBut.refl ..))
end
end Mine
end
-- H5
section
open PySem PySem.W PySem.W.X PyProof.Rows PySem.Calls
set_option maxRecDepth 100000
set_option maxHeartbeats 1000000
namespace Mine
section
variable {prog : Program} {w : World} {A : Around} {E : Value → Shared → Prop} {s : Shared}
def ztFp (i1 i2 t1 t2 e0 : Addr) (k : Nat) : List Addr := if k = 0 then [i1, t1, e0] else [i2, t2, e0]
def ztSt (i1 i2 t1 t2 e0 : Addr) (xs ys : Array Value) (k i : Nat) (h : Heap) : Prop := if k = 0 then h.IsTupleIter i1 t1 i ∧ h.IsTuple t1 xs ∧ Handled h e0 else h.IsTupleIter i2 t2 i ∧ h.IsTuple t2 ys ∧ Handled h e0
def ztP (xs ys : Array Value) (k i : Nat) (v : Value) : Prop := if k = 0 then xs[i]? = some v else ys[i]? = some v
def ztN (xs ys : Array Value) (k : Nat) : Nat := if k = 0 then xs.size else ys.size
/-- zip over two tuples while an exception is being handled -/
theorem zip_tuples {t1 t2 e0 : Addr} {xs ys : Array Value} {Q : Value → Shared → Prop} (h1 : s.heap.IsTuple t1 xs) (h2 : s.heap.IsTuple t2 ys) (hH : Handled s.heap e0)
    (h : ∀ z TI TO i1 i2 h', s.heap.StaysIn h' → (∀ b ∈ [z, TI, TO, i1, i2], s.heap.get? b = none) → (∀ A : Around, A.handled = some (.ref e0) → Fam prog w A [i1, i2] (ztFp i1 i2 t1 t2 e0) (ztN xs ys) (ztP xs ys) (ztSt i1 i2 t1 t2 e0 xs ys)) →
      ZApart z TI TO [i1, i2] (ztFp i1 i2 t1 t2 e0) → ZSt z TI TO [i1, i2] (ztSt i1 i2 t1 t2 e0 xs ys) 0 h' → [z, TI, TO, i1, i2].Nodup → Q (.ref z) { s with heap := h' }) :
    wpAny (model prog w) A (call (.type "zip") [.ref t1, .ref t2]) Q E s := by
  refine call_zipN (vs := [.ref t1, .ref t2]) (O := fun k => { cls := .type "tuple_iterator", data := .fields #[if k = 0 then .ref t1 else .ref t2, .int 0 0] }) (.inl rfl) (fun k v hv => ?_) fun h' hk hits hTI ⟨ws, hTO, hws⟩ hz => ?_
  · match k, hv with
    | 0, hv => cases hv; exact .inr (.inr ⟨t1, xs, rfl, h1, rfl⟩)
    | 1, hv => cases hv; exact .inr (.inr ⟨t2, ys, rfl, h2, rfl⟩)
  · simp only [List.length_cons, List.length_nil] at hits hTI hTO hz hws
    have hfresh : ∀ a, s.heap.objs.size ≤ a → s.heap.get? a = none := fun a ha => by
      cases e : s.heap.get? a with
      | none => rfl
      | some o' => exact absurd (Heap.lt_size e) (Nat.not_lt.mpr ha)
    have l1 : t1 < s.heap.objs.size := let ⟨_, e, _⟩ := h1; Heap.lt_size e
    have l2 : t2 < s.heap.objs.size := let ⟨_, e, _⟩ := h2; Heap.lt_size e
    have le : e0 < s.heap.objs.size := let ⟨_, _, e, _⟩ := hH; Heap.lt_size e
    have g0 := hits 0 (by omega)
    have g1 := hits 1 (by omega)
    have hH' : Handled h' e0 := let ⟨o, ws, a, b⟩ := hH; ⟨o, ws, hk _ _ a, b⟩
    have k1 : h'.IsTuple t1 xs := let ⟨o, ho, r⟩ := h1; ⟨o, hk _ _ ho, r⟩
    have k2 : h'.IsTuple t2 ys := let ⟨o, ho, r⟩ := h2; ⟨o, hk _ _ ho, r⟩
    generalize hn : s.heap.objs.size = n at *
    have two : ∀ k, k < [(n + 0 : Nat), n + 1].length → k = 0 ∨ k = 1 := fun k hk => by simp at hk; omega
    have lt1 : @LT.lt Nat _ t1 n := l1
    have lt2 : @LT.lt Nat _ t2 n := l2
    have lte : @LT.lt Nat _ e0 n := le
    have apart : ∀ c, 2 ≤ c → ∀ k, k < [(n + 0 : Nat), n + 1].length → (n + c : Nat) ∉ ztFp (n + 0 : Nat) (n + 1 : Nat) t1 t2 e0 k := fun c hc k hkk hm => by
      rcases two k hkk with rfl | rfl
      · have : @Eq Nat (n + c) (n + 0) ∨ @Eq Nat (n + c) t1 ∨ @Eq Nat (n + c) e0 := by simpa [ztFp] using hm
        omega
      · have : @Eq Nat (n + c) (n + 1) ∨ @Eq Nat (n + c) t2 ∨ @Eq Nat (n + c) e0 := by simpa [ztFp] using hm
        omega
    refine h (n + 2 + 2 : Nat) (n + 2 : Nat) (n + 2 + 1 : Nat) (n + 0 : Nat) (n + 1 : Nat) h' hk ?_ (fun A hh => ⟨fun k a ha => ?_, fun k a ha => ?_, fun k k' a ha hne hk' => ?_⟩) ?_ ?_ ?_
    · intro b hb
      have : @Eq Nat b (n + 2 + 2) ∨ @Eq Nat b (n + 2) ∨ @Eq Nat b (n + 2 + 1) ∨ @Eq Nat b (n + 0) ∨ @Eq Nat b (n + 1) := by simpa using hb
      exact hfresh b (show n ≤ b by omega)
    · match k, ha with
      | 0, ha =>
        cases ha
        exact Draws.tupleIn hh _ t1 (Nat.ne_of_lt (show @LT.lt Nat _ t1 (n + 0) by omega)) (Nat.ne_of_lt (show @LT.lt Nat _ e0 (n + 0) by omega)) xs
      | 1, ha =>
        cases ha
        exact Draws.tupleIn hh _ t2 (Nat.ne_of_lt (show @LT.lt Nat _ t2 (n + 1) by omega)) (Nat.ne_of_lt (show @LT.lt Nat _ e0 (n + 1) by omega)) ys
    · match k, ha with
      | 0, ha => cases ha; simp [ztFp]
      | 1, ha => cases ha; simp [ztFp]
    · have hk0 : k = 0 ∨ k = 1 := by have := (List.getElem?_eq_some_iff.mp ha).1; exact two k this
      rcases hk0 with rfl | rfl <;> rcases two k' hk' with rfl | rfl
      · exact absurd rfl hne
      · cases ha
        intro hm
        have : @Eq Nat (n + 0) (n + 1) ∨ @Eq Nat (n + 0) t2 ∨ @Eq Nat (n + 0) e0 := by simpa [ztFp] using hm
        omega
      · cases ha
        intro hm
        have : @Eq Nat (n + 1) (n + 0) ∨ @Eq Nat (n + 1) t1 ∨ @Eq Nat (n + 1) e0 := by simpa [ztFp] using hm
        omega
      · exact absurd rfl hne
    · exact ⟨apart 4 (by omega), apart 3 (by omega), apart 2 (Nat.le_refl _), by show @Ne Nat _ _; omega, by show @Ne Nat _ _; omega, by show @Ne Nat _ _; omega, by simp⟩
    · refine ⟨⟨_, _, hz, .inl rfl, _, rfl⟩, hTI, ⟨ws, hTO, hws⟩, fun k hkk => ?_⟩
      rcases two k hkk with rfl | rfl
      · exact ⟨⟨_, g0, rfl, rfl⟩, k1, hH'⟩
      · exact ⟨⟨_, g1, rfl, rfl⟩, k2, hH'⟩
    · have q : ∀ a b : Nat, a ≠ b → @Ne Addr a b := fun a b h => h
      simp only [List.nodup_cons, List.mem_cons, List.not_mem_nil, or_false, not_or, List.nodup_nil, not_false_eq_true, and_true]
      refine ⟨⟨q _ _ (by omega), q _ _ (by omega), q _ _ (by omega), q _ _ (by omega)⟩, ⟨q _ _ (by omega), q _ _ (by omega), q _ _ (by omega)⟩, ⟨q _ _ (by omega), q _ _ (by omega)⟩, q _ _ (by omega)⟩
theorem pyNext_tuple_end_in {it l e0 : Addr} {i : Nat} {items} {Q : Option Value → Shared → Prop} (hh : A.handled = some (.ref e0)) (hH : Handled s.heap e0) (hne : e0 ≠ it)
    (hit : s.heap.IsTupleIter it l i) (hl : s.heap.IsTuple l items) (hx : items[i]? = none) (hQ : ∀ h', Heap.ExtBut it s.heap h' → Q none { s with heap := h' }) :
    wpAny (model prog w) A (pyNext (.ref it)) Q E s := by
  obtain ⟨o, ho, hc, hd⟩ := id hit
  obtain ⟨ol, hol, _, nl, hdl⟩ := hl
  obtain ⟨o0, ws, h0, hd0, hw⟩ := hH
  unfold pyNext
  refine wpAny_bind (wpAny_attempt (wpAny_callSpecial?_slot (name := Str.ofString "__next__") hit.typeIs F.slot_tuple_iterator_next
    (wpAny_call_entry F.slot_tuple_iterator_next hit.typeIs F.entry_tuple_iterator_next ?_ (F.args_tuple_iterator_next_1 _))))
  show wpAny _ _ (field (.ref it) 0 >>= _) _ _ s
  refine wpAny_bind (wpAny_field ho hd (x := .ref l) rfl ?_)
  show wpAny _ _ (if (Value.ref l == Value.none) = true then _ else _) _ _ s
  rw [if_neg (show ¬ ((Value.ref l == Value.none) = true) from Bool.false_ne_true)]
  show wpAny _ _ (field (.ref it) 1 >>= _) _ _ s
  refine wpAny_bind (wpAny_field ho hd (x := .int i 0) rfl ?_)
  show wpAny _ _ (seqItems? (.ref l) >>= _) _ _ s
  refine wpAny_bind (wpAny_seqItems hol hdl ?_)
  simp only [Int.toNat_natCast, hx]
  refine wpAny_bind (wpAny_rule (wpAny_bind (wpAny_setField ho hd (by simp) ?_)))
  show wpAny _ _ (newExc (.type "StopIteration") [] >>= _) _ _ _
  refine wpAny_bind ?_
  simp only [newExc, newTuple]
  refine wpAny_bind (wpAny_newObj_type ?_ (by size_fits))
  refine wpAny_bind (m := firstArgMember _ _) (wpAny_of_eq (a := Value.none) (by first | rfl | (simp only [firstArgMember]; rfl)) ?_)
  refine wpAny_newObj_type ?_ (by size_fits)
  generalize hH3 : (s.heap.update it (Obj.mapFields fun x => x.setIfInBounds 0 Value.none)) = H3
  have sb : Heap.SameBut it s.heap H3 := by rw [← hH3]; exact Heap.SameBut.update ..
  have up : ∀ b x, H3.get? b = some x → ((H3.push { cls := .type "tuple", dict := none, data := .seq ([] : List Value).toArray })).get? b = some x := fun b x e => Heap.get?_push_of_some _ e
  have h0' : ((H3.push { cls := .type "tuple", dict := none, data := .seq ([] : List Value).toArray })).get? e0 = some o0 := up _ _ (sb.extBut _ _ hne h0)
  refine raiseNew_in (e0 := e0) (by simpa using hh) (Nat.ne_of_lt (Heap.lt_size h0')) (Heap.get?_push_of_some _ h0') hd0 hw (Heap.get?_push_size _ rfl) rfl (by simp; omega) fun h' o' hs ho' hc' => ?_
  refine wpAny_bind (wpAny_isInstance (T := "StopIteration") (b := true) ⟨o', ho', hc'⟩ isSubtype_stop ?_)
  exact wpAny_pure (hQ h' fun b x hb e => hs.extBut b x (Nat.ne_of_lt (Heap.lt_size (up _ _ (sb.extBut b x hb e)))) (Heap.get?_push_of_some _ (up _ _ (sb.extBut b x hb e))))
theorem assign_pair_in {env : Env} {a b : Str} {pa pb tp : Pos} {kk : Nat} {T e0 : Addr} {x y : Value} {m : Str → Option Value} {Q : Unit → Shared → Prop} (hh : A.handled = some (.ref e0)) (hH : Handled s.heap e0) (ht : s.heap.IsTuple T #[x, y])
    (ha : env.kindOf a = some .local) (hb : env.kindOf b = some .local) (hp : (env.scope.kind == .class || (env.scope.kind == .module && env.locals != env.globals)) = false) (hn : s.heap.Ns env.locals m)
    (h : ∀ (h' : Heap) (tk : Nat), h'.Ns env.locals (fun z => if z = b then some y else if z = a then some x else m z) → (∀ c o, c ≠ env.locals → s.heap.get? c = some o → h'.get? c = some o) → Q () { s with heap := h', toks := tk }) :
    wpAny (model prog w) A (assign (.Tuple [.Name a pa, .Name b pb] kk tp) env (.ref T)) Q E s := by
  rw [arm_assign_Tuple]
  refine wpAny_bind (wpAny_standAt ?_)
  unfold unpack
  have hlt : T ≠ s.heap.objs.size := by obtain ⟨o, ho, _⟩ := ht; exact Nat.ne_of_lt (Heap.lt_size ho)
  have hle : e0 ≠ s.heap.objs.size := by obtain ⟨o, _, ho, _⟩ := hH; exact Nat.ne_of_lt (Heap.lt_size ho)
  show wpAny _ _ (holding [.ref T] (unpackItems (.ref T) 2 none) >>= _) _ _ _
  refine wpAny_bind (wpAny_holding ?_)
  unfold unpackItems
  refine wpAny_bind ?_
  unfold notIterableAtAll
  refine wpAny_bind (wpAny_specialOf ht.typeIs F.slot_tuple_iter.lookup ?_)
  refine wpAny_pure ?_
  simp only [Bool.false_eq_true, if_false]
  refine wpAny_bind (wpAny_holding (wpAny_pyIter_tuple ht ?_))
  refine wpAny_bind (wpAny_holding (wpAny_draw_tuple hlt 2 0 _ _ ⟨_, Heap.get?_push_size _ rfl, rfl, rfl⟩ (ht.push _) (by simp) fun h₁ hit₁ hs₁ => ?_))
  show wpAny _ _ (if ([x, y] : List Value).length < 2 then _ else _) _ _ _
  rw [if_neg (by simp)]
  have ht₁ : h₁.IsTuple T #[x, y] := (ht.push _).extBut hs₁.extBut hlt
  have hH₁ : Handled h₁ e0 := let ⟨o, ws, c, d⟩ := hH; ⟨o, ws, hs₁.extBut _ _ hle (Heap.get?_push_of_some _ c), d⟩
  refine wpAny_bind (wpAny_holding (pyNext_tuple_end_in hh hH₁ hle hit₁ ht₁ (by simp) fun h₂ he₂ => ?_))
  simp only [Option.isSome_none, Bool.false_eq_true, if_false]
  refine wpAny_pure ?_
  have up₂ : ∀ c o, s.heap.get? c = some o → h₂.get? c = some o := fun c o e => he₂ c o (Nat.ne_of_lt (Heap.lt_size e)) (hs₁.extBut c o (Nat.ne_of_lt (Heap.lt_size e)) (Heap.get?_push_of_some _ e))
  have hn₂ : h₂.Ns env.locals m := hn.at' fun o e => up₂ _ o e
  show wpAny _ _ (assignInOrder [assign (.Name a pa) env, assign (.Name b pb) env] [x, y]) _ _ _
  refine assignInOrder_cons ?_
  refine wpAny_assign_Name (wpAny_storeName_local ha hn₂ (fun h₃ hn₃ hs₃ => ?_) hp)
  refine assignInOrder_cons ?_
  refine wpAny_assign_Name (wpAny_storeName_local hb hn₃ (fun h₄ hn₄ hs₄ => ?_) hp)
  refine assignInOrder_nil ?_
  exact h h₄ _ hn₄ fun c o hc e => hs₄.extBut c o hc (hs₃.extBut c o hc (up₂ c o e))
end
end Mine
end
-- H4
section
open PySem PySem.W PySem.W.X PyProof.Rows PySem.Calls PySem.Spec
set_option maxRecDepth 100000
set_option maxHeartbeats 1000000
namespace Mine
/-- a letter, a piece and a row of either as data -/
abbrev lt1 (c : Nat) : Str := ⟨#[c]⟩
abbrev dL (c : Nat) : PyData := .str (lt1 c)
abbrev dP (g : List Nat) : PyData := .tuple (g.map dL)
def Asc (cs : List Nat) : Prop := ∀ c ∈ cs, c < 128
theorem ok1 {c : Nat} (h : c < 128) : PyData.strOk (lt1 c) = true := by simp [PyData.strOk, lt1]; omega
theorem canLay_L : ∀ g : List Nat, Asc g → PyData.canLayAll0 (g.map dL) = true
  | [], _ => rfl
  | c :: r, h => by simp [PyData.canLayAll0, PyData.canLay0, canLay_L r (fun x hx => h x (.tail _ hx)), ok1 (h c (.head _))]
theorem depth_L : ∀ g : List Nat, PyData.depthAll (g.map dL) = 0
  | [] => rfl
  | _ :: r => by simp [PyData.depthAll, PyData.depth, depth_L r]
theorem canLay_P : ∀ ks : List (List Nat), (∀ g ∈ ks, Asc g) → PyData.canLayAll0 (ks.map dP) = true
  | [], _ => rfl
  | g :: r, h => by simp [PyData.canLayAll0, PyData.canLay0, canLay_L g (h g (.head _)), canLay_P r (fun x hx => h x (.tail _ hx))]
theorem depth_P : ∀ ks : List (List Nat), PyData.depthAll (ks.map dP) ≤ 1
  | [] => by simp [PyData.depthAll]
  | g :: r => by have := depth_P r; simp [PyData.depthAll, PyData.depth, depth_L g]; omega
theorem lt1_inj {a b : Nat} : (lt1 a = lt1 b) ↔ a = b := by simp [lt1]
theorem same_L : ∀ a b : List Nat, Spec.sameAll (a.map dL) (b.map dL) = decide (a = b)
  | [], [] => by simp [Spec.sameAll]
  | [], _ :: _ => by simp [Spec.sameAll]
  | _ :: _, [] => by simp [Spec.sameAll]
  | x :: a, y :: b => by
    simp only [List.map_cons, Spec.sameAll, Spec.same, same_L a b]
    by_cases h : x = y <;> by_cases h' : a = b <;> simp [h, h', lt1]
theorem same_P : ∀ a b : List (List Nat), Spec.sameAll (a.map dP) (b.map dP) = decide (a = b)
  | [], [] => by simp [Spec.sameAll]
  | [], _ :: _ => by simp [Spec.sameAll]
  | _ :: _, [] => by simp [Spec.sameAll]
  | x :: a, y :: b => by
    simp only [List.map_cons, Spec.sameAll, Spec.same, same_P a b, same_L x y]
    by_cases h : x = y <;> by_cases h' : a = b <;> simp [h, h']
theorem shaped_PL (ks : List (List Nat)) (h : ∀ g ∈ ks, Asc g) : SeqAt.shaped (.list (ks.map dP)) = true := by
  have := depth_P ks
  simp [SeqAt.shaped, PyData.canLay0, PyData.depth, canLay_P ks h]; omega
theorem shaped_LL (ks : List Nat) (h : Asc ks) : SeqAt.shaped (.list (ks.map dL)) = true := by
  simp [SeqAt.shaped, PyData.canLay0, PyData.depth, canLay_L ks h, depth_L]
theorem asc_gr {q : Nat} : ∀ {cs : List Nat}, Asc cs → ∀ g ∈ P.gr q cs, Asc g
  | [], _, g, hg => by simp [P.gr] at hg
  | c :: cs, h, g, hg => by
    rw [P.gr] at hg
    split at hg
    · rcases List.mem_cons.mp hg with rfl | hg
      · exact fun x hx => h x (List.mem_of_mem_take hx)
      · exact asc_gr (fun x hx => h x (.tail _ hx)) g hg
    · simp at hg
theorem has_P (ks : List (List Nat)) : (Shape.list (.tuples .str)).has (.list (ks.map dP)) = true := list_map_has fun g => tuples_map_has fun _ => rfl
theorem same_PL (a b : List (List Nat)) : Spec.same (.list (a.map dP)) (.list (b.map dP)) = decide (a = b) := by simp only [Spec.same]; exact same_P a b
theorem reads_all_at {h : Heap} {ds : List PyData} : ∀ (vs : List Value), vs.length = ds.length → (∀ (k : Nat) v d, vs[k]? = some v → ds[k]? = some d → ∃ as, Reads h v d as) → ∃ as, ReadsAll h vs ds as := by
  induction ds with
  | nil => intro vs hl _; obtain rfl := List.length_eq_zero_iff.mp hl; exact ⟨_, .nil⟩
  | cons d ds ih =>
    intro vs hl hr
    cases vs with
    | nil => simp at hl
    | cons v vs =>
      obtain ⟨a1, r1⟩ := hr 0 v d rfl rfl
      obtain ⟨a2, r2⟩ := ih vs (by simpa using hl) fun k v d h1 h2 => hr (k + 1) v d (by simpa using h1) (by simpa using h2)
      exact ⟨_, .cons r1 r2⟩
/-- a list of pieces that stands in a heap -/
def PiecesH (h : Heap) (S : Addr) (cs : List Nat) (q : Nat) : Prop :=
  ∃ acc c, h.get? S = some { cls := .type "list", dict := none, data := .seq acc c, slots := #[] } ∧ acc.size = cs.length + 1 - q ∧
    ∀ (j : Nat) v, acc[j]? = some v → ∃ T xs, v = .ref T ∧ h.get? T = some (tupO xs 0) ∧ xs.size = q ∧ ∀ (k : Nat) x, xs[k]? = some x → ∃ c u, cs[j + k]? = some c ∧ x = .str ⟨#[c]⟩ u
theorem PiecesN.at {ps : List (Addr × Obj)} {S : Addr} {cs : List Nat} {q : Nat} {h : Heap} (x : PiecesN ps S cs q) (k : ∀ p ∈ ps, h.get? p.1 = some p.2) : PiecesH h S cs q := by
  obtain ⟨acc, c, h1, h2, h3⟩ := x
  exact ⟨acc, c, k _ h1, h2, fun j v hv => let ⟨T, xs, e1, e2, r⟩ := h3 j v hv; ⟨T, xs, e1, k _ e2, r⟩⟩
theorem PiecesH.stays {h h' : Heap} {S : Addr} {cs : List Nat} {q : Nat} (x : PiecesH h S cs q) (k : h.StaysIn h') : PiecesH h' S cs q := by
  obtain ⟨acc, c, h1, h2, h3⟩ := x
  exact ⟨acc, c, k _ _ h1, h2, fun j v hv => let ⟨T, xs, e1, e2, r⟩ := h3 j v hv; ⟨T, xs, e1, k _ _ e2, r⟩⟩
theorem piece_at {cs : List Nat} {q j : Nat} (hj : j < cs.length + 1 - q) (k : Nat) (hk : k < q) : ((cs.drop j).take q)[k]? = cs[j + k]? := by
  rw [List.getElem?_take, if_pos hk, List.getElem?_drop]
theorem PiecesH.reads {h : Heap} {S : Addr} {cs : List Nat} {q : Nat} (x : PiecesH h S cs q) (hq : 0 < q) : ∃ as, Reads h (.ref S) (.list ((P.gr q cs).map dP)) as := by
  obtain ⟨acc, c, h1, h2, h3⟩ := x
  have hlen := P.gr_len hq cs
  obtain ⟨as, r⟩ := reads_all_at (h := h) (ds := (P.gr q cs).map dP) acc.toList (by rw [Array.length_toList, List.length_map, hlen, h2]) fun j v d hv hd => by
    rw [Array.getElem?_toList] at hv
    obtain ⟨T, xs, rfl, hT, hsz, hx⟩ := h3 j v hv
    have hj : j < cs.length + 1 - q := by have := (Array.getElem?_eq_some_iff.mp hv).1; omega
    rw [List.getElem?_map, P.gr_at hq cs j hj] at hd
    obtain rfl : dP ((cs.drop j).take q) = d := Option.some.inj hd
    have ltk : ((cs.drop j).take q).length = q := by rw [List.length_take, List.length_drop]; omega
    obtain ⟨as, r⟩ := reads_all_at (h := h) (ds := ((cs.drop j).take q).map dL) xs.toList (by rw [Array.length_toList, List.length_map, ltk, hsz]) fun k v d hv hd => by
      rw [Array.getElem?_toList] at hv
      obtain ⟨c, u, hc, rfl⟩ := hx k v hv
      have hk : k < q := by have := (Array.getElem?_eq_some_iff.mp hv).1; omega
      rw [List.getElem?_map, piece_at hj k hk, hc] at hd
      obtain rfl : dL c = d := Option.some.inj hd
      exact ⟨[], .str _ _⟩
    exact ⟨as, .tuple hT rfl rfl r⟩
  exact ⟨_, .list h1 rfl rfl r⟩
section
variable {prog : Program} {w : World} {A : Around} {E : Value → Shared → Prop} {s : Shared}
theorem pieces_ne {S1 S2 : Addr} {cs1 cs2 : List Nat} {q : Nat} {Q : Value → Shared → Prop} (h1 : PiecesH s.heap S1 cs1 q) (h2 : PiecesH s.heap S2 cs2 q) (hq : 0 < q) (ha1 : Asc cs1) (ha2 : Asc cs2) (hu : A.units + 64 < cLine) (h : Q (.bool (!decide (P.gr q cs1 = P.gr q cs2))) s) :
    wpAny (model prog w) A (compareOp .NotEq (.ref S1) (.ref S2)) Q E s := by
  obtain ⟨as, r1⟩ := h1.reads hq
  obtain ⟨bs, r2⟩ := h2.reads hq
  exact ne_dataH_same r1 r2 (shaped_PL _ (asc_gr ha1)) (shaped_PL _ (asc_gr ha2)) hu (SeqAt.noMix_of_shape (.list (.tuples .str)) rfl _ _ (has_P _) (has_P _)) (by rw [same_PL]; exact h)
end
theorem PiecesH.moved {h h' : Heap} {S : Addr} {cs : List Nat} {q : Nat} (x : PiecesH h S cs q) (k : ∀ b o vs n, h.get? b = some o → o.data = .seq vs n → h'.get? b = some o) : PiecesH h' S cs q := by
  obtain ⟨acc, c, h1, h2, h3⟩ := x
  exact ⟨acc, c, k _ _ _ _ h1 rfl, h2, fun j v hv => let ⟨T, xs, e1, e2, r⟩ := h3 j v hv; ⟨T, xs, e1, k _ _ _ _ e2 rfl, r⟩⟩
end Mine
end
-- H5i
section

end
-- F3
section
open PySem PySem.W PySem.W.X PyProof.Rows PySem.Calls
set_option maxRecDepth 100000
set_option maxHeartbeats 1000000
namespace Mine
theorem fillF3 : PySem.Challenge.rw_ah5040_01 = PySem.Challenge.rw_ah5040_01 ∧ Mine.hd.heap_39 = Mine.hd.heap_39 := by
  k_fill
  exact ⟨rfl, rfl⟩
local macro_rules | `(tactic| walk_at "my S") => `(tactic| (refine wpAny_call ?_; refine' enterS ?k3 ?k5 ?k6 ?k7 ?k8 ?k9 ?kB ?_ ?c2 ?c3 ?c4 ?c5; (case k3 => k_asm); (case k5 => k_asm); (case k6 => k_is); (case k7 => k_is); (case k8 => k_room); (case k9 => first | exact BindsTo.of_eq rfl | exact binds_K (by k_in) rfl (by k_is) rfl rfl rfl); (case kB => exact locs rfl); (case c5 => decide); (case c2 => exact rfl); (case c3 => exact rfl); (case c4 => exact rfl)))
local macro_rules | `(tactic| walk_at "my V") => `(tactic| (refine wpAny_call ?_; refine' enterV ?k3 ?k5 ?k6 ?k7 ?k8 ?kP ?kG ?kB ?_ ?c2 ?c3 ?c4 ?c5; (case k3 => k_asm); (case k5 => k_asm); (case k6 => k_is); (case k7 => k_is); (case k8 => k_room); (case kP => exact rfl); (case kG => exact fun _ => rfl); (case kB => exact fun _ => locs rfl); (case c5 => decide); (case c2 => exact rfl); (case c3 => exact rfl); (case c4 => exact rfl)))
local macro_rules | `(tactic| k_inst) => `(tactic| (refine' InstAt_of_get ?a ?b; (case a => exact Fr.keep (by k_asm) _ _ (by assumption)); (case b => exact Fr.keep (by k_asm) _ _ (by assumption))))
local macro_rules | `(tactic| walk_at "eval Call Attribute") => `(tactic| (k_here; (with_reducible show wpAny _ _ (eval (Expr.Call (Expr.Attribute _ _ _) [Expr.Starred _ _] [] _) _) _ _ _); refine starMethod ?_))
local macro_rules | `(tactic| walk_at "getAttr ref") => `(tactic| (k_here; k_dflt (refine' attr_sm ?k1 ?k2 ?k4 ?k5 ?k6 ?k7 ?k9 ?k10 ?k11 ?k12 ?k13 ?k14 ?_; (case k1 => k_asm); (case k2 => k_asm); (case k4 => k_inst); (case k5 => k_is); (case k6 => k_is); (case k7 => k_is); (case k9 => k_is); (case k10 => k_is); (case k11 => decide +kernel); (case k12 => k_get); (case k13 => k_is); (case k14 => k_handed); k_whole)))
local macro_rules | `(tactic| walk_at "callWith ref") => `(tactic| (k_here; (with_reducible show wpAny _ _ (callWith _ (Value.ref _) _ (backTo _ (starEach [Expr.Starred _ _] _)) []) _ _ _); k_dflt (refine' callWith_SM ?k1 ?k2 ?k3 ?k4 ?_; (case k1 => k_asm); (case k2 => k_asm); (case k3 => k_mem); (case k4 => k_is); k_whole)))
local macro_rules | `(tactic| walk_at "callWith ref") => `(tactic| (k_here; (with_reducible show wpAny _ _ (callWith _ (Value.ref _) _ (backTo _ (starEach [Expr.Starred _ _] _)) []) _ _ _); k_dflt (refine' callWith_SI ?k1 ?k2 ?k3 ?k4 ?_; (case k1 => k_in); (case k2 => k_inst); (case k3 => rfl); (case k4 => k_is); k_whole)))
local macro_rules | `(tactic| walk_at "my drop") => `(tactic| (repeat (first | ((rename News _ _ _ _ => Nx); clear Nx) | ((rename Fr _ _ _ _ => Fx); clear Fx))))
local macro_rules | `(tactic| walk_at "my stops") => `(tactic| ((fail_if_success (with_reducible show wpAny _ _ (call (Value.builtin "all") _) _ _ _)); (fail_if_success (with_reducible show wpAny _ _ (call (Value.builtin "max") _) _ _ _)); (fail_if_success (with_reducible show wpAny _ _ (call (Value.ref _) _) _ _ _)); (fail_if_success (with_reducible show wpAny _ _ (call (Value.type "map") _) _ _ _)); (fail_if_success (with_reducible show wpAny _ _ (exec (PySem.Stmt.For _ _ _ _ _) _) _ _ _)); (fail_if_success (with_reducible show wpAny _ _ (call (Value.type "zip") _) _ _ _)); (fail_if_success (with_reducible show wpAny _ _ (call (Value.type "set") _) _ _ _)); (fail_if_success (with_reducible show wpAny _ _ (eval (PySem.Expr.ListComp _ _ _ _) _) _ _ _)); (fail_if_success (with_reducible show wpAny _ _ (subscriptTail _ _ _ _) _ _ _)); (fail_if_success (with_reducible show wpAny _ _ (pyIter _) _ _ _)); (fail_if_success (with_reducible show wpAny _ _ (noteFrame _ _) _ _ _)); (fail_if_success (with_reducible show wpAny _ _ (compareOp _ _ _) _ _ _)); (fail_if_success (with_reducible show Exists _))))
local macro_rules | `(tactic| walk_at "my walk") => `(tactic| (repeat' (walk_at "my stops"; first | (k_unfold; (try dsimp only)) | walk1 | (dsimp only; first | walk1 | (k_unfold; try dsimp only)) | (leave1; walk_say "STEP leave1"; try dsimp only))))
section
variable {w : World} {s : Shared} {p : Program} {loose : List Str} {mg mb : Str → Option Value} {base : Heap} {outer : List Env} {gd : Option (List Code)} {A₀ : Around} {Q E : Value → Shared → Prop}

theorem identL {base : Heap} {S1 S2 : Addr} {cs1 cs2 : List Nat} {q : Nat} (hq : 0 < q) (ha1 : Asc cs1) (ha2 : Asc cs2)
    (X : (Mine.hd.heap_39 w.params).In base) (T : TopRead p loose mg mb base) (G : Grd base outer s.heap) (h1 : PiecesH s.heap S1 cs1 q) (h2 : PiecesH s.heap S2 cs2 q)
    (h0 : ∀ h' tk', Moved outer s.heap h' → Q (.bool (decide (P.gr q cs1 = P.gr q cs2))) { s with heap := h', toks := tk' }) :
    wpAny (model PySem.Challenge.rw_ah5040_01.prog w) (QD 60 outer gd) (call (.ref 157) [.ref S1, .ref S2]) Q E s := by
  have X0 := X.keeps G.stays
  have T0 := T.keeps G.stays
  walk_at "my V"
  intro D' L' h' F' N'
  (try dsimp only); (show wpAny _ _ _ _ _ _); k_fold
  replace N' : News s.heap L' h' [(D', { cls := .type "tuple", data := .seq #[.ref S1, .ref S2] })] := N'
  walk_at "my walk"
  have hD := N' _ (.head _)
  have hS1 : h'.IsList S1 (h1.choose) := by
    obtain ⟨c, e, _⟩ := h1.choose_spec
    exact ⟨_, F'.keep _ _ e, rfl, _, rfl⟩
  refine call_set_raise (l := S1) (its := h1.choose) rfl (Nat.le_of_ble_eq_true rfl) ⟨_, hD.1, rfl, _, rfl⟩ rfl hS1 fun h3 tk3 e hx => ?_
  dsimp only
  refine caught_own (X := "TypeError") (T' := "TypeError") (KF := Mine.hd.heap_39 w.params) rfl G hx F' N' X T (by k_is) (by boot_by_name) (by decide) (isSubtype_of_subB (by decide +kernel)) (isSubtype_of_subB (by decide +kernel)) (isSubtype_of_subB (by decide +kernel)) ?_
  intro h4 g4 oe ws E4 T4 F4 N4 G4 keep4 he4 hd4 hw4 hz4 hge4
  have kp : ∀ b o vs n, s.heap.get? b = some o → o.data = .seq vs n → g4.get? b = some o := fun b o vs n ho hd => T4.other b o ho (G.no_seq ho hd)
  have P1 : PiecesH g4 S1 cs1 q := h1.moved kp
  have P2 : PiecesH g4 S2 cs2 q := h2.moved kp
  have heL : e ≠ L' := fun e5 => by
    obtain ⟨oL, es, ep, hL, hLd, _⟩ := F4.ns
    rw [← e5, he4] at hL; cases hL; rw [hd4] at hLd; cases hLd
  have N4' : News g4 L' h4 [(e, oe), (D', { cls := .type "tuple", data := .seq #[.ref S1, .ref S2] })] := fun p hp => by
    rcases List.mem_cons.mp hp with rfl | hp
    · exact ⟨he4, heL, hge4⟩
    · exact N4 p hp
  clear F' N' hx N4 keep4 he4
  have X4 := X.keeps G4.stays
  have T4' := T.keeps G4.stays
  walk_at "my walk"
  refine wpAny_For ?_
  walk_at "my walk"
  rename Fr _ _ _ _ => F5
  rename News _ _ _ _ => N5
  refine slice_tuple_from F5 N5 ⟨_, (N5 _ (.tail _ (.head _))).1, rfl, _, rfl⟩ (Nat.le_refl 1) (by simp) fun h6 F6 N6 => ?_
  walk_at "my walk"
  rename Fr _ _ _ _ => F7
  rename News _ _ _ _ => N7
  refine zip_tuples (t1 := D') (e0 := e) (xs := #[.ref S1, .ref S2]) (ys := #[.ref S2]) ⟨_, (N7 _ (.tail _ (.tail _ (.head _)))).1, rfl, _, rfl⟩ ⟨_, (N7 _ (.head _)).1, rfl, _, rfl⟩ ⟨oe, ws, (N7 _ (.tail _ (.head _))).1, hd4, hw4⟩ fun z TI TO i1 i2 h8 st8 fr8 hFam hAp hZ hnd => ?_
  refine pyIter_zipN hZ ?_
  have F8 := fr_stays F7 st8
  have N8 := news_stays N7 st8
  generalize hT2 : h4.objs.size + 1 = t2 at *
  have hz0 := fr8 z (by simp)
  have hTI0 := fr8 TI (by simp)
  have hTO0 := fr8 TO (by simp)
  have hi10 := fr8 i1 (by simp)
  have hi20 := fr8 i2 (by simp)
  have nL : ∀ b, h6.get? b = none → b ≠ L' ∧ g4.get? b = none := fun b hb => by
    refine ⟨fun q => ?_, ?_⟩
    · obtain ⟨o, _, _, ho, _⟩ := F7.ns
      rw [q, ho] at hb; cases hb
    · cases q : g4.get? b with
      | none => rfl
      | some o => rw [F7.keep _ _ q] at hb; cases hb
  refine codeAny_forLoop_any (fun k s' => ∃ h tk m, s' = { s with heap := h, toks := tk } ∧ ((k = 2 ∧ ZSt z TI TO [i1, i2] (ztSt i1 i2 D' t2 e #[.ref S1, .ref S2] #[.ref S2]) 0 h) ∨ (k = 1 ∧ ZSt z TI TO [i1, i2] (ztSt i1 i2 D' t2 e #[.ref S1, .ref S2] #[.ref S2]) 1 h ∧ P.gr q cs1 = P.gr q cs2)) ∧ Fr g4 L' h m ∧
    News g4 L' h [(t2, tupO #[.ref S2] 0), (e, oe), (D', tupO #[.ref S1, .ref S2] 0)]) ?_ 2 ⟨h8, _, _, rfl, .inl ⟨rfl, hZ⟩, F8, N8⟩
  have al : ∀ b ∈ [L', t2, e, D'], ∃ o, h6.get? b = some o := fun b hb => by
    simp only [List.mem_cons, List.not_mem_nil, or_false] at hb
    rcases hb with rfl | rfl | rfl | rfl
    · obtain ⟨o, _, _, ho, _⟩ := F7.ns; exact ⟨o, ho⟩
    · exact ⟨_, (N7 _ (.head _)).1⟩
    · exact ⟨_, (N7 _ (.tail _ (.head _))).1⟩
    · exact ⟨_, (N7 _ (.tail _ (.tail _ (.head _)))).1⟩
  have ap : ∀ b ∈ [L', t2, e, D'], ∀ c ∈ [z, TI, TO, i1, i2], b ≠ c := fun b hb c hc q => by
    obtain ⟨o, ho⟩ := al b hb
    have := fr8 c hc
    rw [← q, ho] at this; cases this
  have nd : z ≠ TI ∧ z ≠ TO ∧ z ≠ i1 ∧ z ≠ i2 ∧ TI ≠ TO ∧ TI ≠ i1 ∧ TI ≠ i2 ∧ TO ≠ i1 ∧ TO ≠ i2 ∧ i1 ≠ i2 := by
    simp only [List.nodup_cons, List.mem_cons, List.not_mem_nil, or_false, not_or] at hnd
    obtain ⟨⟨a1, a2, a3, a4⟩, ⟨a5, a6, a7⟩, ⟨a8, a9⟩, a10, _⟩ := hnd
    exact ⟨a1, a2, a3, a4, a5, a6, a7, a8, a9, a10⟩
  have zg := nL _ hz0
  have TIg := nL _ hTI0
  have TOg := nL _ hTO0
  have i1g := nL _ hi10
  have i2g := nL _ hi20
  clear F7 N7 F8 N8 hZ hnd
  rintro k s' ⟨h, tk, m, rfl, hcase, F, N⟩
  rcases hcase with ⟨rfl, hZ⟩ | ⟨rfl, hZ, heq⟩
  · refine pyNext_zipN_item (hFam _ rfl) hAp (by simp) hZ (fun k hk => ?_) fun T xs h9 tk9 hT hTn hxs hP hZ9 kp9 => ?_
    · have : k = 0 ∨ k = 1 := by simp at hk; omega
      rcases this with rfl | rfl <;> simp [ztN]
    have hxs2 : xs = #[.ref S1, .ref S2] := by
      obtain ⟨l⟩ := xs
      match l, hxs, hP with
      | [a, b], _, hP =>
        have e1 := hP 0 a rfl
        have e2 := hP 1 b rfl
        simp only [ztP] at e1 e2
        simp at e1 e2
        rw [← e1, ← e2]
    subst hxs2
    obtain ⟨⟨f0, f1, hz9, hf0, b9, rfl⟩, hTI9, ⟨ws9, hTO9, hws9⟩, hS9⟩ := hZ9
    obtain ⟨⟨o1, g1, c1, d1⟩, _, _⟩ : h9.IsTupleIter i1 D' 1 ∧ _ := hS9 0 (by simp)
    obtain ⟨⟨o2, g2, c2, d2⟩, _, _⟩ : h9.IsTupleIter i2 t2 1 ∧ _ := hS9 1 (by simp)
    have kk : ∀ b ∈ [L', t2, e, D'], ∀ o, h.get? b = some o → h9.get? b = some o := fun b hb o ho =>
      kp9 b o (ap b hb z (by simp)) (ap b hb TO (by simp)) (fun hm => by simp at hm; rcases hm with hm | hm; exact ap b hb i1 (by simp) hm; exact ap b hb i2 (by simp) hm) ho
    have N9 : News g4 L' h9 [(z, zipObj f0 (.bool b9) TI TO), (TI, tupO (([i1, i2].map Value.ref).toArray) 0), (TO, tupO ws9 0), (i1, o1), (i2, o2), (t2, tupO #[.ref S2] 0), (e, oe), (D', tupO #[.ref S1, .ref S2] 0)] := fun p hp => by
      simp only [List.mem_cons, List.not_mem_nil, or_false] at hp
      rcases hp with rfl | rfl | rfl | rfl | rfl | rfl | rfl | rfl
      · exact ⟨hz9, zg⟩
      · exact ⟨hTI9, TIg⟩
      · exact ⟨hTO9, TOg⟩
      · exact ⟨g1, i1g⟩
      · exact ⟨g2, i2g⟩
      · exact ⟨kk _ (by simp) _ (N _ (.head _)).1, (N _ (.head _)).2⟩
      · exact ⟨kk _ (by simp) _ (N _ (.tail _ (.head _))).1, (N _ (.tail _ (.head _))).2⟩
      · exact ⟨kk _ (by simp) _ (N _ (.tail _ (.tail _ (.head _)))).1, (N _ (.tail _ (.tail _ (.head _)))).2⟩
    have notits : ∀ b o, g4.get? b = some o → b ∉ [i1, i2] := fun b o ho hm => by
      have hm' : b = i1 ∨ b = i2 := by simpa using hm
      rcases hm' with e1 | e1
      · rw [e1, i1g.2] at ho; cases ho
      · rw [e1, i2g.2] at ho; cases ho
    have F9 : Fr g4 L' h9 m := ⟨F.ns.at' fun o ho => kk _ (by simp) o ho, fun b o ho => kp9 b o (fun q => by rw [q, zg.2] at ho; cases ho) (fun q => by rw [q, TOg.2] at ho; cases ho) (notits b o ho) (F.keep _ _ ho), F.above⟩
    have hTz : T ≠ z := fun q => by obtain ⟨⟨_, _, hz, _⟩, _⟩ := hZ; rw [q, hz] at hTn; cases hTn
    refine letOwned_zipN hz9 fun h10 f0' hz10 hf10 sb10 => ?_
    have hT10 : h10.IsTuple T #[.ref S1, .ref S2] := ⟨_, sb10.extBut _ _ hTz hT, rfl, _, rfl⟩
    have F10 : Fr g4 L' h10 m := F9.change sb10 zg.1 zg.2
    have N10 : News g4 L' h10 [(z, zipObj f0' (.bool b9) TI TO), (TI, tupO (([i1, i2].map Value.ref).toArray) 0), (TO, tupO ws9 0), (i1, o1), (i2, o2), (t2, tupO #[.ref S2] 0), (e, oe), (D', tupO #[.ref S1, .ref S2] 0)] := fun p hp => by
      rcases List.mem_cons.mp hp with rfl | hp'
      · exact ⟨hz10, zg⟩
      · refine ⟨sb10.extBut _ _ ?_ (N9 p (.tail _ hp')).1, (N9 p (.tail _ hp')).2⟩
        simp only [List.mem_cons, List.not_mem_nil, or_false] at hp'
        rcases hp' with rfl | rfl | rfl | rfl | rfl | rfl | rfl
        · exact Ne.symm nd.1
        · exact Ne.symm nd.2.1
        · exact Ne.symm nd.2.2.1
        · exact Ne.symm nd.2.2.2.1
        · exact ap _ (by simp) _ (by simp)
        · exact ap _ (by simp) _ (by simp)
        · exact ap _ (by simp) _ (by simp)
    clear F9 N9 F N kk hZ
    have hH10 : Handled h10 e := ⟨oe, ws, (N10 (e, oe) (by simp)).1, hd4, hw4⟩
    refine assign_pair_in (e0 := e) rfl hH10 hT10 rfl rfl rfl F10.ns fun h11 tk11 hn11 kp11 => ?_
    have F11 : Fr g4 L' h11 (fun y => if y = Str.ofString "e2" then some (.ref S2) else if y = Str.ofString "e1" then some (.ref S1) else m y) := ⟨hn11, fun b o ho => kp11 b o (fun q => by have e7 := kts_self F10; rw [show b = L' from q, e7] at ho; cases ho) (F10.keep _ _ ho), F10.above⟩
    have N11 : News g4 L' h11 [(z, zipObj f0' (.bool b9) TI TO), (TI, tupO (([i1, i2].map Value.ref).toArray) 0), (TO, tupO ws9 0), (i1, o1), (i2, o2), (t2, tupO #[.ref S2] 0), (e, oe), (D', tupO #[.ref S1, .ref S2] 0)] := fun p hp => ⟨kp11 _ _ (N10 p hp).2.1 (N10 p hp).1, (N10 p hp).2⟩
    clear F10 N10
    dsimp only
    walk_at "my walk"
    refine pieces_ne (P1.stays F11.keep) (P2.stays F11.keep) hq ha1 ha2 (Nat.le_of_ble_eq_true rfl) ?_
    by_cases heq : P.gr q cs1 = P.gr q cs2
    · rw [decide_eq_true heq, Bool.not_true]
      walk_at "my walk"
      refine ⟨1, by omega, h11, _, _, rfl, .inr ⟨rfl, ⟨⟨_, _, (N11 _ (.head _)).1, ?_, _, rfl⟩, (N11 _ (.tail _ (.head _))).1, ⟨ws9, (N11 _ (.tail _ (.tail _ (.head _)))).1, hws9⟩, fun k hk => ?_⟩, heq⟩, F11, news_sub N11 fun p hp => .tail _ (.tail _ (.tail _ (.tail _ (.tail _ hp))))⟩
      · rcases hf10 with e8 | e8
        · rw [e8]; exact hf0
        · exact .inl e8
      · have k01 : k = 0 ∨ k = 1 := by simp at hk; omega
        have hH11 : Handled h11 e := ⟨oe, ws, (N11 (e, oe) (by simp)).1, hd4, hw4⟩
        rcases k01 with rfl | rfl
        · exact ⟨⟨o1, (N11 (i1, o1) (by simp)).1, c1, d1⟩, ⟨_, (N11 (D', tupO #[.ref S1, .ref S2] 0) (by simp)).1, rfl, _, rfl⟩, hH11⟩
        · exact ⟨⟨o2, (N11 (i2, o2) (by simp)).1, c2, d2⟩, ⟨_, (N11 (t2, tupO #[.ref S2] 0) (by simp)).1, rfl, _, rfl⟩, hH11⟩
    · rw [decide_eq_false heq, Bool.not_false]
      walk_at "my walk"
      rw [show false = decide (P.gr q cs1 = P.gr q cs2) from (decide_eq_false heq).symm]
      exact h0 _ _ (moved_end T4 F11.keep)
  · refine pyNext_zipN_end (k0 := 1) (hFam _ rfl) hAp hZ (by simp) rfl (fun k hk => ?_) fun h9 tk9 kp9 => ?_
    · obtain rfl : k = 0 := by omega
      simp [ztN]
    have F9 : Fr g4 L' h9 m := ⟨F.ns.at' fun o ho => kp9 _ o (ap _ (by simp) z (by simp)) (ap _ (by simp) TO (by simp)) (fun hm => by simp at hm; rcases hm with hm | hm; exact ap _ (by simp) i1 (by simp) hm; exact ap _ (by simp) i2 (by simp) hm) ho, fun b o ho => kp9 b o (fun q => by rw [q, zg.2] at ho; cases ho) (fun q => by rw [q, TOg.2] at ho; cases ho) (fun hm => (by
      have hm' : b = i1 ∨ b = i2 := by simpa using hm
      rcases hm' with e1 | e1
      · rw [e1, i1g.2] at ho; cases ho
      · rw [e1, i2g.2] at ho; cases ho)) (F.keep _ _ ho), F.above⟩
    clear F N
    have N9 : News g4 L' h9 [] := News.nil
    dsimp only
    refine wpAny_execs_nil ?_
    dsimp only
    walk_at "my walk"
    rw [show true = decide (P.gr q cs1 = P.gr q cs2) from (decide_eq_true heq).symm]
    exact h0 _ _ (moved_end T4 F9.keep)
end
end Mine
end
-- F4a
section
open PySem PySem.W PySem.W.X PyProof.Rows PySem.Calls
set_option maxRecDepth 100000
set_option maxHeartbeats 1000000
namespace Mine
section
local macro_rules | `(tactic| x_close) => `(tactic| (refine Ends.use (by assumption) (by assumption) ?_; simp only [Value.bool.injEq, exists_eq_left', Bool.false_eq_true, false_iff, true_iff]; omega))
theorem all2L {prog : Program} {w : World} {s : Shared} {fr : Option (List Env)} {gd : Option (List Code)} {S1 S2 l : Addr} {acc1 acc2 : Array Value} {c1 c2 : Nat} (hl : s.heap.get? l = some ⟨.type "tuple", none, .seq #[.ref S1, .ref S2] 0, #[]⟩)
    (h1 : s.heap.get? S1 = some ⟨.type "list", none, .seq acc1 c1, #[]⟩) (h2 : s.heap.get? S2 = some ⟨.type "list", none, .seq acc2 c2, #[]⟩)
    (ha : acc1.size < 1000) (hb : acc2.size < 1000) (Q : Value → Shared → Prop) (E : Value → Shared → Prop)
    (hq : Ends (fun v => ∃ r, v = .bool r ∧ (r = true ↔ 0 < acc1.size ∧ 0 < acc2.size)) Q s) :
  wpAny (model prog w) {depth := 460, units := 300, frames := fr, guards := gd} (call (.builtin "all") [.ref l]) Q E s := by
  x_run
end
end Mine
end
-- F4
section
open PySem PySem.W PySem.W.X PyProof.Rows PySem.Calls
set_option maxRecDepth 100000
set_option maxHeartbeats 1000000
namespace Mine
theorem fillF4 : PySem.Challenge.rw_ah5040_01 = PySem.Challenge.rw_ah5040_01 ∧ Mine.hd.heap_39 = Mine.hd.heap_39 := by
  k_fill
  exact ⟨rfl, rfl⟩
local macro_rules | `(tactic| walk_at "my S") => `(tactic| (refine wpAny_call ?_; refine' enterS ?k3 ?k5 ?k6 ?k7 ?k8 ?k9 ?kB ?_ ?c2 ?c3 ?c4 ?c5; (case k3 => k_asm); (case k5 => k_asm); (case k6 => k_is); (case k7 => k_is); (case k8 => k_room); (case k9 => first | exact BindsTo.of_eq rfl | exact binds_K (by k_in) rfl (by k_is) rfl rfl rfl); (case kB => exact locs rfl); (case c5 => decide); (case c2 => exact rfl); (case c3 => exact rfl); (case c4 => exact rfl)))
local macro_rules | `(tactic| walk_at "my V") => `(tactic| (refine wpAny_call ?_; refine' enterV ?k3 ?k5 ?k6 ?k7 ?k8 ?kP ?kG ?kB ?_ ?c2 ?c3 ?c4 ?c5; (case k3 => k_asm); (case k5 => k_asm); (case k6 => k_is); (case k7 => k_is); (case k8 => k_room); (case kP => exact rfl); (case kG => exact fun _ => rfl); (case kB => exact fun _ => locs rfl); (case c5 => decide); (case c2 => exact rfl); (case c3 => exact rfl); (case c4 => exact rfl)))
local macro_rules | `(tactic| k_inst) => `(tactic| (refine' InstAt_of_get ?a ?b; (case a => exact Fr.keep (by k_asm) _ _ (by assumption)); (case b => exact Fr.keep (by k_asm) _ _ (by assumption))))
local macro_rules | `(tactic| walk_at "eval Call Attribute") => `(tactic| (k_here; (with_reducible show wpAny _ _ (eval (Expr.Call (Expr.Attribute _ _ _) [Expr.Starred _ _] [] _) _) _ _ _); refine starMethod ?_))
local macro_rules | `(tactic| walk_at "getAttr ref") => `(tactic| (k_here; k_dflt (refine' attr_sm ?k1 ?k2 ?k4 ?k5 ?k6 ?k7 ?k9 ?k10 ?k11 ?k12 ?k13 ?k14 ?_; (case k1 => k_asm); (case k2 => k_asm); (case k4 => k_inst); (case k5 => k_is); (case k6 => k_is); (case k7 => k_is); (case k9 => k_is); (case k10 => k_is); (case k11 => decide +kernel); (case k12 => k_get); (case k13 => k_is); (case k14 => k_handed); k_whole)))
local macro_rules | `(tactic| walk_at "callWith ref") => `(tactic| (k_here; (with_reducible show wpAny _ _ (callWith _ (Value.ref _) _ (backTo _ (starEach [Expr.Starred _ _] _)) []) _ _ _); k_dflt (refine' callWith_SM ?k1 ?k2 ?k3 ?k4 ?_; (case k1 => k_asm); (case k2 => k_asm); (case k3 => k_mem); (case k4 => k_is); k_whole)))
local macro_rules | `(tactic| walk_at "callWith ref") => `(tactic| (k_here; (with_reducible show wpAny _ _ (callWith _ (Value.ref _) _ (backTo _ (starEach [Expr.Starred _ _] _)) []) _ _ _); k_dflt (refine' callWith_SI ?k1 ?k2 ?k3 ?k4 ?_; (case k1 => k_in); (case k2 => k_inst); (case k3 => rfl); (case k4 => k_is); k_whole)))
local macro_rules | `(tactic| walk_at "my drop") => `(tactic| (repeat (first | ((rename News _ _ _ _ => Nx); clear Nx) | ((rename Fr _ _ _ _ => Fx); clear Fx))))
local macro_rules | `(tactic| walk_at "my stops") => `(tactic| ((fail_if_success (with_reducible show wpAny _ _ (call (Value.builtin "all") _) _ _ _)); (fail_if_success (with_reducible show wpAny _ _ (call (Value.builtin "max") _) _ _ _)); (fail_if_success (with_reducible show wpAny _ _ (call (Value.ref _) _) _ _ _)); (fail_if_success (with_reducible show wpAny _ _ (call (Value.type "map") _) _ _ _)); (fail_if_success (with_reducible show wpAny _ _ (exec (PySem.Stmt.For _ _ _ _ _) _) _ _ _)); (fail_if_success (with_reducible show wpAny _ _ (call (Value.type "zip") _) _ _ _)); (fail_if_success (with_reducible show wpAny _ _ (call (Value.type "set") _) _ _ _)); (fail_if_success (with_reducible show wpAny _ _ (eval (PySem.Expr.ListComp _ _ _ _) _) _ _ _)); (fail_if_success (with_reducible show Exists _))))
local macro_rules | `(tactic| walk_at "my walk") => `(tactic| (repeat' (walk_at "my stops"; first | (k_unfold; (try dsimp only)) | walk1 | (dsimp only; first | walk1 | (k_unfold; try dsimp only)) | (leave1; walk_say "STEP leave1"; try dsimp only))))
section
variable {w : World} {s : Shared} {p : Program} {loose : List Str} {mg mb : Str → Option Value} {base : Heap} {outer : List Env} {gd : Option (List Code)} {A₀ : Around} {Q E : Value → Shared → Prop}

theorem not_frame {base h : Heap} {outer : List Env} (G : Grd base outer h) {b : Addr} {o : Obj} (ho : h.get? b = some o) (hd : ∀ es n, o.data ≠ .dict es n) : b ∉ outer.filterMap (·.frame) := fun hm => by
  obtain ⟨o', es, n', ho', hd'⟩ := G.dicts b hm
  rw [ho] at ho'
  obtain rfl := Option.some.inj ho'
  exact hd _ _ hd'
theorem PiecesH.turn {base h g' : Heap} {outer : List Env} {S : Addr} {cs : List Nat} {q : Nat} (x : PiecesH h S cs q) (G : Grd base outer h) (T : KtsTurn (outer.filterMap (·.frame)) h g') : PiecesH g' S cs q :=
  x.moved fun b o vs n ho hd => T.other b o ho (G.no_seq ho hd)
theorem quickL {base : Heap} {se dse S1 S2 : Addr} {q1 q2 q3 : Int} {t1 t2 t3 tq : Tok} {vx : Value} {ep q : Nat} {cs1 cs2 : List Nat} (hq : 0 < q) (ha1 : Asc cs1) (ha2 : Asc cs2) (hc1 : cs1.length ≤ 900) (hc2 : cs2.length ≤ 900)
    (X : (Mine.hd.heap_39 w.params).In base) (T : TopRead p loose mg mb base) (G : Grd base outer s.heap) (hP1 : PiecesH s.heap S1 cs1 q) (hP2 : PiecesH s.heap S2 cs2 q)
    (h0 : s.heap.get? se = some ⟨.ref 244, some dse, .plain, #[]⟩) (h9 : s.heap.get? dse = some (dictOf [⟨q1, .str (Str.ofString "qval") t1, .int (q : Nat) tq⟩, ⟨q2, .str (Str.ofString "test_func") t2, .ref 157⟩, ⟨q3, .str (Str.ofString "external") t3, vx⟩] ep)) (hds : dse ∉ outer.filterMap (·.frame))
    (h : ∀ v h' tk', Moved outer s.heap h' → (if P.gr q cs1 = P.gr q cs2 then ∃ t, v = .int 0 t else if 0 < (P.gr q cs1).length ∧ 0 < (P.gr q cs2).length then v = .none else ∃ t, v = .int (max (P.gr q cs1).length (P.gr q cs2).length : Nat) t) → Q v { s with heap := h', toks := tk' }) :
    wpAny (model PySem.Challenge.rw_ah5040_01.prog w) (QD 40 outer gd) (call (.ref 150) [.ref se, .ref S1, .ref S2]) Q E s := by
  have X0 := X.keeps G.stays
  have T0 := T.keeps G.stays
  walk_at "my V"
  intro D' L' h' F' N'
  (try dsimp only); (show wpAny _ _ _ _ _ _); k_fold
  replace N' : News s.heap L' h' [(D', { cls := .type "tuple", data := .seq #[.ref S1, .ref S2] })] := N'
  walk_at "my walk"
  rename Fr _ _ _ _ => F1
  rename News _ _ _ _ => N1
  refine wpAny_le (identL hq ha1 ha2 X T (G.push F1 rfl (by show ScopeKind.function ≠ ScopeKind.module; decide)) (hP1.stays F1.keep) (hP2.stays F1.keep) fun h1 tk1 M => ?_) (Nat.le_of_ble_eq_true rfl) (Nat.le_of_ble_eq_true rfl)
  obtain ⟨g2, TT, F2, N2, B2⟩ := moved_on G F1 N1 rfl M
  have R1 := hP1.turn G TT
  have R2 := hP2.turn G TT
  have i0 : g2.get? se = some ⟨.ref 244, some dse, .plain, #[]⟩ := TT.other _ _ h0 (not_frame G h0 fun _ _ e => by cases e)
  have i9 := TT.other _ _ h9 hds
  have X2 := X.keeps B2
  have T2 := T.keeps B2
  clear F1 N1 X0 T0 h0 h9 M hP1 hP2
  dsimp only
  by_cases hab : P.gr q cs1 = P.gr q cs2
  · rw [decide_eq_true hab]
    walk_at "my walk"
    exact h _ _ _ (moved_end TT F2.keep) (by rw [if_pos hab]; exact ⟨_, rfl⟩)
  · rw [decide_eq_false hab]
    obtain ⟨acc1, c1, l1, z1, _⟩ := id R1
    obtain ⟨acc2, c2, l2, z2, _⟩ := id R2
    rw [← P.gr_len hq] at z1 z2
    have y1 : acc1.size < 1000 := by rw [z1, P.gr_len hq]; omega
    have y2 : acc2.size < 1000 := by rw [z2, P.gr_len hq]; omega
    walk_at "my walk"
    rename Fr _ _ _ _ => F3
    rename News _ _ _ _ => N3
    refine wpAny_le (all2L (N3 _ (.head _)).1 (F3.keep _ _ l1) (F3.keep _ _ l2) y1 y2 _ _ ?_) (Nat.le_of_ble_eq_true rfl) (Nat.le_of_ble_eq_true rfl)
    rintro v h3 tk3 st3 ⟨r, rfl, hr⟩
    have F4 := fr_stays F3 st3
    have N4 := news_stays N3 st3
    clear F3 N3
    dsimp only
    rw [z1, z2] at hr
    by_cases hr' : 0 < (P.gr q cs1).length ∧ 0 < (P.gr q cs2).length
    · rw [hr.mpr hr']
      walk_at "my walk"
      exact h _ _ _ (moved_end TT F4.keep) (by rw [if_neg hab, if_pos hr'])
    · rw [show r = false from by cases r with | false => rfl | true => exact absurd (hr.mp rfl) hr']
      walk_at "my walk"
      rename Fr _ _ _ _ => F5
      refine wpAny_le (maximumS (X2.keeps F5.keep) (T2.keeps F5.keep) (.inr ⟨_, _, rfl, ⟨_, F5.keep _ _ l1, rfl, _, rfl⟩, z1⟩) (.inr ⟨_, _, rfl, ⟨_, F5.keep _ _ l2, rfl, _, rfl⟩, z2⟩) (z1 ▸ y1) (z2 ▸ y2) fun t h6 tk6 st6 => ?_) (Nat.le_of_ble_eq_true rfl) (Nat.le_of_ble_eq_true rfl)
      dsimp only
      walk_at "my walk"
      exact h _ _ _ (moved_end TT fun b o e => st6 _ _ (F5.keep _ _ e)) (by rw [if_neg hab, if_neg hr']; exact ⟨_, rfl⟩)
end
end Mine
end
-- L2
section
open PySem PySem.W PySem.W.X PyProof.Rows PySem.Calls
set_option maxRecDepth 100000
set_option maxHeartbeats 2000000
namespace Mine
section
variable {prog : Program} {w : World} {A : Around} {E : Value → Shared → Prop} {s : Shared}
theorem callType_kw {T newId initId : String} {Bi : Builtin} {args : List Value} {kw : List (Str × Value)} {Q Q₁ : Value → Shared → Prop} (ft : TypeCalled T newId initId)
    (hct : checkTypeCall T ⟨args, kw⟩ = pure ()) (entryI : entryFor table initId = some Bi)
    (hnew : codeAny (model prog w) A.in1 (.call (.builtin newId) ⟨.type T :: args, kw⟩) (wants Q₁ E) s)
    (hnext : ∀ obj s₁, Q₁ obj s₁ → s₁.TypeIs obj T ∧ argsOk initId ⟨obj :: args, kw⟩ ∧
      wpAny (model prog w) A.in1.in1 (Bi ⟨obj :: args, kw⟩)
        (fun fin s' => match fin with | .done f => wants (fun r s₂ => r = .none ∧ Q obj s₂) E (.ok f) s' | .again c' => c'.quiet = true ∧ codeAny (model prog w) A.in1 c' (wants (fun r s₂ => r = .none ∧ Q obj s₂) E) s')
        (fun e s' => wants (fun r s₂ => r = .none ∧ Q obj s₂) E (.error e) s') s₁) :
    wpAny (model prog w) A (call (.type T) args kw) Q E s := by
  obtain ⟨c, tl, hmro⟩ := ft.mro
  have hmade := ft.made
  have hsub := ft.sub
  refine wpAny_call (codeAny_of_tree ?_)
  show wpAny _ _ (callAny (.type T) _) _ _ _
  refine wpAny_pure ⟨Code.quiet_builtin _ (by decide +kernel), codeAny_builtin F.entry_type_call ?_⟩
  rw [Around.under_plain (weight_type_call_type T args kw) rfl]
  have h1 := ft.notType
  have h2 := ft.canCreate
  repeat (any_goals (first | assumption | wp_step))
  refine codeAny_mono hnew fun r s₁ hr => ?_
  cases r with
  | error e => exact hr
  | ok fl =>
    cases fl with
    | ret obj =>
      obtain ⟨hT, hok, hsi⟩ := hnext _ _ hr
      have hli := ft.init.lookup
      have hbi := ft.init.bind obj
      repeat (any_goals (first | assumption | wp_step))
      refine codeAny_mono (codeAny_call_builtin ft.init.plain entryI (ft.init.check _ _ _ _ _ _ _ _ hT hok hsi)) fun r₂ s₂ hr₂ => ?_
      cases r₂ with
      | error e => exact hr₂
      | ok fl₂ =>
        cases fl₂ with
        | ret r =>
          obtain ⟨rfl, hq⟩ := hr₂
          repeat (any_goals (first | assumption | wp_step))
        | _ => exact hr₂.elim
    | _ => exact hr.elim
theorem typeCall_enum2 (a b : Value) : checkTypeCall "enumerate" ⟨[a], [(Str.ofString "start", b)]⟩ = pure () := by kernel_rfl
theorem newCall_enum2 (a b : Value) : checkBuiltinCall "enumerate.__new__" ⟨[.type "enumerate", a], [(Str.ofString "start", b)]⟩ = pure () := by kernel_rfl
theorem args_init_enum2 (o a b : Value) : argsOk "object.__init__" ⟨[o, a], [(Str.ofString "start", b)]⟩ := by
  unfold argsOk; kernel_rfl
theorem enumMake {x : Str} {t tk : Tok} {Q : Value → Shared → Prop}
    (h : ∀ h', IsEnum h' (s.heap.objs.size + 1) s.heap.objs.size 1 .none → h'.IsStrIter s.heap.objs.size (strIterType x) x t 0 → h'.objs.size = s.heap.objs.size + 2 →
      (∀ b o, s.heap.get? b = some o → h'.get? b = some o) → Q (.ref (s.heap.objs.size + 1)) { s with heap := h' }) :
    wpAny (model prog w) A (call (.type "enumerate") [.str x t] [(Str.ofString "start", .int 1 tk)]) Q E s := by
  have hz : (s.heap.push { cls := .type (strIterType x), data := .fields #[.str x t, .int 0 0] }).objs.size = s.heap.objs.size + 1 := Heap.size_push ..
  refine callType_kw (Q₁ := fun obj s₁ => obj = .ref (s.heap.objs.size + 1) ∧ s₁ = { s with heap := (s.heap.push { cls := .type (strIterType x), data := .fields #[.str x t, .int 0 0] }).push { cls := .type "enumerate", data := .fields #[.none, .bool false, .ref s.heap.objs.size, rawInt 1, .none, .none] } })
    F.called_enumerate (typeCall_enum2 _ _) F.entry_object_init (codeAny_call_builtin F.called_enumerate.plain F.entry_enumerate_new (wpAny_of_eq (newCall_enum2 _ _) ?_)) fun obj s₁ h₁ => ?_
  · obtain ⟨hp, g, d, tk', os⟩ := s
    have hsub := sub_enumerate
    wp_walk
    refine wpAny_stack_any fun st => wpAny_pure ?_
    have hend : wants (fun obj s₁ => obj = Value.ref (hp.objs.size + 1) ∧ s₁ = (⟨(hp.push { cls := .type (strIterType x), data := .fields #[.str x t, .int 0 0] }).push { cls := .type "enumerate", data := .fields #[.none, .bool false, .ref hp.objs.size, rawInt 1, .none, .none] }, g, d, tk', os⟩ : Shared)) E
        (.ok (.ret (.ref ((hp.push { cls := .type (strIterType x), data := .fields #[.str x t, .int 0 0] }).objs.size)))) ⟨(hp.push { cls := .type (strIterType x), data := .fields #[.str x t, .int 0 0] }).push { cls := .type "enumerate", data := .fields #[.none, .bool false, .ref hp.objs.size, rawInt 1, .none, .none] }, g, d, tk', os⟩ := ⟨congrArg Value.ref hz, rfl⟩
    clear h
    split
    · rename_i c _ _ _ _ _
      cases (c == Value.type "enumerate")
      · wp_walk using wpAny_pyIter_strU
        exact hend
      · wp_walk using wpAny_pyIter_strU
        exact hend
    · wp_walk using wpAny_pyIter_strU
      exact hend
  · obtain ⟨rfl, rfl⟩ := h₁
    have he : IsEnum ((s.heap.push { cls := .type (strIterType x), data := .fields #[.str x t, .int 0 0] }).push
        { cls := .type "enumerate", data := .fields #[.none, .bool false, .ref s.heap.objs.size, rawInt 1, .none, .none] }) (s.heap.objs.size + 1) s.heap.objs.size 1 .none := by
      have := Heap.get?_push_size (s.heap.push { cls := .type (strIterType x), data := .fields #[.str x t, .int 0 0] })
        (o := { cls := .type "enumerate", data := .fields #[.none, .bool false, .ref s.heap.objs.size, rawInt 1, .none, .none] }) rfl
      rw [hz] at this; exact this
    refine ⟨⟨_, he, rfl⟩, args_init_enum2 _ _ _, ?_⟩
    have hq := h _ he ⟨_, Heap.get?_push_of_some _ (Heap.get?_push_size _ rfl), rfl, rfl⟩ (by rw [Heap.size_push, hz]) fun b o y => Heap.get?_push_of_some _ (Heap.get?_push_of_some _ y)
    have hl := F.called_enumerate.init.lookup
    have hm := F.called_enumerate.made
    have hT : ({ s with heap := (s.heap.push { cls := .type (strIterType x), data := .fields #[.str x t, .int 0 0] }).push { cls := .type "enumerate", data := .fields #[.none, .bool false, .ref s.heap.objs.size, rawInt 1, .none, .none] } } : Shared).TypeIs (.ref (s.heap.objs.size + 1)) "enumerate" := ⟨_, he, rfl⟩
    have hne : (some "enumerate.__new__" != some "object.__new__") = true := by decide
    repeat (any_goals (first | assumption | wp_step))
    exact ⟨rfl, hq⟩
end
end Mine
end
-- M1
section
open PySem PySem.W PySem.W.X PyProof.Rows PySem.Calls
set_option maxRecDepth 100000
set_option maxHeartbeats 2000000
namespace Mine
section
variable {prog : Program} {w : World} {A : Around} {E : Value → Shared → Prop} {s : Shared} {g h : Heap} {L : Addr} {m : Str → Option Value} {news : List (Addr × Obj)}
/-- a table by pairs of ints: what is known of it; its keys lie in the ledger -/
def KeyO (prog : Program) (w : World) (k : List Int) (oo : Obj) : Prop := oo.cls = .type "tuple" ∧ ∃ items n, oo.data = .seq items n ∧ ItemsAre (intKind prog w) k items.toList
def TabO (prog : Program) (w : World) (o : Obj) (ks : List (Addr × Obj)) (N : Nat) (S : Int → Int → Int → Prop) : Prop :=
  ∃ xs : List (List Int × Addr × Value), o.ExactDict ∧ (∃ es ep, o.data = .dict es ep ∧ es.toList = xs.map (entryOfKey (tupleKind (intKind prog w)))) ∧ (∀ x ∈ xs, ∃ oo, (x.2.1, oo) ∈ ks ∧ KeyO prog w x.1 oo) ∧
    (xs.map (·.1)).Nodup ∧ xs.length ≤ N ∧ ∀ i j n, S i j n → ∃ a t, atKey xs [i, j] = some (a, .int n t)
theorem tabO_new (ep : Nat) : TabO prog w { cls := .type "dict", data := .dict #[] ep } [] 0 (fun _ _ _ => False) :=
  ⟨[], ⟨rfl, rfl, rfl⟩, ⟨#[], ep, rfl, rfl⟩, (fun _ h => nomatch h), List.nodup_nil, Nat.le_refl _, fun _ _ _ h => h.elim⟩
theorem TabO.mono {o : Obj} {ks ks' : List (Addr × Obj)} {N N' : Nat} {S S' : Int → Int → Int → Prop} (T : TabO prog w o ks N S) (hk : ∀ p ∈ ks, p ∈ ks') (hN : N ≤ N') (hS : ∀ i j n, S' i j n → S i j n) : TabO prog w o ks' N' S' := by
  obtain ⟨xs, h1, h2, h3, h4, h5, h6⟩ := T
  exact ⟨xs, h1, h2, fun x hx => let ⟨oo, a, b⟩ := h3 x hx; ⟨oo, hk _ a, b⟩, h4, Nat.le_trans h5 hN, fun i j n q => h6 i j n (hS i j n q)⟩
theorem keyO_pair (i j : Int) (t u : Tok) (n : Nat) : KeyO prog w [i, j] { cls := .type "tuple", data := .seq #[.int i t, .int j u] n } :=
  ⟨rfl, _, _, rfl, .cons (by simp [intKind, Value.isInt]) (.cons (by simp [intKind, Value.isInt]) .nil)⟩
theorem KeyO.is {k : List Int} {a : Addr} {oo : Obj} (x : KeyO prog w k oo) (ho : h.get? a = some oo) : (tupleKind (intKind prog w)).is h k a := by
  obtain ⟨hc, items, n, hd, hi⟩ := x
  exact ⟨oo, items, n, ho, hc, hd, hi⟩
theorem TabO.dict {d : Addr} {o : Obj} {ks : List (Addr × Obj)} {N : Nat} {S : Int → Int → Int → Prop} (T : TabO prog w o ks N S) (ho : h.get? d = some o) (hks : ∀ p ∈ ks, h.get? p.1 = some p.2) :
    ∃ xs, h.DictOfH (tupleKind (intKind prog w)) d xs ∧ xs.length ≤ N ∧ (∀ x ∈ xs, ∃ oo, (x.2.1, oo) ∈ ks ∧ KeyO prog w x.1 oo) ∧ ∀ i j n, S i j n → ∃ a t, atKey xs [i, j] = some (a, .int n t) := by
  obtain ⟨xs, h1, ⟨es, ep, h2, h2'⟩, h3, h4, h5, h6⟩ := T
  exact ⟨xs, ⟨o, es, ep, ho, h1, h2, h2', fun x hx => let ⟨oo, a, b⟩ := h3 x hx; b.is (hks _ a), h4⟩, h5, h3, h6⟩
theorem tab_get {d a : Addr} {o oo : Obj} {ks : List (Addr × Obj)} {N : Nat} {S : Int → Int → Int → Prop} {i j n : Int} {value slice : Expr} {Q : Value → Shared → Prop} (Nw : News g L s.heap news) (T : TabO prog w o ks N S) (hd : (d, o) ∈ news) (hks : ∀ p ∈ ks, p ∈ news)
    (ha : (a, oo) ∈ news) (hk : KeyO prog w [i, j] oo) (hS : S i j n) (hu : A.in1.units < cLine) (h : ∀ t tk', Q (.int n t) { s with toks := tk' })
    (hs : subscripted slice false (.ref d) (.ref a) = operate [.ref d, .ref a] (getItem (.ref d) (.ref a)) := by with_unfolding_all rfl) :
    wpAny (model prog w) A (subscriptTail value slice (.ref d) (.ref a)) Q E s := by
  obtain ⟨xs, hx, _, _, hv⟩ := T.dict (Nw _ hd).1 fun p hp => (Nw _ (hks p hp)).1
  obtain ⟨b, t, hb⟩ := hv i j n hS
  exact tail_any hx.typeIs slot_dict_getitem.lookup (wpAny_getItem_heap hu (hk.is (Nw _ ha).1) hx hb (h t _)) hs
theorem mem_putAt {xs : List (List Int × Addr × Value)} {k : List Int} {v : Value} {x : List Int × Addr × Value} (h : x ∈ xs.map (putAt k v)) : ∃ y ∈ xs, y.1 = x.1 ∧ y.2.1 = x.2.1 := by
  obtain ⟨y, hy, rfl⟩ := List.mem_map.mp h
  refine ⟨y, hy, ?_⟩
  unfold putAt; split <;> exact ⟨rfl, rfl⟩
theorem atKey_stored (xs : List (List Int × Addr × Value)) (k k' : List Int) (a : Addr) (v : Value) :
    (k' ≠ k → atKey (storedH xs k a v) k' = atKey xs k') ∧ ∃ b, atKey (storedH xs k a v) k = some (b, v) := by
  unfold storedH
  by_cases hk : (atKey xs k).isSome = true
  · rw [if_pos hk]
    constructor
    · intro hne
      clear hk
      induction xs with
      | nil => rfl
      | cons x xs ih =>
        simp only [List.map_cons, atKey, List.find?_cons] at ih ⊢
        by_cases q : x.1 = k
        · have : (putAt k v x).1 = k := by simp [putAt, q]
          simp only [this, q]
          rw [decide_eq_false (Ne.symm hne)]
          exact ih
        · have : putAt k v x = x := by simp [putAt, q]
          rw [this]
          cases decide (x.1 = k')
          · exact ih
          · rfl
    · induction xs with
      | nil => simp [atKey] at hk
      | cons x xs ih =>
        simp only [List.map_cons, atKey, List.find?_cons] at ih hk ⊢
        by_cases q : x.1 = k
        · have : putAt k v x = (x.1, x.2.1, v) := by simp [putAt, q]
          simp [this, q]
        · have : putAt k v x = x := by simp [putAt, q]
          rw [this]
          simp only [q, decide_false] at hk ⊢
          exact ih hk
  · rw [if_neg hk]
    have hn : atKey xs k = none := by cases e : atKey xs k with | none => rfl | some _ => rw [e] at hk; simp at hk
    constructor
    · intro hne
      simp only [atKey, List.find?_append]
      cases xs.find? (fun x => decide (x.1 = k')) <;> simp [Ne.symm hne]
    · refine ⟨a, ?_⟩
      have : xs.find? (fun x => decide (x.1 = k)) = none := by
        simpa [atKey] using hn
      simp [atKey, List.find?_append, this]
theorem tab_set {d a : Addr} {o oo : Obj} {ks pre post : List (Addr × Obj)} {N : Nat} {S : Int → Int → Int → Prop} {i j n : Int} {t : Tok} {Q : Unit → Shared → Prop} (F : Fr g L s.heap m) (Nw : News g L s.heap (pre ++ (d, o) :: post)) (T : TabO prog w o ks N S) (hpre : ∀ p ∈ pre, p.1 ≠ d) (hpost : ∀ p ∈ post, p.1 ≠ d)
    (hks : ∀ p ∈ ks, p ∈ pre ++ post) (ha : (a, oo) ∈ pre ++ post) (hk : KeyO prog w [i, j] oo) (hN : N < 10000000) (hu : A.in1.units < cLine)
    (hQ : ∀ h' o' tk', Fr g L h' m → News g L h' (pre ++ (d, o') :: post) → TabO prog w o' ((a, oo) :: ks) (N + 1) (fun i' j' n' => if i' = i ∧ j' = j then n' = n else S i' j' n') → Q () { s with heap := h', toks := tk' }) :
    wpAny (model prog w) A (setItem (.ref d) (.ref a) (.int n t)) Q E s := by
  have up : ∀ p ∈ pre ++ post, p ∈ pre ++ (d, o) :: post := fun p hp => by
    rcases List.mem_append.mp hp with hp | hp
    · exact List.mem_append_left _ hp
    · exact List.mem_append_right _ (.tail _ hp)
  have hd := Nw (d, o) (List.mem_append_right _ (.head _))
  obtain ⟨xs, hx, hl, hkeys, hv⟩ := T.dict hd.1 fun p hp => (Nw _ (up _ (hks p hp))).1
  refine wpAny_setItem_heap hu (hk.is (Nw _ (up _ ha)).1) hx (fun h' hx' hs => ?_) (by rw [sizeLine_eq]; omega)
  obtain ⟨o', es, ep, ho', he, hdd, hes, hki, hnd⟩ := hx'
  refine hQ h' o' _ (F.change hs hd.2.1 hd.2.2) (news_set Nw hpre hpost hs ho') ⟨_, he, ⟨es, ep, hdd, hes⟩, fun x hx => ?_, hnd, ?_, fun i' j' n' q => ?_⟩
  · unfold storedH at hx
    split at hx
    · obtain ⟨y, hy, e1, e2⟩ := mem_putAt hx
      obtain ⟨oo', h1, h2⟩ := hkeys y hy
      rw [e2] at h1; rw [e1] at h2
      exact ⟨oo', .tail _ h1, h2⟩
    · rcases List.mem_append.mp hx with hx | hx
      · obtain ⟨oo', h1, h2⟩ := hkeys x hx
        exact ⟨oo', .tail _ h1, h2⟩
      · simp only [List.mem_singleton] at hx; subst hx
        exact ⟨oo, .head _, hk⟩
  · unfold storedH; split
    · rw [List.length_map]; omega
    · rw [List.length_append, List.length_singleton]; omega
  · dsimp only at q
    have hst := atKey_stored xs [i, j] [i', j'] a (.int n t)
    by_cases c : i' = i ∧ j' = j
    · rw [if_pos c] at q
      obtain ⟨b, hb⟩ := hst.2
      obtain ⟨rfl, rfl⟩ := c
      exact ⟨b, t, by rw [hb, q]⟩
    · rw [if_neg c] at q
      rw [hst.1 (by intro e; simp at e; exact c e)]
      exact hv i' j' n' q
theorem tabO_of_dict {o : Obj} (x : o.IsDictOf (PySem.strKind prog w) []) : TabO prog w o [] 0 (fun _ _ _ => False) := by
  obtain ⟨es, ep, h1, h2, h3, h4, h5⟩ := x
  refine ⟨[], h1, ⟨es, ep, h2, ?_⟩, (fun _ h => nomatch h), List.nodup_nil, Nat.le_refl _, fun _ _ _ h => h.elim⟩
  cases e : es.toList with
  | nil => rfl
  | cons a l => rw [e] at h4; cases h4
theorem for_range1 {R : Result → Shared → Prop} {env : Env} {x : Str} {px : Pos} {body : List Stmt} {b : Int} {tb : Tok} {g : Heap} {m₀ : Str → Option Value} {news₀ : List (Addr × Obj)}
    (hh : A.handled = none) (hx : env.kindOf x = some .local) (hp : (env.scope.kind == .class || (env.scope.kind == .module && env.locals != env.globals)) = false)
    (J : Nat → (Str → Option Value) → List (Addr × Obj) → Prop)
    (F₀ : Fr g env.locals s.heap m₀) (N₀ : News g env.locals s.heap news₀) (hJ₀ : J 0 m₀ news₀) (hb : 0 ≤ b ∧ b < 1000000)
    (turn : ∀ (I : Addr) (i : Nat) m news h tk t, (i : Int) < b → J i m news → (∀ p ∈ news, p.1 ≠ I) → Fr g env.locals h (fun y => if y = x then some (.int i t) else m y) → News g env.locals h ((I, rgObj (i + 1) (b - i - 1)) :: news) →
      wpAny (model prog w) A (execs body env) (fun f s₃ => match f with
        | .next | .cont => ∃ h' tk' m' news', s₃ = { s with heap := h', toks := tk' } ∧ Fr g env.locals h' m' ∧ News g env.locals h' ((I, rgObj (i + 1) (b - i - 1)) :: news') ∧ (∀ p ∈ news', p.1 ≠ I) ∧ J (i + 1) m' news'
        | .brk => R (.ok .next) s₃
        | .ret v => R (.ok (.ret v)) s₃) (notedBy (model prog w) A env fun e s' => R (.error e) s') { s with heap := h, toks := tk })
    (done : ∀ m news h tk, J b.toNat m news → Fr g env.locals h m → News g env.locals h news → R (.ok .next) { s with heap := h, toks := tk }) :
    wpAny (model prog w) A (call (.type "range") [.int b tb]) (fun xv s₁ => wpAny (model prog w) A (pyIter xv) (fun it s₂ =>
      codeAny (model prog w) A (.forLoop (.Name x px) it body [] env) R s₂) E s₁) E s := by
  refine call_range_1 ?_
  refine wpAny_pyIter_range (IsRange.new _ _ _ _ _ _ _) (small_one (by omega) (by omega) (by omega) (by omega)) ?_
  have hIg : g.get? (s.heap.objs.size + 1) = none := by
    cases e : g.get? (s.heap.objs.size + 1) with
    | none => rfl
    | some o => exact absurd (Nat.lt_of_succ_lt (Heap.lt_size (F₀.keep _ _ e))) (Nat.lt_irrefl _)
  have hsz : (s.heap.push { cls := .type "range", data := .fields #[.int 0 s.toks, .int b tb, .int 1 (s.toks + 1)] }).objs.size = s.heap.objs.size + 1 := Heap.size_push ..
  have hrs : Builtin.Range.rangeSize 0 b 1 = b := by rw [rangeSize_one]; split <;> omega
  have hlt : ∀ p ∈ news₀, p.1 < s.heap.objs.size := fun p hp => Heap.lt_size (N₀ p hp).1
  obtain ⟨oL, _, _, hoL, _⟩ := F₀.ns
  have hLlt := Heap.lt_size hoL
  have hbn : ((b.toNat : Nat) : Int) = b := by omega
  dsimp only
  rw [hsz]
  refine loop_range (s := { s with heap := (s.heap.push { cls := .type "range", data := .fields #[.int 0 s.toks, .int b tb, .int 1 (s.toks + 1)] }).push { cls := .type "range_iterator", data := .fields #[rawInt 0, rawInt (Builtin.Range.rangeSize 0 b 1), rawInt 1] }, toks := s.toks + 1 + 1 }) (I := s.heap.objs.size + 1) (a := 0) (N := b.toNat) hh hx hp J ((F₀.push _).push _) ?_ (fun p hp => by have h1 := hlt p hp; show @Ne Nat p.1 _; have h1 : @LT.lt Nat _ p.1 s.heap.objs.size := h1; omega) hJ₀
    (fun i m news h tk t hi hJ hI F N => ?_) done
  · intro p hp
    rcases List.mem_cons.mp hp with rfl | hp
    · refine ⟨?_, Nat.ne_of_gt (Nat.lt_succ_of_lt hLlt), hIg⟩
      show Heap.get? _ (s.heap.objs.size + 1) = _
      rw [hrs, hbn, ← hsz]
      exact Heap.get?_push_size _ rfl
    · exact ⟨Heap.get?_push_of_some _ (Heap.get?_push_of_some _ (N₀ p hp).1), (N₀ p hp).2⟩
  · rw [hbn] at N ⊢
    simp only [Int.zero_add] at F N ⊢
    exact turn _ i m news h tk t (by omega) hJ hI F N
theorem callWith_TK {K : Frag} {T : String} {env : Env} {pos : Pos} {first : List Value} {Q : Value → Shared → Prop} {e : Expr} {rest : List Expr} {kws : List Keyword} {M : Model} (X : K.In s.heap) (hall : (backToKw pos (keywordEach kws env)).all (·.1.isSome) = true)
    (h : wpAny M A (spliced (backTo pos (starEach (e :: rest) env))) (fun vs s₁ => wpAny M A (evalAll ((backToKw pos (keywordEach kws env)).map (·.2)))
      (fun ks s₂ => K.In s₂.heap ∧ wpAny M A (call (.type T) (first ++ vs) (((backToKw pos (keywordEach kws env)).filterMap (·.1)).zip ks)) Q E s₂) E s₁) E s)
    (hplain : ((backTo pos (starEach (e :: rest) env)).any (·.1) || (backToKw pos (keywordEach kws env)).any (·.1.isNone)) = false := by rfl) (he : starEach (e :: rest) env = (false, eval e env) :: starEach rest env := by rfl) :
    wpAny M A (callWith pos (.type T) first (backTo pos (starEach (e :: rest) env)) (backToKw pos (keywordEach kws env))) Q E s :=
  callWith_of (P := K.In) hplain (fun _ _ => ⟨.machine, .inr (.inl rfl), .now⟩) (evalArgs_kw2 hall h he)
theorem for_enum {R : Result → Shared → Prop} {env : Env} {elts : List Expr} {k : Nat} {pos : Pos} {body : List Stmt} {x : Str} {t tk₀ : Tok} {g : Heap} {m₀ : Str → Option Value} {news₀ : List (Addr × Obj)}
    (hh : A.handled = none)
    (J : Nat → (Str → Option Value) → List (Addr × Obj) → Prop)
    (F₀ : Fr g env.locals s.heap m₀) (N₀ : News g env.locals s.heap news₀) (hJ₀ : J 0 m₀ news₀)
    (turn : ∀ (e it a : Addr) (oe oi : Obj) (i : Nat) m news h tk tk' u, i < x.cps.size → J i m news → (∀ p ∈ news, p.1 ≠ e ∧ p.1 ≠ it ∧ p.1 ≠ a) → e ≠ it → a ≠ e → a ≠ it → oe.cls ≠ .type "tuple" → oi.cls ≠ .type "tuple" → Fr g env.locals h m →
      News g env.locals h ((e, oe) :: (it, oi) :: (a, { cls := .type "tuple", data := .seq #[.int ((i : Int) + 1) tk', .str ⟨#[x.cps.getD i 0]⟩ u] }) :: news) →
      wpAny (model prog w) A (assign (.Tuple elts k pos) env (.ref a)) (fun _ s₂ => wpAny (model prog w) A (execs body env) (fun f s₃ => match f with
        | .next | .cont => ∃ h' tk' m' news', s₃ = { s with heap := h', toks := tk' } ∧ Fr g env.locals h' m' ∧ News g env.locals h' ((e, oe) :: (it, oi) :: news') ∧ (∀ p ∈ news', p.1 ≠ e ∧ p.1 ≠ it) ∧ J (i + 1) m' news'
        | .brk => R (.ok .next) s₃
        | .ret v => R (.ok (.ret v)) s₃) (notedBy (model prog w) A env fun e s' => R (.error e) s') s₂) (notedBy (model prog w) A env fun e s' => R (.error e) s') { s with heap := h, toks := tk })
    (done : ∀ m news h tk, J x.cps.size m news → Fr g env.locals h m → News g env.locals h news → R (.ok .next) { s with heap := h, toks := tk }) :
    wpAny (model prog w) A (call (.type "enumerate") [.str x t] [(Str.ofString "start", .int 1 tk₀)]) (fun xv s₁ => wpAny (model prog w) A (pyIter xv) (fun it s₂ =>
      codeAny (model prog w) A (.forLoop (.Tuple elts k pos) it body [] env) R s₂) E s₁) E s := by
  refine enumMake fun h' he hit hsz hk => ?_
  refine wpAny_pyIter_enum he ?_
  have hlt : ∀ p ∈ news₀, p.1 < s.heap.objs.size := fun p hp => Heap.lt_size (N₀ p hp).1
  obtain ⟨oL, _, _, hoL, _⟩ := id F₀.ns
  have hLlt := Heap.lt_size hoL
  have gn : ∀ b, s.heap.objs.size ≤ b → g.get? b = none := fun b hb => by
    cases e : g.get? b with
    | none => rfl
    | some o => exact absurd (Nat.lt_of_lt_of_le (Heap.lt_size (F₀.keep _ _ e)) hb) (Nat.lt_irrefl _)
  have hne : s.heap.objs.size + 1 ≠ s.heap.objs.size := Nat.succ_ne_self _
  obtain ⟨oi, hoi, hci, hdi⟩ := hit
  have W := itX_enum (prog := prog) (w := w) (A := A) (x := x) (t := t) (T := strIterType x) (it := s.heap.objs.size) (e := s.heap.objs.size + 1) (elts := elts) (k := k) (pos := pos) (g := g) hh rfl hne
  refine loop_itX (s := { s with heap := h' }) (own₀ := [(s.heap.objs.size + 1, { cls := .type "enumerate", dict := none, data := .fields #[.none, .bool false, .ref s.heap.objs.size, rawInt 1, .none, .none], slots := #[] }), (s.heap.objs.size, oi)]) (news₀ := news₀) W J ⟨_, oi, .none, rfl, rfl, hci, hdi⟩ (F₀.kept hk) ?_ (fun p hp hb => ?_) hJ₀ (fun i m news h tk v fr own hi hP hO hJ hI hf hfn F N => ?_) done
  · intro p hp
    rcases List.mem_append.mp hp with hp | hp
    · simp only [List.mem_cons, List.not_mem_nil, or_false] at hp
      rcases hp with rfl | rfl
      · exact ⟨he, Nat.ne_of_gt (Nat.lt_succ_of_lt hLlt), gn _ (Nat.le_succ _)⟩
      · exact ⟨hoi, Nat.ne_of_gt hLlt, gn _ (Nat.le_refl _)⟩
    · exact ⟨hk _ _ (N₀ p hp).1, (N₀ p hp).2⟩
  · simp only [List.mem_cons, List.not_mem_nil, or_false] at hb
    rcases hb with hb | hb
    · exact absurd (hb ▸ hlt p hp) (Nat.not_lt_of_lt (Nat.lt_succ_self _))
    · exact absurd (hb ▸ hlt p hp) (Nat.lt_irrefl _)
  · obtain ⟨a, tk', u, rfl, rfl⟩ := hP
    obtain ⟨o₁, o₂, old, rfl, e1, hc2, _⟩ := hO
    have k1 : o₁.cls ≠ .type "tuple" := by rw [e1]; simp
    have k2 : o₂.cls ≠ .type "tuple" := by rw [hc2]; unfold strIterType; split <;> simp
    simp only [List.cons_append, List.nil_append] at N
    have hfa := hf _ (.head _)
    simp only [List.mem_cons, List.not_mem_nil, or_false, not_or] at hfa
    refine wpAny_mono (turn _ _ a o₁ o₂ i m news h tk tk' u hi hJ (fun p hp => ?_) hne hfa.1 hfa.2 k1 k2 F N) (fun _ s₂ h₂ => wpAny_mono h₂ (fun f s₃ h₃ => ?_) fun _ _ e => e) fun _ _ e => e
    · have := hI p hp
      simp only [List.mem_cons, List.not_mem_nil, or_false, not_or] at this
      exact ⟨this.1, this.2, fun q => hfn _ (.head _) p hp q.symm⟩
    · have conv : (∃ h' tk' m' news', s₃ = { s with heap := h', toks := tk' } ∧ Fr g env.locals h' m' ∧ News g env.locals h' ((s.heap.objs.size + 1, o₁) :: (s.heap.objs.size, o₂) :: news') ∧ (∀ p ∈ news', p.1 ≠ s.heap.objs.size + 1 ∧ p.1 ≠ s.heap.objs.size) ∧ J (i + 1) m' news') →
          ∃ h'' tk' m' news', s₃ = { ({ s with heap := h' } : Shared) with heap := h'', toks := tk' } ∧ Fr g env.locals h'' m' ∧ News g env.locals h'' ([(s.heap.objs.size + 1, o₁), (s.heap.objs.size, o₂)] ++ news') ∧ (∀ p ∈ news', p.1 ∉ [s.heap.objs.size + 1, s.heap.objs.size]) ∧ J (i + 1) m' news' := by
        rintro ⟨h', tk', m', news', rfl, F', N', hI', hJ'⟩
        exact ⟨h', tk', m', news', rfl, F', N', fun p hp => by simp only [List.mem_cons, List.not_mem_nil, or_false, not_or]; exact hI' p hp, hJ'⟩
      cases f with
      | brk => exact h₃
      | ret v => exact h₃
      | next => exact conv h₃
      | cont => exact conv h₃
theorem ne_cls {x y : Addr} {ox oy : Obj} (N : News g L h news) (hx : (x, ox) ∈ news) (hy : (y, oy) ∈ news) (hc : oy.cls ≠ ox.cls) : x ≠ y := by
  intro e
  have h1 := (N _ hx).1
  have h2 := (N _ hy).1
  dsimp only at h1 h2
  rw [e, h2] at h1
  exact hc (congrArg Obj.cls (Option.some.inj h1))
theorem TabO.cls {o : Obj} {ks : List (Addr × Obj)} {N : Nat} {S : Int → Int → Int → Prop} (T : TabO prog w o ks N S) : o.cls ≠ .type "tuple" := by
  obtain ⟨xs, h1, _⟩ := T
  rw [h1.1]; simp
end
end Mine
end
-- M1b
section
open PySem PySem.W PySem.W.X PyProof.Rows PySem.Calls
set_option maxRecDepth 100000
set_option maxHeartbeats 4000000
namespace Mine
section
local macro_rules | `(tactic| x_close) => `(tactic| (refine Ends.use (by assumption) (by assumption) ?_; refine ⟨_, congrArg (fun z => Value.int z _) ?_⟩; omega))
theorem min4x {prog : Program} {w : World} {s : Shared} {fr : Option (List Env)} {gd : Option (List Code)} {a b c d : Int} {ta tb tc td : Tok} {Q : Value → Shared → Prop} {E : Value → Shared → Prop}
    (hq : Ends (fun v => ∃ t, v = .int (min (min a b) (min c d)) t) Q s) :
  wpAny (model prog w) {depth := 460, units := 300, frames := fr, guards := gd} (call (.builtin "min") [.int a ta, .int b tb, .int c tc, .int d td]) Q E s := by
  x_run
end
section
variable {prog : Program} {w : World} {A : Around} {E : Value → Shared → Prop} {s : Shared} {g h : Heap} {L : Addr} {m : Str → Option Value} {news : List (Addr × Obj)}
theorem valueAt_stored' {K : Type} [DecidableEq K] (xs : List (K × Value)) (k k' : K) (v : Value) : valueAt (stored xs k v) k' = if k' = k then some v else valueAt xs k' := by
  unfold stored
  by_cases hk : (xs.any fun kv => decide (kv.1 = k)) = true
  · rw [if_pos hk]
    by_cases hne : k' = k
    · subst hne
      rw [if_pos rfl]
      induction xs with
      | nil => simp at hk
      | cons x xs ih =>
        simp only [List.map_cons, valueAt, List.find?_cons] at ih ⊢
        by_cases q : x.1 = k'
        · simp [q]
        · have hk' : (xs.any fun kv => decide (kv.1 = k')) = true := by simpa [q] using hk
          simp only [q, if_false, decide_false]
          exact ih hk'
    · rw [if_neg hne]
      clear hk
      induction xs with
      | nil => rfl
      | cons x xs ih =>
        simp only [List.map_cons, valueAt, List.find?_cons] at ih ⊢
        by_cases q : x.1 = k
        · simp only [q, if_true, decide_eq_false (Ne.symm hne)]
          exact ih
        · simp only [q, if_false]
          cases decide (x.1 = k')
          · exact ih
          · rfl
  · rw [if_neg hk]
    have hn : xs.find? (fun kv => decide (kv.1 = k)) = none := by
      cases e : xs.find? (fun kv => decide (kv.1 = k)) with
      | none => rfl
      | some y => exact absurd (List.any_eq_true.mpr ⟨y, List.mem_of_find?_eq_some e, List.find?_some e⟩) hk
    by_cases hne : k' = k
    · subst hne; simp [valueAt, List.find?_append, hn]
    · simp only [valueAt, List.find?_append, if_neg hne]
      cases xs.find? (fun kv => decide (kv.1 = k')) <;> simp [Ne.symm hne]
def DaO (prog : Program) (w : World) (o : Obj) (N : Nat) (f : Nat → Nat) : Prop :=
  ∃ kvs, o.IsDictOf (PySem.strKind prog w) kvs ∧ kvs.length ≤ N ∧ ∀ c, (f c = 0 → valueAt kvs (⟨#[c]⟩ : Str) = none) ∧ (f c ≠ 0 → ∃ t, valueAt kvs (⟨#[c]⟩ : Str) = some (.int (f c) t))
theorem DaO.cls {o : Obj} {N : Nat} {f : Nat → Nat} (D : DaO prog w o N f) : o.cls ≠ .type "tuple" := by
  obtain ⟨kvs, ⟨es, ep, h1, _⟩, _⟩ := D
  rw [h1.1]; simp
theorem daO_new {o : Obj} (x : o.IsDictOf (PySem.strKind prog w) []) : DaO prog w o 0 fun _ => 0 := ⟨[], x, Nat.le_refl _, fun c => ⟨fun _ => rfl, fun q => absurd rfl q⟩⟩
theorem is_str1 (c : Nat) (u : Tok) : (PySem.strKind prog w).is (⟨#[c]⟩ : Str) (.str ⟨#[c]⟩ u) = true := by
  show ((⟨#[c]⟩ : Str) == ⟨#[c]⟩) = true
  simp
theorem da_get {da : Addr} {o : Obj} {N c : Nat} {f : Nat → Nat} {u t0 : Tok} {Q : Value → Shared → Prop} (Nw : News g L s.heap news) (hd : (da, o) ∈ news) (D : DaO prog w o N f) (hs : (da == sysModules) = false)
    (h : ∀ t tk', Q (.int (f c) t) { s with toks := tk' }) : wpAny (model prog w) A (call (.builtin "dict.get") [.ref da, .str ⟨#[c]⟩ u, .int 0 t0]) Q E s := by
  obtain ⟨kvs, hk, _, hv⟩ := D
  have hm : s.heap.DictOf (PySem.strKind prog w) da kvs := Heap.dictOf_iff.mpr ⟨o, (Nw _ hd).1, hk⟩
  refine call_meetsIn PySem.F.slot_dict_get hm.typeIs PySem.F.entry_dict_get (PySem.F.args_dict_get_3 _ _ _) (meets_dict_get_default (PySem.strKind prog w) da (k := ⟨#[c]⟩) (is_str1 _ _) hs (.int 0 t0)) ⟨_, hm.mapOf, ?_⟩
  by_cases q : f c = 0
  · rw [(hv c).1 q]; have := h t0 (s.toks + 1); rw [q] at this; exact this
  · obtain ⟨t, ht⟩ := (hv c).2 q
    rw [ht]; exact h t _
theorem da_meth {da : Addr} {o : Obj} {N : Nat} {f : Nat → Nat} {pl : Sem Bool} {Q : Value × List Value → Shared → Prop} (Nw : News g L s.heap news) (hd : (da, o) ∈ news) (D : DaO prog w o N f)
    (h : Q (.builtin "dict.get", [.ref da]) s) : wpAny (model prog w) A (getMethod (.ref da) (Str.ofString "get") pl) Q E s := by
  obtain ⟨kvs, hk, _, hv⟩ := D
  have hm : s.heap.DictOf (PySem.strKind prog w) da kvs := Heap.dictOf_iff.mpr ⟨o, (Nw _ hd).1, hk⟩
  exact getMethod_builtin hm.typeIs PySem.F.plainAttrs_dict PySem.F.slot_dict_get PySem.F.type_dict_get hm.mapOf.noDict h
theorem da_set {da : Addr} {o : Obj} {pre post : List (Addr × Obj)} {N c n : Nat} {f : Nat → Nat} {u t : Tok} {Q : Unit → Shared → Prop} {j : Int} (F : Fr g L s.heap m) (Nw : News g L s.heap (pre ++ (da, o) :: post)) (hpre : ∀ p ∈ pre, p.1 ≠ da) (hpost : ∀ p ∈ post, p.1 ≠ da) (D : DaO prog w o N f) (hN : N < 100000) (hj : j = (n : Int)) (hn : n ≠ 0)
    (h : ∀ h' o' tk', Fr g L h' m → News g L h' (pre ++ (da, o') :: post) → DaO prog w o' (N + 1) (fun x => if x = c then n else f x) → Q () { s with heap := h', toks := tk' }) :
    wpAny (model prog w) A (setItem (.ref da) (.str ⟨#[c]⟩ u) (.int j t)) Q E s := by
  subst hj
  obtain ⟨kvs, hk, hl, hv⟩ := D
  have hd := Nw (da, o) (List.mem_append_right _ (.head _))
  have hm : s.heap.DictOf (PySem.strKind prog w) da kvs := Heap.dictOf_iff.mpr ⟨o, hd.1, hk⟩
  refine wpAny_setItem_pairs (knd := PySem.strKind prog w) (k := (⟨#[c]⟩ : Str)) (is_str1 _ _) hm (fun h' hm' hs => ?_) (by rw [sizeLine_eq]; omega)
  obtain ⟨o', ho', hk'⟩ := Heap.dictOf_iff.mp hm'
  refine h h' o' _ (F.change hs hd.2.1 hd.2.2) (news_set Nw hpre hpost hs ho') ⟨_, hk', Nat.le_trans (stored_length_le _ _ _) (by omega), fun x => ?_⟩
  rw [valueAt_stored']
  by_cases q : x = c
  · subst q
    exact ⟨fun e => absurd (by simpa using e) hn, fun _ => ⟨t, by simp⟩⟩
  · have q' : ¬ ((⟨#[x]⟩ : Str) = ⟨#[c]⟩) := by simpa using q
    rw [if_neg q']; simp only [if_neg q]; exact hv x
end
end Mine
end
-- M2
section
open PySem PySem.W PySem.W.X PyProof.Rows PySem.Calls
set_option maxRecDepth 100000
set_option maxHeartbeats 8000000
namespace Mine
theorem fillM2 : PySem.Challenge.rw_ah5040_01 = PySem.Challenge.rw_ah5040_01 ∧ Mine.hd.heap_39 = Mine.hd.heap_39 := by
  k_fill
  exact ⟨rfl, rfl⟩
local macro_rules | `(tactic| walk_at "my S") => `(tactic| (refine wpAny_call ?_; refine' enterS ?k3 ?k5 ?k6 ?k7 ?k8 ?k9 ?kB ?_ ?c2 ?c3 ?c4 ?c5; (case k3 => k_asm); (case k5 => k_asm); (case k6 => k_is); (case k7 => k_is); (case k8 => k_room); (case k9 => first | exact BindsTo.of_eq rfl | exact binds_K (by k_in) rfl (by k_is) rfl rfl rfl); (case kB => exact locs rfl); (case c5 => decide); (case c2 => exact rfl); (case c3 => exact rfl); (case c4 => exact rfl)))
local macro_rules | `(tactic| walk_at "my V") => `(tactic| (refine wpAny_call ?_; refine' enterV ?k3 ?k5 ?k6 ?k7 ?k8 ?kP ?kG ?kB ?_ ?c2 ?c3 ?c4 ?c5; (case k3 => k_asm); (case k5 => k_asm); (case k6 => k_is); (case k7 => k_is); (case k8 => k_room); (case kP => exact rfl); (case kG => exact fun _ => rfl); (case kB => exact fun _ => locs rfl); (case c5 => decide); (case c2 => exact rfl); (case c3 => exact rfl); (case c4 => exact rfl)))
local macro_rules | `(tactic| k_inst) => `(tactic| (refine' InstAt_of_get ?a ?b; (case a => exact Fr.keep (by k_asm) _ _ (by assumption)); (case b => exact Fr.keep (by k_asm) _ _ (by assumption))))
local macro_rules | `(tactic| walk_at "eval Call Attribute") => `(tactic| (k_here; (with_reducible show wpAny _ _ (eval (Expr.Call (Expr.Attribute _ _ _) [Expr.Starred _ _] [] _) _) _ _ _); refine starMethod ?_))
local macro_rules | `(tactic| walk_at "getAttr ref") => `(tactic| (k_here; k_dflt (refine' attr_sm ?k1 ?k2 ?k4 ?k5 ?k6 ?k7 ?k9 ?k10 ?k11 ?k12 ?k13 ?k14 ?_; (case k1 => k_asm); (case k2 => k_asm); (case k4 => k_inst); (case k5 => k_is); (case k6 => k_is); (case k7 => k_is); (case k9 => k_is); (case k10 => k_is); (case k11 => decide +kernel); (case k12 => k_get); (case k13 => k_is); (case k14 => k_handed); k_whole)))
local macro_rules | `(tactic| walk_at "callWith ref") => `(tactic| (k_here; (with_reducible show wpAny _ _ (callWith _ (Value.ref _) _ (backTo _ (starEach [Expr.Starred _ _] _)) []) _ _ _); k_dflt (refine' callWith_SM ?k1 ?k2 ?k3 ?k4 ?_; (case k1 => k_asm); (case k2 => k_asm); (case k3 => k_mem); (case k4 => k_is); k_whole)))
local macro_rules | `(tactic| walk_at "callWith ref") => `(tactic| (k_here; (with_reducible show wpAny _ _ (callWith _ (Value.ref _) _ (backTo _ (starEach [Expr.Starred _ _] _)) []) _ _ _); k_dflt (refine' callWith_SI ?k1 ?k2 ?k3 ?k4 ?_; (case k1 => k_in); (case k2 => k_inst); (case k3 => rfl); (case k4 => k_is); k_whole)))
local macro_rules | `(tactic| walk_at "eval Name") => `(tactic| (k_here; k_dflt (refine' ld ?k1 ?k2 ?_; (case k1 => k_asm); (case k2 => first | exact rfl | assumption); k_whole)))
local macro_rules | `(tactic| walk_at "my drop") => `(tactic| (repeat (first | ((rename News _ _ _ _ => Nx); clear Nx) | ((rename Fr _ _ _ _ => Fx); clear Fx))))
local macro_rules | `(tactic| walk_at "my stops") => `(tactic| ((fail_if_success (with_reducible show wpAny _ _ (call (Value.builtin "all") _) _ _ _)); (fail_if_success (with_reducible show wpAny _ _ (call (Value.builtin "max") _) _ _ _)); (fail_if_success (with_reducible show wpAny _ _ (call (Value.ref _) _) _ _ _)); (fail_if_success (with_reducible show wpAny _ _ (call (Value.type "map") _) _ _ _)); (fail_if_success (with_reducible show wpAny _ _ (callWith _ (Value.type "enumerate") _ _ _) _ _ _)); (fail_if_success (with_reducible show wpAny _ _ (exec (PySem.Stmt.For _ _ _ _ _) _) _ _ _)); (fail_if_success (with_reducible show wpAny _ _ (setItem (Value.ref _) _ _) _ _ _)); (fail_if_success (with_reducible show wpAny _ _ (subscriptTail _ _ _ _) _ _ _)); (fail_if_success (with_reducible show wpAny _ _ (call (Value.builtin "min") _) _ _ _)); (fail_if_success (with_reducible show wpAny _ _ (getMethod (Value.ref _) (PySem.Str.ofString "get") _) _ _ _)); (fail_if_success (with_reducible show wpAny _ _ (call (Value.ref 157) _) _ _ _)); (fail_if_success (with_reducible show wpAny _ _ (call (Value.builtin "dict.get") _) _ _ _)); (fail_if_success (with_reducible show wpAny _ _ (call (Value.type "range") _) _ _ _)); (fail_if_success (with_reducible show wpAny _ _ (call (Value.type "enumerate") _ _) _ _ _))))
local macro_rules | `(tactic| walk_at "my walk") => `(tactic| (repeat' (walk_at "my stops"; first | (k_unfold; (try dsimp only)) | walk1 | (dsimp only; first | walk1 | (k_unfold; try dsimp only)) | (leave1; walk_say "STEP leave1"; try dsimp only))))
section
variable {w : World} {s : Shared} {p : Program} {loose : List Str} {mg mb : Str → Option Value} {base : Heap} {outer : List Env} {gd : Option (List Code)} {A₀ : Around} {Q E : Value → Shared → Prop}

structure DLm (m : Str → Option Value) (se d da : Addr) (a b : Str) (ta tb : Tok) : Prop where
  self : m (Str.ofString "self") = some (.ref se)
  s1 : m (Str.ofString "s1") = some (.str a ta)
  s2 : m (Str.ofString "s2") = some (.str b tb)
  d : m (Str.ofString "d") = some (.ref d)
  da : m (Str.ofString "da") = some (.ref da)
  len1 : ∃ t, m (Str.ofString "len1") = some (.int a.length t)
  len2 : ∃ t, m (Str.ofString "len2") = some (.int b.length t)
  maxd : ∃ t, m (Str.ofString "maxdist") = some (.int (a.length + b.length) t)
theorem lt_ne {a b : Addr} (h : a < b) : b ≠ a := Nat.ne_of_gt h
def S1 (M : Int) (i : Nat) (x y n : Int) : Prop := (x = -1 ∧ y = -1 ∧ n = M) ∨ (0 ≤ x ∧ x < i ∧ ((y = -1 ∧ n = M) ∨ (y = 0 ∧ n = x)))
def S2 (M : Int) (N1 : Nat) (i : Nat) (x y n : Int) : Prop := S1 M N1 x y n ∨ (0 ≤ y ∧ y < i ∧ ((x = -1 ∧ n = M) ∨ (x = 0 ∧ n = y)))
def S3 (eq : Nat → Nat → Bool) (N1 N2 : Nat) (i : Nat) (x y n : Int) : Prop := S2 (N1 + N2) (N1 + 1) (N2 + 1) x y n ∨ (0 ≤ x ∧ x ≤ i ∧ 0 ≤ y ∧ y ≤ N2 ∧ n = dlF eq (N1 + N2) x.toNat y.toNat)
def S4 (eq : Nat → Nat → Bool) (N1 N2 : Nat) (i j : Nat) (x y n : Int) : Prop := S3 eq N1 N2 i x y n ∨ (x = i + 1 ∧ 0 ≤ y ∧ y ≤ j ∧ n = dlF eq (N1 + N2) (i + 1) y.toNat)
section
variable {eq : Nat → Nat → Bool} {N1 N2 i j i' j' : Nat} {x y : Int}
theorem s3_at (hx : x = i') (hy : y = j') (hi : i' ≤ i) (hj : j' ≤ N2) : S3 eq N1 N2 i x y (dlF eq (N1 + N2) i' j') := by
  subst hx; subst hy; exact .inr ⟨by omega, by omega, by omega, by omega, by simp⟩
theorem s4_up (hx : x = i') (hy : y = j') (hi : i' ≤ i) (hj : j' ≤ N2) : S4 eq N1 N2 i j x y (dlF eq (N1 + N2) i' j') := .inl (s3_at hx hy hi hj)
theorem s4_left (hx : x = (i : Int) + 1) (hy : y = j) : S4 eq N1 N2 i j x y (dlF eq (N1 + N2) (i + 1) j) := by
  subst hx; subst hy; exact .inr ⟨rfl, by omega, by omega, by simp⟩
theorem s4_far (hi : i < N1) (hj : j < N2) (hx : x = (i' : Int) - 1) (hy : y = (j' : Int) - 1) (hi' : i' ≤ i) (hj' : j' ≤ j) : S4 eq N1 N2 i j x y ((if i' = 0 ∨ j' = 0 then N1 + N2 else dlF eq (N1 + N2) (i' - 1) (j' - 1) : Nat) : Int) := by
  by_cases h1 : i' = 0
  · rw [if_pos (.inl h1)]
    refine .inl (.inl ?_)
    by_cases h2 : j' = 0
    · exact .inl (.inl ⟨by omega, by omega, by simp⟩)
    · exact .inr ⟨by omega, by omega, .inl ⟨by omega, by simp⟩⟩
  · by_cases h2 : j' = 0
    · rw [if_pos (.inr h2)]
      exact .inl (.inl (.inl (.inr ⟨by omega, by omega, .inl ⟨by omega, by simp⟩⟩)))
    · rw [if_neg (by simp [h1, h2])]
      exact s4_up (by omega) (by omega) (by omega) (by omega)
theorem s3_zero {n : Int} (q : S3 eq N1 N2 0 x y n) : S2 (N1 + N2) (N1 + 1) (N2 + 1) x y n := by
  rcases q with q | ⟨h1, h2, h3, h4, h5⟩
  · exact q
  · have : x = 0 := by omega
    subst this
    refine .inr ⟨h3, by omega, .inr ⟨rfl, ?_⟩⟩
    rw [h5, Int.toNat_zero, dlF_zero]; omega
theorem s4_zero {n : Int} (hi : i < N1) (q : S4 eq N1 N2 i 0 x y n) : S3 eq N1 N2 i x y n := by
  rcases q with q | ⟨h1, h2, h3, h4⟩
  · exact q
  · have : y = 0 := by omega
    subst this
    refine .inl (.inl (.inr ⟨by omega, by omega, .inr ⟨rfl, ?_⟩⟩))
    rw [h4, Int.toNat_zero, dlF_col]; omega
theorem s3_succ {n : Int} (q : S3 eq N1 N2 (i + 1) x y n) : S4 eq N1 N2 i N2 x y n := by
  rcases q with q | ⟨h1, h2, h3, h4, h5⟩
  · exact .inl (.inl q)
  · by_cases e : x = i + 1
    · refine .inr ⟨e, h3, h4, ?_⟩
      rw [h5, e]; congr 2
    · exact .inl (.inr ⟨h1, by omega, h3, h4, h5⟩)
theorem s4_succ {n : Int} (q : S4 eq N1 N2 i (j + 1) x y n) : (x = i + 1 ∧ y = j + 1 ∧ n = dlF eq (N1 + N2) (i + 1) (j + 1)) ∨ S4 eq N1 N2 i j x y n := by
  rcases q with q | ⟨h1, h2, h3, h4⟩
  · exact .inr (.inl q)
  · by_cases e : y = j + 1
    · refine .inl ⟨h1, e, ?_⟩
      rw [h4, e]; congr 2
    · exact .inr (.inr ⟨h1, h2, by omega, h4⟩)
theorem s4_old {n : Int} (hi : i < N1) (h : S4 eq N1 N2 i j (i + 1) (j + 1) n) : S2 (N1 + N2) (N1 + 1) (N2 + 1) (i + 1) (j + 1) n := by
  rcases h with (h | ⟨h1, h2, _⟩) | ⟨_, _, h3, _⟩
  · exact h
  · omega
  · omega
end
theorem dlrun {se dse : Addr} {q1 q2 q3 q4 : Int} {t1 t2 t3 t4 tq ta tb : Tok} {vx : Value} {ep : Nat} {a b : Str}
    (X : (Mine.hd.heap_39 w.params).In s.heap) (T : TopRead p loose mg mb s.heap)
    (h0 : s.heap.get? se = some ⟨.ref 285, some dse, .plain, #[]⟩) (h9 : s.heap.get? dse = some (dictOf [⟨q1, .str (Str.ofString "qval") t1, .int 1 tq⟩, ⟨q2, .str (Str.ofString "test_func") t2, .ref 157⟩, ⟨q3, .str (Str.ofString "external") t3, vx⟩, ⟨q4, .str (Str.ofString "restricted") t4, .bool false⟩] ep))
    (ha : a.length < 1000) (hb : b.length < 1000)
    (h : ∀ t h' tk', s.heap.StaysIn h' → Q (.int (dlF (eqS a b) (a.length + b.length) a.length b.length : Nat) t) { s with heap := h', toks := tk' }) :
    wpAny (model PySem.Challenge.rw_ah5040_01.prog w) (QD 50 outer gd) (call (.ref 268) [.ref se, .str a ta, .str b tb]) Q E s := by
  walk_at "my S"
  intro L' h' F' N'
  (try dsimp only); (show wpAny _ _ _ _ _ _); k_fold
  walk_at "my walk"
  rename Fr _ _ _ _ => F1
  rename News _ _ _ [(_, _), (_, _), (_, _)] => N1
  rename (_ < _ ∧ _ < _) => l1
  rename_i d _ od _ hod _ _ _ _ _ da _ oda _ hoda _ _ _ hdd _ _ _ _ _ D1 _
  refine tab_set (pre := [(D1, _), (da, oda)]) (post := []) F1 N1 (tabO_of_dict hod) (by simp only [List.forall_mem_cons]; exact ⟨lt_ne l1.2, lt_ne hdd, fun _ h => nomatch h⟩) (fun _ h => nomatch h) (fun _ h => nomatch h) (.head _) (keyO_pair _ _ _ _ _) (by decide) (Nat.le_of_ble_eq_true rfl) fun h1 o1 tk1 F2 N2 T1 => ?_
  clear F1 N1
  dsimp only
  walk_at "my walk"
  refine wpAny_For ?_
  walk_at "my walk"
  refine for_range1 (by rfl) (by rfl) (by rfl) (fun i m news => DLm m se d da a b ta tb ∧ ∃ o ks, news = (d, o) :: (da, oda) :: ks ∧ (∀ p ∈ ks, p.1 ≠ d ∧ p.1 ≠ da) ∧ TabO PySem.Challenge.rw_ah5040_01.prog w o ks (1 + 2 * i) (S1 (a.length + b.length) i)) F2
    (news_sub (news' := [(d, o1), (da, oda), (D1, _)]) N2 (by intro p hp; simp only [List.mem_cons, List.not_mem_nil, or_false, List.cons_append, List.nil_append] at hp ⊢; rcases hp with rfl | rfl | rfl <;> simp))
    ⟨⟨rfl, rfl, rfl, rfl, rfl, ⟨_, rfl⟩, ⟨_, rfl⟩, ⟨_, rfl⟩⟩, o1, [(D1, _)], rfl, (by simp only [List.forall_mem_cons]; exact ⟨⟨lt_ne l1.2, lt_ne l1.1⟩, fun _ h => nomatch h⟩), T1.mono (fun _ h => h) (by omega) (by
      rintro i j n (⟨rfl, rfl, rfl⟩ | ⟨h1, h2, _⟩)
      · simp
      · omega)⟩ ⟨by omega, by omega⟩ ?_ ?_
  · rintro I i m news h₁ tk t hi ⟨⟨m1, m2, m3, m4, m5, ⟨tm6, m6⟩, ⟨tm7, m7⟩, ⟨tm8, m8⟩⟩, o, ks, rfl, hks, TT⟩ hI F N
    clear F2 N2
    walk_at "my walk"
    rename Fr _ _ _ _ => F1
    rename News _ _ _ (_ :: _) => N1
    rename (_ < _ ∧ _ < _ ∧ _ < _ ∧ AllLt _ _) => l2
    rename_i D2 _
    refine tab_set (pre := [(D2, _), (I, _)]) (post := (da, oda) :: ks) F1 N1 TT (by simp only [List.forall_mem_cons]; exact ⟨lt_ne l2.2.1, Ne.symm (hI _ (.head _)), fun _ h => nomatch h⟩) (by simp only [List.forall_mem_cons]; exact ⟨lt_ne hdd, fun p hp => (hks p hp).1⟩)
      (fun p hp => List.mem_append_right _ (.tail _ hp)) (.head _) (keyO_pair _ _ _ _ _) (by omega) (Nat.le_of_ble_eq_true rfl) fun h2 o2 tk2 F2 N2 T2 => ?_
    clear F1 N1
    simp only [List.cons_append, List.nil_append] at N2
    dsimp only
    walk_at "my walk"
    rename Fr _ _ _ _ => F1
    rename News _ _ _ (_ :: _) => N1
    rename (_ < _ ∧ _ < _ ∧ _ < _ ∧ _ < _ ∧ AllLt _ _) => l3
    rename_i D3 _
    refine tab_set (pre := [(D3, _), (D2, _), (I, _)]) (post := (da, oda) :: ks) F1 N1 T2 (by simp only [List.forall_mem_cons]; exact ⟨lt_ne l3.2.2.1, lt_ne l2.2.1, Ne.symm (hI _ (.head _)), fun _ h => nomatch h⟩) (by simp only [List.forall_mem_cons]; exact ⟨lt_ne hdd, fun p hp => (hks p hp).1⟩)
      (fun p hp => by rcases List.mem_cons.mp hp with rfl | hp; exact .tail _ (.head _); exact List.mem_append_right _ (.tail _ hp)) (.head _) (keyO_pair _ _ _ _ _) (by omega) (Nat.le_of_ble_eq_true rfl) fun h3 o3 tk3 F3 N3 T3 => ?_
    clear F1 N1
    refine wpAny_execs_nil ?_
    refine ⟨h3, _, _, (d, o3) :: (da, oda) :: (D3, _) :: (D2, _) :: ks, rfl, F3, news_sub N3 ?_, ?_, ⟨m1, m2, m3, m4, m5, ⟨_, m6⟩, ⟨_, m7⟩, ⟨_, m8⟩⟩, o3, _, rfl, ?_, T3.mono (fun p hp => hp) (by omega) ?_⟩
    · intro p hp; simp only [List.mem_cons, List.mem_append, List.not_mem_nil, or_false] at hp ⊢; rcases hp with rfl | rfl | rfl | rfl | rfl | hp <;> simp [*]
    · simp only [List.forall_mem_cons]; exact ⟨hI _ (.head _), hI _ (.tail _ (.head _)), lt_ne l3.2.1, lt_ne l2.1, fun p hp => hI p (.tail _ (.tail _ hp))⟩
    · simp only [List.forall_mem_cons]; exact ⟨⟨lt_ne l3.2.2.1, lt_ne l3.2.2.2.1⟩, ⟨lt_ne l2.2.1, lt_ne l2.2.2.1⟩, hks⟩
    · rintro x y n (⟨rfl, rfl, rfl⟩ | ⟨q1, q2, q3⟩)
      · rw [if_neg (by omega), if_neg (by omega)]; exact .inl ⟨rfl, rfl, rfl⟩
      · by_cases e : x = i
        · subst e
          rcases q3 with ⟨rfl, rfl⟩ | ⟨rfl, rfl⟩ <;> simp
        · rw [if_neg (by omega), if_neg (by omega)]
          exact .inr ⟨q1, by omega, q3⟩
  · rintro m news h₁ tk ⟨⟨m1, m2, m3, m4, m5, ⟨tm6, m6⟩, ⟨tm7, m7⟩, ⟨tm8, m8⟩⟩, o, ks, rfl, hks, TT⟩ F N
    clear F2 N2
    dsimp only
    walk_at "my walk"
    refine wpAny_For ?_
    walk_at "my walk"
    refine for_range1 (by rfl) (by rfl) (by rfl) (fun i m news => DLm m se d da a b ta tb ∧ ∃ o ks, news = (d, o) :: (da, oda) :: ks ∧ (∀ p ∈ ks, p.1 ≠ d ∧ p.1 ≠ da) ∧ TabO PySem.Challenge.rw_ah5040_01.prog w o ks (1 + 2 * (a.length + 1) + 2 * i) (S2 (a.length + b.length) (a.length + 1) i)) F N
      ⟨⟨m1, m2, m3, m4, m5, ⟨_, m6⟩, ⟨_, m7⟩, ⟨_, m8⟩⟩, o, ks, rfl, hks, TT.mono (fun _ h => h) (by omega) (by
        rintro x y n (q | ⟨q1, q2, _⟩)
        · rwa [show ((a.length : Int) + 1).toNat = a.length + 1 by omega]
        · omega)⟩ ⟨by omega, by omega⟩ ?_ ?_
    · clear TT hks
      clear N
      clear F ks o m1 m2 m3 m4 m5 m6 m7 m8
      clear m
      rintro I i m news h₁ tk t hi ⟨⟨m1, m2, m3, m4, m5, ⟨tm6, m6⟩, ⟨tm7, m7⟩, ⟨tm8, m8⟩⟩, o, ks, rfl, hks, TT⟩ hI F N
      walk_at "my walk"
      rename Fr _ _ _ _ => F1
      rename News _ _ _ (_ :: _) => N1
      rename (_ < _ ∧ _ < _ ∧ _ < _ ∧ AllLt _ _) => l2
      rename_i D2 _
      refine tab_set (pre := [(D2, _), (I, _)]) (post := (da, oda) :: ks) F1 N1 TT (by simp only [List.forall_mem_cons]; exact ⟨lt_ne l2.2.1, Ne.symm (hI _ (.head _)), fun _ h => nomatch h⟩) (by simp only [List.forall_mem_cons]; exact ⟨lt_ne hdd, fun p hp => (hks p hp).1⟩)
        (fun p hp => List.mem_append_right _ (.tail _ hp)) (.head _) (keyO_pair _ _ _ _ _) (by omega) (Nat.le_of_ble_eq_true rfl) fun h2 o2 tk2 F2 N2 T2 => ?_
      clear F1 N1
      simp only [List.cons_append, List.nil_append] at N2
      dsimp only
      walk_at "my walk"
      rename Fr _ _ _ _ => F1
      rename News _ _ _ (_ :: _) => N1
      rename (_ < _ ∧ _ < _ ∧ _ < _ ∧ _ < _ ∧ AllLt _ _) => l3
      rename_i D3 _
      refine tab_set (pre := [(D3, _), (D2, _), (I, _)]) (post := (da, oda) :: ks) F1 N1 T2 (by simp only [List.forall_mem_cons]; exact ⟨lt_ne l3.2.2.1, lt_ne l2.2.1, Ne.symm (hI _ (.head _)), fun _ h => nomatch h⟩) (by simp only [List.forall_mem_cons]; exact ⟨lt_ne hdd, fun p hp => (hks p hp).1⟩)
        (fun p hp => by rcases List.mem_cons.mp hp with rfl | hp; exact .tail _ (.head _); exact List.mem_append_right _ (.tail _ hp)) (.head _) (keyO_pair _ _ _ _ _) (by omega) (Nat.le_of_ble_eq_true rfl) fun h3 o3 tk3 F3 N3 T3 => ?_
      clear F1 N1
      refine wpAny_execs_nil ?_
      refine ⟨h3, _, _, (d, o3) :: (da, oda) :: (D3, _) :: (D2, _) :: ks, rfl, F3, news_sub N3 ?_, ?_, ⟨m1, m2, m3, m4, m5, ⟨_, m6⟩, ⟨_, m7⟩, ⟨_, m8⟩⟩, o3, _, rfl, ?_, T3.mono (fun p hp => hp) (by omega) ?_⟩
      · intro p hp; simp only [List.mem_cons, List.mem_append, List.not_mem_nil, or_false] at hp ⊢; rcases hp with rfl | rfl | rfl | rfl | rfl | hp <;> simp [*]
      · simp only [List.forall_mem_cons]; exact ⟨hI _ (.head _), hI _ (.tail _ (.head _)), lt_ne l3.2.1, lt_ne l2.1, fun p hp => hI p (.tail _ (.tail _ hp))⟩
      · simp only [List.forall_mem_cons]; exact ⟨⟨lt_ne l3.2.2.1, lt_ne l3.2.2.2.1⟩, ⟨lt_ne l2.2.1, lt_ne l2.2.2.1⟩, hks⟩
      · rintro x y n (q | ⟨q1, q2, q3⟩)
        · by_cases e : x = 0 ∧ y = i
          · rw [if_pos e]; unfold S1 at q; omega
          · rw [if_neg e]
            by_cases e' : x = -1 ∧ y = i
            · rw [if_pos e']; unfold S1 at q; omega
            · rw [if_neg e']; exact .inl q
        · by_cases e : x = 0 ∧ y = i
          · rw [if_pos e]; omega
          · rw [if_neg e]
            by_cases e' : x = -1 ∧ y = i
            · rw [if_pos e']; omega
            · rw [if_neg e']; exact .inr ⟨q1, by omega, q3⟩
    · clear TT hks
      clear N
      clear F ks o m1 m2 m3 m4 m5 m6 m7 m8
      clear m
      rintro m news h₁ tk ⟨⟨m1, m2, m3, m4, m5, ⟨tm6, m6⟩, ⟨tm7, m7⟩, ⟨tm8, m8⟩⟩, o, ks, rfl, hks, TT⟩ F N
      dsimp only
      walk_at "my walk"
      refine wpAny_For ?_
      walk_at "my walk"
      refine callWith_TK (X.keeps F.keep) (by rfl) ?_
      walk_at "my walk"
      refine for_enum rfl (fun i m news => DLm m se d da a b ta tb ∧ ∃ o oa ks, news = (d, o) :: (da, oa) :: ks ∧ (∀ p ∈ ks, p.1 ≠ d ∧ p.1 ≠ da) ∧ TabO PySem.Challenge.rw_ah5040_01.prog w o ks (10000 + 2000 * i) (S3 (eqS a b) a.length b.length i) ∧ DaO PySem.Challenge.rw_ah5040_01.prog w oa i (fun c => lastIn (fun k => decide (a.cps.getD k 0 = c)) i)) F N
        ⟨⟨m1, m2, m3, m4, m5, ⟨_, m6⟩, ⟨_, m7⟩, ⟨_, m8⟩⟩, o, oda, ks, rfl, hks, TT.mono (fun _ h => h) (by omega) (fun x y n q => by have := s3_zero q; rwa [show ((b.length : Int) + 1).toNat = b.length + 1 by omega]), daO_new hoda⟩ ?_ ?_
      · clear TT hks
        clear N
        clear F ks o m1 m2 m3 m4 m5 m6 m7 m8
        clear m
        rintro e it aT oe oi i m news h₁ tk tk' u hi ⟨⟨m1, m2, m3, m4, m5, ⟨tm6, m6⟩, ⟨tm7, m7⟩, ⟨tm8, m8⟩⟩, o, oa, ks, rfl, hks, TT, DD⟩ hI hei hae hai hoe hoi F N
        walk_at "my walk"
        refine wpAny_For ?_
        walk_at "my walk"
        rename Fr _ _ _ _ => F1
        rename News _ _ _ (_ :: _) => N1
        refine callWith_TK (X.keeps F1.keep) (by rfl) ?_
        walk_at "my walk"
        refine for_enum rfl (fun j m news => (DLm m se d da a b ta tb ∧ (∃ t, m (Str.ofString "i") = some (.int ((i : Int) + 1) t)) ∧ (∃ u, m (Str.ofString "cs1") = some (.str ⟨#[a.cps.getD i 0]⟩ u))) ∧ (∃ t, m (Str.ofString "db") = some (.int (lastIn (fun k => eqS a b i k) j) t)) ∧
            ∃ o ks, news = (d, o) :: (da, oa) :: (e, oe) :: (it, oi) :: ks ∧ (∀ p ∈ ks, (p.1 ≠ d ∧ p.1 ≠ da) ∧ p.1 ≠ e ∧ p.1 ≠ it) ∧ TabO PySem.Challenge.rw_ah5040_01.prog w o ks (10000 + 2000 * i + j) (S4 (eqS a b) a.length b.length i j)) F1
          (news_sub (news' := (d, o) :: (da, oa) :: (e, oe) :: (it, oi) :: ks) N1 (by intro p hp; simp only [List.mem_cons] at hp ⊢; rcases hp with rfl | rfl | rfl | rfl | hp <;> simp [*]))
          ⟨⟨⟨m1, m2, m3, m4, m5, ⟨_, m6⟩, ⟨_, m7⟩, ⟨_, m8⟩⟩, ⟨_, rfl⟩, ⟨_, rfl⟩⟩, ⟨_, rfl⟩, o, ks, rfl, fun p hp => ⟨hks p hp, (hI p (.tail _ (.tail _ hp))).1, (hI p (.tail _ (.tail _ hp))).2.1⟩, TT.mono (fun _ h => h) (by omega) fun x y n q => s4_zero hi q⟩ ?_ ?_
        · clear TT hks
          walk_at "my drop"
          have hed : d ≠ e ∧ d ≠ it ∧ d ≠ aT := hI _ (.head _)
          have heda : da ≠ e ∧ da ≠ it ∧ da ≠ aT := hI _ (.tail _ (.head _))
          clear hI
          clear ks o m1 m2 m3 m4 m5 m6 m7 m8
          clear m
          rintro e2 it2 aT2 oe2 oi2 j m news h₁ tk tk' u hj ⟨⟨⟨m1, m2, m3, m4, m5, ⟨tm6, m6⟩, ⟨tm7, m7⟩, ⟨tm8, m8⟩⟩, ⟨ti, m9⟩, ⟨tc, m10⟩⟩, ⟨tdb, m11⟩, o, ks, rfl, hks, TT⟩ hI hei2 hae2 hai2 hoe2 hoi2 F N
          walk_at "my walk"
          rename Fr _ _ _ _ => F1
          rename News _ _ _ (_ :: _) => N1
          refine da_meth N1 (by simp) DD ?_
          dsimp only
          walk_at "my walk"
          refine da_get (c := b.cps.getD j 0) N1 (by simp) DD (by assumption) fun t1' tk1' => ?_
          dsimp only
          walk_at "my walk"
          rename Fr _ _ _ _ => F1
          rename News _ _ _ (_ :: _) => N1
          refine wpAny_le (identS (X.keeps F1.keep) (T.keeps F1.keep) fun h3 tk3 st3 => ?_) (Nat.le_of_ble_eq_true rfl) (Nat.le_of_ble_eq_true rfl)
          have F2 := fr_stays F1 st3
          have N2 := news_stays N1 st3
          clear F1 N1 st3
          dsimp only
          have hi' : i < a.length := hi
          have hj' : j < b.length := hj
          have hT : decide ((⟨#[a.cps.getD i 0]⟩ : Str) = ⟨#[b.cps.getD j 0]⟩) = eqS a b i j := by simp [eqS]
          rw [hT]
          clear hT
          rcases hq : eqS a b i j
          all_goals
            (walk_at "my walk"
             rename Fr _ _ _ _ => F3
             rename News _ _ _ (_ :: _) => N3
             refine tab_get N3 TT (by simp) (fun p hp => by simp [hp]) (.head _) (keyO_pair _ _ _ _ _) (s4_up (i' := i) (j' := j) (by omega) (by omega) (Nat.le_refl _) (by omega)) (Nat.le_of_ble_eq_true rfl) fun _ _ => ?_
             dsimp only
             walk_at "my walk"
             rename News _ _ _ (_ :: _) => N4
             refine tab_get N4 TT (by simp) (fun p hp => by simp [hp]) (.head _) (keyO_pair _ _ _ _ _) (s4_left (by omega) (by omega)) (Nat.le_of_ble_eq_true rfl) fun _ _ => ?_
             dsimp only
             walk_at "my walk"
             rename News _ _ _ (_ :: _) => N5
             refine tab_get N5 TT (by simp) (fun p hp => by simp [hp]) (.head _) (keyO_pair _ _ _ _ _) (s4_up (i' := i) (j' := j + 1) (by omega) (by omega) (Nat.le_refl _) (by omega)) (Nat.le_of_ble_eq_true rfl) fun _ _ => ?_
             dsimp only
             walk_at "my walk"
             rename News _ _ _ (_ :: _) => N6
             refine tab_get N6 TT (by simp) (fun p hp => by simp [hp]) (.head _) (keyO_pair _ _ _ _ _) (s4_far hi' hj' (i' := lastIn (fun k => eqS a b k j) i) (j' := lastIn (fun k => eqS a b i k) j) rfl rfl (lastIn_le _ _) (lastIn_le _ _)) (Nat.le_of_ble_eq_true rfl) fun _ _ => ?_
             dsimp only
             walk_at "my walk"
             rename Fr _ _ _ _ => F7
             rename News _ _ _ (_ :: _) => N7
             refine wpAny_le (min4x ?_) (Nat.le_of_ble_eq_true rfl) (Nat.le_of_ble_eq_true rfl)
             rintro v h8 tk8 st8 ⟨t8, rfl⟩
             have F8 := fr_stays F7 st8
             have N8 := news_stays N7 st8
             clear F7 N7
             dsimp only
             walk_at "my walk"
             rename Fr _ _ _ _ => F9
             rename News _ _ _ (_ :: _) => N9
             have c1 := TT.cls
             have c2 := DD.cls
             refine tab_set (pre := [_, _, _, _, _, (e2, _), (it2, _), (aT2, _)]) (post := [(da, oa), (e, oe), (it, oi)] ++ ks) F9 N9 TT
               (by
                 simp only [List.forall_mem_cons]
                 refine ⟨ne_cls N9 (.head _) (by simp) c1, ne_cls N9 (.tail _ (.head _)) (by simp) c1, ne_cls N9 (.tail _ (.tail _ (.head _))) (by simp) c1, ne_cls N9 (.tail _ (.tail _ (.tail _ (.head _)))) (by simp) c1, ne_cls N9 (.tail _ (.tail _ (.tail _ (.tail _ (.head _))))) (by simp) c1, ?_, ?_, ?_, fun _ h => nomatch h⟩
                 · exact Ne.symm (hI (d, o) (.head _)).1
                 · exact Ne.symm (hI (d, o) (.head _)).2.1
                 · exact Ne.symm (hI (d, o) (.head _)).2.2)
               (by
                 simp only [List.cons_append, List.nil_append, List.forall_mem_cons]
                 exact ⟨lt_ne hdd, Ne.symm hed.1, Ne.symm hed.2.1, fun p hp => (hks p hp).1.1⟩)
               (fun p hp => by simp [hp]) (.head _) (keyO_pair _ _ _ _ _) (by omega) (Nat.le_of_ble_eq_true rfl) fun hX oX tkX FX NX TX => ?_
             have kd := ne_cls N9 (.head _) (show (d, o) ∈ _ by simp) c1
             have kda := ne_cls N9 (.head _) (show (da, oa) ∈ _ by simp) c2
             have ke := ne_cls N9 (.head _) (show (e, oe) ∈ _ by simp) hoe
             have kit := ne_cls N9 (.head _) (show (it, oi) ∈ _ by simp) hoi
             have ke2 := ne_cls N9 (.head _) (show (e2, oe2) ∈ _ by simp) hoe2
             have kit2 := ne_cls N9 (.head _) (show (it2, oi2) ∈ _ by simp) hoi2
             have hl' : ((lastIn (fun k => eqS a b i k) (j + 1) : Nat) : Int) = if eqS a b i j = true then (j : Int) + 1 else (lastIn (fun k => eqS a b i k) j : Nat) := by
               show ((if eqS a b i j = true then j + 1 else lastIn (fun k => eqS a b i k) j : Nat) : Int) = _
               split <;> omega
             rw [hq] at hl'
             refine wpAny_execs_nil ?_
             refine ⟨hX, _, _, (d, oX) :: (da, oa) :: (e, oe) :: (it, oi) :: (_, _) :: ks, rfl, FX, news_sub NX ?_, ?_, ⟨⟨m1, m2, m3, m4, m5, ⟨_, m6⟩, ⟨_, m7⟩, ⟨_, m8⟩⟩, ⟨_, m9⟩, ⟨_, m10⟩⟩, ?_, oX, _, rfl, ?_, TX.mono (fun _ h => h) (by omega) ?_⟩
             · intro p hp
               simp only [List.mem_cons, List.mem_append, List.not_mem_nil, or_false] at hp ⊢
               rcases hp with rfl | rfl | rfl | rfl | rfl | rfl | rfl | hp <;> simp [*]
             · simp only [List.forall_mem_cons]
               have x1 := hI _ (.head _)
               have x2 := hI _ (.tail _ (.head _))
               have x3 := hI _ (.tail _ (.tail _ (.head _)))
               have x4 := hI _ (.tail _ (.tail _ (.tail _ (.head _))))
               exact ⟨⟨x1.1, x1.2.1⟩, ⟨x2.1, x2.2.1⟩, ⟨x3.1, x3.2.1⟩, ⟨x4.1, x4.2.1⟩, ⟨ke2, kit2⟩, fun p hp => let x := hI p (.tail _ (.tail _ (.tail _ (.tail _ hp)))); ⟨x.1, x.2.1⟩⟩
             · first
                 | exact ⟨tdb, by rw [hl', if_neg (by decide)]; exact m11⟩
                 | exact ⟨tk', by rw [hl', if_pos rfl]; rfl⟩
             · simp only [List.forall_mem_cons]
               exact ⟨⟨⟨kd, kda⟩, ke, kit⟩, hks⟩
             · intro x y n q
               by_cases c : x = (i : Int) + 1 ∧ y = (j : Int) + 1
               · rw [if_pos c]
                 rcases s4_succ q with ⟨_, _, hn⟩ | hn
                 · have l1 := lastIn_le (fun k => eqS a b k j) i
                   have l2 := lastIn_le (fun k => eqS a b i k) j
                   rw [hn, dlF_succ, hq]
                   generalize (if lastIn (fun k => eqS a b k j) i = 0 ∨ lastIn (fun k => eqS a b i k) j = 0 then a.length + b.length else dlF (eqS a b) (a.length + b.length) (lastIn (fun k => eqS a b k j) i - 1) (lastIn (fun k => eqS a b i k) j - 1)) = FF
                   simp only [Bool.false_eq_true, if_false, if_true]
                   show _ = min (min _ _) (min _ ((FF : Int) + ((i : Int) + 1 - (lastIn (fun k => eqS a b k j) i : Nat)) - 1 + _))
                   omega
                 · rw [c.1, c.2] at hn
                   have := s4_old hi' hn
                   unfold S2 S1 at this
                   omega
               · rw [if_neg c]
                 rcases s4_succ q with ⟨h1, h2, _⟩ | hn
                 · exact absurd ⟨h1, h2⟩ c
                 · exact hn)
        · clear TT hks
          walk_at "my drop"
          have hed : d ≠ e ∧ d ≠ it ∧ d ≠ aT := hI _ (.head _)
          have heda : da ≠ e ∧ da ≠ it ∧ da ≠ aT := hI _ (.tail _ (.head _))
          clear hI
          clear ks o m1 m2 m3 m4 m5 m6 m7 m8
          clear m
          rintro m news h₁ tk ⟨⟨⟨m1, m2, m3, m4, m5, ⟨tm6, m6⟩, ⟨tm7, m7⟩, ⟨tm8, m8⟩⟩, ⟨ti, m9⟩, ⟨tc, m10⟩⟩, ⟨tdb, m11⟩, o, ks, rfl, hks, TT⟩ F N
          dsimp only
          have hbs : b.cps.size = b.length := rfl
          have hi' : i < a.length := hi
          walk_at "my walk"
          rename Fr _ _ _ _ => F1
          rename News _ _ _ (_ :: _) => N1
          refine da_set (n := i + 1) (pre := [(d, o)]) (post := (e, oe) :: (it, oi) :: ks) F1 N1 (by simp only [List.forall_mem_cons]; exact ⟨Ne.symm (lt_ne hdd), fun _ h => nomatch h⟩) (by simp only [List.forall_mem_cons]; exact ⟨Ne.symm heda.1, Ne.symm heda.2.1, fun p hp => (hks p hp).1.2⟩) DD (by omega) (by omega) (by omega) fun h2 o2 tk2 F2 N2 D2 => ?_
          refine wpAny_execs_nil ?_
          have ef : (fun c => lastIn (fun k => decide (a.cps.getD k 0 = c)) (i + 1)) = fun x => if x = a.cps.getD i 0 then i + 1 else lastIn (fun k => decide (a.cps.getD k 0 = x)) i := by
            funext c
            simp only [lastIn]
            by_cases q : c = a.cps.getD i 0
            · simp [q]
            · rw [if_neg q, if_neg (by simpa using Ne.symm q)]
          rw [← ef] at D2
          refine ⟨h2, _, _, (d, o) :: (da, o2) :: ks, rfl, F2, news_sub N2 ?_, ?_, ⟨m1, m2, m3, m4, m5, ⟨_, m6⟩, ⟨_, m7⟩, ⟨_, m8⟩⟩, o, o2, ks, rfl, fun p hp => (hks p hp).1, TT.mono (fun _ h => h) (by omega) (fun x y n q => by rw [hbs]; exact s3_succ q), D2⟩
          · intro p hp
            simp only [List.mem_cons, List.mem_append, List.not_mem_nil, or_false] at hp ⊢
            rcases hp with rfl | rfl | rfl | rfl | hp <;> simp [*]
          · simp only [List.forall_mem_cons]
            exact ⟨⟨hed.1, hed.2.1⟩, ⟨heda.1, heda.2.1⟩, fun p hp => (hks p hp).2⟩
      · clear TT hks
        clear N
        clear F ks o m1 m2 m3 m4 m5 m6 m7 m8
        clear m
        rintro m news h₁ tk ⟨⟨m1, m2, m3, m4, m5, ⟨tm6, m6⟩, ⟨tm7, m7⟩, ⟨tm8, m8⟩⟩, o, oa, ks, rfl, hks, TT, DD⟩ F N
        dsimp only
        walk_at "my walk"
        rename Fr _ _ _ _ => F1
        rename News _ _ _ (_ :: _) => N1
        refine tab_get N1 TT (by simp) (fun p hp => by simp [hp]) (.head _) (keyO_pair _ _ _ _ _) (s3_at (i' := a.length) (j' := b.length) rfl rfl (Nat.le_refl _) (Nat.le_refl _)) (Nat.le_of_ble_eq_true rfl) fun t9 tk9 => ?_
        dsimp only
        walk_at "my walk"
        exact h _ _ _ F1.keep
end
end Mine
end
-- M3
section
open PySem PySem.W PySem.W.X PyProof.Rows PySem.Calls
set_option maxRecDepth 100000
set_option maxHeartbeats 8000000
namespace Mine
theorem fillM3 : PySem.Challenge.rw_ah5040_01 = PySem.Challenge.rw_ah5040_01 ∧ Mine.hd.heap_39 = Mine.hd.heap_39 := by
  k_fill
  exact ⟨rfl, rfl⟩
local macro_rules | `(tactic| walk_at "my S") => `(tactic| ((try refine wpAny_call ?_); refine' enterS ?k3 ?k5 ?k6 ?k7 ?k8 ?k9 ?kB ?_ ?c2 ?c3 ?c4 ?c5; (case k3 => k_asm); (case k5 => k_asm); (case k6 => k_is); (case k7 => k_is); (case k8 => k_room); (case k9 => first | exact BindsTo.of_eq rfl | exact binds_K (by k_in) rfl (by k_is) rfl rfl rfl); (case kB => exact locs rfl); (case c5 => decide); (case c2 => exact rfl); (case c3 => exact rfl); (case c4 => exact rfl)))
local macro_rules | `(tactic| walk_at "my V") => `(tactic| (refine wpAny_call ?_; refine' enterV ?k3 ?k5 ?k6 ?k7 ?k8 ?kP ?kG ?kB ?_ ?c2 ?c3 ?c4 ?c5; (case k3 => k_asm); (case k5 => k_asm); (case k6 => k_is); (case k7 => k_is); (case k8 => k_room); (case kP => exact rfl); (case kG => exact fun _ => rfl); (case kB => exact fun _ => locs rfl); (case c5 => decide); (case c2 => exact rfl); (case c3 => exact rfl); (case c4 => exact rfl)))
local macro_rules | `(tactic| k_inst) => `(tactic| (refine' InstAt_of_get ?a ?b; (case a => exact Fr.keep (by k_asm) _ _ (by assumption)); (case b => exact Fr.keep (by k_asm) _ _ (by assumption))))
local macro_rules | `(tactic| walk_at "eval Call Attribute") => `(tactic| (k_here; (with_reducible show wpAny _ _ (eval (Expr.Call (Expr.Attribute _ _ _) [Expr.Starred _ _] [] _) _) _ _ _); refine starMethod ?_))
local macro_rules | `(tactic| walk_at "getAttr ref") => `(tactic| (k_here; k_dflt (refine' attr_sm ?k1 ?k2 ?k4 ?k5 ?k6 ?k7 ?k9 ?k10 ?k11 ?k12 ?k13 ?k14 ?_; (case k1 => k_asm); (case k2 => k_asm); (case k4 => k_inst); (case k5 => k_is); (case k6 => k_is); (case k7 => k_is); (case k9 => k_is); (case k10 => k_is); (case k11 => decide +kernel); (case k12 => k_get); (case k13 => k_is); (case k14 => k_handed); k_whole)))
local macro_rules | `(tactic| walk_at "callWith ref") => `(tactic| (k_here; (with_reducible show wpAny _ _ (callWith _ (Value.ref _) _ (backTo _ (starEach [Expr.Starred _ _] _)) []) _ _ _); k_dflt (refine' callWith_SM ?k1 ?k2 ?k3 ?k4 ?_; (case k1 => k_asm); (case k2 => k_asm); (case k3 => k_mem); (case k4 => k_is); k_whole)))
local macro_rules | `(tactic| walk_at "callWith ref") => `(tactic| (k_here; (with_reducible show wpAny _ _ (callWith _ (Value.ref _) _ (backTo _ (starEach [Expr.Starred _ _] _)) []) _ _ _); k_dflt (refine' callWith_SI ?k1 ?k2 ?k3 ?k4 ?_; (case k1 => k_in); (case k2 => k_inst); (case k3 => rfl); (case k4 => k_is); k_whole)))
local macro_rules | `(tactic| walk_at "eval Name") => `(tactic| (k_here; k_dflt (refine' ld ?k1 ?k2 ?_; (case k1 => k_asm); (case k2 => first | exact rfl | assumption); k_whole)))
local macro_rules | `(tactic| walk_at "my drop") => `(tactic| (repeat (first | ((rename News _ _ _ _ => Nx); clear Nx) | ((rename Fr _ _ _ _ => Fx); clear Fx))))
local macro_rules | `(tactic| walk_at "my stops") => `(tactic| ((fail_if_success (with_reducible show wpAny _ _ (call (Value.builtin "all") _) _ _ _)); (fail_if_success (with_reducible show wpAny _ _ (call (Value.builtin "max") _) _ _ _)); (fail_if_success (with_reducible show wpAny _ _ (call (Value.ref _) _) _ _ _)); (fail_if_success (with_reducible show wpAny _ _ (call (Value.type "map") _) _ _ _)); (fail_if_success (with_reducible show wpAny _ _ (exec (PySem.Stmt.For _ _ _ _ _) _) _ _ _))))
local macro_rules | `(tactic| walk_at "my walk") => `(tactic| (repeat' (walk_at "my stops"; first | (k_unfold; (try dsimp only)) | walk1 | (dsimp only; first | walk1 | (k_unfold; try dsimp only)) | (leave1; walk_say "STEP leave1"; try dsimp only))))
section
variable {w : World} {s : Shared} {p : Program} {loose : List Str} {mg mb : Str → Option Value} {base : Heap} {outer : List Env} {gd : Option (List Code)} {A₀ : Around} {Q E : Value → Shared → Prop}

def dlQ (a b : Str) : Int := if a = b then 0 else if 0 < a.length ∧ 0 < b.length then (dlF (eqS a b) (a.length + b.length) a.length b.length : Nat) else (max a.length b.length : Nat)
theorem callD1 {se dse : Addr} {q1 q2 q3 q4 : Int} {t1 t2 t3 t4 tq ta tb : Tok} {vx : Value} {ep : Nat} {a b : Str} {R : Result → Shared → Prop}
    (X : (Mine.hd.heap_39 w.params).In s.heap) (T : TopRead p loose mg mb s.heap)
    (h0 : s.heap.get? se = some ⟨.ref 285, some dse, .plain, #[]⟩) (h9 : s.heap.get? dse = some (dictOf [⟨q1, .str (Str.ofString "qval") t1, .int 1 tq⟩, ⟨q2, .str (Str.ofString "test_func") t2, .ref 157⟩, ⟨q3, .str (Str.ofString "external") t3, vx⟩, ⟨q4, .str (Str.ofString "restricted") t4, .bool false⟩] ep))
    (ha : a.length < 1000) (hb : b.length < 1000)
    (h : ∀ t h' tk', s.heap.StaysIn h' → R (.ok (.ret (.int (dlQ a b) t))) { s with heap := h', toks := tk' }) :
    codeAny (model PySem.Challenge.rw_ah5040_01.prog w) (QD 30 outer gd) (.call (.ref 282) ⟨[.ref se, .str a ta, .str b tb], []⟩) R s := by
  walk_at "my S"
  intro L' h' F' N'
  (try dsimp only); (show wpAny _ _ _ _ _ _); k_fold
  walk_at "my walk"
  rename Fr _ _ _ _ => F1
  refine wpAny_le (getSeqD (X.keeps F1.keep) (T.keeps F1.keep) (F1.keep _ _ h0) (F1.keep _ _ h9) fun L c h1 tk1 st nl hl => ?_) (Nat.le_of_ble_eq_true rfl) (Nat.le_of_ble_eq_true rfl)
  obtain ⟨F2, N2⟩ := fr_news_set F1 News.nil st hl nl
  clear F1
  dsimp only
  walk_at "my walk"
  rename Fr _ _ _ _ => F3
  refine wpAny_le (quickD (X.keeps F3.keep) (T.keeps F3.keep) (F3.keep _ _ h0) (F3.keep _ _ h9) ha hb fun v h3 tk3 st3 hv => ?_) (Nat.le_of_ble_eq_true rfl) (Nat.le_of_ble_eq_true rfl)
  have F4 := fr_stays F3 st3
  have N4 : News s.heap L' h3 [] := News.nil
  dsimp only
  by_cases hab : a = b
  · rw [if_pos hab] at hv
    obtain ⟨t, rfl⟩ := hv
    walk_at "my walk"
    have e : dlQ a b = 0 := by rw [dlQ, if_pos hab]
    rw [← e]
    exact h _ _ _ (Fr.keep (by assumption))
  · rw [if_neg hab] at hv
    by_cases hz : 0 < a.length ∧ 0 < b.length
    · rw [if_pos hz] at hv
      subst hv
      walk_at "my walk"
      rename Fr _ _ _ _ => F5
      refine wpAny_le (dlrun (X.keeps F5.keep) (T.keeps F5.keep) (F5.keep _ _ h0) (F5.keep _ _ h9) ha hb fun t h6 tk6 st6 => ?_) (Nat.le_of_ble_eq_true rfl) (Nat.le_of_ble_eq_true rfl)
      dsimp only
      walk_at "my walk"
      have e : dlQ a b = (dlF (eqS a b) (a.length + b.length) a.length b.length : Nat) := by rw [dlQ, if_neg hab, if_pos hz]
      rw [← e]
      exact h _ _ _ fun b o e => st6 _ _ (F5.keep _ _ e)
    · rw [if_neg hz] at hv
      obtain ⟨t, rfl⟩ := hv
      walk_at "my walk"
      have e : dlQ a b = (max a.length b.length : Nat) := by rw [dlQ, if_neg hab, if_neg hz]
      rw [← e]
      exact h _ _ _ (Fr.keep (by assumption))
theorem distD1 {se dse : Addr} {q1 q2 q3 q4 : Int} {t1 t2 t3 t4 tq ta tb : Tok} {vx : Value} {ep : Nat} {a b : Str}
    (X : (Mine.hd.heap_39 w.params).In s.heap) (T : TopRead p loose mg mb s.heap)
    (h0 : s.heap.get? se = some ⟨.ref 285, some dse, .plain, #[]⟩) (h9 : s.heap.get? dse = some (dictOf [⟨q1, .str (Str.ofString "qval") t1, .int 1 tq⟩, ⟨q2, .str (Str.ofString "test_func") t2, .ref 157⟩, ⟨q3, .str (Str.ofString "external") t3, vx⟩, ⟨q4, .str (Str.ofString "restricted") t4, .bool false⟩] ep))
    (ha : a.length < 1000) (hb : b.length < 1000)
    (h : ∀ t h' tk', s.heap.StaysIn h' → Q (.int (dlQ a b) t) { s with heap := h', toks := tk' }) :
    wpAny (model PySem.Challenge.rw_ah5040_01.prog w) (QD 20 outer gd) (call (.ref 122) [.ref se, .str a ta, .str b tb]) Q E s := by
  walk_at "my V"
  intro D' L' h' F' N'
  (try dsimp only); (show wpAny _ _ _ _ _ _); k_fold
  replace N' : News s.heap L' h' [(D', { cls := .type "tuple", data := .seq #[.str a ta, .str b tb] })] := N'
  walk_at "my walk"
  rename Fr _ _ _ _ => F1
  refine wpAny_call (kco_code (X.keeps F1.keep) (by k_inst) rfl (by k_is) (by k_is) (by k_is) ?_)
  refine codeAny_le (callD1 (X.keeps F1.keep) (T.keeps F1.keep) (F1.keep _ _ h0) (F1.keep _ _ h9) ha hb fun t h2 tk2 st => ?_) (Nat.le_of_ble_eq_true rfl) (Nat.le_of_ble_eq_true rfl)
  exact h _ _ _ fun b o e => st _ _ (F1.keep _ _ e)
end
end Mine
end
-- F5
section
open PySem PySem.W PySem.W.X PyProof.Rows PySem.Calls
set_option maxRecDepth 100000
set_option maxHeartbeats 1000000
namespace Mine
theorem fillF5 : PySem.Challenge.rw_ah5040_01 = PySem.Challenge.rw_ah5040_01 ∧ Mine.hd.heap_39 = Mine.hd.heap_39 := by
  k_fill
  exact ⟨rfl, rfl⟩
local macro_rules | `(tactic| walk_at "my S") => `(tactic| ((try refine wpAny_call ?_); refine' enterS ?k3 ?k5 ?k6 ?k7 ?k8 ?k9 ?kB ?_ ?c2 ?c3 ?c4 ?c5; (case k3 => k_asm); (case k5 => k_asm); (case k6 => k_is); (case k7 => k_is); (case k8 => k_room); (case k9 => first | exact BindsTo.of_eq rfl | exact binds_K (by k_in) rfl (by k_is) rfl rfl rfl); (case kB => exact locs rfl); (case c5 => decide); (case c2 => exact rfl); (case c3 => exact rfl); (case c4 => exact rfl)))
local macro_rules | `(tactic| walk_at "my V") => `(tactic| (refine wpAny_call ?_; refine' enterV ?k3 ?k5 ?k6 ?k7 ?k8 ?kP ?kG ?kB ?_ ?c2 ?c3 ?c4 ?c5; (case k3 => k_asm); (case k5 => k_asm); (case k6 => k_is); (case k7 => k_is); (case k8 => k_room); (case kP => exact rfl); (case kG => exact fun _ => rfl); (case kB => exact fun _ => locs rfl); (case c5 => decide); (case c2 => exact rfl); (case c3 => exact rfl); (case c4 => exact rfl)))
local macro_rules | `(tactic| k_inst) => `(tactic| (refine' InstAt_of_get ?a ?b; (case a => exact Fr.keep (by k_asm) _ _ (by assumption)); (case b => exact Fr.keep (by k_asm) _ _ (by assumption))))
local macro_rules | `(tactic| walk_at "eval Call Attribute") => `(tactic| (k_here; (with_reducible show wpAny _ _ (eval (Expr.Call (Expr.Attribute _ _ _) [Expr.Starred _ _] [] _) _) _ _ _); refine starMethod ?_))
local macro_rules | `(tactic| walk_at "getAttr ref") => `(tactic| (k_here; k_dflt (refine' attr_sm ?k1 ?k2 ?k4 ?k5 ?k6 ?k7 ?k9 ?k10 ?k11 ?k12 ?k13 ?k14 ?_; (case k1 => k_asm); (case k2 => k_asm); (case k4 => k_inst); (case k5 => k_is); (case k6 => k_is); (case k7 => k_is); (case k9 => k_is); (case k10 => k_is); (case k11 => decide +kernel); (case k12 => k_get); (case k13 => k_is); (case k14 => k_handed); k_whole)))
local macro_rules | `(tactic| walk_at "callWith ref") => `(tactic| (k_here; (with_reducible show wpAny _ _ (callWith _ (Value.ref _) _ (backTo _ (starEach [Expr.Starred _ _] _)) []) _ _ _); k_dflt (refine' callWith_SM ?k1 ?k2 ?k3 ?k4 ?_; (case k1 => k_asm); (case k2 => k_asm); (case k3 => k_mem); (case k4 => k_is); k_whole)))
local macro_rules | `(tactic| walk_at "callWith ref") => `(tactic| (k_here; (with_reducible show wpAny _ _ (callWith _ (Value.ref _) _ (backTo _ (starEach [Expr.Starred _ _] _)) []) _ _ _); k_dflt (refine' callWith_SI ?k1 ?k2 ?k3 ?k4 ?_; (case k1 => k_in); (case k2 => k_inst); (case k3 => rfl); (case k4 => k_is); k_whole)))
local macro_rules | `(tactic| walk_at "my drop") => `(tactic| (repeat (first | ((rename News _ _ _ _ => Nx); clear Nx) | ((rename Fr _ _ _ _ => Fx); clear Fx))))
local macro_rules | `(tactic| walk_at "my stops") => `(tactic| ((fail_if_success (with_reducible show wpAny _ _ (call (Value.builtin "all") _) _ _ _)); (fail_if_success (with_reducible show wpAny _ _ (call (Value.builtin "max") _) _ _ _)); (fail_if_success (with_reducible show wpAny _ _ (call (Value.ref _) _) _ _ _)); (fail_if_success (with_reducible show wpAny _ _ (call (Value.type "map") _) _ _ _)); (fail_if_success (with_reducible show wpAny _ _ (exec (PySem.Stmt.For _ _ _ _ _) _) _ _ _)); (fail_if_success (with_reducible show wpAny _ _ (call (Value.type "zip") _) _ _ _)); (fail_if_success (with_reducible show wpAny _ _ (call (Value.type "set") _) _ _ _)); (fail_if_success (with_reducible show wpAny _ _ (eval (PySem.Expr.ListComp _ _ _ _) _) _ _ _)); (fail_if_success (with_reducible show Exists _))))
local macro_rules | `(tactic| walk_at "my walk") => `(tactic| (repeat' (walk_at "my stops"; first | (k_unfold; (try dsimp only)) | walk1 | (dsimp only; first | walk1 | (k_unfold; try dsimp only)) | (leave1; walk_say "STEP leave1"; try dsimp only))))
section
variable {w : World} {s : Shared} {p : Program} {loose : List Str} {mg mb : Str → Option Value} {base : Heap} {outer : List Env} {gd : Option (List Code)} {A₀ : Around} {Q E : Value → Shared → Prop}

theorem seqV_pieces {prog : Program} {h : Heap} {S : Addr} {cs : List Nat} {q : Nat} (hq : 0 < q) (hc : cs.length ≤ 900) (x : PiecesH h S cs q) :
    SeqV prog w h (.ref S) (P.gr q cs).length (fun i v => ∃ T, v = .ref T ∧ IsTupleKey (PySem.strKind prog w) h (((cs.drop i).take q).map lt1) T) where
  len := fun A s E Q hk hQ => by
    obtain ⟨acc, c, l, z, _⟩ := x
    rw [P.gr_len hq, ← z] at hQ
    exact call_len_list (items := acc) ⟨_, hk _ _ l, rfl, _, rfl⟩ (by omega) (hQ _ _)
  item := fun A s E Q value slice k t hk h0 h1 hs hQ => by
    obtain ⟨acc, c, l, z, r⟩ := x
    rw [P.gr_len hq] at h1
    have hl : s.heap.IsList S acc := ⟨_, hk _ _ l, rfl, _, rfl⟩
    have hkn : k.toNat < acc.size := by omega
    have hv : acc[k.toNat]? = some acc[k.toNat] := by simp [hkn]
    obtain ⟨T, xs, e1, e2, e3, e4⟩ := r _ _ hv
    refine tail_any hl.typeIs slot_list_getitem.lookup (wpAny_getItem_list hl h0 (by omega) (x := .ref T) (by rw [hv, e1]) (hQ _ s.toks ⟨T, rfl, _, xs, 0, e2, rfl, rfl, ?_⟩)) hs
    have key : ∀ (ks : List Nat) (ys : List Value), ys.length = ks.length → (∀ (j : Nat) y, ys[j]? = some y → ∃ c u, ks[j]? = some c ∧ y = .str ⟨#[c]⟩ u) → ItemsAre (PySem.strKind prog w) (ks.map lt1) ys := by
      intro ks
      induction ks with
      | nil => intro ys hl _; obtain rfl := List.length_eq_zero_iff.mp hl; exact .nil
      | cons c ks ih =>
        intro ys hl hy
        cases ys with
        | nil => simp at hl
        | cons y ys =>
          obtain ⟨c', u, h1, rfl⟩ := hy 0 y rfl
          cases h1
          exact .cons (is_str1 _ _) (ih ys (by simpa using hl) fun j y hj => hy (j + 1) y (by simpa using hj))
    refine key _ _ (by rw [Array.length_toList, e3, List.length_take, List.length_drop]; omega) fun j y hy => ?_
    rw [Array.getElem?_toList] at hy
    obtain ⟨c', u, h1, h2⟩ := e4 j y hy
    have hj : j < q := by have := (Array.getElem?_eq_some_iff.mp hy).1; omega
    exact ⟨c', u, by rw [List.getElem?_take, if_pos hj, List.getElem?_drop]; exact h1, h2⟩
def eqG (q : Nat) (cs1 cs2 : List Nat) (i j : Nat) : Bool := decide (((cs1.drop i).take q).map lt1 = ((cs2.drop j).take q).map lt1)
def levG (q : Nat) (cs1 cs2 : List Nat) : Int := if P.gr q cs1 = P.gr q cs2 then 0 else if 0 < (P.gr q cs1).length ∧ 0 < (P.gr q cs2).length then levD (eqG q cs1 cs2) (P.gr q cs1).length (P.gr q cs2).length else (max (P.gr q cs1).length (P.gr q cs2).length : Nat)
theorem callLP {base : Heap} {se dse : Addr} {v1 v2 : Value} {q1 q2 q3 : Int} {t1 t2 t3 tq : Tok} {vx : Value} {ep q : Nat} {cs1 cs2 : List Nat} {R : Result → Shared → Prop} (hq : q = 2 ∨ q = 3 ∨ q = 4) (ha1 : Asc cs1) (ha2 : Asc cs2) (hc1 : cs1.length ≤ 900) (hc2 : cs2.length ≤ 900)
    (X : (Mine.hd.heap_39 w.params).In base) (T : TopRead p loose mg mb base) (G : Grd base outer s.heap) (hv1 : Letters s.heap v1 cs1) (hv2 : Letters s.heap v2 cs2)
    (h0 : s.heap.get? se = some ⟨.ref 244, some dse, .plain, #[]⟩) (h9 : s.heap.get? dse = some (dictOf [⟨q1, .str (Str.ofString "qval") t1, .int (q : Nat) tq⟩, ⟨q2, .str (Str.ofString "test_func") t2, .ref 157⟩, ⟨q3, .str (Str.ofString "external") t3, vx⟩] ep)) (hds : dse ∉ outer.filterMap (·.frame))
    (h : ∀ t h' tk', Moved outer s.heap h' → R (.ok (.ret (.int (levG q cs1 cs2) t))) { s with heap := h', toks := tk' }) :
    codeAny (model PySem.Challenge.rw_ah5040_01.prog w) (QD 30 outer gd) (.call (.ref 241) ⟨[.ref se, v1, v2], []⟩) R s := by
  have hq0 : 0 < q := by omega
  have X0 := X.keeps G.stays
  have T0 := T.keeps G.stays
  walk_at "my S"
  intro L' h' F' N'
  (try dsimp only); (show wpAny _ _ _ _ _ _); k_fold
  walk_at "my walk"
  rename Fr _ _ _ _ => F1
  refine wpAny_le (getSeqPL hq hc1 hc2 (X0.keeps F1.keep) (T0.keeps F1.keep) (hv1.stays F1.keep) (hv2.stays F1.keep) (F1.keep _ _ h0) (F1.keep _ _ h9) fun L c S1 S2 ps h1 tk1 st fr hp1 hp2 => ?_) (Nat.le_of_ble_eq_true rfl) (Nat.le_of_ble_eq_true rfl)
  obtain ⟨F2, N2, _⟩ := fr_fresh F1 News.nil st fr
  simp only [List.append_nil] at N2
  clear F1
  dsimp only
  walk_at "my walk"
  rename Fr _ _ _ _ => F3
  rename News _ _ _ _ => N3
  have nf : ∀ b o, s.heap.get? b = some o → b ≠ L' := fun b o e q => by rw [q, kts_self F3] at e; cases e
  refine wpAny_le (quickL hq0 ha1 ha2 hc1 hc2 X T (G.push F3 rfl (by show ScopeKind.function ≠ ScopeKind.module; decide)) (hp1.at fun p hp => (N3 p (.tail _ hp)).1) (hp2.at fun p hp => (N3 p (.tail _ hp)).1) (F3.keep _ _ h0) (F3.keep _ _ h9) (fun hm => ?_) fun v h5 tk5 M hv => ?_) (Nat.le_of_ble_eq_true rfl) (Nat.le_of_ble_eq_true rfl)
  · rcases List.mem_cons.mp hm with e | hm
    · exact nf _ _ h9 e
    · exact hds hm
  obtain ⟨g4, TT, F4, N4, B4⟩ := moved_on G F3 N3 rfl M
  have i0 : g4.get? se = some ⟨.ref 244, some dse, .plain, #[]⟩ := TT.other _ _ h0 (not_frame G h0 fun _ _ e => by cases e)
  have i9 := TT.other _ _ h9 hds
  have X4 := X.keeps B4
  have T4 := T.keeps B4
  clear F3 N3 X0 T0 h0 h9 M nf
  dsimp only
  by_cases hab : P.gr q cs1 = P.gr q cs2
  · rw [if_pos hab] at hv
    obtain ⟨t, rfl⟩ := hv
    walk_at "my walk"
    rename Fr _ _ _ _ => F5
    have e : levG q cs1 cs2 = 0 := by rw [levG, if_pos hab]
    rw [← e]
    exact h _ _ _ (moved_end TT F5.keep)
  · rw [if_neg hab] at hv
    by_cases hz : 0 < (P.gr q cs1).length ∧ 0 < (P.gr q cs2).length
    · rw [if_pos hz] at hv
      subst hv
      walk_at "my walk"
      rename Fr _ _ _ _ => F5
      rename News _ _ _ _ => N5
      have R1 := hp1.at fun p hp => (N5 p (.tail _ hp)).1
      have R2 := hp2.at fun p hp => (N5 p (.tail _ hp)).1
      have L1 : (P.gr q cs1).length < 1000 := by rw [P.gr_len hq0]; omega
      have L2 : (P.gr q cs2).length < 1000 := by rw [P.gr_len hq0]; omega
      refine wpAny_le (cycled (X4.keeps F5.keep) (T4.keeps F5.keep) (F5.keep _ _ i0) (F5.keep _ _ i9) (seqV_pieces hq0 hc1 R1) (seqV_pieces hq0 hc2 R2) L1 L2 (eqb := eqG q cs1 cs2) (fun fs i j x y s' Q' E' hi hj hx hy st hq' => ?_) fun h6 tk6 t st6 => ?_) (Nat.le_of_ble_eq_true rfl) (Nat.le_of_ble_eq_true rfl)
      · obtain ⟨T1, rfl, k1⟩ := hx
        obtain ⟨T2, rfl, k2⟩ := hy
        rw [P.gr_len hq0] at hi
        refine identT (X4.keeps fun b o e => st _ _ (F5.keep _ _ e)) (T4.keeps fun b o e => st _ _ (F5.keep _ _ e)) ?_ (IsTupleKey_stays k1 st) (IsTupleKey_stays k2 st) fun h' tk' st' => hq' _ _ st'
        intro e
        have := congrArg List.length e
        rw [List.length_map, List.length_take, List.length_drop] at this
        simp at this; omega
      · dsimp only
        walk_at "my walk"
        have e : levG q cs1 cs2 = levD (eqG q cs1 cs2) (P.gr q cs1).length (P.gr q cs2).length := by rw [levG, if_neg hab, if_pos hz]
        rw [← e]
        exact h _ _ _ (moved_end TT fun b o e => st6 _ _ (F5.keep _ _ e))
    · rw [if_neg hz] at hv
      obtain ⟨t, rfl⟩ := hv
      walk_at "my walk"
      rename Fr _ _ _ _ => F5
      have e : levG q cs1 cs2 = (max (P.gr q cs1).length (P.gr q cs2).length : Nat) := by rw [levG, if_neg hab, if_neg hz]
      rw [← e]
      exact h _ _ _ (moved_end TT F5.keep)
theorem distLP {base : Heap} {se dse : Addr} {v1 v2 : Value} {q1 q2 q3 : Int} {t1 t2 t3 tq : Tok} {vx : Value} {ep q : Nat} {cs1 cs2 : List Nat} (hq : q = 2 ∨ q = 3 ∨ q = 4) (ha1 : Asc cs1) (ha2 : Asc cs2) (hc1 : cs1.length ≤ 900) (hc2 : cs2.length ≤ 900)
    (X : (Mine.hd.heap_39 w.params).In base) (T : TopRead p loose mg mb base) (G : Grd base outer s.heap) (hv1 : Letters s.heap v1 cs1) (hv2 : Letters s.heap v2 cs2)
    (h0 : s.heap.get? se = some ⟨.ref 244, some dse, .plain, #[]⟩) (h9 : s.heap.get? dse = some (dictOf [⟨q1, .str (Str.ofString "qval") t1, .int (q : Nat) tq⟩, ⟨q2, .str (Str.ofString "test_func") t2, .ref 157⟩, ⟨q3, .str (Str.ofString "external") t3, vx⟩] ep)) (hds : dse ∉ outer.filterMap (·.frame))
    (h : ∀ t h' tk', Moved outer s.heap h' → Q (.int (levG q cs1 cs2) t) { s with heap := h', toks := tk' }) :
    wpAny (model PySem.Challenge.rw_ah5040_01.prog w) (QD 20 outer gd) (call (.ref 122) [.ref se, v1, v2]) Q E s := by
  have X0 := X.keeps G.stays
  have T0 := T.keeps G.stays
  walk_at "my V"
  intro D' L' h' F' N'
  (try dsimp only); (show wpAny _ _ _ _ _ _); k_fold
  replace N' : News s.heap L' h' [(D', { cls := .type "tuple", data := .seq #[v1, v2] })] := N'
  walk_at "my walk"
  rename Fr _ _ _ _ => F1
  rename News _ _ _ _ => N1
  refine wpAny_call (kco_code (X0.keeps F1.keep) (by k_inst) rfl (by k_is) (by k_is) (by k_is) ?_)
  refine codeAny_le (callLP hq ha1 ha2 hc1 hc2 X T (G.push F1 rfl (by show ScopeKind.function ≠ ScopeKind.module; decide)) (hv1.stays F1.keep) (hv2.stays F1.keep) (F1.keep _ _ h0) (F1.keep _ _ h9) (fun hm => ?_) fun t h2 tk2 M => ?_) (Nat.le_of_ble_eq_true rfl) (Nat.le_of_ble_eq_true rfl)
  · rcases List.mem_cons.mp hm with e | hm
    · have e : dse = L' := e
      rw [e, kts_self F1] at h9; cases h9
    · exact hds hm
  · obtain ⟨g4, TT, F4, N4, B4⟩ := moved_on G F1 N1 rfl M
    exact h _ _ _ (moved_end TT F4.keep)
end
end Mine
end
-- G4
section
open PySem PySem.W PySem.W.X PyProof.Rows PySem.Calls
set_option maxRecDepth 100000
set_option maxHeartbeats 1000000
namespace Mine
theorem fillG4 : PySem.Challenge.rw_ah5040_01 = PySem.Challenge.rw_ah5040_01 ∧ Mine.hd.heap_39 = Mine.hd.heap_39 := by
  k_fill
  exact ⟨rfl, rfl⟩
local macro_rules | `(tactic| walk_at "my S") => `(tactic| (refine wpAny_call ?_; refine' enterS ?k3 ?k5 ?k6 ?k7 ?k8 ?k9 ?kB ?_ ?c2 ?c3 ?c4 ?c5; (case k3 => k_asm); (case k5 => k_asm); (case k6 => k_is); (case k7 => k_is); (case k8 => k_room); (case k9 => first | exact BindsTo.of_eq rfl | exact binds_K (by k_in) rfl (by k_is) rfl rfl rfl); (case kB => exact locs rfl); (case c5 => decide); (case c2 => exact rfl); (case c3 => exact rfl); (case c4 => exact rfl)))
local macro_rules | `(tactic| walk_at "my V") => `(tactic| (refine wpAny_call ?_; refine' enterV ?k3 ?k5 ?k6 ?k7 ?k8 ?kP ?kG ?kB ?_ ?c2 ?c3 ?c4 ?c5; (case k3 => k_asm); (case k5 => k_asm); (case k6 => k_is); (case k7 => k_is); (case k8 => k_room); (case kP => exact rfl); (case kG => exact fun _ => rfl); (case kB => exact fun _ => locs rfl); (case c5 => decide); (case c2 => exact rfl); (case c3 => exact rfl); (case c4 => exact rfl)))
local macro_rules | `(tactic| k_inst) => `(tactic| (refine' InstAt_of_get ?a ?b; (case a => exact Fr.keep (by k_asm) _ _ (by assumption)); (case b => exact Fr.keep (by k_asm) _ _ (by assumption))))
local macro_rules | `(tactic| walk_at "eval Call Attribute") => `(tactic| (k_here; (with_reducible show wpAny _ _ (eval (Expr.Call (Expr.Attribute _ _ _) [Expr.Starred _ _] [] _) _) _ _ _); refine starMethod ?_))
local macro_rules | `(tactic| walk_at "getAttr ref") => `(tactic| (k_here; k_dflt (refine' attr_sm ?k1 ?k2 ?k4 ?k5 ?k6 ?k7 ?k9 ?k10 ?k11 ?k12 ?k13 ?k14 ?_; (case k1 => k_asm); (case k2 => k_asm); (case k4 => k_inst); (case k5 => k_is); (case k6 => k_is); (case k7 => k_is); (case k9 => k_is); (case k10 => k_is); (case k11 => decide +kernel); (case k12 => k_get); (case k13 => k_is); (case k14 => k_handed); k_whole)))
local macro_rules | `(tactic| walk_at "callWith ref") => `(tactic| (k_here; (with_reducible show wpAny _ _ (callWith _ (Value.ref _) _ (backTo _ (starEach [Expr.Starred _ _] _)) []) _ _ _); k_dflt (refine' callWith_SM ?k1 ?k2 ?k3 ?k4 ?_; (case k1 => k_asm); (case k2 => k_asm); (case k3 => k_mem); (case k4 => k_is); k_whole)))
local macro_rules | `(tactic| walk_at "callWith ref") => `(tactic| (k_here; (with_reducible show wpAny _ _ (callWith _ (Value.ref _) _ (backTo _ (starEach [Expr.Starred _ _] _)) []) _ _ _); k_dflt (refine' callWith_SI ?k1 ?k2 ?k3 ?k4 ?_; (case k1 => k_in); (case k2 => k_inst); (case k3 => rfl); (case k4 => k_is); k_whole)))
local macro_rules | `(tactic| walk_at "my drop") => `(tactic| (repeat (first | ((rename News _ _ _ _ => Nx); clear Nx) | ((rename Fr _ _ _ _ => Fx); clear Fx))))
local macro_rules | `(tactic| walk_at "my stops") => `(tactic| ((fail_if_success (with_reducible show wpAny _ _ (call (Value.builtin "all") _) _ _ _)); (fail_if_success (with_reducible show wpAny _ _ (call (Value.builtin "max") _) _ _ _)); (fail_if_success (with_reducible show wpAny _ _ (call (Value.ref _) _) _ _ _)); (fail_if_success (with_reducible show wpAny _ _ (call (Value.type "map") _) _ _ _)); (fail_if_success (with_reducible show wpAny _ _ (call (Value.builtin "isinstance") _) _ _ _)); (fail_if_success (with_reducible show wpAny _ _ (exec (PySem.Stmt.For _ _ _ _ _) _) _ _ _)); (fail_if_success (with_reducible show wpAny _ _ (eval (PySem.Expr.ListComp _ _ _ _) _) _ _ _)); (fail_if_success (with_reducible show wpAny _ _ (eval (PySem.Expr.GeneratorExp _ _ _ _) _) _ _ _)); (fail_if_success (with_reducible show Exists _))))
local macro_rules | `(tactic| walk_at "my walk") => `(tactic| (repeat' (walk_at "my stops"; first | (k_unfold; (try dsimp only)) | walk1 | (dsimp only; first | walk1 | (k_unfold; try dsimp only)) | (leave1; walk_say "STEP leave1"; try dsimp only))))
local macro_rules | `(tactic| walk_at "my VD") => `(tactic| (refine' enterV ?k3 ?k5 ?k6 ?k7 ?k8 ?kP ?kG ?kB ?_ ?c2 ?c3 ?c4 ?c5; (case k3 => k_asm); (case k5 => k_asm); (case k6 => k_is); (case k7 => k_is); (case k8 => k_room); (case kP => exact rfl); (case kG => exact fun _ => rfl); (case kB => exact fun _ => locs rfl); (case c5 => decide); (case c2 => exact rfl); (case c3 => exact rfl); (case c4 => exact rfl)))
section
variable {w : World} {s : Shared} {p : Program} {loose : List Str} {mg mb : Str → Option Value} {base : Heap} {outer : List Env} {gd : Option (List Code)} {A₀ : Around} {Q E : Value → Shared → Prop}

theorem gn_glob {M : Model} {A : Around} {K : Frag} {h₀ : Heap} {L C : Addr} {m : Str → Option Value} {scope : Scope} {cl : List (Str × Addr)} {env : Env} {code v : Value} {x : Str} {pos : Pos} (F : Fr h₀ L s.heap m) (X : K.In h₀) (T : TopRead p loose mg mb h₀) (e : nsIn K mainGlobals x = some (some v)) (h : Q v s) (hg : env.globals = mainGlobals := by rfl)
    (hk : (genEnv scope cl C code builtinsNs env).scope.kind = .function := by rfl) (hx : (genEnv scope cl C code builtinsNs env).kindOf x = some .globalImplicit := by rfl) (hd : (x == ("__debug__" : Str)) = false := by decide) :
    wpAny M A (eval (.Name x pos) (genEnv scope cl C code builtinsNs env)) Q E s :=
  Name_function_global hk hx (loadGlobal_global (env := genEnv scope cl C code builtinsNs env) (show s.heap.Ns env.globals mg from hg ▸ T.g.keeps F.keep) (mg_of X T.g e) h) hd
theorem gn_built {M : Model} {A : Around} {K : Frag} {h₀ : Heap} {L C : Addr} {m : Str → Option Value} {scope : Scope} {cl : List (Str × Addr)} {env : Env} {code v : Value} {x : Str} {pos : Pos} (F : Fr h₀ L s.heap m) (X : K.In h₀) (T : TopRead p loose mg mb h₀) (e : nsIn K mainGlobals x = some none) (hv : bootBuiltins x = some v) (hn : x ≠ "__name__") (h : Q v s) (hg : env.globals = mainGlobals := by rfl)
    (hk : (genEnv scope cl C code builtinsNs env).scope.kind = .function := by rfl) (hx : (genEnv scope cl C code builtinsNs env).kindOf x = some .globalImplicit := by rfl) (hd : (x == ("__debug__" : Str)) = false := by decide) :
    wpAny M A (eval (.Name x pos) (genEnv scope cl C code builtinsNs env)) Q E s :=
  Name_function_global hk hx (loadGlobal_builtin (env := genEnv scope cl C code builtinsNs env) (show s.heap.Ns env.globals mg from hg ▸ T.g.keeps F.keep) (mg_none_of X T.g e) (show s.heap.Ns builtinsNs mb from T.b.keeps F.keep) ((T.builtins x hn).trans hv) h) hd
local macro_rules | `(tactic| walk_at "eval Name") => `(tactic| (k_here; (with_reducible show wpAny _ _ (eval (Expr.Name (Str.ofString "Counter") _) (compEnvC _ _ _ _)) _ _ _); k_dflt (refine cn_glob (by assumption) (by assumption) (by assumption) (by k_is) ?_)))
local macro_rules | `(tactic| walk_at "eval Name") => `(tactic| (k_here; (with_reducible show wpAny _ _ (eval (Expr.Name (Str.ofString "s") _) (compEnvC _ _ _ _)) _ _ _); k_dflt (refine LCgL.ld_own (by assumption) (.tail _ (.head _)) (by assumption) (by assumption) ?_)))
local macro_rules | `(tactic| walk_at "eval Name") => `(tactic| (k_here; (with_reducible show wpAny _ _ (eval (Expr.Name (Str.ofString "isinstance") _) (genEnv _ _ _ _ _ _)) _ _ _); k_dflt (refine gn_built (by assumption) (by assumption) (by assumption) (by k_is) (by boot_by_name) (by decide) ?_)))
local macro_rules | `(tactic| walk_at "eval Name") => `(tactic| (k_here; (with_reducible show wpAny _ _ (eval (Expr.Name (Str.ofString "Counter") _) (genEnv _ _ _ _ _ _)) _ _ _); k_dflt (refine gn_glob (by assumption) (by assumption) (by assumption) (by k_is) ?_)))
local macro_rules | `(tactic| walk_at "eval Name") => `(tactic| (k_here; (with_reducible show wpAny _ _ (eval (Expr.Name (Str.ofString "s") _) (genEnv _ _ _ _ _ _)) _ _ _); k_dflt (refine ldVarG (by assumption) (by assumption) ?_)))

/-- what a Counter is made to hold -/
def Holds1 {K : Type} [DecidableEq K] (kk : KK PySem.Challenge.rw_ah5040_01.prog w K) (f : K → Nat) (Cond : Heap → Prop) (xs : Con K) : Prop := xs.length ≤ 1000 ∧ (∀ y ∈ xs, ∀ g, Cond g → kk.is g y.1 y.2.1) ∧ CntOf xs f
/-- what stands: the base but its table, and these objects -/
def CondS (h : Heap) (qs : List (Addr × Obj)) (g : Heap) : Prop := (∀ b o, b ≠ 167 → h.get? b = some o → g.get? b = some o) ∧ ∀ p ∈ qs, g.get? p.1 = some p.2
/-- these objects stand -/
def HasAll (qs : List (Addr × Obj)) (g : Heap) : Prop := ∀ p ∈ qs, g.get? p.1 = some p.2
/-- a Counter of the ledger -/
def CtrN {K : Type} [DecidableEq K] (kk : KK PySem.Challenge.rw_ah5040_01.prog w K) (news : List (Addr × Obj)) (x dx : Addr) (o : Obj) (xs : Con K) : Prop :=
  (x, o) ∈ news ∧ (dx, emptyDict) ∈ news ∧ o.cls = .ref 79 ∧ o.dict = some dx ∧ o.slots = #[] ∧ EO kk o xs ∧ (x == sysModules) = false
/-- a list of the ledger as the source -/
theorem comp_list {prog : Program} {A : Around} {h₀ : Heap} {L : Addr} {m : Str → Option Value} {env : Env} {elt : Expr} {x : Str} {scope : Scope} {cl : List (Str × Addr)} {Fin : Shared → List Value → List (Addr × Obj) → Prop} {D : Addr} {its : List Value} {c : Nat} {news : List (Addr × Obj)}
    (hh : A.handled = none) (F : Fr h₀ L s.heap m) (N : News h₀ L s.heap news) (hD : (D, listOf its.toArray c) ∈ news) (hn : its.toArray.size ≤ 1000)
    (h : ∀ g, LCg.CompRest prog w A h₀ L m env elt x scope cl { s with heap := g } (fun nw => (D, listOf its.toArray c) ∈ nw) (fun i v => its.toArray[i]? = some v) (Fin { s with heap := g }) its.toArray.size 0 [] news) :
    wpAny (model prog w) A (pyIter (.ref D)) (CompIt prog w A h₀ L m env elt x scope cl Fin) E s := by
  have hT : s.heap.IsList D its.toArray := ⟨_, (N _ hD).1, rfl, _, rfl⟩
  have hlt := Heap.lt_size (N _ hD).1
  refine wpAny_pyIter_list hT ?_
  have up : ∀ b o, s.heap.get? b = some o → (s.heap.push { cls := .type "list_iterator", data := .fields #[.ref D, .int 0 0] }).get? b = some o := fun b o e => Heap.get?_push_of_some _ e
  refine ⟨s.heap.objs.size, [s.heap.objs.size, D], its.toArray.size, _, _, fun nw => (D, listOf its.toArray c) ∈ nw, news, rfl, Walks.list hh s.heap.objs.size D (Nat.ne_of_lt hlt) its.toArray, by rw [sizeLine_eq]; omega, fun i h st => by obtain ⟨o, e, _⟩ := st.1; exact ⟨o, e⟩, ?_,
    ⟨⟨_, Heap.get?_push_size _ rfl, rfl, rfl⟩, let ⟨o, ho, r⟩ := hT; ⟨o, up _ _ ho, r⟩⟩, fun b hb => ?_, F.keeps up, N.grown up, Nat.ne_of_lt F.ns.lt, next_is_new F, fun p hp => Nat.ne_of_lt (Heap.lt_size (N p hp).1), hD, h _⟩
  · intro i h h' o nw st e e' k N S
    exact ⟨by obtain ⟨o', q, r⟩ := st.1; rw [e] at q; cases q; exact ⟨o, e', r⟩, ⟨_, (N _ S).1, rfl, _, rfl⟩⟩
  · rw [Heap.size_push]
    simp only [List.mem_cons, List.not_mem_nil, or_false] at hb
    rcases hb with rfl | rfl
    · exact Nat.lt_succ_self _
    · exact Nat.lt_succ_of_lt hlt
theorem getCt {R0 : Result → Shared → Prop} {K : Type} [DecidableEq K] {kk : KK PySem.Challenge.rw_ah5040_01.prog w K} {se dse : Addr} {v1 v2 : Value} {ps : Array Value} {q1 q3 : Int} {t1 t3 tq : Tok} {vx : Value} {ep q : Nat} {f1 f2 : K → Nat}
    (G : Gr w p loose mg mb s.heap) (GB : AllBare s.gens) (hc : s.heap.IsCode 169 167 ps) (ht : s.heap.TableAt 169 167 ps)
    (hv1 : (∃ x t, v1 = .str x t) ∨ ∃ l o, v1 = .ref l ∧ s.heap.get? l = some o ∧ o.cls = .type "list") (hv2 : (∃ x t, v2 = .str x t) ∨ ∃ l o, v2 = .ref l ∧ s.heap.get? l = some o ∧ o.cls = .type "list")
    (h0 : s.heap.get? se = some ⟨.ref 304, some dse, .plain, #[]⟩) (h9 : s.heap.get? dse = some (dictOf [⟨q1, .str (Str.ofString "qval") t1, .int (q : Nat) tq⟩, ⟨q3, .str (Str.ofString "external") t3, vx⟩] ep)) (ns : se ≠ 167) (nds : dse ≠ 167)
    (hseq : ∀ (s' : Shared) (outer' : List Env) (RR : Result → Shared → Prop), (Mine.hd.heap_39 w.params).In s'.heap → TopRead p loose mg mb s'.heap → (∀ b o, b ≠ 167 → s.heap.get? b = some o → s'.heap.get? b = some o) →
      (∀ L c u1 u2 qs h' tk', s'.heap.StaysIn h' → Fresh s'.heap h' ((L, listOf #[u1, u2] c) :: qs) → (∀ g, CondS s.heap qs g → CSrc _ w kk g u1 (Holds1 kk f1 (HasAll qs))) → (∀ g, CondS s.heap qs g → CSrc _ w kk g u2 (Holds1 kk f2 (HasAll qs))) → RR (.ok (.ret (.ref L))) { s' with heap := h', toks := tk' }) →
      codeAny (model PySem.Challenge.rw_ah5040_01.prog w) (QD 50 outer' gd) (.call (.ref 165) ⟨[.ref se, v1, v2], []⟩) RR s')
    (h : ∀ (s' : Shared) Lr c x1 x2 dx1 dx2 o1 o2 xs1 xs2 more qs, Heap.ExtBut 167 s.heap s'.heap → s'.heap.IsCode 169 167 (ps ++ more) → s'.heap.TableAt 169 167 (ps ++ more) → AllBare s'.gens → s'.os = s.os →
      Fresh s.heap s'.heap ((Lr, listOf #[.ref x1, .ref x2] c) :: (x1, o1) :: (dx1, emptyDict) :: (x2, o2) :: (dx2, emptyDict) :: qs) → Ctr kk s'.heap x1 dx1 o1 xs1 → Ctr kk s'.heap x2 dx2 o2 xs2 → CntOf xs1 f1 → CntOf xs2 f2 → xs1.length ≤ 1000 → xs2.length ≤ 1000 → (∀ g, HasAll qs g → ∀ y ∈ xs1, kk.is g y.1 y.2.1) → (∀ g, HasAll qs g → ∀ y ∈ xs2, kk.is g y.1 y.2.1) → R0 (.ok (.ret (.ref Lr))) s') :
    codeAny (model PySem.Challenge.rw_ah5040_01.prog w) (QD 40 outer gd) (.call (.ref 170) ⟨[.ref se, v1, v2], []⟩) R0 s := by
  have X := G.X
  have T := G.T
  have B := Based.start hc ht (by decide)
  obtain ⟨bm, ob, BM⟩ := G.M
  walk_at "my VD"
  intro D' L' h' F' N'
  (try dsimp only); (show wpAny _ _ _ _ _ _); k_fold
  replace N' : News s.heap L' h' [(D', { cls := .type "tuple", data := .seq #[v1, v2] })] := N'
  walk_at "my walk"
  refine genExp_seq (L := L') (c := 169) (P := 167) F' B BM rfl rfl rfl (by with_unfolding_all rfl) (by decide) (by decide +kernel) (by decide +kernel) (by rfl) (by k_room) ?_ (fun _ => rfl)
  walk_at "my walk"
  have n167 : ∀ {b : Addr} {o : Obj} {T : String}, s.heap.get? b = some o → o.cls = .type T → b ≠ 167 := fun {b o T} e ec q => by
    rw [q, ht.2] at e; cases e; cases ec
  refine ⟨D', #[v1, v2], fun _ y => y = .bool false, rfl, .inl ⟨_, (N' _ (.head _)).1, rfl, _, rfl⟩, F', GB, T.nolimit.keeps F'.keep, ?_, ?_⟩
  · intro code more C A' E' i v t m₂ hA hD hU hv F2 hm hLC hk
    have X2 := kb_in_regrown (ps' := ps ++ more) B X T.g (cls39 w)
    have T2 := LGe.top_regrown F2 T B
    have hv' : (∃ x t, v = .str x t) ∨ ∃ l o, v = .ref l ∧ s.heap.get? l = some o ∧ o.cls = .type "list" := by
      match i, hv with
      | 0, hv => cases hv; exact hv1
      | 1, hv => cases hv; exact hv2
      | (n + 2), hv => simp at hv
    have F9 := F'.keep
    clear F'
    obtain ⟨h2, g2, d2, tk2, o2⟩ := t
    walk_at "my walk"
    rcases hv' with ⟨x, t, rfl⟩ | ⟨l, o, rfl, ho, hcl⟩
    · exact kia_one (K := Mine.hd.heap_39 w.params) kitx_str (X2.keeps F2.keep) trivial (b := false) (by kit_is) (fun e => by cases e) fun tk => ⟨rfl, h2, tk, rfl, fun _ _ e => e⟩
    · exact kia_one (K := Mine.hd.heap_39 w.params) kitx_list (X2.keeps F2.keep) ⟨o, hk _ _ (n167 ho hcl) (F9 _ _ ho), hcl⟩ (b := false) (by kit_is) (fun e => by cases e) fun tk => ⟨rfl, h2, tk, rfl, fun _ _ e => e⟩
  · intro code more a s5 B5 F5 GB5 os5 hk5 Gen5
    have hLK : L' ≤ h'.objs.size - 1 := Nat.le_sub_one_of_lt F'.ns.lt
    have F9 := F'.keep
    have hD9 := (N' _ (.head _))
    clear F' N'
    obtain ⟨h5, g5, d5, tk5, o5⟩ := s5
    (try dsimp only)
    walk_at "my walk"
    refine all_rowsK F5 GB5 Gen5 hLK (fun _ => false) (fun j v s Q E hv hQ => by subst hv; exact wpAny_truthy_bool hQ) fun s6 F6 GB6 os6 hk6 => ?_
    have X6 := kb_in_regrown (ps' := ps ++ more) B X T.g (cls39 w)
    have T6 := LGe.top_regrown F6 T B
    have keep6 : ∀ b o, b ≠ 167 → h'.get? b = some o → s6.heap.get? b = some o := fun b o hb e => hk6 b o (Nat.le_sub_one_of_lt (Heap.lt_size e)) (hk5 b o hb e)
    have os9 : s6.os = s.os := os6.trans os5
    have N6 : News (regrown s.heap 167 (ps ++ more)) L' s6.heap [(D', { cls := .type "tuple", data := .seq #[v1, v2] })] := fun p hp => by
      rw [List.mem_singleton.mp hp]
      refine ⟨keep6 _ _ (fun q => ?_) hD9.1, hD9.2.1, B5.fresh hD9.2.2⟩
      have := F9 _ _ ht.2
      rw [← q] at this
      rw [hD9.1] at this; cases this
    clear F5 GB5 Gen5 hk5 hk6 os5 os6
    obtain ⟨h6, g6, d6, tk6, o6⟩ := s6
    rw [show ((List.range #[v1, v2].size).all fun _ => false) = false from rfl]
    dsimp only at F6 N6 keep6 T6 GB6 os9
    (try dsimp only)
    have j0 : (regrown s.heap 167 (ps ++ more)).get? se = some ⟨.ref 304, some dse, .plain, #[]⟩ := (Heap.get?_update_other _ _ (Ne.symm ns)).trans h0
    have j9 : (regrown s.heap 167 (ps ++ more)).get? dse = some (dictOf [⟨q1, .str (Str.ofString "qval") t1, .int (q : Nat) tq⟩, ⟨q3, .str (Str.ofString "external") t3, vx⟩] ep) := (Heap.get?_update_other _ _ (Ne.symm nds)).trans h9
    walk_at "my walk"
    refine ListComp_W F6 (by with_unfolding_all rfl) (by decide) (by rfl) (by decide) (by rfl) ?_
    walk_at "my walk"
    rename Fr _ _ _ _ => F7
    rename News _ _ _ _ => N7
    refine call_meth N7 (.head _) (codeAny_le (hseq _ _ _ (X6.keeps F7.keep) (T6.keeps F7.keep) (fun b o hb e => F7.keep _ _ ((Heap.get?_update_other _ _ (Ne.symm hb)).trans e)) fun Ls cs u1 u2 qs h8 tk8 st8 fr8 c1 c2 => ?_) (Nat.le_of_ble_eq_true rfl) (Nat.le_of_ble_eq_true rfl))
    obtain ⟨F8, N8, up8⟩ := fr_fresh F7 N7 st8 fr8
    clear F7 N7
    dsimp only
    refine comp_list (its := [u1, u2]) (c := cs) rfl F8 N8 (.head _) (by simp) fun g => ?_
    refine CompRest.ind (n := 2) (fun i ys news => (∀ p ∈ (Ls, listOf [u1, u2].toArray cs) :: qs, p ∈ news) ∧ ys.length = i ∧ ∀ j u, ys[j]? = some u → ∃ x dx o xs, u = .ref x ∧ CtrN kk news x dx o xs ∧ Holds1 kk (if j = 0 then f1 else f2) (HasAll qs) xs)
      ?_ ?_ 2 0 [] _ (by omega) ⟨fun p hp => List.mem_append_left _ hp, rfl, fun j u h => by simp at h⟩
    · rintro i ys news hi ⟨hb, hl, hys⟩ v I oI C oC D m₂ h10 tk10 E' hv hC hm F10 N10 off nes
      have hcond : CondS s.heap qs h10 := ⟨fun b o hb e => F10.keep _ _ ((Heap.get?_update_other _ _ (Ne.symm hb)).trans e), fun p hp => (N10 _ (.tail _ (.tail _ (.tail _ (hb _ (.tail _ hp)))))).1⟩
      have hsrc : CSrc _ w kk h10 v (Holds1 kk (if i = 0 then f1 else f2) (HasAll qs)) := by
        match i, hv with
        | 0, hv => cases hv; exact c1 _ hcond
        | 1, hv => cases hv; exact c2 _ hcond
        | (n + 2), _ => omega
      clear F8 N8
      walk_at "my walk"
      refine wpAny_le (makeC (X6.keeps F10.keep) (T6.keeps F10.keep) hsrc fun x2 dx2 o2 xs2 h11 tk11 st n1 n2 ne lo a1 a2 a3 a4 a5 a6 a7 => ?_) (Nat.le_of_ble_eq_true rfl) (Nat.le_of_ble_eq_true rfl)
      have F11 := fr_stays F10 st
      have N11 := news_stays N10 st
      have nb : ∀ {b : Addr}, h10.get? b = none → (regrown s.heap 167 (ps ++ more)).get? b = none := fun {b} e => by
        cases q : (regrown s.heap 167 (ps ++ more)).get? b with
        | none => rfl
        | some o => rw [F10.keep _ _ q] at e; cases e
      have nL : ∀ {b : Addr}, h10.get? b = none → b ≠ L' := fun {b} e q => by
        obtain ⟨oL, _, _, hoL, _⟩ := F10.ns; rw [← q, e] at hoL; cases hoL
      have nn : ∀ {b : Addr}, h10.get? b = none → ∀ p ∈ (I, oI) :: (C, oC) :: (D, LCg.lst ys) :: news, p.1 ≠ b := fun {b} e p hp q => by
        have := (N10 p hp).1; rw [q, e] at this; cases this
      refine ⟨h11, tk11, (x2, o2) :: (dx2, emptyDict) :: news, rfl, F11, fun p hp => ?_, ?_, ?_, ?_, ?_, ?_⟩
      · simp only [List.mem_cons] at hp
        rcases hp with rfl | rfl | rfl | rfl | rfl | hp
        · exact N11 _ (.head _)
        · exact N11 _ (.tail _ (.head _))
        · exact N11 _ (.tail _ (.tail _ (.head _)))
        · exact ⟨a1, nL n1, nb n1⟩
        · exact ⟨a5, nL n2, nb n2⟩
        · exact N11 _ (.tail _ (.tail _ (.tail _ hp)))
      · exact ⟨⟨Ne.symm (nn n1 _ (.head _)), Ne.symm (nn n1 _ (.tail _ (.head _))), Ne.symm (nn n1 _ (.tail _ (.tail _ (.head _))))⟩, ⟨Ne.symm (nn n2 _ (.head _)), Ne.symm (nn n2 _ (.tail _ (.head _))), Ne.symm (nn n2 _ (.tail _ (.tail _ (.head _))))⟩, off⟩
      · exact .tail _ (.tail _ (hb _ (.head _)))
      · exact fun p hp => .tail _ (.tail _ (hb p hp))
      · rw [List.length_append, hl]; rfl
      · intro j u hj
        rcases Nat.lt_or_ge j ys.length with c | c
        · rw [List.getElem?_append_left c] at hj
          obtain ⟨x, dx, o, xs, e, ⟨m1, m2, m3⟩, k⟩ := hys j u hj
          exact ⟨x, dx, o, xs, e, ⟨.tail _ (.tail _ m1), .tail _ (.tail _ m2), m3⟩, k⟩
        · rw [List.getElem?_append_right c] at hj
          have hji : j = i := by
            have := (List.getElem?_eq_some_iff.mp hj).1
            simp at this; omega
          subst hji
          rw [show j - ys.length = 0 by omega] at hj
          cases hj
          exact ⟨x2, dx2, o2, xs2, rfl, ⟨.head _, .tail _ (.head _), a2, a3, a4, a6, lo⟩, a7⟩
    · rintro ys news ⟨hb, hl, hys⟩ D h10 tk10 F10 N10 off
      have hE : ∃ y1 y2, ys = [y1, y2] := by
        match ys, hl with
        | [y1, y2], _ => exact ⟨y1, y2, rfl⟩
      obtain ⟨y1, y2, rfl⟩ := hE
      obtain ⟨x1, dx1, o1, xs1, rfl, ⟨m1, m2, m3, m4, m5, m6, m7⟩, k1, k2, k3⟩ := hys 0 y1 rfl
      obtain ⟨x2, dx2, o2, xs2, rfl, ⟨p1, p2, p3, p4, p5, p6, p7⟩, r1, r2, r3⟩ := hys 1 y2 rfl
      have hcond : CondS s.heap qs h10 := ⟨fun b o hb e => F10.keep _ _ ((Heap.get?_update_other _ _ (Ne.symm hb)).trans e), fun p hp => (N10 _ (.tail _ (hb _ (.tail _ hp)))).1⟩
      have nb : ∀ {b : Addr} {o : Obj}, (b, o) ∈ (D, LCg.lst [.ref x1, .ref x2]) :: news → h10.get? b = some o ∧ s.heap.get? b = none := fun {b o} hm => by
        have q := N10 _ hm
        refine ⟨q.1, ?_⟩
        have hne : b ≠ 167 := fun e => by
          have := q.2.2
          rw [show (b, o).1 = 167 from e, B5.tab.2] at this; cases this
        exact (Heap.get?_update_other _ _ (Ne.symm hne)).symm.trans q.2.2
      refine h _ D 2 x1 x2 dx1 dx2 o1 o2 xs1 xs2 more qs (fun b o hb e => F10.keep _ _ ((Heap.get?_update_other _ _ (Ne.symm hb)).trans e)) (B5.code.keeps F10.keep) (B5.tab.keeps F10.keep) GB6 os9 (fun p hp => ?_) ⟨(nb (.tail _ m1)).1, m3, m4, m5, (nb (.tail _ m2)).1, m6, fun y hy => k2 y hy _ hcond.2, m7⟩ ⟨(nb (.tail _ p1)).1, p3, p4, p5, (nb (.tail _ p2)).1, p6, fun y hy => r2 y hy _ hcond.2, p7⟩ k3 r3 k1 r1 (fun g hg y hy => k2 y hy g hg) (fun g hg y hy => r2 y hy g hg)
      simp only [List.mem_cons] at hp
      rcases hp with rfl | rfl | rfl | rfl | rfl | hp
      · exact nb (.head _)
      · exact nb (.tail _ m1)
      · exact nb (.tail _ m2)
      · exact nb (.tail _ p1)
      · exact nb (.tail _ p2)
      · exact nb (.tail _ (hb _ (.tail _ hp)))
end
end Mine
end
-- G5
section
open PySem PySem.W PySem.W.X PyProof.Rows PySem.Calls
set_option maxRecDepth 100000
set_option maxHeartbeats 1000000
namespace Mine
/-- `a &= b` where the class of both has no `__iand__` but `__and__` -/
theorem iand_K {prog : Program} {w : World} {A : Around} {E : Value → Shared → Prop} {s : Shared} {K : Frag} {x C f : Addr} {ox : Obj} {od : Option Obj} {b : Value} {Q : Value → Shared → Prop} (X : K.In s.heap) (I : InstAt s.heap x ox C od) (hb : Looks (model prog w) s.heap (typeOf b) (.ref C)) (hc : selfFirst K C = true)
    (hno : Looks (model prog w) s.heap (fillsInplaceSlot (.ref C) "and" false) false)
    (hs : findIn K (.ref C) (PySem.dunder "and") = some (some (.ref f))) (hf : isFn K (.ref f) = true)
    (h : wpAny (model prog w) A (call (.ref f) [.ref x, b]) (PySem.W.CmpBack Q) E s) : wpAny (model prog w) A (inplaceOp .BitAnd (.ref x) b) Q E s := by
  obtain ⟨cd, hcd, hm⟩ := any_some hc
  obtain ⟨rest, hm⟩ : ∃ rest, cd.mro = .ref C :: rest := by
    cases q : cd.mro with
    | nil => rw [q] at hm; cases hm
    | cons a r => rw [q] at hm; exact ⟨r, by rw [List.head?_cons] at hm; cases (beq_iff_eq.mp hm); rfl⟩
  unfold inplaceOp
  refine wpAny_holding (wpAny_bind (I.type.here (wpAny_bind (hno.here ?_))))
  simp only [Bool.false_eq_true, if_false]
  refine wpAny_bind ?_
  unfold binaryOp1
  refine wpAny_bind (I.type.here (wpAny_bind (hb.here (wpAny_bind ((fills_K X hcd hm hs).here ?_)))))
  simp only [beq_self_eq_true, if_true]
  refine wpAny_bind (wpAny_pure ?_)
  simp only [Bool.and_false, Bool.false_eq_true, if_false, Bool.false_and]
  refine wpAny_bind (wpAny_pure ?_)
  simp only [Bool.false_eq_true, if_false]
  refine wpAny_bind (m := tryMethod (.ref x) _ b) ?_
  unfold tryMethod
  refine wpAny_bind (special_fn X I hs (beq_iff_eq.mp hf) (wpAny_mono h (fun v s' hv => ?_) fun _ _ e => e))
  cases v <;> first | exact hv.elim | exact wpAny_pure (wpAny_pure (wpAny_pure hv))
theorem fillG5 : PySem.Challenge.rw_ah5040_01 = PySem.Challenge.rw_ah5040_01 ∧ Mine.hd.heap_39 = Mine.hd.heap_39 := by
  k_fill
  exact ⟨rfl, rfl⟩
def mro3 (K : Frag) (C : Addr) : Bool := (clsIn K C).any fun cd => cd.mro == [.ref C, .type "dict", .type "object"]
theorem no_iand {M : Model} {w : World} {h : Heap} (X : (Mine.hd.heap_39 w.params).In h) : Looks M h (fillsInplaceSlot (.ref 79) "and" false) false := by
  intro A Q E s k q
  have hc : mro3 (Mine.hd.heap_39 w.params) 79 = true := by first | rfl | kernel_rfl
  obtain ⟨cd, hcd, hm⟩ := any_some hc
  have hm := beq_iff_eq.mp hm
  have L1 := looks_findIn (M := M) X (show findIn (Mine.hd.heap_39 w.params) (.ref 79) (dunderI "and") = some none by k_is)
  have L2 := looks_findIn (M := M) X (show findIn (Mine.hd.heap_39 w.params) (.type "dict") (dunderI "and") = some none by k_is)
  have L3 := looks_findIn (M := M) X (show findIn (Mine.hd.heap_39 w.params) (.type "object") (dunderI "and") = some none by k_is)
  unfold fillsInplaceSlot
  refine wpAny_bind ((looks_clsIn X hcd).andThen (f := fun cd => pure cd.mro) .now A _ E s k ?_)
  rw [hm]
  simp only [List.anyM_cons, List.anyM_nil]
  refine wpAny_bind (wpAny_bind (L1 A _ E s k (wpAny_pure ?_)))
  simp only [Bool.false_eq_true, if_false]
  refine wpAny_bind (wpAny_bind (L2 A _ E s k (wpAny_pure ?_)))
  simp only [Bool.false_eq_true, if_false]
  refine wpAny_bind (wpAny_bind (L3 A _ E s k (wpAny_pure ?_)))
  simp only [Bool.false_eq_true, if_false]
  exact wpAny_pure q
end Mine
end
-- G5b
section
open PySem PySem.W PySem.W.X PyProof.Rows PySem.Calls
set_option maxRecDepth 100000
set_option maxHeartbeats 1000000
namespace Mine
section
variable {prog : Program} {w : World} {A : Around} {E : Value → Shared → Prop} {s : Shared} {g : Heap}
/-- a `for` over a tuple of the ledger -/
theorem for_tup {R : Result → Shared → Prop} {env : Env} {x : Str} {px : Pos} {body : List Stmt} {D : Addr} {its : Array Value} {oD : Obj} {m₀ : Str → Option Value} {news₀ : List (Addr × Obj)}
    (hT : oD.cls = .type "tuple") (hTd : ∃ n, oD.data = .seq its n) (hh : A.handled = none) (hx : env.kindOf x = some .local) (hp : (env.scope.kind == .class || (env.scope.kind == .module && env.locals != env.globals)) = false)
    (J : Nat → (Str → Option Value) → List (Addr × Obj) → Prop)
    (F₀ : Fr g env.locals s.heap m₀) (N₀ : News g env.locals s.heap ((D, oD) :: news₀)) (hD₀ : ∀ p ∈ news₀, p.1 ≠ D) (hJ₀ : J 0 m₀ news₀)
    (turn : ∀ (I : Addr) (oI : Obj) (i : Nat) (u : Value) m news h tk, its[i]? = some u → J i m news → (∀ p ∈ news, p.1 ≠ I ∧ p.1 ≠ D) → Fr g env.locals h (fun y => if y = x then some u else m y) → News g env.locals h ((I, oI) :: (D, oD) :: news) →
      wpAny (model prog w) A (execs body env) (fun f s₃ => match f with
        | .next | .cont => ∃ h' tk' m' news', s₃ = { s with heap := h', toks := tk' } ∧ Fr g env.locals h' m' ∧ News g env.locals h' ((I, oI) :: (D, oD) :: news') ∧ (∀ p ∈ news', p.1 ≠ I ∧ p.1 ≠ D) ∧ J (i + 1) m' news'
        | .brk => R (.ok .next) s₃
        | .ret v => R (.ok (.ret v)) s₃) (notedBy (model prog w) A env fun e s' => R (.error e) s') { s with heap := h, toks := tk })
    (done : ∀ m news h tk, J its.size m news → Fr g env.locals h m → News g env.locals h news → R (.ok .next) { s with heap := h, toks := tk }) :
    wpAny (model prog w) A (pyIter (.ref D)) (fun it s₂ => codeAny (model prog w) A (.forLoop (.Name x px) it body [] env) R s₂) E s := by
  obtain ⟨nD, hTd⟩ := hTd
  have hD := (N₀ _ (.head _)).1
  have hT' : s.heap.IsTuple D its := ⟨_, hD, hT, _, hTd⟩
  have hlt := Heap.lt_size hD
  refine wpAny_pyIter_tuple hT' ?_
  generalize hoI : ({ cls := .type "tuple_iterator", data := .fields #[.ref D, .int 0 0] } : Obj) = oI₀
  have W := Walks.tuple (prog := prog) (w := w) hh s.heap.objs.size D (Nat.ne_of_lt hlt) its
  have up : ∀ b o, s.heap.get? b = some o → (s.heap.push oI₀).get? b = some o := fun b o e => Heap.get?_push_of_some _ e
  have gI : g.get? s.heap.objs.size = none := next_is_new F₀
  have hIL : s.heap.objs.size ≠ env.locals := Nat.ne_of_gt F₀.ns.lt
  have hID : s.heap.objs.size ≠ D := Nat.ne_of_gt hlt
  have stOf : ∀ {i : Nat} {h : Heap} {o : Obj}, (∃ h₁ : Heap, h₁.get? s.heap.objs.size = some o ∧ h₁.IsTupleIter s.heap.objs.size D i) → h.get? s.heap.objs.size = some o → h.get? D = some oD → h.IsTupleIter s.heap.objs.size D i ∧ h.IsTuple D its := fun ⟨h₁, e₁, o', e', r⟩ e eD => by
    rw [e₁] at e'; cases e'
    exact ⟨⟨_, e, r⟩, ⟨_, eD, hT, _, hTd⟩⟩
  have X : ItX prog w A (.Name x px) g s.heap.objs.size [s.heap.objs.size, D] (fun i own => ∃ o, own = [(s.heap.objs.size, o), (D, oD)] ∧ ∃ h₁ : Heap, h₁.get? s.heap.objs.size = some o ∧ h₁.IsTupleIter s.heap.objs.size D i) its.size (fun i v fr => its[i]? = some v ∧ fr = []) := by
    refine ⟨fun i own h => ?_, fun i s' Q E₁ E own hi ho hs hg hQ => ?_, fun s' Q E own ho hs hg hQ => ?_⟩
    · obtain ⟨o, rfl, _⟩ := h; rfl
    · obtain ⟨o, rfl, st⟩ := ho
      refine W.item i s' _ _ hi (stOf st (hs _ (.head _)) (hs _ (.tail _ (.head _)))) fun v h' tk hP hst hk => ⟨v, rfl, ?_⟩
      obtain ⟨o', e', r'⟩ := id hst.1
      refine wpAny_of_eq (show letOwnedTupleGo (.Name x px) (.ref s.heap.objs.size) v = pure () from rfl) ?_
      have hD' : h'.get? D = some oD := hk D oD (fun hm => hID (List.mem_singleton.mp hm).symm) (hs _ (.tail _ (.head _)))
      refine hQ v [] [(s.heap.objs.size, o'), (D, oD)] h' tk ⟨hP, rfl⟩ ⟨o', rfl, h', e', hst.1⟩ (fun p hp => ?_) (fun p hp => nomatch hp) fun b o hb e => hk b o (fun hm => hb (by rw [List.mem_singleton.mp hm]; exact .head _)) e
      simp only [List.mem_cons, List.not_mem_nil, or_false] at hp
      rcases hp with rfl | rfl
      · exact e'
      · exact hD'
    · obtain ⟨o, rfl, st⟩ := ho
      exact W.done s' _ _ (stOf st (hs _ (.head _)) (hs _ (.tail _ (.head _)))) fun h' tk hk => hQ h' tk fun b o hb e => hk b o (fun hm => hb (by rw [List.mem_singleton.mp hm]; exact .head _)) e
  have e0 : (s.heap.push oI₀).get? s.heap.objs.size = some oI₀ := Heap.get?_push_size _ (by rw [← hoI]; rfl)
  refine loop_itX (s := { s with heap := s.heap.push oI₀ }) (own₀ := [(s.heap.objs.size, oI₀), (D, oD)]) (news₀ := news₀) X J ⟨oI₀, rfl, _, e0, ⟨oI₀, e0, by rw [← hoI], by rw [← hoI]; rfl⟩⟩ (F₀.keeps up) ?_ (fun p hp hb => ?_) hJ₀ (fun i m news h tk v fr own hi hP hO hJ hI hf hfn F N => ?_) done
  · intro p hp
    rcases List.mem_append.mp hp with hp | hp
    · simp only [List.mem_cons, List.not_mem_nil, or_false] at hp
      rcases hp with rfl | rfl
      · exact ⟨e0, hIL, gI⟩
      · exact ⟨up _ _ hD, (N₀ _ (.head _)).2⟩
    · exact ⟨up _ _ (N₀ p (.tail _ hp)).1, (N₀ p (.tail _ hp)).2⟩
  · simp only [List.mem_cons, List.not_mem_nil, or_false] at hb
    rcases hb with hb | hb
    · exact Nat.ne_of_lt (Heap.lt_size (N₀ p (.tail _ hp)).1) hb
    · exact hD₀ p hp hb
  · obtain ⟨hP, rfl⟩ := hP
    obtain ⟨o, rfl, _⟩ := hO
    simp only [List.cons_append, List.nil_append] at N
    have hI' : ∀ p ∈ news, p.1 ≠ s.heap.objs.size ∧ p.1 ≠ D := fun p hp => ⟨fun e => hI p hp (by rw [e]; exact .head _), fun e => hI p hp (by rw [e]; exact .tail _ (.head _))⟩
    refine wpAny_assign_Name (wpAny_storeName_local hx F.ns (fun h₂ hn₂ hs₂ => ?_) hp)
    have hL₀ : g.get? env.locals = none := Heap.get?_none_of_le F.above
    have F₂ : Fr g env.locals h₂ (fun z => if z = x then some v else m z) := ⟨hn₂, fun b o e => hs₂.extBut b o (fun q => by rw [q, hL₀] at e; cases e) (F.keep b o e), F.above⟩
    have N₂ : News g env.locals h₂ ((s.heap.objs.size, o) :: (D, oD) :: news) := fun p hp => ⟨hs₂.extBut _ _ (N p hp).2.1 (N p hp).1, (N p hp).2⟩
    refine wpAny_mono (turn _ o i v m news h₂ _ hP hJ hI' F₂ N₂) (fun f s₃ h₃ => ?_) fun _ _ e => e
    cases f with
    | brk => exact h₃
    | ret v => exact h₃
    | next =>
      obtain ⟨h', tk', m', news', rfl, F', N', hI', hJ'⟩ := h₃
      exact ⟨h', tk', m', news', rfl, F', N', fun p hp hb => by
        simp only [List.mem_cons, List.not_mem_nil, or_false] at hb
        exact hb.elim (hI' p hp).1 (hI' p hp).2, hJ'⟩
    | cont =>
      obtain ⟨h', tk', m', news', rfl, F', N', hI', hJ'⟩ := h₃
      exact ⟨h', tk', m', news', rfl, F', N', fun p hp hb => by
        simp only [List.mem_cons, List.not_mem_nil, or_false] at hb
        exact hb.elim (hI' p hp).1 (hI' p hp).2, hJ'⟩
end
end Mine
end
-- G6
section
open PySem PySem.W PySem.W.X PyProof.Rows PySem.Calls
set_option maxRecDepth 100000
set_option maxHeartbeats 1000000
namespace Mine
theorem fillG6 : PySem.Challenge.rw_ah5040_01 = PySem.Challenge.rw_ah5040_01 ∧ Mine.hd.heap_39 = Mine.hd.heap_39 := by
  k_fill
  exact ⟨rfl, rfl⟩
local macro_rules | `(tactic| walk_at "my S") => `(tactic| (refine wpAny_call ?_; refine' enterS ?k3 ?k5 ?k6 ?k7 ?k8 ?k9 ?kB ?_ ?c2 ?c3 ?c4 ?c5; (case k3 => k_asm); (case k5 => k_asm); (case k6 => k_is); (case k7 => k_is); (case k8 => k_room); (case k9 => first | exact BindsTo.of_eq rfl | exact binds_K (by k_in) rfl (by k_is) rfl rfl rfl); (case kB => exact locs rfl); (case c5 => decide); (case c2 => exact rfl); (case c3 => exact rfl); (case c4 => exact rfl)))
local macro_rules | `(tactic| walk_at "my V") => `(tactic| (refine wpAny_call ?_; refine' enterV ?k3 ?k5 ?k6 ?k7 ?k8 ?kP ?kG ?kB ?_ ?c2 ?c3 ?c4 ?c5; (case k3 => k_asm); (case k5 => k_asm); (case k6 => k_is); (case k7 => k_is); (case k8 => k_room); (case kP => exact rfl); (case kG => exact fun _ => rfl); (case kB => exact fun _ => locs rfl); (case c5 => decide); (case c2 => exact rfl); (case c3 => exact rfl); (case c4 => exact rfl)))
local macro_rules | `(tactic| k_inst) => `(tactic| (refine' InstAt_of_get ?a ?b; (case a => exact Fr.keep (by k_asm) _ _ (by assumption)); (case b => exact Fr.keep (by k_asm) _ _ (by assumption))))
local macro_rules | `(tactic| walk_at "eval Call Attribute") => `(tactic| (k_here; (with_reducible show wpAny _ _ (eval (Expr.Call (Expr.Attribute _ _ _) [Expr.Starred _ _] [] _) _) _ _ _); refine starMethod ?_))
local macro_rules | `(tactic| walk_at "getAttr ref") => `(tactic| (k_here; k_dflt (refine' attr_sm ?k1 ?k2 ?k4 ?k5 ?k6 ?k7 ?k9 ?k10 ?k11 ?k12 ?k13 ?k14 ?_; (case k1 => k_asm); (case k2 => k_asm); (case k4 => k_inst); (case k5 => k_is); (case k6 => k_is); (case k7 => k_is); (case k9 => k_is); (case k10 => k_is); (case k11 => decide +kernel); (case k12 => k_get); (case k13 => k_is); (case k14 => k_handed); k_whole)))
local macro_rules | `(tactic| walk_at "callWith ref") => `(tactic| (k_here; (with_reducible show wpAny _ _ (callWith _ (Value.ref _) _ (backTo _ (starEach [Expr.Starred _ _] _)) []) _ _ _); k_dflt (refine' callWith_SM ?k1 ?k2 ?k3 ?k4 ?_; (case k1 => k_asm); (case k2 => k_asm); (case k3 => k_mem); (case k4 => k_is); k_whole)))
local macro_rules | `(tactic| walk_at "callWith ref") => `(tactic| (k_here; (with_reducible show wpAny _ _ (callWith _ (Value.ref _) _ (backTo _ (starEach [Expr.Starred _ _] _)) []) _ _ _); k_dflt (refine' callWith_SI ?k1 ?k2 ?k3 ?k4 ?_; (case k1 => k_in); (case k2 => k_inst); (case k3 => rfl); (case k4 => k_is); k_whole)))
local macro_rules | `(tactic| walk_at "my drop") => `(tactic| (repeat (first | ((rename News _ _ _ _ => Nx); clear Nx) | ((rename Fr _ _ _ _ => Fx); clear Fx))))
local macro_rules | `(tactic| walk_at "my stops") => `(tactic| ((fail_if_success (with_reducible show wpAny _ _ (call (Value.builtin "all") _) _ _ _)); (fail_if_success (with_reducible show wpAny _ _ (call (Value.builtin "max") _) _ _ _)); (fail_if_success (with_reducible show wpAny _ _ (call (Value.ref _) _) _ _ _)); (fail_if_success (with_reducible show wpAny _ _ (call (Value.type "map") _) _ _ _)); (fail_if_success (with_reducible show wpAny _ _ (exec (PySem.Stmt.For _ _ _ _ _) _) _ _ _)); (fail_if_success (with_reducible show wpAny _ _ (getMethod (Value.ref _) _ _) _ _ _)); (fail_if_success (with_reducible show wpAny _ _ (inplaceOp _ _ _) _ _ _)); (fail_if_success (with_reducible show wpAny _ _ (subscriptTail _ (PySem.Expr.Slice _ _ _ _) _ _) _ _ _)); (fail_if_success (with_reducible show Exists _))))
local macro_rules | `(tactic| walk_at "my walk") => `(tactic| (repeat' (walk_at "my stops"; first | (k_unfold; (try dsimp only)) | walk1 | (dsimp only; first | walk1 | (k_unfold; try dsimp only)) | (leave1; walk_say "STEP leave1"; try dsimp only))))
section
variable {w : World} {s : Shared} {p : Program} {loose : List Str} {mg mb : Str → Option Value} {base : Heap} {outer : List Env} {gd : Option (List Code)} {A₀ : Around} {Q E : Value → Shared → Prop}

local macro_rules | `(tactic| walk_at "my VD") => `(tactic| (refine' enterV ?k3 ?k5 ?k6 ?k7 ?k8 ?kP ?kG ?kB ?_ ?c2 ?c3 ?c4 ?c5; (case k3 => k_asm); (case k5 => k_asm); (case k6 => k_is); (case k7 => k_is); (case k8 => k_room); (case kP => exact rfl); (case kG => exact fun _ => rfl); (case kB => exact fun _ => locs rfl); (case c5 => decide); (case c2 => exact rfl); (case c3 => exact rfl); (case c4 => exact rfl)))
theorem News.cons {h₀ h : Heap} {L : Addr} {news : List (Addr × Obj)} {x : Addr} {o : Obj} (N : News h₀ L h news) (h1 : h.get? x = some o) (h2 : x ≠ L) (h3 : h₀.get? x = none) : News h₀ L h ((x, o) :: news) := fun p hp => by
  rcases List.mem_cons.mp hp with rfl | hp
  · exact ⟨h1, h2, h3⟩
  · exact N p hp
theorem interC {R0 : Result → Shared → Prop} {K : Type} [DecidableEq K] {kk : KK PySem.Challenge.rw_ah5040_01.prog w K} {se x dx y dy : Addr} {o o' : Obj} {xs ys : Con K} {f f' : K → Nat}
    (X : (Mine.hd.heap_39 w.params).In s.heap) (T : TopRead p loose mg mb s.heap) (c : Ctr kk s.heap x dx o xs) (c' : Ctr kk s.heap y dy o' ys) (hn : xs.length ≤ 1000) (hf : CntOf xs f) (hf' : CntOf ys f')
    (h : ∀ x' dx' o' zs h' tk', s.heap.StaysIn h' → s.heap.get? x' = none → s.heap.get? dx' = none → x' ≠ dx' → Ctr kk h' x' dx' o' zs → CntOf zs (fun k => min (f k) (f' k)) → zs.length ≤ 1000 → KSub zs xs → R0 (.ok (.ret (.ref x'))) { s with heap := h', toks := tk' }) :
    codeAny (model PySem.Challenge.rw_ah5040_01.prog w) (QD 40 outer gd) (.call (.ref 177) ⟨[.ref se, .ref x, .ref y], []⟩) R0 s := by
  walk_at "my VD"
  intro D' L' h' F' N'
  (try dsimp only); (show wpAny _ _ _ _ _ _); k_fold
  replace N' : News s.heap L' h' [(D', { cls := .type "tuple", data := .seq #[.ref x, .ref y] })] := N'
  have c1 := c.stays F'.keep
  walk_at "my walk"
  refine ctr_copy X F'.keep c1.at_ c1.cls c1.dict c1.no c1.dx ?_
  dsimp only
  walk_at "my walk"
  rename Fr _ _ _ _ => F1
  rename News _ _ _ _ => N1
  refine wpAny_le (copyC (X.keeps F1.keep) (T.keeps F1.keep) (c.stays F1.keep) hn fun x2 dx2 o2 h2 tk2 st n1 n2 ne c2 => ?_) (Nat.le_of_ble_eq_true rfl) (Nat.le_of_ble_eq_true rfl)
  have F2 := fr_stays F1 st
  have nb : ∀ {b : Addr}, h'.get? b = none → s.heap.get? b = none := fun {b} e => by
    cases q : s.heap.get? b with
    | none => rfl
    | some o => rw [F1.keep _ _ q] at e; cases e
  have l0 := F1.ns.lt
  have N2 : News s.heap L' h2 [(x2, o2), (dx2, emptyDict), (D', { cls := .type "tuple", data := .seq #[.ref x, .ref y] })] := fun p hp => by
    have nl : ∀ {b : Addr}, h'.get? b = none → b ≠ L' := fun {b} e q => by
      obtain ⟨oL, _, _, hoL, _⟩ := F1.ns; rw [← q] at hoL; rw [show h'.get? b = none from e] at hoL; cases hoL
    simp only [List.mem_cons, List.not_mem_nil, or_false] at hp
    rcases hp with rfl | rfl | rfl
    · exact ⟨c2.at_, nl n1, nb n1⟩
    · exact ⟨c2.dx, nl n2, nb n2⟩
    · exact ⟨st _ _ (N1 _ (.head _)).1, (N1 _ (.head _)).2⟩
  clear F1 N1
  dsimp only
  walk_at "my walk"
  rename Fr _ _ _ _ => F5
  rename News _ _ _ _ => N5
  refine wpAny_For ?_
  walk_at "my walk"
  have l5 := fun p hp => Heap.lt_size (N5 p hp).1
  refine slice_tuple_from F5 N5 ⟨_, (N5 _ (.tail _ (.tail _ (.head _)))).1, rfl, _, rfl⟩ (Nat.le_refl 1) (by simp) fun h6 F6 N6 => ?_
  clear F5 N5
  refine for_tup (x := Str.ofString "s") (its := #[.ref y]) (g := s.heap) rfl ⟨_, rfl⟩ rfl rfl rfl (fun i m news => (∀ z, z ≠ Str.ofString "s" → z ≠ Str.ofString "intersection" → m z = [(Str.ofString "sequences", Value.ref D'), (Str.ofString "self", Value.ref se)].lookup z) ∧ ∃ x3 dx3 o3 xs3, m (Str.ofString "intersection") = some (.ref x3) ∧ (x3, o3) ∈ news ∧ (dx3, emptyDict) ∈ news ∧ o3.cls = .ref 79 ∧ o3.dict = some dx3 ∧ o3.slots = #[] ∧ EO kk o3 xs3 ∧ (x3 == sysModules) = false ∧ x3 ≠ dx3 ∧ xs3.length ≤ 1000 ∧ (∀ z ∈ xs3, kk.is s.heap z.1 z.2.1) ∧ CntOf xs3 (if i = 0 then f else fun k => min (f k) (f' k)) ∧ KSub xs3 xs)
    F6 N6 (fun p hp => Nat.ne_of_lt (Nat.lt_succ_of_lt (l5 p hp))) ⟨fun z h1 h2 => by rw [if_neg h2]; rfl, x2, dx2, o2, xs, rfl, .head _, .tail _ (.head _), c2.cls, c2.dict, c2.slots, c2.eo, c2.lo, ne, hn, c.keys, hf, fun z hz => ⟨z, hz, rfl, rfl⟩⟩ ?_ ?_
  · rintro I oI i u m news h7 tk7 hu ⟨hm, x3, dx3, o3, xs3, hmi, m1, m2, m3, m4, m5, m6, m7, m8, m9, m10, m11, m12⟩ hI F7 N7
    have hi0 : i = 0 := by
      have := (Array.getElem?_eq_some_iff.mp hu).1
      simp at this; exact this
    subst hi0
    obtain rfl : Value.ref y = u := Option.some.inj hu
    have hF : (fun z => if z = Str.ofString "s" then some (Value.ref y) else m z) = (fun z => if z = Str.ofString "s" then some (.ref y) else if z = Str.ofString "intersection" then some (.ref x3) else [(Str.ofString "sequences", Value.ref D'), (Str.ofString "self", Value.ref se)].lookup z) := funext fun z => by
      by_cases h1 : z = Str.ofString "s"
      · rw [if_pos h1, if_pos h1]
      · rw [if_neg h1, if_neg h1]
        by_cases h2 : z = Str.ofString "intersection"
        · rw [if_pos h2, h2, hmi]
        · rw [if_neg h2, hm z h1 h2]
    replace F7 : Fr s.heap L' h7 (fun z => if z = Str.ofString "s" then some (Value.ref y) else m z) := F7
    rw [hF] at F7
    clear F6 N6
    dsimp only
    walk_at "my walk"
    have c3 : Ctr kk h7 x3 dx3 o3 xs3 := ⟨(N7 _ (.tail _ (.tail _ m1))).1, m3, m4, m5, (N7 _ (.tail _ (.tail _ m2))).1, m6, fun z hz => kk.mono (m10 z hz) fun b o _ _ e _ => F7.keep b o e, m7⟩
    have c7 := c'.stays F7.keep
    refine iand_K (K := Mine.hd.heap_39 w.params) (C := 79) (od := some emptyDict) (f := 54) (X.keeps F7.keep) ⟨c3.at_, c3.cls, c3.no, by rw [c3.dict]; exact c3.dx⟩ (c7.cls ▸ (Looks.ld c7.at_).andThen .now) (by k_is) (no_iand (X.keeps F7.keep)) (by k_is) (by k_is) ?_
    refine wpAny_le (andC (X.keeps F7.keep) (T.keeps F7.keep) c3 c7 m9 m11 hf' fun x4 dx4 o4 zs h8 tk8 st8 k1 k2 k3 c4 hz hzl hsub => ?_) (Nat.le_of_ble_eq_true rfl) (Nat.le_of_ble_eq_true rfl)
    have F8 := fr_stays F7 st8
    have nL : ∀ {b : Addr}, h7.get? b = none → b ≠ L' := fun {b} e q => by
      obtain ⟨oL, _, _, hoL, _⟩ := F7.ns; rw [← q, e] at hoL; cases hoL
    have nb7 : ∀ {b : Addr}, h7.get? b = none → s.heap.get? b = none := fun {b} e => by
      cases q : s.heap.get? b with
      | none => rfl
      | some o => rw [F7.keep _ _ q] at e; cases e
    have N8 := news_stays N7 st8
    have N9 := News.cons (News.cons N8 c4.dx (nL k2) (nb7 k2)) c4.at_ (nL k1) (nb7 k1)
    have nn : ∀ {b : Addr}, h7.get? b = none → ∀ p : Addr × Obj, p ∈ _ → p.1 ≠ b := fun {b} e p hp q => by
      have := (N7 p hp).1; rw [q, e] at this; cases this
    clear F7 N7 N8
    dsimp only [PySem.W.CmpBack]
    walk_at "my walk"
    rename Fr _ _ _ _ => F9
    rename News _ _ _ _ => N10
    dsimp only
    refine ⟨_, _, _, (x4, o4) :: (dx4, emptyDict) :: news, rfl, F9, fun p hp => ?_, fun p hp => ?_, fun z h1 h2 => (by rw [if_neg h2, if_neg h1, if_neg h2]), x4, dx4, o4, zs, rfl, .head _, .tail _ (.head _), c4.cls, c4.dict, c4.slots, c4.eo, c4.lo, k3, hzl, fun z hz => ?_, by simpa using hz, fun z hz => ?_⟩
    · simp only [List.mem_cons] at hp
      rcases hp with rfl | rfl | rfl | rfl | hp
      · exact N10 _ (.tail _ (.tail _ (.head _)))
      · exact N10 _ (.tail _ (.tail _ (.tail _ (.head _))))
      · exact N10 _ (.head _)
      · exact N10 _ (.tail _ (.head _))
      · exact N10 _ (.tail _ (.tail _ (.tail _ (.tail _ hp))))
    · simp only [List.mem_cons] at hp
      rcases hp with rfl | rfl | hp
      · exact ⟨Ne.symm (nn k1 _ (.head _)), Ne.symm (nn k1 _ (.tail _ (.head _)))⟩
      · exact ⟨Ne.symm (nn k2 _ (.head _)), Ne.symm (nn k2 _ (.tail _ (.head _)))⟩
      · exact hI p hp
    · obtain ⟨z', hz', e1, e2⟩ := hsub z hz
      rw [← e1, ← e2]; exact m10 z' hz'
    · obtain ⟨z', hz', e1, e2⟩ := hsub z hz
      obtain ⟨z'', hz'', e3, e4⟩ := m12 z' hz'
      exact ⟨z'', hz'', e3.trans e1, e4.trans e2⟩
  · rintro m news h7 tk7 ⟨hm, x3, dx3, o3, xs3, hmi, m1, m2, m3, m4, m5, m6, m7, m8, m9, m10, m11, m12⟩ F7 N7
    have hF : m = (fun z => if z = Str.ofString "intersection" then some (.ref x3) else m z) := funext fun z => by
      by_cases h2 : z = Str.ofString "intersection"
      · rw [if_pos h2, h2, hmi]
      · rw [if_neg h2]
    replace F7 : Fr s.heap L' h7 m := F7
    rw [hF] at F7
    clear F6 N6
    dsimp only
    (show wpAny _ _ _ _ _ _)
    walk_at "my walk"
    exact h x3 dx3 o3 xs3 h7 tk7 F7.keep (N7 _ m1).2.2 (N7 _ m2).2.2 m8 ⟨(N7 _ m1).1, m3, m4, m5, (N7 _ m2).1, m6, fun z hz => kk.mono (m10 z hz) fun b o _ _ e _ => F7.keep b o e, m7⟩ m11 m9 m12
end
end Mine
end
-- I1
section
open PySem PySem.W PySem.W.X PyProof.Rows PySem.Calls
set_option maxRecDepth 100000
set_option maxHeartbeats 8000000
namespace Mine
theorem fillI1 : PySem.Challenge.rw_ah5040_01 = PySem.Challenge.rw_ah5040_01 ∧ Mine.hd.heap_39 = Mine.hd.heap_39 := by
  k_fill
  exact ⟨rfl, rfl⟩
local macro_rules | `(tactic| walk_at "my S") => `(tactic| (refine wpAny_call ?_; refine' enterS ?k3 ?k5 ?k6 ?k7 ?k8 ?k9 ?kB ?_ ?c2 ?c3 ?c4 ?c5; (case k3 => k_asm); (case k5 => k_asm); (case k6 => k_is); (case k7 => k_is); (case k8 => k_room); (case k9 => first | exact BindsTo.of_eq rfl | exact binds_K (by k_in) rfl (by k_is) rfl rfl rfl); (case kB => exact locs rfl); (case c5 => decide); (case c2 => exact rfl); (case c3 => exact rfl); (case c4 => exact rfl)))
local macro_rules | `(tactic| walk_at "my V") => `(tactic| (refine wpAny_call ?_; refine' enterV ?k3 ?k5 ?k6 ?k7 ?k8 ?kP ?kG ?kB ?_ ?c2 ?c3 ?c4 ?c5; (case k3 => k_asm); (case k5 => k_asm); (case k6 => k_is); (case k7 => k_is); (case k8 => k_room); (case kP => exact rfl); (case kG => exact fun _ => rfl); (case kB => exact fun _ => locs rfl); (case c5 => decide); (case c2 => exact rfl); (case c3 => exact rfl); (case c4 => exact rfl)))
local macro_rules | `(tactic| k_inst) => `(tactic| (refine' InstAt_of_get ?a ?b; (case a => exact Fr.keep (by k_asm) _ _ (by assumption)); (case b => exact Fr.keep (by k_asm) _ _ (by assumption))))
local macro_rules | `(tactic| walk_at "eval Call Attribute") => `(tactic| (k_here; (with_reducible show wpAny _ _ (eval (Expr.Call (Expr.Attribute _ _ _) [Expr.Starred _ _] [] _) _) _ _ _); refine starMethod ?_))
local macro_rules | `(tactic| walk_at "getAttr ref") => `(tactic| (k_here; k_dflt (refine' attr_sm ?k1 ?k2 ?k4 ?k5 ?k6 ?k7 ?k9 ?k10 ?k11 ?k12 ?k13 ?k14 ?_; (case k1 => k_asm); (case k2 => k_asm); (case k4 => k_inst); (case k5 => k_is); (case k6 => k_is); (case k7 => k_is); (case k9 => k_is); (case k10 => k_is); (case k11 => decide +kernel); (case k12 => k_get); (case k13 => k_is); (case k14 => k_handed); k_whole)))
local macro_rules | `(tactic| walk_at "callWith ref") => `(tactic| (k_here; (with_reducible show wpAny _ _ (callWith _ (Value.ref _) _ (backTo _ (starEach [Expr.Starred _ _] _)) []) _ _ _); k_dflt (refine' callWith_SM ?k1 ?k2 ?k3 ?k4 ?_; (case k1 => k_asm); (case k2 => k_asm); (case k3 => k_mem); (case k4 => k_is); k_whole)))
local macro_rules | `(tactic| walk_at "callWith ref") => `(tactic| (k_here; (with_reducible show wpAny _ _ (callWith _ (Value.ref _) _ (backTo _ (starEach [Expr.Starred _ _] _)) []) _ _ _); k_dflt (refine' callWith_SI ?k1 ?k2 ?k3 ?k4 ?_; (case k1 => k_in); (case k2 => k_inst); (case k3 => rfl); (case k4 => k_is); k_whole)))
local macro_rules | `(tactic| walk_at "eval Name") => `(tactic| (k_here; k_dflt (refine' ld ?k1 ?k2 ?_; (case k1 => k_asm); (case k2 => first | exact rfl | assumption); k_whole)))
local macro_rules | `(tactic| walk_at "my drop") => `(tactic| (repeat (first | ((rename News _ _ _ _ => Nx); clear Nx) | ((rename Fr _ _ _ _ => Fx); clear Fx))))
local macro_rules | `(tactic| walk_at "my stops") => `(tactic| ((fail_if_success (with_reducible show wpAny _ _ (call (Value.builtin "max") _) _ _ _)); (fail_if_success (with_reducible show wpAny _ _ (call (Value.ref _) _) _ _ _)); (fail_if_success (with_reducible show wpAny _ _ (call (Value.type "map") _) _ _ _)); (fail_if_success (with_reducible show Exists _))))
local macro_rules | `(tactic| walk_at "my walk") => `(tactic| (repeat' (walk_at "my stops"; first | (k_unfold; (try dsimp only)) | walk1 | (dsimp only; first | walk1 | (k_unfold; try dsimp only)) | (leave1; walk_say "STEP leave1"; try dsimp only))))
section
variable {w : World} {s : Shared} {p : Program} {loose : List Str} {mg mb : Str → Option Value} {base : Heap} {outer : List Env} {gd : Option (List Code)} {A₀ : Around} {Q E : Value → Shared → Prop}

theorem initL0 {g : Heap} {x dx : Addr} {RR : Result → Shared → Prop} 
    (X : (Mine.hd.heap_39 w.params).In g) (T : TopRead p loose mg mb g) (hg : g.StaysIn s.heap) (hz : g.objs.size ≤ s.heap.objs.size) (hx : s.heap.get? x = some (instObj 244 dx)) (hdx : s.heap.get? dx = some emptyDict) (hxd : @Ne Nat x dx) (gx : g.get? x = none) (gdx : g.get? dx = none)
    (h : ∀ h' tk' q1 t1 t0 q2 t2 q3 t3 vx ep, g.StaysIn h' → h'.get? x = some ⟨.ref 244, some dx, .plain, #[]⟩ → h'.get? dx = some (dictOf [⟨q1, .str (Str.ofString "qval") t1, .int 1 t0⟩, ⟨q2, .str (Str.ofString "test_func") t2, .ref 157⟩, ⟨q3, .str (Str.ofString "external") t3, vx⟩] ep) → RR (.ok (.ret .none)) { s with heap := h', toks := tk' }) :
    codeAny (model PySem.Challenge.rw_ah5040_01.prog w) (QD 24 outer gd) (.call (.ref 220) ⟨[.ref x], []⟩) RR s := by
  have X0 := X.keeps hg
  have T0 := T.keeps hg
  refine' enterS ?k3 ?k5 ?k6 ?k7 ?k8 ?k9 ?kB ?_ ?c2 ?c3 ?c4 ?c5
  case k3 => exact X0
  case k5 => exact T0
  case k6 => k_is
  case k7 => k_is
  case k8 => k_room
  case k9 => first | exact BindsTo.of_eq rfl | exact binds_K (by exact X0) rfl (by k_is) rfl rfl rfl
  case kB => exact locs rfl
  case c5 => decide
  case c2 => exact rfl
  case c3 => exact rfl
  case c4 => exact rfl
  intro L' h' F' N'
  (try dsimp only); (show wpAny _ _ _ _ _ _); k_fold
  have F1 := Fr.down F' hg hz
  have N1 : News g L' h' [(x, instObj 244 dx), (dx, emptyDict)] := by
    intro p hp
    have hL : ∀ b o, s.heap.get? b = some o → b ≠ L' := fun b o e q => by
      have := Heap.get?_none_of_le F'.above
      rw [← q, e] at this; cases this
    simp only [List.mem_cons, List.not_mem_nil, or_false] at hp
    rcases hp with rfl | rfl
    · exact ⟨F'.keep _ _ hx, hL _ _ hx, gx⟩
    · exact ⟨F'.keep _ _ hdx, hL _ _ hdx, gdx⟩
  clear F' N' X0 T0
  walk_at "my walk"
  rename Fr _ _ _ _ => F2
  rename News _ _ _ _ => N2
  exact h _ _ _ _ _ _ _ _ _ _ _ F2.keep (N2 _ (.head _)).1 (N2 _ (.tail _ (.head _))).1
theorem mkL0 (X : (Mine.hd.heap_39 w.params).In s.heap) (T : TopRead p loose mg mb s.heap)
    (h : ∀ x dx h' tk' q1 t1 t0 q2 t2 q3 t3 vx ep, s.heap.StaysIn h' → s.heap.get? x = none → s.heap.get? dx = none → @Ne Nat x dx → h'.get? x = some ⟨.ref 244, some dx, .plain, #[]⟩ → h'.get? dx = some (dictOf [⟨q1, .str (Str.ofString "qval") t1, .int 1 t0⟩, ⟨q2, .str (Str.ofString "test_func") t2, .ref 157⟩, ⟨q3, .str (Str.ofString "external") t3, vx⟩] ep) → Q (.ref x) { s with heap := h', toks := tk' }) :
    wpAny (model PySem.Challenge.rw_ah5040_01.prog w) (QD 20 outer gd) (call (.ref 244) [] []) Q E s := by
  refine wpAny_call ?_
  obtain ⟨hh, gg, dd, tt, os⟩ := s
  dsimp only at X T h
  refine make_core (makes_of X (by k_is)) (looks_findIn X (by k_is)) (fun self => bind_fn X self (by k_is)) (.inl rfl) ?_
  have e1 : ((hh.push emptyDict).push (instObj 244 hh.objs.size)).get? (hh.objs.size + 1) = some (instObj 244 hh.objs.size) := by heap_get
  have e2 : ((hh.push emptyDict).push (instObj 244 hh.objs.size)).get? hh.objs.size = some emptyDict := by heap_get
  refine codeAny_le (initL0 (x := hh.objs.size + 1) (dx := hh.objs.size) X T (fun b o e => Heap.get?_push_of_some _ (Heap.get?_push_of_some _ e)) ?_ e1 e2 (Nat.succ_ne_self _) ?_ (get_size_none _) fun h' tk' q1 t1 t0 q2 t2 q3 t3 vx ep st a1 a2 => ?_) (Nat.le_of_ble_eq_true rfl) (Nat.le_of_ble_eq_true rfl)
  · rw [Heap.size_push, Heap.size_push]; exact Nat.le_succ_of_le (Nat.le_succ _)
  · exact Heap.get?_none_of_le (Nat.le_succ _)
  · exact ⟨rfl, h _ _ h' tk' q1 t1 t0 q2 t2 q3 t3 vx ep st (Heap.get?_none_of_le (Nat.le_succ _)) (get_size_none _) (Nat.succ_ne_self _) a1 a2⟩

theorem initLQ {g : Heap} {x dx : Addr} {RR : Result → Shared → Prop} {q : Nat} {tq : Tok} 
    (X : (Mine.hd.heap_39 w.params).In g) (T : TopRead p loose mg mb g) (hg : g.StaysIn s.heap) (hz : g.objs.size ≤ s.heap.objs.size) (hx : s.heap.get? x = some (instObj 244 dx)) (hdx : s.heap.get? dx = some emptyDict) (hxd : @Ne Nat x dx) (gx : g.get? x = none) (gdx : g.get? dx = none)
    (h : ∀ h' tk' q1 t1 t0 q2 t2 q3 t3 vx ep, g.StaysIn h' → h'.get? x = some ⟨.ref 244, some dx, .plain, #[]⟩ → h'.get? dx = some (dictOf [⟨q1, .str (Str.ofString "qval") t1, .int (q : Nat) t0⟩, ⟨q2, .str (Str.ofString "test_func") t2, .ref 157⟩, ⟨q3, .str (Str.ofString "external") t3, vx⟩] ep) → RR (.ok (.ret .none)) { s with heap := h', toks := tk' }) :
    codeAny (model PySem.Challenge.rw_ah5040_01.prog w) (QD 24 outer gd) (.call (.ref 220) ⟨[.ref x], [(Str.ofString "qval", .int (q : Nat) tq)]⟩) RR s := by
  have X0 := X.keeps hg
  have T0 := T.keeps hg
  refine' enterS ?k3 ?k5 ?k6 ?k7 ?k8 ?k9 ?kB ?_ ?c2 ?c3 ?c4 ?c5
  case k3 => exact X0
  case k5 => exact T0
  case k6 => k_is
  case k7 => k_is
  case k8 => k_room
  case k9 => first | exact BindsTo.of_eq rfl | exact binds_K (by exact X0) rfl (by k_is) rfl rfl rfl
  case kB => exact locs rfl
  case c5 => decide
  case c2 => exact rfl
  case c3 => exact rfl
  case c4 => exact rfl
  intro L' h' F' N'
  (try dsimp only); (show wpAny _ _ _ _ _ _); k_fold
  have F1 := Fr.down F' hg hz
  have N1 : News g L' h' [(x, instObj 244 dx), (dx, emptyDict)] := by
    intro p hp
    have hL : ∀ b o, s.heap.get? b = some o → b ≠ L' := fun b o e q => by
      have := Heap.get?_none_of_le F'.above
      rw [← q, e] at this; cases this
    simp only [List.mem_cons, List.not_mem_nil, or_false] at hp
    rcases hp with rfl | rfl
    · exact ⟨F'.keep _ _ hx, hL _ _ hx, gx⟩
    · exact ⟨F'.keep _ _ hdx, hL _ _ hdx, gdx⟩
  clear F' N' X0 T0
  walk_at "my walk"
  rename Fr _ _ _ _ => F2
  rename News _ _ _ _ => N2
  exact h _ _ _ _ _ _ _ _ _ _ _ F2.keep (N2 _ (.head _)).1 (N2 _ (.tail _ (.head _))).1
theorem mkLQ {q : Nat} {tq : Tok} (X : (Mine.hd.heap_39 w.params).In s.heap) (T : TopRead p loose mg mb s.heap)
    (h : ∀ x dx h' tk' q1 t1 t0 q2 t2 q3 t3 vx ep, s.heap.StaysIn h' → s.heap.get? x = none → s.heap.get? dx = none → @Ne Nat x dx → h'.get? x = some ⟨.ref 244, some dx, .plain, #[]⟩ → h'.get? dx = some (dictOf [⟨q1, .str (Str.ofString "qval") t1, .int (q : Nat) t0⟩, ⟨q2, .str (Str.ofString "test_func") t2, .ref 157⟩, ⟨q3, .str (Str.ofString "external") t3, vx⟩] ep) → Q (.ref x) { s with heap := h', toks := tk' }) :
    wpAny (model PySem.Challenge.rw_ah5040_01.prog w) (QD 20 outer gd) (call (.ref 244) [] [(Str.ofString "qval", .int (q : Nat) tq)]) Q E s := by
  refine wpAny_call ?_
  obtain ⟨hh, gg, dd, tt, os⟩ := s
  dsimp only at X T h
  refine make_core (makes_of X (by k_is)) (looks_findIn X (by k_is)) (fun self => bind_fn X self (by k_is)) (.inl rfl) ?_
  have e1 : ((hh.push emptyDict).push (instObj 244 hh.objs.size)).get? (hh.objs.size + 1) = some (instObj 244 hh.objs.size) := by heap_get
  have e2 : ((hh.push emptyDict).push (instObj 244 hh.objs.size)).get? hh.objs.size = some emptyDict := by heap_get
  refine codeAny_le (initLQ (x := hh.objs.size + 1) (dx := hh.objs.size) X T (fun b o e => Heap.get?_push_of_some _ (Heap.get?_push_of_some _ e)) ?_ e1 e2 (Nat.succ_ne_self _) ?_ (get_size_none _) fun h' tk' q1 t1 t0 q2 t2 q3 t3 vx ep st a1 a2 => ?_) (Nat.le_of_ble_eq_true rfl) (Nat.le_of_ble_eq_true rfl)
  · rw [Heap.size_push, Heap.size_push]; exact Nat.le_succ_of_le (Nat.le_succ _)
  · exact Heap.get?_none_of_le (Nat.le_succ _)
  · exact ⟨rfl, h _ _ h' tk' q1 t1 t0 q2 t2 q3 t3 vx ep st (Heap.get?_none_of_le (Nat.le_succ _)) (get_size_none _) (Nat.succ_ne_self _) a1 a2⟩

theorem initD0 {g : Heap} {x dx : Addr} {RR : Result → Shared → Prop} 
    (X : (Mine.hd.heap_39 w.params).In g) (T : TopRead p loose mg mb g) (hg : g.StaysIn s.heap) (hz : g.objs.size ≤ s.heap.objs.size) (hx : s.heap.get? x = some (instObj 285 dx)) (hdx : s.heap.get? dx = some emptyDict) (hxd : @Ne Nat x dx) (gx : g.get? x = none) (gdx : g.get? dx = none)
    (h : ∀ h' tk' q1 t1 t0 q2 t2 q3 t3 vx q4 t4 ep, g.StaysIn h' → h'.get? x = some ⟨.ref 285, some dx, .plain, #[]⟩ → h'.get? dx = some (dictOf [⟨q1, .str (Str.ofString "qval") t1, .int 1 t0⟩, ⟨q2, .str (Str.ofString "test_func") t2, .ref 157⟩, ⟨q3, .str (Str.ofString "external") t3, vx⟩, ⟨q4, .str (Str.ofString "restricted") t4, .bool false⟩] ep) → RR (.ok (.ret .none)) { s with heap := h', toks := tk' }) :
    codeAny (model PySem.Challenge.rw_ah5040_01.prog w) (QD 24 outer gd) (.call (.ref 261) ⟨[.ref x], [(Str.ofString "restricted", .bool false)]⟩) RR s := by
  have X0 := X.keeps hg
  have T0 := T.keeps hg
  refine' enterS ?k3 ?k5 ?k6 ?k7 ?k8 ?k9 ?kB ?_ ?c2 ?c3 ?c4 ?c5
  case k3 => exact X0
  case k5 => exact T0
  case k6 => k_is
  case k7 => k_is
  case k8 => k_room
  case k9 => first | exact BindsTo.of_eq rfl | exact binds_K (by exact X0) rfl (by k_is) rfl rfl rfl
  case kB => exact locs rfl
  case c5 => decide
  case c2 => exact rfl
  case c3 => exact rfl
  case c4 => exact rfl
  intro L' h' F' N'
  (try dsimp only); (show wpAny _ _ _ _ _ _); k_fold
  have F1 := Fr.down F' hg hz
  have N1 : News g L' h' [(x, instObj 285 dx), (dx, emptyDict)] := by
    intro p hp
    have hL : ∀ b o, s.heap.get? b = some o → b ≠ L' := fun b o e q => by
      have := Heap.get?_none_of_le F'.above
      rw [← q, e] at this; cases this
    simp only [List.mem_cons, List.not_mem_nil, or_false] at hp
    rcases hp with rfl | rfl
    · exact ⟨F'.keep _ _ hx, hL _ _ hx, gx⟩
    · exact ⟨F'.keep _ _ hdx, hL _ _ hdx, gdx⟩
  clear F' N' X0 T0
  walk_at "my walk"
  rename Fr _ _ _ _ => F2
  rename News _ _ _ _ => N2
  exact h _ _ _ _ _ _ _ _ _ _ _ _ _ F2.keep (N2 _ (.head _)).1 (N2 _ (.tail _ (.head _))).1
theorem mkD0 (X : (Mine.hd.heap_39 w.params).In s.heap) (T : TopRead p loose mg mb s.heap)
    (h : ∀ x dx h' tk' q1 t1 t0 q2 t2 q3 t3 vx q4 t4 ep, s.heap.StaysIn h' → s.heap.get? x = none → s.heap.get? dx = none → @Ne Nat x dx → h'.get? x = some ⟨.ref 285, some dx, .plain, #[]⟩ → h'.get? dx = some (dictOf [⟨q1, .str (Str.ofString "qval") t1, .int 1 t0⟩, ⟨q2, .str (Str.ofString "test_func") t2, .ref 157⟩, ⟨q3, .str (Str.ofString "external") t3, vx⟩, ⟨q4, .str (Str.ofString "restricted") t4, .bool false⟩] ep) → Q (.ref x) { s with heap := h', toks := tk' }) :
    wpAny (model PySem.Challenge.rw_ah5040_01.prog w) (QD 20 outer gd) (call (.ref 285) [] [(Str.ofString "restricted", .bool false)]) Q E s := by
  refine wpAny_call ?_
  obtain ⟨hh, gg, dd, tt, os⟩ := s
  dsimp only at X T h
  refine make_core (makes_of X (by k_is)) (looks_findIn X (by k_is)) (fun self => bind_fn X self (by k_is)) (.inl rfl) ?_
  have e1 : ((hh.push emptyDict).push (instObj 285 hh.objs.size)).get? (hh.objs.size + 1) = some (instObj 285 hh.objs.size) := by heap_get
  have e2 : ((hh.push emptyDict).push (instObj 285 hh.objs.size)).get? hh.objs.size = some emptyDict := by heap_get
  refine codeAny_le (initD0 (x := hh.objs.size + 1) (dx := hh.objs.size) X T (fun b o e => Heap.get?_push_of_some _ (Heap.get?_push_of_some _ e)) ?_ e1 e2 (Nat.succ_ne_self _) ?_ (get_size_none _) fun h' tk' q1 t1 t0 q2 t2 q3 t3 vx q4 t4 ep st a1 a2 => ?_) (Nat.le_of_ble_eq_true rfl) (Nat.le_of_ble_eq_true rfl)
  · rw [Heap.size_push, Heap.size_push]; exact Nat.le_succ_of_le (Nat.le_succ _)
  · exact Heap.get?_none_of_le (Nat.le_succ _)
  · exact ⟨rfl, h _ _ h' tk' q1 t1 t0 q2 t2 q3 t3 vx q4 t4 ep st (Heap.get?_none_of_le (Nat.le_succ _)) (get_size_none _) (Nat.succ_ne_self _) a1 a2⟩

theorem initB0 {g : Heap} {x dx : Addr} {RR : Result → Shared → Prop} 
    (X : (Mine.hd.heap_39 w.params).In g) (T : TopRead p loose mg mb g) (hg : g.StaysIn s.heap) (hz : g.objs.size ≤ s.heap.objs.size) (hx : s.heap.get? x = some (instObj 304 dx)) (hdx : s.heap.get? dx = some emptyDict) (hxd : @Ne Nat x dx) (gx : g.get? x = none) (gdx : g.get? dx = none)
    (h : ∀ h' tk' q1 t1 t0 q3 t3 vx ep, g.StaysIn h' → h'.get? x = some ⟨.ref 304, some dx, .plain, #[]⟩ → h'.get? dx = some (dictOf [⟨q1, .str (Str.ofString "qval") t1, .int 1 t0⟩, ⟨q3, .str (Str.ofString "external") t3, vx⟩] ep) → RR (.ok (.ret .none)) { s with heap := h', toks := tk' }) :
    codeAny (model PySem.Challenge.rw_ah5040_01.prog w) (QD 24 outer gd) (.call (.ref 98) ⟨[.ref x], []⟩) RR s := by
  have X0 := X.keeps hg
  have T0 := T.keeps hg
  refine' enterS ?k3 ?k5 ?k6 ?k7 ?k8 ?k9 ?kB ?_ ?c2 ?c3 ?c4 ?c5
  case k3 => exact X0
  case k5 => exact T0
  case k6 => k_is
  case k7 => k_is
  case k8 => k_room
  case k9 => first | exact BindsTo.of_eq rfl | exact binds_K (by exact X0) rfl (by k_is) rfl rfl rfl
  case kB => exact locs rfl
  case c5 => decide
  case c2 => exact rfl
  case c3 => exact rfl
  case c4 => exact rfl
  intro L' h' F' N'
  (try dsimp only); (show wpAny _ _ _ _ _ _); k_fold
  have F1 := Fr.down F' hg hz
  have N1 : News g L' h' [(x, instObj 304 dx), (dx, emptyDict)] := by
    intro p hp
    have hL : ∀ b o, s.heap.get? b = some o → b ≠ L' := fun b o e q => by
      have := Heap.get?_none_of_le F'.above
      rw [← q, e] at this; cases this
    simp only [List.mem_cons, List.not_mem_nil, or_false] at hp
    rcases hp with rfl | rfl
    · exact ⟨F'.keep _ _ hx, hL _ _ hx, gx⟩
    · exact ⟨F'.keep _ _ hdx, hL _ _ hdx, gdx⟩
  clear F' N' X0 T0
  walk_at "my walk"
  rename Fr _ _ _ _ => F2
  rename News _ _ _ _ => N2
  exact h _ _ _ _ _ _ _ _ _ F2.keep (N2 _ (.head _)).1 (N2 _ (.tail _ (.head _))).1
theorem mkB0 (X : (Mine.hd.heap_39 w.params).In s.heap) (T : TopRead p loose mg mb s.heap)
    (h : ∀ x dx h' tk' q1 t1 t0 q3 t3 vx ep, s.heap.StaysIn h' → s.heap.get? x = none → s.heap.get? dx = none → @Ne Nat x dx → h'.get? x = some ⟨.ref 304, some dx, .plain, #[]⟩ → h'.get? dx = some (dictOf [⟨q1, .str (Str.ofString "qval") t1, .int 1 t0⟩, ⟨q3, .str (Str.ofString "external") t3, vx⟩] ep) → Q (.ref x) { s with heap := h', toks := tk' }) :
    wpAny (model PySem.Challenge.rw_ah5040_01.prog w) (QD 20 outer gd) (call (.ref 304) [] []) Q E s := by
  refine wpAny_call ?_
  obtain ⟨hh, gg, dd, tt, os⟩ := s
  dsimp only at X T h
  refine make_core (makes_of X (by k_is)) (looks_findIn X (by k_is)) (fun self => bind_fn X self (by k_is)) (.inl rfl) ?_
  have e1 : ((hh.push emptyDict).push (instObj 304 hh.objs.size)).get? (hh.objs.size + 1) = some (instObj 304 hh.objs.size) := by heap_get
  have e2 : ((hh.push emptyDict).push (instObj 304 hh.objs.size)).get? hh.objs.size = some emptyDict := by heap_get
  refine codeAny_le (initB0 (x := hh.objs.size + 1) (dx := hh.objs.size) X T (fun b o e => Heap.get?_push_of_some _ (Heap.get?_push_of_some _ e)) ?_ e1 e2 (Nat.succ_ne_self _) ?_ (get_size_none _) fun h' tk' q1 t1 t0 q3 t3 vx ep st a1 a2 => ?_) (Nat.le_of_ble_eq_true rfl) (Nat.le_of_ble_eq_true rfl)
  · rw [Heap.size_push, Heap.size_push]; exact Nat.le_succ_of_le (Nat.le_succ _)
  · exact Heap.get?_none_of_le (Nat.le_succ _)
  · exact ⟨rfl, h _ _ h' tk' q1 t1 t0 q3 t3 vx ep st (Heap.get?_none_of_le (Nat.le_succ _)) (get_size_none _) (Nat.succ_ne_self _) a1 a2⟩

theorem initBQ {g : Heap} {x dx : Addr} {RR : Result → Shared → Prop} {q : Nat} {tq : Tok} 
    (X : (Mine.hd.heap_39 w.params).In g) (T : TopRead p loose mg mb g) (hg : g.StaysIn s.heap) (hz : g.objs.size ≤ s.heap.objs.size) (hx : s.heap.get? x = some (instObj 304 dx)) (hdx : s.heap.get? dx = some emptyDict) (hxd : @Ne Nat x dx) (gx : g.get? x = none) (gdx : g.get? dx = none)
    (h : ∀ h' tk' q1 t1 t0 q3 t3 vx ep, g.StaysIn h' → h'.get? x = some ⟨.ref 304, some dx, .plain, #[]⟩ → h'.get? dx = some (dictOf [⟨q1, .str (Str.ofString "qval") t1, .int (q : Nat) t0⟩, ⟨q3, .str (Str.ofString "external") t3, vx⟩] ep) → RR (.ok (.ret .none)) { s with heap := h', toks := tk' }) :
    codeAny (model PySem.Challenge.rw_ah5040_01.prog w) (QD 24 outer gd) (.call (.ref 98) ⟨[.ref x], [(Str.ofString "qval", .int (q : Nat) tq)]⟩) RR s := by
  have X0 := X.keeps hg
  have T0 := T.keeps hg
  refine' enterS ?k3 ?k5 ?k6 ?k7 ?k8 ?k9 ?kB ?_ ?c2 ?c3 ?c4 ?c5
  case k3 => exact X0
  case k5 => exact T0
  case k6 => k_is
  case k7 => k_is
  case k8 => k_room
  case k9 => first | exact BindsTo.of_eq rfl | exact binds_K (by exact X0) rfl (by k_is) rfl rfl rfl
  case kB => exact locs rfl
  case c5 => decide
  case c2 => exact rfl
  case c3 => exact rfl
  case c4 => exact rfl
  intro L' h' F' N'
  (try dsimp only); (show wpAny _ _ _ _ _ _); k_fold
  have F1 := Fr.down F' hg hz
  have N1 : News g L' h' [(x, instObj 304 dx), (dx, emptyDict)] := by
    intro p hp
    have hL : ∀ b o, s.heap.get? b = some o → b ≠ L' := fun b o e q => by
      have := Heap.get?_none_of_le F'.above
      rw [← q, e] at this; cases this
    simp only [List.mem_cons, List.not_mem_nil, or_false] at hp
    rcases hp with rfl | rfl
    · exact ⟨F'.keep _ _ hx, hL _ _ hx, gx⟩
    · exact ⟨F'.keep _ _ hdx, hL _ _ hdx, gdx⟩
  clear F' N' X0 T0
  walk_at "my walk"
  rename Fr _ _ _ _ => F2
  rename News _ _ _ _ => N2
  exact h _ _ _ _ _ _ _ _ _ F2.keep (N2 _ (.head _)).1 (N2 _ (.tail _ (.head _))).1
theorem mkBQ {q : Nat} {tq : Tok} (X : (Mine.hd.heap_39 w.params).In s.heap) (T : TopRead p loose mg mb s.heap)
    (h : ∀ x dx h' tk' q1 t1 t0 q3 t3 vx ep, s.heap.StaysIn h' → s.heap.get? x = none → s.heap.get? dx = none → @Ne Nat x dx → h'.get? x = some ⟨.ref 304, some dx, .plain, #[]⟩ → h'.get? dx = some (dictOf [⟨q1, .str (Str.ofString "qval") t1, .int (q : Nat) t0⟩, ⟨q3, .str (Str.ofString "external") t3, vx⟩] ep) → Q (.ref x) { s with heap := h', toks := tk' }) :
    wpAny (model PySem.Challenge.rw_ah5040_01.prog w) (QD 20 outer gd) (call (.ref 304) [] [(Str.ofString "qval", .int (q : Nat) tq)]) Q E s := by
  refine wpAny_call ?_
  obtain ⟨hh, gg, dd, tt, os⟩ := s
  dsimp only at X T h
  refine make_core (makes_of X (by k_is)) (looks_findIn X (by k_is)) (fun self => bind_fn X self (by k_is)) (.inl rfl) ?_
  have e1 : ((hh.push emptyDict).push (instObj 304 hh.objs.size)).get? (hh.objs.size + 1) = some (instObj 304 hh.objs.size) := by heap_get
  have e2 : ((hh.push emptyDict).push (instObj 304 hh.objs.size)).get? hh.objs.size = some emptyDict := by heap_get
  refine codeAny_le (initBQ (x := hh.objs.size + 1) (dx := hh.objs.size) X T (fun b o e => Heap.get?_push_of_some _ (Heap.get?_push_of_some _ e)) ?_ e1 e2 (Nat.succ_ne_self _) ?_ (get_size_none _) fun h' tk' q1 t1 t0 q3 t3 vx ep st a1 a2 => ?_) (Nat.le_of_ble_eq_true rfl) (Nat.le_of_ble_eq_true rfl)
  · rw [Heap.size_push, Heap.size_push]; exact Nat.le_succ_of_le (Nat.le_succ _)
  · exact Heap.get?_none_of_le (Nat.le_succ _)
  · exact ⟨rfl, h _ _ h' tk' q1 t1 t0 q3 t3 vx ep st (Heap.get?_none_of_le (Nat.le_succ _)) (get_size_none _) (Nat.succ_ne_self _) a1 a2⟩
end
end Mine
end
-- G7
section
open PySem PySem.W PySem.W.X PyProof.Rows PySem.Calls
set_option maxRecDepth 100000
set_option maxHeartbeats 8000000
namespace Mine
theorem fillG7 : PySem.Challenge.rw_ah5040_01 = PySem.Challenge.rw_ah5040_01 ∧ Mine.hd.heap_39 = Mine.hd.heap_39 := by
  k_fill
  exact ⟨rfl, rfl⟩
local macro_rules | `(tactic| walk_at "my S") => `(tactic| (refine wpAny_call ?_; refine' enterS ?k3 ?k5 ?k6 ?k7 ?k8 ?k9 ?kB ?_ ?c2 ?c3 ?c4 ?c5; (case k3 => k_asm); (case k5 => k_asm); (case k6 => k_is); (case k7 => k_is); (case k8 => k_room); (case k9 => first | exact BindsTo.of_eq rfl | exact binds_K (by k_in) rfl (by k_is) rfl rfl rfl); (case kB => exact locs rfl); (case c5 => decide); (case c2 => exact rfl); (case c3 => exact rfl); (case c4 => exact rfl)))
local macro_rules | `(tactic| walk_at "my V") => `(tactic| (refine wpAny_call ?_; refine' enterV ?k3 ?k5 ?k6 ?k7 ?k8 ?kP ?kG ?kB ?_ ?c2 ?c3 ?c4 ?c5; (case k3 => k_asm); (case k5 => k_asm); (case k6 => k_is); (case k7 => k_is); (case k8 => k_room); (case kP => exact rfl); (case kG => exact fun _ => rfl); (case kB => exact fun _ => locs rfl); (case c5 => decide); (case c2 => exact rfl); (case c3 => exact rfl); (case c4 => exact rfl)))
local macro_rules | `(tactic| k_inst) => `(tactic| (refine' InstAt_of_get ?a ?b; (case a => exact Fr.keep (by k_asm) _ _ (by assumption)); (case b => exact Fr.keep (by k_asm) _ _ (by assumption))))
local macro_rules | `(tactic| walk_at "eval Call Attribute") => `(tactic| (k_here; (with_reducible show wpAny _ _ (eval (Expr.Call (Expr.Attribute _ _ _) [Expr.Starred _ _] [] _) _) _ _ _); refine starMethod ?_))
local macro_rules | `(tactic| walk_at "getAttr ref") => `(tactic| (k_here; k_dflt (refine' attr_sm ?k1 ?k2 ?k4 ?k5 ?k6 ?k7 ?k9 ?k10 ?k11 ?k12 ?k13 ?k14 ?_; (case k1 => k_asm); (case k2 => k_asm); (case k4 => k_inst); (case k5 => k_is); (case k6 => k_is); (case k7 => k_is); (case k9 => k_is); (case k10 => k_is); (case k11 => decide +kernel); (case k12 => k_get); (case k13 => k_is); (case k14 => k_handed); k_whole)))
local macro_rules | `(tactic| walk_at "callWith ref") => `(tactic| (k_here; (with_reducible show wpAny _ _ (callWith _ (Value.ref _) _ (backTo _ (starEach [Expr.Starred _ _] _)) []) _ _ _); k_dflt (refine' callWith_SM ?k1 ?k2 ?k3 ?k4 ?_; (case k1 => k_asm); (case k2 => k_asm); (case k3 => k_mem); (case k4 => k_is); k_whole)))
local macro_rules | `(tactic| walk_at "callWith ref") => `(tactic| (k_here; (with_reducible show wpAny _ _ (callWith _ (Value.ref _) _ (backTo _ (starEach [Expr.Starred _ _] _)) []) _ _ _); k_dflt (refine' callWith_SI ?k1 ?k2 ?k3 ?k4 ?_; (case k1 => k_in); (case k2 => k_inst); (case k3 => rfl); (case k4 => k_is); k_whole)))
local macro_rules | `(tactic| walk_at "my drop") => `(tactic| (repeat (first | ((rename News _ _ _ _ => Nx); clear Nx) | ((rename Fr _ _ _ _ => Fx); clear Fx))))
local macro_rules | `(tactic| walk_at "my stops") => `(tactic| ((fail_if_success (with_reducible show wpAny _ _ (call (Value.builtin "all") _) _ _ _)); (fail_if_success (with_reducible show wpAny _ _ (call (Value.builtin "max") _) _ _ _)); (fail_if_success (with_reducible show wpAny _ _ (call (Value.ref _) _) _ _ _)); (fail_if_success (with_reducible show wpAny _ _ (call (Value.type "map") _) _ _ _)); (fail_if_success (with_reducible show wpAny _ _ (call (Value.builtin "max") _) _ _ _)); (fail_if_success (with_reducible show wpAny _ _ (call (Value.builtin "isinstance") _) _ _ _)); (fail_if_success (with_reducible show wpAny _ _ (eval (PySem.Expr.GeneratorExp _ _ _ _) _) _ _ _)); (fail_if_success (with_reducible show wpAny _ _ (binaryOp Operator.Sub _ _) _ _ _)); (fail_if_success (with_reducible show Exists _))))
local macro_rules | `(tactic| walk_at "my walk") => `(tactic| (repeat' (walk_at "my stops"; first | (k_unfold; (try dsimp only)) | walk1 | (dsimp only; first | walk1 | (k_unfold; try dsimp only)) | (leave1; walk_say "STEP leave1"; try dsimp only))))
section
variable {w : World} {s : Shared} {p : Program} {loose : List Str} {mg mb : Str → Option Value} {base : Heap} {outer : List Env} {gd : Option (List Code)} {A₀ : Around} {Q E : Value → Shared → Prop}

local macro_rules | `(tactic| walk_at "eval Name") => `(tactic| (k_here; (with_reducible show wpAny _ _ (eval (Expr.Name (Str.ofString "sequence") _) (genEnv _ _ _ _ _ _)) _ _ _); k_dflt (refine ldVarG (by assumption) (by assumption) ?_)))
local macro_rules | `(tactic| walk_at "eval Name") => `(tactic| (k_here; (with_reducible show wpAny _ _ (eval (Expr.Name (Str.ofString "intersection") _) (genEnv _ _ _ _ _ _)) _ _ _); k_dflt (refine ldFreeG rfl (by assumption) ?_)))
local macro_rules | `(tactic| walk_at "eval Name") => `(tactic| (k_here; (with_reducible show wpAny _ _ (eval (Expr.Name (Str.ofString "self") _) (genEnv _ _ _ _ _ _)) _ _ _); k_dflt (refine ldFreeG rfl (by assumption) ?_)))
theorem grow_news {base h h' : Heap} {L c P : Addr} {ps more : Array Value} {news : List (Addr × Obj)} (B : Based base base c P ps) (B1 : Based base (regrown base P (ps ++ more)) c P (ps ++ more)) (N : News base L h news) (hx : Heap.ExtBut P h h') : News (regrown base P (ps ++ more)) L h' news := fun p hp => by
  obtain ⟨a, b, c⟩ := N p hp
  exact ⟨hx _ _ (fun q => by rw [q, B.tab.2] at c; cases c) a, b, B1.fresh c⟩
theorem fresh_news {base base' h h' : Heap} {L : Addr} {m : Str → Option Value} {ps : List (Addr × Obj)} (F : Fr base L h m) (fr : Fresh h h' ps) (hb : ∀ b, base.get? b = none → base'.get? b = none) : News base' L h' ps := fun p hp => by
  obtain ⟨a, b⟩ := fr p hp
  refine ⟨a, fun q => ?_, hb _ ?_⟩
  · obtain ⟨oL, _, _, hoL, _⟩ := F.ns; rw [q, hoL] at b; cases b
  · cases q : base.get? p.1 with
    | none => rfl
    | some o => rw [F.keep _ _ q] at b; cases b
theorem Ctr.at {K : Type} [DecidableEq K] {kk : KK PySem.Challenge.rw_ah5040_01.prog w K} {h h' : Heap} {x dx : Addr} {o : Obj} {xs : Con K} (c : Ctr kk h x dx o xs) (h1 : h'.get? x = some o) (h2 : h'.get? dx = some emptyDict) (hk : ∀ y ∈ xs, kk.is h' y.1 y.2.1) : Ctr kk h' x dx o xs :=
  ⟨h1, c.cls, c.dict, c.slots, h2, c.eo, hk, c.lo⟩
theorem wpAny_frames {α : Type} {M : Model} {A : Around} {t : Sem α} {Q : α → Shared → Prop} {E : Value → Shared → Prop} {s : Shared} {D : Nat} (hA : A.handled = none) (hD : A.depth ≤ 400 + D) (hU : A.units ≤ 4 * D) (h : ∀ fs, wpAny M (QD D fs none) t Q E s) : wpAny M A t Q E s :=
  fun Γ p hΓ => h _ Γ p ⟨hΓ.1.trans hA, Nat.le_trans hΓ.2.1 hD, fun l hl => by cases hl; rfl, (fun g hg => by cases hg), Nat.le_trans hΓ.2.2.2.2 hU⟩
theorem sum_sub {K : Type} [DecidableEq K] {g : K → Nat} : ∀ {ks l : List K}, l.Nodup → ks.Nodup → (∀ k ∈ l, k ∈ ks) → (∀ k ∈ ks, k ∉ l → g k = 0) → (l.map g).sum = (ks.map g).sum
  | [], l, _, _, h, _ => by
    cases l with
    | nil => rfl
    | cons a l => exact nomatch h a (.head _)
  | k :: ks, l, hl, hk, h1, h2 => by
    rw [List.nodup_cons] at hk
    rw [List.map_cons, List.sum_cons]
    by_cases e : k ∈ l
    · have ih := sum_sub (g := g) (ks := ks) (l := l.erase k) (hl.erase k) hk.2 (fun z hz => by
        rcases List.mem_cons.mp (h1 z (List.mem_of_mem_erase hz)) with q | q
        · subst q; exact absurd hz (List.Nodup.not_mem_erase hl)
        · exact q) (fun z hz hn => h2 z (.tail _ hz) fun hm => hn ((List.mem_erase_of_ne (fun q : z = k => hk.1 (q ▸ hz))).mpr hm))
      rw [← ih]
      have := ((List.perm_cons_erase e).map g).sum_nat
      rw [this, List.map_cons, List.sum_cons]
    · rw [h2 k (.head _) e, Nat.zero_add]
      exact sum_sub hl hk.2 (fun z hz => by
        rcases List.mem_cons.mp (h1 z hz) with q | q
        · subst q; exact absurd hz e
        · exact q) fun z hz hn => h2 z (.tail _ hz) hn
theorem tot_eq {K : Type} [DecidableEq K] {zs : Con K} {g : K → Nat} (h : CntOf zs g) (hz : (zs.map (·.1)).Nodup) {ks : List K} (hnd : ks.Nodup) (hk : ∀ k, 0 < g k → k ∈ ks) : (zs.map fun y => g y.1).sum = (ks.map g).sum := by
  have := sum_sub (g := g) hz hnd (fun k hm => by
    obtain ⟨z, hz, rfl⟩ := List.mem_map.mp hm
    exact hk _ (h.pos z hz)) (fun k _ hn => by
    rcases Nat.eq_zero_or_pos (g k) with c | c
    · exact c
    · obtain ⟨t, e⟩ := (h k).2 c
      exact absurd (cAt_some_iff.mp (by rw [e]; rfl)) hn)
  rw [← this, List.map_map]; rfl
theorem ne_of_new {h : Heap} {a b : Addr} {o : Obj} (h1 : h.get? a = none) (h2 : h.get? b = some o) : @Ne Nat a b := fun q => by rw [q, h2] at h1; cases h1
/-- a table of places grows -/
def Step1 (c P : Addr) (h h' : Heap) : Prop := Heap.ExtBut P h h' ∧ ∀ ps, h.IsCode c P ps → h.TableAt c P ps → ∃ more, h'.IsCode c P (ps ++ more) ∧ h'.TableAt c P (ps ++ more)
def Two (h h' : Heap) : Prop := ∃ hm, Step1 169 167 h hm ∧ Step1 300 296 hm h'
/-- _get_sequences does its work -/
def SeqOk (w : World) (p : Program) (loose : List Str) (mg mb : Str → Option Value) {K : Type} [DecidableEq K] (kk : KK PySem.Challenge.rw_ah5040_01.prog w K) (gd : Option (List Code)) (se : Addr) (v1 v2 : Value) (f1 f2 : K → Nat) (g : Heap) : Prop :=
  ∀ (s' : Shared) (outer' : List Env) (RR : Result → Shared → Prop), (Mine.hd.heap_39 w.params).In s'.heap → TopRead p loose mg mb s'.heap → (∀ b o, b ≠ 167 → g.get? b = some o → s'.heap.get? b = some o) →
      (∀ L c u1 u2 qs h' tk', s'.heap.StaysIn h' → Fresh s'.heap h' ((L, listOf #[u1, u2] c) :: qs) → (∀ g', CondS g qs g' → CSrc _ w kk g' u1 (Holds1 kk f1 (HasAll qs))) → (∀ g', CondS g qs g' → CSrc _ w kk g' u2 (Holds1 kk f2 (HasAll qs))) → RR (.ok (.ret (.ref L))) { s' with heap := h', toks := tk' }) →
      codeAny (model PySem.Challenge.rw_ah5040_01.prog w) (QD 50 outer' gd) (.call (.ref 165) ⟨[.ref se, v1, v2], []⟩) RR s'
theorem callBag {K : Type} [DecidableEq K] {kk : KK PySem.Challenge.rw_ah5040_01.prog w K} {se dse : Addr} {v1 v2 : Value} {q1 q3 : Int} {t1 t3 tq : Tok} {vx : Value} {ep q : Nat} {f1 f2 : K → Nat} {R : Result → Shared → Prop}
    (G : Gr w p loose mg mb s.heap) (GB : AllBare s.gens)
    (hv1 : (∃ x t, v1 = .str x t) ∨ ∃ l o, v1 = .ref l ∧ s.heap.get? l = some o ∧ o.cls = .type "list") (hv2 : (∃ x t, v2 = .str x t) ∨ ∃ l o, v2 = .ref l ∧ s.heap.get? l = some o ∧ o.cls = .type "list")
    (h0 : s.heap.get? se = some ⟨.ref 304, some dse, .plain, #[]⟩) (h9 : s.heap.get? dse = some (dictOf [⟨q1, .str (Str.ofString "qval") t1, .int (q : Nat) tq⟩, ⟨q3, .str (Str.ofString "external") t3, vx⟩] ep))
    (hseq : ∀ g, s.heap.StaysIn g → SeqOk w p loose mg mb kk gd se v1 v2 f1 f2 g)
    {ks : List K} (hnd : ks.Nodup) (hk1 : ∀ k, 0 < f1 k → k ∈ ks) (hk2 : ∀ k, 0 < f2 k → k ∈ ks)
    (h : ∀ (s' : Shared) t, Two s.heap s'.heap → AllBare s'.gens → s'.os = s.os → R (.ok (.ret (.int ((max (ks.map fun k => f1 k - f2 k).sum (ks.map fun k => f2 k - f1 k).sum : Nat) : Int) t))) s') :
    codeAny (model PySem.Challenge.rw_ah5040_01.prog w) (QD 30 outer gd) (.call (.ref 301) ⟨[.ref se, v1, v2], []⟩) R s := by
  have X := G.X
  have T := G.T
  refine' enterVC (binds := fun D => [(Str.ofString "self", .ref se), (Str.ofString "sequences", .ref D)]) ?k3 ?k5 ?k6 ?k7 ?k8 ?kP ?kG ?kB ?kD ?_ ?c2 ?c3 ?c4
  case k3 => k_asm
  case k5 => k_asm
  case k6 => k_is
  case k7 => k_is
  case k8 => k_room
  case kP => exact rfl
  case kG => exact fun _ => rfl
  case kB => exact fun _ => rfl
  case kD => decide +kernel
  case c2 => exact rfl
  case c3 => exact rfl
  case c4 => exact rfl
  intro D' L' h' tk' cells' F' N' Y' l1
  k_cells Y'
  rename_i oc2 oc1 hoc2 hoc1
  replace hoc2 : oc2.data = .cell none := hoc2
  replace hoc1 : oc1.data = .cell (some (.ref se)) := hoc1
  simp only [List.cons_append, List.nil_append] at N'
  replace F' : Fr s.heap L' h' (fun y => if y = Str.ofString "sequences" then some (.ref D') else none) := F'
  replace N' : News s.heap L' h' [(L' + 1 + 1, oc2), (L' + 1, oc1), (D', { cls := .type "tuple", data := .seq #[v1, v2] })] := N'
  (try dsimp only); (show wpAny _ _ _ _ _ _); k_fold
  walk_at "my walk"
  rename Fr _ _ _ _ => F1
  rename News _ _ _ _ => N1
  obtain ⟨ps, hc, ht⟩ := G.t1
  have at167 : ∀ {b : Addr} {o : Obj}, s.heap.get? b = some o → o.cls ≠ .none → b ≠ 167 := fun {b o} e hcl q => by
    rw [q, ht.2] at e; cases e; exact hcl rfl
  refine call_meth N1 (.head _) (codeAny_le (getCt (G.stays F1.keep) GB (hc.keeps F1.keep) (ht.keeps F1.keep) (hv1.imp id fun ⟨l, o, e, ho, hcl⟩ => ⟨l, o, e, F1.keep _ _ ho, hcl⟩) (hv2.imp id fun ⟨l, o, e, ho, hcl⟩ => ⟨l, o, e, F1.keep _ _ ho, hcl⟩)
    (F1.keep _ _ h0) (F1.keep _ _ h9) (at167 h0 (by nofun)) (at167 h9 (by nofun)) (hseq _ F1.keep) fun s1 Lr c x1 x2 dx1 dx2 o1 o2 xs1 xs2 more qs hx hcode htab GB1 os1 fr c1 c2 n1 n2 l1 l2 k1 k2 => ?_) (Nat.le_of_ble_eq_true rfl) (Nat.le_of_ble_eq_true rfl))
  obtain ⟨h3, g3, d3, tk3, os3⟩ := s1
  dsimp only at hx hcode htab GB1 os1 fr c1 c2
  obtain ⟨B1, F2⟩ := (Based.start hc ht (by decide)).grow F1 hx hcode htab
  have G1 := G.grown (Based.start hc ht (by decide)) B1 F2 (.inl ⟨rfl, rfl⟩)
  have N2 : News (regrown s.heap 167 (ps ++ more)) L' h3 ((Lr, listOf #[.ref x1, .ref x2] c) :: (x1, o1) :: (dx1, emptyDict) :: (x2, o2) :: (dx2, emptyDict) :: (L' + 1 + 1, oc2) :: (L' + 1, oc1) :: qs) := by
    have Na := grow_news (Based.start hc ht (by decide)) B1 N1 hx
    have Nb := fresh_news (base' := regrown s.heap 167 (ps ++ more)) F1 fr fun b hb => B1.fresh hb
    intro p hp
    simp only [List.mem_cons] at hp
    rcases hp with rfl | rfl | rfl | rfl | rfl | rfl | rfl | hp
    · exact Nb _ (.head _)
    · exact Nb _ (.tail _ (.head _))
    · exact Nb _ (.tail _ (.tail _ (.head _)))
    · exact Nb _ (.tail _ (.tail _ (.tail _ (.head _))))
    · exact Nb _ (.tail _ (.tail _ (.tail _ (.tail _ (.head _)))))
    · exact Na _ (.tail _ (.head _))
    · exact Na _ (.tail _ (.tail _ (.head _)))
    · exact Nb _ (.tail _ (.tail _ (.tail _ (.tail _ (.tail _ hp)))))
  have hm1 : Heap.ExtBut 167 s.heap (regrown s.heap 167 (ps ++ more)) := fun b o hb e => (Heap.get?_update_other _ _ (Ne.symm hb)).trans e
  have j0 := hm1 _ _ (at167 h0 (by nofun)) h0
  have j9 := hm1 _ _ (at167 h9 (by nofun)) h9
  have X1 := G1.X
  have T1 := G1.T
  have cell1 : ∀ {b : Addr}, Heap.get? _ b = none → @Ne Nat b (L' + 1 + 1) := fun {b} e => ne_of_new e (N1 (L' + 1 + 1, _) (.tail _ (.head _))).1
  have y1 := cell1 (fr _ (.head _)).2
  have y2 := cell1 (fr _ (.tail _ (.head _))).2
  have y3 := cell1 (fr _ (.tail _ (.tail _ (.head _)))).2
  have y4 := cell1 (fr _ (.tail _ (.tail _ (.tail _ (.head _))))).2
  have y5 := cell1 (fr _ (.tail _ (.tail _ (.tail _ (.tail _ (.head _)))))).2
  have y6 : ∀ p ∈ qs, @Ne Nat p.1 (L' + 1 + 1) := fun p hp => cell1 (fr _ (.tail _ (.tail _ (.tail _ (.tail _ (.tail _ hp)))))).2
  clear F1 N1 hx hcode htab fr
  dsimp only
  (show wpAny _ _ _ _ _ _)
  walk_at "my walk"
  rename Fr _ _ _ _ => F3
  rename News _ _ _ _ => N3
  have hq3 : HasAll qs _ := fun p hp => (N3 p (.tail _ (.tail _ (.tail _ (.tail _ (.tail _ (.tail _ (.tail _ (.tail _ hp))))))))).1
  have c1' := c1.at (N3 (x1, _) (.tail _ (.tail _ (.head _)))).1 (N3 (dx1, _) (.tail _ (.tail _ (.tail _ (.head _))))).1 (k1 _ hq3)
  have c2' := c2.at (N3 (x2, _) (.tail _ (.tail _ (.tail _ (.tail _ (.head _)))))).1 (N3 (dx2, _) (.tail _ (.tail _ (.tail _ (.tail _ (.tail _ (.head _))))))).1 (k2 _ hq3)
  refine call_meth N3 (.head _) (codeAny_le (interC (X1.keeps F3.keep) (T1.keeps F3.keep) c1' c2' l1 n1 n2 fun x3 dx3 o3 xs3 h5 tk5 st5 w1 w2 w3 c3 n3 l3 sub3 => ?_) (Nat.le_of_ble_eq_true rfl) (Nat.le_of_ble_eq_true rfl))
  have F4 := fr_stays F3 st5
  have hcl := (N3 (L' + 1 + 1, oc2) (.tail _ (.tail _ (.tail _ (.tail _ (.tail _ (.tail _ (.head _)))))))).1
  have nL : ∀ {b : Addr}, Heap.get? _ b = none → b ≠ L' := fun {b} e q => by
    obtain ⟨oL, _, _, hoL, _⟩ := F3.ns; rw [← q, e] at hoL; cases hoL
  have nb : ∀ {b : Addr}, Heap.get? _ b = none → (regrown s.heap 167 (ps ++ more)).get? b = none := fun {b} e => by
    cases q : (regrown s.heap 167 (ps ++ more)).get? b with
    | none => rfl
    | some o => rw [F3.keep _ _ q] at e; cases e
  have N4 := news_stays N3 st5
  have N5 : News (regrown s.heap 167 (ps ++ more)) L' h5 ((L' + 1 + 1, oc2) :: (L' + 1, oc1) :: (x3, o3) :: (dx3, emptyDict) :: (Lr, listOf #[.ref x1, .ref x2] c) :: (x1, o1) :: (dx1, emptyDict) :: (x2, o2) :: (dx2, emptyDict) :: qs) := by
    intro p hp
    simp only [List.mem_cons] at hp
    rcases hp with rfl | rfl | rfl | rfl | rfl | rfl | rfl | rfl | rfl | hp
    · exact N4 _ (.tail _ (.tail _ (.tail _ (.tail _ (.tail _ (.tail _ (.head _)))))))
    · exact N4 _ (.tail _ (.tail _ (.tail _ (.tail _ (.tail _ (.tail _ (.tail _ (.head _))))))))
    · exact ⟨c3.at_, nL w1, nb w1⟩
    · exact ⟨c3.dx, nL w2, nb w2⟩
    · exact N4 _ (.tail _ (.head _))
    · exact N4 _ (.tail _ (.tail _ (.head _)))
    · exact N4 _ (.tail _ (.tail _ (.tail _ (.head _))))
    · exact N4 _ (.tail _ (.tail _ (.tail _ (.tail _ (.head _)))))
    · exact N4 _ (.tail _ (.tail _ (.tail _ (.tail _ (.tail _ (.head _))))))
    · exact N4 _ (.tail _ (.tail _ (.tail _ (.tail _ (.tail _ (.tail _ (.tail _ (.tail _ hp))))))))
  have y7 := ne_of_new w1 hcl
  have y8 := ne_of_new w2 hcl
  clear F3 N3 N4
  dsimp only
  (show wpAny _ _ _ _ _ _)
  refine' storeX_C F4 N5 ?c (UpdF.head fun p hp => ?_) hoc2 ?_ ?a ?b
  case a => rfl
  case b => rfl
  case c => rfl
  · simp only [List.mem_cons] at hp
    rcases hp with rfl | rfl | rfl | rfl | rfl | rfl | rfl | rfl | hp
    · exact (show @Ne Nat (L' + 1) (L' + 1 + 1) by omega)
    · exact y7
    · exact y8
    · exact y1
    · exact y2
    · exact y3
    · exact y4
    · exact y5
    · exact y6 p hp
  intro h6 oc3 F6 N6 hoc3
  clear F4 N5
  (try dsimp only at N6)
  (try dsimp only)
  (try (show wpAny _ _ _ _ _ _))
  walk_at "my walk"
  obtain ⟨ps2, hc2, ht2⟩ := G1.t2
  obtain ⟨bm, ob, BM⟩ := G1.M
  have at296 : ∀ {b : Addr} {o : Obj}, (regrown s.heap 167 (ps ++ more)).get? b = some o → o.cls ≠ .none → b ≠ 296 := fun {b o} e hcl q => by
    rw [q, ht2.2] at e; cases e; exact hcl rfl
  have cell296 : ∀ {b : Addr} {o : Obj}, h6.get? b = some o → (regrown s.heap 167 (ps ++ more)).get? b = none → b ≠ 296 := fun {b o} _ e q => by
    rw [q, ht2.2] at e; cases e
  have B2 := Based.start hc2 ht2 (by decide)
  refine genExp_seq (L := L') (c := 300) (P := 296) F6 B2 BM rfl rfl rfl (by with_unfolding_all rfl) (by decide) (by decide +kernel) (by decide +kernel) (by rfl) (by k_room) ?_ (fun _ => rfl)
  walk_at "my walk"
  refine ⟨Lr, #[.ref x1, .ref x2], fun i y => ∃ t, y = .int ((if i = 0 then (ks.map fun k => f1 k - f2 k).sum else (ks.map fun k => f2 k - f1 k).sum : Nat) : Int) t, rfl, .inr ⟨_, (N6 (Lr, _) (.tail _ (.tail _ (.tail _ (.tail _ (.head _)))))).1, rfl, _, rfl⟩, F6, GB1, T1.nolimit.keeps F6.keep, ?_, ?_⟩
  · intro code more2 C A' E' i v t m₂ hA hD hU hv F7 hm hLC hk
    have X2 := kb_in_regrown (ps' := ps2 ++ more2) B2 X1 T1.g (cls39 w)
    have T2 := LGe.top_regrown F7 T1 B2
    have up : ∀ p ∈ (L' + 1 + 1, oc3) :: (L' + 1, oc1) :: (x3, o3) :: (dx3, emptyDict) :: (Lr, listOf #[.ref x1, .ref x2] c) :: (x1, o1) :: (dx1, emptyDict) :: (x2, o2) :: (dx2, emptyDict) :: qs, t.heap.get? p.1 = some p.2 := fun p hp => hk _ _ (cell296 (N6 p hp).1 (N6 p hp).2.2) (N6 p hp).1
    have z0 : (regrown (regrown s.heap 167 (ps ++ more)) 296 (ps2 ++ more2)).get? se = some ⟨.ref 304, some dse, .plain, #[]⟩ := (Heap.get?_update_other _ _ (Ne.symm (at296 j0 (by nofun)))).trans j0
    have z9 : (regrown (regrown s.heap 167 (ps ++ more)) 296 (ps2 ++ more2)).get? dse = some (dictOf [⟨q1, .str (Str.ofString "qval") t1, .int (q : Nat) tq⟩, ⟨q3, .str (Str.ofString "external") t3, vx⟩] ep) := (Heap.get?_update_other _ _ (Ne.symm (at296 j9 (by nofun)))).trans j9
    obtain ⟨th, tg, td, tt, to⟩ := t
    dsimp only at up F7
    have i1 : th.IsCell (L' + 1 + 1) (some (.ref x3)) := ⟨oc3, up (_, _) (.head _), hoc3⟩
    have i2 : th.IsCell (L' + 1) (some (.ref se)) := ⟨oc1, up (_, _) (.tail _ (.head _)), hoc1⟩
    have hqa : HasAll qs th := fun p hp => up p (.tail _ (.tail _ (.tail _ (.tail _ (.tail _ (.tail _ (.tail _ (.tail _ (.tail _ hp)))))))))
    have c3t : Ctr kk th x3 dx3 o3 _ := c3.at (up (_, _) (.tail _ (.tail _ (.head _)))) (up (_, _) (.tail _ (.tail _ (.tail _ (.head _))))) fun y hy => by
      obtain ⟨y', hy', e1, e2⟩ := sub3 y hy
      rw [← e1, ← e2]; exact k1 _ hqa y' hy'
    obtain ⟨xi, dxi, oi, xsi, fi, fj, rfl, ci, li, cni, hmin, hval, hks⟩ : ∃ xi dxi oi, ∃ (xsi : Con K) (fi fj : K → Nat), v = .ref xi ∧ Ctr kk th xi dxi oi xsi ∧ xsi.length ≤ 1000 ∧ CntOf xsi fi ∧ (∀ k, fi k - min (f1 k) (f2 k) = fi k - fj k) ∧
        (if i = 0 then (ks.map fun k => f1 k - f2 k).sum else (ks.map fun k => f2 k - f1 k).sum) = (ks.map fun k => fi k - fj k).sum ∧ ∀ k, 0 < fi k → k ∈ ks := by
      match i, hv with
      | 0, hv => cases hv; exact ⟨x1, dx1, o1, xs1, f1, f2, rfl, c1.at (up (_, _) (.tail _ (.tail _ (.tail _ (.tail _ (.tail _ (.head _))))))) (up (_, _) (.tail _ (.tail _ (.tail _ (.tail _ (.tail _ (.tail _ (.head _)))))))) (k1 _ hqa), l1, n1, fun k => by omega, rfl, hk1⟩
      | 1, hv => cases hv; exact ⟨x2, dx2, o2, xs2, f2, f1, rfl, c2.at (up (_, _) (.tail _ (.tail _ (.tail _ (.tail _ (.tail _ (.tail _ (.tail _ (.head _))))))))) (up (_, _) (.tail _ (.tail _ (.tail _ (.tail _ (.tail _ (.tail _ (.tail _ (.tail _ (.head _)))))))))) (k2 _ hqa), l2, n2, fun k => by omega, rfl, hk2⟩
      | (n + 2), hv => simp at hv
    clear F6 N6
    walk_at "my walk"
    refine binop_K (C := 79) (od := some emptyDict) (f := 76) F7 X2 ⟨ci.at_, ci.cls, ci.no, by rw [ci.dict]; exact ci.dx⟩ (c3t.cls ▸ (Looks.ld c3t.at_).andThen .now) (by k_is) (by k_is) (by k_is) ?_
    have hD2 : A'.depth ≤ 432 := Nat.le_trans hD (Nat.le_of_ble_eq_true rfl)
    have hU2 : A'.units ≤ 160 := Nat.le_trans hU (Nat.le_of_ble_eq_true rfl)
    refine wpAny_frames (D := 50) hA (by omega) (by omega) fun fs => ?_
    refine subC (X2.keeps F7.keep) (T2.keeps F7.keep) ci c3t li cni n3 fun x6 dx6 o6 zs h8 tk8 st8 v1 v2 v3 c6 n6 l6 sub6 => ?_
    have F8 := fr_stays F7 st8
    dsimp only [PySem.W.CmpBack]
    walk_at "my walk"
    refine wpAny_frames (D := 50) hA (by omega) (by omega) fun fs => countC (X2.keeps F8.keep) (T2.keeps F8.keep) c6 n6 (F8.keep _ _ z0) (F8.keep _ _ z9) fun t9 h9' tk9 st9 => ⟨⟨t9, ?_⟩, h9', tk9, rfl, fun b o e => st9 _ _ (st8 _ _ e)⟩
    rw [hval, tot_eq n6 (let ⟨_, _, _, _, n⟩ := c6.eo; n) hnd fun k hk => hks k (by (try dsimp only at hk); omega)]
    rw [show (fun k => fi k - min (f1 k) (f2 k)) = fun k => fi k - fj k from funext hmin]
  · intro code more2 a s5 B5 F5 GB5 os5 hk5 Gen5
    have hLK : L' ≤ h6.objs.size - 1 := Nat.le_sub_one_of_lt F6.ns.lt
    clear F6 N6
    obtain ⟨h7, g7, d7, tk7, os7⟩ := s5
    walk_at "my walk"
    refine max_rowsK F5 GB5 Gen5 hLK (show 0 < 2 from Nat.zero_lt_two) (fun j => (((if j = 0 then (ks.map fun k => f1 k - f2 k).sum else (ks.map fun k => f2 k - f1 k).sum : Nat)) : Int)) (fun j v hv => hv) fun s6 j t' F9 GB9 os9 hk9 hj hmax => ?_
    clear F5
    have hv : (((if j = 0 then (ks.map fun k => f1 k - f2 k).sum else (ks.map fun k => f2 k - f1 k).sum : Nat)) : Int) = ((max (ks.map fun k => f1 k - f2 k).sum (ks.map fun k => f2 k - f1 k).sum : Nat) : Int) := by
      have e0 := hmax 0 (show 0 < 2 from Nat.zero_lt_two)
      have e1 := hmax 1 (show 1 < 2 from Nat.one_lt_two)
      simp only [if_true, Nat.one_ne_zero, if_false] at e0 e1
      have hj : j < 2 := hj
      match j, hj with
      | 0, _ => simp only [if_true] at e0 e1 ⊢; omega
      | 1, _ => simp only [Nat.one_ne_zero, if_false] at e0 e1 ⊢; omega
    rw [hv]
    obtain ⟨h8, g8, d8, tk8, os8⟩ := s6
    walk_at "my walk"
    refine h _ t' ⟨regrown s.heap 167 (ps ++ more), ⟨hm1, fun ps' a b => ?_⟩, ⟨fun b o hb e => F9.keep _ _ ((Heap.get?_update_other _ _ (Ne.symm hb)).trans e), fun ps' a b => ?_⟩⟩ GB9 (os9.trans (os5.trans os1))
    · cases (b.2.symm.trans ht.2)
      exact ⟨more, B1.code, B1.tab⟩
    · cases (b.2.symm.trans ht2.2)
      exact ⟨more2, B5.code.keeps F9.keep, B5.tab.keeps F9.keep⟩
end
end Mine
end
-- W0
section
open PySem PySem.W PySem.W.X PyProof.Rows PySem.Calls
set_option maxRecDepth 100000
set_option maxHeartbeats 1000000
namespace Mine
section
variable {prog : Program} {w : World} {A : Around} {E : Value → Shared → Prop} {s : Shared} {g : Heap}
/-- a `for` over a list of the ledger -/
theorem for_lst {R : Result → Shared → Prop} {env : Env} {x : Str} {px : Pos} {body : List Stmt} {D : Addr} {its : Array Value} {oD : Obj} {m₀ : Str → Option Value} {news₀ : List (Addr × Obj)}
    (hT : oD.cls = .type "list") (hTd : ∃ n, oD.data = .seq its n) (hh : A.handled = none) (hx : env.kindOf x = some .local) (hp : (env.scope.kind == .class || (env.scope.kind == .module && env.locals != env.globals)) = false)
    (J : Nat → (Str → Option Value) → List (Addr × Obj) → Prop)
    (F₀ : Fr g env.locals s.heap m₀) (N₀ : News g env.locals s.heap ((D, oD) :: news₀)) (hD₀ : ∀ p ∈ news₀, p.1 ≠ D) (hJ₀ : J 0 m₀ news₀)
    (turn : ∀ (I : Addr) (oI : Obj) (i : Nat) (u : Value) m news h tk, its[i]? = some u → J i m news → (∀ p ∈ news, p.1 ≠ I ∧ p.1 ≠ D) → Fr g env.locals h (fun y => if y = x then some u else m y) → News g env.locals h ((I, oI) :: (D, oD) :: news) →
      wpAny (model prog w) A (execs body env) (fun f s₃ => match f with
        | .next | .cont => ∃ h' tk' m' news', s₃ = { s with heap := h', toks := tk' } ∧ Fr g env.locals h' m' ∧ News g env.locals h' ((I, oI) :: (D, oD) :: news') ∧ (∀ p ∈ news', p.1 ≠ I ∧ p.1 ≠ D) ∧ J (i + 1) m' news'
        | .brk => R (.ok .next) s₃
        | .ret v => R (.ok (.ret v)) s₃) (notedBy (model prog w) A env fun e s' => R (.error e) s') { s with heap := h, toks := tk })
    (done : ∀ m news h tk, J its.size m news → Fr g env.locals h m → News g env.locals h news → R (.ok .next) { s with heap := h, toks := tk }) :
    wpAny (model prog w) A (pyIter (.ref D)) (fun it s₂ => codeAny (model prog w) A (.forLoop (.Name x px) it body [] env) R s₂) E s := by
  obtain ⟨nD, hTd⟩ := hTd
  have hD := (N₀ _ (.head _)).1
  have hT' : s.heap.IsList D its := ⟨_, hD, hT, _, hTd⟩
  have hlt := Heap.lt_size hD
  refine wpAny_pyIter_list hT' ?_
  generalize hoI : ({ cls := .type "list_iterator", data := .fields #[.ref D, .int 0 0] } : Obj) = oI₀
  have W := Walks.list (prog := prog) (w := w) hh s.heap.objs.size D (Nat.ne_of_lt hlt) its
  have up : ∀ b o, s.heap.get? b = some o → (s.heap.push oI₀).get? b = some o := fun b o e => Heap.get?_push_of_some _ e
  have gI : g.get? s.heap.objs.size = none := next_is_new F₀
  have hIL : s.heap.objs.size ≠ env.locals := Nat.ne_of_gt F₀.ns.lt
  have hID : s.heap.objs.size ≠ D := Nat.ne_of_gt hlt
  have stOf : ∀ {i : Nat} {h : Heap} {o : Obj}, (∃ h₁ : Heap, h₁.get? s.heap.objs.size = some o ∧ h₁.IsListIter s.heap.objs.size D i) → h.get? s.heap.objs.size = some o → h.get? D = some oD → h.IsListIter s.heap.objs.size D i ∧ h.IsList D its := fun ⟨h₁, e₁, o', e', r⟩ e eD => by
    rw [e₁] at e'; cases e'
    exact ⟨⟨_, e, r⟩, ⟨_, eD, hT, _, hTd⟩⟩
  have X : ItX prog w A (.Name x px) g s.heap.objs.size [s.heap.objs.size, D] (fun i own => ∃ o, own = [(s.heap.objs.size, o), (D, oD)] ∧ ∃ h₁ : Heap, h₁.get? s.heap.objs.size = some o ∧ h₁.IsListIter s.heap.objs.size D i) its.size (fun i v fr => its[i]? = some v ∧ fr = []) := by
    refine ⟨fun i own h => ?_, fun i s' Q E₁ E own hi ho hs hg hQ => ?_, fun s' Q E own ho hs hg hQ => ?_⟩
    · obtain ⟨o, rfl, _⟩ := h; rfl
    · obtain ⟨o, rfl, st⟩ := ho
      refine W.item i s' _ _ hi (stOf st (hs _ (.head _)) (hs _ (.tail _ (.head _)))) fun v h' tk hP hst hk => ⟨v, rfl, ?_⟩
      obtain ⟨o', e', r'⟩ := id hst.1
      refine wpAny_of_eq (show letOwnedTupleGo (.Name x px) (.ref s.heap.objs.size) v = pure () from rfl) ?_
      have hD' : h'.get? D = some oD := hk D oD (fun hm => hID (List.mem_singleton.mp hm).symm) (hs _ (.tail _ (.head _)))
      refine hQ v [] [(s.heap.objs.size, o'), (D, oD)] h' tk ⟨hP, rfl⟩ ⟨o', rfl, h', e', hst.1⟩ (fun p hp => ?_) (fun p hp => nomatch hp) fun b o hb e => hk b o (fun hm => hb (by rw [List.mem_singleton.mp hm]; exact .head _)) e
      simp only [List.mem_cons, List.not_mem_nil, or_false] at hp
      rcases hp with rfl | rfl
      · exact e'
      · exact hD'
    · obtain ⟨o, rfl, st⟩ := ho
      exact W.done s' _ _ (stOf st (hs _ (.head _)) (hs _ (.tail _ (.head _)))) fun h' tk hk => hQ h' tk fun b o hb e => hk b o (fun hm => hb (by rw [List.mem_singleton.mp hm]; exact .head _)) e
  have e0 : (s.heap.push oI₀).get? s.heap.objs.size = some oI₀ := Heap.get?_push_size _ (by rw [← hoI]; rfl)
  refine loop_itX (s := { s with heap := s.heap.push oI₀ }) (own₀ := [(s.heap.objs.size, oI₀), (D, oD)]) (news₀ := news₀) X J ⟨oI₀, rfl, _, e0, ⟨oI₀, e0, by rw [← hoI], by rw [← hoI]; rfl⟩⟩ (F₀.keeps up) ?_ (fun p hp hb => ?_) hJ₀ (fun i m news h tk v fr own hi hP hO hJ hI hf hfn F N => ?_) done
  · intro p hp
    rcases List.mem_append.mp hp with hp | hp
    · simp only [List.mem_cons, List.not_mem_nil, or_false] at hp
      rcases hp with rfl | rfl
      · exact ⟨e0, hIL, gI⟩
      · exact ⟨up _ _ hD, (N₀ _ (.head _)).2⟩
    · exact ⟨up _ _ (N₀ p (.tail _ hp)).1, (N₀ p (.tail _ hp)).2⟩
  · simp only [List.mem_cons, List.not_mem_nil, or_false] at hb
    rcases hb with hb | hb
    · exact Nat.ne_of_lt (Heap.lt_size (N₀ p (.tail _ hp)).1) hb
    · exact hD₀ p hp hb
  · obtain ⟨hP, rfl⟩ := hP
    obtain ⟨o, rfl, _⟩ := hO
    simp only [List.cons_append, List.nil_append] at N
    have hI' : ∀ p ∈ news, p.1 ≠ s.heap.objs.size ∧ p.1 ≠ D := fun p hp => ⟨fun e => hI p hp (by rw [e]; exact .head _), fun e => hI p hp (by rw [e]; exact .tail _ (.head _))⟩
    refine wpAny_assign_Name (wpAny_storeName_local hx F.ns (fun h₂ hn₂ hs₂ => ?_) hp)
    have hL₀ : g.get? env.locals = none := Heap.get?_none_of_le F.above
    have F₂ : Fr g env.locals h₂ (fun z => if z = x then some v else m z) := ⟨hn₂, fun b o e => hs₂.extBut b o (fun q => by rw [q, hL₀] at e; cases e) (F.keep b o e), F.above⟩
    have N₂ : News g env.locals h₂ ((s.heap.objs.size, o) :: (D, oD) :: news) := fun p hp => ⟨hs₂.extBut _ _ (N p hp).2.1 (N p hp).1, (N p hp).2⟩
    refine wpAny_mono (turn _ o i v m news h₂ _ hP hJ hI' F₂ N₂) (fun f s₃ h₃ => ?_) fun _ _ e => e
    cases f with
    | brk => exact h₃
    | ret v => exact h₃
    | next =>
      obtain ⟨h', tk', m', news', rfl, F', N', hI', hJ'⟩ := h₃
      exact ⟨h', tk', m', news', rfl, F', N', fun p hp hb => by
        simp only [List.mem_cons, List.not_mem_nil, or_false] at hb
        exact hb.elim (hI' p hp).1 (hI' p hp).2, hJ'⟩
    | cont =>
      obtain ⟨h', tk', m', news', rfl, F', N', hI', hJ'⟩ := h₃
      exact ⟨h', tk', m', news', rfl, F', N', fun p hp hb => by
        simp only [List.mem_cons, List.not_mem_nil, or_false] at hb
        exact hb.elim (hI' p hp).1 (hI' p hp).2, hJ'⟩
end
theorem News.sub1 {h₀ h : Heap} {L x : Addr} {o : Obj} {news : List (Addr × Obj)} (N : News h₀ L h news) (hm : (x, o) ∈ news) : News h₀ L h [(x, o)] := fun p hp => by
  rw [List.mem_singleton.mp hp]; exact N _ hm
theorem News.put {h₀ h : Heap} {L x : Addr} {o : Obj} {news : List (Addr × Obj)} (N : News h₀ L h [(x, o)]) (N' : News h₀ L h news) : News h₀ L h ((x, o) :: news) := fun p hp => by
  rcases List.mem_cons.mp hp with rfl | hp
  · exact N _ (.head _)
  · exact N' p hp
theorem inst_news {base h h' : Heap} {L x dx : Addr} {m : Str → Option Value} {o o2 : Obj} {news : List (Addr × Obj)} (F : Fr base L h m) (N : News base L h news) (st : h.StaysIn h') (n1 : h.get? x = none) (n2 : h.get? dx = none) (e1 : h'.get? x = some o) (e2 : h'.get? dx = some o2) : News base L h' ((x, o) :: (dx, o2) :: news) := by
  have nL : ∀ {b : Addr}, h.get? b = none → b ≠ L := fun {b} e q => by
    obtain ⟨oL, _, _, hoL, _⟩ := F.ns; rw [← q, e] at hoL; cases hoL
  have nb : ∀ {b : Addr}, h.get? b = none → base.get? b = none := fun {b} e => by
    cases q : base.get? b with
    | none => rfl
    | some o => rw [F.keep _ _ q] at e; cases e
  exact News.cons (News.cons (news_stays N st) e2 (nL n2) (nb n2)) e1 (nL n1) (nb n1)
theorem frame2 {m : Str → Option Value} {a b : Str} {va vb : Option Value} (h1 : m a = va) (h2 : m b = vb) : m = fun z => if z = a then va else if z = b then vb else m z := funext fun z => by
  by_cases e1 : z = a
  · rw [if_pos e1, e1, h1]
  rw [if_neg e1]
  by_cases e2 : z = b
  · rw [if_pos e2, e2, h2]
  rw [if_neg e2]
theorem frame4 {m : Str → Option Value} {a b c d : Str} {va vb vc vd : Option Value} (h1 : m a = va) (h2 : m b = vb) (h3 : m c = vc) (h4 : m d = vd) : m = fun z => if z = a then va else if z = b then vb else if z = c then vc else if z = d then vd else m z := funext fun z => by
  by_cases e1 : z = a
  · rw [if_pos e1, e1, h1]
  rw [if_neg e1]
  by_cases e2 : z = b
  · rw [if_pos e2, e2, h2]
  rw [if_neg e2]
  by_cases e3 : z = c
  · rw [if_pos e3, e3, h3]
  rw [if_neg e3]
  by_cases e4 : z = d
  · rw [if_pos e4, e4, h4]
  rw [if_neg e4]
/-- one letter as a text -/
def one (c : Nat) : Str := ⟨#[c]⟩
/-- a row of letters as a text -/
def ofL (cs : List Nat) : Str := ⟨cs.toArray⟩
/-- the letter of a number -/
def letN (e : Int) : Nat := 97 + (Int.fmod e 3).toNat
theorem len_ofL {prog : Program} {w : World} {A : Around} {E : Value → Shared → Prop} {s : Shared} {cs : List Nat} {t : Tok} {Q : Value → Shared → Prop} (h : cs.length ≤ 1000) (hQ : ∀ t' tk, Q (.int (cs.length : Nat) t') { s with toks := tk }) :
    wpAny (model prog w) A (call (.builtin "len") [.str (ofL cs) t]) Q E s :=
  len_str (x := ofL cs) (by show ¬ ((cs.length : Nat) : Int) ≥ 2 ^ 63; omega) (hQ _ _)
theorem item_abc {k : Int} (h0 : 0 ≤ k) (h1 : k < 3) : Txt.item (Str.ofString "abc") k = one (97 + k.toNat) := by
  obtain ⟨n, rfl⟩ := Int.eq_ofNat_of_zero_le h0
  match n, h1 with
  | 0, _ => rfl
  | 1, _ => rfl
  | 2, _ => rfl
  | n + 3, h => omega
theorem item_letN (e : Int) : Txt.item (Str.ofString "abc") (Int.fmod e 3) = one (letN e) := item_abc (Int.fmod_nonneg_of_pos e (by decide)) (Int.fmod_lt_of_pos e (by decide))
theorem StrsAre.append : ∀ {vs ws : List Value} {ys zs : List Str}, StrsAre vs ys → StrsAre ws zs → StrsAre (vs ++ ws) (ys ++ zs)
  | _, _, _, _, .nil, k => k
  | _, _, _, _, .cons y t h, k => .cons y t (StrsAre.append h k)
theorem cps_app (a b : Str) : (a ++ b).cps.toList = a.cps.toList ++ b.cps.toList := by
  show (a.cps ++ b.cps).toList = _
  exact Array.toList_append
theorem sl_n (cs : List Nat) (k : Nat) : Txt.slice (ofL cs) none (some (k : Int)) = ofL (cs.take k) := str_ext (slice_n (ofL cs) k)
theorem sl_s (cs : List Nat) (k : Nat) : Txt.slice (ofL cs) (some (k : Int)) none = ofL (cs.drop k) := str_ext (slice_s (ofL cs) k)
theorem sl_ss (cs : List Nat) (i j : Nat) : Txt.slice (ofL cs) (some (i : Int)) (some (j : Int)) = ofL ((cs.drop i).take (j - i)) := str_ext (slice_ss (ofL cs) i j)
section
variable {prog : Program} {w : World} {A : Around} {E : Value → Shared → Prop} {s : Shared} {value slice : PySem.Expr} {t : Tok} {h₀ : Heap} {L : Addr} {m : Str → Option Value} {Q : Value → Shared → Prop} {news : List (Addr × Obj)} {cs : List Nat}
theorem sl_ns {j : Int} {uj : Tok} (hF : Fr h₀ L s.heap m) (hN : News h₀ L s.heap news) (hj : 0 ≤ j) (hl : cs.length ≤ 1000) (h : ∀ h' t' k, Fr h₀ L h' m → News h₀ L h' news → Q (.str (ofL (cs.take j.toNat)) t') { s with heap := h', toks := k })
    (hs : subscripted slice false (.str (ofL cs) t) (.ref s.heap.objs.size) = operate [.ref s.heap.objs.size, .str (ofL cs) t] (getItem (.str (ofL cs) t) (.ref s.heap.objs.size)) := by with_unfolding_all rfl)
    (ht : ∀ r, letTemporaryGo value (.str (ofL cs) t) r = pure () := by intro _; with_unfolding_all rfl) :
    wpAny (model prog w) A (subscriptTail value slice (.str (ofL cs) t) (.ref s.heap.objs.size)) Q E { s with heap := s.heap.push { cls := .type "slice", data := .fields #[.none, .int j uj, .none] } } := by
  refine slice_strN_ns hF hN (fun h' t' k F N => ?_) hs ht (by rw [sizeLine_eq]; show cs.length ≤ _; omega)
  obtain ⟨n, rfl⟩ := Int.eq_ofNat_of_zero_le hj
  rw [sl_n]; exact h _ _ _ F N
theorem sl_sn {i : Int} {ui : Tok} (hF : Fr h₀ L s.heap m) (hN : News h₀ L s.heap news) (hi : 0 ≤ i) (hl : cs.length ≤ 1000) (h : ∀ h' t' k, Fr h₀ L h' m → News h₀ L h' news → Q (.str (ofL (cs.drop i.toNat)) t') { s with heap := h', toks := k })
    (hs : subscripted slice false (.str (ofL cs) t) (.ref s.heap.objs.size) = operate [.ref s.heap.objs.size, .str (ofL cs) t] (getItem (.str (ofL cs) t) (.ref s.heap.objs.size)) := by with_unfolding_all rfl)
    (ht : ∀ r, letTemporaryGo value (.str (ofL cs) t) r = pure () := by intro _; with_unfolding_all rfl) :
    wpAny (model prog w) A (subscriptTail value slice (.str (ofL cs) t) (.ref s.heap.objs.size)) Q E { s with heap := s.heap.push { cls := .type "slice", data := .fields #[.int i ui, .none, .none] } } := by
  refine slice_strN_sn hF hN (fun h' t' k F N => ?_) hs ht (by rw [sizeLine_eq]; show cs.length ≤ _; omega)
  obtain ⟨n, rfl⟩ := Int.eq_ofNat_of_zero_le hi
  rw [sl_s]; exact h _ _ _ F N
theorem sl_sss {i j : Int} {ui uj : Tok} (hF : Fr h₀ L s.heap m) (hN : News h₀ L s.heap news) (hi : 0 ≤ i) (hj : 0 ≤ j) (hl : cs.length ≤ 1000) (h : ∀ h' t' k, Fr h₀ L h' m → News h₀ L h' news → Q (.str (ofL ((cs.drop i.toNat).take (j.toNat - i.toNat))) t') { s with heap := h', toks := k })
    (hs : subscripted slice false (.str (ofL cs) t) (.ref s.heap.objs.size) = operate [.ref s.heap.objs.size, .str (ofL cs) t] (getItem (.str (ofL cs) t) (.ref s.heap.objs.size)) := by with_unfolding_all rfl)
    (ht : ∀ r, letTemporaryGo value (.str (ofL cs) t) r = pure () := by intro _; with_unfolding_all rfl) :
    wpAny (model prog w) A (subscriptTail value slice (.str (ofL cs) t) (.ref s.heap.objs.size)) Q E { s with heap := s.heap.push { cls := .type "slice", data := .fields #[.int i ui, .int j uj, .none] } } := by
  refine slice_strN_ss hF hN (fun h' t' k F N => ?_) hs ht (by rw [sizeLine_eq]; show cs.length ≤ _; omega)
  obtain ⟨n, rfl⟩ := Int.eq_ofNat_of_zero_le hi
  obtain ⟨n', rfl⟩ := Int.eq_ofNat_of_zero_le hj
  rw [sl_ss]; exact h _ _ _ F N
theorem item_l {e : Int} {u : Tok} (h : ∀ t' k, Q (.str (ofL [letN e]) t') { s with toks := k })
    (hs : subscripted slice false (.str (Str.ofString "abc") t) (.int (Int.fmod e 3) u) = operate [.str (Str.ofString "abc") t, .int (Int.fmod e 3) u] (getItem (.str (Str.ofString "abc") t) (.int (Int.fmod e 3) u)) := by with_unfolding_all rfl)
    (ht : ∀ r, letTemporaryGo value (.str (Str.ofString "abc") t) r = pure () := by intro _; with_unfolding_all rfl) :
    wpAny (model prog w) A (subscriptTail value slice (.str (Str.ofString "abc") t) (.int (Int.fmod e 3) u)) Q E s := by
  have h0 := Int.fmod_nonneg_of_pos e (show (0 : Int) < 3 by decide)
  have h1 := Int.fmod_lt_of_pos e (show (0 : Int) < 3 by decide)
  have hl : (Str.ofString "abc").length = 3 := by decide +kernel
  refine item_str (by unfold fitsSsize; simp; omega) (by rw [hl]; omega) (by rw [hl]; omega) (fun _ => ?_) hs ht
  rw [item_letN]; exact h _ _
theorem cat_l {a b : List Nat} {u : Tok} (hab : a.length + b.length ≤ 1000) (h : ∀ t' k, Q (.str (ofL (a ++ b)) t') { s with toks := k }) : wpAny (model prog w) A (binaryOp .Add (.str (ofL a) t) (.str (ofL b) u)) Q E s := by
  refine SBL.add (fun t' k _ => ?_) (hsz := by rw [sizeLine_eq]; show a.length + b.length ≤ _; omega)
  rw [show ofL a ++ ofL b = ofL (a ++ b) from str_ext (cps_app _ _)]
  exact h _ _
end
theorem cps_nil : (Str.ofString "").cps.toList = [] := by decide +kernel
theorem cps_ofL (cs : List Nat) : (ofL cs).cps.toList = cs := rfl
theorem join_ones' : ∀ (cs : List Nat), (Str.join (Str.ofString "") (cs.map one)).cps.toList = cs
  | [] => rfl
  | [c] => rfl
  | c :: d :: r => by
    have ih := join_ones' (d :: r)
    show (one c ++ Str.ofString "" ++ Str.join (Str.ofString "") ((d :: r).map one)).cps.toList = _
    rw [cps_app, cps_app, ih, cps_nil]
    rfl
theorem join_ofL (cs : List Nat) : Txt.join (Str.ofString "") (cs.map one) = ofL cs := by
  show (Builtin.Str.glued (PySem.Str.ofString "") _) = _
  rw [StrLaws.glued_eq_join]
  exact str_ext (join_ones' cs)
theorem strs_len : ∀ {vs : List Value} {ys : List Str}, StrsAre vs ys → vs.length = ys.length
  | _, _, .nil => rfl
  | _, _, .cons y t h => by rw [List.length_cons, List.length_cons, strs_len h]
theorem sum_ones (cs : List Nat) : ((cs.map one).map (·.length)).sum = cs.length := by
  induction cs with
  | nil => rfl
  | cons c cs ih => rw [List.map_cons, List.map_cons, List.sum_cons, ih]; show 1 + _ = _; rw [List.length_cons]; omega
theorem strs_at : ∀ {vs : List Value} {ys : List Str}, StrsAre vs ys → ∀ (i : Nat) y, ys[i]? = some y → ∃ t, vs[i]? = some (.str y t)
  | _, _, .nil, i, y, h => by simp at h
  | _, _, .cons z t k, 0, y, h => by simp at h; subst h; exact ⟨t, rfl⟩
  | _, _, .cons z t k, i + 1, y, h => by simpa using strs_at k i y (by simpa using h)
theorem strs_at' : ∀ {vs : List Value} {ys : List Str}, StrsAre vs ys → ∀ (i : Nat) v, vs[i]? = some v → ∃ y t, ys[i]? = some y ∧ v = .str y t
  | _, _, .nil, i, y, h => by simp at h
  | _, _, .cons z t k, 0, y, h => by simp at h; subst h; exact ⟨z, t, rfl, rfl⟩
  | _, _, .cons z t k, i + 1, y, h => by simpa using strs_at' k i y (by simpa using h)
theorem letN_asc (e : Int) : letN e < 128 := by
  have := Int.fmod_lt_of_pos e (show (0 : Int) < 3 by decide)
  unfold letN; omega
section
variable {cs ys : List Nat} {d sw : Nat} {k : Int}
theorem asc_take (ha : Asc ys) (n : Nat) : Asc (ys.take n) := fun c hc => ha c (List.mem_of_mem_take hc)
theorem asc_drop (ha : Asc ys) (n : Nat) : Asc (ys.drop n) := fun c hc => ha c (List.mem_of_mem_drop hc)
theorem asc_app {a b : List Nat} (ha : Asc a) (hb : Asc b) : Asc (a ++ b) := fun c hc => (List.mem_append.mp hc).elim (ha c) (hb c)
theorem asc_one (e : Int) : Asc [letN e] := fun c hc => by rw [List.mem_singleton.mp hc]; exact letN_asc e
theorem turn0 (h : P.Reach cs ys d sw) (ha : Asc ys) (_hk : 0 ≤ k) (e : Int) : P.Reach cs (ys.take k.toNat ++ [letN e] ++ ys.drop k.toNat) (d + 1) sw ∧ Asc (ys.take k.toNat ++ [letN e] ++ ys.drop k.toNat) ∧ (ys.take k.toNat ++ [letN e] ++ ys.drop k.toNat).length ≤ ys.length + 1 := by
  generalize k.toNat = n
  refine ⟨.one h ?_, asc_app (asc_app (asc_take ha n) (asc_one e)) (asc_drop ha n), by simp only [List.length_append, List.length_take, List.length_drop, List.length_cons, List.length_nil]; omega⟩
  have := P.E1.ins (ys.take n) (letN e) (ys.drop n)
  rw [List.take_append_drop] at this
  rw [List.append_assoc]; exact this
theorem turn1 (h : P.Reach cs ys d sw) (ha : Asc ys) (hk : 0 ≤ k) : P.Reach cs (ys.take k.toNat ++ ys.drop (k + 1).toNat) (d + 1) sw ∧ Asc (ys.take k.toNat ++ ys.drop (k + 1).toNat) ∧ (ys.take k.toNat ++ ys.drop (k + 1).toNat).length ≤ ys.length + 1 := by
  rw [show (k + 1).toNat = k.toNat + 1 by omega]
  generalize k.toNat = n
  refine ⟨.one h ?_, asc_app (asc_take ha n) (asc_drop ha _), by simp only [List.length_append, List.length_take, List.length_drop]; omega⟩
  by_cases hn : n < ys.length
  · have := P.E1.del (ys.take n) ys[n] (ys.drop (n + 1))
    rw [← List.drop_eq_getElem_cons hn, List.take_append_drop] at this
    exact this
  · rw [List.drop_of_length_le (by omega), List.append_nil, List.take_of_length_le (by omega)]
    exact .same _
theorem turn2 (h : P.Reach cs ys d sw) (ha : Asc ys) (hk : 0 ≤ k) (e : Int) : P.Reach cs (ys.take k.toNat ++ [letN e] ++ ys.drop (k + 1).toNat) (d + 1) sw ∧ Asc (ys.take k.toNat ++ [letN e] ++ ys.drop (k + 1).toNat) ∧ (ys.take k.toNat ++ [letN e] ++ ys.drop (k + 1).toNat).length ≤ ys.length + 1 := by
  rw [show (k + 1).toNat = k.toNat + 1 by omega]
  generalize k.toNat = n
  refine ⟨.one h ?_, asc_app (asc_app (asc_take ha n) (asc_one e)) (asc_drop ha _), by simp only [List.length_append, List.length_take, List.length_drop, List.length_cons, List.length_nil]; omega⟩
  rw [List.append_assoc]
  by_cases hn : n < ys.length
  · have := P.E1.sub (ys.take n) ys[n] (letN e) (ys.drop (n + 1))
    rw [← List.drop_eq_getElem_cons hn, List.take_append_drop] at this
    exact this
  · rw [List.drop_of_length_le (by omega), List.take_of_length_le (by omega)]
    have := P.E1.ins ys (letN e) []
    rw [List.append_nil] at this
    exact this
theorem turn3 (h : P.Reach cs ys d sw) (ha : Asc ys) (hk : 0 ≤ k) : P.Reach cs (ys.take k.toNat ++ (ys.drop (k + 1).toNat).take ((k + 2).toNat - (k + 1).toNat) ++ (ys.drop k.toNat).take ((k + 1).toNat - k.toNat) ++ ys.drop (k + 2).toNat) (d + 1) (sw + 1) ∧ Asc (ys.take k.toNat ++ (ys.drop (k + 1).toNat).take ((k + 2).toNat - (k + 1).toNat) ++ (ys.drop k.toNat).take ((k + 1).toNat - k.toNat) ++ ys.drop (k + 2).toNat) ∧ (ys.take k.toNat ++ (ys.drop (k + 1).toNat).take ((k + 2).toNat - (k + 1).toNat) ++ (ys.drop k.toNat).take ((k + 1).toNat - k.toNat) ++ ys.drop (k + 2).toNat).length ≤ ys.length + 1 := by
  rw [show (k + 1).toNat = k.toNat + 1 by omega, show (k + 2).toNat = k.toNat + 2 by omega]
  generalize k.toNat = n
  rw [show n + 2 - (n + 1) = 1 by omega, show n + 1 - n = 1 by omega]
  refine ⟨.swap h ?_, asc_app (asc_app (asc_app (asc_take ha n) (asc_take (asc_drop ha _) _)) (asc_take (asc_drop ha _) _)) (asc_drop ha _), by simp only [List.length_append, List.length_take, List.length_drop]; omega⟩
  by_cases hn : n + 1 < ys.length
  · have := P.Sw.sw (ys.take n) ys[n] ys[n + 1] (ys.drop (n + 2))
    have e2 := List.drop_eq_getElem_cons hn
    have e1 := List.drop_eq_getElem_cons (show n < ys.length by omega)
    rw [← e2, ← e1, List.take_append_drop] at this
    have h1 : (ys.drop (n + 1)).take 1 = [ys[n + 1]] := by rw [e2]; rfl
    have h2 : (ys.drop n).take 1 = [ys[n]] := by rw [e1]; rfl
    rw [h1, h2, List.append_assoc, List.append_assoc]
    exact this
  · have h1 : (ys.drop (n + 1)) = [] := List.drop_of_length_le (by omega)
    have h2 : (ys.drop (n + 2)) = [] := List.drop_of_length_le (by omega)
    have h3 : (ys.drop n).take 1 = ys.drop n := List.take_of_length_le (by rw [List.length_drop]; omega)
    rw [h1, h2, h3, List.take_nil, List.append_nil, List.append_nil, List.take_append_drop]
    exact .same _
end
end Mine
end
-- G8
section
open PySem PySem.W PySem.W.X PyProof.Rows PySem.Calls
set_option maxRecDepth 100000
set_option maxHeartbeats 8000000
namespace Mine
theorem fillG8 : PySem.Challenge.rw_ah5040_01 = PySem.Challenge.rw_ah5040_01 ∧ Mine.hd.heap_39 = Mine.hd.heap_39 := by
  k_fill
  exact ⟨rfl, rfl⟩
local macro_rules | `(tactic| walk_at "my S") => `(tactic| (refine wpAny_call ?_; refine' enterS ?k3 ?k5 ?k6 ?k7 ?k8 ?k9 ?kB ?_ ?c2 ?c3 ?c4 ?c5; (case k3 => k_asm); (case k5 => k_asm); (case k6 => k_is); (case k7 => k_is); (case k8 => k_room); (case k9 => first | exact BindsTo.of_eq rfl | exact binds_K (by k_in) rfl (by k_is) rfl rfl rfl); (case kB => exact locs rfl); (case c5 => decide); (case c2 => exact rfl); (case c3 => exact rfl); (case c4 => exact rfl)))
local macro_rules | `(tactic| walk_at "my V") => `(tactic| (refine wpAny_call ?_; refine' enterV ?k3 ?k5 ?k6 ?k7 ?k8 ?kP ?kG ?kB ?_ ?c2 ?c3 ?c4 ?c5; (case k3 => k_asm); (case k5 => k_asm); (case k6 => k_is); (case k7 => k_is); (case k8 => k_room); (case kP => exact rfl); (case kG => exact fun _ => rfl); (case kB => exact fun _ => locs rfl); (case c5 => decide); (case c2 => exact rfl); (case c3 => exact rfl); (case c4 => exact rfl)))
local macro_rules | `(tactic| k_inst) => `(tactic| (refine' InstAt_of_get ?a ?b; (case a => exact Fr.keep (by k_asm) _ _ (by assumption)); (case b => exact Fr.keep (by k_asm) _ _ (by assumption))))
local macro_rules | `(tactic| walk_at "eval Call Attribute") => `(tactic| (k_here; (with_reducible show wpAny _ _ (eval (Expr.Call (Expr.Attribute _ _ _) [Expr.Starred _ _] [] _) _) _ _ _); refine starMethod ?_))
local macro_rules | `(tactic| walk_at "getAttr ref") => `(tactic| (k_here; k_dflt (refine' attr_sm ?k1 ?k2 ?k4 ?k5 ?k6 ?k7 ?k9 ?k10 ?k11 ?k12 ?k13 ?k14 ?_; (case k1 => k_asm); (case k2 => k_asm); (case k4 => k_inst); (case k5 => k_is); (case k6 => k_is); (case k7 => k_is); (case k9 => k_is); (case k10 => k_is); (case k11 => decide +kernel); (case k12 => k_get); (case k13 => k_is); (case k14 => k_handed); k_whole)))
local macro_rules | `(tactic| walk_at "callWith ref") => `(tactic| (k_here; (with_reducible show wpAny _ _ (callWith _ (Value.ref _) _ (backTo _ (starEach [Expr.Starred _ _] _)) []) _ _ _); k_dflt (refine' callWith_SM ?k1 ?k2 ?k3 ?k4 ?_; (case k1 => k_asm); (case k2 => k_asm); (case k3 => k_mem); (case k4 => k_is); k_whole)))
local macro_rules | `(tactic| walk_at "callWith ref") => `(tactic| (k_here; (with_reducible show wpAny _ _ (callWith _ (Value.ref _) _ (backTo _ (starEach [Expr.Starred _ _] _)) []) _ _ _); k_dflt (refine' callWith_SI ?k1 ?k2 ?k3 ?k4 ?_; (case k1 => k_in); (case k2 => k_inst); (case k3 => rfl); (case k4 => k_is); k_whole)))
local macro_rules | `(tactic| walk_at "eval Name") => `(tactic| (k_here; k_dflt (refine' ld ?k1 ?k2 ?_; (case k1 => k_asm); (case k2 => first | exact rfl | assumption); k_whole)))
local macro_rules | `(tactic| walk_at "my drop") => `(tactic| (repeat (first | ((rename News _ _ _ _ => Nx); clear Nx) | ((rename Fr _ _ _ _ => Fx); clear Fx))))
local macro_rules | `(tactic| walk_at "my stops") => `(tactic| ((fail_if_success (with_reducible show wpAny _ _ (call (Value.builtin "all") _) _ _ _)); (fail_if_success (with_reducible show wpAny _ _ (call (Value.builtin "max") _) _ _ _)); (fail_if_success (with_reducible show wpAny _ _ (call (Value.ref _) _) _ _ _)); (fail_if_success (with_reducible show wpAny _ _ (call (Value.type "map") _) _ _ _)); (fail_if_success (with_reducible show wpAny _ _ (call (Value.builtin "isinstance") _) _ _ _)); (fail_if_success (with_reducible show wpAny _ _ (eval (PySem.Expr.GeneratorExp _ _ _ _) _) _ _ _)); (fail_if_success (with_reducible show wpAny _ _ (binaryOp Operator.Sub _ _) _ _ _)); (fail_if_success (with_reducible show Exists _))))
local macro_rules | `(tactic| walk_at "my walk") => `(tactic| (repeat' (walk_at "my stops"; first | (k_unfold; (try dsimp only)) | walk1 | (dsimp only; first | walk1 | (k_unfold; try dsimp only)) | (leave1; walk_say "STEP leave1"; try dsimp only))))
section
variable {w : World} {s : Shared} {p : Program} {loose : List Str} {mg mb : Str → Option Value} {base : Heap} {outer : List Env} {gd : Option (List Code)} {A₀ : Around} {Q E : Value → Shared → Prop}

theorem no167 (w : World) : (Mine.hd.heap_39 w.params).lookup 167 = none := by first | rfl | kernel_rfl
theorem in_but {g g' : Heap} (X : (Mine.hd.heap_39 w.params).In g) (k : ∀ b o, b ≠ 167 → g.get? b = some o → g'.get? b = some o) : (Mine.hd.heap_39 w.params).In g' := fun a o e => k a o (fun q => by rw [q, no167] at e; cases e) (X a o e)
theorem str_is {prog : Program} (k : Str) (u : Tok) : (PySem.strKind prog w).is k (.str k u) = true := by
  show Value.isStrOf k (.str k u) = true
  unfold Value.isStrOf; exact beq_self_eq_true k
theorem letters_all {h : Heap} {v : Value} {cs : List Nat} (x : Letters h v cs) : (∃ x t, v = .str x t) ∨ ∃ l o, v = .ref l ∧ h.get? l = some o ∧ o.cls = .type "list" := by
  rcases x with ⟨x, t, e, _⟩ | ⟨l, items, e, ⟨o, ho, hc, _⟩, _⟩
  · exact .inl ⟨x, t, e⟩
  · exact .inr ⟨l, o, e, ho, hc⟩
theorem letters_but {h h' : Heap} {v : Value} {cs : List Nat} (x : Letters h v cs) (hn : ∀ o, h.get? 167 = some o → o.cls = .none) (k : ∀ b o, b ≠ 167 → h.get? b = some o → h'.get? b = some o) : Letters h' v cs := by
  rcases x with x | ⟨l, items, e, ⟨o, ho, hc, r⟩, r'⟩
  · exact .inl x
  · exact .inr ⟨l, items, e, ⟨o, k _ _ (fun q => by
      have := hn o (q ▸ ho)
      rw [hc] at this; cases this) ho, hc, r⟩, r'⟩
def cnt {K : Type} [DecidableEq K] (ks : List K) (k : K) : Nat := ks.count k
/-- letters as keys -/
theorem src_letters {g : Heap} {v : Value} {cs : List Nat} (X : (Mine.hd.heap_39 w.params).In g) (x : Letters g v cs) (hc : cs.length ≤ 1000) (qs : List (Addr × Obj)) :
    CSrc PySem.Challenge.rw_ah5040_01.prog w (strKK _ w) g v (Holds1 (strKK _ w) (cnt (cs.map one)) (HasAll qs)) := by
  have hlen : (cs.map one).length = cs.length := List.length_map ..
  refine .keys (cs.map one) (fun k v => (PySem.strKind PySem.Challenge.rw_ah5040_01.prog w).is k v = true) ?_ ?_ (by rw [hlen]; exact hc) fun xs h1 h2 h3 => ⟨Nat.le_trans h1 (by rw [hlen]; exact hc), fun y hy g _ => (h2 y hy).2, h3⟩
  · rcases x with ⟨x, t, rfl, rfl⟩ | ⟨l, items, rfl, hl, hsz, hit⟩
    · rw [hlen]
      refine (iter_text x t).imp fun i v hi ⟨c, u, h1, h2⟩ => ⟨one c, by rw [List.getElem?_map, h1]; rfl, ?_, ?_⟩
      · rw [h2]; exact str_is _ _
      · rw [h2]; exact str_is _ _
    · rw [hlen, ← hsz]
      refine (iter_list hl).imp fun i v hi hv => ?_
      obtain ⟨u, hu⟩ := hit i cs[i] (List.getElem?_eq_getElem (by omega))
      rw [hu] at hv; cases hv
      exact ⟨one cs[i], by rw [List.getElem?_map, List.getElem?_eq_getElem (by omega)]; rfl, str_is (one cs[i]) u, str_is (one cs[i]) u⟩
  · rcases x with ⟨x, t, rfl, _⟩ | ⟨l, items, rfl, hl, _⟩
    · exact isD_of kitx_str X (fun _ _ => trivial) (by kit_is) (fun e => by cases e)
    · exact isD_of kitx_list X (fun h k => let ⟨o, ho, hc, _⟩ := hl; ⟨o, k _ _ ho, hc⟩) (by kit_is) (fun e => by cases e)
theorem seqLetters {se dse : Addr} {v1 v2 : Value} {q1 q3 : Int} {t1 t3 tq : Tok} {vx : Value} {ep : Nat} {cs1 cs2 : List Nat} {g : Heap} (G : Gr w p loose mg mb g) (hc1 : cs1.length ≤ 900) (hc2 : cs2.length ≤ 900)
    (hv1 : Letters g v1 cs1) (hv2 : Letters g v2 cs2) (h0 : g.get? se = some ⟨.ref 304, some dse, .plain, #[]⟩) (h9 : g.get? dse = some (dictOf [⟨q1, .str (Str.ofString "qval") t1, .int 1 tq⟩, ⟨q3, .str (Str.ofString "external") t3, vx⟩] ep)) :
    SeqOk w p loose mg mb (strKK _ w) gd se v1 v2 (cnt (cs1.map one)) (cnt (cs2.map one)) g := by
  intro s' outer' RR X' T' k h
  obtain ⟨ps, hc, ht⟩ := G.t1
  have hn : ∀ o, g.get? 167 = some o → o.cls = .none := fun o e => by rw [ht.2] at e; cases e; rfl
  refine getSeqB X' T' (k _ _ (fun q => by have := hn _ (q ▸ h0); cases this) h0) (k _ _ (fun q => by have := hn _ (q ▸ h9); cases this) h9) fun L c h' tk' st nL hL => ?_
  refine h L c v1 v2 [] h' tk' st (fun p hp => ?_) (fun g' hg => ?_) (fun g' hg => ?_)
  · rw [List.mem_singleton.mp hp]; exact ⟨hL, nL⟩
  · exact src_letters (in_but G.X hg.1) (letters_but hv1 hn hg.1) (by omega) []
  · exact src_letters (in_but G.X hg.1) (letters_but hv2 hn hg.1) (by omega) []
theorem items_letters {prog : Program} : ∀ {cs : List Nat} {vs : List Value}, vs.length = cs.length → (∀ (k : Nat) x, vs[k]? = some x → ∃ c u, cs[k]? = some c ∧ x = .str ⟨#[c]⟩ u) → PySem.ItemsAre (PySem.strKind prog w) (cs.map one) vs
  | [], [], _, _ => .nil
  | c :: cs, v :: vs, hl, h => by
    obtain ⟨c', u, h1, rfl⟩ := h 0 v rfl
    cases h1
    exact .cons (str_is (one c) u) (items_letters (by simpa using hl) fun k x hx => by simpa using h (k + 1) x (by simpa using hx))
/-- pieces as keys -/
def pk (q : Nat) (cs : List Nat) : List (List Str) := (P.gr q cs).map (·.map one)
theorem src_pieces {g : Heap} {S : Addr} {cs : List Nat} {q : Nat} {qs : List (Addr × Obj)} (hq : 0 < q) (X : (Mine.hd.heap_39 w.params).In g) (x : PiecesN qs S cs q) (hg : HasAll qs g) (hc : cs.length ≤ 900) :
    CSrc PySem.Challenge.rw_ah5040_01.prog w (tupKK _ w) g (.ref S) (Holds1 (tupKK _ w) (cnt (pk q cs)) (HasAll qs)) := by
  obtain ⟨acc, c, h1, h2, h3⟩ := x
  have hlen : (pk q cs).length = acc.size := by unfold pk; rw [List.length_map, P.gr_len hq, h2]
  have hacc : acc.size ≤ 1000 := by omega
  refine .keys (pk q cs) (fun k v => ∀ g', HasAll qs g' → (tupKK PySem.Challenge.rw_ah5040_01.prog w).is g' k v) ?_ ?_ (by rw [hlen]; exact hacc) fun xs a1 a2 a3 => ⟨Nat.le_trans a1 (by rw [hlen]; exact hacc), fun y hy g' hg' => (a2 y hy).2 g' hg', a3⟩
  · rw [hlen]
    refine (iter_list ⟨_, hg _ h1, rfl, _, rfl⟩).imp fun i v hi hv => ?_
    obtain ⟨T, xs, rfl, hT, hsz, hx⟩ := h3 i v hv
    have hgr : (pk q cs)[i]? = some (((cs.drop i).take q).map one) := by
      unfold pk
      rw [List.getElem?_map, P.gr_at hq cs i (by omega)]; rfl
    have key : ∀ g', HasAll qs g' → (tupKK PySem.Challenge.rw_ah5040_01.prog w).is g' (((cs.drop i).take q).map one) (.ref T) := fun g' hg' => by
      refine ⟨T, rfl, _, xs, 0, hg' _ hT, rfl, rfl, items_letters ?_ fun k z hz => ?_⟩
      · rw [Array.length_toList, hsz, List.length_take, List.length_drop]
        have : i < acc.size := hi
        omega
      · rw [Array.getElem?_toList] at hz
        obtain ⟨c', u, e1, e2⟩ := hx k z hz
        refine ⟨c', u, ?_, e2⟩
        have : k < xs.size := (Array.getElem?_eq_some_iff.mp hz).1
        rw [List.getElem?_take, if_pos (by omega), List.getElem?_drop]; exact e1
    exact ⟨_, hgr, key g hg, key⟩
  · exact isD_of kitx_list X (fun h k => ⟨_, k _ _ (hg _ h1), rfl⟩) (by kit_is) (fun e => by cases e)
theorem seqPieces {se dse : Addr} {v1 v2 : Value} {q1 q3 : Int} {t1 t3 tq : Tok} {vx : Value} {ep q : Nat} {cs1 cs2 : List Nat} {g : Heap} (hq : q = 2 ∨ q = 3 ∨ q = 4) (G : Gr w p loose mg mb g) (hc1 : cs1.length ≤ 900) (hc2 : cs2.length ≤ 900)
    (hv1 : Letters g v1 cs1) (hv2 : Letters g v2 cs2) (h0 : g.get? se = some ⟨.ref 304, some dse, .plain, #[]⟩) (h9 : g.get? dse = some (dictOf [⟨q1, .str (Str.ofString "qval") t1, .int (q : Nat) tq⟩, ⟨q3, .str (Str.ofString "external") t3, vx⟩] ep)) :
    SeqOk w p loose mg mb (tupKK _ w) gd se v1 v2 (cnt (pk q cs1)) (cnt (pk q cs2)) g := by
  intro s' outer' RR X' T' k h
  obtain ⟨ps, hc, ht⟩ := G.t1
  have hn : ∀ o, g.get? 167 = some o → o.cls = .none := fun o e => by rw [ht.2] at e; cases e; rfl
  refine getSeqPB (q2 := 0) (t2 := tq) hq hc1 hc2 X' T' (letters_but hv1 hn k) (letters_but hv2 hn k) (k _ _ (fun q => by have := hn _ (q ▸ h0); cases this) h0) (k _ _ (fun q => by have := hn _ (q ▸ h9); cases this) h9) fun L c S1 S2 qs h' tk' st fr p1 p2 => ?_
  refine h L c (.ref S1) (.ref S2) qs h' tk' st fr (fun g' hg => ?_) (fun g' hg => ?_)
  · exact src_pieces (by omega) (in_but G.X hg.1) p1 hg.2 hc1
  · exact src_pieces (by omega) (in_but G.X hg.1) p2 hg.2 hc2
theorem Two.of_stays {h h1 h' : Heap} (st : h.StaysIn h1) (x : Two h1 h') : Two h h' := by
  obtain ⟨hm, ⟨a1, a2⟩, b⟩ := x
  exact ⟨hm, ⟨fun b o hb e => a1 b o hb (st b o e), fun ps hc ht => a2 ps (hc.keeps st) (ht.keeps st)⟩, b⟩
theorem distBag {K : Type} [DecidableEq K] {kk : KK PySem.Challenge.rw_ah5040_01.prog w K} {se dse : Addr} {v1 v2 : Value} {q1 q3 : Int} {t1 t3 tq : Tok} {vx : Value} {ep q : Nat} {f1 f2 : K → Nat}
    (G : Gr w p loose mg mb s.heap) (GB : AllBare s.gens)
    (hv1 : (∃ x t, v1 = .str x t) ∨ ∃ l o, v1 = .ref l ∧ s.heap.get? l = some o ∧ o.cls = .type "list") (hv2 : (∃ x t, v2 = .str x t) ∨ ∃ l o, v2 = .ref l ∧ s.heap.get? l = some o ∧ o.cls = .type "list")
    (h0 : s.heap.get? se = some ⟨.ref 304, some dse, .plain, #[]⟩) (h9 : s.heap.get? dse = some (dictOf [⟨q1, .str (Str.ofString "qval") t1, .int (q : Nat) tq⟩, ⟨q3, .str (Str.ofString "external") t3, vx⟩] ep))
    (hseq : ∀ g, s.heap.StaysIn g → SeqOk w p loose mg mb kk gd se v1 v2 f1 f2 g)
    {ks : List K} (hnd : ks.Nodup) (hk1 : ∀ k, 0 < f1 k → k ∈ ks) (hk2 : ∀ k, 0 < f2 k → k ∈ ks)
    (h : ∀ (s' : Shared) t, Two s.heap s'.heap → AllBare s'.gens → s'.os = s.os → Q (.int ((max (ks.map fun k => f1 k - f2 k).sum (ks.map fun k => f2 k - f1 k).sum : Nat) : Int) t) s') :
    wpAny (model PySem.Challenge.rw_ah5040_01.prog w) (QD 20 outer gd) (call (.ref 122) [.ref se, v1, v2]) Q E s := by
  have X := G.X
  have T := G.T
  walk_at "my V"
  intro D' L' h' F' N'
  (try dsimp only); (show wpAny _ _ _ _ _ _); k_fold
  replace N' : News s.heap L' h' [(D', { cls := .type "tuple", data := .seq #[v1, v2] })] := N'
  walk_at "my walk"
  rename Fr _ _ _ _ => F1
  refine wpAny_call (kco_code (X.keeps F1.keep) (by k_inst) rfl (by k_is) (by k_is) (by k_is) ?_)
  have up : ∀ {v : Value}, ((∃ x t, v = .str x t) ∨ ∃ l o, v = .ref l ∧ s.heap.get? l = some o ∧ o.cls = .type "list") → ((∃ x t, v = .str x t) ∨ ∃ l o, v = .ref l ∧ Heap.get? _ l = some o ∧ o.cls = .type "list") := fun hv => hv.imp id fun ⟨l, o, e, ho, hcl⟩ => ⟨l, o, e, F1.keep _ _ ho, hcl⟩
  refine codeAny_le (callBag (G.stays F1.keep) GB (up hv1) (up hv2) (F1.keep _ _ h0) (F1.keep _ _ h9) (fun g st => hseq g fun b o e => st _ _ (F1.keep _ _ e)) hnd hk1 hk2 fun s' t two gb os => ?_) (Nat.le_of_ble_eq_true rfl) (Nat.le_of_ble_eq_true rfl)
  exact h s' t (two.of_stays F1.keep) gb os
end
end Mine
end
-- A1
section
open PySem PySem.W PySem.W.X PyProof.Rows PySem.Calls
set_option maxRecDepth 100000
set_option maxHeartbeats 8000000
namespace Mine
theorem fillA1 : PySem.Challenge.rw_ah5040_01 = PySem.Challenge.rw_ah5040_01 ∧ Mine.hd.heap_39 = Mine.hd.heap_39 := by
  k_fill
  exact ⟨rfl, rfl⟩
local macro_rules | `(tactic| walk_at "my S") => `(tactic| (refine wpAny_call ?_; refine' enterS ?k3 ?k5 ?k6 ?k7 ?k8 ?k9 ?kB ?_ ?c2 ?c3 ?c4 ?c5; (case k3 => k_asm); (case k5 => k_asm); (case k6 => k_is); (case k7 => k_is); (case k8 => k_room); (case k9 => first | exact BindsTo.of_eq rfl | exact binds_K (by k_in) rfl (by k_is) rfl rfl rfl); (case kB => exact locs rfl); (case c5 => decide); (case c2 => exact rfl); (case c3 => exact rfl); (case c4 => exact rfl)))
local macro_rules | `(tactic| walk_at "my V") => `(tactic| (refine wpAny_call ?_; refine' enterV ?k3 ?k5 ?k6 ?k7 ?k8 ?kP ?kG ?kB ?_ ?c2 ?c3 ?c4 ?c5; (case k3 => k_asm); (case k5 => k_asm); (case k6 => k_is); (case k7 => k_is); (case k8 => k_room); (case kP => exact rfl); (case kG => exact fun _ => rfl); (case kB => exact fun _ => locs rfl); (case c5 => decide); (case c2 => exact rfl); (case c3 => exact rfl); (case c4 => exact rfl)))
local macro_rules | `(tactic| k_inst) => `(tactic| (refine' InstAt_of_get ?a ?b; (case a => exact Fr.keep (by k_asm) _ _ (by assumption)); (case b => exact Fr.keep (by k_asm) _ _ (by assumption))))
local macro_rules | `(tactic| walk_at "eval Call Attribute") => `(tactic| (k_here; (with_reducible show wpAny _ _ (eval (Expr.Call (Expr.Attribute _ _ _) [Expr.Starred _ _] [] _) _) _ _ _); refine starMethod ?_))
local macro_rules | `(tactic| walk_at "getAttr ref") => `(tactic| (k_here; k_dflt (refine' attr_sm ?k1 ?k2 ?k4 ?k5 ?k6 ?k7 ?k9 ?k10 ?k11 ?k12 ?k13 ?k14 ?_; (case k1 => k_asm); (case k2 => k_asm); (case k4 => k_inst); (case k5 => k_is); (case k6 => k_is); (case k7 => k_is); (case k9 => k_is); (case k10 => k_is); (case k11 => decide +kernel); (case k12 => k_get); (case k13 => k_is); (case k14 => k_handed); k_whole)))
local macro_rules | `(tactic| walk_at "callWith ref") => `(tactic| (k_here; (with_reducible show wpAny _ _ (callWith _ (Value.ref _) _ (backTo _ (starEach [Expr.Starred _ _] _)) []) _ _ _); k_dflt (refine' callWith_SM ?k1 ?k2 ?k3 ?k4 ?_; (case k1 => k_asm); (case k2 => k_asm); (case k3 => k_mem); (case k4 => k_is); k_whole)))
local macro_rules | `(tactic| walk_at "callWith ref") => `(tactic| (k_here; (with_reducible show wpAny _ _ (callWith _ (Value.ref _) _ (backTo _ (starEach [Expr.Starred _ _] _)) []) _ _ _); k_dflt (refine' callWith_SI ?k1 ?k2 ?k3 ?k4 ?_; (case k1 => k_in); (case k2 => k_inst); (case k3 => rfl); (case k4 => k_is); k_whole)))
local macro_rules | `(tactic| walk_at "my drop") => `(tactic| (repeat (first | ((rename News _ _ _ _ => Nx); clear Nx) | ((rename Fr _ _ _ _ => Fx); clear Fx))))
local macro_rules | `(tactic| walk_at "my stops") => `(tactic| ((fail_if_success (with_reducible show wpAny _ _ (call (Value.builtin "all") _) _ _ _)); (fail_if_success (with_reducible show wpAny _ _ (call (Value.builtin "max") _) _ _ _)); (fail_if_success (with_reducible show wpAny _ _ (call (Value.ref _) _) _ _ _)); (fail_if_success (with_reducible show wpAny _ _ (call (Value.type "map") _) _ _ _)); (fail_if_success (with_reducible show wpAny _ _ (exec (PySem.Stmt.Assign [_] (PySem.Expr.ListComp _ _ _ _) _) _) _ _ _)); (fail_if_success (with_reducible show wpAny _ _ (exec (PySem.Stmt.For _ _ _ _ _) _) _ _ _)); (fail_if_success (with_reducible show wpAny _ _ (call (Value.builtin "list.remove") _) _ _ _)); (fail_if_success (with_reducible show wpAny _ _ (compareOp CmpOp.In _ _) _ _ _)); (fail_if_success (with_reducible show Exists _)); (fail_if_success (with_reducible show wpAny _ _ (pyIter _) (fun it s₂ => codeAny _ _ (Code.forLoop _ _ _ _ _) _ _) _ _))))
local macro_rules | `(tactic| walk_at "my walk") => `(tactic| (repeat' (walk_at "my stops"; first | (k_unfold; (try dsimp only)) | walk1 | (dsimp only; first | walk1 | (k_unfold; try dsimp only)) | (leave1; walk_say "STEP leave1"; try dsimp only))))
local macro_rules | `(tactic| walk_at "eval Name") => `(tactic| (k_here; (with_reducible show wpAny _ _ (eval (Expr.Name (Str.ofString "piece") _) (compEnvC _ _ _ _)) _ _ _); k_dflt (refine LCgL.ld_own (by assumption) (.tail _ (.head _)) (by assumption) (by assumption) ?_)))
section
variable {w : World} {s : Shared} {p : Program} {loose : List Str} {mg mb : Str → Option Value} {base : Heap} {outer : List Env} {gd : Option (List Code)} {A₀ : Around} {Q E : Value → Shared → Prop}

/-- a list of the base as a comprehension's source -/
theorem comp_blist {prog : Program} {A : Around} {h₀ : Heap} {L : Addr} {m : Str → Option Value} {env : Env} {elt : Expr} {x : Str} {scope : Scope} {cl : List (Str × Addr)} {Fin : Shared → List Value → List (Addr × Obj) → Prop} {D : Addr} {its : List Value} {news : List (Addr × Obj)}
    (hh : A.handled = none) (F : Fr h₀ L s.heap m) (N : News h₀ L s.heap news) (hl : h₀.IsList D its.toArray) (hn : its.toArray.size ≤ 1000)
    (h : ∀ g, LCg.CompRest prog w A h₀ L m env elt x scope cl { s with heap := g } (fun _ => True) (fun i v => its.toArray[i]? = some v) (Fin { s with heap := g }) its.toArray.size 0 [] news) :
    wpAny (model prog w) A (pyIter (.ref D)) (CompIt prog w A h₀ L m env elt x scope cl Fin) E s := by
  have hl' : ∀ {h' : Heap}, (∀ b o, h₀.get? b = some o → h'.get? b = some o) → h'.IsList D its.toArray := fun k => let ⟨o, ho, r⟩ := hl; ⟨o, k _ _ ho, r⟩
  have hT : s.heap.IsList D its.toArray := hl' F.keep
  have hlt : D < s.heap.objs.size := by obtain ⟨o, ho, _⟩ := hT; exact Heap.lt_size ho
  refine wpAny_pyIter_list hT ?_
  have up : ∀ b o, s.heap.get? b = some o → (s.heap.push { cls := .type "list_iterator", data := .fields #[.ref D, .int 0 0] }).get? b = some o := fun b o e => Heap.get?_push_of_some _ e
  refine ⟨s.heap.objs.size, [s.heap.objs.size, D], its.toArray.size, _, _, fun _ => True, news, rfl, Walks.list hh s.heap.objs.size D (Nat.ne_of_lt hlt) its.toArray, by rw [sizeLine_eq]; omega, fun i h st => by obtain ⟨o, e, _⟩ := st.1; exact ⟨o, e⟩, ?_,
    ⟨⟨_, Heap.get?_push_size _ rfl, rfl, rfl⟩, let ⟨o, ho, r⟩ := hT; ⟨o, up _ _ ho, r⟩⟩, fun b hb => ?_, F.keeps up, N.grown up, Nat.ne_of_lt F.ns.lt, next_is_new F, fun p hp => Nat.ne_of_lt (Heap.lt_size (N p hp).1), trivial, h _⟩
  · intro i h h' o nw st e e' k N S
    exact ⟨by obtain ⟨o', q, r⟩ := st.1; rw [e] at q; cases q; exact ⟨o, e', r⟩, hl' k⟩
  · rw [Heap.size_push]
    simp only [List.mem_cons, List.not_mem_nil, or_false] at hb
    rcases hb with rfl | rfl
    · exact Nat.lt_succ_self _
    · exact Nat.lt_succ_of_lt hlt
theorem erase_idx : ∀ {ys : List Str} {k : Str}, k ∈ ys → ∃ j, j < ys.length ∧ ys[j]? = some k ∧ (∀ i, i < j → ys[i]? ≠ some k) ∧ ys.erase k = ys.eraseIdx j
  | y :: ys, k, h => by
    by_cases e : y = k
    · subst e
      exact ⟨0, Nat.succ_pos _, rfl, fun i hi => absurd hi (Nat.not_lt_zero _), by rw [List.erase_cons_head]; rfl⟩
    · obtain ⟨j, h1, h2, h3, h4⟩ := erase_idx (ys := ys) (k := k) ((List.mem_cons.mp h).resolve_left (Ne.symm e))
      refine ⟨j + 1, Nat.succ_lt_succ h1, by simpa using h2, fun i hi => ?_, by rw [List.erase_cons_tail (by simpa using e), h4]; rfl⟩
      cases i with
      | zero => simpa using e
      | succ i => simpa using h3 i (by omega)
theorem strs_eraseIdx : ∀ {vs : List Value} {ys : List Str}, StrsAre vs ys → ∀ j, StrsAre (vs.eraseIdx j) (ys.eraseIdx j)
  | _, _, .nil, _ => .nil
  | _, _, .cons y t h, 0 => h
  | _, _, .cons y t h, j + 1 => .cons y t (strs_eraseIdx h j)
theorem remove_strs {prog : Program} {A : Around} {h₀ : Heap} {L D : Addr} {m : Str → Option Value} {vs : List Value} {ys : List Str} {n : Nat} {k : Str} {t : Tok} {pre post : List (Addr × Obj)} (F : Fr h₀ L s.heap m) (N : News h₀ L s.heap (pre ++ (D, listOf vs.toArray n) :: post))
    (h1 : ∀ p ∈ pre, p.1 ≠ D) (h2 : ∀ p ∈ post, p.1 ≠ D) (hs : StrsAre vs ys) (hk : k ∈ ys) (hl : ys.length ≤ 1000)
    (h : ∀ h' vs' n', Fr h₀ L h' m → News h₀ L h' (pre ++ (D, listOf vs'.toArray n') :: post) → StrsAre vs' (ys.erase k) → Q .none { s with heap := h' }) :
    wpAny (model prog w) A (call (.builtin "list.remove") [.ref D, .str k t]) Q E s := by
  obtain ⟨j, j1, j2, j3, j4⟩ := erase_idx hk
  have hlen := strs_len hs
  have z := N (D, listOf vs.toArray n) (List.mem_append.mpr (.inr (.head _)))
  have at' : ∀ i (hi : i < vs.toArray.size), ∃ y u, ys[i]? = some y ∧ vs.toArray[i] = .str y u := fun i hi => by
    obtain ⟨y, u, e1, e2⟩ := strs_at' hs i vs[i] (List.getElem?_eq_getElem (by simpa using hi))
    exact ⟨y, u, e1, by simpa using e2⟩
  have hj : j < vs.toArray.size := by rw [List.size_toArray, hlen]; exact j1
  refine call_meets PySem.F.slot_list_remove ⟨_, z.1, rfl⟩ PySem.F.entry_list_remove (PySem.F.args_list_remove_2 _ _)
    (MeetsSeq.list_remove D vs.toArray n (.str k t) (isStrOf k) (fun y hy => eq_isStrOf k t hs y (by simpa using hy)) j hj ?_ (fun i hi hlt => ?_) (by rw [List.size_toArray, sizeLine_eq]; omega))
    ⟨z.1, h _ (vs.eraseIdx j) _ (F.change (Heap.SameBut.update ..) z.2.1 z.2.2) (ki_turn _ N h1 h2 ?_ rfl) (by rw [j4]; exact strs_eraseIdx hs j)⟩
  · obtain ⟨y, u, e1, e2⟩ := at' j hj
    rw [e2]
    rw [j2] at e1; cases e1
    unfold isStrOf; simp
  · obtain ⟨y, u, e1, e2⟩ := at' i hi
    rw [e2]
    have := j3 i hlt
    rw [e1] at this
    unfold isStrOf; simpa using fun q => this (by rw [q])
  · apply Array.toList_inj.mp
    simp [Array.toList_eraseIdxIfInBounds]
theorem lawAlone {a b : Addr} {va vb : List Value} {xs ys : List Str}
    (X : (Mine.hd.heap_39 w.params).In s.heap) (T : TopRead p loose mg mb s.heap) (ha : s.heap.IsList a va.toArray) (hb : s.heap.IsList b vb.toArray) (sa : StrsAre va xs) (sb : StrsAre vb ys) (hx : xs.length ≤ 900) (hy : ys.length ≤ 900)
    (h : ∀ t h' tk', s.heap.StaysIn h' → Q (.int (P.alone xs ys : Nat) t) { s with heap := h', toks := tk' }) :
    wpAny (model PySem.Challenge.rw_ah5040_01.prog w) (QD 20 outer gd) (call (.ref 311) [.ref a, .ref b]) Q E s := by
  walk_at "my S"
  intro L' h' F' N'
  (try dsimp only); (show wpAny _ _ _ _ _ _); k_fold
  replace F' : Fr s.heap L' h' (fun y => [(Str.ofString "other", Value.ref b), (Str.ofString "one", Value.ref a)].lookup y) := F'
  walk_at "my walk"
  refine Assign_ListComp_W F' rfl (by with_unfolding_all rfl) (by with_unfolding_all rfl) (by decide) (by rfl) (by decide) (by rfl) (by rfl) (by rfl) ?_
  walk_at "my walk"
  refine comp_blist rfl F' N' hb (by rw [List.size_toArray, strs_len sb]; omega) fun g => ?_
  rw [List.size_toArray, strs_len sb]
  refine CompRest.ind (n := ys.length) (fun i vs news => StrsAre vs (ys.take i) ∧ news = _) ?_ ?_ _ 0 [] _ (by omega) ⟨.nil, rfl⟩
  · rintro i ws _ hi ⟨hws, rfl⟩ v I oI C oC D m₂ h3 tk3 E' hv hC hm F3 N3 off nes
    clear F' N'
    obtain ⟨y, u, hc, rfl⟩ := strs_at' sb i v (by simpa using hv)
    have key : ∀ t, StrsAre (ws ++ [.str y t]) (ys.take (i + 1)) := fun t => by rw [List.take_add_one, hc]; exact StrsAre.append hws (.cons _ _ .nil)
    walk_at "my walk"
    first | exact key _ | exact ⟨_, _, _, rfl, F3, N3, off, trivial, key _, rfl⟩
  rintro rv _ ⟨hrv, rfl⟩ D h15 tk15 F15 N15 off
  clear F' N'
  rw [List.take_length] at hrv
  dsimp only
  walk_at "my walk"
  rename Fr _ _ _ _ => F16
  rename News _ _ _ _ => N16
  refine wpAny_For ?_
  walk_at "my walk"
  refine for_iter (x := Str.ofString "piece") (g := s.heap) (iter_list ha) rfl rfl rfl (fun i m news => ∃ vs zs al ta n, m (Str.ofString "alone") = some (.int (al : Nat) ta) ∧ m (Str.ofString "rest") = some (.ref D) ∧ news = [(D, listOf vs.toArray n)] ∧ StrsAre vs zs ∧ zs.length ≤ ys.length ∧ al + P.alone (xs.drop i) zs = P.alone xs ys)
    F16 N16 ⟨rv, ys, 0, _, _, rfl, rfl, rfl, hrv, Nat.le_refl _, by rw [List.drop_zero, Nat.zero_add]⟩ ?_ ?_
  · rintro I oI i u m news h17 tk17 hi hu ⟨vs, zs, al, ta, n, e1, e2, rfl, hvs, hzl, hal⟩ hI F17 N17
    clear F16 N16
    have hi' : i < xs.length := by rw [← strs_len sa]; simpa using hi
    obtain ⟨y, u', hc, rfl⟩ := strs_at' sa i u (by simpa using hu)
    replace F17 : Fr s.heap L' h17 (fun z => if z = Str.ofString "piece" then some (.str y u') else m z) := F17
    rw [frame2 e1 e2] at F17
    replace N17 : News s.heap L' h17 [(I, oI), (D, listOf vs.toArray n)] := N17
    have hxd : xs.drop i = y :: xs.drop (i + 1) := by
      rw [List.drop_eq_getElem_cons hi']
      congr 1
      rw [List.getElem?_eq_getElem hi'] at hc; exact Option.some.inj hc
    rw [hxd, P.alone] at hal
    dsimp only at F17
    dsimp only
    walk_at "my walk"
    rename Fr _ _ _ _ => F18
    rename News _ _ _ _ => N18
    refine in_list_strs ⟨_, (N18 (D, _) (.tail _ (.head _))).1, rfl, _, rfl⟩ hvs ?_
    have hany : zs.any (· == y) = decide (y ∈ zs) := by
      rw [Bool.eq_iff_iff, List.any_eq_true, decide_eq_true_iff]
      exact ⟨fun ⟨z, hz, e⟩ => (eq_of_beq e) ▸ hz, fun hz => ⟨y, hz, beq_self_eq_true y⟩⟩
    rw [hany]
    by_cases hm : y ∈ zs
    · rw [decide_eq_true hm]
      rw [if_pos hm] at hal
      walk_at "my walk"
      rename Fr _ _ _ _ => F19
      rename News _ _ _ _ => N19
      refine remove_strs (pre := [(I, oI)]) (post := []) F19 N19 (fun p hp => ?_) (fun p hp => nomatch hp) hvs hm (by omega) fun h20 vs' n' F20 N20 hvs' => ?_
      · rw [List.mem_singleton.mp hp]; exact Ne.symm (hI _ (.head _))
      clear F19 N19
      dsimp only
      walk_at "my walk"
      rename Fr _ _ _ _ => F21
      rename News _ _ _ _ => N21
      exact ⟨_, _, _, [(D, listOf vs'.toArray n')], rfl, F21, N21, fun p hp => (by rw [List.mem_singleton.mp hp]; exact hI (D, listOf vs.toArray n) (.head _)), vs', zs.erase y, al, ta, n', rfl, rfl, rfl, hvs', Nat.le_trans (List.length_erase_le) hzl, hal⟩
    · rw [decide_eq_false hm]
      rw [if_neg hm] at hal
      walk_at "my walk"
      rename Fr _ _ _ _ => F21
      rename News _ _ _ _ => N21
      exact ⟨_, _, _, [(D, listOf vs.toArray n)], rfl, F21, N21, hI, vs, zs, al + 1, _, n, rfl, rfl, rfl, hvs, hzl, by omega⟩
  · rintro m news h17 tk17 ⟨vs, zs, al, ta, n, e1, e2, rfl, hvs, hzl, hal⟩ F17 N17
    clear F16 N16
    replace F17 : Fr s.heap L' h17 m := F17
    rw [frame2 e1 e2] at F17
    dsimp only
    (show wpAny _ _ _ _ _ _)
    walk_at "my walk"
    rw [List.size_toArray, strs_len sa, List.drop_length, P.alone, Nat.add_zero] at hal
    rw [hal]
    exact h _ _ _ F17.keep
end
end Mine
end
-- W2
section
open PySem PySem.W PySem.W.X PyProof.Rows PySem.Calls
set_option maxRecDepth 100000
set_option maxHeartbeats 1000000
namespace Mine
theorem eqAt_S (cs ys : List Nat) : P.EqAt (eqS (ofL cs) (ofL ys)) cs ys := fun i j x y hx hy => by
  unfold eqS ofL
  simp [Array.getD_eq_getD_getElem?, hx, hy]
theorem eqAt_G {q : Nat} (hq : 0 < q) (cs ys : List Nat) : P.EqAt (eqG q cs ys) (P.gr q cs) (P.gr q ys) := fun i j x y hx hy => by
  have h1 := (List.getElem?_eq_some_iff.mp hx).1
  have h2 := (List.getElem?_eq_some_iff.mp hy).1
  rw [P.gr_len hq] at h1 h2
  rw [P.gr_at hq cs i h1] at hx
  rw [P.gr_at hq ys j h2] at hy
  cases hx; cases hy
  unfold eqG
  rw [decide_eq_true_iff]
  constructor
  · intro h
    have := congrArg (List.map fun s : Str => s.cps.getD 0 0) h
    simpa [List.map_map, Function.comp_def, lt1] using this
  · intro h; rw [h]
theorem levD_row (eqb : Nat → Nat → Bool) (c : Nat) : levD eqb 0 c = c := by rw [levD]
/-- the smallest number of deeds that are no swaps -/
def Least (f : Nat → Prop) (n : Nat) : Prop := f n ∧ ∀ k, f k → n ≤ k
theorem levD_case {α : Type} [DecidableEq α] {eqb : Nat → Nat → Bool} {xs ys : List α} (he : P.EqAt eqb xs ys) : (if xs = ys then (0 : Int) else if 0 < xs.length ∧ 0 < ys.length then (levD eqb xs.length ys.length : Nat) else (max xs.length ys.length : Nat)) = (levD eqb xs.length ys.length : Nat) := by
  by_cases e : xs = ys
  · rw [if_pos e]
    have : levD eqb xs.length ys.length ≤ 0 := P.lev_min he ⟨0, Nat.le_refl _, e ▸ P.Al.refl xs⟩
    omega
  rw [if_neg e]
  by_cases c : 0 < xs.length ∧ 0 < ys.length
  · rw [if_pos c]
  · rw [if_neg c]
    rcases Nat.eq_zero_or_pos xs.length with z | z
    · rw [z, levD_row, Nat.zero_max]
    · have : ys.length = 0 := by omega
      rw [this, P.levD_col, Nat.max_zero]
theorem dlF_case {α : Type} [DecidableEq α] {eqb : Nat → Nat → Bool} {xs ys : List α} {M : Nat} (he : P.EqAt eqb xs ys) : (if xs = ys then (0 : Int) else if 0 < xs.length ∧ 0 < ys.length then (dlF eqb M xs.length ys.length : Nat) else (max xs.length ys.length : Nat)) = (dlF eqb M xs.length ys.length : Nat) := by
  by_cases e : xs = ys
  · rw [if_pos e]
    have : dlF eqb M xs.length ys.length ≤ 0 := P.dl_min he ⟨0, Nat.le_refl _, e ▸ P.T.refl xs⟩
    omega
  rw [if_neg e]
  by_cases c : 0 < xs.length ∧ 0 < ys.length
  · rw [if_pos c]
  · rw [if_neg c]
    rcases Nat.eq_zero_or_pos xs.length with z | z
    · rw [z, dlF_zero, Nat.zero_max]
    · have : ys.length = 0 := by omega
      rw [this, dlF_col, Nat.max_zero]
theorem ofL_inj {a b : List Nat} : ofL a = ofL b ↔ a = b := by
  constructor
  · intro h; have := congrArg (fun s : Str => s.cps.toList) h; exact this
  · intro h; rw [h]
theorem levQ_eq (cs ys : List Nat) : levQ (ofL cs) (ofL ys) = (levD (eqS (ofL cs) (ofL ys)) cs.length ys.length : Nat) := by
  rw [← levD_case (eqAt_S cs ys)]
  unfold levQ
  simp only [ofL_inj]
  rfl
theorem dlQ_eq (cs ys : List Nat) : dlQ (ofL cs) (ofL ys) = (dlF (eqS (ofL cs) (ofL ys)) (cs.length + ys.length) cs.length ys.length : Nat) := by
  rw [← dlF_case (eqAt_S cs ys)]
  unfold dlQ
  simp only [ofL_inj]
  rfl
theorem levG_eq {q : Nat} (hq : 0 < q) (cs ys : List Nat) : levG q cs ys = (levD (eqG q cs ys) (P.gr q cs).length (P.gr q ys).length : Nat) := by
  rw [← levD_case (eqAt_G hq cs ys)]
  unfold levG
  rfl
theorem lt_spec (cs ys : List Nat) : ∃ n : Nat, levQ (ofL cs) (ofL ys) = (n : Int) ∧ P.Al cs ys n ∧ ∀ k, P.AlLe cs ys k → n ≤ k :=
  ⟨_, levQ_eq cs ys, P.lev_al (eqAt_S cs ys), fun _ h => P.lev_min (eqAt_S cs ys) h⟩
theorem fr_spec (cs ys : List Nat) : ∃ n : Nat, dlQ (ofL cs) (ofL ys) = (n : Int) ∧ P.TLe cs ys n ∧ ∀ k, P.TLe cs ys k → n ≤ k :=
  ⟨_, dlQ_eq cs ys, P.dl_t (eqAt_S cs ys) (Nat.le_refl _), fun _ h => P.dl_min (eqAt_S cs ys) h⟩
theorem pc_spec {q : Nat} (hq : 0 < q) (cs ys : List Nat) : ∃ n : Nat, levG q cs ys = (n : Int) ∧ P.Al (P.gr q cs) (P.gr q ys) n ∧ ∀ k, P.AlLe (P.gr q cs) (P.gr q ys) k → n ≤ k :=
  ⟨_, levG_eq hq cs ys, P.lev_al (eqAt_G hq cs ys), fun _ h => P.lev_min (eqAt_G hq cs ys) h⟩
theorem erase_map {α β : Type} [DecidableEq α] [DecidableEq β] {f : α → β} (hf : ∀ a b, f a = f b → a = b) (x : α) : ∀ ys : List α, (ys.map f).erase (f x) = (ys.erase x).map f
  | [] => rfl
  | y :: ys => by
    by_cases e : y = x
    · subst e; simp
    · have : f y ≠ f x := fun q => e (hf _ _ q)
      rw [List.map_cons, List.erase_cons_tail (by simpa using this), List.erase_cons_tail (by simpa using e), List.map_cons, erase_map hf x ys]
theorem alone_map {α β : Type} [DecidableEq α] [DecidableEq β] {f : α → β} (hf : ∀ a b, f a = f b → a = b) : ∀ xs ys : List α, P.alone (xs.map f) (ys.map f) = P.alone xs ys
  | [], _ => rfl
  | x :: xs, ys => by
    rw [List.map_cons, P.alone, P.alone]
    have hm : f x ∈ ys.map f ↔ x ∈ ys := ⟨fun h => by obtain ⟨y, hy, e⟩ := List.mem_map.mp h; exact hf _ _ e ▸ hy, fun h => List.mem_map.mpr ⟨x, h, rfl⟩⟩
    by_cases c : x ∈ ys
    · rw [if_pos c, if_pos (hm.mpr c), erase_map hf, alone_map hf]
    · rw [if_neg c, if_neg (fun q => c (hm.mp q)), alone_map hf]
theorem one_inj : ∀ a b : Nat, one a = one b → a = b := fun a b h => by
  have := congrArg (fun s : Str => s.cps.toList) h
  simpa [one] using this
theorem map_inj {α β : Type} {f : α → β} (hf : ∀ a b, f a = f b → a = b) : ∀ a b : List α, a.map f = b.map f → a = b
  | [], [], _ => rfl
  | [], _ :: _, h => by cases h
  | _ :: _, [], h => by cases h
  | x :: a, y :: b, h => by
    rw [List.map_cons, List.map_cons, List.cons.injEq] at h
    rw [hf _ _ h.1, map_inj hf a b h.2]
end Mine
end
-- E1
section
open PySem PySem.Spec PySem.W PySem.W.X PyProof.Rows PySem.Calls
set_option maxRecDepth 100000
set_option maxHeartbeats 1000000
namespace Mine
theorem okL {cs : List Nat} (h : Asc cs) : PyData.strOk (ofL cs) = true := by
  simp [PyData.strOk, ofL]
  intro c hc
  have := h c hc
  omega
theorem canLay_S : ∀ xs : List Str, (∀ x ∈ xs, PyData.strOk x = true) → PyData.canLayAll0 (xs.map PyData.str) = true
  | [], _ => rfl
  | x :: r, h => by simp [PyData.canLayAll0, PyData.canLay0, canLay_S r (fun y hy => h y (.tail _ hy)), h x (.head _)]
theorem depth_S : ∀ xs : List Str, PyData.depthAll (xs.map PyData.str) = 0
  | [] => rfl
  | _ :: r => by simp [PyData.depthAll, PyData.depth, depth_S r]
theorem shaped_S (xs : List Str) (h : ∀ x ∈ xs, PyData.strOk x = true) : SeqAt.shaped (.list (xs.map PyData.str)) = true := by
  simp [SeqAt.shaped, PyData.canLay0, PyData.depth, canLay_S xs h, depth_S]
theorem same_S : ∀ a b : List Str, Spec.sameAll (a.map PyData.str) (b.map PyData.str) = decide (a = b)
  | [], [] => by simp [Spec.sameAll]
  | [], _ :: _ => by simp [Spec.sameAll]
  | _ :: _, [] => by simp [Spec.sameAll]
  | x :: a, y :: b => by
    simp only [List.map_cons, Spec.sameAll, Spec.same, same_S a b]
    by_cases h : x = y <;> by_cases h' : a = b <;> simp [h, h']
theorem same_LS (a b : List Str) : Spec.same (.list (a.map PyData.str)) (.list (b.map PyData.str)) = decide (a = b) := by simp only [Spec.same]; exact same_S a b
theorem has_S (xs : List Str) : (Shape.list .str).has (.list (xs.map PyData.str)) = true := list_map_has fun _ => rfl
theorem strs_reads {h : Heap} : ∀ {vs : List Value} {xs : List Str}, StrsAre vs xs → ∃ as, ReadsAll h vs (xs.map PyData.str) as
  | _, _, .nil => ⟨_, .nil⟩
  | _, _, .cons y t k => let ⟨as, r⟩ := strs_reads k; ⟨_, .cons (.str _ _) r⟩
theorem eq_strs {prog : Program} {w : World} {A : Around} {E : Value → Shared → Prop} {s : Shared} {D1 D2 : Addr} {v1 v2 : List Value} {xs ys : List Str} {Q : Value → Shared → Prop} (h1 : s.heap.IsList D1 v1.toArray) (h2 : s.heap.IsList D2 v2.toArray) (s1 : StrsAre v1 xs) (s2 : StrsAre v2 ys)
    (o1 : ∀ x ∈ xs, PyData.strOk x = true) (o2 : ∀ x ∈ ys, PyData.strOk x = true) (hu : A.units + 64 < cLine) (h : Q (.bool (decide (xs = ys))) s) : wpAny (model prog w) A (compareOp .Eq (.ref D1) (.ref D2)) Q E s := by
  obtain ⟨as, r1⟩ := strs_reads (h := s.heap) s1
  obtain ⟨bs, r2⟩ := strs_reads (h := s.heap) s2
  obtain ⟨a1, a2, a3, n1, a4⟩ := h1
  obtain ⟨b1, b2, b3, n2, b4⟩ := h2
  exact eq_dataH_same (.list a2 a3 a4 r1) (.list b2 b3 b4 r2) (shaped_S _ o1) (shaped_S _ o2) hu (SeqAt.noMix_of_shape (.list .str) rfl _ _ (has_S _) (has_S _)) (by rw [same_LS]; exact h)
end Mine
end
-- W4
section
open PySem PySem.W PySem.W.X PyProof.Rows PySem.Calls
set_option maxRecDepth 100000
set_option maxHeartbeats 1000000
namespace Mine
section
variable {w : World} {p : Program} {loose : List Str} {mg mb : Str → Option Value} {base h h' : Heap} {L : Addr} {m : Str → Option Value} {news : List (Addr × Obj)} {env : Env}
theorem Step1.tab {c P : Addr} {h h' : Heap} (x : Step1 c P h h') (t : Tab h c P) : Tab h' c P := let ⟨ps, a, b⟩ := t; let ⟨more, a', b'⟩ := x.2 ps a b; ⟨_, a', b'⟩
/-- behind a call that grows both tables -/
theorem two_rebase (G : Gr w p loose mg mb base) (F : Fr base L h m) (N : News base L h news) (x : Two h h') :
    ∃ base', Gr w p loose mg mb base' ∧ Two base base' ∧ Fr base' L h' m ∧ News base' L h' news ∧ ∀ b o, b ≠ 167 → b ≠ 296 → base.get? b = some o → base'.get? b = some o := by
  obtain ⟨hm, ⟨a1, a2⟩, ⟨b1, b2⟩⟩ := x
  obtain ⟨ps, hc, ht⟩ := G.t1
  obtain ⟨more, c1, c2⟩ := a2 ps (hc.keeps F.keep) (ht.keeps F.keep)
  obtain ⟨B1, F1⟩ := (Based.start hc ht (by decide)).grow F a1 c1 c2
  have N1 := grow_news (Based.start hc ht (by decide)) B1 N a1
  have G1 := G.grown (Based.start hc ht (by decide)) B1 F1 (.inl ⟨rfl, rfl⟩)
  have u1 : Heap.ExtBut 167 base (regrown base 167 (ps ++ more)) := fun b o hb e => (Heap.get?_update_other _ _ (Ne.symm hb)).trans e
  generalize regrown base 167 (ps ++ more) = base1 at B1 F1 N1 G1 u1
  obtain ⟨ps2, hc2, ht2⟩ := G1.t2
  obtain ⟨more2, d1, d2⟩ := b2 ps2 (hc2.keeps F1.keep) (ht2.keeps F1.keep)
  obtain ⟨B2, F2⟩ := (Based.start hc2 ht2 (by decide)).grow F1 b1 d1 d2
  have N2 := grow_news (Based.start hc2 ht2 (by decide)) B2 N1 b1
  have G2 := G1.grown (Based.start hc2 ht2 (by decide)) B2 F2 (.inr ⟨rfl, rfl⟩)
  have u2 : Heap.ExtBut 296 base1 (regrown base1 296 (ps2 ++ more2)) := fun b o hb e => (Heap.get?_update_other _ _ (Ne.symm hb)).trans e
  refine ⟨_, G2, ⟨base1, ⟨u1, fun ps' x y => ?_⟩, ⟨u2, fun ps' x y => ?_⟩⟩, F2, N2, fun b o h1 h2 e => u2 b o h2 (u1 b o h1 e)⟩
  · cases (y.2.symm.trans ht.2)
    exact ⟨more, B1.code, B1.tab⟩
  · cases (y.2.symm.trans ht2.2)
    exact ⟨more2, B2.code, B2.tab⟩
theorem Two.tabs (x : Two h h') (t1 : Tab h 169 167) (t2 : Tab h 300 296) : Tab h' 169 167 ∧ Tab h' 300 296 := by
  obtain ⟨hm, a, b⟩ := x
  have t1' := a.tab t1
  have t2' : Tab hm 300 296 := t2.but a.1 (by decide) (by decide)
  exact ⟨t1'.but b.1 (by decide) (by decide), b.tab t2'⟩
theorem Two.oldK {h₀ : Heap} (x : Two h h') (K : OldK h₀ h) (u1 : Tab h₀ 169 167) (u2 : Tab h₀ 300 296) (t1 : Tab h 169 167) (t2 : Tab h 300 296) : OldK h₀ h' := by
  obtain ⟨hm, a, b⟩ := x
  obtain ⟨ps, c1, c2⟩ := t1
  obtain ⟨more, d1, d2⟩ := a.2 ps c1 c2
  obtain ⟨ps0, e1, e2⟩ := u1
  have K1 : OldK h₀ hm := K.step_table e2 c2 d2 a.1 (by decide)
  obtain ⟨ps2, f1, f2⟩ := t2.but a.1 (by decide) (by decide)
  obtain ⟨more2, g1, g2⟩ := b.2 ps2 f1 f2
  obtain ⟨ps3, j1, j2⟩ := u2
  exact K1.step_table j2 f2 g2 b.1 (by decide)
theorem moved_law (F : Fr base L h m) (N : News base L h news) (hf : env.frame = some L) (M : Moved [env] h h') : Fr base L h' m ∧ News base L h' news := by
  obtain ⟨g', TT, F', N', st⟩ := moved_on (Grd.self base) F N hf M
  refine ⟨Fr.down F' st (Nat.le_of_eq TT.size.symm), fun p hp => ⟨(N' p hp).1, (N' p hp).2.1, ?_⟩⟩
  cases e : base.get? p.1 with
  | none => rfl
  | some o => have := st _ _ e; rw [(N' p hp).2.2] at this; cases this
theorem News.drop2 {a b : Addr × Obj} (N : News base L h (a :: b :: news)) : News base L h news := fun p hp => N p (.tail _ (.tail _ hp))
theorem row_letters {D : Addr} {vs : List Value} {cs : List Nat} (hl : h.IsList D vs.toArray) (hs : StrsAre vs (cs.map one)) : Letters h (.ref D) cs := by
  refine .inr ⟨D, vs.toArray, rfl, hl, by rw [List.size_toArray, strs_len hs, List.length_map], fun i c hc => ?_⟩
  obtain ⟨t, e⟩ := strs_at hs i (one c) (by rw [List.getElem?_map, hc]; rfl)
  exact ⟨t, by rw [List.getElem?_toArray]; exact e⟩
theorem bag_val {K : Type} [DecidableEq K] {xs ys ks : List K} (hn : ks.Nodup) (hc : ∀ x ∈ xs ++ ys, x ∈ ks) : max (ks.map fun k => cnt xs k - cnt ys k).sum (ks.map fun k => cnt ys k - cnt xs k).sum = max (P.alone xs ys) (P.alone ys xs) := by
  rw [P.alone_sum hn xs ys fun x hx => hc x (List.mem_append_left _ hx), P.alone_sum hn ys xs fun x hx => hc x (List.mem_append_right _ hx)]
  rfl
theorem bag_pieces {q : Nat} {cs ys : List Nat} {ks : List (List Str)} (hn : ks.Nodup) (hc : ∀ x ∈ pk q cs ++ pk q ys, x ∈ ks) : max (ks.map fun k => cnt (pk q cs) k - cnt (pk q ys) k).sum (ks.map fun k => cnt (pk q ys) k - cnt (pk q cs) k).sum = max (P.alone (P.gr q cs) (P.gr q ys)) (P.alone (P.gr q ys) (P.gr q cs)) := by
  rw [bag_val hn hc]
  unfold pk
  rw [alone_map (map_inj one_inj), alone_map (map_inj one_inj)]
theorem bag_letters {cs ys : List Nat} {ks : List Str} (hn : ks.Nodup) (hc : ∀ x ∈ cs.map one ++ ys.map one, x ∈ ks) : max (ks.map fun k => cnt (cs.map one) k - cnt (ys.map one) k).sum (ks.map fun k => cnt (ys.map one) k - cnt (cs.map one) k).sum = max (P.alone cs ys) (P.alone ys cs) := by
  rw [bag_val hn hc, alone_map one_inj, alone_map one_inj]
theorem cnt_mem {K : Type} [DecidableEq K] {xs ys ks : List K} (hc : ∀ x ∈ xs ++ ys, x ∈ ks) : (∀ k, 0 < cnt xs k → k ∈ ks) ∧ ∀ k, 0 < cnt ys k → k ∈ ks :=
  ⟨fun k hk => hc k (List.mem_append_left _ (List.count_pos_iff.mp hk)), fun k hk => hc k (List.mem_append_right _ (List.count_pos_iff.mp hk))⟩
end
section
variable {prog : Program} {w : World} {A : Around} {E : Value → Shared → Prop} {s : Shared} {g : Heap}
/-- a `for` over a tuple that changes no more than its own name -/
theorem for_tup_keep {R : Result → Shared → Prop} {env : Env} {x : Str} {px : Pos} {body : List Stmt} {D : Addr} {its : Array Value} {oD : Obj} {m₀ : Str → Option Value} {news₀ : List (Addr × Obj)}
    (F₀ : Fr g env.locals s.heap m₀) (N₀ : News g env.locals s.heap ((D, oD) :: news₀)) (hT : oD.cls = .type "tuple") (hTd : ∃ n, oD.data = .seq its n) (hh : A.handled = none) (hx : env.kindOf x = some .local) (hp : (env.scope.kind == .class || (env.scope.kind == .module && env.locals != env.globals)) = false)
    (hD₀ : ∀ p ∈ news₀, p.1 ≠ D)
    (turn : ∀ (I : Addr) (oI : Obj) (i : Nat) (u : Value) (m : Str → Option Value) h tk, its[i]? = some u → (∀ z, z ≠ x → m z = m₀ z) → (∀ p ∈ news₀, p.1 ≠ I ∧ p.1 ≠ D) → Fr g env.locals h (fun y => if y = x then some u else m y) → News g env.locals h ((I, oI) :: (D, oD) :: news₀) →
      wpAny (model prog w) A (execs body env) (fun f s₃ => match f with
        | .next | .cont => ∃ h' tk' m' news', s₃ = { s with heap := h', toks := tk' } ∧ Fr g env.locals h' m' ∧ News g env.locals h' ((I, oI) :: (D, oD) :: news') ∧ (∀ p ∈ news', p.1 ≠ I ∧ p.1 ≠ D) ∧ (∀ z, z ≠ x → m' z = m₀ z) ∧ news' = news₀
        | .brk => R (.ok .next) s₃
        | .ret v => R (.ok (.ret v)) s₃) (notedBy (model prog w) A env fun e s' => R (.error e) s') { s with heap := h, toks := tk })
    (done : ∀ (m : Str → Option Value) h tk, (∀ z, z ≠ x → m z = m₀ z) → Fr g env.locals h m → News g env.locals h news₀ → R (.ok .next) { s with heap := h, toks := tk }) :
    wpAny (model prog w) A (pyIter (.ref D)) (fun it s₂ => codeAny (model prog w) A (.forLoop (.Name x px) it body [] env) R s₂) E s :=
  for_tup hT hTd hh hx hp (fun i m news => (∀ z, z ≠ x → m z = m₀ z) ∧ news = news₀) F₀ N₀ hD₀ ⟨fun _ _ => rfl, rfl⟩
    (fun I oI i u m news h tk hu ⟨hm, e⟩ hI F N => by subst e; exact turn I oI i u m h tk hu hm hI F N) (fun m news h tk ⟨hm, e⟩ F N => by subst e; exact done m h tk hm F N)
theorem len_strs {D : Addr} {vs : List Value} {xs : List Str} {Q : Value → Shared → Prop} (hl : s.heap.IsList D vs.toArray) (hs : StrsAre vs xs) (hx : xs.length ≤ 1000) (h : ∀ t tk, Q (.int (xs.length : Nat) t) { s with toks := tk }) : wpAny (model prog w) A (call (.builtin "len") [.ref D]) Q E s := by
  have e : vs.toArray.size = xs.length := by rw [List.size_toArray, strs_len hs]
  refine len_list hl (by rw [e]; omega) ?_
  rw [e]; exact h _ _
theorem max2 {a b : Nat} {t u : Tok} {Q : Value → Shared → Prop} (hh : A.handled = none)
    (h : ∀ h' tk t, s.heap.StaysIn h' → Q (.int (max a b : Nat) t) { s with heap := h', toks := tk }) : wpAny (model prog w) A (call (.builtin "max") [.int a t, .int b u]) Q E s := by
  refine max_two_ints hh fun h' tk st => ?_
  by_cases q : a < b
  · rw [if_pos (by omega)]
    have := h h' tk u (fun b o e => st b o e)
    rwa [show max a b = b by omega] at this
  · rw [if_neg (by omega)]
    have := h h' tk t (fun b o e => st b o e)
    rwa [show max a b = a by omega] at this
theorem strs_of : ∀ {cs : List Nat} {vs : List Value}, vs.length = cs.length → (∀ (k : Nat) x, vs[k]? = some x → ∃ c u, cs[k]? = some c ∧ x = .str ⟨#[c]⟩ u) → StrsAre vs (cs.map one)
  | [], [], _, _ => .nil
  | c :: cs, v :: vs, hl, h => by
    obtain ⟨c', u, h1, rfl⟩ := h 0 v rfl
    cases h1
    exact .cons (one c) u (strs_of (by simpa using hl) fun k x hx => by simpa using h (k + 1) x (by simpa using hx))
theorem frame_but {m m₀ : Str → Option Value} {x : Str} (h : ∀ z, z ≠ x → m z = m₀ z) : m = fun z => if z = x then m x else m₀ z := funext fun z => by
  by_cases e : z = x
  · rw [if_pos e, e]
  · rw [if_neg e, h z e]
end
end Mine
end
-- W5
section
open PySem PySem.W PySem.W.X PyProof.Rows PySem.Calls
set_option maxRecDepth 100000
set_option maxHeartbeats 1000000
namespace Mine
/-- a fact that omega is not to see -/
def Hide (p : Prop) : Prop := p
section
variable {prog : Program} {w : World} {A : Around} {E : Value → Shared → Prop} {s : Shared} {g : Heap}
theorem mul_small {a b : Int} {t u : Tok} {Q : Value → Shared → Prop} (h0 : 0 ≤ a) (h1 : a ≤ 1000) (h : ∀ t' tk, Q (.int (a * b) t') { s with toks := tk }) : wpAny (model prog w) A (binaryOp .Mult (.int a t) (.int b u)) Q E s :=
  mul_int (h _ _) (IntMulOk.of_left (PySem.intBits_le_64 (by omega) (by omega)))
theorem cmp_le {a b : Int} {t u : Tok} {Q : Value → Shared → Prop} (hab : a ≤ b) (h : Q (.bool true) s) : wpAny (model prog w) A (compareOp .LtE (.int a t) (.int b u)) Q E s :=
  le_int (by rw [decide_eq_true hab]; exact h)
theorem cmp_lt {a b : Int} {t u : Tok} {Q : Value → Shared → Prop} (hab : a < b) (h : Q (.bool true) s) : wpAny (model prog w) A (compareOp .Lt (.int a t) (.int b u)) Q E s :=
  lt_int (by rw [decide_eq_true hab]; exact h)
theorem cmp_eq {a b : Int} {t u : Tok} {Q : Value → Shared → Prop} (hab : a = b) (h : Q (.bool true) s) : wpAny (model prog w) A (compareOp .Eq (.int a t) (.int b u)) Q E s :=
  eq_int (by subst hab; simpa using h)
theorem cmp_ne {a b : Int} {t u : Tok} {Q : Value → Shared → Prop} (hab : a ≠ b) (h : Q (.bool false) s) : wpAny (model prog w) A (compareOp .Eq (.int a t) (.int b u)) Q E s :=
  eq_int (by rw [show (a == b) = false from beq_eq_false_iff_ne.mpr hab]; exact h)
theorem eq_ofL {a b : List Nat} {t u : Tok} {Q : Value → Shared → Prop} (h : Q (.bool (decide (a = b))) s) : wpAny (model prog w) A (compareOp .Eq (.str (ofL a) t) (.str (ofL b) u)) Q E s :=
  eq_str (by
    have : (ofL a == ofL b) = decide (a = b) := by
      by_cases e : a = b
      · rw [e, decide_eq_true rfl]; exact beq_self_eq_true _
      · rw [decide_eq_false e]; exact beq_eq_false_iff_ne.mpr fun q => e (ofL_inj.mp q)
    rw [this]; exact h)
end
end Mine
end
-- W1
section
open PySem PySem.W PySem.W.X PyProof.Rows PySem.Calls
set_option maxRecDepth 100000
set_option maxHeartbeats 8000000
namespace Mine
theorem fillW1 : PySem.Challenge.rw_ah5040_01 = PySem.Challenge.rw_ah5040_01 ∧ Mine.hd.heap_39 = Mine.hd.heap_39 := by
  k_fill
  exact ⟨rfl, rfl⟩
local macro_rules | `(tactic| walk_at "my S") => `(tactic| (refine wpAny_call ?_; refine' enterS ?k3 ?k5 ?k6 ?k7 ?k8 ?k9 ?kB ?_ ?c2 ?c3 ?c4 ?c5; (case k3 => k_asm); (case k5 => k_asm); (case k6 => k_is); (case k7 => k_is); (case k8 => k_room); (case k9 => first | exact BindsTo.of_eq rfl | exact binds_K (by k_in) rfl (by k_is) rfl rfl rfl); (case kB => exact locs rfl); (case c5 => decide); (case c2 => exact rfl); (case c3 => exact rfl); (case c4 => exact rfl)))
local macro_rules | `(tactic| walk_at "my V") => `(tactic| (refine wpAny_call ?_; refine' enterV ?k3 ?k5 ?k6 ?k7 ?k8 ?kP ?kG ?kB ?_ ?c2 ?c3 ?c4 ?c5; (case k3 => k_asm); (case k5 => k_asm); (case k6 => k_is); (case k7 => k_is); (case k8 => k_room); (case kP => exact rfl); (case kG => exact fun _ => rfl); (case kB => exact fun _ => locs rfl); (case c5 => decide); (case c2 => exact rfl); (case c3 => exact rfl); (case c4 => exact rfl)))
local macro_rules | `(tactic| k_inst) => `(tactic| (refine' InstAt_of_get ?a ?b; (case a => exact Fr.keep (by k_asm) _ _ (by assumption)); (case b => exact Fr.keep (by k_asm) _ _ (by assumption))))
local macro_rules | `(tactic| walk_at "eval Call Attribute") => `(tactic| (k_here; (with_reducible show wpAny _ _ (eval (Expr.Call (Expr.Attribute _ _ _) [Expr.Starred _ _] [] _) _) _ _ _); refine starMethod ?_))
local macro_rules | `(tactic| walk_at "getAttr ref") => `(tactic| (k_here; k_dflt (refine' attr_sm ?k1 ?k2 ?k4 ?k5 ?k6 ?k7 ?k9 ?k10 ?k11 ?k12 ?k13 ?k14 ?_; (case k1 => k_asm); (case k2 => k_asm); (case k4 => k_inst); (case k5 => k_is); (case k6 => k_is); (case k7 => k_is); (case k9 => k_is); (case k10 => k_is); (case k11 => decide +kernel); (case k12 => k_get); (case k13 => k_is); (case k14 => k_handed); k_whole)))
local macro_rules | `(tactic| walk_at "callWith ref") => `(tactic| (k_here; (with_reducible show wpAny _ _ (callWith _ (Value.ref _) _ (backTo _ (starEach [Expr.Starred _ _] _)) []) _ _ _); k_dflt (refine' callWith_SM ?k1 ?k2 ?k3 ?k4 ?_; (case k1 => k_asm); (case k2 => k_asm); (case k3 => k_mem); (case k4 => k_is); k_whole)))
local macro_rules | `(tactic| walk_at "callWith ref") => `(tactic| (k_here; (with_reducible show wpAny _ _ (callWith _ (Value.ref _) _ (backTo _ (starEach [Expr.Starred _ _] _)) []) _ _ _); k_dflt (refine' callWith_SI ?k1 ?k2 ?k3 ?k4 ?_; (case k1 => k_in); (case k2 => k_inst); (case k3 => rfl); (case k4 => k_is); k_whole)))
local macro_rules | `(tactic| walk_at "my drop") => `(tactic| (repeat (first | ((rename News _ _ _ _ => Nx); clear Nx) | ((rename Fr _ _ _ _ => Fx); clear Fx))))
local macro_rules | `(tactic| walk_at "my stops") => `(tactic| ((fail_if_success (with_reducible show wpAny _ _ (call (Value.builtin "all") _) _ _ _)); (fail_if_success (with_reducible show wpAny _ _ (call (Value.builtin "max") _) _ _ _)); (fail_if_success (with_reducible show wpAny _ _ (call (Value.ref _) _) _ _ _)); (fail_if_success (with_reducible show wpAny _ _ (call (Value.type "map") _) _ _ _)); (fail_if_success (with_reducible show wpAny _ _ (call (Value.builtin "len") [Value.ref _]) _ _ _)); (fail_if_success (with_reducible show wpAny _ _ (compareOp PySem.CmpOp.Eq (Value.ref _) (Value.ref _)) _ _ _)); (fail_if_success (with_reducible show wpAny _ _ (call (Value.type "range") _) _ _ _)); (fail_if_success (with_reducible show wpAny _ _ (call (Value.builtin "str.join") _) _ _ _)); (fail_if_success (with_reducible show wpAny _ _ (exec (PySem.Stmt.Assign [_] (PySem.Expr.ListComp _ _ _ _) _) _) _ _ _)); (fail_if_success (with_reducible show wpAny _ _ (exec (PySem.Stmt.For _ _ _ _ _) _) _ _ _)); (fail_if_success (with_reducible show wpAny _ _ (eval (PySem.Expr.ListComp _ _ _ _) _) _ _ _)); (fail_if_success (with_reducible show wpAny _ _ (eval (PySem.Expr.IfExp _ _ _ _) _) _ _ _)); (fail_if_success (with_reducible show wpAny _ _ (call (Value.builtin "str.join") _) _ _ _)); (fail_if_success (with_reducible show Exists _)); (fail_if_success (with_reducible show wpAny _ _ (pyIter _) (fun it s₂ => codeAny _ _ (Code.forLoop _ _ _ _ _) _ _) _ _))))
local macro_rules | `(tactic| walk_at "my walk") => `(tactic| (repeat' (walk_at "my stops"; first | (k_unfold; (try dsimp only)) | walk1 | (dsimp only; first | walk1 | (k_unfold; try dsimp only)) | (leave1; walk_say "STEP leave1"; try dsimp only))))
section
variable {w : World} {s : Shared} {p : Program} {loose : List Str} {mg mb : Str → Option Value} {base : Heap} {outer : List Env} {gd : Option (List Code)} {A₀ : Around} {Q E : Value → Shared → Prop}
local macro_rules | `(tactic| walk_at "call builtin:len") => `(tactic| (k_here; (with_reducible show wpAny _ _ (call (Value.builtin "len") [Value.str (ofL _) _]) _ _ _); k_dflt (refine len_ofL (by omega) ?_; intro _ _)))
local macro_rules | `(tactic| walk_at "subscriptTail Name Slice str ref") => `(tactic| (k_here; (with_reducible show wpAny _ _ (subscriptTail _ (Expr.Slice none (some _) none _) (Value.str (ofL _) _) (Value.ref _)) _ _ _); (with_reducible rename Fr _ _ _ _ => F'); (with_reducible rename News _ _ _ _ => N'); k_dflt (refine sl_ns (s := ⟨_, _, _, _, _⟩) F' N' (by (first | exact Int.fmod_nonneg_of_pos _ (by omega) | exact Int.add_nonneg (Int.fmod_nonneg_of_pos _ (by omega)) (by decide) | omega)) (by omega) ?_; (clear F' N'); intro _ _ _ F' N')))
local macro_rules | `(tactic| walk_at "subscriptTail Name Slice str ref") => `(tactic| (k_here; (with_reducible show wpAny _ _ (subscriptTail _ (Expr.Slice (some _) none none _) (Value.str (ofL _) _) (Value.ref _)) _ _ _); (with_reducible rename Fr _ _ _ _ => F'); (with_reducible rename News _ _ _ _ => N'); k_dflt (refine sl_sn (s := ⟨_, _, _, _, _⟩) F' N' (by (first | exact Int.fmod_nonneg_of_pos _ (by omega) | exact Int.add_nonneg (Int.fmod_nonneg_of_pos _ (by omega)) (by decide) | omega)) (by omega) ?_; (clear F' N'); intro _ _ _ F' N')))
local macro_rules | `(tactic| walk_at "subscriptTail Name Slice str ref") => `(tactic| (k_here; (with_reducible show wpAny _ _ (subscriptTail _ (Expr.Slice (some _) (some _) none _) (Value.str (ofL _) _) (Value.ref _)) _ _ _); (with_reducible rename Fr _ _ _ _ => F'); (with_reducible rename News _ _ _ _ => N'); k_dflt (refine sl_sss (s := ⟨_, _, _, _, _⟩) F' N' (by (first | exact Int.fmod_nonneg_of_pos _ (by omega) | exact Int.add_nonneg (Int.fmod_nonneg_of_pos _ (by omega)) (by decide) | omega)) (by (first | exact Int.fmod_nonneg_of_pos _ (by omega) | exact Int.add_nonneg (Int.fmod_nonneg_of_pos _ (by omega)) (by decide) | omega)) (by omega) ?_; (clear F' N'); intro _ _ _ F' N')))
local macro_rules | `(tactic| walk_at "subscriptTail") => `(tactic| (k_here; (with_reducible show wpAny _ _ (subscriptTail _ _ (Value.str (Str.ofString "abc") _) (Value.int (Int.fmod _ 3) _)) _ _ _); k_dflt (refine item_l ?_; intro _ _)))
local macro_rules | `(tactic| walk_at "binaryOp Add str str") => `(tactic| (k_here; (with_reducible show wpAny _ _ (binaryOp Operator.Add (Value.str (ofL _) _) (Value.str (ofL _) _)) _ _ _); k_dflt (refine cat_l (by simp only [List.length_append, List.length_take, List.length_drop, List.length_cons, List.length_nil]; omega) ?_; intro _ _)))
local macro_rules | `(tactic| walk_at "my stops3") => `(tactic| ((fail_if_success (with_reducible show wpAny _ _ (call (Value.builtin "all") _) _ _ _)); (fail_if_success (with_reducible show wpAny _ _ (call (Value.builtin "max") _) _ _ _)); (fail_if_success (with_reducible show wpAny _ _ (call (Value.ref _) _) _ _ _)); (fail_if_success (with_reducible show wpAny _ _ (call (Value.type "map") _) _ _ _)); (fail_if_success (with_reducible show wpAny _ _ (call (Value.builtin "len") [Value.ref _]) _ _ _)); (fail_if_success (with_reducible show wpAny _ _ (compareOp PySem.CmpOp.Eq (Value.ref _) (Value.ref _)) _ _ _)); (fail_if_success (with_reducible show wpAny _ _ (call (Value.type "range") _) _ _ _)); (fail_if_success (with_reducible show wpAny _ _ (call (Value.builtin "str.join") _) _ _ _)); (fail_if_success (with_reducible show wpAny _ _ (exec (PySem.Stmt.Assign [_] (PySem.Expr.ListComp _ _ _ _) _) _) _ _ _)); (fail_if_success (with_reducible show wpAny _ _ (exec (PySem.Stmt.For _ _ _ _ _) _) _ _ _)); (fail_if_success (with_reducible show wpAny _ _ (eval (PySem.Expr.ListComp _ _ _ _) _) _ _ _)); (fail_if_success (with_reducible show wpAny _ _ (eval (PySem.Expr.IfExp _ _ _ _) _) _ _ _)); (fail_if_success (with_reducible show wpAny _ _ (call (Value.builtin "str.join") _) _ _ _)); (fail_if_success (with_reducible show Exists _)); (fail_if_success (with_reducible show wpAny _ _ (pyIter _) (fun it s₂ => codeAny _ _ (Code.forLoop _ _ _ _ _) _ _) _ _)); (fail_if_success (with_reducible show wpAny _ _ (binaryOp Operator.Mult _ _) _ _ _)); (fail_if_success (with_reducible show wpAny _ _ (compareOp _ (Value.int _ _) (Value.int _ _)) _ _ _)); (fail_if_success (with_reducible show wpAny _ _ (compareOp _ (Value.str _ _) (Value.str _ _)) _ _ _)); (fail_if_success (with_reducible show wpAny _ _ (eval (PySem.Expr.BoolOp PySem.BoolOp.Or _ _) _) _ _ _)); (fail_if_success (with_reducible show wpAny _ _ (eval (PySem.Expr.Compare (PySem.Expr.Compare _ _ _ _) _ _ _) _) _ _ _))))
local macro_rules | `(tactic| walk_at "my walk3") => `(tactic| (repeat' (walk_at "my stops3"; first | (k_unfold; (try dsimp only)) | walk1 | (dsimp only; first | walk1 | (k_unfold; try dsimp only)) | (leave1; walk_say "STEP leave1"; try dsimp only))))
local macro_rules | `(tactic| walk_at "eval Name") => `(tactic| (k_here; (with_reducible show wpAny _ _ (eval (Expr.Name (Str.ofString "number") _) (compEnvC _ _ _ _)) _ _ _); k_dflt (refine LCgL.ld_own (by assumption) (.tail _ (.head _)) (by assumption) (by assumption) ?_)))
local macro_rules | `(tactic| walk_at "eval Name") => `(tactic| (k_here; (with_reducible show wpAny _ _ (eval (Expr.Name (Str.ofString "letter") _) (compEnvC _ _ _ _)) _ _ _); k_dflt (refine LCgL.ld_own (by assumption) (.tail _ (.head _)) (by assumption) (by assumption) ?_)))
local macro_rules | `(tactic| walk_at "eval Name") => `(tactic| (k_here; (with_reducible show wpAny _ _ (eval (Expr.Name (Str.ofString "k") _) (compEnvC _ _ _ _)) _ _ _); k_dflt (refine LCgL.ld_own (by assumption) (.tail _ (.head _)) (by assumption) (by assumption) ?_)))
local macro_rules | `(tactic| walk_at "eval Name") => `(tactic| (k_here; (with_reducible show wpAny _ _ (eval (Expr.Name (Str.ofString "piece") _) (compEnvC _ _ _ _)) _ _ _); k_dflt (refine LCgL.ld_own (by assumption) (.tail _ (.head _)) (by assumption) (by assumption) ?_)))
local macro_rules | `(tactic| walk_at "eval Name") => `(tactic| (k_here; (with_reducible show wpAny _ _ (eval (Expr.Name (Str.ofString "old") _) (compEnvC _ _ _ _)) _ _ _); k_dflt (refine lcf_cell (by assumption) rfl (.tail _ (by k_mem)) (by assumption) ?_ rfl rfl)))
local macro_rules | `(tactic| walk_at "eval Name") => `(tactic| (k_here; (with_reducible show wpAny _ _ (eval (Expr.Name (Str.ofString "new") _) (compEnvC _ _ _ _)) _ _ _); k_dflt (refine lcf_cell (by assumption) rfl (.tail _ (by k_mem)) (by assumption) ?_ rfl rfl)))
local macro_rules | `(tactic| walk_at "eval Name") => `(tactic| (k_here; (with_reducible show wpAny _ _ (eval (Expr.Name (Str.ofString "q") _) (compEnvC _ _ _ _)) _ _ _); k_dflt (refine lcf_cell (by assumption) rfl (.tail _ (by k_mem)) (by assumption) ?_ rfl rfl)))

theorem lawW {l : Addr} {vs : List Value} {ns : List Int}
    (G : Gr w p loose mg mb s.heap) (GB : AllBare s.gens) (hL : s.heap.IsList l vs.toArray) (hI : IntsAre vs ns) (hn : ns.length ≤ 63)
    (h : ∀ s' : Shared, OldK s.heap s'.heap → AllBare s'.gens → s'.os = s.os → Q (.bool true) s') :
    wpAny (model PySem.Challenge.rw_ah5040_01.prog w) callerA (call (.ref 316) [.ref l]) Q E s := by
  have X := G.X
  have T := G.T
  refine wpAny_call ?_
  refine' enterC (binds := [(Str.ofString "script", .ref l)]) ?k3 ?k5 ?k6 ?k7 ?k8 ?k9 ?kB ?kD ?_ ?c2 ?c3 ?c4
  case k3 => k_asm
  case k5 => k_asm
  case k6 => k_is
  case k7 => k_is
  case k8 => k_room
  case k9 => exact BindsTo.of_eq rfl
  case kB => rfl
  case kD => decide +kernel
  case c2 => exact rfl
  case c3 => exact rfl
  case c4 => exact rfl
  intro L' h' tk' cells' F' N' Y'
  k_cells Y'
  replace F' : Fr s.heap L' h' (fun y => if y = Str.ofString "script" then some (.ref l) else none) := F'
  (try dsimp only); (show wpAny _ _ _ _ _ _); k_fold
  walk_at "my walk"
  refine wpAny_mono (Q := fun v s' => ∃ tk t, v = .int (ns.headD 0) t ∧ s' = { s with heap := h', toks := tk }) (E := ek) ?_ ?_ (fun _ _ e => e)
  · walk1
    walk_at "my walk"
    · rename_i h1
      exact ⟨_, h1, by rw [show ns.getD (0 : Int).toNat 0 = ns.headD 0 from by cases ns <;> rfl], rfl⟩
    · rename_i h1
      exact ⟨_, _, by rw [show ns.headD 0 = 0 from by cases ns with | nil => rfl | cons a b => exact absurd (Nat.succ_pos _) h1], rfl⟩
  rintro v _ ⟨tk2, t2, rfl, rfl⟩
  generalize ns.headD 0 = head
  dsimp only
  walk_at "my walk"
  rename Fr _ _ _ _ => F1
  rename News _ _ _ _ => N1
  refine ListComp_W F1 (by with_unfolding_all rfl) (by decide) (by rfl) (by decide) (by rfl) ?_
  walk_at "my walk"
  rename IntsAre _ (List.take _ _) => hW
  rename Fr _ _ _ _ => F2
  rename News _ _ _ _ => N2
  generalize hz : List.take _ _ = zs at hW
  have hzl : zs.length ≤ 63 := by rw [← hz]; simp only [List.length_take, List.length_drop]; omega
  refine comp_list rfl F2 N2 (.head _) (by rw [List.size_toArray, hW.length]; omega) fun g => ?_
  rw [List.size_toArray, hW.length]
  refine CompRest.ind (n := zs.length) (fun i ys news => StrsAre ys (((zs.take i).map letN).map one) ∧ news = _) ?_ ?_ _ 0 [] _ (by omega) ⟨.nil, rfl⟩
  · rintro i ys _ hi ⟨hys, rfl⟩ v I oI C oC D m₂ h3 tk3 E' hv hC hm F3 N3 off nes
    clear F2 N2
    obtain ⟨e, te, rfl, he⟩ := hW.at i v (by simpa using hv)
    have e1 : ((zs.take (i + 1)).map letN).map one = ((zs.take i).map letN).map one ++ [one (letN e)] := by rw [List.take_add_one, he]; simp
    have key : ∀ t, StrsAre (ys ++ [.str (ofL [letN e]) t]) (((zs.take (i + 1)).map letN).map one) := fun t => by rw [e1]; exact StrsAre.append hys (.cons _ _ .nil)
    walk_at "my walk"
    exact ⟨_, _, _, rfl, F3, N3, off, .head _, key _, rfl⟩
  rintro ys _ ⟨hys, rfl⟩ D h10 tk10 F10 N10 off
  clear F2 N2
  rw [List.take_length] at hys
  have hcl : (zs.map letN).length ≤ 6 := by rw [List.length_map, ← hz]; simp only [List.length_take, List.length_drop]; omega
  have hca : Asc (zs.map letN) := fun c hc => by
    obtain ⟨e, _, rfl⟩ := List.mem_map.mp hc
    have := Int.fmod_lt_of_pos e (show (0 : Int) < 3 by decide)
    unfold letN; omega
  generalize zs.map letN = cs at hys hcl hca
  dsimp only
  walk_at "my walk"
  refine join_listW (ys := cs.map one) (D := D) (items := ys.toArray) ⟨_, (N10 _ (.head _)).1, rfl, _, rfl⟩ hys (by decide) (by rw [sum_ones, List.length_map]; omega) fun t3 tk3 => ?_
  rw [join_ofL]
  walk_at "my walk"
  rename Fr _ _ _ _ => F11
  rename News _ _ _ _ => N11
  simp only [List.cons_append, List.nil_append] at N11
  obtain ⟨oN0, hN0, dN0⟩ : ∃ oN : Obj, News s.heap L' _ [(L' + 1 + 1 + 1, oN)] ∧ oN.data = Data.cell (some (.str (ofL cs) t3)) := ⟨_, News.sub1 N11 (.tail _ (.tail _ (.tail _ (.head _)))), by assumption⟩
  obtain ⟨oO, hO, dO⟩ : ∃ oN : Obj, News s.heap L' _ [(L' + 1 + 1, oN)] ∧ oN.data = Data.cell (some (.str (ofL cs) t3)) := ⟨_, News.sub1 N11 (.tail _ (.tail _ (.tail _ (.tail _ (.head _))))), by assumption⟩
  obtain ⟨oQ, tQ, hQ, dQ⟩ : ∃ (oN : Obj) (tQ : Tok), News s.heap L' _ [(L' + 1, oN)] ∧ oN.data = Data.cell (some (.int (2 + Int.fmod head 3) tQ)) := ⟨_, _, News.sub1 N11 (.tail _ (.tail _ (.tail _ (.tail _ (.tail _ (.head _)))))), by assumption⟩
  obtain ⟨qn, hqn, hq⟩ : ∃ qn : Nat, 2 + Int.fmod head 3 = (qn : Int) ∧ (qn = 2 ∨ qn = 3 ∨ qn = 4) := by
    have h1 := Int.fmod_nonneg_of_pos head (show (0 : Int) < 3 by decide)
    have h2 := Int.fmod_lt_of_pos head (show (0 : Int) < 3 by decide)
    exact ⟨(2 + Int.fmod head 3).toNat, by omega, by omega⟩
  rw [hqn] at dQ
  have N12 := News.put hN0 (News.put hO hQ)
  clear N11
  refine wpAny_For ?_
  walk_at "my walk"
  rename Fr _ _ _ _ => F13
  rename News _ _ _ _ => N13
  rename IntsAre _ (List.take _ _) => hW2
  generalize hz2 : List.take _ _ = deeds at hW2
  have hdl : deeds.length ≤ 4 := by
    have h1 := Int.fmod_lt_of_pos (Int.fdiv head 3) (show (0 : Int) < 4 by decide)
    have h2 := Int.fmod_nonneg_of_pos (Int.fdiv head 3) (show (0 : Int) < 4 by decide)
    rw [← hz2]; simp only [List.length_take, List.length_drop]; omega
  refine for_lst (x := Str.ofString "number") (g := s.heap) rfl ⟨_, rfl⟩ rfl rfl rfl (fun i m news => ∃ ys d sw td ts tN oN, m (Str.ofString "deeds") = some (.int (d : Nat) td) ∧ m (Str.ofString "swaps") = some (.int (sw : Nat) ts) ∧ m (Str.ofString "head") = some (.int head t2) ∧ m (Str.ofString "script") = some (.ref l) ∧
      news = [(L' + 1 + 1 + 1, oN), (L' + 1 + 1, oO), (L' + 1, oQ)] ∧ oN.data = .cell (some (.str (ofL ys) tN)) ∧ P.Reach cs ys d sw ∧ Asc ys ∧ ys.length ≤ 6 + i ∧ d = i)
    F13 N13 (fun p hp => ?_) ⟨cs, 0, 0, _, _, t3, oN0, rfl, rfl, rfl, rfl, rfl, dN0, .refl _, hca, hcl, rfl⟩ ?_ ?_
  · simp only [List.mem_cons, List.not_mem_nil, or_false] at hp
    rename _ < _ ∧ _ < _ ∧ _ < _ => l1
    rcases hp with rfl | rfl | rfl
    · exact Nat.ne_of_lt l1.1
    · exact Nat.ne_of_lt l1.2.1
    · exact Nat.ne_of_lt l1.2.2
  · rintro I oI i u m news h14 tk14 hu ⟨ys2, d, sw, td, ts, tN, oN, e1, e2, e3, e4, rfl, dN, hr, ha2, hl2, rfl⟩ hI2 F14 N14
    clear F13 N13
    obtain ⟨e, te, rfl, he⟩ := hW2.at d u (by simpa using hu)
    replace F14 : Fr s.heap L' h14 (fun y => if y = Str.ofString "number" then some (.int e te) else m y) := F14
    rw [frame4 e1 e2 e3 e4] at F14
    replace N14 : News s.heap L' h14 _ := N14
    dsimp only at F14
    (try dsimp only)
    have hl3 : ys2.length ≤ 10 := by
      have := (List.getElem?_eq_some_iff.mp he).1
      omega
    have q1 : @Ne Nat _ _ := (hI2 _ (.head _)).1
    have q2 : @Ne Nat _ _ := (hI2 _ (.head _)).2
    dsimp only at q1 q2
    have hk0 : 0 ≤ Int.fmod (Int.fdiv e 12) ((ys2.length : Nat) + 1) := Int.fmod_nonneg_of_pos _ (by omega)
    have ap : ∀ oN' : Obj, ∀ p ∈ [(L' + 1 + 1 + 1, oN'), (L' + 1 + 1, oO), (L' + 1, oQ)], p.1 ≠ I ∧ p.1 ≠ _ := fun oN' p hp => by
      simp only [List.mem_cons, List.not_mem_nil, or_false] at hp
      rcases hp with rfl | rfl | rfl
      · exact hI2 (_, oN) (.head _)
      · exact hI2 _ (.tail _ (.head _))
      · exact hI2 _ (.tail _ (.tail _ (.head _)))
    walk_at "my walk"
    · rename Fr _ _ _ _ => F20
      rename News _ _ _ _ => N20
      obtain ⟨r1, r2, r3⟩ := turn0 hr ha2 hk0 _
      exact ⟨_, _, _, _, rfl, F20, fun p hp => N20 p (.tail _ hp), ap _, _, d + 1, sw, _, _, _, _, rfl, rfl, rfl, rfl, rfl, by assumption, r1, r2, by omega, rfl⟩
    · rename Fr _ _ _ _ => F20
      rename News _ _ _ _ => N20
      obtain ⟨r1, r2, r3⟩ := turn1 hr ha2 hk0
      exact ⟨_, _, _, _, rfl, F20, fun p hp => N20 p (.tail _ hp), ap _, _, d + 1, sw, _, _, _, _, rfl, rfl, rfl, rfl, rfl, by assumption, r1, r2, by omega, rfl⟩
    · rename Fr _ _ _ _ => F20
      rename News _ _ _ _ => N20
      obtain ⟨r1, r2, r3⟩ := turn2 hr ha2 hk0 _
      exact ⟨_, _, _, _, rfl, F20, fun p hp => N20 p (.tail _ hp), ap _, _, d + 1, sw, _, _, _, _, rfl, rfl, rfl, rfl, rfl, by assumption, r1, r2, by omega, rfl⟩
    · rename Fr _ _ _ _ => F20
      rename News _ _ _ _ => N20
      obtain ⟨r1, r2, r3⟩ := turn3 hr ha2 hk0
      exact ⟨_, _, _, _, rfl, F20, fun p hp => N20 p (.tail _ hp), ap _, _, d + 1, sw + 1, _, _, _, _, rfl, rfl, rfl, rfl, rfl, by assumption, r1, r2, by omega, rfl⟩
  · rintro m news h14 tk14 ⟨ys2, d, sw, td, ts, tN, oN, e1, e2, e3, e4, rfl, dN, hr, ha2, hl2, hd2⟩ F14 N14
    clear F13 N13
    replace F14 : Fr s.heap L' h14 m := F14
    rw [frame4 e1 e2 e3 e4] at F14
    replace N14 : News s.heap L' h14 _ := N14
    have hl3 : ys2.length ≤ 10 := by
      rw [List.size_toArray, hW2.length] at hl2
      omega
    (try dsimp only)
    (show wpAny _ _ _ _ _ _)
    walk_at "my walk"
    refine Assign_ListComp_W F14 rfl (by with_unfolding_all rfl) (by with_unfolding_all rfl) (by decide) (by rfl) (by decide) (by rfl) (by rfl) (by rfl) ?_
    walk_at "my walk"
    refine comp_text rfl F14 N14 (by show ys2.length ≤ 1000; omega) fun g => ?_
    refine CompRest.ind (n := ys2.length) (fun i vs news => StrsAre vs ((ys2.take i).map one) ∧ news = _) ?_ ?_ _ 0 [] _ (by show 0 + (ofL ys2).cps.toList.length = _; rw [cps_ofL]; omega) ⟨.nil, rfl⟩
    · rintro i ws _ hi ⟨hws, rfl⟩ v I oI C oC D m₂ h3 tk3 E' hv hC hm F3 N3 off nes
      clear F14 N14
      obtain ⟨c, u, hc, rfl⟩ := hv
      rw [cps_ofL] at hc
      have e1 : (ys2.take (i + 1)).map one = (ys2.take i).map one ++ [one c] := by rw [List.take_add_one, hc]; simp
      have key : ∀ t, StrsAre (ws ++ [.str ⟨#[c]⟩ t]) ((ys2.take (i + 1)).map one) := fun t => by rw [e1]; exact StrsAre.append hws (.cons _ _ .nil)
      walk_at "my walk"
      exact ⟨_, _, _, rfl, F3, N3, off, trivial, key _, rfl⟩
    rintro rv _ ⟨hrv, rfl⟩ D h15 tk15 F15 N15 off
    clear F14 N14
    rw [List.take_length] at hrv
    (try dsimp only)
    walk_at "my walk"
    -- Levenshtein() and its distance
    refine wpAny_le (mkL0 (X.keeps F15.keep) (T.keeps F15.keep) fun xL dxL h16 tk16 a1 b1 c1 a2 b2 a3 b3 vx ep st16 n1 n2 ne16 e1 e2 => ?_) (Nat.le_of_ble_eq_true rfl) (Nat.le_of_ble_eq_true rfl)
    have F16 := fr_stays F15 st16
    have N16 : News s.heap L' h16 ((xL, instObj 244 dxL) :: _) := inst_news F15 N15 st16 n1 n2 e1 e2
    clear F15 N15
    (try dsimp only)
    walk_at "my walk"
    rename Fr _ _ _ _ => F17
    refine wpAny_le (distL1 (X.keeps F17.keep) (T.keeps F17.keep) e1 e2 (by show cs.length < 1000; omega) (by show ys2.length < 1000; omega) fun tl h18 tk18 st18 => ?_) (Nat.le_of_ble_eq_true rfl) (Nat.le_of_ble_eq_true rfl)
    have F18 := fr_stays F17 st18
    have N18 := news_stays (News.drop2 N16) st18
    obtain ⟨lt, hlt, lt1, lt2⟩ := lt_spec cs ys2
    rw [hlt]
    clear F17 N16 e1 e2 hlt
    (try dsimp only)
    walk_at "my walk"
    -- DamerauLevenshtein(restricted=False) and its distance
    rename Fr _ _ _ _ => F19
    rename News _ _ _ _ => N19
    refine wpAny_le (mkD0 (X.keeps F19.keep) (T.keeps F19.keep) fun xD dxD h20 tk20 a1 b1 c1 a2 b2 a3 b3 vx a4 b4 ep st20 n1 n2 ne20 e1 e2 => ?_) (Nat.le_of_ble_eq_true rfl) (Nat.le_of_ble_eq_true rfl)
    have F20 := fr_stays F19 st20
    have N20 : News s.heap L' h20 ((xD, instObj 285 dxD) :: _) := inst_news F19 N19 st20 n1 n2 e1 e2
    clear F19 N19
    (try dsimp only)
    walk_at "my walk"
    rename Fr _ _ _ _ => F21
    refine wpAny_le (distD1 (X.keeps F21.keep) (T.keeps F21.keep) e1 e2 (by show cs.length < 1000; omega) (by show ys2.length < 1000; omega) fun tf h22 tk22 st22 => ?_) (Nat.le_of_ble_eq_true rfl) (Nat.le_of_ble_eq_true rfl)
    have F22 := fr_stays F21 st22
    have N22 := news_stays (News.drop2 N20) st22
    obtain ⟨fr, hfr, fr1, fr2⟩ := fr_spec cs ys2
    rw [hfr]
    clear F21 N20 e1 e2 hfr
    (try dsimp only)
    walk_at "my walk"
    -- Levenshtein(qval=q) and its distance
    rename Fr _ _ _ _ => F23
    rename News _ _ _ _ => N23
    refine wpAny_le (mkLQ (q := qn) (X.keeps F23.keep) (T.keeps F23.keep) fun xP dxP h24 tk24 a1 b1 c1 a2 b2 a3 b3 vx ep st24 n1 n2 ne24 e1 e2 => ?_) (Nat.le_of_ble_eq_true rfl) (Nat.le_of_ble_eq_true rfl)
    have F24 := fr_stays F23 st24
    have N24 : News s.heap L' h24 ((xP, instObj 244 dxP) :: _) := inst_news F23 N23 st24 n1 n2 e1 e2
    have dxL' : dxP ≠ L' := (N24 (dxP, _) (.tail _ (.head _))).2.1
    clear F23 N23
    (try dsimp only)
    walk_at "my walk"
    rename Fr _ _ _ _ => F25
    have hv1 : ∀ g : Heap, Letters g (.str (ofL cs) t3) cs := fun g => .inl ⟨_, _, rfl, rfl⟩
    have hrow : ∀ {g : Heap}, g.get? D = some (LCg.lst rv) → Letters g (.ref D) ys2 := fun e => row_letters ⟨_, e, rfl, _, rfl⟩ hrv
    refine wpAny_le (distLP (base := s.heap) hq hca ha2 (by omega) (by omega) X T (Grd.push (Grd.self s.heap) F25 rfl (by nofun)) (hv1 _) (hrow (N24 (D, _) (.tail _ (.tail _ (.head _)))).1) e1 e2 (fun hm => dxL' (List.mem_singleton.mp hm)) fun tp h26 tk26 M26 => ?_) (Nat.le_of_ble_eq_true rfl) (Nat.le_of_ble_eq_true rfl)
    obtain ⟨F26, N26⟩ := moved_law F25 (News.drop2 N24) rfl M26
    obtain ⟨pc, hpc, pc1, pc2⟩ := pc_spec (q := qn) (by omega) cs ys2
    rw [hpc]
    clear F25 N24 e1 e2 hpc M26
    (try dsimp only)
    walk_at "my walk"
    -- Bag(qval=q) and its distance
    rename Fr _ _ _ _ => F27
    rename News _ _ _ _ => N27
    refine wpAny_le (mkBQ (q := qn) (X.keeps F27.keep) (T.keeps F27.keep) fun xB dxB h28 tk28 a1 b1 c1 a3 b3 vx ep st28 n1 n2 ne28 e1 e2 => ?_) (Nat.le_of_ble_eq_true rfl) (Nat.le_of_ble_eq_true rfl)
    have F28 := fr_stays F27 st28
    have N28 : News s.heap L' h28 ((xB, instObj 304 dxB) :: _) := inst_news F27 N27 st28 n1 n2 e1 e2
    clear F27 N27
    (try dsimp only)
    walk_at "my walk"
    rename Fr _ _ _ _ => F29
    have hv2 := hrow (N28 (D, _) (.tail _ (.tail _ (.head _)))).1
    obtain ⟨kp, hkp, hkc⟩ := P.cover (pk qn cs ++ pk qn ys2)
    refine wpAny_le (distBag (kk := tupKK _ w) (q := qn) (G.stays F29.keep) GB (letters_all (hv1 _)) (letters_all hv2) e1 e2 (fun g st => seqPieces hq ((G.stays F29.keep).stays st) (by omega) (by omega) (hv1 g) (hv2.stays st) (st _ _ e1) (st _ _ e2)) hkp (cnt_mem hkc).1 (cnt_mem hkc).2 fun s30 tb two GB30 os30 => ?_) (Nat.le_of_ble_eq_true rfl) (Nat.le_of_ble_eq_true rfl)
    rw [bag_pieces hkp hkc]
    obtain ⟨h30, g30, d30, tk30, os30'⟩ := s30
    (try dsimp only at two GB30 os30)
    obtain ⟨base1, G1, two1, F30, N30, keep1⟩ := two_rebase G F29 (News.drop2 N28) two
    have X1 := G1.X
    have T1 := G1.T
    clear F29 N28 e1 e2 two hkc
    (try dsimp only)
    (try (show wpAny _ _ _ _ _ _))
    walk_at "my walk"
    -- Bag() and its distance
    rename Fr _ _ _ _ => F31
    rename News _ _ _ _ => N31
    refine wpAny_le (mkB0 (X1.keeps F31.keep) (T1.keeps F31.keep) fun xB2 dxB2 h32 tk32 a1 b1 c1 a3 b3 vx ep st32 n1 n2 ne32 e1 e2 => ?_) (Nat.le_of_ble_eq_true rfl) (Nat.le_of_ble_eq_true rfl)
    have F32 := fr_stays F31 st32
    have N32 : News base1 L' h32 ((xB2, instObj 304 dxB2) :: _) := inst_news F31 N31 st32 n1 n2 e1 e2
    clear F31 N31
    (try dsimp only)
    walk_at "my walk"
    rename Fr _ _ _ _ => F33
    have hv3 := hrow (N32 (D, _) (.tail _ (.tail _ (.head _)))).1
    obtain ⟨kl, hkl, hlc⟩ := P.cover (cs.map one ++ ys2.map one)
    refine wpAny_le (distBag (kk := strKK _ w) (q := 1) (G1.stays F33.keep) GB30 (letters_all (hv1 _)) (letters_all hv3) e1 e2 (fun g st => seqLetters ((G1.stays F33.keep).stays st) (by omega) (by omega) (hv1 g) (hv3.stays st) (st _ _ e1) (st _ _ e2)) hkl (cnt_mem hlc).1 (cnt_mem hlc).2 fun s34 tb2 two2' GB34 os34 => ?_) (Nat.le_of_ble_eq_true rfl) (Nat.le_of_ble_eq_true rfl)
    rw [bag_letters hkl hlc]
    obtain ⟨h34, g34, d34, tk34, os34'⟩ := s34
    (try dsimp only at two2' GB34 os34)
    obtain ⟨base2, G2, two2, F34, N34, keep2⟩ := two_rebase G1 F33 (News.drop2 N32) two2'
    have X2 := G2.X
    have T2 := G2.T
    clear F33 N32 e1 e2 two2' hlc
    (try dsimp only)
    (try (show wpAny _ _ _ _ _ _))
    walk_at "my walk"
    -- all five are whole numbers
    refine wpAny_For ?_
    walk_at "my walk"
    rename Fr _ _ _ _ => F35
    rename News _ _ _ _ => N35
    refine for_tup_keep (x := Str.ofString "told") (g := base2) F35 N35 rfl ⟨_, rfl⟩ rfl rfl rfl (fun p hp => ?_) ?_ ?_
    · rename _ < _ ∧ _ < _ ∧ _ < _ ∧ _ < _ => l1
      simp only [List.mem_cons, List.not_mem_nil, or_false] at hp
      rcases hp with rfl | rfl | rfl | rfl
      · exact Nat.ne_of_lt l1.1
      · exact Nat.ne_of_lt l1.2.1
      · exact Nat.ne_of_lt l1.2.2.1
      · exact Nat.ne_of_lt l1.2.2.2
    · intro I oI i u m h36 tk36 hu hm hI2 F36 N36
      clear F35 N35
      obtain ⟨n, tn, rfl⟩ : ∃ n t, u = Value.int n t := by
        match i, hu with
        | 0, hu => exact ⟨_, _, (Option.some.inj hu).symm⟩
        | 1, hu => exact ⟨_, _, (Option.some.inj hu).symm⟩
        | 2, hu => exact ⟨_, _, (Option.some.inj hu).symm⟩
        | 3, hu => exact ⟨_, _, (Option.some.inj hu).symm⟩
        | 4, hu => exact ⟨_, _, (Option.some.inj hu).symm⟩
        | (k + 5), hu => simp at hu
      replace F36 : Fr base2 L' h36 (fun y => if y = Str.ofString "told" then some (.int n tn) else m y) := F36
      replace N36 : News base2 L' h36 _ := N36
      (try dsimp only)
      walk_at "my walk"
      exact ⟨_, _, _, _, rfl, F36, N36, hI2, fun z hz => by rw [if_neg hz]; exact hm z hz, rfl⟩
    intro m h36 tk36 hm F36 N36
    clear F35 N35
    replace F36 : Fr base2 L' h36 m := F36
    rw [frame_but hm] at F36
    replace N36 : News base2 L' h36 _ := N36
    (try dsimp only at F36)
    (try dsimp only)
    (try (show wpAny _ _ _ _ _ _))
    walk_at "my walk"
    have hq0 : 0 < qn := by omega
    refine LCg.Assign_ListComp_U (F₀ := F36) rfl (by with_unfolding_all rfl) (by with_unfolding_all rfl) (by decide) (by rfl) (by decide) (by rfl) (by rfl) (by rfl) ?_
    walk_at "my walk"
    rename Fr _ _ _ _ => Fa
    rename News _ _ _ _ => Na
    refine comp_range1' (n := cs.length + 1 - qn) rfl Fa Na (by omega) (by omega) (by omega) fun g tk => ?_
    refine CompRest.ind (n := cs.length + 1 - qn) (fun i vs news => StrsAre vs (((P.gr qn cs).take i).map ofL) ∧ news = _) ?_ ?_ _ 0 [] _ (by omega) ⟨.nil, rfl⟩
    · rintro i ws _ hi ⟨hws, rfl⟩ v I oI C oC D₁ m₂ h3 tk3 E' ⟨tv, rfl⟩ hC hm F3 N3 off nes
      clear Fa Na
      have key : ∀ t, StrsAre (ws ++ [.str (ofL ((cs.drop (0 + (i : Int)).toNat).take ((0 + (i : Int) + (qn : Int)).toNat - (0 + (i : Int)).toNat))) t]) (((P.gr qn cs).take (i + 1)).map ofL) := fun t => by
        rw [List.take_add_one, P.gr_at hq0 cs i hi, show (0 + (i : Int)).toNat = i by omega, show (0 + (i : Int) + (qn : Int)).toNat - i = qn by omega, List.map_append]
        exact StrsAre.append hws (.cons _ _ .nil)
      walk_at "my walk"
      first | exact key _ | exact ⟨_, _, _, rfl, F3, N3, off, trivial, key _, rfl⟩ | (rename Fr _ _ _ _ => F4; rename News _ _ _ _ => N4; exact ⟨_, _, _, rfl, F4, N4, off, trivial, key _, rfl⟩)
    rintro fv _ ⟨hfv, rfl⟩ Df h37 tk37 F37 N37 off37
    clear Fa Na
    rw [List.take_of_length_le (by rw [P.gr_len hq0]; exact Nat.le_refl _)] at hfv
    (try dsimp only)
    walk_at "my walk"
    rename Fr _ _ _ _ => F38
    rename News _ _ _ _ => N38
    refine LCg.Assign_ListComp_U (F₀ := F38) rfl (by with_unfolding_all rfl) (by with_unfolding_all rfl) (by decide) (by rfl) (by decide) (by rfl) (by rfl) (by rfl) ?_
    walk_at "my walk"
    rename Fr _ _ _ _ => Fa
    rename News _ _ _ _ => Na
    refine comp_range1' (n := ys2.length + 1 - qn) rfl Fa Na (by omega) (by omega) (by omega) fun g tk => ?_
    refine CompRest.ind (n := ys2.length + 1 - qn) (fun i vs news => StrsAre vs (((P.gr qn ys2).take i).map ofL) ∧ news = _) ?_ ?_ _ 0 [] _ (by omega) ⟨.nil, rfl⟩
    · rintro i ws _ hi ⟨hws, rfl⟩ v I oI C oC D₁ m₂ h3 tk3 E' ⟨tv, rfl⟩ hC hm F3 N3 off nes
      clear Fa Na
      have key : ∀ t, StrsAre (ws ++ [.str (ofL ((ys2.drop (0 + (i : Int)).toNat).take ((0 + (i : Int) + (qn : Int)).toNat - (0 + (i : Int)).toNat))) t]) (((P.gr qn ys2).take (i + 1)).map ofL) := fun t => by
        rw [List.take_add_one, P.gr_at hq0 ys2 i hi, show (0 + (i : Int)).toNat = i by omega, show (0 + (i : Int) + (qn : Int)).toNat - i = qn by omega, List.map_append]
        exact StrsAre.append hws (.cons _ _ .nil)
      walk_at "my walk"
      first | exact key _ | exact ⟨_, _, _, rfl, F3, N3, off, trivial, key _, rfl⟩ | (rename Fr _ _ _ _ => F4; rename News _ _ _ _ => N4; exact ⟨_, _, _, rfl, F4, N4, off, trivial, key _, rfl⟩)
    rintro sv _ ⟨hsv, rfl⟩ Ds h37 tk37 F37 N37 off37
    clear Fa Na
    rw [List.take_of_length_le (by rw [P.gr_len hq0]; exact Nat.le_refl _)] at hsv
    (try dsimp only)
    walk_at "my walk"
    have hlf : ((P.gr qn cs).map ofL).length ≤ 100 := by rw [List.length_map, P.gr_len hq0]; omega
    have hls : ((P.gr qn ys2).map ofL).length ≤ 100 := by rw [List.length_map, P.gr_len hq0]; omega
    refine len_strs ⟨_, (N37 (Df, _) (.tail _ (.head _))).1, rfl, _, rfl⟩ hfv (by omega) fun ta tka => ?_
    walk_at "my walk"
    refine len_strs ⟨_, (N37 (Ds, _) (.head _)).1, rfl, _, rfl⟩ hsv (by omega) fun tb' tkb => ?_
    walk_at "my walk"
    refine max2 rfl fun h38 tk38 tm st38 => ?_
    have F38' := fr_stays F37 st38
    have N38' := news_stays N37 st38
    clear F37 N37
    (try dsimp only)
    walk_at "my walk"
    rename Fr _ _ _ _ => F39
    rename News _ _ _ _ => N39
    refine ListComp_W F39 (by with_unfolding_all rfl) (by decide) (by rfl) (by decide) (by rfl) ?_
    walk_at "my walk"
    have hv4 := hrow (N39 (D, _) (.tail _ (.tail _ (.head _)))).1
    refine wpAny_le (ngrams hq (by omega) (X2.keeps F39.keep) (T2.keeps F39.keep) hv4 fun S pl h40 tk40 st40 fr40 pn => ?_) (Nat.le_of_ble_eq_true rfl) (Nat.le_of_ble_eq_true rfl)
    obtain ⟨F40, N40, ap40⟩ := fr_fresh F39 N39 st40 fr40
    obtain ⟨acc, cc, hS, hlen40, hit⟩ := pn
    obtain ⟨accl⟩ := acc
    clear F39 N39 fr40 ap40
    (try dsimp only)
    have hal : accl.toArray.size = ys2.length + 1 - qn := hlen40
    refine comp_list (its := accl) (c := cc) rfl F40 N40 (List.mem_append_left _ hS) (by omega) fun g40 => ?_
    rw [hal]
    refine CompRest.ind (n := ys2.length + 1 - qn) (fun i vs news => StrsAre vs (((P.gr qn ys2).take i).map ofL) ∧ news = _) ?_ ?_ _ 0 [] _ (by omega) ⟨.nil, rfl⟩
    · rintro i ws _ hi ⟨hws, rfl⟩ v I oI C oC D₁ m₂ h3 tk3 E' hv hC hm F3 N3 off nes
      clear F40 N40
      obtain ⟨T', xs', rfl, hT', hsz', hx'⟩ := hit i v hv
      have key : ∀ t, StrsAre (ws ++ [.str (ofL ((ys2.drop i).take qn)) t]) (((P.gr qn ys2).take (i + 1)).map ofL) := fun t => by
        rw [List.take_add_one, P.gr_at hq0 ys2 i hi, List.map_append]
        exact StrsAre.append hws (.cons _ _ .nil)
      have hxs : StrsAre xs'.toList (((ys2.drop i).take qn).map one) := strs_of (by rw [Array.length_toList, hsz', List.length_take, List.length_drop]; omega) fun k x hk => by
        rw [Array.getElem?_toList] at hk
        obtain ⟨c', u, e1, e2⟩ := hx' k x hk
        have : k < xs'.size := (Array.getElem?_eq_some_iff.mp hk).1
        exact ⟨c', u, by rw [piece_at hi k (by omega)]; exact e1, e2⟩
      walk_at "my walk"
      refine join_tupleW (ys := ((ys2.drop i).take qn).map one) (D := T') (items := xs') ⟨_, (N3 _ (.tail _ (.tail _ (.tail _ (List.mem_append_left _ hT'))))).1, rfl, _, rfl⟩ hxs (by decide) (by rw [sum_ones, List.length_map, List.length_take, List.length_drop]; omega) fun t41 tk41 => ?_
      rw [join_ofL]
      exact ⟨_, _, _, rfl, F3, N3, off, List.mem_append_left _ hS, key _, rfl⟩
    rintro qv _ ⟨hqv, rfl⟩ D₂ h42 tk42 F42 N42 off42
    clear F40 N40
    rw [List.take_of_length_le (by rw [P.gr_len hq0]; exact Nat.le_refl _)] at hqv
    (try dsimp only)
    walk_at "my walk"
    have okp : ∀ {zs : List Nat}, Asc zs → ∀ x ∈ (P.gr qn zs).map ofL, PyData.strOk x = true := fun hz x hx => by
      obtain ⟨g, hg, rfl⟩ := List.mem_map.mp hx
      exact okL (asc_gr hz g hg)
    refine eq_strs ⟨_, (N42 (D₂, _) (.head _)).1, rfl, _, rfl⟩ ⟨_, (N42 (Ds, _) (.tail _ (List.mem_append_right _ (.head _)))).1, rfl, _, rfl⟩ hqv hsv (okp ha2) (okp ha2) (by show (7 : Nat) + 64 < cLine; unfold cLine; omega) ?_
    rw [decide_eq_true rfl]
    have N43 : News base2 L' h42 _ := fun p hp => N42 p (.tail _ (List.mem_append_right _ hp))
    clear N42 off42
    have L := P.law hq0 hr lt1 lt2 fr1 fr2 pc1 pc2 rfl rfl
    have la : (P.gr qn cs).length = ((P.gr qn cs).map ofL).length := (List.length_map ..).symm
    have lb : (P.gr qn ys2).length = ((P.gr qn ys2).map ofL).length := (List.length_map ..).symm
    rw [la, lb] at L
    obtain ⟨bg, hbg⟩ : ∃ n, max (P.alone (P.gr qn cs) (P.gr qn ys2)) (P.alone (P.gr qn ys2) (P.gr qn cs)) = n := ⟨_, rfl⟩
    obtain ⟨pv, hpv⟩ : ∃ n, max (P.alone cs ys2) (P.alone ys2 cs) = n := ⟨_, rfl⟩
    obtain ⟨mo, hmo⟩ : ∃ n, max ((P.gr qn cs).map ofL).length ((P.gr qn ys2).map ofL).length = n := ⟨_, rfl⟩
    rw [hbg, hpv, hmo] at F42 L
    obtain ⟨f1, f2, f3, f4, f5, f6, f7, f8, f9, f10, f11⟩ := L
    clear la lb
    walk_at "my walk"
    refine wpAny_le (lawAlone (X2.keeps F42.keep) (T2.keeps F42.keep) ⟨_, (N43 (Df, _) (.tail _ (.head _))).1, rfl, _, rfl⟩ ⟨_, (N43 (Ds, _) (.head _)).1, rfl, _, rfl⟩ hfv hsv (by omega) (by omega) fun t44 h44 tk44 st44 => ?_) (Nat.le_of_ble_eq_true rfl) (Nat.le_of_ble_eq_true rfl)
    have F44 := fr_stays F42 st44
    have N44 := news_stays N43 st44
    clear F42 N43
    rw [alone_map (fun a b h => ofL_inj.mp h)]
    (try dsimp only)
    walk_at "my walk"
    refine wpAny_le (lawAlone (X2.keeps F44.keep) (T2.keeps F44.keep) ⟨_, (N44 (Ds, _) (.head _)).1, rfl, _, rfl⟩ ⟨_, (N44 (Df, _) (.tail _ (.head _))).1, rfl, _, rfl⟩ hsv hfv (by omega) (by omega) fun t46 h46 tk46 st46 => ?_) (Nat.le_of_ble_eq_true rfl) (Nat.le_of_ble_eq_true rfl)
    have F46 := fr_stays F44 st46
    have N46 := news_stays N44 st46
    clear F44 N44
    rw [alone_map (fun a b h => ofL_inj.mp h)]
    (try dsimp only)
    walk_at "my walk"
    refine max2 rfl fun h48 tk48 tm48 st48 => ?_
    have F48 := fr_stays F46 st48
    have N48 := news_stays N46 st48
    clear F46 N46
    rw [hbg]
    (try dsimp only)
    have h7 : Hide (pc = mo ∨ lt ≤ pc ∧ pc < mo) := f7
    have h8 : Hide (pc = 0 ↔ cs = ys2 ∨ mo = 0) := f8
    have hq5 : (0 : Int) ≤ (qn : Int) := Int.natCast_nonneg _
    have hq6 : (qn : Int) ≤ 1000 := by rcases hq with e | e | e <;> rw [e] <;> decide
    have hq7 : (0 : Int) ≤ (qn : Int) + 1 := Int.add_nonneg hq5 (by decide)
    have hq8 : (qn : Int) + 1 ≤ 1000 := by rcases hq with e | e | e <;> rw [e] <;> decide
    have h6' : lt + 1 ≤ pc + qn := f6
    clear f7 f8 hq
    have g1 : (bg : Int) ≤ (pc : Int) := Int.ofNat_le.mpr f1
    have g2 : (pc : Int) ≤ (qn : Int) * (lt : Int) := by have := Int.ofNat_le.mpr f2; push_cast at this; exact this
    have g3 : (pc : Int) ≤ ((qn : Int) + 1) * (fr : Int) := by have := Int.ofNat_le.mpr f3; push_cast at this; exact this
    have g4 : (pv : Int) ≤ (fr : Int) := Int.ofNat_le.mpr f4
    have g5 : (lt : Int) ≤ 2 * (fr : Int) := by have := Int.ofNat_le.mpr f5; push_cast at this; exact this
    have g6 : (lt : Int) ≤ (pc : Int) + (qn : Int) - 1 := by have := Int.ofNat_le.mpr f6; push_cast at this; exact Int.le_sub_right_of_add_le this
    have g9 : (fr : Int) ≤ (d : Int) := Int.ofNat_le.mpr f9
    have g10 : (lt : Int) ≤ (d : Int) + (sw : Int) := by have := Int.ofNat_le.mpr f10; push_cast at this; exact this
    have g11 : (pc : Int) ≤ (qn : Int) * (d : Int) + (sw : Int) := by have := Int.ofNat_le.mpr f11; push_cast at this; exact this
    clear f1 f2 f3 f4 f5 f6 f9 f10 f11
    refine cmp_eq rfl ?_
    walk_at "my walk3"
    refine cmp_le g1 ?_
    walk_at "my walk3"
    refine mul_small hq5 hq6 fun _ _ => ?_
    walk_at "my walk3"
    refine cmp_le g2 ?_
    walk_at "my walk3"
    refine mul_small hq7 hq8 fun _ _ => ?_
    refine cmp_le g3 ?_
    walk_at "my walk3"
    refine cmp_le g4 ?_
    walk_at "my walk3"
    refine mul_small (by decide) (by decide) fun _ _ => ?_
    refine cmp_le g5 ?_
    walk_at "my walk3"
    refine cmp_le g6 ?_
    walk_at "my walk3"
    refine wpAny_mono (Q := fun v s' => ∃ tk, v = .bool true ∧ s' = ⟨h48, g34, d34, tk, os34'⟩) (E := ek) ?_ ?_ (fun _ _ e => e)
    · walk1
      walk_at "my walk3"
      rcases (h7 : pc = mo ∨ lt ≤ pc ∧ pc < mo) with e7 | ⟨e7, e7'⟩
      · refine cmp_eq (by rw [e7]) ?_
        walk_at "my walk3"
        exact ⟨_, rfl, rfl⟩
      · refine cmp_ne (fun q => absurd (Int.ofNat.inj q) (Nat.ne_of_lt e7')) ?_
        walk_at "my walk3"
        walk1
        walk_at "my walk3"
        refine cmp_le (Int.ofNat_le.mpr e7) ?_
        walk_at "my walk3"
        refine cmp_lt (Int.ofNat_lt.mpr e7') ?_
        walk_at "my walk3"
        exact ⟨_, rfl, rfl⟩
    rintro v _ ⟨tk50, rfl, rfl⟩
    (try dsimp only)
    walk_at "my walk3"
    refine wpAny_mono (Q := fun v s' => ∃ tk, v = .bool true ∧ s' = ⟨h48, g34, d34, tk, os34'⟩) (E := ek) ?_ ?_ (fun _ _ e => e)
    · walk1
      walk_at "my walk3"
      have h8' : pc = 0 ↔ cs = ys2 ∨ mo = 0 := h8
      by_cases z : pc = 0
      · refine cmp_eq (by rw [z]; rfl) ?_
        walk_at "my walk3"
        walk1
        walk_at "my walk3"
        refine eq_ofL ?_
        by_cases e : cs = ys2
        · rw [decide_eq_true e]
          walk_at "my walk3"
          exact ⟨_, rfl, rfl⟩
        · rw [decide_eq_false e]
          have e0 := (h8'.mp z).resolve_left e
          clear h8'
          walk_at "my walk3"
          walk1
          walk_at "my walk3"
          refine cmp_eq (by rw [e0]; rfl) ?_
          walk_at "my walk3"
          exact ⟨_, rfl, rfl⟩
      · have e : cs ≠ ys2 := fun q => z (h8'.mpr (.inl q))
        have e0 : mo ≠ 0 := fun q => z (h8'.mpr (.inr q))
        clear h8'
        refine cmp_ne (fun q => z (Int.ofNat.inj q)) ?_
        walk_at "my walk3"
        walk1
        walk_at "my walk3"
        refine eq_ofL ?_
        rw [decide_eq_false e]
        walk_at "my walk3"
        walk1
        walk_at "my walk3"
        refine cmp_ne (fun q => e0 (Int.ofNat.inj q)) ?_
        walk_at "my walk3"
        exact ⟨_, rfl, rfl⟩
    rintro v _ ⟨tk52, rfl, rfl⟩
    (try dsimp only)
    walk_at "my walk3"
    refine cmp_le g9 ?_
    walk_at "my walk3"
    refine cmp_le g10 ?_
    walk_at "my walk3"
    refine mul_small hq5 hq6 fun _ _ => ?_
    walk_at "my walk3"
    refine cmp_le g11 ?_
    walk_at "my walk3"
    refine ListComp_W F48 (by with_unfolding_all rfl) (by decide) (by rfl) (by decide) (by rfl) ?_
    walk_at "my walk3"
    refine comp_text rfl F48 N48 (Nat.le_trans hl3 (by decide)) fun g => ?_
    refine CompRest.ind (n := ys2.length) (fun i vs news => StrsAre vs ((ys2.take i).map one) ∧ news = _) ?_ ?_ _ 0 [] _ (by show 0 + (ofL ys2).cps.toList.length = _; rw [cps_ofL, Nat.zero_add]) ⟨.nil, rfl⟩
    · rintro i ws _ hi ⟨hws, rfl⟩ v I oI C oC D₄ m₂ h3 tk3 E' hv hC hm F3 N3 off nes
      clear F48 N48
      obtain ⟨c, u, hc, rfl⟩ := hv
      rw [cps_ofL] at hc
      have e1 : (ys2.take (i + 1)).map one = (ys2.take i).map one ++ [one c] := by rw [List.take_add_one, hc]; simp
      have key : ∀ t, StrsAre (ws ++ [.str ⟨#[c]⟩ t]) ((ys2.take (i + 1)).map one) := fun t => by rw [e1]; exact StrsAre.append hws (.cons _ _ .nil)
      walk_at "my walk3"
      first | exact key _ | exact ⟨_, _, _, rfl, F3, N3, off, trivial, key _, rfl⟩
    rintro rv2 _ ⟨hrv2, rfl⟩ D₃ h55 tk55 F55 N55 off55
    clear F48 N48
    rw [List.take_length] at hrv2
    (try dsimp only)
    walk_at "my walk3"
    have ok1 : ∀ x ∈ ys2.map one, PyData.strOk x = true := fun x hx => by
      obtain ⟨c, hc, rfl⟩ := List.mem_map.mp hx
      exact okL (cs := [c]) fun z hz => by rw [List.mem_singleton.mp hz]; exact ha2 c hc
    refine eq_strs ⟨_, (N55 (D, _) (.tail _ (.tail _ (.tail _ (.head _))))).1, rfl, _, rfl⟩ ⟨_, (N55 (D₃, _) (.head _)).1, rfl, _, rfl⟩ hrv hrv2 ok1 ok1 (by show (7 : Nat) + 64 < cLine; unfold cLine; omega) ?_
    rw [decide_eq_true rfl]
    walk_at "my walk3"
    have tt := two1.tabs G.t1 G.t2
    exact h _ ((two2.oldK (two1.oldK (OldK.refl _) G.t1 G.t2 G.t1 G.t2) G.t1 G.t2 tt.1 tt.2).step_keeps F55.keep) GB34 (os34.trans os30)
end
end Mine
end
-- the end
section
open PySem PySem.W PySem.W.X PyProof.Rows PySem.Calls
set_option maxRecDepth 100000
set_option maxHeartbeats 8000000
namespace Mine
def plO : Obj := { cls := .none, data := .fields #[] }
theorem fillT4 : PySem.Challenge.rw_ah5040_01 = PySem.Challenge.rw_ah5040_01 ∧ Mine.hd.heap_39 = Mine.hd.heap_39 := by
  k_fill
  exact ⟨rfl, rfl⟩
theorem tab_in {K : Frag} {c P : Addr} {h : Heap} (X : K.In h) (e : h.get? P = some plO) (hne : c ≠ P)
    (hk : ∃ o vs file tf flags tg inF text tt, K.lookup c = some o ∧ o.cls = .type "code" ∧ o.data = .fields vs ∧ vs[11]? = some (.ref P) ∧ vs.getD 11 .none = .ref P ∧ vs.getD 18 .none = .str file tf ∧ vs.getD 7 .none = .int flags tg ∧ vs.getD 9 .none = .bool inF ∧ vs.getD 10 .none = .int text tt) : Tab h c P := by
  obtain ⟨o, vs, file, tf, flags, tg, inF, text, tt, h1, h2, h3, h4, h5, h6, h7, h8, h9⟩ := hk
  exact ⟨#[], ⟨o, vs, file, tf, flags, tg, inF, text, tt, plO, X _ _ h1, h3, h5, h6, h7, h8, h9, e, rfl, trivial, hne⟩, ⟨⟨o, vs, X _ _ h1, h2, h3, h4⟩, e⟩⟩
theorem tab169 {w : World} {h : Heap} (X : (Mine.hd.heap_39 w.params).In h) (e : h.get? 167 = some plO) : Tab h 169 167 :=
  tab_in X e (by decide) ⟨_, _, _, _, _, _, _, _, _, by k_is, rfl, rfl, rfl, rfl, rfl, rfl, rfl, rfl⟩
theorem tab300 {w : World} {h : Heap} (X : (Mine.hd.heap_39 w.params).In h) (e : h.get? 296 = some plO) : Tab h 300 296 :=
  tab_in X e (by decide) ⟨_, _, _, _, _, _, _, _, _, by k_is, rfl, rfl, rfl, rfl, rfl, rfl, rfl, rfl⟩
theorem no296 (w : World) : (Mine.hd.heap_39 w.params).lookup 296 = none := by first | rfl | kernel_rfl
theorem in_tail {w : World} {h : Heap} (X : Frag.In ((167, plO) :: (296, plO) :: Mine.hd.heap_39 w.params) h) : (Mine.hd.heap_39 w.params).In h ∧ h.get? 167 = some plO ∧ h.get? 296 = some plO := by
  refine ⟨fun a o e => X a o ?_, X 167 _ rfl, X 296 _ rfl⟩
  have h1 : a ≠ 167 := fun q => by rw [q, no167] at e; cases e
  have h2 : a ≠ 296 := fun q => by rw [q, no296] at e; cases e
  show List.lookup a ((167, plO) :: (296, plO) :: Mine.hd.heap_39 w.params) = some o
  rw [List.lookup_cons, List.lookup_cons]
  simp only [beq_eq_false_iff_ne.mpr h1, beq_eq_false_iff_ne.mpr h2]
  exact e
end Mine
end
open PySem PySem.W PySem.W.X PyProof.Rows PySem.Calls
set_option maxRecDepth 100000 in
set_option maxHeartbeats 8000000 in
theorem PySem.Challenge.cw_ah5040_01_holds : PySem.Challenge.rw_ah5040_01.Holds := by
  w_on; o_law
  o_head (kHook (fun p => (167, Mine.plO) :: (296, Mine.plO) :: Mine.hd.heap_39 p) [167, 296, 2, 3, 15, 17, 18, 20, 21, 22, 25, 26, 27, 34, 35, 36, 38, 39, 41, 42, 43, 45, 46, 48, 49, 50, 53, 54, 55, 58, 59, 60, 62, 63, 65, 66, 67, 70, 71, 72, 75, 76, 77, 78, 79, 80, 81, 91, 92, 94, 95, 97, 98, 99, 101, 102, 104, 105, 106, 108, 109, 111, 112, 113, 114, 115, 116, 118, 119, 121, 122, 123, 125, 126, 128, 129, 130, 132, 133, 135, 136, 137, 139, 140, 142, 143, 144, 146, 147, 149, 150, 151, 153, 154, 156, 157, 158, 159, 160, 161, 164, 165, 166, 169, 170, 171, 173, 174, 176, 177, 178, 180, 181, 183, 184, 185, 187, 188, 190, 191, 192, 194, 195, 197, 198, 199, 200, 201, 202, 203, 206, 213, 214, 216, 217, 219, 220, 221, 223, 224, 226, 227, 228, 230, 231, 233, 234, 235, 237, 238, 240, 241, 242, 243, 244, 247, 254, 255, 257, 258, 260, 261, 262, 264, 265, 267, 268, 269, 271, 272, 274, 275, 276, 278, 279, 281, 282, 283, 284, 285, 288, 295, 297, 298, 300, 301, 302, 303, 304, 307, 310, 311, 312, 315, 316] (fun _ => by kernel_rfl))
  case hw => w_witness2
  k_fill
  intro w s₀ s₁ mg mb G Y fa o pm cd doc dV kV ho hd hcd hD hmg hg args vals as hpre hlay hrd hwl hlo
  have KX := kIn_of Y
  refine Ground.open G ?_
  intro T B D TE TW
  obtain ⟨bm, ob, M⟩ := bmod_of_top T
  wrow_args hpre hlay hrd hwl hlo
  rename IntsAre _ _ => hI
  rename Heap.IsList _ _ _ => hL
  obtain ⟨XX, p1, p2⟩ := Mine.in_tail KX
  have TR := topRead_of T
  have e316 := mg_of XX TR.g (show nsIn (Mine.hd.heap_39 w.params) mainGlobals (Str.ofString "law") = some (some (.ref 316)) by k_is)
  have hmg' : mg (Str.ofString "law") = some (.ref fa) := hmg
  rw [e316] at hmg'
  cases hmg'
  refine Mine.lawW ⟨XX, TR, ⟨bm, ob, M⟩, Mine.tab169 XX p1, Mine.tab300 XX p2⟩ (.of_eq hg) hL hI (by omega) fun s' hK hb hos => ?_
  refine ⟨.inl ⟨_, _, [], rfl, fun _ => rfl, ReadsW.bool true, ?_, fun _ => ⟨List.nodup_nil, fun _ hm => nomatch hm⟩⟩, hK, hos, hb⟩
  first | rfl | wrow_post
