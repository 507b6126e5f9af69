import PyProof.Rows.All
import Wide.All
import OpenK.AllK
import Wide.FinOn
import Lean
import PySem.Challenge.RW_qu0051_01

set_option Elab.async false
set_option maxRecDepth 100000
set_option linter.all false
set_option maxHeartbeats 0

section
namespace Mine
-- small linear facts over Nat, by a check
inductive LX
  | v (i : Nat) | n (k : Nat) | a (x y : LX) | m (k : Nat) (x : LX) | r (x : LX) (k : Nat)
inductive LH
  | e | c (k : Nat) (l r : LX) (t : LH)
namespace LX
def at' : List Nat → Nat → Nat
  | [], _ => 0
  | x :: _, 0 => x
  | _ :: c, i + 1 => at' c i
def den (c : List Nat) : LX → Nat
  | v i => at' c i
  | n k => k
  | a x y => x.den c + y.den c
  | m k x => k * x.den c
  | r x k => x.den c * k
def one : Nat → List Nat
  | 0 => [1]
  | i + 1 => 0 :: one i
def add : List Nat → List Nat → List Nat
  | [], q => q
  | p, [] => p
  | x :: p, y :: q => (x + y) :: add p q
def mul (k : Nat) : List Nat → List Nat
  | [] => []
  | x :: p => k * x :: mul k p
def pol : LX → List Nat
  | v i => 0 :: one i
  | n k => [k]
  | a x y => add x.pol y.pol
  | m k x => mul k x.pol
  | r x k => mul k x.pol
def le : List Nat → List Nat → Bool
  | [], _ => true
  | x :: p, [] => x == 0 && le p []
  | x :: p, y :: q => Nat.ble x y && le p q
def dot : List Nat → List Nat → Nat
  | x :: p, y :: c => x * y + dot p c
  | _, _ => 0
def ev (p c : List Nat) : Nat := dot p (1 :: c)
theorem dot_nil (p : List Nat) : dot p [] = 0 := by cases p <;> rfl
theorem dot_one : ∀ (i : Nat) (c : List Nat), dot (one i) c = at' c i
  | 0, [] => rfl
  | 0, x :: c => by cases c <;> simp [one, dot, at']
  | i + 1, [] => rfl
  | i + 1, x :: c => by simp [one, dot, at', dot_one i c]
theorem dot_add : ∀ (p q c : List Nat), dot (add p q) c = dot p c + dot q c
  | [], q, c => by simp [add, dot]
  | x :: p, [], c => by simp [add, dot]
  | x :: p, y :: q, [] => rfl
  | x :: p, y :: q, z :: c => by simp only [add, dot, dot_add p q c, Nat.add_mul]; ac_rfl
theorem dot_mul : ∀ (k : Nat) (p c : List Nat), dot (mul k p) c = k * dot p c
  | k, [], c => by simp [mul, dot]
  | k, x :: p, [] => by simp [mul, dot]
  | k, x :: p, z :: c => by simp only [mul, dot, dot_mul k p c, Nat.mul_add, Nat.mul_assoc]
theorem pol_ev (c : List Nat) : ∀ x : LX, ev x.pol c = x.den c
  | v i => by simp [ev, pol, dot, dot_one, den]
  | n k => by simp [ev, pol, dot, den]
  | a x y => by simp only [ev, pol, den, dot_add]; rw [← pol_ev c x, ← pol_ev c y]; rfl
  | m k x => by simp only [ev, pol, den, dot_mul]; rw [← pol_ev c x]; rfl
  | r x k => by simp only [ev, pol, den, dot_mul]; rw [← pol_ev c x, Nat.mul_comm]; rfl
theorem le_dot : ∀ (p q c : List Nat), le p q = true → dot p c ≤ dot q c
  | [], q, c, _ => by simp [dot]
  | x :: p, q, [], _ => by simp [dot]
  | x :: p, [], z :: c, h => by
    simp only [le, Bool.and_eq_true, beq_iff_eq] at h
    have := le_dot p [] c h.2
    simpa [dot, h.1] using this
  | x :: p, y :: q, z :: c, h => by
    simp only [le, Bool.and_eq_true, Nat.ble_eq] at h
    exact Nat.add_le_add (Nat.mul_le_mul_right _ h.1) (le_dot p q c h.2)
end LX
namespace LH
def den (c : List Nat) (P : Prop) : LH → Prop
  | e => P
  | .c _ l r t => l.den c ≤ r.den c → den c P t
def L : LH → List Nat
  | e => []
  | c k l _ t => LX.add (LX.mul k l.pol) t.L
def R : LH → List Nat
  | e => []
  | c k _ r t => LX.add (LX.mul k r.pol) t.R
theorem all (c : List Nat) (P : Prop) : ∀ t : LH, (LX.ev t.L c ≤ LX.ev t.R c → P) → t.den c P
  | e, h => h (Nat.le_refl _)
  | .c k l r t, h => fun q => all c P t fun z => h (by
    show LX.dot (LX.add (LX.mul k l.pol) t.L) (1 :: c) ≤ LX.dot (LX.add (LX.mul k r.pol) t.R) (1 :: c)
    rw [LX.dot_add, LX.dot_add, LX.dot_mul, LX.dot_mul]
    refine Nat.add_le_add (Nat.mul_le_mul_left _ ?_) z
    have e1 := LX.pol_ev c l; have e2 := LX.pol_ev c r
    unfold LX.ev at e1 e2
    rw [e1, e2]; exact q)
end LH
/-- l ≤ r out of the facts t; k: how often the goal is taken -/
theorem lin (c : List Nat) (k : Nat) (t : LH) (l r : LX) (h : LX.le (LX.add t.R (LX.add (LX.mul (k + 1) l.pol) [0])) (LX.add t.L (LX.add (LX.mul (k + 1) r.pol) [k])) = true) : t.den c (l.den c ≤ r.den c) := by
  refine t.all c _ fun z => ?_
  have q := LX.le_dot _ _ (1 :: c) h
  rw [LX.dot_add, LX.dot_add, LX.dot_add, LX.dot_add, LX.dot_mul, LX.dot_mul] at q
  have e1 := LX.pol_ev c l; have e2 := LX.pol_ev c r
  unfold LX.ev at e1 e2 z
  rw [e1, e2] at q
  simp only [LX.dot, Nat.mul_one, Nat.zero_mul, Nat.add_zero] at q
  refine Nat.le_of_lt_succ (Nat.lt_of_mul_lt_mul_left (a := k + 1) ?_)
  have : (k + 1) * l.den c ≤ (k + 1) * r.den c + k := Nat.le_of_add_le_add_left (Nat.le_trans q (Nat.add_le_add_right z _))
  rw [Nat.mul_succ]
  exact Nat.lt_of_le_of_lt this (Nat.add_lt_add_left (Nat.lt_succ_self _) _)
theorem no1 {P : Prop} (h : 1 ≤ 0) : P := absurd h (by decide)
theorem zle (m n : Nat) (h : m ≤ n) : (m : Int) ≤ (n : Int) := Int.ofNat_le.2 h
theorem zlt (m n : Nat) (h : m + 1 ≤ n) : (m : Int) < (n : Int) := Int.ofNat_lt.2 h
theorem zeq (m n : Nat) (h : m = n) : (m : Int) = (n : Int) := congrArg _ h
theorem zle' (m n : Nat) (h : (m : Int) ≤ (n : Int)) : m ≤ n := Int.ofNat_le.1 h
theorem zlt' (m n : Nat) (h : (m : Int) < (n : Int)) : m + 1 ≤ n := Int.ofNat_lt.1 h
theorem zeq' (m n : Nat) (h : (m : Int) = (n : Int)) : m = n := Int.ofNat_inj.1 h
theorem le_sub_add (a b : Nat) : a ≤ a - b + b := Nat.le_add_of_sub_le (Nat.le_refl _)
theorem sub_add_le {a b : Nat} (h : b ≤ a) : a - b + b ≤ a := Nat.le_of_eq (Nat.sub_add_cancel h)
theorem sub_le0 {a b : Nat} (h : a ≤ b) : a - b ≤ 0 := Nat.le_of_eq (Nat.sub_eq_zero_of_le h)
theorem dle (k a : Nat) : k * (a / k) ≤ a := Nat.mul_div_le a k
theorem dlt (k a : Nat) (h : 0 < k := by decide) : a + 1 ≤ k * (a / k) + k := by
  have := Nat.lt_mul_div_succ a h
  rwa [Nat.mul_add, Nat.mul_one] at this
theorem le_min1 {a b : Nat} (h : a ≤ b) : a ≤ min a b := Nat.le_min.2 ⟨Nat.le_refl _, h⟩
theorem le_min2 {a b : Nat} (h : b ≤ a) : b ≤ min a b := Nat.le_min.2 ⟨h, Nat.le_refl _⟩
theorem eqs {a b : Nat} (h : a = b) : b ≤ a := Nat.le_of_eq h.symm
theorem sub_add1 {a b : Nat} (h : 1 ≤ a - b) : a - b + b ≤ a := Nat.le_of_eq (Nat.sub_add_cancel (Nat.le_of_lt (Nat.lt_of_sub_pos h)))
-- the same over Int
inductive ZX
  | v (i : Nat) | n (k : Int) | a (x y : ZX) | s (x y : ZX) | m (k : Int) (x : ZX) | r (x : ZX) (k : Int) | g (x : ZX)
inductive ZH
  | e | c (k : Nat) (l r : ZX) (t : ZH)
namespace ZX
def at' : List Int → Nat → Int
  | [], _ => 0
  | x :: _, 0 => x
  | _ :: c, i + 1 => at' c i
def den (c : List Int) : ZX → Int
  | v i => at' c i
  | n k => k
  | a x y => x.den c + y.den c
  | s x y => x.den c - y.den c
  | m k x => k * x.den c
  | r x k => x.den c * k
  | g x => - x.den c
def one : Nat → List Int
  | 0 => [1]
  | i + 1 => 0 :: one i
def add : List Int → List Int → List Int
  | [], q => q
  | p, [] => p
  | x :: p, y :: q => (x + y) :: add p q
def mul (k : Int) : List Int → List Int
  | [] => []
  | x :: p => k * x :: mul k p
def pol : ZX → List Int
  | v i => 0 :: one i
  | n k => [k]
  | a x y => add x.pol y.pol
  | s x y => add x.pol (mul (-1) y.pol)
  | m k x => mul k x.pol
  | r x k => mul k x.pol
  | g x => mul (-1) x.pol
def zer : List Int → Bool
  | [] => true
  | x :: p => x == 0 && zer p
def dot : List Int → List Int → Int
  | x :: p, y :: c => x * y + dot p c
  | _, _ => 0
theorem dot_nil (p : List Int) : dot p [] = 0 := by cases p <;> rfl
theorem dot_one : ∀ (i : Nat) (c : List Int), dot (one i) c = at' c i
  | 0, [] => rfl
  | 0, x :: c => by cases c <;> simp [one, dot, at']
  | i + 1, [] => rfl
  | i + 1, x :: c => by simp [one, dot, at', dot_one i c]
theorem dot_add : ∀ (p q c : List Int), dot (add p q) c = dot p c + dot q c
  | [], q, c => by simp [add, dot]
  | x :: p, [], c => by simp [add, dot]
  | x :: p, y :: q, [] => rfl
  | x :: p, y :: q, z :: c => by simp only [add, dot, dot_add p q c, Int.add_mul]; ac_rfl
theorem dot_mul : ∀ (k : Int) (p c : List Int), dot (mul k p) c = k * dot p c
  | k, [], c => by simp [mul, dot]
  | k, x :: p, [] => by simp [mul, dot]
  | k, x :: p, z :: c => by simp only [mul, dot, dot_mul k p c, Int.mul_add, Int.mul_assoc]
theorem pol_ev (c : List Int) : ∀ x : ZX, dot x.pol (1 :: c) = x.den c
  | v i => by simp [pol, dot, dot_one, den]
  | n k => by simp [pol, dot, den]
  | a x y => by simp only [pol, den, dot_add]; rw [pol_ev c x, pol_ev c y]
  | s x y => by simp only [pol, den, dot_add, dot_mul]; rw [pol_ev c x, pol_ev c y, Int.neg_one_mul]; rfl
  | m k x => by simp only [pol, den, dot_mul]; rw [pol_ev c x]
  | r x k => by simp only [pol, den, dot_mul]; rw [pol_ev c x, Int.mul_comm]
  | g x => by simp only [pol, den, dot_mul]; rw [pol_ev c x, Int.neg_one_mul]
theorem zer_dot : ∀ (p c : List Int), zer p = true → dot p c = 0
  | [], c, _ => by simp [dot]
  | x :: p, [], _ => rfl
  | x :: p, z :: c, h => by
    simp only [zer, Bool.and_eq_true, beq_iff_eq] at h
    simp [dot, h.1, zer_dot p c h.2]
/-- a constant that is at least -k -/
def cst (k : Nat) : List Int → Bool
  | [] => true
  | x :: p => decide (0 ≤ x + k) && zer p
theorem cst_dot {k : Nat} {p c : List Int} (h : cst k p = true) : 0 ≤ dot p (1 :: c) + k := by
  cases p with
  | nil => simp [dot]
  | cons x p =>
    simp only [cst, Bool.and_eq_true, decide_eq_true_eq] at h
    simpa [dot, zer_dot p c h.2] using h.1
end ZX
namespace ZH
def den (c : List Int) (P : Prop) : ZH → Prop
  | e => P
  | .c _ l r t => l.den c ≤ r.den c → den c P t
/-- what the facts give, as it is taken off -/
def S : ZH → List Int
  | e => []
  | c k l r t => ZX.add (ZX.mul k (ZX.s l r).pol) t.S
theorem all (c : List Int) (P : Prop) : ∀ t : ZH, (ZX.dot t.S (1 :: c) ≤ 0 → P) → t.den c P
  | e, h => h (Int.le_refl _)
  | .c k l r t, h => fun q => all c P t fun z => h (by
    show ZX.dot (ZX.add (ZX.mul k (ZX.s l r).pol) t.S) (1 :: c) ≤ 0
    rw [ZX.dot_add, ZX.dot_mul, ZX.pol_ev]
    have : (k : Int) * (l.den c - r.den c) ≤ 0 := Int.mul_nonpos_of_nonneg_of_nonpos (Int.natCast_nonneg _) (Int.sub_nonpos_of_le q)
    exact Int.add_nonpos this z)
end ZH
theorem liz (c : List Int) (k : Nat) (t : ZH) (l r : ZX) (h : ZX.cst k (ZX.add t.S (ZX.mul (k + 1) (ZX.s r l).pol)) = true) : t.den c (l.den c ≤ r.den c) := by
  refine t.all c _ fun z => ?_
  have q := ZX.cst_dot (c := c) h
  rw [ZX.dot_add, ZX.dot_mul, ZX.pol_ev] at q
  have q' : 0 ≤ ((k : Int) + 1) * (r.den c - l.den c) + k := by
    refine Int.le_trans q ?_
    rw [Int.add_assoc]
    exact Int.le_trans (Int.add_le_add_right z _) (Int.le_of_eq (Int.zero_add _))
  rcases Int.lt_or_le (r.den c) (l.den c) with w | w
  · have w1 : r.den c - l.den c ≤ -1 := by
      have : (ZX.s r l).den c = r.den c - l.den c := rfl
      omega
    have := Int.mul_le_mul_of_nonneg_left w1 (show (0 : Int) ≤ (k : Int) + 1 by omega)
    omega
  · exact w
theorem zno {P : Prop} (h : (1 : Int) ≤ 0) : P := absurd h (by decide)
theorem zsub {a b : Nat} (h : b ≤ a) : ((a - b : Nat) : Int) = (a : Int) - (b : Int) := Int.ofNat_sub h
theorem zeqs {a b : Int} (h : a = b) : b ≤ a := Int.le_of_eq h.symm
theorem nn (a : Nat) : (0 : Int) ≤ (a : Int) := Int.natCast_nonneg a
/-- a length that can be counted off -/
theorem lz {n : Nat} (h : n.ble 16384 = true := by rfl) : n ≤ 16384 := Nat.le_of_ble_eq_true h
end Mine
end

section
namespace Mine
theorem w1 {x0 : Nat} (h0 : (x0 ≤ (16383 : Nat))) : (x0 ≤ (16383 : Nat)) := lin [x0] 0 (.c 1 (.v 0) (.n 16383) .e) (.v 0) (.n 16383) rfl h0
theorem w2 {x0 : Nat} (h0 : (x0 ≤ (16383 : Nat))) : (x0 ≤ (16384 : Nat)) := lin [x0] 0 (.c 1 (.v 0) (.n 16383) .e) (.v 0) (.n 16384) rfl h0
theorem w3 {x0 : Nat} {x1 : Nat} : ((((1 : Nat) + (((2 : Nat) * x0) + (1 : Nat))) + (((2 : Nat) * x1) + (1 : Nat))) = (((2 : Nat) * (((1 : Nat) + x0) + x1)) + (1 : Nat))) := Nat.le_antisymm (lin [x0, x1] 0 .e (.a (.a (.n 1) (.a (.m 2 (.v 0)) (.n 1))) (.a (.m 2 (.v 1)) (.n 1))) (.a (.m 2 (.a (.a (.n 1) (.v 0)) (.v 1))) (.n 1)) rfl ) (lin [x0, x1] 0 .e (.a (.m 2 (.a (.a (.n 1) (.v 0)) (.v 1))) (.n 1)) (.a (.a (.n 1) (.a (.m 2 (.v 0)) (.n 1))) (.a (.m 2 (.v 1)) (.n 1))) rfl )
theorem w4 {x0 : Nat} {x1 : Nat} {x2 : Nat} {x3 : Nat} {x4 : Nat} (h0 : (x1 ≤ x3)) (h1 : (x2 ≤ x4)) (h2 : (x0 ≤ (1 : Nat))) : ((x0 + (x1 + x2)) ≤ (((1 : Nat) + x3) + x4)) := lin [x1, x3, x2, x4, x0] 0 (.c 1 (.v 0) (.v 1) (.c 1 (.v 2) (.v 3) (.c 1 (.v 4) (.n 1) .e))) (.a (.v 4) (.a (.v 0) (.v 2))) (.a (.a (.n 1) (.v 1)) (.v 3)) rfl h0 h1 h2
theorem w5 {x0 : Nat} {x1 : Nat} (h0 : ((((2 : Nat) * x0) + (1 : Nat)) < (((2 : Nat) * x1) + (1 : Nat)))) : (x0 < x1) := lin [x0, x1] 1 (.c 1 (.a (.a (.m 2 (.v 0)) (.n 1)) (.n 1)) (.a (.m 2 (.v 1)) (.n 1)) .e) (.a (.v 0) (.n 1)) (.v 1) rfl h0
theorem w6 {x0 : Nat} {x1 : Nat} {x2 : Nat} (h0 : (x2 ≤ (x1 + (1 : Nat)))) (h1 : (x0 < x2)) : (x0 ≤ x1) := lin [x2, x1, x0] 0 (.c 1 (.v 0) (.a (.v 1) (.n 1)) (.c 1 (.a (.v 2) (.n 1)) (.v 0) .e)) (.v 2) (.v 1) rfl h0 h1
theorem w7 {x0 : Nat} {x1 : Nat} {x2 : Nat} {x3 : Nat} (h0 : (x0 ≤ x3)) (h1 : (x1 ≤ x2)) : ((x0 + x1) ≤ (x2 + x3)) := lin [x0, x3, x1, x2] 0 (.c 1 (.v 0) (.v 1) (.c 1 (.v 2) (.v 3) .e)) (.a (.v 0) (.v 2)) (.a (.v 3) (.v 1)) rfl h0 h1
theorem w8 {x0 : Nat} {x1 : Nat} {x2 : Nat} (h0 : (x2 ≤ (x1 + (1 : Nat)))) (h1 : (x0 ≤ x2)) : (x0 ≤ (x1 + (1 : Nat))) := lin [x2, x1, x0] 0 (.c 1 (.v 0) (.a (.v 1) (.n 1)) (.c 1 (.v 2) (.v 0) .e)) (.v 2) (.a (.v 1) (.n 1)) rfl h0 h1
theorem w9 {x0 : Nat} {x1 : Nat} {x2 : Nat} (h0 : (x0 ≤ x2)) (h1 : (x2 ≤ x1)) : ((x0 + (1 : Nat)) ≤ ((1 : Nat) + x1)) := lin [x0, x2, x1] 0 (.c 1 (.v 0) (.v 1) (.c 1 (.v 1) (.v 2) .e)) (.a (.v 0) (.n 1)) (.a (.n 1) (.v 2)) rfl h0 h1
theorem w10 {x0 : Nat} {x1 : Nat} (h0 : (x0 ≤ (x1 - (1 : Nat)))) (h1 : ((0 : Nat) < x1)) : ((x0 + (1 : Nat)) ≤ x1) := lin [x0, (x1 - 1), x1] 0 (.c 1 (.v 0) (.v 1) (.c 1 (.a (.v 1) (.n 1)) (.v 2) .e)) (.a (.v 0) (.n 1)) (.v 2) rfl h0 (sub_add_le (lin [x0, (x1 - 1), x1] 0 (.c 1 (.a (.n 0) (.n 1)) (.v 2) .e) (.n 1) (.v 2) rfl h1))
theorem w11 {x0 : Nat} (h0 : ((((2 : Nat) * x0) + (1 : Nat)) ≤ (13 : Nat))) : (x0 ≤ (6 : Nat)) := lin [x0] 1 (.c 1 (.a (.m 2 (.v 0)) (.n 1)) (.n 13) .e) (.v 0) (.n 6) rfl h0
theorem w12 {x0 : Nat} {x1 : Nat} (h0 : (¬ (x1 < x0))) : (x0 ≤ x1) := lin [x0, x1] 0 (.c 1 (.v 0) (.v 1) .e) (.v 0) (.v 1) rfl (Nat.not_lt.1 h0)
theorem w13 {x0 : Nat} {x1 : Nat} (h0 : (¬ (x0 < x1))) (h1 : ((x0 - x1) = (0 : Nat))) : (x0 = x1) := Nat.le_antisymm (lin [x1, x0, (x0 - x1)] 0 (.c 1 (.v 2) (.n 0) (.c 1 (.v 1) (.a (.v 2) (.v 0)) .e)) (.v 1) (.v 0) rfl (Nat.le_of_eq h1) (le_sub_add x0 x1)) (lin [x1, x0, (x0 - x1)] 0 (.c 1 (.v 0) (.v 1) .e) (.v 0) (.v 1) rfl (Nat.not_lt.1 h0))
theorem w14 {x0 : Nat} {x1 : Nat} {x2 : Nat} {x3 : Nat} (h0 : (x2 ≤ x3)) (h1 : (x3 < x2)) : (x0 ≤ x1) := False.elim (no1 (lin [x2, x3, x0, x1] 0 (.c 1 (.v 0) (.v 1) (.c 1 (.a (.v 1) (.n 1)) (.v 0) .e)) (.n 1) (.n 0) rfl h0 h1))
theorem w15 {x0 : Nat} : (x0 ≤ (x0 + (1 : Nat))) := lin [x0] 0 .e (.v 0) (.a (.v 0) (.n 1)) rfl 
theorem w16 {x0 : Nat} {x1 : Nat} {x2 : Nat} (h0 : (x0 ≤ (x2 + (1 : Nat)))) (h1 : (x2 ≤ x1)) : (x0 ≤ (x1 + (1 : Nat))) := lin [x0, x2, x1] 0 (.c 1 (.v 0) (.a (.v 1) (.n 1)) (.c 1 (.v 1) (.v 2) .e)) (.v 0) (.a (.v 2) (.n 1)) rfl h0 h1
theorem w17 {x0 : Nat} {x1 : Nat} (h0 : (x0 < (x1 + (1 : Nat)))) (h1 : (¬ (x0 = x1))) : (x0 < x1) := (Nat.lt_or_gt_of_ne h1).elim (fun q0 => lin [x0, x1] 0 (.c 1 (.a (.v 0) (.n 1)) (.v 1) .e) (.a (.v 0) (.n 1)) (.v 1) rfl q0) (fun q0 => lin [x0, x1] 0 (.c 2 (.a (.v 0) (.n 1)) (.a (.v 1) (.n 1)) (.c 1 (.a (.v 1) (.n 1)) (.v 0) .e)) (.a (.v 0) (.n 1)) (.v 1) rfl h0 q0)
theorem w18 {x0 : Nat} {x1 : Nat} {x2 : Nat} (h0 : (x0 ≤ ((0 : Nat) + x1))) (h1 : (x1 ≤ (x0 + x2))) (h2 : (x2 = (0 : Nat))) : (x0 = x1) := Nat.le_antisymm (lin [x0, x1, x2] 0 (.c 1 (.v 0) (.a (.n 0) (.v 1)) .e) (.v 0) (.v 1) rfl h0) (lin [x0, x1, x2] 0 (.c 1 (.v 1) (.a (.v 0) (.v 2)) (.c 1 (.v 2) (.n 0) .e)) (.v 1) (.v 0) rfl h1 (Nat.le_of_eq h2))
theorem w19  : ((0 : Nat) ≤ (16777216 : Nat)) := lin [] 0 .e (.n 0) (.n 16777216) rfl 
theorem w20 {x0 : Nat} {x1 : Nat} (h0 : (x1 < x0)) : ((x0 - (x1 + (1 : Nat))) < (x0 - x1)) := lin [x1, x0, (x0 - (x1 + 1)), (x0 - x1)] 0 (.c 1 (.a (.v 2) (.a (.v 0) (.n 1))) (.v 1) (.c 1 (.v 1) (.a (.v 3) (.v 0)) .e)) (.a (.v 2) (.n 1)) (.v 3) rfl (sub_add_le (lin [x1, x0, (x0 - (x1 + 1)), (x0 - x1)] 0 (.c 1 (.a (.v 0) (.n 1)) (.v 1) .e) (.a (.v 0) (.n 1)) (.v 1) rfl h0)) (le_sub_add x0 x1)
theorem w21 {x0 : Nat} {x1 : Nat} {x2 : Nat} (h0 : (x1 ≤ (16384 : Nat))) (h1 : (x2 < x1)) (h2 : (x0 ≤ x2)) : (x0 ≤ (16384 : Nat)) := lin [x1, x2, x0] 0 (.c 1 (.v 0) (.n 16384) (.c 1 (.a (.v 1) (.n 1)) (.v 0) (.c 1 (.v 2) (.v 1) .e))) (.v 2) (.n 16384) rfl h0 h1 h2
theorem w22 {x0 : Nat} {x1 : Nat} (h0 : (x0 ≤ x1)) (h1 : (¬ (x0 < x1))) : (x0 = x1) := Nat.le_antisymm (lin [x0, x1] 0 (.c 1 (.v 0) (.v 1) .e) (.v 0) (.v 1) rfl h0) (lin [x0, x1] 0 (.c 1 (.v 1) (.v 0) .e) (.v 1) (.v 0) rfl (Nat.not_lt.1 h1))
theorem w23 {x0 : Nat} {x1 : Nat} (h0 : ((x0 + (x1 + (1 : Nat))) < (900 : Nat))) : (((x0 + (1 : Nat)) + x1) < (900 : Nat)) := lin [x0, x1] 0 (.c 1 (.a (.a (.v 0) (.a (.v 1) (.n 1))) (.n 1)) (.n 900) .e) (.a (.a (.a (.v 0) (.n 1)) (.v 1)) (.n 1)) (.n 900) rfl h0
theorem w24 {x0 : Nat} {x1 : Nat} (h0 : ((x0 + ((20 : Nat) * (x1 + (1 : Nat)))) < (9000 : Nat))) : (((x0 + (3 : Nat)) + ((20 : Nat) * x1)) < (9000 : Nat)) := lin [x0, x1] 0 (.c 1 (.a (.a (.v 0) (.m 20 (.a (.v 1) (.n 1)))) (.n 1)) (.n 9000) .e) (.a (.a (.a (.v 0) (.n 3)) (.m 20 (.v 1))) (.n 1)) (.n 9000) rfl h0
theorem w25 {x0 : Nat} {x1 : Nat} {x2 : Nat} (h0 : (x1 ≤ x2)) (h1 : ((x0 + x2) < (900 : Nat))) : ((x0 + x1) < (900 : Nat)) := lin [x1, x2, x0] 0 (.c 1 (.v 0) (.v 1) (.c 1 (.a (.a (.v 2) (.v 1)) (.n 1)) (.n 900) .e)) (.a (.a (.v 2) (.v 0)) (.n 1)) (.n 900) rfl h0 h1
theorem w26 {x0 : Nat} {x1 : Nat} {x2 : Nat} (h0 : (x1 ≤ x2)) (h1 : ((x0 + ((20 : Nat) * x2)) < (9000 : Nat))) : ((x0 + ((20 : Nat) * x1)) < (9000 : Nat)) := lin [x1, x2, x0] 0 (.c 20 (.v 0) (.v 1) (.c 1 (.a (.a (.v 2) (.m 20 (.v 1))) (.n 1)) (.n 9000) .e)) (.a (.a (.v 2) (.m 20 (.v 0))) (.n 1)) (.n 9000) rfl h0 h1
theorem w27 {x0 : Nat} {x1 : Nat} (h0 : ((x0 + x1) < (900 : Nat))) : (x0 < (1000 : Nat)) := lin [x0, x1] 0 (.c 1 (.a (.a (.v 0) (.v 1)) (.n 1)) (.n 900) .e) (.a (.v 0) (.n 1)) (.n 1000) rfl h0
theorem w28 {x0 : Nat} {x1 : Nat} (h0 : (x1 ≤ x0)) : ((min x0 x1) = x1) := Nat.le_antisymm (lin [x1, x0, (min x0 x1)] 0 (.c 1 (.v 2) (.v 0) .e) (.v 2) (.v 0) rfl (Nat.min_le_right x0 x1)) (lin [x1, x0, (min x0 x1)] 0 (.c 1 (.v 0) (.v 2) .e) (.v 0) (.v 2) rfl (le_min2 (lin [x1, x0, (min x0 x1)] 0 (.c 1 (.v 0) (.v 1) .e) (.v 0) (.v 1) rfl h0)))
theorem w29 {x0 : Nat} {x1 : Nat} (h0 : (x1 ≤ (63 : Nat))) (h1 : (x0 = x1)) : (x0 ≤ (100 : Nat)) := lin [x1, x0] 0 (.c 1 (.v 0) (.n 63) (.c 1 (.v 1) (.v 0) .e)) (.v 1) (.n 100) rfl h0 (Nat.le_of_eq h1)
theorem w30 {x0 : Nat} (h0 : (x0 ≤ (1000 : Nat))) : (x0 ≤ ((16777216 : Nat) + (1 : Nat))) := lin [x0] 0 (.c 1 (.v 0) (.n 1000) .e) (.v 0) (.a (.n 16777216) (.n 1)) rfl h0
theorem w31  : ((1 : Nat) ≤ (1000 : Nat)) := lin [] 0 .e (.n 1) (.n 1000) rfl 
theorem w32 {x0 : Nat} {x1 : Nat} {x2 : Nat} (h0 : (x1 = x2)) (h1 : (x0 < x2)) : ((x0 + (1 : Nat)) ≤ x1) := lin [x1, x2, x0] 0 (.c 1 (.v 1) (.v 0) (.c 1 (.a (.v 2) (.n 1)) (.v 1) .e)) (.a (.v 2) (.n 1)) (.v 0) rfl (eqs h0) h1
theorem w33 {x0 : Nat} : ((((x0 : Nat) : Int) + (1 : Int)) = (((x0 + (1 : Nat)) : Nat) : Int)) := zeq (x0 + 1) (x0 + 1) (Nat.le_antisymm (lin [x0] 0 .e (.a (.v 0) (.n 1)) (.a (.v 0) (.n 1)) rfl ) (lin [x0] 0 .e (.a (.v 0) (.n 1)) (.a (.v 0) (.n 1)) rfl ))
theorem w34 {x0 : Nat} {x1 : Nat} {x2 : Nat} (h0 : (x1 = x0)) (h1 : (((x2 + (1 : Nat)) - x2) = x1)) : (x0 = (1 : Nat)) := Nat.le_antisymm (lin [x1, x0, ((x2 + 1) - x2), x2] 0 (.c 1 (.v 1) (.v 0) (.c 1 (.v 0) (.v 2) (.c 1 (.a (.v 2) (.v 3)) (.a (.v 3) (.n 1)) .e))) (.v 1) (.n 1) rfl (eqs h0) (eqs h1) (sub_add_le (lin [x1, x0, ((x2 + 1) - x2), x2] 0 .e (.v 3) (.a (.v 3) (.n 1)) rfl ))) (lin [x1, x0, ((x2 + 1) - x2), x2] 0 (.c 1 (.v 0) (.v 1) (.c 1 (.v 2) (.v 0) (.c 1 (.a (.v 3) (.n 1)) (.a (.v 2) (.v 3)) .e))) (.n 1) (.v 1) rfl (Nat.le_of_eq h0) (Nat.le_of_eq h1) (le_sub_add (x2 + 1) x2))
theorem w35 {x0 : Nat} {x1 : Nat} {x2 : Nat} (h0 : (x1 = x2)) (h1 : (x0 < x2)) (h2 : (((x0 + (1 : Nat)) - x0) = x1)) : (x0 = (0 : Nat)) := Nat.le_antisymm (lin [x1, x2, x0, ((x0 + 1) - x0)] 0 (.c 1 (.v 1) (.v 0) (.c 1 (.a (.v 2) (.n 1)) (.v 1) (.c 1 (.v 0) (.v 3) (.c 1 (.a (.v 3) (.v 2)) (.a (.v 2) (.n 1)) .e)))) (.v 2) (.n 0) rfl (eqs h0) h1 (eqs h2) (sub_add_le (lin [x1, x2, x0, ((x0 + 1) - x0)] 0 .e (.v 2) (.a (.v 2) (.n 1)) rfl ))) (lin [x1, x2, x0, ((x0 + 1) - x0)] 0 .e (.n 0) (.v 2) rfl )
theorem w36 {x0 : Nat} (h0 : (x0 = (1 : Nat))) : (x0 ≤ (1 : Nat)) := lin [x0] 0 (.c 1 (.v 0) (.n 1) .e) (.v 0) (.n 1) rfl (Nat.le_of_eq h0)
theorem w37 {x0 : Nat} : (((x0 + (1 : Nat)) - x0) = (1 : Nat)) := Nat.le_antisymm (lin [x0, ((x0 + 1) - x0)] 0 (.c 1 (.a (.v 1) (.v 0)) (.a (.v 0) (.n 1)) .e) (.v 1) (.n 1) rfl (sub_add_le (lin [x0, ((x0 + 1) - x0)] 0 .e (.v 0) (.a (.v 0) (.n 1)) rfl ))) (lin [x0, ((x0 + 1) - x0)] 0 (.c 1 (.a (.v 0) (.n 1)) (.a (.v 1) (.v 0)) .e) (.n 1) (.v 1) rfl (le_sub_add (x0 + 1) x0))
theorem w38 {x0 : Nat} : (¬ (((x0 : Nat) : Int) < (0 : Int))) := Int.not_lt.2 (zle 0 x0 (lin [x0] 0 .e (.n 0) (.v 0) rfl ))
theorem w39 {x0 : Nat} : (¬ ((((x0 : Nat) : Int) + (1 : Int)) < (0 : Int))) := Int.not_lt.2 (zle 0 (x0 + 1) (lin [x0] 0 .e (.n 0) (.a (.v 0) (.n 1)) rfl ))
theorem w42 {x0 : Nat} {x1 : Nat} (h0 : (x1 = x0)) (h1 : ((0 : Nat) = x1)) : (x0 = (0 : Nat)) := Nat.le_antisymm (lin [x1, x0] 0 (.c 1 (.v 1) (.v 0) (.c 1 (.v 0) (.n 0) .e)) (.v 1) (.n 0) rfl (eqs h0) (eqs h1)) (lin [x1, x0] 0 .e (.n 0) (.v 1) rfl )
theorem w43 {x0 : Nat} (h0 : (x0 ≤ (16384 : Nat))) : (x0 ≤ (16777216 : Nat)) := lin [x0] 0 (.c 1 (.v 0) (.n 16384) .e) (.v 0) (.n 16777216) rfl h0
theorem w44 {x0 : Nat} (h0 : (x0 ≤ (10000 : Nat))) : (x0 ≤ (16384 : Nat)) := lin [x0] 0 (.c 1 (.v 0) (.n 10000) .e) (.v 0) (.n 16384) rfl h0
theorem w45 {x0 : Nat} (h0 : (x0 ≤ (1 : Nat))) : (x0 ≤ (16384 : Nat)) := lin [x0] 0 (.c 1 (.v 0) (.n 1) .e) (.v 0) (.n 16384) rfl h0
theorem w46 {x0 : Nat} {x1 : Nat} : ((((x0 + x1) : Nat) : Int) = (((x0 : Nat) : Int) + ((x1 : Nat) : Int))) := zeq (x0 + x1) (x0 + x1) (Nat.le_antisymm (lin [x0, x1] 0 .e (.a (.v 0) (.v 1)) (.a (.v 0) (.v 1)) rfl ) (lin [x0, x1] 0 .e (.a (.v 0) (.v 1)) (.a (.v 0) (.v 1)) rfl ))
theorem w47  : ((4 : Nat) ≤ (1000 : Nat)) := lin [] 0 .e (.n 4) (.n 1000) rfl 
theorem w48  : (((((0 : Nat) + (1 : Nat)) + (1 : Nat)) + (1 : Nat)) ≤ ((16777216 : Nat) + (2 : Nat))) := lin [] 0 .e (.a (.a (.a (.n 0) (.n 1)) (.n 1)) (.n 1)) (.a (.n 16777216) (.n 2)) rfl 
theorem w49 {x0 : Nat} {x1 : Nat} (h0 : (x0 < x1)) : (x0 ≤ x1) := lin [x0, x1] 0 (.c 1 (.a (.v 0) (.n 1)) (.v 1) .e) (.v 0) (.v 1) rfl h0
theorem w50 {x0 : Nat} {x1 : Nat} (h0 : ((x0 + (x1 + (3 : Nat))) < (900 : Nat))) : ((x0 + (x1 + (2 : Nat))) < (900 : Nat)) := lin [x0, x1] 0 (.c 1 (.a (.a (.v 0) (.a (.v 1) (.n 3))) (.n 1)) (.n 900) .e) (.a (.a (.v 0) (.a (.v 1) (.n 2))) (.n 1)) (.n 900) rfl h0
theorem w51 {x0 : Nat} {x1 : Nat} (h0 : ((x0 + ((20 : Nat) * (x1 + (3 : Nat)))) < (9000 : Nat))) : (((x0 + (1 : Nat)) + ((20 : Nat) * (x1 + (2 : Nat)))) < (9000 : Nat)) := lin [x0, x1] 0 (.c 1 (.a (.a (.v 0) (.m 20 (.a (.v 1) (.n 3)))) (.n 1)) (.n 9000) .e) (.a (.a (.a (.v 0) (.n 1)) (.m 20 (.a (.v 1) (.n 2)))) (.n 1)) (.n 9000) rfl h0
theorem w52 {x0 : Nat} {x1 : Nat} {x2 : Nat} {x3 : Nat} (h0 : ((x2 + x3) ≤ (1000 : Nat))) (h1 : ((x0 + x1) = (x2 + x3))) : ((x0 + x1) ≤ (1000 : Nat)) := lin [x2, x3, x0, x1] 0 (.c 1 (.a (.v 0) (.v 1)) (.n 1000) (.c 1 (.a (.v 2) (.v 3)) (.a (.v 0) (.v 1)) .e)) (.a (.v 2) (.v 3)) (.n 1000) rfl h0 (Nat.le_of_eq h1)
theorem w53 {x0 : Nat} {x1 : Nat} (h0 : ((x0 + (x1 + (1 : Nat))) ≤ (1000 : Nat))) : (x0 ≤ (16383 : Nat)) := lin [x0, x1] 0 (.c 1 (.a (.v 0) (.a (.v 1) (.n 1))) (.n 1000) .e) (.v 0) (.n 16383) rfl h0
theorem w54 {x0 : Nat} : ((x0 + (2 : Nat)) ≤ (x0 + (3 : Nat))) := lin [x0] 0 .e (.a (.v 0) (.n 2)) (.a (.v 0) (.n 3)) rfl 
theorem w55 {x0 : Nat} {x1 : Nat} (h0 : (x0 ≤ x1)) : (x0 ≤ x1) := lin [x0, x1] 0 (.c 1 (.v 0) (.v 1) .e) (.v 0) (.v 1) rfl h0
theorem w56 {x0 : Nat} {x1 : Nat} (h0 : (x0 ≤ x1)) : (x0 ≤ (x1 + (1 : Nat))) := lin [x0, x1] 0 (.c 1 (.v 0) (.v 1) .e) (.v 0) (.a (.v 1) (.n 1)) rfl h0
theorem w57 {x0 : Int} {x1 : Int} {x2 : Int} : (((x0 + x1) + x2) = (x0 + (x1 + x2))) := Int.le_antisymm (liz [x0, x1, x2] 0 .e (.a (.a (.v 0) (.v 1)) (.v 2)) (.a (.v 0) (.a (.v 1) (.v 2))) rfl ) (liz [x0, x1, x2] 0 .e (.a (.v 0) (.a (.v 1) (.v 2))) (.a (.a (.v 0) (.v 1)) (.v 2)) rfl )
theorem w58 {x0 : Nat} (h0 : (x0 ≤ (900 : Nat))) : (((1 : Nat) + x0) ≤ (1000 : Nat)) := lin [x0] 0 (.c 1 (.v 0) (.n 900) .e) (.a (.n 1) (.v 0)) (.n 1000) rfl h0
theorem w59 {x0 : Nat} {x1 : Nat} : ((x0 - x1) ≤ x0) := lin [x1, x0, (x0 - x1)] 0 (.c 1 (.v 2) (.v 1) .e) (.v 2) (.v 1) rfl (Nat.sub_le x0 x1)
theorem w60 {x0 : Nat} {x1 : Nat} {x2 : Nat} {x3 : Nat} (h0 : (x1 ≤ (900 : Nat))) (h1 : ((x0 + (1 : Nat)) ≤ x2)) (h2 : ((x2 + x3) ≤ x1)) : (x0 ≤ (900 : Nat)) := lin [x1, x0, x2, x3] 0 (.c 1 (.v 0) (.n 900) (.c 1 (.a (.v 1) (.n 1)) (.v 2) (.c 1 (.a (.v 2) (.v 3)) (.v 0) .e))) (.v 1) (.n 900) rfl h0 h1 h2
theorem w61 {x0 : Nat} {x1 : Nat} {x2 : Nat} {x3 : Nat} (h0 : (x1 ≤ (900 : Nat))) (h1 : (x0 ≤ x2)) (h2 : (((x2 + (x3 + (1 : Nat))) + (1 : Nat)) ≤ x1)) : (x0 ≤ (900 : Nat)) := lin [x1, x0, x2, x3] 0 (.c 1 (.v 0) (.n 900) (.c 1 (.v 1) (.v 2) (.c 1 (.a (.a (.v 2) (.a (.v 3) (.n 1))) (.n 1)) (.v 0) .e))) (.v 1) (.n 900) rfl h0 h1 h2
theorem w62 {x0 : Nat} (h0 : (x0 ≤ (900 : Nat))) : (x0 ≤ (1000 : Nat)) := lin [x0] 0 (.c 1 (.v 0) (.n 900) .e) (.v 0) (.n 1000) rfl h0
theorem w63 {x0 : Nat} {x1 : Nat} (h0 : (x0 ≤ (16384 : Nat))) : ((x0 + (x1 * (0 : Nat))) ≤ (16777216 : Nat)) := lin [x0, x1] 0 (.c 1 (.v 0) (.n 16384) .e) (.a (.v 0) (.r (.v 1) 0)) (.n 16777216) rfl h0
theorem w64 {x0 : Nat} {x1 : Nat} (h0 : ((0 : Nat) < x0)) : ((0 : Nat) < (x0 + ((512 : Nat) * x1))) := lin [x0, x1] 0 (.c 1 (.a (.n 0) (.n 1)) (.v 0) .e) (.a (.n 0) (.n 1)) (.a (.v 0) (.m 512 (.v 1))) rfl h0
theorem w67 {x0 : Nat} (h0 : ((0 : Nat) < x0)) : ((1 : Nat) ≤ x0) := lin [x0] 0 (.c 1 (.a (.n 0) (.n 1)) (.v 0) .e) (.n 1) (.v 0) rfl h0
theorem w68 {x0 : Nat} {x1 : Nat} {x2 : Nat} (h0 : (x0 ≤ x2)) : ((x0 * (512 : Nat)) ≤ (x1 + ((512 : Nat) * x2))) := lin [x0, x2, x1] 0 (.c 512 (.v 0) (.v 1) .e) (.r (.v 0) 512) (.a (.v 2) (.m 512 (.v 1))) rfl h0
theorem w70 {x0 : Nat} (h0 : ((0 : Nat) = x0)) (h1 : ((0 : Nat) < x0)) : False := no1 (lin [x0] 0 (.c 1 (.v 0) (.n 0) (.c 1 (.a (.n 0) (.n 1)) (.v 0) .e)) (.n 1) (.n 0) rfl (eqs h0) h1)
theorem w71 {x0 : Nat} (h0 : (x0 ≤ (13 : Nat))) : (((9 : Nat) * x0) ≤ (117 : Nat)) := lin [x0] 0 (.c 9 (.v 0) (.n 13) .e) (.m 9 (.v 0)) (.n 117) rfl h0
theorem w72 {x0 : Nat} {x1 : Nat} (h0 : (x1 < x0)) : ((0 : Int) < (((x0 : Nat) : Int) - ((x1 : Nat) : Int))) := liz [((x1 : Nat) : Int), ((x0 : Nat) : Int)] 0 (.c 1 (.a (.v 0) (.n 1)) (.v 1) .e) (.a (.n 0) (.n 1)) (.s (.v 1) (.v 0)) rfl (zle (x1 + 1) x0 h0)
theorem w73 {x0 : Nat} {x1 : Nat} : ((((x0 : Nat) : Int) - (((x1 : Nat) : Int) + (1 : Int))) = ((((x0 : Nat) : Int) - ((x1 : Nat) : Int)) - (1 : Int))) := Int.le_antisymm (liz [((x0 : Nat) : Int), ((x1 : Nat) : Int)] 0 .e (.s (.v 0) (.a (.v 1) (.n 1))) (.s (.s (.v 0) (.v 1)) (.n 1)) rfl ) (liz [((x0 : Nat) : Int), ((x1 : Nat) : Int)] 0 .e (.s (.s (.v 0) (.v 1)) (.n 1)) (.s (.v 0) (.a (.v 1) (.n 1))) rfl )
theorem w74 {x0 : Nat} : ((((x0 : Nat) : Int) - ((x0 : Nat) : Int)) ≤ (0 : Int)) := liz [((x0 : Nat) : Int)] 0 .e (.s (.v 0) (.v 0)) (.n 0) rfl 
theorem w75 {x0 : Nat} (h0 : (x0 < (100 : Nat))) : (x0 < (9000 : Nat)) := lin [x0] 0 (.c 1 (.a (.v 0) (.n 1)) (.n 100) .e) (.a (.v 0) (.n 1)) (.n 9000) rfl h0
theorem w76 {x0 : Int} (h0 : ((0 : Int) ≤ x0)) : ((-((2 : Int) ^ 62)) ≤ x0) := liz [x0] 0 (.c 1 (.n 0) (.v 0) .e) (.g (.n 4611686018427387904)) (.v 0) rfl h0
theorem w77 {x0 : Int} (h0 : (x0 ≤ (16384 : Int))) : (x0 < ((2 : Int) ^ 62)) := liz [x0] 0 (.c 1 (.v 0) (.n 16384) .e) (.a (.v 0) (.n 1)) (.n 4611686018427387904) rfl h0
theorem w78 {x0 : Int} {x1 : Nat} {x2 : Nat} (h0 : (x0 = (((x1 + x2) : Nat) : Int))) : ((x0 - ((x1 : Nat) : Int)) = ((x2 : Nat) : Int)) := Int.le_antisymm (liz [x0, ((x1 : Nat) : Int), ((x2 : Nat) : Int)] 0 (.c 1 (.v 0) (.a (.v 1) (.v 2)) .e) (.s (.v 0) (.v 1)) (.v 2) rfl (Int.le_of_eq h0)) (liz [x0, ((x1 : Nat) : Int), ((x2 : Nat) : Int)] 0 (.c 1 (.a (.v 1) (.v 2)) (.v 0) .e) (.v 2) (.s (.v 0) (.v 1)) rfl (zeqs h0))
theorem w79 {x0 : Nat} {x1 : Int} {x2 : Nat} (h0 : (x1 = (((x2 + x0) : Nat) : Int))) (h1 : (¬ (((x2 : Nat) : Int) < x1))) : ((0 : Int) = ((x0 : Nat) : Int)) := Int.le_antisymm (liz [x1, ((x2 : Nat) : Int), ((x0 : Nat) : Int)] 0 (.c 1 (.n 0) (.v 2) .e) (.n 0) (.v 2) rfl (nn x0)) (liz [x1, ((x2 : Nat) : Int), ((x0 : Nat) : Int)] 0 (.c 1 (.a (.v 1) (.v 2)) (.v 0) (.c 1 (.v 0) (.v 1) .e)) (.v 2) (.n 0) rfl (zeqs h0) (Int.not_lt.1 h1))
theorem w80 {x0 : Nat} : (((((((x0 : Nat) : Int) - (1 : Int)) - (-(1 : Int))) - (1 : Int)) + (1 : Int)) = ((x0 : Nat) : Int)) := Int.le_antisymm (liz [((x0 : Nat) : Int)] 0 .e (.a (.s (.s (.s (.v 0) (.n 1)) (.n (-1))) (.n 1)) (.n 1)) (.v 0) rfl ) (liz [((x0 : Nat) : Int)] 0 .e (.v 0) (.a (.s (.s (.s (.v 0) (.n 1)) (.n (-1))) (.n 1)) (.n 1)) rfl )
theorem w81 {x0 : Nat} (h0 : (¬ ((((x0 : Nat) : Int) - (1 : Int)) > (-(1 : Int))))) : ((0 : Int) = ((x0 : Nat) : Int)) := Int.le_antisymm (liz [((x0 : Nat) : Int)] 0 (.c 1 (.n 0) (.v 0) .e) (.n 0) (.v 0) rfl (nn x0)) (liz [((x0 : Nat) : Int)] 0 (.c 1 (.s (.v 0) (.n 1)) (.n (-1)) .e) (.v 0) (.n 0) rfl (Int.not_lt.1 h0))
theorem w83  : ((2 : Nat) ≤ (1000 : Nat)) := lin [] 0 .e (.n 2) (.n 1000) rfl 
theorem w84  : ((3 : Nat) ≤ (1000 : Nat)) := lin [] 0 .e (.n 3) (.n 1000) rfl 
theorem w85 {x0 : Nat} {x1 : Nat} {x2 : Nat} (h0 : (x1 = (1 : Nat))) (h1 : ((x0 + (x2 + (3 : Nat))) < (900 : Nat))) : (((x0 + x1) + (x2 + (1 : Nat))) < (900 : Nat)) := lin [x1, x0, x2] 0 (.c 1 (.v 0) (.n 1) (.c 1 (.a (.a (.v 1) (.a (.v 2) (.n 3))) (.n 1)) (.n 900) .e)) (.a (.a (.a (.v 1) (.v 0)) (.a (.v 2) (.n 1))) (.n 1)) (.n 900) rfl (Nat.le_of_eq h0) h1
theorem w86 {x0 : Nat} {x1 : Nat} {x2 : Nat} (h0 : (x1 = (1 : Nat))) (h1 : ((x0 + ((20 : Nat) * (x2 + (3 : Nat)))) < (9000 : Nat))) : (((x0 + x1) + ((20 : Nat) * (x2 + (1 : Nat)))) < (9000 : Nat)) := lin [x1, x0, x2] 0 (.c 1 (.v 0) (.n 1) (.c 1 (.a (.a (.v 1) (.m 20 (.a (.v 2) (.n 3)))) (.n 1)) (.n 9000) .e)) (.a (.a (.a (.v 1) (.v 0)) (.m 20 (.a (.v 2) (.n 1)))) (.n 1)) (.n 9000) rfl (Nat.le_of_eq h0) h1
theorem w87 {x0 : Nat} (h0 : (x0 ≤ (900 : Nat))) : (x0 ≤ (10000 : Nat)) := lin [x0] 0 (.c 1 (.v 0) (.n 900) .e) (.v 0) (.n 10000) rfl h0
theorem w89 {x0 : Int} (h0 : ((0 : Int) ≤ x0)) : (¬ (x0 < (-((2 : Int) ^ 63)))) := Int.not_lt.2 (liz [x0] 0 (.c 1 (.n 0) (.v 0) .e) (.g (.n 9223372036854775808)) (.v 0) rfl h0)
theorem w91 {x0 : Nat} {x1 : Nat} (h0 : ((x0 + (1 : Nat)) < x1)) : ((((min x0 x1) + ((x1 - (x0 + (2 : Nat))) + (1 : Nat))) + (1 : Nat)) = x1) := Nat.le_antisymm (lin [x0, x1, (min x0 x1), (x1 - (x0 + 2))] 0 (.c 1 (.v 2) (.v 0) (.c 1 (.a (.v 3) (.a (.v 0) (.n 2))) (.v 1) .e)) (.a (.a (.v 2) (.a (.v 3) (.n 1))) (.n 1)) (.v 1) rfl (Nat.min_le_left x0 x1) (sub_add_le (lin [x0, x1, (min x0 x1), (x1 - (x0 + 2))] 0 (.c 1 (.a (.a (.v 0) (.n 1)) (.n 1)) (.v 1) .e) (.a (.v 0) (.n 2)) (.v 1) rfl h0))) (lin [x0, x1, (min x0 x1), (x1 - (x0 + 2))] 0 (.c 1 (.v 0) (.v 2) (.c 1 (.v 1) (.a (.v 3) (.a (.v 0) (.n 2))) .e)) (.v 1) (.a (.a (.v 2) (.a (.v 3) (.n 1))) (.n 1)) rfl (le_min1 (lin [x0, x1, (min x0 x1), (x1 - (x0 + 2))] 0 (.c 1 (.a (.a (.v 0) (.n 1)) (.n 1)) (.v 1) .e) (.v 0) (.v 1) rfl h0)) (le_sub_add x1 (x0 + 2)))
theorem w92 {x0 : Nat} {x1 : Nat} {x2 : Nat} {x3 : Nat} : (((x0 + ((((1 : Nat) + x1) + x2) + (0 : Nat))) + x3) = ((x0 + (x1 + (x2 + x3))) + (1 : Nat))) := Nat.le_antisymm (lin [x0, x1, x2, x3] 0 .e (.a (.a (.v 0) (.a (.a (.a (.n 1) (.v 1)) (.v 2)) (.n 0))) (.v 3)) (.a (.a (.v 0) (.a (.v 1) (.a (.v 2) (.v 3)))) (.n 1)) rfl ) (lin [x0, x1, x2, x3] 0 .e (.a (.a (.v 0) (.a (.v 1) (.a (.v 2) (.v 3)))) (.n 1)) (.a (.a (.v 0) (.a (.a (.a (.n 1) (.v 1)) (.v 2)) (.n 0))) (.v 3)) rfl )
theorem w93 {x0 : Nat} (h0 : (x0 = (7 : Nat))) : ((x0 + (0 : Nat)) = (7 : Nat)) := Nat.le_antisymm (lin [x0] 0 (.c 1 (.v 0) (.n 7) .e) (.a (.v 0) (.n 0)) (.n 7) rfl (Nat.le_of_eq h0)) (lin [x0] 0 (.c 1 (.n 7) (.v 0) .e) (.n 7) (.a (.v 0) (.n 0)) rfl (eqs h0))
theorem w94 {x0 : Nat} (h0 : (x0 = (7 : Nat))) : (x0 = ((7 : Nat) + (0 : Nat))) := Nat.le_antisymm (lin [x0] 0 (.c 1 (.v 0) (.n 7) .e) (.v 0) (.a (.n 7) (.n 0)) rfl (Nat.le_of_eq h0)) (lin [x0] 0 (.c 1 (.n 7) (.v 0) .e) (.a (.n 7) (.n 0)) (.v 0) rfl (eqs h0))
theorem w95 {x0 : Nat} (h0 : ((x0 + (6 : Nat)) = (7 : Nat))) : (x0 = (1 : Nat)) := Nat.le_antisymm (lin [x0] 0 (.c 1 (.a (.v 0) (.n 6)) (.n 7) .e) (.v 0) (.n 1) rfl (Nat.le_of_eq h0)) (lin [x0] 0 (.c 1 (.n 7) (.a (.v 0) (.n 6)) .e) (.n 1) (.v 0) rfl (eqs h0))
theorem w96 {x0 : Nat} : (((7 : Int) + (((x0 : Nat) : Int) * (1 : Int))) = ((((7 : Nat) + x0) : Nat) : Int)) := zeq (7 + (x0 * 1)) (7 + x0) (Nat.le_antisymm (lin [x0] 0 .e (.a (.n 7) (.r (.v 0) 1)) (.a (.n 7) (.v 0)) rfl ) (lin [x0] 0 .e (.a (.n 7) (.v 0)) (.a (.n 7) (.r (.v 0) 1)) rfl ))
theorem w97 {x0 : Nat} {x1 : Nat} {x2 : Nat} (h0 : ((x1 + x2) = (7 : Nat))) (h1 : (x0 = x1)) : (x0 ≤ (16384 : Nat)) := lin [x1, x2, x0] 0 (.c 1 (.a (.v 0) (.v 1)) (.n 7) (.c 1 (.v 2) (.v 0) .e)) (.v 2) (.n 16384) rfl (Nat.le_of_eq h0) (Nat.le_of_eq h1)
theorem w98 {x0 : Nat} {x1 : Nat} {x2 : Nat} (h0 : (x1 < (6 : Nat))) (h1 : ((x2 + x1) = (7 : Nat))) (h2 : (x0 = x2)) : ((((x0 : Nat) : Int) - (1 : Int)) = ((((6 : Nat) - x1) : Nat) : Int)) := Int.le_antisymm (liz [((x1 : Nat) : Int), ((x2 : Nat) : Int), ((x0 : Nat) : Int), (((6 - x1) : Nat) : Int)] 0 (.c 1 (.a (.v 1) (.v 0)) (.n 7) (.c 1 (.v 2) (.v 1) (.c 1 (.n 6) (.a (.v 3) (.v 0)) .e))) (.s (.v 2) (.n 1)) (.v 3) rfl (zle (x2 + x1) 7 (Nat.le_of_eq h1)) (zle x0 x2 (Nat.le_of_eq h2)) (zle 6 ((6 - x1) + x1) (le_sub_add 6 x1))) (liz [((x1 : Nat) : Int), ((x2 : Nat) : Int), ((x0 : Nat) : Int), (((6 - x1) : Nat) : Int)] 0 (.c 1 (.n 7) (.a (.v 1) (.v 0)) (.c 1 (.v 1) (.v 2) (.c 1 (.a (.v 3) (.v 0)) (.n 6) .e))) (.v 3) (.s (.v 2) (.n 1)) rfl (zle 7 (x2 + x1) (eqs h1)) (zle x2 x0 (eqs h2)) (zle ((6 - x1) + x1) 6 (sub_add_le (lin [x1, x2, x0] 0 (.c 1 (.a (.v 0) (.n 1)) (.n 6) .e) (.v 0) (.n 6) rfl h0))))
theorem w99 {x0 : Nat} {x1 : Nat} (h0 : (x0 < (6 : Nat))) (h1 : (x1 = (14 : Nat))) : (((7 : Nat) + x0) < x1) := lin [x0, x1] 0 (.c 1 (.a (.v 0) (.n 1)) (.n 6) (.c 1 (.n 14) (.v 1) .e)) (.a (.a (.n 7) (.v 0)) (.n 1)) (.v 1) rfl h0 (eqs h1)
theorem w100 {x0 : Nat} : ((0 : Int) ≤ ((((7 : Nat) + x0) : Nat) : Int)) := zle 0 (7 + x0) (lin [x0] 0 .e (.n 0) (.a (.n 7) (.v 0)) rfl )
theorem w101 {x0 : Nat} (h0 : (x0 = (14 : Nat))) : (x0 ≤ (16384 : Nat)) := lin [x0] 0 (.c 1 (.v 0) (.n 14) .e) (.v 0) (.n 16384) rfl (Nat.le_of_eq h0)
theorem w102 {x0 : Nat} (h0 : (x0 < (6 : Nat))) : (¬ (((2 : Int) * ((((6 : Nat) - x0) : Nat) : Int)) = (0 : Int))) := fun q => no1 (lin [x0, (6 - x0)] 0 (.c 1 (.a (.v 0) (.n 1)) (.n 6) (.c 1 (.m 2 (.v 1)) (.n 0) (.c 1 (.n 6) (.a (.v 1) (.v 0)) .e))) (.n 1) (.n 0) rfl h0 (Nat.le_of_eq (zeq' (2 * (6 - x0)) 0 q)) (le_sub_add 6 x0))
theorem w103 {x0 : Nat} (h0 : (x0 < (6 : Nat))) : ((0 : Int) < ((2 : Int) * ((((6 : Nat) - x0) : Nat) : Int))) := zlt 0 (2 * (6 - x0)) (lin [x0, (6 - x0)] 0 (.c 1 (.a (.v 0) (.n 1)) (.n 6) (.c 1 (.n 6) (.a (.v 1) (.v 0)) .e)) (.a (.n 0) (.n 1)) (.m 2 (.v 1)) rfl h0 (le_sub_add 6 x0))
theorem w104 {x0 : Nat} {x1 : Int} (h0 : ((0 : Int) ≤ x1)) (h1 : ((x1 - ((((6 : Nat) - x0) : Nat) : Int)) < (0 : Int))) : (((0 : Nat) + (1 : Nat)) ≤ ((6 : Nat) - x0)) := zle' (0 + 1) (6 - x0) (liz [x1, (((6 - x0) : Nat) : Int), ((x0 : Nat) : Int)] 0 (.c 1 (.n 0) (.v 0) (.c 1 (.a (.s (.v 0) (.v 1)) (.n 1)) (.n 0) .e)) (.a (.n 0) (.n 1)) (.v 1) rfl h0 h1)
theorem w107 {x0 : Nat} {x1 : Nat} {x2 : Nat} (h0 : ((x1 + x2) = (7 : Nat))) (h1 : ((x0 + (1 : Nat)) ≤ ((6 : Nat) - x2))) : (x0 < x1) := lin [x1, x2, x0, (6 - x2)] 0 (.c 1 (.n 7) (.a (.v 0) (.v 1)) (.c 1 (.a (.v 2) (.n 1)) (.v 3) (.c 1 (.a (.v 3) (.v 1)) (.n 6) .e))) (.a (.v 2) (.n 1)) (.v 0) rfl (eqs h0) h1 (sub_add1 (lin [x1, x2, x0, (6 - x2)] 0 (.c 1 (.a (.v 2) (.n 1)) (.v 3) .e) (.n 1) (.v 3) rfl h1))
theorem w108 {x0 : Nat} {x1 : Nat} {x2 : Nat} (h0 : ((x1 + x2) = (7 : Nat))) (h1 : ((x0 + (1 : Nat)) ≤ ((6 : Nat) - x2))) : ((x0 + (1 : Nat)) < x1) := lin [x1, x2, x0, (6 - x2)] 0 (.c 1 (.n 7) (.a (.v 0) (.v 1)) (.c 1 (.a (.v 2) (.n 1)) (.v 3) (.c 1 (.a (.v 3) (.v 1)) (.n 6) .e))) (.a (.a (.v 2) (.n 1)) (.n 1)) (.v 0) rfl (eqs h0) h1 (sub_add1 (lin [x1, x2, x0, (6 - x2)] 0 (.c 1 (.a (.v 2) (.n 1)) (.v 3) .e) (.n 1) (.v 3) rfl h1))
theorem w109 {x0 : Nat} {x1 : Nat} {x2 : Nat} {x3 : Nat} (h0 : ((x2 + x3) = (7 : Nat))) (h1 : (x1 = x2)) (h2 : ((x0 + (1 : Nat)) ≤ ((6 : Nat) - x3))) : (x0 ≤ x1) := lin [x2, x3, x1, x0, (6 - x3)] 0 (.c 1 (.n 7) (.a (.v 0) (.v 1)) (.c 1 (.v 0) (.v 2) (.c 1 (.a (.v 3) (.n 1)) (.v 4) (.c 1 (.a (.v 4) (.v 1)) (.n 6) .e)))) (.v 3) (.v 2) rfl (eqs h0) (eqs h1) h2 (sub_add1 (lin [x2, x3, x1, x0, (6 - x3)] 0 (.c 1 (.a (.v 3) (.n 1)) (.v 4) .e) (.n 1) (.v 4) rfl h2))
theorem w110 {x0 : Nat} : ((0 : Int) ≤ ((x0 : Nat) : Int)) := zle 0 x0 (lin [x0] 0 .e (.n 0) (.v 0) rfl )
theorem w111 {x0 : Nat} : ((0 : Int) ≤ (((x0 : Nat) : Int) + (1 : Int))) := zle 0 (x0 + 1) (lin [x0] 0 .e (.n 0) (.a (.v 0) (.n 1)) rfl )
theorem w113 {x0 : Nat} {x1 : Nat} {x2 : Nat} {x3 : Nat} (h0 : ((x2 + x3) = (7 : Nat))) (h1 : (x1 = x2)) : ((min x0 x1) ≤ (16383 : Nat)) := lin [x2, x3, x1, (min x0 x1), x0] 0 (.c 1 (.a (.v 0) (.v 1)) (.n 7) (.c 1 (.v 2) (.v 0) (.c 1 (.v 3) (.v 2) .e))) (.v 3) (.n 16383) rfl (Nat.le_of_eq h0) (Nat.le_of_eq h1) (Nat.min_le_right x0 x1)
theorem w114 {x0 : Nat} : ((((x0 : Nat) : Int) + (2 : Int)) = (((x0 + (2 : Nat)) : Nat) : Int)) := zeq (x0 + 2) (x0 + 2) (Nat.le_antisymm (lin [x0] 0 .e (.a (.v 0) (.n 2)) (.a (.v 0) (.n 2)) rfl ) (lin [x0] 0 .e (.a (.v 0) (.n 2)) (.a (.v 0) (.n 2)) rfl ))
theorem w115 {x0 : Nat} {x1 : Nat} {x2 : Nat} {x3 : Nat} (h0 : ((x2 + x3) = (7 : Nat))) (h1 : (x1 = x2)) (h2 : ((x0 + (1 : Nat)) ≤ ((6 : Nat) - x3))) : ((x0 + (2 : Nat)) ≤ x1) := lin [x2, x3, x1, x0, (6 - x3)] 0 (.c 1 (.n 7) (.a (.v 0) (.v 1)) (.c 1 (.v 0) (.v 2) (.c 1 (.a (.v 3) (.n 1)) (.v 4) (.c 1 (.a (.v 4) (.v 1)) (.n 6) .e)))) (.a (.v 3) (.n 2)) (.v 2) rfl (eqs h0) (eqs h1) h2 (sub_add1 (lin [x2, x3, x1, x0, (6 - x3)] 0 (.c 1 (.a (.v 3) (.n 1)) (.v 4) .e) (.n 1) (.v 4) rfl h2))
theorem w116 {x0 : Nat} {x1 : Nat} {x2 : Nat} {x3 : Nat} (h0 : ((x2 + x3) = (7 : Nat))) (h1 : (x1 = x2)) : ((((min x0 x1) + (1 : Nat)) + (x1 - (x0 + (2 : Nat)))) ≤ (16384 : Nat)) := lin [x2, x3, x1, (min x0 x1), x0, (x1 - (x0 + 2))] 0 (.c 2 (.a (.v 0) (.v 1)) (.n 7) (.c 2 (.v 2) (.v 0) (.c 1 (.v 3) (.v 2) (.c 1 (.v 5) (.v 2) .e)))) (.a (.a (.v 3) (.n 1)) (.v 5)) (.n 16384) rfl (Nat.le_of_eq h0) (Nat.le_of_eq h1) (Nat.min_le_right x0 x1) (Nat.sub_le x1 (x0 + 2))
theorem w117 {x0 : Nat} {x1 : Nat} {x2 : Nat} (h0 : ((x2 + x1) = (7 : Nat))) (h1 : ((x0 + (1 : Nat)) = x2)) : ((x0 + (x1 + (1 : Nat))) = (7 : Nat)) := Nat.le_antisymm (lin [x2, x1, x0] 0 (.c 1 (.a (.v 0) (.v 1)) (.n 7) (.c 1 (.a (.v 2) (.n 1)) (.v 0) .e)) (.a (.v 2) (.a (.v 1) (.n 1))) (.n 7) rfl (Nat.le_of_eq h0) (Nat.le_of_eq h1)) (lin [x2, x1, x0] 0 (.c 1 (.n 7) (.a (.v 0) (.v 1)) (.c 1 (.v 0) (.a (.v 2) (.n 1)) .e)) (.n 7) (.a (.v 2) (.a (.v 1) (.n 1))) rfl (eqs h0) (eqs h1))
theorem w118 {x0 : Nat} {x1 : Nat} {x2 : Nat} (h0 : (x2 = ((7 : Nat) + x1))) (h1 : (x0 = (x2 + (1 : Nat)))) : (x0 = ((7 : Nat) + (x1 + (1 : Nat)))) := Nat.le_antisymm (lin [x2, x1, x0] 0 (.c 1 (.v 0) (.a (.n 7) (.v 1)) (.c 1 (.v 2) (.a (.v 0) (.n 1)) .e)) (.v 2) (.a (.n 7) (.a (.v 1) (.n 1))) rfl (Nat.le_of_eq h0) (Nat.le_of_eq h1)) (lin [x2, x1, x0] 0 (.c 1 (.a (.n 7) (.v 1)) (.v 0) (.c 1 (.a (.v 0) (.n 1)) (.v 2) .e)) (.a (.n 7) (.a (.v 1) (.n 1))) (.v 2) rfl (eqs h0) (eqs h1))
theorem w119 {x0 : Nat} {x1 : Nat} (h0 : (x1 ≤ (13 : Nat))) (h1 : (x0 = x1)) : (x0 ≤ (16384 : Nat)) := lin [x1, x0] 0 (.c 1 (.v 0) (.n 13) (.c 1 (.v 1) (.v 0) .e)) (.v 1) (.n 16384) rfl h0 (Nat.le_of_eq h1)
theorem w120 {x0 : Nat} {x1 : Nat} : ((min x0 x1) ≤ x0) := lin [(min x0 x1), x0, x1] 0 (.c 1 (.v 0) (.v 1) .e) (.v 0) (.v 1) rfl (Nat.min_le_left x0 x1)
theorem w121 {x0 : Nat} (h0 : (x0 ≤ (13 : Nat))) : ((x0 * (2 : Nat)) ≤ (16384 : Nat)) := lin [x0] 0 (.c 2 (.v 0) (.n 13) .e) (.r (.v 0) 2) (.n 16384) rfl h0
theorem w122 {x0 : Nat} (h0 : (x0 = (14 : Nat))) : ((13 : Nat) < x0) := lin [x0] 0 (.c 1 (.n 14) (.v 0) .e) (.a (.n 13) (.n 1)) (.v 0) rfl (eqs h0)
theorem w124 {x0 : Int} (h0 : (((0 : Int) ≤ x0) ∧ (x0 ≤ (100 : Int)))) : (x0 ≤ (1000 : Int)) := liz [x0] 0 (.c 1 (.v 0) (.n 100) .e) (.v 0) (.n 1000) rfl h0.2
theorem w125 {x0 : Nat} (h0 : (x0 ≤ (1000 : Nat))) : ((x0 + (1 : Nat)) ≤ (16384 : Nat)) := lin [x0] 0 (.c 1 (.v 0) (.n 1000) .e) (.a (.v 0) (.n 1)) (.n 16384) rfl h0
theorem w126 {x0 : Nat} (h0 : (x0 ≤ (1000 : Nat))) : (x0 ≤ (16380 : Nat)) := lin [x0] 0 (.c 1 (.v 0) (.n 1000) .e) (.v 0) (.n 16380) rfl h0
theorem w127 {x0 : Nat} (h0 : (x0 = (13 : Nat))) : (x0 ≤ (1000 : Nat)) := lin [x0] 0 (.c 1 (.v 0) (.n 13) .e) (.v 0) (.n 1000) rfl (Nat.le_of_eq h0)
theorem w128 {x0 : Nat} {x1 : Nat} (h0 : ((13 : Nat) ≤ x1)) (h1 : (x0 = (13 : Nat))) : (x0 ≤ x1) := lin [x1, x0] 0 (.c 1 (.n 13) (.v 0) (.c 1 (.v 1) (.n 13) .e)) (.v 1) (.v 0) rfl h0 (Nat.le_of_eq h1)
theorem w129 {x0 : Nat} {x1 : Nat} {x2 : Nat} (h0 : (x1 ≤ ((2 : Nat) * x2))) (h1 : (x0 ≤ (2 : Nat))) : ((x0 + x1) ≤ ((2 : Nat) * (x2 + (1 : Nat)))) := lin [x1, x2, x0] 0 (.c 1 (.v 0) (.m 2 (.v 1)) (.c 1 (.v 2) (.n 2) .e)) (.a (.v 2) (.v 0)) (.m 2 (.a (.v 1) (.n 1))) rfl h0 h1
theorem w130 {x0 : Nat} (h0 : (x0 ≤ ((2 : Nat) * (13 : Nat)))) : (x0 ≤ (26 : Nat)) := lin [x0] 0 (.c 1 (.v 0) (.m 2 (.n 13)) .e) (.v 0) (.n 26) rfl h0
theorem w131 {x0 : Nat} (h0 : (x0 = (13 : Nat))) : (x0 ≤ (13 : Nat)) := lin [x0] 0 (.c 1 (.v 0) (.n 13) .e) (.v 0) (.n 13) rfl (Nat.le_of_eq h0)
theorem w132 {x0 : Nat} (h0 : (x0 ≤ (26 : Nat))) : (x0 ≤ (1000 : Nat)) := lin [x0] 0 (.c 1 (.v 0) (.n 26) .e) (.v 0) (.n 1000) rfl h0
theorem w133 {x0 : Nat} (h0 : (x0 ≤ (26 : Nat))) : (((1 : Nat) + x0) ≤ (16384 : Nat)) := lin [x0] 0 (.c 1 (.v 0) (.n 26) .e) (.a (.n 1) (.v 0)) (.n 16384) rfl h0
theorem w134 {x0 : Nat} (h0 : (x0 ≤ (26 : Nat))) : ((((1 : Nat) + x0) + (1 : Nat)) ≤ (16384 : Nat)) := lin [x0] 0 (.c 1 (.v 0) (.n 26) .e) (.a (.a (.n 1) (.v 0)) (.n 1)) (.n 16384) rfl h0
theorem w135 {x0 : Nat} (h0 : (x0 ≤ (26 : Nat))) : (x0 ≤ (998 : Nat)) := lin [x0] 0 (.c 1 (.v 0) (.n 26) .e) (.v 0) (.n 998) rfl h0
theorem w136 {x0 : Nat} {x1 : Nat} (h0 : (x0 = x1)) : (x0 ≤ x1) := lin [x0, x1] 0 (.c 1 (.v 0) (.v 1) .e) (.v 0) (.v 1) rfl (Nat.le_of_eq h0)
theorem w137 {x0 : Nat} : (((0 : Int) + (((x0 : Nat) : Int) * (1 : Int))) = ((x0 : Nat) : Int)) := zeq (0 + (x0 * 1)) x0 (Nat.le_antisymm (lin [x0] 0 .e (.a (.n 0) (.r (.v 0) 1)) (.v 0) rfl ) (lin [x0] 0 .e (.v 0) (.a (.n 0) (.r (.v 0) 1)) rfl ))
theorem w138 {x0 : Int} {x1 : Int} (h0 : (((0 : Int) ≤ x0) ∧ (x0 ≤ (10 : Int)))) (h1 : ((0 : Int) ≤ x1)) : ((0 : Int) ≤ (x0 + x1)) := liz [x0, x1] 0 (.c 1 (.n 0) (.v 0) (.c 1 (.n 0) (.v 1) .e)) (.n 0) (.a (.v 0) (.v 1)) rfl h0.1 h1
theorem w139 {x0 : Int} {x1 : Int} (h0 : (((0 : Int) ≤ x0) ∧ (x0 ≤ (10 : Int)))) (h1 : (x1 ≤ (90 : Int))) : ((x0 + x1) ≤ (100 : Int)) := liz [x0, x1] 0 (.c 1 (.v 0) (.n 10) (.c 1 (.v 1) (.n 90) .e)) (.a (.v 0) (.v 1)) (.n 100) rfl h0.2 h1
theorem w140 {x0 : Nat} (h0 : (x0 ≤ (100 : Nat))) : (x0 ≤ (16384 : Nat)) := lin [x0] 0 (.c 1 (.v 0) (.n 100) .e) (.v 0) (.n 16384) rfl h0
theorem w141 {x0 : Nat} {x1 : Nat} (h0 : (x0 < x1)) : (((x0 : Nat) : Int) < ((x1 : Nat) : Int)) := zlt x0 x1 (lin [x0, x1] 0 (.c 1 (.a (.v 0) (.n 1)) (.v 1) .e) (.a (.v 0) (.n 1)) (.v 1) rfl h0)
theorem w142 {x0 : Nat} {x1 : Nat} (h0 : (¬ (x0 < x1))) : (¬ (((x0 : Nat) : Int) < ((x1 : Nat) : Int))) := Int.not_lt.2 (zle x1 x0 (lin [x1, x0] 0 (.c 1 (.v 0) (.v 1) .e) (.v 0) (.v 1) rfl (Nat.not_lt.1 h0)))
theorem w144 {x0 : Nat} : (((1 : Nat) + x0) = (x0 + (1 : Nat))) := Nat.le_antisymm (lin [x0] 0 .e (.a (.n 1) (.v 0)) (.a (.v 0) (.n 1)) rfl ) (lin [x0] 0 .e (.a (.v 0) (.n 1)) (.a (.n 1) (.v 0)) rfl )
theorem w145 {x0 : Nat} (h0 : (x0 < (7 : Nat))) : (x0 < (14 : Nat)) := lin [x0] 0 (.c 1 (.a (.v 0) (.n 1)) (.n 7) .e) (.a (.v 0) (.n 1)) (.n 14) rfl h0
theorem w148 {x0 : Int} (h0 : ((0 : Int) ≤ x0)) : ((-((2 : Int) ^ 63)) ≤ x0) := liz [x0] 0 (.c 1 (.n 0) (.v 0) .e) (.g (.n 9223372036854775808)) (.v 0) rfl h0
theorem w151 {x0 : Nat} (h0 : (x0 ≤ (16384 : Nat))) : (x0 ≤ (16777215 : Nat)) := lin [x0] 0 (.c 1 (.v 0) (.n 16384) .e) (.v 0) (.n 16777215) rfl h0
theorem w152 {x0 : Nat} (h0 : (x0 ≤ (16384 : Nat))) : (((x0 : Nat) : Int) < ((2 : Int) ^ 63)) := zlt x0 9223372036854775808 (lin [x0] 0 (.c 1 (.v 0) (.n 16384) .e) (.a (.v 0) (.n 1)) (.n 9223372036854775808) rfl h0)
theorem w153 {x0 : Nat} (h0 : (x0 ≤ (16384 : Nat))) : (¬ (((x0 : Nat) : Int) ≥ ((2 : Int) ^ 63))) := Int.not_le.2 (zlt x0 9223372036854775808 (lin [x0] 0 (.c 1 (.v 0) (.n 16384) .e) (.a (.v 0) (.n 1)) (.n 9223372036854775808) rfl h0))
theorem w154 {x0 : Nat} {x1 : Nat} (h0 : ((x0 + x1) ≤ (16384 : Nat))) : ((x0 + x1) ≤ (16777216 : Nat)) := lin [x0, x1] 0 (.c 1 (.a (.v 0) (.v 1)) (.n 16384) .e) (.a (.v 0) (.v 1)) (.n 16777216) rfl h0
theorem w155 {x0 : Nat} {x1 : Nat} : ((0 : Nat) < (((1 : Nat) + x0) + x1)) := lin [x0, x1] 0 .e (.a (.n 0) (.n 1)) (.a (.a (.n 1) (.v 0)) (.v 1)) rfl 
theorem w156 {x0 : Nat} {x1 : Nat} : (((x0 + x1) + (1 : Nat)) = (((1 : Nat) + x0) + x1)) := Nat.le_antisymm (lin [x0, x1] 0 .e (.a (.a (.v 0) (.v 1)) (.n 1)) (.a (.a (.n 1) (.v 0)) (.v 1)) rfl ) (lin [x0, x1] 0 .e (.a (.a (.n 1) (.v 0)) (.v 1)) (.a (.a (.v 0) (.v 1)) (.n 1)) rfl )
theorem w157 {x0 : Nat} (h0 : (x0 < (256 : Nat))) (h1 : ((0 : Nat) < x0)) : (((0 : Nat) < x0) ∧ (x0 < (512 : Nat))) := ⟨lin [x0] 0 (.c 1 (.a (.n 0) (.n 1)) (.v 0) .e) (.a (.n 0) (.n 1)) (.v 0) rfl h1, lin [x0] 0 (.c 1 (.a (.v 0) (.n 1)) (.n 256) .e) (.a (.v 0) (.n 1)) (.n 512) rfl h0⟩
theorem w158 {x0 : Nat} (h0 : (x0 < (1 : Nat))) : ((x0 + (1 : Nat)) ≤ (1 : Nat)) := lin [x0] 0 (.c 1 (.a (.v 0) (.n 1)) (.n 1) .e) (.a (.v 0) (.n 1)) (.n 1) rfl h0
theorem w159 {x0 : Nat} {x1 : Nat} {x2 : Nat} {x3 : Nat} (h0 : ((x0 + x1) ≤ x2)) : (((x0 + (1 : Nat)) + x1) ≤ (((1 : Nat) + x2) + x3)) := lin [x0, x1, x2, x3] 0 (.c 1 (.a (.v 0) (.v 1)) (.v 2) .e) (.a (.a (.v 0) (.n 1)) (.v 1)) (.a (.a (.n 1) (.v 2)) (.v 3)) rfl h0
theorem w160 {x0 : Nat} {x1 : Nat} {x2 : Nat} (h0 : ((x0 + (1 : Nat)) < (((1 : Nat) + x1) + x2))) (h1 : (¬ (x0 < x1))) : ((x0 - x1) < x2) := lin [x0, x1, x2, (x0 - x1)] 0 (.c 1 (.a (.a (.v 0) (.n 1)) (.n 1)) (.a (.a (.n 1) (.v 1)) (.v 2)) (.c 1 (.a (.v 3) (.v 1)) (.v 0) .e)) (.a (.v 3) (.n 1)) (.v 2) rfl h0 (sub_add_le (lin [x0, x1, x2, (x0 - x1)] 0 (.c 1 (.v 1) (.v 0) .e) (.v 1) (.v 0) rfl (Nat.not_lt.1 h1)))
theorem w161 {x0 : Nat} {x1 : Nat} {x2 : Nat} {x3 : Nat} (h0 : (((x0 - x2) + x1) ≤ x3)) : (((x0 + (1 : Nat)) + x1) ≤ (((1 : Nat) + x2) + x3)) := lin [(x0 - x2), x1, x3, x2, x0] 0 (.c 1 (.a (.v 0) (.v 1)) (.v 2) (.c 1 (.v 4) (.a (.v 0) (.v 3)) .e)) (.a (.a (.v 4) (.n 1)) (.v 1)) (.a (.a (.n 1) (.v 3)) (.v 2)) rfl h0 (le_sub_add x0 x2)
theorem w162 {x0 : Nat} (h0 : (x0 < (1 : Nat))) : (x0 = (0 : Nat)) := Nat.le_antisymm (lin [x0] 0 (.c 1 (.a (.v 0) (.n 1)) (.n 1) .e) (.v 0) (.n 0) rfl h0) (lin [x0] 0 .e (.n 0) (.v 0) rfl )
theorem w163 {x0 : Nat} {x1 : Nat} : (((x0 + (1 : Nat)) + x1) = ((x0 + x1) + (1 : Nat))) := Nat.le_antisymm (lin [x0, x1] 0 .e (.a (.a (.v 0) (.n 1)) (.v 1)) (.a (.a (.v 0) (.v 1)) (.n 1)) rfl ) (lin [x0, x1] 0 .e (.a (.a (.v 0) (.v 1)) (.n 1)) (.a (.a (.v 0) (.n 1)) (.v 1)) rfl )
theorem w164 {x0 : Nat} {x1 : Nat} {x2 : Nat} (h0 : (x1 = x2)) (h1 : (x0 < x2)) : (x0 ≤ x1) := lin [x1, x2, x0] 0 (.c 1 (.v 1) (.v 0) (.c 1 (.a (.v 2) (.n 1)) (.v 1) .e)) (.v 2) (.v 0) rfl (eqs h0) h1
theorem w165 {x0 : Nat} {x1 : Nat} {x2 : Nat} {x3 : Nat} (h0 : (x2 = x3)) (h1 : ((x0 + x1) ≤ x3)) : ((x0 + x1) ≤ x2) := lin [x2, x3, x0, x1] 0 (.c 1 (.v 1) (.v 0) (.c 1 (.a (.v 2) (.v 3)) (.v 1) .e)) (.a (.v 2) (.v 3)) (.v 0) rfl (eqs h0) h1
theorem w166 {x0 : Nat} {x1 : Nat} {x2 : Nat} (h0 : (x0 = x2)) (h1 : (¬ (x1 < x2))) : (x0 ≤ x1) := lin [x0, x2, x1] 0 (.c 1 (.v 0) (.v 1) (.c 1 (.v 1) (.v 2) .e)) (.v 0) (.v 2) rfl (Nat.le_of_eq h0) (Nat.not_lt.1 h1)
theorem w167 {x0 : Nat} {x1 : Nat} {x2 : Nat} {x3 : Nat} (h0 : (x0 = x3)) (h1 : (¬ (x1 < x3))) : (x0 ≤ (x1 + x2)) := lin [x0, x3, x1, x2] 0 (.c 1 (.v 0) (.v 1) (.c 1 (.v 1) (.v 2) .e)) (.v 0) (.a (.v 2) (.v 3)) rfl (Nat.le_of_eq h0) (Nat.not_lt.1 h1)
theorem w168 {x0 : Nat} {x1 : Nat} {x2 : Nat} (h0 : (¬ (x0 < x1))) : (((x0 - x1) + x2) = ((x0 + x2) - x1)) := Nat.le_antisymm (lin [x1, x0, (x0 - x1), x2, ((x0 + x2) - x1)] 0 (.c 1 (.a (.v 2) (.v 0)) (.v 1) (.c 1 (.a (.v 1) (.v 3)) (.a (.v 4) (.v 0)) .e)) (.a (.v 2) (.v 3)) (.v 4) rfl (sub_add_le (lin [x1, x0, (x0 - x1), x2, ((x0 + x2) - x1)] 0 (.c 1 (.v 0) (.v 1) .e) (.v 0) (.v 1) rfl (Nat.not_lt.1 h0))) (le_sub_add (x0 + x2) x1)) (lin [x1, x0, (x0 - x1), x2, ((x0 + x2) - x1)] 0 (.c 1 (.v 1) (.a (.v 2) (.v 0)) (.c 1 (.a (.v 4) (.v 0)) (.a (.v 1) (.v 3)) .e)) (.v 4) (.a (.v 2) (.v 3)) rfl (le_sub_add x0 x1) (sub_add_le (lin [x1, x0, (x0 - x1), x2, ((x0 + x2) - x1)] 0 (.c 1 (.v 0) (.v 1) .e) (.v 0) (.a (.v 1) (.v 3)) rfl (Nat.not_lt.1 h0))))
theorem w169 {x0 : Nat} {x1 : Nat} {x2 : Nat} (h0 : (¬ (x0 < x2))) : (((x0 + x1) - x2) = ((x0 - x2) + x1)) := Nat.le_antisymm (lin [x2, x0, x1, ((x0 + x1) - x2), (x0 - x2)] 0 (.c 1 (.a (.v 3) (.v 0)) (.a (.v 1) (.v 2)) (.c 1 (.v 1) (.a (.v 4) (.v 0)) .e)) (.v 3) (.a (.v 4) (.v 2)) rfl (sub_add_le (lin [x2, x0, x1, ((x0 + x1) - x2), (x0 - x2)] 0 (.c 1 (.v 0) (.v 1) .e) (.v 0) (.a (.v 1) (.v 2)) rfl (Nat.not_lt.1 h0))) (le_sub_add x0 x2)) (lin [x2, x0, x1, ((x0 + x1) - x2), (x0 - x2)] 0 (.c 1 (.a (.v 1) (.v 2)) (.a (.v 3) (.v 0)) (.c 1 (.a (.v 4) (.v 0)) (.v 1) .e)) (.a (.v 4) (.v 2)) (.v 3) rfl (le_sub_add (x0 + x1) x2) (sub_add_le (lin [x2, x0, x1, ((x0 + x1) - x2), (x0 - x2)] 0 (.c 1 (.v 0) (.v 1) .e) (.v 0) (.v 1) rfl (Nat.not_lt.1 h0))))
theorem w170 {x0 : Nat} {x1 : Nat} {x2 : Nat} {x3 : Nat} (h0 : (x1 < x3)) (h1 : ((x0 + x3) ≤ x2)) : ((x0 + x1) < x2) := lin [x1, x3, x0, x2] 0 (.c 1 (.a (.v 0) (.n 1)) (.v 1) (.c 1 (.a (.v 2) (.v 1)) (.v 3) .e)) (.a (.a (.v 2) (.v 0)) (.n 1)) (.v 3) rfl h0 h1
theorem w171 {x0 : Nat} {x1 : Nat} {x2 : Nat} (h0 : (¬ (x0 < x2))) : (¬ ((x0 + x1) < x2)) := Nat.not_lt.2 (lin [x2, x0, x1] 0 (.c 1 (.v 0) (.v 1) .e) (.v 0) (.a (.v 1) (.v 2)) rfl (Nat.not_lt.1 h0))
theorem w172 {x0 : Nat} {x1 : Nat} {x2 : Nat} {x3 : Nat} {x4 : Nat} (h0 : (x3 < x4)) (h1 : (((x0 - x1) + x4) ≤ x2)) : ((x0 - x1) < x2) := lin [x3, x4, (x0 - x1), x2, x1, x0] 0 (.c 1 (.a (.v 0) (.n 1)) (.v 1) (.c 1 (.a (.v 2) (.v 1)) (.v 3) .e)) (.a (.v 2) (.n 1)) (.v 3) rfl h0 h1
theorem w173 {x0 : Nat} : ((x0 + ((0 : Nat) + (1 : Nat))) = (x0 + (1 : Nat))) := Nat.le_antisymm (lin [x0] 0 .e (.a (.v 0) (.a (.n 0) (.n 1))) (.a (.v 0) (.n 1)) rfl ) (lin [x0] 0 .e (.a (.v 0) (.n 1)) (.a (.v 0) (.a (.n 0) (.n 1))) rfl )
theorem w174 {x0 : Nat} {x1 : Nat} {x2 : Nat} {x3 : Nat} (h0 : (x0 = ((x2 + (1 : Nat)) + x3))) : ((((1 : Nat) + x0) + x1) = (((x2 + ((0 : Nat) + (1 : Nat))) + (1 : Nat)) + (x3 + (x1 + (0 : Nat))))) := Nat.le_antisymm (lin [x0, x2, x3, x1] 0 (.c 1 (.v 0) (.a (.a (.v 1) (.n 1)) (.v 2)) .e) (.a (.a (.n 1) (.v 0)) (.v 3)) (.a (.a (.a (.v 1) (.a (.n 0) (.n 1))) (.n 1)) (.a (.v 2) (.a (.v 3) (.n 0)))) rfl (Nat.le_of_eq h0)) (lin [x0, x2, x3, x1] 0 (.c 1 (.a (.a (.v 1) (.n 1)) (.v 2)) (.v 0) .e) (.a (.a (.a (.v 1) (.a (.n 0) (.n 1))) (.n 1)) (.a (.v 2) (.a (.v 3) (.n 0)))) (.a (.a (.n 1) (.v 0)) (.v 3)) rfl (eqs h0))
theorem w175 {x0 : Nat} {x1 : Nat} {x2 : Nat} {x3 : Nat} (h0 : (((x0 + (1 : Nat)) + x1) < x2)) : ((((x0 + ((0 : Nat) + (1 : Nat))) + (1 : Nat)) + x1) < (((1 : Nat) + x2) + x3)) := lin [x0, x1, x2, x3] 0 (.c 1 (.a (.a (.a (.v 0) (.n 1)) (.v 1)) (.n 1)) (.v 2) .e) (.a (.a (.a (.a (.v 0) (.a (.n 0) (.n 1))) (.n 1)) (.v 1)) (.n 1)) (.a (.a (.n 1) (.v 2)) (.v 3)) rfl h0
theorem w176 {x0 : Nat} {x1 : Nat} : ((((x0 + ((0 : Nat) + (1 : Nat))) + (1 : Nat)) + x1) = (((x0 + (1 : Nat)) + x1) + (1 : Nat))) := Nat.le_antisymm (lin [x0, x1] 0 .e (.a (.a (.a (.v 0) (.a (.n 0) (.n 1))) (.n 1)) (.v 1)) (.a (.a (.a (.v 0) (.n 1)) (.v 1)) (.n 1)) rfl ) (lin [x0, x1] 0 .e (.a (.a (.a (.v 0) (.n 1)) (.v 1)) (.n 1)) (.a (.a (.a (.v 0) (.a (.n 0) (.n 1))) (.n 1)) (.v 1)) rfl )
theorem w177 {x0 : Nat} {x1 : Nat} (h0 : (x0 < (x1 + ((0 : Nat) + (1 : Nat))))) (h1 : (¬ (x0 < x1))) : (x0 = x1) := Nat.le_antisymm (lin [x0, x1] 0 (.c 1 (.a (.v 0) (.n 1)) (.a (.v 1) (.a (.n 0) (.n 1))) .e) (.v 0) (.v 1) rfl h0) (lin [x0, x1] 0 (.c 1 (.v 1) (.v 0) .e) (.v 1) (.v 0) rfl (Nat.not_lt.1 h1))
theorem w178 {x0 : Nat} : (x0 ≤ x0) := lin [x0] 0 .e (.v 0) (.v 0) rfl 
theorem w179 {x0 : Nat} {x1 : Nat} {x2 : Nat} {x3 : Nat} (h0 : (x2 = ((x0 + (1 : Nat)) + x1))) (h1 : ((0 : Nat) < x3)) : ((((x0 + ((0 : Nat) + (1 : Nat))) + (1 : Nat)) + x1) < (((1 : Nat) + x2) + x3)) := lin [x2, x0, x1, x3] 0 (.c 1 (.a (.a (.v 1) (.n 1)) (.v 2)) (.v 0) (.c 1 (.a (.n 0) (.n 1)) (.v 3) .e)) (.a (.a (.a (.a (.v 1) (.a (.n 0) (.n 1))) (.n 1)) (.v 2)) (.n 1)) (.a (.a (.n 1) (.v 0)) (.v 3)) rfl (eqs h0) h1
theorem w180 {x0 : Nat} {x1 : Nat} {x2 : Nat} (h0 : (x2 = ((x0 + (1 : Nat)) + x1))) : (¬ (((x0 + (1 : Nat)) + x1) < x2)) := Nat.not_lt.2 (lin [x2, x0, x1] 0 (.c 1 (.v 0) (.a (.a (.v 1) (.n 1)) (.v 2)) .e) (.v 0) (.a (.a (.v 1) (.n 1)) (.v 2)) rfl (Nat.le_of_eq h0))
theorem w181 {x0 : Nat} {x1 : Nat} {x2 : Nat} (h0 : (x2 = ((x0 + (1 : Nat)) + x1))) : ((((x0 + (1 : Nat)) + x1) - x2) = (0 : Nat)) := Nat.le_antisymm (lin [x2, x0, x1, (((x0 + 1) + x1) - x2)] 0 (.c 1 (.a (.a (.v 1) (.n 1)) (.v 2)) (.v 0) (.c 1 (.a (.v 3) (.v 0)) (.a (.a (.v 1) (.n 1)) (.v 2)) .e)) (.v 3) (.n 0) rfl (eqs h0) (sub_add_le (lin [x2, x0, x1, (((x0 + 1) + x1) - x2)] 0 (.c 1 (.v 0) (.a (.a (.v 1) (.n 1)) (.v 2)) .e) (.v 0) (.a (.a (.v 1) (.n 1)) (.v 2)) rfl (Nat.le_of_eq h0)))) (lin [x2, x0, x1, (((x0 + 1) + x1) - x2)] 0 .e (.n 0) (.v 3) rfl )
theorem w182 {x0 : Nat} {x1 : Nat} {x2 : Nat} {x3 : Nat} (h0 : (x0 < x2)) (h1 : (x1 = ((x2 + (1 : Nat)) + x3))) : (x0 < x1) := lin [x0, x2, x1, x3] 0 (.c 1 (.a (.v 0) (.n 1)) (.v 1) (.c 1 (.a (.a (.v 1) (.n 1)) (.v 3)) (.v 2) .e)) (.a (.v 0) (.n 1)) (.v 2) rfl h0 (eqs h1)
theorem w183 {x0 : Nat} {x1 : Nat} {x2 : Nat} (h0 : (x1 = ((x0 + (1 : Nat)) + x2))) : (x0 < x1) := lin [x1, x0, x2] 0 (.c 1 (.a (.a (.v 1) (.n 1)) (.v 2)) (.v 0) .e) (.a (.v 1) (.n 1)) (.v 0) rfl (eqs h0)
theorem w184 {x0 : Nat} {x1 : Nat} : ((((1 : Nat) + x0) + x1) = ((x0 + x1) + (1 : Nat))) := Nat.le_antisymm (lin [x0, x1] 0 .e (.a (.a (.n 1) (.v 0)) (.v 1)) (.a (.a (.v 0) (.v 1)) (.n 1)) rfl ) (lin [x0, x1] 0 .e (.a (.a (.v 0) (.v 1)) (.n 1)) (.a (.a (.n 1) (.v 0)) (.v 1)) rfl )
theorem w185 {x0 : Nat} {x1 : Nat} : (¬ ((x0 + x1) < x0)) := Nat.not_lt.2 (lin [x0, x1] 0 .e (.v 0) (.a (.v 0) (.v 1)) rfl )
theorem w186 {x0 : Nat} {x1 : Nat} : (((x0 + x1) - x0) = x1) := Nat.le_antisymm (lin [x0, x1, ((x0 + x1) - x0)] 0 (.c 1 (.a (.v 2) (.v 0)) (.a (.v 0) (.v 1)) .e) (.v 2) (.v 1) rfl (sub_add_le (lin [x0, x1, ((x0 + x1) - x0)] 0 .e (.v 0) (.a (.v 0) (.v 1)) rfl ))) (lin [x0, x1, ((x0 + x1) - x0)] 0 (.c 1 (.a (.v 0) (.v 1)) (.a (.v 2) (.v 0)) .e) (.v 1) (.v 2) rfl (le_sub_add (x0 + x1) x0))
theorem w187 {x0 : Nat} {x1 : Nat} : (x0 ≤ (((1 : Nat) + (((1 : Nat) + (1 : Nat)) + x0)) + x1)) := lin [x0, x1] 0 .e (.v 0) (.a (.a (.n 1) (.a (.a (.n 1) (.n 1)) (.v 0))) (.v 1)) rfl 
theorem w188 {x0 : Nat} {x1 : Nat} {x2 : Nat} : ((((1 : Nat) + x0) + (((1 : Nat) + x1) + x2)) ≤ (((1 : Nat) + (((1 : Nat) + (((1 : Nat) + (1 : Nat)) + x0)) + x1)) + x2)) := lin [x0, x1, x2] 0 .e (.a (.a (.n 1) (.v 0)) (.a (.a (.n 1) (.v 1)) (.v 2))) (.a (.a (.n 1) (.a (.a (.n 1) (.a (.a (.n 1) (.n 1)) (.v 0))) (.v 1))) (.v 2)) rfl 
theorem w189 {x0 : Nat} {x1 : Nat} {x2 : Nat} : ((((1 : Nat) + (((1 : Nat) + x0) + x1)) + x2) ≤ (((1 : Nat) + (((1 : Nat) + (((1 : Nat) + (1 : Nat)) + x0)) + x2)) + x1)) := lin [x0, x1, x2] 0 .e (.a (.a (.n 1) (.a (.a (.n 1) (.v 0)) (.v 1))) (.v 2)) (.a (.a (.n 1) (.a (.a (.n 1) (.a (.a (.n 1) (.n 1)) (.v 0))) (.v 2))) (.v 1)) rfl 
theorem w190 {x0 : Nat} {x1 : Nat} {x2 : Nat} (h0 : (x0 < x2)) : ((((1 : Nat) + x0) + x1) < (((1 : Nat) + x2) + x1)) := lin [x0, x2, x1] 0 (.c 1 (.a (.v 0) (.n 1)) (.v 1) .e) (.a (.a (.a (.n 1) (.v 0)) (.v 2)) (.n 1)) (.a (.a (.n 1) (.v 1)) (.v 2)) rfl h0
theorem w191 {x0 : Nat} {x1 : Nat} {x2 : Nat} (h0 : (x0 < x1)) : (x0 < (((1 : Nat) + x1) + x2)) := lin [x0, x1, x2] 0 (.c 1 (.a (.v 0) (.n 1)) (.v 1) .e) (.a (.v 0) (.n 1)) (.a (.a (.n 1) (.v 1)) (.v 2)) rfl h0
theorem w192 {x0 : Nat} {x1 : Nat} : (x0 < (((1 : Nat) + (((1 : Nat) + (1 : Nat)) + x0)) + x1)) := lin [x0, x1] 0 .e (.a (.v 0) (.n 1)) (.a (.a (.n 1) (.a (.a (.n 1) (.n 1)) (.v 0))) (.v 1)) rfl 
theorem w193 {x0 : Nat} {x1 : Nat} : (x0 < (((1 : Nat) + (((1 : Nat) + (1 : Nat)) + x1)) + x0)) := lin [x0, x1] 0 .e (.a (.v 0) (.n 1)) (.a (.a (.n 1) (.a (.a (.n 1) (.n 1)) (.v 1))) (.v 0)) rfl 
theorem w194 {x0 : Nat} {x1 : Nat} {x2 : Nat} : ((((1 : Nat) + x0) + (((1 : Nat) + x1) + x2)) < (((1 : Nat) + (((1 : Nat) + (((1 : Nat) + (1 : Nat)) + x0)) + x1)) + x2)) := lin [x0, x1, x2] 0 .e (.a (.a (.a (.n 1) (.v 0)) (.a (.a (.n 1) (.v 1)) (.v 2))) (.n 1)) (.a (.a (.n 1) (.a (.a (.n 1) (.a (.a (.n 1) (.n 1)) (.v 0))) (.v 1))) (.v 2)) rfl 
theorem w195 {x0 : Nat} {x1 : Nat} {x2 : Nat} : ((((1 : Nat) + (((1 : Nat) + x0) + x1)) + x2) < (((1 : Nat) + (((1 : Nat) + (((1 : Nat) + (1 : Nat)) + x0)) + x2)) + x1)) := lin [x0, x1, x2] 0 .e (.a (.a (.a (.n 1) (.a (.a (.n 1) (.v 0)) (.v 1))) (.v 2)) (.n 1)) (.a (.a (.n 1) (.a (.a (.n 1) (.a (.a (.n 1) (.n 1)) (.v 0))) (.v 2))) (.v 1)) rfl 
theorem w196 {x0 : Nat} (h0 : ((x0 + ((0 : Nat) + (1 : Nat))) < (2 : Nat))) : (x0 < (2 : Nat)) := lin [x0] 0 (.c 1 (.a (.a (.v 0) (.a (.n 0) (.n 1))) (.n 1)) (.n 2) .e) (.a (.v 0) (.n 1)) (.n 2) rfl h0
theorem w197 {x0 : Nat} (h0 : ((x0 + ((0 : Nat) + (1 : Nat))) < (3 : Nat))) : (x0 < (3 : Nat)) := lin [x0] 0 (.c 1 (.a (.a (.v 0) (.a (.n 0) (.n 1))) (.n 1)) (.n 3) .e) (.a (.v 0) (.n 1)) (.n 3) rfl h0
theorem w198 {x0 : Nat} (h0 : (x0 < (2 : Nat))) (h1 : (¬ (x0 = (1 : Nat)))) : ((x0 + ((0 : Nat) + (1 : Nat))) < (2 : Nat)) := (Nat.lt_or_gt_of_ne h1).elim (fun q0 => lin [x0] 0 (.c 1 (.a (.v 0) (.n 1)) (.n 1) .e) (.a (.a (.v 0) (.a (.n 0) (.n 1))) (.n 1)) (.n 2) rfl q0) (fun q0 => lin [x0] 0 (.c 2 (.a (.v 0) (.n 1)) (.n 2) (.c 1 (.a (.n 1) (.n 1)) (.v 0) .e)) (.a (.a (.v 0) (.a (.n 0) (.n 1))) (.n 1)) (.n 2) rfl h0 q0)
theorem w199 {x0 : Nat} (h0 : (x0 < (3 : Nat))) (h1 : (¬ (x0 = (2 : Nat)))) : ((x0 + ((0 : Nat) + (1 : Nat))) < (3 : Nat)) := (Nat.lt_or_gt_of_ne h1).elim (fun q0 => lin [x0] 0 (.c 1 (.a (.v 0) (.n 1)) (.n 2) .e) (.a (.a (.v 0) (.a (.n 0) (.n 1))) (.n 1)) (.n 3) rfl q0) (fun q0 => lin [x0] 0 (.c 2 (.a (.v 0) (.n 1)) (.n 3) (.c 1 (.a (.n 2) (.n 1)) (.v 0) .e)) (.a (.a (.v 0) (.a (.n 0) (.n 1))) (.n 1)) (.n 3) rfl h0 q0)
theorem w200 {x0 : Nat} {x1 : Nat} : (x0 < (((1 : Nat) + x0) + x1)) := lin [x0, x1] 0 .e (.a (.v 0) (.n 1)) (.a (.a (.n 1) (.v 0)) (.v 1)) rfl 
theorem w201 {x0 : Nat} {x1 : Nat} : (x0 < (((1 : Nat) + x1) + x0)) := lin [x0, x1] 0 .e (.a (.v 0) (.n 1)) (.a (.a (.n 1) (.v 1)) (.v 0)) rfl 
theorem w202 {x0 : Nat} : ((x0 + (1 : Nat)) ≤ (x0 + (1 : Nat))) := lin [x0] 0 .e (.a (.v 0) (.n 1)) (.a (.v 0) (.n 1)) rfl 
theorem w203 {x0 : Nat} {x1 : Nat} : ((x0 + (1 : Nat)) ≤ ((x0 + (1 : Nat)) + x1)) := lin [x0, x1] 0 .e (.a (.v 0) (.n 1)) (.a (.a (.v 0) (.n 1)) (.v 1)) rfl 
theorem w204 {x0 : Nat} {x1 : Nat} (h0 : (x0 ≤ (x1 + (1 : Nat)))) : ((x0 + (1 : Nat)) ≤ ((x1 + (1 : Nat)) + (1 : Nat))) := lin [x0, x1] 0 (.c 1 (.v 0) (.a (.v 1) (.n 1)) .e) (.a (.v 0) (.n 1)) (.a (.a (.v 1) (.n 1)) (.n 1)) rfl h0
theorem w205 {x0 : Nat} {x1 : Nat} (h0 : ((x0 + (1 : Nat)) ≤ x1)) : (((x0 + (1 : Nat)) + (1 : Nat)) ≤ (x1 + (1 : Nat))) := lin [x0, x1] 0 (.c 1 (.a (.v 0) (.n 1)) (.v 1) .e) (.a (.a (.v 0) (.n 1)) (.n 1)) (.a (.v 1) (.n 1)) rfl h0
theorem w206 {x0 : Nat} {x1 : Nat} {x2 : Nat} (h0 : ((x0 + (1 : Nat)) ≤ x2)) : ((((x0 + (1 : Nat)) + x1) + (1 : Nat)) ≤ ((x2 + (1 : Nat)) + x1)) := lin [x0, x2, x1] 0 (.c 1 (.a (.v 0) (.n 1)) (.v 1) .e) (.a (.a (.a (.v 0) (.n 1)) (.v 2)) (.n 1)) (.a (.a (.v 1) (.n 1)) (.v 2)) rfl h0
theorem w207 {x0 : Nat} : ((x0 + (1 : Nat)) ≤ ((x0 + (1 : Nat)) + (1 : Nat))) := lin [x0] 0 .e (.a (.v 0) (.n 1)) (.a (.a (.v 0) (.n 1)) (.n 1)) rfl 
theorem w208 {x0 : Nat} {x1 : Nat} {x2 : Nat} (h0 : ((x1 + (1 : Nat)) ≤ x2)) : ((((x0 + (1 : Nat)) + x1) + (1 : Nat)) ≤ ((x0 + (1 : Nat)) + x2)) := lin [x1, x2, x0] 0 (.c 1 (.a (.v 0) (.n 1)) (.v 1) .e) (.a (.a (.a (.v 2) (.n 1)) (.v 0)) (.n 1)) (.a (.a (.v 2) (.n 1)) (.v 1)) rfl h0
theorem w209 {x0 : Nat} {x1 : Nat} {x2 : Nat} (h0 : ((((1 : Nat) + x0) + x2) ≤ (x1 + (1 : Nat)))) : (x0 ≤ x1) := lin [x0, x2, x1] 0 (.c 1 (.a (.a (.n 1) (.v 0)) (.v 1)) (.a (.v 2) (.n 1)) .e) (.v 0) (.v 2) rfl h0
theorem w210 {x0 : Nat} {x1 : Nat} {x2 : Nat} (h0 : (x0 ≤ (x2 + (1 : Nat)))) : ((x0 + x1) ≤ ((x2 + x1) + (1 : Nat))) := lin [x0, x2, x1] 0 (.c 1 (.v 0) (.a (.v 1) (.n 1)) .e) (.a (.v 0) (.v 2)) (.a (.a (.v 1) (.v 2)) (.n 1)) rfl h0
theorem w211 {x0 : Nat} {x1 : Nat} {x2 : Nat} (h0 : ((x0 + (1 : Nat)) ≤ x2)) : (((x0 + x1) + (1 : Nat)) ≤ (x2 + x1)) := lin [x0, x2, x1] 0 (.c 1 (.a (.v 0) (.n 1)) (.v 1) .e) (.a (.a (.v 0) (.v 2)) (.n 1)) (.a (.v 1) (.v 2)) rfl h0
theorem w212 {x0 : Nat} {x1 : Nat} {x2 : Nat} (h0 : ((((1 : Nat) + x2) + x0) ≤ (x1 + (1 : Nat)))) : (x0 ≤ x1) := lin [x2, x0, x1] 0 (.c 1 (.a (.a (.n 1) (.v 0)) (.v 1)) (.a (.v 2) (.n 1)) .e) (.v 1) (.v 2) rfl h0
theorem w213 {x0 : Nat} {x1 : Nat} {x2 : Nat} (h0 : (x1 ≤ (x2 + (1 : Nat)))) : ((x0 + x1) ≤ ((x0 + x2) + (1 : Nat))) := lin [x1, x2, x0] 0 (.c 1 (.v 0) (.a (.v 1) (.n 1)) .e) (.a (.v 2) (.v 0)) (.a (.a (.v 2) (.v 1)) (.n 1)) rfl h0
theorem w214 {x0 : Nat} {x1 : Nat} {x2 : Nat} (h0 : ((x1 + (1 : Nat)) ≤ x2)) : (((x0 + x1) + (1 : Nat)) ≤ (x0 + x2)) := lin [x1, x2, x0] 0 (.c 1 (.a (.v 0) (.n 1)) (.v 1) .e) (.a (.a (.v 2) (.v 0)) (.n 1)) (.a (.v 2) (.v 1)) rfl h0
theorem w215 {x0 : Nat} {x1 : Nat} {x2 : Nat} (h0 : (x1 = (x2 + (1 : Nat)))) : ((x0 + x1) = ((x0 + x2) + (1 : Nat))) := Nat.le_antisymm (lin [x1, x2, x0] 0 (.c 1 (.v 0) (.a (.v 1) (.n 1)) .e) (.a (.v 2) (.v 0)) (.a (.a (.v 2) (.v 1)) (.n 1)) rfl (Nat.le_of_eq h0)) (lin [x1, x2, x0] 0 (.c 1 (.a (.v 1) (.n 1)) (.v 0) .e) (.a (.a (.v 2) (.v 1)) (.n 1)) (.a (.v 2) (.v 0)) rfl (eqs h0))
theorem w216 {x0 : Nat} {x1 : Nat} {x2 : Nat} (h0 : (x0 = (x2 + (1 : Nat)))) : ((x0 + x1) = ((x2 + x1) + (1 : Nat))) := Nat.le_antisymm (lin [x0, x2, x1] 0 (.c 1 (.v 0) (.a (.v 1) (.n 1)) .e) (.a (.v 0) (.v 2)) (.a (.a (.v 1) (.v 2)) (.n 1)) rfl (Nat.le_of_eq h0)) (lin [x0, x2, x1] 0 (.c 1 (.a (.v 1) (.n 1)) (.v 0) .e) (.a (.a (.v 1) (.v 2)) (.n 1)) (.a (.v 0) (.v 2)) rfl (eqs h0))
theorem w217 {x0 : Nat} {x1 : Nat} {x2 : Nat} {x3 : Nat} {x4 : Nat} (h0 : (x0 = ((x2 + x3) + x4))) : ((((1 : Nat) + x0) + x1) = ((x2 + (x3 + (1 : Nat))) + (x1 + x4))) := Nat.le_antisymm (lin [x0, x2, x3, x4, x1] 0 (.c 1 (.v 0) (.a (.a (.v 1) (.v 2)) (.v 3)) .e) (.a (.a (.n 1) (.v 0)) (.v 4)) (.a (.a (.v 1) (.a (.v 2) (.n 1))) (.a (.v 4) (.v 3))) rfl (Nat.le_of_eq h0)) (lin [x0, x2, x3, x4, x1] 0 (.c 1 (.a (.a (.v 1) (.v 2)) (.v 3)) (.v 0) .e) (.a (.a (.v 1) (.a (.v 2) (.n 1))) (.a (.v 4) (.v 3))) (.a (.a (.n 1) (.v 0)) (.v 4)) rfl (eqs h0))
theorem w218 {x0 : Nat} {x1 : Nat} {x2 : Nat} (h0 : (x1 < x2)) : ((((1 : Nat) + x0) + x1) < (((1 : Nat) + x0) + x2)) := lin [x1, x2, x0] 0 (.c 1 (.a (.v 0) (.n 1)) (.v 1) .e) (.a (.a (.a (.n 1) (.v 2)) (.v 0)) (.n 1)) (.a (.a (.n 1) (.v 2)) (.v 1)) rfl h0
theorem w219 {x0 : Nat} {x1 : Nat} (h0 : (x1 ≤ (0 : Nat))) (h1 : ((0 : Nat) < x1)) : (x0 ≤ x1) := False.elim (no1 (lin [x1, x0] 0 (.c 1 (.v 0) (.n 0) (.c 1 (.a (.n 0) (.n 1)) (.v 0) .e)) (.n 1) (.n 0) rfl h0 h1))
theorem w220 {x0 : Nat} {x1 : Nat} {x2 : Nat} {x3 : Nat} (h0 : (x0 ≤ x2)) (h1 : (x1 ≤ x3)) : ((((1 : Nat) + x0) + x1) ≤ (((1 : Nat) + x2) + x3)) := lin [x0, x2, x1, x3] 0 (.c 1 (.v 0) (.v 1) (.c 1 (.v 2) (.v 3) .e)) (.a (.a (.n 1) (.v 0)) (.v 2)) (.a (.a (.n 1) (.v 1)) (.v 3)) rfl h0 h1
theorem w221 {x0 : Nat} {x1 : Nat} (h0 : ((x0 + ((20 : Nat) * x1)) < (9000 : Nat))) : ((x0 + (1 : Nat)) < (9900 : Nat)) := lin [x0, x1] 0 (.c 1 (.a (.a (.v 0) (.m 20 (.v 1))) (.n 1)) (.n 9000) .e) (.a (.a (.v 0) (.n 1)) (.n 1)) (.n 9900) rfl h0
theorem w222 {x0 : Int} {x1 : Int} {x2 : Int} : ((x0 + (x1 + x2)) = ((x0 + x1) + x2)) := Int.le_antisymm (liz [x0, x1, x2] 0 .e (.a (.v 0) (.a (.v 1) (.v 2))) (.a (.a (.v 0) (.v 1)) (.v 2)) rfl ) (liz [x0, x1, x2] 0 .e (.a (.a (.v 0) (.v 1)) (.v 2)) (.a (.v 0) (.a (.v 1) (.v 2))) rfl )
theorem w223 {x0 : Int} : (((0 : Int) + ((0 : Int) + ((0 : Int) + (x0 + (0 : Int))))) = x0) := Int.le_antisymm (liz [x0] 0 .e (.a (.n 0) (.a (.n 0) (.a (.n 0) (.a (.v 0) (.n 0))))) (.v 0) rfl ) (liz [x0] 0 .e (.v 0) (.a (.n 0) (.a (.n 0) (.a (.n 0) (.a (.v 0) (.n 0))))) rfl )
theorem w224 {x0 : Int} : (((0 : Int) + (x0 + (0 : Int))) = x0) := Int.le_antisymm (liz [x0] 0 .e (.a (.n 0) (.a (.v 0) (.n 0))) (.v 0) rfl ) (liz [x0] 0 .e (.v 0) (.a (.n 0) (.a (.v 0) (.n 0))) rfl )
theorem w225 {x0 : Nat} {x1 : Nat} (h0 : (x1 = (13 : Nat))) (h1 : (x0 ≤ ((2 : Nat) * x1))) : (x0 ≤ (894 : Nat)) := lin [x1, x0] 0 (.c 2 (.v 0) (.n 13) (.c 1 (.v 1) (.m 2 (.v 0)) .e)) (.v 1) (.n 894) rfl (Nat.le_of_eq h0) h1
theorem w226 {x0 : Nat} {x1 : Nat} (h0 : (x1 = (13 : Nat))) (h1 : (x0 ≤ ((2 : Nat) * x1))) : (x0 ≤ (896 : Nat)) := lin [x1, x0] 0 (.c 2 (.v 0) (.n 13) (.c 1 (.v 1) (.m 2 (.v 0)) .e)) (.v 1) (.n 896) rfl (Nat.le_of_eq h0) h1
theorem w227 {x0 : Nat} (h0 : ((20 : Nat) ≤ x0)) : (x0 = ((x0 - (3 : Nat)) + (3 : Nat))) := Nat.le_antisymm (lin [x0, (x0 - 3)] 0 (.c 1 (.v 0) (.a (.v 1) (.n 3)) .e) (.v 0) (.a (.v 1) (.n 3)) rfl (le_sub_add x0 3)) (lin [x0, (x0 - 3)] 0 (.c 1 (.a (.v 1) (.n 3)) (.v 0) .e) (.a (.v 1) (.n 3)) (.v 0) rfl (sub_add_le (lin [x0, (x0 - 3)] 0 (.c 1 (.n 20) (.v 0) .e) (.n 3) (.v 0) rfl h0)))
theorem w228 {x0 : Nat} (h0 : (x0 = (13 : Nat))) : (x0 ≤ (50 : Nat)) := lin [x0] 0 (.c 1 (.v 0) (.n 13) .e) (.v 0) (.n 50) rfl (Nat.le_of_eq h0)
theorem w229 {x0 : Nat} (h0 : (x0 ≤ (1957 : Nat))) : (x0 ≤ (16384 : Nat)) := lin [x0] 0 (.c 1 (.v 0) (.n 1957) .e) (.v 0) (.n 16384) rfl h0
theorem w230 {x0 : Nat} (h0 : (x0 = (0 : Nat))) : (x0 = (0 : Nat)) := Nat.le_antisymm (lin [x0] 0 (.c 1 (.v 0) (.n 0) .e) (.v 0) (.n 0) rfl (Nat.le_of_eq h0)) (lin [x0] 0 .e (.n 0) (.v 0) rfl )
theorem w231 {x0 : Nat} (h0 : (x0 ≤ (1957 : Nat))) : (x0 ≤ (2000 : Nat)) := lin [x0] 0 (.c 1 (.v 0) (.n 1957) .e) (.v 0) (.n 2000) rfl h0
theorem w233 {x0 : Int} {x1 : Int} : (((1 : Int) + (x0 + x1)) = (((1 : Int) + x0) + x1)) := Int.le_antisymm (liz [x0, x1] 0 .e (.a (.n 1) (.a (.v 0) (.v 1))) (.a (.a (.n 1) (.v 0)) (.v 1)) rfl ) (liz [x0, x1] 0 .e (.a (.a (.n 1) (.v 0)) (.v 1)) (.a (.n 1) (.a (.v 0) (.v 1))) rfl )
theorem w234  : ((190 : Nat) ≤ (200 : Nat)) := lin [] 0 .e (.n 190) (.n 200) rfl 
theorem w235 {x0 : Int} {x1 : Int} (h0 : ((0 : Int) ≤ x1)) (h1 : ((0 : Int) ≤ x0)) : ((0 : Int) ≤ (x0 + x1)) := liz [x1, x0] 0 (.c 1 (.n 0) (.v 0) (.c 1 (.n 0) (.v 1) .e)) (.n 0) (.a (.v 1) (.v 0)) rfl h0 h1
theorem w236 {x0 : Nat} {x1 : Nat} : ((x0 + (x1 * (1 : Nat))) = (x1 + x0)) := Nat.le_antisymm (lin [x0, x1] 0 .e (.a (.v 0) (.r (.v 1) 1)) (.a (.v 1) (.v 0)) rfl ) (lin [x0, x1] 0 .e (.a (.v 1) (.v 0)) (.a (.v 0) (.r (.v 1) 1)) rfl )
theorem w237 {x0 : Int} {x1 : Int} {x2 : Int} {x3 : Int} (h0 : (x0 < x2)) (h1 : (x1 ≤ x3)) : ((x0 + x1) < (x2 + x3)) := liz [x0, x2, x1, x3] 0 (.c 1 (.a (.v 0) (.n 1)) (.v 1) (.c 1 (.v 2) (.v 3) .e)) (.a (.a (.v 0) (.v 2)) (.n 1)) (.a (.v 1) (.v 3)) rfl h0 h1
theorem w238 {x0 : Nat} {x1 : Nat} {x2 : Nat} (h0 : (x1 ≤ x2)) (h1 : (x2 ≤ x0)) : ((x0 - x1) = ((x2 - x1) + (x0 - x2))) := Nat.le_antisymm (lin [x1, x2, x0, (x0 - x1), (x2 - x1), (x0 - x2)] 0 (.c 1 (.a (.v 3) (.v 0)) (.v 2) (.c 1 (.v 1) (.a (.v 4) (.v 0)) (.c 1 (.v 2) (.a (.v 5) (.v 1)) .e))) (.v 3) (.a (.v 4) (.v 5)) rfl (sub_add_le (lin [x1, x2, x0, (x0 - x1), (x2 - x1), (x0 - x2)] 0 (.c 1 (.v 0) (.v 1) (.c 1 (.v 1) (.v 2) .e)) (.v 0) (.v 2) rfl h0 h1)) (le_sub_add x2 x1) (le_sub_add x0 x2)) (lin [x1, x2, x0, (x0 - x1), (x2 - x1), (x0 - x2)] 0 (.c 1 (.v 2) (.a (.v 3) (.v 0)) (.c 1 (.a (.v 4) (.v 0)) (.v 1) (.c 1 (.a (.v 5) (.v 1)) (.v 2) .e))) (.a (.v 4) (.v 5)) (.v 3) rfl (le_sub_add x0 x1) (sub_add_le (lin [x1, x2, x0, (x0 - x1), (x2 - x1), (x0 - x2)] 0 (.c 1 (.v 0) (.v 1) .e) (.v 0) (.v 1) rfl h0)) (sub_add_le (lin [x1, x2, x0, (x0 - x1), (x2 - x1), (x0 - x2)] 0 (.c 1 (.v 1) (.v 2) .e) (.v 1) (.v 2) rfl h1)))
theorem w239 {x0 : Nat} {x1 : Nat} (h0 : (x0 ≤ x1)) : ((x0 + (x1 - x0)) = x1) := Nat.le_antisymm (lin [x0, x1, (x1 - x0)] 0 (.c 1 (.a (.v 2) (.v 0)) (.v 1) .e) (.a (.v 0) (.v 2)) (.v 1) rfl (sub_add_le (lin [x0, x1, (x1 - x0)] 0 (.c 1 (.v 0) (.v 1) .e) (.v 0) (.v 1) rfl h0))) (lin [x0, x1, (x1 - x0)] 0 (.c 1 (.v 1) (.a (.v 2) (.v 0)) .e) (.v 1) (.a (.v 0) (.v 2)) rfl (le_sub_add x1 x0))
theorem w240 {x0 : Nat} {x1 : Nat} {x2 : Nat} (h0 : (x0 ≤ x2)) : ((min (x0 - x1) (x2 - x1)) = (x0 - x1)) := (Nat.le_total x0 x1).elim (fun q0 => Nat.le_antisymm (lin [x0, x2, x1, (x0 - x1), (x2 - x1), (min (x0 - x1) (x2 - x1))] 0 (.c 1 (.v 5) (.v 3) .e) (.v 5) (.v 3) rfl (Nat.min_le_left (x0 - x1) (x2 - x1))) (lin [x0, x2, x1, (x0 - x1), (x2 - x1), (min (x0 - x1) (x2 - x1))] 0 (.c 1 (.v 3) (.n 0) .e) (.v 3) (.v 5) rfl (sub_le0 (lin [x0, x2, x1, (x0 - x1), (x2 - x1), (min (x0 - x1) (x2 - x1))] 0 (.c 1 (.v 0) (.v 2) .e) (.v 0) (.v 2) rfl q0)))) (fun q0 => Nat.le_antisymm (lin [x0, x2, x1, (x0 - x1), (x2 - x1), (min (x0 - x1) (x2 - x1))] 0 (.c 1 (.v 5) (.v 3) .e) (.v 5) (.v 3) rfl (Nat.min_le_left (x0 - x1) (x2 - x1))) (lin [x0, x2, x1, (x0 - x1), (x2 - x1), (min (x0 - x1) (x2 - x1))] 0 (.c 1 (.v 3) (.v 5) .e) (.v 3) (.v 5) rfl (le_min1 (lin [x0, x2, x1, (x0 - x1), (x2 - x1), (min (x0 - x1) (x2 - x1))] 0 (.c 1 (.v 0) (.v 1) (.c 1 (.a (.v 3) (.v 2)) (.v 0) (.c 1 (.v 1) (.a (.v 4) (.v 2)) .e))) (.v 3) (.v 4) rfl h0 (sub_add_le (lin [x0, x2, x1, (x0 - x1), (x2 - x1), (min (x0 - x1) (x2 - x1))] 0 (.c 1 (.v 2) (.v 0) .e) (.v 2) (.v 0) rfl q0)) (le_sub_add x2 x1)))))
theorem w242 {x0 : Nat} {x1 : Nat} (h0 : ((x0 + (1 : Nat)) = x1)) : ((((x0 : Nat) : Int) + (1 : Int)) = ((x1 : Nat) : Int)) := zeq (x0 + 1) x1 (Nat.le_antisymm (lin [x0, x1] 0 (.c 1 (.a (.v 0) (.n 1)) (.v 1) .e) (.a (.v 0) (.n 1)) (.v 1) rfl (Nat.le_of_eq h0)) (lin [x0, x1] 0 (.c 1 (.v 1) (.a (.v 0) (.n 1)) .e) (.v 1) (.a (.v 0) (.n 1)) rfl (eqs h0)))
theorem w243 {x0 : Nat} {x1 : Nat} (h0 : ((x0 + (1 : Nat)) ≤ x1)) : (x0 < x1) := lin [x0, x1] 0 (.c 1 (.a (.v 0) (.n 1)) (.v 1) .e) (.a (.v 0) (.n 1)) (.v 1) rfl h0
theorem w244 {x0 : Nat} {x1 : Nat} (h0 : (x1 ≤ (1000 : Nat))) (h1 : (x0 = x1)) : (x0 ≤ (16384 : Nat)) := lin [x1, x0] 0 (.c 1 (.v 0) (.n 1000) (.c 1 (.v 1) (.v 0) .e)) (.v 1) (.n 16384) rfl h0 (Nat.le_of_eq h1)
theorem w245 {x0 : Nat} {x1 : Nat} (h0 : (¬ ((x0 + (1 : Nat)) = x1))) : (¬ ((((x0 : Nat) : Int) + (1 : Int)) = ((x1 : Nat) : Int))) := (Nat.lt_or_gt_of_ne h0).elim (fun q0 => fun q => no1 (lin [x0, x1] 0 (.c 1 (.a (.a (.v 0) (.n 1)) (.n 1)) (.v 1) (.c 1 (.v 1) (.a (.v 0) (.n 1)) .e)) (.n 1) (.n 0) rfl q0 (eqs (zeq' (x0 + 1) x1 q)))) (fun q0 => fun q => no1 (lin [x0, x1] 0 (.c 1 (.a (.v 1) (.n 1)) (.a (.v 0) (.n 1)) (.c 1 (.a (.v 0) (.n 1)) (.v 1) .e)) (.n 1) (.n 0) rfl q0 (Nat.le_of_eq (zeq' (x0 + 1) x1 q))))
theorem w246 {x0 : Nat} {x1 : Nat} {x2 : Nat} (h0 : (x0 < x2)) (h1 : (¬ ((x0 + (1 : Nat)) = x2))) (h2 : (((x0 + x2) / (2 : Nat)) = x1)) : (x0 < x1) := (Nat.lt_or_gt_of_ne h1).elim (fun q0 => lin [x0, x2, ((x0 + x2) / 2), x1] 1 (.c 2 (.v 2) (.v 3) (.c 1 (.a (.a (.v 0) (.n 1)) (.n 1)) (.v 1) (.c 1 (.a (.a (.v 0) (.v 1)) (.n 1)) (.a (.m 2 (.v 2)) (.n 2)) .e))) (.a (.v 0) (.n 1)) (.v 3) rfl (Nat.le_of_eq h2) q0 (dlt 2 (x0 + x2))) (fun q0 => lin [x0, x2, ((x0 + x2) / 2), x1] 1 (.c 2 (.a (.v 0) (.n 1)) (.v 1) (.c 2 (.v 2) (.v 3) (.c 1 (.a (.v 1) (.n 1)) (.a (.v 0) (.n 1)) (.c 1 (.a (.a (.v 0) (.v 1)) (.n 1)) (.a (.m 2 (.v 2)) (.n 2)) .e)))) (.a (.v 0) (.n 1)) (.v 3) rfl h0 (Nat.le_of_eq h2) q0 (dlt 2 (x0 + x2)))
theorem w247 {x0 : Nat} {x1 : Nat} {x2 : Nat} (h0 : (x2 < x1)) (h1 : (((x2 + x1) / (2 : Nat)) = x0)) : (x0 < x1) := lin [x2, x1, ((x2 + x1) / 2), x0] 1 (.c 1 (.a (.v 0) (.n 1)) (.v 1) (.c 2 (.v 3) (.v 2) (.c 1 (.m 2 (.v 2)) (.a (.v 0) (.v 1)) .e))) (.a (.v 3) (.n 1)) (.v 1) rfl h0 (eqs h1) (dle 2 (x2 + x1))
theorem w248 {x0 : Nat} {x1 : Nat} (h0 : (x1 < x0)) : ((0 : Int) ≤ (((x0 : Nat) : Int) - ((x1 : Nat) : Int))) := liz [((x1 : Nat) : Int), ((x0 : Nat) : Int)] 0 (.c 1 (.a (.v 0) (.n 1)) (.v 1) .e) (.n 0) (.s (.v 1) (.v 0)) rfl (zle (x1 + 1) x0 h0)
theorem w249 {x0 : Nat} {x1 : Nat} {x2 : Nat} {x3 : Nat} (h0 : (x2 ≤ (1000 : Nat))) (h1 : (x3 ≤ x2)) (h2 : (((x1 + x3) / (2 : Nat)) = x0)) : ((((x0 : Nat) : Int) - ((x1 : Nat) : Int)) < ((2 : Int) ^ 64)) := liz [((x2 : Nat) : Int), ((x3 : Nat) : Int), ((((x1 + x3) / 2) : Nat) : Int), ((x0 : Nat) : Int), ((x1 : Nat) : Int)] 0 (.c 1 (.v 0) (.n 1000) (.c 1 (.v 1) (.v 0) (.c 1 (.v 3) (.v 2) (.c 1 (.m 2 (.v 2)) (.a (.v 4) (.v 1)) (.c 1 (.n 0) (.v 2) .e))))) (.a (.s (.v 3) (.v 4)) (.n 1)) (.n 18446744073709551616) rfl (zle x2 1000 h0) (zle x3 x2 h1) (zle x0 ((x1 + x3) / 2) (eqs h2)) (zle (2 * ((x1 + x3) / 2)) (x1 + x3) (dle 2 (x1 + x3))) (nn ((x1 + x3) / 2))
theorem w250 {x0 : Nat} {x1 : Nat} (h0 : (x1 < x0)) : ((((x0 : Nat) : Int) - ((x1 : Nat) : Int)) = (((x0 - x1) : Nat) : Int)) := Int.le_antisymm (liz [((x1 : Nat) : Int), ((x0 : Nat) : Int), (((x0 - x1) : Nat) : Int)] 0 (.c 1 (.v 1) (.a (.v 2) (.v 0)) .e) (.s (.v 1) (.v 0)) (.v 2) rfl (zle x0 ((x0 - x1) + x1) (le_sub_add x0 x1))) (liz [((x1 : Nat) : Int), ((x0 : Nat) : Int), (((x0 - x1) : Nat) : Int)] 0 (.c 1 (.a (.v 2) (.v 0)) (.v 1) .e) (.v 2) (.s (.v 1) (.v 0)) rfl (zle ((x0 - x1) + x1) x0 (sub_add_le (lin [x1, x0] 0 (.c 1 (.a (.v 0) (.n 1)) (.v 1) .e) (.v 0) (.v 1) rfl h0))))
theorem w252 {x0 : Nat} {x1 : Nat} {x2 : Nat} (h0 : (x0 ≤ x2)) : (((x0 - x1) + (1 : Nat)) ≤ (x2 + (2 : Nat))) := lin [x0, x2, x1, (x0 - x1)] 0 (.c 1 (.v 0) (.v 1) (.c 1 (.v 3) (.v 0) .e)) (.a (.v 3) (.n 1)) (.a (.v 1) (.n 2)) rfl h0 (Nat.sub_le x0 x1)
theorem w253 {x0 : Nat} {x1 : Nat} {x2 : Nat} {x3 : Nat} (h0 : (x3 ≤ x2)) (h1 : (((x1 + x3) / (2 : Nat)) = x0)) : ((x0 - x1) ≤ x2) := (Nat.le_total x0 x1).elim (fun q0 => lin [x3, x2, ((x1 + x3) / 2), x0, x1, (x0 - x1)] 0 (.c 1 (.v 5) (.n 0) .e) (.v 5) (.v 1) rfl (sub_le0 (lin [x3, x2, ((x1 + x3) / 2), x0, x1, (x0 - x1)] 0 (.c 1 (.v 3) (.v 4) .e) (.v 3) (.v 4) rfl q0))) (fun q0 => lin [x3, x2, ((x1 + x3) / 2), x0, x1, (x0 - x1)] 0 (.c 1 (.v 0) (.v 1) (.c 1 (.v 3) (.v 2) (.c 1 (.m 2 (.v 2)) (.a (.v 4) (.v 0)) (.c 1 (.a (.v 5) (.v 4)) (.v 3) .e)))) (.v 5) (.v 1) rfl h0 (eqs h1) (dle 2 (x1 + x3)) (sub_add_le (lin [x3, x2, ((x1 + x3) / 2), x0, x1, (x0 - x1)] 0 (.c 1 (.v 4) (.v 3) .e) (.v 4) (.v 3) rfl q0)))
theorem w254 {x0 : Nat} {x1 : Nat} {x2 : Nat} {x3 : Nat} {x4 : Nat} {x5 : Nat} (h0 : (x2 ≤ (100000 : Nat))) (h1 : (x0 ≤ x3)) (h2 : (x3 ≤ x2)) (h3 : (x1 ≤ x4)) (h4 : (x2 = (x4 + ((2 : Nat) * x5)))) : ((x0 + x1) ≤ (200000 : Nat)) := lin [x2, x0, x3, x1, x4, x5] 0 (.c 2 (.v 0) (.n 100000) (.c 1 (.v 1) (.v 2) (.c 1 (.v 2) (.v 0) (.c 1 (.v 3) (.v 4) (.c 1 (.a (.v 4) (.m 2 (.v 5))) (.v 0) .e))))) (.a (.v 1) (.v 3)) (.n 200000) rfl h0 h1 h2 h3 (eqs h4)
theorem w255 {x0 : Nat} {x1 : Nat} (h0 : ((x0 + x1) ≤ (200000 : Nat))) : ((((x0 : Nat) : Int) + ((x1 : Nat) : Int)) ≤ (134217728 : Int)) := zle (x0 + x1) 134217728 (lin [x0, x1] 0 (.c 1 (.a (.v 0) (.v 1)) (.n 200000) .e) (.a (.v 0) (.v 1)) (.n 134217728) rfl h0)
theorem w256 {x0 : Nat} {x1 : Nat} {x2 : Nat} {x3 : Nat} (h0 : ((x3 - x1) ≤ (x2 + (1 : Nat)))) (h1 : (((x1 + x3) / (2 : Nat)) = x0)) : ((x0 - x1) ≤ x2) := (Nat.le_total x3 x1).elim (fun q0 => lin [(x3 - x1), x2, ((x1 + x3) / 2), x0, x1, x3, (x0 - x1)] 0 (.c 1 (.v 6) (.n 0) .e) (.v 6) (.v 1) rfl (sub_le0 (lin [(x3 - x1), x2, ((x1 + x3) / 2), x0, x1, x3, (x0 - x1)] 1 (.c 2 (.v 3) (.v 2) (.c 1 (.v 5) (.v 4) (.c 1 (.m 2 (.v 2)) (.a (.v 4) (.v 5)) .e))) (.v 3) (.v 4) rfl (eqs h1) q0 (dle 2 (x1 + x3))))) (fun q0 => lin [(x3 - x1), x2, ((x1 + x3) / 2), x0, x1, x3, (x0 - x1)] 1 (.c 1 (.v 0) (.a (.v 1) (.n 1)) (.c 2 (.v 3) (.v 2) (.c 1 (.v 5) (.a (.v 0) (.v 4)) (.c 1 (.m 2 (.v 2)) (.a (.v 4) (.v 5)) (.c 2 (.a (.v 6) (.v 4)) (.v 3) .e))))) (.v 6) (.v 1) rfl h0 (eqs h1) (le_sub_add x3 x1) (dle 2 (x1 + x3)) (sub_add_le (lin [(x3 - x1), x2, ((x1 + x3) / 2), x0, x1, x3, (x0 - x1)] 1 (.c 2 (.v 2) (.v 3) (.c 1 (.v 4) (.v 5) (.c 1 (.a (.a (.v 4) (.v 5)) (.n 1)) (.a (.m 2 (.v 2)) (.n 2)) .e))) (.v 4) (.v 3) rfl (Nat.le_of_eq h1) q0 (dlt 2 (x1 + x3)))))
theorem w257 {x0 : Nat} {x1 : Nat} {x2 : Nat} (h0 : (x2 ≤ x1)) (h1 : (x0 < x2)) : (x0 ≤ x1) := lin [x2, x1, x0] 0 (.c 1 (.v 0) (.v 1) (.c 1 (.a (.v 2) (.n 1)) (.v 0) .e)) (.v 2) (.v 1) rfl h0 h1
theorem w258 {x0 : Nat} {x1 : Nat} (h0 : ((x1 + (1 : Nat)) = x0)) : ((0 : Nat) < x0) := lin [x1, x0] 0 (.c 1 (.a (.v 0) (.n 1)) (.v 1) .e) (.a (.n 0) (.n 1)) (.v 1) rfl (Nat.le_of_eq h0)
theorem w259 {x0 : Nat} : ((x0 - (0 : Nat)) ≤ x0) := lin [x0, (x0 - 0)] 0 (.c 1 (.a (.v 1) (.n 0)) (.v 0) .e) (.v 1) (.v 0) rfl (sub_add_le (lin [x0, (x0 - 0)] 0 .e (.n 0) (.v 0) rfl ))
theorem w260 {x0 : Nat} {x1 : Nat} (h0 : ((x0 + (1 : Nat)) ≤ x1)) : ((x0 + (1 : Nat)) ≤ x1) := lin [x0, x1] 0 (.c 1 (.a (.v 0) (.n 1)) (.v 1) .e) (.a (.v 0) (.n 1)) (.v 1) rfl h0
theorem w261 {x0 : Int} (h0 : ((0 : Int) ≤ x0)) (h1 : (x0 ≤ (16384 : Int))) : (((-(9223372036854775808 : Int)) ≤ x0) ∧ (x0 < (9223372036854775808 : Int))) := ⟨liz [x0] 0 (.c 1 (.n 0) (.v 0) .e) (.n (-9223372036854775808)) (.v 0) rfl h0, liz [x0] 0 (.c 1 (.v 0) (.n 16384) .e) (.a (.v 0) (.n 1)) (.n 9223372036854775808) rfl h1⟩
theorem w263 {x0 : Nat} {x1 : Nat} {x2 : Nat} {x3 : Nat} (h0 : ((x3 + x2) = x0)) (h1 : (x3 = x1)) : (((((x0 : Nat) : Int) + ((x1 : Nat) : Int)) - ((2 : Int) * ((x1 : Nat) : Int))) = ((x2 : Nat) : Int)) := Int.le_antisymm (liz [((x3 : Nat) : Int), ((x2 : Nat) : Int), ((x0 : Nat) : Int), ((x1 : Nat) : Int)] 0 (.c 1 (.v 2) (.a (.v 0) (.v 1)) (.c 1 (.v 0) (.v 3) .e)) (.s (.a (.v 2) (.v 3)) (.m 2 (.v 3))) (.v 1) rfl (zle x0 (x3 + x2) (eqs h0)) (zle x3 x1 (Nat.le_of_eq h1))) (liz [((x3 : Nat) : Int), ((x2 : Nat) : Int), ((x0 : Nat) : Int), ((x1 : Nat) : Int)] 0 (.c 1 (.a (.v 0) (.v 1)) (.v 2) (.c 1 (.v 3) (.v 0) .e)) (.v 1) (.s (.a (.v 2) (.v 3)) (.m 2 (.v 3))) rfl (zle (x3 + x2) x0 (Nat.le_of_eq h0)) (zle x1 x3 (eqs h1)))
theorem w265 {x0 : Nat} {x1 : Nat} {x2 : Nat} (h0 : (((x2 + x1) / (2 : Nat)) = x0)) (h1 : (x2 < x0)) : (x0 < x1) := lin [((x2 + x1) / 2), x0, x2, x1] 0 (.c 2 (.v 1) (.v 0) (.c 1 (.a (.v 2) (.n 1)) (.v 1) (.c 1 (.m 2 (.v 0)) (.a (.v 2) (.v 3)) .e))) (.a (.v 1) (.n 1)) (.v 3) rfl (eqs h0) h1 (dle 2 (x2 + x1))
theorem w266 {x0 : Nat} {x1 : Nat} {x2 : Nat} {x3 : Nat} (h0 : (x2 ≤ x3)) (h1 : (x3 ≤ (100 : Nat))) (h2 : (((x1 + x2) / (2 : Nat)) = x0)) : ((((x0 : Nat) : Int) - ((x1 : Nat) : Int)) < ((2 : Int) ^ 64)) := liz [((x2 : Nat) : Int), ((x3 : Nat) : Int), ((((x1 + x2) / 2) : Nat) : Int), ((x0 : Nat) : Int), ((x1 : Nat) : Int)] 0 (.c 1 (.v 0) (.v 1) (.c 1 (.v 1) (.n 100) (.c 1 (.v 3) (.v 2) (.c 1 (.m 2 (.v 2)) (.a (.v 4) (.v 0)) (.c 1 (.n 0) (.v 2) .e))))) (.a (.s (.v 3) (.v 4)) (.n 1)) (.n 18446744073709551616) rfl (zle x2 x3 h0) (zle x3 100 h1) (zle x0 ((x1 + x2) / 2) (eqs h2)) (zle (2 * ((x1 + x2) / 2)) (x1 + x2) (dle 2 (x1 + x2))) (nn ((x1 + x2) / 2))
theorem w267 {x0 : Nat} {x1 : Nat} {x2 : Nat} (h0 : (x0 ≤ x2)) (h1 : (x2 ≤ (100 : Nat))) : ((x0 - x1) ≤ (100 : Nat)) := lin [x0, x2, x1, (x0 - x1)] 0 (.c 1 (.v 0) (.v 1) (.c 1 (.v 1) (.n 100) (.c 1 (.v 3) (.v 0) .e))) (.v 3) (.n 100) rfl h0 h1 (Nat.sub_le x0 x1)
theorem w268 {x0 : Nat} {x1 : Nat} {x2 : Nat} {x3 : Nat} (h0 : (x2 ≤ x3)) (h1 : (x3 ≤ (100 : Nat))) (h2 : (((x1 + x2) / (2 : Nat)) = x0)) : ((x0 - x1) ≤ (100 : Nat)) := (Nat.le_total x0 x1).elim (fun q0 => lin [x2, x3, ((x1 + x2) / 2), x0, x1, (x0 - x1)] 0 (.c 1 (.v 5) (.n 0) .e) (.v 5) (.n 100) rfl (sub_le0 (lin [x2, x3, ((x1 + x2) / 2), x0, x1, (x0 - x1)] 0 (.c 1 (.v 3) (.v 4) .e) (.v 3) (.v 4) rfl q0))) (fun q0 => lin [x2, x3, ((x1 + x2) / 2), x0, x1, (x0 - x1)] 0 (.c 1 (.v 0) (.v 1) (.c 1 (.v 1) (.n 100) (.c 1 (.v 3) (.v 2) (.c 1 (.m 2 (.v 2)) (.a (.v 4) (.v 0)) (.c 1 (.a (.v 5) (.v 4)) (.v 3) .e))))) (.v 5) (.n 100) rfl h0 h1 (eqs h2) (dle 2 (x1 + x2)) (sub_add_le (lin [x2, x3, ((x1 + x2) / 2), x0, x1, (x0 - x1)] 0 (.c 1 (.v 4) (.v 3) .e) (.v 4) (.v 3) rfl q0)))
theorem w269 {x0 : Nat} {x1 : Nat} {x2 : Nat} (h0 : (x1 ≤ ((100 : Nat) * (1000 : Nat)))) (h1 : (x2 ≤ ((1000 : Nat) * (100 : Nat)))) (h2 : (x0 ≤ x2)) : ((((x0 : Nat) : Int) + ((x1 : Nat) : Int)) ≤ (134217728 : Int)) := zle (x0 + x1) 134217728 (lin [x1, x2, x0] 0 (.c 1 (.v 0) (.m 100 (.n 1000)) (.c 1 (.v 1) (.m 1000 (.n 100)) (.c 1 (.v 2) (.v 1) .e))) (.a (.v 2) (.v 0)) (.n 134217728) rfl h0 h1 h2)
theorem w270 {x0 : Nat} {x1 : Nat} {x2 : Nat} {x3 : Nat} {x4 : Nat} (h0 : (x4 ≤ x1)) (h1 : (x0 < x3)) (h2 : (x3 < x4)) (h3 : (x2 = (x3 - x0))) : (((min x0 x1) + (x2 + (x1 - x3))) = x1) := Nat.le_antisymm (lin [x4, x1, x0, x3, x2, (x3 - x0), (min x0 x1), (x1 - x3)] 0 (.c 1 (.v 4) (.v 5) (.c 1 (.a (.v 5) (.v 2)) (.v 3) (.c 1 (.v 6) (.v 2) (.c 1 (.a (.v 7) (.v 3)) (.v 1) .e)))) (.a (.v 6) (.a (.v 4) (.v 7))) (.v 1) rfl (Nat.le_of_eq h3) (sub_add_le (lin [x4, x1, x0, x3, x2, (x3 - x0), (min x0 x1), (x1 - x3)] 0 (.c 1 (.a (.v 2) (.n 1)) (.v 3) .e) (.v 2) (.v 3) rfl h1)) (Nat.min_le_left x0 x1) (sub_add_le (lin [x4, x1, x0, x3, x2, (x3 - x0), (min x0 x1), (x1 - x3)] 0 (.c 1 (.v 0) (.v 1) (.c 1 (.a (.v 3) (.n 1)) (.v 0) .e)) (.v 3) (.v 1) rfl h0 h2))) (lin [x4, x1, x0, x3, x2, (x3 - x0), (min x0 x1), (x1 - x3)] 0 (.c 1 (.v 5) (.v 4) (.c 1 (.v 3) (.a (.v 5) (.v 2)) (.c 1 (.v 2) (.v 6) (.c 1 (.v 1) (.a (.v 7) (.v 3)) .e)))) (.v 1) (.a (.v 6) (.a (.v 4) (.v 7))) rfl (eqs h3) (le_sub_add x3 x0) (le_min1 (lin [x4, x1, x0, x3, x2, (x3 - x0), (min x0 x1), (x1 - x3)] 0 (.c 1 (.v 0) (.v 1) (.c 1 (.a (.v 2) (.n 1)) (.v 3) (.c 1 (.a (.v 3) (.n 1)) (.v 0) .e))) (.v 2) (.v 1) rfl h0 h1 h2)) (le_sub_add x1 x3))
theorem w271 {x0 : Nat} {x1 : Nat} {x2 : Nat} (h0 : (x0 ≤ x2)) (h1 : (x1 = x2)) : (x0 ≤ x1) := lin [x0, x2, x1] 0 (.c 1 (.v 0) (.v 1) (.c 1 (.v 1) (.v 2) .e)) (.v 0) (.v 2) rfl h0 (eqs h1)
theorem w272 {x0 : Nat} {x1 : Nat} (h0 : (x1 ≤ (100 : Nat))) (h1 : (x0 = x1)) : (x0 ≤ (100 : Nat)) := lin [x1, x0] 0 (.c 1 (.v 0) (.n 100) (.c 1 (.v 1) (.v 0) .e)) (.v 1) (.n 100) rfl h0 (Nat.le_of_eq h1)
theorem w273 {x0 : Nat} {x1 : Nat} {x2 : Nat} (h0 : (x1 < x0)) (h1 : (x0 < x2)) : (((x0 - x1) + (x2 - x0)) = (x2 - x1)) := Nat.le_antisymm (lin [x1, x0, x2, (x0 - x1), (x2 - x0), (x2 - x1)] 0 (.c 1 (.a (.v 3) (.v 0)) (.v 1) (.c 1 (.a (.v 4) (.v 1)) (.v 2) (.c 1 (.v 2) (.a (.v 5) (.v 0)) .e))) (.a (.v 3) (.v 4)) (.v 5) rfl (sub_add_le (lin [x1, x0, x2, (x0 - x1), (x2 - x0), (x2 - x1)] 0 (.c 1 (.a (.v 0) (.n 1)) (.v 1) .e) (.v 0) (.v 1) rfl h0)) (sub_add_le (lin [x1, x0, x2, (x0 - x1), (x2 - x0), (x2 - x1)] 0 (.c 1 (.a (.v 1) (.n 1)) (.v 2) .e) (.v 1) (.v 2) rfl h1)) (le_sub_add x2 x1)) (lin [x1, x0, x2, (x0 - x1), (x2 - x0), (x2 - x1)] 0 (.c 1 (.v 1) (.a (.v 3) (.v 0)) (.c 1 (.v 2) (.a (.v 4) (.v 1)) (.c 1 (.a (.v 5) (.v 0)) (.v 2) .e))) (.v 5) (.a (.v 3) (.v 4)) rfl (le_sub_add x0 x1) (le_sub_add x2 x0) (sub_add_le (lin [x1, x0, x2, (x0 - x1), (x2 - x0), (x2 - x1)] 0 (.c 1 (.a (.v 0) (.n 1)) (.v 1) (.c 1 (.a (.v 1) (.n 1)) (.v 2) .e)) (.v 0) (.v 2) rfl h0 h1)))
theorem w274 {x0 : Nat} {x1 : Nat} {x2 : Nat} (h0 : (x1 < x2)) (h1 : (x2 < x0)) : ((x0 - x1) = ((x2 - x1) + (x0 - x2))) := Nat.le_antisymm (lin [x1, x2, x0, (x0 - x1), (x2 - x1), (x0 - x2)] 0 (.c 1 (.a (.v 3) (.v 0)) (.v 2) (.c 1 (.v 1) (.a (.v 4) (.v 0)) (.c 1 (.v 2) (.a (.v 5) (.v 1)) .e))) (.v 3) (.a (.v 4) (.v 5)) rfl (sub_add_le (lin [x1, x2, x0, (x0 - x1), (x2 - x1), (x0 - x2)] 0 (.c 1 (.a (.v 0) (.n 1)) (.v 1) (.c 1 (.a (.v 1) (.n 1)) (.v 2) .e)) (.v 0) (.v 2) rfl h0 h1)) (le_sub_add x2 x1) (le_sub_add x0 x2)) (lin [x1, x2, x0, (x0 - x1), (x2 - x1), (x0 - x2)] 0 (.c 1 (.v 2) (.a (.v 3) (.v 0)) (.c 1 (.a (.v 4) (.v 0)) (.v 1) (.c 1 (.a (.v 5) (.v 1)) (.v 2) .e))) (.a (.v 4) (.v 5)) (.v 3) rfl (le_sub_add x0 x1) (sub_add_le (lin [x1, x2, x0, (x0 - x1), (x2 - x1), (x0 - x2)] 0 (.c 1 (.a (.v 0) (.n 1)) (.v 1) .e) (.v 0) (.v 1) rfl h0)) (sub_add_le (lin [x1, x2, x0, (x0 - x1), (x2 - x1), (x0 - x2)] 0 (.c 1 (.a (.v 1) (.n 1)) (.v 2) .e) (.v 1) (.v 2) rfl h1)))
theorem w275 {x0 : Nat} {x1 : Nat} {x2 : Nat} {x3 : Nat} {x4 : Nat} (h0 : (x1 < x4)) (h1 : (x4 ≤ x2)) (h2 : (x3 = (x0 - x1))) : (x0 ≤ ((min x1 x2) + x3)) := lin [x1, x4, x2, x3, (x0 - x1), x0, (min x1 x2)] 0 (.c 1 (.v 4) (.v 3) (.c 1 (.v 5) (.a (.v 4) (.v 0)) (.c 1 (.v 0) (.v 6) .e))) (.v 5) (.a (.v 6) (.v 3)) rfl (eqs h2) (le_sub_add x0 x1) (le_min1 (lin [x1, x4, x2, x3, (x0 - x1), x0, (min x1 x2)] 0 (.c 1 (.a (.v 0) (.n 1)) (.v 1) (.c 1 (.v 1) (.v 2) .e)) (.v 0) (.v 2) rfl h0 h1))
theorem w276 {x0 : Nat} {x1 : Nat} {x2 : Nat} {x3 : Nat} (h0 : (x0 < x3)) (h1 : (x2 = (x3 - x0))) : (((min x0 x1) + x2) ≤ x3) := lin [x0, x3, x2, (x3 - x0), (min x0 x1), x1] 0 (.c 1 (.v 2) (.v 3) (.c 1 (.a (.v 3) (.v 0)) (.v 1) (.c 1 (.v 4) (.v 0) .e))) (.a (.v 4) (.v 2)) (.v 1) rfl (Nat.le_of_eq h1) (sub_add_le (lin [x0, x3, x2, (x3 - x0), (min x0 x1), x1] 0 (.c 1 (.a (.v 0) (.n 1)) (.v 1) .e) (.v 0) (.v 1) rfl h0)) (Nat.min_le_left x0 x1)
theorem w277 {x0 : Nat} {x1 : Nat} {x2 : Nat} {x3 : Nat} {x4 : Nat} (h0 : (x0 < x3)) (h1 : (((x0 + x3) / (2 : Nat)) = x4)) (h2 : (x2 = (x4 - x0))) : (((min x0 x1) + x2) ≤ x3) := lin [x0, x3, ((x0 + x3) / 2), x4, x2, (x4 - x0), (min x0 x1), x1] 0 (.c 2 (.v 3) (.v 2) (.c 1 (.v 4) (.v 5) (.c 1 (.m 2 (.v 2)) (.a (.v 0) (.v 1)) (.c 2 (.a (.v 5) (.v 0)) (.v 3) (.c 1 (.v 6) (.v 0) .e))))) (.a (.v 6) (.v 4)) (.v 1) rfl (eqs h1) (Nat.le_of_eq h2) (dle 2 (x0 + x3)) (sub_add_le (lin [x0, x3, ((x0 + x3) / 2), x4, x2, (x4 - x0), (min x0 x1), x1] 1 (.c 1 (.a (.v 0) (.n 1)) (.v 1) (.c 2 (.v 2) (.v 3) (.c 1 (.a (.a (.v 0) (.v 1)) (.n 1)) (.a (.m 2 (.v 2)) (.n 2)) .e))) (.v 0) (.v 3) rfl h0 (Nat.le_of_eq h1) (dlt 2 (x0 + x3)))) (Nat.min_le_left x0 x1)
theorem w278 {x0 : Nat} {x1 : Nat} {x2 : Nat} {x3 : Nat} {x4 : Nat} (h0 : (x2 < x1)) (h1 : (x1 ≤ x3)) (h2 : (((x2 + x1) / (2 : Nat)) = x0)) (h3 : (x4 = (x0 - x2))) : ((x0 + (x1 - ((min x2 x3) + x4))) = x1) := Nat.le_antisymm (lin [x2, x1, x3, ((x2 + x1) / 2), x0, x4, (x0 - x2), (min x2 x3), (x1 - ((min x2 x3) + x4))] 0 (.c 1 (.v 6) (.v 5) (.c 1 (.v 4) (.a (.v 6) (.v 0)) (.c 1 (.v 0) (.v 7) (.c 1 (.a (.v 8) (.a (.v 7) (.v 5))) (.v 1) .e)))) (.a (.v 4) (.v 8)) (.v 1) rfl (eqs h3) (le_sub_add x0 x2) (le_min1 (lin [x2, x1, x3, ((x2 + x1) / 2), x0, x4, (x0 - x2), (min x2 x3), (x1 - ((min x2 x3) + x4))] 0 (.c 1 (.a (.v 0) (.n 1)) (.v 1) (.c 1 (.v 1) (.v 2) .e)) (.v 0) (.v 2) rfl h0 h1)) (sub_add_le (lin [x2, x1, x3, ((x2 + x1) / 2), x0, x4, (x0 - x2), (min x2 x3), (x1 - ((min x2 x3) + x4))] 0 (.c 2 (.v 4) (.v 3) (.c 1 (.v 5) (.v 6) (.c 1 (.m 2 (.v 3)) (.a (.v 0) (.v 1)) (.c 2 (.a (.v 6) (.v 0)) (.v 4) (.c 1 (.v 7) (.v 0) .e))))) (.a (.v 7) (.v 5)) (.v 1) rfl (eqs h2) (Nat.le_of_eq h3) (dle 2 (x2 + x1)) (sub_add_le (lin [x2, x1, x3, ((x2 + x1) / 2), x0, x4, (x0 - x2), (min x2 x3), (x1 - ((min x2 x3) + x4))] 1 (.c 1 (.a (.v 0) (.n 1)) (.v 1) (.c 2 (.v 3) (.v 4) (.c 1 (.a (.a (.v 0) (.v 1)) (.n 1)) (.a (.m 2 (.v 3)) (.n 2)) .e))) (.v 0) (.v 4) rfl h0 (Nat.le_of_eq h2) (dlt 2 (x2 + x1)))) (Nat.min_le_left x2 x3)))) (lin [x2, x1, x3, ((x2 + x1) / 2), x0, x4, (x0 - x2), (min x2 x3), (x1 - ((min x2 x3) + x4))] 0 (.c 1 (.v 5) (.v 6) (.c 1 (.a (.v 6) (.v 0)) (.v 4) (.c 1 (.v 7) (.v 0) (.c 1 (.v 1) (.a (.v 8) (.a (.v 7) (.v 5))) .e)))) (.v 1) (.a (.v 4) (.v 8)) rfl (Nat.le_of_eq h3) (sub_add_le (lin [x2, x1, x3, ((x2 + x1) / 2), x0, x4, (x0 - x2), (min x2 x3), (x1 - ((min x2 x3) + x4))] 1 (.c 1 (.a (.v 0) (.n 1)) (.v 1) (.c 2 (.v 3) (.v 4) (.c 1 (.a (.a (.v 0) (.v 1)) (.n 1)) (.a (.m 2 (.v 3)) (.n 2)) .e))) (.v 0) (.v 4) rfl h0 (Nat.le_of_eq h2) (dlt 2 (x2 + x1)))) (Nat.min_le_left x2 x3) (le_sub_add x1 ((min x2 x3) + x4)))
theorem w279 {x0 : Nat} (h0 : ((1 : Nat) ≤ x0)) : ((0 : Nat) < x0) := lin [x0] 0 (.c 1 (.n 1) (.v 0) .e) (.a (.n 0) (.n 1)) (.v 0) rfl h0
theorem w280 {x0 : Nat} {x1 : Nat} {x2 : Nat} {x3 : Nat} (h0 : ((x1 + x2) = ((x0 + x3) - (1 : Nat)))) (h1 : (x2 < x3)) : (x0 ≤ x1) := lin [x1, x2, ((x0 + x3) - 1), x3, x0] 0 (.c 1 (.v 2) (.a (.v 0) (.v 1)) (.c 1 (.a (.v 1) (.n 1)) (.v 3) (.c 1 (.a (.v 4) (.v 3)) (.a (.v 2) (.n 1)) .e))) (.v 4) (.v 0) rfl (eqs h0) h1 (le_sub_add (x0 + x3) 1)
theorem w281 {x0 : Nat} (h0 : ((1 : Nat) ≤ x0)) : (¬ (((x0 : Nat) : Int) = (0 : Int))) := fun q => no1 (lin [x0] 0 (.c 1 (.n 1) (.v 0) (.c 1 (.v 0) (.n 0) .e)) (.n 1) (.n 0) rfl h0 (Nat.le_of_eq (zeq' x0 0 q)))
theorem w283 {x0 : Nat} {x1 : Nat} (h0 : ((1 : Nat) ≤ x1)) : (((((x0 : Nat) : Int) + ((x1 : Nat) : Int)) - (1 : Int)) = ((((x0 + x1) - (1 : Nat)) : Nat) : Int)) := Int.le_antisymm (liz [((x1 : Nat) : Int), ((((x0 + x1) - 1) : Nat) : Int), ((x0 : Nat) : Int)] 0 (.c 1 (.a (.v 2) (.v 0)) (.a (.v 1) (.n 1)) .e) (.s (.a (.v 2) (.v 0)) (.n 1)) (.v 1) rfl (zle (x0 + x1) (((x0 + x1) - 1) + 1) (le_sub_add (x0 + x1) 1))) (liz [((x1 : Nat) : Int), ((((x0 + x1) - 1) : Nat) : Int), ((x0 : Nat) : Int)] 0 (.c 1 (.a (.v 1) (.n 1)) (.a (.v 2) (.v 0)) .e) (.v 1) (.s (.a (.v 2) (.v 0)) (.n 1)) rfl (zle (((x0 + x1) - 1) + 1) (x0 + x1) (sub_add_le (lin [x1, x0] 0 (.c 1 (.n 1) (.v 0) .e) (.n 1) (.a (.v 1) (.v 0)) rfl h0))))
theorem w284 {x0 : Nat} (h0 : (x0 ≤ (50 : Nat))) : (x0 ≤ (16384 : Nat)) := lin [x0] 0 (.c 1 (.v 0) (.n 50) .e) (.v 0) (.n 16384) rfl h0
theorem w285 {x0 : Nat} (h0 : (x0 ≤ (50 : Nat))) : (((x0 : Nat) : Int) ≤ (16384 : Int)) := zle x0 16384 (lin [x0] 0 (.c 1 (.v 0) (.n 50) .e) (.v 0) (.n 16384) rfl h0)
theorem w287 {x0 : Nat} (h0 : (¬ (x0 = (0 : Nat)))) : (¬ (x0 = (0 : Nat))) := (Nat.lt_or_gt_of_ne h0).elim (fun q0 => fun q => no1 (lin [x0] 0 (.c 1 (.a (.v 0) (.n 1)) (.n 0) .e) (.n 1) (.n 0) rfl q0)) (fun q0 => fun q => no1 (lin [x0] 0 (.c 1 (.a (.n 0) (.n 1)) (.v 0) (.c 1 (.v 0) (.n 0) .e)) (.n 1) (.n 0) rfl q0 (Nat.le_of_eq q)))
theorem w288 {x0 : Nat} {x1 : Nat} (h0 : (¬ (x1 = (0 : Nat)))) (h1 : (x1 = (0 : Nat))) : ((0 : Nat) < x0) := (Nat.lt_or_gt_of_ne h0).elim (fun q0 => lin [x1, x0] 0 (.c 1 (.a (.v 0) (.n 1)) (.n 0) .e) (.a (.n 0) (.n 1)) (.v 1) rfl q0) (fun q0 => lin [x1, x0] 0 (.c 1 (.v 0) (.n 0) (.c 1 (.a (.n 0) (.n 1)) (.v 0) .e)) (.a (.n 0) (.n 1)) (.v 1) rfl (Nat.le_of_eq h1) q0)
theorem w289 {x0 : Nat} (h0 : (x0 ≤ (50 : Nat))) : (x0 ≤ (100 : Nat)) := lin [x0] 0 (.c 1 (.v 0) (.n 50) .e) (.v 0) (.n 100) rfl h0
theorem w290 {x0 : Nat} {x1 : Nat} (h0 : (x0 ≤ (50 : Nat))) (h1 : ((52 : Nat) ≤ x1)) : ((x0 + (1 : Nat)) ≤ x1) := lin [x0, x1] 0 (.c 1 (.v 0) (.n 50) (.c 1 (.n 52) (.v 1) .e)) (.a (.v 0) (.n 1)) (.v 1) rfl h0 h1
theorem w291 {x0 : Nat} {x1 : Nat} (h0 : (x1 ≤ (1000 : Nat))) (h1 : (x0 ≤ x1)) : (x0 < (9000 : Nat)) := lin [x1, x0] 0 (.c 1 (.v 0) (.n 1000) (.c 1 (.v 1) (.v 0) .e)) (.a (.v 1) (.n 1)) (.n 9000) rfl h0 h1
theorem w292 {x0 : Nat} {x1 : Nat} (h0 : (x0 ≤ (3000 : Nat))) : ((((x0 : Nat) : Int) - ((x1 : Nat) : Int)) ≤ (4000 : Int)) := liz [((x0 : Nat) : Int), ((x1 : Nat) : Int)] 0 (.c 1 (.v 0) (.n 3000) (.c 1 (.n 0) (.v 1) .e)) (.s (.v 0) (.v 1)) (.n 4000) rfl (zle x0 3000 h0) (nn x1)
theorem w293 {x0 : Nat} (h0 : (¬ (x0 = (0 : Nat)))) : (¬ (((x0 : Nat) : Int) = (0 : Int))) := (Nat.lt_or_gt_of_ne h0).elim (fun q0 => fun q => no1 (lin [x0] 0 (.c 1 (.a (.v 0) (.n 1)) (.n 0) .e) (.n 1) (.n 0) rfl q0)) (fun q0 => fun q => no1 (lin [x0] 0 (.c 1 (.a (.n 0) (.n 1)) (.v 0) (.c 1 (.v 0) (.n 0) .e)) (.n 1) (.n 0) rfl q0 (Nat.le_of_eq (zeq' x0 0 q))))
theorem w294 {x0 : Nat} (h0 : ((60 : Nat) ≤ x0)) : (x0 = ((x0 - (1 : Nat)) + (1 : Nat))) := Nat.le_antisymm (lin [x0, (x0 - 1)] 0 (.c 1 (.v 0) (.a (.v 1) (.n 1)) .e) (.v 0) (.a (.v 1) (.n 1)) rfl (le_sub_add x0 1)) (lin [x0, (x0 - 1)] 0 (.c 1 (.a (.v 1) (.n 1)) (.v 0) .e) (.a (.v 1) (.n 1)) (.v 0) rfl (sub_add_le (lin [x0, (x0 - 1)] 0 (.c 1 (.n 60) (.v 0) .e) (.n 1) (.v 0) rfl h0)))
theorem w295 {x0 : Nat} {x1 : Nat} (h0 : ((0 : Nat) < x1)) (h1 : (x1 = (0 : Nat))) : ((1 : Nat) ≤ x0) := lin [x1, x0] 0 (.c 1 (.a (.n 0) (.n 1)) (.v 0) (.c 1 (.v 0) (.n 0) .e)) (.n 1) (.v 1) rfl h0 (Nat.le_of_eq h1)
theorem w296 {x0 : Nat} (h0 : (x0 ≤ (200 : Nat))) : (x0 ≤ (1000 : Nat)) := lin [x0] 0 (.c 1 (.v 0) (.n 200) .e) (.v 0) (.n 1000) rfl h0
theorem w297 {x0 : Nat} (h0 : ((60 : Nat) ≤ (x0 + (1 : Nat)))) : ((52 : Nat) ≤ x0) := lin [x0] 0 (.c 1 (.n 60) (.a (.v 0) (.n 1)) .e) (.n 52) (.v 0) rfl h0
theorem w298 {x0 : Nat} {x1 : Nat} {x2 : Nat} (h0 : (x2 = x1)) (h1 : (x0 < x2)) : (x0 < x1) := lin [x2, x1, x0] 0 (.c 1 (.v 0) (.v 1) (.c 1 (.a (.v 2) (.n 1)) (.v 0) .e)) (.a (.v 2) (.n 1)) (.v 1) rfl (Nat.le_of_eq h0) h1
theorem w299 {x0 : Nat} {x1 : Nat} {x2 : Nat} (h0 : (x2 = x0)) (h1 : (x1 < x2)) : (((x0 - (1 : Nat)) - x1) < x0) := lin [x2, x0, x1, (x0 - 1), ((x0 - 1) - x1)] 0 (.c 1 (.a (.v 3) (.n 1)) (.v 1) (.c 1 (.a (.v 4) (.v 2)) (.v 3) .e)) (.a (.v 4) (.n 1)) (.v 1) rfl (sub_add_le (lin [x2, x0, x1, (x0 - 1), ((x0 - 1) - x1)] 0 (.c 1 (.v 0) (.v 1) (.c 1 (.a (.v 2) (.n 1)) (.v 0) .e)) (.n 1) (.v 1) rfl (Nat.le_of_eq h0) h1)) (sub_add_le (lin [x2, x0, x1, (x0 - 1), ((x0 - 1) - x1)] 0 (.c 1 (.v 0) (.v 1) (.c 1 (.a (.v 2) (.n 1)) (.v 0) (.c 1 (.v 1) (.a (.v 3) (.n 1)) .e))) (.v 2) (.v 3) rfl (Nat.le_of_eq h0) h1 (le_sub_add x0 1)))
theorem w300 {x0 : Nat} {x1 : Nat} {x2 : Nat} (h0 : (x2 < x1)) (h1 : (x0 < x2)) : ((x0 + (1 : Nat)) ≤ x1) := lin [x2, x1, x0] 0 (.c 1 (.a (.v 0) (.n 1)) (.v 1) (.c 1 (.a (.v 2) (.n 1)) (.v 0) .e)) (.a (.v 2) (.n 1)) (.v 1) rfl h0 h1
theorem w301 {x0 : Nat} : (((2 : Nat) * x0) = (x0 + x0)) := Nat.le_antisymm (lin [x0] 0 .e (.m 2 (.v 0)) (.a (.v 0) (.v 0)) rfl ) (lin [x0] 0 .e (.a (.v 0) (.v 0)) (.m 2 (.v 0)) rfl )
theorem w302 {x0 : Nat} {x1 : Nat} {x2 : Nat} {x3 : Nat} {x4 : Nat} (h0 : (x1 < x3)) (h1 : (x4 ≤ x2)) (h2 : (x4 = (x0 + x3))) : ((x0 + x1) < x2) := lin [x1, x3, x4, x2, x0] 0 (.c 1 (.a (.v 0) (.n 1)) (.v 1) (.c 1 (.v 2) (.v 3) (.c 1 (.a (.v 4) (.v 1)) (.v 2) .e))) (.a (.a (.v 4) (.v 0)) (.n 1)) (.v 3) rfl h0 h1 (eqs h2)
theorem w303 {x0 : Nat} {x1 : Nat} {x2 : Nat} (h0 : (x2 < x1)) (h1 : (x0 < x2)) : (x0 < x1) := lin [x2, x1, x0] 0 (.c 1 (.a (.v 0) (.n 1)) (.v 1) (.c 1 (.a (.v 2) (.n 1)) (.v 0) .e)) (.a (.v 2) (.n 1)) (.v 1) rfl h0 h1
theorem w304 {x0 : Nat} {x1 : Nat} (h0 : (x1 ≤ (200 : Nat))) (h1 : (x0 ≤ x1)) : ((((x0 : Nat) : Int) + ((x1 : Nat) : Int)) ≤ (134217728 : Int)) := zle (x0 + x1) 134217728 (lin [x1, x0] 0 (.c 2 (.v 0) (.n 200) (.c 1 (.v 1) (.v 0) .e)) (.a (.v 1) (.v 0)) (.n 134217728) rfl h0 h1)
theorem w305 {x0 : Nat} (h0 : ((0 : Nat) < x0)) : (¬ (x0 = (0 : Nat))) := fun q => no1 (lin [x0] 0 (.c 1 (.a (.n 0) (.n 1)) (.v 0) (.c 1 (.v 0) (.n 0) .e)) (.n 1) (.n 0) rfl h0 (Nat.le_of_eq q))
theorem w306 {x0 : Nat} {x1 : Nat} (h0 : (x0 = x1)) (h1 : (x1 ≤ (200 : Nat))) : (x0 ≤ (1000 : Nat)) := lin [x0, x1] 0 (.c 1 (.v 0) (.v 1) (.c 1 (.v 1) (.n 200) .e)) (.v 0) (.n 1000) rfl (Nat.le_of_eq h0) h1
theorem w307 {x0 : Nat} {x1 : Nat} (h0 : (x1 ≤ (200 : Nat))) (h1 : (x0 ≤ ((2 : Nat) * x1))) : (x0 ≤ (3000 : Nat)) := lin [x1, x0] 0 (.c 2 (.v 0) (.n 200) (.c 1 (.v 1) (.m 2 (.v 0)) .e)) (.v 1) (.n 3000) rfl h0 h1
theorem w308 {x0 : Nat} {x1 : Nat} {x2 : Nat} {x3 : Nat} {x4 : Nat} {x5 : Nat} (h0 : (x1 ≤ (50 : Nat))) (h1 : (x2 = x3)) (h2 : (x3 = x1)) (h3 : (x4 < x2)) (h4 : (x5 = x4)) (h5 : (x0 = x5)) : (x0 ≤ (16384 : Nat)) := lin [x1, x2, x3, x4, x5, x0] 0 (.c 1 (.v 0) (.n 50) (.c 1 (.v 1) (.v 2) (.c 1 (.v 2) (.v 0) (.c 1 (.a (.v 3) (.n 1)) (.v 1) (.c 1 (.v 4) (.v 3) (.c 1 (.v 5) (.v 4) .e)))))) (.v 5) (.n 16384) rfl h0 (Nat.le_of_eq h1) (Nat.le_of_eq h2) h3 (Nat.le_of_eq h4) (Nat.le_of_eq h5)
theorem w309 {x0 : Nat} {x1 : Nat} (h0 : (x0 < x1)) : ((x0 + (1 : Nat)) ≤ x1) := lin [x0, x1] 0 (.c 1 (.a (.v 0) (.n 1)) (.v 1) .e) (.a (.v 0) (.n 1)) (.v 1) rfl h0
theorem w310 {x0 : Nat} {x1 : Nat} : ((x0 - (x1 + (1 : Nat))) = ((x0 - (1 : Nat)) - x1)) := (Nat.le_total x0 (x1 + 1)).elim (fun q0 => (Nat.le_total x0 1).elim (fun q1 => Nat.le_antisymm (lin [x1, x0, (x0 - (x1 + 1)), (x0 - 1), ((x0 - 1) - x1)] 0 (.c 1 (.v 2) (.n 0) .e) (.v 2) (.v 4) rfl (sub_le0 (lin [x1, x0, (x0 - (x1 + 1)), (x0 - 1), ((x0 - 1) - x1)] 0 (.c 1 (.v 1) (.a (.v 0) (.n 1)) .e) (.v 1) (.a (.v 0) (.n 1)) rfl q0))) (lin [x1, x0, (x0 - (x1 + 1)), (x0 - 1), ((x0 - 1) - x1)] 0 (.c 1 (.v 4) (.n 0) .e) (.v 4) (.v 2) rfl (sub_le0 (lin [x1, x0, (x0 - (x1 + 1)), (x0 - 1), ((x0 - 1) - x1)] 0 (.c 1 (.v 3) (.n 0) .e) (.v 3) (.v 0) rfl (sub_le0 (lin [x1, x0, (x0 - (x1 + 1)), (x0 - 1), ((x0 - 1) - x1)] 0 (.c 1 (.v 1) (.n 1) .e) (.v 1) (.n 1) rfl q1)))))) (fun q1 => Nat.le_antisymm (lin [x1, x0, (x0 - (x1 + 1)), (x0 - 1), ((x0 - 1) - x1)] 0 (.c 1 (.v 2) (.n 0) .e) (.v 2) (.v 4) rfl (sub_le0 (lin [x1, x0, (x0 - (x1 + 1)), (x0 - 1), ((x0 - 1) - x1)] 0 (.c 1 (.v 1) (.a (.v 0) (.n 1)) .e) (.v 1) (.a (.v 0) (.n 1)) rfl q0))) (lin [x1, x0, (x0 - (x1 + 1)), (x0 - 1), ((x0 - 1) - x1)] 0 (.c 1 (.v 4) (.n 0) .e) (.v 4) (.v 2) rfl (sub_le0 (lin [x1, x0, (x0 - (x1 + 1)), (x0 - 1), ((x0 - 1) - x1)] 0 (.c 1 (.v 1) (.a (.v 0) (.n 1)) (.c 1 (.a (.v 3) (.n 1)) (.v 1) .e)) (.v 3) (.v 0) rfl q0 (sub_add_le (lin [x1, x0, (x0 - (x1 + 1)), (x0 - 1), ((x0 - 1) - x1)] 0 (.c 1 (.n 1) (.v 1) .e) (.n 1) (.v 1) rfl q1))))))) (fun q0 => Nat.le_antisymm (lin [x1, x0, (x0 - (x1 + 1)), (x0 - 1), ((x0 - 1) - x1)] 0 (.c 1 (.a (.v 2) (.a (.v 0) (.n 1))) (.v 1) (.c 1 (.v 1) (.a (.v 3) (.n 1)) (.c 1 (.v 3) (.a (.v 4) (.v 0)) .e))) (.v 2) (.v 4) rfl (sub_add_le (lin [x1, x0, (x0 - (x1 + 1)), (x0 - 1), ((x0 - 1) - x1)] 0 (.c 1 (.a (.v 0) (.n 1)) (.v 1) .e) (.a (.v 0) (.n 1)) (.v 1) rfl q0)) (le_sub_add x0 1) (le_sub_add (x0 - 1) x1)) (lin [x1, x0, (x0 - (x1 + 1)), (x0 - 1), ((x0 - 1) - x1)] 0 (.c 1 (.v 1) (.a (.v 2) (.a (.v 0) (.n 1))) (.c 1 (.a (.v 3) (.n 1)) (.v 1) (.c 1 (.a (.v 4) (.v 0)) (.v 3) .e))) (.v 4) (.v 2) rfl (le_sub_add x0 (x1 + 1)) (sub_add_le (lin [x1, x0, (x0 - (x1 + 1)), (x0 - 1), ((x0 - 1) - x1)] 0 (.c 1 (.a (.v 0) (.n 1)) (.v 1) .e) (.n 1) (.v 1) rfl q0)) (sub_add_le (lin [x1, x0, (x0 - (x1 + 1)), (x0 - 1), ((x0 - 1) - x1)] 0 (.c 1 (.a (.v 0) (.n 1)) (.v 1) (.c 1 (.v 1) (.a (.v 3) (.n 1)) .e)) (.v 0) (.v 3) rfl q0 (le_sub_add x0 1)))))
theorem w311 {x0 : Nat} {x1 : Nat} {x2 : Nat} (h0 : (x2 = x0)) (h1 : (x1 < x2)) : ((((x0 - (1 : Nat)) - x1) + (1 : Nat)) = (x0 - x1)) := Nat.le_antisymm (lin [x2, x0, x1, (x0 - 1), ((x0 - 1) - x1), (x0 - x1)] 0 (.c 1 (.a (.v 3) (.n 1)) (.v 1) (.c 1 (.a (.v 4) (.v 2)) (.v 3) (.c 1 (.v 1) (.a (.v 5) (.v 2)) .e))) (.a (.v 4) (.n 1)) (.v 5) rfl (sub_add_le (lin [x2, x0, x1, (x0 - 1), ((x0 - 1) - x1), (x0 - x1)] 0 (.c 1 (.v 0) (.v 1) (.c 1 (.a (.v 2) (.n 1)) (.v 0) .e)) (.n 1) (.v 1) rfl (Nat.le_of_eq h0) h1)) (sub_add_le (lin [x2, x0, x1, (x0 - 1), ((x0 - 1) - x1), (x0 - x1)] 0 (.c 1 (.v 0) (.v 1) (.c 1 (.a (.v 2) (.n 1)) (.v 0) (.c 1 (.v 1) (.a (.v 3) (.n 1)) .e))) (.v 2) (.v 3) rfl (Nat.le_of_eq h0) h1 (le_sub_add x0 1))) (le_sub_add x0 x1)) (lin [x2, x0, x1, (x0 - 1), ((x0 - 1) - x1), (x0 - x1)] 0 (.c 1 (.v 1) (.a (.v 3) (.n 1)) (.c 1 (.v 3) (.a (.v 4) (.v 2)) (.c 1 (.a (.v 5) (.v 2)) (.v 1) .e))) (.v 5) (.a (.v 4) (.n 1)) rfl (le_sub_add x0 1) (le_sub_add (x0 - 1) x1) (sub_add_le (lin [x2, x0, x1, (x0 - 1), ((x0 - 1) - x1), (x0 - x1)] 0 (.c 1 (.v 0) (.v 1) (.c 1 (.a (.v 2) (.n 1)) (.v 0) .e)) (.v 2) (.v 1) rfl (Nat.le_of_eq h0) h1)))
theorem w312 {x0 : Int} {x1 : Int} {x2 : Nat} : (((x0 + x1) + ((x2 : Nat) : Int)) = ((x0 + ((x2 : Nat) : Int)) + x1)) := Int.le_antisymm (liz [x0, x1, ((x2 : Nat) : Int)] 0 .e (.a (.a (.v 0) (.v 1)) (.v 2)) (.a (.a (.v 0) (.v 2)) (.v 1)) rfl ) (liz [x0, x1, ((x2 : Nat) : Int)] 0 .e (.a (.a (.v 0) (.v 2)) (.v 1)) (.a (.a (.v 0) (.v 1)) (.v 2)) rfl )
theorem w313 {x0 : Nat} {x1 : Int} {x2 : Int} : ((((x0 : Nat) : Int) + (x1 + x2)) = ((x2 + ((x0 : Nat) : Int)) + x1)) := Int.le_antisymm (liz [((x0 : Nat) : Int), x1, x2] 0 .e (.a (.v 0) (.a (.v 1) (.v 2))) (.a (.a (.v 2) (.v 0)) (.v 1)) rfl ) (liz [((x0 : Nat) : Int), x1, x2] 0 .e (.a (.a (.v 2) (.v 0)) (.v 1)) (.a (.v 0) (.a (.v 1) (.v 2))) rfl )
theorem w314 {x0 : Nat} {x1 : Nat} {x2 : Nat} {x3 : Nat} (h0 : (x1 ≤ (50 : Nat))) (h1 : (x2 = x3)) (h2 : (x3 = x1)) (h3 : (x0 = x2)) : (x0 ≤ (50 : Nat)) := lin [x1, x2, x3, x0] 0 (.c 1 (.v 0) (.n 50) (.c 1 (.v 1) (.v 2) (.c 1 (.v 2) (.v 0) (.c 1 (.v 3) (.v 1) .e)))) (.v 3) (.n 50) rfl h0 (Nat.le_of_eq h1) (Nat.le_of_eq h2) (Nat.le_of_eq h3)
theorem w315 {x0 : Nat} {x1 : Nat} {x2 : Nat} {x3 : Nat} {x4 : Nat} (h0 : (x1 ≤ (50 : Nat))) (h1 : (x2 = x3)) (h2 : (x3 = x1)) (h3 : (x4 = x2)) (h4 : (x0 = x4)) : (x0 ≤ (16384 : Nat)) := lin [x1, x2, x3, x4, x0] 0 (.c 1 (.v 0) (.n 50) (.c 1 (.v 1) (.v 2) (.c 1 (.v 2) (.v 0) (.c 1 (.v 3) (.v 1) (.c 1 (.v 4) (.v 3) .e))))) (.v 4) (.n 16384) rfl h0 (Nat.le_of_eq h1) (Nat.le_of_eq h2) (Nat.le_of_eq h3) (Nat.le_of_eq h4)
theorem w316 {x0 : Nat} {x1 : Nat} {x2 : Nat} (h0 : (x1 = x2)) (h1 : (x0 < x2)) : (x0 < x1) := lin [x1, x2, x0] 0 (.c 1 (.v 1) (.v 0) (.c 1 (.a (.v 2) (.n 1)) (.v 1) .e)) (.a (.v 2) (.n 1)) (.v 0) rfl (eqs h0) h1
theorem w317 {x0 : Nat} {x1 : Nat} {x2 : Nat} {x3 : Nat} (h0 : (x1 ≤ (50 : Nat))) (h1 : (x2 = x3)) (h2 : (x3 = x1)) (h3 : (x0 = x2)) : (x0 ≤ (1000 : Nat)) := lin [x1, x2, x3, x0] 0 (.c 1 (.v 0) (.n 50) (.c 1 (.v 1) (.v 2) (.c 1 (.v 2) (.v 0) (.c 1 (.v 3) (.v 1) .e)))) (.v 3) (.n 1000) rfl h0 (Nat.le_of_eq h1) (Nat.le_of_eq h2) (Nat.le_of_eq h3)
theorem w318 {x0 : Nat} {x1 : Nat} {x2 : Nat} {x3 : Nat} {x4 : Nat} (h0 : ((60 : Nat) ≤ (x1 + (1 : Nat)))) (h1 : (x2 ≤ (50 : Nat))) (h2 : (x3 = x4)) (h3 : (x4 = x2)) (h4 : (x0 = x3)) : ((x0 + (1 : Nat)) ≤ x1) := lin [x1, x2, x3, x4, x0] 0 (.c 1 (.n 60) (.a (.v 0) (.n 1)) (.c 1 (.v 1) (.n 50) (.c 1 (.v 2) (.v 3) (.c 1 (.v 3) (.v 1) (.c 1 (.v 4) (.v 2) .e))))) (.a (.v 4) (.n 1)) (.v 0) rfl h0 h1 (Nat.le_of_eq h2) (Nat.le_of_eq h3) (Nat.le_of_eq h4)
theorem w319 {x0 : Nat} (h0 : (x0 ≤ (200 : Nat))) : (x0 ≤ (200 : Nat)) := lin [x0] 0 (.c 1 (.v 0) (.n 200) .e) (.v 0) (.n 200) rfl h0
theorem w320 {x0 : Nat} {x1 : Nat} {x2 : Nat} {x3 : Nat} (h0 : (x1 ≤ (50 : Nat))) (h1 : (x2 = x3)) (h2 : (x3 = x1)) (h3 : (x0 = x2)) : ((x0 + (2 : Nat)) ≤ (52 : Nat)) := lin [x1, x2, x3, x0] 0 (.c 1 (.v 0) (.n 50) (.c 1 (.v 1) (.v 2) (.c 1 (.v 2) (.v 0) (.c 1 (.v 3) (.v 1) .e)))) (.a (.v 3) (.n 2)) (.n 52) rfl h0 (Nat.le_of_eq h1) (Nat.le_of_eq h2) (Nat.le_of_eq h3)
theorem w321 {x0 : Nat} (h0 : (x0 ≤ (13 : Nat))) : (x0 ≤ (50 : Nat)) := lin [x0] 0 (.c 1 (.v 0) (.n 13) .e) (.v 0) (.n 50) rfl h0
theorem w322 {x0 : Nat} (h0 : ((100 : Nat) ≤ x0)) : (((60 : Nat) + (1 : Nat)) ≤ x0) := lin [x0] 0 (.c 1 (.n 100) (.v 0) .e) (.a (.n 60) (.n 1)) (.v 0) rfl h0
theorem w323 {x0 : Nat} (h0 : (x0 ≤ (13 : Nat))) : (x0 ≤ (16384 : Nat)) := lin [x0] 0 (.c 1 (.v 0) (.n 13) .e) (.v 0) (.n 16384) rfl h0
theorem w324 {x0 : Nat} {x1 : Nat} (h0 : (x1 < x0)) : ((0 : Int) < (((x0 - x1) : Nat) : Int)) := zlt 0 (x0 - x1) (lin [x1, x0, (x0 - x1)] 0 (.c 1 (.a (.v 0) (.n 1)) (.v 1) (.c 1 (.v 1) (.a (.v 2) (.v 0)) .e)) (.a (.n 0) (.n 1)) (.v 2) rfl h0 (le_sub_add x0 x1))
theorem w325 {x0 : Nat} {x1 : Nat} (h0 : (x0 ≤ (1957 : Nat))) : ((x0 - (x1 + (1 : Nat))) ≤ (1957 : Nat)) := lin [x0, x1, (x0 - (x1 + 1))] 0 (.c 1 (.v 0) (.n 1957) (.c 1 (.v 2) (.v 0) .e)) (.v 2) (.n 1957) rfl h0 (Nat.sub_le x0 (x1 + 1))
theorem w326 {x0 : Nat} (h0 : (x0 ≤ (1957 : Nat))) : (x0 ≤ (16383 : Nat)) := lin [x0] 0 (.c 1 (.v 0) (.n 1957) .e) (.v 0) (.n 16383) rfl h0
theorem w327 {x0 : Nat} (h0 : ((110 : Nat) ≤ x0)) : (((20 : Nat) + (1 : Nat)) ≤ x0) := lin [x0] 0 (.c 1 (.n 110) (.v 0) .e) (.a (.n 20) (.n 1)) (.v 0) rfl h0
theorem w328 {x0 : Nat} {x1 : Nat} (h0 : (x1 < x0)) : (((((x0 - x1) : Nat) : Int) - (1 : Int)) = (((x0 - (x1 + (1 : Nat))) : Nat) : Int)) := Int.le_antisymm (liz [((x1 : Nat) : Int), ((x0 : Nat) : Int), (((x0 - x1) : Nat) : Int), (((x0 - (x1 + 1)) : Nat) : Int)] 0 (.c 1 (.a (.v 2) (.v 0)) (.v 1) (.c 1 (.v 1) (.a (.v 3) (.a (.v 0) (.n 1))) .e)) (.s (.v 2) (.n 1)) (.v 3) rfl (zle ((x0 - x1) + x1) x0 (sub_add_le (lin [x1, x0, (x0 - x1)] 0 (.c 1 (.a (.v 0) (.n 1)) (.v 1) .e) (.v 0) (.v 1) rfl h0))) (zle x0 ((x0 - (x1 + 1)) + (x1 + 1)) (le_sub_add x0 (x1 + 1)))) (liz [((x1 : Nat) : Int), ((x0 : Nat) : Int), (((x0 - x1) : Nat) : Int), (((x0 - (x1 + 1)) : Nat) : Int)] 0 (.c 1 (.v 1) (.a (.v 2) (.v 0)) (.c 1 (.a (.v 3) (.a (.v 0) (.n 1))) (.v 1) .e)) (.v 3) (.s (.v 2) (.n 1)) rfl (zle x0 ((x0 - x1) + x1) (le_sub_add x0 x1)) (zle ((x0 - (x1 + 1)) + (x1 + 1)) x0 (sub_add_le (lin [x1, x0, (x0 - x1)] 0 (.c 1 (.a (.v 0) (.n 1)) (.v 1) .e) (.a (.v 0) (.n 1)) (.v 1) rfl h0))))
theorem w329 {x0 : Nat} (h0 : ((110 : Nat) ≤ x0)) : (((100 : Nat) + (1 : Nat)) ≤ x0) := lin [x0] 0 (.c 1 (.n 110) (.v 0) .e) (.a (.n 100) (.n 1)) (.v 0) rfl h0
theorem w330 {x0 : Nat} (h0 : (x0 ≤ (13 : Nat))) : (x0 ≤ (13 : Nat)) := lin [x0] 0 (.c 1 (.v 0) (.n 13) .e) (.v 0) (.n 13) rfl h0
theorem w331 {x0 : Nat} {x1 : Nat} (h0 : (x1 ≤ (13 : Nat))) (h1 : (x0 < x1)) : (x0 ≤ (13 : Nat)) := lin [x1, x0] 0 (.c 1 (.v 0) (.n 13) (.c 1 (.a (.v 1) (.n 1)) (.v 0) .e)) (.v 1) (.n 13) rfl h0 h1
theorem w332 {x0 : Nat} (h0 : ((110 : Nat) ≤ x0)) : ((100 : Nat) ≤ x0) := lin [x0] 0 (.c 1 (.n 110) (.v 0) .e) (.n 100) (.v 0) rfl h0
theorem w333 {x0 : Nat} {x1 : Nat} (h0 : (x0 < x1)) : ((min x0 x1) = x0) := Nat.le_antisymm (lin [x0, x1, (min x0 x1)] 0 (.c 1 (.v 2) (.v 0) .e) (.v 2) (.v 0) rfl (Nat.min_le_left x0 x1)) (lin [x0, x1, (min x0 x1)] 0 (.c 1 (.v 0) (.v 2) .e) (.v 0) (.v 2) rfl (le_min1 (lin [x0, x1, (min x0 x1)] 0 (.c 1 (.a (.v 0) (.n 1)) (.v 1) .e) (.v 0) (.v 1) rfl h0)))
theorem w334 {x0 : Nat} {x1 : Nat} {x2 : Nat} (h0 : (x1 ≤ (1957 : Nat))) (h1 : (x2 < x1)) (h2 : (x0 = x2)) : (x0 ≤ (1000000 : Nat)) := lin [x1, x2, x0] 0 (.c 1 (.v 0) (.n 1957) (.c 1 (.a (.v 1) (.n 1)) (.v 0) (.c 1 (.v 2) (.v 1) .e))) (.v 2) (.n 1000000) rfl h0 h1 (Nat.le_of_eq h2)
theorem w335 {x0 : Nat} {x1 : Nat} (h0 : (x0 < x1)) (h1 : (x0 = x1)) : False := no1 (lin [x0, x1] 0 (.c 1 (.a (.v 0) (.n 1)) (.v 1) (.c 1 (.v 1) (.v 0) .e)) (.n 1) (.n 0) rfl h0 (eqs h1))
theorem w336 {x0 : Nat} (h0 : (x0 ≤ (1957 : Nat))) : (x0 ≤ (1000000 : Nat)) := lin [x0] 0 (.c 1 (.v 0) (.n 1957) .e) (.v 0) (.n 1000000) rfl h0
theorem w337 {x0 : Nat} {x1 : Nat} (h0 : (x0 ≤ (1957 : Nat))) : ((x0 - (x1 + (1 : Nat))) ≤ (16384 : Nat)) := lin [x0, x1, (x0 - (x1 + 1))] 0 (.c 1 (.v 0) (.n 1957) (.c 1 (.v 2) (.v 0) .e)) (.v 2) (.n 16384) rfl h0 (Nat.sub_le x0 (x1 + 1))
theorem w338 {x0 : Nat} {x1 : Nat} (h0 : (x1 < x0)) : (((((x0 - (x1 + (1 : Nat))) : Nat) : Int) + (1 : Int)) = ((((x0 + (1 : Nat)) - (x1 + (1 : Nat))) : Nat) : Int)) := zeq ((x0 - (x1 + 1)) + 1) ((x0 + 1) - (x1 + 1)) (Nat.le_antisymm (lin [x1, x0, (x0 - (x1 + 1)), ((x0 + 1) - (x1 + 1))] 0 (.c 1 (.a (.v 2) (.a (.v 0) (.n 1))) (.v 1) (.c 1 (.a (.v 1) (.n 1)) (.a (.v 3) (.a (.v 0) (.n 1))) .e)) (.a (.v 2) (.n 1)) (.v 3) rfl (sub_add_le (lin [x1, x0, (x0 - (x1 + 1)), ((x0 + 1) - (x1 + 1))] 0 (.c 1 (.a (.v 0) (.n 1)) (.v 1) .e) (.a (.v 0) (.n 1)) (.v 1) rfl h0)) (le_sub_add (x0 + 1) (x1 + 1))) (lin [x1, x0, (x0 - (x1 + 1)), ((x0 + 1) - (x1 + 1))] 0 (.c 1 (.v 1) (.a (.v 2) (.a (.v 0) (.n 1))) (.c 1 (.a (.v 3) (.a (.v 0) (.n 1))) (.a (.v 1) (.n 1)) .e)) (.v 3) (.a (.v 2) (.n 1)) rfl (le_sub_add x0 (x1 + 1)) (sub_add_le (lin [x1, x0, (x0 - (x1 + 1)), ((x0 + 1) - (x1 + 1))] 0 (.c 1 (.a (.v 0) (.n 1)) (.v 1) .e) (.a (.v 0) (.n 1)) (.a (.v 1) (.n 1)) rfl h0))))
theorem w339 {x0 : Nat} {x1 : Nat} (h0 : (x1 ≤ (1957 : Nat))) (h1 : (x0 < x1)) : (((1957 : Nat) - (x0 + (1 : Nat))) < ((1957 : Nat) - x0)) := lin [x1, x0, (1957 - (x0 + 1)), (1957 - x0)] 0 (.c 1 (.a (.v 2) (.a (.v 1) (.n 1))) (.n 1957) (.c 1 (.n 1957) (.a (.v 3) (.v 1)) .e)) (.a (.v 2) (.n 1)) (.v 3) rfl (sub_add_le (lin [x1, x0, (1957 - (x0 + 1)), (1957 - x0)] 0 (.c 1 (.v 0) (.n 1957) (.c 1 (.a (.v 1) (.n 1)) (.v 0) .e)) (.a (.v 1) (.n 1)) (.n 1957) rfl h0 h1)) (le_sub_add 1957 x0)
theorem w340 {x0 : Nat} {x1 : Nat} (h0 : (x1 = x0)) : (x0 ≤ x1) := lin [x1, x0] 0 (.c 1 (.v 1) (.v 0) .e) (.v 1) (.v 0) rfl (eqs h0)
theorem w341 {x0 : Nat} {x1 : Nat} (h0 : (¬ (x1 < x0))) : (¬ ((((x0 - x1) : Nat) : Int) > (0 : Int))) := Int.not_lt.2 (zle (x0 - x1) 0 (lin [x0, x1, (x0 - x1)] 0 (.c 1 (.v 2) (.n 0) .e) (.v 2) (.n 0) rfl (sub_le0 (lin [x0, x1, (x0 - x1)] 0 (.c 1 (.v 0) (.v 1) .e) (.v 0) (.v 1) rfl (Nat.not_lt.1 h0)))))
theorem w342 {x0 : Nat} : ((((x0 - x0) : Nat) : Int) = (0 : Int)) := zeq (x0 - x0) 0 (Nat.le_antisymm (lin [x0, (x0 - x0)] 0 (.c 1 (.a (.v 1) (.v 0)) (.v 0) .e) (.v 1) (.n 0) rfl (sub_add_le (lin [x0, (x0 - x0)] 0 .e (.v 0) (.v 0) rfl ))) (lin [x0, (x0 - x0)] 0 .e (.n 0) (.v 1) rfl ))
theorem w343 {x0 : Nat} (h0 : (x0 < (6 : Nat))) : (¬ (x0 = (6 : Nat))) := fun q => no1 (lin [x0] 0 (.c 1 (.a (.v 0) (.n 1)) (.n 6) (.c 1 (.n 6) (.v 0) .e)) (.n 1) (.n 0) rfl h0 (eqs q))
theorem w344 {x0 : Nat} (h0 : (x0 < (6 : Nat))) : (¬ (x0 = (7 : Nat))) := fun q => no1 (lin [x0] 0 (.c 1 (.a (.v 0) (.n 1)) (.n 6) (.c 1 (.n 7) (.v 0) .e)) (.n 1) (.n 0) rfl h0 (eqs q))
theorem w345 {x0 : Nat} (h0 : (x0 < (6 : Nat))) : (¬ (x0 = (8 : Nat))) := fun q => no1 (lin [x0] 0 (.c 1 (.a (.v 0) (.n 1)) (.n 6) (.c 1 (.n 8) (.v 0) .e)) (.n 1) (.n 0) rfl h0 (eqs q))
theorem w346 {x0 : Nat} {x1 : Nat} {x2 : Nat} (h0 : ((((1 : Nat) + x1) + x2) ≤ x0)) : (x0 = ((x0 - (1 : Nat)) + (1 : Nat))) := Nat.le_antisymm (lin [x1, x2, x0, (x0 - 1)] 0 (.c 1 (.v 2) (.a (.v 3) (.n 1)) .e) (.v 2) (.a (.v 3) (.n 1)) rfl (le_sub_add x0 1)) (lin [x1, x2, x0, (x0 - 1)] 0 (.c 1 (.a (.v 3) (.n 1)) (.v 2) .e) (.a (.v 3) (.n 1)) (.v 2) rfl (sub_add_le (lin [x1, x2, x0, (x0 - 1)] 0 (.c 1 (.a (.a (.n 1) (.v 0)) (.v 1)) (.v 2) .e) (.n 1) (.v 2) rfl h0)))
theorem w347 {x0 : Nat} {x1 : Nat} (h0 : ((((1 : Nat) + x0) + x1) ≤ (1000 : Nat))) : (x0 ≤ (1000 : Nat)) := lin [x0, x1] 0 (.c 1 (.a (.a (.n 1) (.v 0)) (.v 1)) (.n 1000) .e) (.v 0) (.n 1000) rfl h0
theorem w348 {x0 : Nat} {x1 : Nat} (h0 : ((((1 : Nat) + x0) + x1) ≤ (1000 : Nat))) : (((1 : Nat) + x0) ≤ (16384 : Nat)) := lin [x0, x1] 0 (.c 1 (.a (.a (.n 1) (.v 0)) (.v 1)) (.n 1000) .e) (.a (.n 1) (.v 0)) (.n 16384) rfl h0
theorem w349 {x0 : Nat} {x1 : Nat} (h0 : ((((1 : Nat) + x1) + x0) ≤ (1000 : Nat))) : (x0 ≤ (1000 : Nat)) := lin [x1, x0] 0 (.c 1 (.a (.a (.n 1) (.v 0)) (.v 1)) (.n 1000) .e) (.v 1) (.n 1000) rfl h0
theorem w350 {x0 : Nat} : ((x0 + (1 : Nat)) = ((1 : Nat) + x0)) := Nat.le_antisymm (lin [x0] 0 .e (.a (.v 0) (.n 1)) (.a (.n 1) (.v 0)) rfl ) (lin [x0] 0 .e (.a (.n 1) (.v 0)) (.a (.v 0) (.n 1)) rfl )
theorem w351 {x0 : Nat} {x1 : Nat} (h0 : ((((1 : Nat) + x0) + x1) ≤ (1000 : Nat))) : ((((1 : Nat) + x0) + x1) ≤ (16384 : Nat)) := lin [x0, x1] 0 (.c 1 (.a (.a (.n 1) (.v 0)) (.v 1)) (.n 1000) .e) (.a (.a (.n 1) (.v 0)) (.v 1)) (.n 16384) rfl h0
theorem w352 {x0 : Nat} {x1 : Nat} (h0 : (x1 < x0)) : (((((x0 : Nat) : Int) - (1 : Int)) - ((x1 : Nat) : Int)) = ((((x0 - (1 : Nat)) - x1) : Nat) : Int)) := Int.le_antisymm (liz [((x1 : Nat) : Int), ((x0 : Nat) : Int), (((x0 - 1) : Nat) : Int), ((((x0 - 1) - x1) : Nat) : Int)] 0 (.c 1 (.v 1) (.a (.v 2) (.n 1)) (.c 1 (.v 2) (.a (.v 3) (.v 0)) .e)) (.s (.s (.v 1) (.n 1)) (.v 0)) (.v 3) rfl (zle x0 ((x0 - 1) + 1) (le_sub_add x0 1)) (zle (x0 - 1) (((x0 - 1) - x1) + x1) (le_sub_add (x0 - 1) x1))) (liz [((x1 : Nat) : Int), ((x0 : Nat) : Int), (((x0 - 1) : Nat) : Int), ((((x0 - 1) - x1) : Nat) : Int)] 0 (.c 1 (.a (.v 2) (.n 1)) (.v 1) (.c 1 (.a (.v 3) (.v 0)) (.v 2) .e)) (.v 3) (.s (.s (.v 1) (.n 1)) (.v 0)) rfl (zle ((x0 - 1) + 1) x0 (sub_add_le (lin [x1, x0, (x0 - 1)] 0 (.c 1 (.a (.v 0) (.n 1)) (.v 1) .e) (.n 1) (.v 1) rfl h0))) (zle (((x0 - 1) - x1) + x1) (x0 - 1) (sub_add_le (lin [x1, x0, (x0 - 1)] 0 (.c 1 (.a (.v 0) (.n 1)) (.v 1) (.c 1 (.v 1) (.a (.v 2) (.n 1)) .e)) (.v 0) (.v 2) rfl h0 (le_sub_add x0 1)))))
theorem w353 {x0 : Nat} {x1 : Nat} (h0 : (((((x0 : Nat) : Int) - (1 : Int)) - ((x1 : Nat) : Int)) = ((((x0 - (1 : Nat)) - x1) : Nat) : Int))) : (((x0 - (1 : Nat)) - x1) < x0) := zle' (((x0 - 1) - x1) + 1) x0 (liz [((x0 : Nat) : Int), ((x1 : Nat) : Int), ((((x0 - 1) - x1) : Nat) : Int), (((x0 - 1) : Nat) : Int)] 0 (.c 1 (.v 2) (.s (.s (.v 0) (.n 1)) (.v 1)) (.c 1 (.n 0) (.v 1) .e)) (.a (.v 2) (.n 1)) (.v 0) rfl (zeqs h0) (nn x1))
theorem w354 {x0 : Nat} {x1 : Nat} (h0 : (((((x0 : Nat) : Int) - (1 : Int)) - ((x1 : Nat) : Int)) = ((((x0 - (1 : Nat)) - x1) : Nat) : Int))) : ((((((x0 - (1 : Nat)) - x1) : Nat) : Int) - (1 : Int)) = ((((x0 : Nat) : Int) - (1 : Int)) - (((x1 : Nat) : Int) + (1 : Int)))) := Int.le_antisymm (liz [((x0 : Nat) : Int), ((x1 : Nat) : Int), ((((x0 - 1) - x1) : Nat) : Int), (((x0 - 1) : Nat) : Int)] 0 (.c 1 (.v 2) (.s (.s (.v 0) (.n 1)) (.v 1)) .e) (.s (.v 2) (.n 1)) (.s (.s (.v 0) (.n 1)) (.a (.v 1) (.n 1))) rfl (zeqs h0)) (liz [((x0 : Nat) : Int), ((x1 : Nat) : Int), ((((x0 - 1) - x1) : Nat) : Int), (((x0 - 1) : Nat) : Int)] 0 (.c 1 (.s (.s (.v 0) (.n 1)) (.v 1)) (.v 2) .e) (.s (.s (.v 0) (.n 1)) (.a (.v 1) (.n 1))) (.s (.v 2) (.n 1)) rfl (Int.le_of_eq h0))
theorem w355 {x0 : Nat} : (((((x0 : Nat) : Int) - (1 : Int)) - ((x0 : Nat) : Int)) = (-(1 : Int))) := Int.le_antisymm (liz [((x0 : Nat) : Int)] 0 .e (.s (.s (.v 0) (.n 1)) (.v 0)) (.n (-1)) rfl ) (liz [((x0 : Nat) : Int)] 0 .e (.n (-1)) (.s (.s (.v 0) (.n 1)) (.v 0)) rfl )
theorem w357 {x0 : Nat} {x1 : Nat} {x2 : Nat} (h0 : (x0 < (512 : Nat))) (h1 : (x1 < x2)) : ((x0 + ((512 : Nat) * x1)) < (x2 * (512 : Nat))) := lin [x0, x1, x2] 0 (.c 1 (.a (.v 0) (.n 1)) (.n 512) (.c 512 (.a (.v 1) (.n 1)) (.v 2) .e)) (.a (.a (.v 0) (.m 512 (.v 1))) (.n 1)) (.r (.v 2) 512) rfl h0 h1
theorem w358 {x0 : Nat} (h0 : (((0 : Nat) < x0) ∧ (x0 < (512 : Nat)))) : (((x0 : Nat) : Int) < (512 : Int)) := zlt x0 512 (lin [x0] 0 (.c 1 (.a (.v 0) (.n 1)) (.n 512) .e) (.a (.v 0) (.n 1)) (.n 512) rfl h0.2)
theorem w359 {x0 : Nat} {x1 : Nat} (h0 : (x1 ≤ (13 : Nat))) (h1 : (x0 = x1)) : (((x0 : Nat) : Int) ≤ (16384 : Int)) := zle x0 16384 (lin [x1, x0] 0 (.c 1 (.v 0) (.n 13) (.c 1 (.v 1) (.v 0) .e)) (.v 1) (.n 16384) rfl h0 (Nat.le_of_eq h1))
theorem w360 {x0 : Nat} : (((x0 : Nat) : Int) = ((((0 : Nat) + x0) : Nat) : Int)) := zeq x0 (0 + x0) (Nat.le_antisymm (lin [x0] 0 .e (.v 0) (.a (.n 0) (.v 0)) rfl ) (lin [x0] 0 .e (.a (.n 0) (.v 0)) (.v 0) rfl ))
theorem w361 {x0 : Nat} {x1 : Nat} (h0 : (x0 < (256 : Nat))) : ((x0 ≥ (256 : Nat)) → (x1 < x1)) := fun q => lin [x0, x1] 0 (.c 1 (.a (.v 0) (.n 1)) (.n 256) (.c 1 (.n 256) (.v 0) .e)) (.a (.v 1) (.n 1)) (.v 1) rfl h0 q
theorem w362 {x0 : Nat} {x1 : Nat} : ((x0 < x0) → (x1 ≥ (256 : Nat))) := fun q => lin [x0, x1] 0 (.c 512 (.a (.v 0) (.n 1)) (.v 0) .e) (.n 256) (.v 1) rfl q
theorem w363 {x0 : Nat} (h0 : ((100 : Nat) ≤ x0)) : (((5 : Nat) + (1 : Nat)) ≤ x0) := lin [x0] 0 (.c 1 (.n 100) (.v 0) .e) (.a (.n 5) (.n 1)) (.v 0) rfl h0
theorem w364 {x0 : Nat} (h0 : ((256 : Nat) ≤ x0)) : ((256 : Int) ≤ ((x0 : Nat) : Int)) := zle 256 x0 (lin [x0] 0 (.c 1 (.n 256) (.v 0) .e) (.n 256) (.v 0) rfl h0)
theorem w365 {x0 : Nat} {x1 : Nat} : (((((x0 + x1) : Nat) : Int) + (1 : Int)) = (((x0 + (x1 + (1 : Nat))) : Nat) : Int)) := zeq ((x0 + x1) + 1) (x0 + (x1 + 1)) (Nat.le_antisymm (lin [x0, x1] 0 .e (.a (.a (.v 0) (.v 1)) (.n 1)) (.a (.v 0) (.a (.v 1) (.n 1))) rfl ) (lin [x0, x1] 0 .e (.a (.v 0) (.a (.v 1) (.n 1))) (.a (.a (.v 0) (.v 1)) (.n 1)) rfl ))
theorem w366 {x0 : Nat} (h0 : (¬ (x0 ≥ (256 : Nat)))) : (((x0 : Nat) : Int) < (256 : Int)) := zlt x0 256 (lin [x0] 0 (.c 1 (.a (.v 0) (.n 1)) (.n 256) .e) (.a (.v 0) (.n 1)) (.n 256) rfl (Nat.not_le.1 h0))
theorem w367 {x0 : Nat} {x1 : Nat} : (((((x0 + x1) : Nat) : Int) - ((x0 : Nat) : Int)) = ((x1 : Nat) : Int)) := Int.le_antisymm (liz [((x0 : Nat) : Int), ((x1 : Nat) : Int)] 0 .e (.s (.a (.v 0) (.v 1)) (.v 0)) (.v 1) rfl ) (liz [((x0 : Nat) : Int), ((x1 : Nat) : Int)] 0 .e (.v 1) (.s (.a (.v 0) (.v 1)) (.v 0)) rfl )
theorem w368 {x0 : Nat} (h0 : ((24 : Int) = ((x0 : Nat) : Int))) : (x0 = (24 : Nat)) := Nat.le_antisymm (lin [x0] 0 (.c 1 (.v 0) (.n 24) .e) (.v 0) (.n 24) rfl (eqs (zeq' 24 x0 h0))) (lin [x0] 0 (.c 1 (.n 24) (.v 0) .e) (.n 24) (.v 0) rfl (Nat.le_of_eq (zeq' 24 x0 h0)))
theorem w369 {x0 : Nat} {x1 : Nat} (h0 : (x0 = x1)) (h1 : ((2 : Int) = ((x1 : Nat) : Int))) : (x0 = (2 : Nat)) := Nat.le_antisymm (lin [x0, x1] 0 (.c 1 (.v 0) (.v 1) (.c 1 (.v 1) (.n 2) .e)) (.v 0) (.n 2) rfl (Nat.le_of_eq h0) (eqs (zeq' 2 x1 h1))) (lin [x0, x1] 0 (.c 1 (.v 1) (.v 0) (.c 1 (.n 2) (.v 1) .e)) (.n 2) (.v 0) rfl (eqs h0) (Nat.le_of_eq (zeq' 2 x1 h1)))
theorem w370 {x0 : Nat} (h0 : ((16 : Int) = ((x0 : Nat) : Int))) : (x0 = (16 : Nat)) := Nat.le_antisymm (lin [x0] 0 (.c 1 (.v 0) (.n 16) .e) (.v 0) (.n 16) rfl (eqs (zeq' 16 x0 h0))) (lin [x0] 0 (.c 1 (.n 16) (.v 0) .e) (.n 16) (.v 0) rfl (Nat.le_of_eq (zeq' 16 x0 h0)))
theorem w371 {x0 : Nat} {x1 : Nat} (h0 : (x0 = x1)) (h1 : ((3 : Int) = ((x1 : Nat) : Int))) : (x0 = (3 : Nat)) := Nat.le_antisymm (lin [x0, x1] 0 (.c 1 (.v 0) (.v 1) (.c 1 (.v 1) (.n 3) .e)) (.v 0) (.n 3) rfl (Nat.le_of_eq h0) (eqs (zeq' 3 x1 h1))) (lin [x0, x1] 0 (.c 1 (.v 1) (.v 0) (.c 1 (.n 3) (.v 1) .e)) (.n 3) (.v 0) rfl (eqs h0) (Nat.le_of_eq (zeq' 3 x1 h1)))
theorem w372 {x0 : Nat} (h0 : ((31 : Int) = ((x0 : Nat) : Int))) : (x0 = (31 : Nat)) := Nat.le_antisymm (lin [x0] 0 (.c 1 (.v 0) (.n 31) .e) (.v 0) (.n 31) rfl (eqs (zeq' 31 x0 h0))) (lin [x0] 0 (.c 1 (.n 31) (.v 0) .e) (.n 31) (.v 0) rfl (Nat.le_of_eq (zeq' 31 x0 h0)))
theorem w373 {x0 : Nat} {x1 : Nat} (h0 : (x1 = x0)) (h1 : (x1 = (2 : Nat))) : ((2 : Int) = ((x0 : Nat) : Int)) := zeq 2 x0 (Nat.le_antisymm (lin [x1, x0] 0 (.c 1 (.v 0) (.v 1) (.c 1 (.n 2) (.v 0) .e)) (.n 2) (.v 1) rfl (Nat.le_of_eq h0) (eqs h1)) (lin [x1, x0] 0 (.c 1 (.v 1) (.v 0) (.c 1 (.v 0) (.n 2) .e)) (.v 1) (.n 2) rfl (eqs h0) (Nat.le_of_eq h1)))
theorem w374 {x0 : Nat} {x1 : Nat} (h0 : (x1 = x0)) (h1 : (x1 = (3 : Nat))) : ((3 : Int) = ((x0 : Nat) : Int)) := zeq 3 x0 (Nat.le_antisymm (lin [x1, x0] 0 (.c 1 (.v 0) (.v 1) (.c 1 (.n 3) (.v 0) .e)) (.n 3) (.v 1) rfl (Nat.le_of_eq h0) (eqs h1)) (lin [x1, x0] 0 (.c 1 (.v 1) (.v 0) (.c 1 (.v 0) (.n 3) .e)) (.v 1) (.n 3) rfl (eqs h0) (Nat.le_of_eq h1)))
theorem w375 {x0 : Nat} {x1 : Nat} {x2 : Nat} {x3 : Nat} {x4 : Nat} {x5 : Nat} {x6 : Nat} (h0 : (x1 ≤ (13 : Nat))) (h1 : ((x2 + x3) ≤ x1)) (h2 : (x3 = ((x4 + (1 : Nat)) + x5))) (h3 : (x6 ≤ x4)) (h4 : (x0 = x6)) : (x0 ≤ (16384 : Nat)) := lin [x1, x2, x3, x4, x5, x6, x0] 0 (.c 1 (.v 0) (.n 13) (.c 1 (.a (.v 1) (.v 2)) (.v 0) (.c 1 (.a (.a (.v 3) (.n 1)) (.v 4)) (.v 2) (.c 1 (.v 5) (.v 3) (.c 1 (.v 6) (.v 5) .e))))) (.v 6) (.n 16384) rfl h0 h1 (eqs h2) h3 (Nat.le_of_eq h4)
theorem w376 {x0 : Nat} {x1 : Nat} (h0 : (x0 < x1)) : (x0 < x1) := lin [x0, x1] 0 (.c 1 (.a (.v 0) (.n 1)) (.v 1) .e) (.a (.v 0) (.n 1)) (.v 1) rfl h0
theorem w377 {x0 : Nat} {x1 : Nat} {x2 : Nat} : ((((x0 + x1) + (1 : Nat)) + x2) = (x0 + ((x1 + (1 : Nat)) + x2))) := Nat.le_antisymm (lin [x0, x1, x2] 0 .e (.a (.a (.a (.v 0) (.v 1)) (.n 1)) (.v 2)) (.a (.v 0) (.a (.a (.v 1) (.n 1)) (.v 2))) rfl ) (lin [x0, x1, x2] 0 .e (.a (.v 0) (.a (.a (.v 1) (.n 1)) (.v 2))) (.a (.a (.a (.v 0) (.v 1)) (.n 1)) (.v 2)) rfl )
theorem w378 {x0 : Nat} {x1 : Nat} {x2 : Nat} {x3 : Nat} {x4 : Nat} (h0 : ((x0 + x4) ≤ x3)) (h1 : (((x1 + (1 : Nat)) + x2) < x4)) : ((((x0 + x1) + (1 : Nat)) + x2) < x3) := lin [x0, x4, x3, x1, x2] 0 (.c 1 (.a (.v 0) (.v 1)) (.v 2) (.c 1 (.a (.a (.a (.v 3) (.n 1)) (.v 4)) (.n 1)) (.v 1) .e)) (.a (.a (.a (.a (.v 0) (.v 3)) (.n 1)) (.v 4)) (.n 1)) (.v 2) rfl h0 h1
theorem w379 {x0 : Nat} {x1 : Nat} : (x0 ≤ (x0 + x1)) := lin [x0, x1] 0 .e (.v 0) (.a (.v 0) (.v 1)) rfl 
theorem w380 {x0 : Nat} {x1 : Nat} {x2 : Nat} {x3 : Nat} {x4 : Nat} {x5 : Nat} {x6 : Nat} (h0 : (x1 ≤ (13 : Nat))) (h1 : (x0 = x2)) (h2 : (x2 < x3)) (h3 : ((((x4 + x3) + (1 : Nat)) + x5) = x6)) (h4 : (x6 < x1)) : (x0 ≤ (16384 : Nat)) := lin [x1, x0, x2, x3, x4, x5, x6] 0 (.c 1 (.v 0) (.n 13) (.c 1 (.v 1) (.v 2) (.c 1 (.a (.v 2) (.n 1)) (.v 3) (.c 1 (.a (.a (.a (.v 4) (.v 3)) (.n 1)) (.v 5)) (.v 6) (.c 1 (.a (.v 6) (.n 1)) (.v 0) .e))))) (.v 1) (.n 16384) rfl h0 (Nat.le_of_eq h1) h2 (Nat.le_of_eq h3) h4
theorem w381 {x0 : Nat} {x1 : Nat} {x2 : Nat} {x3 : Nat} {x4 : Nat} {x5 : Nat} (h0 : (x2 = (x5 + x4))) (h1 : ((((x0 + x1) + (1 : Nat)) + x5) = x3)) : ((((x0 + x1) + (1 : Nat)) + x2) = (x3 + x4)) := Nat.le_antisymm (lin [x2, x5, x4, x0, x1, x3] 0 (.c 1 (.v 0) (.a (.v 1) (.v 2)) (.c 1 (.a (.a (.a (.v 3) (.v 4)) (.n 1)) (.v 1)) (.v 5) .e)) (.a (.a (.a (.v 3) (.v 4)) (.n 1)) (.v 0)) (.a (.v 5) (.v 2)) rfl (Nat.le_of_eq h0) (Nat.le_of_eq h1)) (lin [x2, x5, x4, x0, x1, x3] 0 (.c 1 (.a (.v 1) (.v 2)) (.v 0) (.c 1 (.v 5) (.a (.a (.a (.v 3) (.v 4)) (.n 1)) (.v 1)) .e)) (.a (.v 5) (.v 2)) (.a (.a (.a (.v 3) (.v 4)) (.n 1)) (.v 0)) rfl (eqs h0) (eqs h1))
theorem w382 {x0 : Nat} {x1 : Nat} {x2 : Nat} {x3 : Nat} {x4 : Nat} (h0 : (x1 = x4)) (h1 : (x3 = ((x4 + (1 : Nat)) + x2))) : ((((x0 + x1) + (1 : Nat)) + x2) = (x0 + x3)) := Nat.le_antisymm (lin [x1, x4, x3, x2, x0] 0 (.c 1 (.v 0) (.v 1) (.c 1 (.a (.a (.v 1) (.n 1)) (.v 3)) (.v 2) .e)) (.a (.a (.a (.v 4) (.v 0)) (.n 1)) (.v 3)) (.a (.v 4) (.v 2)) rfl (Nat.le_of_eq h0) (eqs h1)) (lin [x1, x4, x3, x2, x0] 0 (.c 1 (.v 1) (.v 0) (.c 1 (.v 2) (.a (.a (.v 1) (.n 1)) (.v 3)) .e)) (.a (.v 4) (.v 2)) (.a (.a (.a (.v 4) (.v 0)) (.n 1)) (.v 3)) rfl (eqs h0) (Nat.le_of_eq h1))
theorem w383 {x0 : Nat} {x1 : Nat} {x2 : Nat} (h0 : (x0 = x1)) (h1 : (x2 = x1)) (h2 : (x2 = (2 : Nat))) : (x0 = (2 : Nat)) := Nat.le_antisymm (lin [x0, x1, x2] 0 (.c 1 (.v 0) (.v 1) (.c 1 (.v 1) (.v 2) (.c 1 (.v 2) (.n 2) .e))) (.v 0) (.n 2) rfl (Nat.le_of_eq h0) (eqs h1) (Nat.le_of_eq h2)) (lin [x0, x1, x2] 0 (.c 1 (.v 1) (.v 0) (.c 1 (.v 2) (.v 1) (.c 1 (.n 2) (.v 2) .e))) (.n 2) (.v 0) rfl (eqs h0) (Nat.le_of_eq h1) (eqs h2))
theorem w384 {x0 : Nat} {x1 : Nat} {x2 : Nat} (h0 : (x0 = x1)) (h1 : (x2 = x1)) (h2 : (x2 = (2 : Nat))) : ((0 : Nat) < x0) := lin [x0, x1, x2] 0 (.c 1 (.v 1) (.v 0) (.c 1 (.v 2) (.v 1) (.c 1 (.n 2) (.v 2) .e))) (.a (.n 0) (.n 1)) (.v 0) rfl (eqs h0) (Nat.le_of_eq h1) (eqs h2)
theorem w385 {x0 : Nat} {x1 : Nat} {x2 : Nat} (h0 : (x0 = x1)) (h1 : (x2 = x1)) (h2 : (x2 = (2 : Nat))) : (x0 ≤ (16384 : Nat)) := lin [x0, x1, x2] 0 (.c 1 (.v 0) (.v 1) (.c 1 (.v 1) (.v 2) (.c 1 (.v 2) (.n 2) .e))) (.v 0) (.n 16384) rfl (Nat.le_of_eq h0) (eqs h1) (Nat.le_of_eq h2)
theorem w386 {x0 : Nat} {x1 : Nat} {x2 : Nat} (h0 : (x0 = x1)) (h1 : (x2 = x1)) (h2 : (x2 = (3 : Nat))) : (x0 = (3 : Nat)) := Nat.le_antisymm (lin [x0, x1, x2] 0 (.c 1 (.v 0) (.v 1) (.c 1 (.v 1) (.v 2) (.c 1 (.v 2) (.n 3) .e))) (.v 0) (.n 3) rfl (Nat.le_of_eq h0) (eqs h1) (Nat.le_of_eq h2)) (lin [x0, x1, x2] 0 (.c 1 (.v 1) (.v 0) (.c 1 (.v 2) (.v 1) (.c 1 (.n 3) (.v 2) .e))) (.n 3) (.v 0) rfl (eqs h0) (Nat.le_of_eq h1) (eqs h2))
theorem w387 {x0 : Nat} {x1 : Nat} {x2 : Nat} (h0 : (x0 = x1)) (h1 : (x2 = x1)) (h2 : (x2 = (3 : Nat))) : ((0 : Nat) < x0) := lin [x0, x1, x2] 0 (.c 1 (.v 1) (.v 0) (.c 1 (.v 2) (.v 1) (.c 1 (.n 3) (.v 2) .e))) (.a (.n 0) (.n 1)) (.v 0) rfl (eqs h0) (Nat.le_of_eq h1) (eqs h2)
theorem w388 {x0 : Nat} {x1 : Nat} {x2 : Nat} (h0 : (x0 = x1)) (h1 : (x2 = x1)) (h2 : (x2 = (3 : Nat))) : ((1 : Nat) < x0) := lin [x0, x1, x2] 0 (.c 1 (.v 1) (.v 0) (.c 1 (.v 2) (.v 1) (.c 1 (.n 3) (.v 2) .e))) (.a (.n 1) (.n 1)) (.v 0) rfl (eqs h0) (Nat.le_of_eq h1) (eqs h2)
theorem w389 {x0 : Nat} {x1 : Nat} {x2 : Nat} (h0 : (x0 = x1)) (h1 : (x2 = x1)) (h2 : (x2 = (3 : Nat))) : ((2 : Nat) < x0) := lin [x0, x1, x2] 0 (.c 1 (.v 1) (.v 0) (.c 1 (.v 2) (.v 1) (.c 1 (.n 3) (.v 2) .e))) (.a (.n 2) (.n 1)) (.v 0) rfl (eqs h0) (Nat.le_of_eq h1) (eqs h2)
theorem w390 {x0 : Nat} {x1 : Nat} {x2 : Nat} {x3 : Nat} {x4 : Nat} {x5 : Nat} {x6 : Nat} (h0 : (x1 ≤ (13 : Nat))) (h1 : ((x2 + x3) ≤ x1)) (h2 : (x3 = ((x4 + (1 : Nat)) + (x0 + (x5 + x6))))) : (x0 ≤ (13 : Nat)) := lin [x1, x2, x3, x4, x0, x5, x6] 0 (.c 1 (.v 0) (.n 13) (.c 1 (.a (.v 1) (.v 2)) (.v 0) (.c 1 (.a (.a (.v 3) (.n 1)) (.a (.v 4) (.a (.v 5) (.v 6)))) (.v 2) .e))) (.v 4) (.n 13) rfl h0 h1 (eqs h2)
theorem w391 {x0 : Nat} {x1 : Nat} {x2 : Nat} {x3 : Nat} {x4 : Nat} {x5 : Nat} {x6 : Nat} (h0 : (x1 ≤ (13 : Nat))) (h1 : ((x2 + x3) ≤ x1)) (h2 : (x3 = ((x4 + (1 : Nat)) + (x5 + (x0 + x6))))) : (x0 ≤ (13 : Nat)) := lin [x1, x2, x3, x4, x5, x0, x6] 0 (.c 1 (.v 0) (.n 13) (.c 1 (.a (.v 1) (.v 2)) (.v 0) (.c 1 (.a (.a (.v 3) (.n 1)) (.a (.v 4) (.a (.v 5) (.v 6)))) (.v 2) .e))) (.v 5) (.n 13) rfl h0 h1 (eqs h2)
theorem w392 {x0 : Nat} {x1 : Nat} {x2 : Nat} {x3 : Nat} {x4 : Nat} {x5 : Nat} {x6 : Nat} (h0 : (x1 ≤ (13 : Nat))) (h1 : ((x2 + x3) ≤ x1)) (h2 : (x3 = ((x4 + (1 : Nat)) + (x5 + (x6 + x0))))) : (x0 ≤ (13 : Nat)) := lin [x1, x2, x3, x4, x5, x6, x0] 0 (.c 1 (.v 0) (.n 13) (.c 1 (.a (.v 1) (.v 2)) (.v 0) (.c 1 (.a (.a (.v 3) (.n 1)) (.a (.v 4) (.a (.v 5) (.v 6)))) (.v 2) .e))) (.v 6) (.n 13) rfl h0 h1 (eqs h2)
theorem w393 {x0 : Nat} {x1 : Nat} {x2 : Nat} (h0 : (x0 = x1)) (h1 : (x2 = x1)) (h2 : (x2 = (3 : Nat))) : (x0 ≤ (16384 : Nat)) := lin [x0, x1, x2] 0 (.c 1 (.v 0) (.v 1) (.c 1 (.v 1) (.v 2) (.c 1 (.v 2) (.n 3) .e))) (.v 0) (.n 16384) rfl (Nat.le_of_eq h0) (eqs h1) (Nat.le_of_eq h2)
theorem w394 {x0 : Nat} (h0 : (x0 ≤ (13 : Nat))) : (((1 : Nat) + x0) ≤ (16384 : Nat)) := lin [x0] 0 (.c 1 (.v 0) (.n 13) .e) (.a (.n 1) (.v 0)) (.n 16384) rfl h0
theorem w395 {x0 : Nat} (h0 : (x0 ≤ (13 : Nat))) : (x0 ≤ (16382 : Nat)) := lin [x0] 0 (.c 1 (.v 0) (.n 13) .e) (.v 0) (.n 16382) rfl h0
theorem w396 {x0 : Nat} {x1 : Nat} (h0 : (x0 ≤ (13 : Nat))) (h1 : (x1 ≤ (13 : Nat))) : ((((x0 + (1 : Nat)) + (1 : Nat)) + x1) ≤ (16384 : Nat)) := lin [x0, x1] 0 (.c 1 (.v 0) (.n 13) (.c 1 (.v 1) (.n 13) .e)) (.a (.a (.a (.v 0) (.n 1)) (.n 1)) (.v 1)) (.n 16384) rfl h0 h1
theorem w397 {x0 : Nat} {x1 : Nat} {x2 : Nat} (h0 : (x0 ≤ (13 : Nat))) (h1 : (x1 ≤ (13 : Nat))) (h2 : (x2 ≤ (13 : Nat))) : ((((x0 + (x1 + (1 : Nat))) + (1 : Nat)) + x2) ≤ (16384 : Nat)) := lin [x0, x1, x2] 0 (.c 1 (.v 0) (.n 13) (.c 1 (.v 1) (.n 13) (.c 1 (.v 2) (.n 13) .e))) (.a (.a (.a (.v 0) (.a (.v 1) (.n 1))) (.n 1)) (.v 2)) (.n 16384) rfl h0 h1 h2
theorem w398 {x0 : Nat} (h0 : (x0 ≤ (13 : Nat))) : (((2 : Nat) + x0) ≤ (16384 : Nat)) := lin [x0] 0 (.c 1 (.v 0) (.n 13) .e) (.a (.n 2) (.v 0)) (.n 16384) rfl h0
theorem w399 {x0 : Nat} {x1 : Nat} {x2 : Nat} (h0 : (x0 ≤ (13 : Nat))) (h1 : (x2 ≤ (13 : Nat))) (h2 : (x1 ≤ (13 : Nat))) : (((((x0 + x1) + (1 : Nat)) + (1 : Nat)) + x2) ≤ (16384 : Nat)) := lin [x0, x2, x1] 0 (.c 1 (.v 0) (.n 13) (.c 1 (.v 1) (.n 13) (.c 1 (.v 2) (.n 13) .e))) (.a (.a (.a (.a (.v 0) (.v 2)) (.n 1)) (.n 1)) (.v 1)) (.n 16384) rfl h0 h1 h2
theorem w400 {x0 : Nat} {x1 : Nat} {x2 : Nat} {x3 : Nat} (h0 : (x1 = ((x2 + (1 : Nat)) + x3))) : ((0 : Nat) < (x0 + x1)) := lin [x1, x2, x3, x0] 0 (.c 1 (.a (.a (.v 1) (.n 1)) (.v 2)) (.v 0) .e) (.a (.n 0) (.n 1)) (.a (.v 3) (.v 0)) rfl (eqs h0)
theorem w401 {x0 : Nat} {x1 : Nat} {x2 : Nat} (h0 : (x2 ≤ (13 : Nat))) (h1 : ((x0 + x1) ≤ x2)) : (((9 : Nat) * (x0 + x1)) < (118 : Nat)) := lin [x2, x0, x1] 0 (.c 9 (.v 0) (.n 13) (.c 9 (.a (.v 1) (.v 2)) (.v 0) .e)) (.a (.m 9 (.a (.v 1) (.v 2))) (.n 1)) (.n 118) rfl h0 h1
theorem w402 {x0 : Nat} {x1 : Nat} {x2 : Nat} {x3 : Nat} (h0 : (x1 = ((x2 + (1 : Nat)) + x3))) : ((9 : Nat) ≤ ((9 : Nat) * (x0 + x1))) := lin [x1, x2, x3, x0] 0 (.c 9 (.a (.a (.v 1) (.n 1)) (.v 2)) (.v 0) .e) (.n 9) (.m 9 (.a (.v 3) (.v 0))) rfl (eqs h0)
theorem w403 {x0 : Nat} {x1 : Nat} {x2 : Nat} (h0 : (x2 ≤ (13 : Nat))) (h1 : ((x0 + x1) ≤ x2)) : (((((10 : Nat) : Nat) : Int) * (((x0 + x1) : Nat) : Int)) ≤ ((2 : Int) ^ 27)) := zle (10 * (x0 + x1)) 134217728 (lin [x2, x0, x1] 0 (.c 10 (.v 0) (.n 13) (.c 10 (.a (.v 1) (.v 2)) (.v 0) .e)) (.m 10 (.a (.v 1) (.v 2))) (.n 134217728) rfl h0 h1)
theorem w404 {x0 : Nat} (h0 : (x0 ≤ (118 : Nat))) : (x0 ≤ (200 : Nat)) := lin [x0] 0 (.c 1 (.v 0) (.n 118) .e) (.v 0) (.n 200) rfl h0
theorem w405 {x0 : Nat} (h0 : (x0 ≤ (117 : Nat))) : (x0 ≤ (200 : Nat)) := lin [x0] 0 (.c 1 (.v 0) (.n 117) .e) (.v 0) (.n 200) rfl h0
theorem w406 {x0 : Nat} (h0 : ((100 : Nat) ≤ x0)) : (((60 : Nat) + (2 : Nat)) ≤ x0) := lin [x0] 0 (.c 1 (.n 100) (.v 0) .e) (.a (.n 60) (.n 2)) (.v 0) rfl h0
theorem w408 {x0 : Nat} {x1 : Nat} {x2 : Nat} {x3 : Nat} {x4 : Nat} {x5 : Nat} (h0 : (x3 ≤ (13 : Nat))) (h1 : ((x0 + x4) ≤ x3)) (h2 : (x5 ≤ x4)) (h3 : (x2 = x5)) : (((min x0 x1) + x2) ≤ (16384 : Nat)) := lin [x3, x0, x4, x5, x2, (min x0 x1), x1] 0 (.c 1 (.v 0) (.n 13) (.c 1 (.a (.v 1) (.v 2)) (.v 0) (.c 1 (.v 3) (.v 2) (.c 1 (.v 4) (.v 3) (.c 1 (.v 5) (.v 1) .e))))) (.a (.v 5) (.v 4)) (.n 16384) rfl h0 h1 h2 (Nat.le_of_eq h3) (Nat.min_le_left x0 x1)
theorem w409 {x0 : Nat} {x1 : Nat} {x2 : Nat} {x3 : Nat} (h0 : (x1 ≤ (13 : Nat))) (h1 : ((x0 + x3) ≤ x1)) (h2 : (x2 ≤ x3)) : (((min x0 x1) + x2) ≤ (13 : Nat)) := lin [x1, x0, x3, x2, (min x0 x1)] 0 (.c 1 (.v 0) (.n 13) (.c 1 (.a (.v 1) (.v 2)) (.v 0) (.c 1 (.v 3) (.v 2) (.c 1 (.v 4) (.v 1) .e)))) (.a (.v 4) (.v 3)) (.n 13) rfl h0 h1 h2 (Nat.min_le_left x0 x1)
theorem w410 {x0 : Nat} (h0 : (x0 ≤ (13 : Nat))) : ((x0 + (2 : Nat)) ≤ (15 : Nat)) := lin [x0] 0 (.c 1 (.v 0) (.n 13) .e) (.a (.v 0) (.n 2)) (.n 15) rfl h0
theorem w411 {x0 : Nat} (h0 : (x0 ≤ (13 : Nat))) : (x0 ≤ (1000 : Nat)) := lin [x0] 0 (.c 1 (.v 0) (.n 13) .e) (.v 0) (.n 1000) rfl h0
theorem w412 {x0 : Nat} (h0 : (x0 ≤ (13 : Nat))) : ((x0 + (1 : Nat)) ≤ (60 : Nat)) := lin [x0] 0 (.c 1 (.v 0) (.n 13) .e) (.a (.v 0) (.n 1)) (.n 60) rfl h0
theorem w415 {x0 : Nat} {x1 : Nat} {x2 : Nat} (h0 : (x0 ≤ (13 : Nat))) : (((9 : Nat) * (x0 - (x1 + x2))) ≤ (117 : Nat)) := lin [x0, x1, x2, (x0 - (x1 + x2))] 0 (.c 9 (.v 0) (.n 13) (.c 9 (.v 3) (.v 0) .e)) (.m 9 (.v 3)) (.n 117) rfl h0 (Nat.sub_le x0 (x1 + x2))
theorem w416 {x0 : Nat} {x1 : Nat} {x2 : Nat} {x3 : Nat} {x4 : Nat} (h0 : (x1 ≤ (13 : Nat))) (h1 : ((x2 + x3) ≤ x1)) (h2 : (x4 ≤ x3)) (h3 : (x0 = x4)) : (x0 ≤ (16384 : Nat)) := lin [x1, x2, x3, x4, x0] 0 (.c 1 (.v 0) (.n 13) (.c 1 (.a (.v 1) (.v 2)) (.v 0) (.c 1 (.v 3) (.v 2) (.c 1 (.v 4) (.v 3) .e)))) (.v 4) (.n 16384) rfl h0 h1 h2 (Nat.le_of_eq h3)
theorem w417 {x0 : Nat} {x1 : Nat} : ((0 : Int) ≤ (((x0 : Nat) : Int) + ((x1 : Nat) : Int))) := zle 0 (x0 + x1) (lin [x0, x1] 0 .e (.n 0) (.a (.v 0) (.v 1)) rfl )
theorem w419 {x0 : Nat} {x1 : Nat} {x2 : Nat} {x3 : Nat} (h0 : (x1 ≤ (13 : Nat))) (h1 : ((x2 + x3) ≤ x1)) (h2 : (x0 ≤ x2)) : (x0 ≤ (16384 : Nat)) := lin [x1, x2, x3, x0] 0 (.c 1 (.v 0) (.n 13) (.c 1 (.a (.v 1) (.v 2)) (.v 0) (.c 1 (.v 3) (.v 1) .e))) (.v 3) (.n 16384) rfl h0 h1 h2
theorem w420 {x0 : Nat} {x1 : Nat} {x2 : Nat} (h0 : (x2 = x1)) (h1 : (x0 < x2)) : (x0 ≤ x1) := lin [x2, x1, x0] 0 (.c 1 (.v 0) (.v 1) (.c 1 (.a (.v 2) (.n 1)) (.v 0) .e)) (.v 2) (.v 1) rfl (Nat.le_of_eq h0) h1
theorem w421 {x0 : Nat} {x1 : Nat} (h0 : ((x1 - (0 : Nat)) ≤ x0)) : (¬ (x0 < x1)) := Nat.not_lt.2 (lin [(x1 - 0), x0, x1] 0 (.c 1 (.v 0) (.v 1) (.c 1 (.v 2) (.a (.v 0) (.n 0)) .e)) (.v 2) (.v 1) rfl h0 (le_sub_add x1 0))
theorem w422 {x0 : Nat} {x1 : Nat} {x2 : Nat} {x3 : Nat} (h0 : (x0 = x3)) (h1 : (x1 < x0)) (h2 : (x2 = ((x3 - (1 : Nat)) - x1))) : (((((x0 : Nat) : Int) - (1 : Int)) + (((x1 : Nat) : Int) * (-(1 : Int)))) = ((x2 : Nat) : Int)) := Int.le_antisymm (liz [((x0 : Nat) : Int), ((x3 : Nat) : Int), ((x1 : Nat) : Int), ((x2 : Nat) : Int), ((((x3 - 1) - x1) : Nat) : Int), (((x3 - 1) : Nat) : Int)] 0 (.c 1 (.v 0) (.v 1) (.c 1 (.v 4) (.v 3) (.c 1 (.v 1) (.a (.v 5) (.n 1)) (.c 1 (.v 5) (.a (.v 4) (.v 2)) .e)))) (.a (.s (.v 0) (.n 1)) (.r (.v 2) (-1))) (.v 3) rfl (zle x0 x3 (Nat.le_of_eq h0)) (zle ((x3 - 1) - x1) x2 (eqs h2)) (zle x3 ((x3 - 1) + 1) (le_sub_add x3 1)) (zle (x3 - 1) (((x3 - 1) - x1) + x1) (le_sub_add (x3 - 1) x1))) (liz [((x0 : Nat) : Int), ((x3 : Nat) : Int), ((x1 : Nat) : Int), ((x2 : Nat) : Int), ((((x3 - 1) - x1) : Nat) : Int), (((x3 - 1) : Nat) : Int)] 0 (.c 1 (.v 1) (.v 0) (.c 1 (.v 3) (.v 4) (.c 1 (.a (.v 5) (.n 1)) (.v 1) (.c 1 (.a (.v 4) (.v 2)) (.v 5) .e)))) (.v 3) (.a (.s (.v 0) (.n 1)) (.r (.v 2) (-1))) rfl (zle x3 x0 (eqs h0)) (zle x2 ((x3 - 1) - x1) (Nat.le_of_eq h2)) (zle ((x3 - 1) + 1) x3 (sub_add_le (lin [x0, x3, x1, x2, ((x3 - 1) - x1), (x3 - 1)] 0 (.c 1 (.v 0) (.v 1) (.c 1 (.a (.v 2) (.n 1)) (.v 0) .e)) (.n 1) (.v 1) rfl (Nat.le_of_eq h0) h1))) (zle (((x3 - 1) - x1) + x1) (x3 - 1) (sub_add_le (lin [x0, x3, x1, x2, ((x3 - 1) - x1), (x3 - 1)] 0 (.c 1 (.v 0) (.v 1) (.c 1 (.a (.v 2) (.n 1)) (.v 0) (.c 1 (.v 1) (.a (.v 5) (.n 1)) .e))) (.v 2) (.v 5) rfl (Nat.le_of_eq h0) h1 (le_sub_add x3 1)))))
theorem w423 {x0 : Nat} {x1 : Nat} {x2 : Nat} {x3 : Nat} (h0 : (x2 = x1)) (h1 : (x3 < x2)) (h2 : (x0 = ((x1 - (1 : Nat)) - x3))) : (x0 < x1) := lin [x2, x1, x3, x0, ((x1 - 1) - x3), (x1 - 1)] 0 (.c 1 (.v 3) (.v 4) (.c 1 (.a (.v 5) (.n 1)) (.v 1) (.c 1 (.a (.v 4) (.v 2)) (.v 5) .e))) (.a (.v 3) (.n 1)) (.v 1) rfl (Nat.le_of_eq h2) (sub_add_le (lin [x2, x1, x3, x0, ((x1 - 1) - x3), (x1 - 1)] 0 (.c 1 (.v 0) (.v 1) (.c 1 (.a (.v 2) (.n 1)) (.v 0) .e)) (.n 1) (.v 1) rfl (Nat.le_of_eq h0) h1)) (sub_add_le (lin [x2, x1, x3, x0, ((x1 - 1) - x3), (x1 - 1)] 0 (.c 1 (.v 0) (.v 1) (.c 1 (.a (.v 2) (.n 1)) (.v 0) (.c 1 (.v 1) (.a (.v 5) (.n 1)) .e))) (.v 2) (.v 5) rfl (Nat.le_of_eq h0) h1 (le_sub_add x1 1)))
theorem w424 {x0 : Nat} {x1 : Nat} {x2 : Nat} {x3 : Nat} (h0 : (x3 = ((x0 - (1 : Nat)) - x1))) (h1 : ((x0 - (x1 + (1 : Nat))) ≤ x2)) (h2 : (¬ (x3 = x2))) : ((x0 - x1) ≤ x2) := (Nat.lt_or_gt_of_ne h2).elim (fun q0 => (Nat.le_total x0 x1).elim (fun q1 => lin [x3, ((x0 - 1) - x1), (x0 - (x1 + 1)), x2, x0, (x0 - 1), x1, (x0 - x1)] 0 (.c 1 (.v 7) (.n 0) .e) (.v 7) (.v 3) rfl (sub_le0 (lin [x3, ((x0 - 1) - x1), (x0 - (x1 + 1)), x2, x0, (x0 - 1), x1, (x0 - x1)] 0 (.c 1 (.v 4) (.v 6) .e) (.v 4) (.v 6) rfl q1))) (fun q1 => lin [x3, ((x0 - 1) - x1), (x0 - (x1 + 1)), x2, x0, (x0 - 1), x1, (x0 - x1)] 0 (.c 1 (.v 1) (.v 0) (.c 1 (.a (.v 0) (.n 1)) (.v 3) (.c 1 (.v 4) (.a (.v 5) (.n 1)) (.c 1 (.v 5) (.a (.v 1) (.v 6)) (.c 1 (.a (.v 7) (.v 6)) (.v 4) .e))))) (.v 7) (.v 3) rfl (eqs h0) q0 (le_sub_add x0 1) (le_sub_add (x0 - 1) x1) (sub_add_le (lin [x3, ((x0 - 1) - x1), (x0 - (x1 + 1)), x2, x0, (x0 - 1), x1, (x0 - x1)] 0 (.c 1 (.v 6) (.v 4) .e) (.v 6) (.v 4) rfl q1)))) (fun q0 => (Nat.le_total x0 1).elim (fun q1 => lin [x3, ((x0 - 1) - x1), (x0 - (x1 + 1)), x2, x0, (x0 - 1), x1, (x0 - x1)] 0 (.c 1 (.v 7) (.n 0) .e) (.v 7) (.v 3) rfl (sub_le0 (lin [x3, ((x0 - 1) - x1), (x0 - (x1 + 1)), x2, x0, (x0 - 1), x1, (x0 - x1)] 0 (.c 1 (.v 0) (.v 1) (.c 1 (.a (.v 3) (.n 1)) (.v 0) (.c 1 (.v 4) (.n 1) (.c 1 (.v 1) (.n 0) .e)))) (.v 4) (.v 6) rfl (Nat.le_of_eq h0) q0 q1 (sub_le0 (lin [x3, ((x0 - 1) - x1), (x0 - (x1 + 1)), x2, x0, (x0 - 1), x1, (x0 - x1)] 0 (.c 1 (.v 5) (.n 0) .e) (.v 5) (.v 6) rfl (sub_le0 (lin [x3, ((x0 - 1) - x1), (x0 - (x1 + 1)), x2, x0, (x0 - 1), x1, (x0 - x1)] 0 (.c 1 (.v 4) (.n 1) .e) (.v 4) (.n 1) rfl q1))))))) (fun q1 => False.elim (no1 (lin [x3, ((x0 - 1) - x1), (x0 - (x1 + 1)), x2, x0, (x0 - 1), x1, (x0 - x1)] 0 (.c 1 (.v 0) (.v 1) (.c 1 (.v 2) (.v 3) (.c 1 (.a (.v 3) (.n 1)) (.v 0) (.c 1 (.a (.v 5) (.n 1)) (.v 4) (.c 1 (.a (.v 1) (.v 6)) (.v 5) (.c 1 (.v 4) (.a (.v 2) (.a (.v 6) (.n 1))) .e)))))) (.n 1) (.n 0) rfl (Nat.le_of_eq h0) h1 q0 (sub_add_le (lin [x3, ((x0 - 1) - x1), (x0 - (x1 + 1)), x2, x0, (x0 - 1), x1, (x0 - x1)] 0 (.c 1 (.n 1) (.v 4) .e) (.n 1) (.v 4) rfl q1)) (sub_add1 (lin [x3, ((x0 - 1) - x1), (x0 - (x1 + 1)), x2, x0, (x0 - 1), x1, (x0 - x1)] 0 (.c 1 (.v 0) (.v 1) (.c 1 (.a (.v 3) (.n 1)) (.v 0) .e)) (.n 1) (.v 1) rfl (Nat.le_of_eq h0) q0)) (le_sub_add x0 (x1 + 1))))))
theorem w425 {x0 : Nat} {x1 : Nat} (h0 : (x0 = x1)) (h1 : ((0 : Nat) < x1)) : ((0 : Nat) < x0) := lin [x0, x1] 0 (.c 1 (.v 1) (.v 0) (.c 1 (.a (.n 0) (.n 1)) (.v 1) .e)) (.a (.n 0) (.n 1)) (.v 0) rfl (eqs h0) h1
theorem w426 {x0 : Nat} (h0 : (x0 < (256 : Nat))) : (((x0 : Nat) : Int) < (256 : Int)) := zlt x0 256 (lin [x0] 0 (.c 1 (.a (.v 0) (.n 1)) (.n 256) .e) (.a (.v 0) (.n 1)) (.n 256) rfl h0)
theorem w427 {x0 : Nat} {x1 : Nat} (h0 : ((0 : Nat) < x0)) : ((1 : Nat) < (((1 : Nat) + x0) + x1)) := lin [x0, x1] 0 (.c 1 (.a (.n 0) (.n 1)) (.v 0) .e) (.a (.n 1) (.n 1)) (.a (.a (.n 1) (.v 0)) (.v 1)) rfl h0
theorem w428 {x0 : Nat} {x1 : Nat} : (((x0 + (1 : Nat)) + x1) = (x0 + (x1 + (1 : Nat)))) := Nat.le_antisymm (lin [x0, x1] 0 .e (.a (.a (.v 0) (.n 1)) (.v 1)) (.a (.v 0) (.a (.v 1) (.n 1))) rfl ) (lin [x0, x1] 0 .e (.a (.v 0) (.a (.v 1) (.n 1))) (.a (.a (.v 0) (.n 1)) (.v 1)) rfl )
theorem w429 {x0 : Nat} {x1 : Nat} (h0 : ((0 : Nat) < x1)) : ((x0 + (1 : Nat)) < (((1 : Nat) + x0) + x1)) := lin [x1, x0] 0 (.c 1 (.a (.n 0) (.n 1)) (.v 0) .e) (.a (.a (.v 1) (.n 1)) (.n 1)) (.a (.a (.n 1) (.v 1)) (.v 0)) rfl h0
theorem w430 {x0 : Nat} {x1 : Nat} {x2 : Nat} (h0 : (x2 = ((x0 - (1 : Nat)) - x1))) : ((x0 - x1) ≤ (x2 + (1 : Nat))) := (Nat.le_total x0 1).elim (fun q0 => lin [x2, ((x0 - 1) - x1), x0, (x0 - 1), x1, (x0 - x1)] 0 (.c 1 (.v 2) (.n 1) (.c 1 (.v 5) (.v 2) .e)) (.v 5) (.a (.v 0) (.n 1)) rfl q0 (Nat.sub_le x0 x1)) (fun q0 => (Nat.le_total x0 x1).elim (fun q1 => lin [x2, ((x0 - 1) - x1), x0, (x0 - 1), x1, (x0 - x1)] 0 (.c 1 (.v 5) (.n 0) .e) (.v 5) (.a (.v 0) (.n 1)) rfl (sub_le0 (lin [x2, ((x0 - 1) - x1), x0, (x0 - 1), x1, (x0 - x1)] 0 (.c 1 (.v 2) (.v 4) .e) (.v 2) (.v 4) rfl q1))) (fun q1 => lin [x2, ((x0 - 1) - x1), x0, (x0 - 1), x1, (x0 - x1)] 0 (.c 1 (.v 1) (.v 0) (.c 1 (.v 2) (.a (.v 3) (.n 1)) (.c 1 (.v 3) (.a (.v 1) (.v 4)) (.c 1 (.a (.v 5) (.v 4)) (.v 2) .e)))) (.v 5) (.a (.v 0) (.n 1)) rfl (eqs h0) (le_sub_add x0 1) (le_sub_add (x0 - 1) x1) (sub_add_le (lin [x2, ((x0 - 1) - x1), x0, (x0 - 1), x1, (x0 - x1)] 0 (.c 1 (.v 4) (.v 2) .e) (.v 4) (.v 2) rfl q1))))
theorem w431 {x0 : Nat} {x1 : Nat} {x2 : Nat} {x3 : Nat} (h0 : ((x0 + (((1 : Nat) + x2) + x3)) ≤ x1)) (h1 : ((0 : Nat) < x2)) : ((x0 + (1 : Nat)) < x1) := lin [x0, x2, x3, x1] 0 (.c 1 (.a (.v 0) (.a (.a (.n 1) (.v 1)) (.v 2))) (.v 3) (.c 1 (.a (.n 0) (.n 1)) (.v 1) .e)) (.a (.a (.v 0) (.n 1)) (.n 1)) (.v 3) rfl h0 h1
theorem w432 {x0 : Nat} {x1 : Nat} {x2 : Nat} {x3 : Nat} (h0 : (x2 = ((x0 - (1 : Nat)) - x1))) : ((x0 - x1) ≤ ((x2 + (1 : Nat)) + x3)) := (Nat.le_total x0 1).elim (fun q0 => lin [x2, ((x0 - 1) - x1), x0, (x0 - 1), x1, (x0 - x1), x3] 0 (.c 1 (.v 2) (.n 1) (.c 1 (.v 5) (.v 2) .e)) (.v 5) (.a (.a (.v 0) (.n 1)) (.v 6)) rfl q0 (Nat.sub_le x0 x1)) (fun q0 => (Nat.le_total x0 x1).elim (fun q1 => lin [x2, ((x0 - 1) - x1), x0, (x0 - 1), x1, (x0 - x1), x3] 0 (.c 1 (.v 5) (.n 0) .e) (.v 5) (.a (.a (.v 0) (.n 1)) (.v 6)) rfl (sub_le0 (lin [x2, ((x0 - 1) - x1), x0, (x0 - 1), x1, (x0 - x1), x3] 0 (.c 1 (.v 2) (.v 4) .e) (.v 2) (.v 4) rfl q1))) (fun q1 => lin [x2, ((x0 - 1) - x1), x0, (x0 - 1), x1, (x0 - x1), x3] 0 (.c 1 (.v 1) (.v 0) (.c 1 (.v 2) (.a (.v 3) (.n 1)) (.c 1 (.v 3) (.a (.v 1) (.v 4)) (.c 1 (.a (.v 5) (.v 4)) (.v 2) .e)))) (.v 5) (.a (.a (.v 0) (.n 1)) (.v 6)) rfl (eqs h0) (le_sub_add x0 1) (le_sub_add (x0 - 1) x1) (sub_add_le (lin [x2, ((x0 - 1) - x1), x0, (x0 - 1), x1, (x0 - x1), x3] 0 (.c 1 (.v 4) (.v 2) .e) (.v 4) (.v 2) rfl q1))))
theorem w433 {x0 : Nat} {x1 : Nat} {x2 : Nat} {x3 : Nat} (h0 : ((x0 + (((1 : Nat) + x1) + x3)) ≤ x2)) (h1 : ((0 : Nat) < x3)) : (((x0 + (1 : Nat)) + x1) < x2) := lin [x0, x1, x3, x2] 0 (.c 1 (.a (.v 0) (.a (.a (.n 1) (.v 1)) (.v 2))) (.v 3) (.c 1 (.a (.n 0) (.n 1)) (.v 2) .e)) (.a (.a (.a (.v 0) (.n 1)) (.v 1)) (.n 1)) (.v 3) rfl h0 h1
theorem w434 {x0 : Nat} {x1 : Nat} {x2 : Nat} : ((x0 + (((1 : Nat) + x1) + x2)) = (((x0 + (1 : Nat)) + x1) + x2)) := Nat.le_antisymm (lin [x0, x1, x2] 0 .e (.a (.v 0) (.a (.a (.n 1) (.v 1)) (.v 2))) (.a (.a (.a (.v 0) (.n 1)) (.v 1)) (.v 2)) rfl ) (lin [x0, x1, x2] 0 .e (.a (.a (.a (.v 0) (.n 1)) (.v 1)) (.v 2)) (.a (.v 0) (.a (.a (.n 1) (.v 1)) (.v 2))) rfl )
theorem w435 {x0 : Nat} {x1 : Nat} {x2 : Nat} (h0 : (x1 = x0)) : ((x0 - x1) ≤ x2) := lin [x1, x0, (x0 - x1), x2] 0 (.c 1 (.v 1) (.v 0) (.c 1 (.a (.v 2) (.v 0)) (.v 1) .e)) (.v 2) (.v 3) rfl (eqs h0) (sub_add_le (lin [x1, x0, (x0 - x1), x2] 0 (.c 1 (.v 0) (.v 1) .e) (.v 0) (.v 1) rfl (Nat.le_of_eq h0)))
theorem w436 {x0 : Nat} {x1 : Nat} {x2 : Nat} (h0 : (x0 ≤ x1)) : (x0 ≤ (((1 : Nat) + x1) + x2)) := lin [x0, x1, x2] 0 (.c 1 (.v 0) (.v 1) .e) (.v 0) (.a (.a (.n 1) (.v 1)) (.v 2)) rfl h0
theorem w437 {x0 : Nat} {x1 : Nat} {x2 : Nat} (h0 : (x0 ≤ x2)) : (x0 ≤ (x1 + x2)) := lin [x0, x2, x1] 0 (.c 1 (.v 0) (.v 1) .e) (.v 0) (.a (.v 2) (.v 1)) rfl h0
theorem w438 {x0 : Nat} {x1 : Nat} (h0 : (x1 ≤ x0)) (h1 : ((0 : Nat) < x1)) : (x0 = ((x0 - (1 : Nat)) + (1 : Nat))) := Nat.le_antisymm (lin [x1, x0, (x0 - 1)] 0 (.c 1 (.v 1) (.a (.v 2) (.n 1)) .e) (.v 1) (.a (.v 2) (.n 1)) rfl (le_sub_add x0 1)) (lin [x1, x0, (x0 - 1)] 0 (.c 1 (.a (.v 2) (.n 1)) (.v 1) .e) (.a (.v 2) (.n 1)) (.v 1) rfl (sub_add_le (lin [x1, x0, (x0 - 1)] 0 (.c 1 (.v 0) (.v 1) (.c 1 (.a (.n 0) (.n 1)) (.v 0) .e)) (.n 1) (.v 1) rfl h0 h1)))
theorem w439 {x0 : Nat} {x1 : Nat} {x2 : Nat} {x3 : Nat} (h0 : (x1 ≤ (13 : Nat))) (h1 : (((x2 + x0) + x3) ≤ x1)) : (x0 ≤ (13 : Nat)) := lin [x1, x2, x0, x3] 0 (.c 1 (.v 0) (.n 13) (.c 1 (.a (.a (.v 1) (.v 2)) (.v 3)) (.v 0) .e)) (.v 2) (.n 13) rfl h0 h1
theorem w440 {x0 : Nat} {x1 : Nat} (h0 : (x0 = x1)) (h1 : ((2 : Nat) ≤ x1)) : ((1 : Int) < ((x0 : Nat) : Int)) := zlt 1 x0 (lin [x0, x1] 0 (.c 1 (.v 1) (.v 0) (.c 1 (.n 2) (.v 1) .e)) (.a (.n 1) (.n 1)) (.v 0) rfl (eqs h0) h1)
theorem w441 {x0 : Nat} (h0 : ((2 : Nat) ≤ x0)) : ((1 : Nat) ≤ x0) := lin [x0] 0 (.c 1 (.n 2) (.v 0) .e) (.n 1) (.v 0) rfl h0
theorem w442 {x0 : Nat} (h0 : ((1 : Nat) ≤ x0)) : ((1 : Nat) ≤ x0) := lin [x0] 0 (.c 1 (.n 1) (.v 0) .e) (.n 1) (.v 0) rfl h0
theorem w443 {x0 : Nat} {x1 : Nat} (h0 : (((x1 + ((0 : Nat) + (1 : Nat))) + ((0 : Nat) + (1 : Nat))) ≤ (13 : Nat))) (h1 : (((x0 + ((0 : Nat) + (1 : Nat))) + ((0 : Nat) + (1 : Nat))) = ((x1 + ((0 : Nat) + (1 : Nat))) + ((0 : Nat) + (1 : Nat))))) : (x0 ≤ (16383 : Nat)) := lin [x1, x0] 0 (.c 1 (.a (.a (.v 0) (.a (.n 0) (.n 1))) (.a (.n 0) (.n 1))) (.n 13) (.c 1 (.a (.a (.v 1) (.a (.n 0) (.n 1))) (.a (.n 0) (.n 1))) (.a (.a (.v 0) (.a (.n 0) (.n 1))) (.a (.n 0) (.n 1))) .e)) (.v 1) (.n 16383) rfl h0 (Nat.le_of_eq h1)
theorem w444 {x0 : Nat} {x1 : Nat} (h0 : (((x1 + ((0 : Nat) + (1 : Nat))) + ((0 : Nat) + (1 : Nat))) ≤ (13 : Nat))) (h1 : (((x0 + ((0 : Nat) + (1 : Nat))) + ((0 : Nat) + (1 : Nat))) = ((x1 + ((0 : Nat) + (1 : Nat))) + ((0 : Nat) + (1 : Nat))))) : (x0 ≤ (16384 : Nat)) := lin [x1, x0] 0 (.c 1 (.a (.a (.v 0) (.a (.n 0) (.n 1))) (.a (.n 0) (.n 1))) (.n 13) (.c 1 (.a (.a (.v 1) (.a (.n 0) (.n 1))) (.a (.n 0) (.n 1))) (.a (.a (.v 0) (.a (.n 0) (.n 1))) (.a (.n 0) (.n 1))) .e)) (.v 1) (.n 16384) rfl h0 (Nat.le_of_eq h1)
theorem w445 {x0 : Nat} {x1 : Nat} {x2 : Nat} {x3 : Nat} (h0 : (x2 ≤ (x1 + (1 : Nat)))) (h1 : (x3 ≤ x2)) (h2 : (x0 < x3)) : (x0 ≤ x1) := lin [x2, x1, x3, x0] 0 (.c 1 (.v 0) (.a (.v 1) (.n 1)) (.c 1 (.v 2) (.v 0) (.c 1 (.a (.v 3) (.n 1)) (.v 2) .e))) (.v 3) (.v 1) rfl h0 h1 h2
theorem w446 {x0 : Nat} {x1 : Nat} {x2 : Nat} (h0 : (x1 ≤ (13 : Nat))) (h1 : (x2 ≤ x1)) (h2 : (x0 < x2)) : (x0 ≤ (13 : Nat)) := lin [x1, x2, x0] 0 (.c 1 (.v 0) (.n 13) (.c 1 (.v 1) (.v 0) (.c 1 (.a (.v 2) (.n 1)) (.v 1) .e))) (.v 2) (.n 13) rfl h0 h1 h2
theorem w447 {x0 : Nat} {x1 : Nat} : ((((x0 : Nat) : Int) + ((x1 : Nat) : Int)) = (((x0 + x1) : Nat) : Int)) := zeq (x0 + x1) (x0 + x1) (Nat.le_antisymm (lin [x0, x1] 0 .e (.a (.v 0) (.v 1)) (.a (.v 0) (.v 1)) rfl ) (lin [x0, x1] 0 .e (.a (.v 0) (.v 1)) (.a (.v 0) (.v 1)) rfl ))
theorem w448 {x0 : Nat} {x1 : Nat} : ((x0 + (x1 + (1 : Nat))) = ((x0 + (1 : Nat)) + x1)) := Nat.le_antisymm (lin [x0, x1] 0 .e (.a (.v 0) (.a (.v 1) (.n 1))) (.a (.a (.v 0) (.n 1)) (.v 1)) rfl ) (lin [x0, x1] 0 .e (.a (.a (.v 0) (.n 1)) (.v 1)) (.a (.v 0) (.a (.v 1) (.n 1))) rfl )
theorem w449 {x0 : Nat} {x1 : Nat} {x2 : Nat} : ((x0 + ((x1 + (1 : Nat)) + x2)) = (((x0 + x2) + (1 : Nat)) + x1)) := Nat.le_antisymm (lin [x0, x1, x2] 0 .e (.a (.v 0) (.a (.a (.v 1) (.n 1)) (.v 2))) (.a (.a (.a (.v 0) (.v 2)) (.n 1)) (.v 1)) rfl ) (lin [x0, x1, x2] 0 .e (.a (.a (.a (.v 0) (.v 2)) (.n 1)) (.v 1)) (.a (.v 0) (.a (.a (.v 1) (.n 1)) (.v 2))) rfl )
theorem w450 {x0 : Nat} (h0 : ((3 : Nat) ≤ x0)) : ((1 : Nat) ≤ x0) := lin [x0] 0 (.c 1 (.n 3) (.v 0) .e) (.n 1) (.v 0) rfl h0
theorem w451 {x0 : Nat} {x1 : Nat} (h0 : ((((x1 + ((0 : Nat) + (1 : Nat))) + ((0 : Nat) + (1 : Nat))) + ((0 : Nat) + (1 : Nat))) ≤ (13 : Nat))) (h1 : ((((x0 + ((0 : Nat) + (1 : Nat))) + ((0 : Nat) + (1 : Nat))) + ((0 : Nat) + (1 : Nat))) = (((x1 + ((0 : Nat) + (1 : Nat))) + ((0 : Nat) + (1 : Nat))) + ((0 : Nat) + (1 : Nat))))) : (x0 ≤ (16381 : Nat)) := lin [x1, x0] 0 (.c 1 (.a (.a (.a (.v 0) (.a (.n 0) (.n 1))) (.a (.n 0) (.n 1))) (.a (.n 0) (.n 1))) (.n 13) (.c 1 (.a (.a (.a (.v 1) (.a (.n 0) (.n 1))) (.a (.n 0) (.n 1))) (.a (.n 0) (.n 1))) (.a (.a (.a (.v 0) (.a (.n 0) (.n 1))) (.a (.n 0) (.n 1))) (.a (.n 0) (.n 1))) .e)) (.v 1) (.n 16381) rfl h0 (Nat.le_of_eq h1)
theorem w452 {x0 : Nat} : ((2 : Int) < (((x0 : Nat) : Int) + (3 : Int))) := zlt 2 (x0 + 3) (lin [x0] 0 .e (.a (.n 2) (.n 1)) (.a (.v 0) (.n 3)) rfl )
theorem w453 {x0 : Nat} {x1 : Nat} (h0 : ((((x1 + ((0 : Nat) + (1 : Nat))) + ((0 : Nat) + (1 : Nat))) + ((0 : Nat) + (1 : Nat))) ≤ (13 : Nat))) (h1 : ((((x0 + ((0 : Nat) + (1 : Nat))) + ((0 : Nat) + (1 : Nat))) + ((0 : Nat) + (1 : Nat))) = (((x1 + ((0 : Nat) + (1 : Nat))) + ((0 : Nat) + (1 : Nat))) + ((0 : Nat) + (1 : Nat))))) : (x0 ≤ (16382 : Nat)) := lin [x1, x0] 0 (.c 1 (.a (.a (.a (.v 0) (.a (.n 0) (.n 1))) (.a (.n 0) (.n 1))) (.a (.n 0) (.n 1))) (.n 13) (.c 1 (.a (.a (.a (.v 1) (.a (.n 0) (.n 1))) (.a (.n 0) (.n 1))) (.a (.n 0) (.n 1))) (.a (.a (.a (.v 0) (.a (.n 0) (.n 1))) (.a (.n 0) (.n 1))) (.a (.n 0) (.n 1))) .e)) (.v 1) (.n 16382) rfl h0 (Nat.le_of_eq h1)
theorem w454 {x0 : Nat} {x1 : Nat} (h0 : ((((x1 + ((0 : Nat) + (1 : Nat))) + ((0 : Nat) + (1 : Nat))) + ((0 : Nat) + (1 : Nat))) ≤ (13 : Nat))) (h1 : ((((x0 + ((0 : Nat) + (1 : Nat))) + ((0 : Nat) + (1 : Nat))) + ((0 : Nat) + (1 : Nat))) = (((x1 + ((0 : Nat) + (1 : Nat))) + ((0 : Nat) + (1 : Nat))) + ((0 : Nat) + (1 : Nat))))) : (x0 ≤ (16383 : Nat)) := lin [x1, x0] 0 (.c 1 (.a (.a (.a (.v 0) (.a (.n 0) (.n 1))) (.a (.n 0) (.n 1))) (.a (.n 0) (.n 1))) (.n 13) (.c 1 (.a (.a (.a (.v 1) (.a (.n 0) (.n 1))) (.a (.n 0) (.n 1))) (.a (.n 0) (.n 1))) (.a (.a (.a (.v 0) (.a (.n 0) (.n 1))) (.a (.n 0) (.n 1))) (.a (.n 0) (.n 1))) .e)) (.v 1) (.n 16383) rfl h0 (Nat.le_of_eq h1)
theorem w455 {x0 : Nat} {x1 : Nat} (h0 : ((((x1 + ((0 : Nat) + (1 : Nat))) + ((0 : Nat) + (1 : Nat))) + ((0 : Nat) + (1 : Nat))) ≤ (13 : Nat))) (h1 : ((((x0 + ((0 : Nat) + (1 : Nat))) + ((0 : Nat) + (1 : Nat))) + ((0 : Nat) + (1 : Nat))) = (((x1 + ((0 : Nat) + (1 : Nat))) + ((0 : Nat) + (1 : Nat))) + ((0 : Nat) + (1 : Nat))))) : (x0 ≤ (16384 : Nat)) := lin [x1, x0] 0 (.c 1 (.a (.a (.a (.v 0) (.a (.n 0) (.n 1))) (.a (.n 0) (.n 1))) (.a (.n 0) (.n 1))) (.n 13) (.c 1 (.a (.a (.a (.v 1) (.a (.n 0) (.n 1))) (.a (.n 0) (.n 1))) (.a (.n 0) (.n 1))) (.a (.a (.a (.v 0) (.a (.n 0) (.n 1))) (.a (.n 0) (.n 1))) (.a (.n 0) (.n 1))) .e)) (.v 1) (.n 16384) rfl h0 (Nat.le_of_eq h1)
theorem w456 {x0 : Nat} {x1 : Nat} (h0 : (x0 = x1)) (h1 : (x1 < (3 : Nat))) : (((x0 : Nat) : Int) ≤ (2 : Int)) := zle x0 2 (lin [x0, x1] 0 (.c 1 (.v 0) (.v 1) (.c 1 (.a (.v 1) (.n 1)) (.n 3) .e)) (.v 0) (.n 2) rfl (Nat.le_of_eq h0) h1)
theorem w457 {x0 : Nat} {x1 : Nat} {x2 : Nat} {x3 : Nat} {x4 : Nat} (h0 : (((x2 + x3) + x4) ≤ x1)) (h1 : (x0 ≤ x4)) (h2 : ((0 : Nat) < x2)) : (x0 < x1) := lin [x2, x3, x4, x1, x0] 0 (.c 1 (.a (.a (.v 0) (.v 1)) (.v 2)) (.v 3) (.c 1 (.v 4) (.v 2) (.c 1 (.a (.n 0) (.n 1)) (.v 0) .e))) (.a (.v 4) (.n 1)) (.v 3) rfl h0 h1 h2
theorem w458 {x0 : Nat} {x1 : Nat} (h0 : ((x1 + ((0 : Nat) + (1 : Nat))) ≤ (13 : Nat))) (h1 : ((x0 + ((0 : Nat) + (1 : Nat))) = (x1 + ((0 : Nat) + (1 : Nat))))) : (x0 ≤ (16384 : Nat)) := lin [x1, x0] 0 (.c 1 (.a (.v 0) (.a (.n 0) (.n 1))) (.n 13) (.c 1 (.a (.v 1) (.a (.n 0) (.n 1))) (.a (.v 0) (.a (.n 0) (.n 1))) .e)) (.v 1) (.n 16384) rfl h0 (Nat.le_of_eq h1)
theorem w459 {x0 : Nat} {x1 : Nat} {x2 : Nat} {x3 : Nat} (h0 : (x2 ≤ (13 : Nat))) (h1 : (x3 ≤ x2)) (h2 : ((((1 : Nat) + x0) + x1) ≤ x3)) : (((x0 + x1) + (1 : Nat)) ≤ (13 : Nat)) := lin [x2, x3, x0, x1] 0 (.c 1 (.v 0) (.n 13) (.c 1 (.v 1) (.v 0) (.c 1 (.a (.a (.n 1) (.v 2)) (.v 3)) (.v 1) .e))) (.a (.a (.v 2) (.v 3)) (.n 1)) (.n 13) rfl h0 h1 h2
theorem w460 {x0 : Nat} {x1 : Nat} (h0 : (((x0 + x1) + (1 : Nat)) ≤ (13 : Nat))) : (((1 : Nat) + x0) ≤ (16384 : Nat)) := lin [x0, x1] 0 (.c 1 (.a (.a (.v 0) (.v 1)) (.n 1)) (.n 13) .e) (.a (.n 1) (.v 0)) (.n 16384) rfl h0
theorem w461 {x0 : Nat} {x1 : Nat} (h0 : (((x0 + x1) + (1 : Nat)) ≤ (13 : Nat))) : ((((1 : Nat) + x0) + x1) ≤ (16384 : Nat)) := lin [x0, x1] 0 (.c 1 (.a (.a (.v 0) (.v 1)) (.n 1)) (.n 13) .e) (.a (.a (.n 1) (.v 0)) (.v 1)) (.n 16384) rfl h0
theorem w462 {x0 : Nat} (h0 : ((x0 + ((0 : Nat) + (1 : Nat))) ≤ (13 : Nat))) : (x0 ≤ (13 : Nat)) := lin [x0] 0 (.c 1 (.a (.v 0) (.a (.n 0) (.n 1))) (.n 13) .e) (.v 0) (.n 13) rfl h0
theorem w463 {x0 : Nat} {x1 : Nat} {x2 : Nat} : ((x0 + (x1 + x2)) = ((x0 + x2) + x1)) := Nat.le_antisymm (lin [x0, x1, x2] 0 .e (.a (.v 0) (.a (.v 1) (.v 2))) (.a (.a (.v 0) (.v 2)) (.v 1)) rfl ) (lin [x0, x1, x2] 0 .e (.a (.a (.v 0) (.v 2)) (.v 1)) (.a (.v 0) (.a (.v 1) (.v 2))) rfl )
theorem w464 {x0 : Nat} {x1 : Nat} (h0 : ((0 : Nat) < x1)) (h1 : (x0 ≤ (x1 - (1 : Nat)))) : (x0 < x1) := lin [x1, x0, (x1 - 1)] 0 (.c 1 (.v 1) (.v 2) (.c 1 (.a (.v 2) (.n 1)) (.v 0) .e)) (.a (.v 1) (.n 1)) (.v 0) rfl h1 (sub_add_le (lin [x1, x0, (x1 - 1)] 0 (.c 1 (.a (.n 0) (.n 1)) (.v 0) .e) (.n 1) (.v 0) rfl h0))
theorem w465 {x0 : Nat} {x1 : Nat} (h0 : (x0 < x1)) : (x0 ≤ (x1 - (1 : Nat))) := lin [x0, x1, (x1 - 1)] 0 (.c 1 (.a (.v 0) (.n 1)) (.v 1) (.c 1 (.v 1) (.a (.v 2) (.n 1)) .e)) (.v 0) (.v 2) rfl h0 (le_sub_add x1 1)
theorem w466 {x0 : Nat} (h0 : (x0 ≤ (1000000 : Nat))) : (x0 ≤ (16777216 : Nat)) := lin [x0] 0 (.c 1 (.v 0) (.n 1000000) .e) (.v 0) (.n 16777216) rfl h0
theorem w467 {x0 : Nat} (h0 : (x0 ≤ (13 : Nat))) : ((((x0 : Nat) : Int) + (1 : Int)) ≤ (16384 : Int)) := zle (x0 + 1) 16384 (lin [x0] 0 (.c 1 (.v 0) (.n 13) .e) (.a (.v 0) (.n 1)) (.n 16384) rfl h0)
theorem w468 {x0 : Nat} : ((((x0 : Nat) : Int) + (1 : Int)) = ((((0 : Nat) + (x0 + (1 : Nat))) : Nat) : Int)) := zeq (x0 + 1) (0 + (x0 + 1)) (Nat.le_antisymm (lin [x0] 0 .e (.a (.v 0) (.n 1)) (.a (.n 0) (.a (.v 0) (.n 1))) rfl ) (lin [x0] 0 .e (.a (.n 0) (.a (.v 0) (.n 1))) (.a (.v 0) (.n 1)) rfl ))
theorem w469 {x0 : Nat} {x1 : Nat} (h0 : (x0 ≤ (x1 * (2000 : Nat)))) : (x0 ≤ ((x1 * (2000 : Nat)) + (0 : Nat))) := lin [x0, x1] 0 (.c 1 (.v 0) (.r (.v 1) 2000) .e) (.v 0) (.a (.r (.v 1) 2000) (.n 0)) rfl h0
theorem w470 {x0 : Nat} {x1 : Nat} (h0 : (x1 ≤ (13 : Nat))) (h1 : (x0 ≤ x1)) : (x0 ≤ (16384 : Nat)) := lin [x1, x0] 0 (.c 1 (.v 0) (.n 13) (.c 1 (.v 1) (.v 0) .e)) (.v 1) (.n 16384) rfl h0 h1
theorem w471 {x0 : Nat} {x1 : Nat} {x2 : Nat} (h0 : (x1 ≤ (13 : Nat))) (h1 : (x2 < (x1 + (1 : Nat)))) (h2 : (x0 = x2)) : (x0 ≤ (13 : Nat)) := lin [x1, x2, x0] 0 (.c 1 (.v 0) (.n 13) (.c 1 (.a (.v 1) (.n 1)) (.a (.v 0) (.n 1)) (.c 1 (.v 2) (.v 1) .e))) (.v 2) (.n 13) rfl h0 h1 (Nat.le_of_eq h2)
theorem w472 {x0 : Nat} {x1 : Nat} (h0 : (x1 ≤ (13 : Nat))) (h1 : (x0 = x1)) : (((1 : Nat) + x0) ≤ (16384 : Nat)) := lin [x1, x0] 0 (.c 1 (.v 0) (.n 13) (.c 1 (.v 1) (.v 0) .e)) (.a (.n 1) (.v 1)) (.n 16384) rfl h0 (Nat.le_of_eq h1)
theorem w473 {x0 : Nat} {x1 : Nat} (h0 : ((x0 + (1 : Nat)) ≤ x1)) : ((((x0 : Nat) : Int) + (1 : Int)) ≤ ((x1 : Nat) : Int)) := zle (x0 + 1) x1 (lin [x0, x1] 0 (.c 1 (.a (.v 0) (.n 1)) (.v 1) .e) (.a (.v 0) (.n 1)) (.v 1) rfl h0)
theorem w475 {x0 : Nat} {x1 : Nat} {x2 : Nat} {x3 : Nat} (h0 : (x3 ≤ ((x1 * (2000 : Nat)) + x2))) (h1 : (x0 ≤ (x3 + (1 : Nat)))) : (x0 ≤ ((x1 * (2000 : Nat)) + (x2 + (1 : Nat)))) := lin [x3, x1, x2, x0] 0 (.c 1 (.v 0) (.a (.r (.v 1) 2000) (.v 2)) (.c 1 (.v 3) (.a (.v 0) (.n 1)) .e)) (.v 3) (.a (.r (.v 1) 2000) (.a (.v 2) (.n 1))) rfl h0 h1
theorem w476 {x0 : Nat} {x1 : Nat} (h0 : (¬ (x0 = x1))) : (¬ (((x0 : Nat) : Int) = ((x1 : Nat) : Int))) := (Nat.lt_or_gt_of_ne h0).elim (fun q0 => fun q => no1 (lin [x0, x1] 0 (.c 1 (.a (.v 0) (.n 1)) (.v 1) (.c 1 (.v 1) (.v 0) .e)) (.n 1) (.n 0) rfl q0 (eqs (zeq' x0 x1 q)))) (fun q0 => fun q => no1 (lin [x0, x1] 0 (.c 1 (.a (.v 1) (.n 1)) (.v 0) (.c 1 (.v 0) (.v 1) .e)) (.n 1) (.n 0) rfl q0 (Nat.le_of_eq (zeq' x0 x1 q))))
theorem w477 {x0 : Nat} {x1 : Nat} {x2 : Nat} (h0 : (x0 ≤ ((x1 * (2000 : Nat)) + x2))) : (x0 ≤ ((x1 * (2000 : Nat)) + (x2 + (1 : Nat)))) := lin [x0, x1, x2] 0 (.c 1 (.v 0) (.a (.r (.v 1) 2000) (.v 2)) .e) (.v 0) (.a (.r (.v 1) 2000) (.a (.v 2) (.n 1))) rfl h0
theorem w478 {x0 : Nat} {x1 : Nat} (h0 : (x0 < (x1 + (1 : Nat)))) (h1 : (¬ (x0 < x1))) : (x0 = x1) := Nat.le_antisymm (lin [x0, x1] 0 (.c 1 (.a (.v 0) (.n 1)) (.a (.v 1) (.n 1)) .e) (.v 0) (.v 1) rfl h0) (lin [x0, x1] 0 (.c 1 (.v 1) (.v 0) .e) (.v 1) (.v 0) rfl (Nat.not_lt.1 h1))
theorem w479 {x0 : Nat} {x1 : Nat} {x2 : Nat} (h0 : (x2 ≤ (2000 : Nat))) (h1 : (x0 ≤ ((x1 * (2000 : Nat)) + x2))) : (x0 ≤ ((x1 + (1 : Nat)) * (2000 : Nat))) := lin [x2, x0, x1] 0 (.c 1 (.v 0) (.n 2000) (.c 1 (.v 1) (.a (.r (.v 2) 2000) (.v 0)) .e)) (.v 1) (.r (.a (.v 2) (.n 1)) 2000) rfl h0 h1
end Mine
end

section
namespace Mine
open PySem PySem.W PyProof.Rows

/-- an end: nothing but heap and tokens turns -/
inductive TE (g : Array GenState) (d : Drawn) (os : OsState) {α : Type} (Q : α → Heap → Prop) (a : α) (s' : Shared) : Prop
  | mk (h' : Heap) (k' : Nat) (e : s' = ⟨h', g, d, k', os⟩) (q : Q a h') : TE g d os Q a s'
/-- the heap-only triple: no exception leaves, nothing but heap and tokens turns -/
def T (prog : Program) (w : World) (A : Around) {α : Type} (t : Sem α) (Q : α → Heap → Prop) (h : Heap) : Prop :=
  ∀ g d k os, wpAny (model prog w) A t (TE g d os Q) (fun _ _ => False) ⟨h, g, d, k, os⟩

/-- the same for a piece of code -/
def C (prog : Program) (w : World) (A : Around) (c : Code) (Q : Flow → Heap → Prop) (h : Heap) : Prop :=
  ∀ g d k os, codeAny (model prog w) A c (fun r s' => match r with
    | .ok f => TE g d os Q f s'
    | .error _ => False) ⟨h, g, d, k, os⟩

section
variable {prog : Program} {w : World} {A : Around} {h : Heap} {α β : Type}

theorem T_pure {a : α} {Q : α → Heap → Prop} (q : Q a h) : T prog w A (pure a) Q h := fun _ _ _ _ => wpAny_pure ⟨_, _, rfl, q⟩
theorem T_mono {t : Sem α} {Q Q' : α → Heap → Prop} (x : T prog w A t Q h) (m : ∀ a h', Q a h' → Q' a h') : T prog w A t Q' h :=
  fun g d k os => wpAny_mono (x g d k os) (fun _ _ ⟨h', k', e, q⟩ => ⟨h', k', e, m _ _ q⟩) fun _ _ e => e
theorem T_bind {m : Sem α} {f : α → Sem β} {Q : β → Heap → Prop} (x : T prog w A m (fun a h' => T prog w A (f a) Q h') h) : T prog w A (m >>= f) Q h :=
  fun g d k os => wpAny_bind (wpAny_mono (x g d k os) (fun _ _ ⟨_, _, e, q⟩ => by subst e; exact q g d _ os) fun _ _ e => e)
/-- lifting: a rule of the library whose end is (Q v) at the same heap -/
theorem T_wp {t : Sem α} {Q : α → Heap → Prop} (x : ∀ g d k os, wpAny (model prog w) A t (TE g d os Q) (fun _ _ => False) ⟨h, g, d, k, os⟩) : T prog w A t Q h := x
theorem T_then {t : Sem α} {Q : α → Heap → Prop} {g d k os} (x : T prog w A t Q h) : wpAny (model prog w) A t (TE g d os Q) (fun _ _ => False) ⟨h, g, d, k, os⟩ := x g d k os
/-- what stands behind a step, inside a library rule -/
theorem T_next {t : Sem β} {Q : β → Heap → Prop} {g d os} {s' : Shared} (x : ∃ h' k', s' = ⟨h', g, d, k', os⟩ ∧ T prog w A t Q h') :
    wpAny (model prog w) A t (TE g d os Q) (fun _ _ => False) s' := by
  obtain ⟨h', k', rfl, q⟩ := x; exact q g d k' os

/-- what is done behind a step, by its parts: no binder stands in a goal -/
abbrev kC (prog : Program) (w : World) (A : Around) {α β : Type} (t : Sem β) (R : β → Heap → Prop) : α → Heap → Prop := fun _ h => T prog w A t R h
abbrev k1 (prog : Program) (w : World) (A : Around) {α β : Type} (f : α → Sem β) (R : β → Heap → Prop) : α → Heap → Prop := fun a h => T prog w A (f a) R h
abbrev k2 (prog : Program) (w : World) (A : Around) {α β γ : Type} (t : Sem β) (f : α → β → Sem γ) (R : γ → Heap → Prop) : α → Heap → Prop := fun a h => T prog w A t (k1 prog w A (f a) R) h
abbrev kV {α : Type} (v : α) (R : List α → Heap → Prop) : List α → Heap → Prop := fun vs h => R (v :: vs) h
abbrev kA (prog : Program) (w : World) (A : Around) {α : Type} (t : Sem (List α)) (R : List α → Heap → Prop) : α → Heap → Prop := fun v h => T prog w A t (kV v R) h
/-- a letter for what is asked at the end -/
theorem T_gen {α : Type} {t : Sem α} {Q : α → Heap → Prop} (x : ∀ Q' : α → Heap → Prop, (∀ a h', Q a h' → Q' a h') → T prog w A t Q' h) : T prog w A t Q h := x Q fun _ _ q => q
/-- what an execution hands on to the rest of a block -/
def seqQ (prog : Program) (w : World) (A : Around) (rest : List Stmt) (env : Env) (Q : Flow → Heap → Prop) : Flow → Heap → Prop
  | .next, h => T prog w A (execs rest env) Q h
  | .brk, h => Q .brk h
  | .cont, h => Q .cont h
  | .ret v, h => Q (.ret v) h

variable {env : Env} {Q : Flow → Heap → Prop} {rest : List Stmt}

theorem x_nil (q : Q .next h) : T prog w A (execs [] env) Q h := fun _ _ _ _ => wpAny_execs_nil ⟨_, _, rfl, q⟩
theorem x_seq {st : Stmt} (x : T prog w A (exec st env) (seqQ prog w A rest env Q) h) : T prog w A (execs (st :: rest) env) Q h := fun g d k os => by
  refine wpAny_execs_cons (wpAny_mono (x g d k os) (fun f s' hq => ?_) fun _ _ e => e)
  obtain ⟨h', k', rfl, q⟩ := hq
  cases f with
  | next => exact q g d k' os
  | brk => exact ⟨_, _, rfl, q⟩
  | cont => exact ⟨_, _, rfl, q⟩
  | ret v => exact ⟨_, _, rfl, q⟩
theorem x_nil_seq {rest' : List Stmt} (q : T prog w A (execs rest' env) Q h) : T prog w A (execs [] env) (seqQ prog w A rest' env Q) h := x_nil q

theorem x_assign {x : Str} {p p' : Pos} {value : Expr} (q : T prog w A (eval value env) (k1 prog w A (storeName env x) (kC prog w A (execs rest env) Q)) h)
    (hs : swapsWith value (some (.Name x p')) p.line env = pure false := by rfl) : T prog w A (execs (.Assign [.Name x p'] value p :: rest) env) Q h :=
  x_seq fun g d k os => wpAny_Assign_Name (wpAny_mono (q g d k os) (fun v s₁ ⟨h₁, k₁, e, q₁⟩ => by
    subst e; exact wpAny_mono (q₁ g d k₁ os) (fun _ _ ⟨h₂, k₂, e, q₂⟩ => ⟨h₂, k₂, e, q₂⟩) fun _ _ e => e) fun _ _ e => e) hs
theorem x_aug {x : Str} {p p' : Pos} {op : Operator} {value : Expr} (q : T prog w A (loadName env x) (k2 prog w A (eval value env) (inplaceOp op) (k1 prog w A (storeName env x) (kC prog w A (execs rest env) Q))) h) : T prog w A (execs (.AugAssign (.Name x p') op value p :: rest) env) Q h :=
  x_seq fun g d k os => wpAny_AugAssign_Name (wpAny_mono (q g d k os) (fun _ _ ⟨h₁, k₁, e, q₁⟩ => by
    subst e; exact wpAny_mono (q₁ g d k₁ os) (fun _ _ ⟨h₂, k₂, e, q₂⟩ => by
      subst e; exact wpAny_mono (q₂ g d k₂ os) (fun _ _ ⟨h₃, k₃, e, q₃⟩ => by
        subst e; exact wpAny_mono (q₃ g d k₃ os) (fun _ _ ⟨h₄, k₄, e, q₄⟩ => ⟨h₄, k₄, e, q₄⟩) fun _ _ e => e) fun _ _ e => e) fun _ _ e => e) fun _ _ e => e)
theorem x_ret {p : Pos} {value : Expr} (q : T prog w A (eval value env) (fun v h₁ => Q (.ret v) h₁) h) : T prog w A (execs (.Return (some value) p :: rest) env) Q h :=
  x_seq fun g d k os => wpAny_Return_some (wpAny_mono (q g d k os) (fun _ _ ⟨h₁, k₁, e, q₁⟩ => ⟨h₁, k₁, e, q₁⟩) fun _ _ e => e)
theorem x_ret0 {p : Pos} (q : Q (.ret .none) h) : T prog w A (execs (.Return none p :: rest) env) Q h :=
  x_seq fun _ _ _ _ => wpAny_Return_none ⟨_, _, rfl, q⟩
theorem x_brk {p : Pos} (q : Q .brk h) : T prog w A (execs (.Break p :: rest) env) Q h := x_seq fun _ _ _ _ => wpAny_Break ⟨_, _, rfl, q⟩
theorem x_cont {p : Pos} (q : Q .cont h) : T prog w A (execs (.Continue p :: rest) env) Q h := x_seq fun _ _ _ _ => wpAny_Continue ⟨_, _, rfl, q⟩
theorem x_if {p : Pos} {test : Expr} {body orelse : List Stmt} (q : T prog w A (isTrue test env (eval test env)) (k1 prog w A (fun b => execs (cond b body orelse) env) (seqQ prog w A rest env Q)) h) :
    T prog w A (execs (.If test body orelse p :: rest) env) Q h :=
  x_seq fun g d k os => wpAny_If (wpAny_mono (q g d k os) (fun b _ ⟨h₁, k₁, e, q₁⟩ => by subst e; cases b <;> exact q₁ g d k₁ os) fun _ _ e => e)

-- expressions
variable {R : Value → Heap → Prop}
theorem e_int {i : Int} {k : Nat} {pos : Pos} (q : ∀ t, R (.int i t) h) : T prog w A (eval (.Constant (.int i) k pos) env) R h := fun _ _ _ _ => wpAny_Constant_int ⟨_, _, rfl, q _⟩
theorem e_str {x : Str} {k : Nat} {pos : Pos} (q : ∀ t, R (.str x t) h) : T prog w A (eval (.Constant (.str x) k pos) env) R h := fun _ _ _ _ => wpAny_Constant_str ⟨_, _, rfl, q _⟩
theorem e_none {k : Nat} {pos : Pos} (q : R .none h) : T prog w A (eval (.Constant .none k pos) env) R h := fun _ _ _ _ => wpAny_Constant_none ⟨_, _, rfl, q⟩
theorem e_bool {b : Bool} {k : Nat} {pos : Pos} (q : R (.bool b) h) : T prog w A (eval (.Constant (.bool b) k pos) env) R h := fun _ _ _ _ => wpAny_Constant_bool ⟨_, _, rfl, q⟩
theorem e_bin {l r : Expr} {op : Operator} {pos : Pos} (q : T prog w A (eval l env) (k2 prog w A (eval r env) (binaryOp op) R) h) :
    T prog w A (eval (.BinOp l op r pos) env) R h :=
  fun g d k os => wpAny_BinOp (wpAny_mono (q g d k os) (fun _ _ ⟨h₁, k₁, e, q₁⟩ => by subst e; exact wpAny_mono (q₁ g d k₁ os) (fun _ _ ⟨h₂, k₂, e, q₂⟩ => by subst e; exact q₂ g d k₂ os) fun _ _ e => e) fun _ _ e => e)
theorem e_cmp {l r : Expr} {op : CmpOp} {pos : Pos} (q : T prog w A (eval l env) (k2 prog w A (eval r env) (compareOp op) R) h)
    (hm : behindInMarks op r = false := by with_unfolding_all rfl) : T prog w A (eval (.Compare l [op] [r] pos) env) R h :=
  fun g d k os => wpAny_Compare1 (wpAny_mono (q g d k os) (fun _ _ ⟨h₁, k₁, e, q₁⟩ => by subst e; exact wpAny_mono (q₁ g d k₁ os) (fun _ _ ⟨h₂, k₂, e, q₂⟩ => by subst e; exact q₂ g d k₂ os) fun _ _ e => e) fun _ _ e => e) hm
theorem e_ifexp {t b o : Expr} {pos : Pos} (q : T prog w A (isTrue t env (eval t env)) (fun c h₁ => T prog w A (eval (cond c b o) env) R h₁) h) : T prog w A (eval (.IfExp t b o pos) env) R h :=
  fun g d k os => wpAny_IfExp (wpAny_mono (q g d k os) (fun c _ ⟨h₁, k₁, e, q₁⟩ => by subst e; cases c <;> exact q₁ g d k₁ os) fun _ _ e => e)
theorem b_cmp {l r : Expr} {op : CmpOp} {pos : Pos} {whole : Sem Value} {R : Bool → Heap → Prop} (q : T prog w A (eval l env) (k2 prog w A (eval r env) (compareOp op) (k1 prog w A truthy R)) h)
    (hm : behindInMarks op r = false := by with_unfolding_all rfl) : T prog w A (isTrue (.Compare l [op] [r] pos) env whole) R h :=
  fun g d k os => wpAny_isTrue_Compare1 (wpAny_mono (q g d k os) (fun _ _ ⟨h₁, k₁, e, q₁⟩ => by subst e; exact wpAny_mono (q₁ g d k₁ os) (fun _ _ ⟨h₂, k₂, e, q₂⟩ => by
    subst e; exact wpAny_mono (q₂ g d k₂ os) (fun _ _ ⟨h₃, k₃, e, q₃⟩ => by subst e; exact q₃ g d k₃ os) fun _ _ e => e) fun _ _ e => e) fun _ _ e => e) hm
theorem b_bool {b : Bool} {R : Bool → Heap → Prop} (q : R b h) : T prog w A (truthy (.bool b)) R h := fun _ _ _ _ => wpAny_truthy_bool ⟨_, _, rfl, q⟩

-- ints
variable {a b : Int} {t u : Tok}
theorem o_add (q : ∀ k, R (.int (a + b) k) h) : T prog w A (binaryOp .Add (.int a t) (.int b u)) R h := fun _ _ _ _ => add_int ⟨_, _, rfl, q _⟩
theorem o_sub (q : ∀ k, R (.int (a - b) k) h) : T prog w A (binaryOp .Sub (.int a t) (.int b u)) R h := fun _ _ _ _ => sub_int ⟨_, _, rfl, q _⟩
theorem o_mul (hm : IntMulOk a b) (q : ∀ k, R (.int (a * b) k) h) : T prog w A (binaryOp .Mult (.int a t) (.int b u)) R h := fun _ _ _ _ => mul_int ⟨_, _, rfl, q _⟩ hm
theorem o_mod (hb : b ≠ 0) (q : ∀ k, R (.int (a.fmod b) k) h) : T prog w A (binaryOp .Mod (.int a t) (.int b u)) R h := fun _ _ _ _ => mod_int' hb ⟨_, _, rfl, q _⟩
theorem o_fdiv (hb : b ≠ 0) (hp : Builtin.divisionGoesByPylong a b = false) (q : ∀ k, R (.int (a.fdiv b) k) h) : T prog w A (binaryOp .FloorDiv (.int a t) (.int b u)) R h := fun _ _ _ _ => floordiv_int hb ⟨_, _, rfl, q _⟩ (.inl hp)
theorem o_shr (hb : 0 ≤ b) (q : ∀ k, R (.int (a.fdiv (2 ^ b.toNat)) k) h) : T prog w A (binaryOp .RShift (.int a t) (.int b u)) R h := fun _ _ _ _ => rshift_int hb ⟨_, _, rfl, q _⟩
theorem o_shl (hb : 0 ≤ b) (hz : (Builtin.Int.intBits a : Int) + b ≤ 2 ^ 27) (q : ∀ k, R (.int (a * 2 ^ b.toNat) k) h) : T prog w A (binaryOp .LShift (.int a t) (.int b u)) R h := fun _ _ _ _ => lshift_int hb hz ⟨_, _, rfl, q _⟩
theorem o_xor (q : ∀ k, R (.int (Builtin.bitXor a b) k) h) : T prog w A (binaryOp .BitXor (.int a t) (.int b u)) R h := fun _ _ _ _ => xor_int ⟨_, _, rfl, q _⟩
theorem o_pow (hb : 0 ≤ b) (hz : (Builtin.Int.intBits a : Int) * b ≤ 2 ^ 27) (q : ∀ k, R (.int (a ^ b.toNat) k) h) : T prog w A (binaryOp .Pow (.int a t) (.int b u)) R h := fun _ _ _ _ => pow_int hb hz ⟨_, _, rfl, q _⟩
theorem c_lt (q : R (.bool (decide (a < b))) h) : T prog w A (compareOp .Lt (.int a t) (.int b u)) R h := fun _ _ _ _ => lt_int ⟨_, _, rfl, q⟩
theorem c_le (q : R (.bool (decide (a ≤ b))) h) : T prog w A (compareOp .LtE (.int a t) (.int b u)) R h := fun _ _ _ _ => le_int ⟨_, _, rfl, q⟩
theorem c_gt (q : R (.bool (decide (a > b))) h) : T prog w A (compareOp .Gt (.int a t) (.int b u)) R h := fun _ _ _ _ => gt_int ⟨_, _, rfl, q⟩
theorem c_ge (q : R (.bool (decide (a ≥ b))) h) : T prog w A (compareOp .GtE (.int a t) (.int b u)) R h := fun _ _ _ _ => ge_int ⟨_, _, rfl, q⟩
theorem c_eq (q : R (.bool (a == b)) h) : T prog w A (compareOp .Eq (.int a t) (.int b u)) R h := fun _ _ _ _ => eq_int ⟨_, _, rfl, q⟩
theorem c_ne (q : R (.bool (a != b)) h) : T prog w A (compareOp .NotEq (.int a t) (.int b u)) R h := fun _ _ _ _ => ne_int ⟨_, _, rfl, q⟩
end
end Mine
end

section
namespace Mine
/-- the plain side: terms, words, steps -/
inductive Lf | star | tilde | pct | plus | minus | comma
  deriving DecidableEq
inductive Tm | leaf (s : Lf) | app (f x : Tm)
  deriving DecidableEq
def Lf.code : Lf → Nat
  | .star => 16 | .tilde => 31 | .pct => 24 | .plus => 14 | .minus => 15 | .comma => 12
def Lf.cp : Lf → Nat
  | .star => 42 | .tilde => 126 | .pct => 37 | .plus => 43 | .minus => 45 | .comma => 44
theorem Lf.code_lt (s : Lf) : s.code < 256 := by cases s <;> decide
theorem Lf.code_pos (s : Lf) : 0 < s.code := by cases s <;> decide
theorem Lf.cp_lt (s : Lf) : s.cp < 128 := by cases s <;> decide
theorem Lf.cp_ne (s : Lf) : s.cp ≠ 92 := by cases s <;> decide
theorem Lf.cp_inj {s s' : Lf} (h : s.cp = s'.cp) : s = s' := by revert h; cases s <;> cases s' <;> decide
theorem Lf.code_inj {s s' : Lf} (h : s.code = s'.code) : s = s' := by revert h; cases s <;> cases s' <;> decide
namespace Tm
def sz : Tm → Nat
  | leaf _ => 1
  | app f x => 1 + sz f + sz x
def codes : Tm → List Nat
  | leaf s => [s.code]
  | app f x => 256 :: (codes f ++ codes x)
def chars : Tm → List Nat
  | leaf s => [s.cp]
  | app f x => 92 :: (chars f ++ chars x)
theorem sz_pos : ∀ t, 0 < sz t
  | leaf _ => Nat.one_pos
  | app _ _ => by simp only [sz]; (first | exact Mine.w155 | omega)
theorem codes_len : ∀ t, (codes t).length = sz t
  | leaf _ => rfl
  | app f x => by simp only [codes, sz, List.length_cons, List.length_append, codes_len f, codes_len x]; (first | exact Mine.w156 | omega)
theorem chars_len : ∀ t, (chars t).length = sz t
  | leaf _ => rfl
  | app f x => by simp only [chars, sz, List.length_cons, List.length_append, chars_len f, chars_len x]; (first | exact Mine.w156 | omega)
theorem code_ok : ∀ t, ∀ c ∈ codes t, 0 < c ∧ c < 512
  | leaf s, c, h => by simp only [codes, List.mem_singleton] at h; subst h; have := s.code_lt; have := s.code_pos; (first | exact Mine.w157 (by assumption) this | omega)
  | app f x, c, h => by
    simp only [codes, List.mem_cons, List.mem_append] at h
    rcases h with rfl | h | h
    · decide
    · exact code_ok f c h
    · exact code_ok x c h
theorem chars_lt : ∀ t, ∀ c ∈ chars t, c < 128
  | leaf s, c, h => by simp only [chars, List.mem_singleton] at h; subst h; exact s.cp_lt
  | app f x, c, h => by
    simp only [chars, List.mem_cons, List.mem_append] at h
    rcases h with rfl | h | h
    · decide
    · exact chars_lt f c h
    · exact chars_lt x c h
theorem chars_get : ∀ t (i c : Nat), (chars t)[i]? = some c → (c = 92 ∧ (codes t)[i]? = some 256) ∨ ∃ s : Lf, c = s.cp ∧ (codes t)[i]? = some s.code
  | leaf s, i, c, h => by
    cases i with
    | zero => simp [chars] at h; exact .inr ⟨s, h.symm, rfl⟩
    | succ i => simp [chars] at h
  | app f x, i, c, h => by
    cases i with
    | zero => simp [chars] at h; exact .inl ⟨h.symm, rfl⟩
    | succ i =>
      simp only [chars, codes, List.getElem?_cons_succ] at h ⊢
      by_cases hi : i < sz f
      · rw [List.getElem?_append_left (by rw [chars_len]; exact hi)] at h
        rw [List.getElem?_append_left (by rw [codes_len]; exact hi)]; exact chars_get f i c h
      · rw [List.getElem?_append_right (by rw [chars_len]; (first | exact Mine.w12 hi | omega)), chars_len] at h
        rw [List.getElem?_append_right (by rw [codes_len]; (first | exact Mine.w12 hi | omega)), codes_len]; exact chars_get x _ c h
def sub : Tm → Nat → Tm
  | leaf s, _ => leaf s
  | app f x, 0 => app f x
  | app f x, k + 1 => if k < sz f then sub f k else sub x (k - sz f)
def repl : Tm → Nat → Tm → Tm
  | leaf _, _, v => v
  | app _ _, 0, v => v
  | app f x, k + 1, v => if k < sz f then app (repl f k v) x else app f (repl x (k - sz f) v)
theorem sub_zero : ∀ t, sub t 0 = t
  | leaf _ => rfl
  | app _ _ => rfl
theorem repl_zero : ∀ t v, repl t 0 v = v
  | leaf _, _ => rfl
  | app _ _, _ => rfl
theorem sub_le : ∀ t k, k < sz t → k + sz (sub t k) ≤ sz t
  | leaf s, k, h => by simp only [sz] at h; simp only [sub, sz]; (first | exact Mine.w158 h | omega)
  | app f x, 0, _ => by simp [sub]
  | app f x, k + 1, h => by
    simp only [sz] at h
    simp only [sub]
    split
    · rename_i q; have := sub_le f k q; simp only [sz]; (first | exact Mine.w159 this | omega)
    · rename_i q; have := sub_le x (k - sz f) (by first | decide | (first | exact Mine.w160 h q | omega)); simp only [sz]; (first | exact Mine.w161 this | omega)
theorem drop_codes : ∀ t k, k < sz t → (codes t).drop k = codes (sub t k) ++ (codes t).drop (k + sz (sub t k))
  | leaf s, k, h => by
    simp only [sz] at h
    have : k = 0 := by (first | exact Mine.w162 h | omega)
    subst this; simp [sub, codes, sz]
  | app f x, 0, _ => by
    have : (codes (app f x)).length = sz (app f x) := codes_len _
    simp only [sub, List.drop_zero, Nat.zero_add]
    rw [← this, List.drop_length, List.append_nil]
  | app f x, k + 1, h => by
    simp only [sz] at h
    simp only [sub, codes, List.drop_succ_cons]
    have hf := codes_len f
    split
    · rename_i q
      have h1 := drop_codes f k q
      have h2 := sub_le f k q
      rw [show k + 1 + sz (sub f k) = (k + sz (sub f k)) + 1 by (first | exact Mine.w163 | omega), List.drop_succ_cons, List.drop_append_of_le_length (by first | decide | (first | exact Mine.w164 hf q | omega)), List.drop_append_of_le_length (by first | decide | (first | exact Mine.w165 hf h2 | omega)), h1, List.append_assoc]
    · rename_i q
      have h1 := drop_codes x (k - sz f) (by first | decide | (first | exact Mine.w160 h q | omega))
      have e1 : List.drop k (codes f) = [] := List.drop_eq_nil_of_le (by first | decide | (first | exact Mine.w166 hf q | omega))
      have e2 : List.drop (k + sz (sub x (k - sz f))) (codes f) = [] := List.drop_eq_nil_of_le (by first | decide | (first | exact Mine.w167 hf q | omega))
      rw [show k + 1 + sz (sub x (k - sz f)) = (k + sz (sub x (k - sz f))) + 1 by (first | exact Mine.w163 | omega), List.drop_succ_cons, List.drop_append, e1, List.nil_append, hf, h1, List.drop_append, e2, List.nil_append, hf]
      congr 2; (first | exact Mine.w168 q | omega)
theorem codes_repl : ∀ t k v, k < sz t → codes (repl t k v) = (codes t).take k ++ (codes v ++ (codes t).drop (k + sz (sub t k)))
  | leaf s, k, v, h => by
    simp only [sz] at h
    have : k = 0 := by (first | exact Mine.w162 h | omega)
    subst this; simp [sub, codes, sz, repl]
  | app f x, 0, v, _ => by
    have : (codes (app f x)).length = sz (app f x) := codes_len _
    simp only [sub, repl, List.take_zero, Nat.zero_add, List.nil_append]
    rw [← this, List.drop_length, List.append_nil]
  | app f x, k + 1, v, h => by
    simp only [sz] at h
    simp only [sub, repl, codes, List.take_succ_cons]
    have hf := codes_len f
    split
    · rename_i q
      have h1 := codes_repl f k v q
      have h2 := sub_le f k q
      rw [show k + 1 + sz (sub f k) = (k + sz (sub f k)) + 1 by (first | exact Mine.w163 | omega), List.drop_succ_cons, List.drop_append_of_le_length (by first | decide | (first | exact Mine.w165 hf h2 | omega)), List.take_append_of_le_length (by first | decide | (first | exact Mine.w164 hf q | omega)), codes, h1]
      simp only [List.append_assoc, List.cons_append]
    · rename_i q
      have h1 := codes_repl x (k - sz f) v (by first | decide | (first | exact Mine.w160 h q | omega))
      have e3 : List.take k (codes f) = codes f := List.take_of_length_le (by first | decide | (first | exact Mine.w166 hf q | omega))
      have e2 : List.drop (k + sz (sub x (k - sz f))) (codes f) = [] := List.drop_eq_nil_of_le (by first | decide | (first | exact Mine.w167 hf q | omega))
      rw [show k + 1 + sz (sub x (k - sz f)) = (k + sz (sub x (k - sz f))) + 1 by (first | exact Mine.w163 | omega), List.drop_succ_cons, codes, h1, List.drop_append, e2, List.nil_append, List.take_append, e3, hf]
      rw [show k + sz (sub x (k - sz f)) - sz f = k - sz f + sz (sub x (k - sz f)) by (first | exact Mine.w169 q | omega)]
      simp only [List.append_assoc, List.cons_append]
theorem sub_sub : ∀ t k d, k < sz t → d < sz (sub t k) → sub t (k + d) = sub (sub t k) d
  | leaf s, k, d, _, _ => rfl
  | app f x, 0, d, _, _ => by simp [sub]
  | app f x, k + 1, d, h, hd => by
    simp only [sz] at h
    rw [show k + 1 + d = (k + d) + 1 by (first | exact Mine.w163 | omega)]
    simp only [sub] at hd ⊢
    split at hd
    · rename_i q
      have h2 := sub_le f k q
      rw [if_pos (by first | decide | (first | exact Mine.w170 hd h2 | omega)), if_pos q]
      exact sub_sub f k d q hd
    · rename_i q
      have h2 := sub_le x (k - sz f) (by first | decide | (first | exact Mine.w160 h q | omega))
      rw [if_neg (by first | decide | (first | exact Mine.w171 q | omega)), if_neg q, show k + d - sz f = (k - sz f) + d by (first | exact Mine.w169 q | omega)]
      exact sub_sub x (k - sz f) d (by first | decide | (first | exact Mine.w172 hd h2 | omega)) hd
def hd : Tm → Lf
  | leaf s => s
  | app f _ => hd f
def args : Tm → List Tm
  | leaf _ => []
  | app f x => args f ++ [x]
def asz (l : List Tm) : Nat := (l.map sz).sum
theorem codes_sp : ∀ t, codes t = List.replicate (args t).length 256 ++ (hd t).code :: (args t).flatMap codes
  | leaf s => by simp [codes, args, hd]
  | app f x => by
    simp only [codes, args, hd, List.length_append, List.length_cons, List.length_nil, List.flatMap_append, List.flatMap_cons, List.flatMap_nil, List.append_nil]
    rw [codes_sp f, show (args f).length + (0 + 1) = (args f).length + 1 by (first | exact Mine.w173 | omega), List.replicate_succ]
    simp only [List.append_assoc, List.cons_append]
theorem sz_sp : ∀ t, sz t = (args t).length + 1 + asz (args t)
  | leaf s => by simp [sz, args, asz]
  | app f x => by
    have := sz_sp f
    simp only [asz] at this
    simp only [sz, args, asz, List.length_append, List.map_append, List.sum_append, List.length_cons, List.length_nil, List.map_cons, List.map_nil, List.sum_cons, List.sum_nil]; (first | exact Mine.w174 this | omega)
theorem sub_arg : ∀ t j (hj : j < (args t).length), (args t).length + 1 + asz ((args t).take j) < sz t ∧ sub t ((args t).length + 1 + asz ((args t).take j)) = (args t)[j]
  | leaf s, j, hj => by simp [args] at hj
  | app f x, j, hj => by
    have hf := sz_sp f
    have hx := sz_pos x
    simp only [args, List.length_append, List.length_cons, List.length_nil] at hj ⊢
    by_cases q : j < (args f).length
    · obtain ⟨i1, i2⟩ := sub_arg f j q
      rw [List.take_append_of_le_length (by first | decide | (first | exact Mine.w49 q | omega)), List.getElem_append_left q]
      refine ⟨by simp only [sz]; (first | exact Mine.w175 i1 | omega), ?_⟩
      rw [show (args f).length + (0 + 1) + 1 + asz (List.take j (args f)) = ((args f).length + 1 + asz (List.take j (args f))) + 1 by (first | exact Mine.w176 | omega)]
      simp only [sub]; rw [if_pos i1, i2]
    · have q' : j = (args f).length := by (first | exact Mine.w177 hj q | omega)
      subst q'
      rw [List.take_append_of_le_length (by first | decide | (first | exact Mine.w178 | omega)), List.take_length]
      refine ⟨by simp only [sz]; (first | exact Mine.w179 hf hx | omega), ?_⟩
      rw [show (args f).length + (0 + 1) + 1 + asz (args f) = ((args f).length + 1 + asz (args f)) + 1 by (first | exact Mine.w176 | omega)]
      simp only [sub]; rw [if_neg (by first | decide | (first | exact Mine.w180 hf | omega)), show (args f).length + 1 + asz (args f) - sz f = 0 by (first | exact Mine.w181 hf | omega), sub_zero]
      simp
theorem codes_get {t : Tm} {k j : Nat} (hk : k < sz t) (hj : j < sz (sub t k)) : (codes t)[k + j]? = (codes (sub t k))[j]? := by
  rw [← List.getElem?_drop, drop_codes t k hk, List.getElem?_append_left (by rw [codes_len]; exact hj)]
theorem codes_ap {t : Tm} {k j : Nat} (hk : k < sz t) (hj : j < (args (sub t k)).length) : (codes t)[k + j]? = some 256 := by
  have := sz_sp (sub t k)
  rw [codes_get hk (by first | decide | (first | exact Mine.w182 hj this | omega)), codes_sp, List.getElem?_append_left (by simpa using hj), List.getElem?_replicate, if_pos hj]
theorem codes_hd {t : Tm} {k : Nat} (hk : k < sz t) : (codes t)[k + (args (sub t k)).length]? = some (hd (sub t k)).code := by
  have := sz_sp (sub t k)
  rw [codes_get hk (by first | decide | (first | exact Mine.w183 this | omega)), codes_sp, List.getElem?_append_right (by simp)]
  simp
def root : Tm → Option Tm
  | app (app (leaf .pct) x) _ => some x
  | app (app (app (leaf .star) x) y) z => some (app x (app y z))
  | app (app (app (leaf .tilde) x) y) z => some (app (app x z) y)
  | _ => none
def nexts : Tm → List Tm
  | leaf _ => []
  | app f x => (root (app f x)).toList ++ ((nexts f).map (app · x) ++ (nexts x).map (app f ·))
def stepAt (t : Tm) (k : Nat) : Option Tm := (root (sub t k)).map (repl t k)
theorem filterMap_map' {α β γ : Type} (f : β → Option γ) (g : α → β) (l : List α) : (l.map g).filterMap f = l.filterMap (fun a => f (g a)) := by rw [List.filterMap_map]; rfl
theorem filterMap_congr' {α β : Type} {f g : α → Option β} : ∀ {l : List α}, (∀ a ∈ l, f a = g a) → l.filterMap f = l.filterMap g
  | [], _ => rfl
  | a :: l, h => by
    rw [List.filterMap_cons, List.filterMap_cons, h a (.head _), filterMap_congr' fun b hb => h b (.tail _ hb)]
theorem nexts_eq : ∀ t, (List.range (sz t)).filterMap (stepAt t) = nexts t
  | leaf s => by simp [sz, nexts, List.range_succ, stepAt, sub, root]
  | app f x => by
    have i1 := nexts_eq f
    have i2 := nexts_eq x
    rw [show sz (app f x) = (sz f + sz x) + 1 by simp only [sz]; (first | exact Mine.w184 | omega), List.range_succ_eq_map, List.filterMap_cons]
    have e0 : stepAt (app f x) 0 = root (app f x) := by
      simp only [stepAt, sub]
      cases root (app f x) <;> simp [repl]
    have e1 : (List.map Nat.succ (List.range (sz f + sz x))).filterMap (stepAt (app f x)) = (nexts f).map (app · x) ++ (nexts x).map (app f ·) := by
      rw [filterMap_map', List.range_add, List.filterMap_append, filterMap_map']
      congr 1
      · rw [← i1, List.map_filterMap]
        refine filterMap_congr' fun k hk => ?_
        have hk := List.mem_range.mp hk
        simp only [stepAt, sub]; rw [if_pos hk]
        cases root (sub f k) with
        | none => rfl
        | some v => simp [repl, hk]
      · rw [← i2, List.map_filterMap]
        refine filterMap_congr' fun k hk => ?_
        have hk := List.mem_range.mp hk
        have q : ¬ (sz f + k < sz f) := by (first | exact Mine.w185 | omega)
        have q2 : sz f + k - sz f = k := by (first | exact Mine.w186 | omega)
        simp only [stepAt, sub]; rw [if_neg q, q2]
        cases root (sub x k) with
        | none => rfl
        | some v => simp [repl, q, q2]
    rw [e0, e1, nexts]
    cases root (app f x) <;> simp
/-- what the code looks at -/
theorem root_pct {t : Tm} (h1 : hd t = .pct) (h2 : (args t).length = 2) : ∃ x y, args t = [x, y] ∧ root t = some x := by
  match t, h1, h2 with
  | app (app (leaf .pct) x) y, _, _ => exact ⟨x, y, rfl, rfl⟩
  | app (app (app f a) b) c, _, h => simp [args] at h
  | app (leaf _) c, _, h => simp [args] at h
  | leaf _, _, h => simp [args] at h
  | app (app (leaf .star) b) c, h, _ => simp [hd] at h
  | app (app (leaf .tilde) b) c, h, _ => simp [hd] at h
  | app (app (leaf .plus) b) c, h, _ => simp [hd] at h
  | app (app (leaf .minus) b) c, h, _ => simp [hd] at h
  | app (app (leaf .comma) b) c, h, _ => simp [hd] at h
theorem args3 {t : Tm} (h2 : (args t).length = 3) : ∃ x y z, t = app (app (app (leaf (hd t)) x) y) z := by
  match t, h2 with
  | app (app (app (leaf s) x) y) z, _ => exact ⟨x, y, z, rfl⟩
  | app (app (app (app f a) b) c) d, h => simp [args] at h
  | app (app (leaf _) b) c, h => simp [args] at h
  | app (leaf _) c, h => simp [args] at h
  | leaf _, h => simp [args] at h
theorem root_star {t : Tm} (h1 : hd t = .star) (h2 : (args t).length = 3) : ∃ x y z, args t = [x, y, z] ∧ root t = some (app x (app y z)) := by
  obtain ⟨x, y, z, e⟩ := args3 h2
  rw [h1] at e; rw [e]; exact ⟨x, y, z, rfl, rfl⟩
theorem root_tilde {t : Tm} (h1 : hd t = .tilde) (h2 : (args t).length = 3) : ∃ x y z, args t = [x, y, z] ∧ root t = some (app (app x z) y) := by
  obtain ⟨x, y, z, e⟩ := args3 h2
  rw [h1] at e; rw [e]; exact ⟨x, y, z, rfl, rfl⟩
theorem root_some {t v : Tm} (h : root t = some v) : (hd t = .pct ∧ (args t).length = 2) ∨ (hd t = .star ∧ (args t).length = 3) ∨ (hd t = .tilde ∧ (args t).length = 3) := by
  unfold root at h
  split at h
  · exact .inl ⟨rfl, rfl⟩
  · exact .inr (.inl ⟨rfl, rfl⟩)
  · exact .inr (.inr ⟨rfl, rfl⟩)
  · cases h
theorem root_sz {t v : Tm} (h : root t = some v) : sz v ≤ sz t := by
  unfold root at h
  split at h
  · cases h; simp only [sz]; (first | exact Mine.w187 | omega)
  · cases h; simp only [sz]; (first | exact Mine.w188 | omega)
  · cases h; simp only [sz]; (first | exact Mine.w189 | omega)
  · cases h
end Tm
end Mine
end

section
namespace Mine
open PySem PySem.W PyProof.Rows

-- the text's defs, by their places
def body0 : List Stmt := PySem.Challenge.pw_qu0051_01.main.body
def nth {α : Type} (d : α) : List α → Nat → α
  | [], _ => d
  | x :: _, 0 => x
  | _ :: r, n + 1 => nth d r n
def stA (i : Nat) : Stmt := nth (.Pass default) body0 i
def clsBody : Stmt → List Stmt
  | .ClassDef _ _ _ b _ _ _ _ _ _ _ => b
  | _ => []
def bodyOf : Stmt → List Stmt
  | .FunctionDef _ _ b _ _ _ _ _ _ _ => b
  | _ => []
def paramsOf : Stmt → Arguments
  | .FunctionDef _ a _ _ _ _ _ _ _ _ => a
  | _ => default
def scopeOf : Stmt → Scope
  | .FunctionDef _ _ _ _ _ _ s _ _ _ => s
  | _ => default
def nameOfD : Stmt → Str
  | .FunctionDef n _ _ _ _ _ _ _ _ _ => n
  | _ => default
def posOfD : Stmt → Pos
  | .FunctionDef _ _ _ _ _ _ _ _ _ p => p
  | _ => default
def stM (j : Nat) : Stmt := nth (.Pass default) (clsBody (stA 1)) j
def stI (i j : Nat) : Stmt := nth (.Pass default) (bodyOf (stA i)) j

-- names and their values, by places
def lkp : List (Str × NameKind) → List (Option Value) → Str → Option Value
  | (k, _) :: ns, v :: vs, x => if x = k then v else lkp ns vs x
  | _, _, _ => none
theorem lkp_get : ∀ {ns : List (Str × NameKind)} {vs : List (Option Value)} {i : Nat} {x : Str} {k : NameKind} {v : Option Value},
    (ns.map (·.1)).Nodup → ns[i]? = some (x, k) → vs[i]? = some v → lkp ns vs x = v
  | [], _, _, _, _, _, _, h, _ => by simp at h
  | (y, _) :: ns, [], _, _, _, _, _, _, h => by simp at h
  | (y, _) :: ns, u :: vs, 0, x, k, v, _, h, h' => by
    simp at h h'; obtain ⟨rfl, _⟩ := h; subst h'; simp [lkp]
  | (y, _) :: ns, u :: vs, i + 1, x, k, v, nd, h, h' => by
    simp only [List.getElem?_cons_succ] at h h'
    rw [List.map_cons, List.nodup_cons] at nd
    have hne : x ≠ y := by
      rintro rfl
      exact nd.1 (List.mem_map.mpr ⟨_, List.mem_of_getElem? h, rfl⟩)
    simp only [lkp, if_neg hne]
    exact lkp_get nd.2 h h'
theorem lkp_set : ∀ {ns : List (Str × NameKind)} {vs : List (Option Value)} {i : Nat} {x : Str} {k : NameKind} {v : Option Value},
    (ns.map (·.1)).Nodup → ns[i]? = some (x, k) → i < vs.length → (fun y => if y = x then v else lkp ns vs y) = lkp ns (vs.set i v)
  | [], _, _, _, _, _, _, h, _ => by simp at h
  | (y, _) :: ns, [], _, _, _, _, _, _, h => by simp at h
  | (y, _) :: ns, u :: vs, 0, x, k, v, _, h, h' => by
    simp at h; obtain ⟨rfl, _⟩ := h
    funext z; simp only [List.set_cons_zero, lkp]; split <;> rfl
  | (y, _) :: ns, u :: vs, i + 1, x, k, v, nd, h, h' => by
    simp only [List.getElem?_cons_succ] at h
    simp only [List.length_cons, Nat.add_lt_add_iff_right] at h'
    rw [List.map_cons, List.nodup_cons] at nd
    have hne : x ≠ y := by
      rintro rfl
      exact nd.1 (List.mem_map.mpr ⟨_, List.mem_of_getElem? h, rfl⟩)
    have ih := lkp_set (v := v) nd.2 h h'
    funext z
    simp only [List.set_cons_succ, lkp]
    rw [← congrFun ih z]
    by_cases hz : z = x
    · subst hz; simp [hne]
    · simp [hz]
theorem lookup_of_place : ∀ {ns : List (Str × NameKind)} {i : Nat} {x : Str} {k : NameKind}, (ns.map (·.1)).Nodup → ns[i]? = some (x, k) → ns.lookup x = some k
  | [], _, _, _, _, h => by simp at h
  | (y, _) :: ns, 0, x, k, _, h => by simp at h; obtain ⟨rfl, rfl⟩ := h; simp [List.lookup_cons]
  | (y, _) :: ns, i + 1, x, k, nd, h => by
    simp only [List.getElem?_cons_succ] at h
    rw [List.map_cons, List.nodup_cons] at nd
    have hne : x ≠ y := by
      rintro rfl
      exact nd.1 (List.mem_map.mpr ⟨_, List.mem_of_getElem? h, rfl⟩)
    rw [List.lookup_cons, beq_eq_false_iff_ne.mpr hne]
    exact lookup_of_place nd.2 h

abbrev Res := Addr × (Obj → Prop)
def qual6 : Str := Str.ofString "_int2digits" ++ Str.ofString ".<locals>." ++ Str.ofString "inner"
def qual7 : Str := Str.ofString "_digits2int" ++ Str.ofString ".<locals>." ++ Str.ofString "inner"
def safe (o : Obj) : Prop := ∀ vs, o.data = .fields vs → o.cls ≠ .none ∧ ∀ t, vs[1]? ≠ some (.str qual6 t) ∧ vs[1]? ≠ some (.str qual7 t)
def Loc (ns : List (Str × NameKind)) (vals : List (Option Value)) (o : Obj) : Prop := ∃ es ep, o.data = .dict es ep ∧ StrKeys es ∧ ∀ n, nsFind es n = lkp ns vals n
def Cel (v : Option Value) (o : Obj) : Prop := o.data = .cell v
def Lst (vs : List Value) (o : Obj) : Prop := o.cls = .type "list" ∧ ∃ n, o.data = .seq vs.toArray n
theorem Loc.safe {ns vals o} (x : Loc ns vals o) : safe o := fun vs e => by obtain ⟨_, _, d, _⟩ := x; rw [d] at e; cases e
theorem Cel.safe {v o} (x : Cel v o) : safe o := fun vs e => by rw [x] at e; cases e
theorem Lst.safe {v o} (x : Lst v o) : safe o := fun vs e => by obtain ⟨_, _, d⟩ := x; rw [d] at e; cases e

def Sub (h₀ h : Heap) : Prop := ∀ b o, h₀.get? b = some o → h.get? b = some o
def Keeps (h h' : Heap) : Prop := ∀ b o, h.get? b = some o → b ≠ 72 → b ≠ 79 → h'.get? b = some o
theorem Sub.refl (h : Heap) : Sub h h := fun _ _ e => e
theorem Sub.trans {a b c : Heap} (x : Sub a b) (y : Sub b c) : Sub a c := fun p o e => y p o (x p o e)

-- the tables of the nested defs
def TabC (h : Heap) (P : Addr) (pos : Pos) (qual : Str) : Prop :=
  h.get? P = some (tabObj #[]) ∨ ∃ c, h.get? P = some (tabObj #[rawInt pos.line, rawInt pos.col, .ref c]) ∧ h.CodeRec (.ref c) qual
theorem TabC.tab {h P pos qual} (x : TabC h P pos qual) : ∃ ps, h.get? P = some (tabObj ps) := by
  rcases x with e | ⟨_, e, _⟩ <;> exact ⟨_, e⟩
theorem TabC.mono {h h' P pos qual} (x : TabC h P pos qual) (hq : qual = qual6 ∨ qual = qual7) (k : ∀ b o, h.get? b = some o → ¬ safe o → h'.get? b = some o) : TabC h' P pos qual := by
  have nt : ∀ ps, ¬ safe (tabObj ps) := fun ps s => (s ps rfl).1 rfl
  rcases x with e | ⟨c, e, c', o, vs, t, ec, e1, e3, e4⟩
  · exact .inl (k _ _ e (nt _))
  · cases ec
    refine .inr ⟨c, k _ _ e (nt _), c, o, vs, t, rfl, k _ _ e1 (fun s => ?_), e3, e4⟩
    rcases hq with rfl | rfl
    · exact ((s vs e3).2 t).1 e4
    · exact ((s vs e3).2 t).2 e4

structure Tabs (h : Heap) : Prop where
  a : TabC h 72 (posOfD (stI 6 1)) qual6
  b : TabC h 79 (posOfD (stI 7 0)) qual7
theorem Tabs.mono {h h'} (x : Tabs h) (k : ∀ b o, h.get? b = some o → ¬ safe o → h'.get? b = some o) : Tabs h' := ⟨x.a.mono (.inl rfl) k, x.b.mono (.inr rfl) k⟩
theorem Tabs.sub {h h'} (x : Tabs h) (k : Sub h h') : Tabs h' := x.mono fun b o e _ => k b o e

-- what stands in the top
def FnIs (h : Heap) (fa c : Addr) (qual : Str) (st : Stmt) (cl : List (Str × Addr) := []) : Prop :=
  ∃ o doc pm ct, h.get? fa = some o ∧ o.data = .func (fnX (nameOfD st) qual (paramsOf st) (bodyOf st) (scopeOf st) cl .none .none doc pm none (.ref c) ct) ∧ h.CodeRec (.ref c) qual
theorem FnIs.sub {h h' fa c qual st cl} (x : FnIs h fa c qual st cl) (k : Sub h h') : FnIs h' fa c qual st cl :=
  let ⟨o, d, p, ct, e, r, cr⟩ := x; ⟨o, d, p, ct, k _ _ e, r, cr.keeps k⟩
def fnTab : List (Str × Addr × Addr × Nat) := [("_div2n1n", 63, 62, 4), ("_int2digits", 77, 76, 6), ("_digits2int", 84, 83, 7), ("_divmod_pos", 91, 90, 8), ("int_divmod", 98, 97, 9), ("ISTERMINAL", 108, 107, 61), ("ISNONTERMINAL", 115, 114, 62),
  ("_law_lexer", 122, 121, 64), ("_law_spelled", 129, 128, 65), ("_law_drawn", 134, 133, 66), ("_law_next", 139, 138, 67), ("_law_roads", 144, 143, 68), ("_law_most", 149, 148, 69), ("_law_reckoned", 156, 155, 70)]
def methTab : List (Str × Addr × Addr × Nat) := [("_netrclex.__init__", 28, 27, 0), ("_netrclex._read_char", 35, 34, 1), ("_netrclex.get_token", 42, 41, 2), ("_netrclex.push_token", 49, 48, 3)]
def biTab : List (Str × Value) := [("len", .builtin "len"), ("range", .type "range"), ("max", .builtin "max"), ("isinstance", .builtin "isinstance"), ("tuple", .type "tuple"), ("iter", .builtin "iter"), ("reversed", .type "reversed"), ("divmod", .builtin "divmod")]

def okA (a : Addr) : Prop := a = 117 ∨ 162 ≤ a
/-- the class _netrclex as it stands in the heap -/
def kfrag (f1 f2 f3 f4 : FuncData) (P : Params) : Frag :=
  [(28, ⟨.type "function", none, .func f1, #[]⟩), (35, ⟨.type "function", none, .func f2, #[]⟩), (42, ⟨.type "function", none, .func f3, #[]⟩), (49, ⟨.type "function", none, .func f4, #[]⟩),
    (51, { cls := .type "dict", data := .dict #[⟨PyData.keyHash P "__module__", .str "__module__" 196, .str "cpy313.netrc" 187⟩, ⟨PyData.keyHash P "__firstlineno__", .str "__firstlineno__" 200, .int 2 199⟩, ⟨PyData.keyHash P "__init__", .str "__init__" 208, .ref 28⟩,
      ⟨PyData.keyHash P "_read_char", .str "_read_char" 216, .ref 35⟩, ⟨PyData.keyHash P "get_token", .str "get_token" 226, .ref 42⟩, ⟨PyData.keyHash P "push_token", .str "push_token" 234, .ref 49⟩, ⟨PyData.keyHash P "__static_attributes__", .str "__static_attributes__" 239, .ref 50⟩,
      ⟨PyData.keyHash P "__dict__", .str "__dict__" 241, .ref 53⟩, ⟨PyData.keyHash P "__weakref__", .str "__weakref__" 243, .ref 54⟩, ⟨PyData.keyHash P "__doc__", .str "__doc__" 244, .none⟩] 4 }),
    (52, { cls := .type "type", data := .cls { name := "_netrclex", bases := [.type "object"], mro := [.ref 52, .type "object"], ns := 51, qualname := "_netrclex" }, slots := #[none, none, some (.str "_netrclex" 189), some (.str "_netrclex" 197), some (.builtin "object.__new__"), some (.bool true)] }),
    (53, { cls := .type "getset_descriptor", data := .fields #[.str "__dict__" 240, .ref 52, .builtin "function.__dict__", .builtin "function.__dict__#set"] }),
    (54, { cls := .type "getset_descriptor", data := .fields #[.str "__weakref__" 242, .ref 52, .builtin "ExceptionGroup.__weakref__", .none] })]
theorem lookup_mem {K : Frag} {a : Addr} {o : Obj} : K.lookup a = some o → a ∈ K.map (·.1) := by
  induction K with
  | nil => intro e; cases e
  | cons p r ih =>
    intro e
    rw [List.lookup_cons] at e
    split at e
    · rename_i q; rw [List.map_cons]; exact List.mem_cons.mpr (.inl (by simpa using q))
    · rw [List.map_cons]; exact List.mem_cons_of_mem _ (ih e)
structure Gd (w : World) (h : Heap) : Prop where
  nl : h.NoLimit
  ns : ∃ mg mb bm ob, h.Ns mainGlobals mg ∧ h.Ns builtinsNs mb ∧ (∀ p ∈ fnTab, mg p.1 = some (.ref p.2.1)) ∧ (∀ p ∈ biTab, mg p.1 = none ∧ mb p.1 = some p.2) ∧
    (∃ t, mg "NT_OFFSET" = some (.int 256 t)) ∧ (∃ t, mg "_DIV_LIMIT" = some (.int 4000 t)) ∧ mg "EXACT_TOKEN_TYPES" = some (.ref 99) ∧ mg "_netrclex" = some (.ref 52) ∧
    mg "__builtins__" = some (.ref bm) ∧ bm ≠ builtinsNs ∧ bm ≠ mainGlobals ∧ bm < 72 ∧ h.get? bm = some ob ∧ ob.cls = .type "module" ∧ ob.dict = some builtinsNs ∧ ob.data = .plain
  fn : ∀ p ∈ fnTab, FnIs h p.2.1 p.2.2.1 p.1 (stA p.2.2.2)
  me : ∀ p ∈ methTab, FnIs h p.2.1 p.2.2.1 p.1 (stM p.2.2.2)
  c6 : CodeHd h 76 72
  c7 : CodeHd h 83 79
  c64 : CodeHd h 121 117
  top : ∃ o, h.get? 161 = some o
  kf : ∃ f1 f2 f3 f4, (kfrag f1 f2 f3 f4 w.params).In h
  tok : ∀ prog : Program, ∃ kvs, h.DictOf (strKind prog w) 99 kvs ∧ (∀ s : Lf, ∃ t, valueAt kvs ⟨#[s.cp]⟩ = some (.int s.code t)) ∧ valueAt kvs ⟨#[92]⟩ = none
/-- what is said of objects that are none of these goes over -/
theorem Gd.off {w : World} {h h' : Heap} (x : Gd w h) (k : ∀ b o, h.get? b = some o → b < 162 → b ≠ 72 → b ≠ 79 → b ≠ 117 → h'.get? b = some o) : Gd w h' where
  nl := by
    obtain ⟨mc, ⟨o, es, ep, e, r⟩, q⟩ := x.nl
    exact ⟨mc, ⟨o, es, ep, k _ _ e (by decide) (by decide) (by decide) (by decide), r⟩, q⟩
  ns := by
    obtain ⟨mg, mb, bm, ob, ⟨o1, es1, ep1, e1, r1⟩, ⟨o2, es2, ep2, e2, r2⟩, a3, a4, a5, a6, a7, a8, a9, b1, b2, b3, b4, b5⟩ := x.ns
    exact ⟨mg, mb, bm, ob, ⟨o1, es1, ep1, k _ _ e1 (by decide) (by decide) (by decide) (by decide), r1⟩, ⟨o2, es2, ep2, k _ _ e2 (by decide) (by decide) (by decide) (by decide), r2⟩, a3, a4, a5, a6, a7, a8, a9, b1, b2, b3,
      k _ _ b4 (Nat.lt_trans b3 (by decide)) (Nat.ne_of_lt b3) (Nat.ne_of_lt (Nat.lt_trans b3 (by decide))) (Nat.ne_of_lt (Nat.lt_trans b3 (by decide))), b5⟩
  fn := fun p hp => by
    obtain ⟨o, d, pm, ct, e, r, ⟨c, oc, vs, t, ec, ho, hr⟩⟩ := x.fn p hp
    have hb : ∀ p ∈ fnTab, (p.2.1 < 162 ∧ p.2.1 ≠ 72 ∧ p.2.1 ≠ 79 ∧ p.2.1 ≠ 117) ∧ (p.2.2.1 < 162 ∧ p.2.2.1 ≠ 72 ∧ p.2.2.1 ≠ 79 ∧ p.2.2.1 ≠ 117) := by decide
    obtain ⟨⟨b1, b2, b3, b4⟩, c1, c2, c3, c4⟩ := hb p hp
    cases ec
    exact ⟨o, d, pm, ct, k _ _ e b1 b2 b3 b4, r, ⟨_, oc, vs, t, rfl, k _ _ ho c1 c2 c3 c4, hr⟩⟩
  me := fun p hp => by
    obtain ⟨o, d, pm, ct, e, r, ⟨c, oc, vs, t, ec, ho, hr⟩⟩ := x.me p hp
    have hb : ∀ p ∈ methTab, (p.2.1 < 162 ∧ p.2.1 ≠ 72 ∧ p.2.1 ≠ 79 ∧ p.2.1 ≠ 117) ∧ (p.2.2.1 < 162 ∧ p.2.2.1 ≠ 72 ∧ p.2.2.1 ≠ 79 ∧ p.2.2.1 ≠ 117) := by decide
    obtain ⟨⟨b1, b2, b3, b4⟩, c1, c2, c3, c4⟩ := hb p hp
    cases ec
    exact ⟨o, d, pm, ct, k _ _ e b1 b2 b3 b4, r, ⟨_, oc, vs, t, rfl, k _ _ ho c1 c2 c3 c4, hr⟩⟩
  c6 := let ⟨o, vs, file, tf, flags, tg, inF, text, tt, e, r⟩ := x.c6; ⟨o, vs, file, tf, flags, tg, inF, text, tt, k _ _ e (by decide) (by decide) (by decide) (by decide), r⟩
  c7 := let ⟨o, vs, file, tf, flags, tg, inF, text, tt, e, r⟩ := x.c7; ⟨o, vs, file, tf, flags, tg, inF, text, tt, k _ _ e (by decide) (by decide) (by decide) (by decide), r⟩
  c64 := let ⟨o, vs, file, tf, flags, tg, inF, text, tt, e, r⟩ := x.c64; ⟨o, vs, file, tf, flags, tg, inF, text, tt, k _ _ e (by decide) (by decide) (by decide) (by decide), r⟩
  top := let ⟨o, e⟩ := x.top; ⟨o, k _ _ e (by decide) (by decide) (by decide) (by decide)⟩
  kf := by
    obtain ⟨f1, f2, f3, f4, X⟩ := x.kf
    refine ⟨f1, f2, f3, f4, fun a o e => ?_⟩
    have hm : a ∈ [28, 35, 42, 49, 51, 52, 53, 54] := lookup_mem e
    have hb : ∀ a ∈ ([28, 35, 42, 49, 51, 52, 53, 54] : List Nat), a < 162 ∧ a ≠ 72 ∧ a ≠ 79 ∧ a ≠ 117 := by decide
    obtain ⟨b1, b2, b3, b4⟩ := hb a hm
    exact k _ _ (X a o e) b1 b2 b3 b4
  tok := fun prog => by
    obtain ⟨kvs, ⟨o, es, ep, e, r⟩, q⟩ := x.tok prog
    exact ⟨kvs, ⟨o, es, ep, k _ _ e (by decide) (by decide) (by decide) (by decide), r⟩, q⟩
theorem Gd.sub {w : World} {h h'} (x : Gd w h) (k : Sub h h') : Gd w h' := x.off fun b o e _ _ _ _ => k b o e
theorem Gd.hide {w : World} {h : Heap} (x : Gd w h) {l : List Addr} (hl : ∀ a ∈ l, okA a) : Gd w (hideAll h (72 :: 79 :: l)) :=
  x.off fun b o e b1 b2 b3 b4 => hideAll_get _ e fun q => by
    rcases List.mem_cons.mp q with q | q
    · exact b2 q
    · rcases List.mem_cons.mp q with q | q
      · exact b3 q
      · rcases hl b q with z | z
        · exact b4 z
        · exact absurd b1 (Nat.not_lt.mpr z)

structure Wd (w : World) (h₀ : Heap) (rs : List Res) (h : Heap) : Prop where
  keep : Sub h₀ h
  own : ∀ r ∈ rs, (∃ o, h.get? r.1 = some o ∧ r.2 o) ∧ h₀.get? r.1 = none
  nd : (rs.map (·.1)).Nodup
  sf : ∀ r ∈ rs, ∀ o, r.2 o → safe o
  lo : ∀ r ∈ rs, okA r.1
  tb : Tabs h
  gd : Gd w h₀
  no : h₀.get? 72 = none ∧ h₀.get? 79 = none

theorem okA.ne {a : Addr} (x : okA a) : a ≠ 72 ∧ a ≠ 79 := by
  rcases x with rfl | x
  · decide
  · exact ⟨Nat.ne_of_gt (Nat.lt_of_lt_of_le (by decide) x), Nat.ne_of_gt (Nat.lt_of_lt_of_le (by decide) x)⟩
namespace Wd
variable {w : World} {h₀ h h' : Heap} {rs rs' : List Res} {i : Nat} {a : Addr} {P P' : Obj → Prop}
theorem G (W : Wd w h₀ rs h) : Gd w h := W.gd.sub W.keep
theorem get (W : Wd w h₀ rs h) (hi : rs[i]? = some (a, P)) : ∃ o, h.get? a = some o ∧ P o := (W.own _ (List.mem_of_getElem? hi)).1
theorem ext (W : Wd w h₀ rs h) (k : Sub h h') : Wd w h₀ rs h' :=
  ⟨W.keep.trans k, fun r hr => ⟨let ⟨o, e, p⟩ := (W.own r hr).1; ⟨o, k _ _ e, p⟩, (W.own r hr).2⟩, W.nd, W.sf, W.lo, W.tb.sub k, W.gd, W.no⟩
theorem call (W : Wd w h₀ rs h) (k : Keeps h h') (t : Tabs h') : Wd w h₀ rs h' :=
  ⟨fun b o e => k b o (W.keep b o e) (by rintro rfl; rw [W.no.1] at e; cases e) (by rintro rfl; rw [W.no.2] at e; cases e),
    fun r hr => ⟨let ⟨o, e, p⟩ := (W.own r hr).1; ⟨o, k _ _ e (W.lo r hr).ne.1 (W.lo r hr).ne.2, p⟩, (W.own r hr).2⟩, W.nd, W.sf, W.lo, t, W.gd, W.no⟩
theorem sub (W : Wd w h₀ rs h) (s : rs'.Sublist rs) : Wd w h₀ rs' h :=
  ⟨W.keep, fun r hr => W.own r (s.subset hr), W.nd.sublist (s.map _), fun r hr => W.sf r (s.subset hr), fun r hr => W.lo r (s.subset hr), W.tb, W.gd, W.no⟩
theorem perm (W : Wd w h₀ rs h) (s : rs.Perm rs') : Wd w h₀ rs' h :=
  ⟨W.keep, fun r hr => W.own r (s.mem_iff.mpr hr), (s.map _).nodup_iff.mp W.nd, fun r hr => W.sf r (s.mem_iff.mpr hr), fun r hr => W.lo r (s.mem_iff.mpr hr), W.tb, W.gd, W.no⟩
theorem new0 (W : Wd w h₀ rs h) {a : Addr} (e : h.get? a = none) : h₀.get? a = none ∧ (∀ r ∈ rs, r.1 ≠ a) ∧ a ≠ 72 ∧ a ≠ 79 := by
  refine ⟨?_, fun r hr q => ?_, ?_, ?_⟩
  · cases q : h₀.get? a with
    | none => rfl
    | some o => rw [W.keep a o q] at e; cases e
  · obtain ⟨o, g, _⟩ := (W.own r hr).1
    rw [q, e] at g; cases g
  · rintro rfl
    obtain ⟨_, q⟩ := W.tb.a.tab; rw [q] at e; cases e
  · rintro rfl
    obtain ⟨_, q⟩ := W.tb.b.tab; rw [q] at e; cases e
/-- a new object joins -/
theorem add (W : Wd w h₀ rs h) (k : Sub h h') {o : Obj} (e : h.get? a = none) (e' : h'.get? a = some o) (p : P o) (s : ∀ o, P o → safe o) (ha : okA a) : Wd w h₀ ((a, P) :: rs) h' := by
  have W' := W.ext k
  obtain ⟨n1, n2, n3, n4⟩ := W.new0 e
  refine ⟨W'.keep, fun r hr => ?_, ?_, fun r hr => ?_, fun r hr => ?_, W'.tb, W.gd, W.no⟩
  · rcases List.mem_cons.mp hr with rfl | hr
    · exact ⟨⟨o, e', p⟩, n1⟩
    · exact W'.own r hr
  · rw [List.map_cons, List.nodup_cons]
    refine ⟨fun hm => ?_, W.nd⟩
    obtain ⟨r, hr, q⟩ := List.mem_map.mp hm
    exact n2 r hr q
  · rcases List.mem_cons.mp hr with rfl | hr
    · exact s
    · exact W.sf r hr
  · rcases List.mem_cons.mp hr with rfl | hr
    · exact ha
    · exact W.lo r hr
theorem size_none (h : Heap) : h.get? h.objs.size = none := by
  cases q : h.get? h.objs.size with
  | none => rfl
  | some o => exact absurd (Heap.lt_size q) (Nat.lt_irrefl _)
theorem size (W : Wd w h₀ rs h) : okA h.objs.size := let ⟨_, e⟩ := W.G.top; .inr (Heap.lt_size e)
theorem push (W : Wd w h₀ rs h) (o : Obj) (p : P o) (s : ∀ o, P o → safe o) (hf : o.isFreed = false) : Wd w h₀ ((h.objs.size, P) :: rs) (h.push o) :=
  W.add (fun _ _ e => Heap.get?_push_of_some _ e) (size_none h) (Heap.get?_push_size _ hf) p s (W.size)
theorem drop (W : Wd w h₀ ((a, P) :: rs) h) : Wd w h₀ rs h := W.sub (List.sublist_cons_self _ _)
/-- an owned object turns -/
theorem upd (W : Wd w h₀ rs h) (hi : rs[i]? = some (a, P)) (k : Heap.ExtBut a h h') {o : Obj} (e' : h'.get? a = some o) (p : P' o) (s : ∀ o, P' o → safe o) : Wd w h₀ (rs.set i (a, P')) h' := by
  have hm := List.mem_of_getElem? hi
  obtain ⟨⟨o₁, e₁, p₁⟩, n₁⟩ := W.own _ hm
  have sa : safe o₁ := W.sf _ hm _ p₁
  obtain ⟨hl, hg⟩ := List.getElem?_eq_some_iff.mp hi
  have em : (rs.set i (a, P')).map (·.1) = rs.map (·.1) := by
    rw [List.map_set]
    have : (rs.map (·.1))[i]? = some a := by rw [List.getElem?_map, hi]; rfl
    apply List.ext_getElem?
    intro j
    rw [List.getElem?_set]
    split
    · rename_i q; subst q
      split
      · rw [this]
      · rename_i w; simp at w; exact absurd hl (Nat.not_lt.mpr w)
    · rfl
  have apart : ∀ r ∈ rs.set i (a, P'), r = (a, P') ∨ (r ∈ rs ∧ r.1 ≠ a) := by
    intro r hr
    by_cases hra : r.1 = a
    · left
      have nd' : ((rs.set i (a, P')).map (·.1)).Nodup := em ▸ W.nd
      obtain ⟨j, hj⟩ := List.getElem?_of_mem hr
      have h1 : ((rs.set i (a, P')).map (·.1))[j]? = some a := by rw [List.getElem?_map, hj, ← hra]; rfl
      have h2 : ((rs.set i (a, P')).map (·.1))[i]? = some a := by rw [em, List.getElem?_map, hi]; rfl
      have hji : j = i := (List.getElem?_inj (by simpa using (List.getElem?_eq_some_iff.mp hj).1) nd').mp (h1.trans h2.symm)
      subst hji
      rw [List.getElem?_set, if_pos rfl, if_pos (by simpa using hl)] at hj
      exact (Option.some.inj hj).symm
    · right
      rcases List.mem_or_eq_of_mem_set hr with hr | rfl
      · exact ⟨hr, hra⟩
      · exact absurd rfl hra
  refine ⟨fun b o e => k b o (by rintro rfl; rw [n₁] at e; cases e) (W.keep b o e), fun r hr => ?_, em ▸ W.nd, fun r hr => ?_, fun r hr => ?_, W.tb.mono fun b o e ns => k b o (by rintro rfl; rw [e₁] at e; cases e; exact ns sa) e, W.gd, W.no⟩
  · rcases apart r hr with rfl | ⟨hr, ne⟩
    · exact ⟨⟨o, e', p⟩, n₁⟩
    · obtain ⟨⟨o₂, e₂, p₂⟩, n₂⟩ := W.own r hr
      exact ⟨⟨o₂, k _ _ ne e₂, p₂⟩, n₂⟩
  · rcases apart r hr with rfl | ⟨hr, _⟩
    · exact s
    · exact W.sf r hr
  · rcases apart r hr with rfl | ⟨hr, _⟩
    · exact (W.lo _ hm : _)
    · exact W.lo r hr
/-- all but rs' is frozen -/
theorem freeze (W : Wd w h₀ rs h) (s : rs'.Sublist rs) : ∃ h₁, Sub h₀ h₁ ∧ Sub h₁ h ∧ (∀ b o, h.get? b = some o → b ≠ 72 → b ≠ 79 → b ∉ rs'.map (·.1) → h₁.get? b = some o) ∧ Wd w h₁ rs' h := by
  have W' := W.sub s
  have gt : ∀ b o, h.get? b = some o → b ≠ 72 → b ≠ 79 → b ∉ rs'.map (·.1) → (hideAll h (72 :: 79 :: rs'.map (·.1))).get? b = some o := fun b o e n1 n2 n3 =>
    hideAll_get _ e fun q => by
      rcases List.mem_cons.mp q with q | q
      · exact n1 q
      · rcases List.mem_cons.mp q with q | q
        · exact n2 q
        · exact n3 q
  have s₀ : Sub h₀ (hideAll h (72 :: 79 :: rs'.map (·.1))) := fun b o e => gt b o (W.keep b o e) (by rintro rfl; rw [W.no.1] at e; cases e) (by rintro rfl; rw [W.no.2] at e; cases e) fun q => by
    obtain ⟨r, hr, rfl⟩ := List.mem_map.mp q
    rw [(W'.own r hr).2] at e; cases e
  refine ⟨_, s₀, fun b o e => of_hideAll _ e, gt, ⟨fun b o e => of_hideAll _ e, fun r hr => ⟨(W'.own r hr).1, hideAll_none _ (.tail _ (.tail _ (List.mem_map_of_mem hr)))⟩, W'.nd, W'.sf, W'.lo, W.tb, W.gd.sub s₀, ⟨hideAll_none _ (.head _), hideAll_none _ (.tail _ (.head _))⟩⟩⟩
/-- the base may shrink -/
theorem base {h₁ : Heap} (W : Wd w h₁ rs h) (s : Sub h₀ h₁) (g : Gd w h₀) : Wd w h₀ rs h :=
  ⟨s.trans W.keep, fun r hr => ⟨(W.own r hr).1, by
    cases q : h₀.get? r.1 with
    | none => rfl
    | some o => have e := s _ _ q; rw [(W.own r hr).2] at e; cases e⟩, W.nd, W.sf, W.lo, W.tb, g, by
    constructor
    · cases q : h₀.get? 72 with
      | none => rfl
      | some o => have e := s _ _ q; rw [W.no.1] at e; cases e
    · cases q : h₀.get? 79 with
      | none => rfl
      | some o => have e := s _ _ q; rw [W.no.2] at e; cases e⟩
/-- from nothing: the tables and what is given are laid aside -/
theorem start (g : Gd w h) (t : Tabs h) (ho : ∀ r ∈ rs, ∃ o, h.get? r.1 = some o ∧ r.2 o) (nd : (rs.map (·.1)).Nodup) (sf : ∀ r ∈ rs, ∀ o, r.2 o → safe o) (lo : ∀ r ∈ rs, okA r.1) :
    Wd w (hideAll h (72 :: 79 :: rs.map (·.1))) rs h :=
  ⟨fun b o e => of_hideAll _ e, fun r hr => ⟨ho r hr, hideAll_none _ (.tail _ (.tail _ (List.mem_map_of_mem hr)))⟩, nd, sf, lo, t, g.hide fun a ha => let ⟨r, hr, e⟩ := List.mem_map.mp ha; e ▸ lo r hr, ⟨hideAll_none _ (.head _), hideAll_none _ (.tail _ (.head _))⟩⟩
end Wd
end Mine
end

section
namespace Mine
open PySem PySem.W PyProof.Rows

def okNames (ns : List (Str × NameKind)) : Bool := decide (ns.map (·.1)).Nodup && ns.all fun p => !(p.1 == ("__debug__" : Str)) && !(p.1 == ("__classdict__" : Str))
structure Sc (env : Env) (L : Addr) (ns : List (Str × NameKind)) : Prop where
  kind : env.scope.kind = .function
  kd : ∀ (i : Nat) (x : Str) (k : NameKind), ns[i]? = some (x, k) → env.kindOf x = some k ∨ (k = .free ∧ env.kindOf x = some .cell)
  ok : okNames ns = true
  glob : env.globals = mainGlobals
  bi : env.builtins = builtinsNs
  loc : env.locals = L
theorem okNames.nd {ns : List (Str × NameKind)} (h : okNames ns = true) : (ns.map (·.1)).Nodup := by
  unfold okNames at h; rw [Bool.and_eq_true] at h; exact of_decide_eq_true h.1
namespace Sc
variable {env : Env} {L : Addr} {ns : List (Str × NameKind)} {i : Nat} {x : Str} {k : NameKind}
theorem nd (S : Sc env L ns) : (ns.map (·.1)).Nodup := okNames.nd S.ok
theorem dbg (S : Sc env L ns) (hi : ns[i]? = some (x, k)) : (x == ("__debug__" : Str)) = false ∧ (x == ("__classdict__" : Str)) = false := by
  have := S.ok; unfold okNames at this; rw [Bool.and_eq_true] at this
  have q := List.all_eq_true.mp this.2 _ (List.mem_of_getElem? hi)
  rw [Bool.and_eq_true, Bool.not_eq_true', Bool.not_eq_true'] at q
  exact q
theorem kindOf (S : Sc env L ns) (hi : ns[i]? = some (x, k)) (hk : k ≠ .free := by decide) : env.kindOf x = some k := (S.kd i x k hi).resolve_right fun z => hk z.1
theorem of (kind : env.scope.kind = .function) (names : env.scope.names = ns) (ok : okNames ns = true) (glob : env.globals = mainGlobals) (bi : env.builtins = builtinsNs) (loc : env.locals = L) : Sc env L ns :=
  ⟨kind, fun i x k hi => .inl (by unfold Env.kindOf; rw [names]; exact lookup_of_place (okNames.nd ok) hi), ok, glob, bi, loc⟩
end Sc

section
variable {prog : Program} {w : World} {A : Around} {h h₀ : Heap} {env : Env} {L : Addr} {ns : List (Str × NameKind)} {vals : List (Option Value)} {rs : List Res} {R : Value → Heap → Prop} {x : Str} {pos : Pos} {v : Value}
theorem Wd.locs (W : Wd w h₀ ((L, Loc ns vals) :: rs) h) : h.Ns L (lkp ns vals) := by
  obtain ⟨o, e, es, ep, d, k, f⟩ := (W.own _ (.head _)).1
  exact ⟨o, es, ep, e, d, k, f⟩
/-- a local name read -/
theorem n_loc (i : Nat) (S : Sc env L ns) (W : Wd w h₀ ((L, Loc ns vals) :: rs) h) (hi : ns[i]? = some (x, .local)) (hv : vals[i]? = some (some v)) (q : R v h) : T prog w A (eval (.Name x pos) env) R h := by
  have hn := S.loc.symm ▸ W.locs
  exact fun _ _ _ _ => wpAny_Name (wpAny_loadName_local S.kind (S.kindOf hi) hn (lkp_get S.nd hi hv) ⟨_, _, rfl, q⟩) (S.dbg hi).1
theorem l_loc (i : Nat) (S : Sc env L ns) (W : Wd w h₀ ((L, Loc ns vals) :: rs) h) (hi : ns[i]? = some (x, .local)) (hv : vals[i]? = some (some v)) (q : R v h) : T prog w A (loadName env x) R h := by
  have hn := S.loc.symm ▸ W.locs
  exact fun _ _ _ _ => wpAny_loadName_local S.kind (S.kindOf hi) hn (lkp_get S.nd hi hv) ⟨_, _, rfl, q⟩
/-- a local name stored -/
theorem s_loc (i : Nat) (S : Sc env L ns) (W : Wd w h₀ ((L, Loc ns vals) :: rs) h) (hi : ns[i]? = some (x, .local)) {u : Option Value} (hu : vals[i]? = some u) {R : Unit → Heap → Prop}
    (q : ∀ h', Wd w h₀ ((L, Loc ns (vals.set i (some v))) :: rs) h' → R () h') : T prog w A (storeName env x v) R h := by
  have hl : i < vals.length := (List.getElem?_eq_some_iff.mp hu).1
  have hn := S.loc.symm ▸ W.locs
  refine fun _ _ _ _ => wpAny_storeName_local (S.kindOf hi) hn (fun h' hn' hs => ⟨_, _, rfl, q h' ?_⟩) ?_
  · rw [lkp_set S.nd hi hl, S.loc] at hn'
    rw [S.loc] at hs
    obtain ⟨o, es, ep, e, d, k, f⟩ := hn'
    exact W.upd (i := 0) (P' := Loc ns (vals.set i (some v))) rfl hs.extBut e ⟨es, ep, d, k, f⟩ (fun _ => Loc.safe)
  · rw [S.kind]; rfl
/-- a global name read: a def -/
theorem n_fn (i : Nat) {fa c : Addr} {n : Nat} (S : Sc env L ns) (W : Wd w h₀ rs h) (hi : ns[i]? = some (x, .globalImplicit)) (hm : (x, fa, c, n) ∈ fnTab) (q : R (.ref fa) h) : T prog w A (eval (.Name x pos) env) R h := by
  obtain ⟨mg, mb, _, _, a1, _, a3, _⟩ := W.G.ns
  exact fun _ _ _ _ => Calls.Name_function_global S.kind (S.kindOf hi) (Calls.loadGlobal_global (S.glob.symm ▸ a1) (a3 _ hm) ⟨_, _, rfl, q⟩) (S.dbg hi).1
theorem n_bi (i : Nat) (S : Sc env L ns) (W : Wd w h₀ rs h) (hi : ns[i]? = some (x, .globalImplicit)) (hm : (x, v) ∈ biTab) (q : R v h) : T prog w A (eval (.Name x pos) env) R h := by
  obtain ⟨mg, mb, _, _, a1, a2, _, a4, _⟩ := W.G.ns
  exact fun _ _ _ _ => Calls.Name_function_global S.kind (S.kindOf hi) (Calls.loadGlobal_builtin (S.glob.symm ▸ a1) (a4 _ hm).1 (S.bi.symm ▸ a2) (a4 _ hm).2 ⟨_, _, rfl, q⟩) (S.dbg hi).1
theorem n_nt (i : Nat) (S : Sc env L ns) (W : Wd w h₀ rs h) (hi : ns[i]? = some (Str.ofString "NT_OFFSET", .globalImplicit)) (q : ∀ t, R (.int 256 t) h) : T prog w A (eval (.Name (Str.ofString "NT_OFFSET") pos) env) R h := by
  obtain ⟨mg, mb, _, _, a1, _, _, _, ⟨t, a5⟩, _⟩ := W.G.ns
  exact fun _ _ _ _ => Calls.Name_function_global S.kind (S.kindOf hi) (Calls.loadGlobal_global (S.glob.symm ▸ a1) a5 ⟨_, _, rfl, q t⟩) (S.dbg hi).1

/-- a captured name read -/
theorem look_of : ∀ {cs : List (Str × Addr)} {j : Nat} {x : Str} {c : Addr}, (cs.map (·.1)).Nodup → cs[j]? = some (x, c) → cs.lookup x = some c
  | [], _, _, _, _, h => by simp at h
  | (y, _) :: cs, 0, x, c, _, h => by simp at h; obtain ⟨rfl, rfl⟩ := h; simp [List.lookup_cons]
  | (y, _) :: cs, j + 1, x, c, nd, h => by
    simp only [List.getElem?_cons_succ] at h
    rw [List.map_cons, List.nodup_cons] at nd
    have hne : x ≠ y := by
      rintro rfl
      exact nd.1 (List.mem_map.mpr ⟨_, List.mem_of_getElem? h, rfl⟩)
    rw [List.lookup_cons, beq_eq_false_iff_ne.mpr hne]
    exact look_of nd.2 h
theorem n_cell (i : Nat) {c : Addr} {kd : NameKind} (S : Sc env L ns) (hi : ns[i]? = some (x, kd)) (hc : env.cells.lookup x = some c) (hv : h.IsCell c (some v)) (q : R v h) (hk : kd = .cell ∨ kd = .free := by decide) : T prog w A (eval (.Name x pos) env) R h := by
  have e : env.kindOf x = some .cell ∨ env.kindOf x = some .free := by
    rcases hk with rfl | rfl
    · exact .inl (S.kindOf hi)
    · exact (S.kd i x _ hi).symm.imp (fun z => z.2) id
  rcases e with e | e
  · exact fun _ _ _ _ => wpAny_Name (wpAny_loadName_cell S.kind e hc hv ⟨_, _, rfl, q⟩) (S.dbg hi).1
  · exact fun _ _ _ _ => wpAny_Name (wpAny_loadName_free S.kind e hc hv ⟨_, _, rfl, q⟩ (S.dbg hi).2) (S.dbg hi).1
theorem s_cell (i j : Nat) {c : Addr} {v₀ : Option Value} (S : Sc env L ns) (W : Wd w h₀ rs h) (hi : ns[i]? = some (x, .cell)) (hc : env.cells.lookup x = some c) (hj : rs[j]? = some (c, Cel v₀)) {R : Unit → Heap → Prop}
    (q : ∀ h', Wd w h₀ (rs.set j (c, Cel (some v))) h' → R () h') : T prog w A (storeName env x v) R h := by
  obtain ⟨o, e, p⟩ := W.get hj
  refine fun _ _ _ _ => wpAny_storeName_cell S.kind (S.kindOf hi) hc ⟨o, e, p⟩ fun h' hv hs => ⟨_, _, rfl, q h' ?_⟩
  obtain ⟨o', e', p'⟩ := hv
  exact W.upd hj hs.extBut e' p' (fun _ => Cel.safe)
theorem Wd.cel {c : Addr} {v₀ : Option Value} (j : Nat) (W : Wd w h₀ rs h) (hj : rs[j]? = some (c, Cel v₀)) : h.IsCell c v₀ := W.get hj
/-- depth and room -/
def Ok (A : Around) (n : Nat) : Prop := A.handled = none ∧ A.depth + n < 900 ∧ A.units + 20 * n < 9000
theorem Ok.deeper {n : Nat} (k : Ok A (n + 1)) (env : Env) : Ok (A.deeper env) n := by
  obtain ⟨a, b, c⟩ := k
  refine ⟨a, ?_, ?_⟩
  · show A.depth + 1 + n < 900; (first | exact Mine.w23 b | omega)
  · show A.units + 3 + 20 * n < 9000; (first | exact Mine.w24 c | omega)
theorem Ok.le {n m : Nat} (k : Ok A n) (l : m ≤ n) : Ok A m := ⟨k.1, by have := k.2.1; (first | exact Mine.w25 l this | omega), by have := k.2.2; (first | exact Mine.w26 l this | omega)⟩
theorem Ok.room {n : Nat} (k : Ok A n) : A.depth < recursionLimit := by have := k.2.1; show A.depth < 1000; (first | exact Mine.w27 this | omega)

def retv : Flow → Value
  | .ret v => v
  | _ => .none

theorem lkp_none : ∀ (ns : List (Str × NameKind)) (n : Nat) (y : Str), lkp ns (List.replicate n none) y = none
  | [], _, _ => by unfold lkp; rfl
  | (k, _) :: ns, 0, y => by simp [lkp]
  | (k, _) :: ns, n + 1, y => by
    simp only [List.replicate_succ, lkp, lkp_none ns n y, ite_self]

theorem lookup_append {α : Type} (a b : List (Str × α)) (y : Str) : (a ++ b).lookup y = (a.lookup y).or (b.lookup y) := by
  induction a with
  | nil => simp
  | cons p a ih =>
    obtain ⟨k, v⟩ := p
    rw [List.cons_append, List.lookup_cons, List.lookup_cons]
    split
    · rfl
    · exact ih
theorem lookup_none {α : Type} : ∀ {l : List (Str × α)} {y : Str}, y ∉ l.map (·.1) → l.lookup y = none
  | [], _, _ => rfl
  | (k, v) :: l, y, h => by
    simp only [List.map_cons, List.mem_cons, not_or] at h
    rw [List.lookup_cons, beq_eq_false_iff_ne.mpr h.1]; exact lookup_none h.2
theorem bind_lkp : ∀ {binds : List (Str × Value)} {ns : List (Str × NameKind)} {n : Nat}, (ns.map (·.1)).Nodup → (ns.map (·.1)).take binds.length = binds.map (·.1) →
    ∀ y, binds.reverse.lookup y = lkp ns (binds.map (fun b => some b.2) ++ List.replicate n none) y
  | [], ns, n, _, _, y => by simp [lkp_none]
  | (k, v) :: binds, [], n, _, h, y => by simp at h
  | (k, v) :: binds, (k', kd) :: ns, n, nd, h, y => by
    simp only [List.map_cons, List.length_cons, List.take_succ_cons, List.cons.injEq] at h
    obtain ⟨rfl, h⟩ := h
    rw [List.map_cons, List.nodup_cons] at nd
    have ih := bind_lkp (n := n) nd.2 h y
    rw [List.reverse_cons, lookup_append, ih]
    simp only [List.map_cons, List.cons_append, lkp]
    by_cases hy : y = k'
    · subst hy
      rw [if_pos rfl]
      have : lkp ns (List.map (fun b => some b.2) binds ++ List.replicate n none) y = none := by
        rw [← ih]
        refine lookup_none fun hm => nd.1 ?_
        rw [List.map_reverse, List.mem_reverse, ← h] at hm
        exact List.mem_of_mem_take hm
      rw [this]; simp [List.lookup_cons]
    · rw [if_neg hy, List.lookup_cons, beq_eq_false_iff_ne.mpr hy]
      simp

theorem zip_fst {α β : Type} : ∀ (a : List α) (b : List β), (a.zip b).map (·.1) = a.take b.length
  | [], _ => by simp
  | _ :: _, [] => by simp
  | x :: a, y :: b => by simp [zip_fst a b]
def fnOk (st : Stmt) (m : Nat) : Bool := decide (m ≤ ((paramsOf st).args.map (·.arg)).length) && decide ((scopeOf st).names.take m = (((paramsOf st).args.map (·.arg)).map fun x => (x, NameKind.local)).take m) &&
  okNames (scopeOf st).names && ((scopeOf st).names.all fun p => p.2 != .cell) && decide ((scopeOf st).kind = .function) && !(scopeOf st).isCoroutine && !(scopeOf st).isGenerator
/-- a plain def of the top is called -/
theorem call_fnX {fa c : Addr} {qual : Str} {st : Stmt} {args : List Value} {n m : Nat} {cl : List (Str × Addr)} (F : FnIs h fa c qual st cl) (g : Gd w h) (tb : Tabs h) (ok : Ok A (n + 1)) (hm : args.length = m) (hfn : fnOk st m = true)
    (bnd : ∀ doc pm ct, bindArgs (fnX (nameOfD st) qual (paramsOf st) (bodyOf st) (scopeOf st) cl .none .none doc pm none (.ref c) ct) ⟨args, []⟩ = pure (((paramsOf st).args.map (·.arg)).zip args))
    (X : List Res) (hX : ∀ r ∈ X, ∃ o, h.get? r.1 = some o ∧ r.2 o) (ndX : (X.map (·.1)).Nodup) (sfX : ∀ r ∈ X, ∀ o, r.2 o → safe o) (loX : ∀ r ∈ X, okA r.1)
    (k : ∀ L env h₀ h₁, Sc env L (scopeOf st).names → env.code = .ref c → env.cells = cl → (∀ b o, h.get? b = some o → b ≠ 72 → b ≠ 79 → b ∉ X.map (·.1) → h₀.get? b = some o) → h.get? L = none →
      Wd w h₀ ((L, Loc (scopeOf st).names (args.map some ++ List.replicate ((scopeOf st).names.length - args.length) none)) :: X) h₁ → Ok (A.deeper env) n →
      T prog w (A.deeper env) (execs (bodyOf st) env) (fun f h' => R (retv f) h') h₁) :
    T prog w A (call (.ref fa) args) R h := by
  unfold fnOk at hfn
  simp only [Bool.and_eq_true, decide_eq_true_eq, Bool.not_eq_true'] at hfn
  obtain ⟨⟨⟨⟨⟨⟨hlen, hpre⟩, hok⟩, hcell⟩, hkind⟩, hco⟩, hgen⟩ := hfn
  subst hm
  obtain ⟨o, doc, pm, ct, ho, hd, hcd⟩ := F
  intro gs d tk os
  refine wpAny_call (codeAny_call_def (s := ⟨h, gs, d, tk, os⟩) ok.room ho hd g.nl hcd rfl (.of_eq (bnd _ _ _)) ?_ ?_ ?_ hco hgen hkind)
  · intro p hp
    have := List.all_eq_true.mp hcell p hp
    simpa using this
  · intro p hp
    obtain ⟨i, hi⟩ := List.getElem?_of_mem hp
    have hi' := hi
    rw [List.getElem?_zip_eq_some] at hi'
    have hia : i < args.length := (List.getElem?_eq_some_iff.mp hi'.2).1
    have e1 : ((scopeOf st).names.take args.length)[i]? = some (p.1, .local) := by
      rw [hpre, List.getElem?_take, if_pos hia, List.getElem?_map, hi'.1]; rfl
    rw [List.getElem?_take, if_pos hia] at e1
    refine lookup_of_place ?_ e1
    have := hok; unfold okNames at this; rw [Bool.and_eq_true] at this; exact of_decide_eq_true this.1
  · intro h₁ hns hkp
    have hnd : ((scopeOf st).names.map (·.1)).Nodup := by
      have := hok; unfold okNames at this; rw [Bool.and_eq_true] at this; exact of_decide_eq_true this.1
    have W₀ := Wd.start g tb hX ndX sfX loX
    have hz : ((((paramsOf st).args.map (·.arg)).zip args)).length = args.length := by rw [List.length_zip]; (first | exact Mine.w28 hlen | omega)
    have hfst : ((((paramsOf st).args.map (·.arg)).zip args)).map (·.1) = ((paramsOf st).args.map (·.arg)).take args.length := by
      exact zip_fst _ _
    have hsnd : ((((paramsOf st).args.map (·.arg)).zip args)).map (·.2) = args := List.map_snd_zip hlen
    have hm : ∀ y, ((((paramsOf st).args.map (·.arg)).zip args)).reverse.lookup y = lkp (scopeOf st).names (args.map some ++ List.replicate ((scopeOf st).names.length - args.length) none) y := by
      intro y
      rw [bind_lkp (n := (scopeOf st).names.length - args.length) hnd (by
        rw [hz, hfst, ← List.map_take, hpre, List.map_take, List.map_map]
        simp [Function.comp_def]) y]
      rw [show (List.map (fun b : Str × Value => some b.2) ((((paramsOf st).args.map (·.arg)).zip args))) = args.map some by rw [← hsnd, List.map_map]; simp [hsnd]]
    have hL : h.get? h.objs.size = none := Wd.size_none h
    obtain ⟨oL, es, ep, eL, dL, kL, fL⟩ := hns
    have W₁ := W₀.add (a := h.objs.size) (P := Loc (scopeOf st).names (args.map some ++ List.replicate ((scopeOf st).names.length - args.length) none)) hkp hL eL ⟨es, ep, dL, kL, fun y => (fL y).trans (hm y)⟩ (fun _ => Loc.safe) W₀.size
    have S : Sc (callEnv (fnX (nameOfD st) qual (paramsOf st) (bodyOf st) (scopeOf st) cl .none .none doc pm none (.ref c) ct) h.objs.size fa) h.objs.size (scopeOf st).names := .of hkind rfl hok rfl rfl rfl
    have kk := k h.objs.size _ _ h₁ S rfl rfl (fun b o e n1 n2 n3 => hideAll_get _ e fun q => by
      rcases List.mem_cons.mp q with q | q
      · exact n1 q
      · rcases List.mem_cons.mp q with q | q
        · exact n2 q
        · exact n3 q) hL W₁ (ok.deeper _)
    refine wpAny_mono (kk gs d _ os) (fun f s' hq => ?_) fun _ _ e => e.elim
    obtain ⟨h', k', rfl, q⟩ := hq
    cases f <;> exact ⟨_, _, rfl, q⟩
theorem call_fn {fa c : Addr} {qual : Str} {st : Stmt} {args : List Value} {n : Nat} (m : Nat) (F : FnIs h fa c qual st) (g : Gd w h) (tb : Tabs h) (ok : Ok A (n + 1)) (hfn : fnOk st m = true) (hm : args.length = m)
    (bnd : ∀ doc pm ct, bindArgs (fnX (nameOfD st) qual (paramsOf st) (bodyOf st) (scopeOf st) [] .none .none doc pm none (.ref c) ct) ⟨args, []⟩ = pure (((paramsOf st).args.map (·.arg)).zip args))
    (k : ∀ L env h₀ h₁, Sc env L (scopeOf st).names → env.code = .ref c → (∀ b o, h.get? b = some o → b ≠ 72 → b ≠ 79 → h₀.get? b = some o) → h.get? L = none →
      Wd w h₀ [(L, Loc (scopeOf st).names (args.map some ++ List.replicate ((scopeOf st).names.length - args.length) none))] h₁ → Ok (A.deeper env) n →
      T prog w (A.deeper env) (execs (bodyOf st) env) (fun f h' => R (retv f) h') h₁) :
    T prog w A (call (.ref fa) args) R h :=
  call_fnX F g tb ok hm hfn bnd [] (fun _ h => nomatch h) List.nodup_nil (fun _ h => nomatch h) (fun _ h => nomatch h) fun L env h₀ h₁ S hc _ hb hL W ok' => k L env h₀ h₁ S hc (fun b o e n1 n2 => hb b o e n1 n2 List.not_mem_nil) hL W ok'
/-- the end of a call -/
theorem keeps_of {h₀ h h' : Heap} (b : ∀ b o, h.get? b = some o → b ≠ 72 → b ≠ 79 → h₀.get? b = some o) (s : Sub h₀ h') : Keeps h h' :=
  fun a o e n1 n2 => s a o (b a o e n1 n2)
end
end Mine
end

section
namespace Mine
open PySem PySem.W PyProof.Rows

section
variable {prog : Program} {w : World} {A : Around} {h h₀ : Heap} {env : Env} {R : Value → Heap → Prop} {pos : Pos} {f : Res} {rs : List Res}

/-- to chain two library steps under T -/
theorem T_chain {α β : Type} {t : Sem α} {Q : α → Heap → Prop} {P : α → β → Shared → Prop} {u : α → Sem β} {g d k os} (x : T prog w A t Q h)
    (y : ∀ a h' k', Q a h' → wpAny (model prog w) A (u a) (P a) (fun _ _ => False) ⟨h', g, d, k', os⟩) :
    wpAny (model prog w) A t (fun a s' => wpAny (model prog w) A (u a) (P a) (fun _ _ => False) s') (fun _ _ => False) ⟨h, g, d, k, os⟩ :=
  wpAny_mono (x g d k os) (fun a s' ⟨h', k', e, q⟩ => by subst e; exact y a h' k' q) fun _ _ e => e

-- calls
theorem e_call {func : Expr} {args : List Expr} (q : T prog w A (eval func env) (k1 prog w A (fun fv => callWith pos fv [] (backTo pos (starEach args env)) []) R) h)
    (he : eval (.Call func args [] pos) env = (do callWith pos (← eval func env) [] (backTo pos (starEach args env)) (backToKw pos (keywordEach [] env))) := by rfl) :
    T prog w A (eval (.Call func args [] pos) env) R h :=
  fun g d k os => Call_ (T_chain q fun _ _ k' z => z g d k' os) he
theorem a_nil {Q : List Value → Heap → Prop} (q : Q [] h) : T prog w A (spliced (backTo pos (starEach [] env))) Q h := fun _ _ _ _ => args_nil ⟨_, _, rfl, q⟩
theorem a_cons {e : Expr} {rest : List Expr} {Q : List Value → Heap → Prop} (q : T prog w A (eval e env) (kA prog w A (spliced (backTo pos (starEach rest env))) Q) h)
    (he : starEach (e :: rest) env = (false, eval e env) :: starEach rest env := by rfl) : T prog w A (spliced (backTo pos (starEach (e :: rest) env))) Q h :=
  fun g d k os => args_cons (T_chain q fun _ _ k' z => wpAny_mono (z g d k' os) (fun _ _ ⟨h', k'', e, q⟩ => ⟨h', k'', e, q⟩) fun _ _ e => e) he
def IsFn (h : Heap) (fa : Addr) : Prop := ∃ o fd, h.get? fa = some o ∧ o.data = .func fd
theorem FnIs.isFn {fa c qual st cl} (F : FnIs h fa c qual st cl) : IsFn h fa := let ⟨o, _, _, _, e, d, _⟩ := F; ⟨o, _, e, d⟩
theorem keeper_fn {fa : Addr} (h : Heap) (X : IsFn h fa) : ∃ k, (k = Keeper.frame ∨ k = Keeper.machine ∨ k = Keeper.boundFrame) ∧ Looks (model prog w) h (keeperOf (.ref fa)) k := by
  obtain ⟨o, fd, e, d⟩ := X
  exact ⟨.frame, .inl rfl, (Looks.ld (part := none) e).andThen (by rw [d]; exact .now)⟩
/-- a def's call, its arguments evaluated -/
theorem cw_fn {fa : Addr} {first : List Value} {e : Expr} {rest : List Expr}
    (q : T prog w A (spliced (backTo pos (starEach (e :: rest) env))) (fun vs h₁ => IsFn h₁ fa ∧ T prog w A (call (.ref fa) (first ++ vs)) R h₁) h)
    (he : starEach (e :: rest) env = (false, eval e env) :: starEach rest env := by rfl) (hplain : (backTo pos (starEach rest env)).any (·.1) = false := by rfl) :
    T prog w A (callWith pos (.ref fa) first (backTo pos (starEach (e :: rest) env)) []) R h := by
  intro g d k os
  have q' := q g d k os
  rw [he] at q' ⊢
  refine callWith_of (by show ((false || (backTo pos (starEach rest env)).any (·.1)) || false) = false; rw [hplain]; rfl) keeper_fn (Calls.evalArgs_plain (wpAny_mono q' (fun vs s' ⟨h', k', e', z⟩ => ?_) fun _ _ x => x))
  subst e'
  exact ⟨z.1, z.2 g d k' os⟩
theorem cw_fn0 {fa : Addr} {first : List Value} (X : IsFn h fa) (q : T prog w A (call (.ref fa) (first ++ [])) R h) : T prog w A (callWith pos (.ref fa) first (backTo pos (starEach [] env)) []) R h :=
  fun g d k os => callWith_of rfl keeper_fn (evalArgs_nil3 ⟨X, q g d k os⟩)
theorem cw_bi {id : String} {first : List Value} {e : Expr} {rest : List Expr} (q : T prog w A (spliced (backTo pos (starEach (e :: rest) env))) (k1 prog w A (fun vs => call (.builtin id) (first ++ vs)) R) h)
    (he : starEach (e :: rest) env = (false, eval e env) :: starEach rest env := by rfl) (hplain : (backTo pos (starEach rest env)).any (·.1) = false := by rfl) :
    T prog w A (callWith pos (.builtin id) first (backTo pos (starEach (e :: rest) env)) []) R h :=
  fun g d k os => callWith_method1 (T_chain q fun _ _ k' z => z g d k' os) he hplain
theorem cw_bi0 {id : String} {first : List Value} (q : T prog w A (call (.builtin id) first) R h) : T prog w A (callWith pos (.builtin id) first (backTo pos (starEach [] env)) []) R h :=
  fun g d k os => callWith_method0 (q g d k os)
theorem cw_ty {ty : String} {e : Expr} {rest : List Expr} (q : T prog w A (spliced (backTo pos (starEach (e :: rest) env))) (k1 prog w A (fun vs => call (.type ty) vs) R) h)
    (he : starEach (e :: rest) env = (false, eval e env) :: starEach rest env := by rfl) (hplain : (backTo pos (starEach rest env)).any (·.1) = false := by rfl) :
    T prog w A (callWith pos (.type ty) [] (backTo pos (starEach (e :: rest) env)) []) R h :=
  fun g d k os => callWith_type1 (T_chain q fun _ _ k' z => z g d k' os) he hplain
theorem e_meth {o : Expr} {name : Str} {apos : Pos} {args : List Expr} (pl : Sem Bool)
    (he : eval (.Call (.Attribute o name apos) args [] pos) env = (do
      let ov ← eval o env
      standAt apos.atName
      let (f, first) ← holding [ov] (getMethod ov name pl)
      callWith pos f first (backTo pos (starEach args env)) []))
    (q : T prog w A (eval o env) (k1 prog w A (fun ov => getMethod ov name pl) (k1 prog w A (fun fx => callWith pos fx.1 fx.2 (backTo pos (starEach args env)) []) R)) h) :
    T prog w A (eval (.Call (.Attribute o name apos) args [] pos) env) R h :=
  fun g d k os => MethodCall_ (pl := pl) (T_chain q fun _ _ k' z => T_chain (z : T prog w A _ _ _) fun _ _ k'' z' => z' g d k'' os) he
end
end Mine
end

section
namespace Mine
open PySem PySem.W PyProof.Rows

def LstO (vs : List Value) (o : Obj) : Prop := ∃ n, o = { cls := .type "list", data := .seq vs.toArray n }
def LstW (vs : List Value) (o : Obj) : Prop := o.cls = .type "list" ∧ ∃ n, o.data = .seq vs.toArray n
def TupO (vs : List Value) (o : Obj) : Prop := ∃ n, o = { cls := .type "tuple", data := .seq vs.toArray n }
theorem LstO.w {v o} (x : LstO v o) : LstW v o := by obtain ⟨n, rfl⟩ := x; exact ⟨rfl, n, rfl⟩
theorem LstW.safe {v o} (x : LstW v o) : safe o := fun vs e => by obtain ⟨_, _, d⟩ := x; rw [d] at e; cases e
theorem LstO.safe {v o} (x : LstO v o) : safe o := x.w.safe
theorem TupO.safe {v o} (x : TupO v o) : safe o := fun vs e => by obtain ⟨_, rfl⟩ := x; cases e
def IsLst (h : Heap) (a : Addr) (vs : List Value) : Prop := ∃ o, h.get? a = some o ∧ LstW vs o
def IsLstO (h : Heap) (a : Addr) (vs : List Value) : Prop := ∃ o, h.get? a = some o ∧ LstO vs o
def IsTpl (h : Heap) (a : Addr) (vs : List Value) : Prop := ∃ o, h.get? a = some o ∧ TupO vs o
theorem IsLstO.w {h a vs} (x : IsLstO h a vs) : IsLst h a vs := let ⟨o, e, r⟩ := x; ⟨o, e, r.w⟩
theorem IsLst.list {h a vs} (x : IsLst h a vs) : h.IsList a vs.toArray := by obtain ⟨o, e, c, n, d⟩ := x; exact ⟨_, e, c, n, d⟩
theorem IsLstO.l {h a vs} (x : IsLstO h a vs) : ∃ n, IsL h a vs.toArray n := by obtain ⟨o, e, n, rfl⟩ := x; exact ⟨n, e⟩
theorem IsTpl.tup {h a vs} (x : IsTpl h a vs) : IsTup h a vs.toArray := by obtain ⟨o, e, n, rfl⟩ := x; exact ⟨_, e, rfl, n, rfl⟩
theorem IsLst.sub {h h' a vs} (x : IsLst h a vs) (k : Sub h h') : IsLst h' a vs := let ⟨o, e, r⟩ := x; ⟨o, k _ _ e, r⟩
theorem IsLstO.sub {h h' a vs} (x : IsLstO h a vs) (k : Sub h h') : IsLstO h' a vs := let ⟨o, e, r⟩ := x; ⟨o, k _ _ e, r⟩
theorem IsTpl.sub {h h' a vs} (x : IsTpl h a vs) (k : Sub h h') : IsTpl h' a vs := let ⟨o, e, r⟩ := x; ⟨o, k _ _ e, r⟩
theorem Wd.lstO {w : World} {h₀ h : Heap} {rs : List Res} {a : Addr} {vs : List Value} (i : Nat) (W : Wd w h₀ rs h) (hi : rs[i]? = some (a, LstO vs)) : IsLstO h a vs := W.get hi
theorem Wd.lst {w : World} {h₀ h : Heap} {rs : List Res} {a : Addr} {vs : List Value} (i : Nat) (W : Wd w h₀ rs h) (hi : rs[i]? = some (a, LstO vs)) : IsLst h a vs := IsLstO.w (W.get hi)
theorem Wd.lstw {w : World} {h₀ h : Heap} {rs : List Res} {a : Addr} {vs : List Value} (i : Nat) (W : Wd w h₀ rs h) (hi : rs[i]? = some (a, LstW vs)) : IsLst h a vs := W.get hi
theorem Wd.tpl {w : World} {h₀ h : Heap} {rs : List Res} {a : Addr} {vs : List Value} (i : Nat) (W : Wd w h₀ rs h) (hi : rs[i]? = some (a, TupO vs)) : IsTpl h a vs := W.get hi

section
variable {prog : Program} {w : World} {A : Around} {h h₀ : Heap} {env : Env} {R : Value → Heap → Prop} {pos : Pos} {f : Res} {rs : List Res} {a b : Addr} {vs us : List Value} {t u : Tok} {P : Obj → Prop}

theorem Wd.add1 {h' : Heap} (W : Wd w h₀ (f :: rs) h) (k : Sub h h') {o : Obj} (e : h.get? a = none) (e' : h'.get? a = some o) (p : P o) (s : ∀ o, P o → safe o) (ha : okA a) : Wd w h₀ (f :: (a, P) :: rs) h' :=
  (W.add k e e' p s ha).perm (.swap ..)
theorem Wd.push1 (W : Wd w h₀ (f :: rs) h) (o : Obj) (p : P o) (s : ∀ o, P o → safe o) (hf : o.isFreed = false) : Wd w h₀ (f :: (h.objs.size, P) :: rs) (h.push o) := (W.push o p s hf).perm (.swap ..)
theorem Wd.skip (W : Wd w h₀ rs h) (o : Obj) : Wd w h₀ rs (h.push o) := W.ext fun _ _ e => Heap.get?_push_of_some _ e

/-- an owned object is given up -/
theorem Wd.lose1 {h' : Heap} (W : Wd w h₀ (f :: (a, P) :: rs) h) (k : Heap.ExtBut a h h') : Wd w h₀ (f :: rs) h' := by
  obtain ⟨o, e, ob⟩ := W.get (i := 1) rfl
  have sa := W.sf _ (.tail _ (.head _)) _ ob
  have hn : h₀.get? a = none := (W.own _ (.tail _ (.head _))).2
  have W' := W.sub (rs' := f :: rs) (.cons_cons _ (.cons _ (.refl _)))
  have nd := W.nd
  simp only [List.map_cons, List.nodup_cons, List.mem_cons, not_or] at nd
  have apart : ∀ r ∈ f :: rs, r.1 ≠ a := by
    intro r hr
    rcases List.mem_cons.mp hr with rfl | hr
    · exact nd.1.1
    · intro e; exact nd.2.1 (e ▸ List.mem_map_of_mem hr)
  refine ⟨fun b o e => k b o (fun z => ?_) (W.keep b o e), fun r hr => ⟨let ⟨o, e, p⟩ := (W'.own r hr).1; ⟨o, k _ _ (apart r hr) e, p⟩, (W'.own r hr).2⟩, W'.nd, W'.sf, W'.lo, W.tb.mono fun b o' e' ns => k b o' (fun z => ?_) e', W.gd, W.no⟩
  · rw [z, hn] at e; cases e
  · rw [z, e] at e'; cases e'; exact ns sa

-- displays
theorem e_tuple {elts : List Expr} {k : Nat} (q : T prog w A (spliced (backTo pos (starEach elts env))) (k1 prog w A newTuple R) h) : T prog w A (eval (.Tuple elts k pos) env) R h :=
  fun g d k os => Tuple_ (T_chain q fun _ _ k' z => z g d k' os)
theorem e_list {elts : List Expr} (q : T prog w A (spliced (backTo pos (starEach elts env))) (k1 prog w A newList R) h) : T prog w A (eval (.List elts pos) env) R h :=
  fun g d k os => List_ (T_chain q fun _ _ k' z => z g d k' os)
theorem new_tuple (W : Wd w h₀ (f :: rs) h) (hz : vs.length ≤ 16384) (q : ∀ a h', h.get? a = none → Wd w h₀ (f :: (a, TupO vs) :: rs) h' → R (.ref a) h') : T prog w A (newTuple vs) R h :=
  fun _ _ _ _ => wpAny_newObj_type ⟨_, _, rfl, q _ _ (Wd.size_none h) (W.push1 _ ⟨_, rfl⟩ (fun _ => TupO.safe) rfl)⟩ (by show vs.toArray.size ≤ sizeLine; rw [List.size_toArray, sizeLine_eq]; (first | exact Mine.w43 hz | omega))
theorem new_list (W : Wd w h₀ (f :: rs) h) (hz : vs.length ≤ 16384) (q : ∀ a h', h.get? a = none → Wd w h₀ (f :: (a, LstO vs) :: rs) h' → R (.ref a) h') : T prog w A (newList vs) R h :=
  fun _ _ _ _ => wpAny_newObj_type ⟨_, _, rfl, q _ _ (Wd.size_none h) (W.push1 _ ⟨_, rfl⟩ (fun _ => LstO.safe) rfl)⟩ (by show vs.toArray.size ≤ sizeLine; rw [List.size_toArray, sizeLine_eq]; (first | exact Mine.w43 hz | omega))

-- items
theorem e_sub {value slice : Expr} (q : T prog w A (eval value env) (k2 prog w A (eval slice env) (subscriptTail value slice) R) h) : T prog w A (eval (.Subscript value slice pos) env) R h :=
  fun g d k os => Subscript_ (T_chain q fun _ _ k' z => T_chain (z : T prog w A _ _ _) fun _ _ k'' z' => z' g d k'' os)
theorem i_list {value slice : Expr} {k : Int} {v : Value} (hl : IsLst h a vs) (h0 : 0 ≤ k) (hk : vs[k.toNat]? = some v) (hz : vs.length ≤ 16384) (q : R v h)
    (hs : subscripted slice false (.ref a) (.int k u) = operate [.ref a, .int k u] (getItem (.ref a) (.int k u)) := by with_unfolding_all rfl) : T prog w A (subscriptTail value slice (.ref a) (.int k u)) R h := by
  have hb : k.toNat < vs.length := (List.getElem?_eq_some_iff.mp hk).1
  exact fun _ _ _ _ => tail_any hl.list.typeIs slot_list_getitem.lookup (wpAny_getItem_list hl.list h0 (by first | decide | omega) (by simpa using hk) ⟨_, _, rfl, q⟩) hs
theorem i_tup {value slice : Expr} {k : Int} {v : Value} (hl : IsTpl h a vs) (h0 : 0 ≤ k) (hk : vs[k.toNat]? = some v) (hz : vs.length ≤ 16384) (q : R v h)
    (hs : subscripted slice false (.ref a) (.int k u) = operate [.ref a, .int k u] (getItem (.ref a) (.int k u)) := by with_unfolding_all rfl) : T prog w A (subscriptTail value slice (.ref a) (.int k u)) R h := by
  have hb : k.toNat < vs.length := (List.getElem?_eq_some_iff.mp hk).1
  have hj : seqIndex? k vs.toArray.size = some k.toNat := by
    rw [List.size_toArray]; unfold seqIndex?
    by_cases hneg : k < 0
    · omega
    · simp only [hneg, if_false]
      rw [if_pos (by simp only [Bool.and_eq_true, decide_eq_true_eq]; omega)]
  exact fun _ _ _ _ => item_tupleT hl.tup (by first | decide | (first | exact Mine.w148 h0 | omega)) (by first | decide | omega) (by simpa using hj) (by simpa using hk) ⟨_, _, rfl, q⟩ hs

-- assignment to an item
theorem x_setsub {o i value : Expr} {p sp : Pos} {rest : List Stmt} {Q : Flow → Heap → Prop}
    (q : T prog w A (eval value env) (fun v h₁ => T prog w A (eval o env) (fun ov h₂ => T prog w A (eval i env) (fun iv h₃ => T prog w A (setItem ov iv v) (fun _ h₄ => T prog w A (execs rest env) Q h₄) h₃) h₂) h₁) h)
    (hsw : swapsWith value (some (.Subscript o i sp)) p.line env = pure false := by rfl) :
    T prog w A (execs (.Assign [.Subscript o i sp] value p :: rest) env) Q h :=
  x_seq fun g d k os => wpAny_Assign_Subscript (T_chain q fun _ _ k₁ z₁ => T_chain (z₁ : T prog w A _ _ _) fun _ _ k₂ z₂ => T_chain (z₂ : T prog w A _ _ _) fun _ _ k₃ z₃ => wpAny_mono ((z₃ : T prog w A _ _ _) g d k₃ os) (fun _ _ ⟨h₄, k₄, e, q₄⟩ => ⟨h₄, k₄, e, q₄⟩) fun _ _ e => e) hsw
theorem s_list {k : Int} {v : Value} (i : Nat) (W : Wd w h₀ rs h) (hi : rs[i]? = some (a, P)) (hP : ∀ o, P o → LstW vs o) (h0 : 0 ≤ k) (hk : k.toNat < vs.length) (hz : vs.length ≤ 16384) {R : Unit → Heap → Prop}
    (q : ∀ h', Wd w h₀ (rs.set i (a, LstW (vs.set k.toNat v))) h' → R () h') : T prog w A (setItem (.ref a) (.int k u) v) R h := by
  obtain ⟨o, e, p⟩ := W.get hi
  have hl : IsLst h a vs := ⟨o, e, hP o p⟩
  intro g d tk os
  refine wpAny_setItem_list hl.list h0 (by first | decide | omega) (by simpa using (by omega : k < (vs.length : Int))) fun h' hl' hs => ⟨_, _, rfl, q _ ?_⟩
  obtain ⟨o', e', c', n', d'⟩ := hl'
  exact W.upd hi hs.extBut e' ⟨c', n', by rw [d']; congr 1; simp⟩ (fun _ => LstW.safe)

-- list methods
theorem gm_list {name : Str} {id : String} {pl : Sem Bool} {Q : Value × List Value → Heap → Prop} (hl : IsLstO h a vs) (slot : Slot "list" name id) (hty : typeOf (.builtin id) = pure (.type "method_descriptor")) (q : Q (.builtin id, [.ref a]) h) :
    T prog w A (getMethod (.ref a) name pl) Q h := by
  obtain ⟨o, e, n, rfl⟩ := hl
  exact fun _ _ _ _ => getMethod_builtin ⟨_, e, rfl⟩ PySem.F.plainAttrs_list slot hty (fun b eb => by cases eb; exact ⟨_, e, rfl⟩) ⟨_, _, rfl, q⟩
theorem c_append {v : Value} (i : Nat) (W : Wd w h₀ rs h) (hi : rs[i]? = some (a, LstO vs)) (hz : vs.length ≤ 16384) (q : ∀ h', Wd w h₀ (rs.set i (a, LstO (vs ++ [v]))) h' → R .none h') :
    T prog w A (call (.builtin "list.append") [.ref a, v]) R h := by
  obtain ⟨o, e, n, rfl⟩ := W.get hi
  refine fun _ _ _ _ => call_meets PySem.F.slot_list_append ⟨_, e, rfl⟩ PySem.F.entry_list_append (PySem.F.args_list_append_2 _ _) (list_append a _ n v (by rw [List.size_toArray, sizeLine_eq]; (first | exact Mine.w43 hz | omega))) ⟨e, ⟨_, _, rfl, q _ (W.upd hi (Heap.SameBut.update ..).extBut (Heap.get?_update_self _ e rfl) ⟨n + 1, ?_⟩ (fun _ => LstO.safe))⟩⟩
  simp [Obj.mapSeq]
theorem c_pop {v : Value} (i : Nat) (W : Wd w h₀ rs h) (hi : rs[i]? = some (a, LstO (vs ++ [v]))) (hz : vs.length ≤ 16384) (q : ∀ h', Wd w h₀ (rs.set i (a, LstO vs)) h' → R v h') :
    T prog w A (call (.builtin "list.pop") [.ref a]) R h := by
  obtain ⟨o, e, n, rfl⟩ := W.get hi
  have hk : (vs ++ [v]).toArray.size - 1 = vs.length := by simp
  refine fun _ _ _ _ => call_meets PySem.F.slot_list_pop ⟨_, e, rfl⟩ PySem.F.entry_list_pop (PySem.F.args_list_pop_1 _) (PySem.MeetsSeq.list_pop_last a _ n v (by rw [hk]; simp) (by rw [List.size_toArray, sizeLine_eq, List.length_append]; simp; (first | exact Mine.w151 hz | omega))) ⟨e, ⟨_, _, rfl, q _ (W.upd hi (Heap.SameBut.update ..).extBut (Heap.get?_update_self _ e rfl) ⟨n + 1, ?_⟩ (fun _ => LstO.safe))⟩⟩
  simp only [Obj.mapSeq, hk, kl_erase vs [] v, List.append_nil]
  simp
theorem c_pop0 {v : Value} (i : Nat) (W : Wd w h₀ rs h) (hi : rs[i]? = some (a, LstO (v :: vs))) (hz : vs.length ≤ 16384) (q : ∀ h', Wd w h₀ (rs.set i (a, LstO vs)) h' → R v h') :
    T prog w A (call (.builtin "list.pop") [.ref a, .int 0 u]) R h := by
  obtain ⟨o, e, n, rfl⟩ := W.get hi
  have hi0 : seqIndex? 0 (v :: vs).toArray.size = some 0 := by rw [List.size_toArray]; unfold seqIndex?; simp
  refine fun _ _ _ _ => call_meets PySem.F.slot_list_pop ⟨_, e, rfl⟩ PySem.F.entry_list_pop (PySem.F.args_list_pop_2 _ _) (PySem.MeetsSeq.list_pop_at a _ n 0 u 0 v rfl hi0 (by simp) (by rw [List.size_toArray, sizeLine_eq]; simp; (first | exact Mine.w151 hz | omega))) ⟨e, ⟨_, _, rfl, q _ (W.upd hi (Heap.SameBut.update ..).extBut (Heap.get?_update_self _ e rfl) ⟨n + 1, ?_⟩ (fun _ => LstO.safe))⟩⟩
  have := kl_erase [] vs v
  simp only [List.nil_append, List.length_nil] at this
  simp only [Obj.mapSeq, this]
  simp
theorem c_reverse (i : Nat) (W : Wd w h₀ rs h) (hi : rs[i]? = some (a, LstO vs)) (hz : vs.length ≤ 16384) (q : ∀ h', Wd w h₀ (rs.set i (a, LstO vs.reverse)) h' → R .none h') :
    T prog w A (call (.builtin "list.reverse") [.ref a]) R h := by
  obtain ⟨o, e, n, rfl⟩ := W.get hi
  refine fun _ _ _ _ => call_meets PySem.F.slot_list_reverse ⟨_, e, rfl⟩ PySem.F.entry_list_reverse (PySem.F.args_list_reverse_1 _) (AutoSeq1.list_reverse_list_0 a _ n (by rw [List.size_toArray, sizeLine_eq]; (first | exact Mine.w43 hz | omega))) ⟨e, ⟨_, _, rfl, q _ (W.upd hi (Heap.SameBut.update ..).extBut (Heap.get?_update_self _ e rfl) ⟨n, ?_⟩ (fun _ => LstO.safe))⟩⟩
  simp [Obj.mapSeq]
theorem c_len (hl : IsLst h a vs) (hz : vs.length ≤ 16384) (q : ∀ k, R (.int vs.length k) h) : T prog w A (call (.builtin "len") [.ref a]) R h :=
  fun _ _ _ _ => len_list hl.list (by rw [List.size_toArray]; (first | exact Mine.w152 hz | omega)) (by rw [List.size_toArray]; exact ⟨_, _, rfl, q _⟩)
theorem c_lenstr {x : Str} (hz : x.length ≤ 16384) (q : ∀ k, R (.int x.length k) h) : T prog w A (call (.builtin "len") [.str x t]) R h :=
  fun _ _ _ _ => P.len_str (by first | decide | (first | exact Mine.w153 hz | omega)) ⟨_, _, rfl, q _⟩
theorem b_list {R : Bool → Heap → Prop} (hl : IsLst h a vs) (hz : vs.length ≤ 16384) (q : R (!vs.isEmpty) h) : T prog w A (truthy (.ref a)) R h :=
  fun _ _ _ _ => wpAny_truthy_list hl.list (by rw [List.size_toArray]; (first | exact Mine.w152 hz | omega)) ⟨_, _, rfl, by simpa using q⟩
theorem b_int {R : Bool → Heap → Prop} {i : Int} (q : R (i != 0) h) : T prog w A (truthy (.int i t)) R h := fun _ _ _ _ => truthy_int ⟨_, _, rfl, q⟩
theorem b_expr {e : Expr} {whole : Sem Value} {R : Bool → Heap → Prop} (q : T prog w A whole (k1 prog w A truthy R) h)
    (he : isTrue e env whole = (do let v ← whole; standAt e.pos; holding [v] (truthy v)) := by rfl) : T prog w A (isTrue e env whole) R h :=
  fun g d k os => isTrue_plain (T_chain q fun _ _ k' z => z g d k' os) he
theorem o_lists (W : Wd w h₀ (f :: rs) h) (hl : IsLstO h a vs) (hb : IsLstO h b us) (hz : vs.length + us.length ≤ 16384) (q : ∀ c h', h.get? c = none → Wd w h₀ (f :: (c, LstO (vs ++ us)) :: rs) h' → R (.ref c) h') :
    T prog w A (binaryOp .Add (.ref a) (.ref b)) R h := by
  obtain ⟨n, hl⟩ := hl.l
  obtain ⟨m, hb⟩ := hb.l
  exact fun _ _ _ _ => P.add_list hl hb ⟨_, _, rfl, q _ _ (Wd.size_none h) (W.push1 _ ⟨0, by simp⟩ (fun _ => LstO.safe) rfl)⟩ (by rw [List.size_toArray, List.size_toArray, sizeLine_eq]; (first | exact Mine.w154 hz | omega))
-- slices
theorem e_slice_list {value : Expr} {lower upper : Option Expr} {p : Pos} (W : Wd w h₀ (f :: rs) h)
    (q : T prog w A (eval value env) (fun o h₁ => T prog w A (evalPart lower env) (fun vl h₂ => T prog w A (evalPart upper env) (fun vu h₃ =>
      ∃ a vs lo hi, o = .ref a ∧ IsLst h₃ a vs ∧ vs.length ≤ 16384 ∧ IsPart vl lo ∧ IsPart vu hi ∧ Wd w h₀ (f :: rs) h₃ ∧
        ∀ c h', h₃.get? c = none → Wd w h₀ (f :: (c, LstO (slicePick vs.toArray lo hi none).toList) :: rs) h' → R (.ref c) h') h₂) h₁) h)
    (ht : ∀ o r, letTemporaryGo value o r = pure () := by intro _ _; rfl) : T prog w A (eval (.Subscript value (.Slice lower upper none p) pos) env) R h := by
  intro g d k os
  refine wpAny_Subscript_list_slice (T_chain q fun o h₁ k₁ z₁ => T_chain (z₁ : T prog w A _ _ _) fun vl h₂ k₂ z₂ => wpAny_mono ((z₂ : T prog w A _ _ _) g d k₂ os) (fun vu s₃ z₃ => ?_) fun _ _ e => e) ht
  obtain ⟨h₃, k₃, rfl, a, vs, lo, hi, rfl, hl, hz, pl, pu, W₃, q₃⟩ := z₃
  refine ⟨a, vs.toArray, lo, hi, rfl, hl.list, by rw [List.size_toArray, sizeLine_eq]; (first | exact Mine.w43 hz | omega), pl, pu, ⟨_, _, rfl, q₃ _ _ (by
    cases e : h₃.get? (h₃.objs.size + 1) with
    | none => rfl
    | some o => exact absurd (Heap.lt_size e) (Nat.not_lt.mpr (Nat.le_succ _))) ?_⟩⟩
  have W' := W₃.skip { cls := .type "slice", data := .fields #[vl, vu, .none] }
  have e := W'.push1 (P := LstO (slicePick vs.toArray lo hi none).toList) { cls := .type "list", data := .seq (slicePick vs.toArray lo hi none) } ⟨0, by simp⟩ (fun _ => LstO.safe) rfl
  rw [Heap.size_push] at e
  exact e
theorem p_none {Q : Value → Heap → Prop} (q : Q .none h) : T prog w A (evalPart none env) Q h := fun _ _ _ _ => wpAny_pure ⟨_, _, rfl, q⟩
theorem p_some {e : Expr} {Q : Value → Heap → Prop} (q : T prog w A (eval e env) Q h) : T prog w A (evalPart (some e) env) Q h := q
-- strs
theorem o_strs {x y : Str} (hz : x.length + y.length ≤ 16384) (q : ∀ k, R (.str (x ++ y) k) h) : T prog w A (binaryOp .Add (.str x t) (.str y u)) R h :=
  fun _ _ _ _ => SB.add (fun _ _ => ⟨_, _, rfl, q _⟩) (by rw [sizeLine_eq]; (first | exact Mine.w154 hz | omega))
theorem o_istrs {x y : Str} (hz : x.length + y.length ≤ 16384) (q : ∀ k, R (.str (x ++ y) k) h) : T prog w A (inplaceOp .Add (.str x t) (.str y u)) R h :=
  fun _ _ _ _ => SB.iadd (fun _ _ => ⟨_, _, rfl, q _⟩) (by rw [sizeLine_eq]; (first | exact Mine.w154 hz | omega))
theorem c_eqs {x y : Str} (q : R (.bool (decide (x = y))) h) : T prog w A (compareOp .Eq (.str x t) (.str y u)) R h := by
  refine fun _ _ _ _ => P.eq_str ⟨_, _, rfl, ?_⟩
  have : (x.cps.toList == y.cps.toList) = decide (x = y) := by
    rw [Bool.eq_iff_iff]; simp only [beq_iff_eq, decide_eq_true_eq]
    constructor
    · intro e; cases x; cases y; simp only [Str.mk.injEq]; exact Array.toList_inj.mp e
    · rintro rfl; rfl
  rw [this]; exact q
theorem c_nes {x y : Str} (q : R (.bool (decide (x ≠ y))) h) : T prog w A (compareOp .NotEq (.str x t) (.str y u)) R h := by
  refine fun _ _ _ _ => P.ne_str ⟨_, _, rfl, ?_⟩
  have : (x.cps.toList != y.cps.toList) = decide (x ≠ y) := by
    rw [Bool.eq_iff_iff]; simp only [bne_iff_ne, ne_eq, decide_eq_true_eq]
    constructor
    · rintro e rfl; exact e rfl
    · intro e z; apply e; cases x; cases y; simp only [Str.mk.injEq]; exact Array.toList_inj.mp z
  rw [this]; exact q
-- ints' other words
theorem gm_bitlen {i : Int} {pl : Sem Bool} {Q : Value × List Value → Heap → Prop} (q : Q (.builtin "int.bit_length", [.int i t]) h) : T prog w A (getMethod (.int i t) (Str.ofString "bit_length") pl) Q h :=
  fun _ _ _ _ => getMethod_int_bit_length ⟨_, _, rfl, q⟩
theorem c_bitlen {i : Int} (q : ∀ k, R (.int (Builtin.Int.intBits i) k) h) : T prog w A (call (.builtin "int.bit_length") [.int i t]) R h := fun _ _ _ _ => call_int_bit_length ⟨_, _, rfl, q _⟩
theorem c_divmod {i j : Int} (W : Wd w h₀ (f :: rs) h) (hj : j ≠ 0) (hp : Builtin.divisionGoesByPylong i j = false) (q : ∀ a h' k l, h.get? a = none → Wd w h₀ (f :: (a, TupO [.int (i.fdiv j) k, .int (i.fmod j) l]) :: rs) h' → R (.ref a) h') :
    T prog w A (call (.builtin "divmod") [.int i t, .int j u]) R h :=
  fun _ _ _ _ => divmod_int hj ⟨_, _, rfl, q _ _ _ _ (Wd.size_none h) (W.push1 _ ⟨_, rfl⟩ (fun _ => TupO.safe) rfl)⟩ (.inl hp)
end
end Mine
end

section
namespace Mine
open PySem PySem.W PyProof.Rows

/-- an iterator at I that hands out n items; Ob is its object behind i of them, Src what it reads -/
structure Itr (prog : Program) (w : World) (I : Addr) (n : Nat) (P : Nat → Value → Prop) (Ob : Nat → Obj → Prop) (Src : Heap → Prop) : Prop where
  item : ∀ (A : Around) (i : Nat) (h : Heap), A.handled = none → i < n → (∃ o, h.get? I = some o ∧ Ob i o) → Src h → ∀ Q : Option Value → Heap → Prop,
    (∀ v h' o', P i v → Heap.ExtBut I h h' → h'.get? I = some o' → Ob (i + 1) o' → Q (some v) h') → T prog w A (pyNext (.ref I)) Q h
  done : ∀ (A : Around) (h : Heap), A.handled = none → (∃ o, h.get? I = some o ∧ Ob n o) → Src h → ∀ Q : Option Value → Heap → Prop, (∀ h', Heap.ExtBut I h h' → Q none h') → T prog w A (pyNext (.ref I)) Q h
  self : ∀ (A : Around) (h : Heap), (∃ o, h.get? I = some o ∧ Ob 0 o) → ∀ Q : Value → Heap → Prop, Q (.ref I) h → T prog w A (pyIter (.ref I)) Q h
  safe : ∀ i o, Ob i o → safe o

def LIt (l : Addr) (i : Nat) (o : Obj) : Prop := o.cls = .type "list_iterator" ∧ o.data = .fields #[.ref l, .int i 0]
def RIt (a c : Int) (n : Nat) (i : Nat) (o : Obj) : Prop := i ≤ n ∧ ∃ t u v, o = { cls := .type "range_iterator", data := .fields #[.int (a + i * c) t, .int ((n : Int) - i) u, .int c v] }
section
variable {prog : Program} {w : World} {A : Around} {h h₀ : Heap} {env : Env} {pos : Pos} {f : Res} {rs : List Res}

theorem Itr.list (I l : Addr) (vs : List Value) : Itr prog w I vs.length (fun i v => vs[i]? = some v) (LIt l) (fun h => IsLst h l vs) where
  item := fun A i h _ hi ⟨o, e, c, d⟩ hl Q q => fun _ _ _ _ => wpAny_pyNext_list_item (x := vs[i]) ⟨o, e, c, d⟩ hl.list (by simp [hi]) fun h' ⟨o', e', c', d'⟩ hs => ⟨_, _, rfl, q _ h' o' (by simp [hi]) hs.extBut e' ⟨c', d'⟩⟩
  done := fun A h hh ⟨o, e, c, d⟩ hl Q q => fun _ _ _ _ => wpAny_pyNext_list_end hh ⟨o, e, c, d⟩ hl.list (by simp) fun h' hs => ⟨_, _, rfl, q h' hs⟩
  self := fun A h ⟨o, e, c, d⟩ Q q => fun _ _ _ _ => wpAny_pyIter_listiter (i := 0) ⟨o, e, c, d⟩ ⟨_, _, rfl, q⟩
  safe := fun i o ⟨c, d⟩ vs e => by rw [d] at e; cases e; exact ⟨by rw [c]; nofun, fun t => ⟨by simp, by simp⟩⟩

/-- the invariant again, with less to go -/
inductive Nx (I : Nat → Heap → Prop) (n : Nat) (h' : Heap) : Prop
  | mk (m : Nat) (hm : m < n) (z : I m h')
/-- the invariant of a for, with the heap's bookkeeping -/
inductive Jx (w : World) (J : Heap → List (Option Value) → List Res → Prop) (L I : Addr) (ns : List (Str × NameKind)) (P : Obj → Prop) (h' : Heap) : Prop
  | mk (h₀' : Heap) (vals' : List (Option Value)) (rs' : List Res) (j : J h₀' vals' rs') (W : Wd w h₀' ((L, Loc ns vals') :: (I, P) :: rs') h')
inductive FlI (w : World) (g : Array GenState) (d : Drawn) (os : OsState) (J : Nat → Heap → List (Option Value) → List Res → Prop) (L I : Addr) (ns : List (Str × NameKind)) (Ob : Nat → Obj → Prop) (n m : Nat) (s' : Shared) : Prop
  | mk (i : Nat) (h' : Heap) (k' : Nat) (h₀ : Heap) (vals : List (Option Value)) (rs : List Res) (e : s' = ⟨h', g, d, k', os⟩) (j : J i h₀ vals rs) (W : Wd w h₀ ((L, Loc ns vals) :: (I, Ob i) :: rs) h') (hi : i ≤ n) (hm : m = n - i)
/-- a for over an iterator -/
def loopQ (again : Heap → Prop) (exit : Heap → Prop) (Q : Flow → Heap → Prop) : Flow → Heap → Prop
  | .next, h => again h
  | .cont, h => again h
  | .brk, h => exit h
  | .ret v, h => Q (.ret v) h

theorem x_for {target iter : Expr} {body rest : List Stmt} {p : Pos} {Q : Flow → Heap → Prop}
    (q : T prog w A (eval iter env) (fun v h₁ => T prog w A (pyIter v) (fun it h₂ => C prog w A (.forLoop target it body [] env) (seqQ prog w A rest env Q) h₂) h₁) h)
    (hs : ∀ x, foldedSetIterable iter env x = pure x := by intro _; rfl) : T prog w A (execs (.For target iter body [] p :: rest) env) Q h :=
  x_seq fun g d k os => wpAny_For (T_chain q fun v h₁ k₁ z => wpAny_mono ((z : T prog w A _ _ _) g d k₁ os) (fun it s₂ ⟨h₂, k₂, e, c⟩ => by
    subst e
    refine codeAny_mono (c g d k₂ os) fun r s' hr => ?_
    cases r with
    | ok f => exact hr
    | error e => exact hr.elim) fun _ _ e => e) hs

theorem c_for {x : Str} {px : Pos} {body rest : List Stmt} {Q : Flow → Heap → Prop} {L I : Addr} {ns : List (Str × NameKind)} {n : Nat} {P : Nat → Value → Prop} {Ob : Nat → Obj → Prop} {Src : Heap → Prop} (ix : Nat)
    (S : Sc env L ns) (hx : ns[ix]? = some (x, .local)) (hh : A.handled = none) (IT : Itr prog w I n P Ob Src) (J : Nat → Heap → List (Option Value) → List Res → Prop)
    (hix : ∀ i h₀ vals rs, J i h₀ vals rs → ∃ u, vals[ix]? = some u)
    (hsrc : ∀ i h₀ vals rs h, J i h₀ vals rs → Wd w h₀ ((L, Loc ns vals) :: (I, Ob i) :: rs) h → Src h)
    (turn : ∀ i h₀ vals rs v h, i < n → P i v → J i h₀ vals rs → Wd w h₀ ((L, Loc ns (vals.set ix (some v))) :: (I, Ob (i + 1)) :: rs) h →
      T prog w A (execs body env) (loopQ (Jx w (J (i + 1)) L I ns (Ob (i + 1))) (T prog w A (execs rest env) Q) Q) h)
    (done : ∀ h₀ vals rs h, J n h₀ vals rs → Wd w h₀ ((L, Loc ns vals) :: rs) h → T prog w A (execs rest env) Q h)
    {vals : List (Option Value)} (j0 : J 0 h₀ vals rs) (W : Wd w h₀ ((L, Loc ns vals) :: (I, Ob 0) :: rs) h) :
    C prog w A (.forLoop (.Name x px) (.ref I) body [] env) (seqQ prog w A rest env Q) h := by
  intro g d k os
  refine codeAny_forLoop (FlI w g d os J L I ns Ob n) ?_ n ⟨0, h, k, h₀, vals, rs, rfl, j0, W, Nat.zero_le _, rfl⟩
  rintro m s' ⟨i, h', k', h₀', vals', rs', rfl, j, W', hi, rfl⟩
  have src := hsrc _ _ _ _ _ j W'
  by_cases hin : i < n
  · refine wpAny_mono (IT.item A i h' hh hin (W'.get (i := 1) rfl) src (fun r h₁ => ∃ v o', r = some v ∧ P i v ∧ Heap.ExtBut I h' h₁ ∧ h₁.get? I = some o' ∧ Ob (i + 1) o') (fun v h₁ o' a b c d => ⟨v, o', rfl, a, b, c, d⟩) g d k' os) (fun r s₁ hr => ?_) fun _ _ e => e.elim
    obtain ⟨h₁, k₁, rfl, v, o', rfl, hp, hext, e', ob'⟩ := hr
    have W₁ := W'.upd (i := 1) (P' := Ob (i + 1)) rfl hext e' ob' (IT.safe _)
    obtain ⟨uix, hixu⟩ := hix _ _ _ _ j
    refine wpAny_mono (wpAny_assign_Name (s_loc (prog := prog) (w := w) (A := A) (v := v) ix S W₁ hx hixu (R := fun _ h₂ => Wd w h₀' ((L, Loc ns (vals'.set ix (some v))) :: (I, Ob (i + 1)) :: rs') h₂) (fun h₂ W₂ => W₂) g d k₁ os)) (fun _ s₂ hr => ?_) fun _ _ e => e.elim
    obtain ⟨h₂, k₂, rfl, W₂⟩ := hr
    refine wpAny_mono (turn i h₀' vals' rs' v h₂ hin hp j W₂ g d k₂ os) (fun f s₃ hr => ?_) fun _ _ e => e.elim
    obtain ⟨h₃, k₃, rfl, q₃⟩ := hr
    cases f with
    | next => obtain ⟨a, b, c, j', W₃⟩ := q₃; exact ⟨n - (i + 1), by (first | exact Mine.w20 hin | omega), i + 1, h₃, k₃, a, b, c, rfl, j', W₃, hin, rfl⟩
    | cont => obtain ⟨a, b, c, j', W₃⟩ := q₃; exact ⟨n - (i + 1), by (first | exact Mine.w20 hin | omega), i + 1, h₃, k₃, a, b, c, rfl, j', W₃, hin, rfl⟩
    | brk => exact ⟨_, _, rfl, q₃⟩
    | ret v => exact ⟨_, _, rfl, q₃⟩
  · have hin' : i = n := by (first | exact Mine.w22 hi hin | omega)
    subst hin'
    refine wpAny_mono (IT.done A h' hh (W'.get (i := 1) rfl) src (fun r h₁ => r = none ∧ Heap.ExtBut I h' h₁) (fun h₁ a => ⟨rfl, a⟩) g d k' os) (fun r s₁ hr => ?_) fun _ _ e => e.elim
    obtain ⟨h₁, k₁, rfl, rfl, hext⟩ := hr
    refine wpAny_execs_nil ⟨_, _, rfl, ?_⟩
    refine done h₀' vals' rs' h₁ j ?_
    exact W'.lose1 hext

/-- a while -/
theorem x_while {test : Expr} {body rest : List Stmt} {p : Pos} {Q : Flow → Heap → Prop} (I : Nat → Heap → Prop)
    (turn : ∀ n h, I n h → T prog w A (isTrue test env (eval test env)) (fun b h₂ => cond b (T prog w A (execs body env) (loopQ (Nx I n) (T prog w A (execs rest env) Q) Q) h₂) (T prog w A (execs rest env) Q h₂)) h)
    (n : Nat) (h0 : I n h) : T prog w A (execs (.While test body [] p :: rest) env) Q h := by
  refine x_seq fun g d k os => wpAny_While (codeAny_whileLoop (fun n s' => ∃ h' k', s' = ⟨h', g, d, k', os⟩ ∧ I n h') ?_ n ⟨h, k, rfl, h0⟩)
  rintro n s' ⟨h', k', rfl, hi⟩
  refine wpAny_mono (turn n h' hi g d k' os) (fun b s₂ hr => ?_) fun _ _ e => e.elim
  obtain ⟨h₂, k₂, rfl, q₂⟩ := hr
  cases b with
  | false => exact wpAny_execs_nil ⟨_, _, rfl, q₂⟩
  | true =>
    refine wpAny_mono ((q₂ : T prog w A _ _ _) g d k₂ os) (fun f s₃ hr => ?_) fun _ _ e => e.elim
    obtain ⟨h₃, k₃, rfl, q₃⟩ := hr
    cases f with
    | next => obtain ⟨m, hm, z⟩ := q₃; exact ⟨m, hm, h₃, k₃, rfl, z⟩
    | cont => obtain ⟨m, hm, z⟩ := q₃; exact ⟨m, hm, h₃, k₃, rfl, z⟩
    | brk => exact ⟨_, _, rfl, q₃⟩
    | ret v => exact ⟨_, _, rfl, q₃⟩
end
end Mine
end

section
namespace Mine
open PySem PySem.W PyProof.Rows

def locVals : List (Str × NameKind) → List Value → List (Option Value)
  | (_, k) :: ns, v :: vs => (if k = .local then some v else none) :: locVals ns vs
  | _ :: ns, [] => none :: locVals ns []
  | [], _ => []
def celVals : List (Str × NameKind) → List Value → List (Option Value)
  | (_, k) :: ns, v :: vs => (if k = .local then none else some v) :: celVals ns vs
  | _ :: ns, [] => none :: celVals ns []
  | [], _ => []
theorem lkp_not : ∀ {ns : List (Str × NameKind)} {vs : List (Option Value)} {y : Str}, y ∉ ns.map (·.1) → lkp ns vs y = none
  | [], _, _, _ => by unfold lkp; rfl
  | (k, _) :: ns, [], _, _ => by simp [lkp]
  | (k, _) :: ns, v :: vs, y, h => by
    simp only [List.map_cons, List.mem_cons, not_or] at h
    simp only [lkp, if_neg h.1]; exact lkp_not h.2
theorem locVals_nil : ∀ (ns : List (Str × NameKind)) (y : Str), lkp ns (locVals ns []) y = none
  | [], _ => by unfold lkp; rfl
  | (k, _) :: ns, y => by simp only [locVals, lkp, locVals_nil ns y, ite_self]
theorem celVals_nil : ∀ (ns : List (Str × NameKind)) (y : Str), lkp ns (celVals ns []) y = none
  | [], _ => by unfold lkp; rfl
  | (k, _) :: ns, y => by simp only [celVals, lkp, celVals_nil ns y, ite_self]
theorem bL0 {K : Str → Option NameKind} {m : Str → Option Value} : bindL K [] m = m := rfl
theorem bL1 {K : Str → Option NameKind} {n : Str} {v : Value} {r : List (Str × Value)} {m : Str → Option Value} : bindL K ((n, v) :: r) m = bindL K r (if K n = some .local then fun y => if y = n then some v else m y else m) := rfl
theorem bC0 {K : Str → Option NameKind} {m : Str → Option Value} : bindC K [] m = m := rfl
theorem bC1 {K : Str → Option NameKind} {n : Str} {v : Value} {r : List (Str × Value)} {m : Str → Option Value} : bindC K ((n, v) :: r) m = bindC K r (if K n = some .local then m else fun y => if y = n then some v else m y) := rfl
theorem bindL_lkp {K : Str → Option NameKind} : ∀ {ns : List (Str × NameKind)} {args : List Value} {m : Str → Option Value}, (ns.map (·.1)).Nodup → (∀ p ∈ ns, K p.1 = some p.2) → ∀ y,
    bindL K ((ns.map (·.1)).zip args) m y = (lkp ns (locVals ns args) y).or (m y)
  | [], args, m, _, _, y => by simp [bL0, lkp]
  | (n, k) :: ns, [], m, _, _, y => by rw [locVals_nil]; simp [bL0]
  | (n, k) :: ns, v :: args, m, nd, hk, y => by
    rw [List.map_cons, List.nodup_cons] at nd
    simp only [List.map_cons, List.zip_cons_cons, bL1, locVals, lkp]
    rw [bindL_lkp nd.2 (fun p hp => hk p (.tail _ hp)) y]
    have hn : K n = some k := hk (n, k) (.head _)
    by_cases hy : y = n
    · subst hy
      rw [lkp_not nd.1, if_pos rfl, hn]
      by_cases hl : k = .local <;> simp [hl]
    · rw [if_neg hy]
      congr 1
      split <;> simp [hy]
theorem bindC_lkp {K : Str → Option NameKind} : ∀ {ns : List (Str × NameKind)} {args : List Value} {m : Str → Option Value}, (ns.map (·.1)).Nodup → (∀ p ∈ ns, K p.1 = some p.2) → ∀ y,
    bindC K ((ns.map (·.1)).zip args) m y = (lkp ns (celVals ns args) y).or (m y)
  | [], args, m, _, _, y => by simp [bC0, lkp]
  | (n, k) :: ns, [], m, _, _, y => by rw [celVals_nil]; simp [bC0]
  | (n, k) :: ns, v :: args, m, nd, hk, y => by
    rw [List.map_cons, List.nodup_cons] at nd
    simp only [List.map_cons, List.zip_cons_cons, bC1, celVals, lkp]
    rw [bindC_lkp nd.2 (fun p hp => hk p (.tail _ hp)) y]
    have hn : K n = some k := hk (n, k) (.head _)
    by_cases hy : y = n
    · subst hy
      rw [lkp_not nd.1, if_pos rfl, hn]
      by_cases hl : k = .local <;> simp [hl]
    · rw [if_neg hy]
      congr 1
      split <;> simp [hy]

def celRs : Addr → List (Str × NameKind) → List (Option Value) → List Res → List Res
  | c, (_, k) :: ns, v :: vs, acc => if k = .cell then celRs (c + 1) ns vs ((c, Cel v) :: acc) else celRs c ns vs acc
  | _, _, _, acc => acc
theorem celRs_fst : ∀ (ns : List (Str × NameKind)) (vs : List (Option Value)) (c : Addr) (acc : List Res) (cs : List (Str × Addr)), vs.length = ns.length → acc.map (·.1) = cs.map (·.2) → (celRs c ns vs acc).map (·.1) = (cellsFrom c ns cs).map (·.2)
  | [], vs, c, acc, cs, _, e => by unfold celRs cellsFrom; exact e
  | (n, k) :: ns, [], c, acc, cs, h, e => by simp at h
  | (n, k) :: ns, v :: vs, c, acc, cs, h, e => by
    unfold celRs cellsFrom
    by_cases hk : k = .cell
    · subst hk; exact celRs_fst ns vs (c + 1) _ _ (by simpa using h) (by simp [e])
    · have : (k == NameKind.cell) = false := by simpa using hk
      rw [if_neg hk, this]; exact celRs_fst ns vs c _ _ (by simpa using h) e
theorem celRs_mem : ∀ (ns : List (Str × NameKind)) (vs : List (Option Value)) (c : Addr) (acc : List Res) (cs : List (Str × Addr)) (r : Res), vs.length = ns.length → r ∈ celRs c ns vs acc →
    r ∈ acc ∨ ∃ (i : Nat) (n : Str) (v : Option Value), ns[i]? = some (n, NameKind.cell) ∧ vs[i]? = some v ∧ r.2 = Cel v ∧ (n, r.1) ∈ cellsFrom c ns cs
  | [], vs, c, acc, cs, r, _, h => by unfold celRs at h; exact .inl h
  | (n, k) :: ns, [], c, acc, cs, r, h, _ => by simp at h
  | (n, k) :: ns, v :: vs, c, acc, cs, r, hl, h => by
    have mem : ∀ (ns : List (Str × NameKind)) (c : Addr) (cs : List (Str × Addr)) (p : Str × Addr), p ∈ cs → p ∈ cellsFrom c ns cs := by
      intro ns
      induction ns with
      | nil => intro c cs p hp; exact hp
      | cons q ns ih =>
        obtain ⟨qn, qk⟩ := q
        intro c cs p hp
        unfold cellsFrom
        split
        · exact ih _ _ _ (.tail _ hp)
        · exact ih _ _ _ hp
    unfold celRs at h
    by_cases hk : k = .cell
    · subst hk
      rw [if_pos rfl] at h
      rcases celRs_mem ns vs (c + 1) _ ((n, c) :: cs) r (by simpa using hl) h with h | ⟨i, n', v', a, b, d, e⟩
      · rcases List.mem_cons.mp h with rfl | h
        · refine .inr ⟨0, n, v, rfl, rfl, rfl, ?_⟩
          unfold cellsFrom
          exact mem _ _ _ _ (.head _)
        · exact .inl h
      · refine .inr ⟨i + 1, n', v', by simpa using a, by simpa using b, d, ?_⟩
        unfold cellsFrom
        exact e
    · rw [if_neg hk] at h
      have : (k == NameKind.cell) = false := by simpa using hk
      rcases celRs_mem ns vs c acc cs r (by simpa using hl) h with h | ⟨i, n', v', a, b, d, e⟩
      · exact .inl h
      · refine .inr ⟨i + 1, n', v', by simpa using a, by simpa using b, d, ?_⟩
        unfold cellsFrom
        rw [this]; exact e
theorem celVals_length : ∀ (ns : List (Str × NameKind)) (args : List Value), (celVals ns args).length = ns.length
  | [], _ => by simp [celVals]
  | _ :: ns, [] => by simp [celVals, celVals_length ns []]
  | _ :: ns, _ :: vs => by simp [celVals, celVals_length ns vs]
theorem locVals_length : ∀ (ns : List (Str × NameKind)) (args : List Value), (locVals ns args).length = ns.length
  | [], _ => by simp [locVals]
  | _ :: ns, [] => by simp [locVals, locVals_length ns []]
  | _ :: ns, _ :: vs => by simp [locVals, locVals_length ns vs]

section
variable {prog : Program} {w : World} {A : Around} {h h₀ : Heap} {R : Value → Heap → Prop} {rs : List Res}
theorem Wd.adds {h' : Heap} {nr : List Res} (W : Wd w h₀ rs h) (k : Sub h h') (nd : (nr.map (·.1)).Nodup) (e : ∀ r ∈ nr, h.get? r.1 = none ∧ okA r.1 ∧ (∃ o, h'.get? r.1 = some o ∧ r.2 o) ∧ ∀ o, r.2 o → safe o) : Wd w h₀ (nr ++ rs) h' := by
  have W' := W.ext k
  refine ⟨W'.keep, fun r hr => ?_, ?_, fun r hr => ?_, fun r hr => ?_, W'.tb, W.gd, W.no⟩
  · rcases List.mem_append.mp hr with hr | hr
    · exact ⟨(e r hr).2.2.1, (W.new0 (e r hr).1).1⟩
    · exact W'.own r hr
  · rw [List.map_append, List.nodup_append]
    refine ⟨nd, W.nd, fun a ha b hb => ?_⟩
    obtain ⟨r, hr, rfl⟩ := List.mem_map.mp ha
    obtain ⟨r', hr', rfl⟩ := List.mem_map.mp hb
    exact fun q => (W.new0 (e r hr).1).2.1 r' hr' q.symm
  · rcases List.mem_append.mp hr with hr | hr
    · exact (e r hr).2.2.2
    · exact W.sf r hr
  · rcases List.mem_append.mp hr with hr | hr
    · exact (e r hr).2.1
    · exact W.lo r hr

def fnOkC (st : Stmt) (m : Nat) : Bool := decide (m ≤ ((paramsOf st).args.map (·.arg)).length) && decide (((scopeOf st).names.map (·.1)).take m = ((paramsOf st).args.map (·.arg)).take m) &&
  okNames (scopeOf st).names && (((scopeOf st).names.take m).all fun p => p.2 == .local || p.2 == .cell) && decide ((scopeOf st).kind = .function) && !(scopeOf st).isCoroutine && !(scopeOf st).isGenerator
theorem zip_take {α β : Type} : ∀ (a : List α) (b : List β), (a.take b.length).zip b = a.zip b
  | [], _ => by simp
  | _ :: _, [] => by simp
  | x :: a, y :: b => by simp [zip_take a b]
theorem cellsFrom_has : ∀ (ns : List (Str × NameKind)) (c : Addr) (cs : List (Str × Addr)) (x : Str), (ns.lookup x = some .cell ∨ (cs.lookup x).isSome = true) → ((cellsFrom c ns cs).lookup x).isSome = true := fun ns c cs x h => cellsFrom_some ns c cs h
/-- a def with captured names is called -/
theorem call_fnC {fa c : Addr} {qual : Str} {st : Stmt} {args : List Value} {n m : Nat} (F : FnIs h fa c qual st) (g : Gd w h) (tb : Tabs h) (ok : Ok A (n + 1)) (hfn : fnOkC st m = true) (hm : args.length = m)
    (bnd : ∀ doc pm ct, bindArgs (fnX (nameOfD st) qual (paramsOf st) (bodyOf st) (scopeOf st) [] .none .none doc pm none (.ref c) ct) ⟨args, []⟩ = pure (((paramsOf st).args.map (·.arg)).zip args))
    (X : List Res) (hX : ∀ r ∈ X, ∃ o, h.get? r.1 = some o ∧ r.2 o) (ndX : (X.map (·.1)).Nodup) (sfX : ∀ r ∈ X, ∀ o, r.2 o → safe o) (loX : ∀ r ∈ X, okA r.1)
    (k : ∀ L env h₀ h₁, Sc env L (scopeOf st).names → env.code = .ref c → env.cells = cellsFrom (L + 1) (scopeOf st).names [] → env.qual = qual ++ ".<locals>." → (∀ b o, h.get? b = some o → b ≠ 72 → b ≠ 79 → b ∉ X.map (·.1) → h₀.get? b = some o) →
      Wd w h₀ ((L, Loc (scopeOf st).names (locVals (scopeOf st).names args)) :: (celRs (L + 1) (scopeOf st).names (celVals (scopeOf st).names args) [] ++ X)) h₁ → Ok (A.deeper env) n →
      T prog w (A.deeper env) (execs (bodyOf st) env) (fun f h' => R (retv f) h') h₁) :
    T prog w A (call (.ref fa) args) R h := by
  unfold fnOkC at hfn
  simp only [Bool.and_eq_true, decide_eq_true_eq, Bool.not_eq_true'] at hfn
  obtain ⟨⟨⟨⟨⟨⟨hlen, hpre⟩, hok⟩, hkin⟩, hkind⟩, hco⟩, hgen⟩ := hfn
  subst hm
  have nd := okNames.nd hok
  obtain ⟨o, doc, pm, ct, ho, hd, hcd⟩ := F
  have hz : ((paramsOf st).args.map (·.arg)).zip args = ((scopeOf st).names.map (·.1)).zip args := by
    rw [← zip_take ((paramsOf st).args.map (·.arg)), ← hpre, zip_take]
  have hK : ∀ p ∈ (scopeOf st).names, (scopeOf st).names.lookup p.1 = some p.2 := fun p hp => by
    obtain ⟨i, hi⟩ := List.getElem?_of_mem hp
    exact lookup_of_place nd hi
  intro gs d tk os
  refine wpAny_call (codeAny_call_cells (s := ⟨h, gs, d, tk, os⟩) ok.room ho hd g.nl hcd rfl (bnd _ _ _) rfl ?_ ?_ hco hgen hkind)
  · intro p hp
    rw [hz] at hp
    obtain ⟨i, hi⟩ := List.getElem?_of_mem hp
    rw [List.getElem?_zip_eq_some, List.getElem?_map, Option.map_eq_some_iff] at hi
    obtain ⟨⟨q, hq, hqp⟩, hv⟩ := hi
    have hia : i < args.length := (List.getElem?_eq_some_iff.mp hv).1
    have hm' : q ∈ (scopeOf st).names.take args.length := List.mem_of_getElem? (by rw [List.getElem?_take, if_pos hia]; exact hq)
    have hk := List.all_eq_true.mp hkin q hm'
    have hl := hK q (List.mem_of_getElem? hq)
    rw [← hqp]
    rcases Bool.or_eq_true_iff.mp hk with z | z
    · left; rw [← eq_of_beq z]; exact hl
    · right; rw [eq_of_beq z] at hl; exact ⟨hl, cellsFrom_has _ _ _ _ (.inl hl)⟩
  · intro s₁ x
    obtain ⟨h₁, k₁, rfl, keep⟩ := x.done
    have W₀ := Wd.start g tb hX ndX sfX loX
    have hL : h.get? h.objs.size = none := Wd.size_none h
    obtain ⟨oL, es, ep, eL, dL, kL, fL⟩ := x.toInCall.ns
    have hm1 : ∀ y, nsFind es y = lkp (scopeOf st).names (locVals (scopeOf st).names args) y := fun y => by
      rw [fL y]
      show bindL (fun x => (scopeOf st).names.lookup x) (((paramsOf st).args.map (·.arg)).zip args) _ y = _
      rw [hz, bindL_lkp nd hK y, Option.or_none]
    have W₁ := W₀.adds (nr := (h.objs.size, Loc (scopeOf st).names (locVals (scopeOf st).names args)) :: celRs (h.objs.size + 1) (scopeOf st).names (celVals (scopeOf st).names args) []) (h' := h₁) keep ?_ ?_
    · have S : Sc (callEnvC (fnX (nameOfD st) qual (paramsOf st) (bodyOf st) (scopeOf st) [] .none .none doc pm none (.ref c) ct) h.objs.size fa) h.objs.size (scopeOf st).names := .of hkind rfl hok rfl rfl rfl
      have kk := k h.objs.size _ _ h₁ S rfl rfl rfl (fun b o e n1 n2 n3 => hideAll_get _ e fun q => by
        rcases List.mem_cons.mp q with q | q
        · exact n1 q
        · rcases List.mem_cons.mp q with q | q
          · exact n2 q
          · exact n3 q) W₁ (ok.deeper _)
      refine wpAny_mono (kk gs d _ os) (fun f s' hq => ?_) fun _ _ e => e.elim
      obtain ⟨h', k', rfl, q⟩ := hq
      cases f <;> exact ⟨_, _, rfl, q⟩
    · rw [List.map_cons, List.nodup_cons]
      have e := celRs_fst (scopeOf st).names (celVals (scopeOf st).names args) (h.objs.size + 1) [] [] (celVals_length _ _) rfl
      rw [e]
      constructor
      · intro hm
        obtain ⟨p, hp, q⟩ := List.mem_map.mp hm
        exact absurd (x.above p.1 p.2 hp) (by rw [q]; exact Nat.lt_irrefl _)
      · exact List.pairwise_map.mpr x.apart
    · intro r hr
      rcases List.mem_cons.mp hr with rfl | hr
      · exact ⟨hL, W₀.size, ⟨oL, eL, es, ep, dL, kL, hm1⟩, fun _ => Loc.safe⟩
      · rcases celRs_mem _ _ _ _ [] r (celVals_length _ _) hr with hr | ⟨i, n', v', a1, a2, a3, a4⟩
        · cases hr
        · have hlt : h.objs.size < r.1 := x.above _ _ a4
          have hnd : ((cellsFrom (h.objs.size + 1) (scopeOf st).names []).map (·.1)).Nodup := by
            have : ∀ (ns : List (Str × NameKind)) (c : Addr) (cs : List (Str × Addr)), (ns.map (·.1)).Nodup → (cs.map (·.1)).Nodup → (∀ x ∈ ns.map (·.1), x ∉ cs.map (·.1)) → ((cellsFrom c ns cs).map (·.1)).Nodup := by
              intro ns
              induction ns with
              | nil => intro c cs _ h2 _; exact h2
              | cons q ns ih =>
                obtain ⟨qn, qk⟩ := q
                intro c cs h1 h2 h3
                rw [List.map_cons, List.nodup_cons] at h1
                unfold cellsFrom
                split
                · refine ih _ _ h1.2 ?_ ?_
                  · rw [List.map_cons, List.nodup_cons]; exact ⟨h3 qn (.head _), h2⟩
                  · intro x hx hm
                    rw [List.map_cons, List.mem_cons] at hm
                    rcases hm with rfl | hm
                    · exact h1.1 hx
                    · exact h3 x (.tail _ hx) hm
                · exact ih _ _ h1.2 h2 fun x hx => h3 x (.tail _ hx)
            exact this _ _ _ nd List.nodup_nil (fun _ _ h => nomatch h)
          obtain ⟨j, hj⟩ := List.getElem?_of_mem a4
          have hc := x.cell n' r.1 (look_of hnd hj)
          have hv : bindC (fun x => (scopeOf st).names.lookup x) (((paramsOf st).args.map (·.arg)).zip args) (fun _ => none) n' = v' := by
            rw [hz, bindC_lkp nd hK n', Option.or_none]
            exact lkp_get nd a1 a2
          refine ⟨?_, ?_, ?_, ?_⟩
          · cases q : h.get? r.1 with
            | none => rfl
            | some o => exact absurd (Heap.lt_size q) (Nat.lt_asymm hlt)
          · rcases W₀.size with z | z
            · exact .inr (by obtain ⟨_, e⟩ := g.top; exact Nat.le_trans (Heap.lt_size e) (Nat.le_of_lt hlt))
            · exact .inr (Nat.le_trans z (Nat.le_of_lt hlt))
          · obtain ⟨oc, ec, dc⟩ := hc
            refine ⟨oc, ec, ?_⟩
            rw [a3]
            show oc.data = .cell v'
            rw [dc, ← hv]
            rfl
          · rw [a3]; exact fun _ => Cel.safe
end
end Mine
end

section
namespace Mine
open PySem PySem.W PyProof.Rows

def envC (cells : List (Str × Addr)) : Env := { scope := default, locals := 0, globals := 0, cells := cells }
theorem closureFor_cells (scope : Scope) (env : Env) : closureFor scope env = closureFor scope (envC env.cells) := rfl

theorem notSafe_code {h : Heap} {c : Addr} {qual : Str} (x : h.CodeRec (.ref c) qual) (hq : qual = qual6 ∨ qual = qual7) : ∃ o, h.get? c = some o ∧ ¬ safe o := by
  obtain ⟨c', o, vs, t, e, e1, e2, e3⟩ := x
  cases e
  refine ⟨o, e1, fun s => ?_⟩
  rcases hq with rfl | rfl
  · exact ((s vs e2).2 t).1 e3
  · exact ((s vs e2).2 t).2 e3
theorem TabC.ext {h h' : Heap} {P P2 : Addr} {pos : Pos} {qual : Str} (x : TabC h P2 pos qual) (hne : P2 ≠ P) (hP : h.get? P = some (tabObj #[])) (k : Heap.ExtBut P h h') : TabC h' P2 pos qual := by
  rcases x with e | ⟨c, e, c', o, vs, t, ec, e1, e3, e4⟩
  · exact .inl (k _ _ hne e)
  · cases ec
    refine .inr ⟨c, k _ _ hne e, c, o, vs, t, rfl, k _ _ (fun z => ?_) e1, e3, e4⟩
    rw [z, hP] at e1; cases e1; cases e3; simp at e4
theorem code_ne {h : Heap} {c P : Addr} {pos : Pos} {q qual : Str} (x : h.CodeRec (.ref c) qual) (tb : TabC h P pos q) : c ≠ P := by
  rintro rfl
  obtain ⟨c', o, vs, t, e, e1, e2, e3⟩ := x
  cases e
  rcases tb with z | ⟨_, z, _⟩
  · rw [z] at e1; cases e1; cases e2; simp at e3
  · rw [z] at e1; cases e1; cases e2; simp [rawInt] at e3

section
variable {prog : Program} {w : World} {A : Around} {h h₀ : Heap} {rs : List Res} {env : Env}
/-- behind the making: all is kept, the new function is frozen -/
theorem made_fn {name qual : Str} {params : Arguments} {body : List Stmt} {scope : Scope} {cl : List (Str × Addr)} {doc pm ct : Value} {f c : Addr} {h' : Heap} (W : Wd w h₀ rs h') (e : h'.get? f = some (fnMade name qual params body scope cl doc pm c ct))
    (n1 : f ≠ 72) (n2 : f ≠ 79) (cr : h'.CodeRec (.ref c) qual) (hq : qual = qual6 ∨ qual = qual7) (hf : ∀ r ∈ rs, r.1 ≠ f) (decs : List Expr) (pos : Pos) :
    ∃ h₁, Sub h₀ h₁ ∧ Wd w h₁ rs h' ∧ FnIs h₁ f c qual (.FunctionDef name params body decs none [] scope none name pos) cl := by
  obtain ⟨h₁, s₀, _, gt, W₁⟩ := W.freeze (.refl rs)
  refine ⟨h₁, s₀, W₁, ⟨_, doc, pm, ct, gt f _ e n1 n2 fun q => ?_, rfl, ?_⟩⟩
  · obtain ⟨r, hr, z⟩ := List.mem_map.mp q; exact hf r hr z
  · obtain ⟨o, eo, ns⟩ := notSafe_code cr hq
    have hc1 := code_ne cr W.tb.a
    have hc2 := code_ne cr W.tb.b
    obtain ⟨c', o', vs, t, ec, e1, e2⟩ := cr
    cases ec
    refine ⟨c, o', vs, t, rfl, gt c _ e1 hc1 hc2 fun q => ?_, e2⟩
    obtain ⟨r, hr, z⟩ := List.mem_map.mp q
    obtain ⟨o₂, e₂, p₂⟩ := (W.own r hr).1
    rw [z, eo] at e₂; cases e₂
    exact ns (W.sf r hr _ p₂)

theorem x_def {name qual : Str} {params : Arguments} {body : List Stmt} {scope : Scope} {pos : Pos} {rest : List Stmt} {Q : Flow → Heap → Prop} {c P : Addr} {cl : List (Str × Addr)} {L : Addr} {ns : List (Str × NameKind)} (S : Sc env L ns)
    (W : Wd w h₀ rs h) (hcode : env.code = .ref c) (C : CodeHd h c P) (hP : (P = 72 ∧ pos = posOfD (stI 6 1) ∧ qual = qual6) ∨ (P = 79 ∧ pos = posOfD (stI 7 0) ∧ qual = qual7)) (hcl : closureFor scope (envC env.cells) = pure cl)
    (hqual : qualnameIn env name name = qual) (hd0 : params.defaults = []) (hk0 : params.kw_defaults = []) (ha : annTrees params none env = [])
    (q : ∀ f c' h₁ h', Sub h₀ h₁ → FnIs h₁ f c' qual (.FunctionDef name params body [] none [] scope none name pos) cl → Wd w h₁ rs h' → T prog w A (storeName env name (.ref f)) (fun _ h₂ => T prog w A (execs rest env) Q h₂) h') :
    T prog w A (execs (.FunctionDef name params body [] none [] scope none name pos :: rest) env) Q h := by
  refine x_seq fun g d k os => nestDef_K hd0 hk0 ha ?_
  rw [hqual]
  have hq : qual = qual6 ∨ qual = qual7 := hP.imp (fun z => z.2.2) fun z => z.2.2
  obtain ⟨mg, mb, bm, ob, a1, a2, a3, a4, a5, a6, a7, a8, a9, b1, b2, b3, b4, b5, b6, b7⟩ := W.G.ns
  have hbm : h.BuiltinsAt mg P := ⟨bm, ob, a9, b1, b2, by rcases hP with ⟨rfl, _⟩ | ⟨rfl, _⟩ <;> exact Nat.ne_of_lt (Nat.lt_of_lt_of_le b3 (by decide)), b4, b5, b6, b7⟩
  have hgP : mainGlobals ≠ P := by rcases hP with ⟨rfl, _⟩ | ⟨rfl, _⟩ <;> decide
  have fin : ∀ f c' doc pm ct h', Wd w h₀ rs h' → h'.get? f = some (fnMade name qual params body scope cl doc pm c' ct) → h.get? f = none → h'.CodeRec (.ref c') qual →
      ∀ k', wpAny (model prog w) A (storeName env name (.ref f)) (fun _ s'' => TE g d os (seqQ prog w A rest env Q) .next s'') (fun _ _ => False) ⟨h', g, d, k', os⟩ := by
    intro f c' doc pm ct h' W' ef en cr k'
    obtain ⟨z1, z2, z3, z4⟩ := W.new0 en
    obtain ⟨h₁, s₀, W₁, F⟩ := made_fn W' ef z3 z4 cr hq z2 [] pos
    exact wpAny_mono (q f c' h₁ h' s₀ F W₁ g d k' os) (fun _ _ ⟨h₂, k₂, e, z⟩ => ⟨h₂, k₂, e, z⟩) fun _ _ e => e
  have tab : (h.get? P = some (tabObj #[]) ∨ ∃ c', h.get? P = some (tabObj #[rawInt pos.line, rawInt pos.col, .ref c']) ∧ h.CodeRec (.ref c') qual) := by
    rcases hP with ⟨rfl, rfl, rfl⟩ | ⟨rfl, rfl, rfl⟩
    · exact W.tb.a
    · exact W.tb.b
  rcases tab with e | ⟨c', e, cr⟩
  · refine makeFunction_K (ps := #[]) (closureFor_cells scope env ▸ hcl) S.glob a1 hcode C e trivial rfl hgP hbm fun c' ctv doc h' tk hx hge hlt hrec htab => ?_
    have htab' : h'.get? P = some (tabObj #[rawInt pos.line, rawInt pos.col, .ref c']) := by simpa using htab
    have kp : Keeps h h' := fun b o eb n1 n2 => hx b o (by rcases hP with ⟨rfl, _⟩ | ⟨rfl, _⟩ <;> assumption) eb
    have tb' : Tabs h' := by
      rcases hP with ⟨rfl, rfl, rfl⟩ | ⟨rfl, rfl, rfl⟩
      · exact ⟨.inr ⟨c', htab', hrec⟩, W.tb.b.ext (by decide) e hx⟩
      · exact ⟨W.tb.a.ext (by decide) e hx, .inr ⟨c', htab', hrec⟩⟩
    have W' := (W.call kp tb').skip (fnMade name qual params body scope cl doc ((mg "__name__").getD .none) c' ctv)
    refine fin _ c' _ _ _ _ W' (Heap.get?_push_size _ rfl) ?_ (hrec.push _) _
    cases z : h.get? h'.objs.size with
    | none => rfl
    | some o =>
      by_cases hz : h'.objs.size = P
      · have := Heap.lt_size htab'; rw [← hz] at this; exact absurd this (Nat.lt_irrefl _)
      · exact absurd (Heap.lt_size (hx _ _ hz z)) (Nat.lt_irrefl _)
  · refine makeFunction_hit (ps := #[rawInt pos.line, rawInt pos.col, .ref c']) (cv := .ref c') (closureFor_cells scope env ▸ hcl) S.glob a1 hcode C e (by exact trivial) (by simp [codeAmong, rawInt]) hbm fun ctv doc h' tk hk hsz => ?_
    have W' := (W.ext hk).skip { cls := .type "function", data := .func (fnX name qual params body scope cl .none .none doc ((mg "__name__").getD .none) none (.ref c') ctv) }
    refine fin _ c' _ _ _ _ W' (Heap.get?_push_size _ rfl) ?_ ((cr.keeps hk).push _) _
    cases z : h.get? h'.objs.size with
    | none => rfl
    | some o => exact absurd (Heap.lt_size (hk _ _ z)) (Nat.lt_irrefl _)
end
end Mine
end

section
namespace Mine
open PySem PySem.W PyProof.Rows
variable {prog : Program} {w : World} {A : Around} {h h₀ : Heap} {R : Value → Heap → Prop}

theorem fo61 : fnOk (stA 61) 1 = true := by decide +kernel
theorem fo62 : fnOk (stA 62) 1 = true := by decide +kernel
theorem isterm_spec {x : Int} {t : Tok} {n : Nat} (g : Gd w h) (tb : Tabs h) (ok : Ok A (n + 1)) (q : ∀ h', Keeps h h' → Tabs h' → R (.bool (decide (x < 256))) h') :
    T prog w A (call (.ref 108) [.int x t]) R h := by
  refine call_fn 1 (g.fn ("ISTERMINAL", 108, 107, 61) (by decide)) g tb ok fo61 rfl (fun _ _ _ => rfl) ?_
  intro L env h₀ h₁ S _ hb _ W ok'
  refine x_ret (e_cmp (n_loc 0 S W rfl rfl (n_nt 1 S W rfl fun _ => c_lt ?_)))
  exact q _ (keeps_of hb W.keep) W.tb
theorem isnont_spec {x : Int} {t : Tok} {n : Nat} (g : Gd w h) (tb : Tabs h) (ok : Ok A (n + 1)) (q : ∀ h', Keeps h h' → Tabs h' → R (.bool (decide (x ≥ 256))) h') :
    T prog w A (call (.ref 115) [.int x t]) R h := by
  refine call_fn 1 (g.fn ("ISNONTERMINAL", 115, 114, 62) (by decide)) g tb ok fo62 rfl (fun _ _ _ => rfl) ?_
  intro L env h₀ h₁ S _ hb _ W ok'
  refine x_ret (e_cmp (n_loc 0 S W rfl rfl (n_nt 1 S W rfl fun _ => c_ge ?_)))
  exact q _ (keeps_of hb W.keep) W.tb
end Mine
end

section
namespace Mine
open PySem PySem.W PyProof.Rows
variable {prog : Program} {w : World} {A : Around} {h h₀ : Heap} {R : Value → Heap → Prop}

abbrev Hb (h h₀ : Heap) : Prop := ∀ b o, h.get? b = some o → b ≠ 72 → b ≠ 79 → h₀.get? b = some o
theorem Hb.get {b : Addr} {o : Obj} (hb : Hb h h₀) (tb : Tabs h) (e : h.get? b = some o) (nt : ∀ ps, o ≠ tabObj ps) : h₀.get? b = some o := by
  refine hb b o e ?_ ?_
  · rintro rfl; obtain ⟨ps, z⟩ := tb.a.tab; rw [z] at e; cases e; exact nt ps rfl
  · rintro rfl; obtain ⟨ps, z⟩ := tb.b.tab; rw [z] at e; cases e; exact nt ps rfl
theorem Hb.cell {c : Addr} {v : Option Value} (hb : Hb h h₀) (tb : Tabs h) (x : h.IsCell c v) : h₀.IsCell c v :=
  let ⟨o, e, d⟩ := x; ⟨o, hb.get tb e (fun ps z => by rw [z] at d; cases d), d⟩
theorem Hb.lst {a : Addr} {vs : List Value} (hb : Hb h h₀) (tb : Tabs h) (x : IsLst h a vs) : IsLst h₀ a vs :=
  let ⟨o, e, c, n, d⟩ := x; ⟨o, hb.get tb e (fun ps z => by rw [z] at d; cases d), c, n, d⟩
theorem Hb.tpl {a : Addr} {vs : List Value} (hb : Hb h h₀) (tb : Tabs h) (x : IsTpl h a vs) : IsTpl h₀ a vs :=
  let ⟨o, e, n, d⟩ := x; ⟨o, hb.get tb e (fun ps z => by rw [z] at d; cases d), n, d⟩
theorem Hb.lstO {a : Addr} {vs : List Value} (hb : Hb h h₀) (tb : Tabs h) (x : IsLstO h a vs) : IsLstO h₀ a vs :=
  let ⟨o, e, n, d⟩ := x; ⟨o, hb.get tb e (fun ps z => by rw [z] at d; cases d), n, d⟩
theorem Hb.fn {fa c : Addr} {qual : Str} {st : Stmt} {cl : List (Str × Addr)} (hb : Hb h h₀) (tb : Tabs h) (x : FnIs h fa c qual st cl) : FnIs h₀ fa c qual st cl := by
  obtain ⟨o, d, pm, ct, e, dd, cr⟩ := x
  have n1 := code_ne cr tb.a
  have n2 := code_ne cr tb.b
  obtain ⟨c', o', vs, t, ec, e1, e2⟩ := cr
  cases ec
  exact ⟨o, d, pm, ct, hb.get tb e (fun ps z => by rw [z] at dd; cases dd), dd, ⟨c, o', vs, t, rfl, hb _ _ e1 n1 n2, e2⟩⟩
theorem Keeps.hb {h' : Heap} (k : Keeps h h') : Hb h h' := k
theorem Keeps.trans {a b c : Heap} (x : Keeps a b) (y : Keeps b c) : Keeps a c := fun p o e n1 n2 => y p o (x p o e n1 n2) n1 n2
theorem Keeps.refl (h : Heap) : Keeps h h := fun _ _ e _ _ => e
theorem Sub.keeps {h h' : Heap} (s : Sub h h') : Keeps h h' := fun b o e _ _ => s b o e

def Ints (vs : List Value) (ds : List Int) : Prop := vs.length = ds.length ∧ ∀ (i : Nat) (d : Int), ds[i]? = some d → ∃ t, vs[i]? = some (.int d t)
def dval (n : Nat) : List Int → Int
  | [] => 0
  | d :: ds => d + 2 ^ n * dval n ds
theorem dval_append (n : Nat) : ∀ a b : List Int, dval n (a ++ b) = dval n a + 2 ^ (n * a.length) * dval n b
  | [], b => by simp [dval]
  | d :: a, b => by
    simp only [List.cons_append, dval, dval_append n a b, List.length_cons, Int.mul_add, ← Int.mul_assoc, ← Int.pow_add, Int.add_assoc]
    congr 3
    rw [Nat.mul_add, Nat.mul_one, Nat.add_comm]
theorem pow2_le {m n : Nat} (h : m ≤ n) : (2 : Int) ^ m ≤ 2 ^ n := by
  have : (2 : Nat) ^ m ≤ 2 ^ n := Nat.pow_le_pow_right (by decide) h
  exact_mod_cast this
def Small (B : Nat) (ds : List Int) : Prop := ∀ d ∈ ds, 0 ≤ d ∧ d < 2 ^ B
theorem dval_nonneg {n B : Nat} : ∀ {ds : List Int}, Small B ds → 0 ≤ dval n ds
  | [], _ => by simp [dval]
  | d :: ds, h => by
    have := dval_nonneg (n := n) (ds := ds) fun x hx => h x (.tail _ hx)
    have h2 : (0 : Int) ≤ 2 ^ n * dval n ds := Int.mul_nonneg (Int.le_of_lt (Int.pow_pos (by decide))) this
    have := (h d (.head _)).1
    simp only [dval]; (first | exact Mine.w235 h2 this | omega)
theorem dval_lt {n B : Nat} (hB : n ≤ B) : ∀ {ds : List Int}, Small B ds → dval n ds < 2 ^ (B * (ds.length + 1))
  | [], _ => by simp [dval]; exact Int.pow_pos (by decide)
  | d :: ds, h => by
    have ih := dval_lt (n := n) hB (ds := ds) fun x hx => h x (.tail _ hx)
    have nn := dval_nonneg (n := n) (ds := ds) fun x hx => h x (.tail _ hx)
    have hd := (h d (.head _)).2
    have p1 : (2 : Int) ^ n ≤ 2 ^ B := pow2_le hB
    have pB : (0 : Int) < 2 ^ B := Int.pow_pos (by decide)
    have step : dval n ds + 1 ≤ 2 ^ (B * (ds.length + 1)) := ih
    have e : (2 : Int) ^ (B * ((d :: ds).length + 1)) = 2 ^ B * 2 ^ (B * (ds.length + 1)) := by
      rw [← Int.pow_add]; congr 1; simp only [List.length_cons]; rw [Nat.mul_add B (ds.length + 1) 1]; (first | exact Mine.w236 | omega)
    rw [e]
    simp only [dval]
    calc d + 2 ^ n * dval n ds < 2 ^ B + 2 ^ B * dval n ds := by
          have := Int.mul_le_mul_of_nonneg_right p1 nn
          (first | exact Mine.w237 hd this | omega)
      _ = 2 ^ B * (dval n ds + 1) := by rw [Int.mul_add, Int.mul_one, Int.add_comm]
      _ ≤ 2 ^ B * 2 ^ (B * (ds.length + 1)) := Int.mul_le_mul_of_nonneg_left step (Int.le_of_lt pB)
theorem intBits_le {x : Int} {k : Nat} (h0 : 0 ≤ x) (hk : x < 2 ^ k) : Builtin.Int.intBits x ≤ k := by
  unfold Builtin.Int.intBits
  split
  · exact Nat.zero_le _
  · rename_i hx
    have hx' : x.natAbs ≠ 0 := by simpa using hx
    have : x.natAbs < 2 ^ k := by
      have : ((x.natAbs : Nat) : Int) < ((2 ^ k : Nat) : Int) := by push_cast; rw [Int.natAbs_of_nonneg h0]; exact hk
      exact_mod_cast this
    exact (Nat.log2_lt hx').mpr this

def seg (ds : List Int) (L R : Nat) : List Int := (ds.drop L).take (R - L)
theorem seg_one {ds : List Int} {L : Nat} (h : L < ds.length) : seg ds L (L + 1) = [ds[L]] := by
  unfold seg; rw [Nat.add_sub_cancel_left, List.drop_eq_getElem_cons h]; rfl
theorem seg_split {ds : List Int} {L M R : Nat} (h1 : L ≤ M) (h2 : M ≤ R) (h3 : R ≤ ds.length) : seg ds L R = seg ds L M ++ seg ds M R := by
  unfold seg
  have e : R - L = (M - L) + (R - M) := by (first | exact Mine.w238 h1 h2 | omega)
  rw [e, List.take_add, List.drop_drop]
  congr 3; (first | exact Mine.w239 h1 | omega)
theorem seg_len {ds : List Int} {L R : Nat} (h3 : R ≤ ds.length) : (seg ds L R).length = R - L := by
  unfold seg; rw [List.length_take, List.length_drop]; (first | exact Mine.w240 h3 | omega)
theorem seg_small {B : Nat} {ds : List Int} {L R : Nat} (h : Small B ds) : Small B (seg ds L R) := fun d hd => h d (List.mem_of_mem_drop (List.mem_of_mem_take hd))
theorem fo7i : fnOk (stI 7 0) 2 = true := by decide +kernel
def cl7 (cn ci cd : Addr) : List (Str × Addr) := [("n", cn), ("inner", ci), ("digits", cd)]
theorem mid_eq (L R : Nat) : ((L : Int) + R).fdiv (2 ^ (1 : Int).toNat) = (((L + R) / 2 : Nat) : Int) := by
  have : (2 : Int) ^ (1 : Int).toNat = 2 := by decide
  rw [this, Int.fdiv_eq_ediv_of_nonneg _ (by decide)]
  omega

theorem d2i_inner {f c cn ci cd a : Addr} {n B : Nat} {t : Tok} {ds : List Int} {vs : List Value} (hB : n ≤ B) (hs : Small B ds) (hz : B * (ds.length + 2) ≤ 100000) (hi : Ints vs ds) (hlen : ds.length ≤ 1000) :
    ∀ (k L Rr : Nat) (A : Around) (h : Heap) (R : Value → Heap → Prop) (t1 t2 : Tok), Rr - L ≤ k → L < Rr → Rr ≤ ds.length → Ok A (k + 1) → FnIs h f c qual7 (stI 7 0) (cl7 cn ci cd) → h.IsCell cn (some (.int n t)) → h.IsCell ci (some (.ref f)) →
      h.IsCell cd (some (.ref a)) → IsLst h a vs → Gd w h → Tabs h → (∀ k h', Keeps h h' → Tabs h' → R (.int (dval n (seg ds L Rr)) k) h') → T prog w A (call (.ref f) [.int L t1, .int Rr t2]) R h := by
  intro k
  induction k with
  | zero => intro L Rr A h R t1 t2 hk hL; omega
  | succ k ih =>
    intro L Rr A h R t1 t2 hk hL hR ok F hcn hci hcd hl g tb q
    refine call_fnX F g tb ok rfl fo7i (fun _ _ _ => rfl) [] (fun _ h => nomatch h) List.nodup_nil (fun _ h => nomatch h) (fun _ h => nomatch h) ?_
    intro L' env h₀ h₁ S _ hc hb _ W ok'
    replace hb : Hb h h₀ := fun b o e n1 n2 => hb b o e n1 n2 List.not_mem_nil
    replace W : Wd w h₀ [(L', Loc (scopeOf (stI 7 0)).names [some (.int L t1), some (.int Rr t2), none, none, none, none, none])] h₁ := W
    have hcn₀ := hb.cell tb hcn
    have hci₀ := hb.cell tb hci
    have hcd₀ := hb.cell tb hcd
    have hl₀ := hb.lst tb hl
    have F₀ := hb.fn tb F
    have lkn : env.cells.lookup (Str.ofString "n") = some cn := by rw [hc]; rfl
    have lki : env.cells.lookup (Str.ofString "inner") = some ci := by rw [hc]; rfl
    have lkd : env.cells.lookup (Str.ofString "digits") = some cd := by rw [hc]; rfl
    refine x_if (b_cmp (e_bin (n_loc 0 S W rfl rfl (e_int fun _ => o_add fun _ => n_loc 1 S W rfl rfl (c_eq (b_bool ?_))))))
    by_cases h1 : L + 1 = Rr
    · have e1 : ((L : Int) + 1 == (Rr : Int)) = true := by simp; (first | exact Mine.w242 h1 | omega)
      rw [e1]
      subst h1
      have hLd : L < ds.length := by (first | exact Mine.w243 hR | omega)
      obtain ⟨tl, hv⟩ := hi.2 L ds[L] (by simp [hLd])
      refine x_ret (e_sub (n_cell 4 S rfl lkd (hcd₀.keeps W.keep) (n_loc 0 S W rfl rfl (i_list (hl₀.sub W.keep) (by first | decide | (first | exact Mine.w110 | omega)) (by simpa using hv) (by have := hi.1; (first | exact Mine.w244 hlen this | omega)) ?_))))
      show R (.int ds[L] tl) h₁
      have := q tl h₁ (keeps_of hb W.keep) W.tb
      rw [seg_one hLd] at this
      simpa [dval] using this
    · have e1 : ((L : Int) + 1 == (Rr : Int)) = false := by simp; (first | exact Mine.w245 h1 | omega)
      rw [e1]
      refine x_nil_seq (x_assign (e_bin (e_bin (n_loc 0 S W rfl rfl (n_loc 1 S W rfl rfl (o_add fun _ => e_int fun _ => o_shr (by decide) fun _ => ?_))))))
      rw [mid_eq]
      generalize hM : (L + Rr) / 2 = M
      have m1 : L < M := by (first | exact Mine.w246 hL h1 hM | omega)
      have m2 : M < Rr := by (first | exact Mine.w247 hL hM | omega)
      refine s_loc 2 S W rfl rfl fun h₂ W => ?_
      refine x_assign (e_bin (e_bin (n_loc 2 S W rfl rfl (n_loc 0 S W rfl rfl (o_sub fun _ => n_cell 6 S rfl lkn (hcn₀.keeps W.keep) (o_mul (.of_left (intBits_le (by first | decide | (first | exact Mine.w248 m1 | omega)) (by first | decide | (first | exact Mine.w249 hlen hR hM | omega)))) fun _ => s_loc 3 S W rfl rfl fun h₃ W => ?_))))))
      have hsh : ((M : Int) - L) * n = (((M - L) * n : Nat) : Int) := by push_cast; congr 1; (first | exact Mine.w250 m1 | omega)
      rw [hsh] at W
      have b1 : Small B (seg ds M Rr) := seg_small hs
      refine x_ret (e_bin (e_bin (e_call (n_cell 5 S rfl lki (hci₀.keeps W.keep) (cw_fn (a_cons (n_loc 2 S W rfl rfl (a_cons (n_loc 1 S W rfl rfl (a_nil ⟨(F₀.sub W.keep).isFn, ?_⟩))))))))))
      refine ih M Rr _ _ _ _ _ (by first | decide | omega) m2 hR ok' (F₀.sub W.keep) (hcn₀.keeps W.keep) (hci₀.keeps W.keep) (hcd₀.keeps W.keep) (hl₀.sub W.keep) W.G W.tb fun k₄ h₄ kp tb₄ => ?_
      replace W := W.call kp tb₄
      refine n_loc 3 S W rfl rfl (o_shl (by first | decide | (first | exact Mine.w110 | omega)) ?_ fun _ => ?_)
      · have := intBits_le (dval_nonneg b1) (dval_lt hB b1)
        rw [seg_len hR] at this
        have h2 : B * (Rr - M + 1) ≤ B * (ds.length + 2) := Nat.mul_le_mul_left _ (by first | decide | (first | exact Mine.w252 hR | omega))
        have h3 : (M - L) * n ≤ ds.length * B := Nat.mul_le_mul (by first | decide | (first | exact Mine.w253 hR hM | omega)) hB
        have h4 : B * (ds.length + 2) = ds.length * B + 2 * B := by rw [Nat.mul_add, Nat.mul_comm B ds.length, Nat.mul_comm B 2]
        have h5 : (2 : Int) ^ 27 = 134217728 := by decide
        rw [h5]
        have h6 : Builtin.Int.intBits (dval n (seg ds M Rr)) + (M - L) * n ≤ 200000 := by (first | exact Mine.w254 hz this h2 h3 h4 | omega)
        generalize Builtin.Int.intBits (dval n (seg ds M Rr)) = b at h6
        generalize (M - L) * n = q at h6
        (first | exact Mine.w255 h6 | omega)
      · refine e_call (n_cell 5 S rfl lki (hci₀.keeps W.keep) (cw_fn (a_cons (n_loc 0 S W rfl rfl (a_cons (n_loc 2 S W rfl rfl (a_nil ⟨(F₀.sub W.keep).isFn, ?_⟩)))))))
        refine ih L M _ _ _ _ _ (by first | decide | (first | exact Mine.w256 hk hM | omega)) m1 (by first | decide | (first | exact Mine.w257 hR m2 | omega)) ok' (F₀.sub W.keep) (hcn₀.keeps W.keep) (hci₀.keeps W.keep) (hcd₀.keeps W.keep) (hl₀.sub W.keep) W.G W.tb fun k₅ h₅ kp tb₅ => ?_
        replace W := W.call kp tb₅
        refine o_add fun k₆ => ?_
        show R _ _
        have := q k₆ h₅ (keeps_of hb W.keep) W.tb
        rw [seg_split (Nat.le_of_lt m1) (Nat.le_of_lt m2) hR, dval_append, seg_len (by first | decide | (first | exact Mine.w257 hR m2 | omega)), Int.add_comm, Int.mul_comm] at this
        rw [show (2 : Int) ^ (n * (M - L)) = 2 ^ (((M - L) * n : Nat) : Int).toNat by rw [Int.toNat_natCast, Nat.mul_comm]] at this
        exact this
end Mine
end

section
namespace Mine
open PySem PySem.W PyProof.Rows
variable {prog : Program} {w : World} {A : Around} {h h₀ : Heap} {R : Value → Heap → Prop}

theorem fo7 : fnOkC (stA 7) 2 = true := by decide +kernel
theorem seg_all (ds : List Int) : seg ds 0 ds.length = ds := by simp [seg]
theorem d2i_spec {a : Addr} {n B : Nat} {t : Tok} {ds : List Int} {vs : List Value} {m : Nat} (hB : n ≤ B) (hs : Small B ds) (hz : B * (ds.length + 2) ≤ 100000) (hi : Ints vs ds) (hlen : ds.length ≤ 1000)
    (hl : IsLst h a vs) (g : Gd w h) (tb : Tabs h) (ok : Ok A (m + 1)) (hm : ds.length + 1 ≤ m) (q : ∀ k h', Keeps h h' → Tabs h' → R (.int (dval n ds) k) h') :
    T prog w A (call (.ref 84) [.ref a, .int n t]) R h := by
  refine call_fnC (g.fn ("_digits2int", 84, 83, 7) (by decide)) g tb ok fo7 rfl (fun _ _ _ => rfl) [] (fun _ h => nomatch h) List.nodup_nil (fun _ h => nomatch h) (fun _ h => nomatch h) ?_
  intro L env h₀ h₁ S hcode hc hqual hb W ok'
  replace hb : Hb h h₀ := fun b o e n1 n2 => hb b o e n1 n2 List.not_mem_nil
  replace W : Wd w h₀ [(L, Loc (scopeOf (stA 7)).names [none, none, none, none]), (L + 1 + 1 + 1, Cel none), (L + 1 + 1, Cel (some (.int n t))), (L + 1, Cel (some (.ref a)))] h₁ := W
  replace hc : env.cells = [(Str.ofString "inner", L + 1 + 1 + 1), (Str.ofString "n", L + 1 + 1), (Str.ofString "digits", L + 1)] := hc
  have hl₀ := hb.lst tb hl
  have lki : env.cells.lookup (Str.ofString "inner") = some (L + 1 + 1 + 1) := by rw [hc]; rfl
  have lkd : env.cells.lookup (Str.ofString "digits") = some (L + 1) := by rw [hc]; rfl
  refine x_def (qual := qual7) (cl := cl7 (L + 1 + 1) (L + 1 + 1 + 1) (L + 1)) S W hcode W.G.c7 (.inr ⟨rfl, rfl, rfl⟩) (by rw [hc]; rfl) ?_ rfl rfl rfl ?_
  · unfold qualnameIn; rw [S.kindOf (i := 2) rfl, hqual]; rfl
  intro f c' h₂ h₃ s₂ F W
  have F₂ : FnIs h₂ f c' qual7 (stI 7 0) (cl7 (L + 1 + 1) (L + 1 + 1 + 1) (L + 1)) := F
  refine s_cell 2 1 S W rfl lki rfl fun h₄ W => ?_
  refine x_ret (e_ifexp (b_expr (n_cell 0 S rfl lkd (W.cel 3 rfl) (b_list ((hl₀.sub s₂).sub W.keep) (by have := hi.1; (first | exact Mine.w244 hlen this | omega)) ?_))))
  cases vs with
  | nil =>
    have : ds = [] := by have := hi.1; simpa using this.symm
    subst this
    refine e_int fun k => ?_
    exact q k _ (keeps_of (fun b o e n1 n2 => s₂ b o (hb b o e n1 n2)) W.keep) W.tb
  | cons v vs =>
    have hpos : 0 < ds.length := by have := hi.1; simp at this; (first | exact Mine.w258 this | omega)
    refine e_call (n_cell 2 S rfl lki (W.cel 1 rfl) (cw_fn (a_cons (e_int fun _ => a_cons (e_call (n_bi 3 S W rfl (by decide) (cw_bi (a_cons (n_cell 0 S rfl lkd (W.cel 3 rfl) (a_nil (c_len ((hl₀.sub s₂).sub W.keep) (by have := hi.1; (first | exact Mine.w244 hlen this | omega)) fun k => a_nil ⟨(F₂.sub W.keep).isFn, ?_⟩)))))))))))
    rw [hi.1]
    refine d2i_inner (c := c') hB hs hz hi hlen ds.length 0 ds.length _ _ _ _ _ (by first | decide | (first | exact Mine.w259 | omega)) hpos (Nat.le_refl _) (ok'.le (by first | decide | (first | exact Mine.w260 hm | omega))) (F₂.sub W.keep) (W.cel 2 rfl) (W.cel 1 rfl) (W.cel 3 rfl) ((hl₀.sub s₂).sub W.keep) W.G W.tb fun k h₅ kp tb₅ => ?_
    rw [seg_all]
    have W' := W.call kp tb₅
    exact q k _ (keeps_of (fun b o e n1 n2 => s₂ b o (hb b o e n1 n2)) W'.keep) W'.tb
end Mine
end

section
namespace Mine
open PySem PySem.W PyProof.Rows
variable {prog : Program} {w : World} {A : Around} {h h₀ : Heap} {R : Value → Heap → Prop}

theorem x_expr {e : Expr} {p : Pos} {rest : List Stmt} {Q : Flow → Heap → Prop} {env : Env} {L : Addr} {ns : List (Str × NameKind)} (S : Sc env L ns) (q : T prog w A (eval e env) (kC prog w A (execs rest env) Q) h)
    (hs : swapsWith e none p.line env = pure false := by rfl) : T prog w A (execs (.Expr e p :: rest) env) Q h :=
  x_seq fun g d k os => wpAny_Expr_any (wpAny_mono (q g d k os) (fun _ _ ⟨h₁, k₁, e, z⟩ => ⟨h₁, k₁, e, z⟩) fun _ _ e => e) (by unfold interactive; rw [S.kind]; rfl) hs
theorem o_listmul {f : Res} {rs : List Res} {a : Addr} {vs : List Value} {x : Int} {u : Tok} (W : Wd w h₀ (f :: rs) h) (hl : IsLst h a vs) (hx : 0 ≤ x) (hz : vs.length * x.toNat ≤ 16384) (hx2 : x ≤ 16384)
    (q : ∀ c h', h.get? c = none → Wd w h₀ (f :: (c, LstO (List.replicate x.toNat vs).flatten) :: rs) h' → R (.ref c) h') : T prog w A (binaryOp .Mult (.ref a) (.int x u)) R h := by
  obtain ⟨⟨cls, d, data, sl⟩, ho, hcl, k, hd⟩ := hl
  simp only at hcl hd
  subst hcl hd
  intro g dr tk os
  refine wpAny_binaryOp_repeat_ref (T := "list") (U := "int") (by decide) ⟨_, ho, rfl⟩ (fun s' => typeIs_int s' x u) noFill_list_mul PySem.F.fills_int_mul PySem.F.slot_int_rmul repeat_list PySem.F.slot_int_index.lookup
    (call_meets PySem.F.slot_int_rmul (typeIs_int _ x u) PySem.F.entry_int_rmul (PySem.F.args_int_rmul_2 _ _) (lm_int_rmul_list_any x u a vs.toArray k d sl)
      ⟨ho, rfl, ⟨_, ho, rfl⟩, call_meets PySem.F.slot_list_mul ⟨_, ho, rfl⟩ PySem.F.entry_list_mul (PySem.F.args_list_mul_2 _ _)
        (lm_list_mul_any a vs.toArray k d sl x u (by simp [Builtin.List.listFitsIndex]; (first | exact Mine.w261 hx hx2 | omega)) (by rw [List.size_toArray]; omega) (by rw [List.size_toArray]; simp [Builtin.List.listTooLong, sizeLine]; (first | exact Mine.w43 hz | omega))) ⟨ho, ?_⟩⟩)
  refine ⟨_, _, rfl, q _ _ (Wd.size_none h) (W.push1 _ ⟨0, ?_⟩ (fun _ => LstO.safe) rfl)⟩
  rw [listMul_foldl_if]

/-- all but one object (and the tables) is kept -/
def KeepsD (D : Addr) (h h' : Heap) : Prop := ∀ b o, h.get? b = some o → b ≠ 72 → b ≠ 79 → b ≠ D → h'.get? b = some o
theorem Wd.callD {h' : Heap} {rs : List Res} {i : Nat} {D : Addr} {P P' : Obj → Prop} (W : Wd w h₀ rs h) (hi : rs[i]? = some (D, P)) (k : KeepsD D h h') (t : Tabs h') {o : Obj} (e' : h'.get? D = some o) (p : P' o) (s : ∀ o, P' o → safe o) : Wd w h₀ (rs.set i (D, P')) h' := by
  have hm := List.mem_of_getElem? hi
  obtain ⟨⟨o₁, e₁, p₁⟩, n₁⟩ := W.own _ hm
  have n₁' : h₀.get? D = none := n₁
  obtain ⟨hl, hg⟩ := List.getElem?_eq_some_iff.mp hi
  have em : (rs.set i (D, P')).map (·.1) = rs.map (·.1) := by
    rw [List.map_set]
    have : (rs.map (·.1))[i]? = some D := by rw [List.getElem?_map, hi]; rfl
    apply List.ext_getElem?
    intro j
    rw [List.getElem?_set]
    split
    · rename_i q; subst q
      split
      · rw [this]
      · rename_i w; simp at w; exact absurd hl (Nat.not_lt.mpr w)
    · rfl
  have apart : ∀ r ∈ rs.set i (D, P'), r = (D, P') ∨ (r ∈ rs ∧ r.1 ≠ D) := by
    intro r hr
    by_cases hra : r.1 = D
    · left
      have nd' : ((rs.set i (D, P')).map (·.1)).Nodup := em ▸ W.nd
      obtain ⟨j, hj⟩ := List.getElem?_of_mem hr
      have h1 : ((rs.set i (D, P')).map (·.1))[j]? = some D := by rw [List.getElem?_map, hj, ← hra]; rfl
      have h2 : ((rs.set i (D, P')).map (·.1))[i]? = some D := by rw [em, List.getElem?_map, hi]; rfl
      have hji : j = i := (List.getElem?_inj (by simpa using (List.getElem?_eq_some_iff.mp hj).1) nd').mp (h1.trans h2.symm)
      subst hji
      rw [List.getElem?_set, if_pos rfl, if_pos (by simpa using hl)] at hj
      exact (Option.some.inj hj).symm
    · right
      rcases List.mem_or_eq_of_mem_set hr with hr | rfl
      · exact ⟨hr, hra⟩
      · exact absurd rfl hra
  refine ⟨fun b o e => k b o (W.keep b o e) (fun z => ?_) (fun z => ?_) (fun z => ?_), fun r hr => ?_, em ▸ W.nd, fun r hr => ?_, fun r hr => ?_, t, W.gd, W.no⟩
  · rw [z, W.no.1] at e; cases e
  · rw [z, W.no.2] at e; cases e
  · rw [z, n₁'] at e; cases e
  · rcases apart r hr with rfl | ⟨hr, ne⟩
    · exact ⟨⟨o, e', p⟩, n₁⟩
    · obtain ⟨⟨o₂, e₂, p₂⟩, n₂⟩ := W.own r hr
      exact ⟨⟨o₂, k _ _ e₂ (W.lo r hr).ne.1 (W.lo r hr).ne.2 ne, p₂⟩, n₂⟩
  · rcases apart r hr with rfl | ⟨hr, _⟩
    · exact s
    · exact W.sf r hr
  · rcases apart r hr with rfl | ⟨hr, _⟩
    · exact W.lo (D, P) hm
    · exact W.lo r hr

-- the digits of a number
def i2n (n : Nat) : Nat → Nat → List Nat
  | 0, _ => []
  | k + 1, x => x % 2 ^ n :: i2n n k (x / 2 ^ n)
theorem i2n_len (n : Nat) : ∀ k x, (i2n n k x).length = k
  | 0, _ => rfl
  | k + 1, x => by simp [i2n, i2n_len n k]
theorem i2n_split (n : Nat) : ∀ (a b x : Nat), i2n n (a + b) x = i2n n a (x % 2 ^ (n * a)) ++ i2n n b (x / 2 ^ (n * a))
  | 0, b, x => by simp [i2n, Nat.mod_one]
  | a + 1, b, x => by
    have e : a + 1 + b = (a + b) + 1 := by (first | exact Mine.w163 | omega)
    rw [e]
    simp only [i2n, List.cons_append]
    rw [i2n_split n a b (x / 2 ^ n)]
    have e1 : n * (a + 1) = n + n * a := by rw [Nat.mul_add, Nat.mul_one, Nat.add_comm]
    congr 1
    · rw [e1, Nat.pow_add, Nat.mod_mul_right_mod]
    · congr 1
      · congr 1
        rw [e1, Nat.pow_add, Nat.mod_mul_right_div_self]
      · rw [e1, Nat.pow_add, Nat.div_div_eq_div_mul]
theorem i2n_one {n x : Nat} (h : x < 2 ^ n) : i2n n 1 x = [x] := by simp [i2n, Nat.mod_eq_of_lt h]
theorem xor_low (x s : Nat) : Builtin.bitXor (x : Int) (((x / 2 ^ s * 2 ^ s : Nat)) : Int) = ((x % 2 ^ s : Nat) : Int) := by
  rw [bitXor_and]
  have key : ∀ a b : Nat, Builtin.bitAnd (a : Int) (b : Int) = ((a &&& b : Nat) : Int) := by
    intro a b; unfold Builtin.bitAnd; simp
  have h1 := key x (x / 2 ^ s * 2 ^ s)
  have h2 : x &&& (x / 2 ^ s * 2 ^ s) = x / 2 ^ s * 2 ^ s := by
    apply Nat.eq_of_testBit_eq
    intro i
    rw [Nat.testBit_and, Nat.testBit_mul_two_pow]
    by_cases hi : s ≤ i
    · simp only [hi, decide_true, Bool.true_and, Nat.testBit_div_two_pow]
      rw [Nat.sub_add_cancel hi, Bool.and_self]
    · simp [hi]
  rw [h1, h2]
  have := Nat.div_add_mod x (2 ^ s)
  have e : 2 ^ s * (x / 2 ^ s) = x / 2 ^ s * 2 ^ s := Nat.mul_comm _ _
  (first | exact Mine.w263 this e | omega)

theorem fo6i : fnOk (stI 6 1) 3 = true := by decide +kernel
def cl6 (cn ci cd : Addr) : List (Str × Addr) := [("n", cn), ("inner", ci), ("a_digits", cd)]
abbrev HbD (D : Addr) (h h₀ : Heap) : Prop := ∀ b o, h.get? b = some o → b ≠ 72 → b ≠ 79 → b ≠ D → h₀.get? b = some o
theorem HbD.get {D b : Addr} {o oD : Obj} (hb : HbD D h h₀) (tb : Tabs h) (eD : h.get? D = some oD) (e : h.get? b = some o) (nt : ∀ ps, o ≠ tabObj ps) (nD : o ≠ oD) : h₀.get? b = some o := by
  refine hb b o e ?_ ?_ ?_
  · rintro rfl; obtain ⟨ps, z⟩ := tb.a.tab; rw [z] at e; cases e; exact nt ps rfl
  · rintro rfl; obtain ⟨ps, z⟩ := tb.b.tab; rw [z] at e; cases e; exact nt ps rfl
  · rintro rfl; rw [eD] at e; cases e; exact nD rfl
/-- what the digits' inner function leaves: the list's places L .. R - 1 hold the digits of x -/
def Filled (vs : List Value) (n L Rr x : Nat) (vs' : List Value) : Prop := ∃ us, Ints us ((i2n n (Rr - L) x).map Int.ofNat) ∧ vs' = vs.take L ++ us ++ vs.drop Rr

theorem i2d_inner {f c cn ci cd D : Addr} {n : Nat} {t : Tok} (hn : n ≤ 1000) :
    ∀ (k L Rr x : Nat) (A : Around) (h : Heap) (R : Value → Heap → Prop) (t0 t1 t2 : Tok) (vs : List Value), Rr - L ≤ k → L < Rr → Rr ≤ vs.length → vs.length ≤ 100 → x < 2 ^ (n * (Rr - L)) → Ok A (k + 1) → FnIs h f c qual6 (stI 6 1) (cl6 cn ci cd) →
      h.IsCell cn (some (.int n t)) → h.IsCell ci (some (.ref f)) → h.IsCell cd (some (.ref D)) → IsLst h D vs → okA D → Gd w h → Tabs h →
      (∀ h' vs', KeepsD D h h' → Tabs h' → IsLst h' D vs' → Filled vs n L Rr x vs' → R .none h') → T prog w A (call (.ref f) [.int x t0, .int L t1, .int Rr t2]) R h := by
  intro k
  induction k with
  | zero => intro L Rr x A h R t0 t1 t2 vs hk hL; omega
  | succ k ih =>
    intro L Rr x A h R t0 t1 t2 vs hk hL hR hvs hx ok F hcn hci hcd hl okD g tb q
    refine call_fnX F g tb ok rfl fo6i (fun _ _ _ => rfl) [(D, LstW vs)] (fun r hr => by rw [List.mem_singleton.mp hr]; exact hl) (by simp) (fun r hr => by rw [List.mem_singleton.mp hr]; exact fun _ => LstW.safe) (fun r hr => by rw [List.mem_singleton.mp hr]; exact okD) ?_
    intro L' env h₀ h₁ S _ hc hb _ W ok'
    replace hb : HbD D h h₀ := fun b o e n1 n2 n3 => hb b o e n1 n2 (by simpa using n3)
    replace W : Wd w h₀ [(L', Loc (scopeOf (stI 6 1)).names [some (.int x t0), some (.int L t1), some (.int Rr t2), none, none, none, none, none, none, none]), (D, LstW vs)] h₁ := W
    obtain ⟨oD, eD, cD, nD, dD⟩ := id hl
    have cellF : ∀ {c v}, h.IsCell c v → h₀.IsCell c v := fun ⟨o, e, d⟩ => ⟨o, hb.get tb eD e (fun ps z => by rw [z] at d; cases d) (fun z => by rw [z, dD] at d; cases d), d⟩
    have hcn₀ := cellF hcn
    have hci₀ := cellF hci
    have hcd₀ := cellF hcd
    have F₀ : FnIs h₀ f c qual6 (stI 6 1) (cl6 cn ci cd) := by
      obtain ⟨o, d, pm, ct, e, dd, cr⟩ := F
      have n1 := code_ne cr tb.a
      have n2 := code_ne cr tb.b
      obtain ⟨c', o', vs', t', ec, e1, e2⟩ := cr
      cases ec
      exact ⟨o, d, pm, ct, hb.get tb eD e (fun ps z => by rw [z] at dd; cases dd) (fun z => by rw [z, dD] at dd; cases dd), dd, ⟨c, o', vs', t', rfl, hb _ _ e1 n1 n2 (fun z => by rw [z, eD] at e1; cases e1; rw [dD] at e2; cases e2.1), e2⟩⟩
    have lkn : env.cells.lookup (Str.ofString "n") = some cn := by rw [hc]; rfl
    have lki : env.cells.lookup (Str.ofString "inner") = some ci := by rw [hc]; rfl
    have lkd : env.cells.lookup (Str.ofString "a_digits") = some cd := by rw [hc]; rfl
    have fin : ∀ {vals vs'} {h' : Heap}, Wd w h₀ [(L', Loc (scopeOf (stI 6 1)).names vals), (D, LstW vs')] h' → Filled vs n L Rr x vs' → R .none h' := fun {vals vs' h'} W' fl =>
      q h' vs' (fun b o e n1 n2 n3 => W'.keep b o (hb b o e n1 n2 n3)) W'.tb (W'.lstw 1 rfl) fl
    refine x_if (b_cmp (e_bin (n_loc 1 S W rfl rfl (e_int fun _ => o_add fun _ => n_loc 2 S W rfl rfl (c_eq (b_bool ?_))))))
    by_cases h1 : L + 1 = Rr
    · have e1 : ((L : Int) + 1 == (Rr : Int)) = true := by simp; (first | exact Mine.w242 h1 | omega)
      rw [e1]
      refine x_setsub (n_loc 0 S W rfl rfl (n_cell 7 S rfl lkd (hcd₀.keeps W.keep) (n_loc 1 S W rfl rfl (s_list 1 W rfl (fun _ p => p) (by first | decide | (first | exact Mine.w110 | omega)) (by first | decide | omega) (by first | decide | (first | exact Mine.w140 hvs | omega)) fun h₂ W => x_ret0 ?_))))
      refine fin W ⟨[.int x t0], ?_, ?_⟩
      · subst h1
        rw [Nat.add_sub_cancel_left, i2n_one (by simpa using hx)]
        exact ⟨rfl, fun i d hd => by
          cases i with
          | zero => simp at hd; subst hd; exact ⟨t0, rfl⟩
          | succ i => simp at hd⟩
      · subst h1
        rw [Int.toNat_natCast, List.set_eq_take_append_cons_drop, if_pos (by first | decide | (first | exact Mine.w243 hR | omega))]
        simp
    · have e1 : ((L : Int) + 1 == (Rr : Int)) = false := by simp; (first | exact Mine.w245 h1 | omega)
      rw [e1]
      refine x_nil_seq (x_assign (e_bin (e_bin (n_loc 1 S W rfl rfl (n_loc 2 S W rfl rfl (o_add fun _ => e_int fun _ => o_shr (by decide) fun _ => ?_))))))
      rw [mid_eq]
      generalize hM : (L + Rr) / 2 = M
      have m1 : L < M := by (first | exact Mine.w246 hL h1 hM | omega)
      have m2 : M < Rr := by (first | exact Mine.w265 hM m1 | omega)
      refine s_loc 3 S W rfl rfl fun h₂ W => ?_
      refine x_assign (e_bin (e_bin (n_loc 3 S W rfl rfl (n_loc 1 S W rfl rfl (o_sub fun _ => n_cell 9 S rfl lkn (hcn₀.keeps W.keep) (o_mul (.of_left (intBits_le (by first | decide | (first | exact Mine.w248 m1 | omega)) (by first | decide | (first | exact Mine.w266 hR hvs hM | omega)))) fun _ => s_loc 4 S W rfl rfl fun h₃ W => ?_))))))
      have hsh : ((M : Int) - L) * n = (((M - L) * n : Nat) : Int) := by push_cast; congr 1; (first | exact Mine.w250 m1 | omega)
      rw [hsh] at W
      generalize hs : (M - L) * n = sh at W
      have hx2 : x = x / 2 ^ sh * 2 ^ sh + x % 2 ^ sh := by have := Nat.div_add_mod x (2 ^ sh); rw [Nat.mul_comm] at this; exact this.symm
      refine x_assign (e_bin (n_loc 0 S W rfl rfl (n_loc 4 S W rfl rfl (o_shr (by first | decide | (first | exact Mine.w110 | omega)) fun _ => ?_))))
      have hup : (x : Int).fdiv (2 ^ (sh : Int).toNat) = ((x / 2 ^ sh : Nat) : Int) := by
        rw [Int.toNat_natCast, Int.fdiv_eq_ediv_of_nonneg _ (Int.le_of_lt (Int.pow_pos (by decide)))]; push_cast; rfl
      rw [hup]
      refine s_loc 5 S W rfl rfl fun h₄ W => ?_
      refine x_assign (e_bin (n_loc 0 S W rfl rfl (e_bin (n_loc 5 S W rfl rfl (n_loc 4 S W rfl rfl (o_shl (by first | decide | (first | exact Mine.w110 | omega)) ?_ fun _ => o_xor fun _ => ?_))))))
      · have b1 : n * (Rr - L) ≤ 1000 * 100 := Nat.mul_le_mul hn (by first | decide | (first | exact Mine.w267 hR hvs | omega))
        have b2 : sh ≤ 100 * 1000 := by rw [← hs]; exact Nat.mul_le_mul (by first | decide | (first | exact Mine.w268 hR hvs hM | omega)) hn
        have b4 := intBits_le (x := ((x / 2 ^ sh : Nat) : Int)) (k := n * (Rr - L)) (Int.natCast_nonneg _) (by
          have : x / 2 ^ sh < 2 ^ (n * (Rr - L)) := Nat.lt_of_le_of_lt (Nat.div_le_self _ _) hx
          have h2 := Int.ofNat_lt.mpr this
          rwa [Int.natCast_pow] at h2)
        clear hx hx2 hup ih
        generalize Builtin.Int.intBits ((x / 2 ^ sh : Nat) : Int) = b at b4
        generalize n * (Rr - L) = z at b1 b4
        have h5 : (2 : Int) ^ 27 = 134217728 := by decide
        rw [h5]
        (first | exact Mine.w269 b2 b1 b4 | omega)
      have hlo : Builtin.bitXor (x : Int) (((x / 2 ^ sh : Nat) : Int) * 2 ^ (sh : Int).toNat) = ((x % 2 ^ sh : Nat) : Int) := by
        rw [← xor_low, Int.toNat_natCast]; push_cast; rfl
      rw [hlo]
      refine s_loc 6 S W rfl rfl fun h₅ W => ?_
      have hsn : n * (M - L) = sh := by rw [← hs, Nat.mul_comm]
      refine x_expr S (e_call (n_cell 8 S rfl lki (hci₀.keeps W.keep) (cw_fn (a_cons (n_loc 6 S W rfl rfl (a_cons (n_loc 1 S W rfl rfl (a_cons (n_loc 3 S W rfl rfl (a_nil ⟨(F₀.sub W.keep).isFn, ?_⟩))))))))))
      refine ih L M (x % 2 ^ sh) _ _ _ _ _ _ vs (by first | decide | (first | exact Mine.w256 hk hM | omega)) m1 (by first | decide | (first | exact Mine.w257 hR m2 | omega)) hvs (by rw [hsn]; exact Nat.mod_lt _ (Nat.pow_pos (by decide))) ok' (F₀.sub W.keep) (hcn₀.keeps W.keep) (hci₀.keeps W.keep) (hcd₀.keeps W.keep) (W.lstw 1 rfl) okD W.G W.tb fun h₆ vs₁ kp tb₆ hl₆ fl₁ => ?_
      obtain ⟨o₆, e₆, p₆⟩ := hl₆
      replace W := W.callD (i := 1) rfl kp tb₆ e₆ p₆ (fun _ => LstW.safe)
      obtain ⟨us₁, hi₁, rfl⟩ := fl₁
      have hlen₁ : us₁.length = M - L := by rw [hi₁.1]; simp [i2n_len]
      have hv₁ : (vs.take L ++ us₁ ++ vs.drop M).length = vs.length := by simp; (first | exact Mine.w270 hR m1 m2 hlen₁ | omega)
      refine x_expr S (e_call (n_cell 8 S rfl lki (hci₀.keeps W.keep) (cw_fn (a_cons (n_loc 5 S W rfl rfl (a_cons (n_loc 3 S W rfl rfl (a_cons (n_loc 2 S W rfl rfl (a_nil ⟨(F₀.sub W.keep).isFn, ?_⟩))))))))))
      refine ih M Rr (x / 2 ^ sh) _ _ _ _ _ _ (vs.take L ++ us₁ ++ vs.drop M) (by first | decide | omega) m2 (by first | decide | (first | exact Mine.w271 hR hv₁ | omega)) (by first | decide | (first | exact Mine.w272 hvs hv₁ | omega)) ?_ ok' (F₀.sub W.keep) (hcn₀.keeps W.keep) (hci₀.keeps W.keep) (hcd₀.keeps W.keep) (W.lstw 1 rfl) okD W.G W.tb fun h₇ vs₂ kp₇ tb₇ hl₇ fl₂ => ?_
      · refine Nat.div_lt_of_lt_mul ?_
        rw [← Nat.pow_add, ← hsn, ← Nat.mul_add, show M - L + (Rr - M) = Rr - L by (first | exact Mine.w273 m1 m2 | omega)]
        exact hx
      obtain ⟨o₇, e₇, p₇⟩ := hl₇
      replace W := W.callD (i := 1) rfl kp₇ tb₇ e₇ p₇ (fun _ => LstW.safe)
      obtain ⟨us₂, hi₂, rfl⟩ := fl₂
      have hlen₂ : us₂.length = Rr - M := by rw [hi₂.1]; simp [i2n_len]
      refine x_nil (fin W ⟨us₁ ++ us₂, ?_, ?_⟩)
      · have e : Rr - L = (M - L) + (Rr - M) := by (first | exact Mine.w274 m1 m2 | omega)
        rw [e, i2n_split, hsn, List.map_append]
        refine ⟨by rw [List.length_append, List.length_append, hi₁.1, hi₂.1], fun i d hd => ?_⟩
        by_cases hi : i < us₁.length
        · rw [List.getElem?_append_left (by rw [← hi₁.1]; exact hi)] at hd
          rw [List.getElem?_append_left hi]
          exact hi₁.2 i d hd
        · rw [List.getElem?_append_right (by rw [← hi₁.1]; (first | exact Mine.w12 hi | omega))] at hd
          rw [List.getElem?_append_right (by first | decide | (first | exact Mine.w12 hi | omega)), hi₁.1]
          exact hi₂.2 _ d hd
      · have t1 : (vs.take L ++ us₁ ++ vs.drop M).take M = vs.take L ++ us₁ := by
          rw [List.take_append_of_le_length (by simp; (first | exact Mine.w275 hL hR hlen₁ | omega)), List.take_of_length_le (by simp; (first | exact Mine.w276 m1 hlen₁ | omega))]
        have t2 : (vs.take L ++ us₁ ++ vs.drop M).drop Rr = vs.drop Rr := by
          rw [List.drop_append, List.drop_of_length_le (by simp; (first | exact Mine.w277 hL hM hlen₁ | omega)), List.nil_append, List.drop_drop]
          congr 1; simp; (first | exact Mine.w278 hL hR hM hlen₁ | omega)
        rw [t1, t2]; simp
end Mine
end

section
namespace Mine
open PySem PySem.W PyProof.Rows
variable {prog : Program} {w : World} {A : Around} {h h₀ : Heap} {R : Value → Heap → Prop}

theorem Wd.fresh {h' : Heap} {rs : List Res} {i : Nat} {D : Addr} {P : Obj → Prop} (W : Wd w h₀ rs h') (hi : rs[i]? = some (D, P)) (hb : Hb h h₀) : h.get? D = none := by
  cases e : h.get? D with
  | none => rfl
  | some o =>
    have hm := List.mem_of_getElem? hi
    have ne := (W.lo _ hm).ne
    have := (W.own _ hm).2
    rw [hb D o e ne.1 ne.2] at this; cases this
theorem fo6 : fnOkC (stA 6) 2 = true := by decide +kernel
def bits (x : Nat) : Nat := Builtin.Int.intBits (x : Int)
theorem bits_lt (x : Nat) : x < 2 ^ bits x := by
  unfold bits Builtin.Int.intBits
  split
  · rename_i h; have : x = 0 := by simpa using h
    subst this; decide
  · rename_i h
    have : x ≠ 0 := by simpa using h
    rw [Int.natAbs_natCast]
    exact Nat.lt_log2_self
def ndig (n x : Nat) : Nat := (bits x + n - 1) / n
theorem ndig_lt {n : Nat} (hn : 1 ≤ n) (x : Nat) : x < 2 ^ (n * ndig n x) := by
  refine Nat.lt_of_lt_of_le (bits_lt x) (Nat.pow_le_pow_right (by decide) ?_)
  unfold ndig
  have := Nat.div_add_mod (bits x + n - 1) n
  have h2 := Nat.mod_lt (bits x + n - 1) (show 0 < n by (first | exact Mine.w279 hn | omega))
  (first | exact Mine.w280 this h2 | omega)
theorem i2d_spec {n x m : Nat} {t t0 : Tok} (hn : 1 ≤ n) (hn2 : n ≤ 1000) (hx : bits x ≤ 1000) (hk : ndig n x ≤ 50) (g : Gd w h) (tb : Tabs h) (ok : Ok A (m + 1)) (hm : 52 ≤ m)
    (q : ∀ D h' vs, Keeps h h' → Tabs h' → h.get? D = none → okA D → IsLst h' D vs → Ints vs ((i2n n (ndig n x) x).map Int.ofNat) → R (.ref D) h') :
    T prog w A (call (.ref 77) [.int x t0, .int n t]) R h := by
  refine call_fnC (g.fn ("_int2digits", 77, 76, 6) (by decide)) g tb ok fo6 rfl (fun _ _ _ => rfl) [] (fun _ h => nomatch h) List.nodup_nil (fun _ h => nomatch h) (fun _ h => nomatch h) ?_
  intro L env h₀ h₁ S hcode hc hqual hb W ok'
  replace hb : Hb h h₀ := fun b o e n1 n2 => hb b o e n1 n2 List.not_mem_nil
  replace W : Wd w h₀ [(L, Loc (scopeOf (stA 6)).names [some (.int x t0), none, none, none, none]), (L + 1 + 1 + 1, Cel none), (L + 1 + 1, Cel none), (L + 1, Cel (some (.int n t)))] h₁ := W
  replace hc : env.cells = [(Str.ofString "inner", L + 1 + 1 + 1), (Str.ofString "a_digits", L + 1 + 1), (Str.ofString "n", L + 1)] := hc
  have lki : env.cells.lookup (Str.ofString "inner") = some (L + 1 + 1 + 1) := by rw [hc]; rfl
  have lkd : env.cells.lookup (Str.ofString "a_digits") = some (L + 1 + 1) := by rw [hc]; rfl
  have lkn : env.cells.lookup (Str.ofString "n") = some (L + 1) := by rw [hc]; rfl
  refine x_assign (e_bin (e_list (a_cons (e_int fun tz => a_nil (new_list W lz fun z h₂ _ W => ?_)))))
  refine e_bin <| e_bin <| e_bin <| e_meth _ rfl <| n_loc 0 S W rfl rfl <| gm_bitlen <| cw_bi0 <| c_bitlen fun _ => n_cell 1 S rfl lkn (W.cel 4 rfl) <| o_add fun _ => e_int fun _ => o_sub fun _ => n_cell 1 S rfl lkn (W.cel 4 rfl) <| o_fdiv (by first | decide | (first | exact Mine.w281 hn | omega)) (PyProof.noPylong_small (by first | decide | omega)) fun _ => ?_
  have hd : ((Builtin.Int.intBits (x : Int) : Int) + n - 1).fdiv n = ((ndig n x : Nat) : Int) := by
    have e : (Builtin.Int.intBits (x : Int) : Int) + n - 1 = ((bits x + n - 1 : Nat) : Int) := by unfold bits; (first | exact Mine.w283 hn | omega)
    rw [e, Int.fdiv_eq_ediv_of_nonneg _ (by first | decide | (first | exact Mine.w110 | omega))]; unfold ndig; push_cast; rfl
  rw [hd]
  refine o_listmul W (W.lst 1 rfl) (by first | decide | (first | exact Mine.w110 | omega)) (by simp; (first | exact Mine.w284 hk | omega)) (by first | decide | (first | exact Mine.w285 hk | omega)) fun D h₃ hD W => ?_
  have hrep : (List.replicate (ndig n x : Int).toNat [Value.int 0 tz]).flatten = List.replicate (ndig n x) (.int 0 tz) := by rw [Int.toNat_natCast]; simp
  rw [hrep] at W
  replace W := W.sub (rs' := [(L, Loc (scopeOf (stA 6)).names [some (.int x t0), none, none, none, none]), (D, LstO (List.replicate (ndig n x) (.int 0 tz))), (L + 1 + 1 + 1, Cel none), (L + 1 + 1, Cel none), (L + 1, Cel (some (.int n t)))]) (.cons_cons _ (.cons_cons _ (.cons _ (.refl _))))
  have okD : okA D := W.lo (D, _) (.tail _ (.head _))
  refine s_cell 2 3 S W rfl lkd rfl fun h₄ W => ?_
  refine x_def (qual := qual6) (cl := cl6 (L + 1) (L + 1 + 1 + 1) (L + 1 + 1)) S W hcode W.G.c6 (.inl ⟨rfl, rfl, rfl⟩) (by rw [hc]; rfl) ?_ rfl rfl rfl ?_
  · unfold qualnameIn; rw [S.kindOf (i := 3) rfl, hqual]; rfl
  intro f c' h₅ h₆ s₅ F W
  have F₂ : FnIs h₅ f c' qual6 (stI 6 1) (cl6 (L + 1) (L + 1 + 1 + 1) (L + 1 + 1)) := F
  refine s_cell 3 2 S W rfl lki rfl fun h₇ W => ?_
  have hDh : h.get? D = none := W.fresh (i := 1) rfl (fun b o e n1 n2 => s₅ b o (hb b o e n1 n2))
  refine x_if (b_expr (n_loc 0 S W rfl rfl (b_int ?_)))
  by_cases hx0 : x = 0
  · subst hx0
    refine x_nil_seq (x_ret (n_cell 2 S rfl lkd (W.cel 3 rfl) ?_))
    refine q D _ _ (keeps_of (fun b o e n1 n2 => s₅ b o (hb b o e n1 n2)) W.keep) W.tb hDh okD (W.lst 1 rfl) ?_
    have : ndig n 0 = 0 := by unfold ndig bits; simp [Builtin.Int.intBits]; omega
    rw [this]; exact ⟨rfl, fun i d hd => by simp [i2n] at hd⟩
  · have e1 : ((x : Int) != 0) = true := by simp; (first | exact Mine.w287 hx0 | omega)
    rw [e1]
    have hpos : 0 < ndig n x := by
      have := ndig_lt hn x
      rcases Nat.eq_zero_or_pos (ndig n x) with z | z
      · rw [z] at this; simp at this; (first | exact Mine.w288 hx0 this | omega)
      · exact z
    refine x_expr S <| e_call <| n_cell 3 S rfl lki (W.cel 2 rfl) <| cw_fn <| a_cons <| n_loc 0 S W rfl rfl <| a_cons <| e_int fun _ => a_cons <| e_call <| n_bi 4 S W rfl (by decide) <| cw_bi <| a_cons <| n_cell 2 S rfl lkd (W.cel 3 rfl) <| a_nil <| c_len (W.lst 1 rfl) (by simp; (first | exact Mine.w284 hk | omega)) fun k => a_nil ⟨(F₂.sub W.keep).isFn, ?_⟩
    rw [List.length_replicate]
    refine i2d_inner (c := c') (D := D) hn2 (ndig n x) 0 (ndig n x) x _ _ _ _ _ _ (List.replicate (ndig n x) (.int 0 tz)) (by first | decide | (first | exact Mine.w259 | omega)) hpos (by simp) (by simp; (first | exact Mine.w289 hk | omega)) (by simpa using ndig_lt hn x) (ok'.le (by first | decide | (first | exact Mine.w290 hk hm | omega))) (F₂.sub W.keep) (W.cel 4 rfl) (W.cel 2 rfl) (W.cel 3 rfl) (W.lst 1 rfl) okD W.G W.tb fun h₈ vs' kp tb₈ hl₈ fl => ?_
    obtain ⟨o₈, e₈, p₈⟩ := hl₈
    replace W := W.callD (i := 1) rfl kp tb₈ e₈ p₈ (fun _ => LstW.safe)
    obtain ⟨us, hi, rfl⟩ := fl
    refine x_nil_seq (x_ret (n_cell 2 S rfl lkd (W.cel 3 rfl) ?_))
    refine q D _ us (keeps_of (fun b o e n1 n2 => s₅ b o (hb b o e n1 n2)) W.keep) W.tb hDh okD ?_ (by simpa using hi)
    have := W.lstw 1 rfl
    simpa using this
end Mine
end

section
namespace Mine
open PySem PySem.W PyProof.Rows
variable {prog : Program} {w : World} {A : Around} {h h₀ : Heap} {env : Env}

theorem sub_of_ext {h h' : Heap} (k : Heap.ExtBut h.objs.size h h') : Sub h h' := fun b o e => k b o (Nat.ne_of_lt (Heap.lt_size e)) e
theorem x_unpack {elts : List Expr} {k : Nat} {tpos p : Pos} {value : Expr} {rest : List Stmt} {Q : Flow → Heap → Prop} (hh : A.handled = none)
    (q : T prog w A (eval value env) (fun v h₁ => ∃ a vs, v = .ref a ∧ IsTpl h₁ a vs ∧ (assignEach elts env).length = vs.length ∧ ∀ h₂, Sub h₁ h₂ → T prog w A (assignInOrder ((assignEach elts env).map (·.2)) vs) (fun _ h₃ => T prog w A (execs rest env) Q h₃) h₂) h)
    (hstar : (assignEach elts env).findIdx? (·.1) = none := by rfl) (hs : swapsWithSole [.Tuple elts k tpos] value p.line env = pure false := by rfl) (hw : swappedStores [.Tuple elts k tpos] value env = pure none := by rfl) :
    T prog w A (execs (.Assign [.Tuple elts k tpos] value p :: rest) env) Q h :=
  x_seq fun g d tk os => Assign_Tuple (wpAny_mono (q g d tk os) (fun v s₁ ⟨h₁, k₁, e, a, vs, ev, ht, hl, z⟩ => by
    subst e ev
    refine assign_Tuple_tuple (items := vs.toArray) hh ht.tup (by rw [List.size_toArray]; exact hl) hstar fun h' hx => ?_
    exact wpAny_mono (z h' (sub_of_ext hx) g d k₁ os) (fun _ _ ⟨h₂, k₂, e, z⟩ => ⟨h₂, k₂, e, z⟩) fun _ _ e => e) fun _ _ e => e) hs hw
theorem ao_nil {ts : List (Value → Sem Unit)} {R : Unit → Heap → Prop} (q : R () h) : T prog w A (assignInOrder [] []) R h := fun _ _ _ _ => wpAny_pure ⟨_, _, rfl, q⟩
theorem ao_cons {t : Value → Sem Unit} {ts : List (Value → Sem Unit)} {x : Value} {xs : List Value} {R : Unit → Heap → Prop} (q : T prog w A (t x) (kC prog w A (assignInOrder ts xs) R) h) : T prog w A (assignInOrder (t :: ts) (x :: xs)) R h :=
  fun g d k os => wpAny_bind (wpAny_holding (wpAny_mono (q g d k os) (fun _ _ ⟨_, k₁, e, z⟩ => by subst e; exact (z : T prog w A _ _ _) g d k₁ os) fun _ _ e => e))
theorem as_name {x : Str} {p : Pos} {v : Value} {R : Unit → Heap → Prop} (q : T prog w A (storeName env x v) R h) : T prog w A (assign (.Name x p) env v) R h := fun g d k os => wpAny_assign_Name (q g d k os)
theorem n_dl {L : Addr} {ns : List (Str × NameKind)} {rs : List Res} {R : Value → Heap → Prop} {pos : Pos} (i : Nat) (S : Sc env L ns) (W : Wd w h₀ rs h) (hi : ns[i]? = some (Str.ofString "_DIV_LIMIT", .globalImplicit)) (q : ∀ t, R (.int 4000 t) h) : T prog w A (eval (.Name (Str.ofString "_DIV_LIMIT") pos) env) R h := by
  obtain ⟨mg, mb, _, _, a1, _, _, _, _, ⟨t, a5⟩, _⟩ := W.G.ns
  exact fun _ _ _ _ => Calls.Name_function_global S.kind (S.kindOf hi) (Calls.loadGlobal_global (S.glob.symm ▸ a1) a5 ⟨_, _, rfl, q t⟩) (S.dbg hi).1

def LRv (l : Addr) (n : Nat) (i : Nat) (o : Obj) : Prop := i ≤ n ∧ o.cls = .type "list_reverseiterator" ∧ o.data = .fields #[.ref l, rawInt ((n : Int) - 1 - i)]
theorem Itr.rev (I l : Addr) (vs : List Value) : Itr prog w I vs.length (fun i v => vs[vs.length - 1 - i]? = some v) (LRv l vs.length) (fun h => IsLst h l vs) where
  item := fun A i h _ hi ⟨o, e, hin, c, d⟩ hl Q q => fun _ _ _ _ => by
    have e1 : (vs.length : Int) - 1 - i = ((vs.length - 1 - i : Nat) : Int) := by (first | exact Mine.w352 hi | omega)
    have hx : vs[vs.length - 1 - i]? = some (vs[vs.length - 1 - i]'(by first | decide | (first | exact Mine.w353 e1 | omega))) := List.getElem?_eq_getElem (by first | decide | (first | exact Mine.w353 e1 | omega))
    refine wpAny_pyNext_rev_item (i := vs.length - 1 - i) ⟨o, e, c, by rw [d, e1]⟩ hl.list (by simpa using hx) fun h' ⟨o', e', c', d'⟩ hs => ⟨_, _, rfl, q _ h' o' hx hs.extBut e' ⟨by (first | exact Mine.w309 hi | omega), c', by rw [d']; congr 4; simp [rawInt]; (first | exact Mine.w354 e1 | omega)⟩⟩
  done := fun A h hh ⟨o, e, _, c, d⟩ hl Q q => fun _ _ _ _ => wpAny_pyNext_rev_end hh (l := l) ⟨o, e, c, by rw [d]; congr 4; simp [rawInt]; (first | exact Mine.w355 | omega)⟩ fun h' hs => ⟨_, _, rfl, q h' hs⟩
  self := fun A h ⟨o, e, _, c, d⟩ Q q => fun _ _ _ _ => wpAny_pyIter_revIter (l := l) ⟨o, e, c, d⟩ ⟨_, _, rfl, q⟩
  safe := fun i o ⟨_, c, d⟩ vs e => by rw [d] at e; cases e; exact ⟨by rw [c]; nofun, fun t => ⟨by simp [rawInt], by simp [rawInt]⟩⟩
theorem c_reversed {f : Res} {rs : List Res} {a : Addr} {vs : List Value} {R : Value → Heap → Prop} (W : Wd w h₀ (f :: rs) h) (hl : IsLst h a vs) (q : ∀ I h', Wd w h₀ (f :: (I, LRv a vs.length 0) :: rs) h' → R (.ref I) h') :
    T prog w A (call (.type "reversed") [.ref a]) R h :=
  fun _ _ _ _ => call_reversed_list hl.list ⟨_, _, rfl, q _ _ (W.push1 _ ⟨Nat.zero_le _, rfl, by show Data.fields #[.ref a, rawInt ((vs.toArray.size : Int) - 1)] = Data.fields #[.ref a, rawInt ((vs.length : Int) - 1 - (0 : Nat))]; simp [rawInt]⟩ (Itr.rev (prog := prog) (w := w) 0 a vs |>.safe 0) rfl)⟩
theorem pi_self {I : Addr} {n : Nat} {P : Nat → Value → Prop} {Ob : Nat → Obj → Prop} {Src : Heap → Prop} {f : Res} {rs : List Res} {R : Value → Heap → Prop} (IT : Itr prog w I n P Ob Src) (W : Wd w h₀ (f :: (I, Ob 0) :: rs) h) (q : R (.ref I) h) : T prog w A (pyIter (.ref I)) R h :=
  IT.self A h (W.get (i := 1) rfl) R q
theorem pi_list {f : Res} {rs : List Res} {a : Addr} {vs : List Value} {R : Value → Heap → Prop} (W : Wd w h₀ (f :: rs) h) (hl : IsLst h a vs) (q : ∀ I h', Wd w h₀ (f :: (I, LIt a 0) :: rs) h' → R (.ref I) h') : T prog w A (pyIter (.ref a)) R h :=
  fun _ _ _ _ => wpAny_pyIter_list hl.list ⟨_, _, rfl, q _ _ (W.push1 _ ⟨rfl, rfl⟩ (Itr.list (prog := prog) (w := w) 0 a vs |>.safe 0) rfl)⟩
/-- a new object that a callee made joins -/
theorem Wd.callNew {h' : Heap} {f : Res} {rs : List Res} {D : Addr} {P : Obj → Prop} {o : Obj} (W : Wd w h₀ (f :: rs) h) (k : Keeps h h') (t : Tabs h') (hD : h.get? D = none) (okD : okA D) (e' : h'.get? D = some o) (p : P o) (s : ∀ o, P o → safe o) : Wd w h₀ (f :: (D, P) :: rs) h' := by
  have W' := W.call k t
  obtain ⟨n1, n2, _, _⟩ := W.new0 hD
  have W₁ : Wd w h₀ ((D, P) :: f :: rs) h' := by
    refine ⟨W'.keep, fun r hr => ?_, ?_, fun r hr => ?_, fun r hr => ?_, t, W.gd, W.no⟩
    · rcases List.mem_cons.mp hr with rfl | hr
      · exact ⟨⟨o, e', p⟩, n1⟩
      · exact W'.own r hr
    · rw [List.map_cons, List.nodup_cons]
      refine ⟨fun hm => ?_, W.nd⟩
      obtain ⟨r, hr, q⟩ := List.mem_map.mp hm
      exact n2 r hr q
    · rcases List.mem_cons.mp hr with rfl | hr
      · exact s
      · exact W.sf r hr
    · rcases List.mem_cons.mp hr with rfl | hr
      · exact okD
      · exact W.lo r hr
  exact W₁.perm (.swap ..)
end Mine
end

section
namespace Mine
open PySem PySem.W PyProof.Rows
variable {prog : Program} {w : World} {A : Around} {h h₀ : Heap} {R : Value → Heap → Prop}

theorem fo4 : fnOk (stA 4) 3 = true := by decide +kernel
theorem bits_le {x k : Nat} (h : x < 2 ^ k) : bits x ≤ k := intBits_le (Int.natCast_nonneg _) (by have := Int.ofNat_lt.mpr h; rwa [Int.natCast_pow] at this)
theorem log2_le_bits {x : Nat} : x.log2 ≤ bits x := by
  unfold bits Builtin.Int.intBits
  split
  · rename_i h; have : x = 0 := by simpa using h
    subst this; decide
  · rw [Int.natAbs_natCast]; (first | exact Mine.w15 | omega)
theorem noPl {a b : Nat} (hb : bits b ≤ 1000) : Builtin.divisionGoesByPylong (a : Int) (b : Int) = false :=
  PyProof.noPylong_of_log2 (by rw [Int.natAbs_natCast]; have := log2_le_bits (x := b); (first | exact Mine.w291 hb this | omega))
theorem div21_spec {a b n m : Nat} {t0 t1 t2 : Tok} (hb : b ≠ 0) (hbb : bits b ≤ 1000) (ha : bits a ≤ 3000) (g : Gd w h) (tb : Tabs h) (ok : Ok A (m + 1))
    (q : ∀ p h' k l, Keeps h h' → Tabs h' → h.get? p = none → IsTpl h' p [.int ((a / b : Nat) : Int) k, .int ((a % b : Nat) : Int) l] → R (.ref p) h') :
    T prog w A (call (.ref 63) [.int a t0, .int b t1, .int n t2]) R h := by
  refine call_fn 3 (g.fn ("_div2n1n", 63, 62, 4) (by decide)) g tb ok fo4 rfl (fun _ _ _ => rfl) ?_
  intro L env h₀ h₁ S _ hb' _ W ok'
  replace W : Wd w h₀ [(L, Loc (scopeOf (stA 4)).names [some (.int a t0), some (.int b t1), some (.int n t2), none, none, none, none, none, none, none, none, none, none, none])] h₁ := W
  refine x_if <| b_cmp <| e_bin <| e_meth _ rfl <| n_loc 0 S W rfl rfl <| gm_bitlen <| cw_bi0 <| c_bitlen fun _ => n_loc 2 S W rfl rfl <| o_sub fun _ => n_dl 11 S W rfl fun _ => c_le <| b_bool ?_
  have e1 : decide ((Builtin.Int.intBits (a : Int) : Int) - n ≤ 4000) = true := by unfold bits at ha; simp; (first | exact Mine.w292 ha | omega)
  rw [e1]
  refine x_ret <| e_call <| n_bi 12 S W rfl (by decide) <| cw_bi <| a_cons <| n_loc 0 S W rfl rfl <| a_cons <| n_loc 1 S W rfl rfl <| a_nil <| c_divmod W (by first | decide | (first | exact Mine.w293 hb | omega)) (noPl hbb) fun p h₂ k l hp W => ?_
  show R (.ref p) h₂
  have d1 : (a : Int).fdiv b = ((a / b : Nat) : Int) := by rw [Int.fdiv_eq_ediv_of_nonneg _ (Int.natCast_nonneg _)]; push_cast; rfl
  have d2 : (a : Int).fmod b = ((a % b : Nat) : Int) := by rw [Int.fmod_eq_emod_of_nonneg _ (Int.natCast_nonneg _)]; push_cast; rfl
  refine q p h₂ k l (keeps_of hb' W.keep) W.tb (W.fresh (i := 1) rfl hb') ?_
  have := W.tpl 1 rfl
  rwa [d1, d2] at this

-- long division, digit by digit
theorem dval_cast {n : Nat} {d : Nat} {ds : List Nat} : dval n ((d :: ds).map Int.ofNat) = d + 2 ^ n * dval n (ds.map Int.ofNat) := by simp [dval]
theorem dval_i2n (n : Nat) : ∀ k x, x < 2 ^ (n * k) → dval n ((i2n n k x).map Int.ofNat) = x
  | 0, x, h => by simp at h; subst h; simp [i2n, dval]
  | k + 1, x, h => by
    have h2 : x / 2 ^ n < 2 ^ (n * k) := by
      refine Nat.div_lt_of_lt_mul ?_
      rw [← Nat.pow_add]
      rwa [Nat.mul_add, Nat.mul_one, Nat.add_comm] at h
    rw [show i2n n (k + 1) x = x % 2 ^ n :: i2n n k (x / 2 ^ n) from rfl, dval_cast, dval_i2n n k _ h2]
    have := Nat.mod_add_div x (2 ^ n)
    exact_mod_cast this
theorem i2n_lt (n : Nat) : ∀ k x, ∀ d ∈ i2n n k x, d < 2 ^ n
  | 0, _, _, h => by simp [i2n] at h
  | k + 1, x, d, h => by
    simp only [i2n, List.mem_cons] at h
    rcases h with rfl | h
    · exact Nat.mod_lt _ (Nat.pow_pos (by decide))
    · exact i2n_lt n k _ d h

theorem fo8 : fnOk (stA 8) 2 = true := by decide +kernel
def names8 := (scopeOf (stA 8)).names
inductive DmA (h₀ : Heap) (a b n : Nat) (ds : List Nat) (vs : List Value) (D Qd : Addr) (t0 t1 tn : Tok) (i : Nat) (h₀' : Heap) (vals : List (Option Value)) (rs : List Res) : Prop
  | mk (p0 : h₀' = h₀) (r : Nat) (tr : Tok) (us : List Value) (x6 : Option Value) (x7 : Option Value) (qs : List Nat) (e0 : vals = [some (.int a t0), some (.int b t1), some (.int n tn), some (.ref D), some (.int r tr), some (.ref Qd), x6, x7, none, none, none, none, none]) (e1 : rs = [(Qd, LstO us), (D, LstW vs)]) (e2 : r < b) (e3 : Ints us (qs.map Int.ofNat)) (e4 : qs.length = i) (e5 : (∀ q ∈ qs, q < 2 ^ n)) (e6 : dval n (qs.reverse.map Int.ofNat) * b + r = dval n ((ds.drop (ds.length - i)).map Int.ofNat))
theorem divmod_pos_spec {a b m : Nat} {t0 t1 : Tok} (hb : 0 < b) (hbb : bits b ≤ 200) (ha : bits a ≤ 200) (hk : ndig (bits b) a ≤ 50) (g : Gd w h) (tb : Tabs h) (ok : Ok A (m + 1)) (hm : 60 ≤ m)
    (q : ∀ p h' k l, Keeps h h' → Tabs h' → h.get? p = none → IsTpl h' p [.int ((a / b : Nat) : Int) k, .int ((a % b : Nat) : Int) l] → R (.ref p) h') :
    T prog w A (call (.ref 91) [.int a t0, .int b t1]) R h := by
  obtain ⟨m, rfl⟩ : ∃ m', m = m' + 1 := ⟨m - 1, by (first | exact Mine.w294 hm | omega)⟩
  refine call_fn 2 (g.fn ("_divmod_pos", 91, 90, 8) (by decide)) g tb ok fo8 rfl (fun _ _ _ => rfl) ?_
  intro L env h₀ h₁ S _ hb' _ W ok'
  replace W : Wd w h₀ [(L, Loc names8 [some (.int a t0), some (.int b t1), none, none, none, none, none, none, none, none, none, none, none])] h₁ := W
  replace S : Sc env L names8 := S
  have hn : Builtin.Int.intBits (b : Int) = bits b := rfl
  refine x_assign <| e_meth _ rfl <| n_loc 1 S W rfl rfl <| gm_bitlen <| cw_bi0 <| c_bitlen fun tn => s_loc 2 S W rfl rfl fun h₂ W => ?_
  rw [hn] at W
  generalize hnb : bits b = n at *
  have hn1 : 1 ≤ n := by
    have := bits_lt b
    rcases Nat.eq_zero_or_pos n with z | z
    · rw [hnb, z] at this; simp at this; (first | exact Mine.w295 hb this | omega)
    · exact z
  have hbn : b < 2 ^ n := by rw [← hnb]; exact bits_lt b
  refine x_assign <| e_call <| n_fn 9 S W rfl (by decide : (Str.ofString "_int2digits", 77, 76, 6) ∈ fnTab) <| cw_fn <| a_cons <| n_loc 0 S W rfl rfl <| a_cons <| n_loc 2 S W rfl rfl <| a_nil ⟨(W.G.fn ("_int2digits", 77, 76, 6) (by decide)).isFn, ?_⟩
  refine i2d_spec hn1 (by first | decide | (first | exact Mine.w296 hbb | omega)) (by first | decide | (first | exact Mine.w296 ha | omega)) hk W.G W.tb ok' (by first | decide | (first | exact Mine.w297 hm | omega)) fun D h₃ vs kp tb₃ hD okD hl hi => ?_
  obtain ⟨oD, eD, pD⟩ := hl
  replace W := W.callNew kp tb₃ hD okD eD pD (fun _ => LstW.safe)
  refine s_loc 3 S W rfl rfl fun h₄ W => ?_
  refine x_assign <| e_int fun tr => s_loc 4 S W rfl rfl fun h₅ W => ?_
  refine x_assign <| e_list <| a_nil <| new_list W lz fun Qd h₆ _ W => s_loc 5 S W rfl rfl fun h₇ W => ?_
  generalize hds : i2n n (ndig n a) a = ds at hi
  have hlen : vs.length = ds.length := by rw [hi.1, List.length_map]
  have hdl : ds.length = ndig n a := by rw [← hds, i2n_len]
  have hdlt : ∀ d ∈ ds, d < 2 ^ n := by rw [← hds]; exact i2n_lt n _ _
  have hda : dval n (ds.map Int.ofNat) = a := by rw [← hds]; exact dval_i2n n _ _ (ndig_lt hn1 a)
  refine x_for <| e_call <| n_bi 10 S W rfl (by decide) <| cw_ty <| a_cons <| n_loc 3 S W rfl rfl <| a_nil <| c_reversed W (W.lstw 2 rfl) fun I h₈ W => pi_self (Itr.rev I D vs) W ?_
  refine c_for (P := fun i v => vs[vs.length - 1 - i]? = some v) 6 S rfl ok'.1 (Itr.rev I D vs)
    (DmA h₀ a b n ds vs D Qd t0 t1 tn)
    (fun i h₀' vals rs (.mk _ _ _ _ x6 _ _ e ..) => ⟨x6, by rw [e]; rfl⟩) (fun i h₀' vals rs h (.mk _ _ _ _ _ _ _ _ e2 ..) W => by subst e2; exact W.lstw 3 rfl) ?_ ?_
    ⟨rfl, 0, tr, [], none, none, [], rfl, rfl, hb, ⟨rfl, fun i d hd => by simp at hd⟩, rfl, (fun _ h => nomatch h), by simp [dval]⟩ W
  · rintro i h₀' vals rs v h ii hv ⟨rfl, r, tr, us, x6, x7, qs, rfl, rfl, hr, hu, hql, hq, hinv⟩ W
    have hi' : i < ds.length := by (first | exact Mine.w298 hlen ii | omega)
    have hj : ds.length - 1 - i < ds.length := by (first | exact Mine.w299 hlen ii | omega)
    obtain ⟨td, hvd⟩ := hi.2 (ds.length - 1 - i) (Int.ofNat ds[ds.length - 1 - i]) (by simp [hj])
    rw [hlen, hvd] at hv
    cases hv
    generalize hd : ds[ds.length - 1 - i] = d at W
    have hdn : d < 2 ^ n := hd ▸ hdlt _ (List.getElem_mem _)
    have hval : r * 2 ^ n + d < 2 ^ (2 * n) := by
      have h1 : (r + 1) * 2 ^ n ≤ 2 ^ n * 2 ^ n := Nat.mul_le_mul_right _ (by first | decide | (first | exact Mine.w300 hbn hr | omega))
      rw [← Nat.pow_add] at h1
      rw [show 2 * n = n + n by (first | exact Mine.w301 | omega)]
      have : (r + 1) * 2 ^ n = r * 2 ^ n + 2 ^ n := by rw [Nat.add_mul, Nat.one_mul]
      (first | exact Mine.w302 hdn h1 this | omega)
    have hshl : (r : Int) * 2 ^ (n : Int).toNat + Int.ofNat d = ((r * 2 ^ n + d : Nat) : Int) := by rw [Int.toNat_natCast]; push_cast; rfl
    refine x_unpack ok'.1 <| e_call <| n_fn 11 S W rfl (by decide : (Str.ofString "_div2n1n", 63, 62, 4) ∈ fnTab) <| cw_fn <| a_cons <| e_bin <| e_bin <| n_loc 4 S W rfl rfl <| n_loc 2 S W rfl rfl <| o_shl (by first | decide | (first | exact Mine.w110 | omega)) ?_ fun _ => n_loc 6 S W rfl rfl <| o_add fun _ => a_cons <| n_loc 1 S W rfl rfl <| a_cons <| n_loc 2 S W rfl rfl <| a_nil ⟨(W.G.fn ("_div2n1n", 63, 62, 4) (by decide)).isFn, ?_⟩
    · have := bits_le (x := r) (k := n) (by first | decide | (first | exact Mine.w303 hbn hr | omega))
      unfold bits at this
      have h5 : (2 : Int) ^ 27 = 134217728 := by decide
      rw [h5]; (first | exact Mine.w304 hbb this | omega)
    rw [hshl]
    refine div21_spec (by first | decide | (first | exact Mine.w305 hb | omega)) (by first | decide | (first | exact Mine.w306 hnb hbb | omega)) (by have := bits_le hval; (first | exact Mine.w307 hbb this | omega)) W.G W.tb ok' fun p h₉ k l kp tb₉ hp ht => ?_
    replace W := W.call kp tb₉
    refine ⟨p, _, rfl, ht, rfl, fun h₁₀ hs => ?_⟩
    replace W := W.ext hs
    refine ao_cons <| as_name <| s_loc 7 S W rfl rfl fun h₁₁ W => ao_cons <| as_name <| s_loc 4 S W rfl rfl fun h₁₂ W => ao_nil (ts := []) ?_
    refine x_expr S <| e_meth _ rfl <| n_loc 5 S W rfl rfl <| gm_list (W.lstO 2 rfl) PySem.F.slot_list_append PySem.F.type_list_append <| cw_bi <| a_cons <| n_loc 7 S W rfl rfl <| a_nil <| c_append 2 W rfl ?_ fun h₁₃ W => x_nil ?_
    · have := hu.1; rw [List.length_map] at this; (first | exact Mine.w308 hk hlen hdl ii hql this | omega)
    generalize hqd : (r * 2 ^ n + d) / b = qd at W
    generalize hrd : (r * 2 ^ n + d) % b = rd at W
    have hdm : b * qd + rd = r * 2 ^ n + d := by rw [← hqd, ← hrd]; exact Nat.div_add_mod _ _
    refine ⟨h₀', [some (.int a t0), some (.int b t1), some (.int n tn), some (.ref D), some (.int (rd : Nat) l), some (.ref Qd), some (.int (Int.ofNat d) td), some (.int (qd : Nat) k), none, none, none, none, none], [(Qd, LstO (us ++ [Value.int (qd : Nat) k])), (D, LstW vs)], ⟨rfl, rd, l, us ++ [Value.int (qd : Nat) k], some (.int (Int.ofNat d) td), some (.int (qd : Nat) k), qs ++ [qd], rfl, rfl, ?_, ?_, ?_, ?_, ?_⟩, ?_⟩
    rotate_right
    · exact W
    · rw [← hrd]; exact Nat.mod_lt _ hb
    · refine ⟨by simp [hu.1], fun j d' hd' => ?_⟩
      rw [List.map_append] at hd'
      by_cases hj' : j < us.length
      · rw [List.getElem?_append_left (by rw [← hu.1]; exact hj')] at hd'
        rw [List.getElem?_append_left hj']; exact hu.2 j d' hd'
      · rw [List.getElem?_append_right (by rw [← hu.1]; (first | exact Mine.w12 hj' | omega))] at hd'
        rw [List.getElem?_append_right (by first | decide | (first | exact Mine.w12 hj' | omega)), hu.1]
        cases hz : j - (List.map Int.ofNat qs).length with
        | zero => rw [hz] at hd'; simp at hd'; exact ⟨k, by simp [← hd']⟩
        | succ z => rw [hz] at hd'; simp at hd'
    · simp [hql]
    · intro q' hq'
      rcases List.mem_append.mp hq' with z | z
      · exact hq q' z
      · rw [List.mem_singleton.mp z, ← hqd]
        refine Nat.div_lt_of_lt_mul ?_
        have h1 : (r + 1) * 2 ^ n ≤ b * 2 ^ n := Nat.mul_le_mul_right _ (by first | decide | (first | exact Mine.w309 hr | omega))
        have : (r + 1) * 2 ^ n = r * 2 ^ n + 2 ^ n := by rw [Nat.add_mul, Nat.one_mul]
        (first | exact Mine.w302 hdn h1 this | omega)
    · have e1 : ds.length - (i + 1) = ds.length - 1 - i := by (first | exact Mine.w310 | omega)
      have e2 : ds.length - 1 - i + 1 = ds.length - i := by (first | exact Mine.w311 hlen ii | omega)
      rw [e1, List.drop_eq_getElem_cons hj, hd, e2, dval_cast, ← hinv, List.reverse_append, List.reverse_singleton, List.singleton_append, dval_cast]
      have : (b : Int) * qd + rd = r * 2 ^ n + d := by exact_mod_cast hdm
      generalize dval n (List.map Int.ofNat qs.reverse) = V
      have e3 : ((qd : Int) + 2 ^ n * V) * b + rd = (b * qd + rd) + 2 ^ n * (V * b) := by
        rw [Int.add_mul, Int.mul_comm (qd : Int) b, Int.mul_assoc]; (first | exact Mine.w312 | omega)
      have e4 : (d : Int) + 2 ^ n * (V * b + r) = (r * 2 ^ n + d) + 2 ^ n * (V * b) := by
        rw [Int.mul_add, Int.mul_comm (r : Int) (2 ^ n)]; (first | exact Mine.w313 | omega)
      rw [e3, e4, this]
  · rintro h₀' vals rs h ⟨rfl, r, tr, us, x6, x7, qs, rfl, rfl, hr, hu, hql, hq, hinv⟩ W
    have hul : us.length = qs.length := by rw [hu.1, List.length_map]
    have hq50 : qs.length ≤ 50 := by (first | exact Mine.w314 hk hlen hdl hql | omega)
    refine x_expr S <| e_meth _ rfl <| n_loc 5 S W rfl rfl <| gm_list (W.lstO 1 rfl) PySem.F.slot_list_reverse PySem.F.type_list_reverse <| cw_bi0 <| c_reverse 1 W rfl (by first | decide | (first | exact Mine.w315 hk hlen hdl hql hul | omega)) fun h₁₄ W => ?_
    have hsm : Small n (qs.reverse.map Int.ofNat) := fun d hd => by
      obtain ⟨q', hq', rfl⟩ := List.mem_map.mp hd
      have := hq q' (List.mem_reverse.mp hq')
      exact ⟨Int.natCast_nonneg _, by have := Int.ofNat_lt.mpr this; rwa [Int.natCast_pow] at this⟩
    have hir : Ints us.reverse (qs.reverse.map Int.ofNat) := by
      refine ⟨by simp [hul], fun i d hd => ?_⟩
      have hil : i < qs.length := by have := (List.getElem?_eq_some_iff.mp hd).1; simpa using this
      rw [List.map_reverse, List.getElem?_reverse (by simpa using hil), List.length_map] at hd
      rw [List.getElem?_reverse (by first | decide | (first | exact Mine.w316 hul hil | omega)), hul]
      exact hu.2 _ d hd
    refine x_assign <| e_call <| n_fn 12 S W rfl (by decide : (Str.ofString "_digits2int", 84, 83, 7) ∈ fnTab) <| cw_fn <| a_cons <| n_loc 5 S W rfl rfl <| a_cons <| n_loc 2 S W rfl rfl <| a_nil ⟨(W.G.fn ("_digits2int", 84, 83, 7) (by decide)).isFn, ?_⟩
    refine d2i_spec (Nat.le_refl n) hsm ?_ hir (by simp; (first | exact Mine.w317 hk hlen hdl hql | omega)) (W.lst 1 rfl) W.G W.tb ok' (by simp; (first | exact Mine.w318 hm hk hlen hdl hql | omega)) fun k h₁₅ kp tb₁₅ => ?_
    · rw [List.length_map, List.length_reverse]
      exact Nat.le_trans (Nat.mul_le_mul (show n ≤ 200 by (first | exact Mine.w319 hbb | omega)) (show qs.length + 2 ≤ 52 by (first | exact Mine.w320 hk hlen hdl hql | omega))) (by decide)
    replace W := W.call kp tb₁₅
    rw [hlen, Nat.sub_self, List.drop_zero, hda] at hinv
    have hQ : dval n (qs.reverse.map Int.ofNat) = ((a / b : Nat) : Int) ∧ r = a % b := by
      have nn := dval_nonneg (n := n) hsm
      obtain ⟨Q, hQ⟩ := Int.eq_ofNat_of_zero_le nn
      rw [hQ] at hinv ⊢
      have h2 : Q * b + r = a := by exact_mod_cast hinv
      constructor
      · rw [← h2, Nat.mul_comm, Nat.mul_add_div hb, Nat.div_eq_of_lt hr, Nat.add_zero]
      · rw [← h2, Nat.mul_comm, Nat.mul_add_mod, Nat.mod_eq_of_lt hr]
    rw [hQ.1]
    refine s_loc 8 S W rfl rfl fun h₁₆ W => x_ret <| e_tuple <| a_cons <| n_loc 8 S W rfl rfl <| a_cons <| n_loc 4 S W rfl rfl <| a_nil <| new_tuple W lz fun p h₁₇ hp W => ?_
    show R (.ref p) h₁₇
    refine q p h₁₇ k tr (keeps_of hb' W.keep) W.tb (W.fresh (i := 1) rfl hb') ?_
    rw [← hQ.2]
    exact W.tpl 1 rfl
end Mine
end

section
namespace Mine
open PySem PySem.W PyProof.Rows
variable {prog : Program} {w : World} {A : Around} {h h₀ : Heap} {R : Value → Heap → Prop}

theorem fresh_sub {h₁ : Heap} {p : Addr} (hb : Hb h h₀) (s : Sub h₀ h₁) (tb : Tabs h₁) (hp : h₁.get? p = none) : h.get? p = none := by
  cases e : h.get? p with
  | none => rfl
  | some o =>
    have n1 : p ≠ 72 := fun z => by obtain ⟨ps, x⟩ := tb.a.tab; rw [z, x] at hp; cases hp
    have n2 : p ≠ 79 := fun z => by obtain ⟨ps, x⟩ := tb.b.tab; rw [z, x] at hp; cases hp
    have := s _ _ (hb p o e n1 n2)
    rw [hp] at this; cases this
theorem fo9 : fnOk (stA 9) 2 = true := by decide +kernel
theorem int_divmod_spec {a b m : Nat} {t0 t1 : Tok} (hb : 0 < b) (hbb : bits b ≤ 200) (ha : bits a ≤ 200) (hk : ndig (bits b) a ≤ 50) (g : Gd w h) (tb : Tabs h) (ok : Ok A (m + 2)) (hm : 60 ≤ m)
    (q : ∀ p h' k l, Keeps h h' → Tabs h' → h.get? p = none → IsTpl h' p [.int ((a / b : Nat) : Int) k, .int ((a % b : Nat) : Int) l] → R (.ref p) h') :
    T prog w A (call (.ref 98) [.int a t0, .int b t1]) R h := by
  refine call_fn 2 (g.fn ("int_divmod", 98, 97, 9) (by decide)) g tb ok fo9 rfl (fun _ _ _ => rfl) ?_
  intro L env h₀ h₁ S _ hb' _ W ok'
  replace W : Wd w h₀ [(L, Loc (scopeOf (stA 9)).names [some (.int a t0), some (.int b t1), none, none, none, none, none])] h₁ := W
  refine x_if <| b_cmp <| n_loc 1 S W rfl rfl <| e_int fun _ => c_eq <| b_bool ?_
  have e1 : ((b : Int) == 0) = false := by simp; (first | exact Mine.w305 hb | omega)
  rw [e1]
  refine x_if <| b_cmp <| n_loc 1 S W rfl rfl <| e_int fun _ => c_lt <| b_bool ?_
  have e2 : decide ((b : Int) < 0) = false := by simp
  rw [e2]
  refine x_if <| b_cmp <| n_loc 0 S W rfl rfl <| e_int fun _ => c_lt <| b_bool ?_
  have e3 : decide ((a : Int) < 0) = false := by simp
  rw [e3]
  refine x_ret <| e_call <| n_fn 6 S W rfl (by decide : (Str.ofString "_divmod_pos", 91, 90, 8) ∈ fnTab) <| cw_fn <| a_cons <| n_loc 0 S W rfl rfl <| a_cons <| n_loc 1 S W rfl rfl <| a_nil ⟨(W.G.fn ("_divmod_pos", 91, 90, 8) (by decide)).isFn, ?_⟩
  refine divmod_pos_spec hb hbb ha hk W.G W.tb ok' hm fun p h₂ k l kp tb₂ hp ht => ?_
  show R (.ref p) h₂
  have W₁ := W
  replace W := W.call kp tb₂
  refine q p h₂ k l (keeps_of hb' W.keep) W.tb ?_ ht
  exact fresh_sub hb' W₁.keep W₁.tb hp
end Mine
end

section
namespace Mine
open PySem PySem.W PyProof.Rows
variable {prog : Program} {w : World} {A : Around} {h h₀ : Heap} {env : Env} {R : Value → Heap → Prop} {pos : Pos} {f : Res} {rs : List Res}

theorem Sc.comp {L0 C : Addr} {ns0 : List (Str × NameKind)} {scope : Scope} {cl : List (Str × Addr)} (S : Sc env L0 ns0) (hk : scope.kind = .function) (ok : okNames scope.names = true) : Sc (compEnvC scope cl C env) C scope.names := by
  refine ⟨hk, fun i x k hi => ?_, ok, S.glob, S.bi, rfl⟩
  have nd := okNames.nd ok
  let g : Str × NameKind → Str × NameKind := fun p => if (p.2 == NameKind.free && env.scope.kind == .function && env.kindOf p.1 == some .cell) then (p.1, NameKind.cell) else (p.1, p.2)
  have hg1 : ∀ p, (g p).1 = p.1 := fun p => by show (if _ then _ else _ : Str × NameKind).1 = _; split <;> rfl
  have e : (compEnvC scope cl C env).kindOf x = (scope.names.map g).lookup x := rfl
  have nd' : ((scope.names.map g).map (·.1)).Nodup := by
    rw [List.map_map, show ((fun p : Str × NameKind => p.1) ∘ g) = (·.1) from funext hg1]; exact nd
  have hi' : (scope.names.map g)[i]? = some (x, (g (x, k)).2) := by
    rw [List.getElem?_map, hi]; show some (g (x, k)) = _; congr 1; exact Prod.ext (hg1 _) rfl
  rw [e, lookup_of_place nd' hi']
  show some (if _ then _ else _ : Str × NameKind).2 = _ ∨ _
  split
  · rename_i q
    simp only [Bool.and_eq_true] at q
    refine .inr ⟨by simpa using q.1.1, ?_⟩
    show some (if _ then _ else _ : Str × NameKind).2 = _
    rw [if_pos (by simp only [Bool.and_eq_true]; exact q)]
  · exact .inl rfl

/-- the tests of a comprehension -/
def testsOf (ifs : List Expr) (env : Env) : Sem Bool := forIn ifs true fun c r => if r = true then do let ok ← isTrue c env (eval c env); pure (ForInStep.yield ok) else pure (ForInStep.yield r)
theorem t_none {Q : Bool → Heap → Prop} (q : Q true h) : T prog w A (testsOf [] env) Q h := fun _ _ _ _ => wpAny_pure ⟨_, _, rfl, q⟩
theorem t_one {c : Expr} {Q : Bool → Heap → Prop} (q : T prog w A (isTrue c env (eval c env)) Q h) : T prog w A (testsOf [c] env) Q h := fun g d k os => wpAny_tests_one (q g d k os)

def cvals (scope : Scope) (ix : Nat) (v : Value) : List (Option Value) := (List.replicate scope.names.length none).set ix (some v)

/-- a turn of a comprehension is over -/
inductive CmpX (w : World) (J : Nat → Heap → List Value → List Res → Prop) (i : Nat) (zs ys : List Value) (names : List (Str × NameKind)) (ix : Nat) (C D : Addr) (rI rF : Res) (h : Heap) : Prop
  | mk (h₀' : Heap) (rs' : List Res) (vals : List (Option Value)) (j : J i h₀' zs rs') (W : Wd w h₀' ((C, Loc names vals) :: rI :: (D, LstO ys) :: rF :: rs') h) (l : vals.length = names.length) (o : ∀ j, j ≠ ix → vals[j]? = (List.replicate names.length none)[j]?)
inductive CblI (w : World) (g : Array GenState) (d : Drawn) (os : OsState) (J : Nat → Heap → List Value → List Res → Prop) (names : List (Str × NameKind)) (ix : Nat) (C I D : Addr) (Ob : Nat → Obj → Prop) (f : Res) (n m : Nat) (s' : Shared) : Prop
  | mk (i : Nat) (h' : Heap) (k' : Nat) (h₀ : Heap) (ys : List Value) (rs : List Res) (vals : List (Option Value)) (e : s' = ⟨h', g, d, k', os⟩) (j : J i h₀ ys rs) (W : Wd w h₀ ((C, Loc names vals) :: (I, Ob i) :: (D, LstO ys) :: f :: rs) h') (l : vals.length = names.length) (o : ∀ j, j ≠ ix → vals[j]? = (List.replicate names.length none)[j]?) (hi : i ≤ n) (hm : m = n - i)
theorem comp_block {elt iter : Expr} {x : Str} {px : Pos} {ifs : List Expr} {scope : Scope} {cl : List (Str × Addr)} {L0 I : Addr} {ns0 : List (Str × NameKind)} {n : Nat} {P : Nat → Value → Prop} {Ob : Nat → Obj → Prop} {Src : Heap → Prop} {RR : Value → Addr → Result → Shared → Prop} (ix : Nat)
    (S : Sc env L0 ns0) (hx : scope.names[ix]? = some (x, .local)) (hkind : scope.kind = .function) (okn : okNames scope.names = true) (hcell : ∀ y ∈ scope.names, y.2 ≠ .cell) (hh : A.handled = none) (IT : Itr prog w I n P Ob Src) (hsz : n ≤ 16384)
    (J : Nat → Heap → List Value → List Res → Prop) (hlen : ∀ i h₀ ys rs, J i h₀ ys rs → ys.length ≤ i)
    (hsrc : ∀ i h₀ ys rs h, J i h₀ ys rs → Wd w h₀ (f :: rs) h → Src h)
    (turn : ∀ C D i h₀ ys rs v h, i < n → P i v → J i h₀ ys rs → Wd w h₀ ((C, Loc scope.names (cvals scope ix v)) :: (I, Ob (i + 1)) :: (D, LstO ys) :: f :: rs) h → Sc (compEnvC scope cl C env) C scope.names →
      T prog w A (testsOf ifs (compEnvC scope cl C env)) (fun ok h₁ => cond ok
        (T prog w A (eval elt (compEnvC scope cl C env)) (fun y h₂ => CmpX w J (i + 1) (ys ++ [y]) ys scope.names ix C D (I, Ob (i + 1)) f h₂) h₁)
        (CmpX w J (i + 1) ys ys scope.names ix C D (I, Ob (i + 1)) f h₁)) h)
    {g d k os} (done : ∀ C D h₀ ys rs vals h k', J n h₀ ys rs → Wd w h₀ ((C, Loc scope.names vals) :: (D, LstO ys) :: f :: rs) h → RR (.ref D) C (.ok .next) ⟨h, g, d, k', os⟩)
    (j0 : J 0 h₀ [] rs) (W : Wd w h₀ (f :: (I, Ob 0) :: rs) h) :
    wpAny (model prog w) A (newList []) (fun acc s₃ => wpAny (model prog w) A (newFunctionEnv scope env.globals cl [] env.qual none .none (some env)) (fun cenv s₄ =>
      codeAny (model prog w) A (.compStart (.ListComp elt [⟨.Name x px, iter, ifs, 0⟩] scope pos) 0 (.ref I) acc { cenv with scope := relabel scope env }) (RR acc cenv.locals) s₄) (fun _ _ => False) s₃) (fun _ _ => False) ⟨h, g, d, k, os⟩ := by
  refine wpAny_newObj_type (wpAny_newFunctionEnv hcell (by intro y hy; simp at hy) (fun h₁ hns₁ hsb₁ => ?_) hkind)
  have W₁ := W.push1 (P := LstO []) { cls := .type "list", data := .seq #[] } ⟨_, rfl⟩ (fun _ => LstO.safe) rfl
  generalize hD : h.objs.size = D at W₁
  generalize hH : h.push { cls := .type "list", data := .seq #[] } = H at W₁
  have hH' : h.push { cls := .type "list", dict := none, data := .seq ([] : List Value).toArray } = H := hH
  dsimp only at hns₁ hsb₁ ⊢
  try rw [hH'] at hns₁
  try rw [hH'] at hsb₁
  try rw [hH']
  try rw [hD]
  generalize hC : H.objs.size = C at hns₁ hsb₁ ⊢
  have sb : Sub H h₁ := fun b o e => hsb₁.extBut b o (hC ▸ Nat.ne_of_lt (Heap.lt_size e)) (Heap.get?_push_of_some _ e)
  obtain ⟨oC, es, ep, eC, dC, kC, fC⟩ := hns₁
  have W₂ := W₁.add (P := Loc scope.names (List.replicate scope.names.length none)) sb (hC ▸ Wd.size_none H) eC ⟨es, ep, dC, kC, fun m => by rw [fC, lkp_none]; rfl⟩ (fun _ => Loc.safe) (hC ▸ W₁.size)
  have S' : Sc (compEnvC scope cl C env) C scope.names := S.comp hkind okn
  have W₃ : Wd w h₀ ((C, Loc scope.names (List.replicate scope.names.length none)) :: (I, Ob 0) :: (D, LstO []) :: f :: rs) h₁ := W₂.perm (.cons _ (((List.Perm.swap ..).cons f).trans ((List.Perm.swap ..).trans ((List.Perm.swap ..).cons _))))
  have loop : ∀ k', codeAny (model prog w) A (.compLoop (.ListComp elt [⟨.Name x px, iter, ifs, 0⟩] scope pos) 0 (.ref I) (.ref D) (compEnvC scope cl C env)) (RR (.ref D) C) ⟨h₁, g, d, k', os⟩ := by
    intro k'
    refine codeAny_compLoop_tests (CblI w g d os J scope.names ix C I D Ob f n) ?_ n
      ⟨0, h₁, k', h₀, [], rs, _, rfl, j0, W₃, by simp, fun _ _ => rfl, Nat.zero_le _, rfl⟩
    rintro m s' ⟨i, h', k', h₀', ys, rs', vals, rfl, j, W', hl', ho', hi, rfl⟩
    have src := hsrc _ _ _ _ _ j (W'.sub ((((List.Sublist.refl _).cons _).cons _).cons _))
    by_cases hin : i < n
    · refine wpAny_mono (IT.item A i h' hh hin (W'.get (i := 1) rfl) src (fun r h₁ => ∃ v o', r = some v ∧ P i v ∧ Heap.ExtBut I h' h₁ ∧ h₁.get? I = some o' ∧ Ob (i + 1) o') (fun v h₁ o' a b c d => ⟨v, o', rfl, a, b, c, d⟩) g d k' os) (fun r s₁ hr => ?_) fun _ _ e => e.elim
      obtain ⟨h₁, k₁, rfl, v, o', rfl, hp, hext, e', ob'⟩ := hr
      have W₁ := W'.upd (i := 1) (P' := Ob (i + 1)) rfl hext e' ob' (IT.safe _)
      have hixl : ix < vals.length := by rw [hl']; exact (List.getElem?_eq_some_iff.mp hx).1
      refine wpAny_mono (wpAny_assign_Name (s_loc (prog := prog) (w := w) (A := A) (v := v) (u := vals[ix]) ix S' W₁ hx (List.getElem?_eq_getElem hixl) (R := fun _ h₂ => Wd w h₀' ((C, Loc scope.names (vals.set ix (some v))) :: (I, Ob (i + 1)) :: (D, LstO ys) :: f :: rs') h₂) (fun h₂ W₂ => W₂) g d k₁ os)) (fun _ s₂ hr => ?_) fun _ _ e => e.elim
      obtain ⟨h₂, k₂, rfl, W₂⟩ := hr
      have ev : vals.set ix (some v) = cvals scope ix v := by
        apply List.ext_getElem?
        intro jj
        unfold cvals
        by_cases q : ix = jj
        · subst q; rw [List.getElem?_set_self hixl, List.getElem?_set_self (by rw [List.length_replicate, ← hl']; exact hixl)]
        · rw [List.getElem?_set_ne q, List.getElem?_set_ne q]; exact ho' jj (Ne.symm q)
      rw [ev] at W₂
      refine wpAny_mono (turn C D i h₀' ys rs' v h₂ hin hp j W₂ S' g d k₂ os) (fun ok s₃ hr => ?_) fun _ _ e => e.elim
      obtain ⟨h₃, k₃, rfl, q₃⟩ := hr
      cases ok with
      | false =>
        obtain ⟨a, b, vals', j', W₄, l4, o4⟩ := q₃
        exact ⟨n - (i + 1), by (first | exact Mine.w20 hin | omega), i + 1, h₃, k₃, a, ys, b, vals', rfl, j', W₄, l4, o4, hin, rfl⟩
      | true =>
        refine wpAny_mono ((q₃ : T prog w A _ _ _) g d k₃ os) (fun y s₄ hr => ?_) fun _ _ e => e.elim
        obtain ⟨h₄, k₄, rfl, a, b, vals', j', W₄, l4, o4⟩ := hr
        refine wpAny_mono (c_append (prog := prog) (w := w) (A := A) (v := y) (R := fun _ h₅ => Wd w a ((C, Loc scope.names vals') :: (I, Ob (i + 1)) :: (D, LstO (ys ++ [y])) :: f :: b) h₅) 2 W₄ rfl (by have := hlen _ _ _ _ j; (first | exact Mine.w21 hsz hin this | omega)) (fun h₅ W₅ => W₅) g d k₄ os) (fun _ s₅ hr => ?_) fun _ _ e => e.elim
        obtain ⟨h₅, k₅, rfl, W₅⟩ := hr
        exact ⟨n - (i + 1), by (first | exact Mine.w20 hin | omega), i + 1, h₅, k₅, a, ys ++ [y], b, vals', rfl, j', W₅, l4, o4, hin, rfl⟩
    · have hin' : i = n := by (first | exact Mine.w22 hi hin | omega)
      subst hin'
      refine wpAny_mono (IT.done A h' hh (W'.get (i := 1) rfl) src (fun r h₁ => r = none ∧ Heap.ExtBut I h' h₁) (fun h₁ a => ⟨rfl, a⟩) g d k' os) (fun r s₁ hr => ?_) fun _ _ e => e.elim
      obtain ⟨h₁, k₁, rfl, rfl, hext⟩ := hr
      exact done C D h₀' ys rs' vals h₁ k₁ j (W'.lose1 hext)
  refine codeAny_compStart_list (loop _) ?_
  refine wpAny_mono (IT.self A h₁ (W₃.get (i := 1) rfl) (fun v h₂ => v = .ref I ∧ h₂ = h₁) ⟨rfl, rfl⟩ g d _ os) (fun v s₂ hr => ?_) fun _ _ e => e.elim
  obtain ⟨h₂, k₂, rfl, rfl, rfl⟩ := hr
  exact loop _

/-- what is to be shown of a comprehension, once its iterator stands -/
inductive CmpQ (prog : Program) (w : World) (A : Around) (env : Env) (elt : Expr) (ifs : List Expr) (scope : Scope) (cl : List (Str × Addr)) (ix : Nat) (R : Value → Heap → Prop) (it : Value) (h₂ : Heap) : Prop
  | mk (J : Nat → Heap → List Value → List Res → Prop) (I : Addr) (n : Nat) (P : Nat → Value → Prop) (Ob : Nat → Obj → Prop) (Src : Heap → Prop) (h₀ : Heap) (f : Res) (rs : List Res) (eit : it = .ref I) (IT : Itr prog w I n P Ob Src) (hsz : n ≤ 16384) (hlen : ∀ i h₀ ys rs, J i h₀ ys rs → ys.length ≤ i)
    (hsrc : ∀ i h₀ ys rs h, J i h₀ ys rs → Wd w h₀ (f :: rs) h → Src h)
    (turn : ∀ C D i h₀ ys rs v h, i < n → P i v → J i h₀ ys rs → Wd w h₀ ((C, Loc scope.names (cvals scope ix v)) :: (I, Ob (i + 1)) :: (D, LstO ys) :: f :: rs) h → Sc (compEnvC scope cl C env) C scope.names →
        T prog w A (testsOf ifs (compEnvC scope cl C env)) (fun ok h₁ => cond ok
          (T prog w A (eval elt (compEnvC scope cl C env)) (fun y h₂ => CmpX w J (i + 1) (ys ++ [y]) ys scope.names ix C D (I, Ob (i + 1)) f h₂) h₁)
          (CmpX w J (i + 1) ys ys scope.names ix C D (I, Ob (i + 1)) f h₁)) h)
    (done : ∀ D h₀ ys rs h, J n h₀ ys rs → Wd w h₀ (f :: (D, LstO ys) :: rs) h → R (.ref D) h) (j0 : J 0 h₀ [] rs) (W : Wd w h₀ (f :: (I, Ob 0) :: rs) h₂)
inductive CmpS (prog : Program) (w : World) (A : Around) (env : Env) (elt : Expr) (ifs : List Expr) (scope : Scope) (cl : List (Str × Addr)) (ix iy : Nat) (L0 : Addr) (ns0 : List (Str × NameKind)) (rest : List Stmt) (Q : Flow → Heap → Prop) (J : Nat → Heap → List Value → List Res → Prop) (it : Value) (h₂ : Heap) : Prop
  | mk (I : Addr) (n : Nat) (P : Nat → Value → Prop) (Ob : Nat → Obj → Prop) (Src : Heap → Prop) (h₀ : Heap) (vals0 : List (Option Value)) (u : Option Value) (rs : List Res) (eit : it = .ref I) (IT : Itr prog w I n P Ob Src) (hsz : n ≤ 16384) (hu : vals0[iy]? = some u) (hlen : ∀ i h₀ ys rs, J i h₀ ys rs → ys.length ≤ i)
    (hsrc : ∀ i h₀ ys rs h, J i h₀ ys rs → Wd w h₀ ((L0, Loc ns0 vals0) :: rs) h → Src h)
    (turn : ∀ C D i h₀ ys rs v h, i < n → P i v → J i h₀ ys rs → Wd w h₀ ((C, Loc scope.names (cvals scope ix v)) :: (I, Ob (i + 1)) :: (D, LstO ys) :: (L0, Loc ns0 vals0) :: rs) h → Sc (compEnvC scope cl C env) C scope.names →
        T prog w A (testsOf ifs (compEnvC scope cl C env)) (fun ok h₁ => cond ok
          (T prog w A (eval elt (compEnvC scope cl C env)) (fun y h₂ => CmpX w J (i + 1) (ys ++ [y]) ys scope.names ix C D (I, Ob (i + 1)) (L0, Loc ns0 vals0) h₂) h₁)
          (CmpX w J (i + 1) ys ys scope.names ix C D (I, Ob (i + 1)) (L0, Loc ns0 vals0) h₁)) h)
    (done : ∀ D h₀ ys rs h, J n h₀ ys rs → Wd w h₀ ((L0, Loc ns0 (vals0.set iy (some (.ref D)))) :: (D, LstO ys) :: rs) h → T prog w A (execs rest env) Q h) (j0 : J 0 h₀ [] rs) (W : Wd w h₀ ((L0, Loc ns0 vals0) :: (I, Ob 0) :: rs) h₂)
/-- a list comprehension over one iterator; the frame of the comprehension is gone behind it -/
theorem e_compJ {elt iter : Expr} {x : Str} {px : Pos} {ifs : List Expr} {scope : Scope} {L0 : Addr} {ns0 : List (Str × NameKind)} (ix : Nat) (cl : List (Str × Addr))
    (S : Sc env L0 ns0) (hh : A.handled = none) (hclos : closureFor scope env = pure cl)
    (q : T prog w A (eval iter env) (fun xv h₁ => T prog w A (pyIter xv) (CmpQ prog w A env elt ifs scope cl ix R) h₁) h)
    (hx : scope.names[ix]? = some (x, .local) := by rfl) (hkind : scope.kind = .function := by rfl) (okn : okNames scope.names = true := by decide) (hcell : ∀ y ∈ scope.names, y.2 ≠ .cell := by decide)
    (hs : ∀ x, foldedSetIterable iter env x = pure x := by intro _; rfl) :
    T prog w A (eval (.ListComp elt [⟨.Name x px, iter, ifs, 0⟩] scope pos) env) R h := by
  intro g d k os
  have hnames : ∀ y ∈ scope.names, y.2 = .local → scope.names.lookup y.1 = some .local := fun y hy e => by
    obtain ⟨i, hi⟩ := List.getElem?_of_mem hy
    exact lookup_of_place (okNames.nd okn) (by rw [hi, ← e])
  rw [eval_ListComp]
  refine wpAny_comprehension_free (use := none) rfl hs hclos hkind hnames (wpAny_mono (q g d k os) (fun xv s₁ h₁ => ?_) fun _ _ e => e)
  obtain ⟨h₁, k₁, rfl, z⟩ := h₁
  refine wpAny_mono ((z : T prog w A _ _ _) g d k₁ os) (fun it s₂ h₂ => ?_) fun _ _ e => e
  obtain ⟨h₂, k₂, rfl, J, I, n, P, Ob, Src, h₀, f, rs, rfl, IT, hsz, hlen, hsrc, turn, done, j0, W⟩ := h₂
  refine comp_block (RR := fun acc C => compPost (model prog w) A (fun _ _ => False) none _ acc C) ix S hx hkind okn hcell hh IT hsz J hlen hsrc turn ?_ j0 W
  intro C D h₀' ys rs' vals h' k' j W'
  have hn : h'.Ns C (lkp scope.names vals) := W'.locs
  refine ⟨_, hn, fun h'' hs'' => ⟨h'', k', rfl, done D h₀' ys rs' h'' j ?_⟩⟩
  have W₁ : Wd w h₀' (f :: (C, Loc scope.names vals) :: (D, LstO ys) :: rs') h' := W'.perm (((List.Perm.swap ..).cons _).trans (.swap ..))
  exact W₁.lose1 hs''.extBut


/-- x = [comprehension], x a local of the same line -/
theorem x_comp {elt iter : Expr} {x y : Str} {px py spos : Pos} {ifs : List Expr} {scope : Scope} {L0 : Addr} {ns0 : List (Str × NameKind)} {rest : List Stmt} {Q : Flow → Heap → Prop} (iy ix : Nat) (cl : List (Str × Addr))
    (S : Sc env L0 ns0) (hh : A.handled = none) (hy : ns0[iy]? = some (y, .local)) (hclos : closureFor scope env = pure cl) (J : Nat → Heap → List Value → List Res → Prop)
    (q : T prog w A (eval iter env) (fun xv h₁ => T prog w A (pyIter xv) (CmpS prog w A env elt ifs scope cl ix iy L0 ns0 rest Q J) h₁) h)
    (hx : scope.names[ix]? = some (x, .local) := by rfl) (hkind : scope.kind = .function := by rfl) (okn : okNames scope.names = true := by decide) (hcell : ∀ y ∈ scope.names, y.2 ≠ .cell := by decide)
    (hpl : (py.line == pos.line) = true := by rfl) (hny : (scope.names.any fun (n, k) => n == y && (k == .local || k == .cell)) = false := by decide)
    (hs : ∀ x, foldedSetIterable iter env x = pure x := by intro _; rfl) :
    T prog w A (execs (.Assign [.Name y py] (.ListComp elt [⟨.Name x px, iter, ifs, 0⟩] scope pos) spos :: rest) env) Q h := by
  refine x_seq ?_
  intro g d k os
  have hsw : swapsWith (.ListComp elt [⟨.Name x px, iter, ifs, 0⟩] scope pos) (some (.Name y py)) spos.line env = pure true := by
    show (pure (env.blockKind == .function && env.kindOf y == some .local && py.line == pos.line && !(scope.names.any fun (n, k) => n == y && (k == .local || k == .cell))) : Sem Bool) = pure true
    rw [hny, hpl, S.kindOf hy, show env.blockKind = .function by unfold Env.blockKind; rw [S.kind]; rfl]; rfl
  have hnames : ∀ y ∈ scope.names, y.2 = .local → scope.names.lookup y.1 = some .local := fun y hy e => by
    obtain ⟨i, hi⟩ := List.getElem?_of_mem hy
    exact lookup_of_place (okNames.nd okn) (by rw [hi, ← e])
  rw [exec_Assign_Name_used _ _ _ _ hsw]
  refine wpAny_bind (wpAny_standAt (wpAny_bind ?_))
  show wpAny _ A (do let _ ← comprehension (.ListComp elt [⟨.Name x px, iter, ifs, 0⟩] scope pos) scope env _ (newList []) false (eval iter env) (some (assign (.Name y py) env))) _ _ _
  refine wpAny_bind (wpAny_mono (wpAny_comprehension_free (use := some (assign (.Name y py) env)) (Q := fun _ s' => TE g d os (seqQ prog w A rest env Q) Flow.next s') rfl hs hclos hkind hnames
    (wpAny_mono (q g d k os) (fun xv s₁ h₁ => ?_) fun _ _ e => e)) (fun _ s' hq => wpAny_pure (wpAny_pure hq)) fun _ _ e => e)
  obtain ⟨h₁, k₁, rfl, z⟩ := h₁
  refine wpAny_mono ((z : T prog w A _ _ _) g d k₁ os) (fun it s₂ h₂ => ?_) fun _ _ e => e
  obtain ⟨h₂, k₂, rfl, I, n, P, Ob, Src, h₀, vals0, u, rs, rfl, IT, hsz, hu, hlen, hsrc, turn, done, j0, W⟩ := h₂
  refine comp_block (RR := fun acc C => compPost (model prog w) A (fun _ _ => False) (some (assign (.Name y py) env)) _ acc C) ix S hx hkind okn hcell hh IT hsz J hlen hsrc turn ?_ j0 W
  intro C D h₀' ys rs' vals h' k' j W'
  have W₁ : Wd w h₀' ((L0, Loc ns0 vals0) :: (C, Loc scope.names vals) :: (D, LstO ys) :: rs') h' := W'.perm (((List.Perm.swap ..).cons _).trans (.swap ..))
  show wpAny _ A (assign (.Name y py) env (.ref D)) _ _ _
  refine wpAny_mono (wpAny_assign_Name (s_loc (prog := prog) (w := w) (A := A) (v := .ref D) iy S W₁ hy hu (R := fun _ h₂ => Wd w h₀' ((L0, Loc ns0 (vals0.set iy (some (.ref D)))) :: (C, Loc scope.names vals) :: (D, LstO ys) :: rs') h₂) (fun h₂ W₂ => W₂) g d k' os)) (fun _ s₂ hr => ?_) fun _ _ e => e.elim
  obtain ⟨h₂, k₂, rfl, W₂⟩ := hr
  obtain ⟨oC, eC, es, ep, dC, kC, fC⟩ := W₂.get (i := 1) rfl
  exact ⟨_, ⟨oC, es, ep, eC, dC, kC, fC⟩, fun h'' hs'' => ⟨h'', k₂, rfl, done D h₀' ys rs' h'' j (W₂.lose1 hs''.extBut)⟩⟩
end Mine
end

section
namespace Mine
open PySem PySem.W PyProof.Rows
variable {prog : Program} {w : World} {A : Around} {h h₀ : Heap} {env : Env} {R : Value → Heap → Prop} {pos : Pos} {f : Res} {rs : List Res} {t u v : Tok}

-- ranges
def RI (a c : Int) (n i : Nat) (o : Obj) : Prop := o = { cls := .type "range_iterator", data := .fields #[rawInt (a + (i : Nat) * c), rawInt ((n : Int) - (i : Nat)), rawInt c] }
theorem Itr.range (I : Addr) (a c : Int) (n : Nat) : Itr prog w I n (fun i v => ∃ t, v = .int (a + (i : Nat) * c) t) (RI a c n) (fun _ => True) where
  item := fun A i h _ hi ⟨o, e, ho⟩ _ Q q => fun _ _ _ _ => by
    subst ho
    refine wpAny_pyNext_range_item (x := a + (i : Nat) * c) (left := (n : Int) - (i : Nat)) (step := c) e (by first | decide | (first | exact Mine.w72 hi | omega)) fun h' hit' hs' => ?_
    refine ⟨_, _, rfl, q _ h' _ ⟨_, rfl⟩ hs'.extBut hit' ?_⟩
    have e1 : a + ((i + 1 : Nat) : Int) * c = a + (i : Int) * c + c := by push_cast; rw [Int.add_mul, Int.one_mul, Int.add_assoc]
    have e2 : (n : Int) - ((i + 1 : Nat) : Int) = (n : Int) - (i : Int) - 1 := by push_cast; (first | exact Mine.w73 | omega)
    unfold RI; rw [e1, e2]
  done := fun A h hh ⟨o, e, ho⟩ _ Q q => fun _ _ _ _ => by
    subst ho
    exact wpAny_pyNext_range_end (x := a + (n : Nat) * c) (left := (n : Int) - (n : Nat)) (step := c) hh e (by first | decide | (first | exact Mine.w74 | omega)) fun h' he' => ⟨_, _, rfl, q h' he'⟩
  self := fun A h ⟨o, e, ho⟩ Q q => fun _ _ _ _ => by
    subst ho
    exact wpAny_pyIter_rangeiter e ⟨_, _, rfl, q⟩
  safe := fun i o ho vs e => by subst ho; cases e; exact ⟨nofun, fun t => ⟨by simp [rawInt], by simp [rawInt]⟩⟩
def IsRng (h : Heap) (r : Addr) (a b c : Int) : Prop := ∃ t u v, IsRange h r a b c t u v
theorem c_range1 {n : Int} (W : Wd w h₀ rs h) (q : ∀ r h', IsRng h' r 0 n 1 → Wd w h₀ rs h' → R (.ref r) h') : T prog w A (call (.type "range") [.int n t]) R h :=
  fun _ _ _ _ => call_range_1 ⟨_, _, rfl, q _ _ ⟨_, _, _, Heap.get?_push_size _ rfl⟩ (W.skip _)⟩
theorem c_range2 {a b : Int} (W : Wd w h₀ rs h) (q : ∀ r h', IsRng h' r a b 1 → Wd w h₀ rs h' → R (.ref r) h') : T prog w A (call (.type "range") [.int a t, .int b u]) R h :=
  fun _ _ _ _ => call_range_2 ⟨_, _, rfl, q _ _ ⟨_, _, _, Heap.get?_push_size _ rfl⟩ (W.skip _)⟩
theorem c_range3 {a b c : Int} (W : Wd w h₀ rs h) (hc : c ≠ 0) (hl : c.natAbs.log2 < 100) (q : ∀ r h', IsRng h' r a b c → Wd w h₀ rs h' → R (.ref r) h') : T prog w A (call (.type "range") [.int a t, .int b u, .int c v]) R h :=
  fun _ _ _ _ => call_range_3 hc ⟨_, _, rfl, q _ _ ⟨_, _, _, Heap.get?_push_size _ rfl⟩ (W.skip _)⟩ (.inl (PyProof.noPylong_of_log2 (by first | decide | (first | exact Mine.w75 hl | omega))))
theorem pi_range {r : Addr} {a b c : Int} {n : Nat} (W : Wd w h₀ (f :: rs) h) (hr : IsRng h r a b c) (hs : Builtin.Range.small a b c = true) (hn : Builtin.Range.rangeSize a b c = n) (q : ∀ I h', Wd w h₀ (f :: (I, RI a c n 0) :: rs) h' → R (.ref I) h') : T prog w A (pyIter (.ref r)) R h := by
  obtain ⟨t, u, v, hr⟩ := hr
  exact fun _ _ _ _ => wpAny_pyIter_range hr hs ⟨_, _, rfl, q _ _ (W.push1 _ (by unfold RI; rw [hn]; simp) (Itr.range (prog := prog) (w := w) 0 a c n |>.safe 0) rfl)⟩
theorem small_up {a b : Int} (h1 : 0 ≤ a) (h2 : a ≤ 16384) (h3 : 0 ≤ b) (h4 : b ≤ 16384) : Builtin.Range.small a b 1 = true := small_one (by first | decide | (first | exact Mine.w76 h1 | omega)) (by first | decide | (first | exact Mine.w77 h2 | omega)) (by first | decide | (first | exact Mine.w76 h3 | omega)) (by first | decide | (first | exact Mine.w77 h4 | omega))
theorem size_up {b : Int} {n : Nat} (a : Nat) (h : b = (a + n : Nat)) : Builtin.Range.rangeSize a b 1 = n := by rw [rangeSize_one]; split <;> (first | exact Mine.w78 h | exact Mine.w79 h (by assumption) | omega)
theorem size_down {n : Nat} : Builtin.Range.rangeSize ((n : Int) - 1) (-1) (-1) = n := by
  unfold Builtin.Range.rangeSize
  rw [if_neg (by decide)]
  split
  · rw [show (-(-1) : Int) = 1 from rfl, Int.ediv_one]; (first | exact Mine.w80 | omega)
  · (first | exact Mine.w81 (by assumption) | omega)
theorem small_down {n : Nat} (h : n ≤ 16384) : Builtin.Range.small ((n : Int) - 1) (-1) (-1) = true := by
  unfold Builtin.Range.small; rw [size_down]
  simp only [Builtin.Range.rangeFitsLong, Bool.and_eq_true, Bool.or_eq_true, decide_eq_true_eq, beq_iff_eq, show ¬ ((-1 : Int) > 0) by decide, if_false]
  omega
-- strs
def SI (x : Str) (t : Tok) (i : Nat) (o : Obj) : Prop := o.cls = .type "str_ascii_iterator" ∧ o.data = .fields #[.str x t, .int i 0]
theorem Itr.str (I : Addr) (x : Str) (t : Tok) : Itr prog w I x.cps.size (SignAt x) (SI x t) (fun _ => True) where
  item := fun A i h _ hi ⟨o, e, c, d⟩ _ Q q => fun _ _ _ _ => by
    refine wpAny_pyNext_ascii_item (x := x) (t := t) ⟨o, e, c, d⟩ (c := x.cps[i]) (by simp [hi]) fun h' ⟨o', e', c', d'⟩ hs' => ?_
    exact ⟨_, _, rfl, q _ h' o' ⟨_, _, by simp [hi], rfl⟩ hs'.extBut e' ⟨c', d'⟩⟩
  done := fun A h hh ⟨o, e, c, d⟩ _ Q q => fun _ _ _ _ => wpAny_pyNext_ascii_end (x := x) (t := t) hh ⟨o, e, c, d⟩ (by simp) fun h' he' => ⟨_, _, rfl, q h' he'⟩
  self := fun A h ⟨o, e, c, d⟩ Q q => fun _ _ _ _ => wpAny_pyIter_striter_ascii ⟨o, e, c, d⟩ ⟨_, _, rfl, q⟩
  safe := fun i o ⟨c, d⟩ vs e => by rw [d] at e; cases e; exact ⟨by rw [c]; nofun, fun t => ⟨by simp, by simp⟩⟩
theorem pi_str {x : Str} (W : Wd w h₀ (f :: rs) h) (ha : x.cps.all (· < 128) = true) (q : ∀ I h', Wd w h₀ (f :: (I, SI x t 0) :: rs) h' → R (.ref I) h') : T prog w A (pyIter (.str x t)) R h :=
  fun _ _ _ _ => wpAny_pyIter_ascii ha ⟨_, _, rfl, q _ _ (W.push1 _ ⟨rfl, rfl⟩ (fun o ⟨c, d⟩ vs e => by rw [d] at e; cases e; exact ⟨by rw [c]; nofun, fun t => ⟨by simp, by simp⟩⟩) rfl)⟩
-- dicts
section
variable {K : Type} [DecidableEq K] {knd : KeyKind prog w K} {kvs : List (K × Value)} {k : K} {key val : Value} {d : Addr}
def Dct (knd : KeyKind prog w K) (kvs : List (K × Value)) (o : Obj) : Prop := ∃ es ep, o.ExactDict ∧ o.data = .dict es ep ∧ KeysOf knd es ∧ Pairs knd es.toList kvs ∧ (kvs.map (·.1)).Nodup
theorem Dct.safe {o : Obj} (x : Dct knd kvs o) : safe o := fun vs e => by obtain ⟨_, _, _, d, _⟩ := x; rw [d] at e; cases e
theorem Wd.dct (i : Nat) (W : Wd w h₀ rs h) (hi : rs[i]? = some (d, Dct knd kvs)) : h.DictOf knd d kvs := by
  obtain ⟨o, e, es, ep, r⟩ := W.get hi; exact ⟨o, es, ep, e, r⟩
theorem DictOf_sub {h h' : Heap} (x : h.DictOf knd d kvs) (s : Sub h h') : h'.DictOf knd d kvs := let ⟨o, es, ep, e, r⟩ := x; ⟨o, es, ep, s _ _ e, r⟩
def KIt (d : Addr) (n ep i : Nat) (o : Obj) : Prop := o.cls = .type "dict_keyiterator" ∧ o.data = .fields #[.ref d, .int i 0, .int n 0, .int ep 0]
theorem Itr.keys (I : Addr) (ep : Nat) : Itr prog w I kvs.length (fun i v => ∃ k x, kvs[i]? = some (k, x) ∧ knd.is k v = true) (KIt d kvs.length ep) (fun h => h.DictAt knd d kvs ep) where
  item := fun A i h _ hi ⟨o, e, c, dd⟩ hl Q q => fun _ _ _ _ => by
    obtain ⟨⟨k, x⟩, hx⟩ : ∃ p, kvs[i]? = some p := ⟨kvs[i], by simp [hi]⟩
    refine wpAny_pyNext_dict_item (d := d) ⟨o, e, c, dd⟩ hl hx fun key h' hkey ⟨o', e', c', d'⟩ hs' => ?_
    exact ⟨_, _, rfl, q key h' o' ⟨k, x, hx, hkey⟩ hs'.extBut e' ⟨c', d'⟩⟩
  done := fun A h hh ⟨o, e, c, dd⟩ hl Q q => fun _ _ _ _ => wpAny_pyNext_dict_end (d := d) hh ⟨o, e, c, dd⟩ hl (by simp) fun h' he' => ⟨_, _, rfl, q h' he'⟩
  self := fun A h ⟨o, e, c, dd⟩ Q q => fun _ _ _ _ => wpAny_pyIter_keyiter (d := d) ⟨o, e, c, dd⟩ ⟨_, _, rfl, q⟩
  safe := fun i o ⟨c, dd⟩ vs e => by rw [dd] at e; cases e; exact ⟨by rw [c]; nofun, fun t => ⟨by simp, by simp⟩⟩
theorem nsm {d : Addr} (hd : okA d) : (d == sysModules) = false := by
  rw [beq_eq_false_iff_ne]
  rcases hd with rfl | x
  · decide
  · exact Nat.ne_of_gt (Nat.lt_of_lt_of_le (by decide) x)
theorem pi_keys {ep : Nat} (W : Wd w h₀ (f :: rs) h) (hd : okA d) (hm : h.DictAt knd d kvs ep) (q : ∀ I h', Wd w h₀ (f :: (I, KIt d kvs.length ep 0) :: rs) h' → R (.ref I) h') : T prog w A (pyIter (.ref d)) R h :=
  fun _ _ _ _ => wpAny_pyIter_dict (nsm hd) hm ⟨_, _, rfl, q _ _ (W.push1 _ ⟨rfl, rfl⟩ (Itr.keys (prog := prog) (w := w) (knd := knd) (kvs := kvs) (d := d) 0 ep |>.safe 0) rfl)⟩
theorem c_indict {R : Value → Heap → Prop} (hd : okA d) (hm : h.DictOf knd d kvs) (hk : knd.is k key = true) (q : R (.bool (valueAt kvs k).isSome) h) : T prog w A (compareOp .In key (.ref d)) R h :=
  fun _ _ _ _ => wpAny_in_of hk (nsm hd) hm.mapOf ⟨_, _, rfl, q⟩
theorem c_nindict (hd : okA d) (hm : h.DictOf knd d kvs) (hk : knd.is k key = true) (q : R (.bool (!(valueAt kvs k).isSome)) h) : T prog w A (compareOp .NotIn key (.ref d)) R h :=
  fun _ _ _ _ => wpAny_notIn_of hk (nsm hd) hm.mapOf ⟨_, _, rfl, q⟩
theorem i_dict {value slice : Expr} (hm : h.DictOf knd d kvs) (hk : knd.is k key = true) (hv : valueAt kvs k = some val) (q : R val h)
    (hs : subscripted slice false (.ref d) key = operate [.ref d, key] (getItem (.ref d) key) := by with_unfolding_all rfl) : T prog w A (subscriptTail value slice (.ref d) key) R h :=
  fun _ _ _ _ => tail_any hm.typeIs slot_dict_getitem.lookup (wpAny_getItem_of hk hm.mapOf hv ⟨_, _, rfl, q⟩) hs
theorem s_dict {R : Unit → Heap → Prop} (i : Nat) (W : Wd w h₀ rs h) (hi : rs[i]? = some (d, Dct knd kvs)) (hk : knd.is k key = true) (hz : kvs.length ≤ 16384) (q : ∀ h', Wd w h₀ (rs.set i (d, Dct knd (stored kvs k val))) h' → R () h') : T prog w A (setItem (.ref d) key val) R h :=
  fun _ _ _ _ => wpAny_setItem_pairs hk (W.dct i hi) (fun h' hm' hs' => ⟨_, _, rfl, q h' (by
    obtain ⟨o, es, ep, e, r⟩ := hm'
    exact W.upd hi hs'.extBut e ⟨es, ep, r⟩ (fun _ => Dct.safe))⟩) (by rw [sizeLine_eq]; (first | exact Mine.w43 hz | omega))
theorem e_dict0 (knd : KeyKind prog w K) (W : Wd w h₀ (f :: rs) h) (q : ∀ d h', h.get? d = none → Wd w h₀ (f :: (d, Dct knd []) :: rs) h' → R (.ref d) h') : T prog w A (eval (.Dict [] [] pos) env) R h :=
  fun _ _ _ _ => wpAny_Dict_empty ⟨_, _, rfl, q _ _ (Wd.size_none h) (W.push1 _ (by
    obtain ⟨o, es, ep, e, r⟩ := Heap.DictOf.new (knd := knd) h
    rw [Heap.get?_push_size _ rfl] at e; cases e
    exact ⟨es, ep, r⟩) (fun _ => Dct.safe) rfl)⟩
end
theorem gm_dict {K : Type} [DecidableEq K] {knd : KeyKind prog w K} {kvs : List (K × Value)} {d : Addr} {pl : Sem Bool} {Q : Value × List Value → Heap → Prop} (hm : h.DictOf knd d kvs) (q : Q (.builtin "dict.get", [.ref d]) h) :
    T prog w A (getMethod (.ref d) (Str.ofString "get") pl) Q h :=
  fun _ _ _ _ => getMethod_builtin hm.typeIs PySem.F.plainAttrs_dict PySem.F.slot_dict_get PySem.F.type_dict_get hm.mapOf.noDict ⟨_, _, rfl, q⟩
theorem c_dget {K : Type} [DecidableEq K] {knd : KeyKind prog w K} {kvs : List (K × Value)} {d : Addr} {k : K} {key dflt : Value} (hd : (d == sysModules) = false) (hm : h.DictOf knd d kvs) (hk : knd.is k key = true) (q : R ((valueAt kvs k).getD dflt) h) :
    T prog w A (call (.builtin "dict.get") [.ref d, key, dflt]) R h :=
  fun _ _ _ _ => call_meetsIn PySem.F.slot_dict_get hm.typeIs PySem.F.entry_dict_get (PySem.F.args_dict_get_3 _ _ _) (meets_dict_get_default knd d hk hd dflt) ⟨_, hm.mapOf, ⟨_, _, rfl, q⟩⟩
end Mine
end

section
namespace Mine
open PySem PySem.W PyProof.Rows
variable {prog : Program} {w : World} {A : Around} {h h₀ : Heap} {R : Value → Heap → Prop}

def Tm.str (t : Tm) : Str := ⟨t.chars.toArray⟩
theorem Tm.str_len (t : Tm) : t.str.length = t.sz := by show (t.chars.toArray).size = _; simp [t.chars_len]
theorem Tm.str_app (f x : Tm) : (Tm.app f x).str = Str.ofString "\\" ++ f.str ++ x.str := by
  have : (Str.ofString "\\") = ⟨#[92]⟩ := by decide
  rw [this]
  show (⟨_⟩ : Str) = ⟨_⟩
  congr 1
  show _ = (#[92] ++ f.chars.toArray) ++ x.chars.toArray
  simp [Tm.chars]
/-- the term t stands at the value v -/
def TmAt (h : Heap) : Value → Tm → Prop
  | v, .leaf s => ∃ k, v = .str ⟨#[s.cp]⟩ k
  | v, .app f x => ∃ a va vb, v = .ref a ∧ IsTpl h a [va, vb] ∧ TmAt h va f ∧ TmAt h vb x
theorem TmAt.mono {h h' : Heap} (k : ∀ a vs, IsTpl h a vs → IsTpl h' a vs) : ∀ {t : Tm} {v : Value}, TmAt h v t → TmAt h' v t
  | .leaf _, _, x => x
  | .app f x, _, ⟨a, va, vb, e, ht, h1, h2⟩ => ⟨a, va, vb, e, k _ _ ht, h1.mono k, h2.mono k⟩
theorem TmAt.sub {h h' : Heap} (s : Sub h h') {t : Tm} {v : Value} (x : TmAt h v t) : TmAt h' v t := x.mono fun _ _ y => y.sub s
theorem TmAt.hb {h h' : Heap} (s : Hb h h') (tb : Tabs h) {t : Tm} {v : Value} (x : TmAt h v t) : TmAt h' v t := x.mono fun _ _ y => s.tpl tb y
theorem is_tup {a : Addr} {vs : List Value} (ht : IsTpl h a vs) (q : R (.bool true) h) : T prog w A (call (.builtin "isinstance") [.ref a, .type "tuple"]) R h := by
  obtain ⟨o, e, n, rfl⟩ := ht
  exact fun _ _ _ _ => IsiPair.tuple_tuple e rfl ⟨_, _, rfl, q⟩
theorem is_str {x : Str} {t : Tok} (q : R (.bool false) h) : T prog w A (call (.builtin "isinstance") [.str x t, .type "tuple"]) R h :=
  fun _ _ _ _ => IsiPair.str_tuple ⟨_, _, rfl, q⟩

theorem fo65 : fnOk (stA 65) 1 = true := by decide +kernel
theorem spelled_spec : ∀ (t : Tm) {A : Around} {h : Heap} {v : Value} {m : Nat} {R : Value → Heap → Prop} (ha : TmAt h v t) (hz : t.sz ≤ 1000) (g : Gd w h) (tb : Tabs h) (ok : Ok A (m + 1)) (hm : t.sz ≤ m)
    (q : ∀ h' k, Keeps h h' → Tabs h' → R (.str t.str k) h'), T prog w A (call (.ref 129) [v]) R h
  | .leaf s, A, h, v, m, R, ha, hz, g, tb, ok, hm, q => by
    obtain ⟨tk, rfl⟩ := ha
    refine call_fn 1 (g.fn ("_law_spelled", 129, 128, 65) (by decide)) g tb ok fo65 rfl (fun _ _ _ => rfl) ?_
    intro L env h₀ h₁ S _ hb' _ W ok'
    replace W : Wd w h₀ [(L, Loc (scopeOf (stA 65)).names [some (.str ⟨#[s.cp]⟩ tk), none, none, none])] h₁ := W
    refine x_if <| b_expr <| e_call <| n_bi 1 S W rfl (by decide) <| cw_bi <| a_cons <| n_loc 0 S W rfl rfl <| a_cons <| n_bi 2 S W rfl (by decide) <| a_nil <| is_str <| b_bool ?_
    refine x_nil_seq <| x_ret <| n_loc 0 S W rfl rfl ?_
    exact q h₁ tk (keeps_of hb' W.keep) W.tb
  | .app f x, A, h, v, m, R, ha, hz, g, tb, ok, hm, q => by
    obtain ⟨a, va, vb, rfl, ht, h1, h2⟩ := ha
    simp only [Tm.sz] at hm hz
    have hxp := x.sz_pos
    have hfp := f.sz_pos
    refine call_fn 1 (g.fn ("_law_spelled", 129, 128, 65) (by decide)) g tb ok fo65 rfl (fun _ _ _ => rfl) ?_
    intro L env h₀ h₁ S _ hb' _ W ok'
    replace W : Wd w h₀ [(L, Loc (scopeOf (stA 65)).names [some (.ref a), none, none, none])] h₁ := W
    replace ht := (Hb.tpl hb' tb ht)
    replace h1 := (h1.hb hb' tb)
    replace h2 := (h2.hb hb' tb)
    refine x_if <| b_expr <| e_call <| n_bi 1 S W rfl (by decide) <| cw_bi <| a_cons <| n_loc 0 S W rfl rfl <| a_cons <| n_bi 2 S W rfl (by decide) <| a_nil <| is_tup (ht.sub W.keep) <| b_bool ?_
    obtain ⟨m, rfl⟩ : ∃ m', m = m' + 1 := ⟨m - 1, by (first | exact Mine.w346 hm | omega)⟩
    refine x_ret <| e_bin <| e_bin <| e_str fun _ => e_call <| n_fn 3 S W rfl (by decide : (Str.ofString "_law_spelled", 129, 128, 65) ∈ fnTab) <| cw_fn <| a_cons <| e_sub <| n_loc 0 S W rfl rfl <| e_int fun _ => i_tup (ht.sub W.keep) (by decide) rfl lz <| a_nil ⟨(W.G.fn ("_law_spelled", 129, 128, 65) (by decide)).isFn, ?_⟩
    refine spelled_spec f (h1.sub W.keep) (by first | decide | (first | exact Mine.w347 hz | omega)) W.G W.tb ok' (by first | decide | (first | exact Mine.w209 hm | omega)) fun h₂ k₂ kp tb₂ => ?_
    replace W := W.call kp tb₂
    refine o_strs (by rw [Tm.str_len, show (Str.ofString "\\").length = 1 from by decide]; (first | exact Mine.w348 hz | omega)) fun _ => ?_
    refine e_call <| n_fn 3 S W rfl (by decide : (Str.ofString "_law_spelled", 129, 128, 65) ∈ fnTab) <| cw_fn <| a_cons <| e_sub <| n_loc 0 S W rfl rfl <| e_int fun _ => i_tup (ht.sub W.keep) (by decide) rfl lz <| a_nil ⟨(W.G.fn ("_law_spelled", 129, 128, 65) (by decide)).isFn, ?_⟩
    refine spelled_spec x (h2.sub W.keep) (by first | decide | (first | exact Mine.w349 hz | omega)) W.G W.tb ok' (by first | decide | (first | exact Mine.w212 hm | omega)) fun h₃ k₃ kp tb₃ => ?_
    replace W := W.call kp tb₃
    refine o_strs ?_ fun k₄ => ?_
    · show (Str.ofString "\\" ++ f.str).cps.size + x.str.length ≤ _
      rw [Tm.str_len]
      have : (Str.ofString "\\" ++ f.str).cps.size = 1 + f.sz := by
        have : (Str.ofString "\\") = ⟨#[92]⟩ := by decide
        rw [this]; show (#[92] ++ f.chars.toArray).size = _; simp [f.chars_len]; (first | exact Mine.w350 | omega)
      rw [this]; (first | exact Mine.w351 hz | omega)
    show R (.str _ k₄) h₃
    rw [← Tm.str_app]
    exact q h₃ k₄ (keeps_of hb' W.keep) W.tb
end Mine
end

section
namespace Mine
open PySem PySem.W PyProof.Rows
variable {prog : Program} {w : World} {A : Around} {h h₀ : Heap} {env : Env} {R : Value → Heap → Prop} {pos : Pos} {f : Res} {rs : List Res} {t u : Tok}

theorem e_neg {e : Expr} (q : T prog w A (eval e env) (fun v h₁ => ∃ i t, v = .int i t ∧ ∀ k, R (.int (-i) k) h₁) h) : T prog w A (eval (.UnaryOp .USub e pos) env) R h :=
  fun g d k os => wpAny_UnaryOp (T_chain q fun v h₁ k₁ z => by
    obtain ⟨i, t, rfl, z⟩ := z
    exact PyProof.Rows.neg_int ⟨_, _, rfl, z _⟩)
theorem n_tok {L : Addr} {ns : List (Str × NameKind)} (i : Nat) (S : Sc env L ns) (W : Wd w h₀ rs h) (hi : ns[i]? = some (Str.ofString "EXACT_TOKEN_TYPES", .globalImplicit)) (q : R (.ref 99) h) : T prog w A (eval (.Name (Str.ofString "EXACT_TOKEN_TYPES") pos) env) R h := by
  obtain ⟨mg, mb, _, _, a1, _, _, _, _, _, a7, _⟩ := W.G.ns
  exact fun _ _ _ _ => Calls.Name_function_global S.kind (S.kindOf hi) (Calls.loadGlobal_global (S.glob.symm ▸ a1) a7 ⟨_, _, rfl, q⟩) (S.dbg hi).1
theorem n_cls {L : Addr} {ns : List (Str × NameKind)} (i : Nat) (S : Sc env L ns) (W : Wd w h₀ rs h) (hi : ns[i]? = some (Str.ofString "_netrclex", .globalImplicit)) (q : R (.ref 52) h) : T prog w A (eval (.Name (Str.ofString "_netrclex") pos) env) R h := by
  obtain ⟨mg, mb, _, _, a1, _, _, _, _, _, _, a8, _⟩ := W.G.ns
  exact fun _ _ _ _ => Calls.Name_function_global S.kind (S.kindOf hi) (Calls.loadGlobal_global (S.glob.symm ▸ a1) a8 ⟨_, _, rfl, q⟩) (S.dbg hi).1
/-- a cut in front of the rest of a block -/
theorem x_cut {body rest : List Stmt} {Q : Flow → Heap → Prop} (M : Heap → Prop) (a : T prog w A (execs body env) (fun f h' => f = .next ∧ M h') h) (b : ∀ h', M h' → T prog w A (execs rest env) Q h') :
    T prog w A (execs body env) (seqQ prog w A rest env Q) h :=
  T_mono a fun f h' ⟨e, m⟩ => by subst e; exact b h' m
-- equality of values
theorem eqat_ii (a b : Int) (t u : Tok) {s : Shared} : SeqAt.EqAt A s (.int a t) (.int b u) (a == b) := SeqAt.EqAt.int_int a t b u
theorem eqat_pair {p q : Addr} {a b a' b' : Int} {t u t' u' : Tok} {s : Shared} (hne : q ≠ p) (hq : IsTpl s.heap q [.int a' t', .int b' u']) (hp : IsTpl s.heap p [.int a t, .int b u]) (hu : A.units < cLine) :
    SeqAt.EqAt A s (.ref q) (.ref p) (a' == a && b' == b) := by
  have e : ((List.range (min 2 2)).all (fun j => if j = 0 then a' == a else b' == b) && (2 == 2)) = (a' == a && b' == b) := by
    simp [List.range_succ]
  refine SeqAt.EqAt.of_refs hne ?_
  have := SeqAt.RcAt.tuples (A := A) (s := s) (e := fun j => if j = 0 then a' == a else b' == b) hq.tup hp.tup hu (fun j h1 h2 => ?_)
  · rwa [show (List.toArray [Value.int a' t', Value.int b' u']).size = 2 from rfl, show (List.toArray [Value.int a t, Value.int b u]).size = 2 from rfl, e] at this
  · have : j = 0 ∨ j = 1 := by simp at h1; omega
    rcases this with rfl | rfl
    · exact SeqAt.EqAt.int_int _ _ _ _
    · exact SeqAt.EqAt.int_int _ _ _ _
theorem c_in3 {p q1 q2 q3 l : Addr} {a b a1 b1 a2 b2 a3 b3 : Int} {t u t1 u1 t2 u2 t3 u3 : Tok} (hp : IsTpl h p [.int a t, .int b u]) (h1 : IsTpl h q1 [.int a1 t1, .int b1 u1]) (h2 : IsTpl h q2 [.int a2 t2, .int b2 u2]) (h3 : IsTpl h q3 [.int a3 t3, .int b3 u3])
    (hl : IsLst h l [.ref q1, .ref q2, .ref q3]) (n1 : q1 ≠ p) (n2 : q2 ≠ p) (n3 : q3 ≠ p) (n12 : q2 ≠ q1) (n13 : q3 ≠ q1) (n23 : q3 ≠ q2) (hu : A.units + 1 < cLine)
    (q : R (.bool ((a1 == a && b1 == b) || (a2 == a && b2 == b) || (a3 == a && b3 == b))) h) : T prog w A (compareOp .In (.ref p) (.ref l)) R h := by
  intro g d k os
  refine SeqAt.in_listAt (fun y => match y with | .ref c => if c = q1 then (a1 == a && b1 == b) else if c = q2 then (a2 == a && b2 == b) else (a3 == a && b3 == b) | _ => false) hl.list (fun y hy => ?_) ⟨_, _, rfl, ?_⟩
  · have : y = .ref q1 ∨ y = .ref q2 ∨ y = .ref q3 := by simpa using hy
    rcases this with rfl | rfl | rfl
    · simp only [if_true]; exact eqat_pair n1 h1 hp hu
    · simp only [if_neg n12, if_true]; exact eqat_pair n2 h2 hp hu
    · simp only [if_neg n13, if_neg n23]; exact eqat_pair n3 h3 hp hu
  · have e : (List.toArray [Value.ref q1, Value.ref q2, Value.ref q3]).any (fun y => match y with | .ref c => if c = q1 then (a1 == a && b1 == b) else if c = q2 then (a2 == a && b2 == b) else (a3 == a && b3 == b) | _ => false) = ((a1 == a && b1 == b) || (a2 == a && b2 == b) || (a3 == a && b3 == b)) := by
      simp [n12, n13, n23, Bool.or_assoc]
    rw [e]; exact q
-- lists of ints
theorem Ints.get {vs : List Value} {ds : List Int} (x : Ints vs ds) {i : Nat} {d : Int} (e : ds[i]? = some d) : ∃ t, vs[i]? = some (.int d t) := x.2 i d e
theorem Ints.append {vs us : List Value} {ds es : List Int} (x : Ints vs ds) (y : Ints us es) : Ints (vs ++ us) (ds ++ es) := by
  refine ⟨by simp [x.1, y.1], fun i d hd => ?_⟩
  by_cases hi : i < ds.length
  · rw [List.getElem?_append_left hi] at hd
    rw [List.getElem?_append_left (by rw [x.1]; exact hi)]; exact x.2 i d hd
  · rw [List.getElem?_append_right (by first | decide | (first | exact Mine.w12 hi | omega))] at hd
    rw [List.getElem?_append_right (by rw [x.1]; (first | exact Mine.w12 hi | omega)), x.1]; exact y.2 _ d hd
theorem Ints.nil : Ints [] [] := ⟨rfl, fun i d h => by simp at h⟩
theorem Ints.one {d : Int} {t : Tok} : Ints [.int d t] [d] := ⟨rfl, fun i e h => by
  cases i with
  | zero => simp at h; subst h; exact ⟨t, rfl⟩
  | succ i => simp at h⟩
theorem Ints.two {d e : Int} {t u : Tok} : Ints [.int d t, .int e u] [d, e] := Ints.one.append Ints.one
theorem Ints.drop {vs : List Value} {ds : List Int} (x : Ints vs ds) (k : Nat) : Ints (vs.drop k) (ds.drop k) :=
  ⟨by simp [x.1], fun i d hd => by rw [List.getElem?_drop] at hd ⊢; exact x.2 _ d hd⟩
theorem Ints.take {vs : List Value} {ds : List Int} (x : Ints vs ds) (k : Nat) : Ints (vs.take k) (ds.take k) := by
  refine ⟨by simp [x.1], fun i d hd => ?_⟩
  rw [List.getElem?_take] at hd ⊢
  split at hd
  · rename_i q; rw [if_pos q]; exact x.2 i d hd
  · cases hd
theorem o_iadd {a b : Int} (q : ∀ k, R (.int (a + b) k) h) : T prog w A (inplaceOp .Add (.int a t) (.int b u)) R h := fun _ _ _ _ => PyProof.Rows.iadd_int ⟨_, _, rfl, q _⟩
theorem o_isub {a b : Int} (q : ∀ k, R (.int (a - b) k) h) : T prog w A (inplaceOp .Sub (.int a t) (.int b u)) R h := fun _ _ _ _ => PyProof.Rows.isub_int ⟨_, _, rfl, q _⟩
theorem Wd.ne {a b : Addr} {P P' : Obj → Prop} (W : Wd w h₀ rs h) (i j : Nat) (hi : rs[i]? = some (a, P)) (hj : rs[j]? = some (b, P')) (hij : i ≠ j := by decide) : a ≠ b := by
  rintro rfl
  have h1 : (rs.map (·.1))[i]? = some a := by rw [List.getElem?_map, hi]; rfl
  have h2 : (rs.map (·.1))[j]? = some a := by rw [List.getElem?_map, hj]; rfl
  exact hij ((List.getElem?_inj (by simpa using (List.getElem?_eq_some_iff.mp hi).1) W.nd).mp (h1.trans h2.symm))
theorem nin_aux : ∀ (l : List Addr) (i : Nat) (a : Addr), l.Nodup → l[i]? = some a → a ∉ l.eraseIdx i
  | [], _, _, _, h => nomatch h
  | x :: l, 0, a, n, h => by cases h; exact (List.nodup_cons.mp n).1
  | x :: l, i + 1, a, n, h => fun m => by
    obtain ⟨n1, n2⟩ := List.nodup_cons.mp n
    rcases List.mem_cons.mp m with rfl | m
    · exact n1 (List.mem_of_getElem? h)
    · exact nin_aux l i a n2 h m
/-- an owned object is laid into the base, and what else stands outside rs' -/
inductive Frz (w : World) (h₀ : Heap) (rs' : List Res) (a : Addr) (P : Obj → Prop) (h : Heap) : Prop
  | mk (h₁ : Heap) (s : Sub h₀ h₁) (s' : Sub h₁ h) (o : Obj) (e : h₁.get? a = some o) (p : P o) (W : Wd w h₁ rs' h)
theorem eraseIdx_map {α β : Type} (f : α → β) : ∀ (l : List α) (i : Nat), (l.eraseIdx i).map f = (l.map f).eraseIdx i
  | [], _ => rfl
  | _ :: _, 0 => rfl
  | x :: l, i + 1 => congrArg (f x :: ·) (eraseIdx_map f l i)
theorem Wd.freeze1 {rs' : List Res} {a : Addr} {P : Obj → Prop} {i : Nat} (W : Wd w h₀ rs h) (hi : rs[i]? = some (a, P)) (s : rs'.Sublist (rs.eraseIdx i)) : Frz w h₀ rs' a P h := by
  have n : a ∉ rs'.map (·.1) := fun m => by
    have m' := (s.map _).subset m
    rw [eraseIdx_map] at m'
    exact nin_aux _ i a W.nd (by rw [List.getElem?_map, hi]; rfl) m'
  have ok : okA a := W.lo _ (List.mem_of_getElem? hi)
  obtain ⟨o, e, p⟩ := W.get hi
  obtain ⟨h₁, s1, s2, gt, W'⟩ := W.freeze (s.trans (List.eraseIdx_sublist ..))
  exact ⟨h₁, s1, s2, o, gt _ _ e ok.ne.1 ok.ne.2 n, p, W'⟩
-- numbers out of digits of nine bits
def nval : List Nat → Nat
  | [] => 0
  | d :: ds => d + 512 * nval ds
theorem dval_nval : ∀ ds : List Nat, dval 9 (ds.map Int.ofNat) = (nval ds : Int)
  | [] => rfl
  | d :: ds => by
    simp only [List.map_cons, dval, nval, dval_nval ds]
    push_cast; rfl
theorem nval_lt : ∀ {ds : List Nat}, (∀ c ∈ ds, c < 512) → nval ds < 512 ^ ds.length
  | [], _ => by simp [nval]
  | d :: ds, hd => by
    have h1 := hd d (.head _)
    have h2 := nval_lt fun c hc => hd c (.tail _ hc)
    simp only [nval, List.length_cons, Nat.pow_succ]; (first | exact Mine.w357 h1 h2 | omega)
theorem nval_div : ∀ {ds : List Nat} (k : Nat), (∀ c ∈ ds, c < 512) → nval ds / 512 ^ k = nval (ds.drop k)
  | ds, 0, _ => by simp
  | [], k + 1, _ => by simp [nval]
  | d :: ds, k + 1, hd => by
    have h1 := hd d (.head _)
    rw [Nat.pow_succ, Nat.mul_comm, ← Nat.div_div_eq_div_mul, List.drop_succ_cons, ← nval_div k fun c hc => hd c (.tail _ hc)]
    congr 1
    simp only [nval]; omega
end Mine
end

section
namespace Mine
open PySem PySem.W PyProof.Rows
variable {prog : Program} {w : World} {A : Around} {h h₀ : Heap} {env : Env} {R : Value → Heap → Prop} {Q : Flow → Heap → Prop}

def cI (t : Tm) : List Int := t.codes.map Int.ofNat
def enc (t : Tm) : Int := dval 9 (cI t)
theorem cI_len (t : Tm) : (cI t).length = t.sz := by simp [cI, t.codes_len]
theorem cI_get {t : Tm} {i c : Nat} (h : t.codes[i]? = some c) : (cI t)[i]? = some (c : Int) := by simp [cI, h]
theorem cI_small (t : Tm) : Small 9 (cI t) := fun d hd => by
  obtain ⟨c, hc, rfl⟩ := List.mem_map.mp hd
  have := t.code_ok c hc
  refine ⟨Int.natCast_nonneg _, ?_⟩
  show (c : Int) < 512; (first | exact Mine.w358 this | omega)
def names67 := (scopeOf (stA 67)).names
theorem lof {n : Nat} {vs : List Value} {ds : List Int} (x : Ints vs ds) (hz : ds.length ≤ n) : vs.length ≤ n := by rw [x.1]; exact hz


def EndsAre (t : Tm) (ev : List Value) : Prop := ev.length = t.sz ∧ ∀ j, j < t.sz → ∃ tk, ev[j]? = some (.int ((j + (t.sub j).sz : Nat) : Int) tk)

inductive NtA (h₀ : Heap) (t : Tm) (Row Ends Told : Addr) (tw tn : Tok) (i : Nat) (h₀' : Heap) (vals : List (Option Value)) (rs : List Res) : Prop
  | mk (p0 : Sub h₀ h₀') (x4 : Option Value) (x6 : Option Value) (x7 : Option Value) (x8 : Option Value) (x9 : Option Value) (x10 : Option Value) (tv : List Value) (e0 : vals = [some (.str t.str tw), some (.ref Row), some (.int (enc t) tn), some (.ref Ends), x4, some (.ref Told), x6, x7, x8, x9, x10, none, none, none, none, none, none]) (e1 : rs = [(Told, LstO tv)]) (e2 : Ints tv (((List.range i).filterMap t.stepAt).map enc))
inductive NtB (h₁ : Heap) (x7 x8 x9 x10 : Option Value) (w : World) (t u : Tm) (i : Nat) (L Row Ends Told I : Addr) (rv tv : List Value) (tw tn tk : Tok) (n : Nat) (h' : Heap) : Prop
  | mk  (j : Nat) (tj : Tok) (e0 : n = u.args.length - j) (e1 : j ≤ u.args.length) (e2 : Wd w h₁ [(L, Loc names67 [some (.str t.str tw), some (.ref Row), some (.int (enc t) tn), some (.ref Ends), some (.int (i : Nat) tk), some (.ref Told), some (.int ((i + j : Nat) : Int) tj), x7, x8, x9, x10, none, none, none, none, none, none]), (I, RI 0 1 rv.length (i + 1)), (Told, LstO tv)] h')
inductive NtC (h₁ : Heap) (j : Nat) (tj : Tok) (Parts : Addr) (x9 x10 : Option Value) (w : World) (t u : Tm) (i : Nat) (L Row Ends Told I : Addr) (rv tv : List Value) (tw tn tk : Tok) (n : Nat) (h' : Heap) : Prop
  | mk  (d : Nat) (ps : List Addr) (h₂ : Heap) (ta : Tok) (e0 : n = j - d) (e1 : d ≤ j) (e2 : ps.length = d) (e3 : Sub h₁ h₂) (e4 : (∀ (i' : Nat) (p : Addr), ps[i']? = some p → ∃ lv x, u.args[i']? = some x ∧ IsLstO h₂ p lv ∧ Ints lv (cI x))) (e5 : Wd w h₂ [(L, Loc names67 [some (.str t.str tw), some (.ref Row), some (.int (enc t) tn), some (.ref Ends), some (.int (i : Nat) tk), some (.ref Told), some (.int ((i + j : Nat) : Int) tj), some (.ref Parts), some (.int ((i + j + 1 + Tm.asz (u.args.take d) : Nat) : Int) ta), x9, x10, none, none, none, none, none, none]), (Parts, LstO (ps.map Value.ref)), (I, RI 0 1 rv.length (i + 1)), (Told, LstO tv)] h')
inductive NtD (h₃ : Heap) (v : Tm) (d : Nat) (tj ta : Tok) (Parts : Addr) (x10 : Option Value) (w : World) (t u : Tm) (i : Nat) (L Row Ends Told I : Addr) (rv tv : List Value) (tw tn tk : Tok) (h' : Heap) : Prop
  | mk  (N : Addr) (nv : List Value) (h₄ : Heap) (e0 : Sub h₃ h₄) (e1 : IsLstO h₄ N nv) (e2 : Ints nv (cI v)) (e3 : Wd w h₄ [(L, Loc names67 [some (.str t.str tw), some (.ref Row), some (.int (enc t) tn), some (.ref Ends), some (.int (i : Nat) tk), some (.ref Told), some (.int ((i + d : Nat) : Int) tj), some (.ref Parts), some (.int ((i + u.sz : Nat) : Int) ta), some (.ref N), x10, none, none, none, none, none, none]), (I, RI 0 1 rv.length (i + 1)), (Told, LstO tv)] h')
theorem next_tail {t : Tm} {L : Addr} {m : Nat} {Row Ends : Addr} {rv ev : List Value} {tw tn : Tok} {kx : Option Value} (hz : t.sz ≤ 13) (S : Sc env L names67) (ok : Ok A m) (hm : 100 ≤ m)
    (hR : IsLstO h₀ Row rv) (hri : Ints rv (cI t)) (hE : IsLst h₀ Ends ev) (hev : EndsAre t ev)
    (W : Wd w h₀ [(L, Loc names67 [some (.str t.str tw), some (.ref Row), some (.int (enc t) tn), some (.ref Ends), kx, none, none, none, none, none, none, none, none, none, none, none, none])] h)
    (q : ∀ D h₁ h' tv vals, Sub h₀ h₁ → Wd w h₁ [(L, Loc names67 vals), (D, LstO tv)] h' → Ints tv (t.nexts.map enc) → Q (.ret (.ref D)) h') :
    T prog w A (execs ((bodyOf (stA 67)).drop 4) env) Q h := by
  have hrl : rv.length = t.sz := by rw [hri.1, cI_len]
  refine x_assign <| e_list <| a_nil <| new_list W lz fun Told h₂ _ W => s_loc 5 S W rfl rfl fun h₃ W => ?_
  refine x_for <| e_call <| n_bi 13 S W rfl (by decide) <| cw_ty <| a_cons <| e_call <| n_bi 12 S W rfl (by decide) <| cw_bi <| a_cons <| n_loc 1 S W rfl rfl <| a_nil <| c_len (hR.w.sub W.keep) (by first | decide | (first | exact Mine.w119 hz hrl | omega)) fun _ => a_nil <| c_range1 W fun r h₄ hr W => pi_range W hr (small_up (by decide) (by decide) (by first | decide | (first | exact Mine.w110 | omega)) (by first | decide | (first | exact Mine.w359 hz hrl | omega))) (size_up (n := rv.length) 0 (by first | decide | (first | exact Mine.w360 | omega))) fun I h₅ W => ?_
  refine c_for (P := fun i v => ∃ t, v = .int (0 + (i : Nat) * 1) t) 4 S rfl ok.1 (Itr.range I 0 1 rv.length)
    (NtA h₀ t Row Ends Told tw tn)
    (fun i h₀' vals rs (.mk _ x4 _ _ _ _ _ _ e ..) => ⟨x4, by rw [e]; rfl⟩) (fun i h₀' vals rs h _ _ => trivial) ?_ ?_
    ⟨fun _ _ e => e, kx, none, none, none, none, none, [], rfl, rfl, Ints.nil⟩ W
  · rintro i h₁ vals rs v h hi ⟨tk, rfl⟩ ⟨hsb, x4, x6, x7, x8, x9, x10, tv, rfl, rfl, hti⟩ W
    rw [show (0 : Int) + (i : Nat) * 1 = (i : Nat) by (first | exact Mine.w137 | omega)] at W
    replace W : Wd w h₁ [(L, Loc names67 [some (.str t.str tw), some (.ref Row), some (.int (enc t) tn), some (.ref Ends), some (.int (i : Nat) tk), some (.ref Told), x6, x7, x8, x9, x10, none, none, none, none, none, none]), (I, RI 0 1 rv.length (i + 1)), (Told, LstO tv)] h := W
    have hk : i < t.sz := by (first | exact Mine.w298 hrl hi | omega)
    replace hR := hR.sub hsb
    replace hE := hE.sub hsb
    generalize hu : t.sub i = u
    have husz : i + u.sz ≤ t.sz := hu ▸ t.sub_le i hk
    have hsp := u.sz_sp
    refine T_gen fun Q₁ q₁ => ?_
    refine x_assign <| n_loc 4 S W rfl rfl <| s_loc 6 S W rfl rfl fun h₂ W => ?_
    refine x_while (NtB h₁ x7 x8 x9 x10 w t u i L Row Ends Told I rv tv tw tn tk) ?_ u.args.length
      ⟨0, tk, rfl, Nat.zero_le _, W⟩
    rintro n h₃ ⟨j, tj, rfl, hj, W⟩
    refine T_gen fun R₁ r₁ => ?_
    obtain ⟨c, hc, hct⟩ : ∃ c : Nat, t.codes[i + j]? = some c ∧ ((c ≥ 256) ↔ j < u.args.length) := by
      by_cases hju : j < u.args.length
      · exact ⟨256, Tm.codes_ap hk (hu.symm ▸ hju), by simp [hju]⟩
      · have : j = u.args.length := by (first | exact Mine.w22 hj hju | omega)
        subst this
        refine ⟨u.hd.code, by have := Tm.codes_hd hk; rw [hu] at this; exact this, ?_⟩
        have := u.hd.code_lt
        constructor <;> (first | exact Mine.w361 this | exact Mine.w362 | omega)
    obtain ⟨tc, hrc⟩ := hri.get (cI_get hc)
    refine b_expr <| e_call <| n_fn 15 S W rfl (by decide : (Str.ofString "ISNONTERMINAL", 115, 114, 62) ∈ fnTab) <| cw_fn <| a_cons <| e_sub <| n_loc 1 S W rfl rfl <| n_loc 6 S W rfl rfl <| i_list (hR.w.sub W.keep) (Int.natCast_nonneg _) hrc (by first | decide | (first | exact Mine.w119 hz hrl | omega)) <| a_nil ⟨(W.G.fn ("ISNONTERMINAL", 115, 114, 62) (by decide)).isFn, ?_⟩
    refine isnont_spec (n := 5) W.G W.tb (ok.le (by first | decide | (first | exact Mine.w363 hm | omega))) fun h₄ kp tb₄ => b_bool <| r₁ _ _ ?_
    replace W := W.call kp tb₄
    by_cases hju : j < u.args.length
    · rw [show decide ((c : Int) ≥ 256) = true by simp; have := hct.mpr hju; (first | exact Mine.w364 this | omega)]
      clear r₁ R₁
      refine T_gen fun Q₂ q₂ => ?_
      refine x_aug <| l_loc 6 S W rfl rfl <| e_int fun _ => o_iadd fun tj' => s_loc 6 S W rfl rfl fun h₅ W => x_nil <| q₂ _ _ ⟨u.args.length - (j + 1), by (first | exact Mine.w20 hju | omega), j + 1, tj', rfl, by (first | exact Mine.w309 hju | omega), ?_⟩
      rw [show ((i + j : Nat) : Int) + 1 = ((i + (j + 1) : Nat) : Int) by (first | exact Mine.w365 | omega)] at W
      exact W
    · rw [show decide ((c : Int) ≥ 256) = false by simp; have := mt hct.mp hju; (first | exact Mine.w366 this | omega)]
      have hja : j = u.args.length := by (first | exact Mine.w22 hj hju | omega)
      clear r₁ R₁
      clear hct
      have hcu : c = u.hd.code := by
        have := Tm.codes_hd hk
        rw [hu, ← hja, hc] at this; exact Option.some.inj this
      subst hcu
      generalize ha : u.args.length = a at *
      subst hja
      refine x_if <| b_cmp <| e_tuple <| a_cons <| e_sub <| n_loc 1 S W rfl rfl <| n_loc 6 S W rfl rfl <| i_list (hR.w.sub W.keep) (Int.natCast_nonneg _) hrc (by first | decide | (first | exact Mine.w119 hz hrl | omega)) <| a_cons <| e_bin <| n_loc 6 S W rfl rfl <| n_loc 4 S W rfl rfl <| o_sub fun _ => a_nil <| new_tuple W lz fun p h₅ hp W => ?_
      refine e_list <| a_cons <| e_tuple <| a_cons <| e_int fun _ => a_cons <| e_int fun _ => a_nil <| new_tuple W lz fun q1 h₆ _ W => ?_
      refine a_cons <| e_tuple <| a_cons <| e_int fun _ => a_cons <| e_int fun _ => a_nil <| new_tuple W lz fun q2 h₇ _ W => ?_
      refine a_cons <| e_tuple <| a_cons <| e_int fun _ => a_cons <| e_int fun _ => a_nil <| new_tuple W lz fun q3 h₈ _ W => ?_
      refine a_nil <| new_list W lz fun l h₉ _ W => ?_
      refine c_in3 (W.tpl 5 rfl) (W.tpl 4 rfl) (W.tpl 3 rfl) (W.tpl 2 rfl) (W.lst 1 rfl) (W.ne 4 5 rfl rfl) (W.ne 3 5 rfl rfl) (W.ne 2 5 rfl rfl) (W.ne 3 4 rfl rfl) (W.ne 2 4 rfl rfl) (W.ne 2 3 rfl rfl) (by have := ok.2.2; show A.units + 1 < 9900; (first | exact Mine.w221 this | omega)) <| b_bool ?_
      rw [show ((i + j : Nat) : Int) - (i : Nat) = (j : Nat) by (first | exact Mine.w367 | omega)]
      replace W := W.sub (.cons_cons _ (.cons _ (.cons _ (.cons _ (.cons _ (.cons _ (.refl _)))))))
      cases hroot : u.root with
      | none =>
        have hcond : (((24 : Int) == (u.hd.code : Nat) && (2 : Int) == (j : Nat)) || ((16 : Int) == (u.hd.code : Nat) && (3 : Int) == (j : Nat)) || ((31 : Int) == (u.hd.code : Nat) && (3 : Int) == (j : Nat))) = false := by
          rw [Bool.eq_false_iff]
          intro hb
          simp only [Bool.or_eq_true, Bool.and_eq_true, beq_iff_eq] at hb
          rcases hb with (⟨b1, b2⟩ | ⟨b1, b2⟩) | ⟨b1, b2⟩
          · have e1 : u.hd = .pct := Lf.code_inj (show u.hd.code = 24 by (first | exact Mine.w368 b1 | omega))
            obtain ⟨_, _, _, e⟩ := Tm.root_pct e1 (by first | decide | (first | exact Mine.w369 ha b2 | omega))
            rw [e] at hroot; cases hroot
          · have e1 : u.hd = .star := Lf.code_inj (show u.hd.code = 16 by (first | exact Mine.w370 b1 | omega))
            obtain ⟨_, _, _, _, e⟩ := Tm.root_star e1 (by first | decide | (first | exact Mine.w371 ha b2 | omega))
            rw [e] at hroot; cases hroot
          · have e1 : u.hd = .tilde := Lf.code_inj (show u.hd.code = 31 by (first | exact Mine.w372 b1 | omega))
            obtain ⟨_, _, _, _, e⟩ := Tm.root_tilde e1 (by first | decide | (first | exact Mine.w371 ha b2 | omega))
            rw [e] at hroot; cases hroot
        rw [hcond]
        refine x_nil_seq <| x_nil <| q₁ _ _ ⟨h₁, _, _, ⟨hsb, _, _, _, _, _, _, tv, rfl, rfl, ?_⟩, W⟩
        rw [List.range_succ, List.filterMap_append]
        have : t.stepAt i = none := by unfold Tm.stepAt; rw [hu, hroot]; rfl
        simp [this]; simpa using hti
      | some v =>
        have hcases := Tm.root_some hroot
        have hcond : (((24 : Int) == (u.hd.code : Nat) && (2 : Int) == (j : Nat)) || ((16 : Int) == (u.hd.code : Nat) && (3 : Int) == (j : Nat)) || ((31 : Int) == (u.hd.code : Nat) && (3 : Int) == (j : Nat))) = true := by
          simp only [Bool.or_eq_true, Bool.and_eq_true, beq_iff_eq]
          rcases hcases with ⟨b1, b2⟩ | ⟨b1, b2⟩ | ⟨b1, b2⟩
          · exact .inl (.inl ⟨by rw [b1]; rfl, by (first | exact Mine.w373 ha b2 | omega)⟩)
          · exact .inl (.inr ⟨by rw [b1]; rfl, by (first | exact Mine.w374 ha b2 | omega)⟩)
          · exact .inr ⟨by rw [b1]; rfl, by (first | exact Mine.w374 ha b2 | omega)⟩
        rw [hcond]
        refine x_assign <| e_list <| a_nil <| new_list W lz fun Parts h₁₀ _ W => s_loc 7 S W rfl rfl fun h₁₁ W => ?_
        refine x_assign <| e_bin <| n_loc 6 S W rfl rfl <| e_int fun _ => o_add fun ta => s_loc 8 S W rfl rfl fun h₁₂ W => ?_
        rw [show ((i + j : Nat) : Int) + 1 = ((i + j + 1 + Tm.asz (u.args.take 0) : Nat) : Int) by simp [Tm.asz]] at W
        have h00 : ∀ (i' : Nat) (p : Addr), ([] : List Addr)[i']? = some p → ∃ lv x, u.args[i']? = some x ∧ IsLstO h₁ p lv ∧ Ints lv (cI x) := fun i' p e => by simp at e
        refine x_while (NtC h₁ j tj Parts x9 x10 w t u i L Row Ends Told I rv tv tw tn tk) ?_ j
          ⟨0, [], h₁, ta, rfl, Nat.zero_le _, rfl, (fun _ _ e => e), h00, W⟩
        rintro n h₁₃ ⟨d, ps, h₂, ta, rfl, hd, hpl, hsb2, hps, W⟩
        refine T_gen fun R₂ r₂ => ?_
        refine b_cmp <| e_call <| n_bi 12 S W rfl (by decide) <| cw_bi <| a_cons <| n_loc 7 S W rfl rfl <| a_nil <| c_len (W.lst 1 rfl) (by rw [List.length_map]; (first | exact Mine.w375 hz husz hsp hd hpl | omega)) fun _ => e_bin <| n_loc 6 S W rfl rfl <| n_loc 4 S W rfl rfl <| o_sub fun _ => c_lt <| b_bool <| r₂ _ _ ?_
        clear r₂ R₂
        rw [List.length_map, hpl, show ((i + j : Nat) : Int) - (i : Nat) = (j : Nat) by (first | exact Mine.w367 | omega)]
        by_cases hdj : d < j
        · rw [show decide ((d : Int) < (j : Nat)) = true by simp; (first | exact Mine.w376 hdj | omega)]
          have hda : d < u.args.length := by (first | exact Mine.w316 ha hdj | omega)
          obtain ⟨s1, s2⟩ := Tm.sub_arg u d hda
          rw [ha] at s1 s2
          generalize hx : u.args[d] = x at s2
          have s3 : t.sub (i + j + 1 + Tm.asz (u.args.take d)) = x := by
            rw [show i + j + 1 + Tm.asz (u.args.take d) = i + (j + 1 + Tm.asz (u.args.take d)) by (first | exact Mine.w377 | omega), Tm.sub_sub t i _ hk (hu.symm ▸ s1), hu, s2]
          have s4 : i + j + 1 + Tm.asz (u.args.take d) < t.sz := by (first | exact Mine.w378 husz s1 | omega)
          have s6 : Tm.asz (u.args.take (d + 1)) = Tm.asz (u.args.take d) + x.sz := by
            rw [List.take_add_one, List.getElem?_eq_getElem hda, hx]; simp [Tm.asz]
          obtain ⟨te, he⟩ := hev.2 _ s4
          rw [s3] at he
          have s5 := t.sub_le _ s4
          rw [s3] at s5
          have s7 := t.drop_codes _ s4
          rw [s3] at s7
          generalize hpos : i + j + 1 + Tm.asz (u.args.take d) = pos at *
          refine T_gen fun Q₃ q₃ => ?_
          refine x_expr S <| e_meth _ rfl <| n_loc 7 S W rfl rfl <| gm_list (W.lstO 1 rfl) PySem.F.slot_list_append PySem.F.type_list_append <| cw_bi <| a_cons <| e_slice_list W <| n_loc 1 S W rfl rfl <| p_some <| n_loc 8 S W rfl rfl <| p_some <| e_sub <| n_loc 3 S W rfl rfl <| n_loc 8 S W rfl rfl <| i_list ((hE.sub hsb2).sub W.keep) (Int.natCast_nonneg _) he (by have := hev.1; (first | exact Mine.w119 hz this | omega)) ?_
          refine ⟨Row, rv, _, _, rfl, (hR.w.sub hsb2).sub W.keep, by (first | exact Mine.w119 hz hrl | omega), .int _ _, .int _ _, W, fun c h₁₄ hc W => ?_⟩
          rw [slicePick_run rv.toArray pos (pos + x.sz) (by simpa [hrl] using s5) (by first | decide | (first | exact Mine.w379 | omega))] at W
          refine a_nil <| c_append 2 W rfl (by rw [List.length_map]; (first | exact Mine.w380 hz hpl hdj hpos s4 | omega)) fun h₁₅ W => ?_
          refine x_assign <| e_sub <| n_loc 3 S W rfl rfl <| n_loc 8 S W rfl rfl <| i_list ((hE.sub hsb2).sub W.keep) (Int.natCast_nonneg _) he (by have := hev.1; (first | exact Mine.w119 hz this | omega)) <| s_loc 8 S W rfl rfl fun h₁₆ W => x_nil ?_
          obtain ⟨h₃, sb3, _, oc, ec, pc, W⟩ := W.freeze1 (i := 1) (rs' := [_, _, _, _]) rfl (.cons_cons _ (.refl _))
          refine q₃ _ _ ⟨j - (d + 1), by (first | exact Mine.w20 hdj | omega), d + 1, ps ++ [c], h₃, te, rfl, by (first | exact Mine.w309 hdj | omega), by simp [hpl], hsb2.trans sb3, ?_, ?_⟩
          · intro i' p' hp'
            by_cases hi' : i' < ps.length
            · rw [List.getElem?_append_left hi'] at hp'
              obtain ⟨lv, y, e1, e2, e3⟩ := hps i' p' hp'
              exact ⟨lv, y, e1, e2.sub sb3, e3⟩
            · rw [List.getElem?_append_right (by first | decide | (first | exact Mine.w12 hi' | omega))] at hp'
              have : i' = ps.length := by
                cases hz' : i' - ps.length with
                | zero => (first | exact Mine.w13 hi' hz' | omega)
                | succ z => rw [hz'] at hp'; simp at hp'
              subst this
              simp at hp'; subst hp'
              refine ⟨_, x, by rw [hpl, List.getElem?_eq_getElem hda, hx], ⟨oc, ec, pc⟩, ?_⟩
              rw [show pos + x.sz - pos = x.sz by (first | exact Mine.w186 | omega)]
              have hIx := (hri.drop pos).take x.sz
              have : ((cI t).drop pos).take x.sz = cI x := by
                unfold cI
                rw [← List.map_drop, s7, ← List.map_take, ← x.codes_len, List.take_left]
              rw [this] at hIx
              simpa using hIx
          · rw [show ps.map Value.ref ++ [Value.ref c] = (ps ++ [c]).map Value.ref by simp] at W
            rw [show i + j + 1 + Tm.asz (u.args.take (d + 1)) = pos + x.sz by (first | exact Mine.w381 s6 hpos | omega)]
            exact W
        · rw [show decide ((d : Int) < (j : Nat)) = false by simp; (first | exact Mine.w12 hdj | omega)]
          have hdj' : d = j := by (first | exact Mine.w22 hd hdj | omega)
          subst hdj'
          rw [show i + d + 1 + Tm.asz (u.args.take d) = i + u.sz by rw [← ha, List.take_length]; (first | exact Mine.w382 ha hsp | omega)] at W
          obtain ⟨h₃, sb3, _, oc, ec, pc, W⟩ := W.freeze1 (i := 1) (rs' := [_, _, _]) rfl (.cons_cons _ (.refl _))
          have hPl : IsLstO h₃ Parts (ps.map Value.ref) := ⟨oc, ec, pc⟩
          replace hps : ∀ i' p, ps[i']? = some p → ∃ lv x, u.args[i']? = some x ∧ IsLstO h₃ p lv ∧ Ints lv (cI x) := fun i' p e => by
            obtain ⟨lv, x, a1, a2, a3⟩ := hps i' p e; exact ⟨lv, x, a1, a2.sub sb3, a3⟩
          replace hsb2 := hsb2.trans sb3
          replace hR := hR.sub hsb2
          replace hE := hE.sub hsb2
          refine x_if <| b_cmp <| e_sub <| n_loc 1 S W rfl rfl <| n_loc 6 S W rfl rfl <| i_list (hR.w.sub W.keep) (Int.natCast_nonneg _) hrc (by first | decide | (first | exact Mine.w119 hz hrl | omega)) <| e_int fun _ => c_eq <| b_bool ?_
          refine x_cut (NtD h₃ v d tj ta Parts x10 w t u i L Row Ends Told I rv tv tw tn tk) ?_ ?_
          · refine T_gen fun Q₄ q₄ => ?_
            rcases hcases with ⟨b1, b2⟩ | ⟨b1, b2⟩ | ⟨b1, b2⟩
            · rw [show ((u.hd.code : Int) == 24) = true by rw [b1]; rfl]
              obtain ⟨x, y, e1, e2⟩ := Tm.root_pct b1 b2
              rw [e2] at hroot; cases hroot
              have hd2 : ps.length = 2 := by (first | exact Mine.w383 hpl ha b2 | omega)
              obtain ⟨lv, x', a1, a2, a3⟩ := hps 0 (ps[0]'(by first | decide | (first | exact Mine.w384 hpl ha b2 | omega))) (by simp)
              rw [e1] at a1; simp at a1; subst a1
              refine x_assign <| e_sub <| n_loc 7 S W rfl rfl <| e_int fun _ => i_list (v := .ref (ps[0]'(by first | decide | (first | exact Mine.w384 hpl ha b2 | omega)))) (hPl.w.sub W.keep) (by decide) (by simp <;> omega) (by simp <;> (first | exact Mine.w385 hpl ha b2 | omega)) <| s_loc 9 S W rfl rfl fun h₂₀ W => x_nil <| q₄ _ _ ⟨rfl, _, lv, h₃, fun _ _ e => e, a2, a3, W⟩
            · rw [show ((u.hd.code : Int) == 24) = false by rw [b1]; rfl]
              obtain ⟨x, y, z, e1, e2⟩ := Tm.root_star b1 b2
              rw [e2] at hroot; cases hroot
              have hd3 : ps.length = 3 := by (first | exact Mine.w386 hpl ha b2 | omega)
              obtain ⟨lv0, x0, a1, a2, a3⟩ := hps 0 (ps[0]'(by first | decide | (first | exact Mine.w387 hpl ha b2 | omega))) (by simp)
              obtain ⟨lv1, x1, b1', b2', b3⟩ := hps 1 (ps[1]'(by first | decide | (first | exact Mine.w388 hpl ha b2 | omega))) (by simp)
              obtain ⟨lv2, x2, c1, c2, c3⟩ := hps 2 (ps[2]'(by first | decide | (first | exact Mine.w389 hpl ha b2 | omega))) (by simp)
              rw [e1] at a1 b1' c1; simp at a1 b1' c1; subst a1 b1' c1
              have l0 := lof a3 (n := 13) (by rw [cI_len]; have := hsp; rw [e1] at this; simp [Tm.asz] at this; (first | exact Mine.w390 hz husz this | omega))
              have l1 := lof b3 (n := 13) (by rw [cI_len]; have := hsp; rw [e1] at this; simp [Tm.asz] at this; (first | exact Mine.w391 hz husz this | omega))
              have l2 := lof c3 (n := 13) (by rw [cI_len]; have := hsp; rw [e1] at this; simp [Tm.asz] at this; (first | exact Mine.w392 hz husz this | omega))
              refine x_if <| b_cmp <| e_sub <| n_loc 1 S W rfl rfl <| n_loc 6 S W rfl rfl <| i_list (hR.w.sub W.keep) (Int.natCast_nonneg _) hrc (by first | decide | (first | exact Mine.w119 hz hrl | omega)) <| e_int fun _ => c_eq <| b_bool ?_
              rw [show ((u.hd.code : Int) == 16) = true by rw [b1]; rfl]
              refine x_assign <| e_bin <| e_bin <| e_bin <| e_bin <| e_list <| a_cons <| e_int fun _ => a_nil <| new_list W lz fun N1 g1 _ W => ?_
              refine e_sub <| n_loc 7 S W rfl rfl <| e_int fun _ => i_list (v := .ref (ps[0]'(by first | decide | (first | exact Mine.w387 hpl ha b2 | omega)))) (hPl.w.sub W.keep) (by decide) (by simp <;> omega) (by simp <;> (first | exact Mine.w393 hpl ha b2 | omega)) <| o_lists W (W.lstO 1 rfl) (a2.sub W.keep) (by simp; (first | exact Mine.w394 l0 | omega)) fun N2 g2 _ W => ?_
              refine e_list <| a_cons <| e_int fun _ => a_nil <| new_list W lz fun N3 g3 _ W => o_lists W (W.lstO 2 rfl) (W.lstO 1 rfl) (by simp; (first | exact Mine.w395 l0 | omega)) fun N4 g4 _ W => ?_
              refine e_sub <| n_loc 7 S W rfl rfl <| e_int fun _ => i_list (v := .ref (ps[1]'(by first | decide | (first | exact Mine.w388 hpl ha b2 | omega)))) (hPl.w.sub W.keep) (by decide) (by simp <;> omega) (by simp <;> (first | exact Mine.w393 hpl ha b2 | omega)) <| o_lists W (W.lstO 1 rfl) (b2'.sub W.keep) (by simp; (first | exact Mine.w396 l0 l1 | omega)) fun N5 g5 _ W => ?_
              refine e_sub <| n_loc 7 S W rfl rfl <| e_int fun _ => i_list (v := .ref (ps[2]'(by first | decide | (first | exact Mine.w389 hpl ha b2 | omega)))) (hPl.w.sub W.keep) (by decide) (by simp <;> omega) (by simp <;> (first | exact Mine.w393 hpl ha b2 | omega)) <| o_lists W (W.lstO 1 rfl) (c2.sub W.keep) (by simp; (first | exact Mine.w397 l0 l1 l2 | omega)) fun N6 g6 _ W => ?_
              refine s_loc 9 S W rfl rfl fun g7 W => x_nil_seq <| x_nil ?_
              obtain ⟨h₄, sb4, _, oN, eN, pN, W⟩ := W.freeze1 (i := 1) (rs' := [_, _, _]) rfl (.cons_cons _ (.cons _ (.cons _ (.cons _ (.cons _ (.cons _ (.refl _)))))))
              refine q₄ _ _ ⟨rfl, N6, _, h₄, sb4, ⟨oN, eN, pN⟩, ?_, W⟩
              have : cI (Tm.app x (Tm.app y z)) = ((([256] ++ cI x) ++ [256]) ++ cI y) ++ cI z := by simp [cI, Tm.codes]
              rw [this]
              exact (((Ints.one.append a3).append Ints.one).append b3).append c3
            · rw [show ((u.hd.code : Int) == 24) = false by rw [b1]; rfl]
              obtain ⟨x, y, z, e1, e2⟩ := Tm.root_tilde b1 b2
              rw [e2] at hroot; cases hroot
              have hd3 : ps.length = 3 := by (first | exact Mine.w386 hpl ha b2 | omega)
              obtain ⟨lv0, x0, a1, a2, a3⟩ := hps 0 (ps[0]'(by first | decide | (first | exact Mine.w387 hpl ha b2 | omega))) (by simp)
              obtain ⟨lv1, x1, b1', b2', b3⟩ := hps 1 (ps[1]'(by first | decide | (first | exact Mine.w388 hpl ha b2 | omega))) (by simp)
              obtain ⟨lv2, x2, c1, c2, c3⟩ := hps 2 (ps[2]'(by first | decide | (first | exact Mine.w389 hpl ha b2 | omega))) (by simp)
              rw [e1] at a1 b1' c1; simp at a1 b1' c1; subst a1 b1' c1
              have l0 := lof a3 (n := 13) (by rw [cI_len]; have := hsp; rw [e1] at this; simp [Tm.asz] at this; (first | exact Mine.w390 hz husz this | omega))
              have l1 := lof b3 (n := 13) (by rw [cI_len]; have := hsp; rw [e1] at this; simp [Tm.asz] at this; (first | exact Mine.w391 hz husz this | omega))
              have l2 := lof c3 (n := 13) (by rw [cI_len]; have := hsp; rw [e1] at this; simp [Tm.asz] at this; (first | exact Mine.w392 hz husz this | omega))
              refine x_if <| b_cmp <| e_sub <| n_loc 1 S W rfl rfl <| n_loc 6 S W rfl rfl <| i_list (hR.w.sub W.keep) (Int.natCast_nonneg _) hrc (by first | decide | (first | exact Mine.w119 hz hrl | omega)) <| e_int fun _ => c_eq <| b_bool ?_
              rw [show ((u.hd.code : Int) == 16) = false by rw [b1]; rfl]
              refine x_assign <| e_bin <| e_bin <| e_bin <| e_list <| a_cons <| e_int fun _ => a_cons <| e_int fun _ => a_nil <| new_list W lz fun N1 g1 _ W => ?_
              refine e_sub <| n_loc 7 S W rfl rfl <| e_int fun _ => i_list (v := .ref (ps[0]'(by first | decide | (first | exact Mine.w387 hpl ha b2 | omega)))) (hPl.w.sub W.keep) (by decide) (by simp <;> omega) (by simp <;> (first | exact Mine.w393 hpl ha b2 | omega)) <| o_lists W (W.lstO 1 rfl) (a2.sub W.keep) (by simp; (first | exact Mine.w398 l0 | omega)) fun N2 g2 _ W => ?_
              refine e_sub <| n_loc 7 S W rfl rfl <| e_int fun _ => i_list (v := .ref (ps[2]'(by first | decide | (first | exact Mine.w389 hpl ha b2 | omega)))) (hPl.w.sub W.keep) (by decide) (by simp <;> omega) (by simp <;> (first | exact Mine.w393 hpl ha b2 | omega)) <| o_lists W (W.lstO 1 rfl) (c2.sub W.keep) (by simp; (first | exact Mine.w396 l0 l2 | omega)) fun N5 g5 _ W => ?_
              refine e_sub <| n_loc 7 S W rfl rfl <| e_int fun _ => i_list (v := .ref (ps[1]'(by first | decide | (first | exact Mine.w388 hpl ha b2 | omega)))) (hPl.w.sub W.keep) (by decide) (by simp <;> omega) (by simp <;> (first | exact Mine.w393 hpl ha b2 | omega)) <| o_lists W (W.lstO 1 rfl) (b2'.sub W.keep) (by simp; (first | exact Mine.w399 l0 l1 l2 | omega)) fun N6 g6 _ W => ?_
              refine s_loc 9 S W rfl rfl fun g7 W => x_nil_seq <| x_nil ?_
              obtain ⟨h₄, sb4, _, oN, eN, pN, W⟩ := W.freeze1 (i := 1) (rs' := [_, _, _]) rfl (.cons_cons _ (.cons _ (.cons _ (.cons _ (.refl _)))))
              refine q₄ _ _ ⟨rfl, N6, _, h₄, sb4, ⟨oN, eN, pN⟩, ?_, W⟩
              have : cI (Tm.app (Tm.app x z) y) = (([256, 256] ++ cI x) ++ cI z) ++ cI y := by simp [cI, Tm.codes]
              rw [this]
              exact ((Ints.two.append a3).append c3).append b3
          · rintro h₂₁ ⟨N, nv, h₄, sb4, hN, hNi, W⟩
            replace hR := hR.sub sb4
            have hvsz : v.sz ≤ u.sz := Tm.root_sz hroot
            have hnl : nv.length = v.sz := by rw [hNi.1, cI_len]
            have hat : 0 < i + u.sz := by have := u.sz_pos; (first | exact Mine.w400 hsp | omega)
            have henc : enc t = ((nval t.codes : Nat) : Int) := dval_nval _
            have hcok : ∀ c ∈ t.codes, c < 512 := fun c hc => (t.code_ok c hc).2
            have hnb : bits (nval t.codes) ≤ 117 := by
              refine bits_le (Nat.lt_of_lt_of_le (nval_lt hcok) ?_)
              rw [t.codes_len, show (512 : Nat) = 2 ^ 9 from rfl, ← Nat.pow_mul]
              exact Nat.pow_le_pow_right (by decide) (by first | decide | (first | exact Mine.w71 hz | omega))
            have hpb : bits (512 ^ (i + u.sz)) ≤ 118 := by
              refine bits_le ?_
              rw [show (512 : Nat) = 2 ^ 9 from rfl, ← Nat.pow_mul]
              exact Nat.pow_lt_pow_right (by decide) (by first | decide | (first | exact Mine.w401 hz husz | omega))
            have hpb2 : 10 ≤ bits (512 ^ (i + u.sz)) := by
              have h1 := bits_lt (512 ^ (i + u.sz))
              have h2 : 2 ^ 9 < 2 ^ bits (512 ^ (i + u.sz)) := Nat.lt_of_le_of_lt (by rw [show (512 : Nat) = 2 ^ 9 from rfl, ← Nat.pow_mul]; exact Nat.pow_le_pow_right (by decide) (by first | decide | (first | exact Mine.w402 hsp | omega))) h1
              exact (Nat.pow_lt_pow_iff_right (by decide)).mp h2
            have h512 : Builtin.Int.intBits 512 = 10 := by decide
            rw [henc] at W
            refine x_assign <| e_sub <| e_call <| n_fn 16 S W rfl (by decide : (Str.ofString "int_divmod", 98, 97, 9) ∈ fnTab) <| cw_fn <| a_cons <| n_loc 2 S W rfl rfl <| a_cons <| e_bin <| e_int fun _ => n_loc 8 S W rfl rfl <| o_pow (Int.natCast_nonneg _) (by rw [h512]; (first | exact Mine.w403 hz husz | omega)) fun _ => a_nil ⟨(W.G.fn ("int_divmod", 98, 97, 9) (by decide)).isFn, ?_⟩
            rw [show (512 : Int) ^ ((i + u.sz : Nat) : Int).toNat = ((512 ^ (i + u.sz) : Nat) : Int) by rw [Int.toNat_natCast]; push_cast; rfl]
            refine int_divmod_spec (m := 60) (Nat.pow_pos (by decide)) (by first | decide | (first | exact Mine.w404 hpb | omega)) (by first | decide | (first | exact Mine.w405 hnb | omega)) ?_ W.G W.tb (ok.le (by first | decide | (first | exact Mine.w406 hm | omega))) (by first | decide | omega) fun pr h₂₂ k1 k2 kp tb₂₂ _ hpr => ?_
            · unfold ndig
              refine Nat.div_le_of_le_mul ?_
              have : bits (512 ^ (i + u.sz)) * 10 ≤ bits (512 ^ (i + u.sz)) * 50 := Nat.mul_le_mul_left _ (by decide)
              have : 10 * 20 ≤ bits (512 ^ (i + u.sz)) * 20 := Nat.mul_le_mul_right _ hpb2
              omega
            replace W := W.call kp tb₂₂
            rw [nval_div _ hcok] at hpr
            refine e_int fun _ => i_tup hpr (by decide) rfl lz <| s_loc 10 S W rfl rfl fun h₂₃ W => ?_
            refine x_expr S <| e_meth _ rfl <| n_loc 5 S W rfl rfl <| gm_list (W.lstO 2 rfl) PySem.F.slot_list_append PySem.F.type_list_append <| cw_bi <| a_cons <| e_bin <| e_call <| n_fn 11 S W rfl (by decide : (Str.ofString "_digits2int", 84, 83, 7) ∈ fnTab) <| cw_fn <| a_cons <| e_bin <| e_slice_list W <| n_loc 1 S W rfl rfl <| p_none <| p_some <| n_loc 4 S W rfl rfl ?_
            refine ⟨Row, rv, none, _, rfl, hR.w.sub W.keep, by (first | exact Mine.w119 hz hrl | omega), .none, .int _ _, W, fun c₁ h₂₄ _ W => ?_⟩
            rw [slicePick_upto rv.toArray i (by simp; (first | exact Mine.w49 hi | omega))] at W
            refine n_loc 9 S W rfl rfl <| o_lists W (W.lstO 1 rfl) (hN.sub W.keep) (by simp; (first | exact Mine.w408 hz husz hvsz hnl | omega)) fun c₂ h₂₅ _ W => a_cons <| e_int fun _ => a_nil ⟨(W.G.fn ("_digits2int", 84, 83, 7) (by decide)).isFn, ?_⟩
            have hds : Ints ((rv.toArray.toList.take i).toArray.toList ++ nv) ((cI t).take i ++ cI v) := by simpa using (hri.take i).append hNi
            have hdl : ((cI t).take i ++ cI v).length ≤ 13 := by rw [List.length_append, List.length_take, cI_len, cI_len]; (first | exact Mine.w409 hz husz hvsz | omega)
            refine d2i_spec (n := 9) (B := 9) (m := 60) (Nat.le_refl _) ?_ (Nat.le_trans (Nat.mul_le_mul_left 9 (show ((cI t).take i ++ cI v).length + 2 ≤ 15 by (first | exact Mine.w410 hdl | omega))) (by decide)) hds (by first | decide | (first | exact Mine.w411 hdl | omega)) (W.lst 1 rfl) W.G W.tb (ok.le (by first | decide | (first | exact Mine.w322 hm | omega))) (by first | decide | (first | exact Mine.w412 hdl | omega)) fun k3 h₂₆ kp tb₂₆ => ?_
            · intro x hx
              rcases List.mem_append.mp hx with hx | hx
              · exact cI_small t x (List.mem_of_mem_take hx)
              · exact cI_small v x hx
            replace W := W.call kp tb₂₆
            have hmul : IntMulOk (512 ^ (((i : Nat) : Int) + (nv.length : Nat)).toNat) ((nval (t.codes.drop (i + u.sz)) : Nat) : Int) := by
              refine IntMulOk.of_bits (Nat.le_trans (m := 118) ?_ (by decide)) (Nat.le_trans (m := 117) ?_ (by decide))
              · rw [show (((i : Nat) : Int) + (nv.length : Nat)).toNat = i + nv.length by omega, show (512 : Int) ^ (i + nv.length) = ((512 ^ (i + nv.length) : Nat) : Int) by push_cast; rfl]
                refine bits_le ?_
                rw [show (512 : Nat) = 2 ^ 9 from rfl, ← Nat.pow_mul]
                exact Nat.pow_lt_pow_right (by decide) (by first | decide | omega)
              · refine bits_le (Nat.lt_of_lt_of_le (nval_lt fun c hc => hcok c (List.mem_of_mem_drop hc)) ?_)
                rw [List.length_drop, t.codes_len, show (512 : Nat) = 2 ^ 9 from rfl, ← Nat.pow_mul]
                exact Nat.pow_le_pow_right (by decide) (by first | decide | (first | exact Mine.w415 hz | omega))
            refine e_bin <| e_bin <| e_int fun _ => e_bin <| n_loc 4 S W rfl rfl <| e_call <| n_bi 12 S W rfl (by decide) <| cw_bi <| a_cons <| n_loc 9 S W rfl rfl <| a_nil <| c_len (hN.w.sub W.keep) (by first | decide | (first | exact Mine.w416 hz husz hvsz hnl | omega)) fun _ => o_add fun _ => o_pow (by first | decide | (first | exact Mine.w417 | omega)) (by rw [h512]; omega) fun _ => n_loc 10 S W rfl rfl <| o_mul hmul fun _ => o_add fun k4 => a_nil <| c_append 4 W rfl ?_ fun h₂₇ W => x_nil ?_
            · rw [hti.1, List.length_map]
              have := List.length_filterMap_le t.stepAt (List.range i)
              rw [List.length_range] at this; (first | exact Mine.w419 hz husz this | omega)
            have hst : t.stepAt i = some (t.repl i v) := by unfold Tm.stepAt; rw [hu, hroot]; rfl
            have hval : dval 9 ((cI t).take i ++ cI v) + 512 ^ (((i : Nat) : Int) + (nv.length : Nat)).toNat * ((nval (t.codes.drop (i + u.sz)) : Nat) : Int) = enc (t.repl i v) := by
              have e1 : cI (t.repl i v) = ((cI t).take i ++ cI v) ++ (t.codes.drop (i + u.sz)).map Int.ofNat := by
                unfold cI
                rw [t.codes_repl i v hk, hu, List.map_append, List.map_append, List.map_take, List.append_assoc]
              rw [enc, e1, dval_append 9 ((cI t).take i ++ cI v) _, dval_nval]
              congr 2
              rw [show (((i : Nat) : Int) + (nv.length : Nat)).toNat = i + nv.length by omega, List.length_append, List.length_take, cI_len, cI_len, hnl, Nat.min_eq_left (by first | decide | (first | exact Mine.w420 hrl hi | omega)), Int.pow_mul]
              rfl
            rw [hval] at W
            rw [← henc] at W
            refine x_nil <| q₁ _ _ ⟨h₄, _, [(Told, LstO (tv ++ [Value.int (enc (t.repl i v)) k4]))], ⟨(hsb.trans hsb2).trans sb4, _, _, _, _, _, _, _, rfl, rfl, ?_⟩, W.sub (.cons_cons _ (.cons _ (.cons _ (.refl _))))⟩
            rw [List.range_succ, List.filterMap_append, List.map_append]
            have : List.map enc (List.filterMap t.stepAt [i]) = [enc (t.repl i v)] := by simp [hst]
            rw [this]
            exact hti.append Ints.one
  · rintro h₁ vals rs h ⟨hsb, x4, x6, x7, x8, x9, x10, tv, rfl, rfl, hti⟩ W
    rw [hrl, Tm.nexts_eq] at hti
    exact x_ret <| n_loc 5 S W rfl rfl <| q Told h₁ h tv _ hsb W hti
end Mine
end

section
namespace Mine
open PySem PySem.W PyProof.Rows
variable {prog : Program} {w : World} {A : Around} {h h₀ : Heap} {env : Env} {R : Value → Heap → Prop} {Q : Flow → Heap → Prop}

/-- an owned object is known less sharply -/
theorem Wd.weak {rs : List Res} {a : Addr} {P P' : Obj → Prop} (i : Nat) (W : Wd w h₀ rs h) (hi : rs[i]? = some (a, P)) (k : ∀ o, P o → P' o) (s : ∀ o, P' o → safe o) : Wd w h₀ (rs.set i (a, P')) h := by
  obtain ⟨o, e, p⟩ := W.get hi
  exact W.upd hi (fun _ _ _ e => e) e (k o p) s
theorem fo67 : fnOk (stA 67) 1 = true := by decide +kernel
theorem Tm.str_all (t : Tm) : t.str.cps.all (· < 128) = true := by
  show (t.chars.toArray).all (· < 128) = true
  rw [List.all_toArray, List.all_eq_true]
  intro c hc
  have := t.chars_lt c hc
  simpa using this
theorem isStrOf_self {x : Str} {t : Tok} : (strKind prog w).is x (.str x t) = true := by show Value.isStrOf x (.str x t) = true; simp [Value.isStrOf]
inductive NsA (h₀' : Heap) (t : Tm) (rv : List Value) (Row Ends : Addr) (tw tn : Tok) (i : Nat) (h₀'' : Heap) (vals : List (Option Value)) (rs : List Res) : Prop
  | mk (p0 : h₀'' = h₀') (x4 : Option Value) (es : List Value) (e0 : vals = [some (.str t.str tw), some (.ref Row), some (.int (enc t) tn), some (.ref Ends), x4, none, none, none, none, none, none, none, none, none, none, none, none]) (e1 : rs = [(Ends, LstW es), (Row, LstO rv)]) (e2 : es.length = t.sz) (e3 : (∀ j, t.sz - i ≤ j → j < t.sz → ∃ tk, es[j]? = some (.int ((j + (t.sub j).sz : Nat) : Int) tk)))
theorem next_spec {t : Tm} {tw : Tok} {m : Nat} (hz : t.sz ≤ 13) (g : Gd w h) (tb : Tabs h) (ok : Ok A (m + 1)) (hm : 100 ≤ m)
    (q : ∀ D h' tv, Keeps h h' → Tabs h' → h.get? D = none → okA D → IsLstO h' D tv → Ints tv (t.nexts.map enc) → R (.ref D) h') :
    T prog w A (call (.ref 139) [.str t.str tw]) R h := by
  generalize hh0 : h = h_0 at *
  refine call_fn 1 (g.fn ("_law_next", 139, 138, 67) (by decide)) g tb ok fo67 rfl (fun _ _ _ => rfl) ?_
  intro L env h₀ h₁ S _ hb' _ W ok'
  replace W : Wd w h₀ [(L, Loc names67 [some (.str t.str tw), none, none, none, none, none, none, none, none, none, none, none, none, none, none, none, none])] h₁ := W
  replace S : Sc env L names67 := S
  have hlen : t.str.cps.size = t.sz := t.str_len
  obtain ⟨kvs, _, hks, hkn⟩ := W.gd.tok prog
  refine x_comp 1 1 [] S ok'.1 rfl rfl (fun i h₀' ys rs => h₀' = h₀ ∧ rs = [] ∧ Ints ys ((cI t).take i)) ?_
  refine n_loc 0 S W rfl rfl <| pi_str W t.str_all fun I h₂ W => ⟨I, _, _, _, _, h₀, _, none, [], rfl, Itr.str I t.str tw, by (first | exact Mine.w119 hz hlen | omega), rfl, ?_, fun _ _ _ _ _ _ _ => trivial, ?_, ?_, ⟨rfl, rfl, by simpa using Ints.nil⟩, W⟩
  · rintro i h₀' ys rs ⟨_, _, hi⟩
    rw [hi.1, List.length_take]; (first | exact Mine.w120 | omega)
  · rintro C D i h₀' ys rs v h hi ⟨c, u, hc, rfl⟩ ⟨rfl, rfl, hI⟩ W SC
    refine t_none ?_
    obtain ⟨kvs, hkd, hks, hkn⟩ := W.gd.tok prog
    replace hkd := DictOf_sub hkd W.keep
    have hc' : t.chars[i]? = some c := by have : t.str.cps[i]? = t.chars[i]? := by show t.chars.toArray[i]? = _; simp
                                          rw [← this]; exact hc
    refine e_meth _ rfl <| n_tok 2 SC W rfl <| gm_dict hkd <| cw_bi <| a_cons <| n_loc 1 SC W rfl rfl <| a_cons <| n_nt 3 SC W rfl fun t2 => a_nil <| c_dget (by decide) hkd isStrOf_self ?_
    obtain ⟨cd, hcd, tk, hv⟩ : ∃ cd : Nat, t.codes[i]? = some cd ∧ ∃ tk, (valueAt kvs ⟨#[c]⟩).getD (.int 256 t2) = .int cd tk := by
      rcases t.chars_get i c hc' with ⟨rfl, e⟩ | ⟨s, rfl, e⟩
      · exact ⟨256, e, t2, by rw [hkn]; rfl⟩
      · obtain ⟨tk, ek⟩ := hks s
        exact ⟨s.code, e, tk, by rw [ek]; rfl⟩
    rw [hv]
    refine ⟨h₀', [], _, ⟨rfl, rfl, ?_⟩, W, by simp [cvals], fun j hj => by unfold cvals; rw [List.getElem?_set_ne (Ne.symm hj)]⟩
    rw [List.take_add_one, cI_get hcd]
    exact hI.append Ints.one
  rintro Row h₀' rv rs h₃ ⟨rfl, rfl, hri⟩ W
  have hri : Ints rv (cI t) := by rw [hlen, ← cI_len t, List.take_length] at hri; exact hri
  have hrl : rv.length = t.sz := by rw [hri.1, cI_len]
  refine x_assign <| e_call <| n_fn 11 S W rfl (by decide : (Str.ofString "_digits2int", 84, 83, 7) ∈ fnTab) <| cw_fn <| a_cons <| n_loc 1 S W rfl rfl <| a_cons <| e_int fun _ => a_nil ⟨(W.G.fn ("_digits2int", 84, 83, 7) (by decide)).isFn, ?_⟩
  refine d2i_spec (n := 9) (B := 9) (m := 60) (Nat.le_refl _) (cI_small t) (Nat.le_trans (Nat.mul_le_mul_left 9 (show (cI t).length + 2 ≤ 15 by rw [cI_len]; (first | exact Mine.w410 hz | omega))) (by decide)) hri (by rw [cI_len]; (first | exact Mine.w411 hz | omega)) (W.lst 1 rfl) W.G W.tb (ok'.le (by first | decide | (first | exact Mine.w322 hm | omega))) (by rw [cI_len]; (first | exact Mine.w412 hz | omega)) fun tn h₄ kp tb₄ => ?_
  replace W := W.call kp tb₄
  refine s_loc 2 S W rfl rfl fun h₅ W => ?_
  refine x_assign <| e_bin <| e_list <| a_cons <| e_int fun _ => a_nil <| new_list W lz fun Z h₆ _ W => ?_
  refine e_call <| n_bi 12 S W rfl (by decide) <| cw_bi <| a_cons <| n_loc 1 S W rfl rfl <| a_nil <| c_len (W.lst 2 rfl) (by first | decide | (first | exact Mine.w119 hz hrl | omega)) fun _ => o_listmul W (W.lst 1 rfl) (by first | decide | (first | exact Mine.w110 | omega)) (by simp; (first | exact Mine.w119 hz hrl | omega)) (by first | decide | (first | exact Mine.w359 hz hrl | omega)) fun Ends h₇ _ W => s_loc 3 S W rfl rfl fun h₈ W => ?_
  replace W := W.sub (.cons_cons _ (.cons_cons _ (.cons _ (.refl _))))
  have hnd : ∀ (x : Value), (List.replicate (rv.length : Int).toNat [x]).flatten = List.replicate rv.length x := fun x => by rw [Int.toNat_natCast]; induction rv.length with
    | zero => rfl
    | succ n ih => rw [List.replicate_succ, List.flatten_cons, ih, List.replicate_succ]; rfl
  rw [hnd] at W
  refine x_for <| e_call <| n_bi 13 S W rfl (by decide) <| cw_ty <| a_cons <| e_bin <| e_call <| n_bi 12 S W rfl (by decide) <| cw_bi <| a_cons <| n_loc 1 S W rfl rfl <| a_nil <| c_len (W.lst 2 rfl) (by first | decide | (first | exact Mine.w119 hz hrl | omega)) fun _ => e_int fun _ => o_sub fun _ => a_cons <| e_neg <| e_int fun _ => ⟨_, _, rfl, fun _ => a_cons <| e_neg <| e_int fun _ => ⟨_, _, rfl, fun _ => a_nil <| c_range3 W (by decide) (by decide) fun r h₉ hr W => pi_range W hr (small_down (by first | decide | (first | exact Mine.w119 hz hrl | omega))) size_down fun I h₁₀ W => ?_⟩⟩
  refine c_for (P := fun i v => ∃ t, v = .int (((rv.length : Int) - 1) + (i : Nat) * (-1)) t) 4 S rfl ok'.1 (Itr.range I _ _ rv.length)
    (NsA h₀' t rv Row Ends tw tn)
    (fun i h₀' vals rs (.mk _ x4 _ e ..) => ⟨x4, by rw [e]; rfl⟩) (fun i h₀' vals rs h _ _ => trivial) ?_ ?_
    ⟨rfl, none, _, rfl, rfl, by rw [List.length_replicate, hrl], fun j h1 h2 => absurd h2 (by first | decide | (first | exact Mine.w421 h1 | omega))⟩ (W.weak 2 rfl (fun _ => LstO.w) (fun _ => LstW.safe))
  · rintro i h₀'' vals rs v h hi ⟨tk, rfl⟩ ⟨rfl, x4, es, rfl, rfl, hel, hes⟩ W
    obtain ⟨k, hk0⟩ : ∃ k : Nat, k = t.sz - 1 - i := ⟨_, rfl⟩
    rw [show ((rv.length : Int) - 1) + (i : Nat) * (-1) = (k : Nat) by (first | exact Mine.w422 hrl hi hk0 | omega)] at W
    replace W : Wd w h₀'' [(L, Loc names67 [some (.str t.str tw), some (.ref Row), some (.int (enc t) tn), some (.ref Ends), some (.int (k : Nat) tk), none, none, none, none, none, none, none, none, none, none, none, none]), (I, RI ((rv.length : Int) - 1) (-1) rv.length (i + 1)), (Ends, LstW es), (Row, LstO rv)] h := W
    have hk : k < t.sz := by (first | exact Mine.w423 hrl hi hk0 | omega)
    have hsl := t.sub_le k hk
    have fin : ∀ (h' : Heap) (tv : Tok), Wd w h₀'' [(L, Loc names67 [some (.str t.str tw), some (.ref Row), some (.int (enc t) tn), some (.ref Ends), some (.int (k : Nat) tk), none, none, none, none, none, none, none, none, none, none, none, none]), (I, RI ((rv.length : Int) - 1) (-1) rv.length (i + 1)), (Ends, LstW (es.set k (.int ((k + (t.sub k).sz : Nat) : Int) tv))), (Row, LstO rv)] h' →
        Jx w (NsA h₀'' t rv Row Ends tw tn (i + 1)) L I names67 (RI ((rv.length : Int) - 1) (-1) rv.length (i + 1)) h' := by
      intro h' tv W
      refine ⟨h₀'', _, _, ⟨rfl, _, _, rfl, rfl, by rw [List.length_set, hel], fun j h1 h2 => ?_⟩, W⟩
      by_cases hjk : k = j
      · subst hjk
        rw [List.getElem?_set_self (by first | decide | (first | exact Mine.w316 hel hk | omega))]; exact ⟨tv, rfl⟩
      · rw [List.getElem?_set_ne hjk]
        exact hes j (by first | decide | (first | exact Mine.w424 hk0 h1 hjk | omega)) h2
    obtain ⟨c, hc, hct⟩ : ∃ c : Nat, t.codes[k]? = some c ∧ ((t.sub k).codes[0]? = some c) := by
      have h1 := Tm.codes_get (j := 0) hk (Tm.sz_pos _)
      rw [Nat.add_zero] at h1
      have hl := (t.sub k).codes_len
      have hp := (t.sub k).sz_pos
      exact ⟨(t.sub k).codes[0]'(by first | decide | (first | exact Mine.w425 hl hp | omega)), by rw [h1]; simp, by simp⟩
    obtain ⟨tc, hrc⟩ := hri.get (cI_get hc)
    refine x_if <| b_expr <| e_call <| n_fn 14 S W rfl (by decide : (Str.ofString "ISTERMINAL", 108, 107, 61) ∈ fnTab) <| cw_fn <| a_cons <| e_sub <| n_loc 1 S W rfl rfl <| n_loc 4 S W rfl rfl <| i_list (W.lst 3 rfl) (Int.natCast_nonneg _) hrc (by first | decide | (first | exact Mine.w119 hz hrl | omega)) <| a_nil ⟨(W.G.fn ("ISTERMINAL", 108, 107, 61) (by decide)).isFn, ?_⟩
    refine isterm_spec (n := 5) W.G W.tb (ok'.le (by first | decide | (first | exact Mine.w363 hm | omega))) fun h₄ kp tb₄ => b_bool ?_
    replace W := W.call kp tb₄
    cases hs : t.sub k with
    | leaf s =>
      rw [hs] at hct; simp [Tm.codes] at hct; subst hct
      rw [show decide ((s.code : Int) < 256) = true by simp; have := s.code_lt; (first | exact Mine.w426 this | omega)]
      refine x_setsub <| e_bin <| n_loc 4 S W rfl rfl <| e_int fun _ => o_add fun tv => n_loc 3 S W rfl rfl <| n_loc 4 S W rfl rfl <| s_list 2 W rfl (fun _ p => p) (Int.natCast_nonneg _) (by rw [Int.toNat_natCast]; (first | exact Mine.w316 hel hk | omega)) (by first | decide | (first | exact Mine.w119 hz hel | omega)) fun h₅ W => x_nil_seq <| x_nil ?_
      refine fin h₅ tv ?_
      rw [hs, show (Tm.leaf s).sz = 1 from rfl]
      exact W
    | app f x =>
      rw [hs] at hct hsl; simp [Tm.codes] at hct; subst hct
      simp only [Tm.sz] at hsl
      have hfp := f.sz_pos
      have hxp := x.sz_pos
      have q1 : t.sub (k + 1) = f := by
        rw [Tm.sub_sub t k 1 hk (by rw [hs]; simp only [Tm.sz]; (first | exact Mine.w427 hfp | omega)), hs]
        show (if 0 < f.sz then f.sub 0 else _) = f
        rw [if_pos hfp, Tm.sub_zero]
      have q2 : t.sub (k + 1 + f.sz) = x := by
        rw [show k + 1 + f.sz = k + (f.sz + 1) by (first | exact Mine.w428 | omega), Tm.sub_sub t k (f.sz + 1) hk (by rw [hs]; simp only [Tm.sz]; (first | exact Mine.w429 hxp | omega)), hs]
        show (if f.sz < f.sz then _ else x.sub (f.sz - f.sz)) = x
        rw [if_neg (Nat.lt_irrefl _), Nat.sub_self, Tm.sub_zero]
      obtain ⟨t1, g1⟩ := hes (k + 1) (by first | decide | (first | exact Mine.w430 hk0 | omega)) (by first | decide | (first | exact Mine.w431 hsl hfp | omega))
      obtain ⟨t2, g2⟩ := hes (k + 1 + f.sz) (by first | decide | (first | exact Mine.w432 hk0 | omega)) (by first | decide | (first | exact Mine.w433 hsl hxp | omega))
      rw [q1] at g1
      rw [q2] at g2
      rw [show decide (((256 : Nat) : Int) < 256) = false by decide]
      refine x_setsub <| e_sub <| n_loc 3 S W rfl rfl <| e_sub <| n_loc 3 S W rfl rfl <| e_bin <| n_loc 4 S W rfl rfl <| e_int fun _ => o_add fun _ => ?_
      rw [show ((k : Nat) : Int) + 1 = ((k + 1 : Nat) : Int) by (first | exact Mine.w33 | omega)]
      refine i_list (W.lstw 2 rfl) (Int.natCast_nonneg _) g1 (by first | decide | (first | exact Mine.w119 hz hel | omega)) <| i_list (W.lstw 2 rfl) (Int.natCast_nonneg _) g2 (by first | decide | (first | exact Mine.w119 hz hel | omega)) <| n_loc 3 S W rfl rfl <| n_loc 4 S W rfl rfl <| s_list 2 W rfl (fun _ p => p) (Int.natCast_nonneg _) (by rw [Int.toNat_natCast]; (first | exact Mine.w316 hel hk | omega)) (by first | decide | (first | exact Mine.w119 hz hel | omega)) fun h₅ W => x_nil_seq <| x_nil ?_
      refine fin h₅ t2 ?_
      rw [hs, show k + (Tm.app f x).sz = k + 1 + f.sz + x.sz by simp only [Tm.sz]; (first | exact Mine.w434 | omega)]
      exact W
  · rintro h₀'' vals rs h ⟨rfl, x4, es, rfl, rfl, hel, hes⟩ W
    have hEl := W.lstw 1 rfl
    have hRl := W.lstO 2 rfl
    have nE := W.ne 1 0 rfl rfl
    have nR := W.ne 2 0 rfl rfl
    have oE : okA Ends := W.lo _ (.tail _ (.head _))
    have oR : okA Row := W.lo _ (.tail _ (.tail _ (.head _)))
    obtain ⟨h₃, sb3, _, gt3, W⟩ := W.freeze (rs' := [_]) (.cons_cons _ (.cons _ (.cons _ (.slnil))))
    obtain ⟨o1, e1, p1⟩ := hEl
    obtain ⟨o2, e2, p2⟩ := hRl
    refine next_tail hz S ok' hm ⟨o2, gt3 _ _ e2 oR.ne.1 oR.ne.2 (by simpa using nR), p2⟩ hri ⟨o1, gt3 _ _ e1 oE.ne.1 oE.ne.2 (by simpa using nE), p1⟩ ⟨hel, fun j hj => hes j (by first | decide | (first | exact Mine.w435 hrl | omega)) hj⟩ W ?_
    intro D h₄ h' tv vals sb4 W hti
    show R (.ref D) h'
    have hbb : Hb h_0 h₄ := fun b o e n1 n2 => sb4 b o (sb3 b o (hb' b o e n1 n2))
    exact q D h' tv (keeps_of hbb W.keep) W.tb (W.fresh (i := 1) rfl hbb) (W.lo _ (.tail _ (.head _))) (W.lstO 1 rfl) hti
end Mine
end

section
namespace Mine
namespace Tm
/-- the step at the head, and what it throws away -/
def rootT : Tm → Option (Tm × List Tm)
  | app (app (leaf .pct) x) y => some (x, [y])
  | app (app (app (leaf .star) x) y) z => some (app x (app y z), [])
  | app (app (app (leaf .tilde) x) y) z => some (app (app x z) y, [])
  | _ => none
def hstep : Tm → Option (Tm × List Tm)
  | leaf _ => none
  | app f x => match hstep f with
    | some (f', th) => some (app f' x, th)
    | none => rootT (app f x)
theorem rootT_root (t : Tm) : root t = (rootT t).map (·.1) := by
  unfold root rootT; split <;> first | rfl | (split <;> simp_all)
theorem rootT_shape {t v : Tm} {th : List Tm} (h : rootT t = some (v, th)) :
    (∃ x y, t = app (app (leaf .pct) x) y ∧ v = x ∧ th = [y]) ∨ (∃ x y z, t = app (app (app (leaf .star) x) y) z ∧ v = app x (app y z) ∧ th = []) ∨ (∃ x y z, t = app (app (app (leaf .tilde) x) y) z ∧ v = app (app x z) y ∧ th = []) := by
  unfold rootT at h
  split at h
  · cases h; exact .inl ⟨_, _, rfl, rfl, rfl⟩
  · cases h; exact .inr (.inl ⟨_, _, _, rfl, rfl, rfl⟩)
  · cases h; exact .inr (.inr ⟨_, _, _, rfl, rfl, rfl⟩)
  · cases h
theorem hstep_pct2 (x y : Tm) : hstep (app (app (leaf .pct) x) y) = some (x, [y]) := rfl
theorem hstep_star3 (x y z : Tm) : hstep (app (app (app (leaf .star) x) y) z) = some (app x (app y z), []) := rfl
theorem hstep_tilde3 (x y z : Tm) : hstep (app (app (app (leaf .tilde) x) y) z) = some (app (app x z) y, []) := rfl
theorem root_none {f x f' : Tm} {th : List Tm} (h : hstep f = some (f', th)) : rootT (app f x) = none := by
  cases e : rootT (app f x) with
  | none => rfl
  | some p =>
    obtain ⟨v, th'⟩ := p
    rcases rootT_shape e with ⟨a, b, e, _⟩ | ⟨a, b, c, e, _⟩ | ⟨a, b, c, e, _⟩
    · cases e; cases h
    · cases e; cases h
    · cases e; cases h
theorem hstep_up {f x f' : Tm} {th : List Tm} (h : hstep f = some (f', th)) : hstep (app f x) = some (app f' x, th) := by simp only [hstep, h]
theorem hstep_root {f x : Tm} (h : hstep f = none) : hstep (app f x) = rootT (app f x) := by simp only [hstep, h]
theorem hstep_sz : ∀ {t t' : Tm} {th : List Tm}, hstep t = some (t', th) → sz t' < sz t ∧ ∀ y ∈ th, sz y < sz t
  | leaf _, _, _, h => by cases h
  | app f x, t', th, h => by
    cases e : hstep f with
    | some p =>
      obtain ⟨f', th'⟩ := p
      rw [hstep_up e] at h; cases h
      obtain ⟨h1, h2⟩ := hstep_sz e
      refine ⟨by simp only [sz]; (first | exact Mine.w190 h1 | omega), fun y hy => ?_⟩
      have := h2 y hy; simp only [sz]; (first | exact Mine.w191 this | omega)
    | none =>
      rw [hstep_root e] at h
      rcases rootT_shape h with ⟨a, b, e1, e2, e3⟩ | ⟨a, b, c, e1, e2, e3⟩ | ⟨a, b, c, e1, e2, e3⟩
      · cases e1; subst e2 e3
        refine ⟨by simp only [sz]; (first | exact Mine.w192 | omega), fun y hy => ?_⟩
        cases List.mem_singleton.mp hy; simp only [sz]; (first | exact Mine.w193 | omega)
      · cases e1; subst e2 e3
        exact ⟨by simp only [sz]; (first | exact Mine.w194 | omega), fun y hy => nomatch hy⟩
      · cases e1; subst e2 e3
        exact ⟨by simp only [sz]; (first | exact Mine.w195 | omega), fun y hy => nomatch hy⟩
theorem mem_nexts {f x u : Tm} : u ∈ nexts (app f x) ↔ (∃ th, rootT (app f x) = some (u, th)) ∨ (∃ f' ∈ nexts f, u = app f' x) ∨ (∃ x' ∈ nexts x, u = app f x') := by
  simp only [nexts, List.mem_append, List.mem_map, Option.mem_toList, rootT_root, Option.map_eq_some_iff, Prod.exists, exists_and_right, exists_eq_right]
  constructor
  · rintro (h | ⟨a, h, rfl⟩ | ⟨a, h, rfl⟩)
    · exact .inl h
    · exact .inr (.inl ⟨a, h, rfl⟩)
    · exact .inr (.inr ⟨a, h, rfl⟩)
  · rintro (h | ⟨a, h, rfl⟩ | ⟨a, h, rfl⟩)
    · exact .inl h
    · exact .inr (.inl ⟨a, h, rfl⟩)
    · exact .inr (.inr ⟨a, h, rfl⟩)
theorem nexts_l {f f' x : Tm} (h : f' ∈ nexts f) : app f' x ∈ nexts (app f x) := mem_nexts.mpr (.inr (.inl ⟨f', h, rfl⟩))
theorem nexts_r {f x x' : Tm} (h : x' ∈ nexts x) : app f x' ∈ nexts (app f x) := mem_nexts.mpr (.inr (.inr ⟨x', h, rfl⟩))
theorem hstep_mem : ∀ {t t' : Tm} {th : List Tm}, hstep t = some (t', th) → t' ∈ nexts t
  | leaf _, _, _, h => by cases h
  | app f x, t', th, h => by
    cases e : hstep f with
    | some p => obtain ⟨f', th'⟩ := p; rw [hstep_up e] at h; cases h; exact nexts_l (hstep_mem e)
    | none => rw [hstep_root e] at h; exact mem_nexts.mpr (.inl ⟨_, h⟩)
/-- a head step and another step -/
theorem comm : ∀ {t t' u : Tm} {th : List Tm}, hstep t = some (t', th) → u ∈ nexts t → u = t' ∨ ∃ u' th', hstep u = some (u', th') ∧ ((u' ∈ nexts t' ∧ th' = th) ∨ (u' = t' ∧ ∃ y y', th = [y] ∧ th' = [y'] ∧ y' ∈ nexts y))
  | leaf _, _, _, _, h, _ => by cases h
  | app f x, t', u, th, h, hu => by
    cases e : hstep f with
    | some p =>
      obtain ⟨f', th'⟩ := p
      rw [hstep_up e] at h; cases h
      rcases mem_nexts.mp hu with ⟨_, h⟩ | ⟨f'', hf, rfl⟩ | ⟨x', hx, rfl⟩
      · rw [root_none e] at h; cases h
      · rcases comm e hf with rfl | ⟨u', th', h1, h2⟩
        · exact .inl rfl
        · refine .inr ⟨app u' x, th', hstep_up h1, ?_⟩
          rcases h2 with ⟨h2, h3⟩ | ⟨h2, h3⟩
          · exact .inl ⟨nexts_l h2, h3⟩
          · exact .inr ⟨by rw [h2], h3⟩
      · exact .inr ⟨app f' x', th, hstep_up e, .inl ⟨nexts_r hx, rfl⟩⟩
    | none =>
      rw [hstep_root e] at h
      rcases mem_nexts.mp hu with ⟨th', h'⟩ | ⟨f'', hf, rfl⟩ | ⟨x', hx, rfl⟩
      · rw [h] at h'; cases h'; exact .inl rfl
      · rcases rootT_shape h with ⟨a, b, e1, rfl, rfl⟩ | ⟨a, b, c, e1, rfl, rfl⟩ | ⟨a, b, c, e1, rfl, rfl⟩
        · cases e1
          rcases mem_nexts.mp hf with ⟨_, h⟩ | ⟨_, hf, _⟩ | ⟨a', ha, rfl⟩
          · cases h
          · cases hf
          · exact .inr ⟨a', [x], rfl, .inl ⟨ha, rfl⟩⟩
        · cases e1
          rcases mem_nexts.mp hf with ⟨_, h⟩ | ⟨g, hf2, rfl⟩ | ⟨b', hb, rfl⟩
          · cases h
          · rcases mem_nexts.mp hf2 with ⟨_, h⟩ | ⟨_, hf, _⟩ | ⟨a', ha, rfl⟩
            · cases h
            · cases hf
            · exact .inr ⟨app a' (app b x), [], rfl, .inl ⟨nexts_l ha, rfl⟩⟩
          · exact .inr ⟨app a (app b' x), [], rfl, .inl ⟨nexts_r (nexts_l hb), rfl⟩⟩
        · cases e1
          rcases mem_nexts.mp hf with ⟨_, h⟩ | ⟨g, hf2, rfl⟩ | ⟨b', hb, rfl⟩
          · cases h
          · rcases mem_nexts.mp hf2 with ⟨_, h⟩ | ⟨_, hf, _⟩ | ⟨a', ha, rfl⟩
            · cases h
            · cases hf
            · exact .inr ⟨app (app a' x) b, [], rfl, .inl ⟨nexts_l (nexts_l ha), rfl⟩⟩
          · exact .inr ⟨app (app a x) b', [], rfl, .inl ⟨nexts_r hb, rfl⟩⟩
      · rcases rootT_shape h with ⟨a, b, e1, rfl, rfl⟩ | ⟨a, b, c, e1, rfl, rfl⟩ | ⟨a, b, c, e1, rfl, rfl⟩
        · cases e1; exact .inr ⟨_, _, rfl, .inr ⟨rfl, x, x', rfl, rfl, hx⟩⟩
        · cases e1; exact .inr ⟨_, _, rfl, .inl ⟨nexts_r (nexts_r hx), rfl⟩⟩
        · cases e1; exact .inr ⟨_, _, rfl, .inl ⟨nexts_l (nexts_r hx), rfl⟩⟩
/-- a thrown part can step first -/
theorem throw_mem : ∀ {t t' y y' : Tm}, hstep t = some (t', [y]) → y' ∈ nexts y → ∃ u ∈ nexts t, hstep u = some (t', [y'])
  | leaf _, _, _, _, h, _ => by cases h
  | app f x, t', y, y', h, hy => by
    cases e : hstep f with
    | some p =>
      obtain ⟨f', th'⟩ := p
      rw [hstep_up e] at h; cases h
      obtain ⟨u, h1, h2⟩ := throw_mem e hy
      exact ⟨app u x, nexts_l h1, hstep_up h2⟩
    | none =>
      rw [hstep_root e] at h
      rcases rootT_shape h with ⟨a, b, e1, rfl, e3⟩ | ⟨a, b, c, e1, e2, e3⟩ | ⟨a, b, c, e1, e2, e3⟩
      · cases e1; cases e3; exact ⟨_, nexts_r hy, rfl⟩
      · cases e3
      · cases e3
/-- no step at the head: seen by head and number of arguments -/
def nored (s : Lf) (n : Nat) : Prop := (s = .pct → n < 2) ∧ (s = .star → n < 3) ∧ (s = .tilde → n < 3)
theorem hstep_none_iff : ∀ t, hstep t = none ↔ nored (hd t) (args t).length
  | leaf s => by simp [hstep, nored, args]
  | app f x => by
    have ih := hstep_none_iff f
    simp only [hd, args, List.length_append, List.length_cons, List.length_nil]
    cases e : hstep f with
    | some p =>
      obtain ⟨f', th⟩ := p
      rw [hstep_up e]
      rw [e] at ih
      constructor
      · intro h; cases h
      · intro h
        exact absurd (ih.mpr ⟨fun z => by have := h.1 z; (first | exact Mine.w196 this | omega), fun z => by have := h.2.1 z; (first | exact Mine.w197 this | omega), fun z => by have := h.2.2 z; (first | exact Mine.w197 this | omega)⟩) (by simp)
    | none =>
      rw [hstep_root e]
      have hn := ih.mp e
      constructor
      · intro h
        refine ⟨fun z => ?_, fun z => ?_, fun z => ?_⟩
        · have h1 := hn.1 z
          by_cases q : (args f).length = 1
          · obtain ⟨a, b, e1, e2⟩ := root_pct (t := app f x) z (by simp [args, q])
            rw [rootT_root, h] at e2; cases e2
          · (first | exact Mine.w198 h1 q | omega)
        · have h1 := hn.2.1 z
          by_cases q : (args f).length = 2
          · obtain ⟨a, b, c, e1, e2⟩ := root_star (t := app f x) z (by simp [args, q])
            rw [rootT_root, h] at e2; cases e2
          · (first | exact Mine.w199 h1 q | omega)
        · have h1 := hn.2.2 z
          by_cases q : (args f).length = 2
          · obtain ⟨a, b, c, e1, e2⟩ := root_tilde (t := app f x) z (by simp [args, q])
            rw [rootT_root, h] at e2; cases e2
          · (first | exact Mine.w199 h1 q | omega)
      · intro h
        cases e' : rootT (app f x) with
        | none => rfl
        | some p =>
          obtain ⟨v, th⟩ := p
          rcases rootT_shape e' with ⟨a, b, e1, _⟩ | ⟨a, b, c, e1, _⟩ | ⟨a, b, c, e1, _⟩
          · cases e1; have := h.1 rfl; simp [args] at this
          · cases e1; have := h.2.1 rfl; simp [args] at this
          · cases e1; have := h.2.2 rfl; simp [args] at this
theorem hstep_none_f {f x : Tm} (h : hstep (app f x) = none) : hstep f = none := by
  cases e : hstep f with
  | none => rfl
  | some p => obtain ⟨f', th⟩ := p; rw [hstep_up e] at h; cases h
theorem hd_keep : ∀ {t u : Tm}, hstep t = none → u ∈ nexts t → hd u = hd t ∧ (args u).length = (args t).length
  | leaf _, _, _, h => by cases h
  | app f x, u, hn, hu => by
    rcases mem_nexts.mp hu with ⟨_, h⟩ | ⟨f', hf, rfl⟩ | ⟨x', hx, rfl⟩
    · rw [hstep_root (hstep_none_f hn), h] at hn; cases hn
    · have := hd_keep (hstep_none_f hn) hf
      simp [hd, args, this.1, this.2]
    · simp [hd, args]
theorem none_keep {t u : Tm} (hn : hstep t = none) (hu : u ∈ nexts t) : hstep u = none := by
  have := hd_keep hn hu
  rw [hstep_none_iff, this.1, this.2, ← hstep_none_iff]; exact hn
-- what the reckoning reckons
def N (t : Tm) : Tm := match h : hstep t with
  | some (t', _) => N t'
  | none => match t with
    | leaf s => leaf s
    | app f x => app (N f) (N x)
termination_by sz t
decreasing_by
  · exact (hstep_sz h).1
  · simp only [sz]; (first | exact Mine.w200 | omega)
  · simp only [sz]; (first | exact Mine.w201 | omega)
def F (t : Tm) : Nat := match h : hstep t with
  | some (t', _) => F t' + 1
  | none => match t with
    | leaf s => 0
    | app f x => F f + F x
termination_by sz t
decreasing_by
  · exact (hstep_sz h).1
  · simp only [sz]; (first | exact Mine.w200 | omega)
  · simp only [sz]; (first | exact Mine.w201 | omega)
def M (t : Tm) : Nat := match h : hstep t with
  | some (t', []) => M t' + 1
  | some (t', y :: _) => M t' + 1 + M y
  | none => match t with
    | leaf s => 0
    | app f x => M f + M x
termination_by sz t
decreasing_by
  · exact (hstep_sz h).1
  · exact (hstep_sz h).1
  · exact (hstep_sz h).2 y (.head _)
  · simp only [sz]; (first | exact Mine.w200 | omega)
  · simp only [sz]; (first | exact Mine.w201 | omega)
theorem N_some {t t' : Tm} {th : List Tm} (h : hstep t = some (t', th)) : N t = N t' := by rw [N]; split <;> simp_all
theorem F_some {t t' : Tm} {th : List Tm} (h : hstep t = some (t', th)) : F t = F t' + 1 := by rw [F]; split <;> simp_all
theorem M_some0 {t t' : Tm} (h : hstep t = some (t', [])) : M t = M t' + 1 := by rw [M]; split <;> simp_all
theorem M_some1 {t t' y : Tm} (h : hstep t = some (t', [y])) : M t = M t' + 1 + M y := by rw [M]; split <;> simp_all
theorem N_leaf (s : Lf) : N (leaf s) = leaf s := by rw [N]; rfl
theorem F_leaf (s : Lf) : F (leaf s) = 0 := by rw [F]; rfl
theorem M_leaf (s : Lf) : M (leaf s) = 0 := by rw [M]; rfl
theorem N_app {f x : Tm} (h : hstep (app f x) = none) : N (app f x) = app (N f) (N x) := by rw [N]; split <;> simp_all
theorem F_app {f x : Tm} (h : hstep (app f x) = none) : F (app f x) = F f + F x := by rw [F]; split <;> simp_all
theorem M_app {f x : Tm} (h : hstep (app f x) = none) : M (app f x) = M f + M x := by rw [M]; split <;> simp_all
theorem th_cases {t t' : Tm} {th : List Tm} (h : hstep t = some (t', th)) : th = [] ∨ ∃ y, th = [y] := by
  induction t generalizing t' th with
  | leaf => cases h
  | app f x ihf ihx =>
    cases e : hstep f with
    | some p => obtain ⟨f', th'⟩ := p; rw [hstep_up e] at h; cases h; exact ihf e
    | none =>
      rw [hstep_root e] at h
      rcases rootT_shape h with ⟨a, b, _, _, rfl⟩ | ⟨a, b, c, _, _, rfl⟩ | ⟨a, b, c, _, _, rfl⟩
      · exact .inr ⟨_, rfl⟩
      · exact .inl rfl
      · exact .inl rfl
theorem step_all : ∀ (n : Nat) (t : Tm), sz t ≤ n → ∀ u ∈ nexts t, N u = N t ∧ F t ≤ F u + 1 ∧ M u + 1 ≤ M t
  | 0, t, h, _, _ => by have := sz_pos t; omega
  | n + 1, t, h, u, hu => by
    cases e : hstep t with
    | some p =>
      obtain ⟨t', th⟩ := p
      have hs := hstep_sz e
      rcases comm e hu with rfl | ⟨u', th', h1, h2⟩
      · refine ⟨(N_some e).symm, by rw [F_some e]; (first | exact Mine.w202 | omega), ?_⟩
        rcases th_cases e with rfl | ⟨y, rfl⟩
        · rw [M_some0 e]; (first | exact Mine.w202 | omega)
        · rw [M_some1 e]; (first | exact Mine.w203 | omega)
      · rcases h2 with ⟨h2, rfl⟩ | ⟨rfl, y, y', rfl, rfl, hy⟩
        · obtain ⟨i1, i2, i3⟩ := step_all n t' (by first | decide | omega) u' h2
          refine ⟨by rw [N_some e, N_some h1, i1], by rw [F_some e, F_some h1]; (first | exact Mine.w204 i2 | omega), ?_⟩
          rcases th_cases e with rfl | ⟨y, rfl⟩
          · rw [M_some0 e, M_some0 h1]; (first | exact Mine.w205 i3 | omega)
          · rw [M_some1 e, M_some1 h1]; (first | exact Mine.w206 i3 | omega)
        · have hys := hs.2 y (.head _)
          obtain ⟨i1, i2, i3⟩ := step_all n y (by first | decide | (first | exact Mine.w6 h hys | omega)) y' hy
          exact ⟨by rw [N_some e, N_some h1], by rw [F_some e, F_some h1]; (first | exact Mine.w207 | omega), by rw [M_some1 e, M_some1 h1]; (first | exact Mine.w208 i3 | omega)⟩
    | none =>
      cases t with
      | leaf s => cases hu
      | app f x =>
        simp only [sz] at h
        have hfp := sz_pos f
        have hxp := sz_pos x
        have hun := none_keep e hu
        rcases mem_nexts.mp hu with ⟨_, h'⟩ | ⟨f', hf, rfl⟩ | ⟨x', hx, rfl⟩
        · rw [hstep_root (hstep_none_f e), h'] at e; cases e
        · obtain ⟨i1, i2, i3⟩ := step_all n f (by first | decide | (first | exact Mine.w209 h | omega)) f' hf
          exact ⟨by rw [N_app e, N_app hun, i1], by rw [F_app e, F_app hun]; (first | exact Mine.w210 i2 | omega), by rw [M_app e, M_app hun]; (first | exact Mine.w211 i3 | omega)⟩
        · obtain ⟨i1, i2, i3⟩ := step_all n x (by first | decide | (first | exact Mine.w212 h | omega)) x' hx
          exact ⟨by rw [N_app e, N_app hun, i1], by rw [F_app e, F_app hun]; (first | exact Mine.w213 i2 | omega), by rw [M_app e, M_app hun]; (first | exact Mine.w214 i3 | omega)⟩
theorem nf_all : ∀ (t : Tm), nexts t = [] → N t = t ∧ F t = 0 ∧ M t = 0
  | leaf s, _ => ⟨N_leaf s, F_leaf s, M_leaf s⟩
  | app f x, h => by
    have e : hstep (app f x) = none := by
      cases e : hstep (app f x) with
      | none => rfl
      | some p => obtain ⟨t', th⟩ := p; have := hstep_mem e; rw [h] at this; cases this
    have hf : nexts f = [] := by
      cases q : nexts f with
      | nil => rfl
      | cons a l => have := nexts_l (x := x) (show a ∈ nexts f by rw [q]; exact .head _); rw [h] at this; cases this
    have hx : nexts x = [] := by
      cases q : nexts x with
      | nil => rfl
      | cons a l => have := nexts_r (f := f) (show a ∈ nexts x by rw [q]; exact .head _); rw [h] at this; cases this
    obtain ⟨a1, a2, a3⟩ := nf_all f hf
    obtain ⟨b1, b2, b3⟩ := nf_all x hx
    exact ⟨by rw [N_app e, a1, b1], by rw [F_app e, a2, b2], by rw [M_app e, a3, b3]⟩
theorem ex_all : ∀ (n : Nat) (t : Tm), sz t ≤ n → nexts t ≠ [] → (∃ u ∈ nexts t, F t = F u + 1) ∧ (∃ u ∈ nexts t, M t = M u + 1)
  | 0, t, h, _ => by have := sz_pos t; omega
  | n + 1, t, h, hne => by
    cases e : hstep t with
    | some p =>
      obtain ⟨t', th⟩ := p
      have hs := hstep_sz e
      refine ⟨⟨t', hstep_mem e, F_some e⟩, ?_⟩
      rcases th_cases e with rfl | ⟨y, rfl⟩
      · exact ⟨t', hstep_mem e, M_some0 e⟩
      · have hys := hs.2 y (.head _)
        by_cases hy : nexts y = []
        · exact ⟨t', hstep_mem e, by rw [M_some1 e, (nf_all y hy).2.2]⟩
        · obtain ⟨_, y', h1, h2⟩ := ex_all n y (by first | decide | (first | exact Mine.w6 h hys | omega)) hy
          obtain ⟨u, h3, h4⟩ := throw_mem e h1
          exact ⟨u, h3, by rw [M_some1 e, M_some1 h4]; omega⟩
    | none =>
      cases t with
      | leaf s => exact absurd rfl hne
      | app f x =>
        simp only [sz] at h
        have hfp := sz_pos f
        have hxp := sz_pos x
        by_cases hf : nexts f = []
        · by_cases hx : nexts x = []
          · exfalso
            apply hne
            have hr : rootT (app f x) = none := by rw [← hstep_root (hstep_none_f e)]; exact e
            simp [nexts, hf, hx, rootT_root, hr]
          · obtain ⟨⟨u, h1, h2⟩, u', h3, h4⟩ := ex_all n x (by first | decide | (first | exact Mine.w212 h | omega)) hx
            exact ⟨⟨_, nexts_r h1, by rw [F_app e, F_app (none_keep e (nexts_r h1))]; (first | exact Mine.w215 h2 | omega)⟩, _, nexts_r h3, by rw [M_app e, M_app (none_keep e (nexts_r h3))]; (first | exact Mine.w215 h4 | omega)⟩
        · obtain ⟨⟨u, h1, h2⟩, u', h3, h4⟩ := ex_all n f (by first | decide | (first | exact Mine.w209 h | omega)) hf
          exact ⟨⟨_, nexts_l h1, by rw [F_app e, F_app (none_keep e (nexts_l h1))]; (first | exact Mine.w216 h2 | omega)⟩, _, nexts_l h3, by rw [M_app e, M_app (none_keep e (nexts_l h3))]; (first | exact Mine.w216 h4 | omega)⟩
end Tm
end Mine
end

section
namespace Mine
namespace Tm
/-- a term under a stack of arguments, the first of them last -/
def spn (u : Tm) (ps : List Tm) : Tm := ps.foldr (fun a acc => app acc a) u
theorem spn_snoc (u a : Tm) (ps : List Tm) : spn u (ps ++ [a]) = spn (app u a) ps := by simp [spn]
theorem spn_cons (u a : Tm) (ps : List Tm) : spn u (a :: ps) = app (spn u ps) a := rfl
theorem hstep_spn {u u' : Tm} {th : List Tm} (h : hstep u = some (u', th)) : ∀ ps, hstep (spn u ps) = some (spn u' ps, th)
  | [] => h
  | a :: ps => by rw [spn_cons, spn_cons]; exact hstep_up (hstep_spn h ps)
theorem hd_spn (s : Lf) : ∀ ps, hd (spn (leaf s) ps) = s
  | [] => rfl
  | a :: ps => hd_spn s ps
theorem args_spn (s : Lf) : ∀ ps, (args (spn (leaf s) ps)).length = ps.length
  | [] => rfl
  | a :: ps => by rw [spn_cons]; simp [args, args_spn s ps]
theorem spn_none {s : Lf} {ps : List Tm} (h : nored s ps.length) : hstep (spn (leaf s) ps) = none := by
  rw [hstep_none_iff, hd_spn, args_spn]; exact h
theorem sz_spn (u : Tm) : ∀ ps, sz (spn u ps) = sz u + ps.length + asz ps
  | [] => by simp [spn, asz]
  | a :: ps => by
    have := sz_spn u ps
    rw [spn_cons]; simp only [sz, asz, List.map_cons, List.sum_cons, List.length_cons] at this ⊢; (first | exact Mine.w217 this | omega)
def spnN (u : Tm) (ps : List Tm) : Tm := ps.foldr (fun a acc => app acc (N a)) u
theorem spnN_snoc (u a : Tm) (ps : List Tm) : spnN u (ps ++ [a]) = spnN (app u (N a)) ps := by simp [spnN]
theorem N_spn {s : Lf} : ∀ {ps : List Tm}, hstep (spn (leaf s) ps) = none → N (spn (leaf s) ps) = spnN (leaf s) ps
  | [], _ => N_leaf s
  | a :: ps, h => by rw [spn_cons] at h ⊢; rw [N_app h, N_spn (hstep_none_f h)]; rfl
theorem F_spn {s : Lf} : ∀ {ps : List Tm}, hstep (spn (leaf s) ps) = none → F (spn (leaf s) ps) = (ps.map F).sum
  | [], _ => F_leaf s
  | a :: ps, h => by rw [spn_cons] at h ⊢; rw [F_app h, F_spn (hstep_none_f h), List.map_cons, List.sum_cons, Nat.add_comm]
theorem M_spn {s : Lf} : ∀ {ps : List Tm}, hstep (spn (leaf s) ps) = none → M (spn (leaf s) ps) = (ps.map M).sum
  | [], _ => M_leaf s
  | a :: ps, h => by rw [spn_cons] at h ⊢; rw [M_app h, M_spn (hstep_none_f h), List.map_cons, List.sum_cons, Nat.add_comm]
theorem nexts_sz : ∀ {t u : Tm}, u ∈ nexts t → sz u < sz t
  | leaf _, _, h => by cases h
  | app f x, u, h => by
    rcases mem_nexts.mp h with ⟨th, h⟩ | ⟨f', hf, rfl⟩ | ⟨x', hx, rfl⟩
    · rcases rootT_shape h with ⟨a, b, e1, e2, e3⟩ | ⟨a, b, c, e1, e2, e3⟩ | ⟨a, b, c, e1, e2, e3⟩
      · cases e1; subst e2; simp only [sz]; (first | exact Mine.w192 | omega)
      · cases e1; subst e2; simp only [sz]; (first | exact Mine.w194 | omega)
      · cases e1; subst e2; simp only [sz]; (first | exact Mine.w195 | omega)
    · have := nexts_sz hf; simp only [sz]; (first | exact Mine.w190 this | omega)
    · have := nexts_sz hx; simp only [sz]; (first | exact Mine.w218 this | omega)
theorem N_le : ∀ (n : Nat) (t : Tm), sz t ≤ n → sz (N t) ≤ sz t
  | 0, t, h => by have := sz_pos t; (first | exact Mine.w219 h this | omega)
  | n + 1, t, h => by
    cases e : hstep t with
    | some p => obtain ⟨t', th⟩ := p; have := hstep_sz e; rw [N_some e]; have := N_le n t' (by first | decide | omega); omega
    | none =>
      cases t with
      | leaf s => rw [N_leaf]; exact Nat.le_refl _
      | app f x =>
        simp only [sz] at h
        have := sz_pos f; have := sz_pos x
        rw [N_app e]; have := N_le n f (by first | decide | (first | exact Mine.w209 h | omega)); have := N_le n x (by first | decide | (first | exact Mine.w212 h | omega)); simp only [sz]; (first | exact Mine.w220 (by assumption) this | omega)
end Tm
end Mine
end

section
namespace Mine
open PySem PySem.W PyProof.Rows
variable {prog : Program} {w : World} {A : Around} {h h₀ : Heap} {env : Env} {R : Value → Heap → Prop} {Q : Flow → Heap → Prop} {pos : Pos}

theorem b_and2 {e1 e2 : Expr} {whole : Sem Value} {R : Bool → Heap → Prop} (q : T prog w A (isTrue e1 env (eval e1 env)) (fun b h₁ => cond b (T prog w A (isTrue e2 env (eval e2 env)) R h₁) (R false h₁)) h) :
    T prog w A (isTrue (.BoolOp .And [e1, e2] pos) env whole) R h := fun g d k os =>
  wpAny_isTrue_BoolOp (wpAny_allTrue_And_cons (wpAny_mono (q g d k os) (fun b _ ⟨_, k₁, e, z⟩ => by
    subst e
    cases b with
    | false => exact ⟨_, _, rfl, z⟩
    | true => exact wpAny_allTrue_And_cons (wpAny_mono ((z : T prog w A _ _ _) g d k₁ os) (fun b _ ⟨_, _, e, z⟩ => by
        subst e
        cases b with
        | false => exact ⟨_, _, rfl, z⟩
        | true => exact wpAny_allTrue_And_nil ⟨_, _, rfl, z⟩) fun _ _ e => e)) fun _ _ e => e))
theorem b_or2 {e1 e2 : Expr} {whole : Sem Value} {R : Bool → Heap → Prop} (q : T prog w A (isTrue e1 env (eval e1 env)) (fun b h₁ => cond b (R true h₁) (T prog w A (isTrue e2 env (eval e2 env)) R h₁)) h) :
    T prog w A (isTrue (.BoolOp .Or [e1, e2] pos) env whole) R h := fun g d k os =>
  wpAny_isTrue_BoolOp (wpAny_allTrue_Or_cons (wpAny_mono (q g d k os) (fun b _ ⟨_, k₁, e, z⟩ => by
    subst e
    cases b with
    | true => exact ⟨_, _, rfl, z⟩
    | false => exact wpAny_allTrue_Or_cons (wpAny_mono ((z : T prog w A _ _ _) g d k₁ os) (fun b _ ⟨_, _, e, z⟩ => by
        subst e
        cases b with
        | true => exact ⟨_, _, rfl, z⟩
        | false => exact wpAny_allTrue_Or_nil ⟨_, _, rfl, z⟩) fun _ _ e => e)) fun _ _ e => e))
theorem b_andp {e1 e2 : Expr} {whole : Sem Value} {R : Bool → Heap → Prop} (b1 b2 : Bool) (q1 : ∀ R' : Bool → Heap → Prop, R' b1 h → T prog w A (isTrue e1 env (eval e1 env)) R' h) (q2 : ∀ R' : Bool → Heap → Prop, R' b2 h → T prog w A (isTrue e2 env (eval e2 env)) R' h) (q : R (b1 && b2) h) :
    T prog w A (isTrue (.BoolOp .And [e1, e2] pos) env whole) R h := by
  refine b_and2 (q1 _ ?_)
  cases b1 with
  | false => exact q
  | true => exact q2 _ q
theorem c_in2s {x a b : Str} {tp : Addr} {t t1 t2 : Tok} (ht : IsTpl h tp [.str a t1, .str b t2]) (q : R (.bool (a == x || b == x)) h) : T prog w A (compareOp .In (.str x t) (.ref tp)) R h := by
  intro g d k os
  refine SeqAt.in_tupleAt (fun y => match y with | .str c _ => c == x | _ => false) ht.tup (fun y hy => ?_) ⟨_, _, rfl, ?_⟩
  · have : y = .str a t1 ∨ y = .str b t2 := by simpa using hy
    rcases this with rfl | rfl
    · exact SeqAt.EqAt.str_str _ _ _ _
    · exact SeqAt.EqAt.str_str _ _ _ _
  · have e : (List.toArray [Value.str a t1, Value.str b t2]).any (fun y => match y with | .str c _ => c == x | _ => false) = (a == x || b == x) := by simp
    rw [e]; exact q
theorem b_andf {e1 e2 : Expr} {whole : Sem Value} {R : Bool → Heap → Prop} (R' : Heap → Prop) (q : T prog w A (isTrue e1 env (eval e1 env)) (fun b h₁ => cond b (T prog w A (isTrue e2 env (eval e2 env)) (fun c h₂ => c = false ∧ R' h₂) h₁) (R' h₁)) h) (fin : ∀ h', R' h' → R false h') :
    T prog w A (isTrue (.BoolOp .And [e1, e2] pos) env whole) R h :=
  b_and2 (T_mono q fun b h₁ z => by
    cases b with
    | false => exact fin _ z
    | true => exact T_mono z fun c h₂ ⟨e, r⟩ => by subst e; exact fin _ r)
-- stacks of terms
def Terms (h : Heap) (vs : List Value) (ts : List Tm) : Prop := vs.length = ts.length ∧ ∀ (i : Nat) (t : Tm), ts[i]? = some t → ∃ v, vs[i]? = some v ∧ TmAt h v t
theorem Terms.nil : Terms h [] [] := ⟨rfl, fun i t e => by simp at e⟩
theorem Terms.sub {h' : Heap} {vs : List Value} {ts : List Tm} (x : Terms h vs ts) (s : Sub h h') : Terms h' vs ts := ⟨x.1, fun i t e => let ⟨v, a, b⟩ := x.2 i t e; ⟨v, a, b.sub s⟩⟩
theorem Terms.snoc {vs : List Value} {ts : List Tm} {v : Value} {t : Tm} (x : Terms h vs ts) (y : TmAt h v t) : Terms h (vs ++ [v]) (ts ++ [t]) := by
  refine ⟨by simp [x.1], fun i t' e => ?_⟩
  by_cases hi : i < ts.length
  · rw [List.getElem?_append_left hi] at e
    obtain ⟨v', a, b⟩ := x.2 i t' e
    exact ⟨v', by rw [List.getElem?_append_left (by rw [x.1]; exact hi)]; exact a, b⟩
  · rw [List.getElem?_append_right (by first | decide | (first | exact Mine.w12 hi | omega))] at e
    cases hz : i - ts.length with
    | zero =>
      rw [hz] at e; simp at e; subst e
      exact ⟨v, by rw [List.getElem?_append_right (by rw [x.1]; (first | exact Mine.w12 hi | omega)), x.1, hz]; rfl, y⟩
    | succ k => rw [hz] at e; simp at e
theorem Terms.unsnoc {pv : List Value} {ts : List Tm} {t : Tm} (x : Terms h pv (ts ++ [t])) : ∃ vs v, pv = vs ++ [v] ∧ Terms h vs ts ∧ TmAt h v t := by
  rcases List.eq_nil_or_concat pv with rfl | ⟨vs, v, rfl⟩
  · have := x.1; simp at this
  · rw [List.concat_eq_append] at x ⊢
    have hl : vs.length = ts.length := by have := x.1; simpa using this
    refine ⟨vs, v, rfl, ⟨hl, fun i t' e => ?_⟩, ?_⟩
    · have hi : i < ts.length := (List.getElem?_eq_some_iff.mp e).1
      obtain ⟨v', a, b⟩ := x.2 i t' (by rw [List.getElem?_append_left hi]; exact e)
      rw [List.getElem?_append_left (by rw [hl]; exact hi)] at a
      exact ⟨v', a, b⟩
    · obtain ⟨v', a, b⟩ := x.2 ts.length t (by simp)
      rw [← hl] at a; simp at a; subst a; exact b
theorem snoc_of {α : Type} {l : List α} (h : 1 ≤ l.length) : ∃ l' a, l = l' ++ [a] := by
  rcases List.eq_nil_or_concat l with rfl | ⟨l', a, rfl⟩
  · simp at h
  · exact ⟨l', a, List.concat_eq_append⟩

def names70 := (scopeOf (stA 70)).names
theorem fo70 : fnOk (stA 70) 1 = true := by decide +kernel
theorem sz_spnN (u : Tm) : ∀ ps, u.sz ≤ (Tm.spnN u ps).sz
  | [] => Nat.le_refl _
  | a :: ps => by have := sz_spnN u ps; show u.sz ≤ (Tm.app (Tm.spnN u ps) a.N).sz; simp only [Tm.sz]; (first | exact Mine.w436 this | omega)
theorem mem_asz {a : Tm} {l : List Tm} (h : a ∈ l) : a.sz ≤ Tm.asz l := by
  induction l with
  | nil => cases h
  | cons b l ih =>
    simp only [Tm.asz, List.map_cons, List.sum_cons] at ih ⊢
    rcases List.mem_cons.mp h with rfl | h
    · (first | exact Mine.w379 | omega)
    · have := ih h; (first | exact Mine.w437 this | omega)
inductive RcA (w : World) (h₀ : Heap) (t : Tm) (L Pt : Addr) (k : Nat) (h' : Heap) : Prop
  | mk (h₂ : Heap) (u : Tm) (uv : Value) (ps : List Tm) (pv : List Value) (f0 : Nat) (m0 : Nat) (tf : Tok) (tm : Tok) (x4 : Option Value) (x5 : Option Value) (x6 : Option Value) (e0 : k = (Tm.spn u ps).sz) (e1 : Sub h₀ h₂) (e2 : TmAt h₂ uv u) (e3 : Terms h₂ pv ps) (e4 : t.N = (Tm.spn u ps).N) (e5 : t.F = f0 + (Tm.spn u ps).F) (e6 : t.M = m0 + (Tm.spn u ps).M) (e7 : (Tm.spn u ps).sz ≤ t.sz) (e8 : Wd w h₂ [(L, Loc names70 [some uv, some (.ref Pt), some (.int (f0 : Nat) tf), some (.int (m0 : Nat) tm), x4, x5, x6, none, none, none, none, none, none]), (Pt, LstO pv)] h')
inductive RcB (w : World) (h₂ : Heap) (u : Tm) (ps : List Tm) (f0 m0 : Nat) (tf tm : Tok) (x4 x5 x6 : Option Value) (L Pt : Addr) (k : Nat) (h' : Heap) : Prop
  | mk (u1 : Tm) (uv : Value) (ps1 : List Tm) (pv : List Value) (e0 : k = u1.sz) (e1 : TmAt h₂ uv u1) (e2 : Terms h₂ pv ps1) (e3 : Tm.spn u1 ps1 = Tm.spn u ps) (e4 : Wd w h₂ [(L, Loc names70 [some uv, some (.ref Pt), some (.int (f0 : Nat) tf), some (.int (m0 : Nat) tm), x4, x5, x6, none, none, none, none, none, none]), (Pt, LstO pv)] h')
inductive RcC (w : World) (h₂ : Heap) (t : Tm) (s : Lf) (ps1 : List Tm) (f0 : Nat) (tf : Tok) (L Pt : Addr) (h' : Heap) : Prop
  | mk (h₃ : Heap) (u' : Tm) (uv' : Value) (ps' : List Tm) (pv' : List Value) (m1 : Nat) (tm' : Tok) (y4 : Option Value) (y5 : Option Value) (y6 : Option Value) (e0 : Sub h₂ h₃) (e1 : TmAt h₃ uv' u') (e2 : Terms h₃ pv' ps') (e3 : t.N = (Tm.spn u' ps').N) (e4 : t.F = f0 + 1 + (Tm.spn u' ps').F) (e5 : t.M = m1 + 1 + (Tm.spn u' ps').M) (e6 : (Tm.spn u' ps').sz < (Tm.spn (.leaf s) ps1).sz) (e7 : Wd w h₃ [(L, Loc names70 [some uv', some (.ref Pt), some (.int (f0 : Nat) tf), some (.int (m1 : Nat) tm'), y4, y5, y6, none, none, none, none, none, none]), (Pt, LstO pv')] h')
inductive RcD (w : World) (h₂ : Heap) (t : Tm) (s : Lf) (tk : Tok) (x4 x5 x6 : Option Value) (L Pt : Addr) (k : Nat) (h' : Heap) : Prop
  | mk (ps : List Tm) (pv : List Value) (wt : Tm) (f1 : Nat) (m1 : Nat) (tw : Tok) (tf : Tok) (tm : Tok) (x8 : Option Value) (e0 : k = ps.length) (e1 : Terms h₂ pv ps) (e2 : (∀ y ∈ ps, y.sz < t.sz)) (e3 : ps.length ≤ 13) (e4 : t.N = Tm.spnN wt ps) (e5 : t.F = f1 + (ps.map Tm.F).sum) (e6 : t.M = m1 + (ps.map Tm.M).sum) (e7 : Wd w h₂ [(L, Loc names70 [some (.str ⟨#[s.cp]⟩ tk), some (.ref Pt), some (.int (f1 : Nat) tf), some (.int (m1 : Nat) tm), x4, x5, x6, some (.str wt.str tw), x8, none, none, none, none]), (Pt, LstO pv)] h')
theorem reckoned_spec : ∀ (n : Nat) (t : Tm), t.sz ≤ n → ∀ {A : Around} {h : Heap} {v : Value} {m : Nat} {R : Value → Heap → Prop} (ha : TmAt h v t) (hz : t.sz ≤ 13) (g : Gd w h) (tb : Tabs h) (ok : Ok A (m + 1)) (hm : t.sz ≤ m)
    (q : ∀ p h' k1 k2 k3, Keeps h h' → Tabs h' → h.get? p = none → okA p → IsTpl h' p [.str t.N.str k1, .int (t.F : Nat) k2, .int (t.M : Nat) k3] → R (.ref p) h'), T prog w A (call (.ref 156) [v]) R h
  | 0, t, hn, _, _, _, _, _, _, _, _, _, _, _, _ => by have := t.sz_pos; omega
  | n + 1, t, hn, A, h, v, m, R, ha, hz, g, tb, ok, hm, q => by
    refine call_fn 1 (g.fn ("_law_reckoned", 156, 155, 70) (by decide)) g tb ok fo70 rfl (fun _ _ _ => rfl) ?_
    intro L env h₀ h₁ S _ hb' _ W ok'
    replace W : Wd w h₀ [(L, Loc names70 [some v, none, none, none, none, none, none, none, none, none, none, none, none])] h₁ := W
    replace S : Sc env L names70 := S
    replace ha := ha.hb hb' tb
    obtain ⟨m, rfl⟩ : ∃ m', m = m' + 1 := ⟨m - 1, by have := t.sz_pos; (first | exact Mine.w438 hm this | omega)⟩
    refine x_assign <| e_list <| a_nil <| new_list W lz fun Pt h₂ _ W => s_loc 1 S W rfl rfl fun h₃ W => ?_
    refine x_assign <| e_int fun tf => s_loc 2 S W rfl rfl fun h₄ W => x_assign <| e_int fun tm => s_loc 3 S W rfl rfl fun h₅ W => ?_
    refine x_while (RcA w h₀ t L Pt) ?_ t.sz
      ⟨h₀, t, v, [], [], 0, 0, tf, tm, none, none, none, rfl, (fun _ _ e => e), ha, Terms.nil, rfl, (Nat.zero_add _).symm, (Nat.zero_add _).symm, Nat.le_refl _, W⟩
    rintro k h₆ ⟨h₂, u, uv, ps, pv, f0, m0, tf, tm, x4, x5, x6, rfl, hsb, hu, hps, hN, hF, hM, hsz, W⟩
    refine T_gen fun R₁ r₁ => ?_
    refine b_expr <| e_bool <| b_bool <| r₁ _ _ ?_
    clear r₁ R₁
    refine T_gen fun Q₂ q₂ => ?_
    refine x_while (RcB w h₂ u ps f0 m0 tf tm x4 x5 x6 L Pt) ?_ u.sz ⟨u, uv, ps, pv, rfl, hu, hps, rfl, W⟩
    rintro k h₇ ⟨u1, uv, ps1, pv, rfl, hu, hps, hspn, W⟩
    rw [← hspn] at hN hF hM hsz
    refine T_gen fun R₃ r₃ => ?_
    have hlen : ps1.length ≤ 13 := by rw [Tm.sz_spn] at hsz; (first | exact Mine.w439 hz hsz | omega)
    have hpl := hps.1
    cases u1 with
    | app f x =>
      obtain ⟨a, va, vb, rfl, ht, h1, h2⟩ := hu
      refine b_expr <| e_call <| n_bi 9 S W rfl (by decide) <| cw_bi <| a_cons <| n_loc 0 S W rfl rfl <| a_cons <| n_bi 10 S W rfl (by decide) <| a_nil <| is_tup (ht.sub W.keep) <| b_bool <| r₃ _ _ ?_
      clear r₃ R₃
      refine T_gen fun Q₃ q₃ => ?_
      refine x_expr S <| e_meth _ rfl <| n_loc 1 S W rfl rfl <| gm_list (W.lstO 1 rfl) PySem.F.slot_list_append PySem.F.type_list_append <| cw_bi <| a_cons <| e_sub <| n_loc 0 S W rfl rfl <| e_int fun _ => i_tup (ht.sub W.keep) (by decide) rfl lz <| a_nil <| c_append 1 W rfl (by first | decide | (first | exact Mine.w119 hlen hpl | omega)) fun h₈ W => ?_
      refine x_assign <| e_sub <| n_loc 0 S W rfl rfl <| e_int fun _ => i_tup (ht.sub W.keep) (by decide) rfl lz <| s_loc 0 S W rfl rfl fun h₉ W => x_nil ?_
      exact q₃ _ _ ⟨f.sz, by simp only [Tm.sz]; have := x.sz_pos; (first | exact Mine.w200 | omega), f, va, ps1 ++ [x], pv ++ [vb], rfl, h1, hps.snoc h2, by rw [Tm.spn_snoc, hspn], W⟩
    | leaf s =>
      obtain ⟨tk, rfl⟩ := hu
      refine b_expr <| e_call <| n_bi 9 S W rfl (by decide) <| cw_bi <| a_cons <| n_loc 0 S W rfl rfl <| a_cons <| n_bi 10 S W rfl (by decide) <| a_nil <| is_str <| b_bool <| r₃ _ _ ?_
      clear r₃ R₃
      refine x_if <| b_andp (decide ((⟨#[s.cp]⟩ : Str) = Str.ofString "%")) (decide ((pv.length : Int) > 1)) (fun R' r => b_cmp <| n_loc 0 S W rfl rfl <| e_str fun _ => c_eqs <| b_bool r)
        (fun R' r => b_cmp <| e_call <| n_bi 11 S W rfl (by decide) <| cw_bi <| a_cons <| n_loc 1 S W rfl rfl <| a_nil <| c_len (W.lst 1 rfl) (by first | decide | (first | exact Mine.w119 hlen hpl | omega)) fun _ => e_int fun _ => c_gt <| b_bool r) ?_
      have ec1 : decide ((⟨#[s.cp]⟩ : Str) = Str.ofString "%") = decide (s = .pct) := by cases s <;> decide
      have ec2 : (Str.ofString "*" == (⟨#[s.cp]⟩ : Str) || Str.ofString "~" == (⟨#[s.cp]⟩ : Str)) = decide (s = .star ∨ s = .tilde) := by cases s <;> decide
      rw [ec1]
      by_cases hr : (s = .pct ∧ 2 ≤ ps1.length) ∨ ((s = .star ∨ s = .tilde) ∧ 3 ≤ ps1.length)
      · refine x_cut (RcC w h₂ t s ps1 f0 tf L Pt) ?_ ?_
        · refine T_gen fun Q₄ q₄ => ?_
          rcases hr with ⟨rfl, hl2⟩ | ⟨hs, hl3⟩
          · rw [show (decide (Lf.pct = Lf.pct) && decide ((pv.length : Int) > 1)) = true by simp; (first | exact Mine.w440 hpl hl2 | omega)]
            obtain ⟨l1, x, rfl⟩ := snoc_of (show 1 ≤ ps1.length by (first | exact Mine.w441 hl2 | omega))
            obtain ⟨ts, y, rfl⟩ := snoc_of (show 1 ≤ l1.length by simp at hl2; (first | exact Mine.w442 hl2 | omega))
            obtain ⟨pv1, vx, rfl, hps1, hx⟩ := hps.unsnoc
            obtain ⟨vs, vy, rfl, hps2, hy⟩ := hps1.unsnoc
            have hst : Tm.hstep (Tm.spn (.leaf .pct) (ts ++ [y] ++ [x])) = some (Tm.spn x ts, [y]) := by rw [Tm.spn_snoc, Tm.spn_snoc]; exact Tm.hstep_spn rfl ts
            have hss := Tm.hstep_sz hst
            have hys := hss.2 y (.head _)
            simp only [List.length_append, List.length_cons, List.length_nil] at hlen hpl
            refine x_assign <| e_meth _ rfl <| n_loc 1 S W rfl rfl <| gm_list (W.lstO 1 rfl) PySem.F.slot_list_pop PySem.F.type_list_pop <| cw_bi0 <| c_pop 1 W rfl (by simp; (first | exact Mine.w443 hlen hpl | omega)) fun h' W =>  s_loc 0 S W rfl rfl fun h₈ W => ?_
            refine x_aug <| l_loc 3 S W rfl rfl <| e_sub <| e_call <| n_fn 12 S W rfl (by decide : (Str.ofString "_law_reckoned", 156, 155, 70) ∈ fnTab) <| cw_fn <| a_cons <| e_meth _ rfl <| n_loc 1 S W rfl rfl <| gm_list (W.lstO 1 rfl) PySem.F.slot_list_pop PySem.F.type_list_pop <| cw_bi0 <| c_pop 1 W rfl (by first | decide | (first | exact Mine.w444 hlen hpl | omega)) fun h' W =>  a_nil ⟨(W.G.fn ("_law_reckoned", 156, 155, 70) (by decide)).isFn, ?_⟩
            refine reckoned_spec n y (by first | decide | (first | exact Mine.w445 hn hsz hys | omega)) (hy.sub W.keep) (by first | decide | (first | exact Mine.w446 hz hsz hys | omega)) W.G W.tb ok' (by first | decide | (first | exact Mine.w445 hm hsz hys | omega)) fun p h₉ k1 k2 k3 kp tb₉ _ _ ht => ?_
            replace W := W.call kp tb₉
            refine e_int fun _ => i_tup ht (by decide) rfl lz <| o_iadd fun tm' => ?_
            rw [show ((m0 : Nat) : Int) + ((y.M : Nat) : Int) = ((m0 + y.M : Nat) : Int) by (first | exact Mine.w447 | omega)]
            refine s_loc 3 S W rfl rfl fun h₁₀ W => x_nil <| q₄ _ _ ⟨rfl, h₂, x, vx, ts, vs, m0 + y.M, tm', x4, x5, x6, (fun _ _ e => e), hx, hps2, ?_, ?_, ?_, hss.1, W⟩
            · rw [hN, Tm.N_some hst]
            · rw [hF, Tm.F_some hst]; (first | exact Mine.w448 | omega)
            · rw [hM, Tm.M_some1 hst]; (first | exact Mine.w449 | omega)
          · have hne : s ≠ .pct := by rintro rfl; rcases hs with h | h <;> cases h
            rw [show (decide (s = Lf.pct) && decide ((pv.length : Int) > 1)) = false by simp [hne]]
            obtain ⟨l1, x, rfl⟩ := snoc_of (show 1 ≤ ps1.length by (first | exact Mine.w450 hl3 | omega))
            obtain ⟨l2, y, rfl⟩ := snoc_of (show 1 ≤ l1.length by simp at hl3; (first | exact Mine.w441 hl3 | omega))
            obtain ⟨ts, z, rfl⟩ := snoc_of (show 1 ≤ l2.length by simp at hl3; (first | exact Mine.w442 hl3 | omega))
            obtain ⟨pv1, vx, rfl, hps1, hx⟩ := hps.unsnoc
            obtain ⟨pv2, vy, rfl, hps2, hy⟩ := hps1.unsnoc
            obtain ⟨vs, vz, rfl, hps3, hz'⟩ := hps2.unsnoc
            simp only [List.length_append, List.length_cons, List.length_nil] at hlen hpl
            refine x_if <| b_and2 <| b_cmp <| n_loc 0 S W rfl rfl <| e_tuple <| a_cons <| e_str fun _ => a_cons <| e_str fun _ => a_nil <| new_tuple W lz fun Tp h₈ _ W => c_in2s (W.tpl 1 rfl) <| b_bool ?_
            rw [ec2, show decide (s = .star ∨ s = .tilde) = true by simpa using hs]
            replace W := W.sub (.cons_cons _ (.cons _ (.refl _)))
            refine b_cmp <| e_call <| n_bi 11 S W rfl (by decide) <| cw_bi <| a_cons <| n_loc 1 S W rfl rfl <| a_nil <| c_len (W.lst 1 rfl) (by simp; (first | exact Mine.w451 hlen hpl | omega)) fun _ => e_int fun _ => c_gt <| b_bool ?_
            rw [show decide (((vs ++ [vz] ++ [vy] ++ [vx]).length : Int) > 2) = true by simp; (first | exact Mine.w452 | omega)]
            refine x_assign <| e_meth _ rfl <| n_loc 1 S W rfl rfl <| gm_list (W.lstO 1 rfl) PySem.F.slot_list_pop PySem.F.type_list_pop <| cw_bi0 <| c_pop 1 W rfl (by simp; (first | exact Mine.w453 hlen hpl | omega)) fun h' W =>  s_loc 4 S W rfl rfl fun h₉ W => ?_
            refine x_assign <| e_meth _ rfl <| n_loc 1 S W rfl rfl <| gm_list (W.lstO 1 rfl) PySem.F.slot_list_pop PySem.F.type_list_pop <| cw_bi0 <| c_pop 1 W rfl (by simp; (first | exact Mine.w454 hlen hpl | omega)) fun h' W =>  s_loc 5 S W rfl rfl fun h₉ W => ?_
            refine x_assign <| e_meth _ rfl <| n_loc 1 S W rfl rfl <| gm_list (W.lstO 1 rfl) PySem.F.slot_list_pop PySem.F.type_list_pop <| cw_bi0 <| c_pop 1 W rfl (by first | decide | (first | exact Mine.w455 hlen hpl | omega)) fun h' W =>  s_loc 6 S W rfl rfl fun h₉ W => ?_
            have ec3 : decide ((⟨#[s.cp]⟩ : Str) = Str.ofString "*") = decide (s = .star) := by cases s <;> decide
            refine x_if <| b_cmp <| n_loc 0 S W rfl rfl <| e_str fun _ => c_eqs <| b_bool ?_
            rw [ec3]
            rcases hs with rfl | rfl
            · have hst : Tm.hstep (Tm.spn (.leaf .star) (ts ++ [z] ++ [y] ++ [x])) = some (Tm.spn (.app x (.app y z)) ts, []) := by rw [Tm.spn_snoc, Tm.spn_snoc, Tm.spn_snoc]; exact Tm.hstep_spn rfl ts
              have hss := Tm.hstep_sz hst
              refine x_expr S <| e_meth _ rfl <| n_loc 1 S W rfl rfl <| gm_list (W.lstO 1 rfl) PySem.F.slot_list_append PySem.F.type_list_append <| cw_bi <| a_cons <| e_tuple <| a_cons <| n_loc 5 S W rfl rfl <| a_cons <| n_loc 6 S W rfl rfl <| a_nil <| new_tuple W lz fun Tq h₁₀ _ W => a_nil <| c_append 2 W rfl (by first | decide | (first | exact Mine.w455 hlen hpl | omega)) fun h₁₁ W => x_nil_seq <| ?_
              refine x_assign <| n_loc 4 S W rfl rfl <| s_loc 0 S W rfl rfl fun h₁₂ W => x_nil_seq <| x_nil ?_
              have hTq := W.tpl 1 rfl
              have nT : Tq ∉ [L, Pt] := by
                have h1 := W.ne 1 0 rfl rfl
                have h2 := W.ne 1 2 rfl rfl
                simp; exact ⟨h1, h2⟩
              have okT : okA Tq := W.lo _ (.tail _ (.head _))
              obtain ⟨h₃, sb3, _, gt3, W⟩ := W.freeze (rs' := [_, _]) (.cons_cons _ (.cons _ (.refl _)))
              obtain ⟨oT, eT, pT⟩ := hTq
              have hT : TmAt h₃ (.ref Tq) (.app y z) := ⟨Tq, vy, vz, rfl, ⟨oT, gt3 _ _ eT okT.ne.1 okT.ne.2 nT, pT⟩, hy.sub sb3, hz'.sub sb3⟩
              refine q₄ _ _ ⟨rfl, h₃, x, vx, ts ++ [Tm.app y z], vs ++ [Value.ref Tq], m0, tm, some vx, some vy, some vz, sb3, hx.sub sb3, (hps3.sub sb3).snoc hT, ?_, ?_, ?_, ?_, W⟩
              · rw [hN, Tm.N_some hst, Tm.spn_snoc]
              · rw [hF, Tm.F_some hst, Tm.spn_snoc]; (first | exact Mine.w448 | omega)
              · rw [hM, Tm.M_some0 hst, Tm.spn_snoc]; (first | exact Mine.w448 | omega)
              · rw [Tm.spn_snoc]; exact hss.1
            · have hst : Tm.hstep (Tm.spn (.leaf .tilde) (ts ++ [z] ++ [y] ++ [x])) = some (Tm.spn (.app (.app x z) y) ts, []) := by rw [Tm.spn_snoc, Tm.spn_snoc, Tm.spn_snoc]; exact Tm.hstep_spn rfl ts
              have hss := Tm.hstep_sz hst
              refine x_expr S <| e_meth _ rfl <| n_loc 1 S W rfl rfl <| gm_list (W.lstO 1 rfl) PySem.F.slot_list_append PySem.F.type_list_append <| cw_bi <| a_cons <| n_loc 5 S W rfl rfl <| a_nil <| c_append 1 W rfl (by first | decide | (first | exact Mine.w455 hlen hpl | omega)) fun h₁₀ W => ?_
              refine x_expr S <| e_meth _ rfl <| n_loc 1 S W rfl rfl <| gm_list (W.lstO 1 rfl) PySem.F.slot_list_append PySem.F.type_list_append <| cw_bi <| a_cons <| n_loc 6 S W rfl rfl <| a_nil <| c_append 1 W rfl (by simp; (first | exact Mine.w454 hlen hpl | omega)) fun h₁₁ W => x_nil_seq <| ?_
              refine x_assign <| n_loc 4 S W rfl rfl <| s_loc 0 S W rfl rfl fun h₁₂ W => x_nil_seq <| x_nil ?_
              refine q₄ _ _ ⟨rfl, h₂, x, vx, ts ++ [y] ++ [z], vs ++ [vy] ++ [vz], m0, tm, _, _, _, (fun _ _ e => e), hx, (hps3.snoc hy).snoc hz', ?_, ?_, ?_, ?_, W⟩
              · rw [hN, Tm.N_some hst, Tm.spn_snoc, Tm.spn_snoc]
              · rw [hF, Tm.F_some hst, Tm.spn_snoc, Tm.spn_snoc]; (first | exact Mine.w448 | omega)
              · rw [hM, Tm.M_some0 hst, Tm.spn_snoc, Tm.spn_snoc]; (first | exact Mine.w448 | omega)
              · rw [Tm.spn_snoc, Tm.spn_snoc]; exact hss.1
        · rintro h₈ ⟨h₃, u', uv', ps', pv', m1, tm', y4, y5, y6, sb3, hu', hps', hN', hF', hM', hlt, W⟩
          refine x_aug <| l_loc 2 S W rfl rfl <| e_int fun _ => o_iadd fun tf' => s_loc 2 S W rfl rfl fun h₉ W => ?_
          refine x_aug <| l_loc 3 S W rfl rfl <| e_int fun _ => o_iadd fun tm'' => s_loc 3 S W rfl rfl fun h₁₀ W => x_nil ?_
          rw [show ((f0 : Nat) : Int) + 1 = ((f0 + 1 : Nat) : Int) by (first | exact Mine.w33 | omega), show ((m1 : Nat) : Int) + 1 = ((m1 + 1 : Nat) : Int) by (first | exact Mine.w33 | omega)] at W
          exact q₂ _ _ ⟨(Tm.spn u' ps').sz, by rw [← hspn]; exact hlt, h₃, u', uv', ps', pv', f0 + 1, m1 + 1, tf', tm'', y4, y5, y6, rfl, hsb.trans sb3, hu', hps', hN', hF', hM', by (first | exact Mine.w257 hsz hlt | omega), W⟩
      · have hnr : Tm.nored s ps1.length := ⟨fun z => Nat.lt_of_not_le fun q => hr (.inl ⟨z, q⟩), fun z => Nat.lt_of_not_le fun q => hr (.inr ⟨.inl z, q⟩), fun z => Nat.lt_of_not_le fun q => hr (.inr ⟨.inr z, q⟩)⟩
        have hno := Tm.spn_none hnr
        rw [show (decide (s = Lf.pct) && decide ((pv.length : Int) > 1)) = false by
          rw [Bool.eq_false_iff]; intro hb; simp at hb; have := hnr.1 hb.1; omega]
        refine x_if <| b_andf (fun h' => Wd w h₂ [(L, Loc names70 [some (.str ⟨#[s.cp]⟩ tk), some (.ref Pt), some (.int (f0 : Nat) tf), some (.int (m0 : Nat) tm), x4, x5, x6, none, none, none, none, none, none]), (Pt, LstO pv)] h') (b_cmp <| n_loc 0 S W rfl rfl <| e_tuple <| a_cons <| e_str fun _ => a_cons <| e_str fun _ => a_nil <| new_tuple W lz fun Tp h₈ _ W => c_in2s (W.tpl 1 rfl) <| b_bool ?_) ?_
        · rw [ec2]
          replace W := W.sub (.cons_cons _ (.cons _ (.refl _)))
          by_cases hs : s = .star ∨ s = .tilde
          · rw [show decide (s = .star ∨ s = .tilde) = true by simpa using hs]
            refine b_cmp <| e_call <| n_bi 11 S W rfl (by decide) <| cw_bi <| a_cons <| n_loc 1 S W rfl rfl <| a_nil <| c_len (W.lst 1 rfl) (by first | decide | (first | exact Mine.w119 hlen hpl | omega)) fun _ => e_int fun _ => c_gt <| b_bool ⟨?_, W⟩
            have : ps1.length < 3 := hs.elim hnr.2.1 hnr.2.2
            simp; (first | exact Mine.w456 hpl this | omega)
          · rw [show decide (s = .star ∨ s = .tilde) = false by simpa using hs]
            exact W
        intro h₈ W
        refine x_brk <| q₂ _ _ ?_
        show T prog w _ (execs _ env) _ h₈
        clear q₂ Q₂
        rw [Tm.N_spn hno] at hN
        rw [Tm.F_spn hno] at hF
        rw [Tm.M_spn hno] at hM
        have hmem : ∀ y ∈ ps1, y.sz < t.sz := fun y hy => by
          have := mem_asz hy
          rw [Tm.sz_spn] at hsz
          have : 0 < (Tm.leaf s).sz := Tm.sz_pos _
          (first | exact Mine.w457 hsz (by assumption) this | omega)
        have hNz := Tm.N_le t.sz t (Nat.le_refl _)
        refine x_assign <| n_loc 0 S W rfl rfl <| s_loc 7 S W rfl rfl fun h₉ W => ?_
        refine x_while (RcD w h₂ t s tk x4 x5 x6 L Pt) ?_ ps1.length
          ⟨ps1, pv, .leaf s, f0, m0, tk, tf, tm, none, rfl, hps, hmem, hlen, hN, hF, hM, W⟩
        rintro k h₁₀ ⟨ps, pv, wt, f1, m1, tw, tf, tm, x8, rfl, hps, hmem, hlen, hN, hF, hM, W⟩
        have hpl := hps.1
        refine b_expr <| n_loc 1 S W rfl rfl <| b_list (W.lst 1 rfl) (by first | decide | (first | exact Mine.w119 hlen hpl | omega)) ?_
        by_cases hp0 : ps = []
        · subst hp0
          have : pv = [] := List.length_eq_zero_iff.mp hpl
          subst this
          refine x_ret <| e_tuple <| a_cons <| n_loc 7 S W rfl rfl <| a_cons <| n_loc 2 S W rfl rfl <| a_cons <| n_loc 3 S W rfl rfl <| a_nil <| new_tuple W lz fun p h₁₁ hp W => ?_
          show R (.ref p) h₁₁
          have e1 : t.N = wt := hN
          have e2 : t.F = f1 := by rw [hF]; rfl
          have e3 : t.M = m1 := by rw [hM]; rfl
          have hbb : Hb h h₂ := fun b o e n1 n2 => hsb b o (hb' b o e n1 n2)
          refine q p h₁₁ tw tf tm (keeps_of hbb W.keep) W.tb (W.fresh (i := 1) rfl hbb) (W.lo _ (.tail _ (.head _))) ?_
          rw [e1, e2, e3]
          exact W.tpl 1 rfl
        · have hp1 : 1 ≤ ps.length := by cases ps with
            | nil => exact absurd rfl hp0
            | cons => simp
          obtain ⟨ts, y, rfl⟩ := snoc_of hp1
          obtain ⟨vs, vy, rfl, hps2, hy⟩ := hps.unsnoc
          rw [show (!(vs ++ [vy]).isEmpty) = true by simp]
          have hys := hmem y (by simp)
          simp only [List.length_append, List.length_cons, List.length_nil] at hlen hpl
          refine x_assign <| e_call <| n_fn 12 S W rfl (by decide : (Str.ofString "_law_reckoned", 156, 155, 70) ∈ fnTab) <| cw_fn <| a_cons <| e_meth _ rfl <| n_loc 1 S W rfl rfl <| gm_list (W.lstO 1 rfl) PySem.F.slot_list_pop PySem.F.type_list_pop <| cw_bi0 <| c_pop 1 W rfl (by first | decide | (first | exact Mine.w458 hlen hpl | omega)) fun h' W =>  a_nil ⟨(W.G.fn ("_law_reckoned", 156, 155, 70) (by decide)).isFn, ?_⟩
          refine reckoned_spec n y (by first | decide | (first | exact Mine.w6 hn hys | omega)) (hy.sub W.keep) (by first | decide | (first | exact Mine.w331 hz hys | omega)) W.G W.tb ok' (by first | decide | (first | exact Mine.w6 hm hys | omega)) fun p h₁₁ k1 k2 k3 kp tb₁₁ hp okp ht => ?_
          obtain ⟨oT, eT, pT⟩ := ht
          replace W := W.callNew kp tb₁₁ hp okp eT pT (fun _ => TupO.safe)
          have hwz : wt.sz + y.N.sz + 1 ≤ 13 := by
            rw [Tm.spnN_snoc] at hN
            have := sz_spnN (Tm.app wt y.N) ts
            rw [← hN] at this; simp only [Tm.sz] at this; (first | exact Mine.w459 hz hNz this | omega)
          refine s_loc 8 S W rfl rfl fun h₁₂ W => ?_
          refine x_assign <| e_bin <| e_bin <| e_str fun _ => n_loc 7 S W rfl rfl <| o_strs (by rw [Tm.str_len, show (Str.ofString "\\").length = 1 from by decide]; (first | exact Mine.w460 hwz | omega)) fun _ => e_sub <| n_loc 8 S W rfl rfl <| e_int fun _ => i_tup (W.tpl 1 rfl) (by decide) rfl lz <| o_strs ?_ fun tw' => ?_
          · have : (Str.ofString "\\" ++ wt.str).length = 1 + wt.sz := by
              have : (Str.ofString "\\") = ⟨#[92]⟩ := by decide
              rw [this]; show (#[92] ++ wt.chars.toArray).size = _; simp [wt.chars_len]; (first | exact Mine.w350 | omega)
            rw [this, Tm.str_len]; (first | exact Mine.w461 hwz | omega)
          rw [← Tm.str_app]
          refine s_loc 7 S W rfl rfl fun h₁₃ W => ?_
          refine x_aug <| l_loc 2 S W rfl rfl <| e_sub <| n_loc 8 S W rfl rfl <| e_int fun _ => i_tup (W.tpl 1 rfl) (by decide) rfl lz <| o_iadd fun tf' => s_loc 2 S W rfl rfl fun h₁₄ W => ?_
          refine x_aug <| l_loc 3 S W rfl rfl <| e_sub <| n_loc 8 S W rfl rfl <| e_int fun _ => i_tup (W.tpl 1 rfl) (by decide) rfl lz <| o_iadd fun tm' => s_loc 3 S W rfl rfl fun h₁₅ W => x_nil ?_
          rw [show ((f1 : Nat) : Int) + ((y.F : Nat) : Int) = ((f1 + y.F : Nat) : Int) by (first | exact Mine.w447 | omega), show ((m1 : Nat) : Int) + ((y.M : Nat) : Int) = ((m1 + y.M : Nat) : Int) by (first | exact Mine.w447 | omega)] at W
          refine ⟨ts.length, by simp, ts, vs, .app wt y.N, f1 + y.F, m1 + y.M, tw', tf', tm', _, rfl, hps2, fun z hz => hmem z (by simp [hz]), by (first | exact Mine.w462 hlen | omega), by rw [hN, Tm.spnN_snoc], ?_, ?_, W.sub (.cons_cons _ (.cons _ (.refl _)))⟩
          · rw [hF]; simp; (first | exact Mine.w463 | omega)
          · rw [hM]; simp; (first | exact Mine.w463 | omega)
end Mine
end

section
namespace Mine
open PySem PySem.W PyProof.Rows
variable {prog : Program} {w : World} {A : Around} {h h₀ : Heap} {env : Env} {R : Value → Heap → Prop} {Q : Flow → Heap → Prop} {pos : Pos}

theorem Ints.pairs : ∀ {vs : List Value} {ds : List Int}, Ints vs ds → ∃ ps : List (Int × Tok), vs = ps.map (fun p => Value.int p.1 p.2) ∧ ds = ps.map (·.1)
  | [], [], _ => ⟨[], rfl, rfl⟩
  | v :: vs, [], x => by have := x.1; simp at this
  | [], d :: ds, x => by have := x.1; simp at this
  | v :: vs, d :: ds, x => by
    obtain ⟨t, e⟩ := x.2 0 d rfl
    cases e
    obtain ⟨ps, e1, e2⟩ := Ints.pairs (vs := vs) (ds := ds) ⟨Nat.succ.inj x.1, fun i d' hd => x.2 (i + 1) d' hd⟩
    exact ⟨(d, t) :: ps, by rw [e1]; rfl, by rw [e2]; rfl⟩
/-- the greatest of a list of ints -/
theorem c_maxl {l : Addr} {vs : List Value} {ns : List Int} (hh : A.handled = none) (hl : IsLst h l vs) (hi : Ints vs ns) (hne : 0 < ns.length) (q : ∀ h' M t, Sub h h' → M ∈ ns → (∀ a ∈ ns, a ≤ M) → R (.int M t) h') :
    T prog w A (call (.builtin "max") [.ref l]) R h := by
  intro g d k os
  obtain ⟨ps, rfl, rfl⟩ := hi.pairs
  have len : 0 < ps.length := by simpa using hne
  have num : ∀ (i : Nat) (lt : i < ps.length), numAt ps.toArray i = ps[i].1 := fun i lt => by simp [numAt, lt]
  have best := argBest_gt (numAt ps.toArray) (ps.length - 1)
  have inside : argBest (fun i j => decide (numAt ps.toArray i > numAt ps.toArray j)) (ps.length - 1) < ps.length := Nat.lt_of_le_of_lt best.1 (Nat.sub_lt len Nat.one_pos)
  have items : (ps.map fun p => Value.int p.1 p.2).toArray = intItems ps.toArray := by simp [intItems]
  refine max_intList (xs := ps.toArray) hh (items ▸ hl.list) len fun v h' tk at_ kept => ?_
  cases intItems_at at_ with
  | intro t e =>
    subst e
    refine ⟨h', tk, rfl, q h' _ t kept ?_ fun a ha => ?_⟩
    · show numAt ps.toArray (argBest _ (ps.length - 1)) ∈ _
      rw [num _ inside]; exact List.mem_map_of_mem (List.getElem_mem inside)
    · obtain ⟨p, hp, rfl⟩ := List.mem_map.mp ha
      obtain ⟨j, lt, rfl⟩ := List.getElem_of_mem hp
      exact num j lt ▸ best.2 j (Nat.le_sub_one_of_lt lt)
theorem c_max2 {a b : Int} {t u : Tok} (hh : A.handled = none) (q : ∀ h' k, Sub h h' → R (.int (if b > a then b else a) k) h') : T prog w A (call (.builtin "max") [.int a t, .int b u]) R h :=
  fun _ _ _ _ => max_two_ints hh fun h' tk hk => ⟨_, _, rfl, by
    by_cases c : b > a
    · have := q h' u hk; rw [if_pos c] at this ⊢; exact this
    · have := q h' t hk; rw [if_neg c] at this ⊢; exact this⟩
-- words can be read back
theorem chars_inj : ∀ {t u : Tm} {r r' : List Nat}, t.chars ++ r = u.chars ++ r' → t = u ∧ r = r'
  | .leaf s, .leaf s', r, r', h => by
    simp only [Tm.chars, List.cons_append, List.nil_append, List.cons.injEq] at h
    exact ⟨by rw [Lf.cp_inj h.1], h.2⟩
  | .leaf s, .app f x, r, r', h => by
    simp only [Tm.chars, List.cons_append, List.nil_append, List.cons.injEq] at h
    exact absurd h.1 s.cp_ne
  | .app f x, .leaf s, r, r', h => by
    simp only [Tm.chars, List.cons_append, List.nil_append, List.cons.injEq] at h
    exact absurd h.1.symm s.cp_ne
  | .app f x, .app g y, r, r', h => by
    simp only [Tm.chars, List.cons_append, List.append_assoc, List.cons.injEq] at h
    obtain ⟨h1, h2⟩ := chars_inj h.2
    obtain ⟨h3, h4⟩ := chars_inj h2
    exact ⟨by rw [h1, h3], h4⟩
theorem str_inj {t u : Tm} (h : t.str = u.str) : t = u := by
  have h1 : t.chars.toArray = u.chars.toArray := by injection h
  have h2 : t.chars = u.chars := by simpa using h1
  exact (chars_inj (r := []) (r' := []) (by rw [h2])).1
-- lists of strs
def Strs (vs : List Value) (ss : List Str) : Prop := vs.length = ss.length ∧ ∀ (i : Nat) (s : Str), ss[i]? = some s → ∃ t, vs[i]? = some (.str s t)
theorem Strs.nil : Strs [] [] := ⟨rfl, fun i d h => by simp at h⟩
theorem Strs.snoc {vs : List Value} {ss : List Str} {s : Str} {t : Tok} (x : Strs vs ss) : Strs (vs ++ [.str s t]) (ss ++ [s]) := by
  refine ⟨by simp [x.1], fun i d hd => ?_⟩
  by_cases hi : i < ss.length
  · rw [List.getElem?_append_left hi] at hd
    rw [List.getElem?_append_left (by rw [x.1]; exact hi)]; exact x.2 i d hd
  · rw [List.getElem?_append_right (by first | decide | (first | exact Mine.w12 hi | omega))] at hd
    cases hz : i - ss.length with
    | zero => rw [hz] at hd; simp at hd; subst hd; exact ⟨t, by rw [List.getElem?_append_right (by rw [x.1]; (first | exact Mine.w12 hi | omega)), x.1, hz]; rfl⟩
    | succ k => rw [hz] at hd; simp at hd
-- dicts by str
theorem valueAt_stored {K : Type} [DecidableEq K] (kvs : List (K × Value)) (k k' : K) (v : Value) : valueAt (stored kvs k v) k' = if k' = k then some v else valueAt kvs k' := by
  unfold stored valueAt
  split
  · rename_i h
    induction kvs with
    | nil => simp at h
    | cons p l ih =>
      simp only [List.map_cons, List.find?_cons]
      by_cases hp : p.1 = k
      · by_cases hk : k' = k
        · subst hk; simp [hp]
        · have hk2 : ¬ (k = k') := fun e => hk e.symm
          simp only [hp, if_true, hk2, decide_false, hk, if_false]
          by_cases hl : l.any (fun kv => kv.1 = k) = true
          · have := ih hl; rw [if_neg hk] at this; exact this
          · have : l.map (fun kv => if kv.1 = k then (kv.1, v) else kv) = l := by
              refine (List.map_congr_left fun a ha => ?_).trans (List.map_id _)
              rw [if_neg]; rfl
              intro e; exact hl (List.any_eq_true.mpr ⟨a, ha, by simpa using e⟩)
            rw [this]
      · have hl : l.any (fun kv => kv.1 = k) = true := by simpa [hp] using h
        have ih := ih hl
        rw [if_neg hp]
        by_cases hpk : p.1 = k'
        · have : ¬ k' = k := by rw [← hpk]; exact hp
          simp [hpk, this]
        · simp only [hpk, decide_false]; exact ih
  · rename_i h
    rw [List.find?_append]
    by_cases hk : k' = k
    · subst hk
      have : kvs.find? (fun kv => decide (kv.1 = k')) = none := by
        rw [List.find?_eq_none]; intro p hp e
        exact h (List.any_eq_true.mpr ⟨p, hp, e⟩)
      rw [this]; simp
    · have hk2 : ¬ (k = k') := fun e => hk e.symm
      simp [hk, hk2]
theorem stored_len {K : Type} [DecidableEq K] (kvs : List (K × Value)) (k : K) (v : Value) : (stored kvs k v).length ≤ kvs.length + 1 := by
  unfold stored; split <;> simp
theorem stored_new {K : Type} [DecidableEq K] {kvs : List (K × Value)} {k : K} (h : valueAt kvs k = none) (v : Value) : stored kvs k v = kvs ++ [(k, v)] := by
  unfold stored
  rw [if_neg]
  intro e
  obtain ⟨p, hp, e⟩ := List.any_eq_true.mp e
  unfold valueAt at h
  rw [Option.map_eq_none_iff, List.find?_eq_none] at h
  exact h p hp e
theorem valueAt_at {K : Type} [DecidableEq K] {kvs : List (K × Value)} (nd : (kvs.map (·.1)).Nodup) {i : Nat} {k : K} {v : Value} (h : kvs[i]? = some (k, v)) : valueAt kvs k = some v := by
  unfold valueAt
  induction kvs generalizing i with
  | nil => simp at h
  | cons p l ih =>
    rw [List.map_cons, List.nodup_cons] at nd
    cases i with
    | zero => simp at h; subst h; simp
    | succ i =>
      simp only [List.getElem?_cons_succ] at h
      have hne : ¬ p.1 = k := by
        intro e
        exact nd.1 (e ▸ List.mem_map.mpr ⟨_, List.mem_of_getElem? h, rfl⟩)
      rw [List.find?_cons]; simp only [hne, decide_false]
      exact ih nd.2 h
theorem strIs {k : Str} {v : Value} (h : (strKind prog w).is k v = true) : ∃ t, v = .str k t := Value.isStrOf_shape h
/-- the table of next words -/
structure NxAt (prog : Program) (w : World) (h : Heap) (d : Addr) (ts : List Tm) (kvs : List (Str × Value)) (ep : Nat) : Prop where
  dict : h.DictAt (strKind prog w) d kvs ep
  len : kvs.length = ts.length
  at_ : ∀ (i : Nat) (t : Tm), ts[i]? = some t → ∃ l lv, kvs[i]? = some (t.str, .ref l) ∧ IsLst h l lv ∧ Strs lv (t.nexts.map Tm.str)
  ok : okA d
theorem NxAt.sub {h' : Heap} {d : Addr} {ts : List Tm} {kvs : List (Str × Value)} {ep : Nat} (x : NxAt prog w h d ts kvs ep) (s : Sub h h') : NxAt prog w h' d ts kvs ep :=
  ⟨x.dict.keep s, x.len, fun i t e => let ⟨l, lv, a, b, c⟩ := x.at_ i t e; ⟨l, lv, a, b.sub s, c⟩, x.ok⟩
theorem NxAt.hb {h' : Heap} {d : Addr} {ts : List Tm} {kvs : List (Str × Value)} {ep : Nat} (x : NxAt prog w h d ts kvs ep) (s : Hb h h') (tb : Tabs h) : NxAt prog w h' d ts kvs ep :=
  ⟨x.dict.at' fun o e => s _ o e x.ok.ne.1 x.ok.ne.2, x.len, fun i t e => let ⟨l, lv, a, b, c⟩ := x.at_ i t e; ⟨l, lv, a, s.lst tb b, c⟩, x.ok⟩
end Mine
end

section
namespace Mine
open PySem PySem.W PyProof.Rows
variable {prog : Program} {w : World} {A : Around} {h h₀ : Heap} {env : Env} {R : Value → Heap → Prop} {Q : Flow → Heap → Prop} {pos : Pos}

theorem s_dictB {K : Type} [DecidableEq K] {knd : KeyKind prog w K} {kvs : List (K × Value)} {k : K} {key val : Value} {d : Addr} {rs : List Res} {R : Unit → Heap → Prop} (i : Nat) (W : Wd w h₀ rs h) (hi : rs[i]? = some (d, Dct knd kvs)) (hk : knd.is k key = true) (hz : kvs.length ≤ 1000000) (q : ∀ h', Wd w h₀ (rs.set i (d, Dct knd (stored kvs k val))) h' → R () h') : T prog w A (setItem (.ref d) key val) R h :=
  fun _ _ _ _ => wpAny_setItem_pairs hk (W.dct i hi) (fun h' hm' hs' => ⟨_, _, rfl, q h' (by
    obtain ⟨o, es, ep, e, r⟩ := hm'
    exact W.upd hi hs'.extBut e ⟨es, ep, r⟩ (fun _ => Dct.safe))⟩) (by rw [sizeLine_eq]; (first | exact Mine.w466 hz | omega))
def names69 := (scopeOf (stA 69)).names
theorem fo69 : fnOkC (stA 69) 2 = true := by decide +kernel
def MostOk (ts : List Tm) (P : Tm → Prop) (mk : List (Str × Value)) : Prop := ∀ t ∈ ts, P t → ∃ tk, valueAt mk t.str = some (.int (t.M : Nat) tk)

inductive MoA (prog : Program) (w : World) (h₀ : Heap) (t0 : Tm) (ts : List Tm) (Nd Mo L : Addr) (ts0 : Tok) (i : Nat) (h₀' : Heap) (vals : List (Option Value)) (rs : List Res) : Prop
  | mk (p0 : h₀' = h₀) (x3 : Option Value) (x4 : Option Value) (mk : List (Str × Value)) (e0 : vals = [some (.ref Nd), some (.str t0.str ts0), none, x3, x4, none, none, none]) (e1 : rs = [(Mo, Dct (strKind prog w) mk), (L + 1, Cel (some (.ref Mo)))]) (e2 : MostOk ts (fun t => t.sz < i) mk) (e3 : mk.length ≤ i * 2000)
inductive MoB (prog : Program) (w : World) (h₀' : Heap) (t0 : Tm) (ts : List Tm) (i : Nat) (Nd Mo L I0 : Addr) (ts0 tk : Tok) (j : Nat) (h₀'' : Heap) (vals : List (Option Value)) (rs : List Res) : Prop
  | mk (p0 : h₀'' = h₀') (x4 : Option Value) (mk : List (Str × Value)) (e0 : vals = [some (.ref Nd), some (.str t0.str ts0), none, some (.int (i : Nat) tk), x4, none, none, none]) (e1 : rs = [(I0, RI 0 1 (t0.sz + 1) (i + 1)), (Mo, Dct (strKind prog w) mk), (L + 1, Cel (some (.ref Mo)))]) (e2 : MostOk ts (fun t => t.sz < i ∨ (t.sz = i ∧ t ∈ ts.take j)) mk) (e3 : mk.length ≤ i * 2000 + j)
theorem most_spec {t0 : Tm} {ts : List Tm} {kvs : List (Str × Value)} {ep : Nat} {Nd : Addr} {ts0 : Tok} {m : Nat} (hN : NxAt prog w h Nd ts kvs ep) (hcl : ∀ t ∈ ts, ∀ u ∈ t.nexts, u ∈ ts) (h0 : t0 ∈ ts) (hle : ∀ t ∈ ts, t.sz ≤ t0.sz) (hz : t0.sz ≤ 13) (htl : ts.length ≤ 2000)
    (g : Gd w h) (tb : Tabs h) (ok : Ok A (m + 1)) (q : ∀ k h', Keeps h h' → Tabs h' → R (.int (t0.M : Nat) k) h') :
    T prog w A (call (.ref 149) [.ref Nd, .str t0.str ts0]) R h := by
  refine call_fnC (g.fn ("_law_most", 149, 148, 69) (by decide)) g tb ok fo69 rfl (fun _ _ _ => rfl) [] (fun _ h => nomatch h) List.nodup_nil (fun _ h => nomatch h) (fun _ h => nomatch h) ?_
  intro L env h₀ h₁ S hcode hc hqual hb W ok'
  replace hb : Hb h h₀ := fun b o e n1 n2 => hb b o e n1 n2 List.not_mem_nil
  replace W : Wd w h₀ [(L, Loc names69 [some (.ref Nd), some (.str t0.str ts0), none, none, none, none, none, none]), (L + 1, Cel none)] h₁ := W
  replace S : Sc env L names69 := S
  have lkm : env.cells.lookup (Str.ofString "most") = some (L + 1) := by rw [hc]; rfl
  replace hN := hN.hb hb tb
  have hnd := hN.dict.nodup
  refine x_assign <| e_dict0 (strKind prog w) W fun Mo h₂ _ W => s_cell 2 2 S W rfl lkm rfl fun h₃ W => ?_
  refine x_for <| e_call <| n_bi 5 S W rfl (by decide) <| cw_ty <| a_cons <| e_bin <| e_call <| n_bi 6 S W rfl (by decide) <| cw_bi <| a_cons <| n_loc 1 S W rfl rfl <| a_nil <| c_lenstr (by rw [Tm.str_len]; (first | exact Mine.w323 hz | omega)) fun _ => e_int fun _ => o_add fun _ => a_nil <| c_range1 W fun r h₄ hr W => pi_range W hr (small_up (by decide) (by decide) (by rw [Tm.str_len]; (first | exact Mine.w111 | omega)) (by rw [Tm.str_len]; (first | exact Mine.w467 hz | omega))) (size_up (n := t0.sz + 1) 0 (by rw [Tm.str_len]; (first | exact Mine.w468 | omega))) fun I0 h₅ W => ?_
  refine c_for (P := fun i v => ∃ t, v = .int (0 + (i : Nat) * 1) t) 3 S rfl ok'.1 (Itr.range I0 0 1 (t0.sz + 1))
    (MoA prog w h₀ t0 ts Nd Mo L ts0)
    (fun i h₀' vals rs (.mk _ x3 _ _ e ..) => ⟨x3, by rw [e]; rfl⟩) (fun i h₀' vals rs h _ _ => trivial) ?_ ?_
    ⟨rfl, none, none, [], rfl, rfl, (fun t _ z => absurd z (Nat.not_lt_zero _)), by simp⟩ W
  · rintro i h₀' vals rs v h hi ⟨tk, rfl⟩ ⟨rfl, x3, x4, mk, rfl, rfl, hmk, hml⟩ W
    rw [show (0 : Int) + (i : Nat) * 1 = (i : Nat) by (first | exact Mine.w137 | omega)] at W
    replace W : Wd w h₀' [(L, Loc names69 [some (.ref Nd), some (.str t0.str ts0), none, some (.int (i : Nat) tk), x4, none, none, none]), (I0, RI 0 1 (t0.sz + 1) (i + 1)), (Mo, Dct (strKind prog w) mk), (L + 1, Cel (some (.ref Mo)))] h := W
    refine x_for <| n_loc 0 S W rfl rfl <| pi_keys W hN.ok (hN.dict.keep W.keep) fun I1 h₆ W => ?_
    refine c_for (P := fun i v => ∃ k x, kvs[i]? = some (k, x) ∧ (strKind prog w).is k v = true) 4 S rfl ok'.1 (Itr.keys (kvs := kvs) (d := Nd) I1 ep)
      (MoB prog w h₀' t0 ts i Nd Mo L I0 ts0 tk)
      (fun i h₀' vals rs (.mk _ x4 _ e ..) => ⟨x4, by rw [e]; rfl⟩) (fun i h₀'' vals rs h (.mk e ..) W => hN.dict.keep (e ▸ W.keep)) ?_ ?_
      ⟨rfl, x4, mk, rfl, rfl, (fun t ht z => hmk t ht (z.elim id fun y => by simp at y)), by (first | exact Mine.w469 hml | omega)⟩ W
    · rintro j h₀'' vals rs v h hj ⟨k, x, hkx, hkv⟩ ⟨rfl, x4, mk, rfl, rfl, hmk, hml⟩ W
      obtain ⟨tv, rfl⟩ := strIs hkv
      have hjt : j < ts.length := by rw [← hN.len]; exact hj
      obtain ⟨l, lv, hkt, hll, hls⟩ := hN.at_ j ts[j] (by simp)
      generalize htj : ts[j] = t at hkt hls
      have htm : t ∈ ts := htj ▸ List.getElem_mem _
      rw [hkx] at hkt; cases hkt
      replace W : Wd w h₀'' [(L, Loc names69 [some (.ref Nd), some (.str t0.str ts0), none, some (.int (i : Nat) tk), some (.str t.str tv), none, none, none]), (I1, KIt Nd kvs.length ep (j + 1)), (I0, RI 0 1 (t0.sz + 1) (i + 1)), (Mo, Dct (strKind prog w) mk), (L + 1, Cel (some (.ref Mo)))] h := W
      have htz := hle t htm
      refine x_if <| b_cmp <| e_call <| n_bi 6 S W rfl (by decide) <| cw_bi <| a_cons <| n_loc 4 S W rfl rfl <| a_nil <| c_lenstr (by rw [Tm.str_len]; (first | exact Mine.w470 hz htz | omega)) fun _ => n_loc 3 S W rfl rfl <| c_eq <| b_bool ?_
      rw [Tm.str_len]
      have hstep1 : ts.take (j + 1) = ts.take j ++ [t] := by rw [List.take_add_one, List.getElem?_eq_getElem hjt, htj]; rfl
      by_cases hsi : t.sz = i
      · rw [show ((t.sz : Int) == (i : Nat)) = true by simp [hsi]]
        have hnl : t.nexts.length ≤ 13 := by
          rw [← Tm.nexts_eq]
          exact Nat.le_trans (List.length_filterMap_le _ _) (by rw [List.length_range]; (first | exact Mine.w471 hz hi hsi | omega))
        have hlv : lv.length = t.nexts.length := by rw [hls.1, List.length_map]
        refine x_setsub <| e_call <| n_bi 7 S W rfl (by decide : (Str.ofString "max", Value.builtin "max") ∈ biTab) <| cw_bi <| a_cons <| e_bin <| e_list <| a_cons <| e_int fun tz => a_nil <| new_list W lz fun Z h₇ _ W => ?_
        refine e_compJ 1 [(Str.ofString "most", L + 1)] S ok'.1 (by rw [closureFor_cells, hc]; rfl) ?_
        refine e_sub <| n_loc 0 S W rfl rfl <| n_loc 4 S W rfl rfl <| i_dict (DictOf_sub hN.dict.dictOf W.keep) isStrOf_self (valueAt_at hnd hkx) <| pi_list W (hll.sub W.keep) fun I2 h₈ W => ?_
        refine ⟨(fun i' h₀' ys rs => h₀' = h₀'' ∧ rs = [(Z, LstO [Value.int 0 tz]), (I1, KIt Nd kvs.length ep (j + 1)), (I0, RI 0 1 (t0.sz + 1) (i + 1)), (Mo, Dct (strKind prog w) mk), (L + 1, Cel (some (.ref Mo)))] ∧ Ints ys ((t.nexts.take i').map fun u => ((u.M : Nat) : Int) + 1)), I2, _, _, _, _, h₀'', _, _, rfl, Itr.list I2 l lv, by (first | exact Mine.w119 hnl hlv | omega), ?_, fun i' h₀' ys rs h e W => hll.sub (e.1 ▸ W.keep), ?_, ?_, ⟨rfl, rfl, by simpa using Ints.nil⟩, W⟩
        · rintro i' _ ys rs ⟨_, _, hi'⟩
          rw [hi'.1]; simp; (first | exact Mine.w120 | omega)
        · rintro C D i' _ ys rs v h hi' hv ⟨rfl, rfl, hI⟩ W SC
          refine t_none ?_
          have hi2 : i' < t.nexts.length := by (first | exact Mine.w298 hlv hi' | omega)
          obtain ⟨tu, hu⟩ := hls.2 i' (t.nexts[i']).str (by simp [hi2])
          rw [hu] at hv; cases hv
          generalize huu : t.nexts[i'] = u at *
          have hum : u ∈ t.nexts := huu ▸ List.getElem_mem _
          obtain ⟨ty, hy⟩ := hmk u (hcl t htm u hum) (.inl (by have := Tm.nexts_sz hum; (first | exact Mine.w298 hsi this | omega)))
          refine e_bin <| e_sub <| n_cell 2 SC rfl (show List.lookup _ [(Str.ofString "most", L + 1)] = some (L + 1) from rfl) (W.cel 8 rfl) <| n_loc 1 SC W rfl rfl <| i_dict (W.dct 7 rfl) isStrOf_self hy <| e_int fun _ => o_add fun _ => ?_
          refine ⟨_, _, _, ⟨rfl, rfl, ?_⟩, W, by simp [cvals], fun j hj => by unfold cvals; rw [List.getElem?_set_ne (Ne.symm hj)]⟩
          rw [List.take_add_one, List.getElem?_eq_getElem hi2, huu, List.map_append]
          exact hI.append Ints.one
        · rintro D _ ys rs h₉ ⟨rfl, rfl, hI⟩ W
          rw [hlv, List.take_length] at hI
          refine o_lists W (W.lstO 2 rfl) (W.lstO 1 rfl) (by have := hI.1; simp at this ⊢; (first | exact Mine.w472 hnl this | omega)) fun X h₁₀ _ W => a_nil <| c_maxl ok'.1 (W.lst 1 rfl) (Ints.one.append hI) (by simp) fun h₁₁ Mx tx sx hm1 hm2 => ?_
          replace W := W.ext sx
          have hMx : Mx = ((t.M : Nat) : Int) := by
            have hall : ∀ a ∈ ([(0 : Int)] ++ t.nexts.map fun u => ((u.M : Nat) : Int) + 1), a ≤ ((t.M : Nat) : Int) := by
              intro a ha
              rcases List.mem_append.mp ha with ha | ha
              · cases List.mem_singleton.mp ha; exact Int.natCast_nonneg _
              · obtain ⟨u, hu, rfl⟩ := List.mem_map.mp ha
                have := (Tm.step_all t.sz t (Nat.le_refl _) u hu).2.2; (first | exact Mine.w473 this | omega)
            have hmem : ((t.M : Nat) : Int) ∈ ([(0 : Int)] ++ t.nexts.map fun u => ((u.M : Nat) : Int) + 1) := by
              by_cases hne : t.nexts = []
              · rw [(Tm.nf_all t hne).2.2]; simp
              · obtain ⟨_, u, hu, he⟩ := Tm.ex_all t.sz t (Nat.le_refl _) hne
                refine List.mem_append.mpr (.inr (List.mem_map.mpr ⟨u, hu, by omega⟩))
            exact Int.le_antisymm (hall _ hm1) (hm2 _ hmem)
          subst hMx
          refine n_cell 2 S rfl lkm (W.cel 7 rfl) <| n_loc 4 S W rfl rfl <| s_dictB 6 W rfl isStrOf_self (by first | decide | omega) fun h₁₂ W => x_nil_seq <| x_nil ?_
          refine ⟨_, _, [(I0, RI 0 1 (t0.sz + 1) (i + 1)), (Mo, Dct (strKind prog w) (stored mk t.str (.int ((t.M : Nat) : Int) tx))), (L + 1, Cel (some (.ref Mo)))], ⟨rfl, _, _, rfl, rfl, ?_, ?_⟩, W.sub (.cons_cons _ (.cons _ (.cons _ (.cons _ (.refl _)))))⟩
          · intro u hu z
            by_cases e : u.str = t.str
            · rw [valueAt_stored, if_pos e, str_inj e]; exact ⟨tx, rfl⟩
            · rw [valueAt_stored, if_neg e]
              refine hmk u hu ?_
              rcases z with z | ⟨z1, z2⟩
              · exact .inl z
              · rw [hstep1] at z2
                rcases List.mem_append.mp z2 with z2 | z2
                · exact .inr ⟨z1, z2⟩
                · cases List.mem_singleton.mp z2; exact absurd rfl e
          · have := stored_len mk t.str (.int ((t.M : Nat) : Int) tx); (first | exact Mine.w475 hml this | omega)
      · rw [show ((t.sz : Int) == (i : Nat)) = false by simp; (first | exact Mine.w476 hsi | omega)]
        refine x_nil_seq <| x_nil ⟨_, _, _, ⟨rfl, _, mk, rfl, rfl, ?_, by (first | exact Mine.w477 hml | omega)⟩, W⟩
        intro u hu z
        refine hmk u hu ?_
        rcases z with z | ⟨z1, z2⟩
        · exact .inl z
        · rw [hstep1] at z2
          rcases List.mem_append.mp z2 with z2 | z2
          · exact .inr ⟨z1, z2⟩
          · cases List.mem_singleton.mp z2; exact absurd z1 hsi
    · rintro h₀'' vals rs h ⟨rfl, x4, mk, rfl, rfl, hmk, hml⟩ W
      refine x_nil ⟨_, _, _, ⟨rfl, _, _, mk, rfl, rfl, ?_, ?_⟩, W⟩
      · intro u hu z
        refine hmk u hu ?_
        by_cases e : u.sz < i
        · exact .inl e
        · exact .inr ⟨by (first | exact Mine.w478 z e | omega), by rw [hN.len, List.take_length]; exact hu⟩
      · rw [hN.len] at hml; (first | exact Mine.w479 htl hml | omega)
  · rintro h₀' vals rs h ⟨rfl, x3, x4, mk, rfl, rfl, hmk, hml⟩ W
    obtain ⟨ty, hy⟩ := hmk t0 h0 (Nat.lt_succ_self _)
    refine x_ret <| e_sub <| n_cell 2 S rfl lkm (W.cel 2 rfl) <| n_loc 1 S W rfl rfl <| i_dict (W.dct 1 rfl) isStrOf_self hy ?_
    exact q ty _ (keeps_of hb W.keep) W.tb
end Mine
end

section
namespace Mine
open PySem PySem.W PyProof.Rows
variable {prog : Program} {w : World} {A : Around} {h h₀ : Heap} {env : Env} {R : Value → Heap → Prop} {Q : Flow → Heap → Prop} {pos : Pos} {f1 f2 f3 f4 : FuncData} {P : Params}

theorem kg1 : findIn (kfrag f1 f2 f3 f4 P) (.ref 52) "__getattribute__" = some (some (.builtin "object.__getattribute__")) := by kernel_rfl
theorem kg2 : findIn (kfrag f1 f2 f3 f4 P) (.ref 52) "__getattr__" = some none := by kernel_rfl
theorem kg3 : findIn (kfrag f1 f2 f3 f4 P) (.ref 52) "__setattr__" = some (some (.builtin "object.__setattr__")) := by kernel_rfl
theorem kg4 : hasDictIn (kfrag f1 f2 f3 f4 P) 52 = true := by kernel_rfl
theorem kg5 : plainOver (kfrag f1 f2 f3 f4 P) 52 = true := by kernel_rfl
theorem kg6 : makesIn (kfrag f1 f2 f3 f4 P) 52 = true := by kernel_rfl
theorem kg7 : findIn (kfrag f1 f2 f3 f4 P) (.ref 52) "lineno" = some none := by kernel_rfl
theorem kg8 : takerIn (kfrag f1 f2 f3 f4 P) 52 "lineno" = some none := by kernel_rfl
theorem kg9 : findIn (kfrag f1 f2 f3 f4 P) (.ref 52) "get_token" = some (some (.ref 42)) := by kernel_rfl

theorem kg10 : findIn (kfrag f1 f2 f3 f4 P) (.ref 52) "pushback" = some none := by kernel_rfl
theorem kg11 : findIn (kfrag f1 f2 f3 f4 P) (.ref 52) "instream" = some none := by kernel_rfl
theorem kg12 : findIn (kfrag f1 f2 f3 f4 P) (.ref 52) "whitespace" = some none := by kernel_rfl
theorem kg13 : findIn (kfrag f1 f2 f3 f4 P) (.ref 52) "_read_char" = some (some (.ref 35)) := by kernel_rfl
theorem kg14 : findIn (kfrag f1 f2 f3 f4 P) (.ref 52) "push_token" = some (some (.ref 49)) := by kernel_rfl
theorem kg15 : typeIn (kfrag f1 f2 f3 f4 P) (.ref 42) = some (.type "function") := by kernel_rfl
theorem kg16 : typeIn (kfrag f1 f2 f3 f4 P) (.ref 35) = some (.type "function") := by kernel_rfl
theorem kg17 : typeIn (kfrag f1 f2 f3 f4 P) (.ref 49) = some (.type "function") := by kernel_rfl
theorem kg18 : takerIn (kfrag f1 f2 f3 f4 P) 52 "pushback" = some none := by kernel_rfl
theorem kg19 : takerIn (kfrag f1 f2 f3 f4 P) 52 "instream" = some none := by kernel_rfl
theorem kg20 : takerIn (kfrag f1 f2 f3 f4 P) 52 "whitespace" = some none := by kernel_rfl
theorem e_attr {e : Expr} {name : Str} (q : T prog w A (eval e env) (k1 prog w A (fun v => getAttr v name true) R) h) (hb : attributeBase e name env (eval e env) = eval e env := by rfl) (ht : ∀ o r, letTemporaryGo e o r = pure () := by intro _ _; rfl) :
    T prog w A (eval (.Attribute e name pos) env) R h := by
  intro g d k os
  rw [arm_eval_Attribute, hb]
  refine wpAny_bind (wpAny_mono (q g d k os) (fun v s₁ hr => ?_) fun _ _ e => e)
  obtain ⟨h₁, k₁, rfl, z⟩ := hr
  refine wpAny_bind (wpAny_standAt (wpAny_bind (wpAny_holding (wpAny_mono ((z : T prog w A _ _ _) g d k₁ os) (fun r s₂ hr => ?_) fun _ _ e => e))))
  rw [ht]
  exact wpAny_bind (wpAny_pure (wpAny_pure hr))
def lxEs (h1 h2 h3 h4 : Int) (k1 k2 k3 k4 tl tw : Tok) (ln : Int) (st Pb : Addr) : List DictEntry :=
  [⟨h1, .str "lineno" k1, .int ln tl⟩, ⟨h2, .str "instream" k2, .ref st⟩, ⟨h3, .str "whitespace" k3, .str "\n\t\r " tw⟩, ⟨h4, .str "pushback" k4, .ref Pb⟩]
def LxD (ln : Int) (st Pb : Addr) (o : Obj) : Prop := ∃ h1 h2 h3 h4 k1 k2 k3 k4 tl tw n, o = dictOf (lxEs h1 h2 h3 h4 k1 k2 k3 k4 tl tw ln st Pb) n
theorem LxD.safe {ln : Int} {st Pb : Addr} {o : Obj} (x : LxD ln st Pb o) : safe o := fun vs e => by obtain ⟨_, _, _, _, _, _, _, _, _, _, _, rfl⟩ := x; cases e
/-- a lexer: the object, its names -/
structure LexAt (h : Heap) (Lx Dx : Addr) (ln : Int) (st Pb : Addr) : Prop where
  x : h.get? Lx = some (instObj 52 Dx)
  d : ∃ o, h.get? Dx = some o ∧ LxD ln st Pb o
section
variable {Lx Dx st Pb : Addr} {ln : Int} {expr : Bool}
theorem LexAt.inst (X : LexAt h Lx Dx ln st Pb) : ∃ h1 h2 h3 h4 k1 k2 k3 k4 tl tw n, InstAt h Lx (instObj 52 Dx) 52 (some (dictOf (lxEs h1 h2 h3 h4 k1 k2 k3 k4 tl tw ln st Pb) n)) := by
  obtain ⟨hx, o, e, h1, h2, h3, h4, k1, k2, k3, k4, tl, tw, n, rfl⟩ := X
  exact ⟨h1, h2, h3, h4, k1, k2, k3, k4, tl, tw, n, hx, rfl, rfl, e⟩
theorem ga_pb (g : Gd w h) (X : LexAt h Lx Dx ln st Pb) (q : R (.ref Pb) h) : T prog w A (getAttr (.ref Lx) (Str.ofString "pushback") expr) R h := by
  obtain ⟨f1, f2, f3, f4, K⟩ := g.kf
  obtain ⟨h1, h2, h3, h4, k1, k2, k3, k4, tl, tw, n, I⟩ := X.inst
  exact fun _ _ _ _ => get_value K I kg1 (findObj_own kg4 kg10 rfl rfl) rfl ⟨_, _, rfl, q⟩
theorem ga_st (g : Gd w h) (X : LexAt h Lx Dx ln st Pb) (q : R (.ref st) h) : T prog w A (getAttr (.ref Lx) (Str.ofString "instream") expr) R h := by
  obtain ⟨f1, f2, f3, f4, K⟩ := g.kf
  obtain ⟨h1, h2, h3, h4, k1, k2, k3, k4, tl, tw, n, I⟩ := X.inst
  exact fun _ _ _ _ => get_value K I kg1 (findObj_own kg4 kg11 rfl rfl) rfl ⟨_, _, rfl, q⟩
theorem ga_ws (g : Gd w h) (X : LexAt h Lx Dx ln st Pb) (q : ∀ k, R (.str (Str.ofString "\n\t\r ") k) h) : T prog w A (getAttr (.ref Lx) (Str.ofString "whitespace") expr) R h := by
  obtain ⟨f1, f2, f3, f4, K⟩ := g.kf
  obtain ⟨h1, h2, h3, h4, k1, k2, k3, k4, tl, tw, n, I⟩ := X.inst
  exact fun _ _ _ _ => get_value K I kg1 (findObj_own kg4 kg12 rfl rfl) rfl ⟨_, _, rfl, q tw⟩
theorem ga_ln (g : Gd w h) (X : LexAt h Lx Dx ln st Pb) (q : ∀ k, R (.int ln k) h) : T prog w A (getAttr (.ref Lx) (Str.ofString "lineno") expr) R h := by
  obtain ⟨f1, f2, f3, f4, K⟩ := g.kf
  obtain ⟨h1, h2, h3, h4, k1, k2, k3, k4, tl, tw, n, I⟩ := X.inst
  exact fun _ _ _ _ => get_value K I kg1 (findObj_own kg4 kg7 rfl rfl) rfl ⟨_, _, rfl, q tl⟩
theorem gm_get (g : Gd w h) (X : LexAt h Lx Dx ln st Pb) {pl : Sem Bool} {Q : Value × List Value → Heap → Prop} (q : Q (.ref 42, [.ref Lx]) h) : T prog w A (getMethod (.ref Lx) (Str.ofString "get_token") pl) Q h := by
  obtain ⟨f1, f2, f3, f4, K⟩ := g.kf
  obtain ⟨h1, h2, h3, h4, k1, k2, k3, k4, tl, tw, n, I⟩ := X.inst
  exact fun _ _ _ _ => method_fn K I kg1 kg2 kg9 kg15 rfl ⟨_, _, rfl, q⟩
theorem gm_push (g : Gd w h) (X : LexAt h Lx Dx ln st Pb) {pl : Sem Bool} {Q : Value × List Value → Heap → Prop} (q : Q (.ref 49, [.ref Lx]) h) : T prog w A (getMethod (.ref Lx) (Str.ofString "push_token") pl) Q h := by
  obtain ⟨f1, f2, f3, f4, K⟩ := g.kf
  obtain ⟨h1, h2, h3, h4, k1, k2, k3, k4, tl, tw, n, I⟩ := X.inst
  exact fun _ _ _ _ => method_fn K I kg1 kg2 kg14 kg17 rfl ⟨_, _, rfl, q⟩
theorem gm_read (g : Gd w h) (X : LexAt h Lx Dx ln st Pb) {pl : Sem Bool} {Q : Value × List Value → Heap → Prop} (q : Q (.ref 35, [.ref Lx]) h) : T prog w A (getMethod (.ref Lx) (Str.ofString "_read_char") pl) Q h := by
  obtain ⟨f1, f2, f3, f4, K⟩ := g.kf
  obtain ⟨h1, h2, h3, h4, k1, k2, k3, k4, tl, tw, n, I⟩ := X.inst
  exact fun _ _ _ _ => method_fn K I kg1 kg2 kg13 kg16 rfl ⟨_, _, rfl, q⟩
theorem LexAt.sub {h' : Heap} (X : LexAt h Lx Dx ln st Pb) (s : Sub h h') : LexAt h' Lx Dx ln st Pb := ⟨s _ _ X.x, let ⟨o, e, p⟩ := X.d; ⟨o, s _ _ e, p⟩⟩

theorem foM3 : fnOk (stM 3) 2 = true := by decide +kernel
theorem foM2 : fnOk (stM 2) 1 = true := by decide +kernel
theorem push_spec {vs : List Value} {v : Value} {m : Nat} (X : LexAt h Lx Dx ln st Pb) (hP : IsLstO h Pb vs) (oP : okA Pb) (oL : okA Lx) (oD : okA Dx) (nL : Lx ≠ Pb) (nD : Dx ≠ Pb) (hz : vs.length ≤ 16384) (g : Gd w h) (tb : Tabs h) (ok : Ok A (m + 1))
    (q : ∀ h', KeepsD Pb h h' → Tabs h' → IsLstO h' Pb (vs ++ [v]) → R .none h') : T prog w A (call (.ref 49) [.ref Lx, v]) R h := by
  refine call_fnX (n := m) (cl := []) (g.me ("_netrclex.push_token", 49, 48, 3) (by decide)) g tb ok rfl foM3 (fun _ _ _ => rfl) [(Pb, LstO vs)] (fun r hr => by cases List.mem_singleton.mp hr; exact hP) (by simp) (fun r hr => by cases List.mem_singleton.mp hr; exact fun _ => LstO.safe) (fun r hr => by cases List.mem_singleton.mp hr; exact oP) ?_
  intro L env h₀ h₁ S _ _ hb _ W ok'
  replace W : Wd w h₀ [(L, Loc (scopeOf (stM 3)).names [some (.ref Lx), some v]), (Pb, LstO vs)] h₁ := W
  have X₀ : LexAt h₀ Lx Dx ln st Pb := ⟨hb _ _ X.x oL.ne.1 oL.ne.2 (by simpa using nL), let ⟨o, e, p⟩ := X.d; ⟨o, hb _ _ e oD.ne.1 oD.ne.2 (by simpa using nD), p⟩⟩
  refine x_expr S <| e_meth _ rfl <| e_attr <| n_loc 0 S W rfl rfl <| ga_pb W.G (X₀.sub W.keep) <| gm_list (W.lstO 1 rfl) PySem.F.slot_list_append PySem.F.type_list_append <| cw_bi <| a_cons <| n_loc 1 S W rfl rfl <| a_nil <| c_append 1 W rfl hz fun h₂ W => x_nil ?_
  exact q h₂ (fun b o e n1 n2 n3 => W.keep b o (hb b o e n1 n2 (by simpa using n3))) W.tb (W.lstO 1 rfl)
theorem pop_spec {vs : List Value} {v : Value} {m : Nat} (X : LexAt h Lx Dx ln st Pb) (hP : IsLstO h Pb (v :: vs)) (oP : okA Pb) (oL : okA Lx) (oD : okA Dx) (nL : Lx ≠ Pb) (nD : Dx ≠ Pb) (hz : vs.length ≤ 16383) (g : Gd w h) (tb : Tabs h) (ok : Ok A (m + 1))
    (q : ∀ h', KeepsD Pb h h' → Tabs h' → IsLstO h' Pb vs → R v h') : T prog w A (call (.ref 42) [.ref Lx]) R h := by
  refine call_fnX (n := m) (cl := []) (g.me ("_netrclex.get_token", 42, 41, 2) (by decide)) g tb ok rfl foM2 (fun _ _ _ => rfl) [(Pb, LstO (v :: vs))] (fun r hr => by cases List.mem_singleton.mp hr; exact hP) (by simp) (fun r hr => by cases List.mem_singleton.mp hr; exact fun _ => LstO.safe) (fun r hr => by cases List.mem_singleton.mp hr; exact oP) ?_
  intro L env h₀ h₁ S _ _ hb _ W ok'
  replace W : Wd w h₀ [(L, Loc (scopeOf (stM 2)).names [some (.ref Lx), none, none, none, none]), (Pb, LstO (v :: vs))] h₁ := W
  have X₀ : LexAt h₀ Lx Dx ln st Pb := ⟨hb _ _ X.x oL.ne.1 oL.ne.2 (by simpa using nL), let ⟨o, e, p⟩ := X.d; ⟨o, hb _ _ e oD.ne.1 oD.ne.2 (by simpa using nD), p⟩⟩
  refine x_if <| b_expr <| e_attr <| n_loc 0 S W rfl rfl <| ga_pb W.G (X₀.sub W.keep) <| b_list (W.lst 1 rfl) (by simp; (first | exact Mine.w1 hz | omega)) ?_
  refine x_ret <| e_meth _ rfl <| e_attr <| n_loc 0 S W rfl rfl <| ga_pb W.G (X₀.sub W.keep) <| gm_list (W.lstO 1 rfl) PySem.F.slot_list_pop PySem.F.type_list_pop <| cw_bi <| a_cons <| e_int fun _ => a_nil <| c_pop0 1 W rfl (by first | decide | (first | exact Mine.w2 hz | omega)) fun h₂ W => ?_
  exact q h₂ (fun b o e n1 n2 n3 => W.keep b o (hb b o e n1 n2 (by simpa using n3))) W.tb (W.lstO 1 rfl)
end
end Mine
end

section
namespace Mine
open PySem PySem.W PyProof.Rows Builtin Builtin.ObjectAttr
variable {prog : Program} {w : World} {A : Around} {h h₀ : Heap} {env : Env} {R : Value → Heap → Prop} {Q : Flow → Heap → Prop} {pos : Pos} {rs : List Res} {f : Res}

-- a def's own attribute
theorem fl_ga : typeLookup (.type "function") "__getattribute__" = pure (some (.builtin "object.__getattribute__")) := by rw [typeLookup_type, builtinLookup_eq_fast]; kernel_rfl
theorem fl_gattr : typeLookup (.type "function") "__getattr__" = pure none := by rw [typeLookup_type, builtinLookup_eq_fast]; kernel_rfl
theorem fl_read : typeLookup (.type "function") (Str.ofString "read") = pure none := by rw [typeLookup_type, builtinLookup_eq_fast]; kernel_rfl
theorem fl_mro : mroOf (.type "function") = pure [.type "function", .type "object"] := by kernel_rfl
theorem slot_fga : Slot "function" "__getattribute__" "object.__getattribute__" :=
  .of (owner := "object") (n := "__getattribute__") fl_ga (by decide +kernel) (by decide +kernel) (by decide +kernel) (by first | exact .inl (by decide +kernel) | exact .inr (by decide +kernel)) (by rw [isSubtype_type]; kernel_rfl)
theorem slot_fsa : Slot "function" "__setattr__" "object.__setattr__" :=
  .of (owner := "object") (n := "__setattr__") (by rw [typeLookup_type, builtinLookup_eq_fast]; kernel_rfl) (by decide +kernel) (by decide +kernel) (by decide +kernel) (by first | exact .inl (by decide +kernel) | exact .inr (by decide +kernel)) (by rw [isSubtype_type]; kernel_rfl)
theorem entry_oga : entryFor table "object.__getattribute__" = some Builtin.«object.__getattribute__» := entryFor_of_tree (by kernel_rfl)
theorem entry_osa : entryFor table "object.__setattr__" = some Builtin.«object.__setattr__» := entryFor_of_tree (by kernel_rfl)
theorem args_oga (a b : Value) : argsOk "object.__getattribute__" ⟨[a, b], []⟩ := by unfold argsOk; kernel_rfl
theorem args_osa (a b c : Value) : argsOk "object.__setattr__" ⟨[a, b, c], []⟩ := by unfold argsOk; kernel_rfl
theorem fl_pass (self : Value) : refuseLoop self "__setattr__" [.type "function", .type "object"] = pure () := by kernel_rfl
theorem fl_hasDict : typeHasDict (.type "function") = true := by kernel_rfl
theorem fl_cyc : finalisedInACycleAlone "function" = false := by kernel_rfl
/-- a def with an attribute of its own -/
structure FoAt (h : Heap) (st : Addr) (v : Value) : Prop where
  x : ∃ o fd d, h.get? st = some o ∧ o.cls = .type "function" ∧ o.data = .func fd ∧ o.dict = some d ∧ h.Ns d (fun x => if x = Str.ofString "read" then some v else none)
theorem FoAt.sub {h' : Heap} {st : Addr} {v : Value} (X : FoAt h st v) (s : Sub h h') : FoAt h' st v := by
  obtain ⟨o, fd, d, a, b, c, e, ⟨o', es, ep, e', r⟩⟩ := X
  exact ⟨o, fd, d, s _ _ a, b, c, e, o', es, ep, s _ _ e', r⟩
theorem fo_ga {st ro : Addr} (X : FoAt h st (.ref ro)) (q : R (.ref ro) h) : T prog w A (getAttr (.ref st) (Str.ofString "read")) R h := by
  obtain ⟨o, fd, d, ho, hc, hd, hdi, hns⟩ := X
  intro g dr k os
  have hT : ∀ t : Tok, (⟨h, g, dr, t, os⟩ : Shared).TypeIs (.ref st) "function" := fun t => ⟨o, ho, hc⟩
  unfold getAttr getAttrBy
  refine wpAny_bind (wpAny_mkText (wpAny_holding (wpAny_bind (wpAny_typeOf (hT _) (wpAny_bind ?_)))))
  rw [fl_ga]
  refine wpAny_pure ?_
  show wpAny _ _ (getAttrByItsOwn _ _ _ _ _ _) _ _ _
  unfold getAttrByItsOwn
  refine wpAny_bind (wpAny_pure (wpAny_bind (wpAny_attempt (wpAny_holding ?_))))
  show wpAny _ _ (boundAndCalled _ _ _) _ _ _
  unfold boundAndCalled
  rw [slot_fga.bind]
  refine wpAny_bind (wpAny_pure (wpAny_call_entry slot_fga (hT _) entry_oga ?_ (args_oga _ _)))
  show wpAny (model prog w) A.in1 (Builtin.«object.__getattribute__» ⟨[.ref st, .str (Str.ofString "read") k], []⟩) _ _ ⟨h, g, dr, k + 1, os⟩
  unfold Builtin.«object.__getattribute__»
  refine wpAny_bind (wpAny_of_eq (a := (Value.ref st, [Value.str (Str.ofString "read") k])) (by first | rfl | kernel_rfl) ?_)
  dsimp only
  refine wpAny_bind (wpAny_of_eq (a := Str.ofString "read") (by first | rfl | kernel_rfl) ?_)
  refine wpAny_bind (wpAny_typeOf (hT _) (wpAny_bind ?_))
  unfold find
  rw [fl_read]
  refine wpAny_bind (wpAny_pure (wpAny_bind (wpAny_pure (wpAny_bind (wpAny_pure ?_)))))
  show wpAny _ _ (ownThenClass _ _ _ _) _ _ _
  unfold ownThenClass inOwnDict
  refine wpAny_bind (wpAny_bind ?_)
  unfold Builtin.ObjectAttr.ownDict
  refine wpAny_bind (wpAny_loadPart ho ?_)
  rw [hd]
  show wpAny _ _ (instanceDict _ _) _ _ _
  unfold instanceDict
  refine wpAny_bind (wpAny_loadPart ho ?_)
  rw [hc]
  refine wpAny_bind (wpAny_pure ?_)
  rw [hdi]
  refine wpAny_pure ?_
  show wpAny _ _ (nsGet _ _) _ _ _
  refine wpAny_nsGet hns ?_
  rw [if_pos rfl]
  refine wpAny_bind (wpAny_rule (wpAny_pure (wpAny_pure ?_)))
  exact ⟨_, rfl, wpAny_pure ⟨_, _, rfl, q⟩⟩
theorem fo_gm {st ro : Addr} {pl : Sem Bool} {Q : Value × List Value → Heap → Prop} (X : FoAt h st (.ref ro)) (q : Q (.ref ro, []) h) : T prog w A (getMethod (.ref st) (Str.ofString "read") pl) Q h := by
  have X' := X
  obtain ⟨o, fd, d, ho, hc, hd, hdi, hns⟩ := X
  intro g dr k os
  have hT : ∀ t : Tok, (⟨h, g, dr, t, os⟩ : Shared).TypeIs (.ref st) "function" := fun t => ⟨o, ho, hc⟩
  unfold getMethod
  refine wpAny_bind (wpAny_specialOf (hT _) fl_ga ?_)
  show wpAny _ _ (if (Manifest.canonical "object.__getattribute__" != "object.__getattribute__") = true then _ else _) _ _ _
  rw [PySem.F.canon_object_ga, if_neg Bool.false_ne_true]
  refine wpAny_bind (wpAny_specialOf (hT _) fl_gattr ?_)
  refine wpAny_bind (wpAny_specialOf (hT _) fl_read ?_)
  refine wpAny_bind (wpAny_mono (fo_ga (R := fun v h' => v = .ref ro ∧ h' = h) X' ⟨rfl, rfl⟩ g dr k os) (fun v s' hq => ?_) fun _ _ e => e.elim)
  obtain ⟨h', k', rfl, rfl, rfl⟩ := hq
  exact wpAny_pure ⟨_, _, rfl, q⟩
/-- where a name is found, or no key is an object, no key that is an object is asked -/
theorem noRefKey {name : Str} {es : List DictEntry} (hl : (getL name es).isSome = true) : (!es.toArray.any (·.key.isStr name) && es.toArray.any (·.refKey)) = false := by
  cases found : es.any (·.key.isStr name) with
  | true => simp [found]
  | false =>
    cases refs : es.any (·.refKey) with
    | false => simp [refs]
    | true =>
      have gone : es.find? (·.key.isStr name) = none := List.find?_eq_none.mpr fun e he hn => by
        have : es.any (·.key.isStr name) = true := List.any_eq_true.mpr ⟨e, he, hn⟩
        rw [found] at this; cases this
      unfold getL at hl; rw [gone] at hl
      simp [refs] at hl
theorem st_dict {d : Addr} {es : List DictEntry} {n : Nat} {name : Str} {tk : Tok} {v : Value} {g dr k os} {Q : Fin → Shared → Prop} {E : Value → Shared → Prop} (hd : h.get? d = some (dictOf es n)) (hl : (getL name es).isSome = true) (hz : (putL name (PyData.keyHash w.params name) (.str name k) v es).length ≤ 1000)
    (q : ∀ h' k', Heap.ExtBut d h h' → h'.get? d = some (dictOf (putL name (PyData.keyHash w.params name) (.str name k) v es) (putN name es n)) → Q (.done (.ret .none)) ⟨h', g, dr, k', os⟩) :
    wpAny (model prog w) A (storeInDict d (.str name tk) name v) Q E ⟨h, g, dr, k, os⟩ := by
  unfold storeInDict
  refine wpAny_bind (wpAny_pure (wpAny_bind ?_))
  unfold nsSet
  refine wpAny_bind (wpAny_bind (wpAny_askSetting (wpAny_pure (wpAny_bind (wpAny_mkText (wpAny_bind (wpAny_loadPart hd ?_)))))))
  have hd' := Heap.get?_update_self (h := h) (Obj.putName name (PyData.keyHash w.params name) (.str name k) v) hd (by rw [putName_dict]; rfl)
  rw [putName_dict] at hd'
  dsimp only
  have c := noRefKey hl
  rw [aRefKeyMayBeTheName_at, c]
  refine wpAny_updatePart hd ?_
  refine wpAny_bind (wpAny_lookBehind hd' (pastItsLine_dict (by rw [List.size_toArray, sizeLine_eq]; (first | exact Mine.w30 hz | omega))) ?_)
  exact wpAny_pure (q _ _ (Heap.SameBut.update ..).extBut hd')
/-- the first attribute that a def is given -/
theorem fo_sa {st : Addr} {v : Value} {o : Obj} {fd : FuncData} {R : Unit → Heap → Prop} (ho : h.get? st = some o) (hc : o.cls = .type "function") (hd : o.data = .func fd) (hn : o.dict = none)
    (q : ∀ d h', h.get? d = none → Heap.ExtBut st h h' → (∃ o fd, h'.get? st = some o ∧ o.cls = .type "function" ∧ o.data = .func fd ∧ o.dict = some d ∧ h'.Ns d (fun x => if x = Str.ofString "read" then some v else none)) → d ≠ st → R () h') : T prog w A (setAttr (.ref st) (Str.ofString "read") v) R h := by
  intro g dr k os
  have hT : ∀ t : Tok, (⟨h, g, dr, t, os⟩ : Shared).TypeIs (.ref st) "function" := fun t => ⟨o, ho, hc⟩
  unfold setAttr
  refine wpAny_bind (wpAny_mkText (wpAny_bind (wpAny_callSpecial?_slot (hT _) slot_fsa (wpAny_call_entry slot_fsa (hT _) entry_osa ?_ (args_osa _ _ _)))))
  show wpAny (model prog w) A.in1 (Builtin.«object.__setattr__» ⟨[.ref st, .str (Str.ofString "read") k, v], []⟩) _ _ ⟨h, g, dr, k + 1, os⟩
  rw [osa_eq, refuse_eq]
  refine wpAny_bind (wpAny_bind (wpAny_typeOf (hT _) (wpAny_bind ?_)))
  rw [fl_mro]
  refine wpAny_pure ?_
  rw [fl_pass]
  refine wpAny_pure (wpAny_bind (wpAny_typeOf (hT _) (wpAny_bind ?_)))
  rw [fl_read]
  refine wpAny_pure (wpAny_bind (wpAny_pure ?_))
  show wpAny _ _ (storeInOwnDict _ _ _ _ _ _) _ _ _
  unfold storeInOwnDict
  refine wpAny_bind (wpAny_pure (wpAny_bind ?_))
  show wpAny _ _ (instanceDict _ _) _ _ _
  unfold instanceDict
  refine wpAny_bind (wpAny_loadPart ho ?_)
  rw [hc]
  refine wpAny_bind (wpAny_pure ?_)
  rw [hn]
  show wpAny _ _ (if (!true || !typeHasDict (.type "function")) = true then _ else _) _ _ _
  rw [fl_hasDict, if_neg (by decide)]
  rw [hd]
  refine wpAny_bind (wpAny_alloc ?_)
  have hs : st < h.objs.size := Heap.lt_size ho
  have ho' : (h.push { cls := .type "dict", data := .dict #[] }).get? st = some o := Heap.get?_push_of_some _ ho
  have hf : ({ o with dict := some h.objs.size } : Obj).isFreed = false := by
    have : o.data = .func fd := hd
    unfold Obj.isFreed; rw [this]
  refine wpAny_bind (wpAny_update ho' ?_)
  have hdo : ((h.push { cls := .type "dict", data := .dict #[] }).update st fun o => { o with dict := some h.objs.size }).get? h.objs.size = some (dictOf [] 0) := by
    rw [(Heap.SameBut.update _ st _).2 _ (Nat.ne_of_gt hs)]
    exact Heap.get?_push_size _ rfl
  have hst : ((h.push { cls := .type "dict", data := .dict #[] }).update st fun o => { o with dict := some h.objs.size }).get? st = some { o with dict := some h.objs.size } := Heap.get?_update_self _ ho' hf
  show wpAny _ _ (dictMade _ _ _) _ _ (⟨(h.push { cls := .type "dict", data := .dict #[] }).update st fun o => { o with dict := some h.objs.size }, g, dr, k + 1, os⟩ : Shared)
  have hk : Heap.ExtBut st h ((h.push { cls := .type "dict", data := .dict #[] }).update st fun o => { o with dict := some h.objs.size }) := fun b o' nb e => by rw [(Heap.SameBut.update _ st _).2 _ nb]; exact Heap.get?_push_of_some _ e
  generalize ((h.push { cls := .type "dict", data := .dict #[] }).update st fun o => { o with dict := some h.objs.size }) = H at hdo hst hk ⊢
  unfold dictMade
  show wpAny _ _ (if finalisedInACycleAlone "function" = true then _ else _) _ _ _
  rw [fl_cyc, if_neg Bool.false_ne_true]
  refine wpAny_pure ?_
  show wpAny _ _ (storeInDict _ _ _ _) _ _ _
  refine st_dict hdo rfl (show 1 ≤ 1000 by (first | exact Mine.w31 | omega)) fun h' tk hk' hd' => ⟨_, rfl, wpAny_pure ⟨_, _, rfl, q h.objs.size h' (Wd.size_none h) (fun b o' nb e => hk' b o' (Nat.ne_of_lt (Heap.lt_size e)) (hk b o' nb e)) ?_ (Nat.ne_of_gt hs)⟩⟩
  refine ⟨_, fd, hk' _ _ (Nat.ne_of_lt hs) hst, hc, hd, rfl, _, _, _, hd', rfl, ?_, ?_⟩
  · intro e he
    rw [List.mem_toArray] at he
    cases List.mem_singleton.mp he
    exact ⟨_, _, rfl⟩
  · intro n
    have : ∀ (hh : Int) (tt : Tok), nsFind ([⟨hh, .str (Str.ofString "read") tt, v⟩] : List DictEntry).toArray n = if n = Str.ofString "read" then some v else none := by
      intro hh tt
      unfold nsFind findBy
      rw [List.find?_toArray, List.find?_cons]
      by_cases e : n = Str.ofString "read"
      · subst e; simp [Value.isStr]
      · rw [if_neg e]
        have : Value.isStr (.str (Str.ofString "read") tt) n = false := by
          show (Str.ofString "read" == n) = false
          exact beq_eq_false_iff_ne.mpr fun z => e z.symm
        simp [this]
    exact this _ _
end Mine
end

section
namespace Mine
open PySem PySem.W PyProof.Rows Builtin Builtin.ObjectAttr
variable {prog : Program} {w : World} {A : Around} {h h₀ : Heap} {env : Env} {R : Value → Heap → Prop} {Q : Flow → Heap → Prop} {pos : Pos} {rs : List Res} {f : Res}

/-- a call, as a code -/
def KC (prog : Program) (w : World) (A : Around) (c : Code) (R : Value → Heap → Prop) (h : Heap) : Prop :=
  ∀ g d k os, codeAny (model prog w) A c (fun r s' => match r with
    | .ok (.ret v) => TE g d os R v s'
    | .ok _ => False
    | .error _ => False) ⟨h, g, d, k, os⟩
theorem T_of_KC {f : Value} {args : List Value} (x : KC prog w A (.call f ⟨args, []⟩) R h) : T prog w A (call f args) R h := fun g d k os => wpAny_call (codeAny_mono (x g d k os) fun r s' z => by
  rcases r with e | (v | _ | _ | _) <;> first | exact z | exact z.elim)
theorem KC_method {f self : Value} {p : Addr} {args : List Value} (ho : h.get? p = some (methodObj f self)) (x : KC prog w A (.call f ⟨self :: args, []⟩) R h) : KC prog w A (.call (.ref p) ⟨args, []⟩) R h :=
  fun g d k os => method_call ho (x g d k os)
theorem call_fnXc {fa c : Addr} {qual : Str} {st : Stmt} {args : List Value} {n m : Nat} {cl : List (Str × Addr)} (F : FnIs h fa c qual st cl) (g : Gd w h) (tb : Tabs h) (ok : Ok A (n + 1)) (hm : args.length = m) (hfn : fnOk st m = true)
    (bnd : ∀ doc pm ct, bindArgs (fnX (nameOfD st) qual (paramsOf st) (bodyOf st) (scopeOf st) cl .none .none doc pm none (.ref c) ct) ⟨args, []⟩ = pure (((paramsOf st).args.map (·.arg)).zip args))
    (X : List Res) (hX : ∀ r ∈ X, ∃ o, h.get? r.1 = some o ∧ r.2 o) (ndX : (X.map (·.1)).Nodup) (sfX : ∀ r ∈ X, ∀ o, r.2 o → safe o) (loX : ∀ r ∈ X, okA r.1)
    (k : ∀ L env h₀ h₁, Sc env L (scopeOf st).names → env.code = .ref c → env.cells = cl → (∀ b o, h.get? b = some o → b ≠ 72 → b ≠ 79 → b ∉ X.map (·.1) → h₀.get? b = some o) → h.get? L = none →
      Wd w h₀ ((L, Loc (scopeOf st).names (args.map some ++ List.replicate ((scopeOf st).names.length - args.length) none)) :: X) h₁ → Ok (A.deeper env) n →
      T prog w (A.deeper env) (execs (bodyOf st) env) (fun f h' => R (retv f) h') h₁) :
    KC prog w A (.call (.ref fa) ⟨args, []⟩) R h := by
  unfold fnOk at hfn
  simp only [Bool.and_eq_true, decide_eq_true_eq, Bool.not_eq_true'] at hfn
  obtain ⟨⟨⟨⟨⟨⟨hlen, hpre⟩, hok⟩, hcell⟩, hkind⟩, hco⟩, hgen⟩ := hfn
  subst hm
  obtain ⟨o, doc, pm, ct, ho, hd, hcd⟩ := F
  intro gs d tk os
  refine codeAny_call_def (s := ⟨h, gs, d, tk, os⟩) ok.room ho hd g.nl hcd rfl (.of_eq (bnd _ _ _)) ?_ ?_ ?_ hco hgen hkind
  · intro p hp
    have := List.all_eq_true.mp hcell p hp
    simpa using this
  · intro p hp
    obtain ⟨i, hi⟩ := List.getElem?_of_mem hp
    have hi' := hi
    rw [List.getElem?_zip_eq_some] at hi'
    have hia : i < args.length := (List.getElem?_eq_some_iff.mp hi'.2).1
    have e1 : ((scopeOf st).names.take args.length)[i]? = some (p.1, .local) := by
      rw [hpre, List.getElem?_take, if_pos hia, List.getElem?_map, hi'.1]; rfl
    rw [List.getElem?_take, if_pos hia] at e1
    refine lookup_of_place ?_ e1
    have := hok; unfold okNames at this; rw [Bool.and_eq_true] at this; exact of_decide_eq_true this.1
  · intro h₁ hns hkp
    have hnd : ((scopeOf st).names.map (·.1)).Nodup := by
      have := hok; unfold okNames at this; rw [Bool.and_eq_true] at this; exact of_decide_eq_true this.1
    have W₀ := Wd.start g tb hX ndX sfX loX
    have hz : ((((paramsOf st).args.map (·.arg)).zip args)).length = args.length := by rw [List.length_zip]; (first | exact Mine.w28 hlen | omega)
    have hfst : ((((paramsOf st).args.map (·.arg)).zip args)).map (·.1) = ((paramsOf st).args.map (·.arg)).take args.length := by
      exact zip_fst _ _
    have hsnd : ((((paramsOf st).args.map (·.arg)).zip args)).map (·.2) = args := List.map_snd_zip hlen
    have hm : ∀ y, ((((paramsOf st).args.map (·.arg)).zip args)).reverse.lookup y = lkp (scopeOf st).names (args.map some ++ List.replicate ((scopeOf st).names.length - args.length) none) y := by
      intro y
      rw [bind_lkp (n := (scopeOf st).names.length - args.length) hnd (by
        rw [hz, hfst, ← List.map_take, hpre, List.map_take, List.map_map]
        simp [Function.comp_def]) y]
      rw [show (List.map (fun b : Str × Value => some b.2) ((((paramsOf st).args.map (·.arg)).zip args))) = args.map some by rw [← hsnd, List.map_map]; simp [hsnd]]
    have hL : h.get? h.objs.size = none := Wd.size_none h
    obtain ⟨oL, es, ep, eL, dL, kL, fL⟩ := hns
    have W₁ := W₀.add (a := h.objs.size) (P := Loc (scopeOf st).names (args.map some ++ List.replicate ((scopeOf st).names.length - args.length) none)) hkp hL eL ⟨es, ep, dL, kL, fun y => (fL y).trans (hm y)⟩ (fun _ => Loc.safe) W₀.size
    have S : Sc (callEnv (fnX (nameOfD st) qual (paramsOf st) (bodyOf st) (scopeOf st) cl .none .none doc pm none (.ref c) ct) h.objs.size fa) h.objs.size (scopeOf st).names := .of hkind rfl hok rfl rfl rfl
    have kk := k h.objs.size _ _ h₁ S rfl rfl (fun b o e n1 n2 n3 => hideAll_get _ e fun q => by
      rcases List.mem_cons.mp q with q | q
      · exact n1 q
      · rcases List.mem_cons.mp q with q | q
        · exact n2 q
        · exact n3 q) hL W₁ (ok.deeper _)
    refine wpAny_mono (kk gs d _ os) (fun f s' hq => ?_) fun _ _ e => e.elim
    obtain ⟨h', k', rfl, q⟩ := hq
    cases f <;> exact ⟨_, _, rfl, q⟩
-- attributes
theorem x_setattr {o value : Expr} {name : Str} {ap p : Pos} {rest : List Stmt}
    (q : T prog w A (eval value env) (fun v h₁ => T prog w A (eval o env) (fun ov h₂ => T prog w A (setAttr ov name v) (fun _ h₃ => T prog w A (execs rest env) Q h₃) h₂) h₁) h)
    (hs : swapsWith value (some (.Attribute o name ap)) p.line env = pure false := by rfl) : T prog w A (execs (.Assign [.Attribute o name ap] value p :: rest) env) Q h :=
  x_seq fun g d k os => plainObj_wpAny_Assign_Attribute (T_chain q fun _ _ k₁ z₁ => T_chain (z₁ : T prog w A _ _ _) fun _ _ k₂ z₂ => wpAny_mono ((z₂ : T prog w A _ _ _) g d k₂ os) (fun _ _ ⟨h₃, k₃, e, q₃⟩ => ⟨h₃, k₃, e, q₃⟩) fun _ _ e => e) hs
theorem x_augattr {o value : Expr} {name : Str} {ap p : Pos} {op : Operator} {rest : List Stmt}
    (q : T prog w A (eval o env) (fun ov h₁ => T prog w A (getAttr ov name true) (fun old h₂ => T prog w A (eval value env) (fun v h₃ => T prog w A (inplaceOp op old v) (fun new h₄ => T prog w A (setAttr ov name new) (fun _ h₅ => T prog w A (execs rest env) Q h₅) h₄) h₃) h₂) h₁) h) :
    T prog w A (execs (.AugAssign (.Attribute o name ap) op value p :: rest) env) Q h :=
  x_seq fun g d k os => wpAny_AugAssign_AttributeAny (T_chain q fun _ _ k₁ z₁ => T_chain (z₁ : T prog w A _ _ _) fun _ _ k₂ z₂ => T_chain (z₂ : T prog w A _ _ _) fun _ _ k₃ z₃ => T_chain (z₃ : T prog w A _ _ _) fun _ _ k₄ z₄ => wpAny_mono ((z₄ : T prog w A _ _ _) g d k₄ os) (fun _ _ ⟨h₅, k₅, e, q₅⟩ => ⟨h₅, k₅, e, q₅⟩) fun _ _ e => e)
theorem setting_K {f1 f2 f3 f4 : FuncData} {P : Params} : (clsIn (kfrag f1 f2 f3 f4 P) 52).any (·.hasDict) = true := by kernel_rfl
/-- an attribute stored in the object's own dict -/
theorem sa_own {Lx Dx : Addr} {name : Str} {v : Value} {es : List DictEntry} {n : Nat} {R : Unit → Heap → Prop} (g : Gd w h) (hx : h.get? Lx = some (instObj 52 Dx)) (hd : h.get? Dx = some (dictOf es n)) (ht : ∀ f1 f2 f3 f4 P, takerIn (kfrag f1 f2 f3 f4 P) 52 name = some none)
    (hl : (getL name es).isSome = true) (hz : ∀ k, (putL name (PyData.keyHash w.params name) (.str name k) v es).length ≤ 1000)
    (q : ∀ h' k, Heap.ExtBut Dx h h' → h'.get? Dx = some (dictOf (putL name (PyData.keyHash w.params name) (.str name k) v es) (putN name es n)) → R () h') : T prog w A (setAttr (.ref Lx) name v) R h := by
  obtain ⟨f1, f2, f3, f4, K⟩ := g.kf
  intro gs dr k os
  have I : InstAt h Lx (instObj 52 Dx) 52 (some (dictOf es n)) := ⟨hx, rfl, rfl, hd⟩
  refine set_plain (s := ⟨h, gs, dr, k, os⟩) K I kg3 (osa_open (s := ⟨h, gs, dr, k + 1, os⟩) K I kg5 (ht f1 f2 f3 f4 _) fun b => ?_)
  obtain ⟨cd, hc, hcd⟩ := any_some (setting_K (f1 := f1) (f2 := f2) (f3 := f3) (f4 := f4) (P := w.params))
  show wpAny _ _ (storeInOwnDict _ _ _ _ _ _) _ _ _
  unfold storeInOwnDict
  refine wpAny_bind (wpAny_pure (wpAny_bind ?_))
  show wpAny _ _ (instanceDict _ _) _ _ _
  unfold instanceDict
  refine wpAny_bind (wpAny_loadPart hx ?_)
  refine wpAny_bind ((looks_clsIn K hc).here ?_)
  rw [hcd]
  refine wpAny_pure (a := some Dx) ?_
  show wpAny _ _ (storeInDict _ _ _ _) _ _ _
  refine st_dict hd hl (hz _) fun h' k' he hd' => ?_
  exact ⟨_, _, rfl, q h' _ he hd'⟩
end Mine
end

section
namespace Mine
namespace Tm
def ap : Tm → Nat
  | leaf _ => 0
  | app f x => 1 + ap f + ap x
theorem sz_ap : ∀ t, sz t = 2 * ap t + 1
  | leaf _ => rfl
  | app f x => by simp only [sz, ap, sz_ap f, sz_ap x]; (first | exact Mine.w3 | omega)
theorem nexts_le : ∀ t, (nexts t).length ≤ ap t
  | leaf _ => Nat.le_refl _
  | app f x => by
    have h1 := nexts_le f
    have h2 := nexts_le x
    simp only [nexts, List.length_append, List.length_map, ap]
    have : (root (app f x)).toList.length ≤ 1 := by cases root (app f x) <;> simp
    (first | exact Mine.w4 h1 h2 this | omega)
theorem nexts_ap {t u : Tm} (h : u ∈ nexts t) : ap u < ap t := by
  have h1 := nexts_sz h
  rw [sz_ap, sz_ap] at h1; (first | exact Mine.w5 h1 | omega)
def rc : Nat → Tm → List Tm
  | 0, t => [t]
  | n + 1, t => t :: (nexts t).flatMap (rc n)
theorem rc_self : ∀ n t, t ∈ rc n t
  | 0, t => .head _
  | n + 1, t => .head _
theorem rc_step : ∀ n t u v, ap t ≤ n → u ∈ rc n t → v ∈ nexts u → v ∈ rc n t
  | 0, t, u, v, h, hu, hv => by
    cases List.mem_singleton.mp hu
    have := nexts_ap hv; omega
  | n + 1, t, u, v, h, hu, hv => by
    rcases List.mem_cons.mp hu with rfl | hu
    · exact .tail _ (List.mem_flatMap.mpr ⟨v, hv, rc_self n v⟩)
    · obtain ⟨t', ht, hu⟩ := List.mem_flatMap.mp hu
      have := nexts_ap ht
      exact .tail _ (List.mem_flatMap.mpr ⟨t', ht, rc_step n t' u v (by first | decide | (first | exact Mine.w6 h this | omega)) hu hv⟩)
def bnd : Nat → Nat
  | 0 => 1
  | n + 1 => 1 + (n + 1) * bnd n
theorem flat_le {α β : Type} {f : α → List β} {b : Nat} : ∀ {l : List α}, (∀ a ∈ l, (f a).length ≤ b) → (l.flatMap f).length ≤ l.length * b
  | [], _ => by simp
  | a :: l, h => by
    have h1 := h a (.head _)
    have h2 := flat_le (l := l) fun x hx => h x (.tail _ hx)
    rw [List.flatMap_cons, List.length_append, List.length_cons, Nat.add_mul, Nat.one_mul]; (first | exact Mine.w7 h1 h2 | omega)
theorem rc_len : ∀ n t, ap t ≤ n → (rc n t).length ≤ bnd n
  | 0, t, _ => Nat.le_refl _
  | n + 1, t, h => by
    have h1 := nexts_le t
    have h2 := flat_le (f := rc n) (b := bnd n) (l := nexts t) fun u hu => rc_len n u (by have := nexts_ap hu; (first | exact Mine.w6 h this | omega))
    have h3 : (nexts t).length * bnd n ≤ (n + 1) * bnd n := Nat.mul_le_mul_right _ (by first | decide | (first | exact Mine.w8 h h1 | omega))
    simp only [rc, bnd, List.length_cons]; (first | exact Mine.w9 h2 h3 | omega)
theorem nodup_len {α : Type} [DecidableEq α] : ∀ {l m : List α}, l.Nodup → (∀ a ∈ l, a ∈ m) → l.length ≤ m.length
  | [], _, _, _ => Nat.zero_le _
  | a :: l, m, nd, h => by
    rw [List.nodup_cons] at nd
    have hm := h a (.head _)
    have := nodup_len (l := l) (m := m.erase a) nd.2 fun b hb => by
      have hne : b ≠ a := fun e => nd.1 (e ▸ hb)
      exact (List.mem_erase_of_ne hne).mpr (h b (.tail _ hb))
    rw [List.length_erase_of_mem hm] at this
    have : 0 < m.length := List.length_pos_of_mem hm
    rw [List.length_cons]; (first | exact Mine.w10 (by assumption) this | omega)
theorem keys_len {t0 : Tm} {l : List Tm} (hz : sz t0 ≤ 13) (nd : l.Nodup) (h : ∀ t ∈ l, t ∈ rc 6 t0) : l.length ≤ 1957 :=
  Nat.le_trans (nodup_len nd h) (rc_len 6 t0 (by rw [sz_ap] at hz; (first | exact Mine.w11 hz | omega)))
/-- the search: words in the order of their finding, with their distance; i of them worked off -/
structure Inv (t0 : Tm) (fw : List (Tm × Nat)) (i : Nat) : Prop where
  nd : (fw.map (·.1)).Nodup
  hd : fw[0]? = some (t0, 0)
  le : i ≤ fw.length
  sorted : ∀ (a b : Nat) (p q : Tm × Nat), a ≤ b → fw[a]? = some p → fw[b]? = some q → p.2 ≤ q.2
  bound : ∀ (a : Nat) (p q : Tm × Nat), fw[a]? = some p → fw[i]? = some q → p.2 ≤ q.2 + 1
  good : ∀ p ∈ fw, N p.1 = N t0 ∧ F t0 ≤ p.2 + F p.1 ∧ sz p.1 ≤ sz t0 ∧ p.1 ∈ rc 6 t0
  closed : ∀ (a : Nat) (p : Tm × Nat), a < i → fw[a]? = some p → ∀ u ∈ nexts p.1, ∃ d, (u, d) ∈ fw ∧ d ≤ p.2 + 1
def addOne (d : Nat) (fw : List (Tm × Nat)) (u : Tm) : List (Tm × Nat) := if u ∈ fw.map (·.1) then fw else fw ++ [(u, d)]
/-- in the middle of working off word i: j of its next words are in -/
structure Mid (t0 x : Tm) (d : Nat) (fw : List (Tm × Nat)) (i j : Nat) : Prop where
  nd : (fw.map (·.1)).Nodup
  hd : fw[0]? = some (t0, 0)
  at_ : fw[i]? = some (x, d)
  sorted : ∀ (a b : Nat) (p q : Tm × Nat), a ≤ b → fw[a]? = some p → fw[b]? = some q → p.2 ≤ q.2
  bound : ∀ p ∈ fw, p.2 ≤ d + 1
  good : ∀ p ∈ fw, N p.1 = N t0 ∧ F t0 ≤ p.2 + F p.1 ∧ sz p.1 ≤ sz t0 ∧ p.1 ∈ rc 6 t0
  closed : ∀ (a : Nat) (p : Tm × Nat), a < i → fw[a]? = some p → ∀ u ∈ nexts p.1, ∃ d, (u, d) ∈ fw ∧ d ≤ p.2 + 1
  part : ∀ u ∈ (nexts x).take j, ∃ d', (u, d') ∈ fw ∧ d' ≤ d + 1
theorem Inv.mid {t0 x : Tm} {d i : Nat} {fw : List (Tm × Nat)} (I : Inv t0 fw i) (h : fw[i]? = some (x, d)) : Mid t0 x d fw i 0 :=
  ⟨I.nd, I.hd, h, I.sorted, fun p hp => by obtain ⟨a, ha⟩ := List.getElem?_of_mem hp; exact I.bound a p _ ha h, I.good, I.closed, fun u hu => by simp at hu⟩
theorem Mid.next {t0 x u : Tm} {d i j : Nat} {fw : List (Tm × Nat)} (hz : sz t0 ≤ 13) (M : Mid t0 x d fw i j) (hu : (nexts x)[j]? = some u) : Mid t0 x d (addOne (d + 1) fw u) i (j + 1) := by
  have hum : u ∈ nexts x := List.mem_of_getElem? hu
  have hxm : (x, d) ∈ fw := List.mem_of_getElem? M.at_
  have gx : N x = N t0 ∧ F t0 ≤ d + F x ∧ sz x ≤ sz t0 ∧ x ∈ rc 6 t0 := M.good _ hxm
  have hst := step_all (sz x) x (Nat.le_refl _) u hum
  have htk : (nexts x).take (j + 1) = (nexts x).take j ++ [u] := by rw [List.take_add_one, hu]; rfl
  unfold addOne
  split
  · rename_i h
    obtain ⟨p, hp, e⟩ := List.mem_map.mp h
    refine ⟨M.nd, M.hd, M.at_, M.sorted, M.bound, M.good, M.closed, fun v hv => ?_⟩
    rw [htk] at hv
    rcases List.mem_append.mp hv with hv | hv
    · exact M.part v hv
    · cases List.mem_singleton.mp hv
      exact ⟨p.2, by rw [← e]; exact hp, M.bound p hp⟩
  · rename_i h
    have lt_of : ∀ {a p}, fw[a]? = some p → a < fw.length := fun e => (List.getElem?_eq_some_iff.mp e).1
    have app_l : ∀ {a p}, fw[a]? = some p → (fw ++ [(u, d + 1)])[a]? = some p := fun e => by rw [List.getElem?_append_left (lt_of e)]; exact e
    have app_inv : ∀ {a p}, (fw ++ [(u, d + 1)])[a]? = some p → fw[a]? = some p ∨ (a = fw.length ∧ p = (u, d + 1)) := by
      intro a p e
      by_cases q : a < fw.length
      · rw [List.getElem?_append_left q] at e; exact .inl e
      · rw [List.getElem?_append_right (by first | decide | (first | exact Mine.w12 q | omega))] at e
        cases hz : a - fw.length with
        | zero => rw [hz] at e; simp at e; exact .inr ⟨by (first | exact Mine.w13 q hz | omega), e.symm⟩
        | succ k => rw [hz] at e; simp at e
    refine ⟨?_, app_l M.hd, app_l M.at_, ?_, ?_, ?_, ?_, ?_⟩
    · rw [List.map_append, List.nodup_append]
      refine ⟨M.nd, by simp, fun a ha b hb e => ?_⟩
      simp at hb; subst hb; subst e; exact h ha
    · intro a b p q hab hp hq
      rcases app_inv hp with hp | ⟨rfl, rfl⟩
      · rcases app_inv hq with hq | ⟨rfl, rfl⟩
        · exact M.sorted a b p q hab hp hq
        · exact M.bound p (List.mem_of_getElem? hp)
      · rcases app_inv hq with hq | ⟨rfl, rfl⟩
        · have := lt_of hq; (first | exact Mine.w14 hab this | omega)
        · exact Nat.le_refl _
    · intro p hp
      rcases List.mem_append.mp hp with hp | hp
      · exact M.bound p hp
      · cases List.mem_singleton.mp hp; exact Nat.le_refl _
    · intro p hp
      rcases List.mem_append.mp hp with hp | hp
      · exact M.good p hp
      · cases List.mem_singleton.mp hp
        refine ⟨by rw [hst.1, gx.1], by have := gx.2.1; have := hst.2.1; show F t0 ≤ d + 1 + F u; omega, by have := nexts_sz hum; show sz u ≤ sz t0; have := gx.2.2.1; omega, ?_⟩
        exact rc_step 6 t0 x u (by rw [sz_ap] at hz; (first | exact Mine.w11 hz | omega)) gx.2.2.2 hum
    · intro a p ha hp v hv
      rcases app_inv hp with hp | ⟨rfl, rfl⟩
      · obtain ⟨d', h1, h2⟩ := M.closed a p ha hp v hv
        exact ⟨d', List.mem_append.mpr (.inl h1), h2⟩
      · have := lt_of M.at_; omega
    · intro v hv
      rw [htk] at hv
      rcases List.mem_append.mp hv with hv | hv
      · obtain ⟨d', h1, h2⟩ := M.part v hv
        exact ⟨d', List.mem_append.mpr (.inl h1), h2⟩
      · cases List.mem_singleton.mp hv
        exact ⟨d + 1, List.mem_append.mpr (.inr (.head _)), Nat.le_refl _⟩
theorem Mid.done {t0 x : Tm} {d i j : Nat} {fw : List (Tm × Nat)} (M : Mid t0 x d fw i j) (hj : (nexts x).length ≤ j) : Inv t0 fw (i + 1) := by
  have hlt : i < fw.length := (List.getElem?_eq_some_iff.mp M.at_).1
  refine ⟨M.nd, M.hd, hlt, M.sorted, fun a p q hp hq => ?_, M.good, fun a p ha hp u hu => ?_⟩
  · have h1 := M.bound p (List.mem_of_getElem? hp)
    have h2 := M.sorted i (i + 1) (x, d) q (by first | decide | (first | exact Mine.w15 | omega)) M.at_ hq
    simp at h2; (first | exact Mine.w16 h1 h2 | omega)
  · by_cases e : a = i
    · subst e
      rw [M.at_] at hp; cases hp
      exact M.part u (by rw [List.take_of_length_le hj]; exact hu)
    · exact M.closed a p (by first | decide | (first | exact Mine.w17 ha e | omega)) hp u hu
theorem Inv.start {t0 : Tm} : Inv t0 [(t0, 0)] 0 :=
  ⟨by simp, rfl, Nat.zero_le _, fun a b p q _ hp hq => by
    have h1 := (List.getElem?_eq_some_iff.mp hp).1
    have h2 := (List.getElem?_eq_some_iff.mp hq).1
    simp at h1 h2; subst h1 h2; rw [hp] at hq; cases hq; exact Nat.le_refl _, fun a p q hp hq => by
    have h1 := (List.getElem?_eq_some_iff.mp hp).1
    simp at h1; subst h1; rw [hp] at hq; cases hq; (first | exact Mine.w15 | omega), fun p hp => by
    cases List.mem_singleton.mp hp; exact ⟨rfl, by simp, Nat.le_refl _, rc_self _ _⟩, fun a p h => by omega⟩
section
variable {t0 : Tm} {fw : List (Tm × Nat)}
theorem Inv.closedAll (I : Inv t0 fw fw.length) {t : Tm} {d : Nat} (h : (t, d) ∈ fw) : ∀ u ∈ nexts t, ∃ d', (u, d') ∈ fw ∧ d' ≤ d + 1 := by
  obtain ⟨a, ha⟩ := List.getElem?_of_mem h
  exact I.closed a _ (List.getElem?_eq_some_iff.mp ha).1 ha
theorem Inv.goal (I : Inv t0 fw fw.length) : ∀ (n : Nat) (t : Tm) (d : Nat), sz t ≤ n → (t, d) ∈ fw → ∃ d', (N t, d') ∈ fw ∧ d' ≤ d + F t ∧ nexts (N t) = []
  | 0, t, d, h, _ => by have := sz_pos t; omega
  | n + 1, t, d, h, hm => by
    by_cases hne : nexts t = []
    · have := nf_all t hne
      exact ⟨d, by rw [this.1]; exact hm, by omega, by rw [this.1]; exact hne⟩
    · obtain ⟨⟨u, hu, hf⟩, _⟩ := ex_all (sz t) t (Nat.le_refl _) hne
      obtain ⟨d1, h1, h2⟩ := I.closedAll hm u hu
      have hs := nexts_sz hu
      obtain ⟨d', a1, a2, a3⟩ := I.goal n u d1 (by first | decide | omega) h1
      have hN := (step_all (sz t) t (Nat.le_refl _) u hu).1
      rw [hN] at a1 a3
      exact ⟨d', a1, by omega, a3⟩
theorem Inv.few (I : Inv t0 fw fw.length) : (N t0, F t0) ∈ fw ∧ nexts (N t0) = [] := by
  have h0 : (t0, 0) ∈ fw := List.mem_of_getElem? I.hd
  obtain ⟨d', a1, a2, a3⟩ := I.goal (sz t0) t0 0 (Nat.le_refl _) h0
  have hg := (I.good _ a1).2.1
  have hF := (nf_all _ a3).2.1
  have : d' = F t0 := by simp at hg; (first | exact Mine.w18 a2 hg hF | omega)
  exact ⟨this ▸ a1, a3⟩
theorem filter_one {α : Type} {p : α → Bool} {a : α} : ∀ {l : List α}, l.Nodup → a ∈ l → (∀ x ∈ l, p x = true ↔ x = a) → l.filter p = [a]
  | [], _, h, _ => by cases h
  | b :: l, nd, h, hp => by
    rw [List.nodup_cons] at nd
    by_cases e : b = a
    · subst e
      rw [List.filter_cons, if_pos ((hp b (.head _)).mpr rfl)]
      congr 1
      rw [List.filter_eq_nil_iff]
      intro x hx hpx
      have := (hp x (.tail _ hx)).mp hpx
      subst this; exact nd.1 hx
    · have hb : p b = false := by
        cases q : p b with
        | false => rfl
        | true => exact absurd ((hp b (.head _)).mp q) e
      rw [List.filter_cons, hb]
      simp only [Bool.false_eq_true, if_false]
      rcases List.mem_cons.mp h with h | h
      · exact absurd h.symm e
      · exact filter_one nd.2 h fun x hx => hp x (.tail _ hx)
theorem Inv.normals (I : Inv t0 fw fw.length) : (fw.map (·.1)).filter (fun t => (nexts t).isEmpty) = [N t0] := by
  have hf := I.few
  refine filter_one I.nd (List.mem_map.mpr ⟨_, hf.1, rfl⟩) fun x hx => ?_
  obtain ⟨p, hp, rfl⟩ := List.mem_map.mp hx
  constructor
  · intro h
    have hn : nexts p.1 = [] := List.isEmpty_iff.mp h
    rw [← (I.good p hp).1, (nf_all _ hn).1]
  · intro h
    rw [h, hf.2]; rfl
end
end Tm
end Mine
end

section
namespace Mine
open PySem PySem.W PyProof.Rows
variable {prog : Program} {w : World} {A : Around} {h h₀ : Heap} {env : Env} {R : Value → Heap → Prop} {Q : Flow → Heap → Prop} {pos : Pos} {rs : List Res} {f : Res}

def joinS (ss : List Str) : Str := ⟨(ss.flatMap (·.cps.toList)).toArray⟩
theorem gm_join {x : Str} {t : Tok} {pl : Sem Bool} {Q : Value × List Value → Heap → Prop} (q : Q (.builtin "str.join", [.str x t]) h) : T prog w A (getMethod (.str x t) (Str.ofString "join") pl) Q h :=
  fun _ _ _ _ => GM.join ⟨_, _, rfl, q⟩
theorem Strs.vals : ∀ {vs : List Value} {ss : List Str}, Strs vs ss → ∃ l : List (Str × Tok), vs = strValues l ∧ l.map (·.1) = ss
  | [], [], _ => ⟨[], rfl, rfl⟩
  | v :: vs, [], x => by have := x.1; simp at this
  | [], s :: ss, x => by have := x.1; simp at this
  | v :: vs, s :: ss, x => by
    obtain ⟨t, e⟩ := x.2 0 s rfl
    simp at e; subst e
    obtain ⟨l, e1, e2⟩ := Strs.vals (vs := vs) (ss := ss) ⟨by have := x.1; simpa using this, fun i d' hd => by have := x.2 (i + 1) d' (by simpa using hd); simpa using this⟩
    exact ⟨(s, t) :: l, by rw [e1]; rfl, by rw [List.map_cons, e2]⟩
theorem fold_cps : ∀ (ss : List Str) (acc : Array Nat), ss.foldl (fun acc p => acc ++ (Str.ofString "").cps ++ p.cps) acc = (acc.toList ++ ss.flatMap (·.cps.toList)).toArray
  | [], acc => by simp
  | s :: ss, acc => by
    have e : (Str.ofString "").cps = #[] := by decide
    rw [List.foldl_cons, fold_cps ss, e]
    simp
theorem join_nil : ∀ ss : List Str, Txt.join (Str.ofString "") ss = joinS ss
  | [] => rfl
  | s :: ss => by
    show (⟨_⟩ : Str) = ⟨_⟩
    congr 1
    show List.foldl _ s.cps ss = _
    rw [fold_cps]
    simp
theorem c_join {D : Addr} {vs : List Value} {ss : List Str} {t : Tok} (hl : IsLst h D vs) (hs : Strs vs ss) (hz : (ss.map (·.length)).sum ≤ 16384) (q : ∀ k, R (.str (joinS ss) k) h) : T prog w A (call (.builtin "str.join") [.str (Str.ofString "") t, .ref D]) R h := by
  obtain ⟨l, rfl, e2⟩ := hs.vals
  exact fun _ _ _ _ => SC.join hl.list e2 (joinOk_of (by rw [show (Str.ofString "").length = 0 from by decide]; (first | exact Mine.w63 hz | omega))) fun t' k => ⟨_, _, rfl, by rw [join_nil]; exact q t'⟩
-- digits read back
theorem nval_pos {ds : List Nat} (hd : ∀ c ∈ ds, 0 < c) (hne : ds ≠ []) : 0 < nval ds := by
  cases ds with
  | nil => exact absurd rfl hne
  | cons d ds => have := hd d (.head _); simp only [nval]; (first | exact Mine.w64 this | omega)
theorem i2n_nval : ∀ {ds : List Nat}, (∀ c ∈ ds, c < 512) → i2n 9 ds.length (nval ds) = ds
  | [], _ => rfl
  | d :: ds, hd => by
    have h1 := hd d (.head _)
    have ih := i2n_nval (ds := ds) fun c hc => hd c (.tail _ hc)
    show nval (d :: ds) % 2 ^ 9 :: i2n 9 ds.length (nval (d :: ds) / 2 ^ 9) = d :: ds
    have e1 : nval (d :: ds) % 2 ^ 9 = d := by show (d + 512 * nval ds) % 512 = d; omega
    have e2 : nval (d :: ds) / 2 ^ 9 = nval ds := by show (d + 512 * nval ds) / 512 = nval ds; omega
    rw [e1, e2, ih]
theorem nval_ge : ∀ {ds : List Nat}, (∀ c ∈ ds, 0 < c) → ds ≠ [] → 512 ^ (ds.length - 1) ≤ nval ds
  | [d], hd, _ => by have := hd d (.head _); simp [nval]; (first | exact Mine.w67 this | omega)
  | d :: e :: ds, hd, _ => by
    have ih := nval_ge (ds := e :: ds) (fun c hc => hd c (.tail _ hc)) (by simp)
    simp only [List.length_cons, Nat.add_sub_cancel] at ih ⊢
    rw [show nval (d :: e :: ds) = d + 512 * nval (e :: ds) from rfl, Nat.pow_succ]; (first | exact Mine.w68 ih | omega)
theorem ndig_nval {ds : List Nat} (hd : ∀ c ∈ ds, 0 < c ∧ c < 512) (hne : ds ≠ []) : ndig 9 (nval ds) = ds.length := by
  have h1 := nval_lt fun c hc => (hd c hc).2
  have h2 := nval_ge (fun c hc => (hd c hc).1) hne
  have hb1 : bits (nval ds) ≤ 9 * ds.length := bits_le (by rw [Nat.pow_mul]; exact h1)
  have hb2 : 9 * (ds.length - 1) < bits (nval ds) := by
    have := Nat.lt_of_le_of_lt h2 (bits_lt (nval ds))
    rw [show (512 : Nat) = 2 ^ 9 from rfl, ← Nat.pow_mul] at this
    exact (Nat.pow_lt_pow_iff_right (by decide)).mp this
  have hp : 0 < ds.length := List.length_pos_iff.mpr hne
  unfold ndig; omega
theorem Tm.digits (t : Tm) : i2n 9 (ndig 9 (nval t.codes)) (nval t.codes) = t.codes := by
  have hne : t.codes ≠ [] := fun e => by have := t.codes_len; have := t.sz_pos; rw [e] at *; simp at *; (first | exact Mine.w70 (by assumption) this | omega)
  rw [ndig_nval (fun c hc => t.code_ok c hc) hne, i2n_nval fun c hc => (t.code_ok c hc).2]
theorem Tm.nd_len (t : Tm) : ndig 9 (nval t.codes) = t.sz := by
  have hne : t.codes ≠ [] := fun e => by have := t.codes_len; have := t.sz_pos; rw [e] at *; simp at *; (first | exact Mine.w70 (by assumption) this | omega)
  rw [ndig_nval (fun c hc => t.code_ok c hc) hne, t.codes_len]
theorem Tm.nbits {t : Tm} (hz : t.sz ≤ 13) : bits (nval t.codes) ≤ 117 := by
  refine bits_le (Nat.lt_of_lt_of_le (nval_lt fun c hc => (t.code_ok c hc).2) ?_)
  rw [t.codes_len, show (512 : Nat) = 2 ^ 9 from rfl, ← Nat.pow_mul]
  exact Nat.pow_le_pow_right (by decide) (by first | decide | (first | exact Mine.w71 hz | omega))
-- a call that turns several owned objects
def KeepsX (l : List Addr) (h h' : Heap) : Prop := ∀ b o, h.get? b = some o → b ≠ 72 → b ≠ 79 → b ∉ l → h'.get? b = some o
theorem Wd.callX {h' : Heap} {l : List Addr} {rs' : List Res} (W : Wd w h₀ rs h) (k : KeepsX l h h') (t : Tabs h') (hm : rs'.map (·.1) = rs.map (·.1)) (hl : ∀ a ∈ l, a ∈ rs.map (·.1))
    (own : ∀ r ∈ rs', (∃ o, h'.get? r.1 = some o ∧ r.2 o) ∧ ∀ o, r.2 o → safe o) : Wd w h₀ rs' h' := by
  have hfst : ∀ r ∈ rs', ∃ r' ∈ rs, r'.1 = r.1 := fun r hr => by
    have : r.1 ∈ rs.map (·.1) := hm ▸ List.mem_map_of_mem hr
    obtain ⟨r', h1, h2⟩ := List.mem_map.mp this
    exact ⟨r', h1, h2⟩
  refine ⟨fun b o e => k b o (W.keep b o e) (by rintro rfl; rw [W.no.1] at e; cases e) (by rintro rfl; rw [W.no.2] at e; cases e) fun hb => ?_, fun r hr => ⟨(own r hr).1, ?_⟩, hm ▸ W.nd, fun r hr => (own r hr).2, fun r hr => ?_, t, W.gd, W.no⟩
  · obtain ⟨r, hr, e'⟩ := List.mem_map.mp (hl b hb)
    rw [← e', (W.own r hr).2] at e; cases e
  · obtain ⟨r', h1, h2⟩ := hfst r hr
    rw [← h2]; exact (W.own r' h1).2
  · obtain ⟨r', h1, h2⟩ := hfst r hr
    rw [← h2]; exact W.lo r' h1
/-- what the call did not turn -/
theorem Wd.same {h' : Heap} {l : List Addr} {r : Res} (W : Wd w h₀ rs h) (k : KeepsX l h h') (hr : r ∈ rs) (hn : r.1 ∉ l) : (∃ o, h'.get? r.1 = some o ∧ r.2 o) ∧ ∀ o, r.2 o → safe o := by
  obtain ⟨⟨o, e, p⟩, _⟩ := W.own r hr
  exact ⟨⟨o, k _ _ e (W.lo r hr).ne.1 (W.lo r hr).ne.2 hn, p⟩, W.sf r hr⟩
-- displays of dicts
theorem e_dict1 {ke ve : Expr} (W : Wd w h₀ (f :: rs) h) (q : ∀ H, Wd w h₀ (f :: rs) H → T prog w A (eval ke env) (fun kv h₁ => T prog w A (eval ve env) (fun vv h₂ => ∃ x t, kv = .str x t ∧ h₂ = H ∧ ∀ d h', Wd w h₀ (f :: (d, Dct (strKind prog w) [(x, vv)]) :: rs) h' → R (.ref d) h') h₁) H) :
    T prog w A (eval (.Dict [some ke] [ve] pos) env) R h := by
  intro g d k os
  refine wpAny_Dict_walk (knd := strKind prog w) rfl rfl (by simp) (by simp) ?_
  refine pairTrees_cons_walk ?_
  refine wpAny_mono (q _ (W.skip _) g d k os) (fun kv s₁ hr => ?_) fun _ _ e => e
  obtain ⟨h₁, k₁, rfl, z⟩ := hr
  refine wpAny_mono ((z : T prog w A _ _ _) g d k₁ os) (fun vv s₂ hr => ?_) fun _ _ e => e
  obtain ⟨h₂, k₂, rfl, x, t, rfl, rfl, z⟩ := hr
  refine pairTrees_nil_walk ?_
  refine display_done_str (by simp [allStrKeys]) (by simp [strPairs]) (Heap.DictOf.new h) fun h' hm hs => ⟨h', _, rfl, z _ _ ?_⟩
  have W' := W.push1 (P := Dct (strKind prog w) []) { cls := .type "dict", data := .dict #[] } (by
    obtain ⟨o, es, ep, e, r⟩ := Heap.DictOf.new (knd := strKind prog w) h
    rw [Heap.get?_push_size _ rfl] at e; cases e
    exact ⟨es, ep, r⟩) (fun _ => Dct.safe) rfl
  obtain ⟨o, es, ep, e, r⟩ := hm
  exact W'.upd (i := 1) rfl hs.extBut e ⟨es, ep, r⟩ (fun _ => Dct.safe)
end Mine
end

section
namespace Mine
open PySem PySem.W PyProof.Rows Builtin Builtin.ObjectAttr
variable {prog : Program} {w : World} {A : Around} {h h₀ : Heap} {env : Env} {R : Value → Heap → Prop} {Q : Flow → Heap → Prop} {pos : Pos} {rs : List Res} {f : Res}

def sq (l : List Nat) : Str := ⟨l.toArray⟩
theorem sq_len (l : List Nat) : (sq l).length = l.length := by show l.toArray.size = _; simp
theorem sq_inj {a b : List Nat} (e : sq a = sq b) : a = b := by injection e with e; simpa using e
theorem sq_nil : Str.ofString "" = sq [] := by decide
theorem sq_app (a b : List Nat) : sq a ++ sq b = sq (a ++ b) := by
  show (⟨a.toArray ++ b.toArray⟩ : Str) = ⟨_⟩
  simp
theorem slice_one (cs : List Nat) (p : Nat) (hp : p ≤ cs.length) : Txt.slice (sq cs) (some (p : Int)) (some ((p : Int) + 1)) = sq ((cs.drop p).take 1) := by
  have hl : (sq cs).length = cs.length := sq_len cs
  unfold Txt.slice
  by_cases h : p < cs.length
  · have e := StrLaws.sliced_plain (sq cs) (a := p) (b := p + 1) (by first | decide | (first | exact Mine.w15 | omega)) (by first | decide | (first | exact Mine.w32 hl h | omega))
    have e2 := StrLaws.strSliceIndices_plain (a := p) (b := p + 1) (len := (sq cs).length) (by first | decide | (first | exact Mine.w15 | omega)) (by first | decide | (first | exact Mine.w32 hl h | omega))
    rw [show ((p : Int) + 1) = ((p + 1 : Nat) : Int) by (first | exact Mine.w33 | omega)]
    rw [e, e2]
    split
    · rename_i q
      simp only [beq_self_eq_true, Bool.true_and, beq_iff_eq, List.length_map, List.length_range] at q
      have h1 : cs.length = 1 := by (first | exact Mine.w34 hl q | omega)
      have h0 : p = 0 := by (first | exact Mine.w35 hl h q | omega)
      subst h0
      show sq cs = sq _
      congr 1
      rw [List.drop_zero, List.take_of_length_le (by first | decide | (first | exact Mine.w36 h1 | omega))]
    · show sq _ = _
      rw [show p + 1 - p = 1 by (first | exact Mine.w37 | omega)]; rfl
  · have hpe : p = cs.length := by (first | exact Mine.w22 hp h | omega)
    have e1 : ¬ ((p : Int) < 0) := by (first | exact Mine.w38 | omega)
    have e2 : ¬ ((p : Int) + 1 < 0) := by (first | exact Mine.w39 | omega)
    have e3 : max (0 : Int) (min (p : Int) ((sq cs).length : Int)) = p := by omega
    have e4 : max (0 : Int) (min ((p : Int) + 1) ((sq cs).length : Int)) = p := by omega
    have e : Builtin.Str.strSliceIndices (some (p : Int)) (some ((p : Int) + 1)) 1 (sq cs).length = [] := by
      simp only [Builtin.Str.strSliceIndices, sliceRange, e1, e2, if_false, e3, e4, show ((1 : Int) > 0) = True from by simp, if_true]
      simp
    rw [e]
    have ed : (cs.drop p).take 1 = [] := by rw [hpe, List.drop_length]; rfl
    rw [ed]
    split
    · rename_i q
      simp only [beq_self_eq_true, Bool.true_and, beq_iff_eq, List.length_nil] at q
      have : cs = [] := List.eq_nil_of_length_eq_zero (by first | decide | (first | exact Mine.w42 hl q | omega))
      rw [this]
    · rfl
theorem e_slice_str {value : Expr} {lower upper : Option Expr} {p : Pos} (q : T prog w A (eval value env) (fun o h₁ => T prog w A (evalPart lower env) (fun vl h₂ => T prog w A (evalPart upper env) (fun vu h₃ =>
      ∃ x t i j ti tj, o = .str x t ∧ vl = .int i ti ∧ vu = .int j tj ∧ x.length ≤ 16384 ∧ ∀ h' k, Sub h₃ h' → R (.str (Txt.slice x (some i) (some j)) k) h') h₂) h₁) h)
    (ht : ∀ o r, letTemporaryGo value o r = pure () := by intro _ _; rfl) : T prog w A (eval (.Subscript value (.Slice lower upper none p) pos) env) R h := by
  intro g d k os
  refine wpAny_Subscript_str_slice (T_chain q fun o h₁ k₁ z₁ => T_chain (z₁ : T prog w A _ _ _) fun vl h₂ k₂ z₂ => wpAny_mono ((z₂ : T prog w A _ _ _) g d k₂ os) (fun vu s₃ z₃ => ?_) fun _ _ e => e) ht
  obtain ⟨h₃, k₃, rfl, x, t, i, j, ti, tj, rfl, rfl, rfl, hz, q⟩ := z₃
  refine ⟨x, t, some (i, ti), some (j, tj), rfl, rfl, rfl, ?_⟩
  exact post_val_or_str ⟨Nat.le_trans (Txt.slice_le x _ _) (by rw [sizeLine_eq]; (first | exact Mine.w43 hz | omega)), fun t' k => ⟨_, _, rfl, q _ _ fun _ _ e => Heap.get?_push_of_some _ e⟩⟩
theorem IsCell_sub {h' : Heap} {c : Addr} {v : Option Value} (x : h.IsCell c v) (s : Sub h h') : h'.IsCell c v := let ⟨o, e, p⟩ := x; ⟨o, s _ _ e, p⟩
def qualRO : Str := Str.ofString "_law_lexer" ++ Str.ofString ".<locals>." ++ Str.ofString "_law_read_on"
/-- a lexer over a text: what never turns -/
structure RB (hB : Heap) (Lx Dx st ro cT cA At Pb : Addr) (cs : List Nat) : Prop where
  lx : hB.get? Lx = some (instObj 52 Dx)
  fo : FoAt hB st (.ref ro)
  fn : ∃ c, FnIs hB ro c qualRO (stI 64 1) [(Str.ofString "text", cT), (Str.ofString "at", cA)]
  tx : ∃ t, hB.IsCell cT (some (.str (sq cs) t))
  at_ : hB.IsCell cA (some (.ref At))
  n72 : hB.get? 72 = none
  n79 : hB.get? 79 = none
  nP : hB.get? Pb = none
  nD : hB.get? Dx = none
  nA : hB.get? At = none
  oP : okA Pb
  oD : okA Dx
  oA : okA At
  oL : okA Lx
  PD : Pb ≠ Dx
  PA : Pb ≠ At
  DA : Dx ≠ At
  len : cs.length ≤ 10000
theorem RB.keep {hB h' : Heap} {Lx Dx st ro cT cA At Pb : Addr} {cs : List Nat} (B : RB hB Lx Dx st ro cT cA At Pb cs) (s : Sub hB h) {l : List Addr} (hl : ∀ a ∈ l, a ∈ [Pb, Dx, At]) (k : ∀ b o, h.get? b = some o → b ≠ 72 → b ≠ 79 → b ∉ l → h'.get? b = some o) : Sub hB h' := by
  intro b o e
  refine k b o (s b o e) ?_ ?_ fun hm => ?_
  · rintro rfl; rw [B.n72] at e; cases e
  · rintro rfl; rw [B.n79] at e; cases e
  · have := hl b hm
    simp only [List.mem_cons, List.not_mem_nil, or_false] at this
    rcases this with rfl | rfl | rfl
    · rw [B.nP] at e; cases e
    · rw [B.nD] at e; cases e
    · rw [B.nA] at e; cases e
theorem foRO : fnOk (stI 64 1) 1 = true := by decide +kernel
def nl (l : List Nat) : Int := if l = [10] then 1 else 0
section
variable {hB : Heap} {Lx Dx st ro cT cA At Pb : Addr} {cs : List Nat} {p : Nat} {tp : Tok} {ln : Int} {m : Nat}
theorem readon_spec {t1 : Tok} (B : RB hB Lx Dx st ro cT cA At Pb cs) (s : Sub hB h) (hA : ∃ o, h.get? At = some o ∧ LstW [.int (p : Nat) tp] o) (hp : p ≤ cs.length) (g : Gd w h) (tb : Tabs h) (ok : Ok A (m + 1))
    (q : ∀ h' k tp', KeepsX [At] h h' → Tabs h' → (∃ o, h'.get? At = some o ∧ LstW [.int ((p + ((cs.drop p).take 1).length : Nat) : Int) tp'] o) → R (.str (sq ((cs.drop p).take 1)) k) h') : T prog w A (call (.ref ro) [.int 1 t1]) R h := by
  obtain ⟨c, F⟩ := B.fn
  refine call_fnX (n := m) (F.sub s) g tb ok rfl foRO (fun _ _ _ => rfl) [(At, LstW [.int (p : Nat) tp])] (fun r hr => by cases List.mem_singleton.mp hr; exact hA) (by simp) (fun r hr => by cases List.mem_singleton.mp hr; exact fun _ => LstW.safe) (fun r hr => by cases List.mem_singleton.mp hr; exact B.oA) ?_
  intro L env h₀ h₁ S _ hc hb _ W ok'
  replace W : Wd w h₀ [(L, Loc (scopeOf (stI 64 1)).names [some (.int 1 t1), none, none, none, none]), (At, LstW [.int (p : Nat) tp])] h₁ := W
  have s₀ : Sub hB h₀ := B.keep s (l := [At]) (by simp) hb
  obtain ⟨tt, htx⟩ := B.tx
  have lkT : env.cells.lookup (Str.ofString "text") = some cT := by rw [hc]; rfl
  have lkA : env.cells.lookup (Str.ofString "at") = some cA := by rw [hc]; rfl
  have cT' : ∀ {h'}, Sub h₀ h' → h'.IsCell cT (some (.str (sq cs) tt)) := fun z => IsCell_sub htx (s₀.trans z)
  have cA' : ∀ {h'}, Sub h₀ h' → h'.IsCell cA (some (.ref At)) := fun z => IsCell_sub B.at_ (s₀.trans z)
  have hcl := B.len
  refine x_assign <| e_slice_str <| n_cell 3 S rfl lkT (cT' W.keep) <| p_some <| e_sub <| n_cell 2 S rfl lkA (cA' W.keep) <| e_int fun _ => i_list (W.lstw 1 rfl) (by decide) rfl (by simp) <| p_some <| e_bin <| e_sub <| n_cell 2 S rfl lkA (cA' W.keep) <| e_int fun _ => i_list (W.lstw 1 rfl) (by decide) rfl (by simp) <| n_loc 0 S W rfl rfl <| o_add fun tj => ⟨_, _, _, _, _, _, rfl, rfl, rfl, by rw [sq_len]; (first | exact Mine.w44 hcl | omega), fun h₂ k sb => ?_⟩
  rw [slice_one cs p hp]
  replace W := W.ext sb
  have hsl : (sq ((cs.drop p).take 1)).length ≤ 16384 := by rw [sq_len]; have := List.length_take_le 1 (cs.drop p); (first | exact Mine.w45 this | omega)
  refine s_loc 1 S W rfl rfl fun h₃ W => ?_
  refine x_setsub <| e_bin <| e_sub <| n_cell 2 S rfl lkA (cA' W.keep) <| e_int fun _ => i_list (W.lstw 1 rfl) (by decide) rfl (by simp) <| e_call <| n_bi 4 S W rfl (by decide) <| cw_bi <| a_cons <| n_loc 1 S W rfl rfl <| a_nil <| c_lenstr hsl fun _ => o_add fun tn => n_cell 2 S rfl lkA (cA' W.keep) <| e_int fun _ => s_list 1 W rfl (fun _ z => z) (by decide) (by simp) (by simp) fun h₄ W => ?_
  refine x_ret <| n_loc 1 S W rfl rfl ?_
  refine q h₄ k tn (fun b o e n1 n2 n3 => W.keep b o (hb b o e n1 n2 n3)) W.tb ?_
  have := W.get (i := 1) rfl
  rw [sq_len] at this
  rw [show ((p + ((cs.drop p).take 1).length : Nat) : Int) = (p : Int) + (((cs.drop p).take 1).length : Nat) by (first | exact Mine.w46 | omega)]
  exact this
end
end Mine
end

section
namespace Mine
open PySem PySem.W PyProof.Rows Builtin Builtin.ObjectAttr
variable {prog : Program} {w : World} {A : Around} {h h₀ : Heap} {env : Env} {R : Value → Heap → Prop} {Q : Flow → Heap → Prop} {pos : Pos} {rs : List Res} {f : Res}

theorem all2 {P : Res → Prop} {a b : Res} (ha : P a) (hb : P b) : ∀ r ∈ [a, b], P r := fun r hr => by
  simp only [List.mem_cons, List.not_mem_nil, or_false] at hr
  rcases hr with rfl | rfl <;> assumption
theorem foM1 : fnOk (stM 1) 1 = true := by decide +kernel
theorem sa_ln {Lx Dx st Pb : Addr} {ln i : Int} {t : Tok} {R : Unit → Heap → Prop} (g : Gd w h) (X : LexAt h Lx Dx ln st Pb) (q : ∀ h', Heap.ExtBut Dx h h' → (∃ o, h'.get? Dx = some o ∧ LxD i st Pb o) → R () h') :
    T prog w A (setAttr (.ref Lx) (Str.ofString "lineno") (.int i t)) R h := by
  obtain ⟨hx, o, e, h1, h2, h3, h4, k1, k2, k3, k4, tl, tw, n, rfl⟩ := X
  have hp : ∀ hsh k, putL (Str.ofString "lineno") hsh (.str (Str.ofString "lineno") k) (.int i t) (lxEs h1 h2 h3 h4 k1 k2 k3 k4 tl tw ln st Pb) = lxEs h1 h2 h3 h4 k1 k2 k3 k4 t tw i st Pb := fun _ _ => rfl
  refine sa_own g hx e (fun _ _ _ _ _ => kg8) rfl (fun k => by rw [hp]; show 4 ≤ 1000; (first | exact Mine.w47 | omega)) fun h' k he hd => q h' he ⟨_, hd, ?_⟩
  rw [hp]
  exact ⟨h1, h2, h3, h4, k1, k2, k3, k4, t, tw, _, rfl⟩
section
variable {hB : Heap} {Lx Dx st ro cT cA At Pb : Addr} {cs : List Nat} {p : Nat} {tp : Tok} {ln : Int} {m : Nat}
theorem RB.fnro {hB : Heap} (B : RB hB Lx Dx st ro cT cA At Pb cs) (s : Sub hB h) : IsFn h ro := let ⟨_, F⟩ := B.fn; (F.sub s).isFn
theorem readchar_spec (B : RB hB Lx Dx st ro cT cA At Pb cs) (s : Sub hB h) (hD : ∃ o, h.get? Dx = some o ∧ LxD ln st Pb o) (hA : ∃ o, h.get? At = some o ∧ LstW [.int (p : Nat) tp] o) (hp : p ≤ cs.length) (g : Gd w h) (tb : Tabs h) (ok : Ok A (m + 2))
    (q : ∀ h' k tp', KeepsX [Dx, At] h h' → Tabs h' → (∃ o, h'.get? Dx = some o ∧ LxD (ln + nl ((cs.drop p).take 1)) st Pb o) → (∃ o, h'.get? At = some o ∧ LstW [.int ((p + ((cs.drop p).take 1).length : Nat) : Int) tp'] o) → R (.str (sq ((cs.drop p).take 1)) k) h') :
    KC prog w A (.call (.ref 35) ⟨[.ref Lx], []⟩) R h := by
  refine call_fnXc (n := m + 1) (cl := []) (g.me ("_netrclex._read_char", 35, 34, 1) (by decide)) g tb ok rfl foM1 (fun _ _ _ => rfl) [(Dx, LxD ln st Pb), (At, LstW [.int (p : Nat) tp])]
    (all2 (P := fun r => ∃ o, h.get? r.1 = some o ∧ r.2 o) hD hA) (by simpa using B.DA) (all2 (P := fun r => ∀ o, r.2 o → safe o) (fun _ => LxD.safe) (fun _ => LstW.safe)) (all2 (P := fun r => okA r.1) B.oD B.oA) ?_
  intro L env h₀ h₁ S _ hc hb _ W ok'
  replace W : Wd w h₀ [(L, Loc (scopeOf (stM 1)).names [some (.ref Lx), none]), (Dx, LxD ln st Pb), (At, LstW [.int (p : Nat) tp])] h₁ := W
  replace hb : ∀ b o, h.get? b = some o → b ≠ 72 → b ≠ 79 → b ∉ [Dx, At] → h₀.get? b = some o := hb
  have s₀ : Sub hB h₀ := B.keep s (l := [Dx, At]) (by simp) hb
  have hX : ∀ {h' ln'}, Sub h₀ h' → (∃ o, h'.get? Dx = some o ∧ LxD ln' st Pb o) → LexAt h' Lx Dx ln' st Pb := fun z d => ⟨z _ _ (s₀ _ _ B.lx), d⟩
  refine x_assign <| e_meth _ rfl <| e_attr <| n_loc 0 S W rfl rfl <| ga_st W.G (hX W.keep (W.get (i := 1) rfl)) <| fo_gm (B.fo.sub (s₀.trans W.keep)) <| cw_fn <| a_cons <| e_int fun t1 => a_nil ⟨B.fnro (s₀.trans W.keep), ?_⟩
  refine readon_spec (m := m) B (s₀.trans W.keep) (W.get (i := 2) rfl) hp W.G W.tb ok' fun h₂ k tp' kx tb₂ hA2 => ?_
  have nL : L ≠ At := W.ne 0 2 rfl rfl
  replace W : Wd w h₀ [(L, Loc (scopeOf (stM 1)).names [some (.ref Lx), none]), (Dx, LxD ln st Pb), (At, LstW [.int ((p + ((cs.drop p).take 1).length : Nat) : Int) tp'])] h₂ := by
    refine W.callX kx tb₂ rfl (by simp) fun r hr => ?_
    simp only [List.mem_cons, List.not_mem_nil, or_false] at hr
    rcases hr with rfl | rfl | rfl
    · exact W.same kx (.head _) (by simpa using nL)
    · exact W.same kx (.tail _ (.head _)) (by simpa using B.DA)
    · exact ⟨hA2, fun _ => LstW.safe⟩
  refine s_loc 1 S W rfl rfl fun h₃ W => ?_
  refine x_if <| b_cmp <| n_loc 1 S W rfl rfl <| e_str fun _ => c_eqs <| b_bool ?_
  have en : Str.ofString "\n" = sq [10] := by decide
  by_cases hn : (cs.drop p).take 1 = [10]
  · rw [show decide (sq ((cs.drop p).take 1) = Str.ofString "\n") = true from decide_eq_true (by rw [hn, en])]
    refine x_augattr <| n_loc 0 S W rfl rfl <| ga_ln W.G (hX W.keep (W.get (i := 1) rfl)) fun _ => e_int fun _ => o_iadd fun tl => sa_ln W.G (hX W.keep (W.get (i := 1) rfl)) fun h₄ he hd => ?_
    obtain ⟨od, ed, pd⟩ := hd
    replace W := W.upd (i := 1) rfl he ed pd (fun _ => LxD.safe)
    refine x_nil_seq <| x_ret <| n_loc 1 S W rfl rfl ?_
    refine q h₄ k tp' (fun b o e n1 n2 n3 => W.keep b o (hb b o e n1 n2 n3)) W.tb ?_ (W.get (i := 2) rfl)
    rw [show nl ((cs.drop p).take 1) = 1 from if_pos hn]
    exact W.get (i := 1) rfl
  · rw [show decide (sq ((cs.drop p).take 1) = Str.ofString "\n") = false from decide_eq_false (by rw [en]; exact fun z => hn (sq_inj z))]
    refine x_nil_seq <| x_ret <| n_loc 1 S W rfl rfl ?_
    refine q h₃ k tp' (fun b o e n1 n2 n3 => W.keep b o (hb b o e n1 n2 n3)) W.tb ?_ (W.get (i := 2) rfl)
    rw [show nl ((cs.drop p).take 1) = 0 from if_neg hn, Int.add_zero]
    exact W.get (i := 1) rfl
end
-- the bound method as a value
theorem kg21 {f1 f2 f3 f4 : FuncData} {P : Params} : specialIn (kfrag f1 f2 f3 f4 P) (.ref 35) "__get__" = some (some (.builtin "function.__get__")) := by kernel_rfl
theorem kg22 {f1 f2 f3 f4 : FuncData} {P : Params} : takesIn (kfrag f1 f2 f3 f4 P) (.ref 35) = some false := by kernel_rfl
theorem ga_read {Lx Dx st Pb : Addr} {ln : Int} {expr : Bool} (g : Gd w h) (X : LexAt h Lx Dx ln st Pb) (q : R (.ref h.objs.size) (h.push (methodObj (.ref 35) (.ref Lx)))) : T prog w A (getAttr (.ref Lx) (Str.ofString "_read_char") expr) R h := by
  obtain ⟨f1, f2, f3, f4, K⟩ := g.kf
  obtain ⟨h1, h2, h3, h4, k1, k2, k3, k4, tl, tw, n, I⟩ := X.inst
  intro gs d k os
  refine get_bind (s := ⟨h, gs, d, k, os⟩) K I kg1 (findObj_fn kg4 kg13 kg21 kg22 (by decide +kernel) rfl) kg2 (wpAny_call (fn_get (s := ⟨h, gs, d, k + 1, os⟩) K kg16 ?_))
  show wpAny _ _ (handedOut _) _ _ _
  exact wpAny_pure ⟨_, _, rfl, q⟩
end Mine
end

section
namespace Mine
open PySem PySem.W PyProof.Rows Builtin Builtin.ObjectAttr
variable {prog : Program} {w : World} {A : Around} {h h₀ : Heap} {env : Env} {R : Value → Heap → Prop} {Q : Flow → Heap → Prop} {pos : Pos} {rs : List Res} {f : Res}

theorem wpAny_callBorrowed' {f : Value} {pos : List Value} {M : Model} {E : Value → Shared → Prop} {s : Shared} {Q : Value → Shared → Prop}
    (hc : codeAny M A (.call f ⟨pos, []⟩) (fun r s' => match r with | .ok (.ret v) => Q v s' | .ok _ => False | .error e => E e s') s) : wpAny M A (callBorrowed f pos) Q E s := fun Γ p hΓ => by
  refine codeAny_mono (R' := fun r s' => Sem.wp M Γ ((fun | .ok (.ret v) => .pure v | .ok _ => .unsupported "internal:call-without-return-value" | .error e => .raise e : Result → Sem Value) r) (fun a _ s' => Q a s') (fun e _ s' => E e s') p s') hc (fun r s' z => ?_) _ p rfl (hΓ.enter _ none p (by intro x; cases x))
  rcases r with e | (v | _ | _ | _) <;> first | exact z | exact z.elim
theorem ci_call : typeLookup (.type "method") "__call__" = pure (some (.builtin "method.__call__")) := by rw [typeLookup_type, builtinLookup_eq_fast]; kernel_rfl
theorem slot_cin : Slot "callable_iterator" "__next__" "callable_iterator.__next__" :=
  .of (owner := "callable_iterator") (n := "__next__") (by rw [typeLookup_type, builtinLookup_eq_fast]; kernel_rfl) (by decide +kernel) (by decide +kernel) (by decide +kernel)
    (by first | exact .inl (by decide +kernel) | exact .inr (by decide +kernel)) (by rw [isSubtype_type]; kernel_rfl)
theorem slot_cii : Slot "callable_iterator" "__iter__" "callable_iterator.__iter__" :=
  .of (owner := "callable_iterator") (n := "__iter__") (by rw [typeLookup_type, builtinLookup_eq_fast]; kernel_rfl) (by decide +kernel) (by decide +kernel) (by decide +kernel)
    (by first | exact .inl (by decide +kernel) | exact .inr (by decide +kernel)) (by rw [isSubtype_type]; kernel_rfl)
theorem entry_cin : entryFor table "callable_iterator.__next__" = some Builtin.«callable_iterator.__next__» := entryFor_of_tree (by kernel_rfl)
theorem entry_cii : entryFor table "callable_iterator.__iter__" = some Builtin.«dict_keyiterator.__iter__» :=
  entryFor_alias (id' := "dict_keyiterator.__iter__") (by kernel_rfl) rfl (by decide +kernel) (by kernel_rfl)
theorem args_cin (a : Value) : argsOk "callable_iterator.__next__" ⟨[a], []⟩ := by unfold argsOk; kernel_rfl
theorem args_cii (a : Value) : argsOk "callable_iterator.__iter__" ⟨[a], []⟩ := by unfold argsOk; kernel_rfl
theorem args_iter2 (a b : Value) : argsOk "iter" ⟨[a, b], []⟩ := by unfold argsOk; kernel_rfl
def CI (mo : Addr) (o : Obj) : Prop := o.cls = .type "callable_iterator" ∧ ∃ t, o.data = .fields #[.ref mo, .str (sq []) t, .bool false]
def CE (o : Obj) : Prop := o.cls = .type "callable_iterator" ∧ o.data = .fields #[.none, .none, .bool true]
theorem CI.safe {mo : Addr} {o : Obj} (x : CI mo o) : safe o := fun vs e => by
  obtain ⟨c, t, d⟩ := x
  rw [d] at e; cases e
  have n6 : sq [] ≠ qual6 := by decide
  have n7 : sq [] ≠ qual7 := by decide
  exact ⟨by rw [c]; nofun, fun t => ⟨fun z => by simp at z; exact n6 z.1, fun z => by simp at z; exact n7 z.1⟩⟩
theorem CE.safe {o : Obj} (x : CE o) : safe o := fun vs e => by
  obtain ⟨c, d⟩ := x
  rw [d] at e; cases e
  exact ⟨by rw [c]; nofun, fun t => ⟨by simp, by simp⟩⟩
theorem c_iter2 {mo : Addr} {f self : Value} {t : Tok} (hm : h.get? mo = some (methodObj f self)) (q : ∀ I h', h.get? I = none → I = h.objs.size → h' = h.push { cls := .type "callable_iterator", data := .fields #[.ref mo, .str (sq []) t, .bool false] } → R (.ref I) h') :
    T prog w A (call (.builtin "iter") [.ref mo, .str (Str.ofString "") t]) R h := by
  intro g d k os
  refine Calls.call_function_entry (by decide +kernel) (by decide +kernel) kdk_entry_iter (args_iter2 _ _) ?_
  unfold Builtin.«iter»
  refine wpAny_bind (m := someArgs "iter" 1 2 _) (wpAny_of_eq (a := [Value.ref mo, .str (Str.ofString "") t]) (by first | rfl | kernel_rfl!) ?_)
  dsimp only
  refine wpAny_bind (wpAny_specialOf (T := "method") ⟨_, hm, rfl⟩ ci_call ?_)
  refine wpAny_bind (wpAny_rule (wpAny_bind ?_))
  refine wpAny_newObj_type ?_ (by size_fits)
  exact wpAny_pure ⟨_, rfl, _, _, rfl, q _ _ (Wd.size_none h) rfl rfl⟩
theorem pi_ci {I : Addr} (hI : ∃ o, h.get? I = some o ∧ o.cls = .type "callable_iterator") (q : R (.ref I) h) : T prog w A (pyIter (.ref I)) R h := by
  intro g d k os
  obtain ⟨o, e, c⟩ := hI
  have hT : (⟨h, g, d, k, os⟩ : Shared).TypeIs (.ref I) "callable_iterator" := ⟨o, e, c⟩
  refine wpAny_pyIter_slot hT slot_cii (wpAny_call_entry slot_cii hT entry_cii ?_ (args_cii _))
  show wpAny _ _ (ret (.ref I)) _ _ _
  exact wpAny_pure ⟨_, rfl, "callable_iterator", _, hT, slot_cin.lookup, _, _, rfl, q⟩
theorem wp_stop {α : Type} {Q : α → Shared → Prop} {E : Value → Shared → Prop} {g d k os} (hh : A.handled = none) (he : ∀ e h', Sub h h' → (∃ o, h'.get? e = some o ∧ o.cls = .type "StopIteration") → E (.ref e) ⟨h', g, d, k, os⟩) :
    wpAny (model prog w) A (Builtin.SmallTypes.stopIteration : Sem α) Q E ⟨h, g, d, k, os⟩ := by
  show wpAny _ _ (newExc (.type "StopIteration") [] >>= _) _ _ _
  refine wpAny_bind ?_
  simp only [newExc, newTuple]
  refine wpAny_bind (wpAny_newObj_type ?_ (by size_fits))
  refine wpAny_bind (m := firstArgMember _ _) (wpAny_of_eq (a := Value.none) (by first | rfl | (simp only [firstArgMember]; rfl)) ?_)
  refine wpAny_newObj_type ?_ (by size_fits)
  simp only [raiseNew]
  refine wpAny_bind (wpAny_handled ?_)
  rw [hh]
  refine wpAny_bind (wpAny_pure (wpAny_throw ?_))
  exact he _ _ (fun b o e => Heap.get?_push_of_some _ (Heap.get?_push_of_some _ e)) ⟨_, Heap.get?_push_size _ rfl, rfl⟩
theorem ci_borrow {mo : Addr} {self : Value} {M : Model} {f2 : FuncData} (hm : h.get? mo = some (methodObj (.ref 35) self)) (h35 : h.get? 35 = some ⟨.type "function", none, .func f2, #[]⟩) : Looks M h (borrowsExactly (.ref mo)) true := by
  intro A Q E s k q
  unfold borrowsExactly
  refine wpAny_bind (wpAny_load (k _ _ hm) ?_)
  show wpAny _ _ (load 35 >>= _) _ _ _
  exact wpAny_bind (wpAny_load (k _ _ h35) (wpAny_pure q))
/-- a next whose end is StopIteration, or a value -/
theorem nx_open {I : Addr} {o : Obj} {Q : Option Value → Heap → Prop} {g d k os} (e : h.get? I = some o) (c : o.cls = .type "callable_iterator")
    (x : wpAny (model prog w) A.in1 (Builtin.«callable_iterator.__next__» ⟨[.ref I], []⟩) (fun fin s' => ∃ v h' k', fin = .done (.ret v) ∧ s' = ⟨h', g, d, k', os⟩ ∧ Q (some v) h')
      (fun e s' => ∃ a h' k', e = .ref a ∧ s' = ⟨h', g, d, k', os⟩ ∧ (∃ o, h'.get? a = some o ∧ o.cls = .type "StopIteration") ∧ Q none h') ⟨h, g, d, k, os⟩) :
    wpAny (model prog w) A (pyNext (.ref I)) (TE g d os Q) (fun _ _ => False) ⟨h, g, d, k, os⟩ := by
  have hT : (⟨h, g, d, k, os⟩ : Shared).TypeIs (.ref I) "callable_iterator" := ⟨o, e, c⟩
  unfold pyNext
  refine wpAny_bind (wpAny_attempt (wpAny_callSpecial?_slot (name := Str.ofString "__next__") hT slot_cin (wpAny_call_entry slot_cin hT entry_cin (wpAny_mono x (fun fin s' z => ?_) fun ev s' z => ?_) (args_cin _))))
  · obtain ⟨v, h', k', rfl, rfl, q⟩ := z
    exact ⟨v, rfl, wpAny_pure ⟨_, _, rfl, q⟩⟩
  · obtain ⟨a, h', k', rfl, rfl, ⟨o', e', c'⟩, q⟩ := z
    refine wpAny_bind (wpAny_isInstance (T := "StopIteration") (b := true) ⟨o', e', c'⟩ isSubtype_stop ?_)
    exact wpAny_pure ⟨_, _, rfl, q⟩
section
variable {hB : Heap} {Lx Dx st ro cT cA At Pb I mo : Addr} {cs : List Nat} {p : Nat} {tp : Tok} {ln : Int} {m : Nat}
theorem nx_dead {Q : Option Value → Heap → Prop} (hh : A.handled = none) (hI : ∃ o, h.get? I = some o ∧ CE o) (q : ∀ h', Sub h h' → Q none h') : T prog w A (pyNext (.ref I)) Q h := by
  obtain ⟨o, e, c, hd⟩ := hI
  intro g d k os
  refine nx_open e c ?_
  unfold Builtin.«callable_iterator.__next__»
  refine wpAny_bind (wpAny_of_eq (a := (Value.ref I, [])) (by first | rfl | kernel_rfl) ?_)
  dsimp only
  refine wpAny_bind (wpAny_field e hd (x := .bool true) rfl ?_)
  show wpAny _ _ (if (Value.bool true == Value.bool true) = true then _ else _) _ _ _
  rw [if_pos (by decide)]
  refine wpAny_bind (wpAny_rule (wpAny_bind ?_))
  refine wp_stop (A := A.in1) hh fun e h' s x => ?_
  exact ⟨e, h', k, rfl, rfl, x, q h' s⟩
/-- the reading call within the iterator -/
theorem nx_call {Q : Except Value Value → Shared → Prop} {E : Value → Shared → Prop} {g d k os} (gd : Gd w h) (hm : h.get? mo = some (methodObj (.ref 35) (.ref Lx))) {R : Value → Heap → Prop} (x : KC prog w A (.call (.ref 35) ⟨[.ref Lx], []⟩) R h)
    (q : ∀ v h' k', R v h' → Q (.ok v) ⟨h', g, d, k', os⟩) : wpAny (model prog w) A (callOutOfASlot (.ref mo)).attempt Q E ⟨h, g, d, k, os⟩ := by
  obtain ⟨f1, f2, f3, f4, K⟩ := gd.kf
  refine wpAny_attempt ?_
  unfold callOutOfASlot
  refine wpAny_bind ((ci_borrow hm (K 35 _ rfl)).at ?_)
  rw [if_pos rfl]
  refine wpAny_callBorrowed' (codeAny_mono (KC_method hm x g d k os) fun r s' z => ?_)
  cases r with
  | error e => exact z.elim
  | ok f =>
    cases f with
    | ret v => obtain ⟨h', k', rfl, z⟩ := z; exact q v h' k' z
    | _ => exact z.elim
theorem nx_item {Q : Option Value → Heap → Prop} {c : Nat} {rest : List Nat} (B : RB hB Lx Dx st ro cT cA At Pb cs) (s : Sub hB h) (hI : ∃ o, h.get? I = some o ∧ CI mo o) (hm : h.get? mo = some (methodObj (.ref 35) (.ref Lx))) (oI : okA I) (nI : I ≠ Dx ∧ I ≠ At)
    (hD : ∃ o, h.get? Dx = some o ∧ LxD ln st Pb o) (hA : ∃ o, h.get? At = some o ∧ LstW [.int (p : Nat) tp] o) (hc : cs.drop p = c :: rest) (gd : Gd w h) (tb : Tabs h) (ok : Ok A (m + 3))
    (q : ∀ h' k tp', KeepsX [Dx, At] h h' → Tabs h' → (∃ o, h'.get? Dx = some o ∧ LxD (ln + nl [c]) st Pb o) → (∃ o, h'.get? At = some o ∧ LstW [.int ((p + 1 : Nat) : Int) tp'] o) → Q (some (.str (sq [c]) k)) h') : T prog w A (pyNext (.ref I)) Q h := by
  have hp : p ≤ cs.length := by
    rcases Nat.lt_or_ge cs.length p with z | z
    · rw [List.drop_eq_nil_of_le (by first | decide | (first | exact Mine.w49 z | omega))] at hc; cases hc
    · exact z
  have ht : (cs.drop p).take 1 = [c] := by rw [hc]; rfl
  obtain ⟨o, e, hcl, ts, hd⟩ := hI
  intro g d k os
  have ok1 : Ok A.in1 (m + 2) := ⟨ok.1, by have := ok.2.1; show A.depth + _ < 900; (first | exact Mine.w50 this | omega), by have := ok.2.2; show A.units + 1 + _ < 9000; (first | exact Mine.w51 this | omega)⟩
  refine nx_open e hcl ?_
  unfold Builtin.«callable_iterator.__next__»
  refine wpAny_bind (wpAny_of_eq (a := (Value.ref I, [])) (by first | rfl | kernel_rfl) ?_)
  dsimp only
  refine wpAny_bind (wpAny_field e hd (x := .bool false) rfl ?_)
  show wpAny _ _ (if (Value.bool false == Value.bool true) = true then _ else _) _ _ _
  rw [if_neg (by decide)]
  refine wpAny_bind (wpAny_field e hd (x := .ref mo) rfl ?_)
  refine wpAny_bind (nx_call (R := fun v h' => ∃ k tp', v = .str (sq [c]) k ∧ KeepsX [Dx, At] h h' ∧ Tabs h' ∧ (∃ o, h'.get? Dx = some o ∧ LxD (ln + nl [c]) st Pb o) ∧ (∃ o, h'.get? At = some o ∧ LstW [.int ((p + 1 : Nat) : Int) tp'] o)) gd hm
    (readchar_spec (m := m) B s hD hA hp gd tb ok1 fun h' k tp' kx tb' hD' hA' => ⟨k, tp', by rw [ht], kx, tb', by rw [ht] at hD'; exact hD', by rw [ht] at hA'; exact hA'⟩) ?_)
  rintro v h' k' ⟨kk, tp', rfl, kx, tb', hD', hA'⟩
  have e' : h'.get? I = some o := kx I o e oI.ne.1 oI.ne.2 (by simp; exact nI)
  dsimp only
  refine wpAny_bind (wpAny_field e' hd (x := .bool false) rfl ?_)
  show wpAny _ _ (if (Value.bool false == Value.bool true) = true then _ else _) _ _ _
  rw [if_neg (by decide)]
  refine wpAny_bind (wpAny_field e' hd (x := .str (sq []) ts) rfl ?_)
  refine wpAny_bind (wpAny_holding (wpAny_eqBool_str ?_))
  rw [show decide (sq [] = sq [c]) = false from decide_eq_false fun z => by cases sq_inj z]
  refine wpAny_pure ?_
  exact ⟨_, h', k', rfl, rfl, q h' kk tp' kx tb' hD' hA'⟩
theorem set_fld {a : Addr} {o : Obj} {vs vs' : Array Value} {i : Nat} {x : Value} {Q : Unit → Shared → Prop} {E : Value → Shared → Prop} {g d k os} (ho : h.get? a = some o) (hd : o.data = .fields vs) (hi : i < vs.size) (hv : vs.setIfInBounds i x = vs')
    (q : ∀ h' o', h'.get? a = some o' → o'.data = .fields vs' → o'.cls = o.cls → Heap.ExtBut a h h' → Q () ⟨h', g, d, k, os⟩) : wpAny (model prog w) A (setField (.ref a) i x) Q E ⟨h, g, d, k, os⟩ := by
  have hf := Obj.isFreed_of_fields (Obj.data_mapFields (f := (·.setIfInBounds i x)) hd)
  exact wpAny_setField ho hd hi (q _ _ (Heap.get?_update_self _ ho hf) (by rw [Obj.data_mapFields hd]; exact congrArg _ hv) (Obj.cls_mapFields ..) (Heap.SameBut.update ..).extBut)
theorem nx_stop {Q : Option Value → Heap → Prop} (B : RB hB Lx Dx st ro cT cA At Pb cs) (s : Sub hB h) (hI : ∃ o, h.get? I = some o ∧ CI mo o) (hm : h.get? mo = some (methodObj (.ref 35) (.ref Lx))) (oI : okA I) (nI : I ≠ Dx ∧ I ≠ At) (oM : okA mo) (nM : mo ≠ Dx ∧ mo ≠ At ∧ mo ≠ I)
    (hD : ∃ o, h.get? Dx = some o ∧ LxD ln st Pb o) (hA : ∃ o, h.get? At = some o ∧ LstW [.int (p : Nat) tp] o) (hc : cs.drop p = []) (hp : p ≤ cs.length) (gd : Gd w h) (tb : Tabs h) (ok : Ok A (m + 3))
    (q : ∀ h' tp', KeepsX [Dx, At, I] h h' → Tabs h' → (∃ o, h'.get? Dx = some o ∧ LxD ln st Pb o) → (∃ o, h'.get? At = some o ∧ LstW [.int (p : Nat) tp'] o) → (∃ o, h'.get? I = some o ∧ CE o) → Q none h') : T prog w A (pyNext (.ref I)) Q h := by
  have ht : (cs.drop p).take 1 = [] := by rw [hc]; rfl
  obtain ⟨o, e, hcl, ts, hd⟩ := hI
  have sfo : safe o := CI.safe ⟨hcl, ts, hd⟩
  intro g d k os
  have ok1 : Ok A.in1 (m + 2) := ⟨ok.1, by have := ok.2.1; show A.depth + _ < 900; (first | exact Mine.w50 this | omega), by have := ok.2.2; show A.units + 1 + _ < 9000; (first | exact Mine.w51 this | omega)⟩
  refine nx_open e hcl ?_
  unfold Builtin.«callable_iterator.__next__»
  refine wpAny_bind (wpAny_of_eq (a := (Value.ref I, [])) (by first | rfl | kernel_rfl) ?_)
  dsimp only
  refine wpAny_bind (wpAny_field e hd (x := .bool false) rfl ?_)
  show wpAny _ _ (if (Value.bool false == Value.bool true) = true then _ else _) _ _ _
  rw [if_neg (by decide)]
  refine wpAny_bind (wpAny_field e hd (x := .ref mo) rfl ?_)
  refine wpAny_bind (nx_call (R := fun v h' => ∃ k tp', v = .str (sq []) k ∧ KeepsX [Dx, At] h h' ∧ Tabs h' ∧ (∃ o, h'.get? Dx = some o ∧ LxD ln st Pb o) ∧ (∃ o, h'.get? At = some o ∧ LstW [.int (p : Nat) tp'] o)) gd hm
    (readchar_spec (m := m) B s hD hA hp gd tb ok1 fun h' k tp' kx tb' hD' hA' => ⟨k, tp', by rw [ht], kx, tb', by rw [ht] at hD'; simpa [nl] using hD', by rw [ht] at hA'; simpa using hA'⟩) ?_)
  rintro v h' k' ⟨kk, tp', rfl, kx, tb', hD', hA'⟩
  have e' : h'.get? I = some o := kx I o e oI.ne.1 oI.ne.2 (by simp; exact nI)
  have hm' : h'.get? mo = some (methodObj (.ref 35) (.ref Lx)) := kx mo _ hm oM.ne.1 oM.ne.2 (by simp; exact ⟨nM.1, nM.2.1⟩)
  obtain ⟨f1, f2, f3, f4, K⟩ := gd.kf
  have h35 : h'.get? 35 = some ⟨.type "function", none, .func f2, #[]⟩ := kx 35 _ (K 35 _ rfl) (by decide) (by decide) (by
    have : ¬ okA 35 := by show ¬ ((35 : Nat) = 117 ∨ 162 ≤ (35 : Nat)); decide
    simp only [List.mem_cons, List.not_mem_nil, or_false, not_or]
    exact ⟨fun z => this (z ▸ B.oD), fun z => this (z ▸ B.oA)⟩)
  dsimp only
  refine wpAny_bind (wpAny_field e' hd (x := .bool false) rfl ?_)
  show wpAny _ _ (if (Value.bool false == Value.bool true) = true then _ else _) _ _ _
  rw [if_neg (by decide)]
  refine wpAny_bind (wpAny_field e' hd (x := .str (sq []) ts) rfl ?_)
  refine wpAny_bind (wpAny_holding (wpAny_eqBool_str ?_))
  rw [show decide (sq [] = sq []) = true from decide_eq_true rfl]
  refine wpAny_bind (wpAny_rule (wpAny_bind ?_))
  show wpAny _ _ (field (.ref I) 0 >>= fun old => slotLetsGo _ old _ >>= fun _ => setField (.ref I) 0 .none >>= fun _ => setField (.ref I) 1 .none >>= fun _ => setField (.ref I) 2 (.bool true)) _ _ _
  refine wpAny_bind (wpAny_field e' hd (x := .ref mo) rfl ?_)
  refine wpAny_bind ?_
  unfold slotLetsGo
  refine wpAny_bind ((ci_borrow hm' h35).at ?_)
  rw [if_pos rfl]
  refine wpAny_pure ?_
  refine wpAny_bind (set_fld e' hd (by simp) rfl fun h₁ o₁ e₁ d₁ c₁ x₁ => wpAny_bind (set_fld e₁ d₁ (by simp) rfl fun h₂ o₂ e₂ d₂ c₂ x₂ => set_fld e₂ d₂ (by simp) rfl fun h₃ o₃ e₃ d₃ c₃ x₃ => ?_))
  refine wp_stop (A := A.in1) ok.1 fun ee h₄ s₄ x => ?_
  have xx : Heap.ExtBut I h' h₄ := fun b o n z => s₄ _ _ (x₃ b o n (x₂ b o n (x₁ b o n z)))
  refine ⟨ee, h₄, k', rfl, rfl, x, q h₄ tp' ?_ ?_ ?_ ?_ ⟨o₃, s₄ _ _ e₃, ?_, ?_⟩⟩
  · intro b o z n1 n2 n3
    simp only [List.mem_cons, List.not_mem_nil, or_false, not_or] at n3
    exact xx b o n3.2.2 (kx b o z n1 n2 (by simp; exact ⟨n3.1, n3.2.1⟩))
  · exact tb'.mono fun b o' z ns => xx b o' (by rintro rfl; rw [e'] at z; cases z; exact ns sfo) z
  · obtain ⟨od, ed, pd⟩ := hD'; exact ⟨od, xx _ _ (Ne.symm nI.1) ed, pd⟩
  · obtain ⟨od, ed, pd⟩ := hA'; exact ⟨od, xx _ _ (Ne.symm nI.2) ed, pd⟩
  · rw [c₃, c₂, c₁]; exact hcl
  · rw [d₃]; rfl
end
end Mine
end

section
namespace Mine
open PySem PySem.W PyProof.Rows Builtin Builtin.ObjectAttr
variable {prog : Program} {w : World} {A : Around} {h h₀ : Heap} {env : Env} {R : Value → Heap → Prop} {Q : Flow → Heap → Prop} {pos : Pos} {rs : List Res} {f : Res}

theorem c_forG {x : Str} {px : Pos} {body rest : List Stmt} {I : Addr} (Inv : Nat → Heap → Prop)
    (turn : ∀ n h, Inv n h → T prog w A (pyNext (.ref I)) (fun r h₁ => match r with
      | none => T prog w A (execs rest env) Q h₁
      | some v => T prog w A (storeName env x v) (fun _ h₂ => T prog w A (execs body env) (loopQ (fun h' => ∃ m, m < n ∧ Inv m h') (fun h' => T prog w A (execs rest env) Q h') Q) h₂) h₁) h)
    (n : Nat) (h0 : Inv n h) : C prog w A (.forLoop (.Name x px) (.ref I) body [] env) (seqQ prog w A rest env Q) h := by
  intro g d k os
  refine codeAny_forLoop (fun m s' => ∃ h' k', s' = ⟨h', g, d, k', os⟩ ∧ Inv m h') ?_ n ⟨h, k, rfl, h0⟩
  rintro m s' ⟨h', k', rfl, hi⟩
  refine wpAny_mono (turn m h' hi g d k' os) (fun r s₁ hr => ?_) fun _ _ e => e.elim
  obtain ⟨h₁, k₁, rfl, q₁⟩ := hr
  cases r with
  | none => exact wpAny_execs_nil ⟨_, _, rfl, q₁⟩
  | some v =>
    refine wpAny_mono (wpAny_assign_Name ((q₁ : T prog w A _ _ _) g d k₁ os)) (fun _ s₂ hr => ?_) fun _ _ e => e.elim
    obtain ⟨h₂, k₂, rfl, q₂⟩ := hr
    refine wpAny_mono ((q₂ : T prog w A _ _ _) g d k₂ os) (fun f s₃ hr => ?_) fun _ _ e => e.elim
    obtain ⟨h₃, k₃, rfl, q₃⟩ := hr
    cases f with
    | next => obtain ⟨m', hm, z⟩ := q₃; exact ⟨m', hm, h₃, k₃, rfl, z⟩
    | cont => obtain ⟨m', hm, z⟩ := q₃; exact ⟨m', hm, h₃, k₃, rfl, z⟩
    | brk => exact ⟨_, _, rfl, q₃⟩
    | ret v => exact ⟨_, _, rfl, q₃⟩
def isWs (c : Nat) : Bool := c == 10 || c == 9 || c == 13 || c == 32
theorem ws_in : ∀ c < 128, (!(Builtin.Str.occurrences (Str.ofString "\n\t\r ") (sq [c]) 0 (Str.ofString "\n\t\r ").length 1).isEmpty) = isWs c := by decide +kernel
theorem c_ws {c : Nat} {t u : Tok} (hc : c < 128) (q : R (.bool (isWs c)) h) : T prog w A (compareOp .In (.str (sq [c]) t) (.str (Str.ofString "\n\t\r ") u)) R h :=
  fun _ _ _ _ => P.in_str ⟨_, _, rfl, by rw [ws_in c hc]; exact q⟩
theorem s1 {a b : Nat} : (sq [a] = sq [b]) = (a = b) := propext ⟨fun e => by simpa using sq_inj e, fun e => by rw [e]⟩
theorem sQ : Str.ofString "\"" = sq [34] := by decide
theorem sB : Str.ofString "\\" = sq [92] := by decide
section
variable {hB : Heap} {Lx Dx st ro cT cA At Pb I mo L : Addr} {P : Obj → Prop} {cs : List Nat} {p : Nat} {tp : Tok} {ln : Int} {m : Nat}
theorem W_turn {h' : Heap} {ln' : Int} {p' : Nat} {tp' : Tok} (W : Wd w h₀ [(L, P), (I, CI mo), (Dx, LxD ln st Pb), (At, LstW [.int (p : Nat) tp])] h) (kx : KeepsX [Dx, At] h h') (tb : Tabs h') (hD : ∃ o, h'.get? Dx = some o ∧ LxD ln' st Pb o) (hA : ∃ o, h'.get? At = some o ∧ LstW [.int (p' : Nat) tp'] o) :
    Wd w h₀ [(L, P), (I, CI mo), (Dx, LxD ln' st Pb), (At, LstW [.int (p' : Nat) tp'])] h' := by
  have n0 := W.ne 0 2 rfl rfl
  have n0' := W.ne 0 3 rfl rfl
  have n1 := W.ne 1 2 rfl rfl
  have n1' := W.ne 1 3 rfl rfl
  refine W.callX kx tb rfl (by simp) fun r hr => ?_
  simp only [List.mem_cons, List.not_mem_nil, or_false] at hr
  rcases hr with rfl | rfl | rfl | rfl
  · exact W.same kx (.head _) (by simp; exact ⟨n0, n0'⟩)
  · exact W.same kx (.tail _ (.head _)) (by simp; exact ⟨n1, n1'⟩)
  · exact ⟨hD, fun _ => LxD.safe⟩
  · exact ⟨hA, fun _ => LstW.safe⟩
theorem W_next {Q : Option Value → Heap → Prop} {c : Nat} {tl : List Nat} (B : RB hB Lx Dx st ro cT cA At Pb cs) (s : Sub hB h₀) (hm : h₀.get? mo = some (methodObj (.ref 35) (.ref Lx))) (ok : Ok A (m + 3))
    (W : Wd w h₀ [(L, P), (I, CI mo), (Dx, LxD ln st Pb), (At, LstW [.int (p : Nat) tp])] h) (hc : cs.drop p = c :: tl)
    (q : ∀ h' k tp', Wd w h₀ [(L, P), (I, CI mo), (Dx, LxD (ln + nl [c]) st Pb), (At, LstW [.int ((p + 1 : Nat) : Int) tp'])] h' → Q (some (.str (sq [c]) k)) h') : T prog w A (pyNext (.ref I)) Q h :=
  nx_item (m := m) B (s.trans W.keep) (W.get (i := 1) rfl) (W.keep _ _ hm) (W.lo (I, _) (List.mem_of_getElem? (i := 1) rfl)) ⟨W.ne 1 2 rfl rfl, W.ne 1 3 rfl rfl⟩ (W.get (i := 2) rfl) (W.get (i := 3) rfl) hc W.G W.tb ok
    fun h' k tp' kx tb hD hA => q h' k tp' (W_turn W kx tb hD hA)
theorem W_char (B : RB hB Lx Dx st ro cT cA At Pb cs) (s : Sub hB h₀) (ok : Ok A (m + 2)) (W : Wd w h₀ [(L, P), (I, CI mo), (Dx, LxD ln st Pb), (At, LstW [.int (p : Nat) tp])] h) {c : Nat} {tl : List Nat} (hc : cs.drop p = c :: tl)
    (q : ∀ h' k tp', Wd w h₀ [(L, P), (I, CI mo), (Dx, LxD (ln + nl [c]) st Pb), (At, LstW [.int ((p + 1 : Nat) : Int) tp'])] h' → R (.str (sq [c]) k) h') : T prog w A (call (.ref 35) [.ref Lx]) R h := by
  have ht : (cs.drop p).take 1 = [c] := by rw [hc]; rfl
  have hp : p ≤ cs.length := by
    rcases Nat.lt_or_ge cs.length p with z | z
    · rw [List.drop_eq_nil_of_le (by first | decide | (first | exact Mine.w49 z | omega))] at hc; cases hc
    · exact z
  refine T_of_KC (readchar_spec (m := m) B (s.trans W.keep) (W.get (i := 2) rfl) (W.get (i := 3) rfl) hp W.G W.tb ok fun h' k tp' kx tb hD hA => ?_)
  rw [ht] at hD hA ⊢
  exact q h' k tp' (W_turn W kx tb hD hA)
theorem W_stop {Q : Option Value → Heap → Prop} (B : RB hB Lx Dx st ro cT cA At Pb cs) (s : Sub hB h₀) (hm : h₀.get? mo = some (methodObj (.ref 35) (.ref Lx))) (oM : okA mo) (nM : mo ≠ Dx ∧ mo ≠ At ∧ mo ≠ I) (ok : Ok A (m + 3))
    (W : Wd w h₀ [(L, P), (I, CI mo), (Dx, LxD ln st Pb), (At, LstW [.int (p : Nat) tp])] h) (hc : cs.drop p = []) (hp : p ≤ cs.length)
    (q : ∀ h' tp', Wd w h₀ [(L, P), (I, CE), (Dx, LxD ln st Pb), (At, LstW [.int (p : Nat) tp'])] h' → Q none h') : T prog w A (pyNext (.ref I)) Q h := by
  refine nx_stop (m := m) B (s.trans W.keep) (W.get (i := 1) rfl) (W.keep _ _ hm) (W.lo (I, _) (List.mem_of_getElem? (i := 1) rfl)) ⟨W.ne 1 2 rfl rfl, W.ne 1 3 rfl rfl⟩ oM nM (W.get (i := 2) rfl) (W.get (i := 3) rfl) hc hp W.G W.tb ok fun h' tp' kx tb hD hA hI => q h' tp' ?_
  have n0 := W.ne 0 2 rfl rfl
  have n0' := W.ne 0 3 rfl rfl
  have n1 := W.ne 0 1 rfl rfl
  refine W.callX kx tb rfl (by simp) fun r hr => ?_
  simp only [List.mem_cons, List.not_mem_nil, or_false] at hr
  rcases hr with rfl | rfl | rfl | rfl
  · exact W.same kx (.head _) (by simp; exact ⟨n0, n0', n1⟩)
  · exact ⟨hI, fun _ => CE.safe⟩
  · exact ⟨hD, fun _ => LxD.safe⟩
  · exact ⟨hA, fun _ => LstW.safe⟩
end
-- the text of the two loops
def forBody : Stmt → List Stmt
  | .For _ _ b _ _ => b
  | _ => []
def ifThen : Stmt → List Stmt
  | .If _ b _ _ => b
  | _ => []
def ifElse : Stmt → List Stmt
  | .If _ _ b _ => b
  | _ => []
def gtFor : Stmt := nth (.Pass default) (bodyOf (stM 2)) 3
def ifQ : Stmt := nth (.Pass default) (forBody gtFor) 1
def forQ : Stmt := nth (.Pass default) (ifThen ifQ) 0
def forW : Stmt := nth (.Pass default) (ifElse ifQ) 2
def nmG : List (Str × NameKind) := (scopeOf (stM 2)).names
def ptx (ps : List (Bool × Nat)) : List Nat := ps.flatMap fun p => if p.1 then [92, p.2] else [p.2]
def pch (ps : List (Bool × Nat)) : List Nat := ps.map (·.2)
section
variable {hB : Heap} {Lx Dx st ro cT cA At Pb I mo L : Addr} {cs : List Nat} {p : Nat} {tp : Tok} {ln : Int} {m : Nat}
theorem drop_next {p : Nat} {c : Nat} {tl : List Nat} (h : cs.drop p = c :: tl) : cs.drop (p + 1) = tl := by
  rw [← List.drop_drop, h]; rfl
theorem forQ_spec {rest : List Stmt} {ps : List (Bool × Nat)} {t0 tl : List Nat} {tk : Tok} {xch : Option Value} (B : RB hB Lx Dx st ro cT cA At Pb cs) (s : Sub hB h₀) (hm : h₀.get? mo = some (methodObj (.ref 35) (.ref Lx))) (ok : Ok A (m + 3)) (S : Sc env L nmG)
    (hps : ∀ q ∈ ps, q.2 < 128 ∧ q.2 ≠ 10 ∧ (q.1 = false → q.2 ≠ 34 ∧ q.2 ≠ 92)) (hc : cs.drop p = ptx ps ++ 34 :: tl) (hz : t0.length + ps.length ≤ 1000)
    (W : Wd w h₀ [(L, Loc nmG [some (.ref Lx), some (.str (sq t0) tk), some (.ref I), xch, none]), (I, CI mo), (Dx, LxD ln st Pb), (At, LstW [.int (p : Nat) tp])] h)
    (q : ∀ h' k p' tp' xch, p' ≤ cs.length → cs.drop p' = tl → Wd w h₀ [(L, Loc nmG [some (.ref Lx), some (.str (sq (t0 ++ pch ps)) k), some (.ref I), xch, none]), (I, CI mo), (Dx, LxD ln st Pb), (At, LstW [.int (p' : Nat) tp'])] h' → Q (.ret (.str (sq (t0 ++ pch ps)) k)) h') :
    T prog w A (execs (forQ :: rest) env) Q h := by
  refine x_for <| n_loc 2 S W rfl rfl <| pi_ci (let ⟨o, e, c⟩ := W.get (i := 1) rfl; ⟨o, e, c.1⟩) ?_
  refine c_forG (fun n h' => ∃ ps' t' p' tk' tp' xch, n = ps'.length ∧ cs.drop p' = ptx ps' ++ 34 :: tl ∧ t' ++ pch ps' = t0 ++ pch ps ∧ (∀ q ∈ ps', q.2 < 128 ∧ q.2 ≠ 10 ∧ (q.1 = false → q.2 ≠ 34 ∧ q.2 ≠ 92)) ∧
    Wd w h₀ [(L, Loc nmG [some (.ref Lx), some (.str (sq t') tk'), some (.ref I), xch, none]), (I, CI mo), (Dx, LxD ln st Pb), (At, LstW [.int (p' : Nat) tp'])] h') ?_ ps.length ⟨ps, t0, p, tk, tp, xch, rfl, hc, rfl, hps, W⟩
  rintro n h ⟨ps', t', p', tk', tp', xch, rfl, hc', ht, hps', W⟩
  have hlt : t'.length + ps'.length ≤ 1000 := by
    have := congrArg List.length ht
    simp only [List.length_append, pch, List.length_map] at this; (first | exact Mine.w52 hz this | omega)
  cases ps' with
  | nil =>
    have hc' : cs.drop p' = 34 :: tl := hc'
    refine W_next (m := m) B s hm ok W hc' fun h₁ k₁ tp₁ W => s_loc 3 S W rfl rfl fun h₂ W => ?_
    refine x_if <| b_cmp <| n_loc 3 S W rfl rfl <| e_str fun _ => c_eqs <| b_bool ?_
    rw [sQ, show decide (sq [34] = sq [34]) = true from decide_eq_true rfl]
    refine x_ret <| n_loc 1 S W rfl rfl ?_
    rw [show t' = t0 ++ pch ps by rw [← ht]; simp [pch]] at W ⊢
    rw [show nl [34] = 0 from rfl, Int.add_zero] at W
    have hlen : p' + 1 ≤ cs.length := by
      rcases Nat.lt_or_ge p' cs.length with z | z
      · exact z
      · rw [List.drop_eq_nil_of_le z] at hc'; cases hc'
    exact q _ _ (p' + 1) _ _ hlen (drop_next hc') W
  | cons pc ps'' =>
    obtain ⟨e, c⟩ := pc
    obtain ⟨c1, c2, c3⟩ := hps' (e, c) (.head _)
    have hnl : nl [c] = 0 := if_neg (by simpa using c2)
    have hps'' : ∀ q ∈ ps'', q.2 < 128 ∧ q.2 ≠ 10 ∧ (q.1 = false → q.2 ≠ 34 ∧ q.2 ≠ 92) := fun q hq => hps' q (.tail _ hq)
    have fin : ∀ {h₃ : Heap} {p₃ : Nat} {k₃ tp₃ : Tok}, cs.drop p₃ = ptx ps'' ++ 34 :: tl → Wd w h₀ [(L, Loc nmG [some (.ref Lx), some (.str (sq t') tk'), some (.ref I), some (.str (sq [c]) k₃), none]), (I, CI mo), (Dx, LxD ln st Pb), (At, LstW [.int (p₃ : Nat) tp₃])] h₃ →
        T prog w A (execs ((forBody forQ).drop 1) env) (loopQ (fun h' => ∃ m, m < ((e, c) :: ps'').length ∧ ∃ ps' t' p' tk' tp' xch, m = ps'.length ∧ cs.drop p' = ptx ps' ++ 34 :: tl ∧ t' ++ pch ps' = t0 ++ pch ps ∧ (∀ q ∈ ps', q.2 < 128 ∧ q.2 ≠ 10 ∧ (q.1 = false → q.2 ≠ 34 ∧ q.2 ≠ 92)) ∧
          Wd w h₀ [(L, Loc nmG [some (.ref Lx), some (.str (sq t') tk'), some (.ref I), xch, none]), (I, CI mo), (Dx, LxD ln st Pb), (At, LstW [.int (p' : Nat) tp'])] h') (fun h' => T prog w A (execs rest env) Q h') Q) h₃ := by
      intro h₃ p₃ k₃ tp₃ hd W
      refine x_aug <| l_loc 1 S W rfl rfl <| n_loc 3 S W rfl rfl <| o_istrs (by rw [sq_len, sq_len]; simp at hlt ⊢; (first | exact Mine.w53 hlt | omega)) fun kk => s_loc 1 S W rfl rfl fun h₄ W => x_nil ?_
      rw [sq_app] at W
      exact ⟨ps''.length, by simp, ps'', t' ++ [c], p₃, kk, tp₃, _, rfl, hd, by rw [← ht]; simp [pch], hps'', W⟩
    cases e with
    | true =>
      have hc' : cs.drop p' = 92 :: c :: (ptx ps'' ++ 34 :: tl) := hc'
      refine W_next (m := m) B s hm ok W hc' fun h₁ k₁ tp₁ W => s_loc 3 S W rfl rfl fun h₂ W => ?_
      rw [show nl [92] = 0 from rfl, Int.add_zero] at W
      refine x_if <| b_cmp <| n_loc 3 S W rfl rfl <| e_str fun _ => c_eqs <| b_bool ?_
      rw [sQ, show decide (sq [92] = sq [34]) = false from decide_eq_false (by rw [s1]; decide)]
      refine x_if <| b_cmp <| n_loc 3 S W rfl rfl <| e_str fun _ => c_eqs <| b_bool ?_
      rw [sB, show decide (sq [92] = sq [92]) = true from decide_eq_true rfl]
      refine x_assign <| e_meth _ rfl <| n_loc 0 S W rfl rfl <| gm_read W.G ⟨(s.trans W.keep) _ _ B.lx, W.get (i := 2) rfl⟩ <| cw_fn0 (W.G.me ("_netrclex._read_char", 35, 34, 1) (by decide)).isFn ?_
      refine W_char (m := m) B s (ok.le (by first | decide | (first | exact Mine.w54 | omega))) W (drop_next hc') fun h₃ k₃ tp₃ W => s_loc 3 S W rfl rfl fun h₄ W => x_nil_seq <| x_nil_seq <| ?_
      rw [hnl, Int.add_zero] at W
      exact fin (drop_next (drop_next hc')) W
    | false =>
      obtain ⟨d1, d2⟩ := c3 rfl
      have hc' : cs.drop p' = c :: (ptx ps'' ++ 34 :: tl) := hc'
      refine W_next (m := m) B s hm ok W hc' fun h₁ k₁ tp₁ W => s_loc 3 S W rfl rfl fun h₂ W => ?_
      rw [hnl, Int.add_zero] at W
      refine x_if <| b_cmp <| n_loc 3 S W rfl rfl <| e_str fun _ => c_eqs <| b_bool ?_
      rw [sQ, show decide (sq [c] = sq [34]) = false from decide_eq_false (by rw [s1]; exact d1)]
      refine x_if <| b_cmp <| n_loc 3 S W rfl rfl <| e_str fun _ => c_eqs <| b_bool ?_
      rw [sB, show decide (sq [c] = sq [92]) = false from decide_eq_false (by rw [s1]; exact d2)]
      exact x_nil_seq <| x_nil_seq <| fin (drop_next hc') W
end
end Mine
end

section
namespace Mine
open PySem PySem.W PyProof.Rows Builtin Builtin.ObjectAttr
variable {prog : Program} {w : World} {A : Around} {h h₀ : Heap} {env : Env} {R : Value → Heap → Prop} {Q : Flow → Heap → Prop} {pos : Pos} {rs : List Res} {f : Res}
section
variable {hB : Heap} {Lx Dx st ro cT cA At Pb I mo L : Addr} {cs : List Nat} {p : Nat} {tp : Tok} {ln : Int} {m : Nat}
theorem T_mono' {α : Type} {t : Sem α} {Q Q' : α → Heap → Prop} (m : ∀ a h', Q a h' → Q' a h') (x : T prog w A t Q h) : T prog w A t Q' h := T_mono x m
def okW (q : Bool × Nat) : Prop := q.2 < 128 ∧ q.2 ≠ 10 ∧ (q.1 = false → isWs q.2 = false ∧ q.2 ≠ 92)
theorem forW_spec {rest : List Stmt} {ps : List (Bool × Nat)} {t0 fin : List Nat} {tk : Tok} {xch : Option Value} (B : RB hB Lx Dx st ro cT cA At Pb cs) (s : Sub hB h₀) (hm : h₀.get? mo = some (methodObj (.ref 35) (.ref Lx))) (oM : okA mo) (nM : mo ≠ Dx ∧ mo ≠ At ∧ mo ≠ I) (ok : Ok A (m + 3)) (S : Sc env L nmG)
    (hps : ∀ q ∈ ps, okW q) (hc : cs.drop p = ptx ps ++ fin) (hp : p ≤ cs.length) (hz : t0.length + ps.length ≤ 1000)
    (W : Wd w h₀ [(L, Loc nmG [some (.ref Lx), some (.str (sq t0) tk), some (.ref I), xch, none]), (I, CI mo), (Dx, LxD ln st Pb), (At, LstW [.int (p : Nat) tp])] h)
    (hend : fin = [] ∨ ∃ x tl, fin = x :: tl ∧ x < 128 ∧ isWs x = true)
    (q1 : ∀ x tl h' k p' tp' xch, fin = x :: tl → p' ≤ cs.length → cs.drop p' = tl → Wd w h₀ [(L, Loc nmG [some (.ref Lx), some (.str (sq (t0 ++ pch ps)) k), some (.ref I), xch, none]), (I, CI mo), (Dx, LxD (ln + nl [x]) st Pb), (At, LstW [.int (p' : Nat) tp'])] h' → Q (.ret (.str (sq (t0 ++ pch ps)) k)) h')
    (q2 : ∀ h' k p' tp' xch, fin = [] → p' ≤ cs.length → cs.drop p' = [] → Wd w h₀ [(L, Loc nmG [some (.ref Lx), some (.str (sq (t0 ++ pch ps)) k), some (.ref I), xch, none]), (I, CE), (Dx, LxD ln st Pb), (At, LstW [.int (p' : Nat) tp'])] h' → T prog w A (execs rest env) Q h') :
    T prog w A (execs (forW :: rest) env) Q h := by
  refine x_for <| n_loc 2 S W rfl rfl <| pi_ci (let ⟨o, e, c⟩ := W.get (i := 1) rfl; ⟨o, e, c.1⟩) ?_
  refine c_forG (fun n h' => ∃ ps' t' p' tk' tp' xch, n = ps'.length ∧ p' ≤ cs.length ∧ cs.drop p' = ptx ps' ++ fin ∧ t' ++ pch ps' = t0 ++ pch ps ∧ (∀ q ∈ ps', okW q) ∧
    Wd w h₀ [(L, Loc nmG [some (.ref Lx), some (.str (sq t') tk'), some (.ref I), xch, none]), (I, CI mo), (Dx, LxD ln st Pb), (At, LstW [.int (p' : Nat) tp'])] h') ?_ ps.length ⟨ps, t0, p, tk, tp, xch, rfl, hp, hc, rfl, hps, W⟩
  rintro n h ⟨ps', t', p', tk', tp', xch, rfl, hp', hc', ht, hps', W⟩
  have hlt : t'.length + ps'.length ≤ 1000 := by
    have := congrArg List.length ht
    simp only [List.length_append, pch, List.length_map] at this; (first | exact Mine.w52 hz this | omega)
  have hlen : ∀ {p : Nat} {c : Nat} {l : List Nat}, cs.drop p = c :: l → p + 1 ≤ cs.length := by
    intro p c l e
    rcases Nat.lt_or_ge p cs.length with z | z
    · exact z
    · rw [List.drop_eq_nil_of_le z] at e; cases e
  cases ps' with
  | nil =>
    have et : t' = t0 ++ pch ps := by rw [← ht]; simp [pch]
    rcases hend with hf | ⟨x, tl, hf, hx1, hx2⟩
    · have hc' : cs.drop p' = [] := by rw [hc', hf]; rfl
      refine W_stop (m := m) B s hm oM nM ok W hc' hp' fun h₁ tp₁ W => ?_
      rw [et] at W
      exact q2 _ _ p' _ _ hf hp' hc' W
    · have hc' : cs.drop p' = x :: tl := by rw [hc', hf]; rfl
      refine W_next (m := m) B s hm ok W hc' fun h₁ k₁ tp₁ W => s_loc 3 S W rfl rfl fun h₂ W => ?_
      refine x_if <| b_cmp <| n_loc 3 S W rfl rfl <| e_attr <| n_loc 0 S W rfl rfl <| ga_ws W.G ⟨(s.trans W.keep) _ _ B.lx, W.get (i := 2) rfl⟩ fun _ => c_ws hx1 <| b_bool ?_
      rw [hx2]
      refine x_ret <| n_loc 1 S W rfl rfl ?_
      rw [et] at W ⊢
      exact q1 x tl _ _ (p' + 1) _ _ hf (hlen hc') (drop_next hc') W
  | cons pc ps'' =>
    obtain ⟨e, c⟩ := pc
    obtain ⟨c1, c2, c3⟩ := hps' (e, c) (.head _)
    have hnl : nl [c] = 0 := if_neg (by simpa using c2)
    have hps'' : ∀ q ∈ ps'', okW q := fun q hq => hps' q (.tail _ hq)
    have fin : ∀ {h₃ : Heap} {p₃ : Nat} {k₃ tp₃ : Tok}, p₃ ≤ cs.length → cs.drop p₃ = ptx ps'' ++ fin → Wd w h₀ [(L, Loc nmG [some (.ref Lx), some (.str (sq t') tk'), some (.ref I), some (.str (sq [c]) k₃), none]), (I, CI mo), (Dx, LxD ln st Pb), (At, LstW [.int (p₃ : Nat) tp₃])] h₃ →
        T prog w A (execs ((forBody forW).drop 1) env) (loopQ (fun h' => ∃ m, m < ((e, c) :: ps'').length ∧ ∃ ps' t' p' tk' tp' xch, m = ps'.length ∧ p' ≤ cs.length ∧ cs.drop p' = ptx ps' ++ fin ∧ t' ++ pch ps' = t0 ++ pch ps ∧ (∀ q ∈ ps', okW q) ∧
          Wd w h₀ [(L, Loc nmG [some (.ref Lx), some (.str (sq t') tk'), some (.ref I), xch, none]), (I, CI mo), (Dx, LxD ln st Pb), (At, LstW [.int (p' : Nat) tp'])] h') (fun h' => T prog w A (execs rest env) Q h') Q) h₃ := by
      intro h₃ p₃ k₃ tp₃ hp₃ hd W
      refine x_aug <| l_loc 1 S W rfl rfl <| n_loc 3 S W rfl rfl <| o_istrs (by rw [sq_len, sq_len]; simp at hlt ⊢; (first | exact Mine.w53 hlt | omega)) fun kk => s_loc 1 S W rfl rfl fun h₄ W => x_nil ?_
      rw [sq_app] at W
      exact ⟨ps''.length, by simp, ps'', t' ++ [c], p₃, kk, tp₃, _, rfl, hp₃, hd, by rw [← ht]; simp [pch], hps'', W⟩
    cases e with
    | true =>
      have hc' : cs.drop p' = 92 :: c :: (ptx ps'' ++ _) := hc'
      refine W_next (m := m) B s hm ok W hc' fun h₁ k₁ tp₁ W => s_loc 3 S W rfl rfl fun h₂ W => ?_
      rw [show nl [92] = 0 from rfl, Int.add_zero] at W
      refine x_if <| b_cmp <| n_loc 3 S W rfl rfl <| e_attr <| n_loc 0 S W rfl rfl <| ga_ws W.G ⟨(s.trans W.keep) _ _ B.lx, W.get (i := 2) rfl⟩ fun _ => c_ws (by decide) <| b_bool ?_
      rw [show isWs 92 = false from rfl]
      refine x_if <| b_cmp <| n_loc 3 S W rfl rfl <| e_str fun _ => c_eqs <| b_bool ?_
      rw [sB, show decide (sq [92] = sq [92]) = true from decide_eq_true rfl]
      refine x_assign <| e_meth _ rfl <| n_loc 0 S W rfl rfl <| gm_read W.G ⟨(s.trans W.keep) _ _ B.lx, W.get (i := 2) rfl⟩ <| cw_fn0 (W.G.me ("_netrclex._read_char", 35, 34, 1) (by decide)).isFn ?_
      refine W_char (m := m) B s (ok.le (by first | decide | (first | exact Mine.w54 | omega))) W (drop_next hc') fun h₃ k₃ tp₃ W => s_loc 3 S W rfl rfl fun h₄ W => x_nil_seq <| x_nil_seq <| ?_
      rw [hnl, Int.add_zero] at W
      exact fin (hlen (drop_next hc')) (drop_next (drop_next hc')) W
    | false =>
      obtain ⟨d1, d2⟩ := c3 rfl
      have hc' : cs.drop p' = c :: (ptx ps'' ++ _) := hc'
      refine W_next (m := m) B s hm ok W hc' fun h₁ k₁ tp₁ W => s_loc 3 S W rfl rfl fun h₂ W => ?_
      rw [hnl, Int.add_zero] at W
      refine x_if <| b_cmp <| n_loc 3 S W rfl rfl <| e_attr <| n_loc 0 S W rfl rfl <| ga_ws W.G ⟨(s.trans W.keep) _ _ B.lx, W.get (i := 2) rfl⟩ fun _ => c_ws c1 <| b_bool ?_
      rw [d1]
      refine x_if <| b_cmp <| n_loc 3 S W rfl rfl <| e_str fun _ => c_eqs <| b_bool ?_
      rw [sB, show decide (sq [c] = sq [92]) = false from decide_eq_false (by rw [s1]; exact d2)]
      exact x_nil_seq <| x_nil_seq <| fin (hlen hc') (drop_next hc') W
/-- what a token is read out of -/
inductive Bd : List Nat → List Nat → List Nat → Int → Prop
  | quoted (ps : List (Bool × Nat)) (tl : List Nat) : (∀ q ∈ ps, q.2 < 128 ∧ q.2 ≠ 10 ∧ (q.1 = false → q.2 ≠ 34 ∧ q.2 ≠ 92)) → Bd (34 :: (ptx ps ++ 34 :: tl)) (pch ps) tl 0
  | word (e : Bool) (c : Nat) (ps : List (Bool × Nat)) (x : Nat) (tl : List Nat) : okW (e, c) → (e = false → c ≠ 34) → (∀ q ∈ ps, okW q) → x < 128 → isWs x = true → Bd (ptx ((e, c) :: ps) ++ x :: tl) (pch ((e, c) :: ps)) tl (nl [x])
  | last (e : Bool) (c : Nat) (ps : List (Bool × Nat)) : okW (e, c) → (e = false → c ≠ 34) → (∀ q ∈ ps, okW q) → Bd (ptx ((e, c) :: ps)) (pch ((e, c) :: ps)) [] 0
  | none : Bd [] [] [] 0
end
end Mine
end

section
namespace Mine
open PySem PySem.W PyProof.Rows Builtin Builtin.ObjectAttr
variable {prog : Program} {w : World} {A : Around} {h h₀ : Heap} {env : Env} {R : Value → Heap → Prop} {Q : Flow → Heap → Prop} {pos : Pos} {rs : List Res} {f : Res}
section
variable {hB : Heap} {Lx Dx st ro cT cA At Pb I mo L : Addr} {cs : List Nat} {p : Nat} {tp : Tok} {ln : Int} {m : Nat}
def nls (l : List Nat) : Int := (l.map fun x => nl [x]).sum
theorem ptx_len (ps : List (Bool × Nat)) : ps.length ≤ (ptx ps).length := by
  induction ps with
  | nil => exact Nat.zero_le _
  | cons a ps ih =>
    obtain ⟨e, c⟩ := a
    cases e
    · show _ ≤ (c :: ptx ps).length; simp; (first | exact Mine.w55 ih | omega)
    · show _ ≤ (92 :: c :: ptx ps).length; simp; (first | exact Mine.w56 ih | omega)
theorem out_spec {lead body tok tl : List Nat} {nx : Int} {tk : Tok} {xch : Option Value} (B : RB hB Lx Dx st ro cT cA At Pb cs) (hz : cs.length ≤ 900) (s : Sub hB h₀) (hm : h₀.get? mo = some (methodObj (.ref 35) (.ref Lx))) (oM : okA mo) (nM : mo ≠ Dx ∧ mo ≠ At ∧ mo ≠ I) (ok : Ok A (m + 3)) (S : Sc env L nmG)
    (hlead : ∀ x ∈ lead, x < 128 ∧ isWs x = true) (hbd : Bd body tok tl nx) (hc : cs.drop p = lead ++ body) (hp : p ≤ cs.length)
    (W : Wd w h₀ [(L, Loc nmG [some (.ref Lx), some (.str (sq []) tk), some (.ref I), xch, none]), (I, CI mo), (Dx, LxD ln st Pb), (At, LstW [.int (p : Nat) tp])] h)
    (qf : ∀ h' k p' tp' xch X, p' ≤ cs.length → cs.drop p' = tl → Wd w h₀ [(L, Loc nmG [some (.ref Lx), some (.str (sq tok) k), some (.ref I), xch, none]), (I, X), (Dx, LxD (ln + nls lead + nx) st Pb), (At, LstW [.int (p' : Nat) tp'])] h' → Q (.ret (.str (sq tok) k)) h') :
    T prog w A (execs ((bodyOf (stM 2)).drop 3) env) Q h := by
  have hlen : ∀ {p : Nat} {c : Nat} {l : List Nat}, cs.drop p = c :: l → p + 1 ≤ cs.length := by
    intro p c l e
    rcases Nat.lt_or_ge p cs.length with z | z
    · exact z
    · rw [List.drop_eq_nil_of_le z] at e; cases e
  refine x_for <| n_loc 2 S W rfl rfl <| pi_ci (let ⟨o, e, c⟩ := W.get (i := 1) rfl; ⟨o, e, c.1⟩) ?_
  refine c_forG (fun n h' => (∃ lead' p' tp' ln' tk' xch, n = lead'.length + 1 ∧ p' ≤ cs.length ∧ cs.drop p' = lead' ++ body ∧ (∀ x ∈ lead', x < 128 ∧ isWs x = true) ∧ ln' + nls lead' = ln + nls lead ∧
      Wd w h₀ [(L, Loc nmG [some (.ref Lx), some (.str (sq []) tk'), some (.ref I), xch, none]), (I, CI mo), (Dx, LxD ln' st Pb), (At, LstW [.int (p' : Nat) tp'])] h') ∨
    (n = 0 ∧ ∃ k p' tp' xch, p' ≤ cs.length ∧ cs.drop p' = tl ∧ Wd w h₀ [(L, Loc nmG [some (.ref Lx), some (.str (sq tok) k), some (.ref I), xch, none]), (I, CE), (Dx, LxD (ln + nls lead + nx) st Pb), (At, LstW [.int (p' : Nat) tp'])] h'))
    ?_ (lead.length + 1) (.inl ⟨lead, p, tp, ln, tk, xch, rfl, hp, hc, hlead, rfl, W⟩)
  rintro n h (⟨lead', p', tp', ln', tk', xch, rfl, hp', hc', hlead', hln, W⟩ | ⟨rfl, k, p', tp', xch, hp', hc', W⟩)
  · cases lead' with
    | cons x l =>
      have hc' : cs.drop p' = x :: (l ++ body) := hc'
      obtain ⟨x1, x2⟩ := hlead' x (.head _)
      refine W_next (m := m) B s hm ok W hc' fun h₁ k₁ tp₁ W => s_loc 3 S W rfl rfl fun h₂ W => ?_
      refine x_if <| b_cmp <| n_loc 3 S W rfl rfl <| e_attr <| n_loc 0 S W rfl rfl <| ga_ws W.G ⟨(s.trans W.keep) _ _ B.lx, W.get (i := 2) rfl⟩ fun _ => c_ws x1 <| b_bool ?_
      rw [x2]
      refine x_cont ⟨l.length + 1, by simp, .inl ⟨l, p' + 1, tp₁, ln' + nl [x], tk', _, rfl, hlen hc', drop_next hc', fun y hy => hlead' y (.tail _ hy), ?_, W⟩⟩
      rw [← hln]
      simp only [nls, List.map_cons, List.sum_cons]; (first | exact Mine.w57 | omega)
    | nil =>
      have hc' : cs.drop p' = body := hc'
      have hln : ln' = ln + nls lead := by simpa [nls] using hln
      subst hln
      -- the word branch, behind its first sign
      have word : ∀ {c : Nat} {ps : List (Bool × Nat)} {fin : List Nat} {nx' : Int} {h₃ : Heap} {p₃ : Nat} {k₃ tp₃ : Tok}, tok = c :: pch ps → nx' = nx → (∀ q ∈ ps, okW q) → p₃ ≤ cs.length → cs.drop p₃ = ptx ps ++ fin → ps.length ≤ 900 →
          ((fin = [] ∧ tl = [] ∧ nx = 0) ∨ ∃ x, fin = x :: tl ∧ x < 128 ∧ isWs x = true ∧ nx = nl [x]) →
          Wd w h₀ [(L, Loc nmG [some (.ref Lx), some (.str (sq []) tk'), some (.ref I), some (.str (sq [c]) k₃), none]), (I, CI mo), (Dx, LxD (ln + nls lead) st Pb), (At, LstW [.int (p₃ : Nat) tp₃])] h₃ →
          T prog w A (execs ((ifElse ifQ).drop 1) env) (seqQ prog w A [] env (loopQ (fun h' => ∃ m, m < ([] : List Nat).length + 1 ∧ ((∃ lead' p' tp' ln' tk' xch, m = lead'.length + 1 ∧ p' ≤ cs.length ∧ cs.drop p' = lead' ++ body ∧ (∀ x ∈ lead', x < 128 ∧ isWs x = true) ∧ ln' + nls lead' = ln + nls lead ∧
            Wd w h₀ [(L, Loc nmG [some (.ref Lx), some (.str (sq []) tk'), some (.ref I), xch, none]), (I, CI mo), (Dx, LxD ln' st Pb), (At, LstW [.int (p' : Nat) tp'])] h') ∨
            (m = 0 ∧ ∃ k p' tp' xch, p' ≤ cs.length ∧ cs.drop p' = tl ∧ Wd w h₀ [(L, Loc nmG [some (.ref Lx), some (.str (sq tok) k), some (.ref I), xch, none]), (I, CE), (Dx, LxD (ln + nls lead + nx) st Pb), (At, LstW [.int (p' : Nat) tp'])] h')))
            (fun h' => T prog w A (execs ((bodyOf (stM 2)).drop 4) env) Q h') Q)) h₃ := by
        intro c ps fin nx' h₃ p₃ k₃ tp₃ htok hnx hps hp₃ hd hpl hend W
        refine x_aug <| l_loc 1 S W rfl rfl <| n_loc 3 S W rfl rfl <| o_istrs (by rw [sq_len, sq_len]; simp) fun kk => s_loc 1 S W rfl rfl fun h₄ W => ?_
        rw [sq_app] at W
        refine forW_spec (m := m) (rest := []) (t0 := [c]) (fin := fin) B s hm oM nM ok S hps hd hp₃ (by simp; (first | exact Mine.w58 hpl | omega)) W ?_ ?_ ?_
        · rcases hend with ⟨z, _⟩ | ⟨x, z1, z2, z3, _⟩
          · exact .inl z
          · exact .inr ⟨x, tl, z1, z2, z3⟩
        · intro x tl' h' k p₄ tp₄ xch' hf hp₄ hd' W
          rcases hend with ⟨z, _⟩ | ⟨x', z1, z2, z3, z4⟩
          · rw [z] at hf; cases hf
          · rw [z1] at hf; cases hf
            have htk : [c] ++ pch ps = tok := by rw [htok]; rfl
            rw [htk] at W ⊢
            rw [← z4] at W
            exact qf h' k p₄ tp₄ xch' _ hp₄ hd' W
        · intro h' k p₄ tp₄ xch' hf hp₄ hd' W
          rcases hend with ⟨_, z1, z2⟩ | ⟨x', z1, _⟩
          · have htk : [c] ++ pch ps = tok := by rw [htok]; rfl
            rw [htk] at W
            refine x_nil_seq <| x_nil ⟨0, by simp, .inr ⟨rfl, k, p₄, tp₄, xch', hp₄, by rw [z1]; exact hd', ?_⟩⟩
            rw [z2, Int.add_zero]; exact W
          · rw [z1] at hf; cases hf
      -- a word: its first sign
      have wordB : ∀ {e : Bool} {c : Nat} {ps : List (Bool × Nat)} {fin : List Nat}, body = ptx ((e, c) :: ps) ++ fin → tok = pch ((e, c) :: ps) → okW (e, c) → (e = false → c ≠ 34) → (∀ q ∈ ps, okW q) →
          ((fin = [] ∧ tl = [] ∧ nx = 0) ∨ ∃ x, fin = x :: tl ∧ x < 128 ∧ isWs x = true ∧ nx = nl [x]) →
          T prog w A (pyNext (.ref I)) (fun r h₁ => match r with
            | none => T prog w A (execs ((bodyOf (stM 2)).drop 4) env) Q h₁
            | some v => T prog w A (storeName env (Str.ofString "ch") v) (fun _ h₂ => T prog w A (execs (forBody gtFor) env) (loopQ (fun h' => ∃ m, m < ([] : List Nat).length + 1 ∧ ((∃ lead' p' tp' ln' tk' xch, m = lead'.length + 1 ∧ p' ≤ cs.length ∧ cs.drop p' = lead' ++ body ∧ (∀ x ∈ lead', x < 128 ∧ isWs x = true) ∧ ln' + nls lead' = ln + nls lead ∧
            Wd w h₀ [(L, Loc nmG [some (.ref Lx), some (.str (sq []) tk'), some (.ref I), xch, none]), (I, CI mo), (Dx, LxD ln' st Pb), (At, LstW [.int (p' : Nat) tp'])] h') ∨
            (m = 0 ∧ ∃ k p' tp' xch, p' ≤ cs.length ∧ cs.drop p' = tl ∧ Wd w h₀ [(L, Loc nmG [some (.ref Lx), some (.str (sq tok) k), some (.ref I), xch, none]), (I, CE), (Dx, LxD (ln + nls lead + nx) st Pb), (At, LstW [.int (p' : Nat) tp'])] h'))) (fun h' => T prog w A (execs ((bodyOf (stM 2)).drop 4) env) Q h') Q) h₂) h₁) h := by
        intro e c ps fin hbody htok hok hne hps hend
        obtain ⟨c1, c2, c3⟩ := hok
        have hnl : nl [c] = 0 := if_neg (by simpa using c2)
        have hpl : ps.length ≤ 900 := by
          have h1 := ptx_len ((e, c) :: ps)
          have h2 : (cs.drop p').length ≤ cs.length := by rw [List.length_drop]; (first | exact Mine.w59 | omega)
          rw [hc', hbody, List.length_append] at h2
          simp only [List.length_cons] at h1; (first | exact Mine.w60 hz h1 h2 | omega)
        rw [hbody] at hc'
        cases e with
        | true =>
          have hc' : cs.drop p' = 92 :: c :: (ptx ps ++ fin) := hc'
          refine W_next (m := m) B s hm ok W hc' fun h₁ k₁ tp₁ W => s_loc 3 S W rfl rfl fun h₂ W => ?_
          rw [show nl [92] = 0 from rfl, Int.add_zero] at W
          refine x_if <| b_cmp <| n_loc 3 S W rfl rfl <| e_attr <| n_loc 0 S W rfl rfl <| ga_ws W.G ⟨(s.trans W.keep) _ _ B.lx, W.get (i := 2) rfl⟩ fun _ => c_ws (by decide) <| b_bool ?_
          rw [show isWs 92 = false from rfl]
          refine x_nil_seq <| x_if <| b_cmp <| n_loc 3 S W rfl rfl <| e_str fun _ => c_eqs <| b_bool ?_
          rw [sQ, show decide (sq [92] = sq [34]) = false from decide_eq_false (by rw [s1]; decide)]
          refine x_if <| b_cmp <| n_loc 3 S W rfl rfl <| e_str fun _ => c_eqs <| b_bool ?_
          rw [sB, show decide (sq [92] = sq [92]) = true from decide_eq_true rfl]
          refine x_assign <| e_meth _ rfl <| n_loc 0 S W rfl rfl <| gm_read W.G ⟨(s.trans W.keep) _ _ B.lx, W.get (i := 2) rfl⟩ <| cw_fn0 (W.G.me ("_netrclex._read_char", 35, 34, 1) (by decide)).isFn ?_
          refine W_char (m := m) B s (ok.le (by first | decide | (first | exact Mine.w54 | omega))) W (drop_next hc') fun h₃ k₃ tp₃ W => s_loc 3 S W rfl rfl fun h₄ W => x_nil_seq <| ?_
          rw [hnl, Int.add_zero] at W
          exact word htok rfl hps (hlen (drop_next hc')) (drop_next (drop_next hc')) hpl hend W
        | false =>
          obtain ⟨d1, d2⟩ := c3 rfl
          have hc' : cs.drop p' = c :: (ptx ps ++ fin) := hc'
          refine W_next (m := m) B s hm ok W hc' fun h₁ k₁ tp₁ W => s_loc 3 S W rfl rfl fun h₂ W => ?_
          rw [hnl, Int.add_zero] at W
          refine x_if <| b_cmp <| n_loc 3 S W rfl rfl <| e_attr <| n_loc 0 S W rfl rfl <| ga_ws W.G ⟨(s.trans W.keep) _ _ B.lx, W.get (i := 2) rfl⟩ fun _ => c_ws c1 <| b_bool ?_
          rw [d1]
          refine x_nil_seq <| x_if <| b_cmp <| n_loc 3 S W rfl rfl <| e_str fun _ => c_eqs <| b_bool ?_
          rw [sQ, show decide (sq [c] = sq [34]) = false from decide_eq_false (by rw [s1]; exact hne rfl)]
          refine x_if <| b_cmp <| n_loc 3 S W rfl rfl <| e_str fun _ => c_eqs <| b_bool ?_
          rw [sB, show decide (sq [c] = sq [92]) = false from decide_eq_false (by rw [s1]; exact d2)]
          exact x_nil_seq <| word htok rfl hps (hlen hc') (drop_next hc') hpl hend W
      cases hbd with
      | quoted ps tl hps =>
        refine W_next (m := m) B s hm ok W hc' fun h₁ k₁ tp₁ W => s_loc 3 S W rfl rfl fun h₂ W => ?_
        rw [show nl [34] = 0 from rfl, Int.add_zero] at W
        refine x_if <| b_cmp <| n_loc 3 S W rfl rfl <| e_attr <| n_loc 0 S W rfl rfl <| ga_ws W.G ⟨(s.trans W.keep) _ _ B.lx, W.get (i := 2) rfl⟩ fun _ => c_ws (by decide) <| b_bool ?_
        rw [show isWs 34 = false from rfl]
        refine x_nil_seq <| x_if <| b_cmp <| n_loc 3 S W rfl rfl <| e_str fun _ => c_eqs <| b_bool ?_
        rw [sQ, show decide (sq [34] = sq [34]) = true from decide_eq_true rfl]
        have hpl : ps.length ≤ 900 := by
          have h1 := ptx_len ps
          have h2 : (cs.drop p').length ≤ cs.length := by rw [List.length_drop]; (first | exact Mine.w59 | omega)
          rw [hc'] at h2
          simp only [List.length_cons, List.length_append] at h2; (first | exact Mine.w61 hz h1 h2 | omega)
        refine forQ_spec (m := m) (rest := []) (t0 := []) B s hm ok S hps (drop_next hc') (by simp; (first | exact Mine.w62 hpl | omega)) W fun h' k p₃ tp₃ xch hp₃ hd W => ?_
        exact qf h' k p₃ tp₃ xch _ hp₃ hd (by rw [Int.add_zero]; exact W)
      | word e c ps x tl a1 a2 a3 a4 a5 => exact wordB rfl rfl a1 a2 a3 (.inr ⟨x, rfl, a4, a5, rfl⟩)
      | last e c ps a1 a2 a3 => exact wordB (fin := []) (by rw [List.append_nil]) rfl a1 a2 a3 (.inl ⟨rfl, rfl, rfl⟩)
      | none =>
        refine W_stop (m := m) B s hm oM nM ok W hc' hp' fun h₁ tp₁ W => ?_
        exact x_ret <| n_loc 1 S W rfl rfl <| qf h₁ _ p' _ _ _ hp' hc' (by rw [Int.add_zero]; exact W)
  · refine nx_dead ok.1 (W.get (i := 1) rfl) fun h' sx => ?_
    replace W := W.ext sx
    exact x_ret <| n_loc 1 S W rfl rfl <| qf h' k p' tp' xch _ hp' hc' W
end
end Mine
end

section
namespace Mine
open PySem PySem.W PyProof.Rows Builtin Builtin.ObjectAttr
variable {prog : Program} {w : World} {A : Around} {h h₀ : Heap} {env : Env} {R : Value → Heap → Prop} {Q : Flow → Heap → Prop} {pos : Pos} {rs : List Res} {f : Res}
section
variable {hB : Heap} {Lx Dx st ro cT cA At Pb : Addr} {cs : List Nat} {p : Nat} {tp : Tok} {ln : Int} {m : Nat}
theorem gt_spec {lead body tok tl : List Nat} {nx : Int} (B : RB hB Lx Dx st ro cT cA At Pb cs) (hz : cs.length ≤ 900) (s : Sub hB h) (hP : IsLstO h Pb []) (hD : ∃ o, h.get? Dx = some o ∧ LxD ln st Pb o) (hA : ∃ o, h.get? At = some o ∧ LstW [.int (p : Nat) tp] o)
    (hlead : ∀ x ∈ lead, x < 128 ∧ isWs x = true) (hbd : Bd body tok tl nx) (hc : cs.drop p = lead ++ body) (hp : p ≤ cs.length) (g : Gd w h) (tb : Tabs h) (ok : Ok A (m + 4))
    (q : ∀ h' k p' tp', KeepsX [Dx, At] h h' → Tabs h' → p' ≤ cs.length → cs.drop p' = tl → (∃ o, h'.get? Dx = some o ∧ LxD (ln + nls lead + nx) st Pb o) → (∃ o, h'.get? At = some o ∧ LstW [.int (p' : Nat) tp'] o) → R (.str (sq tok) k) h') :
    T prog w A (call (.ref 42) [.ref Lx]) R h := by
  refine call_fnX (n := m + 3) (cl := []) (g.me ("_netrclex.get_token", 42, 41, 2) (by decide)) g tb ok rfl foM2 (fun _ _ _ => rfl) [(Dx, LxD ln st Pb), (At, LstW [.int (p : Nat) tp])]
    (all2 (P := fun r => ∃ o, h.get? r.1 = some o ∧ r.2 o) hD hA) (by simpa using B.DA) (all2 (P := fun r => ∀ o, r.2 o → safe o) (fun _ => LxD.safe) (fun _ => LstW.safe)) (all2 (P := fun r => okA r.1) B.oD B.oA) ?_
  intro L env h₀ h₁ S _ _ hb _ W ok'
  replace W : Wd w h₀ [(L, Loc nmG [some (.ref Lx), none, none, none, none]), (Dx, LxD ln st Pb), (At, LstW [.int (p : Nat) tp])] h₁ := W
  replace S : Sc env L nmG := S
  replace hb : ∀ b o, h.get? b = some o → b ≠ 72 → b ≠ 79 → b ∉ [Dx, At] → h₀.get? b = some o := hb
  have s₀ : Sub hB h₀ := B.keep s (l := [Dx, At]) (by simp) hb
  have hX : ∀ {h' ln'}, Sub h₀ h' → (∃ o, h'.get? Dx = some o ∧ LxD ln' st Pb o) → LexAt h' Lx Dx ln' st Pb := fun z d => ⟨z _ _ (s₀ _ _ B.lx), d⟩
  have hP₀ : IsLst h₀ Pb [] := by
    obtain ⟨o, e, x⟩ := hP
    exact ⟨o, hb _ _ e B.oP.ne.1 B.oP.ne.2 (by simp; exact ⟨B.PD, B.PA⟩), x.w⟩
  refine x_if <| b_expr <| e_attr <| n_loc 0 S W rfl rfl <| ga_pb W.G (hX W.keep (W.get (i := 1) rfl)) <| b_list (hP₀.sub W.keep) (by simp) ?_
  refine x_nil_seq <| x_assign <| e_str fun tk => s_loc 1 S W rfl rfl fun h₂ W => ?_
  rw [sq_nil] at W
  refine x_assign <| e_call <| n_bi 4 S W rfl (by decide : (Str.ofString "iter", Value.builtin "iter") ∈ biTab) <| cw_bi <| a_cons <| e_attr <| n_loc 0 S W rfl rfl <| ga_read W.G (hX W.keep (W.get (i := 1) rfl)) <| a_cons <| e_str fun te => a_nil ?_
  have fr := W.new0 (Wd.size_none h₂)
  have em : (h₂.push (methodObj (.ref 35) (.ref Lx))).get? h₂.objs.size = some (methodObj (.ref 35) (.ref Lx)) := Heap.get?_push_size _ rfl
  have oM := W.size
  replace W := W.skip (methodObj (.ref 35) (.ref Lx))
  generalize h₂.objs.size = mo at fr em oM ⊢
  generalize h₂.push (methodObj (.ref 35) (.ref Lx)) = H at W em ⊢
  refine c_iter2 em fun I h₃ _ eI eh => ?_
  subst eI eh
  have em' : (H.push { cls := .type "callable_iterator", data := .fields #[.ref mo, .str (sq []) te, .bool false] }).get? mo = some (methodObj (.ref 35) (.ref Lx)) := Heap.get?_push_of_some _ em
  have nI : mo ≠ H.objs.size := Nat.ne_of_lt (Heap.lt_size em)
  replace W := W.push1 (P := CI mo) { cls := .type "callable_iterator", data := .fields #[.ref mo, .str (sq []) te, .bool false] } ⟨rfl, te, rfl⟩ (fun _ => CI.safe) rfl
  generalize H.push { cls := .type "callable_iterator", data := .fields #[.ref mo, .str (sq []) te, .bool false] } = H' at W em' ⊢
  generalize H.objs.size = I at W nI ⊢
  have nD : mo ≠ Dx := fun z => fr.2.1 (Dx, _) (List.mem_of_getElem? (i := 1) rfl) z.symm
  have nA : mo ≠ At := fun z => fr.2.1 (At, _) (List.mem_of_getElem? (i := 2) rfl) z.symm
  have nL : mo ≠ L := fun z => fr.2.1 (L, _) (List.mem_of_getElem? (i := 0) rfl) z.symm
  obtain ⟨h₄, s₄, _, gt, W⟩ := W.freeze (.refl _)
  have em₄ : h₄.get? mo = some (methodObj (.ref 35) (.ref Lx)) := gt mo _ em' fr.2.2.1 fr.2.2.2 (by simp; exact ⟨nL, nI, nD, nA⟩)
  refine s_loc 2 S W rfl rfl fun h₅ W => ?_
  refine out_spec (m := m) B hz (s₀.trans s₄) em₄ oM ⟨nD, nA, nI⟩ ok' S hlead hbd hc hp W fun h' k p' tp' xch X hp' hd W => ?_
  exact q h' k p' tp' (fun b o e n1 n2 n3 => W.keep b o (s₄ b o (hb b o e n1 n2 n3))) W.tb hp' hd (W.get (i := 2) rfl) (W.get (i := 3) rfl)
end
end Mine
end

section
namespace Mine
open PySem PySem.W PyProof.Rows Builtin Builtin.ObjectAttr
variable {prog : Program} {w : World} {A : Around} {h h₀ : Heap} {env : Env} {R : Value → Heap → Prop} {Q : Flow → Heap → Prop} {pos : Pos} {rs : List Res} {f : Res}

theorem TabC.ext' {h h' : Heap} {P P2 : Addr} {pos : Pos} {qual : Str} {ps : Array Value} (x : TabC h P2 pos qual) (hne : P2 ≠ P) (hP : h.get? P = some (tabObj ps)) (ht : TriplesOk ps.toList) (k : Heap.ExtBut P h h') : TabC h' P2 pos qual := by
  rcases x with e | ⟨c, e, c', o, vs, t, ec, e1, e3, e4⟩
  · exact .inl (k _ _ hne e)
  · cases ec
    refine .inr ⟨c, k _ _ hne e, c, o, vs, t, rfl, k _ _ (fun z => ?_) e1, e3, e4⟩
    rw [z, hP] at e1; cases e1; cases e3
    exact triples_no_str ht qual t (by simpa using e4)
def hide117 (h : Heap) : Heap := hideAll h [117]
theorem hide117_sub (h : Heap) : Sub (hide117 h) h := fun b o e => of_hideAll _ e
/-- the base lets the table of _law_lexer's code go, and it turns -/
theorem Wd.tab117 {h' : Heap} {ps : Array Value} (W : Wd w h₀ rs h) (h117 : h₀.get? 117 = some (tabObj ps)) (ht : TriplesOk ps.toList) (k : Heap.ExtBut 117 h h') : Wd w (hide117 h₀) rs h' := by
  have hb : ∀ b o, h₀.get? b = some o → b ≠ 117 → (hide117 h₀).get? b = some o := fun b o e n => hideAll_get _ e (by simpa using n)
  have tb : Tabs h' := ⟨W.tb.a.ext' (by decide) (W.keep _ _ h117) ht k, W.tb.b.ext' (by decide) (W.keep _ _ h117) ht k⟩
  have hr : ∀ r ∈ rs, r.1 ≠ 117 := fun r hr e => by have := (W.own r hr).2; rw [e, h117] at this; cases this
  refine ⟨fun b o e => ?_, fun r hr' => ⟨let ⟨o, e, p⟩ := (W.own r hr').1; ⟨o, k _ _ (hr r hr') e, p⟩, ?_⟩, W.nd, W.sf, W.lo, tb, W.gd.off fun b o e _ _ _ n => hb b o e n, ?_⟩
  · refine k b o ?_ (W.keep b o (hide117_sub _ b o e))
    rintro rfl; rw [show (hide117 h₀).get? 117 = none from hideAll_none _ (.head _)] at e; cases e
  · cases e : (hide117 h₀).get? r.1 with
    | none => rfl
    | some o => have := hide117_sub _ _ _ e; rw [(W.own r hr').2] at this; cases this
  · constructor
    · cases e : (hide117 h₀).get? 72 with
      | none => rfl
      | some o => have := hide117_sub _ _ _ e; rw [W.no.1] at this; cases this
    · cases e : (hide117 h₀).get? 79 with
      | none => rfl
      | some o => have := hide117_sub _ _ _ e; rw [W.no.2] at this; cases this
theorem Wd.ba (W : Wd w h₀ rs h) : ∃ mg, h.Ns mainGlobals mg ∧ h.BuiltinsAt mg 117 := by
  obtain ⟨mg, mb, bm, ob, a1, a2, a3, a4, a5, a6, a7, a8, a9, b1, b2, b3, b4, b5, b6, b7⟩ := W.G.ns
  exact ⟨mg, a1, bm, ob, a9, b1, b2, Nat.ne_of_lt (Nat.lt_of_lt_of_le b3 (by decide)), b4, b5, b6, b7⟩
theorem fresh_lt {a : Addr} (e : ∀ o, h.get? a ≠ some o) : h.get? a = none := by
  cases z : h.get? a with
  | none => rfl
  | some o => exact absurd z (e o)
theorem ge_none {a : Addr} (l : h.objs.size ≤ a) : h.get? a = none := fresh_lt fun o z => absurd (Heap.lt_size z) (Nat.not_lt.mpr l)
section
variable {ps : Array Value} {L : Addr} {ns : List (Str × NameKind)} {cl : List (Str × Addr)} {name qual : Str} {params : Arguments} {scope : Scope}
theorem x_def117 {body rest : List Stmt} (S : Sc env L ns) (W : Wd w h₀ rs h) (hcode : env.code = .ref 121) (h117 : h₀.get? 117 = some (tabObj ps)) (ht : TriplesOk ps.toList) (hnf : codeAmong pos ps.toList = none) (hcl : closureFor scope (envC env.cells) = pure cl)
    (hqual : qualnameIn env name name = qual) (hd0 : params.defaults = []) (hk0 : params.kw_defaults = []) (ha : annTrees params none env = [])
    (q : ∀ f c' h₁ h', Sub (hide117 h₀) h₁ → FnIs h₁ f c' qual (.FunctionDef name params body [] none [] scope none name pos) cl → h₁.get? 117 = some (tabObj (ps ++ #[rawInt pos.line, rawInt pos.col, .ref c'])) → Wd w h₁ rs h' →
      T prog w A (storeName env name (.ref f)) (fun _ h₂ => T prog w A (execs rest env) Q h₂) h') :
    T prog w A (execs (.FunctionDef name params body [] none [] scope none name pos :: rest) env) Q h := by
  refine x_seq fun g d k os => nestDef_K hd0 hk0 ha ?_
  rw [hqual]
  obtain ⟨mg, a1, hbm⟩ := W.ba
  refine makeFunction_K (ps := ps) (closureFor_cells scope env ▸ hcl) S.glob a1 hcode W.G.c64 (W.keep _ _ h117) ht hnf (by decide) hbm fun c' ctv doc h' tk hx hge hlt hrec htab => ?_
  have W' := (W.tab117 h117 ht hx).skip (fnMade name qual params body scope cl doc ((mg "__name__").getD .none) c' ctv)
  have sz : h.objs.size ≤ h'.objs.size := Nat.le_trans hge (Nat.le_of_lt hlt)
  have nf := W.new0 (ge_none sz)
  have nc := W.new0 (ge_none hge)
  have e117 := (W.keep _ _ h117)
  have n117 : ∀ r ∈ rs, r.1 ≠ 117 := fun r hr e => by have := (W.own r hr).2; rw [e, h117] at this; cases this
  obtain ⟨h₁, s₁, _, gt, W₁⟩ := W'.freeze (.refl rs)
  have nin : ∀ {a : Addr}, (∀ r ∈ rs, r.1 ≠ a) → a ∉ rs.map (·.1) := fun z hm => by obtain ⟨r, hr, e⟩ := List.mem_map.mp hm; exact z r hr e
  have F : FnIs h₁ h'.objs.size c' qual (.FunctionDef name params body [] none [] scope none name pos) cl := by
    refine ⟨_, doc, _, ctv, gt _ _ (Heap.get?_push_size _ rfl) nf.2.2.1 nf.2.2.2 (nin nf.2.1), rfl, ?_⟩
    obtain ⟨c2, o', vs, t, ec, e1, e2⟩ := hrec
    cases ec
    exact ⟨c', o', vs, t, rfl, gt _ _ (Heap.get?_push_of_some _ e1) nc.2.2.1 nc.2.2.2 (nin nc.2.1), e2⟩
  exact wpAny_mono (q h'.objs.size c' h₁ _ s₁ F (gt _ _ (Heap.get?_push_of_some _ htab) (by decide) (by decide) (nin n117)) W₁ g d _ os) (fun _ _ ⟨h₂, k₂, e, z⟩ => ⟨h₂, k₂, e, z⟩) fun _ _ e => e
def FoN (o : Obj) : Prop := o.cls = .type "function" ∧ (∃ fd, o.data = .func fd) ∧ o.dict = none
theorem FoN.safe {o : Obj} (x : FoN o) : safe o := fun vs e => by obtain ⟨_, ⟨fd, d⟩, _⟩ := x; rw [d] at e; cases e
theorem e_lam117 {body : Expr} (S : Sc env L ns) (W : Wd w h₀ (f :: rs) h) (hcode : env.code = .ref 121) (h117 : h₀.get? 117 = some (tabObj ps)) (ht : TriplesOk ps.toList) (hnf : codeAmong pos ps.toList = none) (hcl : closureFor scope (envC env.cells) = pure cl)
    (hdef : defaultsOf params env = ([], []))
    (q : ∀ a h₁ h', h.get? a = none → Sub (hide117 h₀) h₁ → (∃ ps', h₁.get? 117 = some (tabObj ps')) → Wd w h₁ (f :: (a, FoN) :: rs) h' → R (.ref a) h') : T prog w A (eval (.Lambda params body scope pos) env) R h := by
  intro g d k os
  refine kla_eval hdef ?_
  obtain ⟨mg, a1, hbm⟩ := W.ba
  refine kla_makeFunction (ps := ps) (closureFor_cells scope env ▸ hcl) S.glob a1 hcode W.G.c64 (W.keep _ _ h117) ht hnf (by decide) hbm fun c' ctv h' tk hx hge hlt hrec htab => ?_
  have W' := (W.tab117 h117 ht hx).push1 (P := FoN) (kla_obj "<lambda>" (env.qual ++ "<lambda>") params body scope cl ((mg "__name__").getD .none) c' ctv) ⟨rfl, ⟨_, rfl⟩, rfl⟩ (fun _ => FoN.safe) rfl
  have n117 : ∀ r ∈ f :: rs, r.1 ≠ 117 := fun r hr e => by have := (W.own r hr).2; rw [e, h117] at this; cases this
  have nf : h'.objs.size ≠ 117 := Nat.ne_of_gt (Heap.lt_size htab)
  obtain ⟨h₁, s₁, _, gt, W₁⟩ := W'.freeze (.refl _)
  refine ⟨_, _, rfl, q _ h₁ _ (ge_none (Nat.le_trans hge (Nat.le_of_lt hlt))) s₁ ⟨_, gt _ _ (Heap.get?_push_of_some _ htab) (by decide) (by decide) fun hm => ?_⟩ W₁⟩
  obtain ⟨r, hr, e⟩ := List.mem_map.mp hm
  rcases List.mem_cons.mp hr with rfl | hr
  · exact n117 _ (.head _) e
  · rcases List.mem_cons.mp hr with rfl | hr
    · exact nf e
    · exact n117 _ (.tail _ hr) e
end
end Mine
end

section
namespace Mine
open PySem PySem.W PyProof.Rows Builtin Builtin.ObjectAttr
variable {prog : Program} {w : World} {A : Around} {h h₀ : Heap} {env : Env} {R : Value → Heap → Prop} {Q : Flow → Heap → Prop} {pos : Pos} {rs : List Res} {f : Res}

theorem kg23 {f1 f2 f3 f4 : FuncData} {P : Params} : findIn (kfrag f1 f2 f3 f4 P) (.ref 52) "__init__" = some (some (.ref 28)) := by kernel_rfl
theorem kg24 {f1 f2 f3 f4 : FuncData} {P : Params} : typeIn (kfrag f1 f2 f3 f4 P) (.ref 28) = some (.type "function") := by kernel_rfl
theorem kg25 {f1 f2 f3 f4 : FuncData} {P : Params} : keepIn (kfrag f1 f2 f3 f4 P) (.ref 52) = true := by kernel_rfl
theorem tcw (a : Addr) (rest : List Value) : (Code.builtin "type.__call__" ⟨.ref a :: rest, []⟩).weight = 1 ∧ (Code.builtin "type.__call__" ⟨.ref a :: rest, []⟩).cUnits = 1 := by
  constructor <;> kernel_rfl
theorem foM0 : fnOk (stM 0) 2 = true := by decide +kernel
def DctX (es : List DictEntry) (n : Nat) (o : Obj) : Prop := o = dictOf es n
theorem DctX.safe {es : List DictEntry} {n : Nat} {o : Obj} (x : DctX es n o) : safe o := fun vs e => by rw [x] at e; cases e
theorem init_spec {Lx Dx st : Addr} {m : Nat} (hx : h.get? Lx = some (instObj 52 Dx)) (hd : h.get? Dx = some (dictOf [] 0)) (oL : okA Lx) (oD : okA Dx) (nLD : Lx ≠ Dx) (g : Gd w h) (tb : Tabs h) (ok : Ok A (m + 1))
    (q : ∀ h' Pb, KeepsX [Dx] h h' → Tabs h' → h.get? Pb = none → okA Pb → (∃ o, h'.get? Dx = some o ∧ LxD 1 st Pb o) → IsLstO h' Pb [] → R .none h') : KC prog w A (.call (.ref 28) ⟨[.ref Lx, .ref st], []⟩) R h := by
  refine call_fnXc (n := m) (cl := []) (g.me ("_netrclex.__init__", 28, 27, 0) (by decide)) g tb ok rfl foM0 (fun _ _ _ => rfl) [(Dx, DctX [] 0)]
    (fun r hr => by cases List.mem_singleton.mp hr; exact ⟨_, hd, rfl⟩) (by simp) (fun r hr => by cases List.mem_singleton.mp hr; exact fun _ => DctX.safe) (fun r hr => by cases List.mem_singleton.mp hr; exact oD) ?_
  intro L env h₀ h₁ S _ _ hb _ W ok'
  replace W : Wd w h₀ [(L, Loc (scopeOf (stM 0)).names [some (.ref Lx), some (.ref st)]), (Dx, DctX [] 0)] h₁ := W
  replace hb : ∀ b o, h.get? b = some o → b ≠ 72 → b ≠ 79 → b ∉ [Dx] → h₀.get? b = some o := hb
  have hX₀ : h₀.get? Lx = some (instObj 52 Dx) := hb _ _ hx oL.ne.1 oL.ne.2 (by simpa using nLD)
  have gd : ∀ {i : Nat} {es : List DictEntry} {n : Nat} {h : Heap} {rs : List Res}, Wd w h₀ rs h → rs[i]? = some (Dx, DctX es n) → h.get? Dx = some (dictOf es n) := fun W hi => by obtain ⟨o, e, p⟩ := W.get hi; rw [e, p]
  refine x_setattr <| e_int fun t1 => n_loc 0 S W rfl rfl <| sa_own W.G (W.keep _ _ hX₀) (gd W (i := 1) rfl) (fun _ _ _ _ _ => kg8) rfl (fun k => show 1 ≤ 1000 by (first | exact Mine.w31 | omega)) fun h₂ k1 he hd => ?_
  replace W := W.upd (i := 1) (P' := DctX _ _) rfl he hd rfl (fun _ => DctX.safe)
  refine x_setattr <| n_loc 1 S W rfl rfl <| n_loc 0 S W rfl rfl <| sa_own W.G (W.keep _ _ hX₀) (gd W (i := 1) rfl) (fun _ _ _ _ _ => kg19) rfl (fun k => show 2 ≤ 1000 by (first | exact Mine.w83 | omega)) fun h₃ k2 he hd => ?_
  replace W := W.upd (i := 1) (P' := DctX _ _) rfl he hd rfl (fun _ => DctX.safe)
  refine x_setattr <| e_str fun t3 => n_loc 0 S W rfl rfl <| sa_own W.G (W.keep _ _ hX₀) (gd W (i := 1) rfl) (fun _ _ _ _ _ => kg20) rfl (fun k => show 3 ≤ 1000 by (first | exact Mine.w84 | omega)) fun h₄ k3 he hd => ?_
  replace W := W.upd (i := 1) (P' := DctX _ _) rfl he hd rfl (fun _ => DctX.safe)
  refine x_setattr <| e_list <| a_nil <| new_list W lz fun Pb h₅ fP W => n_loc 0 S W rfl rfl <| sa_own W.G (W.keep _ _ hX₀) (gd W (i := 2) rfl) (fun _ _ _ _ _ => kg18) rfl (fun k => show 4 ≤ 1000 by (first | exact Mine.w47 | omega)) fun h₆ k4 he hd => ?_
  replace W := W.upd (i := 2) (P' := LxD 1 st Pb) rfl he hd ⟨_, _, _, _, _, _, _, _, _, _, _, rfl⟩ (fun _ => LxD.safe)
  refine x_nil ?_
  have oP : okA Pb := W.lo (Pb, _) (List.mem_of_getElem? (i := 1) rfl)
  have nP : Pb ≠ Dx := W.ne 1 2 rfl rfl
  refine q h₆ Pb (fun b o e n1 n2 n3 => W.keep b o (hb b o e n1 n2 n3)) W.tb ?_ oP (W.get (i := 2) rfl) (W.lstO 1 rfl)
  exact fresh_lt fun o z => by
    have := (W.own (Pb, _) (List.mem_of_getElem? (i := 1) rfl)).2
    rw [hb _ _ z oP.ne.1 oP.ne.2 (by simpa using nP)] at this; cases this
theorem cw_cls {e : Expr} {rest : List Expr}
    (q : T prog w A (spliced (backTo pos (starEach (e :: rest) env))) (fun vs h₁ => Gd w h₁ ∧ T prog w A (call (.ref 52) vs) R h₁) h)
    (he : starEach (e :: rest) env = (false, eval e env) :: starEach rest env := by rfl) (hplain : (backTo pos (starEach rest env)).any (·.1) = false := by rfl) :
    T prog w A (callWith pos (.ref 52) [] (backTo pos (starEach (e :: rest) env)) []) R h := by
  intro g d k os
  have q' := q g d k os
  rw [he] at q' ⊢
  refine callWith_of (P := fun h => Gd w h) (by show ((false || (backTo pos (starEach rest env)).any (·.1)) || false) = false; rw [hplain]; rfl) (fun h G => by obtain ⟨f1, f2, f3, f4, K⟩ := G.kf; exact keeps_K kg25 h K) (Calls.evalArgs_plain (wpAny_mono q' (fun vs s' ⟨h', k', e', z⟩ => ?_) fun _ _ x => x))
  subst e'
  exact ⟨z.1, z.2 g d k' os⟩
/-- a new lexer -/
theorem new_lexer {st : Addr} {m : Nat} (W : Wd w h₀ (f :: rs) h) (ok : Ok A (m + 3))
    (q : ∀ Lx Dx Pb h', h.get? Lx = none → Wd w h₀ (f :: (Lx, fun o => o = instObj 52 Dx) :: (Dx, LxD 1 st Pb) :: (Pb, LstO []) :: rs) h' → R (.ref Lx) h') : T prog w A (call (.ref 52) [.ref st]) R h := by
  intro g d k os
  obtain ⟨f1, f2, f3, f4, K⟩ := W.G.kf
  have sL : ∀ Dx : Addr, ∀ o, (fun o => o = instObj 52 Dx) o → safe o := fun Dx o e vs z => by rw [show o = instObj 52 Dx from e] at z; cases z
  have W₁ := W.push1 (P := DctX [] 0) emptyDict rfl (fun _ => DctX.safe) rfl
  have W₂ := W₁.push1 (P := fun o => o = instObj 52 h.objs.size) (instObj 52 h.objs.size) rfl (sL _) rfl
  rw [Heap.size_push] at W₂
  have fL : h.get? (h.objs.size + 1) = none := ge_none (Nat.le_succ _)
  have oL : okA (h.objs.size + 1) := W₂.lo (h.objs.size + 1, _) (List.mem_of_getElem? (i := 1) rfl)
  have oD : okA h.objs.size := W₂.lo (h.objs.size, _) (List.mem_of_getElem? (i := 2) rfl)
  have eL : ((h.push emptyDict).push (instObj 52 h.objs.size)).get? (h.objs.size + 1) = some (instObj 52 h.objs.size) := by obtain ⟨o, e, p⟩ := W₂.get (i := 1) rfl; rw [e, p]
  have eD : ((h.push emptyDict).push (instObj 52 h.objs.size)).get? h.objs.size = some (dictOf [] 0) := by obtain ⟨o, e, p⟩ := W₂.get (i := 2) rfl; rw [e, p]
  have ok' : Ok (A.under (.builtin "type.__call__" ⟨[.ref 52, .ref st], []⟩)) (m + 1) := by
    obtain ⟨h1, h2⟩ := tcw 52 [.ref st]
    refine ⟨ok.1, ?_, ?_⟩
    · have := ok.2.1; show A.depth + (Code.builtin "type.__call__" ⟨[.ref 52, .ref st], []⟩).weight + (m + 1) < 900; (first | exact Mine.w85 h1 this | omega)
    · have := ok.2.2; show A.units + (Code.builtin "type.__call__" ⟨[.ref 52, .ref st], []⟩).cUnits + 20 * (m + 1) < 9000; (first | exact Mine.w86 h2 this | omega)
  refine wpAny_call (make_core (makes_of K kg6) (looks_findIn K kg23) (fun self => bind_fn K self kg24) (.inl rfl) (codeAny_mono (init_spec (m := m) (R := fun v h' => v = .none ∧ ∃ Pb, Wd w h₀ (f :: (h.objs.size + 1, fun o => o = instObj 52 h.objs.size) :: (h.objs.size, LxD 1 st Pb) :: (Pb, LstO []) :: rs) h') eL eD oL oD (Nat.succ_ne_self _) W₂.G W₂.tb ok' ?_ g d k os) fun r s' z => ?_))
  · intro h' Pb kx tb fP oP hD hP
    refine ⟨rfl, Pb, ?_⟩
    have W₃ : Wd w h₀ (f :: (h.objs.size + 1, fun o => o = instObj 52 h.objs.size) :: (h.objs.size, LxD 1 st Pb) :: rs) h' := by
      obtain ⟨o, e, p⟩ := hD
      exact W₂.callD (i := 2) rfl (fun b o e n1 n2 n3 => kx b o e n1 n2 (by simpa using n3)) tb e p (fun _ => LxD.safe)
    obtain ⟨oP', eP, pP⟩ := hP
    have nn := W₂.new0 fP
    have W₄ : Wd w h₀ ((Pb, LstO []) :: f :: (h.objs.size + 1, fun o => o = instObj 52 h.objs.size) :: (h.objs.size, LxD 1 st Pb) :: rs) h' := by
      refine ⟨W₃.keep, fun r hr => ?_, ?_, fun r hr => ?_, fun r hr => ?_, tb, W.gd, W.no⟩
      · rcases List.mem_cons.mp hr with rfl | hr
        · exact ⟨⟨oP', eP, pP⟩, nn.1⟩
        · exact W₃.own r hr
      · rw [List.map_cons, List.nodup_cons]
        refine ⟨fun hm => ?_, W₃.nd⟩
        have hm' : Pb ∈ (f :: (h.objs.size + 1, fun o => o = instObj 52 h.objs.size) :: (h.objs.size, DctX [] 0) :: rs).map (·.1) := hm
        obtain ⟨r, hr, e⟩ := List.mem_map.mp hm'
        exact nn.2.1 r hr e
      · rcases List.mem_cons.mp hr with rfl | hr
        · exact fun _ => LstO.safe
        · exact W₃.sf r hr
      · rcases List.mem_cons.mp hr with rfl | hr
        · exact oP
        · exact W₃.lo r hr
    exact W₄.perm ((List.Perm.swap ..).trans (((List.Perm.swap ..).trans ((List.Perm.swap ..).cons _)).cons _))
  · cases r with
    | error e => exact z.elim
    | ok fl =>
      cases fl with
      | ret v =>
        obtain ⟨h', k', rfl, rfl, Pb, W'⟩ := z
        exact ⟨rfl, h', k', rfl, q _ _ Pb h' fL W'⟩
      | _ => exact z.elim
end Mine
end

section
namespace Mine
open PySem PySem.W PyProof.Rows Builtin Builtin.ObjectAttr
variable {prog : Program} {w : World} {A : Around} {h h₀ : Heap} {env : Env} {R : Value → Heap → Prop} {Q : Flow → Heap → Prop} {pos : Pos} {rs : List Res} {f : Res}

theorem fo64 : fnOkC (stA 64) 1 = true := by decide +kernel
def nmL : List (Str × NameKind) := (scopeOf (stA 64)).names
theorem hide117_get {b : Addr} {o : Obj} (e : h.get? b = some o) (n : b ≠ 117) : (hide117 h).get? b = some o := hideAll_get _ e (by simpa using n)
theorem FnIs.to {h h' : Heap} {fa c : Addr} {qual : Str} {st : Stmt} {cl : List (Str × Addr)} {ps : Array Value} (x : FnIs h fa c qual st cl) (k : ∀ b o, h.get? b = some o → b ≠ 117 → h'.get? b = some o) (h117 : h.get? 117 = some (tabObj ps)) (ht : TriplesOk ps.toList) : FnIs h' fa c qual st cl := by
  obtain ⟨o, doc, pm, ct, e, d, c', o', vs, t, ec, e1, e2, e3⟩ := x
  cases ec
  refine ⟨o, doc, pm, ct, k _ _ e ?_, d, c, o', vs, t, rfl, k _ _ e1 ?_, e2, e3⟩
  · rintro rfl; rw [h117] at e; cases e; cases d
  · rintro rfl
    rw [h117] at e1; cases e1; cases e2
    exact triples_no_str ht qual t (by simpa using e3)
def FoD (o : Obj) : Prop := ∃ fd, o.data = .func fd
theorem FoD.safe {o : Obj} (x : FoD o) : safe o := fun vs e => by obtain ⟨fd, d⟩ := x; rw [d] at e; cases e
theorem lexer_spec {cs : List Nat} {t : Tok} {m : Nat} (hz : cs.length ≤ 900) (h117 : h.get? 117 = some (tabObj #[])) (g : Gd w h) (tb : Tabs h) (ok : Ok A (m + 4))
    (q : ∀ Lx Dx st ro cT cA At Pb hB h' tp, RB hB Lx Dx st ro cT cA At Pb cs → Sub hB h' → KeepsX [117] h h' → Tabs h' → h.get? Pb = none → h.get? Dx = none → h.get? At = none → (∃ o, h'.get? Dx = some o ∧ LxD 1 st Pb o) → (∃ o, h'.get? At = some o ∧ LstW [.int (0 : Nat) tp] o) → IsLstO h' Pb [] → (∃ ps', h'.get? 117 = some (tabObj ps')) → R (.ref Lx) h') :
    T prog w A (call (.ref 122) [.str (sq cs) t]) R h := by
  refine call_fnC (n := m + 3) (g.fn ("_law_lexer", 122, 121, 64) (by decide)) g tb ok fo64 rfl (fun _ _ _ => rfl) [] (fun _ h => nomatch h) List.nodup_nil (fun _ h => nomatch h) (fun _ h => nomatch h) ?_
  intro L env h₀ h₁ S hcode hc hqual hb W ok'
  replace W : Wd w h₀ [(L, Loc nmL [none, none, none, none, none]), (L + 1 + 1, Cel none), (L + 1, Cel (some (.str (sq cs) t)))] h₁ := W
  replace S : Sc env L nmL := S
  replace hb : ∀ b o, h.get? b = some o → b ≠ 72 → b ≠ 79 → h₀.get? b = some o := fun b o e n1 n2 => hb b o e n1 n2 List.not_mem_nil
  replace hc : env.cells = [(Str.ofString "at", L + 1 + 1), (Str.ofString "text", L + 1)] := hc
  have h117₀ : h₀.get? 117 = some (tabObj #[]) := hb _ _ h117 (by decide) (by decide)
  have lkA : env.cells.lookup (Str.ofString "at") = some (L + 1 + 1) := by rw [hc]; rfl
  refine x_assign <| e_list <| a_cons <| e_int fun ti => a_nil <| new_list W lz fun At h₂ fAt W => s_cell 3 2 S W rfl lkA rfl fun h₃ W => ?_
  refine x_def117 (qual := qualRO) (cl := [(Str.ofString "text", L + 1), (Str.ofString "at", L + 1 + 1)]) S W hcode h117₀ trivial rfl (by rw [hc]; rfl) ?_ rfl rfl rfl ?_
  · unfold qualnameIn; rw [S.kindOf (i := 1) rfl, hqual]; rfl
  intro ro c' h₄ h₅ s₄ F h117₄ W
  refine s_loc 1 S W rfl rfl fun h₆ W => ?_
  refine x_assign <| e_lam117 (cl := []) S W hcode h117₄ (by exact trivial) (by rfl) rfl rfl fun st h₇ h₈ fst s₇ e117 W => s_loc 2 S W rfl rfl fun h₉ W => ?_
  replace F : FnIs h₄ ro c' qualRO (stI 64 1) [(Str.ofString "text", L + 1), (Str.ofString "at", L + 1 + 1)] := F
  replace W : Wd w h₇ [(L, Loc nmL [none, some (.ref ro), some (.ref st), none, none]), (st, FoN), (At, LstO [.int 0 ti]), (L + 1 + 1, Cel (some (.ref At))), (L + 1, Cel (some (.str (sq cs) t)))] h₉ := W
  refine x_setattr <| n_loc 1 S W rfl rfl <| n_loc 2 S W rfl rfl ?_
  obtain ⟨os, es, os1, ⟨fd, os2⟩, os3⟩ := W.get (i := 1) rfl
  refine fo_sa es os1 os2 os3 fun d h₁₀ fd₁ he FO nd => ?_
  obtain ⟨o2, fd2, e2, c2, d2, di2, ns2⟩ := FO
  have frD := W.new0 fd₁
  replace W := W.upd (i := 1) (P' := FoD) rfl he e2 ⟨fd2, d2⟩ (fun _ => FoD.safe)
  have oSt : okA st := W.lo (st, _) (List.mem_of_getElem? (i := 1) rfl)
  have nSL : st ≠ L := (W.ne 0 1 rfl rfl).symm
  have nSA : st ≠ At := W.ne 1 2 rfl rfl
  have oc1 : okA (L + 1 + 1) := W.lo (L + 1 + 1, _) (List.mem_of_getElem? (i := 3) rfl)
  have oc2 : okA (L + 1) := W.lo (L + 1, _) (List.mem_of_getElem? (i := 4) rfl)
  have nc1 : L + 1 + 1 ≠ L ∧ L + 1 + 1 ≠ At := ⟨(W.ne 0 3 rfl rfl).symm, (W.ne 2 3 rfl rfl).symm⟩
  have nc2 : L + 1 ≠ L ∧ L + 1 ≠ At := ⟨(W.ne 0 4 rfl rfl).symm, (W.ne 2 4 rfl rfl).symm⟩
  have gc1 := W.get (i := 3) rfl
  have gc2 := W.get (i := 4) rfl
  obtain ⟨h₁₁, s₁₁, _, gt, W⟩ := W.freeze (rs' := [(L, Loc nmL [none, some (.ref ro), some (.ref st), none, none]), (At, LstO [.int 0 ti])]) (.cons_cons _ (.cons _ (.cons_cons _ (.cons _ (.cons _ (.refl _))))))
  have FO : FoAt h₁₁ st (.ref ro) := by
    obtain ⟨o3, es3, ep3, e3, r3⟩ := ns2
    exact ⟨o2, fd2, d, gt _ _ e2 oSt.ne.1 oSt.ne.2 (by simp; exact ⟨nSL, nSA⟩), c2, d2, di2, o3, es3, ep3, gt _ _ e3 frD.2.2.1 frD.2.2.2 (by
      simp only [List.map_cons, List.map_nil, List.mem_cons, List.not_mem_nil, or_false, not_or]
      exact ⟨fun z => frD.2.1 (L, _) (List.mem_of_getElem? (i := 0) rfl) z.symm, fun z => frD.2.1 (At, _) (List.mem_of_getElem? (i := 2) rfl) z.symm⟩), r3⟩
  have C1 : h₁₁.IsCell (L + 1 + 1) (some (.ref At)) := by obtain ⟨o, e, p⟩ := gc1; exact ⟨o, gt _ _ e oc1.ne.1 oc1.ne.2 (by simp; exact nc1), p⟩
  have C2 : h₁₁.IsCell (L + 1) (some (.str (sq cs) t)) := by obtain ⟨o, e, p⟩ := gc2; exact ⟨o, gt _ _ e oc2.ne.1 oc2.ne.2 (by simp; exact nc2.2), p⟩
  refine x_ret <| e_call <| n_cls 4 S W rfl <| cw_cls <| a_cons <| n_loc 2 S W rfl rfl <| a_nil ⟨W.G, new_lexer (m := m) W ok' fun Lx Dx Pb h₁₂ fL W => ?_⟩
  have oL : okA Lx := W.lo (Lx, _) (List.mem_of_getElem? (i := 1) rfl)
  have eL : h₁₂.get? Lx = some (instObj 52 Dx) := by obtain ⟨o, e, p⟩ := W.get (i := 1) rfl; rw [e, p]
  have nLx : Lx ≠ L ∧ Lx ≠ Dx ∧ Lx ≠ Pb ∧ Lx ≠ At := ⟨(W.ne 0 1 rfl rfl).symm, W.ne 1 2 rfl rfl, W.ne 1 3 rfl rfl, W.ne 1 4 rfl rfl⟩
  obtain ⟨hB, s₁₂, sB₁, gt₂, W⟩ := W.freeze (rs' := [(L, Loc nmL [none, some (.ref ro), some (.ref st), none, none]), (Dx, LxD 1 st Pb), (Pb, LstO []), (At, LstO [.int 0 ti])]) (.cons_cons _ (.cons _ (.refl _)))
  have up : ∀ b o, h.get? b = some o → b ≠ 72 → b ≠ 79 → b ≠ 117 → hB.get? b = some o := fun b o e n1 n2 n3 => s₁₂ _ _ (s₁₁ _ _ (s₇ _ _ (hide117_get (s₄ _ _ (hide117_get (hb b o e n1 n2) n3)) n3)))
  have eB117 : ∃ ps', hB.get? 117 = some (tabObj ps') := let ⟨ps', e⟩ := e117; ⟨ps', s₁₂ _ _ (s₁₁ _ _ e)⟩
  have fresh : ∀ {a : Addr}, okA a → hB.get? a = none → h.get? a = none := fun oa e => fresh_lt fun o z => by
    refine absurd (up _ o z oa.ne.1 oa.ne.2 ?_) (by rw [e]; nofun)
    rintro rfl; obtain ⟨ps', z⟩ := eB117; rw [z] at e; cases e
  have mD := List.mem_of_getElem? (l := [(L, Loc nmL [none, some (.ref ro), some (.ref st), none, none]), (Dx, LxD 1 st Pb), (Pb, LstO []), (At, LstO [.int 0 ti])]) (i := 1) rfl
  have mP := List.mem_of_getElem? (l := [(L, Loc nmL [none, some (.ref ro), some (.ref st), none, none]), (Dx, LxD 1 st Pb), (Pb, LstO []), (At, LstO [.int 0 ti])]) (i := 2) rfl
  have mA := List.mem_of_getElem? (l := [(L, Loc nmL [none, some (.ref ro), some (.ref st), none, none]), (Dx, LxD 1 st Pb), (Pb, LstO []), (At, LstO [.int 0 ti])]) (i := 3) rfl
  have n4 : ∀ {b : Addr} {o : Obj}, h₁₁.get? b = some o → hB.get? b = some o := fun e => s₁₂ _ _ e
  have B : RB hB Lx Dx st ro (L + 1) (L + 1 + 1) At Pb cs :=
    { lx := gt₂ _ _ eL oL.ne.1 oL.ne.2 (by simp; exact nLx)
      fo := FO.sub s₁₂
      fn := ⟨c', F.to (fun b o e n => s₁₂ _ _ (s₁₁ _ _ (s₇ _ _ (hide117_get e n)))) h117₄ (by exact trivial)⟩
      tx := ⟨t, IsCell_sub C2 s₁₂⟩
      at_ := IsCell_sub C1 s₁₂
      n72 := W.no.1, n79 := W.no.2, nP := (W.own _ mP).2, nD := (W.own _ mD).2, nA := (W.own _ mA).2
      oP := W.lo _ mP, oD := W.lo _ mD, oA := W.lo _ mA, oL := oL
      PD := (W.ne 1 2 rfl rfl).symm, PA := W.ne 2 3 rfl rfl, DA := W.ne 1 3 rfl rfl, len := by (first | exact Mine.w87 hz | omega) }
  refine q Lx Dx st ro (L + 1) (L + 1 + 1) At Pb hB h₁₂ ti B W.keep (fun b o e n1 n2 n3 => W.keep b o (up b o e n1 n2 (by simpa using n3))) W.tb (fresh B.oP B.nP) (fresh B.oD B.nD) (fresh B.oA B.nA) (W.get (i := 1) rfl) ?_ (W.lstO 2 rfl) (let ⟨ps', e⟩ := eB117; ⟨ps', W.keep _ _ e⟩)
  obtain ⟨o, e, p⟩ := W.get (i := 3) rfl
  exact ⟨o, e, p.w⟩
end Mine
end

section
namespace Mine
open PySem PySem.W PyProof.Rows
variable {prog : Program} {w : World} {A : Around} {h h₀ : Heap} {env : Env} {R : Value → Heap → Prop} {Q : Flow → Heap → Prop} {pos : Pos} {rs : List Res} {f : Res}
theorem tp_cons {k v : Expr} {ks : List (Option Expr)} {vs : List Expr} {Q : List (Value × Value) → Heap → Prop} (q : T prog w A (eval k env) (fun kv h₁ => T prog w A (eval v env) (fun vv h₂ => T prog w A (evalPairs (pairTrees ks vs env pos)) (fun r h₃ => Q ((kv, vv) :: r) h₃) h₂) h₁) h) :
    T prog w A (evalPairs (pairTrees (some k :: ks) (v :: vs) env pos)) Q h :=
  fun g d t os => pairTrees_cons_walk (T_chain q fun _ _ k' z => T_chain (z : T prog w A _ _ _) fun _ _ k'' z' => wpAny_mono (z' g d k'' os) (fun _ _ ⟨h', k', e, q⟩ => ⟨h', k', e, q⟩) fun _ _ e => e)
theorem tp_nil {Q : List (Value × Value) → Heap → Prop} (q : Q [] h) : T prog w A (evalPairs (pairTrees [] [] env pos)) Q h := fun _ _ _ _ => pairTrees_nil_walk ⟨_, _, rfl, q⟩
theorem e_dictI {keys : List (Option Expr)} {values : List Expr} (hall : keys.all (·.isSome) = true) (hl : keys.length = values.length) (h0 : keys ≠ []) (hlen : keys.length ≤ 15) (W : Wd w h₀ (f :: rs) h)
    (q : T prog w A (evalPairs (pairTrees keys values env pos)) (fun vs h₁ => h₁ = h.push { cls := .type "dict", data := .dict #[] } ∧ allIntKeys vs = true ∧ ((intKeyPairs vs).map (·.1)).Nodup ∧ ∀ d h', Wd w h₀ (f :: (d, Dct (intKind prog w) (intKeyPairs vs)) :: rs) h' → R (.ref d) h') (h.push { cls := .type "dict", data := .dict #[] })) :
    T prog w A (eval (.Dict keys values pos) env) R h := by
  intro g d k os
  refine wpAny_Dict_walk (knd := intKind prog w) hall hl h0 hlen ?_
  refine wpAny_mono (q g d k os) (fun vs s₁ hr => ?_) fun _ _ e => e.elim
  obtain ⟨h₁, k₁, rfl, rfl, ha, hn, z⟩ := hr
  refine display_done_int ha hn (Heap.DictOf.new h) fun h' hm hs => ⟨h', _, rfl, z _ _ ?_⟩
  have W' := W.push1 (P := Dct (intKind prog w) []) { cls := .type "dict", data := .dict #[] } (by
    obtain ⟨o, es, ep, e, r⟩ := Heap.DictOf.new (knd := intKind prog w) h
    rw [Heap.get?_push_size _ rfl] at e; cases e
    exact ⟨es, ep, r⟩) (fun _ => Dct.safe) rfl
  obtain ⟨o, es, ep, e, r⟩ := hm
  exact W'.upd (i := 1) rfl hs.extBut e ⟨es, ep, r⟩ (fun _ => Dct.safe)
theorem ikp (t0 t1 t2 t3 t4 t5 t6 : Value) (a0 a1 a2 a3 a4 a5 a6 : Tok) : intKeyPairs [(Value.int 256 a0, t0), (.int 16 a1, t1), (.int 31 a2, t2), (.int 24 a3, t3), (.int 14 a4, t4), (.int 15 a5, t5), (.int 12 a6, t6)] = [(256, t0), (16, t1), (31, t2), (24, t3), (14, t4), (15, t5), (12, t6)] := rfl
theorem aik (t0 t1 t2 t3 t4 t5 t6 : Value) (a0 a1 a2 a3 a4 a5 a6 : Tok) : allIntKeys [(Value.int 256 a0, t0), (.int 16 a1, t1), (.int 31 a2, t2), (.int 24 a3, t3), (.int 14 a4, t4), (.int 15 a5, t5), (.int 12 a6, t6)] = true := rfl
/-- the display of the names; its parts stand as letters, or else the elaborator runs it -/
theorem e_names {K : List (Option Expr)} {V : List Expr} {p0 q0 p1 q1 p2 q2 p3 q3 p4 q4 p5 q5 p6 q6 : Pos}
    (hK : K = [some (.Constant (.int 256) 0 p0), some (.Constant (.int 16) 0 p1), some (.Constant (.int 31) 0 p2), some (.Constant (.int 24) 0 p3), some (.Constant (.int 14) 0 p4), some (.Constant (.int 15) 0 p5), some (.Constant (.int 12) 0 p6)])
    (hV : V = [.Constant (.str (Str.ofString "\\")) 0 q0, .Constant (.str (Str.ofString "*")) 0 q1, .Constant (.str (Str.ofString "~")) 0 q2, .Constant (.str (Str.ofString "%")) 0 q3, .Constant (.str (Str.ofString "+")) 0 q4, .Constant (.str (Str.ofString "-")) 0 q5, .Constant (.str (Str.ofString ",")) 0 q6])
    (W : Wd w h₀ (f :: rs) h) (q : ∀ d h' t0 t1 t2 t3 t4 t5 t6, Wd w h₀ (f :: (d, Dct (intKind prog w) [(256, Value.str (Str.ofString "\\") t0), (16, Value.str (Str.ofString "*") t1), (31, Value.str (Str.ofString "~") t2), (24, Value.str (Str.ofString "%") t3), (14, Value.str (Str.ofString "+") t4), (15, Value.str (Str.ofString "-") t5), (12, Value.str (Str.ofString ",") t6)]) :: rs) h' → R (.ref d) h') :
    T prog w A (eval (.Dict K V pos) env) R h := by
  refine e_dictI (by subst hK; rfl) (by subst hK hV; rfl) (by subst hK; exact List.cons_ne_nil _ _) (by subst hK; simp) W ?_
  subst hK hV
  refine tp_cons <| e_int fun _ => e_str fun t0 => ?_
  refine tp_cons <| e_int fun _ => e_str fun t1 => ?_
  refine tp_cons <| e_int fun _ => e_str fun t2 => ?_
  refine tp_cons <| e_int fun _ => e_str fun t3 => ?_
  refine tp_cons <| e_int fun _ => e_str fun t4 => ?_
  refine tp_cons <| e_int fun _ => e_str fun t5 => ?_
  refine tp_cons <| e_int fun _ => e_str fun t6 => ?_
  refine tp_nil ?_
  refine ⟨rfl, ?_, ?_, ?_⟩
  · exact aik ..
  · rw [ikp]; exact (show ([256, 16, 31, 24, 14, 15, 12] : List Int).Nodup by decide)
  · intro d h' W; rw [ikp] at W; exact q d h' t0 t1 t2 t3 t4 t5 t6 W
end Mine
end

section
namespace Mine
open PySem PySem.W PyProof.Rows
variable {prog : Program} {w : World} {A : Around} {h h₀ : Heap} {env : Env} {R : Value → Heap → Prop} {Q : Flow → Heap → Prop} {pos : Pos} {rs : List Res} {f : Res}

def names68 := (scopeOf (stA 68)).names
theorem fo68 : fnOkC (stA 68) 1 = true := by decide +kernel
def nmKvs (t0 t1 t2 t3 t4 t5 t6 : Tok) : List (Int × Value) := [(256, Value.str (Str.ofString "\\") t0), (16, Value.str (Str.ofString "*") t1), (31, Value.str (Str.ofString "~") t2), (24, Value.str (Str.ofString "%") t3), (14, Value.str (Str.ofString "+") t4), (15, Value.str (Str.ofString "-") t5), (12, Value.str (Str.ofString ",") t6)]
/-- the sign of a code -/
def sgn (c : Nat) : Str := if c = 256 then ⟨#[92]⟩ else if c = 16 then ⟨#[42]⟩ else if c = 31 then ⟨#[126]⟩ else if c = 24 then ⟨#[37]⟩ else if c = 14 then ⟨#[43]⟩ else if c = 15 then ⟨#[45]⟩ else ⟨#[44]⟩
theorem sgn_leaf (s : Lf) : sgn s.code = ⟨#[s.cp]⟩ := by cases s <;> rfl
theorem nm_at {t0 t1 t2 t3 t4 t5 t6 : Tok} : ∀ (t : Tm), ∀ c ∈ t.codes, ∃ tk, valueAt (nmKvs t0 t1 t2 t3 t4 t5 t6) (c : Int) = some (.str (sgn c) tk)
  | .leaf s, c, h => by
    simp only [Tm.codes, List.mem_singleton] at h; subst h
    cases s
    · exact ⟨t1, rfl⟩
    · exact ⟨t2, rfl⟩
    · exact ⟨t3, rfl⟩
    · exact ⟨t4, rfl⟩
    · exact ⟨t5, rfl⟩
    · exact ⟨t6, rfl⟩
  | .app f x, c, h => by
    simp only [Tm.codes, List.mem_cons, List.mem_append] at h
    rcases h with rfl | h | h
    · exact ⟨t0, rfl⟩
    · exact nm_at f c h
    · exact nm_at x c h
theorem join_sgn : ∀ t : Tm, (t.codes.map sgn).flatMap (·.cps.toList) = t.chars
  | .leaf s => by simp [Tm.codes, Tm.chars, sgn_leaf]
  | .app f x => by
    simp only [Tm.codes, Tm.chars, List.map_cons, List.flatMap_cons, List.map_append, List.flatMap_append, join_sgn f, join_sgn x]
    rfl
theorem joinS_sgn (t : Tm) : joinS (t.codes.map sgn) = t.str := by unfold joinS Tm.str; rw [join_sgn]
theorem sgn_len (c : Nat) : (sgn c).length = 1 := by unfold sgn; repeat (first | rfl | split)
theorem isIntOf {i : Int} {t : Tok} : (intKind prog w).is i (.int i t) = true := by show Value.isInt i (.int i t) = true; simp [Value.isInt]
def eltOf : Stmt → Expr
  | .Assign _ (.ListComp e _ _ _) _ => e
  | _ => .Constant .none 0 ⟨0, 0, 0, 0⟩
def whileBody : Stmt → List Stmt
  | .While _ b _ _ => b
  | _ => []
def wordE : Expr := eltOf (nth (.Pass ⟨0, 0, 0, 0⟩) (whileBody (nth (.Pass ⟨0, 0, 0, 0⟩) (bodyOf (stA 68)) 6)) 2)
def nsWord : List (Str × NameKind) := [(Str.ofString ".0", .local), (Str.ofString "number", .local), (Str.ofString "_int2digits", .globalImplicit), (Str.ofString "names", .free)]
/-- the word of a number: ''.join([names[symbol] for symbol in _int2digits(number, 9)]) -/
theorem word_of {u : Tm} {m : Nat} {C : Addr} {Nm cN : Addr} {t0 t1 t2 t3 t4 t5 t6 tn : Tok} {vals : List (Option Value)} (iN : Nat) (hz : u.sz ≤ 13) (ok : Ok A m) (hm : 100 ≤ m)
    (S : Sc env C nsWord) (hv : vals[1]? = some (some (.int (enc u) tn))) (hcells : env.cells = [(Str.ofString "names", cN)])
    (W : Wd w h₀ ((C, Loc nsWord vals) :: rs) h) (hN : rs[iN]? = some (cN, Cel (some (.ref Nm)))) (hM : rs[iN + 1]? = some (Nm, Dct (intKind prog w) (nmKvs t0 t1 t2 t3 t4 t5 t6)))
    (q : ∀ h' k, Wd w h₀ ((C, Loc nsWord vals) :: rs) h' → R (.str u.str k) h') :
    T prog w A (eval wordE env) R h := by
  have henc : enc u = ((nval u.codes : Nat) : Int) := dval_nval _
  refine e_meth _ rfl <| e_str fun _ => gm_join <| cw_bi <| a_cons <| e_compJ 1 [(Str.ofString "names", cN)] S ok.1 (by rw [closureFor_cells, hcells]; rfl) ?_
  refine e_call <| n_fn 2 S W rfl (by decide : (Str.ofString "_int2digits", 77, 76, 6) ∈ fnTab) <| cw_fn <| a_cons <| n_loc 1 S W rfl hv <| a_cons <| e_int fun _ => a_nil ⟨(W.G.fn ("_int2digits", 77, 76, 6) (by decide)).isFn, ?_⟩
  rw [henc]
  refine i2d_spec (n := 9) (m := 60) (by decide) (by decide) (Nat.le_trans (Tm.nbits hz) (by decide)) (by rw [Tm.nd_len]; (first | exact Mine.w321 hz | omega)) W.G W.tb (ok.le (by first | decide | (first | exact Mine.w322 hm | omega))) (by decide) fun D h₁ dv kp tb₁ hD okD hl hi => ?_
  rw [Tm.digits] at hi
  obtain ⟨oD, eD, pD⟩ := hl
  replace W := W.callNew kp tb₁ hD okD eD pD (fun _ => LstW.safe)
  have hdl : dv.length = u.sz := by rw [hi.1, List.length_map, u.codes_len]
  refine pi_list W (W.lstw 1 rfl) fun I h₂ W => ⟨fun i' h₀' ys rs' => h₀' = h₀ ∧ rs' = (D, LstW dv) :: rs ∧ Strs ys ((u.codes.take i').map sgn), I, _, _, _, _, h₀, _, _, rfl, Itr.list I D dv, by (first | exact Mine.w119 hz hdl | omega), ?_, ?_, ?_, ?_, ⟨rfl, rfl, by simpa using Strs.nil⟩, W⟩
  · rintro i' _ ys _ ⟨_, _, hs⟩
    rw [hs.1]; simp; (first | exact Mine.w120 | omega)
  · rintro i' _ ys _ h ⟨rfl, rfl, _⟩ W
    exact W.lstw 1 rfl
  · rintro C2 Dl i' _ ys _ v h hi' hv' ⟨rfl, rfl, hs⟩ W SC
    refine t_none ?_
    have hil : i' < u.codes.length := by rw [u.codes_len]; (first | exact Mine.w298 hdl hi' | omega)
    obtain ⟨td, hd⟩ := hi.2 i' ((u.codes[i'] : Nat) : Int) (by simp [hil])
    rw [hd] at hv'; cases hv'
    obtain ⟨tk, hk⟩ := nm_at (t0 := t0) (t1 := t1) (t2 := t2) (t3 := t3) (t4 := t4) (t5 := t5) (t6 := t6) u (u.codes[i']) (List.getElem_mem _)
    have hN' : ∀ r1 r2 r3 r4 r5 : Res, (r1 :: r2 :: r3 :: r4 :: r5 :: rs)[iN + 5]? = some (cN, Cel (some (.ref Nm))) := fun _ _ _ _ _ => by simpa using hN
    have hM' : ∀ r1 r2 r3 r4 r5 : Res, (r1 :: r2 :: r3 :: r4 :: r5 :: rs)[iN + 6]? = some (Nm, Dct (intKind prog w) (nmKvs t0 t1 t2 t3 t4 t5 t6)) := fun _ _ _ _ _ => by simpa using hM
    refine e_sub <| n_cell 2 SC rfl (show List.lookup _ [(Str.ofString "names", cN)] = some cN from rfl) (W.cel (iN + 5) (hN' _ _ _ _ _)) <| n_loc 1 SC W rfl rfl <| i_dict (W.dct (iN + 6) (hM' _ _ _ _ _)) isIntOf hk ?_
    refine ⟨_, _, _, ⟨rfl, rfl, ?_⟩, W, by simp [cvals], fun j hj => by unfold cvals; rw [List.getElem?_set_ne (Ne.symm hj)]⟩
    rw [List.take_add_one, List.getElem?_eq_getElem hil, List.map_append]
    exact hs.snoc
  · rintro Dl _ ys _ h₃ ⟨rfl, rfl, hs⟩ W
    rw [hdl, ← u.codes_len, List.take_length] at hs
    refine a_nil <| c_join (W.lst 1 rfl) hs ?_ fun k => ?_
    · rw [List.map_map, show ((fun x : Str => x.length) ∘ sgn) = fun _ => 1 from funext sgn_len]
      have : ∀ l : List Nat, (l.map fun _ => 1).sum = l.length := fun l => by induction l with
        | nil => rfl
        | cons a l ih => simp [ih]; (first | exact Mine.w144 | omega)
      rw [this, u.codes_len]; (first | exact Mine.w323 hz | omega)
    rw [joinS_sgn]
    exact q h₃ k (W.sub (.cons_cons _ (.cons _ (.cons _ (.refl _)))))
end Mine
end

section
namespace Mine
open PySem PySem.W PyProof.Rows
variable {prog : Program} {w : World} {A : Around} {h h₀ : Heap} {env : Env} {R : Value → Heap → Prop} {Q : Flow → Heap → Prop} {pos : Pos} {rs : List Res} {f : Res}

def FewIs (kv : List (Str × Value)) (fw : List (Tm × Nat)) : Prop := kv.length = fw.length ∧ ∀ (i : Nat) (p : Tm × Nat), fw[i]? = some p → ∃ tk, kv[i]? = some (p.1.str, .int (p.2 : Nat) tk)
def NxIs (h : Heap) (kv : List (Str × Value)) (ts : List Tm) : Prop := kv.length = ts.length ∧ ∀ (i : Nat) (t : Tm), ts[i]? = some t → ∃ l lv, kv[i]? = some (t.str, .ref l) ∧ IsLst h l lv ∧ Strs lv (t.nexts.map Tm.str)
theorem FewIs.keys {kv : List (Str × Value)} {fw : List (Tm × Nat)} (x : FewIs kv fw) : kv.map (·.1) = fw.map (fun p => p.1.str) := by
  apply List.ext_getElem?
  intro i
  rw [List.getElem?_map, List.getElem?_map]
  cases e : fw[i]? with
  | none =>
    have : kv[i]? = none := by rw [List.getElem?_eq_none_iff] at e ⊢; rw [x.1]; exact e
    rw [this]; rfl
  | some p => obtain ⟨tk, h⟩ := x.2 i p e; rw [h]; rfl
theorem NxIs.keys {kv : List (Str × Value)} {ts : List Tm} (x : NxIs h kv ts) : kv.map (·.1) = ts.map Tm.str := by
  apply List.ext_getElem?
  intro i
  rw [List.getElem?_map, List.getElem?_map]
  cases e : ts[i]? with
  | none =>
    have : kv[i]? = none := by rw [List.getElem?_eq_none_iff] at e ⊢; rw [x.1]; exact e
    rw [this]; rfl
  | some p => obtain ⟨l, lv, h, _⟩ := x.2 i p e; rw [h]; rfl
theorem valueAt_none {kv : List (Str × Value)} {k : Str} (hk : k ∉ kv.map (·.1)) : valueAt kv k = none := by
  unfold valueAt
  rw [Option.map_eq_none_iff, List.find?_eq_none]
  intro p hp e
  exact hk (List.mem_map.mpr ⟨p, hp, by simpa using e⟩)
theorem valueAt_some {kv : List (Str × Value)} {k : Str} (hk : k ∈ kv.map (·.1)) : (valueAt kv k).isSome = true := by
  unfold valueAt
  rw [Option.isSome_map, List.find?_isSome]
  obtain ⟨p, hp, e⟩ := List.mem_map.mp hk
  exact ⟨p, hp, by simpa using e⟩
theorem mem_str {t : Tm} {ts : List Tm} : t.str ∈ ts.map Tm.str ↔ t ∈ ts := by
  constructor
  · intro h; obtain ⟨u, hu, e⟩ := List.mem_map.mp h; rw [← str_inj e]; exact hu
  · exact fun h => List.mem_map_of_mem h
theorem FewIs.snoc {kv : List (Str × Value)} {fw : List (Tm × Nat)} {u : Tm} {d : Nat} {tk : Tok} (x : FewIs kv fw) : FewIs (kv ++ [(u.str, .int (d : Nat) tk)]) (fw ++ [(u, d)]) := by
  refine ⟨by simp [x.1], fun i p e => ?_⟩
  by_cases hi : i < fw.length
  · rw [List.getElem?_append_left hi] at e
    rw [List.getElem?_append_left (by rw [x.1]; exact hi)]; exact x.2 i p e
  · rw [List.getElem?_append_right (by first | decide | (first | exact Mine.w12 hi | omega))] at e
    cases hz : i - fw.length with
    | zero => rw [hz] at e; simp at e; subst e; exact ⟨tk, by rw [List.getElem?_append_right (by rw [x.1]; (first | exact Mine.w12 hi | omega)), x.1, hz]; rfl⟩
    | succ k => rw [hz] at e; simp at e
theorem NxIs.snoc {kv : List (Str × Value)} {ts : List Tm} {u : Tm} {l : Addr} {lv : List Value} (x : NxIs h kv ts) (hl : IsLst h l lv) (hs : Strs lv (u.nexts.map Tm.str)) : NxIs h (kv ++ [(u.str, .ref l)]) (ts ++ [u]) := by
  refine ⟨by simp [x.1], fun i p e => ?_⟩
  by_cases hi : i < ts.length
  · rw [List.getElem?_append_left hi] at e
    obtain ⟨l', lv', a, b, c⟩ := x.2 i p e
    exact ⟨l', lv', by rw [List.getElem?_append_left (by rw [x.1]; exact hi)]; exact a, b, c⟩
  · rw [List.getElem?_append_right (by first | decide | (first | exact Mine.w12 hi | omega))] at e
    cases hz : i - ts.length with
    | zero => rw [hz] at e; simp at e; subst e; exact ⟨l, lv, by rw [List.getElem?_append_right (by rw [x.1]; (first | exact Mine.w12 hi | omega)), x.1, hz]; rfl, hl, hs⟩
    | succ k => rw [hz] at e; simp at e
theorem NxIs.sub {h' : Heap} {kv : List (Str × Value)} {ts : List Tm} (x : NxIs h kv ts) (s : Sub h h') : NxIs h' kv ts := ⟨x.1, fun i t e => let ⟨l, lv, a, b, c⟩ := x.2 i t e; ⟨l, lv, a, b.sub s, c⟩⟩
theorem Strs.cons_inv {vs : List Value} {s : Str} {ss : List Str} (x : Strs vs (s :: ss)) : ∃ k vs', vs = .str s k :: vs' ∧ Strs vs' ss := by
  obtain ⟨k, e⟩ := x.2 0 s rfl
  cases vs with
  | nil => simp at e
  | cons v vs' =>
    simp at e; subst e
    exact ⟨k, vs', rfl, by have := x.1; simpa using this, fun i d hd => by have := x.2 (i + 1) d (by simpa using hd); simpa using this⟩
end Mine
end

section
namespace Mine
open PySem PySem.W PyProof.Rows
variable {prog : Program} {w : World} {A : Around} {h h₀ : Heap} {env : Env} {R : Value → Heap → Prop} {Q : Flow → Heap → Prop} {pos : Pos} {rs : List Res} {f : Res}

theorem DictOf_nd {K : Type} [DecidableEq K] {knd : KeyKind prog w K} {kvs : List (K × Value)} {d : Addr} (x : h.DictOf knd d kvs) : (kvs.map (·.1)).Nodup := let ⟨_, _, _, _, _, _, _, _, n⟩ := x; n
theorem FewIs.at_ {kv : List (Str × Value)} {fw : List (Tm × Nat)} (x : FewIs kv fw) (nd : (kv.map (·.1)).Nodup) {i : Nat} {t : Tm} {d : Nat} (e : fw[i]? = some (t, d)) : ∃ tk, valueAt kv t.str = some (.int (d : Nat) tk) := by
  obtain ⟨tk, h⟩ := x.2 i _ e
  exact ⟨tk, valueAt_at nd h⟩
theorem FewIs.mem {kv : List (Str × Value)} {fw : List (Tm × Nat)} (x : FewIs kv fw) {u : Tm} : u.str ∈ kv.map (·.1) ↔ u ∈ fw.map (·.1) := by
  rw [x.keys, ← mem_str, List.map_map]; rfl
theorem Strs.len_nx {ys : List Value} {x : Tm} (hs : Strs ys (x.nexts.map Tm.str)) : ys.length = x.nexts.length := by rw [hs.1, List.length_map]
def loop68 : List Stmt := (bodyOf (stA 68)).drop 6
inductive RdA (prog : Program) (w : World) (h₀ : Heap) (t0 : Tm) (Lx Dx st Pb At L Nx Fw Nm : Addr) (ln : Int) (atP : Obj → Prop) (u0 u1 u2 u3 u4 u5 u6 ts : Tok) (n : Nat) (h' : Heap) : Prop
  | mk  (fw : List (Tm × Nat)) (i : Nat) (h₂ : Heap) (kvF : List (Str × Value)) (kvN : List (Str × Value)) (pv : List Value) (x6 : Option Value) (x7 : Option Value) (tw : Tok) (e0 : Tm.Inv t0 fw i) (e1 : n = 1957 - i) (e2 : Sub h₀ h₂) (e3 : FewIs kvF fw) (e4 : NxIs h₂ kvN ((fw.take i).map (·.1))) (e5 : Strs pv ((fw.drop i).map fun p => p.1.str)) (e6 : Wd w h₂ [(L, Loc names68 [some (.ref Lx), none, some (.str t0.str ts), some (.int ((fw.length - i : Nat) : Int) tw), some (.ref Fw), some (.ref Nx), x6, x7, none]), (Nx, Dct (strKind prog w) kvN), (Fw, Dct (strKind prog w) kvF), (L + 1, Cel (some (.ref Nm))), (Nm, Dct (intKind prog w) (nmKvs u0 u1 u2 u3 u4 u5 u6)), (Pb, LstO pv), (Dx, LxD ln st Pb), (At, atP)] h')
inductive RdB (prog : Program) (w : World) (h₃ : Heap) (t0 x : Tm) (d : Nat) (fw : List (Tm × Nat)) (i : Nat) (kvN : List (Str × Value)) (Lx Dx st Pb At L Nx Fw Nm Dl : Addr) (ln : Int) (atP : Obj → Prop) (u0 u1 u2 u3 u4 u5 u6 ts : Tok) (kx : Tok) (j : Nat) (h₀' : Heap) (vals : List (Option Value)) (rs : List Res) : Prop
  | mk (p0 : h₀' = h₃) (fw' : List (Tm × Nat)) (kvF' : List (Str × Value)) (pv'' : List Value) (x7 : Option Value) (tw : Tok) (e0 : Tm.Mid t0 x d fw' i j) (e1 : FewIs kvF' fw') (e2 : fw'.take (i + 1) = fw.take (i + 1)) (e3 : Strs pv'' ((fw'.drop (i + 1)).map fun p => p.1.str)) (e4 : vals = [some (.ref Lx), none, some (.str t0.str ts), some (.int ((fw'.length - (i + 1) : Nat) : Int) tw), some (.ref Fw), some (.ref Nx), some (.str x.str kx), x7, none]) (e5 : rs = [(Nx, Dct (strKind prog w) (kvN ++ [(x.str, .ref Dl)])), (Fw, Dct (strKind prog w) kvF'), (L + 1, Cel (some (.ref Nm))), (Nm, Dct (intKind prog w) (nmKvs u0 u1 u2 u3 u4 u5 u6)), (Pb, LstO pv''), (Dx, LxD ln st Pb), (At, atP)])
theorem roads_loop {t0 : Tm} {Lx Dx st Pb At L Nx Fw Nm : Addr} {ln : Int} {atP : Obj → Prop} {m : Nat} {u0 u1 u2 u3 u4 u5 u6 ts tw tf : Tok}
    (S : Sc env L names68) (hc : env.cells = [(Str.ofString "names", L + 1)]) (ok : Ok A m) (hm : 110 ≤ m) (hLx : ∀ {h'}, Sub h₀ h' → h'.get? Lx = some (instObj 52 Dx)) (oL : okA Lx) (nLx : Lx ≠ Pb) (nDx : Dx ≠ Pb) (hz : t0.sz ≤ 13)
    (W : Wd w h₀ [(L, Loc names68 [some (.ref Lx), none, some (.str t0.str ts), some (.int 1 tw), some (.ref Fw), some (.ref Nx), none, none, none]), (Nx, Dct (strKind prog w) []), (Fw, Dct (strKind prog w) [(t0.str, .int 0 tf)]), (L + 1, Cel (some (.ref Nm))), (Nm, Dct (intKind prog w) (nmKvs u0 u1 u2 u3 u4 u5 u6)), (Pb, LstO [.str t0.str ts]), (Dx, LxD ln st Pb), (At, atP)] h)
    (q : ∀ pr h' h₂ fw kvF kvN x6 x7 tw, Sub h₀ h₂ → Tm.Inv t0 fw fw.length → FewIs kvF fw → NxIs h₂ kvN (fw.map (·.1)) → Wd w h₂ [(L, Loc names68 [some (.ref Lx), none, some (.str t0.str ts), some (.int 0 tw), some (.ref Fw), some (.ref Nx), x6, x7, none]), (pr, TupO [.str t0.str ts, .ref Nx, .ref Fw]), (Nx, Dct (strKind prog w) kvN), (Fw, Dct (strKind prog w) kvF), (L + 1, Cel (some (.ref Nm))), (Nm, Dct (intKind prog w) (nmKvs u0 u1 u2 u3 u4 u5 u6)), (Pb, LstO []), (Dx, LxD ln st Pb), (At, atP)] h' → Q (.ret (.ref pr)) h') :
    T prog w A (execs loop68 env) Q h := by
  refine x_while (RdA prog w h₀ t0 Lx Dx st Pb At L Nx Fw Nm ln atP u0 u1 u2 u3 u4 u5 u6 ts) ?turn 1957 ⟨[(t0, 0)], 0, h₀, _, _, _, none, none, tw, Tm.Inv.start, rfl, Sub.refl _, ⟨rfl, fun i p e => ?e1⟩, ⟨rfl, fun i t e => by simp at e⟩, ?e2, W⟩
  case e1 => cases i with
    | zero => simp at e; subst e; exact ⟨tf, rfl⟩
    | succ i => simp at e
  case e2 => exact Strs.snoc (vs := []) (ss := []) Strs.nil
  case turn =>
    rintro n h ⟨fw, i, h₂, kvF, kvN, pv, x6, x7, tw, I, rfl, s₂, hF, hN, hpv, W⟩
    have hfl : fw.length ≤ 1957 := by
      have := Tm.keys_len hz I.nd fun t ht => by obtain ⟨p, hp, e⟩ := List.mem_map.mp ht; rw [← e]; exact (I.good p hp).2.2.2
      rwa [List.length_map] at this
    have oP : okA Pb := W.lo (Pb, _) (List.mem_of_getElem? (i := 5) rfl)
    have oD : okA Dx := W.lo (Dx, _) (List.mem_of_getElem? (i := 6) rfl)
    have oF : okA Fw := W.lo (Fw, _) (List.mem_of_getElem? (i := 2) rfl)
    refine T_gen fun R₁ r₁ => ?_
    refine b_cmp <| n_loc 3 S W rfl rfl <| e_int fun _ => c_gt <| b_bool <| r₁ _ _ ?_
    clear r₁ R₁
    by_cases hi : i < fw.length
    · rw [show decide (((fw.length - i : Nat) : Int) > 0) = true from decide_eq_true (by first | decide | (first | exact Mine.w324 hi | omega))]
      refine T_gen fun Q₂ q₂ => ?_
      obtain ⟨⟨x, d⟩, hx⟩ : ∃ p, fw[i]? = some p := ⟨fw[i], by simp [hi]⟩
      have hdrop : fw.drop i = (x, d) :: fw.drop (i + 1) := by
        rw [List.drop_eq_getElem_cons hi]; congr 1; rw [List.getElem?_eq_getElem hi] at hx; exact Option.some.inj hx
      rw [hdrop, List.map_cons] at hpv
      obtain ⟨kx, pv', rfl, hpv'⟩ := hpv.cons_inv
      have gx := I.good (x, d) (List.mem_of_getElem? hx)
      have hxz : x.sz ≤ 13 := Nat.le_trans gx.2.2.1 hz
      have hpl : pv'.length ≤ 1957 := by rw [hpv'.1, List.length_map, List.length_drop]; (first | exact Mine.w325 hfl | omega)
      refine x_assign <| e_meth _ rfl <| n_loc 0 S W rfl rfl <| gm_get W.G ⟨hLx (s₂.trans W.keep), W.get (i := 6) rfl⟩ <| cw_fn0 (W.G.me ("_netrclex.get_token", 42, 41, 2) (by decide)).isFn ?_
      refine pop_spec (m := 20) ⟨hLx (s₂.trans W.keep), W.get (i := 6) rfl⟩ (W.lstO 5 rfl) oP oL oD nLx nDx (by first | decide | (first | exact Mine.w326 hpl | omega)) W.G W.tb (ok.le (by first | decide | (first | exact Mine.w327 hm | omega))) fun h₄ kp tb₄ hP4 => ?_
      obtain ⟨oP4, eP4, pP4⟩ := hP4
      replace W := W.callD (i := 5) rfl kp tb₄ eP4 pP4 (fun _ => LstO.safe)
      refine s_loc 6 S W rfl rfl fun h₅ W => ?_
      refine x_aug <| l_loc 3 S W rfl rfl <| e_int fun _ => o_isub fun tw' => s_loc 3 S W rfl rfl fun h₆ W => ?_
      rw [show ((fw.length - i : Nat) : Int) - 1 = ((fw.length - (i + 1) : Nat) : Int) by (first | exact Mine.w328 hi | omega)] at W
      replace W : Wd w h₂ [(L, Loc names68 [some (.ref Lx), none, some (.str t0.str ts), some (.int ((fw.length - (i + 1) : Nat) : Int) tw'), some (.ref Fw), some (.ref Nx), some (.str x.str kx), x7, none]), (Nx, Dct (strKind prog w) kvN), (Fw, Dct (strKind prog w) kvF), (L + 1, Cel (some (.ref Nm))), (Nm, Dct (intKind prog w) (nmKvs u0 u1 u2 u3 u4 u5 u6)), (Pb, LstO pv'), (Dx, LxD ln st Pb), (At, atP)] h₆ := W
      refine x_setsub <| e_compJ 1 [(Str.ofString "names", L + 1)] S ok.1 (by rw [closureFor_cells, hc]; rfl) ?_
      refine e_call <| n_fn 8 S W rfl (by decide : (Str.ofString "_law_next", 139, 138, 67) ∈ fnTab) <| cw_fn <| a_cons <| n_loc 6 S W rfl rfl <| a_nil ⟨(W.G.fn ("_law_next", 139, 138, 67) (by decide)).isFn, ?_⟩
      refine next_spec (m := 100) hxz W.G W.tb (ok.le (by first | decide | (first | exact Mine.w329 hm | omega))) (by first | decide | omega) fun D1 h₇ tv kp tb₇ hD1 okD1 hl1 hi1 => ?_
      obtain ⟨o1, e1, p1⟩ := hl1
      replace W := W.callNew kp tb₇ hD1 okD1 e1 p1 (fun _ => LstO.safe)
      have hnl : x.nexts.length ≤ 13 := by
        rw [← Tm.nexts_eq]
        exact Nat.le_trans (List.length_filterMap_le _ _) (by rw [List.length_range]; (first | exact Mine.w330 hxz | omega))
      have htv : tv.length = x.nexts.length := by rw [hi1.1, List.length_map]
      refine pi_list W (W.lst 1 rfl) fun I1 h₈ W => ⟨fun i' h₀' ys rs' => h₀' = h₂ ∧ rs' = [(D1, LstO tv), (Nx, Dct (strKind prog w) kvN), (Fw, Dct (strKind prog w) kvF), (L + 1, Cel (some (.ref Nm))), (Nm, Dct (intKind prog w) (nmKvs u0 u1 u2 u3 u4 u5 u6)), (Pb, LstO pv'), (Dx, LxD ln st Pb), (At, atP)] ∧ Strs ys ((x.nexts.take i').map Tm.str), I1, _, _, _, _, h₂, _, _, rfl, Itr.list I1 D1 tv, by (first | exact Mine.w119 hnl htv | omega), ?c1, ?c2, ?c3, ?c4, ⟨rfl, rfl, by simpa using Strs.nil⟩, W⟩
      case c1 =>
        rintro i' _ ys _ ⟨_, _, hs⟩
        rw [hs.1]; simp; (first | exact Mine.w120 | omega)
      case c2 =>
        rintro i' _ ys _ h ⟨rfl, rfl, _⟩ W
        exact W.lst 1 rfl
      case c3 =>
        rintro C2 Dl i' _ ys _ v h hi' hv' ⟨rfl, rfl, hs⟩ W SC
        refine t_none ?_
        have hil : i' < x.nexts.length := by (first | exact Mine.w298 htv hi' | omega)
        obtain ⟨tn, hd⟩ := hi1.2 i' (enc (x.nexts[i'])) (by simp [hil])
        rw [hd] at hv'; cases hv'
        have hum : x.nexts[i'] ∈ x.nexts := List.getElem_mem _
        have huz : (x.nexts[i']).sz ≤ 13 := by have := Tm.nexts_sz hum; (first | exact Mine.w331 hxz this | omega)
        refine word_of (m := 100) 6 huz (ok.le (by first | decide | (first | exact Mine.w332 hm | omega))) (by first | decide | omega) SC rfl rfl W rfl rfl fun h' k W => ?_
        refine ⟨_, _, _, ⟨rfl, rfl, ?_⟩, W, by simp [cvals], fun j hj => by unfold cvals; rw [List.getElem?_set_ne (Ne.symm hj)]⟩
        rw [List.take_add_one, List.getElem?_eq_getElem hil, List.map_append]
        exact hs.snoc
      case c4 =>
        rintro Dl h₀' ys rs' h₉ ⟨e₀, e₁, hs⟩ W
        rw [e₀, e₁] at W
        rw [htv, List.take_length] at hs
        have hkl : kvN.length = i := by rw [hN.1, List.length_map, List.length_take]; (first | exact Mine.w333 hi | omega)
        refine n_loc 5 S W rfl rfl <| n_loc 6 S W rfl rfl <| s_dictB 3 W rfl isStrOf_self (by first | decide | (first | exact Mine.w334 hfl hi hkl | omega)) fun h₁₀ W => ?_
        have hxn : x ∉ (fw.take i).map (·.1) := by
          intro hm
          obtain ⟨p, hp, e⟩ := List.mem_map.mp hm
          obtain ⟨j, hj⟩ := List.getElem?_of_mem hp
          rw [List.getElem?_take] at hj
          split at hj
          · rename_i hji
            have h1 : (fw.map (·.1))[j]? = some x := by rw [List.getElem?_map, hj, ← e]; rfl
            have h2 : (fw.map (·.1))[i]? = some x := by rw [List.getElem?_map, hx]; rfl
            have := (List.getElem?_inj (by rw [List.length_map]; (first | exact Mine.w303 hi hji | omega)) I.nd).mp (h1.trans h2.symm)
            (first | exact Mine.w335 hji this | omega)
          · cases hj
        have hst : stored kvN x.str (.ref Dl) = kvN ++ [(x.str, .ref Dl)] := stored_new (valueAt_none (by rw [hN.keys]; exact fun h => hxn (mem_str.mp h))) _
        replace W : Wd w h₂ [(L, Loc names68 [some (.ref Lx), none, some (.str t0.str ts), some (.int ((fw.length - (i + 1) : Nat) : Int) tw'), some (.ref Fw), some (.ref Nx), some (.str x.str kx), x7, none]), (Dl, LstO ys), (D1, LstO tv), (Nx, Dct (strKind prog w) (stored kvN x.str (.ref Dl))), (Fw, Dct (strKind prog w) kvF), (L + 1, Cel (some (.ref Nm))), (Nm, Dct (intKind prog w) (nmKvs u0 u1 u2 u3 u4 u5 u6)), (Pb, LstO pv'), (Dx, LxD ln st Pb), (At, atP)] h₁₀ := W
        rw [hst] at W
        have W₀ := W
        obtain ⟨h₃, s₃, _, gt, W⟩ := W.freeze (rs' := [(L, Loc names68 [some (.ref Lx), none, some (.str t0.str ts), some (.int ((fw.length - (i + 1) : Nat) : Int) tw'), some (.ref Fw), some (.ref Nx), some (.str x.str kx), x7, none]), (Nx, Dct (strKind prog w) (kvN ++ [(x.str, .ref Dl)])), (Fw, Dct (strKind prog w) kvF), (L + 1, Cel (some (.ref Nm))), (Nm, Dct (intKind prog w) (nmKvs u0 u1 u2 u3 u4 u5 u6)), (Pb, LstO pv'), (Dx, LxD ln st Pb), (At, atP)]) (.cons_cons _ (.cons _ (.cons _ (.refl _))))
        have hl : IsLst h₃ Dl ys := by
          obtain ⟨o, e, p⟩ := W₀.get (i := 1) rfl
          have oDl : okA Dl := W₀.lo (Dl, _) (List.mem_of_getElem? (i := 1) rfl)
          refine ⟨o, gt Dl o e oDl.ne.1 oDl.ne.2 fun hm => ?_, p.w⟩
          have nd := W₀.nd
          simp only [List.map_cons, List.map_nil, List.nodup_cons, List.mem_cons, List.not_mem_nil, or_false, not_or] at nd hm
          rcases hm with hm | hm
          · exact nd.1.1 hm.symm
          · exact absurd hm (by simp only [not_or]; exact nd.2.1.2)
        have hNs : NxIs h₃ (kvN ++ [(x.str, .ref Dl)]) ((fw.take (i + 1)).map (·.1)) := by
          rw [List.take_add_one, hx, List.map_append]
          exact (hN.sub s₃).snoc hl hs
        have hval : valueAt (kvN ++ [(x.str, Value.ref Dl)]) x.str = some (.ref Dl) := by rw [← hst, valueAt_stored, if_pos rfl]
        have hyl : ys.length = x.nexts.length := hs.len_nx
        refine x_for <| e_sub <| n_loc 5 S W rfl rfl <| n_loc 6 S W rfl rfl <| i_dict (W.dct 1 rfl) isStrOf_self hval <| pi_list W (hl.sub W.keep) fun I2 h₁₁ W => ?_
        refine c_for (P := fun i v => ys[i]? = some v) 7 S rfl ok.1 (Itr.list I2 Dl ys)
          (RdB prog w h₃ t0 x d fw i kvN Lx Dx st Pb At L Nx Fw Nm Dl ln atP u0 u1 u2 u3 u4 u5 u6 ts kx)
          (fun j h₀' vals rs (.mk _ _ _ _ x7 _ _ _ _ _ e _) => ⟨x7, by rw [e]; rfl⟩) (fun j h₀' vals rs h (.mk e ..) W => hl.sub (e ▸ W.keep)) ?turn2 ?done2
          ⟨rfl, fw, kvF, pv', x7, tw', I.mid hx, hF, rfl, hpv', rfl, rfl⟩ W
        case turn2 =>
          rintro j h₀' vals rs v h hj hv ⟨rfl, fw', kvF', pv'', x7, tw, M, hF', htk, hpv'', rfl, rfl⟩ W
          have hj2 : j < x.nexts.length := by (first | exact Mine.w298 hyl hj | omega)
          obtain ⟨tu, hu⟩ := hs.2 j (x.nexts[j]).str (by simp [hj2])
          rw [hu] at hv; cases hv
          have hjx : x.nexts[j]? = some (x.nexts[j]) := List.getElem?_eq_getElem hj2
          generalize x.nexts[j] = u at hu hjx W
          have M2 := M.next hz hjx
          have hfl' : fw'.length ≤ 1957 := by
            have := Tm.keys_len hz M.nd fun t ht => by obtain ⟨p, hp, e⟩ := List.mem_map.mp ht; rw [← e]; exact (M.good p hp).2.2.2
            rwa [List.length_map] at this
          have hil' : i < fw'.length := (List.getElem?_eq_some_iff.mp M.at_).1
          replace W : Wd w h₀' [(L, Loc names68 [some (.ref Lx), none, some (.str t0.str ts), some (.int ((fw'.length - (i + 1) : Nat) : Int) tw), some (.ref Fw), some (.ref Nx), some (.str x.str kx), some (.str u.str tu), none]), (I2, LIt Dl (j + 1)), (Nx, Dct (strKind prog w) (kvN ++ [(x.str, .ref Dl)])), (Fw, Dct (strKind prog w) kvF'), (L + 1, Cel (some (.ref Nm))), (Nm, Dct (intKind prog w) (nmKvs u0 u1 u2 u3 u4 u5 u6)), (Pb, LstO pv''), (Dx, LxD ln st Pb), (At, atP)] h := W
          have hndF := DictOf_nd (W.dct 3 rfl)
          refine T_gen fun Q₃ q₃ => ?_
          refine x_if <| b_cmp <| n_loc 7 S W rfl rfl <| n_loc 4 S W rfl rfl <| c_nindict oF (W.dct 3 rfl) isStrOf_self <| b_bool ?_
          by_cases hmem : u ∈ fw'.map (·.1)
          · rw [valueAt_some (hF'.mem.mpr hmem)]
            refine x_nil_seq <| x_nil <| q₃ _ _ ⟨_, _, _, ⟨rfl, fw', kvF', pv'', _, tw, ?_, hF', htk, hpv'', rfl, rfl⟩, W⟩
            unfold Tm.addOne at M2; rwa [if_pos hmem] at M2
          · have hvn : valueAt kvF' u.str = none := valueAt_none fun h => hmem (hF'.mem.mp h)
            unfold Tm.addOne at M2; rw [if_neg hmem] at M2
            rw [hvn]
            obtain ⟨tx, hfx⟩ := hF'.at_ hndF M.at_
            refine x_setsub <| e_bin <| e_sub <| n_loc 4 S W rfl rfl <| n_loc 6 S W rfl rfl <| i_dict (W.dct 3 rfl) isStrOf_self hfx <| e_int fun _ => o_add fun tk => n_loc 4 S W rfl rfl <| n_loc 7 S W rfl rfl <| s_dictB 3 W rfl isStrOf_self (by rw [hF'.1]; (first | exact Mine.w336 hfl' | omega)) fun h₁₂ W => ?_
            rw [stored_new hvn, show (d : Int) + 1 = ((d + 1 : Nat) : Int) by (first | exact Mine.w33 | omega)] at W
            refine x_expr S <| e_meth _ rfl <| n_loc 0 S W rfl rfl <| gm_push W.G ⟨hLx ((s₂.trans s₃).trans W.keep), W.get (i := 7) rfl⟩ <| cw_fn <| a_cons <| n_loc 7 S W rfl rfl <| a_nil ⟨(W.G.me ("_netrclex.push_token", 49, 48, 3) (by decide)).isFn, ?_⟩
            refine push_spec (m := 20) ⟨hLx ((s₂.trans s₃).trans W.keep), W.get (i := 7) rfl⟩ (W.lstO 6 rfl) oP oL oD nLx nDx (by rw [hpv''.1, List.length_map, List.length_drop]; (first | exact Mine.w337 hfl' | omega)) W.G W.tb (ok.le (by first | decide | (first | exact Mine.w327 hm | omega))) fun h₁₃ kp tb₁₃ hP => ?_
            obtain ⟨oP4, eP4, pP4⟩ := hP
            replace W := W.callD (i := 6) rfl kp tb₁₃ eP4 pP4 (fun _ => LstO.safe)
            refine x_aug <| l_loc 3 S W rfl rfl <| e_int fun _ => o_iadd fun tw' => s_loc 3 S W rfl rfl fun h₁₄ W => x_nil_seq <| x_nil ?_
            rw [show ((fw'.length - (i + 1) : Nat) : Int) + 1 = (((fw' ++ [(u, d + 1)]).length - (i + 1) : Nat) : Int) by rw [List.length_append, List.length_singleton]; (first | exact Mine.w338 hil' | omega)] at W
            refine q₃ _ _ ⟨_, _, _, ⟨rfl, fw' ++ [(u, d + 1)], _, _, _, tw', M2, hF'.snoc, ?_, ?_, rfl, rfl⟩, W⟩
            · rw [List.take_append_of_le_length (by first | decide | (first | exact Mine.w309 hil' | omega))]; exact htk
            · rw [List.drop_append_of_le_length (by first | decide | (first | exact Mine.w309 hil' | omega)), List.map_append]
              exact hpv''.snoc
        case done2 =>
          rintro h₀' vals rs h ⟨rfl, fw', kvF', pv'', x7, tw, M, hF', htk, hpv'', rfl, rfl⟩ W
          have hil' : i < fw'.length := (List.getElem?_eq_some_iff.mp M.at_).1
          have hfl' : fw'.length ≤ 1957 := by
            have := Tm.keys_len hz M.nd fun t ht => by obtain ⟨p, hp, e⟩ := List.mem_map.mp ht; rw [← e]; exact (M.good p hp).2.2.2
            rwa [List.length_map] at this
          exact x_nil <| q₂ _ _ ⟨1957 - (i + 1), by (first | exact Mine.w339 hfl hi | omega), fw', i + 1, h₀', kvF', _, pv'', _, x7, tw, M.done (by first | decide | (first | exact Mine.w340 hyl | omega)), rfl, s₂.trans s₃, hF', by rw [htk]; exact hNs, hpv'', W⟩
    · rw [show decide (((fw.length - i : Nat) : Int) > 0) = false from decide_eq_false (by first | decide | (first | exact Mine.w341 hi | omega))]
      have hil : i = fw.length := Nat.le_antisymm I.le (by first | decide | (first | exact Mine.w12 hi | omega))
      subst hil
      rw [List.take_length] at hN
      rw [List.drop_length] at hpv
      have hpv0 : pv = [] := List.eq_nil_of_length_eq_zero hpv.1
      subst hpv0
      rw [show ((fw.length - fw.length : Nat) : Int) = 0 by (first | exact Mine.w342 | omega)] at W
      refine x_ret <| e_tuple <| a_cons <| n_loc 2 S W rfl rfl <| a_cons <| n_loc 5 S W rfl rfl <| a_cons <| n_loc 4 S W rfl rfl <| a_nil <| new_tuple W lz fun pr h₃ _ W => ?_
      exact q pr h₃ h₂ fw kvF kvN x6 x7 tw s₂ I hF hN W
end Mine
end

section
namespace Mine
open PySem PySem.W PyProof.Rows
variable {prog : Program} {w : World} {A : Around} {h h₀ : Heap} {env : Env} {R : Value → Heap → Prop} {Q : Flow → Heap → Prop} {pos : Pos} {rs : List Res} {f : Res}

theorem all3 {P : Res → Prop} {a b c : Res} (ha : P a) (hb : P b) (hc : P c) : ∀ r ∈ [a, b, c], P r := fun r hr => by
  simp only [List.mem_cons, List.not_mem_nil, or_false] at hr
  rcases hr with rfl | rfl | rfl <;> assumption
theorem dctAt {d : Addr} {kvs : List (Str × Value)} {i : Nat} (W : Wd w h₀ rs h) (hi : rs[i]? = some (d, Dct (strKind prog w) kvs)) : ∃ ep, h.DictAt (strKind prog w) d kvs ep := by
  obtain ⟨o, e, es, ep, r⟩ := W.get hi
  exact ⟨ep, o, es, e, r⟩
/-- names and words behind the first line -/
theorem x_names {K : List (Option Expr)} {V : List Expr} {sp pn pd : Pos} {rest : List Stmt} {L : Addr} {ns : List (Str × NameKind)} {p0 q0 p1 q1 p2 q2 p3 q3 p4 q4 p5 q5 p6 q6 : Pos}
    (hK : K = [some (.Constant (.int 256) 0 p0), some (.Constant (.int 16) 0 p1), some (.Constant (.int 31) 0 p2), some (.Constant (.int 24) 0 p3), some (.Constant (.int 14) 0 p4), some (.Constant (.int 15) 0 p5), some (.Constant (.int 12) 0 p6)])
    (hV : V = [.Constant (.str (Str.ofString "\\")) 0 q0, .Constant (.str (Str.ofString "*")) 0 q1, .Constant (.str (Str.ofString "~")) 0 q2, .Constant (.str (Str.ofString "%")) 0 q3, .Constant (.str (Str.ofString "+")) 0 q4, .Constant (.str (Str.ofString "-")) 0 q5, .Constant (.str (Str.ofString ",")) 0 q6])
    (S : Sc env L ns) (hi : ns[1]? = some (Str.ofString "names", .cell)) (hc : env.cells.lookup (Str.ofString "names") = some (L + 1)) (W : Wd w h₀ (f :: (L + 1, Cel none) :: rs) h)
    (q : ∀ Nm h' t0 t1 t2 t3 t4 t5 t6, Wd w h₀ (f :: (L + 1, Cel (some (.ref Nm))) :: (Nm, Dct (intKind prog w) (nmKvs t0 t1 t2 t3 t4 t5 t6)) :: rs) h' → T prog w A (execs rest env) Q h') :
    T prog w A (execs (.Assign [.Name (Str.ofString "names") pn] (.Dict K V pd) sp :: rest) env) Q h :=
  x_assign (e_names hK hV W fun Nm h₂ t0 t1 t2 t3 t4 t5 t6 W => s_cell 1 2 S W hi hc rfl fun h₃ W => q Nm h₃ t0 t1 t2 t3 t4 t5 t6 (W.perm (.cons _ (.swap ..))))
theorem roads_spec {t0 : Tm} {Lx Dx st Pb At : Addr} {ln ln' : Int} {atP atP' : Obj → Prop} {m : Nat} (B : Heap → Prop) (hBx : ∀ h, B h → h.get? Lx = some (instObj 52 Dx))
    (hBk : ∀ h h', (∀ b o, h.get? b = some o → b ≠ 72 → b ≠ 79 → b ∉ [Pb, Dx, At] → h'.get? b = some o) → B h → B h') (oL : okA Lx) (nL : Lx ∉ [Pb, Dx, At]) (nd : [Pb, Dx, At].Nodup) (oo : ∀ a ∈ [Pb, Dx, At], okA a)
    (sA : ∀ o, atP o → safe o) (sA' : ∀ o, atP' o → safe o)
    (hget : ∀ {A' : Around} {m' : Nat} {h : Heap} {R' : Value → Heap → Prop}, B h → Gd w h → Tabs h → Ok A' (m' + 1) → 20 ≤ m' → IsLstO h Pb [] → (∃ o, h.get? Dx = some o ∧ LxD ln st Pb o) → (∃ o, h.get? At = some o ∧ atP o) →
      (∀ h' k, KeepsX [Dx, At] h h' → Tabs h' → (∃ o, h'.get? Dx = some o ∧ LxD ln' st Pb o) → (∃ o, h'.get? At = some o ∧ atP' o) → R' (.str t0.str k) h') → T prog w A' (call (.ref 42) [.ref Lx]) R' h)
    (hz : t0.sz ≤ 13) (hB : B h) (hP : IsLstO h Pb []) (hD : ∃ o, h.get? Dx = some o ∧ LxD ln st Pb o) (hA : ∃ o, h.get? At = some o ∧ atP o) (g : Gd w h) (tb : Tabs h) (ok : Ok A (m + 1)) (hm : 110 ≤ m)
    (q : ∀ pr h' kv ep kvF fw k1 Nx Fw, KeepsX [Pb, Dx, At] h h' → Tabs h' → Tm.Inv t0 fw fw.length → h.get? pr = none → okA pr → IsTpl h' pr [.str t0.str k1, .ref Nx, .ref Fw] → NxAt prog w h' Nx (fw.map (·.1)) kv ep → h'.DictOf (strKind prog w) Fw kvF → FewIs kvF fw → okA Fw → h.get? Nx = none → h.get? Fw = none →
      (∃ hN, Sub hN h' ∧ hN.get? Pb = none ∧ hN.get? Dx = none ∧ hN.get? At = none ∧ NxIs hN kv (fw.map (·.1))) → IsLstO h' Pb [] → (∃ o, h'.get? Dx = some o ∧ LxD ln' st Pb o) → (∃ o, h'.get? At = some o ∧ atP' o) → R (.ref pr) h') :
    T prog w A (call (.ref 144) [.ref Lx]) R h := by
  have nPD : Pb ≠ Dx ∧ Pb ≠ At ∧ Dx ≠ At := by simp at nd; exact ⟨nd.1.1, nd.1.2, nd.2⟩
  have nLx : Lx ≠ Pb ∧ Lx ≠ Dx ∧ Lx ≠ At := by simpa using nL
  have oP := oo Pb (by simp)
  have oD := oo Dx (by simp)
  have oA := oo At (by simp)
  refine call_fnC (g.fn ("_law_roads", 144, 143, 68) (by decide)) g tb ok fo68 rfl (fun _ _ _ => rfl) [(Pb, LstO []), (Dx, LxD ln st Pb), (At, atP)]
    (all3 (P := fun r => ∃ o, h.get? r.1 = some o ∧ r.2 o) hP hD hA) (by simpa using nd) (all3 (P := fun r => ∀ o, r.2 o → safe o) (fun _ => LstO.safe) (fun _ => LxD.safe) sA) (all3 (P := fun r => okA r.1) oP oD oA) ?_
  intro L env h₀ h₁ S hcode hc hqual hb W ok'
  replace W : Wd w h₀ [(L, Loc names68 [some (.ref Lx), none, none, none, none, none, none, none, none]), (L + 1, Cel none), (Pb, LstO []), (Dx, LxD ln st Pb), (At, atP)] h₁ := W
  replace S : Sc env L names68 := S
  replace hb : ∀ b o, h.get? b = some o → b ≠ 72 → b ≠ 79 → b ∉ [Pb, Dx, At] → h₀.get? b = some o := hb
  have lkn : env.cells.lookup (Str.ofString "names") = some (L + 1) := by rw [hc]; rfl
  replace hc : env.cells = [(Str.ofString "names", L + 1)] := hc
  have hB₀ : B h₀ := hBk h h₀ hb hB
  have hBs : ∀ {h'}, Sub h₀ h' → B h' := fun s => hBk h₀ _ (fun b o e _ _ _ => s b o e) hB₀
  obtain ⟨K, V, pn, pd, sp, rest, hbody, hK, hV, hr⟩ : ∃ K V pn pd sp rest, bodyOf (stA 68) = .Assign [.Name (Str.ofString "names") pn] (.Dict K V pd) sp :: rest ∧
    K = [some (.Constant (.int 256) 0 _), some (.Constant (.int 16) 0 _), some (.Constant (.int 31) 0 _), some (.Constant (.int 24) 0 _), some (.Constant (.int 14) 0 _), some (.Constant (.int 15) 0 _), some (.Constant (.int 12) 0 _)] ∧
    V = [.Constant (.str (Str.ofString "\\")) 0 _, .Constant (.str (Str.ofString "*")) 0 _, .Constant (.str (Str.ofString "~")) 0 _, .Constant (.str (Str.ofString "%")) 0 _, .Constant (.str (Str.ofString "+")) 0 _, .Constant (.str (Str.ofString "-")) 0 _, .Constant (.str (Str.ofString ",")) 0 _] ∧ rest = (bodyOf (stA 68)).drop 1 := ⟨_, _, _, _, _, _, rfl, rfl, rfl, rfl⟩
  rw [hbody]
  refine x_names hK hV S rfl lkn W fun Nm h₃ t0' t1 t2 t3 t4 t5 t6 W => ?_
  subst hr
  clear hK hV hbody
  refine x_assign <| e_meth _ rfl <| n_loc 0 S W rfl rfl <| gm_get W.G ⟨hBx _ (hBs W.keep), W.get (i := 4) rfl⟩ <| cw_fn0 (W.G.me ("_netrclex.get_token", 42, 41, 2) (by decide)).isFn ?_
  refine hget (m' := 20) (hBs W.keep) W.G W.tb (ok'.le (by first | decide | (first | exact Mine.w327 hm | omega))) (by first | decide | omega) (W.lstO 3 rfl) (W.get (i := 4) rfl) (W.get (i := 5) rfl) fun h₄ ts kp tb₄ hD' hA' => ?_
  replace W : Wd w h₀ [(L, Loc names68 [some (.ref Lx), none, none, none, none, none, none, none, none]), (L + 1, Cel (some (.ref Nm))), (Nm, Dct (intKind prog w) (nmKvs t0' t1 t2 t3 t4 t5 t6)), (Pb, LstO []), (Dx, LxD ln' st Pb), (At, atP')] h₄ := by
    have n0 := W.ne 0 4 rfl rfl
    have n0' := W.ne 0 5 rfl rfl
    have n1 := W.ne 1 4 rfl rfl
    have n1' := W.ne 1 5 rfl rfl
    have n2 := W.ne 2 4 rfl rfl
    have n2' := W.ne 2 5 rfl rfl
    refine W.callX kp tb₄ rfl (by intro a ha; simp at ha; rcases ha with rfl | rfl <;> simp) fun r hr => ?_
    simp only [List.mem_cons, List.not_mem_nil, or_false] at hr
    rcases hr with rfl | rfl | rfl | rfl | rfl | rfl
    · exact W.same kp (.head _) (by simp; exact ⟨n0, n0'⟩)
    · exact W.same kp (.tail _ (.head _)) (by simp; exact ⟨n1, n1'⟩)
    · exact W.same kp (.tail _ (.tail _ (.head _))) (by simp; exact ⟨n2, n2'⟩)
    · exact W.same kp (.tail _ (.tail _ (.tail _ (.head _)))) (by simp; exact ⟨nPD.1, nPD.2.1⟩)
    · exact ⟨hD', fun _ => LxD.safe⟩
    · exact ⟨hA', sA'⟩
  refine s_loc 2 S W rfl rfl fun h₅ W => ?_
  refine x_expr S <| e_meth _ rfl <| n_loc 0 S W rfl rfl <| gm_push W.G ⟨hBx _ (hBs W.keep), W.get (i := 4) rfl⟩ <| cw_fn <| a_cons <| n_loc 2 S W rfl rfl <| a_nil ⟨(W.G.me ("_netrclex.push_token", 49, 48, 3) (by decide)).isFn, ?_⟩
  refine push_spec (m := 20) ⟨hBx _ (hBs W.keep), W.get (i := 4) rfl⟩ (W.lstO 3 rfl) oP oL oD nLx.1 (Ne.symm nPD.1) (by simp) W.G W.tb (ok'.le (by first | decide | (first | exact Mine.w327 hm | omega))) fun h₆ kp tb₆ hP6 => ?_
  obtain ⟨oP6, eP6, pP6⟩ := hP6
  replace W := W.callD (i := 3) rfl kp tb₆ eP6 pP6 (fun _ => LstO.safe)
  refine x_assign <| e_int fun tw => s_loc 3 S W rfl rfl fun h₇ W => ?_
  refine x_assign <| e_dict1 W fun H W => n_loc 2 S W rfl rfl <| e_int fun tf => ⟨_, _, rfl, rfl, fun Fw h₈ W => s_loc 4 S W rfl rfl fun h₉ W => ?_⟩
  refine x_assign <| e_dict0 (strKind prog w) W fun Nx h₁₀ _ W => s_loc 5 S W rfl rfl fun h₁₁ W => ?_
  refine roads_loop (m := m) S hc ok' hm (fun s => hBx _ (hBs s)) oL nLx.1 (Ne.symm nPD.1) hz W ?_
  intro pr h' h₂ fw kvF kvN x6 x7 tw₂ s₂ I hF hN W
  have kx : KeepsX [Pb, Dx, At] h h' := fun b o e n1 n2 n3 => W.keep b o (s₂ b o (hb b o e n1 n2 n3))
  have fresh : ∀ {a : Addr} {P : Obj → Prop} (i : Nat), [(L, Loc names68 [some (.ref Lx), none, some (.str t0.str ts), some (.int 0 tw₂), some (.ref Fw), some (.ref Nx), x6, x7, none]), (pr, TupO [.str t0.str ts, .ref Nx, .ref Fw]), (Nx, Dct (strKind prog w) kvN), (Fw, Dct (strKind prog w) kvF), (L + 1, Cel (some (.ref Nm))), (Nm, Dct (intKind prog w) (nmKvs t0' t1 t2 t3 t4 t5 t6)), (Pb, LstO []), (Dx, LxD ln' st Pb), (At, atP')][i]? = some (a, P) → i < 6 → h.get? a = none := by
    intro a P i hi hlt
    cases e : h.get? a with
    | none => rfl
    | some o =>
      exfalso
      have hm := List.mem_of_getElem? hi
      have oa : okA a := W.lo _ hm
      have n6 := W.ne i 6 hi rfl (by first | decide | (first | exact Mine.w343 hlt | omega))
      have n7 := W.ne i 7 hi rfl (by first | decide | (first | exact Mine.w344 hlt | omega))
      have n8 := W.ne i 8 hi rfl (by first | decide | (first | exact Mine.w345 hlt | omega))
      have e' := s₂ a o (hb a o e oa.ne.1 oa.ne.2 (by simp; exact ⟨n6, n7, n8⟩))
      rw [(W.own _ hm).2] at e'; cases e'
  obtain ⟨ep, hdN⟩ := dctAt (i := 2) W rfl
  have hNx := hN.sub W.keep
  exact q pr h' kvN ep kvF fw ts Nx Fw kx W.tb I (fresh 1 rfl (by first | decide | omega)) (W.lo (pr, _) (List.mem_of_getElem? (i := 1) rfl)) (W.tpl 1 rfl) ⟨hdN, hNx.1, hNx.2, W.lo (Nx, _) (List.mem_of_getElem? (i := 2) rfl)⟩ (W.dct 3 rfl) hF (W.lo (Fw, _) (List.mem_of_getElem? (i := 3) rfl)) (fresh 2 rfl (by first | decide | omega)) (fresh 3 rfl (by first | decide | omega)) ⟨h₂, W.keep, (W.own (Pb, _) (List.mem_of_getElem? (i := 6) rfl)).2, (W.own (Dx, _) (List.mem_of_getElem? (i := 7) rfl)).2, (W.own (At, _) (List.mem_of_getElem? (i := 8) rfl)).2, hN⟩ (W.lstO 6 rfl) (W.get (i := 7) rfl) (W.get (i := 8) rfl)
end Mine
end

section
namespace Mine
open PySem PySem.W PyProof.Rows Builtin Builtin.ObjectAttr
variable {prog : Program} {w : World} {A : Around} {h h₀ : Heap} {env : Env} {R : Value → Heap → Prop} {Q : Flow → Heap → Prop} {pos : Pos} {rs : List Res} {f : Res}

/-- a sign of a text -/
theorem i_str {value slice : Expr} {x : Str} {t u : Tok} {k : Int} {c : Nat} (h0 : 0 ≤ k) (hk : x.cps[k.toNat]? = some c) (hz : x.length ≤ 16384) (q : ∀ t', R (.str ⟨#[c]⟩ t') h)
    (hs : subscripted slice false (.str x t) (.int k u) = operate [.str x t, .int k u] (getItem (.str x t) (.int k u)) := by with_unfolding_all rfl) : T prog w A (subscriptTail value slice (.str x t) (.int k u)) R h := by
  have hb : k.toNat < x.cps.size := (Array.getElem?_eq_some_iff.mp hk).1
  have hb' : k.toNat < x.length := hb
  have hj : seqIndex? k x.length = some k.toNat := by
    unfold seqIndex?
    by_cases hneg : k < 0
    · omega
    · simp only [hneg, if_false]
      rw [if_pos (by simp only [Bool.and_eq_true, decide_eq_true_eq]; omega)]
  intro g d tk os
  refine tail_any (T := "str") (typeIs_str _ _ _) F.slot_str_getitem.lookup (P.getItem_str ?_ (by rw [hj]; exact hk) ⟨_, _, rfl, q _⟩) hs
  simp only [Bool.or_eq_false_iff, decide_eq_false_iff_not]
  constructor
  · have : -(2 ^ 63 : Int) ≤ 0 := by decide
    (first | exact Mine.w89 h0 | omega)
  · have : (16384 : Int) < 2 ^ 63 := by decide
    omega
/-- a row of written ints -/
def icon (x : Int × Nat × Pos) : Expr := .Constant (.int x.1) x.2.1 x.2.2
theorem a_icons : ∀ (l : List (Int × Nat × Pos)) {Q : List Value → Heap → Prop}, (∀ vs, Ints vs (l.map (·.1)) → Q vs h) → T prog w A (spliced (backTo pos (starEach (l.map icon) env))) Q h
  | [], Q, q => a_nil (q [] Ints.nil)
  | x :: l, Q, q => a_cons (e_int fun t => a_icons l fun vs hv => q _ (Ints.one.append hv)) rfl
theorem sw_cell {elt : Expr} {gens : List Comprehension} {scope : Scope} {p py : Pos} {y : Str} {ln iy : Nat} {L : Addr} {ns : List (Str × NameKind)} (S : Sc env L ns) (hy : ns[iy]? = some (y, .cell)) : swapsWith (.ListComp elt gens scope p) (some (.Name y py)) ln env = pure false := by
  show (pure (env.blockKind == .function && env.kindOf y == some .local && py.line == p.line && !(scope.names.any fun (n, k) => n == y && (k == .local || k == .cell))) : Sem Bool) = pure false
  rw [S.kindOf hy]
  rw [show ((some NameKind.cell : Option NameKind) == some NameKind.local) = false from rfl]
  simp
/-- values and terms, one by one -/
def RowIs (h : Heap) (vs : List Value) (ts : List Tm) : Prop := vs.length = ts.length ∧ ∀ (i : Nat) (t : Tm), ts[i]? = some t → ∃ v, vs[i]? = some v ∧ TmAt h v t
theorem RowIs.nil : RowIs h [] [] := ⟨rfl, fun i t e => by simp at e⟩
theorem RowIs.one {v : Value} {t : Tm} (x : TmAt h v t) : RowIs h [v] [t] := ⟨rfl, fun i u e => by
  cases i with
  | zero => simp at e; subst e; exact ⟨v, rfl, x⟩
  | succ i => simp at e⟩
theorem RowIs.append {vs us : List Value} {ts ws : List Tm} (x : RowIs h vs ts) (y : RowIs h us ws) : RowIs h (vs ++ us) (ts ++ ws) := by
  refine ⟨by simp [x.1, y.1], fun i t e => ?_⟩
  by_cases hi : i < ts.length
  · rw [List.getElem?_append_left hi] at e
    rw [List.getElem?_append_left (by rw [x.1]; exact hi)]; exact x.2 i t e
  · rw [List.getElem?_append_right (by first | decide | (first | exact Mine.w12 hi | omega))] at e
    rw [List.getElem?_append_right (by rw [x.1]; (first | exact Mine.w12 hi | omega)), x.1]; exact y.2 _ t e
theorem RowIs.take {vs : List Value} {ts : List Tm} (x : RowIs h vs ts) (k : Nat) : RowIs h (vs.take k) (ts.take k) := by
  refine ⟨by simp [x.1], fun i t e => ?_⟩
  rw [List.getElem?_take] at e ⊢
  split at e
  · rename_i q; rw [if_pos q]; exact x.2 i t e
  · cases e
theorem RowIs.drop {vs : List Value} {ts : List Tm} (x : RowIs h vs ts) (k : Nat) : RowIs h (vs.drop k) (ts.drop k) :=
  ⟨by simp [x.1], fun i t e => by rw [List.getElem?_drop] at e ⊢; exact x.2 _ t e⟩
theorem RowIs.sub {h' : Heap} {vs : List Value} {ts : List Tm} (x : RowIs h vs ts) (s : Sub h h') : RowIs h' vs ts := ⟨x.1, fun i t e => let ⟨v, a, b⟩ := x.2 i t e; ⟨v, a, b.sub s⟩⟩
/-- the row with two neighbours joined -/
def joinAt (ts : List Tm) (p : Nat) (a b : Tm) : List Tm := ts.take p ++ [.app a b] ++ ts.drop (p + 2)
theorem split2 {ts : List Tm} {p : Nat} {a b : Tm} (ha : ts[p]? = some a) (hb : ts[p + 1]? = some b) : ts = ts.take p ++ a :: b :: ts.drop (p + 2) := by
  have h1 : p < ts.length := (List.getElem?_eq_some_iff.mp ha).1
  have h2 : p + 1 < ts.length := (List.getElem?_eq_some_iff.mp hb).1
  have e1 : ts.drop p = a :: ts.drop (p + 1) := by rw [List.drop_eq_getElem_cons h1]; congr 1; rw [List.getElem?_eq_getElem h1] at ha; exact Option.some.inj ha
  have e2 : ts.drop (p + 1) = b :: ts.drop (p + 2) := by rw [List.drop_eq_getElem_cons h2]; congr 1; rw [List.getElem?_eq_getElem h2] at hb; exact Option.some.inj hb
  rw [← e2, ← e1, List.take_append_drop]
theorem joinAt_facts {ts : List Tm} {p : Nat} {a b : Tm} (ha : ts[p]? = some a) (hb : ts[p + 1]? = some b) : (joinAt ts p a b).length + 1 = ts.length ∧ ((joinAt ts p a b).map Tm.sz).sum = (ts.map Tm.sz).sum + 1 := by
  have e := split2 ha hb
  constructor
  · have h2 : p + 1 < ts.length := (List.getElem?_eq_some_iff.mp hb).1
    unfold joinAt; simp; (first | exact Mine.w91 h2 | omega)
  · conv => rhs; rw [e]
    unfold joinAt
    simp only [List.map_append, List.sum_append, List.map_cons, List.sum_cons, List.map_nil, List.sum_nil, Tm.sz]; (first | exact Mine.w92 | omega)
/-- the texts that a term is drawn with -/
def endc : List Nat := [101, 110, 100]
def isText (t : Tm) (x : Nat) (cs : List Nat) : Prop := cs = 34 :: (ptx (t.chars.map fun c => (c == 92, c)) ++ 34 :: x :: endc) ∨ cs = ptx (t.chars.map fun c => (true, c)) ++ x :: endc
end Mine
end

section
namespace Mine
open PySem PySem.W PyProof.Rows Builtin Builtin.ObjectAttr
variable {prog : Program} {w : World} {A : Around} {h h₀ : Heap} {env : Env} {R : Value → Heap → Prop} {Q : Flow → Heap → Prop} {pos : Pos} {rs : List Res} {f : Res}

def nm66 : List (Str × NameKind) := (scopeOf (stA 66)).names
def Cells (cs : List Int) : Prop := cs.length = 14 ∧ ∀ c ∈ cs, 0 ≤ c ∧ c ≤ 100
/-- the joining loop -/
inductive DbA (h₀ : Heap) (i : Nat) (h₀' : Heap) (vals : List (Option Value)) (rs : List Res) : Prop
  | mk (p0 : Sub h₀ h₀') (x2 : Option Value) (x5 : Option Value) (x6 : Option Value) (Rw : Addr) (rv : List Value) (ts : List Tm) (e0 : vals = [none, none, x2, none, some (.ref Rw), x5, x6, none, none, none, none, none, none]) (e1 : rs = [(Rw, LstO rv)]) (e2 : RowIs h₀' rv ts) (e3 : ts.length + i = 7) (e4 : (ts.map Tm.sz).sum = 7 + i)
theorem dB {L cC Ce Rw : Addr} {cv rv : List Value} {ds : List Int} {ts : List Tm} {x2 x5 x6 : Option Value} (S : Sc env L nm66) (lkC : env.cells.lookup (Str.ofString "cells") = some cC) (ok : A.handled = none)
    (hC : h₀.IsCell cC (some (.ref Ce))) (hL : IsLst h₀ Ce cv) (hI : Ints cv ds) (hds : Cells ds) (hr : RowIs h₀ rv ts) (htl : ts.length = 7) (hts : (ts.map Tm.sz).sum = 7)
    (W : Wd w h₀ [(L, Loc nm66 [none, none, x2, none, some (.ref Rw), x5, x6, none, none, none, none, none, none]), (Rw, LstO rv)] h)
    (q : ∀ h₁ h' Rw rv t x2 x5 x6, Sub h₀ h₁ → t.sz = 13 → RowIs h₁ rv [t] → Wd w h₁ [(L, Loc nm66 [none, none, x2, none, some (.ref Rw), x5, x6, none, none, none, none, none, none]), (Rw, LstO rv)] h' → T prog w A (execs ((bodyOf (stA 66)).drop 4) env) Q h') :
    T prog w A (execs ((bodyOf (stA 66)).drop 3) env) Q h := by
  refine x_for <| e_call <| n_bi 9 S W rfl (by decide) <| cw_ty <| a_cons <| e_int fun _ => a_cons <| e_int fun _ => a_nil <| c_range2 W fun r h₂ hr₂ W => pi_range W hr₂ (small_up (by decide) (by decide) (by decide) (by decide)) (size_up (n := 6) 7 (by decide)) fun I h₃ W => ?_
  refine c_for (P := fun i v => ∃ t, v = .int (7 + (i : Nat) * 1) t) 2 S rfl ok (Itr.range I 7 1 6)
    (DbA h₀)
    (fun i h₀' vals rs (.mk _ x2 _ _ _ _ _ e ..) => ⟨x2, by rw [e]; rfl⟩) (fun i h₀' vals rs h _ _ => trivial) ?turn ?done
    ⟨Sub.refl _, x2, x5, x6, Rw, rv, ts, rfl, rfl, hr, by (first | exact Mine.w93 htl | omega), by (first | exact Mine.w94 hts | omega)⟩ W
  case done =>
    rintro h₁ vals rs h ⟨s₁, x2, x5, x6, Rw, rv, ts, rfl, rfl, hr, htl, hts⟩ W
    obtain ⟨t, rfl⟩ : ∃ t, ts = [t] := List.length_eq_one_iff.mp (by first | decide | (first | exact Mine.w95 htl | omega))
    exact q h₁ h Rw rv t x2 x5 x6 s₁ (by simpa using hts) hr W
  case turn =>
    rintro i h₁ vals rs v h hi ⟨tk, rfl⟩ ⟨s₁, x2, x5, x6, Rw, rv, ts, rfl, rfl, hr, htl, hts⟩ W
    rw [show (7 : Int) + (i : Nat) * 1 = ((7 + i : Nat) : Int) by (first | exact Mine.w96 | omega)] at W
    replace W : Wd w h₁ [(L, Loc nm66 [none, none, some (.int ((7 + i : Nat) : Int) tk), none, some (.ref Rw), x5, x6, none, none, none, none, none, none]), (I, RI 7 1 6 (i + 1)), (Rw, LstO rv)] h := W
    have hrl : rv.length = ts.length := hr.1
    have hC₁ : h₁.IsCell cC (some (.ref Ce)) := IsCell_sub hC s₁
    have hL₁ := hL.sub s₁
    refine x_assign <| e_bin <| e_call <| n_bi 10 S W rfl (by decide) <| cw_bi <| a_cons <| n_loc 4 S W rfl rfl <| a_nil <| c_len (W.lst 2 rfl) (by first | decide | (first | exact Mine.w97 htl hrl | omega)) fun _ => e_int fun _ => o_sub fun tp => s_loc 5 S W rfl rfl fun h₄ W => ?_
    rw [show (rv.length : Int) - 1 = ((6 - i : Nat) : Int) by (first | exact Mine.w98 hi htl hrl | omega)] at W
    replace W : Wd w h₁ [(L, Loc nm66 [none, none, some (.int ((7 + i : Nat) : Int) tk), none, some (.ref Rw), some (.int ((6 - i : Nat) : Int) tp), x6, none, none, none, none, none, none]), (I, RI 7 1 6 (i + 1)), (Rw, LstO rv)] h₄ := W
    obtain ⟨tc, hcv⟩ := hI.2 (7 + i) (ds[7 + i]'(by have := hds.1; (first | exact Mine.w99 hi this | omega))) (by simp)
    generalize ds[7 + i]'(by have := hds.1; (first | exact Mine.w99 hi this | omega)) = d at hcv
    have hcl : cv.length = 14 := by rw [hI.1]; exact hds.1
    refine x_assign <| e_call <| n_bi 11 S W rfl (by decide) <| cw_bi <| a_cons <| e_bin <| e_bin <| e_sub <| n_cell 3 S rfl lkC (IsCell_sub hC₁ W.keep) <| n_loc 2 S W rfl rfl <| i_list (hL₁.sub W.keep) (by first | decide | (first | exact Mine.w100 | omega)) (by rw [Int.toNat_natCast]; exact hcv) (by first | decide | (first | exact Mine.w101 hcl | omega)) <|
      e_bin <| e_int fun _ => n_loc 5 S W rfl rfl <| o_mul (.of_left (by exact Nat.le_of_ble_eq_true rfl)) fun _ => o_mod (by first | decide | (first | exact Mine.w102 hi | omega)) fun _ => n_loc 5 S W rfl rfl <| o_sub fun _ => a_cons <| e_int fun _ => a_nil <| c_max2 ok fun h₅ tq sx => ?_
    replace W := W.ext sx
    obtain ⟨pl, hpl, epl⟩ : ∃ pl : Nat, pl + 1 ≤ 6 - i ∧ (if (0 : Int) > d.fmod (2 * ((6 - i : Nat) : Int)) - ((6 - i : Nat) : Int) then 0 else d.fmod (2 * ((6 - i : Nat) : Int)) - ((6 - i : Nat) : Int)) = (pl : Int) := by
      have h1 : 0 ≤ d.fmod (2 * ((6 - i : Nat) : Int)) := Int.fmod_nonneg_of_pos _ (by first | decide | (first | exact Mine.w103 hi | omega))
      have h2 : d.fmod (2 * ((6 - i : Nat) : Int)) < 2 * ((6 - i : Nat) : Int) := Int.fmod_lt_of_pos _ (by first | decide | (first | exact Mine.w103 hi | omega))
      generalize d.fmod (2 * ((6 - i : Nat) : Int)) = e at h1 h2
      by_cases c : (0 : Int) > e - ((6 - i : Nat) : Int)
      · exact ⟨0, by (first | exact Mine.w104 h1 c | omega), by rw [if_pos c]; rfl⟩
      · exact ⟨(e - ((6 - i : Nat) : Int)).toNat, by omega, by rw [if_neg c]; omega⟩
    rw [epl]
    refine s_loc 6 S W rfl rfl fun h₆ W => ?_
    replace W : Wd w h₁ [(L, Loc nm66 [none, none, some (.int ((7 + i : Nat) : Int) tk), none, some (.ref Rw), some (.int ((6 - i : Nat) : Int) tp), some (.int (pl : Int) tq), none, none, none, none, none, none]), (I, RI 7 1 6 (i + 1)), (Rw, LstO rv)] h₆ := W
    obtain ⟨va, hva, ta⟩ := hr.2 pl (ts[pl]'(by first | decide | (first | exact Mine.w107 htl hpl | omega))) (by simp)
    obtain ⟨vb, hvb, tb⟩ := hr.2 (pl + 1) (ts[pl + 1]'(by first | decide | (first | exact Mine.w108 htl hpl | omega))) (by simp)
    have hta : ts[pl]? = some (ts[pl]'(by first | decide | (first | exact Mine.w107 htl hpl | omega))) := by simp
    have htb : ts[pl + 1]? = some (ts[pl + 1]'(by first | decide | (first | exact Mine.w108 htl hpl | omega))) := by simp
    generalize ts[pl]'(by first | decide | (first | exact Mine.w107 htl hpl | omega)) = a at ta hta
    generalize ts[pl + 1]'(by first | decide | (first | exact Mine.w108 htl hpl | omega)) = b at tb htb
    refine x_assign <| e_bin <| e_bin <| e_slice_list W <| n_loc 4 S W rfl rfl <| p_none <| p_some <| n_loc 6 S W rfl rfl ⟨Rw, rv, none, _, rfl, W.lst 2 rfl, by (first | exact Mine.w97 htl hrl | omega), .none, .int _ _, W, fun c1 h₇ _ W => ?_⟩
    rw [slicePick_upto rv.toArray pl (by simp; (first | exact Mine.w109 htl hrl hpl | omega))] at W
    refine e_list <| a_cons <| e_tuple <| a_cons <| e_sub <| n_loc 4 S W rfl rfl <| n_loc 6 S W rfl rfl <| i_list (W.lst 3 rfl) (by first | decide | (first | exact Mine.w110 | omega)) (by rw [Int.toNat_natCast]; exact hva) (by first | decide | (first | exact Mine.w97 htl hrl | omega)) <| a_cons <| e_sub <| n_loc 4 S W rfl rfl <| e_bin <| n_loc 6 S W rfl rfl <| e_int fun _ => o_add fun _ => i_list (W.lst 3 rfl) (by first | decide | (first | exact Mine.w111 | omega)) (by rw [show ((pl : Int) + 1).toNat = pl + 1 by omega]; exact hvb) (by first | decide | (first | exact Mine.w97 htl hrl | omega)) <| a_nil <| new_tuple W lz fun tp' h₈ _ W => a_nil <| new_list W lz fun c2 h₉ _ W => ?_
    refine o_lists W (W.lstO 3 rfl) (W.lstO 1 rfl) (by simp; (first | exact Mine.w113 htl hrl | omega)) fun c3 h₁₀ _ W => ?_
    refine e_slice_list W <| n_loc 4 S W rfl rfl <| p_some <| e_bin <| n_loc 6 S W rfl rfl <| e_int fun _ => o_add fun _ => p_none ⟨Rw, rv, _, none, rfl, W.lst 6 rfl, by (first | exact Mine.w97 htl hrl | omega), .int _ _, .none, W, fun c4 h₁₁ _ W => ?_⟩
    rw [show (pl : Int) + 2 = ((pl + 2 : Nat) : Int) by (first | exact Mine.w114 | omega), slicePick_from rv.toArray (pl + 2) (by simp; (first | exact Mine.w115 htl hrl hpl | omega))] at W
    refine o_lists W (W.lstO 2 rfl) (W.lstO 1 rfl) (by simp; (first | exact Mine.w116 htl hrl | omega)) fun c5 h₁₂ _ W => s_loc 4 S W rfl rfl fun h₁₃ W => x_nil ?_
    have hrow : (rv.toArray.toList.take pl).toArray.toList ++ [Value.ref tp'] ++ (rv.toArray.toList.drop (pl + 2)).toArray.toList = rv.take pl ++ [.ref tp'] ++ rv.drop (pl + 2) := by simp
    rw [hrow] at W
    have et := W.tpl 5 rfl
    have ot : okA tp' := W.lo (tp', _) (List.mem_of_getElem? (i := 5) rfl)
    have n1 : tp' ≠ L := (W.ne 0 5 rfl rfl).symm
    have n2 : tp' ≠ c5 := (W.ne 1 5 rfl rfl).symm
    have n3 : tp' ≠ I := W.ne 5 7 rfl rfl
    replace W : Wd w h₁ [(L, Loc nm66 [none, none, some (.int ((7 + i : Nat) : Int) tk), none, some (.ref c5), some (.int ((6 - i : Nat) : Int) tp), some (.int (pl : Int) tq), none, none, none, none, none, none]), (c5, LstO (rv.take pl ++ [.ref tp'] ++ rv.drop (pl + 2))),
      (c4, LstO (List.drop (pl + 2) rv.toArray.toList).toArray.toList), (c3, LstO ((List.take pl rv.toArray.toList).toArray.toList ++ [Value.ref tp'])), (c2, LstO [Value.ref tp']), (tp', TupO [va, vb]), (c1, LstO (List.take pl rv.toArray.toList).toArray.toList), (I, RI 7 1 6 (i + 1)), (Rw, LstO rv)] h₁₃ := W
    obtain ⟨h₂, s₂, _, gt, W⟩ := W.freeze (rs' := [(L, Loc nm66 [none, none, some (.int ((7 + i : Nat) : Int) tk), none, some (.ref c5), some (.int ((6 - i : Nat) : Int) tp), some (.int (pl : Int) tq), none, none, none, none, none, none]), (c5, LstO (rv.take pl ++ [.ref tp'] ++ rv.drop (pl + 2))), (I, RI 7 1 6 (i + 1))])
      (.cons_cons _ (.cons_cons _ (.cons _ (.cons _ (.cons _ (.cons _ (.cons _ (.cons_cons _ (.cons _ (.refl _))))))))))
    have ht2 : IsTpl h₂ tp' [va, vb] := by
      obtain ⟨o, e, p⟩ := et
      exact ⟨o, gt _ _ e ot.ne.1 ot.ne.2 (by simp; exact ⟨n1, n2, n3⟩), p⟩
    have hr₂ := hr.sub s₂
    have hT : TmAt h₂ (.ref tp') (.app a b) := ⟨tp', va, vb, rfl, ht2, ta.sub s₂, tb.sub s₂⟩
    obtain ⟨f1, f2⟩ := joinAt_facts hta htb
    exact ⟨h₂, _, [(c5, LstO (rv.take pl ++ [.ref tp'] ++ rv.drop (pl + 2)))], ⟨s₁.trans s₂, _, _, _, c5, _, joinAt ts pl a b, rfl, rfl, ((hr₂.take pl).append (RowIs.one hT)).append (hr₂.drop (pl + 2)), by (first | exact Mine.w117 htl f1 | omega), by (first | exact Mine.w118 hts f2 | omega)⟩, W.perm (.cons _ (.swap ..))⟩
end Mine
end

section
namespace Mine
open PySem PySem.W PyProof.Rows Builtin Builtin.ObjectAttr
variable {prog : Program} {w : World} {A : Around} {h h₀ : Heap} {env : Env} {R : Value → Heap → Prop} {Q : Flow → Heap → Prop} {pos : Pos} {rs : List Res} {f : Res}

theorem joinS_ptx (g : Nat → Bool) : ∀ l : List Nat, joinS (l.map fun c => sq (ptx [(g c, c)])) = sq (ptx (l.map fun c => (g c, c)))
  | [] => rfl
  | c :: l => by
    have ih := joinS_ptx g l
    unfold joinS sq at ih ⊢
    simp only [List.map_cons, List.flatMap_cons]
    have ih' : (l.map fun c => (⟨(ptx [(g c, c)]).toArray⟩ : Str)).flatMap (·.cps.toList) = ptx (l.map fun c => (g c, c)) := by
      injection ih with ih; simpa using ih
    rw [ih']
    congr 1
    simp [ptx]
theorem len_ptx1 (g : Nat → Bool) (c : Nat) : (sq (ptx [(g c, c)])).length ≤ 2 := by
  rw [sq_len]; unfold ptx; cases g c <;> simp
theorem sum_le {l : List Nat} {b : Nat} (h : ∀ x ∈ l, x ≤ b) : l.sum ≤ l.length * b := by
  induction l with
  | nil => simp
  | cons a l ih =>
    have := h a (.head _)
    have := ih fun x hx => h x (.tail _ hx)
    rw [List.sum_cons, List.length_cons, Nat.add_mul, Nat.one_mul]; (first | exact Mine.w7 (by assumption) this | omega)
/-- ''.join over the signs of a word -/
theorem e_joined {elt iter : Expr} {px p1 p2 p3 p4 : Pos} {scope : Scope} {L : Addr} {ns : List (Str × NameKind)} {t : Tm} {P : Obj → Prop} {n1 : Nat} {tk : Tok} (g : Nat → Bool) (S : Sc env L ns) (hh : A.handled = none) (hz : t.sz ≤ 13)
    (W : Wd w h₀ ((L, P) :: rs) h) (hit : ∀ {Q : Value → Heap → Prop}, Q (.str t.str tk) h → T prog w A (eval iter env) Q h)
    (hsc : scope.names = [(Str.ofString ".0", .local), (Str.ofString "sign", .local)]) (hkind : scope.kind = .function) (hclos : closureFor scope env = pure [])
    (helt : ∀ {C : Addr} {h : Heap} {h₁ : Heap} {c : Nat} {u : Tok} {rs : List Res} {Q : Value → Heap → Prop}, Sc (compEnvC scope [] C env) C scope.names → Wd w h₁ ((C, Loc scope.names [none, some (.str (sq [c]) u)]) :: rs) h → (∀ k, Q (.str (sq (ptx [(g c, c)])) k) h) → T prog w A (eval elt (compEnvC scope [] C env)) Q h)
    (q : ∀ h' k, Wd w h₀ ((L, P) :: rs) h' → R (.str (sq (ptx (t.chars.map fun c => (g c, c)))) k) h')
    (hs : ∀ x, foldedSetIterable iter env x = pure x := by intro _; rfl)
    (he : eval (.Call (.Attribute (.Constant (.str (Str.ofString "")) n1 p1) (Str.ofString "join") p2) [.ListComp elt [⟨.Name (Str.ofString "sign") px, iter, [], 0⟩] scope p3] [] p4) env = (do
      let ov ← eval (.Constant (.str (Str.ofString "")) n1 p1) env
      standAt p2.atName
      let (f, first) ← holding [ov] (getMethod ov (Str.ofString "join") (pure false))
      callWith p4 f first (backTo p4 (starEach [.ListComp elt [⟨.Name (Str.ofString "sign") px, iter, [], 0⟩] scope p3] env)) []) := by rfl) :
    T prog w A (eval (.Call (.Attribute (.Constant (.str (Str.ofString "")) n1 p1) (Str.ofString "join") p2) [.ListComp elt [⟨.Name (Str.ofString "sign") px, iter, [], 0⟩] scope p3] [] p4) env) R h := by
  have okn : okNames scope.names = true := by rw [hsc]; decide
  refine e_meth _ he <| e_str fun _ => gm_join <| cw_bi <| a_cons <| e_compJ 1 [] S hh hclos (hit <| pi_str W t.str_all fun I h₂ W => ⟨fun i' h₀' ys rs' => h₀' = h₀ ∧ rs' = rs ∧ Strs ys ((t.chars.take i').map fun c => sq (ptx [(g c, c)])), I, _, _, _, _, h₀, _, _, rfl, Itr.str I t.str tk, ?c0, ?c1, ?c2, ?c3, ?c4, ⟨rfl, rfl, by simpa using Strs.nil⟩, W⟩) (by rw [hsc]; rfl) hkind okn (by rw [hsc]; decide) hs
  case c0 => have := t.str_len; show t.str.length ≤ _; (first | exact Mine.w119 hz this | omega)
  case c1 =>
    rintro i' _ ys _ ⟨_, _, hs⟩
    rw [hs.1, List.length_map, List.length_take]; (first | exact Mine.w120 | omega)
  case c2 => exact fun _ _ _ _ _ _ _ => trivial
  case c3 =>
    rintro C2 Dl i' h₀' ys rs' v h hi' ⟨c, u, hc, rfl⟩ ⟨e0, e1, hs⟩ W2 SC
    subst e0 e1
    refine t_none ?_
    have hv : cvals scope 1 (.str ⟨#[c]⟩ u) = [none, some (.str (sq [c]) u)] := by unfold cvals; rw [hsc]; rfl
    rw [hv] at W2
    refine helt SC W2 fun k => ?_
    have hc' : t.chars[i']? = some c := by
      have : t.str.cps = t.chars.toArray := rfl
      rw [this] at hc; simpa using hc
    refine ⟨_, _, [none, some (.str (sq [c]) u)], ⟨rfl, rfl, ?_⟩, W2, by rw [hsc]; rfl, fun j hj => ?_⟩
    · rw [List.take_add_one, hc', List.map_append]; exact hs.snoc
    · rw [hsc]
      match j, hj with
      | 0, _ => rfl
      | 1, hj => exact absurd rfl hj
      | j + 2, _ => simp
  case c4 =>
    rintro Dl h₀' ys rs' h₃ ⟨e0, e1, hs⟩ W2
    subst e0 e1
    have hl : t.str.cps.size = t.chars.length := by show t.chars.toArray.size = _; simp
    rw [hl, List.take_length] at hs
    refine a_nil <| c_join (W2.lst 1 rfl) hs ?_ fun k' => ?_
    · rw [List.map_map]
      refine Nat.le_trans (sum_le (b := 2) fun x hx => ?_) ?_
      · obtain ⟨c, _, rfl⟩ := List.mem_map.mp hx; exact len_ptx1 g c
      · rw [List.length_map, t.chars_len]; (first | exact Mine.w121 hz | omega)
    · rw [joinS_ptx]
      exact q h₃ k' (W2.sub (.cons_cons _ (.cons _ (.refl _))))
end Mine
end

section
namespace Mine
open PySem PySem.W PyProof.Rows Builtin Builtin.ObjectAttr
variable {prog : Program} {w : World} {A : Around} {h h₀ : Heap} {env : Env} {R : Value → Heap → Prop} {Q : Flow → Heap → Prop} {pos : Pos} {rs : List Res} {f : Res}

theorem ends3 : Str.ofString "\n \t" = sq [10, 32, 9] ∧ Str.ofString "end" = sq endc ∧ Str.ofString "\"" = sq [34] ∧ Str.ofString "\\\\" = sq [92, 92] ∧ Str.ofString "%*~%+,-~" = sq [37, 42, 126, 37, 43, 44, 45, 126] := by decide
theorem log2_small {a : Int} (h0 : 0 ≤ a) (h1 : a ≤ 1000) : Builtin.divisionGoesByPylong a 2 = false := PyProof.noPylong_of_log2 (by decide)
/-- what the frame holds at the end -/
theorem dD {L cC Ce Rw : Addr} {cv : List Value} {ds : List Int} {v : Value} {x2 x5 x6 x7 : Option Value} {T0 : List Nat} {tk : Tok} (S : Sc env L nm66) (lkC : env.cells.lookup (Str.ofString "cells") = some cC)
    (hC : h₀.IsCell cC (some (.ref Ce))) (hL : IsLst h₀ Ce cv) (hI : Ints cv ds) (hds : Cells ds) (hz : T0.length ≤ 1000)
    (W : Wd w h₀ [(L, Loc nm66 [none, none, x2, none, some (.ref Rw), x5, x6, x7, some (.str (sq T0) tk), none, none, none, none]), (Rw, LstO [v])] h)
    (q : ∀ x pr h' k, (x = 10 ∨ x = 32 ∨ x = 9) → Sub h₀ h' → Tabs h' → h.get? pr = none → okA pr → h₀.get? pr = none → IsTpl h' pr [v, .str (sq (T0 ++ x :: endc)) k] → Q (.ret (.ref pr)) h') :
    T prog w A (execs ((bodyOf (stA 66)).drop 6) env) Q h := by
  have hcl : cv.length = 14 := by rw [hI.1]; exact hds.1
  obtain ⟨tc, hcv⟩ := hI.2 13 (ds[13]'(by have := hds.1; (first | exact Mine.w122 this | omega))) (by simp)
  have hd := hds.2 (ds[13]'(by have := hds.1; (first | exact Mine.w122 this | omega))) (List.getElem_mem _)
  generalize ds[13]'(by have := hds.1; omega) = d at hcv hd
  have h1 : 0 ≤ (d.fdiv 2).fmod 3 := Int.fmod_nonneg_of_pos _ (by first | decide | omega)
  have h2 : (d.fdiv 2).fmod 3 < 3 := Int.fmod_lt_of_pos _ (by first | decide | omega)
  obtain ⟨x, hx, hxe⟩ : ∃ x, (x = 10 ∨ x = 32 ∨ x = 9) ∧ (sq [10, 32, 9]).cps[((d.fdiv 2).fmod 3).toNat]? = some x := by
    generalize (d.fdiv 2).fmod 3 = e at h1 h2
    obtain rfl | rfl | rfl : e = 0 ∨ e = 1 ∨ e = 2 := by omega
    · exact ⟨10, .inl rfl, rfl⟩
    · exact ⟨32, .inr (.inl rfl), rfl⟩
    · exact ⟨9, .inr (.inr rfl), rfl⟩
  refine x_ret <| e_tuple <| a_cons <| e_sub <| n_loc 4 S W rfl rfl <| e_int fun _ => i_list (W.lst 1 rfl) (by decide) rfl (by simp) <| a_cons <| e_bin <| e_bin <| n_loc 8 S W rfl rfl <| e_sub <| e_str fun _ => e_bin <| e_bin <| e_sub <| n_cell 3 S rfl lkC (IsCell_sub hC W.keep) <| e_int fun _ => i_list (hL.sub W.keep) (by decide) hcv (by first | decide | (first | exact Mine.w101 hcl | omega)) <| e_int fun _ => o_fdiv (by decide) (log2_small hd.1 (by first | decide | (first | exact Mine.w124 hd | omega))) fun _ => e_int fun _ => o_mod (by decide) fun _ => ?_
  rw [ends3.1]
  refine i_str h1 hxe (by rw [sq_len]; decide) fun _ => o_strs (by rw [sq_len]; show T0.length + 1 ≤ _; (first | exact Mine.w125 hz | omega)) fun _ => e_str fun _ => ?_
  rw [ends3.2.1, show (⟨#[x]⟩ : Str) = sq [x] from rfl, sq_app]
  refine o_strs (by rw [sq_len, sq_len]; simp [endc]; (first | exact Mine.w126 hz | omega)) fun k => ?_
  rw [sq_app, List.append_assoc]
  refine a_nil <| new_tuple W lz fun pr h₂ fpr W => ?_
  exact q x pr h₂ k hx W.keep W.tb fpr (W.lo (pr, _) (List.mem_of_getElem? (i := 1) rfl)) (W.own (pr, _) (List.mem_of_getElem? (i := 1) rfl)).2 (W.tpl 1 rfl)
def elts : Expr → Expr
  | .ListComp e _ _ _ => e
  | _ => .Constant .none 0 default
theorem dC {L cC Ce Rw : Addr} {cv rv : List Value} {ds : List Int} {t : Tm} {x2 x5 x6 : Option Value} {m : Nat} (S : Sc env L nm66) (lkC : env.cells.lookup (Str.ofString "cells") = some cC) (ok : Ok A (m + 1)) (hm : 13 ≤ m)
    (hC : h₀.IsCell cC (some (.ref Ce))) (hL : IsLst h₀ Ce cv) (hI : Ints cv ds) (hds : Cells ds) (hr : RowIs h₀ rv [t]) (hz : t.sz = 13)
    (W : Wd w h₀ [(L, Loc nm66 [none, none, x2, none, some (.ref Rw), x5, x6, none, none, none, none, none, none]), (Rw, LstO rv)] h)
    (q : ∀ v x cs pr h' k, (x = 10 ∨ x = 32 ∨ x = 9) → isText t x cs → TmAt h₀ v t → Sub h₀ h' → Tabs h' → okA pr → h₀.get? pr = none → IsTpl h' pr [v, .str (sq cs) k] → Q (.ret (.ref pr)) h') :
    T prog w A (execs ((bodyOf (stA 66)).drop 4) env) Q h := by
  obtain ⟨v, hv, ht⟩ := hr.2 0 t rfl
  obtain rfl : rv = [v] := by
    have := hr.1
    match rv, this, hv with
    | [u], _, hv => simp at hv; rw [hv]
  have hcl : cv.length = 14 := by rw [hI.1]; exact hds.1
  obtain ⟨tc, hcv⟩ := hI.2 13 (ds[13]'(by have := hds.1; (first | exact Mine.w122 this | omega))) (by simp)
  generalize ds[13]'(by have := hds.1; (first | exact Mine.w122 this | omega)) = d at hcv
  refine x_assign <| e_call <| n_fn 12 S W rfl (by decide : (Str.ofString "_law_spelled", 129, 128, 65) ∈ fnTab) <| cw_fn <| a_cons <| e_sub <| n_loc 4 S W rfl rfl <| e_int fun _ => i_list (W.lst 1 rfl) (by decide) rfl (by simp) <| a_nil ⟨(W.G.fn ("_law_spelled", 129, 128, 65) (by decide)).isFn, ?_⟩
  refine spelled_spec t (m := m) (ht.sub W.keep) (by first | decide | (first | exact Mine.w127 hz | omega)) W.G W.tb ok (by first | decide | (first | exact Mine.w128 hm hz | omega)) fun h₂ kw kp tb₂ => ?_
  replace W := W.call kp tb₂
  refine s_loc 7 S W rfl rfl fun h₃ W => ?_
  replace W : Wd w h₀ [(L, Loc nm66 [none, none, x2, none, some (.ref Rw), x5, x6, some (.str t.str kw), none, none, none, none, none]), (Rw, LstO [v])] h₃ := W
  refine x_if <| b_cmp <| e_bin <| e_sub <| n_cell 3 S rfl lkC (IsCell_sub hC W.keep) <| e_int fun _ => i_list (hL.sub W.keep) (by decide) hcv (by first | decide | (first | exact Mine.w101 hcl | omega)) <| e_int fun _ => o_mod (by decide) fun _ => e_int fun _ => c_eq <| b_bool ?_
  have pl : ∀ g : Nat → Bool, (ptx (t.chars.map fun c => (g c, c))).length ≤ 26 := fun g => by
    have : ∀ l : List Nat, (ptx (l.map fun c => (g c, c))).length ≤ 2 * l.length := by
      intro l
      induction l with
      | nil => simp [ptx]
      | cons c l ih =>
        have e : ptx ((c :: l).map fun c => (g c, c)) = ptx [(g c, c)] ++ ptx (l.map fun c => (g c, c)) := by simp [ptx]
        have := len_ptx1 g c
        rw [sq_len] at this
        rw [e, List.length_append, List.length_cons]; (first | exact Mine.w129 ih this | omega)
    have h1 := this t.chars
    rw [t.chars_len, hz] at h1; (first | exact Mine.w130 h1 | omega)
  by_cases hd : (d.fmod 2 == 1) = true
  · rw [hd]
    refine x_assign <| e_joined (fun _ => true) S ok.1 (by first | decide | (first | exact Mine.w131 hz | omega)) W (fun q => n_loc 7 S W rfl rfl q) rfl rfl rfl (fun SC W q => ?_) fun h₄ k W => s_loc 8 S W rfl rfl fun h₅ W => x_nil_seq ?_
    · refine e_bin <| e_str fun _ => n_loc 1 SC W rfl rfl <| o_strs (by rw [sB, sq_len, sq_len]; simp) fun k => ?_
      rw [sB, sq_app]; exact q k
    · refine dD S lkC hC hL hI hds (by have := pl fun _ => true; (first | exact Mine.w132 this | omega)) W fun x pr h' k hx s tb _ op f0 hp => q v x _ pr h' k hx (.inr rfl) ht s tb op f0 hp
  · rw [Bool.not_eq_true] at hd
    rw [hd]
    refine x_assign <| e_bin <| e_bin <| e_str fun _ => e_joined (fun c => c == 92) S ok.1 (by first | decide | (first | exact Mine.w131 hz | omega)) W (fun q => n_loc 7 S W rfl rfl q) rfl rfl rfl (fun {C h h₁ c u rs Q} SC W q => ?_) fun h₄ k W => o_strs ?_ fun _ => e_str fun _ => o_strs ?_ fun _ => ?_
    · refine e_ifexp <| b_cmp <| n_loc 1 SC W rfl rfl <| e_str fun _ => c_eqs <| b_bool ?_
      rw [sB]
      by_cases hc : c = 92
      · subst hc
        rw [show decide (sq [92] = sq [92]) = true from decide_eq_true rfl]
        refine e_str fun k => ?_
        rw [ends3.2.2.2.1]; exact q k
      · rw [show decide (sq [c] = sq [92]) = false from decide_eq_false (by rw [s1]; exact hc)]
        refine n_loc 1 SC W rfl rfl ?_
        have e : ptx [((c == 92), c)] = [c] := by rw [show (c == 92) = false from beq_eq_false_iff_ne.mpr hc]; rfl
        rw [e] at q; exact q u
    · rw [ends3.2.2.1, sq_len, sq_len]; have := pl fun c => c == 92; simp only [List.length_singleton]; (first | exact Mine.w133 this | omega)
    · rw [ends3.2.2.1, sq_app, sq_len, sq_len]; have := pl fun c => c == 92; simp only [List.length_append, List.length_singleton]; (first | exact Mine.w134 this | omega)
    · rw [ends3.2.2.1, sq_app, sq_app]
      refine s_loc 8 S W rfl rfl fun h₅ W => x_nil_seq ?_
      refine dD S lkC hC hL hI hds (by have := pl fun c => c == 92; simp; (first | exact Mine.w135 this | omega)) W fun x pr h' k hx s tb _ op f0 hp => q v x _ pr h' k hx (.inl ?_) ht s tb op f0 hp
      simp
end Mine
end

section
namespace Mine
open PySem PySem.W PyProof.Rows Builtin Builtin.ObjectAttr
variable {prog : Program} {w : World} {A : Around} {h h₀ : Heap} {env : Env} {R : Value → Heap → Prop} {Q : Flow → Heap → Prop} {pos : Pos} {rs : List Res} {f : Res}

theorem fo66 : fnOkC (stA 66) 1 = true := by decide +kernel
def baseL : List Int := [2, 0, 3, 4, 6, 1, 5, 8, 7, 7, 0, 0, 0, 1]
theorem x_base {E : List Expr} {l : List (Int × Nat × Pos)} {k : Nat} {tp sp pn : Pos} {rest : List Stmt} {L c3 c2 c1 : Addr} {v : Value} {vals : List (Option Value)} (hE : E = l.map icon) (hl : l.map (·.1) = baseL) (S : Sc env L nm66) (lk : env.cells.lookup (Str.ofString "base") = some c2)
    (W : Wd w h₀ [(L, Loc nm66 vals), (c3, Cel none), (c2, Cel none), (c1, Cel (some v))] h)
    (q : ∀ Bs bv h', Ints bv baseL → Wd w h₀ [(L, Loc nm66 vals), (Bs, TupO bv), (c3, Cel none), (c2, Cel (some (.ref Bs))), (c1, Cel (some v))] h' → T prog w A (execs rest env) Q h') :
    T prog w A (execs (.Assign [.Name (Str.ofString "base") pn] (.Tuple E k tp) sp :: rest) env) Q h := by
  refine x_assign <| e_tuple ?_
  subst hE
  refine a_icons l fun bv hb => ?_
  rw [hl] at hb
  refine new_tuple W (by rw [hb.1]; decide) fun Bs h₂ _ W => s_cell 1 3 S W rfl lk rfl fun h₃ W => ?_
  exact q Bs bv h₃ hb W
theorem base_bd : ∀ b ∈ baseL, 0 ≤ b ∧ b ≤ 10 := by decide
/-- base and cells -/
theorem dA {B : List Stmt} (hB : bodyOf (stA 66) = B) {L sa : Addr} {sv : List Value} {ns : List Int} (S : Sc env L nm66) (hc : env.cells = [(Str.ofString "cells", L + 1 + 1 + 1), (Str.ofString "base", L + 1 + 1), (Str.ofString "script", L + 1)]) (ok : A.handled = none)
    (hl : IsLst h₀ sa sv) (hI : Ints sv ns) (hz : sv.length ≤ 100)
    (W : Wd w h₀ [(L, Loc nm66 [none, none, none, none, none, none, none, none, none, none, none, none, none]), (L + 1 + 1 + 1, Cel none), (L + 1 + 1, Cel none), (L + 1, Cel (some (.ref sa)))] h)
    (q : ∀ h₁ h' Ce cv ds, Sub h₀ h₁ → h₁.IsCell (L + 1 + 1 + 1) (some (.ref Ce)) → IsLst h₁ Ce cv → Ints cv ds → Cells ds → Wd w h₁ [(L, Loc nm66 [none, none, none, none, none, none, none, none, none, none, none, none, none])] h' → T prog w A (execs ((bodyOf (stA 66)).drop 2) env) Q h') :
    T prog w A (execs B env) Q h := by
  have lkb : env.cells.lookup (Str.ofString "base") = some (L + 1 + 1) := by rw [hc]; rfl
  have lkc : env.cells.lookup (Str.ofString "cells") = some (L + 1 + 1 + 1) := by rw [hc]; rfl
  obtain ⟨E, l, k, tp, sp, pn, rest, hb, hE, hl', hr⟩ : ∃ E l k tp sp pn rest, bodyOf (stA 66) = .Assign [.Name (Str.ofString "base") pn] (.Tuple E k tp) sp :: rest ∧ E = List.map icon l ∧ l.map (·.1) = baseL ∧ rest = (bodyOf (stA 66)).drop 1 :=
    ⟨_, [(2, _, _), (0, _, _), (3, _, _), (4, _, _), (6, _, _), (1, _, _), (5, _, _), (8, _, _), (7, _, _), (7, _, _), (0, _, _), (0, _, _), (0, _, _), (1, _, _)], _, _, _, _, _, rfl, rfl, rfl, rfl⟩
  rw [← hB, hb]
  refine x_base hE hl' S lkb W fun Bs bv h₂ hbv W => ?_
  subst hr
  clear hE hl' hb
  refine x_assign (hs := sw_cell S (iy := 3) rfl) <| e_compJ 1 [(Str.ofString "script", L + 1), (Str.ofString "base", L + 1 + 1)] S ok (by rw [closureFor_cells, hc]; rfl) ?_
  refine e_call <| n_bi 9 S W rfl (by decide) <| cw_ty <| a_cons <| e_int fun _ => a_nil <| c_range1 W fun r h₃ hr₃ W => pi_range W hr₃ (small_up (by decide) (by decide) (by decide) (by decide)) (size_up (n := 14) 0 (by decide)) fun I h₄ W => ?_
  refine ⟨fun i h₀' ys rs' => h₀' = h₀ ∧ rs' = [(Bs, TupO bv), (L + 1 + 1 + 1, Cel none), (L + 1 + 1, Cel (some (.ref Bs))), (L + 1, Cel (some (.ref sa)))] ∧ ∃ ds, Ints ys ds ∧ ds.length = i ∧ ∀ c ∈ ds, 0 ≤ c ∧ c ≤ 100, I, _, _, _, _, h₀, _, _, rfl, Itr.range I 0 1 14, by decide, ?c1, fun _ _ _ _ _ _ _ => trivial, ?c3, ?c4, ⟨rfl, rfl, [], Ints.nil, rfl, fun c h => nomatch h⟩, W⟩
  case c1 =>
    rintro i _ ys _ ⟨_, _, ds, hd, hl, _⟩
    rw [hd.1]; (first | exact Mine.w136 hl | omega)
  case c3 =>
    rintro C D i h₀' ys rs' v h hi ⟨tk, rfl⟩ ⟨e0, e1, ds, hd, hdl, hdb⟩ W2 SC
    rw [e0, e1] at W2
    rw [show (0 : Int) + (i : Nat) * 1 = ((i : Nat) : Int) by (first | exact Mine.w137 | omega)] at W2
    refine t_none ?_
    have hbl : bv.length = 14 := by rw [hbv.1]; rfl
    obtain ⟨b, hbe⟩ : ∃ b, baseL[i]? = some b := ⟨_, List.getElem?_eq_getElem (show i < baseL.length from hi)⟩
    obtain ⟨tb, hbi⟩ := hbv.2 i b hbe
    have hbb := base_bd b (List.mem_of_getElem? hbe)
    have fin : ∀ {k : Tok} {c : Int}, 0 ≤ c → c ≤ 90 → ∃ ds, Ints (ys ++ [.int (b + c) k]) ds ∧ ds.length = i + 1 ∧ ∀ c ∈ ds, 0 ≤ c ∧ c ≤ 100 :=
      fun {k c} h0 h1 => ⟨ds ++ [b + c], hd.append Ints.one, by simp [hdl], fun x hx => by
        rcases List.mem_append.mp hx with hx | hx
        · exact hdb x hx
        · cases List.mem_singleton.mp hx; exact ⟨by (first | exact Mine.w138 hbb h0 | omega), by (first | exact Mine.w139 hbb h1 | omega)⟩⟩
    refine e_bin <| e_sub <| n_cell 3 SC rfl (show List.lookup _ [(Str.ofString "script", L + 1), (Str.ofString "base", L + 1 + 1)] = some (L + 1 + 1) from rfl) (W2.cel 6 rfl) <| n_loc 1 SC W2 rfl rfl <| i_tup (W2.tpl 4 rfl) (by first | decide | (first | exact Mine.w110 | omega)) (by rw [Int.toNat_natCast]; exact hbi) (by first | decide | (first | exact Mine.w101 hbl | omega)) <| e_ifexp <| b_cmp <| n_loc 1 SC W2 rfl rfl <| e_call <| n_bi 2 SC W2 rfl (by decide) <| cw_bi <| a_cons <| n_cell 4 SC rfl (show List.lookup _ [(Str.ofString "script", L + 1), (Str.ofString "base", L + 1 + 1)] = some (L + 1) from rfl) (W2.cel 7 rfl) <| a_nil <| c_len (hl.sub W2.keep) (by first | decide | (first | exact Mine.w140 hz | omega)) fun _ => c_lt <| b_bool ?_
    by_cases hlt : i < sv.length
    · rw [show decide (((i : Nat) : Int) < (sv.length : Int)) = true from decide_eq_true (by first | decide | (first | exact Mine.w141 hlt | omega))]
      obtain ⟨tn, hn⟩ := hI.2 i (ns[i]'(by rw [← hI.1]; exact hlt)) (by simp)
      refine e_bin <| e_sub <| n_cell 4 SC rfl (show List.lookup _ [(Str.ofString "script", L + 1), (Str.ofString "base", L + 1 + 1)] = some (L + 1) from rfl) (W2.cel 7 rfl) <| n_loc 1 SC W2 rfl rfl <| i_list (hl.sub W2.keep) (by first | decide | (first | exact Mine.w110 | omega)) (by rw [Int.toNat_natCast]; exact hn) (by first | decide | (first | exact Mine.w140 hz | omega)) <| e_int fun _ => o_mod (by decide) fun _ => o_add fun _ => ?_
      have b1 := Int.fmod_nonneg_of_pos (ns[i]'(by rw [← hI.1]; exact hlt)) (show (0 : Int) < 54 by decide)
      have b2 := Int.fmod_lt_of_pos (ns[i]'(by rw [← hI.1]; exact hlt)) (show (0 : Int) < 54 by decide)
      exact ⟨h₀, _, _, ⟨rfl, rfl, fin b1 (by first | decide | omega)⟩, W2, by simp [cvals], fun j hj => by unfold cvals; rw [List.getElem?_set_ne (Ne.symm hj)]⟩
    · rw [show decide (((i : Nat) : Int) < (sv.length : Int)) = false from decide_eq_false (by first | decide | (first | exact Mine.w142 hlt | omega))]
      refine e_int fun _ => o_add fun _ => ?_
      exact ⟨h₀, _, _, ⟨rfl, rfl, fin (by decide) (by decide)⟩, W2, by simp [cvals], fun j hj => by unfold cvals; rw [List.getElem?_set_ne (Ne.symm hj)]⟩
  case c4 =>
    rintro Ce h₀' cv rs' h₅ ⟨e0, e1, ds, hd, hdl, hdb⟩ W2
    rw [e0, e1] at W2
    refine s_cell 3 3 S W2 rfl lkc rfl fun h₆ W => ?_
    replace W : Wd w h₀ [(L, Loc nm66 [none, none, none, none, none, none, none, none, none, none, none, none, none]), (Ce, LstO cv), (Bs, TupO bv), (L + 1 + 1 + 1, Cel (some (.ref Ce))), (L + 1 + 1, Cel (some (.ref Bs))), (L + 1, Cel (some (.ref sa)))] h₆ := W
    have oC : okA Ce := W.lo (Ce, _) (List.mem_of_getElem? (i := 1) rfl)
    have o3 : okA (L + 1 + 1 + 1) := W.lo (L + 1 + 1 + 1, _) (List.mem_of_getElem? (i := 3) rfl)
    have nC : Ce ≠ L := (W.ne 0 1 rfl rfl).symm
    have n3 : L + 1 + 1 + 1 ≠ L := (W.ne 0 3 rfl rfl).symm
    have g1 := W.get (i := 1) rfl
    have g3 := W.get (i := 3) rfl
    obtain ⟨h₁, s₁, _, gt, W⟩ := W.freeze (rs' := [(L, Loc nm66 [none, none, none, none, none, none, none, none, none, none, none, none, none])]) (.cons_cons _ (.cons _ (.cons _ (.cons _ (.cons _ (.cons _ (.refl _)))))))
    refine q h₁ h₆ Ce cv ds s₁ ?_ ?_ hd ⟨hdl, hdb⟩ W
    · obtain ⟨o, e, p⟩ := g3; exact ⟨o, gt _ _ e o3.ne.1 o3.ne.2 (by simpa using n3), p⟩
    · obtain ⟨o, e, p⟩ := g1; exact ⟨o, gt _ _ e oC.ne.1 oC.ne.2 (by simpa using nC), p.w⟩
theorem sign_at : ∀ j : Nat, j < 8 → ∃ s : Lf, (sq [37, 42, 126, 37, 43, 44, 45, 126]).cps[j]? = some s.cp := by
  intro j hj
  obtain rfl | rfl | rfl | rfl | rfl | rfl | rfl | rfl : j = 0 ∨ j = 1 ∨ j = 2 ∨ j = 3 ∨ j = 4 ∨ j = 5 ∨ j = 6 ∨ j = 7 := by omega
  · exact ⟨.pct, rfl⟩
  · exact ⟨.star, rfl⟩
  · exact ⟨.tilde, rfl⟩
  · exact ⟨.pct, rfl⟩
  · exact ⟨.plus, rfl⟩
  · exact ⟨.comma, rfl⟩
  · exact ⟨.minus, rfl⟩
  · exact ⟨.tilde, rfl⟩
theorem sz1 : ∀ {ts : List Tm}, (∀ t ∈ ts, t.sz = 1) → (ts.map Tm.sz).sum = ts.length
  | [], _ => rfl
  | t :: ts, h => by
    have := sz1 fun x hx => h x (.tail _ hx)
    rw [List.map_cons, List.sum_cons, h t (.head _), this, List.length_cons]; (first | exact Mine.w144 | omega)
theorem drawn_spec {sa : Addr} {sv : List Value} {ns : List Int} {m : Nat} (hl : IsLst h sa sv) (hI : Ints sv ns) (hz : sv.length ≤ 100) (g : Gd w h) (tb : Tabs h) (ok : Ok A (m + 2)) (hm : 13 ≤ m)
    (q : ∀ v t x cs pr h' k, t.sz = 13 → (x = 10 ∨ x = 32 ∨ x = 9) → isText t x cs → Keeps h h' → Tabs h' → okA pr → h.get? pr = none → IsTpl h' pr [v, .str (sq cs) k] → TmAt h' v t → R (.ref pr) h') : T prog w A (call (.ref 134) [.ref sa]) R h := by
  refine call_fnC (n := m + 1) (g.fn ("_law_drawn", 134, 133, 66) (by decide)) g tb ok fo66 rfl (fun _ _ _ => rfl) [] (fun _ h => nomatch h) List.nodup_nil (fun _ h => nomatch h) (fun _ h => nomatch h) ?_
  intro L env h₀ h₁ S hcode hc hqual hb W ok'
  replace hb : Hb h h₀ := fun b o e n1 n2 => hb b o e n1 n2 List.not_mem_nil
  replace hc : env.cells = [(Str.ofString "cells", L + 1 + 1 + 1), (Str.ofString "base", L + 1 + 1), (Str.ofString "script", L + 1)] := hc
  replace S : Sc env L nm66 := S
  have lkc : env.cells.lookup (Str.ofString "cells") = some (L + 1 + 1 + 1) := by rw [hc]; rfl
  generalize hB : bodyOf (stA 66) = B
  refine dA hB S hc ok'.1 (hb.lst tb hl) hI hz W fun h₂ h₃ Ce cv ds s₂ hC hL hI hds W => ?_
  have hcl : cv.length = 14 := by rw [hI.1]; exact hds.1
  refine x_comp 4 1 [(Str.ofString "cells", L + 1 + 1 + 1)] S ok'.1 rfl (by rw [closureFor_cells, hc]; rfl) (fun i h₀' ys rs' => h₀' = h₂ ∧ rs' = [] ∧ ∃ ts, RowIs h₂ ys ts ∧ ts.length = i ∧ ∀ t ∈ ts, t.sz = 1) ?_
  refine e_call <| n_bi 9 S W rfl (by decide) <| cw_ty <| a_cons <| e_int fun _ => a_nil <| c_range1 W fun r h₄ hr₄ W => pi_range W hr₄ (small_up (by decide) (by decide) (by decide) (by decide)) (size_up (n := 7) 0 (by decide)) fun I h₅ W => ⟨I, _, _, _, _, h₂, _, none, [], rfl, Itr.range I 0 1 7, by decide, rfl, ?_, fun _ _ _ _ _ _ _ => trivial, ?_, ?_, ⟨rfl, rfl, [], RowIs.nil, rfl, fun c h => nomatch h⟩, W⟩
  · rintro i _ ys _ ⟨_, _, ts, hr, htl, _⟩
    rw [hr.1]; (first | exact Mine.w136 htl | omega)
  · rintro C D i h₀' ys rs' v h hi ⟨tk, rfl⟩ ⟨e0, e1, ts, hr, htl, hts⟩ W2 SC
    rw [e0, e1] at W2
    rw [show (0 : Int) + (i : Nat) * 1 = ((i : Nat) : Int) by (first | exact Mine.w137 | omega)] at W2
    refine t_none ?_
    obtain ⟨tc, hcv⟩ := hI.2 i (ds[i]'(by rw [hds.1]; (first | exact Mine.w145 hi | omega))) (by simp)
    generalize ds[i]'(by rw [hds.1]; (first | exact Mine.w145 hi | omega)) = d at hcv
    have h1 : 0 ≤ d.fmod 8 := Int.fmod_nonneg_of_pos _ (by first | decide | omega)
    have h2 : d.fmod 8 < 8 := Int.fmod_lt_of_pos _ (by first | decide | omega)
    obtain ⟨s, hs⟩ := sign_at (d.fmod 8).toNat (by first | decide | omega)
    refine e_sub <| e_str fun _ => e_bin <| e_sub <| n_cell 2 SC rfl (show List.lookup _ [(Str.ofString "cells", L + 1 + 1 + 1)] = some (L + 1 + 1 + 1) from rfl) (IsCell_sub hC W2.keep) <| n_loc 1 SC W2 rfl rfl <| i_list (hL.sub W2.keep) (by first | decide | (first | exact Mine.w110 | omega)) (by rw [Int.toNat_natCast]; exact hcv) (by first | decide | (first | exact Mine.w101 hcl | omega)) <| e_int fun _ => o_mod (by decide) fun _ => ?_
    rw [ends3.2.2.2.2]
    refine i_str h1 hs (by rw [sq_len]; decide) fun k => ⟨h₂, [], _, ⟨rfl, rfl, ts ++ [.leaf s], hr.append (RowIs.one (t := .leaf s) ⟨k, rfl⟩), by simp [htl], fun t ht => ?_⟩, W2, by simp [cvals], fun j hj => by unfold cvals; rw [List.getElem?_set_ne (Ne.symm hj)]⟩
    rcases List.mem_append.mp ht with ht | ht
    · exact hts t ht
    · cases List.mem_singleton.mp ht; rfl
  · rintro Rw h₀' rv rs' h₆ ⟨e0, e1, ts, hr, htl, hts⟩ W2
    rw [e0, e1] at W2
    refine dB S lkc ok'.1 hC hL hI hds hr htl (by rw [sz1 hts]; exact htl) W2 fun h₇ h₈ Rw rv t x2 x5 x6 s₇ htz hr W => ?_
    refine dC (m := m) S lkc ok' hm (IsCell_sub hC s₇) (hL.sub s₇) hI hds hr htz W fun v x cs pr h' k hx hT ht s tb' op fp hp => ?_
    refine q v t x cs pr h' k htz hx hT (fun b o e n1 n2 => s b o (s₇ b o (s₂ b o (hb b o e n1 n2)))) tb' op ?_ hp (ht.sub s)
    exact fresh_lt fun o z => by
      have := s₇ _ _ (s₂ _ _ (hb _ _ z op.ne.1 op.ne.2))
      rw [fp] at this; cases this
end Mine
end

section
namespace Mine
open PySem PySem.W PyProof.Rows Builtin Builtin.ObjectAttr
variable {prog : Program} {w : World} {A : Around} {h h₀ : Heap} {env : Env} {R : Value → Heap → Prop} {Q : Flow → Heap → Prop} {pos : Pos} {rs : List Res} {f : Res}

-- tests joined by or
theorem b_or {x : Expr} {rest : List Expr} {whole : Sem Value} {R : Bool → Heap → Prop} (q : T prog w A (isTrue x env (eval x env)) (fun c h₁ => cond c (R true h₁) (T prog w A (isTrue (.BoolOp .Or rest pos) env whole) R h₁)) h) :
    T prog w A (isTrue (.BoolOp .Or (x :: rest) pos) env whole) R h := fun g d k os => by
  refine isTrue_or (wpAny_mono (q g d k os) (fun c s₁ hr => ?_) fun _ _ e => e)
  obtain ⟨h₁, k₁, rfl, z⟩ := hr
  cases c with
  | true => exact ⟨_, _, rfl, z⟩
  | false => exact (z : T prog w A _ _ _) g d k₁ os
theorem b_or_nil {whole : Sem Value} {R : Bool → Heap → Prop} (q : R false h) : T prog w A (isTrue (.BoolOp .Or [] pos) env whole) R h := fun _ _ _ _ => isTrue_or_nil ⟨_, _, rfl, q⟩
-- lists compared
theorem all_true {n : Nat} {e : Nat → Bool} (h : ∀ j < n, e j = true) : (List.range n).all e = true := List.all_eq_true.mpr fun j hj => h j (List.mem_range.mp hj)
theorem c_eqnil {a b : Addr} {vs : List Value} (hl : IsLst h a vs) (hb : IsLst h b []) (hu : A.units < cLine) (q : R (.bool vs.isEmpty) h) : T prog w A (compareOp .Eq (.ref a) (.ref b)) R h := by
  intro g d k os
  cases vs with
  | nil => exact SeqAt.eq_listAt (e := fun _ => true) hl.list hb.list rfl hu (fun j h1 _ => absurd h1 (by simp)) ⟨_, _, rfl, q⟩
  | cons v vs => exact SeqAt.eq_list_lengthsAt hl.list hb.list (by simp) hu ⟨_, _, rfl, q⟩
def SameV (u v : Value) : Prop := (∃ s t t', u = .str s t ∧ v = .str s t') ∨ (∃ i t t', u = .int i t ∧ v = .int i t')
theorem SameV.eq {u v : Value} (x : SameV u v) {A : Around} {s : Shared} : SeqAt.EqAt A s u v true := by
  rcases x with ⟨x, t, t', rfl, rfl⟩ | ⟨i, t, t', rfl, rfl⟩
  · exact fun prog w E Q hq => wpAny_eqBool_str (by rw [decide_eq_true rfl]; exact hq)
  · have := SeqAt.EqAt.int_int (A := A) (s := s) i t i t'
    rwa [beq_self_eq_true] at this
theorem c_eqL {a b : Addr} {vs us : List Value} (hl : IsLst h a vs) (hb : IsLst h b us) (hn : vs.length = us.length) (hs : ∀ j (h1 : j < vs.length) (h2 : j < us.length), SameV vs[j] us[j]) (hu : A.units + 1 < cLine) (q : R (.bool true) h) : T prog w A (compareOp .Eq (.ref a) (.ref b)) R h := by
  intro g d k os
  refine SeqAt.eq_listAt (e := fun _ => true) hl.list hb.list (by simpa using hn) (Nat.lt_of_succ_lt hu) (fun j h1 h2 => ?_) ⟨_, _, rfl, ?_⟩
  · exact (hs j (by simpa using h1) (by simpa using h2)).eq
  · rw [all_true fun _ _ => rfl]; exact q
theorem c_neL {a b : Addr} {vs us : List Value} (hl : IsLst h a vs) (hb : IsLst h b us) (hn : vs.length = us.length) (hs : ∀ j (h1 : j < vs.length) (h2 : j < us.length), SameV vs[j] us[j]) (hu : A.units + 1 < cLine) (q : R (.bool false) h) : T prog w A (compareOp .NotEq (.ref a) (.ref b)) R h := by
  intro g d k os
  refine SeqAt.RcNeAt.lists (e := fun _ => true) hl.list hb.list (by simpa using hn) (Nat.lt_of_succ_lt hu) (fun j h1 h2 => ?_) prog w _ _ ⟨_, _, rfl, ?_⟩
  · exact (hs j (by simpa using h1) (by simpa using h2)).eq
  · rw [all_true fun _ _ => rfl]; exact q
theorem Ok.ul {n : Nat} (ok : Ok A n) : A.units + 1 < cLine := by have := ok.2.2; show A.units + 1 < 9900; (first | exact Mine.w221 this | omega)
-- count
theorem gm_count {x : Str} {t : Tok} {pl : Sem Bool} {Q : Value × List Value → Heap → Prop} (q : Q (.builtin "str.count", [.str x t]) h) : T prog w A (getMethod (.str x t) (Str.ofString "count") pl) Q h :=
  fun _ _ _ _ => GM.count ⟨_, _, rfl, q⟩
theorem c_count {x y : Str} {t u : Tok} (q : ∀ k, R (.int (Txt.count x y) k) h) : T prog w A (call (.builtin "str.count") [.str x t, .str y u]) R h := fun _ _ _ _ => SC.count ⟨_, _, rfl, q _⟩
theorem cnt_none : ∀ {l : List Nat}, (∀ c ∈ l, c ≠ 10) → Spec.countIn (.str ⟨#[10]⟩) (l.map fun n => PyData.str ⟨#[n]⟩) = 0
  | [], _ => rfl
  | c :: l, h => by
    have hc := h c (.head _)
    have : Spec.same (PyData.str ⟨#[c]⟩) (PyData.str ⟨#[10]⟩) = false := by
      show ((⟨#[c]⟩ : Str) == ⟨#[10]⟩) = false
      rw [beq_eq_false_iff_ne]
      intro e; injection e with e; simp at e; exact hc e
    simp only [List.map_cons, Spec.countIn, this]
    rw [cnt_none fun x hx => h x (.tail _ hx)]; rfl
theorem cnt_app (a b : List Nat) : Spec.countIn (.str ⟨#[10]⟩) ((a ++ b).map fun n => PyData.str ⟨#[n]⟩) = Spec.countIn (.str ⟨#[10]⟩) (a.map fun n => PyData.str ⟨#[n]⟩) + Spec.countIn (.str ⟨#[10]⟩) (b.map fun n => PyData.str ⟨#[n]⟩) := by
  induction a with
  | nil => simp [Spec.countIn]
  | cons c a ih => simp only [List.cons_append, List.map_cons, Spec.countIn, ih]; (first | exact Mine.w222 | omega)
theorem cnt_one (x : Nat) : Spec.countIn (.str ⟨#[10]⟩) ([x].map fun n => PyData.str ⟨#[n]⟩) = nl [x] := by
  simp only [List.map_cons, List.map_nil, Spec.countIn, nl]
  by_cases hx : x = 10
  · subst hx; rfl
  · have : Spec.same (PyData.str ⟨#[x]⟩) (PyData.str ⟨#[10]⟩) = false := by
      show ((⟨#[x]⟩ : Str) == ⟨#[10]⟩) = false
      rw [beq_eq_false_iff_ne]
      intro e; injection e with e; simp at e; exact hx e
    rw [this, if_neg (show ¬ [x] = [10] by simpa using hx)]; rfl
theorem chars_ok (t : Tm) : ∀ c ∈ t.chars, c < 128 ∧ c ≠ 10 ∧ c ≠ 34 ∧ isWs c = false := by
  induction t with
  | leaf s => intro c hc; simp only [Tm.chars, List.mem_singleton] at hc; subst hc; cases s <;> decide
  | app f x h1 h2 =>
    intro c hc
    simp only [Tm.chars, List.mem_cons, List.mem_append] at hc
    rcases hc with rfl | hc | hc
    · decide
    · exact h1 c hc
    · exact h2 c hc
theorem ptx_no10 (g : Nat → Bool) {l : List Nat} (h : ∀ c ∈ l, c ≠ 10) : ∀ c ∈ ptx (l.map fun c => (g c, c)), c ≠ 10 := by
  intro c hc
  simp only [ptx, List.flatMap_map, List.mem_flatMap] at hc
  obtain ⟨a, ha, hc⟩ := hc
  have := h a ha
  split at hc
  · simp at hc; rcases hc with rfl | rfl
    · decide
    · exact this
  · simp at hc; subst hc; exact this
theorem text_count {t : Tm} {x : Nat} {cs : List Nat} (hT : isText t x cs) : Txt.count (sq cs) (sq [10]) = nl [x] := by
  show Txt.count (sq cs) ⟨#[10]⟩ = _
  rw [count_is]
  have e : (sq cs).cps.toList = cs := by simp [sq]
  rw [e]
  have ho := fun c hc => (chars_ok t c hc).2.1
  have he : Spec.countIn (.str ⟨#[10]⟩) (endc.map fun n => PyData.str ⟨#[n]⟩) = 0 := cnt_none (by decide)
  rcases hT with rfl | rfl
  · rw [show ∀ l : List Nat, 34 :: (l ++ 34 :: x :: endc) = [34] ++ (l ++ ([34] ++ ([x] ++ endc))) from fun l => by simp]
    have h34 : nl [34] = 0 := rfl
    rw [cnt_app, cnt_app, cnt_app, cnt_app, cnt_one, cnt_one, he, cnt_none (ptx_no10 _ ho), h34]; (first | exact Mine.w223 | omega)
  · rw [show ∀ l : List Nat, l ++ x :: endc = l ++ ([x] ++ endc) from fun l => by simp]
    rw [cnt_app, cnt_app, cnt_one, he, cnt_none (ptx_no10 _ ho)]; (first | exact Mine.w224 | omega)
theorem pch_map (g : Nat → Bool) (l : List Nat) : pch (l.map fun c => (g c, c)) = l := by simp [pch, Function.comp_def]
/-- how the text is read -/
theorem text_read {t : Tm} {x : Nat} {cs : List Nat} (hx : x = 10 ∨ x = 32 ∨ x = 9) (hT : isText t x cs) : ∃ tl nx lead, Bd cs t.chars tl nx ∧ tl = lead ++ endc ∧ (∀ y ∈ lead, y < 128 ∧ isWs y = true) ∧ nx + nls lead = nl [x] := by
  have hxw : x < 128 ∧ isWs x = true := by rcases hx with rfl | rfl | rfl <;> decide
  rcases hT with rfl | rfl
  · refine ⟨x :: endc, 0, [x], ?_, rfl, fun y hy => by cases List.mem_singleton.mp hy; exact hxw, by simp [nls]⟩
    have := Bd.quoted (t.chars.map fun c => (c == 92, c)) (x :: endc) fun q hq => by
      obtain ⟨c, hc, rfl⟩ := List.mem_map.mp hq
      obtain ⟨a1, a2, a3, a4⟩ := chars_ok t c hc
      exact ⟨a1, a2, fun e => ⟨a3, by simpa using e⟩⟩
    rwa [pch_map] at this
  · refine ⟨endc, nl [x], [], ?_, rfl, fun y hy => (nomatch hy), by simp [nls]⟩
    cases hch : t.chars with
    | nil => have := t.chars_len; have := t.sz_pos; rw [hch] at *; simp at *; omega
    | cons c l =>
      have hok : ∀ q ∈ (c :: l).map fun c => (true, c), okW q := fun q hq => by
        obtain ⟨y, hy, rfl⟩ := List.mem_map.mp hq
        obtain ⟨a1, a2, _, _⟩ := chars_ok t y (by rw [hch]; exact hy)
        exact ⟨a1, a2, fun e => by cases e⟩
      have := Bd.word true c (l.map fun c => (true, c)) x endc (hok _ (.head _)) (fun e => by cases e) (fun q hq => hok q (.tail _ hq)) hxw.1 hxw.2
      have e := pch_map (fun _ => true) (c :: l)
      rw [List.map_cons] at e ⊢
      rwa [e] at this
theorem read_end : Bd endc endc [] 0 :=
  Bd.last false 101 [(false, 110), (false, 100)] ⟨by decide, by decide, fun _ => by decide⟩ (fun _ => by decide) fun q hq => by
    simp only [List.mem_cons, List.not_mem_nil, or_false] at hq
    rcases hq with rfl | rfl <;> exact ⟨by decide, by decide, fun _ => by decide⟩
end Mine
end

section
namespace Mine
open PySem PySem.W PyProof.Rows Builtin Builtin.ObjectAttr
variable {prog : Program} {w : World} {A : Around} {h h₀ : Heap} {env : Env} {R : Value → Heap → Prop} {Q : Flow → Heap → Prop} {pos : Pos} {rs : List Res} {f : Res}

def nm71 : List (Str × NameKind) := (scopeOf (stA 71)).names
theorem tup_tab {ps : Array Value} {vs : List Value} (x : TupO vs (tabObj ps)) : False := by obtain ⟨n, e⟩ := x; cases e
theorem lst_tab {ps : Array Value} {vs : List Value} (x : LstW vs (tabObj ps)) : False := by obtain ⟨c, _⟩ := x; cases c
theorem Wd.n7279 {o : Obj} {a : Addr} (W : Wd w h₀ rs h) (e : h.get? a = some o) (hn : ∀ ps, o ≠ tabObj ps) : a ≠ 72 ∧ a ≠ 79 := by
  constructor
  · rintro rfl
    obtain ⟨ps, z⟩ := W.tb.a.tab
    rw [z] at e; cases e; exact hn _ rfl
  · rintro rfl
    obtain ⟨ps, z⟩ := W.tb.b.tab
    rw [z] at e; cases e; exact hn _ rfl
theorem gt_tpl {h₁ : Heap} (W : Wd w h₁ rs h) (gt : ∀ b o, h.get? b = some o → b ≠ 72 → b ≠ 79 → b ∉ rs.map (·.1) → h₁.get? b = some o) (hk : ∀ r ∈ rs, ∀ o vs, r.2 o → ¬ TupO vs o) {a : Addr} {vs : List Value} (ht : IsTpl h a vs) : IsTpl h₁ a vs := by
  obtain ⟨o, e, p⟩ := ht
  obtain ⟨n1, n2⟩ := W.n7279 e fun ps z => tup_tab (z ▸ p)
  refine ⟨o, gt a o e n1 n2 fun hm => ?_, p⟩
  obtain ⟨r, hr, z⟩ := List.mem_map.mp hm
  obtain ⟨o', e', p'⟩ := (W.own r hr).1
  rw [z, e] at e'; cases e'
  exact hk r hr _ _ p' p
theorem nc_of {o : Obj} {d : Data} (e : o.data = d) (hd : d ≠ .cell none) : ¬ Cel none o := fun z => hd (e ▸ z)
theorem nt_loc {ns : List (Str × NameKind)} {vals : List (Option Value)} : ∀ o vs, Loc ns vals o → ¬ TupO vs o := fun o vs ⟨_, _, d, _⟩ ⟨n, e⟩ => by rw [e] at d; cases d
theorem nt_cel {v : Option Value} : ∀ o vs, Cel v o → ¬ TupO vs o := fun o vs d ⟨n, e⟩ => by rw [e] at d; cases d
theorem nl_loc {ns : List (Str × NameKind)} {vals : List (Option Value)} {o : Obj} {vs : List Value} (x : Loc ns vals o) : ¬ LstW vs o := fun ⟨_, n, e⟩ => by obtain ⟨_, _, d, _⟩ := x; rw [e] at d; cases d
theorem nl_cel {v : Option Value} {o : Obj} {vs : List Value} (x : Cel v o) : ¬ LstW vs o := fun ⟨_, n, e⟩ => by rw [x] at e; cases e
theorem Wd.call117 {h' : Heap} {ps : Array Value} (W : Wd w h₀ rs h) (h117 : h₀.get? 117 = some (tabObj ps)) (k : KeepsX [117] h h') (tb : Tabs h') : Wd w (hide117 h₀) rs h' := by
  have hr : ∀ r ∈ rs, r.1 ≠ 117 := fun r hr e => by have := (W.own r hr).2; rw [e, h117] at this; cases this
  refine ⟨fun b o e => ?_, fun r hr' => ⟨let ⟨o, e, p⟩ := (W.own r hr').1; ⟨o, k _ _ e (W.lo r hr').ne.1 (W.lo r hr').ne.2 (by simpa using hr r hr'), p⟩, ?_⟩, W.nd, W.sf, W.lo, tb, W.gd.off fun b o e _ _ _ n => hide117_get e n, ?_⟩
  · have e0 := hide117_sub _ b o e
    refine k b o (W.keep b o e0) ?_ ?_ ?_
    · rintro rfl; rw [W.no.1] at e0; cases e0
    · rintro rfl; rw [W.no.2] at e0; cases e0
    · intro hm; cases List.mem_singleton.mp hm
      rw [show (hide117 h₀).get? 117 = none from hideAll_none _ (.head _)] at e; cases e
  · cases e : (hide117 h₀).get? r.1 with
    | none => rfl
    | some o => have := hide117_sub _ _ _ e; rw [(W.own r hr').2] at this; cases this
  · constructor
    · cases e : (hide117 h₀).get? 72 with
      | none => rfl
      | some o => have := hide117_sub _ _ _ e; rw [W.no.1] at this; cases this
    · cases e : (hide117 h₀).get? 79 with
      | none => rfl
      | some o => have := hide117_sub _ _ _ e; rw [W.no.2] at this; cases this
theorem Wd.join1 {a : Addr} {P : Obj → Prop} (W : Wd w h₀ (f :: rs) h) (hn : h₀.get? a = none) (hr : ∀ r ∈ f :: rs, r.1 ≠ a) (oa : okA a) (e : ∃ o, h.get? a = some o ∧ P o) (s : ∀ o, P o → safe o) : Wd w h₀ (f :: (a, P) :: rs) h := by
  have W₁ : Wd w h₀ ((a, P) :: f :: rs) h := by
    refine ⟨W.keep, fun r hr' => ?_, ?_, fun r hr' => ?_, fun r hr' => ?_, W.tb, W.gd, W.no⟩
    · rcases List.mem_cons.mp hr' with rfl | hr'
      · exact ⟨e, hn⟩
      · exact W.own r hr'
    · rw [List.map_cons, List.nodup_cons]
      refine ⟨fun hm => ?_, W.nd⟩
      obtain ⟨r, hr', z⟩ := List.mem_map.mp hm
      exact hr r hr' z
    · rcases List.mem_cons.mp hr' with rfl | hr'
      · exact s
      · exact W.sf r hr'
    · rcases List.mem_cons.mp hr' with rfl | hr'
      · exact oa
      · exact W.lo r hr'
  exact W₁.perm (.swap ..)
section
variable {hB h₁ : Heap} {Lx Dx st ro cT cA At Pb : Addr} {cs : List Nat}
/-- what never turns of a lexer, laid into another base -/
theorem RB.move {L L1 : Addr} {vals : List (Option Value)} {PP PD PA : Obj → Prop} (B : RB hB Lx Dx st ro cT cA At Pb cs) (s : Sub hB h) (W : Wd w h₁ [(L, Loc nm71 vals), (Pb, PP), (Dx, PD), (At, PA), (L1, Cel none)] h)
    (gt : ∀ b o, h.get? b = some o → b ≠ 72 → b ≠ 79 → b ∉ [L, Pb, Dx, At, L1] → h₁.get? b = some o) : RB h₁ Lx Dx st ro cT cA At Pb cs := by
  have up : ∀ b o, hB.get? b = some o → ¬ Loc nm71 vals o → ¬ Cel none o → h₁.get? b = some o := by
    intro b o e n1 n2
    refine gt b o (s b o e) ?_ ?_ fun hm => ?_
    · rintro rfl; rw [B.n72] at e; cases e
    · rintro rfl; rw [B.n79] at e; cases e
    · simp only [List.mem_cons, List.not_mem_nil, or_false] at hm
      rcases hm with rfl | rfl | rfl | rfl | rfl
      · obtain ⟨o', e', p⟩ := W.get (i := 0) rfl
        rw [s _ _ e] at e'; cases e'; exact n1 p
      · rw [B.nP] at e; cases e
      · rw [B.nD] at e; cases e
      · rw [B.nA] at e; cases e
      · obtain ⟨o', e', p⟩ := W.get (i := 4) rfl
        rw [s _ _ e] at e'; cases e'; exact n2 p
  refine ⟨up _ _ B.lx (fun ⟨_, _, d, _⟩ => by cases d) (fun d => by cases d), ?_, ?_, ?_, ?_, W.no.1, W.no.2, (W.own _ (List.mem_of_getElem? (i := 1) rfl)).2, (W.own _ (List.mem_of_getElem? (i := 2) rfl)).2, (W.own _ (List.mem_of_getElem? (i := 3) rfl)).2, B.oP, B.oD, B.oA, B.oL, B.PD, B.PA, B.DA, B.len⟩
  · obtain ⟨o, fd, d, e, c, dd, di, o', es, ep, e', d', k', f'⟩ := B.fo
    refine ⟨o, fd, d, up _ _ e (fun ⟨_, _, z, _⟩ => by rw [dd] at z; cases z) (nc_of dd (by nofun)), c, dd, di, o', es, ep, up _ _ e' (fun ⟨es2, ep2, z, _, f2⟩ => ?_) (nc_of d' (by nofun)), d', k', f'⟩
    rw [d'] at z; cases z
    have h1 : nsFind es (Str.ofString "read") = some (.ref ro) := (f' _).trans (if_pos rfl)
    have h2 := f2 (Str.ofString "read")
    rw [h1, lkp_not (by decide)] at h2; cases h2
  · obtain ⟨c, o, doc, pm, ct, e, d, c', o', vs, t, ec, e1, e2, e3⟩ := B.fn
    cases ec
    exact ⟨c, o, doc, pm, ct, up _ _ e (fun ⟨_, _, z, _⟩ => by rw [d] at z; cases z) (nc_of d (by nofun)), d, c, o', vs, t, rfl, up _ _ e1 (fun ⟨_, _, z, _⟩ => by rw [e2] at z; cases z) (nc_of e2 (by nofun)), e2, e3⟩
  · obtain ⟨t, o, e, d⟩ := B.tx
    exact ⟨t, o, up _ _ e (fun ⟨_, _, z, _⟩ => by rw [d] at z; cases z) (fun z => by rw [show o.data = .cell none from z] at d; cases d), d⟩
  · obtain ⟨o, e, d⟩ := B.at_
    exact ⟨o, up _ _ e (fun ⟨_, _, z, _⟩ => by rw [d] at z; cases z) (fun z => by rw [show o.data = .cell none from z] at d; cases d), d⟩
theorem RB.up {L L1 : Addr} {PL PP PD PA PC : Obj → Prop} (B : RB hB Lx Dx st ro cT cA At Pb cs) (s : Sub hB h₁) (W : Wd w h₁ [(L, PL), (Pb, PP), (Dx, PD), (At, PA), (L1, PC)] h) : RB h₁ Lx Dx st ro cT cA At Pb cs :=
  ⟨s _ _ B.lx, B.fo.sub s, (let ⟨c, F⟩ := B.fn; ⟨c, F.sub s⟩), (let ⟨t, c⟩ := B.tx; ⟨t, IsCell_sub c s⟩), IsCell_sub B.at_ s, W.no.1, W.no.2, (W.own _ (List.mem_of_getElem? (i := 1) rfl)).2, (W.own _ (List.mem_of_getElem? (i := 2) rfl)).2, (W.own _ (List.mem_of_getElem? (i := 3) rfl)).2, B.oP, B.oD, B.oA, B.oL, B.PD, B.PA, B.DA, B.len⟩
end
end Mine
end

section
namespace Mine
open PySem PySem.W PyProof.Rows Builtin Builtin.ObjectAttr
variable {prog : Program} {w : World} {A : Around} {h h₀ : Heap} {env : Env} {R : Value → Heap → Prop} {Q : Flow → Heap → Prop} {pos : Pos} {rs : List Res} {f : Res}

theorem cons_all {α : Type} {P : α → Prop} {a : α} {l : List α} (h : P a) (t : ∀ x ∈ l, P x) : ∀ x ∈ a :: l, P x := fun x hx => by
  rcases List.mem_cons.mp hx with rfl | hx
  · exact h
  · exact t x hx
theorem nil_all {α : Type} {P : α → Prop} : ∀ x ∈ ([] : List α), P x := fun x hx => nomatch hx
theorem Wd.tab_not {b : Addr} {ps : Array Value} (W : Wd w h₀ rs h) (e : h.get? b = some (tabObj ps)) : b ∉ rs.map (·.1) := fun hm => by
  obtain ⟨r, hr, rfl⟩ := List.mem_map.mp hm
  obtain ⟨o, e', p⟩ := (W.own r hr).1
  rw [e] at e'; cases e'
  exact (W.sf r hr _ p ps rfl).1 rfl
/-- the first two lines -/
theorem law1 {L sa : Addr} {sv : List Value} {ns : List Int} (S : Sc env L nm71) (ok : Ok A 200) (hl : IsLst h₀ sa sv) (hI : Ints sv ns) (hz : sv.length ≤ 100) (h117 : h₀.get? 117 = some (tabObj #[]))
    (W : Wd w h₀ [(L, Loc nm71 [some (.ref sa), none, none, none, none, none, none, none, none, none, none, none, none, none, none, none]), (L + 1, Cel none)] h)
    (q : ∀ v t x cs kx Lx Dx st ro cT cA At Pb tp hC h', Sub (hide117 h₀) hC → (∃ ps, hC.get? 117 = some (tabObj ps)) → t.sz = 13 → (x = 10 ∨ x = 32 ∨ x = 9) → isText t x cs → TmAt hC v t → cs.length ≤ 900 → RB hC Lx Dx st ro cT cA At Pb cs →
      Wd w hC [(L, Loc nm71 [some (.ref sa), some v, some (.str (sq cs) kx), some (.ref Lx), none, none, none, none, none, none, none, none, none, none, none, none]), (Pb, LstO []), (Dx, LxD 1 st Pb), (At, LstW [.int (0 : Nat) tp]), (L + 1, Cel none)] h' → T prog w A (execs ((bodyOf (stA 71)).drop 2) env) Q h') :
    T prog w A (execs (bodyOf (stA 71)) env) Q h := by
  refine x_unpack ok.1 <| e_call <| n_fn 10 S W rfl (by decide : (Str.ofString "_law_drawn", 134, 133, 66) ∈ fnTab) <| cw_fn <| a_cons <| n_loc 0 S W rfl rfl <| a_nil ⟨(W.G.fn ("_law_drawn", 134, 133, 66) (by decide)).isFn, ?_⟩
  refine drawn_spec (m := 100) (hl.sub W.keep) hI hz W.G W.tb (ok.le (by first | decide | omega)) (by first | decide | omega) fun v t x cs pr h₂ kx htz hx hT kp tb₂ op fp hp ht => ?_
  replace W := W.call kp tb₂
  obtain ⟨hA, sA, _, gt, W⟩ := W.freeze (.refl _)
  have htA : TmAt hA v t := ht.mono fun a vs z => gt_tpl W gt (cons_all nt_loc (cons_all nt_cel nil_all)) z
  have h117A := sA _ _ h117
  refine ⟨pr, _, rfl, hp, rfl, fun h₃ s₃ => ?_⟩
  replace W := W.ext s₃
  refine ao_cons <| as_name <| s_loc 1 S W rfl rfl fun h₄ W => ao_cons <| as_name <| s_loc 2 S W rfl rfl fun h₅ W => ao_nil (ts := []) ?_
  have hcl : cs.length ≤ 900 := by
    have hpl : ∀ g : Nat → Bool, (ptx (t.chars.map fun c => (g c, c))).length ≤ 2 * t.chars.length := by
      intro g
      induction t.chars with
      | nil => simp [ptx]
      | cons c l ih =>
        have e : ptx ((c :: l).map fun c => (g c, c)) = ptx [(g c, c)] ++ ptx (l.map fun c => (g c, c)) := by simp [ptx]
        have := len_ptx1 g c
        rw [sq_len] at this
        rw [e, List.length_append, List.length_cons]; (first | exact Mine.w129 ih this | omega)
    rcases hT with rfl | rfl
    · have := hpl fun c => c == 92
      rw [t.chars_len] at this
      simp [endc]; (first | exact Mine.w225 htz this | omega)
    · have := hpl fun _ => true
      rw [t.chars_len] at this
      simp [endc]; (first | exact Mine.w226 htz this | omega)
  refine x_assign <| e_call <| n_fn 11 S W rfl (by decide : (Str.ofString "_law_lexer", 122, 121, 64) ∈ fnTab) <| cw_fn <| a_cons <| n_loc 2 S W rfl rfl <| a_nil ⟨(W.G.fn ("_law_lexer", 122, 121, 64) (by decide)).isFn, ?_⟩
  refine lexer_spec (m := 100) hcl (W.keep _ _ h117A) W.G W.tb (ok.le (by first | decide | omega)) fun Lx Dx st ro cT cA At Pb hB h₆ tp B sB₁ kx' tb₆ fP fD fA hD hA' hP t117 => ?_
  have rP := W.new0 fP
  have rD := W.new0 fD
  have rA := W.new0 fA
  have hide : ∀ {a : Addr}, hA.get? a = none → (hide117 hA).get? a = none := fun e => fresh_lt fun o z => by rw [hide117_sub _ _ _ z] at e; cases e
  have W₁ := W.call117 h117A kx' tb₆
  have W₂ := W₁.join1 (hide rA.1) rA.2.1 B.oA hA' (fun _ => LstW.safe)
  have W₃ := W₂.join1 (hide rD.1) (cons_all (rD.2.1 _ (.head _)) (cons_all B.DA.symm fun r hr => rD.2.1 r (.tail _ hr))) B.oD hD (fun _ => LxD.safe)
  have W₄ := W₃.join1 (hide rP.1) (cons_all (rP.2.1 _ (.head _)) (cons_all B.PD.symm (cons_all B.PA.symm fun r hr => rP.2.1 r (.tail _ hr)))) B.oP hP (fun _ => LstO.safe)
  obtain ⟨hC, sC, _, gt, W₅⟩ := W₄.freeze (.refl _)
  have B' := B.move sB₁ W₅ gt
  have htC : TmAt hC v t := (htA.mono fun a vs ⟨o, e, p⟩ => ⟨o, hide117_get e (by rintro rfl; rw [h117A] at e; cases e; exact tup_tab p), p⟩ : TmAt (hide117 hA) v t).sub sC
  refine s_loc 3 S W₅ rfl rfl fun h₇ W => ?_
  have u1 : Sub (hide117 h₀) hC := fun b o e => sC _ _ (by
    have n : b ≠ 117 := by rintro rfl; rw [show (hide117 h₀).get? 117 = none from hideAll_none _ (.head _)] at e; cases e
    exact hide117_get (sA _ _ (hide117_sub _ b o e)) n)
  have u2 : ∃ ps, hC.get? 117 = some (tabObj ps) := let ⟨ps, e⟩ := t117; ⟨ps, gt _ _ e (by decide) (by decide) (W₄.tab_not e)⟩
  exact q v t x cs kx Lx Dx st ro cT cA At Pb tp hC h₇ u1 u2 htz hx hT htC hcl B' W
/-- the roads -/
def AtP (cs tl : List Nat) (o : Obj) : Prop := ∃ (p : Nat) (tp : Tok), p ≤ cs.length ∧ cs.drop p = tl ∧ LstW [.int (p : Nat) tp] o
theorem AtP.safe {cs tl : List Nat} {o : Obj} (x : AtP cs tl o) : safe o := let ⟨_, _, _, _, y⟩ := x; y.safe
theorem law2 {L sa : Addr} {v : Value} {t : Tm} {cs tl : List Nat} {nx : Int} {kx tp : Tok} {Lx Dx st ro cT cA At Pb : Addr} (S : Sc env L nm71) (hc : env.cells = [(Str.ofString "nexts", L + 1)]) (ok : Ok A 200) (htz : t.sz = 13) (hbd : Bd cs t.chars tl nx) (hcl : cs.length ≤ 900) (B : RB h₀ Lx Dx st ro cT cA At Pb cs)
    (W : Wd w h₀ [(L, Loc nm71 [some (.ref sa), some v, some (.str (sq cs) kx), some (.ref Lx), none, none, none, none, none, none, none, none, none, none, none, none]), (Pb, LstO []), (Dx, LxD 1 st Pb), (At, LstW [.int (0 : Nat) tp]), (L + 1, Cel none)] h)
    (q : ∀ ks kv ep kvF fw Nx Fw h₁ h', Sub h₀ h₁ → Tm.Inv t fw fw.length → NxAt prog w h₁ Nx (fw.map (·.1)) kv ep → h₁.DictOf (strKind prog w) Fw kvF → FewIs kvF fw → okA Fw →
      Wd w h₁ [(L, Loc nm71 [some (.ref sa), some v, some (.str (sq cs) kx), some (.ref Lx), some (.str t.str ks), none, some (.ref Fw), none, none, none, none, none, none, none, none, none]), (Pb, LstO []), (Dx, LxD (1 + nls [] + nx) st Pb), (At, AtP cs tl), (L + 1, Cel (some (.ref Nx)))] h' → T prog w A (execs ((bodyOf (stA 71)).drop 3) env) Q h') :
    T prog w A (execs ((bodyOf (stA 71)).drop 2) env) Q h := by
  have lkn : env.cells.lookup (Str.ofString "nexts") = some (L + 1) := by rw [hc]; rfl
  have dLx : ∀ {a : Addr}, h₀.get? a = none → Lx ≠ a := fun e z => by rw [← z, B.lx] at e; cases e
  refine x_unpack ok.1 <| e_call <| n_fn 12 S W rfl (by decide : (Str.ofString "_law_roads", 144, 143, 68) ∈ fnTab) <| cw_fn <| a_cons <| n_loc 3 S W rfl rfl <| a_nil ⟨(W.G.fn ("_law_roads", 144, 143, 68) (by decide)).isFn, ?_⟩
  refine roads_spec (t0 := t) (atP := LstW [.int (0 : Nat) tp]) (atP' := AtP cs tl) (ln' := 1 + nls [] + nx) (m := 150) (fun h => Sub h₀ h) (fun h s => s _ _ B.lx) (fun h h' k s => B.keep s (l := [Pb, Dx, At]) (fun _ z => z) k) B.oL
    (by simp only [List.mem_cons, List.not_mem_nil, or_false, not_or]; exact ⟨dLx B.nP, dLx B.nD, dLx B.nA⟩) (by simp only [List.nodup_cons, List.mem_cons, List.not_mem_nil, or_false, not_or, List.nodup_nil, and_true, not_false_eq_true]; exact ⟨⟨B.PD, B.PA⟩, B.DA⟩) (cons_all B.oP (cons_all B.oD (cons_all B.oA nil_all))) (fun _ => LstW.safe) (fun _ => AtP.safe) ?hget (by first | decide | (first | exact Mine.w131 htz | omega)) W.keep (W.lstO 1 rfl) (W.get (i := 2) rfl) (W.get (i := 3) rfl) W.G W.tb (ok.le (by first | decide | omega)) (by first | decide | omega) ?fin
  case hget =>
    intro A' m' h R' hBh g tb ok' hm hP hD hA q
    obtain ⟨k, rfl⟩ : ∃ k, m' = k + 3 := ⟨m' - 3, by (first | exact Mine.w227 hm | omega)⟩
    exact gt_spec (m := k) (lead := []) B hcl hBh hP hD hA nil_all hbd rfl (Nat.zero_le _) g tb ok' fun h' k p' tp' kx tb hp' hd hD hA => q h' k kx tb hD (let ⟨o, e, x⟩ := hA; ⟨o, e, p', tp', hp', hd, x⟩)
  case fin =>
    intro pr h₈ kv ep kvF fw k1 Nx Fw kx' tb₈ I fpr opr hpr hNx hFw hFew oFw fNx fFw hNs hP8 hD8 hA8
    obtain ⟨hN, sN, nP, nD, nA, hNs⟩ := hNs
    have rN := W.new0 fNx
    have rF := W.new0 fFw
    have W₁ : Wd w h₀ [(L, Loc nm71 [some (.ref sa), some v, some (.str (sq cs) kx), some (.ref Lx), none, none, none, none, none, none, none, none, none, none, none, none]), (Pb, LstO []), (Dx, LxD (1 + nls [] + nx) st Pb), (At, AtP cs tl), (L + 1, Cel none)] h₈ := by
      have a1 := W.ne 0 1 rfl rfl
      have a2 := W.ne 0 2 rfl rfl
      have a3 := W.ne 0 3 rfl rfl
      have b1 := W.ne 4 1 rfl rfl
      have b2 := W.ne 4 2 rfl rfl
      have b3 := W.ne 4 3 rfl rfl
      refine W.callX kx' tb₈ rfl (by intro a ha; simp only [List.mem_cons, List.not_mem_nil, or_false] at ha; rcases ha with rfl | rfl | rfl <;> simp) (cons_all ?_ (cons_all ?_ (cons_all ?_ (cons_all ?_ (cons_all ?_ nil_all)))))
      · exact W.same kx' (.head _) (by simp only [List.mem_cons, List.not_mem_nil, or_false, not_or]; exact ⟨a1, a2, a3⟩)
      · exact ⟨hP8, fun _ => LstO.safe⟩
      · exact ⟨hD8, fun _ => LxD.safe⟩
      · exact ⟨hA8, fun _ => AtP.safe⟩
      · exact W.same kx' (.tail _ (.tail _ (.tail _ (.tail _ (.head _))))) (by simp only [List.mem_cons, List.not_mem_nil, or_false, not_or]; exact ⟨b1, b2, b3⟩)
    obtain ⟨h₉, s₉, _, gt, W⟩ := W₁.freeze (.refl _)
    have nin : ∀ {a : Addr}, (∀ r ∈ [(L, Loc nm71 [some (.ref sa), some v, some (.str (sq cs) kx), some (.ref Lx), none, none, none, none, none, none, none, none, none, none, none, none]), (Pb, LstO []), (Dx, LxD 1 st Pb), (At, LstW [.int (0 : Nat) tp]), (L + 1, Cel none)], r.1 ≠ a) → a ∉ [L, Pb, Dx, At, L + 1] := fun z => by
      have z1 := z _ (.head _)
      have z2 := z _ (.tail _ (.head _))
      have z3 := z _ (.tail _ (.tail _ (.head _)))
      have z4 := z _ (.tail _ (.tail _ (.tail _ (.head _))))
      have z5 := z _ (.tail _ (.tail _ (.tail _ (.tail _ (.head _)))))
      simp only [List.mem_cons, List.not_mem_nil, or_false, not_or]
      exact ⟨z1.symm, z2.symm, z3.symm, z4.symm, z5.symm⟩
    have hNx9 : NxAt prog w h₉ Nx (fw.map (·.1)) kv ep := by
      refine ⟨hNx.dict.at' fun o e => gt _ _ e rN.2.2.1 rN.2.2.2 (nin rN.2.1), hNs.1, fun i t' e => ?_, hNx.ok⟩
      obtain ⟨l, lv, e1, ⟨o, e2, p⟩, e3⟩ := hNs.2 i t' e
      refine ⟨l, lv, e1, ⟨o, ?_, p⟩, e3⟩
      obtain ⟨n1, n2⟩ := W.n7279 (sN _ _ e2) fun ps z => lst_tab (z ▸ p)
      refine gt _ _ (sN _ _ e2) n1 n2 fun hm => ?_
      simp only [List.map_cons, List.map_nil, List.mem_cons, List.not_mem_nil, or_false] at hm
      rcases hm with rfl | rfl | rfl | rfl | rfl
      · obtain ⟨o', e', p'⟩ := W.get (i := 0) rfl
        rw [sN _ _ e2] at e'; cases e'; exact nl_loc p' p
      · rw [nP] at e2; cases e2
      · rw [nD] at e2; cases e2
      · rw [nA] at e2; cases e2
      · obtain ⟨o', e', p'⟩ := W.get (i := 4) rfl
        rw [sN _ _ e2] at e'; cases e'; exact nl_cel p' p
    have hFw9 : h₉.DictOf (strKind prog w) Fw kvF := hFw.at fun o e => gt _ _ e rF.2.2.1 rF.2.2.2 (nin rF.2.1)
    refine ⟨pr, _, rfl, hpr, rfl, fun h₁₀ s₁₀ => ?_⟩
    replace W := W.ext s₁₀
    refine ao_cons <| as_name <| s_loc 4 S W rfl rfl fun h₁₁ W => ao_cons <| as_name <| s_cell 5 4 S W rfl lkn rfl fun h₁₂ W => ao_cons <| as_name <| s_loc 6 S W rfl rfl fun h₁₃ W => ao_nil (ts := []) ?_
    exact q k1 kv ep kvF fw Nx Fw h₉ h₁₃ s₉ I hNx9 hFw9 hFew oFw W
end Mine
end

section
namespace Mine
open PySem PySem.W PyProof.Rows Builtin Builtin.ObjectAttr
variable {prog : Program} {w : World} {A : Around} {h h₀ : Heap} {env : Env} {R : Value → Heap → Prop} {Q : Flow → Heap → Prop} {pos : Pos} {rs : List Res} {f : Res}

section
variable {L sa Lx Dx st ro cT cA At Pb Nx Fw : Addr} {v : Value} {t : Tm} {cs tl : List Nat} {nx : Int} {kx ks k1 k2 k3 : Tok} {kv kvF : List (Str × Value)} {ep : Nat} {fw : List (Tm × Nat)}
theorem Strs.one_inv {ys : List Value} {s : Str} (x : Strs ys [s]) : ∃ k, ys = [.str s k] := by
  obtain ⟨k, vs', e, y⟩ := x.cons_inv
  have := y.1
  cases vs' with
  | nil => exact ⟨k, e⟩
  | cons a b => simp at this
/-- the words without a next -/
theorem law4 (S : Sc env L nm71) (hc : env.cells = [(Str.ofString "nexts", L + 1)]) (ok : Ok A 190) (htz : t.sz = 13) (ht : TmAt h₀ v t) (I : Tm.Inv t fw fw.length) (hNx : NxAt prog w h₀ Nx (fw.map (·.1)) kv ep)
    (W : Wd w h₀ [(L, Loc nm71 [some (.ref sa), some v, some (.str (sq cs) kx), some (.ref Lx), some (.str t.str ks), none, some (.ref Fw), some (.str t.N.str k1), some (.int (t.F : Nat) k2), some (.int (t.M : Nat) k3), none, none, none, none, none, none]), (Pb, LstO []), (Dx, LxD (1 + nls [] + nx) st Pb), (At, AtP cs tl), (L + 1, Cel (some (.ref Nx)))] h)
    (q : ∀ h', Wd w h₀ [(L, Loc nm71 [some (.ref sa), some v, some (.str (sq cs) kx), some (.ref Lx), some (.str t.str ks), none, some (.ref Fw), some (.str t.N.str k1), some (.int (t.F : Nat) k2), some (.int (t.M : Nat) k3), none, none, none, none, none, none]), (Pb, LstO []), (Dx, LxD (1 + nls [] + nx) st Pb), (At, AtP cs tl), (L + 1, Cel (some (.ref Nx)))] h' → T prog w A (execs ((bodyOf (stA 71)).drop 5) env) Q h') :
    T prog w A (execs ((bodyOf (stA 71)).drop 4) env) Q h := by
  have lkn : env.cells.lookup (Str.ofString "nexts") = some (L + 1) := by rw [hc]; rfl
  have hnd := hNx.dict.nodup
  have hfl : (fw.map (·.1)).length ≤ 1957 := Tm.keys_len (t0 := t) (by first | decide | (first | exact Mine.w131 htz | omega)) I.nd fun t ht => by obtain ⟨p, hp, e⟩ := List.mem_map.mp ht; rw [← e]; exact (I.good p hp).2.2.2
  refine x_if <| b_or <| b_cmp <| n_loc 4 S W rfl rfl <| e_call <| n_fn 14 S W rfl (by decide : (Str.ofString "_law_spelled", 129, 128, 65) ∈ fnTab) <| cw_fn <| a_cons <| n_loc 1 S W rfl rfl <| a_nil ⟨(W.G.fn ("_law_spelled", 129, 128, 65) (by decide)).isFn, ?_⟩
  refine spelled_spec t (m := 50) (ht.sub W.keep) (by first | decide | (first | exact Mine.w127 htz | omega)) W.G W.tb (ok.le (by first | decide | omega)) (by first | decide | (first | exact Mine.w228 htz | omega)) fun h₄ kw kp tb₄ => ?_
  replace W := W.call kp tb₄
  refine c_nes <| b_bool ?_
  rw [show decide (t.str ≠ t.str) = false from decide_eq_false fun z => z rfl]
  refine b_or <| b_cmp <| e_compJ 1 [(Str.ofString "nexts", L + 1)] S ok.1 (by rw [closureFor_cells, hc]; rfl) ?_
  refine n_cell 5 S rfl lkn (W.cel 4 rfl) <| pi_keys (knd := strKind prog w) W hNx.ok (hNx.dict.keep W.keep) fun I2 h₅ W => ⟨fun i' h₀' ys rs' => h₀' = h₀ ∧ rs' = [(Pb, LstO []), (Dx, LxD (1 + nls [] + nx) st Pb), (At, AtP cs tl), (L + 1, Cel (some (.ref Nx)))] ∧ Strs ys ((((fw.map (·.1)).take i').filter fun t => t.nexts.isEmpty).map Tm.str), I2, _, _, _, _, h₀, _, _, rfl, Itr.keys (prog := prog) (w := w) (knd := strKind prog w) (kvs := kv) (d := Nx) I2 ep, by rw [hNx.len]; (first | exact Mine.w229 hfl | omega), ?c1, ?c2, ?c3, ?c4, ⟨rfl, rfl, by simpa using Strs.nil⟩, W⟩
  case c1 =>
    rintro i' _ ys _ ⟨_, _, hs⟩
    rw [hs.1, List.length_map]
    exact Nat.le_trans (List.length_filter_le _ _) (by rw [List.length_take]; (first | exact Mine.w120 | omega))
  case c2 =>
    rintro i' h₀' ys rs' h ⟨e0, _, _⟩ W2
    exact hNx.dict.keep (e0 ▸ W2.keep)
  case c3 =>
    rintro C D i' h₀' ys rs' v' h hi' ⟨k, xv, hkx, hkv⟩ ⟨e0, e1, hs⟩ W2 SC
    rw [e0, e1] at W2
    obtain ⟨tv, rfl⟩ := strIs hkv
    have hit : i' < (fw.map (·.1)).length := by rw [← hNx.len]; exact hi'
    have hge : (fw.map (·.1))[i']? = some ((fw.map (·.1))[i']) := List.getElem?_eq_getElem hit
    generalize (fw.map (·.1))[i'] = u at hge
    obtain ⟨l, lv, hkt, hll, hls⟩ := hNx.at_ i' u hge
    rw [hkx] at hkt; cases hkt
    have htk : (fw.map (·.1)).take (i' + 1) = (fw.map (·.1)).take i' ++ [u] := by rw [List.take_add_one, hge]; rfl
    refine t_one <| b_cmp <| e_sub <| n_cell 2 SC rfl (show List.lookup _ [(Str.ofString "nexts", L + 1)] = some (L + 1) from rfl) (W2.cel 7 rfl) <| n_loc 1 SC W2 rfl rfl <| i_dict (DictOf_sub hNx.dict.dictOf W2.keep) isStrOf_self (valueAt_at hnd hkx) <| e_list <| a_nil <| new_list W2 (by simp) fun Z h₆ fz W3 => c_eqnil (hll.sub W3.keep) (W3.lst 1 rfl) (Nat.lt_of_succ_lt ok.ul) <| b_bool ?_
    have hle : lv.isEmpty = u.nexts.isEmpty := by
      have := hls.1
      rw [List.length_map] at this
      rw [Bool.eq_iff_iff, List.isEmpty_iff, List.isEmpty_iff]
      constructor
      · rintro rfl; exact List.eq_nil_of_length_eq_zero this.symm
      · intro z; rw [z] at this; exact List.eq_nil_of_length_eq_zero this
    rw [hle]
    have W4 := W3.sub (rs' := (C, Loc _ _) :: (I2, _) :: (D, LstO ys) :: (L, _) :: [(Pb, LstO []), (Dx, LxD (1 + nls [] + nx) st Pb), (At, AtP cs tl), (L + 1, Cel (some (.ref Nx)))]) (.cons_cons _ (.cons _ (.refl _)))
    cases hu : u.nexts.isEmpty with
    | true =>
      refine n_loc 1 SC W4 rfl rfl ⟨h₀, _, _, ⟨rfl, rfl, ?_⟩, W4, by simp [cvals], fun j hj => by unfold cvals; rw [List.getElem?_set_ne (Ne.symm hj)]⟩
      rw [htk, List.filter_append, List.map_append, List.filter_cons, hu]
      exact hs.snoc
    | false =>
      refine ⟨h₀, _, _, ⟨rfl, rfl, ?_⟩, W4, by simp [cvals], fun j hj => by unfold cvals; rw [List.getElem?_set_ne (Ne.symm hj)]⟩
      rw [htk, List.filter_append, List.map_append, List.filter_cons, hu]
      simpa using hs
  case c4 =>
    rintro D h₀' ys rs' h₆ ⟨e0, e1, hs⟩ W2
    rw [e0, e1] at W2
    rw [hNx.len, List.take_length, I.normals] at hs
    obtain ⟨ky, rfl⟩ := hs.one_inv
    refine e_list <| a_cons <| n_loc 7 S W2 rfl rfl <| a_nil <| new_list W2 (by simp) fun Z h₇ _ W3 => c_neL (W3.lst 2 rfl) (W3.lst 1 rfl) rfl (fun j h1 h2 => ?_) ok.ul <| b_bool ?_
    · have : j = 0 := by simp at h1; (first | exact Mine.w230 h1 | omega)
      subst this; exact .inl ⟨_, _, _, rfl, rfl⟩
    · exact b_or_nil <| x_nil_seq <| q h₇ (W3.sub (.cons_cons _ (.cons _ (.cons _ (.refl _)))))
/-- the fewest and the most -/
theorem law5 (S : Sc env L nm71) (hc : env.cells = [(Str.ofString "nexts", L + 1)]) (ok : Ok A 190) (htz : t.sz = 13) (I : Tm.Inv t fw fw.length) (hNx : NxAt prog w h₀ Nx (fw.map (·.1)) kv ep) (hFw : h₀.DictOf (strKind prog w) Fw kvF) (hFew : FewIs kvF fw)
    (W : Wd w h₀ [(L, Loc nm71 [some (.ref sa), some v, some (.str (sq cs) kx), some (.ref Lx), some (.str t.str ks), none, some (.ref Fw), some (.str t.N.str k1), some (.int (t.F : Nat) k2), some (.int (t.M : Nat) k3), none, none, none, none, none, none]), (Pb, LstO []), (Dx, LxD (1 + nls [] + nx) st Pb), (At, AtP cs tl), (L + 1, Cel (some (.ref Nx)))] h)
    (q : ∀ h', Wd w h₀ [(L, Loc nm71 [some (.ref sa), some v, some (.str (sq cs) kx), some (.ref Lx), some (.str t.str ks), none, some (.ref Fw), some (.str t.N.str k1), some (.int (t.F : Nat) k2), some (.int (t.M : Nat) k3), none, none, none, none, none, none]), (Pb, LstO []), (Dx, LxD (1 + nls [] + nx) st Pb), (At, AtP cs tl), (L + 1, Cel (some (.ref Nx)))] h' → T prog w A (execs ((bodyOf (stA 71)).drop 6) env) Q h') :
    T prog w A (execs ((bodyOf (stA 71)).drop 5) env) Q h := by
  have lkn : env.cells.lookup (Str.ofString "nexts") = some (L + 1) := by rw [hc]; rfl
  have hfl : (fw.map (·.1)).length ≤ 1957 := Tm.keys_len (t0 := t) (by first | decide | (first | exact Mine.w131 htz | omega)) I.nd fun t ht => by obtain ⟨p, hp, e⟩ := List.mem_map.mp ht; rw [← e]; exact (I.good p hp).2.2.2
  obtain ⟨i, hi⟩ := List.getElem?_of_mem I.few.1
  obtain ⟨tf, hfew⟩ := hFew.at_ (DictOf_nd hFw) hi
  refine x_if <| b_or <| b_cmp <| e_sub <| n_loc 6 S W rfl rfl <| n_loc 7 S W rfl rfl <| i_dict (DictOf_sub hFw W.keep) isStrOf_self hfew <| n_loc 8 S W rfl rfl <| c_ne <| b_bool ?_
  rw [show (((t.F : Nat) : Int) != ((t.F : Nat) : Int)) = false from bne_self_eq_false _]
  refine b_or <| b_cmp <| e_call <| n_fn 15 S W rfl (by decide : (Str.ofString "_law_most", 149, 148, 69) ∈ fnTab) <| cw_fn <| a_cons <| n_cell 5 S rfl lkn (W.cel 4 rfl) <| a_cons <| n_loc 4 S W rfl rfl <| a_nil ⟨(W.G.fn ("_law_most", 149, 148, 69) (by decide)).isFn, ?_⟩
  refine most_spec (m := 100) (hNx.sub W.keep) (fun u hu x hx => ?_) (List.mem_map.mpr ⟨_, List.mem_of_getElem? I.hd, rfl⟩) (fun u hu => ?_) (by first | decide | (first | exact Mine.w131 htz | omega)) (by first | decide | (first | exact Mine.w231 hfl | omega)) W.G W.tb (ok.le (by first | decide | omega)) fun k h₂ kp tb₂ => ?_
  · obtain ⟨p, hp, rfl⟩ := List.mem_map.mp hu
    obtain ⟨d', h1, _⟩ := I.closedAll (t := p.1) (d := p.2) hp x hx
    exact List.mem_map.mpr ⟨_, h1, rfl⟩
  · obtain ⟨p, hp, rfl⟩ := List.mem_map.mp hu
    exact (I.good p hp).2.2.1
  replace W := W.call kp tb₂
  refine n_loc 9 S W rfl rfl <| c_ne <| b_bool ?_
  rw [show (((t.M : Nat) : Int) != ((t.M : Nat) : Int)) = false from bne_self_eq_false _]
  exact b_or_nil <| x_nil_seq <| q h₂ W
theorem W5_turn {h' : Heap} {PL PP PD PA PC PD' PA' : Obj → Prop} (B : RB h₀ Lx Dx st ro cT cA At Pb cs) (W : Wd w h₀ [(L, PL), (Pb, PP), (Dx, PD), (At, PA), (L + 1, PC)] h) (kx : KeepsX [Dx, At] h h') (tb : Tabs h') (hD : ∃ o, h'.get? Dx = some o ∧ PD' o) (hA : ∃ o, h'.get? At = some o ∧ PA' o) (sD : ∀ o, PD' o → safe o) (sA : ∀ o, PA' o → safe o) :
    Wd w h₀ [(L, PL), (Pb, PP), (Dx, PD'), (At, PA'), (L + 1, PC)] h' := by
  have a2 := W.ne 0 2 rfl rfl
  have a3 := W.ne 0 3 rfl rfl
  have b2 := W.ne 4 2 rfl rfl
  have b3 := W.ne 4 3 rfl rfl
  refine W.callX kx tb rfl (by intro a ha; simp only [List.mem_cons, List.not_mem_nil, or_false] at ha; rcases ha with rfl | rfl <;> simp) (cons_all ?_ (cons_all ?_ (cons_all ?_ (cons_all ?_ (cons_all ?_ nil_all)))))
  · exact W.same kx (.head _) (by simp only [List.mem_cons, List.not_mem_nil, or_false, not_or]; exact ⟨a2, a3⟩)
  · exact W.same kx (.tail _ (.head _)) (by simp only [List.mem_cons, List.not_mem_nil, or_false, not_or]; exact ⟨B.PD, B.PA⟩)
  · exact ⟨hD, sD⟩
  · exact ⟨hA, sA⟩
  · exact W.same kx (.tail _ (.tail _ (.tail _ (.tail _ (.head _))))) (by simp only [List.mem_cons, List.not_mem_nil, or_false, not_or]; exact ⟨b2, b3⟩)
/-- what comes next -/
theorem law6 {x : Nat} {lead : List Nat} (S : Sc env L nm71) (ok : Ok A 190) (hT : isText t x cs) (hcl : cs.length ≤ 900) (htl : tl = lead ++ endc) (hlead : ∀ y ∈ lead, y < 128 ∧ isWs y = true) (hnx : nx + nls lead = nl [x]) (B : RB h₀ Lx Dx st ro cT cA At Pb cs)
    (W : Wd w h₀ [(L, Loc nm71 [some (.ref sa), some v, some (.str (sq cs) kx), some (.ref Lx), some (.str t.str ks), none, some (.ref Fw), some (.str t.N.str k1), some (.int (t.F : Nat) k2), some (.int (t.M : Nat) k3), none, none, none, none, none, none]), (Pb, LstO []), (Dx, LxD (1 + nls [] + nx) st Pb), (At, AtP cs tl), (L + 1, Cel (some (.ref Nx)))] h) (q : ∀ h' rs', Wd w h₀ rs' h' → Q (.ret (.bool true)) h') : T prog w A (execs ((bodyOf (stA 71)).drop 6) env) Q h := by
  obtain ⟨oA, eA, p, tp, hp, hd, hl⟩ := W.get (i := 3) rfl
  refine x_ret <| e_cmp <| e_list <| a_cons <| e_meth _ rfl <| n_loc 3 S W rfl rfl <| gm_get W.G ⟨W.keep _ _ B.lx, W.get (i := 2) rfl⟩ <| cw_fn0 (W.G.me ("_netrclex.get_token", 42, 41, 2) (by decide)).isFn ?_
  refine gt_spec (m := 50) (lead := lead) B hcl W.keep (W.lstO 1 rfl) (W.get (i := 2) rfl) ⟨oA, eA, hl⟩ hlead read_end (by rw [hd, htl]) hp W.G W.tb (ok.le (by first | decide | omega)) fun h₂ ka p' tp' kx₂ tb₂ hp' hd' hD hA => ?_
  replace W := W5_turn B W kx₂ tb₂ hD hA (fun _ => LxD.safe) (fun _ => LstW.safe)
  refine a_cons <| e_meth _ rfl <| n_loc 3 S W rfl rfl <| gm_get W.G ⟨W.keep _ _ B.lx, W.get (i := 2) rfl⟩ <| cw_fn0 (W.G.me ("_netrclex.get_token", 42, 41, 2) (by decide)).isFn ?_
  refine gt_spec (m := 50) (lead := []) B hcl W.keep (W.lstO 1 rfl) (W.get (i := 2) rfl) (W.get (i := 3) rfl) nil_all Bd.none hd' hp' W.G W.tb (ok.le (by first | decide | omega)) fun h₃ kb p'' tp'' kx₃ tb₃ hp'' hd'' hD hA => ?_
  replace W := W5_turn B W kx₃ tb₃ hD hA (fun _ => LxD.safe) (fun _ => LstW.safe)
  refine a_cons <| e_attr <| n_loc 3 S W rfl rfl <| ga_ln W.G ⟨W.keep _ _ B.lx, W.get (i := 2) rfl⟩ fun kc => a_nil <| new_list W lz fun D1 h₄ _ W => ?_
  refine e_list <| a_cons <| e_str fun _ => a_cons <| e_str fun _ => a_cons <| e_bin <| e_int fun _ => e_meth _ rfl <| n_loc 2 S W rfl rfl <| gm_count <| cw_bi <| a_cons <| e_str fun _ => a_nil <| c_count fun _ => o_add fun kz => a_nil <| new_list W lz fun D2 h₅ _ W => c_eqL (W.lst 2 rfl) (W.lst 1 rfl) rfl (fun j h1 h2 => ?_) ok.ul (q _ _ W)
  have : j = 0 ∨ j = 1 ∨ j = 2 := by simp at h1; omega
  rcases this with rfl | rfl | rfl
  · exact .inl ⟨_, _, _, rfl, by show Value.str (Str.ofString "end") _ = _; rw [ends3.2.1]⟩
  · exact .inl ⟨_, _, _, rfl, by show Value.str (Str.ofString "") _ = _; rw [sq_nil]⟩
  · have e : (1 : Int) + Txt.count (sq cs) (Str.ofString "\n") = 1 + nls [] + nx + nls lead + 0 + nls [] + 0 := by
      rw [show Str.ofString "\n" = sq [10] by decide, text_count hT, ← hnx]; simp [nls]; (first | exact Mine.w233 | omega)
    exact .inr ⟨_, kc, kz, rfl, congrArg (fun z => Value.int z kz) e⟩
end
end Mine
end

section
namespace Mine
open PySem PySem.W PyProof.Rows Builtin Builtin.ObjectAttr
variable {prog : Program} {w : World} {A : Around} {h h₀ : Heap} {env : Env} {R : Value → Heap → Prop} {Q : Flow → Heap → Prop} {pos : Pos} {rs : List Res} {f : Res}

/-- the law's body gives True -/
theorem law_body {L sa : Addr} {sv : List Value} {ns : List Int} (S : Sc env L nm71) (hc : env.cells = [(Str.ofString "nexts", L + 1)]) (ok : Ok A 200) (hl : IsLst h₀ sa sv) (hI : Ints sv ns) (hz : sv.length ≤ 100) (h117 : h₀.get? 117 = some (tabObj #[]))
    (W : Wd w h₀ [(L, Loc nm71 [some (.ref sa), none, none, none, none, none, none, none, none, none, none, none, none, none, none, none]), (L + 1, Cel none)] h) (q : ∀ h', Sub (hide117 h₀) h' → (∃ ps, h'.get? 117 = some (tabObj ps)) → Tabs h' → Q (.ret (.bool true)) h') : T prog w A (execs (bodyOf (stA 71)) env) Q h := by
  refine law1 S ok hl hI hz h117 W fun v t x cs kx Lx Dx st ro cT cA At Pb tp hC h' u1 u2 htz hx hT ht hcl B W => ?_
  obtain ⟨tl, nx, lead, hbd, htl, hlead, hnx⟩ := text_read hx hT
  refine law2 S hc ok htz hbd hcl B W fun ks kv ep kvF fw Nx Fw h₁ h₂ s₁ I hNx hFw hFew oFw W => ?_
  have ht₁ := ht.sub s₁
  have B₁ := B.up s₁ W
  refine x_unpack ok.1 <| e_call <| n_fn 13 S W rfl (by decide : (Str.ofString "_law_reckoned", 156, 155, 70) ∈ fnTab) <| cw_fn <| a_cons <| n_loc 1 S W rfl rfl <| a_nil ⟨(W.G.fn ("_law_reckoned", 156, 155, 70) (by decide)).isFn, ?_⟩
  refine reckoned_spec 13 t (by first | decide | (first | exact Mine.w131 htz | omega)) (m := 50) (ht₁.sub W.keep) (by first | decide | (first | exact Mine.w131 htz | omega)) W.G W.tb (ok.le (by first | decide | omega)) (by first | decide | (first | exact Mine.w228 htz | omega)) fun p h₃ k1 k2 k3 kp tb₃ fp op hp => ?_
  replace W := W.call kp tb₃
  refine ⟨p, _, rfl, hp, rfl, fun h₄ s₄ => ?_⟩
  replace W := W.ext s₄
  refine ao_cons <| as_name <| s_loc 7 S W rfl rfl fun h₅ W => ao_cons <| as_name <| s_loc 8 S W rfl rfl fun h₆ W => ao_cons <| as_name <| s_loc 9 S W rfl rfl fun h₇ W => ao_nil (ts := []) ?_
  have ok' := ok.le (show 190 ≤ 200 by (first | exact Mine.w234 | omega))
  refine law4 (k1 := k1) (k2 := k2) (k3 := k3) S hc ok' htz ht₁ I hNx W fun h₈ W => ?_
  refine law5 S hc ok' htz I hNx hFw hFew W fun h₉ W => ?_
  exact law6 S ok' hT hcl htl hlead hnx B₁ W fun h' rs' W => q h' (fun b o e => W.keep _ _ (s₁ _ _ (u1 _ _ e))) (let ⟨ps, e⟩ := u2; ⟨ps, W.keep _ _ (s₁ _ _ e)⟩) W.tb
theorem fo71 : fnOkC (stA 71) 1 = true := by decide +kernel
theorem law_call {fa c sa : Addr} {qual : Str} {sv : List Value} {ns : List Int} (F : FnIs h fa c qual (stA 71)) (hl : IsLst h sa sv) (hI : Ints sv ns) (hz : sv.length ≤ 100) (h117 : h.get? 117 = some (tabObj #[])) (g : Gd w h) (tb : Tabs h) (ok : Ok A 201)
    (q : ∀ h', (∀ b o, h.get? b = some o → b ≠ 72 → b ≠ 79 → b ≠ 117 → h'.get? b = some o) → (∃ ps, h'.get? 117 = some (tabObj ps)) → Tabs h' → R (.bool true) h') : T prog w A (call (.ref fa) [.ref sa]) R h := by
  refine call_fnC (n := 200) F g tb ok fo71 rfl (fun _ _ _ => rfl) [] (fun _ h => nomatch h) List.nodup_nil (fun _ h => nomatch h) (fun _ h => nomatch h) ?_
  intro L env h₀ h₁ S hcode hc hqual hb W ok'
  replace hb : Hb h h₀ := fun b o e n1 n2 => hb b o e n1 n2 List.not_mem_nil
  exact law_body S hc ok' (hb.lst tb hl) hI hz (hb _ _ h117 (by decide) (by decide)) W fun h' k e t => q h' (fun b o e n1 n2 n3 => k _ _ (hide117_get (hb _ _ e n1 n2) n3)) e t
end Mine
end

section
namespace Mine
open PySem PySem.W PyProof.Rows

-- the top as it stands in the fragment
def docAt (K : Frag) (a : Addr) : Value := match K.lookup a with
  | some ⟨_, _, .func fd, _⟩ => fd.doc
  | _ => .none
def pmAt (K : Frag) (a : Addr) : Value := match K.lookup a with
  | some ⟨_, _, .func fd, _⟩ => fd.pyModule
  | _ => .none
def ctAt (K : Frag) (a : Addr) : Value := match K.lookup a with
  | some ⟨_, _, .func fd, _⟩ => fd.closureTuple
  | _ => .none
def fd0 : FuncData := fnX "" "" default [] default [] .none .none .none .none none .none .none
def fdAt (K : Frag) (a : Addr) : FuncData := match K.lookup a with
  | some ⟨_, _, .func fd, _⟩ => fd
  | _ => fd0
def codeName (K : Frag) (a : Addr) : Option Value := match K.lookup a with
  | some ⟨_, _, .fields vs, _⟩ => vs[1]?
  | _ => none
def tokAt : Option Value → Tok
  | some (.str _ t) => t
  | some (.int _ t) => t
  | _ => 0
def FnK (K : Frag) (fa c : Addr) (qual : Str) (st : Stmt) : Prop :=
  (K.lookup fa).map (·.data) = some (.func (fnX (nameOfD st) qual (paramsOf st) (bodyOf st) (scopeOf st) [] .none .none (docAt K fa) (pmAt K fa) none (.ref c) (ctAt K fa))) ∧
  codeName K c = some (.str qual (tokAt (codeName K c)))
theorem fn_of {K : Frag} {h : Heap} {fa c : Addr} {qual : Str} {st : Stmt} (X : K.In h) (y : FnK K fa c qual st) : FnIs h fa c qual st := by
  obtain ⟨y1, y2⟩ := y
  obtain ⟨o, e, d⟩ := Option.map_eq_some_iff.mp y1
  refine ⟨o, _, _, _, X _ _ e, d, ?_⟩
  generalize tokAt (codeName K c) = t at y2
  unfold codeName at y2
  split at y2
  · rename_i vs sl z
    exact ⟨c, _, vs, t, rfl, X _ _ z, rfl, y2⟩
  · cases y2
theorem mem_of_lookup {K : Frag} {a : Addr} {o : Obj} : K.lookup a = some o → (a, o) ∈ K := by
  induction K with
  | nil => intro e; cases e
  | cons p r ih =>
    intro e
    rw [List.lookup_cons] at e
    split at e
    · rename_i q
      cases e
      have : a = p.1 := by simpa using q
      exact List.mem_cons.mpr (.inl (by rw [this]))
    · exact List.mem_cons_of_mem _ (ih e)
-- the dict of the signs
def esAt (K : Frag) (a : Addr) : List DictEntry := match K.lookup a with
  | some ⟨_, _, .dict es _, _⟩ => es.toList
  | _ => []
def epAt (K : Frag) (a : Addr) : Nat := match K.lookup a with
  | some ⟨_, _, .dict _ n, _⟩ => n
  | _ => 0
def strOf : Value → Str
  | .str s _ => s
  | _ => ""
def isS : Value → Bool
  | .str _ _ => true
  | _ => false
def kvOf (es : List DictEntry) : List (Str × Value) := es.map fun e => (strOf e.key, e.val)
def nodupB : List Str → Bool
  | [] => true
  | x :: r => (r.all fun y => !decide (x = y)) && nodupB r
theorem nodupB_nd : ∀ {l : List Str}, nodupB l = true → l.Nodup
  | [], _ => List.nodup_nil
  | x :: r, e => by
    unfold nodupB at e
    obtain ⟨e1, e2⟩ := Bool.and_eq_true_iff.mp e
    refine List.nodup_cons.mpr ⟨fun hm => ?_, nodupB_nd e2⟩
    have := List.all_eq_true.mp e1 x hm
    simp at this
theorem isS_of {v : Value} (e : isS v = true) : Value.isStrOf (strOf v) v = true := by
  cases v <;> first | (cases e; done) | skip
  exact beq_self_eq_true _
theorem pairs_of {prog : Program} {w : World} : ∀ {es : List DictEntry}, (∀ e ∈ es, isS e.key = true) → Pairs (PySem.strKind prog w) es (kvOf es)
  | [], _ => .nil
  | e :: r, h => .cons (isS_of (h e (.head _))) rfl (pairs_of fun x hx => h x (.tail _ hx))
def otok : Option (Option Value) → Tok
  | some v => tokAt v
  | none => 0
/-- what is looked up in the fragment of the top -/
structure KOk (K : Frag) (P : Params) : Prop where
  fn : ∀ p ∈ fnTab, FnK K p.2.1 p.2.2.1 p.1 (stA p.2.2.2)
  me : ∀ p ∈ methTab, FnK K p.2.1 p.2.2.1 p.1 (stM p.2.2.2)
  law : FnK K 161 160 "law" (stA 71)
  kf : ∀ p ∈ kfrag (fdAt K 28) (fdAt K 35) (fdAt K 42) (fdAt K 49) P, K.lookup p.1 = some p.2
  obj : K.lookup 99 = some { cls := .type "dict", data := .dict (esAt K 99).toArray (epAt K 99) }
  keys : ((esAt K 99).all fun e => isS e.key) = true
  hash : (esAt K 99).map (·.hash) = (esAt K 99).map (fun e => PyData.keyHash P (strOf e.key))
  nd : nodupB ((kvOf (esAt K 99)).map (·.1)) = true
  sign : ∀ s : Lf, valueAt (kvOf (esAt K 99)) ⟨#[s.cp]⟩ = some (.int s.code (tokAt (valueAt (kvOf (esAt K 99)) ⟨#[s.cp]⟩)))
  none : valueAt (kvOf (esAt K 99)) ⟨#[92]⟩ = none
  mg : ∀ p ∈ fnTab, nsIn K mainGlobals p.1 = some (some (.ref p.2.1))
  bi : ∀ p ∈ biTab, nsIn K mainGlobals p.1 = some .none ∧ bootBuiltins p.1 = some p.2 ∧ p.1 ≠ "__name__"
  off : nsIn K mainGlobals "NT_OFFSET" = some (some (.int 256 (otok (nsIn K mainGlobals "NT_OFFSET"))))
  lim : nsIn K mainGlobals "_DIV_LIMIT" = some (some (.int 4000 (otok (nsIn K mainGlobals "_DIV_LIMIT"))))
  tt : nsIn K mainGlobals "EXACT_TOKEN_TYPES" = some (some (.ref 99))
  lx : nsIn K mainGlobals "_netrclex" = some (some (.ref 52))
  bm : nsIn K mainGlobals "__builtins__" = some (some (.ref 4))
  lw : nsIn K mainGlobals "law" = some (some (.ref 161))
theorem KOk.tok {K : Frag} {w : World} {h : Heap} (k : KOk K w.params) (X : K.In h) (prog : Program) : ∃ kvs, h.DictOf (PySem.strKind prog w) 99 kvs ∧ (∀ s : Lf, ∃ t, valueAt kvs ⟨#[s.cp]⟩ = some (.int s.code t)) ∧ valueAt kvs ⟨#[92]⟩ = .none := by
  have hk := List.all_eq_true.mp k.keys
  refine ⟨kvOf (esAt K 99), ⟨_, _, _, X _ _ k.obj, ⟨rfl, rfl, rfl⟩, rfl, fun e he => ?_, pairs_of hk, nodupB_nd k.nd⟩, fun s => ⟨_, k.sign s⟩, k.none⟩
  have he' : e ∈ esAt K 99 := by simpa using he
  exact ⟨strOf e.key, isS_of (hk e he'), List.map_eq_map_iff.mp k.hash e he'⟩
theorem KOk.gd {K : Frag} {w : World} {h : Heap} {p : Program} {loose : List Str} {mean : ExcName → Option Value} {mg mb : Str → Option Value} (k : KOk K w.params) (X : K.In h) (Y : Top p loose mean mg mb h) (hT : TabsAt [(83,79),(76,72),(121,117)] h) : Gd w h where
  nl := Y.nolimit
  ns := by
    obtain ⟨bm, ob, e1, e2, e3, e4⟩ := Y.bmain
    have hb : bm = 4 := by
      have := mg_of X Y.g k.bm
      rw [e1] at this; cases this; rfl
    refine ⟨mg, mb, bm, ob, Y.g, Y.b, fun p hp => mg_of X Y.g (k.mg p hp), fun p hp => ⟨mg_none_of X Y.g (k.bi p hp).1, (Y.builtins _ (k.bi p hp).2.2).trans (k.bi p hp).2.1⟩, ⟨_, mg_of X Y.g k.off⟩, ⟨_, mg_of X Y.g k.lim⟩, mg_of X Y.g k.tt, mg_of X Y.g k.lx, e1, e2, by rw [hb]; decide, by rw [hb]; decide, e3, e4⟩
  fn := fun p hp => fn_of X (k.fn p hp)
  me := fun p hp => fn_of X (k.me p hp)
  c6 := (hT (76, 72) (by simp)).1
  c7 := (hT (83, 79) (by simp)).1
  c64 := (hT (121, 117) (by simp)).1
  top := let ⟨o, e, _⟩ := Option.map_eq_some_iff.mp k.law.1; ⟨o, X _ _ e⟩
  kf := ⟨_, _, _, _, fun a o e => X _ _ (k.kf _ (mem_of_lookup e))⟩
  tok := k.tok X
theorem codeTab {h : Heap} {c P : Addr} (x : CodeHd h c P) : isCodeTable h P := by
  obtain ⟨o, vs, _, _, _, _, _, _, _, e, c1, d, v, _⟩ := x
  exact ⟨c, o, vs, e, c1, d, v⟩
theorem oldK_of {h h' : Heap} (hT : TabsAt [(83,79),(76,72),(121,117)] h) (k : ∀ b o, h.get? b = some o → b ≠ 72 → b ≠ 79 → b ≠ 117 → h'.get? b = some o) (e117 : ∃ ps, h'.get? 117 = some (tabObj ps)) (tb : Tabs h') : OldK h h' := by
  have tabs : ∀ b, b = 72 ∨ b = 79 ∨ b = 117 → isCodeTable h b ∧ h.get? b = some (tabObj #[]) ∧ ∃ ps, h'.get? b = some (tabObj ps) := by
    rintro b (rfl | rfl | rfl)
    · exact ⟨codeTab (hT (76, 72) (by simp)).1, (hT (76, 72) (by simp)).2, tb.a.tab⟩
    · exact ⟨codeTab (hT (83, 79) (by simp)).1, (hT (83, 79) (by simp)).2, tb.b.tab⟩
    · exact ⟨codeTab (hT (121, 117) (by simp)).1, (hT (121, 117) (by simp)).2, e117⟩
  refine ⟨fun b o e => ?_, fun b o e => ?_⟩
  · by_cases hb : b = 72 ∨ b = 79 ∨ b = 117
    · obtain ⟨t1, t2, ps, t3⟩ := tabs b hb
      rw [t2] at e; cases e
      exact .inr (.inl ⟨t1, rfl, #[], ps, rfl, by rw [t3]; simp [tabObj]⟩)
    · rw [not_or, not_or] at hb
      exact .inl (k b o e hb.1 hb.2.1 hb.2.2)
  · by_cases hb : b = 72 ∨ b = 79 ∨ b = 117
    · obtain ⟨t1, t2, ps, t3⟩ := tabs b hb
      exact ⟨_, t3⟩
    · rw [not_or, not_or] at hb
      exact ⟨_, k b o e hb.1 hb.2.1 hb.2.2⟩
theorem ints_of {vs : List Value} {ns : List Int} (x : IntsAre vs ns) : Ints vs ns := by
  induction x with
  | nil => exact ⟨rfl, fun i d h => by simp at h⟩
  | cons n t _ ih =>
    refine ⟨by simp [ih.1], fun i d h => ?_⟩
    cases i with
    | zero => simp at h; subst h; exact ⟨t, rfl⟩
    | succ i => simp at h ⊢; exact ih.2 i d h
theorem okTop : Ok PySem.callerA 201 := ⟨rfl, by decide, by decide⟩
/-- the law's call, from the top -/
theorem law_top {K : Frag} {w : World} {s₁ : Shared} {prog p : Program} {loose : List Str} {mean : ExcName → Option Value} {mg mb : Str → Option Value} {fa sa : Addr} {vs : List Value} {zs : List Int} (X : K.In s₁.heap) (Y : Top p loose mean mg mb s₁.heap)
    (hT : TabsAt [(83,79),(76,72),(121,117)] s₁.heap) (hT8 : ∀ P ∈ [79, 72, 117], s₁.heap.get? P = some (tabObj #[])) (hmg : mg "law" = some (.ref fa)) (hL : s₁.heap.IsList sa vs.toArray) (hI : IntsAre vs zs) (hz : zs.length ≤ 63) (k : KOk K w.params) :
    wpAny (model prog w) PySem.callerA (call (.ref fa) [.ref sa]) (fun v s' => v = .bool true ∧ OldK s₁.heap s'.heap ∧ s'.os = s₁.os ∧ s'.gens = s₁.gens) (fun _ _ => False) s₁ := by
  have hI' := ints_of hI
  have hfa : fa = 161 := by
    have e := mg_of X Y.g k.lw
    rw [e] at hmg; cases hmg; rfl
  subst hfa
  have hla : IsLst s₁.heap sa vs := by
    obtain ⟨o, e, c, n, d⟩ := hL
    exact ⟨o, e, c, n, d⟩
  have key := law_call (prog := prog) (A := PySem.callerA) (R := fun v h' => v = .bool true ∧ OldK s₁.heap h') (fn_of X k.law) hla hI' (by have := hI'.1; (first | exact Mine.w29 hz this | omega)) (hT8 117 (by simp)) (k.gd X Y hT) ⟨.inl (hT8 72 (by simp)), .inl (hT8 79 (by simp))⟩ okTop
    (fun h' k e t => ⟨rfl, oldK_of hT k e t⟩)
  refine wpAny_mono (key s₁.gens s₁.drawn s₁.toks s₁.os) (fun v s' hq => ?_) fun _ _ e => e
  obtain ⟨h', k', rfl, hv, hk⟩ := hq
  exact ⟨hv, hk, rfl, rfl⟩
end Mine
end

section
namespace Mine.top
-- names that the head would else fill with large equations
abbrev tw17555251805378815213 := Unit
abbrev tw11334415319851112604 := Unit
abbrev tw1736530178072539846 := Unit
abbrev tw4166218997396506358 := Unit
abbrev tw8335412135813284522 := Unit
abbrev tw2218668502564051296 := Unit
abbrev tw16058212318047004132 := Unit
abbrev tw1492452104121835379 := Unit
abbrev tw15988258018655671626 := Unit
abbrev tw9800703332001039478 := Unit
abbrev tw14611434983143301774 := Unit
abbrev tw15240379268576122478 := Unit
abbrev tw2867133514656366558 := Unit
abbrev tw12342655685612074800 := Unit
abbrev tw342308947776675178 := Unit
abbrev tw2782073688633401757 := Unit
abbrev tw480412876979357825 := Unit
abbrev tw16352630495959832749 := Unit
abbrev tw788273225186049534 := Unit
abbrev tw16770184956741150686 := Unit
abbrev tw12540527436937284434 := Unit
abbrev tw17886615442053742456 := Unit
abbrev tw16204670001084760307 := Unit
abbrev tw2732273902793177162 := Unit
abbrev tw3195968871104189447 := Unit
abbrev tw6812286434817487243 := Unit
abbrev tw2731995056826638727 := Unit
abbrev tw6431110157172167083 := Unit
abbrev tw14987219478266130788 := Unit
abbrev tw517144808224063464 := Unit
abbrev tw12819366960792805191 := Unit
abbrev tw8810280945414196856 := Unit
abbrev tw4571971715460732019 := Unit
abbrev tw2287823674025257028 := Unit
abbrev tw15976228082101565994 := Unit
abbrev tw8507776931139520737 := Unit
abbrev tw9601329371697537090 := Unit
abbrev tw1732150942055357024 := Unit
abbrev tw4671429814451907529 := Unit
abbrev tw9063741608606530840 := Unit
abbrev tw5155950481276406077 := Unit
abbrev tw2924597203103170677 := Unit
abbrev tw105208000716104510 := Unit
abbrev tw14608685727046917156 := Unit
abbrev tw18034075008235765660 := Unit
abbrev tw5523086135645875356 := Unit
abbrev tw4656485037274611717 := Unit
abbrev tw7297446738713254254 := Unit
abbrev tw16155163154822807229 := Unit
abbrev tw13120753694373217308 := Unit
abbrev tw8345894832289464959 := Unit
abbrev tw11459358961799972967 := Unit
abbrev tw3776753064480771068 := Unit
abbrev tw5303079699428457377 := Unit
abbrev tw10703516329204539289 := Unit
abbrev tw5597187220613765494 := Unit
abbrev tw72247145696351765 := Unit
abbrev tw296865070173256901 := Unit
abbrev tw864819663365544661 := Unit
abbrev tw10404823597219466188 := Unit
abbrev tw13928562000808390012 := Unit
abbrev tw16759092144687519636 := Unit
abbrev tw13359135706311490777 := Unit
abbrev tw7847650389618582240 := Unit
abbrev tw10090393231696489298 := Unit
abbrev tw9378254376102152143 := Unit
abbrev tw8538268897159353584 := Unit
abbrev tw5292242308059857560 := Unit
abbrev tw18086089286151905521 := Unit
abbrev tw1149218181149386328 := Unit
abbrev tw5476889619067714990 := Unit
abbrev tw9059672392935016618 := Unit
abbrev tw11613256710310857696 := Unit
abbrev tw17486766287000646611 := Unit
abbrev tw8645369167282567922 := Unit
abbrev tw814325599930780420 := Unit
abbrev tw14459580976405569124 := Unit
abbrev tw11279390925490393535 := Unit
abbrev tw6898770573198911631 := Unit
abbrev tw9759319705405543751 := Unit
abbrev tw6286779285267259847 := Unit
abbrev tw15646934709686841381 := Unit
abbrev tw14597223018079223185 := Unit
abbrev tw13160728816969591200 := Unit
abbrev tw13303987763403120937 := Unit
abbrev tw14502225709538309166 := Unit
abbrev tw81815255157605957 := Unit
abbrev tw7855079511596107753 := Unit
abbrev tw16273406610938067001 := Unit
abbrev tw16782997733028217545 := Unit
abbrev tw16439428074185983240 := Unit
abbrev tw8689318265317240412 := Unit
abbrev tw15860264024139754761 := Unit
abbrev tw14826035006057030972 := Unit
abbrev tw10567129059001840431 := Unit
abbrev tw1195175773429642966 := Unit
abbrev tw7458633546980236471 := Unit
abbrev tw13701811295701783437 := Unit
abbrev tw2464713573024523455 := Unit
abbrev tw8735323631387419056 := Unit
abbrev tw2812155379371279736 := Unit
abbrev tw8598144960395782539 := Unit
abbrev tw6491118196486620199 := Unit
abbrev tw14861896470697024400 := Unit
abbrev tw2741389259953327712 := Unit
abbrev tw6906291655842520137 := Unit
abbrev tw453181688931711583 := Unit
abbrev tw9229161468869434483 := Unit
abbrev tw18064794426631996164 := Unit
abbrev tw5088376156974544275 := Unit
abbrev tw9465783595903631515 := Unit
abbrev tw5105846836358774362 := Unit
abbrev tw11133666699803404755 := Unit
abbrev tw14851680436948445374 := Unit
abbrev tw2249405535684624136 := Unit
abbrev tw427269002284569659 := Unit
abbrev tw8813761850579938390 := Unit
abbrev tw8443935842833279946 := Unit
abbrev tw480619690485794297 := Unit
abbrev tw5058314954733539658 := Unit
abbrev tw956942650209027819 := Unit
abbrev tw1047907039808853306 := Unit
abbrev tw15878805988109762761 := Unit
abbrev tw12012865196380796599 := Unit
abbrev tw6749217079512962374 := Unit
abbrev tw13091174067606910046 := Unit
abbrev tw16541100652227675460 := Unit
abbrev tw4498253355057717688 := Unit
abbrev tw65185946172857156 := Unit
abbrev tw3768957769849046624 := Unit
abbrev tw17492772389151264855 := Unit
abbrev tw4655869559712951663 := Unit
abbrev tw14901070454687303710 := Unit
abbrev tw11546936639936008217 := Unit
abbrev tw17470836177267949868 := Unit
abbrev tw5667650583090716360 := Unit
abbrev tw5118827330378232414 := Unit
abbrev tw8640399195822439974 := Unit
abbrev tw8892184565913893157 := Unit
abbrev tw13369591340354186047 := Unit
abbrev tw14823308797102314842 := Unit
abbrev tw10773188271377071773 := Unit
abbrev tw14917401599646851644 := Unit
abbrev tw4186445540838780016 := Unit
abbrev tw17810072253543177317 := Unit
abbrev tw10005945817407372193 := Unit
abbrev tw3969286963782609292 := Unit
abbrev tw705360758644809490 := Unit
abbrev tw10996937224433265937 := Unit
abbrev tw1139600151236580504 := Unit
abbrev tw18164388396756303480 := Unit
abbrev tw16900427199656544559 := Unit
end Mine.top
open PySem PySem.W PyProof.Rows in
set_option Elab.async true in
theorem Mine.top : PySem.Challenge.rw_qu0051_01.Holds := by
  w_on; o_law; k_head; (case hw => w_witness2)
  k_fill
  intro w s₀ s₁ mg mb G Y fa o pm cd doc dV kV ho hd hcd hD hmg hg args vals as hpre hlay hrd hwl hlo
  have KX := km_in_of Y
  km_tabs Y
  have X := (Ground.X G).1
  have V := (Ground.X G).2
  refine Ground.open G ?_
  intro T B D TE TW
  try (refine guard_noD D (by decide +kernel) ?_; clear D)
  km_lay T hmg ho hd cd
  wrow_args hpre hlay hrd hwl hlo
  rename_i zs hs hlay0 hLl hr1 hl2 a4 a3 sa vs a0 hL ra w1 r0 hI hr hcond hc2
  refine wpAny_mono (Mine.law_top KX T hT9 hT8 hmg hL hI (by omega) ?kok) (fun v s' hq => ?fin) fun _ _ e => e.elim
  case kok =>
    clear hL ra w1 r0 hI hr hcond hc2 hs hlay0 hLl hr1 hl2 T B TE TW X V KX hT8 hT9 hmg ho hd hcd hD hg Y G
    refine ⟨?_, ?_, ⟨by kernel_rfl, by kernel_rfl⟩, ?_, by kernel_rfl, by kernel_rfl, by kernel_rfl, by kernel_rfl, ?_, by kernel_rfl, ?_, ?_, by kernel_rfl, by kernel_rfl, by kernel_rfl, by kernel_rfl, by kernel_rfl, by kernel_rfl⟩
    · intro p hp
      unfold Mine.fnTab at hp
      simp only [List.mem_cons, List.not_mem_nil, or_false] at hp
      rcases hp with rfl | rfl | rfl | rfl | rfl | rfl | rfl | rfl | rfl | rfl | rfl | rfl | rfl | rfl <;> exact ⟨by kernel_rfl, by kernel_rfl⟩
    · intro p hp
      unfold Mine.methTab at hp
      simp only [List.mem_cons, List.not_mem_nil, or_false] at hp
      rcases hp with rfl | rfl | rfl | rfl <;> exact ⟨by kernel_rfl, by kernel_rfl⟩
    · intro p hp
      unfold Mine.kfrag at hp
      simp only [List.mem_cons, List.not_mem_nil, or_false] at hp
      rcases hp with rfl | rfl | rfl | rfl | rfl | rfl | rfl | rfl <;> kernel_rfl
    · intro s
      cases s <;> kernel_rfl
    · intro p hp
      unfold Mine.fnTab at hp
      simp only [List.mem_cons, List.not_mem_nil, or_false] at hp
      rcases hp with rfl | rfl | rfl | rfl | rfl | rfl | rfl | rfl | rfl | rfl | rfl | rfl | rfl | rfl <;> kernel_rfl
    · intro p hp
      unfold Mine.biTab at hp
      simp only [List.mem_cons, List.not_mem_nil, or_false] at hp
      rcases hp with rfl | rfl | rfl | rfl | rfl | rfl | rfl | rfl <;> exact ⟨by kernel_rfl, by kernel_rfl, by decide +kernel⟩
  case fin =>
    obtain ⟨rfl, hk, hos, hgs⟩ := hq
    refine ⟨.inl ⟨.bool true, .bool true, [], rfl, fun _ => rfl, .bool _, ?_, fun _ => ⟨List.nodup_nil, fun a h => nomatch h⟩⟩, hk, hos, .of_eq (hgs.trans hg)⟩
    wrow_post
theorem PySem.Challenge.cw_qu0051_01_holds : PySem.Challenge.rw_qu0051_01.Holds :=
  Mine.top
end
